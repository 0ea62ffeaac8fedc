/-
  zzAdd, zzKeysBytes, zzRulesBytes, zzBytes_FnMaskedSpec: they return, and turn nothing.
-/
import Derived.Test.Qxb6604198aTools
namespace Go.Proofs.Qxb6604198a
open Go.RowKit
set_option linter.unusedVariables false

/-- It returns a number from 0 to the bound and one, whichever. -/
def AddEnd (r : Ending) : Prop := ∃ z : Int, r = .returned (.int .i64 z) ∧ 0 ≤ z ∧ z ≤ 1048577
/-- It returns a bool, whichever. -/
def BoolEnd (r : Ending) : Prop := ∃ b : Bool, r = .returned (.bool b)

set_option maxHeartbeats 1000000 in
theorem add_any (n m : Int) (w : World) (n0 : 0 ≤ n) (n1 : n ≤ 9223372036854775807) (m0 : 0 ≤ m) (m1 : m ≤ 9223372036854775807) :
    Calls Try.prog 5 #[.int .i64 n, .int .i64 m] w fun r w' => AddEnd r ∧ w' = w := by
  by_cases h1 : n ≤ 1048576
  · by_cases h2 : m ≤ 1048576
    · go_enter Try.func5, Try.ntmps5
      go_wp2
      all_goals (go_ret; exact ⟨⟨_, rfl, by omega, by omega⟩, rfl⟩)
    · go_enter Try.func5, Try.ntmps5
      go_wp2
      all_goals (go_ret; exact ⟨⟨_, rfl, by omega, by omega⟩, rfl⟩)
  · go_enter Try.func5, Try.ntmps5
    go_wp2
    all_goals (go_ret; exact ⟨⟨_, rfl, by omega, by omega⟩, rfl⟩)

set_option maxHeartbeats 1000000 in
theorem keysB_any (a : Option Addr) (n c : Nat) (o m : Nat → Int) (k g : Nat → ByteArray) (w : World) (h : Cells w a n 4 (KC o m k g)) (hn : n ≤ maxLen) (hs : ∀ j, j < n → (k j).size ≤ maxLen ∧ (g j).size ≤ maxLen) :
    Calls Try.prog 6 #[.slice a n c] w fun r w' => AddEnd r ∧ w' = w := by
  have HC : Hid (Cells w a n 4 (KC o m k g)) := h
  have HS : Hid (∀ j, j < n → (k j).size ≤ maxLen ∧ (g j).size ≤ maxLen) := hs
  clear h hs
  unfold maxLen at hn
  by_cases hbig : n ≤ 65536
  · go_enter Try.func6, Try.ntmps6
    go_wp2
    go_loop [3, 4] (fun z i => ∃ (t : Nat) (q : Int), t ≤ n ∧ 0 ≤ q ∧ q ≤ 2621440 ∧ z = .int .i64 q ∧ i = .int .i64 t) (fun _ i => n - (intOf i).toNat)
    case atStart => exact ⟨0, n * 40, Nat.zero_le _, by omega, by omega, by go_num, rfl⟩
    case round =>
      obtain ⟨t, q, ht, q0, q1, rfl, rfl⟩ := hrel
      by_cases hlt : t < n
      · rcases HC.out with h0 | ⟨b, off, rfl, hc⟩
        · omega
        have s2 : w.cell? ⟨b, off + t * 4 + 2, none⟩ = some (.string (k t)) := by rw [Nat.add_assoc, hc _ (by omega), KC2]
        have s3 : w.cell? ⟨b, off + t * 4 + 3, none⟩ = some (.string (g t)) := by rw [Nat.add_assoc, hc _ (by omega), KC3]
        obtain ⟨b2, b3⟩ := HS.out t hlt
        unfold maxLen at b2 b3
        clear hc
        go_wp2_with fail
        refine (add_any _ _ _ (by omega) (by omega) (by omega) (by omega)).mono ?_
        rintro r w1 ⟨⟨z1, rfl, z10, z11⟩, hw1⟩
        obtain rfl : w = w1 := hw1.symm
        clear hw1
        go_wp2_with fail
        refine (add_any _ _ _ (by omega) (by omega) (by omega) (by omega)).mono ?_
        rintro r w1 ⟨⟨z2, rfl, z20, z21⟩, hw1⟩
        obtain rfl : w = w1 := hw1.symm
        clear hw1
        go_wp2
        go_round
        case rel => exact ⟨t + 1, z2, by omega, by omega, by omega, rfl, by go_num⟩
        case measure => simp [intOf]; omega
      · go_wp2_with fail
        refine (add_any _ _ _ (by omega) (by omega) (by omega) (by omega)).mono ?_
        rintro r w1 ⟨⟨z1, rfl, z10, z11⟩, hw1⟩
        obtain rfl : w = w1 := hw1.symm
        clear hw1
        go_wp2
        go_ret
        exact ⟨⟨_, rfl, z10, z11⟩, rfl⟩
  · go_enter Try.func6, Try.ntmps6
    go_wp2
    go_ret
    exact ⟨⟨_, rfl, by omega, by omega⟩, rfl⟩

set_option maxHeartbeats 2000000 in
theorem rulesB_any (a : Option Addr) (n c : Nat) (r : Nat → Nat → ByteArray) (w : World) (h : Cells w a n 5 (RC r)) (hn : n ≤ maxLen) (hs : ∀ f j, f < 5 → j < n → (r f j).size ≤ maxLen) :
    Calls Try.prog 7 #[.slice a n c] w fun r' w' => AddEnd r' ∧ w' = w := by
  have HC : Hid (Cells w a n 5 (RC r)) := h
  have HS : Hid (∀ f j, f < 5 → j < n → (r f j).size ≤ maxLen) := hs
  clear h hs
  unfold maxLen at hn
  by_cases hbig : n ≤ 65536
  · go_enter Try.func7, Try.ntmps7
    go_wp2
    go_loop [3, 4] (fun z i => ∃ (t : Nat) (q : Int), t ≤ n ∧ 0 ≤ q ∧ q ≤ 5242880 ∧ z = .int .i64 q ∧ i = .int .i64 t) (fun _ i => n - (intOf i).toNat)
    case atStart => exact ⟨0, n * 80, Nat.zero_le _, by omega, by omega, by go_num, rfl⟩
    case round =>
      obtain ⟨t, q, ht, q0, q1, rfl, rfl⟩ := hrel
      by_cases hlt : t < n
      · rcases HC.out with h0 | ⟨b, off, rfl, hc⟩
        · omega
        have s0 : w.cell? ⟨b, off + t * 5, none⟩ = some (.string (r 0 t)) := by rw [hc _ (by omega), RC0]
        have b0 := HS.out 0 t (by omega) hlt
        unfold maxLen at b0
        have s1 : w.cell? ⟨b, off + t * 5 + 1, none⟩ = some (.string (r 1 t)) := by rw [Nat.add_assoc, hc _ (by omega), RC_at r t 1 (by omega)]
        have b1 := HS.out 1 t (by omega) hlt
        unfold maxLen at b1
        have s2 : w.cell? ⟨b, off + t * 5 + 2, none⟩ = some (.string (r 2 t)) := by rw [Nat.add_assoc, hc _ (by omega), RC_at r t 2 (by omega)]
        have b2 := HS.out 2 t (by omega) hlt
        unfold maxLen at b2
        have s3 : w.cell? ⟨b, off + t * 5 + 3, none⟩ = some (.string (r 3 t)) := by rw [Nat.add_assoc, hc _ (by omega), RC_at r t 3 (by omega)]
        have b3 := HS.out 3 t (by omega) hlt
        unfold maxLen at b3
        have s4 : w.cell? ⟨b, off + t * 5 + 4, none⟩ = some (.string (r 4 t)) := by rw [Nat.add_assoc, hc _ (by omega), RC_at r t 4 (by omega)]
        have b4 := HS.out 4 t (by omega) hlt
        unfold maxLen at b4
        clear hc
        go_wp2_with fail
        refine (add_any _ _ _ (by omega) (by omega) (by omega) (by omega)).mono ?_
        rintro r' w1 ⟨⟨z1, rfl, z10, z11⟩, hw1⟩
        obtain rfl : w = w1 := hw1.symm
        clear hw1
        go_wp2_with fail
        refine (add_any _ _ _ (by omega) (by omega) (by omega) (by omega)).mono ?_
        rintro r' w1 ⟨⟨z2, rfl, z20, z21⟩, hw1⟩
        obtain rfl : w = w1 := hw1.symm
        clear hw1
        go_wp2_with fail
        refine (add_any _ _ _ (by omega) (by omega) (by omega) (by omega)).mono ?_
        rintro r' w1 ⟨⟨z3, rfl, z30, z31⟩, hw1⟩
        obtain rfl : w = w1 := hw1.symm
        clear hw1
        go_wp2_with fail
        refine (add_any _ _ _ (by omega) (by omega) (by omega) (by omega)).mono ?_
        rintro r' w1 ⟨⟨z4, rfl, z40, z41⟩, hw1⟩
        obtain rfl : w = w1 := hw1.symm
        clear hw1
        go_wp2_with fail
        refine (add_any _ _ _ (by omega) (by omega) (by omega) (by omega)).mono ?_
        rintro r' w1 ⟨⟨z5, rfl, z50, z51⟩, hw1⟩
        obtain rfl : w = w1 := hw1.symm
        clear hw1
        go_wp2
        go_round
        case rel => exact ⟨t + 1, z5, by omega, by omega, by omega, rfl, by go_num⟩
        case measure => simp [intOf]; omega
      · go_wp2_with fail
        refine (add_any _ _ _ (by omega) (by omega) (by omega) (by omega)).mono ?_
        rintro r' w1 ⟨⟨z1, rfl, z10, z11⟩, hw1⟩
        obtain rfl : w = w1 := hw1.symm
        clear hw1
        go_wp2
        go_ret
        exact ⟨⟨_, rfl, z10, z11⟩, rfl⟩
  · go_enter Try.func7, Try.ntmps7
    go_wp2
    go_ret
    exact ⟨⟨_, rfl, by omega, by omega⟩, rfl⟩

set_option maxRecDepth 100000 in
set_option maxHeartbeats 4000000 in
theorem bytesM_any (a1 : Option Addr) (n1 c1 : Nat) (o m : Nat → Int) (k g : Nat → ByteArray) (req : Bool) (a2 : Option Addr) (n2 c2 : Nat) (r : Nat → Nat → ByteArray) (w : World)
    (h1 : Cells w a1 n1 4 (KC o m k g)) (e1 : n1 ≤ maxLen) (hs1 : ∀ j, j < n1 → (k j).size ≤ maxLen ∧ (g j).size ≤ maxLen)
    (h2 : Cells w a2 n2 5 (RC r)) (e2 : n2 ≤ maxLen) (hs2 : ∀ f j, f < 5 → j < n2 → (r f j).size ≤ maxLen) :
    Calls Try.prog 4 #[.slice a1 n1 c1, .bool req, .slice a2 n2 c2] w fun r' w' => BoolEnd r' ∧ w' = w := by
  have H1 : Hid (Cells w a1 n1 4 (KC o m k g)) := h1
  have H2 : Hid (Cells w a2 n2 5 (RC r)) := h2
  have HS1 : Hid (∀ j, j < n1 → (k j).size ≤ maxLen ∧ (g j).size ≤ maxLen) := hs1
  have HS : Hid (∀ f j, f < 5 → j < n2 → (r f j).size ≤ maxLen) := hs2
  clear h1 h2 hs1 hs2
  unfold maxLen at e1 e2
  by_cases hb1 : n1 ≤ 1048576
  · go_enter Try.func4, Try.ntmps4
    go_wp2
    go_loop [7, 8] (fun z i => ∃ (t : Nat) (q : Int), t ≤ n1 ∧ 0 ≤ q ∧ q ≤ 1048576 ∧ z = .int .i64 q ∧ i = .int .i64 t) (fun _ i => n1 - (intOf i).toNat)
    case atStart => exact ⟨0, n1, Nat.zero_le _, by omega, by omega, by go_num, rfl⟩
    case round =>
      obtain ⟨t, q, ht, q0, q1, rfl, rfl⟩ := hrel
      by_cases hlt : t < n1
      · rcases H1.out with h0 | ⟨b, off, rfl, hc⟩
        · omega
        have s2 : w.cell? ⟨b, off + t * 4 + 2, none⟩ = some (.string (k t)) := by rw [Nat.add_assoc, hc _ (by omega), KC2]
        have s3 : w.cell? ⟨b, off + t * 4 + 3, none⟩ = some (.string (g t)) := by rw [Nat.add_assoc, hc _ (by omega), KC3]
        obtain ⟨b2, b3⟩ := HS1.out t hlt
        unfold maxLen at b2 b3
        clear hc
        go_wp2
        case roundEnd =>
          go_round
          case rel => exact ⟨t + 1, q + (k t).size + (g t).size, by omega, by omega, by omega, by go_num, by go_num⟩
          case measure => simp [intOf]; omega
        all_goals (go_ret; exact ⟨⟨_, rfl⟩, rfl⟩)
      · by_cases hb2 : n2 ≤ 1048576
        · go_wp2
          · go_ret; exact ⟨⟨_, rfl⟩, rfl⟩
          go_loop [7, 9] (fun z i => ∃ (t : Nat) (q : Int), t ≤ n2 ∧ 0 ≤ q ∧ q ≤ 1048576 ∧ z = .int .i64 q ∧ i = .int .i64 t) (fun _ i => n2 - (intOf i).toNat)
          case atStart => exact ⟨0, q + n2, Nat.zero_le _, by omega, by omega, by go_num, rfl⟩
          case round =>
            clear hlt ht q0 q1
            obtain ⟨t, q, ht, q0, q1, rfl, rfl⟩ := hrel
            by_cases hlt : t < n2
            · rcases H2.out with h0 | ⟨b, off, rfl, hc⟩
              · omega
              have s0 : w.cell? ⟨b, off + t * 5, none⟩ = some (.string (r 0 t)) := by rw [hc _ (by omega), RC0]
              have b0 := HS.out 0 t (by omega) hlt
              unfold maxLen at b0
              have s1 : w.cell? ⟨b, off + t * 5 + 1, none⟩ = some (.string (r 1 t)) := by rw [Nat.add_assoc, hc _ (by omega), RC_at r t 1 (by omega)]
              have b1 := HS.out 1 t (by omega) hlt
              unfold maxLen at b1
              have s2 : w.cell? ⟨b, off + t * 5 + 2, none⟩ = some (.string (r 2 t)) := by rw [Nat.add_assoc, hc _ (by omega), RC_at r t 2 (by omega)]
              have b2 := HS.out 2 t (by omega) hlt
              unfold maxLen at b2
              have s3 : w.cell? ⟨b, off + t * 5 + 3, none⟩ = some (.string (r 3 t)) := by rw [Nat.add_assoc, hc _ (by omega), RC_at r t 3 (by omega)]
              have b3 := HS.out 3 t (by omega) hlt
              unfold maxLen at b3
              have s4 : w.cell? ⟨b, off + t * 5 + 4, none⟩ = some (.string (r 4 t)) := by rw [Nat.add_assoc, hc _ (by omega), RC_at r t 4 (by omega)]
              have b4 := HS.out 4 t (by omega) hlt
              unfold maxLen at b4
              clear hc
              go_wp2
              case roundEnd =>
                go_round
                case rel => exact ⟨t + 1, q + (r 0 t).size + (r 1 t).size + (r 2 t).size + (r 3 t).size + (r 4 t).size, by omega, by omega, by omega, by go_num, by go_num⟩
                case measure => simp [intOf]; omega
              all_goals (go_ret; exact ⟨⟨_, rfl⟩, rfl⟩)
            · go_wp2
              go_ret
              exact ⟨⟨_, rfl⟩, rfl⟩
        · go_wp2
          go_ret
          exact ⟨⟨_, rfl⟩, rfl⟩
  · go_enter Try.func4, Try.ntmps4
    go_wp2
    go_ret
    exact ⟨⟨_, rfl⟩, rfl⟩
end Go.Proofs.Qxb6604198a

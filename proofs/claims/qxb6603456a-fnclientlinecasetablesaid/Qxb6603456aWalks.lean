/-
  THE CONTRACTS OF THE FUNCTIONS THAT BOTH LAWS GO THROUGH.
-/
import Derived.Test.Qxb6603456aTools
namespace Go.Proofs.Qxb6603456a
open Go.RowKit
set_option linter.unusedVariables false

/-- It returns a number from -1 to the bound, whichever. -/
def IntEnd (r : Ending) : Prop := ∃ z : Int, r = .returned (.int .i64 z) ∧ -1 ≤ z ∧ z ≤ 1048576

set_option maxHeartbeats 1000000 in
theorem addStr_any (t : Int) (s : ByteArray) (w : World) (t0 : -1 ≤ t) (t1 : t ≤ 1048576) (hs : s.size ≤ maxLen) :
    Calls Try.prog 7 #[.int .i64 t, .string s] w fun r w' => IntEnd r ∧ w' = w := by
  unfold maxLen at hs
  by_cases h1 : t < 0
  · go_enter Try.func7, Try.ntmps7
    go_wp2
    go_ret
    exact ⟨⟨_, rfl, by omega, by omega⟩, rfl⟩
  · by_cases h2 : s.size ≤ 1048576
    · go_enter Try.func7, Try.ntmps7
      go_wp2
      all_goals
        go_ret
        exact ⟨⟨_, rfl, by omega, by omega⟩, rfl⟩
    · go_enter Try.func7, Try.ntmps7
      go_wp2
      go_ret
      exact ⟨⟨_, rfl, by omega, by omega⟩, rfl⟩

set_option maxHeartbeats 1000000 in
theorem addList_any (t : Int) (a : Option Addr) (n c : Nat) (S : Nat → ByteArray) (w : World) (t0 : -1 ≤ t) (t1 : t ≤ 1048576) (h : Strs w a n S) :
    Calls Try.prog 8 #[.int .i64 t, .slice a n c] w fun r w' => IntEnd r ∧ w' = w := by
  obtain ⟨h, hlen, hS⟩ := h
  have HS : Hid (∀ i, i < n → (S i).size ≤ maxLen) := hS
  clear hS
  unfold maxLen at hlen
  by_cases h1 : t < 0
  · go_enter Try.func8, Try.ntmps8
    go_wp2
    go_ret
    exact ⟨⟨_, rfl, by omega, by omega⟩, rfl⟩
  · by_cases h2 : n ≤ 65536
    · go_enter Try.func8, Try.ntmps8
      go_wp2
      · go_ret
        exact ⟨⟨_, rfl, by omega, by omega⟩, rfl⟩
      go_loop [0, 5] (fun z i => ∃ (k : Nat) (m : Int), k ≤ n ∧ 0 ≤ m ∧ m ≤ 1048576 ∧ z = .int .i64 m ∧ i = .int .i64 k) (fun _ i => n - (intOf i).toNat)
      case atStart => exact ⟨0, t + 16 * n, Nat.zero_le _, by omega, by omega, by go_num, rfl⟩
      case round =>
        obtain ⟨k, m, hk, hm0, hm1, rfl, rfl⟩ := hrel
        by_cases hlt : k < n
        · rcases h with h0 | ⟨b, off, rfl, hc⟩
          · omega
          have hck := hc k hlt
          have hSk := HS.out k hlt
          clear hc
          go_wp2_with (go_at_call 7; refine (addStr_any _ _ _ (by omega) (by omega) hSk).mono ?_; rintro r w1 ⟨⟨z, rfl, z0, z1⟩, hw1⟩; obtain rfl : w = w1 := hw1.symm)
          · go_ret
            exact ⟨⟨_, rfl, by omega, by omega⟩, rfl⟩
          · go_round
            case rel => exact ⟨k + 1, z, by omega, by omega, by omega, rfl, by go_num⟩
            case measure => simp [intOf]; omega
        · go_wp2
          go_ret
          exact ⟨⟨_, rfl, by omega, by omega⟩, rfl⟩
    · go_enter Try.func8, Try.ntmps8
      go_wp2
      go_ret
      exact ⟨⟨_, rfl, by omega, by omega⟩, rfl⟩

set_option maxHeartbeats 1000000 in
theorem hasSuf_any (nm : ByteArray) (m : Option Addr) (ml mc : Nat) (a : Option Addr) (n c : Nat) (S : Nat → ByteArray) (x : ByteArray) (w : World) (h : Strs w a n S) :
    Calls Try.prog 18 #[.agg #[.string nm, .slice m ml mc, .slice a n c], .string x] w fun r w' => r = .returned (.bool (anyEq S x n)) ∧ Below w.heap.size w w' := by
  have h' := h.alloc (.cells #[.string nm, .slice m ml mc, .slice a n c] 37)
  obtain ⟨h', hlen, -⟩ := h'
  have hb : Below w.heap.size w (w.alloc (.cells #[.string nm, .slice m ml mc, .slice a n c] 37)) := (Below.refl _ _).alloc (Nat.le_refl _) _
  have HB : Hid (Below w.heap.size w (w.alloc (.cells #[.string nm, .slice m ml mc, .slice a n c] 37))) := hb
  clear h hb
  unfold maxLen at hlen
  go_enter Try.func18, Try.ntmps18
  go_wp2
  go_loop [6, 10] (fun _ i => ∃ k : Nat, k ≤ n ∧ i = .int .i64 k ∧ anyEq S x k = false) (fun _ i => n - (intOf i).toNat)
  case atStart => exact ⟨0, Nat.zero_le _, rfl, rfl⟩
  case round =>
    obtain ⟨k, hk, rfl, hno⟩ := hrel
    have HN : Hid (anyEq S x k = false) := hno
    clear hno
    by_cases hlt : k < n
    · rcases h' with h0 | ⟨b, off, rfl, hc⟩
      · omega
      have hck := hc k hlt
      clear hc
      cases heq : ((S k).toList == x.toList)
      · go_wp2
        go_round
        case rel => exact ⟨k + 1, by omega, by go_num, by rw [anyEq_succ, HN.out, heq]; rfl⟩
        case measure => simp [intOf]; omega
      · go_wp2
        go_ret
        exact ⟨retb (anyEq_hit S x k n hlt heq).symm, HB.out⟩
    · obtain rfl : n = k := by omega
      go_wp2
      go_ret
      exact ⟨retb HN.out.symm, HB.out⟩

theorem zzHas_any (nm : ByteArray) (m : Option Addr) (ml mc : Nat) (a : Option Addr) (n c : Nat) (S : Nat → ByteArray) (x : ByteArray) (w : World) (h : Strs w a n S) :
    Calls Try.prog 9 #[.string nm, .slice m ml mc, .slice a n c, .string x] w fun r w' => r = .returned (.bool (anyEq S x n)) ∧ Below w.heap.size w w' := by
  have HS : Hid (Strs w a n S) := h
  clear h
  go_enter Try.func9, Try.ntmps9
  go_wp2_with (go_at_call 18; refine (hasSuf_any _ _ _ _ _ _ _ _ _ _ HS.out).mono ?_; rintro r w1 ⟨rfl, hb1⟩)
  go_ret
  exact ⟨rfl, hb1⟩
end Go.Proofs.Qxb6603456a

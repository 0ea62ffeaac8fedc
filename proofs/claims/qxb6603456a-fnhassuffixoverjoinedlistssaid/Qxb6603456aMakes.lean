/-
  zzConcat, zzReverse; zzBytes of the first law.
-/
import Derived.Test.Qxb6603456aWalks
namespace Go.Proofs.Qxb6603456a
open Go.RowKit
set_option linter.unusedVariables false

set_option maxHeartbeats 2000000 in
theorem rev_any (a : Option Addr) (n c : Nat) (S : Nat → ByteArray) (w : World) (h : Strs w a n S) (hn : n ≤ 1048576) :
    Calls Try.prog 11 #[.slice a n c] w fun r w' => r = .returned (.slice (some ⟨w.heap.size, 0, none⟩) n n) ∧ Strs w' (some ⟨w.heap.size, 0, none⟩) n (revS S n) ∧ Below w.heap.size w w' := by
  obtain ⟨h, -, hS⟩ := h
  have HS : Hid (∀ i, i < n → (S i).size ≤ maxLen) := hS
  clear hS
  obtain ⟨i0, hi, hz0, hz1, hz2⟩ := info_parts Try.info9
  go_enter Try.func11, Try.ntmps11
  go_wp2_with (at_make; refine wpList_make_full _ rfl _ _ 22 rfl w.heap.size 9 i0 (.string ByteArray.empty) 1 Try.underlying22 hi hz0 hz1 _ _ _ _ n rfl rfl rfl rfl (by rw [hz2]; omega) (by unfold maxLen; omega) (Nat.le_refl _) ?_)
  intro w3 hown0 hgrow
  have HO : Hid (w3.ownsRow w.heap.size 9 1 (.slice (some ⟨w.heap.size, 0, none⟩) n n) n (rowOf (fun _ => ByteArray.empty) n)) := by rw [← rowOf_zero]; exact hown0
  have hb3 : Below w.heap.size w w3 := (Below.refl _ _).grown hgrow (Nat.le_refl _) (by intro k h; cases h)
  clear hown0 hgrow hi hz0 hz1 hz2
  go_wp2
  go_loopw [4] (fun i wr => ∃ k : Nat, k ≤ n ∧ i = .int .i64 k ∧ Hid (wr.ownsRow w.heap.size 9 1 (.slice (some ⟨w.heap.size, 0, none⟩) n n) n (rowOf (fun j => if n - k ≤ j then S (n - 1 - j) else ByteArray.empty) n)) ∧ Below w.heap.size w wr) (fun i _ => n - (intOf i).toNat)
  case atStart => exact ⟨0, Nat.zero_le _, rfl, by rw [rowOf_congr (G := fun _ => ByteArray.empty) (fun j hj => if_neg (by omega))]; exact HO, hb3⟩
  case round =>
    obtain ⟨k, hk, rfl, HR, hbr⟩ := hrel
    clear HO hb3
    by_cases hlt : k < n
    · rcases h with h0 | ⟨b, off, rfl, hc⟩
      · omega
      have hcs : wr.cell? ⟨b, off + k, none⟩ = some (.string (S k)) := by rw [hbr.cell (p := ⟨b, off + k, none⟩) (lt_of_cell (hc k hlt))]; exact hc k hlt
      have hcd : wr.cell? ⟨w.heap.size, n - 1 - k, none⟩ = some (.string ByteArray.empty) := by rw [HR.out.cellAt (n - 1 - k) (by omega), rowOf_at _ n (n - 1 - k) (by omega), if_neg (by omega)]
      have hcf : wr.frozen? ⟨w.heap.size, n - 1 - k, none⟩ = false := HR.out.frozenAt (n - 1 - k)
      have hix : ((n : Int) - 1 - k).toNat = n - 1 - k := by omega
      clear hc
      go_wp2
      go_roundw
      case rel => exact ⟨k + 1, by omega, by go_num, by
        rw [rowOf_congr (F := fun j => if n - (k + 1) ≤ j then S (n - 1 - j) else ByteArray.empty) (G := fun j => if j = n - 1 - k then S k else if n - k ≤ j then S (n - 1 - j) else ByteArray.empty) (fun j hj => by
          by_cases e : j = n - 1 - k
          · rw [if_pos e, if_pos (by omega), show n - 1 - j = k by omega]
          · rw [if_neg e]
            by_cases e2 : n - k ≤ j
            · rw [if_pos e2, if_pos (by omega)]
            · rw [if_neg e2, if_neg (by omega)]), ← rowOf_set]
        exact (HR.out.stored (n - 1 - k) _).1, hbr.setCell (Nat.le_refl _) _⟩
      case measure => simp [intOf]; omega
    · obtain rfl : n = k := by omega
      go_wp2
      go_ret
      refine ⟨rfl, ?_, hbr⟩
      have hblk := own_block HR.out
      rw [rowOf_congr (G := revS S n) (fun j hj => by rw [if_pos (by omega)]; rfl)] at hblk
      exact strs_of_block hblk (by unfold maxLen; omega) (fun i hi => HS.out _ (by omega))

set_option maxHeartbeats 2000000 in
theorem concat_any (a : Option Addr) (n c : Nat) (S : Nat → ByteArray) (a' : Option Addr) (m c' : Nat) (T : Nat → ByteArray) (w : World) (h : Strs w a n S) (h' : Strs w a' m T) (hn : n ≤ 1048576) (hm : m ≤ 1048576) :
    Calls Try.prog 10 #[.slice a n c, .slice a' m c'] w fun r w' => r = .returned (.slice (some ⟨w.heap.size, 0, none⟩) (n + m) (n + m)) ∧ Strs w' (some ⟨w.heap.size, 0, none⟩) (n + m) (joinS S T n) ∧ Below w.heap.size w w' := by
  obtain ⟨h, -, hS⟩ := h
  obtain ⟨h', -, hT⟩ := h'
  have HS : Hid (∀ i, i < n → (S i).size ≤ maxLen) := hS
  have HT : Hid (∀ i, i < m → (T i).size ≤ maxLen) := hT
  have HC' : Hid (m = 0 ∨ ∃ b off, a' = some ⟨b, off, none⟩ ∧ ∀ i, i < m → w.cell? ⟨b, off + i, none⟩ = some (.string (T i))) := h'
  clear hS hT h'
  obtain ⟨i0, hi, hz0, hz1, hz2⟩ := info_parts Try.info9
  go_enter Try.func10, Try.ntmps10
  go_wp2_with (at_make; refine wpList_make_full _ rfl _ _ 22 rfl w.heap.size 9 i0 (.string ByteArray.empty) 1 Try.underlying22 hi hz0 hz1 _ _ _ _ (n + m) rfl rfl (by omega) (by omega) (by rw [hz2]; omega) (by unfold maxLen; omega) (Nat.le_refl _) ?_)
  intro w3 hown0 hgrow
  have HO : Hid (w3.ownsRow w.heap.size 9 1 (.slice (some ⟨w.heap.size, 0, none⟩) (n + m) (n + m)) (n + m) (rowOf (fun _ => ByteArray.empty) (n + m))) := by rw [← rowOf_zero]; exact hown0
  have hb3 : Below w.heap.size w w3 := (Below.refl _ _).grown hgrow (Nat.le_refl _) (by intro k h; cases h)
  clear hown0 hgrow hi hz0 hz1 hz2
  go_wp2
  go_loopw [6] (fun i wr => ∃ k : Nat, k ≤ n ∧ i = .int .i64 k ∧ Hid (wr.ownsRow w.heap.size 9 1 (.slice (some ⟨w.heap.size, 0, none⟩) (n + m) (n + m)) (n + m) (rowOf (fun j => if j < k then S j else ByteArray.empty) (n + m))) ∧ Below w.heap.size w wr) (fun i _ => n - (intOf i).toNat)
  case atStart => exact ⟨0, Nat.zero_le _, rfl, by rw [rowOf_congr (G := fun _ => ByteArray.empty) (fun j hj => if_neg (by omega))]; exact HO, hb3⟩
  case round =>
    obtain ⟨k, hk, rfl, HR, hbr⟩ := hrel
    clear HO hb3
    by_cases hlt : k < n
    · rcases h with h0 | ⟨b, off, rfl, hc⟩
      · omega
      have hcs : wr.cell? ⟨b, off + k, none⟩ = some (.string (S k)) := by rw [hbr.cell (p := ⟨b, off + k, none⟩) (lt_of_cell (hc k hlt))]; exact hc k hlt
      have hcd : wr.cell? ⟨w.heap.size, k, none⟩ = some (.string ByteArray.empty) := by rw [HR.out.cellAt k (by omega), rowOf_at _ (n + m) k (by omega), if_neg (by omega)]
      have hcf : wr.frozen? ⟨w.heap.size, k, none⟩ = false := HR.out.frozenAt k
      clear hc
      go_wp2
      go_roundw
      case rel => exact ⟨k + 1, by omega, by go_num, by
        rw [rowOf_congr (F := fun j => if j < k + 1 then S j else ByteArray.empty) (G := fun j => if j = k then S k else if j < k then S j else ByteArray.empty) (fun j hj => by
          by_cases e : j = k
          · rw [if_pos e, if_pos (by omega), e]
          · rw [if_neg e]
            by_cases e2 : j < k
            · rw [if_pos e2, if_pos (by omega)]
            · rw [if_neg e2, if_neg (by omega)]), ← rowOf_set]
        exact (HR.out.stored k _).1, hbr.setCell (Nat.le_refl _) _⟩
      case measure => simp [intOf]; omega
    · obtain rfl : n = k := by omega
      clear h
      go_wp2
      obtain ⟨wo, rfl⟩ : ∃ wo : World, wo = wr := ⟨_, rfl⟩
      go_loopw [7] (fun i wr => ∃ k : Nat, k ≤ m ∧ i = .int .i64 k ∧ Hid (wr.ownsRow w.heap.size 9 1 (.slice (some ⟨w.heap.size, 0, none⟩) (n + m) (n + m)) (n + m) (rowOf (fun j => if j < n + k then joinS S T n j else ByteArray.empty) (n + m))) ∧ Below w.heap.size w wr) (fun i _ => m - (intOf i).toNat)
      case atStart => exact ⟨0, Nat.zero_le _, rfl, by
        rw [rowOf_congr (F := fun j => if j < n + 0 then joinS S T n j else ByteArray.empty) (G := fun j => if j < n then S j else ByteArray.empty) (fun j hj => by
          by_cases e : j < n
          · rw [if_pos e, if_pos (by omega), joinS, if_pos e]
          · rw [if_neg e, if_neg (by omega)])]
        exact HR, hbr⟩
      case round =>
        obtain ⟨k2, hk2, rfl, HR2, hbr2⟩ := hrel
        clear HR hbr
        by_cases hlt2 : k2 < m
        · rcases HC'.out with h0 | ⟨b, off, rfl, hc⟩
          · omega
          have hcs : wr.cell? ⟨b, off + k2, none⟩ = some (.string (T k2)) := by rw [hbr2.cell (p := ⟨b, off + k2, none⟩) (lt_of_cell (hc k2 hlt2))]; exact hc k2 hlt2
          have hcd : wr.cell? ⟨w.heap.size, n + k2, none⟩ = some (.string ByteArray.empty) := by rw [HR2.out.cellAt (n + k2) (by omega), rowOf_at _ (n + m) (n + k2) (by omega), if_neg (by omega)]
          have hcf : wr.frozen? ⟨w.heap.size, n + k2, none⟩ = false := HR2.out.frozenAt (n + k2)
          have hix : ((n : Int) + k2).toNat = n + k2 := by omega
          clear hc
          go_wp2
          go_roundw
          case rel => exact ⟨k2 + 1, by omega, by go_num, by
            rw [rowOf_congr (F := fun j => if j < n + (k2 + 1) then joinS S T n j else ByteArray.empty) (G := fun j => if j = n + k2 then T k2 else if j < n + k2 then joinS S T n j else ByteArray.empty) (fun j hj => by
              by_cases e : j = n + k2
              · rw [if_pos e, if_pos (by omega), joinS, if_neg (by omega), show j - n = k2 by omega]
              · rw [if_neg e]
                by_cases e2 : j < n + k2
                · rw [if_pos e2, if_pos (by omega)]
                · rw [if_neg e2, if_neg (by omega)]), ← rowOf_set]
            exact (HR2.out.stored (n + k2) _).1, hbr2.setCell (Nat.le_refl _) _⟩
          case measure => simp [intOf]; omega
        · obtain rfl : m = k2 := by omega
          go_wp2
          go_ret
          refine ⟨rfl, ?_, hbr2⟩
          have hblk := own_block HR2.out
          rw [rowOf_congr (G := joinS S T n) (fun j hj => by rw [if_pos (by omega)])] at hblk
          refine strs_of_block hblk (by unfold maxLen; omega) (fun i hi => ?_)
          unfold joinS
          by_cases e : i < n
          · rw [if_pos e]; exact HS.out i e
          · rw [if_neg e]; exact HT.out _ (by omega)

/-- It returns a bool; true only where the three lists are no longer than the bound. -/
def BytesEnd (l1 l2 l3 : Nat) (r : Ending) : Prop := ∃ v : Bool, r = .returned (.bool v) ∧ (v = true → l1 ≤ 1048576 ∧ l2 ≤ 1048576 ∧ l3 ≤ 1048576)

set_option maxHeartbeats 4000000 in
theorem bytesH_any (nm : ByteArray) (a1 : Option Addr) (l1 c1 : Nat) (S1 : Nat → ByteArray) (a2 : Option Addr) (l2 c2 : Nat) (S2 : Nat → ByteArray) (a3 : Option Addr) (l3 c3 : Nat) (S3 : Nat → ByteArray) (x : ByteArray) (w : World)
    (h1 : Strs w a1 l1 S1) (h2 : Strs w a2 l2 S2) (h3 : Strs w a3 l3 S3) (hnm : nm.size ≤ maxLen) (hx : x.size ≤ maxLen) :
    Calls Try.prog 6 #[.string nm, .slice a1 l1 c1, .slice a2 l2 c2, .slice a3 l3 c3, .string x] w fun r w' => BytesEnd l1 l2 l3 r ∧ w' = w := by
  have e1 := h1.2.1
  have e2 := h2.2.1
  have e3 := h3.2.1
  have H1 : Hid (Strs w a1 l1 S1) := h1
  have H2 : Hid (Strs w a2 l2 S2) := h2
  have H3 : Hid (Strs w a3 l3 S3) := h3
  clear h1 h2 h3
  unfold maxLen at e1 e2 e3 hnm hx
  go_enter Try.func6, Try.ntmps6
  go_wp2
  · go_ret; exact ⟨⟨_, rfl, fun h => by cases h⟩, rfl⟩
  · go_ret; exact ⟨⟨_, rfl, fun h => by cases h⟩, rfl⟩
  · go_ret; exact ⟨⟨_, rfl, fun h => by cases h⟩, rfl⟩
  go_loop [11, 12] (fun z i => ∃ k m : Nat, k ≤ l1 ∧ m ≤ 1048576 ∧ z = .int .i64 m ∧ i = .int .i64 k) (fun _ i => l1 - (intOf i).toNat)
  case atStart => exact ⟨0, nm.size + l1, Nat.zero_le _, by omega, by go_num, rfl⟩
  case round =>
    obtain ⟨k0, m0, hk0, hm0, rfl, rfl⟩ := hrel
    by_cases hlt0 : k0 < l1
    · obtain ⟨hh, -, hSS⟩ := H1.out
      rcases hh with h0 | ⟨b, off, rfl, hc⟩
      · omega
      have hck := hc k0 hlt0
      have hSk := hSS k0 hlt0
      unfold maxLen at hSk
      clear hc hSS
      go_wp2
      · go_ret; exact ⟨⟨_, rfl, fun h => by cases h⟩, rfl⟩
      · go_ret; exact ⟨⟨_, rfl, fun h => by cases h⟩, rfl⟩
      · go_round
        case rel => exact ⟨k0 + 1, m0 + (S1 k0).size, by omega, by omega, by go_num, by go_num⟩
        case measure => simp [intOf]; omega
    · go_wp2
      · go_ret; exact ⟨⟨_, rfl, fun h => by cases h⟩, rfl⟩
      · go_ret; exact ⟨⟨_, rfl, fun h => by cases h⟩, rfl⟩
      go_loop [11, 13] (fun z i => ∃ k m : Nat, k ≤ l2 ∧ m ≤ 1048576 ∧ z = .int .i64 m ∧ i = .int .i64 k) (fun _ i => l2 - (intOf i).toNat)
      case atStart => exact ⟨0, m0 + l2, Nat.zero_le _, by omega, by go_num, rfl⟩
      case round =>
        obtain ⟨k1, m1, hk1, hm1, rfl, rfl⟩ := hrel
        by_cases hlt1 : k1 < l2
        · obtain ⟨hh, -, hSS⟩ := H2.out
          rcases hh with h0 | ⟨b, off, rfl, hc⟩
          · omega
          have hck := hc k1 hlt1
          have hSk := hSS k1 hlt1
          unfold maxLen at hSk
          clear hc hSS
          go_wp2
          · go_ret; exact ⟨⟨_, rfl, fun h => by cases h⟩, rfl⟩
          · go_ret; exact ⟨⟨_, rfl, fun h => by cases h⟩, rfl⟩
          · go_round
            case rel => exact ⟨k1 + 1, m1 + (S2 k1).size, by omega, by omega, by go_num, by go_num⟩
            case measure => simp [intOf]; omega
        · go_wp2
          · go_ret; exact ⟨⟨_, rfl, fun h => by cases h⟩, rfl⟩
          · go_ret; exact ⟨⟨_, rfl, fun h => by cases h⟩, rfl⟩
          go_loop [11, 14] (fun z i => ∃ k m : Nat, k ≤ l3 ∧ m ≤ 1048576 ∧ z = .int .i64 m ∧ i = .int .i64 k) (fun _ i => l3 - (intOf i).toNat)
          case atStart => exact ⟨0, m1 + l3, Nat.zero_le _, by omega, by go_num, rfl⟩
          case round =>
            obtain ⟨k2, m2, hk2, hm2, rfl, rfl⟩ := hrel
            by_cases hlt2 : k2 < l3
            · obtain ⟨hh, -, hSS⟩ := H3.out
              rcases hh with h0 | ⟨b, off, rfl, hc⟩
              · omega
              have hck := hc k2 hlt2
              have hSk := hSS k2 hlt2
              unfold maxLen at hSk
              clear hc hSS
              go_wp2
              · go_ret; exact ⟨⟨_, rfl, fun h => by cases h⟩, rfl⟩
              · go_ret; exact ⟨⟨_, rfl, fun h => by cases h⟩, rfl⟩
              · go_round
                case rel => exact ⟨k2 + 1, m2 + (S3 k2).size, by omega, by omega, by go_num, by go_num⟩
                case measure => simp [intOf]; omega
            · go_wp2
              · go_ret; exact ⟨⟨_, rfl, fun h => by cases h⟩, rfl⟩
              · go_ret; exact ⟨⟨_, rfl, fun h => by cases h⟩, rfl⟩
              · go_ret; exact ⟨⟨_, rfl, fun _ => ⟨by omega, by omega, by omega⟩⟩, rfl⟩
end Go.Proofs.Qxb6603456a

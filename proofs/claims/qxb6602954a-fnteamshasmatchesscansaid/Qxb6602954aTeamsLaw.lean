import Derived.Test.Qxb6602954aTeams
import Derived.Deep.QuietTactic
import Derived.BigQuiet
import Derived.WalkSmall
namespace Go.Proofs.Qxb6602954a
open Go.RowKit
set_option linter.unusedVariables false

theorem below_drewN' (w : World) (q : Nat) : Below w.heap.size w (w.drewN q) := below_drewN rfl
theorem asc_succ {S : Nat → ByteArray} {k : Nat} (h : Asc S (k + 1)) (hl : Op.bytesLess (S k).toList (S (k + 1)).toList = true) : Asc S (k + 1 + 1) := fun j h1 h2 => by
  by_cases e : j = k + 1
  · rw [e]; exact hl
  · exact h j h1 (by omega)

theorem Try.info9 : (Try.prog.info? 9).map (fun i => (i.zero, i.size, i.bytes)) = some (some (.string ByteArray.empty), 1, 16) := by kernel_rfl

/-- The new row behind k rounds of the copying. -/
def filled (S : Nat → ByteArray) (n k : Nat) : List Value := (List.range n).map fun j => .string (if j < k then S j else ByteArray.empty)
theorem filled_len (S : Nat → ByteArray) (n k : Nat) : (filled S n k).length = n := by simp [filled]
theorem filled_at (S : Nat → ByteArray) (n k j : Nat) (h : j < n) : (filled S n k)[j]? = some (.string (if j < k then S j else ByteArray.empty)) := by
  simp [filled, List.getElem?_map, List.getElem?_range h]
theorem filled_set (S : Nat → ByteArray) (n k : Nat) (h : k < n) : (filled S n k).set k (.string (S k)) = filled S n (k + 1) := by
  apply List.ext_getElem?
  intro j
  by_cases hj : j < n
  · rw [List.getElem?_set, filled_at S n (k + 1) j hj, filled_at S n k j hj, filled_len]
    by_cases e : k = j
    · subst e; simp [hj]
    · rw [if_neg e]
      by_cases h2 : j < k
      · rw [if_pos h2, if_pos (by omega)]
      · rw [if_neg h2, if_neg (by omega)]
  · rw [List.getElem?_eq_none (by simp [filled_len]; omega), List.getElem?_eq_none (by simp [filled_len]; omega)]
theorem filled_zero (S : Nat → ByteArray) (n : Nat) : (madeCells #[Value.string ByteArray.empty] n).toList = filled S n 0 := by
  apply List.ext_getElem?
  intro j
  by_cases hj : j < n
  · rw [filled_at S n 0 j hj]
    simp [madeCells, hj, Nat.mod_one]
  · rw [List.getElem?_eq_none (by simp [size_madeCells]; omega), List.getElem?_eq_none (by simp [filled_len]; omega)]

theorem lt_of_cell {w : World} {b o : Nat} {v : Value} (h : w.cell? ⟨b, o, none⟩ = some v) : b < w.heap.size := by
  rcases Nat.lt_or_ge b w.heap.size with h2 | h2
  · exact h2
  · rw [World.cell?, Array.getElem?_eq_none (by simpa using h2)] at h; simp at h

theorem make_any (e : Bool) (a : Option Addr) (n c : Nat) (w : World) :
    Calls Try.prog 11 #[.bool e, .slice a n c] w fun r w' => r = .returned (.agg #[.bool e, .slice a n c]) ∧ w' = w.alloc (.cells #[.bool e, .slice a n c] 28) := by
  go_enter Try.func11, Try.ntmps11
  go_wp2
  exact bodyPost_ret (v := .agg #[.bool e, .slice a n c]) (by simp [results, Try.results11, go_sem]) rfl ⟨rfl, rfl⟩

set_option maxHeartbeats 4000000 in
theorem law_some_f (b off n c : Nat) (S : Nat → ByteArray) (x : ByteArray) (w : World) (hc : ∀ i, i < n → w.cell? ⟨b, off + i, none⟩ = some (.string (S i)))
    (hn : 0 < n) (hS : ∀ i, i < n → (S i).size ≤ maxLen) (hx : x.size ≤ maxLen) (h1 : n ≤ 131072) (h2 : x.size ≤ 1048576) (h3 : x.size + 8 * n ≤ 1048576) :
    Calls Try.prog 5 #[.bool false, .slice (some ⟨b, off, none⟩) n c, .string x] w fun r w' => r = .returned (.bool true) ∧ Below w.heap.size w w' := by
  have HB : Hid (Strs w (some ⟨b, off, none⟩) n S) := ⟨Or.inr ⟨b, off, rfl, hc⟩, by unfold maxLen; omega, hS⟩
  have HX : Hid (x.size ≤ maxLen) := hx
  unfold maxLen at hS
  have HC : Hid (∀ i, i < n → w.cell? ⟨b, off + i, none⟩ = some (.string (S i))) := hc
  have HS : Hid (∀ i, i < n → (S i).size ≤ 9223372036854775807) := hS
  have hnil := fun wx c' => run_neq_slice_nil_any (P := Try.prog) wx 25 9 (some ⟨b, off, none⟩) n c' 0 0 Try.underlying25
  clear hc hS hx
  go_enter Try.func5, Try.ntmps5
  go_wp2_with (go_at_call 10; refine (bytes_any _ _ _ _ _ _ _ HB.out HX.out).mono ?_; rintro r w1 ⟨⟨v, rfl⟩, hw1⟩; obtain rfl : w = w1 := hw1.symm)
  · go_ret; exact ⟨rfl, Below.refl _ _⟩
  go_loop [7, 8] (fun z i => ∃ k m : Nat, k ≤ n ∧ m ≤ 1048576 ∧ z = .int .i64 m ∧ i = .int .i64 k) (fun _ i => n - (intOf i).toNat)
  case atStart => exact ⟨0, x.size + 8 * n, Nat.zero_le _, h3, by go_num, rfl⟩
  case round =>
    obtain ⟨k, m, hk, hm, rfl, rfl⟩ := hrel
    by_cases hlt : k < n
    · have hck := HC.out k hlt
      have hSk := HS.out k hlt
      go_wp2
      · go_ret; exact ⟨rfl, Below.refl _ _⟩
      · go_ret; exact ⟨rfl, Below.refl _ _⟩
      · go_round
        case rel => exact ⟨k + 1, m + (S k).size, by omega, by omega, by go_num, by go_num⟩
        case measure => simp [intOf]; omega
    · go_wp2
      clear hk hm hlt
      go_loopw [9] (fun i wr => ∃ k q : Nat, k < n ∧ i = .int .i64 ((k + 1 : Nat) : Int) ∧ wr = w.drewN q ∧ Asc S (k + 1)) (fun i _ => n - (intOf i).toNat)
      case atStart => exact ⟨0, 0, hn, rfl, rfl, fun j h1 h2 => by omega⟩
      case round =>
        obtain ⟨k2, q, hk2, rfl, rfl, hasc⟩ := hrel
        have HA : Hid (Asc S (k2 + 1)) := hasc
        clear hasc
        by_cases hlt2 : k2 + 1 < n
        · have hc1 := HC.out k2 (by omega)
          have hc2 := HC.out (k2 + 1) hlt2
          have hb1 : (k2 : Int) < (n : Int) := by omega
          have hb2 : (k2 : Int) + 1 < (n : Int) := by omega
          cases hl : Op.bytesLess (S k2).toList (S (k2 + 1)).toList
          · go_wp2
            go_quiet (fail)
            go_wp2
            go_ret
            exact ⟨rfl, (below_drewN' w q).trans (below_drewN' (w.drewN q) nq)⟩
          · go_wp2
            go_quiet (fail)
            go_wp2
            go_roundw
            case rel => exact ⟨k2 + 1, _, by omega, by go_num, rfl, asc_succ HA.out hl⟩
            case measure => simp [intOf]; omega
        · have HA' : Hid (Asc S n) := by rw [show n = k2 + 1 by omega]; exact HA.out
          obtain ⟨i0, hi, hz0, hz1, hz2⟩ := info_parts Try.info9
          go_wp2_with (at_make; refine wpList_make_full _ rfl (.tmp 78) (.tmp 78) 25 rfl w.heap.size 9 i0 (.string ByteArray.empty) 1 Try.underlying25 hi hz0 hz1 _ _ _ _ n rfl rfl rfl rfl ?c1 ?c2 ?c3 ?_)
          case c1 => rw [hz2]; omega
          case c2 => unfold maxLen; omega
          case c3 => simp
          intro w3 hown0 hgrow
          have hown : w3.ownsRow w.heap.size 9 1 (.slice (some ⟨w.heap.size, 0, none⟩) n n) n (filled S n 0) := by rw [← filled_zero]; exact hown0
          have hb3 : Below w.heap.size w w3 := (below_drewN' w q).grown hgrow (Nat.le_refl _) (by intro k h; cases h)
          clear hown0 hgrow hi hz0 hz1 hz2
          have HO : Hid (w3.ownsRow w.heap.size 9 1 (.slice (some ⟨w.heap.size, 0, none⟩) n n) n (filled S n 0)) := hown
          clear hown
          go_wp2
          go_loopw [11] (fun i wr => ∃ k : Nat, k ≤ n ∧ i = .int .i64 k ∧ Hid (wr.ownsRow w.heap.size 9 1 (.slice (some ⟨w.heap.size, 0, none⟩) n n) n (filled S n k)) ∧ Below w.heap.size w wr) (fun i _ => n - (intOf i).toNat)
          case atStart => exact ⟨0, Nat.zero_le _, rfl, HO, hb3⟩
          case round =>
            obtain ⟨k3, hk3, rfl, HR, hbr⟩ := hrel
            clear HO hb3
            by_cases hlt3 : k3 < n
            · have hcs : wr.cell? ⟨b, off + k3, none⟩ = some (.string (S k3)) := by rw [hbr.cell (p := ⟨b, off + k3, none⟩) (lt_of_cell (HC.out k3 hlt3))]; exact HC.out k3 hlt3
              have hcd : wr.cell? ⟨w.heap.size, k3, none⟩ = some (.string ByteArray.empty) := by rw [HR.out.cellAt k3 (by omega), filled_at S n k3 k3 hlt3, if_neg (by omega)]
              have hcf : wr.frozen? ⟨w.heap.size, k3, none⟩ = false := HR.out.frozenAt k3
              go_wp2
              go_roundw
              case rel => exact ⟨k3 + 1, by omega, by go_num, by rw [← filled_set S n k3 hlt3]; exact (HR.out.stored k3 _).1, hbr.setCell (Nat.le_refl _) _⟩
              case measure => simp [intOf]; omega
            · obtain rfl : n = k3 := by omega
              go_wp2_with (go_at_call 11; refine (make_any _ _ _ _ _).mono ?_; rintro r w4 ⟨rfl, rfl⟩)
              have hz : w.heap.size < wr.heap.size := lt_of_cell (HR.out.cellAt 0 (by omega) |>.trans (filled_at S n n 0 hn))
              have HW : Hid (∀ o1 o2 j, j < n → ((wr.alloc o1).alloc o2).cell? ⟨w.heap.size, j, none⟩ = some (.string (S j))) := fun o1 o2 j hj => by
                rw [((((Below.refl wr.heap.size wr).alloc (Nat.le_refl _) o1).alloc (by simp) o2)).cell (p := ⟨w.heap.size, j, none⟩) hz, HR.out.cellAt j (by omega), filled_at S n n j hj, if_pos hj]
              go_loop [13, 14] (fun z i => ∃ k : Nat, k ≤ n ∧ z = .bool (anyEq S x k) ∧ i = .int .i64 k) (fun _ i => n - (intOf i).toNat)
              case atStart => exact ⟨0, Nat.zero_le _, rfl, rfl⟩
              case round =>
                obtain ⟨k4, hk4, rfl, rfl⟩ := hrel
                by_cases hlt4 : k4 < n
                · have hcl : wr.cell? ⟨w.heap.size, k4, none⟩ = some (.string (S k4)) := by rw [HR.out.cellAt k4 (by omega), filled_at S n n k4 hlt4, if_pos hlt4]
                  have hsucc := anyEq_succ S x k4
                  cases heq : ((S k4).toList == x.toList)
                  · rw [heq, Bool.or_false] at hsucc
                    have HQ : Hid (anyEq S x (k4 + 1) = anyEq S x k4) := hsucc
                    clear hsucc
                    go_wp2
                    go_round
                    case rel => exact ⟨k4 + 1, by omega, by rw [HQ.out], by go_num⟩
                    case measure => simp [intOf]; omega
                  · rw [heq, Bool.or_true] at hsucc
                    have HQ : Hid (anyEq S x (k4 + 1) = true) := hsucc
                    clear hsucc
                    go_wp2
                    go_round
                    case rel => exact ⟨k4 + 1, by omega, by rw [HQ.out], by go_num⟩
                    case measure => simp [intOf]; omega
                · obtain rfl : n = k4 := by omega
                  go_wp2_with (go_at_call 12; refine (has_any false _ _ _ S x _ ⟨Or.inr ⟨_, _, rfl, fun j hj => by rw [Nat.zero_add]; exact HW.out _ _ j hj⟩, by unfold maxLen; omega, by intro i hi; unfold maxLen; exact HS.out i hi⟩ (by omega) (fun _ => HA'.out)).mono ?_; rintro r w5 ⟨rfl, hb5⟩)
                  go_ret
                  refine ⟨?_, (hbr.trans ((((Below.refl wr.heap.size wr).alloc (Nat.le_refl _) _).alloc (by simp) _).mono (by omega))).trans (hb5.mono (by simp; omega))⟩
                  simp
set_option maxHeartbeats 4000000 in
theorem law_some_t (b off n c : Nat) (S : Nat → ByteArray) (x : ByteArray) (w : World) (hc : ∀ i, i < n → w.cell? ⟨b, off + i, none⟩ = some (.string (S i)))
    (hn : 0 < n) (hS : ∀ i, i < n → (S i).size ≤ maxLen) (hx : x.size ≤ maxLen) (h1 : n ≤ 131072) (h2 : x.size ≤ 1048576) (h3 : x.size + 8 * n ≤ 1048576) :
    Calls Try.prog 5 #[.bool true, .slice (some ⟨b, off, none⟩) n c, .string x] w fun r w' => r = .returned (.bool true) ∧ Below w.heap.size w w' := by
  have HB : Hid (Strs w (some ⟨b, off, none⟩) n S) := ⟨Or.inr ⟨b, off, rfl, hc⟩, by unfold maxLen; omega, hS⟩
  have HX : Hid (x.size ≤ maxLen) := hx
  unfold maxLen at hS
  have HC : Hid (∀ i, i < n → w.cell? ⟨b, off + i, none⟩ = some (.string (S i))) := hc
  have HS : Hid (∀ i, i < n → (S i).size ≤ 9223372036854775807) := hS
  have hnil := fun wx c' => run_neq_slice_nil_any (P := Try.prog) wx 25 9 (some ⟨b, off, none⟩) n c' 0 0 Try.underlying25
  clear hc hS hx
  go_enter Try.func5, Try.ntmps5
  go_wp2_with (go_at_call 10; refine (bytes_any _ _ _ _ _ _ _ HB.out HX.out).mono ?_; rintro r w1 ⟨⟨v, rfl⟩, hw1⟩; obtain rfl : w = w1 := hw1.symm)
  · go_ret; exact ⟨rfl, Below.refl _ _⟩
  go_loop [7, 8] (fun z i => ∃ k m : Nat, k ≤ n ∧ m ≤ 1048576 ∧ z = .int .i64 m ∧ i = .int .i64 k) (fun _ i => n - (intOf i).toNat)
  case atStart => exact ⟨0, x.size + 8 * n, Nat.zero_le _, h3, by go_num, rfl⟩
  case round =>
    obtain ⟨k, m, hk, hm, rfl, rfl⟩ := hrel
    by_cases hlt : k < n
    · have hck := HC.out k hlt
      have hSk := HS.out k hlt
      go_wp2
      · go_ret; exact ⟨rfl, Below.refl _ _⟩
      · go_ret; exact ⟨rfl, Below.refl _ _⟩
      · go_round
        case rel => exact ⟨k + 1, m + (S k).size, by omega, by omega, by go_num, by go_num⟩
        case measure => simp [intOf]; omega
    · obtain ⟨i0, hi, hz0, hz1, hz2⟩ := info_parts Try.info9
      go_wp2_with (at_make; refine wpList_make_full _ rfl (.tmp 78) (.tmp 78) 25 rfl w.heap.size 9 i0 (.string ByteArray.empty) 1 Try.underlying25 hi hz0 hz1 _ _ _ _ n rfl rfl rfl rfl (by rw [hz2]; omega) (by unfold maxLen; omega) (Nat.le_refl _) ?_)
      intro w3 hown0 hgrow
      have hown : w3.ownsRow w.heap.size 9 1 (.slice (some ⟨w.heap.size, 0, none⟩) n n) n (filled S n 0) := by rw [← filled_zero]; exact hown0
      have hb3 : Below w.heap.size w w3 := (Below.refl _ _).grown hgrow (Nat.le_refl _) (by intro k h; cases h)
      clear hown0 hgrow hi hz0 hz1 hz2
      have HO : Hid (w3.ownsRow w.heap.size 9 1 (.slice (some ⟨w.heap.size, 0, none⟩) n n) n (filled S n 0)) := hown
      clear hown
      go_wp2
      go_loopw [11] (fun i wr => ∃ k : Nat, k ≤ n ∧ i = .int .i64 k ∧ Hid (wr.ownsRow w.heap.size 9 1 (.slice (some ⟨w.heap.size, 0, none⟩) n n) n (filled S n k)) ∧ Below w.heap.size w wr) (fun i _ => n - (intOf i).toNat)
      case atStart => exact ⟨0, Nat.zero_le _, rfl, HO, hb3⟩
      case round =>
        obtain ⟨k3, hk3, rfl, HR, hbr⟩ := hrel
        clear HO hb3
        by_cases hlt3 : k3 < n
        · have hcs : wr.cell? ⟨b, off + k3, none⟩ = some (.string (S k3)) := by rw [hbr.cell (p := ⟨b, off + k3, none⟩) (lt_of_cell (HC.out k3 hlt3))]; exact HC.out k3 hlt3
          have hcd : wr.cell? ⟨w.heap.size, k3, none⟩ = some (.string ByteArray.empty) := by rw [HR.out.cellAt k3 (by omega), filled_at S n k3 k3 hlt3, if_neg (by omega)]
          have hcf : wr.frozen? ⟨w.heap.size, k3, none⟩ = false := HR.out.frozenAt k3
          go_wp2
          go_roundw
          case rel => exact ⟨k3 + 1, by omega, by go_num, by rw [← filled_set S n k3 hlt3]; exact (HR.out.stored k3 _).1, hbr.setCell (Nat.le_refl _) _⟩
          case measure => simp [intOf]; omega
        · obtain rfl : n = k3 := by omega
          go_wp2_with (go_at_call 11; refine (make_any _ _ _ _ _).mono ?_; rintro r w4 ⟨rfl, rfl⟩)
          have hz : w.heap.size < wr.heap.size := lt_of_cell (HR.out.cellAt 0 (by omega) |>.trans (filled_at S n n 0 hn))
          have HW : Hid (∀ o1 o2 j, j < n → ((wr.alloc o1).alloc o2).cell? ⟨w.heap.size, j, none⟩ = some (.string (S j))) := fun o1 o2 j hj => by
            rw [((((Below.refl wr.heap.size wr).alloc (Nat.le_refl _) o1).alloc (by simp) o2)).cell (p := ⟨w.heap.size, j, none⟩) hz, HR.out.cellAt j (by omega), filled_at S n n j hj, if_pos hj]
          go_loop [13, 14] (fun z i => ∃ k : Nat, k ≤ n ∧ z = .bool true ∧ i = .int .i64 k) (fun _ i => n - (intOf i).toNat)
          case atStart => exact ⟨0, Nat.zero_le _, rfl, rfl⟩
          case round =>
            obtain ⟨k4, hk4, rfl, rfl⟩ := hrel
            by_cases hlt4 : k4 < n
            · have hcl : wr.cell? ⟨w.heap.size, k4, none⟩ = some (.string (S k4)) := by rw [HR.out.cellAt k4 (by omega), filled_at S n n k4 hlt4, if_pos hlt4]
              cases heq : ((S k4).toList == x.toList)
              all_goals
                go_wp2
                go_round
                case rel => exact ⟨k4 + 1, by omega, rfl, by go_num⟩
                case measure => simp [intOf]; omega
            · obtain rfl : n = k4 := by omega
              go_wp2_with (go_at_call 12; refine (has_any true _ _ _ S x _ ⟨Or.inr ⟨_, _, rfl, fun j hj => by rw [Nat.zero_add]; exact HW.out _ _ j hj⟩, by unfold maxLen; omega, by intro i hi; unfold maxLen; exact HS.out i hi⟩ (by omega) (fun h => by cases h)).mono ?_; rintro r w5 ⟨rfl, hb5⟩)
              go_ret
              refine ⟨?_, (hbr.trans ((((Below.refl wr.heap.size wr).alloc (Nat.le_refl _) _).alloc (by simp) _).mono (by omega))).trans (hb5.mono (by simp; omega))⟩
              simp

set_option maxHeartbeats 4000000 in
theorem law_zero (e : Bool) (a : Option Addr) (c : Nat) (x : ByteArray) (w : World) (hx : x.size ≤ maxLen) (h2 : x.size ≤ 1048576) :
    Calls Try.prog 5 #[.bool e, .slice a 0 c, .string x] w fun r w' => r = .returned (.bool true) ∧ Below w.heap.size w w' := by
  have HB : Hid (Strs w a 0 (fun _ => ByteArray.empty)) := ⟨Or.inl rfl, by unfold maxLen; omega, by intro i hi; omega⟩
  have HX : Hid (x.size ≤ maxLen) := hx
  have hnil := fun wx c' => run_neq_slice_nil_any (P := Try.prog) wx 25 9 a 0 c' 0 0 Try.underlying25
  clear hx
  obtain ⟨i0, hi, hz0, hz1, hz2⟩ := info_parts Try.info9
  have hzz := anyEq_zero (fun _ => ByteArray.empty) x
  rcases a with _ | y <;> cases e
  · skip
    go_enter Try.func5, Try.ntmps5
    go_wp2_with (go_at_call 10; refine (bytes_any _ _ _ _ _ _ _ HB.out HX.out).mono ?_; rintro r w1 ⟨⟨v, rfl⟩, hw1⟩; obtain rfl : w = w1 := hw1.symm)
    · go_ret; exact ⟨rfl, Below.refl _ _⟩
    refine wp_loop_rounds 1 ?_
    rw [rounds_succ]
    go_wp2_with (first | (at_make; refine wpList_make_full _ rfl (.tmp 78) (.tmp 78) 25 rfl w.heap.size 9 i0 (.string ByteArray.empty) 1 Try.underlying25 hi hz0 hz1 _ _ _ _ 0 rfl rfl rfl rfl (by omega) (by unfold maxLen; omega) (Nat.le_refl _) ?_; intro w3 hown0 hgrow) | (go_at_call 11; refine (make_any _ _ _ _ _).mono ?_; rintro r w4 ⟨rfl, rfl⟩) | (go_at_call 12; refine (has_any _ _ _ _ (fun _ => ByteArray.empty) x _ ⟨Or.inl rfl, by unfold maxLen; omega, by intro i hi; omega⟩ (by omega) (fun _ => by intro j h1 h2; omega)).mono ?_; rintro r w5 ⟨rfl, hb5⟩))
    refine wp_loop_rounds 1 ?_
    rw [rounds_succ]
    go_wp2_with (first | (at_make; refine wpList_make_full _ rfl (.tmp 78) (.tmp 78) 25 rfl w.heap.size 9 i0 (.string ByteArray.empty) 1 Try.underlying25 hi hz0 hz1 _ _ _ _ 0 rfl rfl rfl rfl (by omega) (by unfold maxLen; omega) (Nat.le_refl _) ?_; intro w3 hown0 hgrow) | (go_at_call 11; refine (make_any _ _ _ _ _).mono ?_; rintro r w4 ⟨rfl, rfl⟩) | (go_at_call 12; refine (has_any _ _ _ _ (fun _ => ByteArray.empty) x _ ⟨Or.inl rfl, by unfold maxLen; omega, by intro i hi; omega⟩ (by omega) (fun _ => by intro j h1 h2; omega)).mono ?_; rintro r w5 ⟨rfl, hb5⟩))
    refine wp_loop_rounds 1 ?_
    rw [rounds_succ]
    go_wp2_with (first | (at_make; refine wpList_make_full _ rfl (.tmp 78) (.tmp 78) 25 rfl w.heap.size 9 i0 (.string ByteArray.empty) 1 Try.underlying25 hi hz0 hz1 _ _ _ _ 0 rfl rfl rfl rfl (by omega) (by unfold maxLen; omega) (Nat.le_refl _) ?_; intro w3 hown0 hgrow) | (go_at_call 11; refine (make_any _ _ _ _ _).mono ?_; rintro r w4 ⟨rfl, rfl⟩) | (go_at_call 12; refine (has_any _ _ _ _ (fun _ => ByteArray.empty) x _ ⟨Or.inl rfl, by unfold maxLen; omega, by intro i hi; omega⟩ (by omega) (fun _ => by intro j h1 h2; omega)).mono ?_; rintro r w5 ⟨rfl, hb5⟩))
    go_ret
    exact ⟨by simp, ((((Below.refl w.heap.size w).alloc (Nat.le_refl _) _).alloc (by simp) _)).trans (hb5.mono (by simp; omega))⟩
  · skip
    go_enter Try.func5, Try.ntmps5
    go_wp2_with (go_at_call 10; refine (bytes_any _ _ _ _ _ _ _ HB.out HX.out).mono ?_; rintro r w1 ⟨⟨v, rfl⟩, hw1⟩; obtain rfl : w = w1 := hw1.symm)
    · go_ret; exact ⟨rfl, Below.refl _ _⟩
    refine wp_loop_rounds 1 ?_
    rw [rounds_succ]
    go_wp2_with (first | (at_make; refine wpList_make_full _ rfl (.tmp 78) (.tmp 78) 25 rfl w.heap.size 9 i0 (.string ByteArray.empty) 1 Try.underlying25 hi hz0 hz1 _ _ _ _ 0 rfl rfl rfl rfl (by omega) (by unfold maxLen; omega) (Nat.le_refl _) ?_; intro w3 hown0 hgrow) | (go_at_call 11; refine (make_any _ _ _ _ _).mono ?_; rintro r w4 ⟨rfl, rfl⟩) | (go_at_call 12; refine (has_any _ _ _ _ (fun _ => ByteArray.empty) x _ ⟨Or.inl rfl, by unfold maxLen; omega, by intro i hi; omega⟩ (by omega) (fun _ => by intro j h1 h2; omega)).mono ?_; rintro r w5 ⟨rfl, hb5⟩))
    refine wp_loop_rounds 1 ?_
    rw [rounds_succ]
    go_wp2_with (first | (at_make; refine wpList_make_full _ rfl (.tmp 78) (.tmp 78) 25 rfl w.heap.size 9 i0 (.string ByteArray.empty) 1 Try.underlying25 hi hz0 hz1 _ _ _ _ 0 rfl rfl rfl rfl (by omega) (by unfold maxLen; omega) (Nat.le_refl _) ?_; intro w3 hown0 hgrow) | (go_at_call 11; refine (make_any _ _ _ _ _).mono ?_; rintro r w4 ⟨rfl, rfl⟩) | (go_at_call 12; refine (has_any _ _ _ _ (fun _ => ByteArray.empty) x _ ⟨Or.inl rfl, by unfold maxLen; omega, by intro i hi; omega⟩ (by omega) (fun _ => by intro j h1 h2; omega)).mono ?_; rintro r w5 ⟨rfl, hb5⟩))
    go_ret
    exact ⟨by simp, ((((Below.refl w.heap.size w).alloc (Nat.le_refl _) _).alloc (by simp) _)).trans (hb5.mono (by simp; omega))⟩
  · skip
    go_enter Try.func5, Try.ntmps5
    go_wp2_with (go_at_call 10; refine (bytes_any _ _ _ _ _ _ _ HB.out HX.out).mono ?_; rintro r w1 ⟨⟨v, rfl⟩, hw1⟩; obtain rfl : w = w1 := hw1.symm)
    · go_ret; exact ⟨rfl, Below.refl _ _⟩
    refine wp_loop_rounds 1 ?_
    rw [rounds_succ]
    go_wp2_with (first | (at_make; refine wpList_make_full _ rfl (.tmp 78) (.tmp 78) 25 rfl w.heap.size 9 i0 (.string ByteArray.empty) 1 Try.underlying25 hi hz0 hz1 _ _ _ _ 0 rfl rfl rfl rfl (by omega) (by unfold maxLen; omega) (Nat.le_refl _) ?_; intro w3 hown0 hgrow) | (go_at_call 11; refine (make_any _ _ _ _ _).mono ?_; rintro r w4 ⟨rfl, rfl⟩) | (go_at_call 12; refine (has_any _ _ _ _ (fun _ => ByteArray.empty) x _ ⟨Or.inl rfl, by unfold maxLen; omega, by intro i hi; omega⟩ (by omega) (fun _ => by intro j h1 h2; omega)).mono ?_; rintro r w5 ⟨rfl, hb5⟩))
    refine wp_loop_rounds 1 ?_
    rw [rounds_succ]
    go_wp2_with (first | (at_make; refine wpList_make_full _ rfl (.tmp 78) (.tmp 78) 25 rfl w.heap.size 9 i0 (.string ByteArray.empty) 1 Try.underlying25 hi hz0 hz1 _ _ _ _ 0 rfl rfl rfl rfl (by omega) (by unfold maxLen; omega) (Nat.le_refl _) ?_; intro w3 hown0 hgrow) | (go_at_call 11; refine (make_any _ _ _ _ _).mono ?_; rintro r w4 ⟨rfl, rfl⟩) | (go_at_call 12; refine (has_any _ _ _ _ (fun _ => ByteArray.empty) x _ ⟨Or.inl rfl, by unfold maxLen; omega, by intro i hi; omega⟩ (by omega) (fun _ => by intro j h1 h2; omega)).mono ?_; rintro r w5 ⟨rfl, hb5⟩))
    refine wp_loop_rounds 1 ?_
    rw [rounds_succ]
    go_wp2_with (first | (at_make; refine wpList_make_full _ rfl (.tmp 78) (.tmp 78) 25 rfl w.heap.size 9 i0 (.string ByteArray.empty) 1 Try.underlying25 hi hz0 hz1 _ _ _ _ 0 rfl rfl rfl rfl (by omega) (by unfold maxLen; omega) (Nat.le_refl _) ?_; intro w3 hown0 hgrow) | (go_at_call 11; refine (make_any _ _ _ _ _).mono ?_; rintro r w4 ⟨rfl, rfl⟩) | (go_at_call 12; refine (has_any _ _ _ _ (fun _ => ByteArray.empty) x _ ⟨Or.inl rfl, by unfold maxLen; omega, by intro i hi; omega⟩ (by omega) (fun _ => by intro j h1 h2; omega)).mono ?_; rintro r w5 ⟨rfl, hb5⟩))
    refine wp_loop_rounds 1 ?_
    rw [rounds_succ]
    go_wp2_with (first | (at_make; refine wpList_make_full _ rfl (.tmp 78) (.tmp 78) 25 rfl w.heap.size 9 i0 (.string ByteArray.empty) 1 Try.underlying25 hi hz0 hz1 _ _ _ _ 0 rfl rfl rfl rfl (by omega) (by unfold maxLen; omega) (Nat.le_refl _) ?_; intro w3 hown0 hgrow) | (go_at_call 11; refine (make_any _ _ _ _ _).mono ?_; rintro r w4 ⟨rfl, rfl⟩) | (go_at_call 12; refine (has_any _ _ _ _ (fun _ => ByteArray.empty) x _ ⟨Or.inl rfl, by unfold maxLen; omega, by intro i hi; omega⟩ (by omega) (fun _ => by intro j h1 h2; omega)).mono ?_; rintro r w5 ⟨rfl, hb5⟩))
    go_ret
    have hb3 : Below w.heap.size w w3 := (Below.refl _ _).grown hgrow (Nat.le_refl _) (by intro k h; cases h)
    exact ⟨by simp, (hb3.trans ((((Below.refl w3.heap.size w3).alloc (Nat.le_refl _) _).alloc (by simp) _).mono hb3.size)).trans (hb5.mono (by have := hb3.size; simp; omega))⟩
  · skip
    go_enter Try.func5, Try.ntmps5
    go_wp2_with (go_at_call 10; refine (bytes_any _ _ _ _ _ _ _ HB.out HX.out).mono ?_; rintro r w1 ⟨⟨v, rfl⟩, hw1⟩; obtain rfl : w = w1 := hw1.symm)
    · go_ret; exact ⟨rfl, Below.refl _ _⟩
    refine wp_loop_rounds 1 ?_
    rw [rounds_succ]
    go_wp2_with (first | (at_make; refine wpList_make_full _ rfl (.tmp 78) (.tmp 78) 25 rfl w.heap.size 9 i0 (.string ByteArray.empty) 1 Try.underlying25 hi hz0 hz1 _ _ _ _ 0 rfl rfl rfl rfl (by omega) (by unfold maxLen; omega) (Nat.le_refl _) ?_; intro w3 hown0 hgrow) | (go_at_call 11; refine (make_any _ _ _ _ _).mono ?_; rintro r w4 ⟨rfl, rfl⟩) | (go_at_call 12; refine (has_any _ _ _ _ (fun _ => ByteArray.empty) x _ ⟨Or.inl rfl, by unfold maxLen; omega, by intro i hi; omega⟩ (by omega) (fun _ => by intro j h1 h2; omega)).mono ?_; rintro r w5 ⟨rfl, hb5⟩))
    refine wp_loop_rounds 1 ?_
    rw [rounds_succ]
    go_wp2_with (first | (at_make; refine wpList_make_full _ rfl (.tmp 78) (.tmp 78) 25 rfl w.heap.size 9 i0 (.string ByteArray.empty) 1 Try.underlying25 hi hz0 hz1 _ _ _ _ 0 rfl rfl rfl rfl (by omega) (by unfold maxLen; omega) (Nat.le_refl _) ?_; intro w3 hown0 hgrow) | (go_at_call 11; refine (make_any _ _ _ _ _).mono ?_; rintro r w4 ⟨rfl, rfl⟩) | (go_at_call 12; refine (has_any _ _ _ _ (fun _ => ByteArray.empty) x _ ⟨Or.inl rfl, by unfold maxLen; omega, by intro i hi; omega⟩ (by omega) (fun _ => by intro j h1 h2; omega)).mono ?_; rintro r w5 ⟨rfl, hb5⟩))
    refine wp_loop_rounds 1 ?_
    rw [rounds_succ]
    go_wp2_with (first | (at_make; refine wpList_make_full _ rfl (.tmp 78) (.tmp 78) 25 rfl w.heap.size 9 i0 (.string ByteArray.empty) 1 Try.underlying25 hi hz0 hz1 _ _ _ _ 0 rfl rfl rfl rfl (by omega) (by unfold maxLen; omega) (Nat.le_refl _) ?_; intro w3 hown0 hgrow) | (go_at_call 11; refine (make_any _ _ _ _ _).mono ?_; rintro r w4 ⟨rfl, rfl⟩) | (go_at_call 12; refine (has_any _ _ _ _ (fun _ => ByteArray.empty) x _ ⟨Or.inl rfl, by unfold maxLen; omega, by intro i hi; omega⟩ (by omega) (fun _ => by intro j h1 h2; omega)).mono ?_; rintro r w5 ⟨rfl, hb5⟩))
    go_ret
    have hb3 : Below w.heap.size w w3 := (Below.refl _ _).grown hgrow (Nat.le_refl _) (by intro k h; cases h)
    exact ⟨by simp, (hb3.trans ((((Below.refl w3.heap.size w3).alloc (Nat.le_refl _) _).alloc (by simp) _).mono hb3.size)).trans (hb5.mono (by have := hb3.size; simp; omega))⟩

set_option maxHeartbeats 1000000 in
theorem law_big (e : Bool) (a : Option Addr) (n c : Nat) (S : Nat → ByteArray) (x : ByteArray) (w : World) (h : Strs w a n S) (hx : x.size ≤ maxLen)
    (hno : ¬ (n ≤ 131072 ∧ x.size ≤ 1048576 ∧ x.size + 8 * n ≤ 1048576)) :
    Calls Try.prog 5 #[.bool e, .slice a n c, .string x] w fun r w' => r = .returned (.bool true) ∧ Below w.heap.size w w' := by
  have HB : Hid (Strs w a n S) := h
  have HX : Hid (x.size ≤ maxLen) := hx
  have hn := h.2.1
  unfold maxLen at hn hx
  clear h
  rcases (by omega : 131072 < n ∨ (n ≤ 131072 ∧ 1048576 < x.size) ∨ (n ≤ 131072 ∧ x.size ≤ 1048576 ∧ 1048576 < x.size + 8 * n)) with h1 | ⟨h1, h2⟩ | ⟨h1, h2, h3⟩
  all_goals
    clear hno
    go_enter Try.func5, Try.ntmps5
    go_wp2_with (go_at_call 10; refine (bytes_any _ _ _ _ _ _ _ HB.out HX.out).mono ?_; rintro r w1 ⟨⟨v, rfl⟩, hw1⟩; obtain rfl : w = w1 := hw1.symm)
    all_goals (go_ret; exact ⟨rfl, Below.refl _ _⟩)

theorem law_any (e : Bool) (a : Option Addr) (n c : Nat) (S : Nat → ByteArray) (x : ByteArray) (w : World) (h : Strs w a n S) (hx : x.size ≤ maxLen) :
    Calls Try.prog 5 #[.bool e, .slice a n c, .string x] w fun r w' => r = .returned (.bool true) ∧ Below w.heap.size w w' := by
  by_cases hno : n ≤ 131072 ∧ x.size ≤ 1048576 ∧ x.size + 8 * n ≤ 1048576
  · obtain ⟨h1, h2, h3⟩ := hno
    obtain ⟨hc, _, hS⟩ := h
    by_cases hn : n = 0
    · subst hn
      exact law_zero e a c x w hx h2
    · rcases hc with h0 | ⟨b, off, rfl, hc⟩
      · exact absurd h0 hn
      · cases e
        · exact law_some_f b off n c S x w hc (by omega) hS hx h1 h2 h3
        · exact law_some_t b off n c S x w hc (by omega) hS hx h1 h2 h3
  · exact law_big e a n c S x w h hx hno
end Go.Proofs.Qxb6602954a

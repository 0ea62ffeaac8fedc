/-
  THE WALK OF FnClientLineCaseTable.
-/
import Derived.Test.Qxb6603456aCopy
import Derived.Test.Qxb6603456aLine
import Derived.Deep.DeepCutAuto
namespace Go.Proofs.Qxb6603456a
open Go.RowKit
set_option linter.unusedVariables false

set_option maxRecDepth 100000 in
set_option maxHeartbeats 4000000 in
theorem lawC (nm : ByteArray) (a1 : Option Addr) (l1 c1 : Nat) (S1 : Nat → ByteArray) (a2 : Option Addr) (l2 c2 : Nat) (S2 : Nat → ByteArray) (ht : ByteArray) (w : World)
    (h1 : Strs w a1 l1 S1) (h2 : Strs w a2 l2 S2) (hnm : nm.size ≤ maxLen) (hht : ht.size ≤ maxLen) :
    Calls Try.prog 4 #[.string nm, .slice a1 l1 c1, .slice a2 l2 c2, .string ht] w fun r w' => r = .returned (.bool true) ∧ Below w.heap.size w w' := by
  have H1 : Hid (Strs w a1 l1 S1) := h1
  have H2 : Hid (Strs w a2 l2 S2) := h2
  have HN : Hid (nm.size ≤ maxLen) := hnm
  have HH : Hid (ht.size ≤ maxLen) := hht
  clear h1 h2 hnm hht
  have hnil := fun wx a n c' => run_neq_slice_nil_any (P := Try.prog) wx 22 9 a n c' 0 0 Try.underlying22
  go_enter Try.func4, Try.ntmps4
  go_upto_if 25 with (go_at_call 12; refine (bytesC_any _ _ _ _ S1 _ _ _ S2 _ _ H1.out H2.out HN.out HH.out).mono ?_; rintro r w1 ⟨⟨v, rfl, hv⟩, hw1⟩; obtain rfl : w = w1 := hw1.symm; have HV : Hid (v = true → l1 ≤ 1048576 ∧ l2 ≤ 1048576 ∧ nm.size ≤ 1048576 ∧ ht.size ≤ 1048576) := hv; clear hv)
  · go_ret; exact ⟨rfl, Below.refl _ _⟩
  obtain ⟨n1, n2, s1, s2⟩ := HV.out (by simpa using (by assumption : (!v) = false))
  clear HV
  obtain ⟨i0, hi, hz0, hz1, hz2⟩ := info_parts Try.info9
  go_cut [1] (fun s wc => Copied w l1 S1 s wc)
  case first =>
    rcases a1 with _ | y
    · go_wp2
      go_meet
      exact ⟨none, c1, rfl, H1.out, Below.refl _ _⟩
    · go_wp2_with (at_make; refine wpList_make_full _ rfl _ _ 22 rfl w.heap.size 9 i0 (.string ByteArray.empty) 1 Try.underlying22 hi hz0 hz1 _ _ _ _ l1 rfl rfl rfl rfl (by rw [hz2]; omega) (by unfold maxLen; omega) (Nat.le_refl _) ?_; intro w3 hown0 hgrow; have hb3 := (Below.refl w.heap.size w).grown hgrow (Nat.le_refl _) (by intro k h; cases h); rw [rowOf_zero'] at hown0; obtain ⟨w4, hrun, hG, hb4⟩ := copy_run (c := c1) (own_block hown0) (H1.out.below hb3) hb3 (Nat.le_refl _); have HG : Hid (w4.heap[w.heap.size]? = some (.cells (rowOf S1 l1).toArray 9 (0, 0))) := hG; clear hown0 hgrow hG)
      go_meet
      exact ⟨_, l1, rfl, strs_of_block HG.out (by unfold maxLen; omega) H1.out.2.2, hb4⟩
  case rest =>
    obtain ⟨wA, rfl⟩ : ∃ wA : World, wA = wc := ⟨_, rfl⟩
    obtain ⟨bA, dA, rfl, gA, hBA⟩ := hcut
    have GA : Hid (Strs wA bA l1 S1) := gA
    clear gA
    have H2A : Hid (Strs wA a2 l2 S2) := H2.out.below hBA
    go_upto_if 34 with (fail)
    go_cut [2] (fun s wc => Copied wA l2 S2 s wc)
    case first =>
      rcases a2 with _ | y
      · go_wp2
        go_meet
        exact ⟨none, c2, rfl, H2A.out, Below.refl _ _⟩
      · go_wp2_with (at_make; refine wpList_make_full _ rfl _ _ 22 rfl wA.heap.size 9 i0 (.string ByteArray.empty) 1 Try.underlying22 hi hz0 hz1 _ _ _ _ l2 rfl rfl rfl rfl (by rw [hz2]; omega) (by unfold maxLen; omega) (Nat.le_refl _) ?_; intro w3 hown0 hgrow; have hb3 := (Below.refl wA.heap.size wA).grown hgrow (Nat.le_refl _) (by intro k h; cases h); rw [rowOf_zero'] at hown0; obtain ⟨w4, hrun, hG, hb4⟩ := copy_run (c := c2) (own_block hown0) (H2A.out.below hb3) hb3 (Nat.le_refl _); have HG : Hid (w4.heap[wA.heap.size]? = some (.cells (rowOf S2 l2).toArray 9 (0, 0))) := hG; clear hown0 hgrow hG)
        go_meet
        exact ⟨_, l2, rfl, strs_of_block HG.out (by unfold maxLen; omega) H2A.out.2.2, hb4⟩
    case rest =>
      obtain ⟨wB, rfl⟩ : ∃ wB : World, wB = wc := ⟨_, rfl⟩
      obtain ⟨bB, dB, rfl, gB, hBB⟩ := hcut
      have GB : Hid (Strs wB bB l2 S2) := gB
      clear gB
      have M1 : Hid (Strs wB bA l1 S1) := GA.out.below hBB
      have hB : Below w.heap.size w wB := hBA.trans (hBB.mono hBA.size)
      clear GA hBA hBB hi hz0 hz1 hz2 hnil
      go_wp2_with fail
      refine (addStr_any 0 nm _ (by omega) (by omega) HN.out).mono ?_
      rintro r wx ⟨⟨z1, rfl, z10, z11⟩, hw⟩
      obtain rfl : wB = wx := hw.symm
      clear hw
      go_wp2_with fail
      refine (addList_any z1 bA l1 dA S1 _ z10 z11 M1.out).mono ?_
      rintro r wx ⟨⟨z2, rfl, z20, z21⟩, hw⟩
      obtain rfl : wB = wx := hw.symm
      clear hw
      go_wp2_with fail
      refine (addList_any z2 bB l2 dB S2 _ z20 z21 GB.out).mono ?_
      rintro r wx ⟨⟨z3, rfl, z30, z31⟩, hw⟩
      obtain rfl : wB = wx := hw.symm
      clear hw
      go_wp2_with fail
      refine (addStr_any z3 ht _ z30 z31 HH.out).mono ?_
      rintro r wx ⟨⟨z4, rfl, z40, z41⟩, hw⟩
      obtain rfl : wB = wx := hw.symm
      clear hw
      go_wp2_with fail
      · go_ret
        exact ⟨rfl, hB⟩
      cases hD : anyEq S2 ⟨#[46, 100, 101, 98]⟩ l2
      · cases hR : anyEq S2 ⟨#[46, 114, 112, 109]⟩ l2
        · skip
          obtain ⟨LN, hLN⟩ : ∃ LN : ByteArray, ((⟨#[104, 116, 116, 112, 58, 47, 47]⟩ ++ ht ++ ⟨#[47]⟩ ++ nm : ByteArray) ++ ⟨#[47]⟩) = LN := ⟨_, rfl⟩
          have HLN : Hid (((⟨#[104, 116, 116, 112, 58, 47, 47]⟩ ++ ht ++ ⟨#[47]⟩ ++ nm : ByteArray) ++ ⟨#[47]⟩) = LN) := hLN
          refine (zl_none nm bA l1 dA bB l2 dB S2 ht _ GB.out s1 s2 hD hR).mono ?_
          rintro r w1 ⟨rfl, hb1⟩
          rw [hLN]
          clear hLN
          have G1 : Hid (Strs w1 bB l2 S2) := GB.out.below hb1
          have hB1 : Below w.heap.size w w1 := hB.trans (hb1.mono hB.size)
          clear hb1
          go_wp2_with fail
          refine (last_any bB l2 dB S2 _ _ G1.out).mono ?_
          rintro r wx ⟨⟨y1, rfl, hy1⟩, hw⟩
          obtain rfl : w1 = wx := hw.symm
          clear hw
          rw [hD] at hy1
          go_wp2_with fail
          refine (last_any bB l2 dB S2 _ _ G1.out).mono ?_
          rintro r wx ⟨⟨y2, rfl, hy2⟩, hw⟩
          obtain rfl : w1 = wx := hw.symm
          clear hw
          rw [hR] at hy2
          go_wp2_with fail
          refine (can_none _).mono ?_
          rintro r w2 ⟨rfl, hw2⟩
          obtain rfl : w1 = w2 := hw2.symm
          have hB2 := hB1
          go_wp2_with fail
          refine (zl_none nm none 0 0 none 0 0 S2 ht _ (Strs.zero _ _ _) s1 s2 (anyEq_zero _ _) (anyEq_zero _ _)).mono ?_
          rintro r w3 ⟨rfl, hb3⟩
          have hB3 : Below w.heap.size w w3 := hB2.trans (hb3.mono hB2.size)
          clear hb3
          rw [HLN.out]
          go_wp2_with fail
          refine (framed_ok LN ⟨#[104, 116, 116, 112, 58, 47, 47]⟩ ht ⟨#[47]⟩ nm ⟨#[47]⟩ _ (by rw [← HLN.out]; simp [ByteArray.data_append]) (by rw [← HLN.out]; simp only [ByteArray.size_append]; have : (⟨#[104, 116, 116, 112, 58, 47, 47]⟩ : ByteArray).size = 7 := rfl; have : (⟨#[47]⟩ : ByteArray).size = 1 := rfl; omega)).mono ?_
          rintro r w4 ⟨rfl, hb4⟩
          go_wp2
          go_ret
          exact ⟨rfl, hB3.trans (hb4.mono hB3.size)⟩
        · skip
          obtain ⟨LN, hLN⟩ : ∃ LN : ByteArray, (⟨#[98, 97, 115, 101, 117, 114, 108, 61]⟩ ++ (⟨#[104, 116, 116, 112, 58, 47, 47]⟩ ++ ht ++ ⟨#[47]⟩ ++ nm : ByteArray) ++ ⟨#[47, 60, 112, 97, 116, 104, 62]⟩) = LN := ⟨_, rfl⟩
          have HLN : Hid ((⟨#[98, 97, 115, 101, 117, 114, 108, 61]⟩ ++ (⟨#[104, 116, 116, 112, 58, 47, 47]⟩ ++ ht ++ ⟨#[47]⟩ ++ nm : ByteArray) ++ ⟨#[47, 60, 112, 97, 116, 104, 62]⟩) = LN) := hLN
          refine (zl_rpm nm bA l1 dA bB l2 dB S2 ht _ GB.out s1 s2 hD hR).mono ?_
          rintro r w1 ⟨rfl, hb1⟩
          rw [hLN]
          clear hLN
          have G1 : Hid (Strs w1 bB l2 S2) := GB.out.below hb1
          have hB1 : Below w.heap.size w w1 := hB.trans (hb1.mono hB.size)
          clear hb1
          go_wp2_with fail
          refine (last_any bB l2 dB S2 _ _ G1.out).mono ?_
          rintro r wx ⟨⟨y1, rfl, hy1⟩, hw⟩
          obtain rfl : w1 = wx := hw.symm
          clear hw
          rw [hD] at hy1
          go_wp2_with fail
          refine (last_any bB l2 dB S2 _ _ G1.out).mono ?_
          rintro r wx ⟨⟨y2, rfl, hy2⟩, hw⟩
          obtain rfl : w1 = wx := hw.symm
          clear hw
          rw [hR] at hy2
          go_wp2_with fail
          refine (can_rpm _).mono ?_
          rintro r w2 ⟨rfl, hw2⟩
          have hO : Strs w2 (some ⟨w1.heap.size, 0, none⟩) 1 (fun _ => ⟨#[46, 114, 112, 109]⟩) := by rw [hw2]; exact one_strs w1 ⟨#[46, 114, 112, 109]⟩ (by unfold maxLen; decide)
          have HO : Hid (Strs w2 (some ⟨w1.heap.size, 0, none⟩) 1 (fun _ => ⟨#[46, 114, 112, 109]⟩)) := hO
          have hB2 : Below w.heap.size w w2 := by rw [hw2]; exact hB1.trans ((below_alloc w1 _).mono hB1.size)
          clear hw2 hO
          go_wp2_with fail
          refine (zl_rpm nm none 0 0 _ 1 1 (fun _ => ⟨#[46, 114, 112, 109]⟩) ht _ HO.out s1 s2 (by decide +kernel) (anyEq_one _)).mono ?_
          rintro r w3 ⟨rfl, hb3⟩
          have hB3 : Below w.heap.size w w3 := hB2.trans (hb3.mono hB2.size)
          clear hb3
          rw [HLN.out]
          go_wp2_with fail
          refine (framed_ok LN ⟨#[98, 97, 115, 101, 117, 114, 108, 61, 104, 116, 116, 112, 58, 47, 47]⟩ ht ⟨#[47]⟩ nm ⟨#[47, 60, 112, 97, 116, 104, 62]⟩ _ (by rw [← HLN.out]; simp [ByteArray.data_append]) (by rw [← HLN.out]; simp only [ByteArray.size_append]; have : (⟨#[98, 97, 115, 101, 117, 114, 108, 61]⟩ : ByteArray).size = 8 := rfl; have : (⟨#[104, 116, 116, 112, 58, 47, 47]⟩ : ByteArray).size = 7 := rfl; have : (⟨#[47]⟩ : ByteArray).size = 1 := rfl; have : (⟨#[47, 60, 112, 97, 116, 104, 62]⟩ : ByteArray).size = 7 := rfl; omega)).mono ?_
          rintro r w4 ⟨rfl, hb4⟩
          go_wp2
          go_ret
          exact ⟨rfl, hB3.trans (hb4.mono hB3.size)⟩
      · skip
        obtain ⟨LN, hLN⟩ : ∃ LN : ByteArray, (⟨#[100, 101, 98, 32]⟩ ++ (⟨#[104, 116, 116, 112, 58, 47, 47]⟩ ++ ht ++ ⟨#[47]⟩ ++ nm : ByteArray) ++ ⟨#[32, 60, 114, 101, 108, 101, 97, 115, 101, 62, 32, 109, 97, 105, 110]⟩) = LN := ⟨_, rfl⟩
        have HLN : Hid ((⟨#[100, 101, 98, 32]⟩ ++ (⟨#[104, 116, 116, 112, 58, 47, 47]⟩ ++ ht ++ ⟨#[47]⟩ ++ nm : ByteArray) ++ ⟨#[32, 60, 114, 101, 108, 101, 97, 115, 101, 62, 32, 109, 97, 105, 110]⟩) = LN) := hLN
        refine (zl_deb nm bA l1 dA bB l2 dB S2 ht _ GB.out s1 s2 hD).mono ?_
        rintro r w1 ⟨rfl, hb1⟩
        rw [hLN]
        clear hLN
        have G1 : Hid (Strs w1 bB l2 S2) := GB.out.below hb1
        have hB1 : Below w.heap.size w w1 := hB.trans (hb1.mono hB.size)
        clear hb1
        go_wp2_with fail
        refine (last_any bB l2 dB S2 _ _ G1.out).mono ?_
        rintro r wx ⟨⟨y1, rfl, hy1⟩, hw⟩
        obtain rfl : w1 = wx := hw.symm
        clear hw
        rw [hD] at hy1
        go_wp2_with fail
        refine (last_any bB l2 dB S2 _ _ G1.out).mono ?_
        rintro r wx ⟨⟨y2, rfl, hy2⟩, hw⟩
        obtain rfl : w1 = wx := hw.symm
        clear hw
        skip
        go_wp2_with fail
        refine (can_deb _ _).mono ?_
        rintro r w2 ⟨rfl, hw2⟩
        have hO : Strs w2 (some ⟨w1.heap.size, 0, none⟩) 1 (fun _ => ⟨#[46, 100, 101, 98]⟩) := by rw [hw2]; exact one_strs w1 ⟨#[46, 100, 101, 98]⟩ (by unfold maxLen; decide)
        have HO : Hid (Strs w2 (some ⟨w1.heap.size, 0, none⟩) 1 (fun _ => ⟨#[46, 100, 101, 98]⟩)) := hO
        have hB2 : Below w.heap.size w w2 := by rw [hw2]; exact hB1.trans ((below_alloc w1 _).mono hB1.size)
        clear hw2 hO
        go_wp2_with fail
        refine (zl_deb nm none 0 0 _ 1 1 (fun _ => ⟨#[46, 100, 101, 98]⟩) ht _ HO.out s1 s2 (anyEq_one _)).mono ?_
        rintro r w3 ⟨rfl, hb3⟩
        have hB3 : Below w.heap.size w w3 := hB2.trans (hb3.mono hB2.size)
        clear hb3
        rw [HLN.out]
        go_wp2_with fail
        refine (framed_ok LN ⟨#[100, 101, 98, 32, 104, 116, 116, 112, 58, 47, 47]⟩ ht ⟨#[47]⟩ nm ⟨#[32, 60, 114, 101, 108, 101, 97, 115, 101, 62, 32, 109, 97, 105, 110]⟩ _ (by rw [← HLN.out]; simp [ByteArray.data_append]) (by rw [← HLN.out]; simp only [ByteArray.size_append]; have : (⟨#[100, 101, 98, 32]⟩ : ByteArray).size = 4 := rfl; have : (⟨#[104, 116, 116, 112, 58, 47, 47]⟩ : ByteArray).size = 7 := rfl; have : (⟨#[47]⟩ : ByteArray).size = 1 := rfl; have : (⟨#[32, 60, 114, 101, 108, 101, 97, 115, 101, 62, 32, 109, 97, 105, 110]⟩ : ByteArray).size = 15 := rfl; omega)).mono ?_
        rintro r w4 ⟨rfl, hb4⟩
        go_wp2
        go_ret
        exact ⟨rfl, hB3.trans (hb4.mono hB3.size)⟩

end Go.Proofs.Qxb6603456a

/-
  THE WALK OF FnHasSuffixOverJoinedLists.
-/
import Derived.Test.Qxb6603456aMakes
import Derived.Deep.DeepCutAuto
namespace Go.Proofs.Qxb6603456a
open Go.RowKit
set_option linter.unusedVariables false

/-- What stands behind 'if a != nil { c := make(..); copy(c, a); a = c }': the slice holds the same strings; nothing old has turned. -/
def Copied (w : World) (n : Nat) (S : Nat → ByteArray) (v : Value) (w' : World) : Prop := ∃ a c, v = .slice a n c ∧ Strs w' a n S ∧ Below w.heap.size w w'

theorem rowOf_zero' (n : Nat) : (madeCells (Value.string ByteArray.empty).cells (n * 1)).toList = rowOf (fun _ => ByteArray.empty) n := by
  rw [Nat.mul_one]; exact rowOf_zero n
theorem copied_src {w : World} {a : Option Addr} {n : Nat} {S : Nat → ByteArray} (h : Strs w a n S) (h0 : 0 < (rowOf S n).length) :
    ∃ ad, a = some ad ∧ ∀ j v, (rowOf S n)[j]? = some v → w.cell? (ad.add j) = some v := by
  rw [rowOf_len] at h0
  rcases h.1 with h1 | ⟨b, off, rfl, hc⟩
  · omega
  · refine ⟨_, rfl, fun j v hv => ?_⟩
    have hj : j < n := by
      have := (List.getElem?_eq_some_iff.1 hv).1
      rwa [rowOf_len] at this
    rw [rowOf_at S n j hj] at hv
    rw [Go.WideShapes.add_plain, hc j hj]
    exact hv
theorem rowOf_one (S : Nat → ByteArray) (n : Nat) : ∀ v ∈ rowOf S n, v.oneCell' = true := by
  intro v hv
  obtain ⟨j, _, rfl⟩ := List.mem_map.1 hv
  rfl
theorem splice_all (S : Nat → ByteArray) (n : Nat) (L : List Value) (h : L.length = n) : splice L 0 (rowOf S n) = rowOf S n := by
  unfold splice
  rw [rowOf_len, List.take_zero, List.drop_of_length_le (by omega)]
  simp

theorem one_strs (w : World) (x : ByteArray) (hx : x.size ≤ maxLen) : Strs (w.alloc (.cells #[.string x] 9)) (some ⟨w.heap.size, 0, none⟩) 1 (fun _ => x) :=
  ⟨Or.inr ⟨_, _, rfl, fun i hi => by obtain rfl : i = 0 := by omega
                                     simp⟩, by unfold maxLen; omega, fun _ _ => hx⟩
theorem anyEq_one (x : ByteArray) : anyEq (fun _ => x) x 1 = true := by simp [anyEq]
theorem below_alloc (w : World) (o : Obj) : Below w.heap.size w (w.alloc o) := (Below.refl _ _).alloc (Nat.le_refl _) o

/-- 'copy(c, a)' into the row that was just made, as one run. -/
theorem copy_run {w3 w0 : World} {g n c B : Nat} {a : Option Addr} {S F : Nat → ByteArray} (hO : w3.heap[g]? = some (.cells (rowOf F n).toArray 9 (0, 0))) (hS : Strs w3 a n S) (hb : Below B w0 w3) (hBg : B ≤ g) :
    ∃ w4, (Builtin.copy_ #[22, 22] 3 #[.slice (some ⟨g, 0, none⟩) n n, .slice a n c]).run Try.prog w3 = .ok (goInt n) w4 ∧ w4.heap[g]? = some (.cells (rowOf S n).toArray 9 (0, 0)) ∧ Below B w0 w4 := by
  by_cases h0 : n = 0
  · subst h0
    exact ⟨w3, run_copy_none (P := Try.prog) w3 22 22 3 9 _ a 0 0 0 c Try.underlying22 Try.size9 rfl, hO, hb⟩
  · obtain ⟨ad, rfl, hsrc⟩ := copied_src hS (by rw [rowOf_len]; omega)
    have hrun := run_copy_row (P := Try.prog) w3 22 22 3 9 g 0 n n ad n c (rowOf F n).toArray 9 (rowOf S n) Try.underlying22 Try.size9 hO (by rw [rowOf_len]; exact (Nat.min_self n).symm) hsrc (by simp [rowOf_len]) (rowOf_one S n)
    rw [rowOf_len] at hrun
    refine ⟨_, hrun, ?_, below_setRow hb hBg _⟩
    rw [setRow_heap w3 g _ _ 9 (0, 0) hO]
    have := splice_all S n (rowOf F n) (rowOf_len F n)
    unfold splice at this
    rw [rowOf_len] at this
    rw [List.append_assoc, this]

set_option maxRecDepth 100000 in
set_option maxHeartbeats 4000000 in
theorem lawH (nm : ByteArray) (a1 : Option Addr) (l1 c1 : Nat) (S1 : Nat → ByteArray) (a2 : Option Addr) (l2 c2 : Nat) (S2 : Nat → ByteArray) (a3 : Option Addr) (l3 c3 : Nat) (S3 : Nat → ByteArray) (x : ByteArray) (w : World)
    (h1 : Strs w a1 l1 S1) (h2 : Strs w a2 l2 S2) (h3 : Strs w a3 l3 S3) (hnm : nm.size ≤ maxLen) (hx : x.size ≤ maxLen) :
    Calls Try.prog 3 #[.string nm, .slice a1 l1 c1, .slice a2 l2 c2, .slice a3 l3 c3, .string x] w fun r w' => r = .returned (.bool true) ∧ Below w.heap.size w w' := by
  have H1 : Hid (Strs w a1 l1 S1) := h1
  have H2 : Hid (Strs w a2 l2 S2) := h2
  have H3 : Hid (Strs w a3 l3 S3) := h3
  have HN : Hid (nm.size ≤ maxLen) := hnm
  have HX : Hid (x.size ≤ maxLen) := hx
  clear h1 h2 h3 hnm hx
  have hnil := fun wx a n c' => run_neq_slice_nil_any (P := Try.prog) wx 22 9 a n c' 0 0 Try.underlying22
  go_enter Try.func3, Try.ntmps3
  go_upto_if 25 with (go_at_call 6; refine (bytesH_any _ _ _ _ S1 _ _ _ S2 _ _ _ S3 _ _ H1.out H2.out H3.out HN.out HX.out).mono ?_; rintro r w1 ⟨⟨v, rfl, hv⟩, hw1⟩; obtain rfl : w = w1 := hw1.symm; have HV : Hid (v = true → l1 ≤ 1048576 ∧ l2 ≤ 1048576 ∧ l3 ≤ 1048576) := hv; clear hv)
  · go_ret; exact ⟨rfl, Below.refl _ _⟩
  obtain ⟨n1, n2, n3⟩ := HV.out (by simpa using (by assumption : (!v) = false))
  clear HV
  obtain ⟨i0, hi, hz0, hz1, hz2⟩ := info_parts Try.info9
  go_cut [1] (fun s wc => Copied w l1 S1 s wc)
  case first =>
    rcases a1 with _ | y
    · go_wp2
      go_meet
      exact ⟨none, c1, rfl, H1.out, Below.refl _ _⟩
    · go_wp2_with (at_make; refine wpList_make_full _ rfl _ _ 22 rfl w.heap.size 9 i0 (.string ByteArray.empty) 1 Try.underlying22 hi hz0 hz1 _ _ _ _ l1 rfl rfl rfl rfl (by rw [hz2]; omega) (by unfold maxLen; omega) (Nat.le_refl _) ?_; intro w3 hown0 hgrow; have hb3 := (Below.refl w.heap.size w).grown hgrow (Nat.le_refl _) (by intro k h; cases h); rw [rowOf_zero'] at hown0; obtain ⟨w4, hrun, hG, hb4⟩ := copy_run (c := c1) (own_block hown0) (H1.out.below hb3) hb3 (Nat.le_refl _); have HG : Hid (w4.heap[w.heap.size]? = some (.cells (rowOf S1 l1).toArray 9 (0, 0))) := hG; clear hown0 hgrow hG)
      go_meet
      exact ⟨_, l1, rfl, strs_of_block HG.out (by unfold maxLen; omega) H1.out.2.2, hb4⟩
  case rest =>
    obtain ⟨wA, rfl⟩ : ∃ wA : World, wA = wc := ⟨_, rfl⟩
    obtain ⟨bA, dA, rfl, gA, hBA⟩ := hcut
    have GA : Hid (Strs wA bA l1 S1) := gA
    clear gA
    have H2A : Hid (Strs wA a2 l2 S2) := H2.out.below hBA
    go_upto_if 34 with (fail)
    go_cut [2] (fun s wc => Copied wA l2 S2 s wc)
    case first =>
      rcases a2 with _ | y
      · go_wp2
        go_meet
        exact ⟨none, c2, rfl, H2A.out, Below.refl _ _⟩
      · go_wp2_with (at_make; refine wpList_make_full _ rfl _ _ 22 rfl wA.heap.size 9 i0 (.string ByteArray.empty) 1 Try.underlying22 hi hz0 hz1 _ _ _ _ l2 rfl rfl rfl rfl (by rw [hz2]; omega) (by unfold maxLen; omega) (Nat.le_refl _) ?_; intro w3 hown0 hgrow; have hb3 := (Below.refl wA.heap.size wA).grown hgrow (Nat.le_refl _) (by intro k h; cases h); rw [rowOf_zero'] at hown0; obtain ⟨w4, hrun, hG, hb4⟩ := copy_run (c := c2) (own_block hown0) (H2A.out.below hb3) hb3 (Nat.le_refl _); have HG : Hid (w4.heap[wA.heap.size]? = some (.cells (rowOf S2 l2).toArray 9 (0, 0))) := hG; clear hown0 hgrow hG)
        go_meet
        exact ⟨_, l2, rfl, strs_of_block HG.out (by unfold maxLen; omega) H2A.out.2.2, hb4⟩
    case rest =>
      obtain ⟨wB, rfl⟩ : ∃ wB : World, wB = wc := ⟨_, rfl⟩
      obtain ⟨bB, dB, rfl, gB, hBB⟩ := hcut
      have GB : Hid (Strs wB bB l2 S2) := gB
      clear gB
      have H3B : Hid (Strs wB a3 l3 S3) := (H3.out.below hBA).below hBB
      go_upto_if 43 with (fail)
      go_cut [3] (fun s wc => Copied wB l3 S3 s wc)
      case first =>
        rcases a3 with _ | y
        · go_wp2
          go_meet
          exact ⟨none, c3, rfl, H3B.out, Below.refl _ _⟩
        · go_wp2_with (at_make; refine wpList_make_full _ rfl _ _ 22 rfl wB.heap.size 9 i0 (.string ByteArray.empty) 1 Try.underlying22 hi hz0 hz1 _ _ _ _ l3 rfl rfl rfl rfl (by rw [hz2]; omega) (by unfold maxLen; omega) (Nat.le_refl _) ?_; intro w3 hown0 hgrow; have hb3 := (Below.refl wB.heap.size wB).grown hgrow (Nat.le_refl _) (by intro k h; cases h); rw [rowOf_zero'] at hown0; obtain ⟨w4, hrun, hG, hb4⟩ := copy_run (c := c3) (own_block hown0) (H3B.out.below hb3) hb3 (Nat.le_refl _); have HG : Hid (w4.heap[wB.heap.size]? = some (.cells (rowOf S3 l3).toArray 9 (0, 0))) := hG; clear hown0 hgrow hG)
          go_meet
          exact ⟨_, l3, rfl, strs_of_block HG.out (by unfold maxLen; omega) H3B.out.2.2, hb4⟩
      case rest =>
        obtain ⟨wC, rfl⟩ : ∃ wC : World, wC = wc := ⟨_, rfl⟩
        obtain ⟨bC, dC, rfl, gC, hBC⟩ := hcut
        have GC : Hid (Strs wC bC l3 S3) := gC
        clear gC
        have M1 : Hid (Strs wC bA l1 S1) := (GA.out.below hBB).below hBC
        have M2 : Hid (Strs wC bB l2 S2) := GB.out.below hBC
        have hB : Below w.heap.size w wC := (hBA.trans (hBB.mono hBA.size)).trans (hBC.mono (Nat.le_trans hBA.size hBB.size))
        clear GA GB hBA hBB hBC hi hz0 hz1 hz2 hnil
        go_wp2_with fail
        refine (addStr_any 0 nm _ (by omega) (by omega) HN.out).mono ?_
        rintro r wx ⟨⟨z1, rfl, z10, z11⟩, hw⟩
        obtain rfl : wC = wx := hw.symm
        clear hw
        go_wp2_with fail
        refine (addList_any z1 bA l1 dA S1 _ z10 z11 M1.out).mono ?_
        rintro r wx ⟨⟨z2, rfl, z20, z21⟩, hw⟩
        obtain rfl : wC = wx := hw.symm
        clear hw
        go_wp2_with fail
        refine (addList_any z2 bB l2 dB S2 _ z20 z21 M2.out).mono ?_
        rintro r wx ⟨⟨z3, rfl, z30, z31⟩, hw⟩
        obtain rfl : wC = wx := hw.symm
        clear hw
        go_wp2_with fail
        refine (addList_any z3 bC l3 dC S3 _ z30 z31 GC.out).mono ?_
        rintro r wx ⟨⟨z4, rfl, z40, z41⟩, hw⟩
        obtain rfl : wC = wx := hw.symm
        clear hw
        go_wp2_with fail
        refine (addStr_any z4 x _ z40 z41 HX.out).mono ?_
        rintro r wx ⟨⟨z5, rfl, z50, z51⟩, hw⟩
        obtain rfl : wC = wx := hw.symm
        clear hw
        go_wp2_with fail
        · go_ret
          exact ⟨rfl, hB⟩
        refine (zzHas_any nm bA l1 dA bB l2 dB S2 x _ M2.out).mono ?_
        rintro r w1 ⟨rfl, hb1⟩
        have P2 : Hid (Strs w1 bB l2 S2) := M2.out.below hb1
        have P3 : Hid (Strs w1 bC l3 S3) := GC.out.below hb1
        have hB1 : Below w.heap.size w w1 := hB.trans (hb1.mono hB.size)
        clear hb1 M1 M2 GC hB
        go_wp2_with fail
        refine (zzHas_any nm bA l1 dA bC l3 dC S3 x _ P3.out).mono ?_
        rintro r w2 ⟨rfl, hb2⟩
        have Q2 : Hid (Strs w2 bB l2 S2) := P2.out.below hb2
        have Q3 : Hid (Strs w2 bC l3 S3) := P3.out.below hb2
        have hB2 : Below w.heap.size w w2 := hB1.trans (hb2.mono hB1.size)
        clear hb2 P2 P3 hB1
        cases hA : anyEq S2 x l2 <;> cases hC : anyEq S3 x l3
        all_goals
          go_wp2_with fail
          refine (concat_any bB l2 dB S2 bC l3 dC S3 _ Q2.out Q3.out n2 n3).mono ?_
          rintro r w3 ⟨rfl, J3, hb3⟩
          have K3 : Hid (Strs w3 (some ⟨w2.heap.size, 0, none⟩) (l2 + l3) (joinS S2 S3 l2)) := J3
          have R2 : Hid (Strs w3 bB l2 S2) := Q2.out.below hb3
          have hB3 : Below w.heap.size w w3 := hB2.trans (hb3.mono hB2.size)
          clear hb3 J3
          go_wp2_with fail
          refine (zzHas_any nm bA l1 dA _ (l2 + l3) _ (joinS S2 S3 l2) x _ K3.out).mono ?_
          rintro r w4 ⟨rfl, hb4⟩
          rw [anyEq_join, hA, hC]
          have T2 : Hid (Strs w4 bB l2 S2) := R2.out.below hb4
          have hB4 : Below w.heap.size w w4 := hB3.trans (hb4.mono hB3.size)
          clear hb4 K3 R2 hB3
          go_wp2_with fail
          refine (rev_any bB l2 dB S2 _ T2.out n2).mono ?_
          rintro r w5 ⟨rfl, J5, hb5⟩
          have K5 : Hid (Strs w5 (some ⟨w4.heap.size, 0, none⟩) l2 (revS S2 l2)) := J5
          have T5 : Hid (Strs w5 bB l2 S2) := T2.out.below hb5
          have hB5 : Below w.heap.size w w5 := hB4.trans (hb5.mono hB4.size)
          clear hb5 J5 T2 hB4
          go_wp2_with fail
          refine (zzHas_any nm bA l1 dA _ l2 _ (revS S2 l2) x _ K5.out).mono ?_
          rintro r w6 ⟨rfl, hb6⟩
          rw [anyEq_rev, hA]
          have T6 : Hid (Strs w6 bB l2 S2) := T5.out.below hb6
          have hB6 : Below w.heap.size w w6 := hB5.trans (hb6.mono hB5.size)
          clear hb6 K5 T5 hB5
          go_wp2_with fail
          refine (zzHas_any _ _ _ _ bB l2 dB S2 x _ T6.out).mono ?_
          rintro r w7 ⟨rfl, hb7⟩
          rw [hA]
          have T7 : Hid (Strs w7 bB l2 S2) := T6.out.below hb7
          have hB7 : Below w.heap.size w w7 := hB6.trans (hb7.mono hB6.size)
          clear hb7 T6 hB6
          go_wp2_with fail
          refine (concat_any bB l2 dB S2 _ 1 1 (fun _ => x) _ (T7.out.alloc _) (one_strs w7 x HX.out) n2 (by omega)).mono ?_
          rintro r w8 ⟨rfl, J8, hb8⟩
          rw [World.size_alloc] at J8
          have K8 : Hid (Strs w8 (some ⟨w7.heap.size + 1, 0, none⟩) (l2 + 1) (joinS S2 (fun _ => x) l2)) := J8
          have hB8 : Below w.heap.size w w8 := (hB7.trans ((below_alloc w7 _).mono hB7.size)).trans (hb8.mono (Nat.le_trans hB7.size (below_alloc w7 _).size))
          clear hb8 J8 T7 hB7
          go_wp2_with fail
          refine (zzHas_any nm bA l1 dA _ (l2 + 1) _ (joinS S2 (fun _ => x) l2) x _ K8.out).mono ?_
          rintro r w9 ⟨rfl, hb9⟩
          rw [anyEq_join, anyEq_one, Bool.or_true]
          have hB9 : Below w.heap.size w w9 := hB8.trans (hb9.mono hB8.size)
          clear hb9 K8 hB8
          go_wp2_with fail
          refine (zzHas_any nm bA l1 dA none 0 0 S2 x _ (Strs.zero _ _ _)).mono ?_
          rintro r wD ⟨rfl, hbD⟩
          rw [anyEq_zero]
          have hBD : Below w.heap.size w wD := hB9.trans (hbD.mono hB9.size)
          clear hbD hB9
          go_wp2_with fail
          refine (zzHas_any nm bA l1 dA _ 0 0 S2 x _ (Strs.zero _ _ _)).mono ?_
          rintro r wE ⟨rfl, hbE⟩
          rw [anyEq_zero]
          go_wp2_with fail
          go_ret
          exact ⟨rfl, (hBD.trans ((below_alloc wD _).mono hBD.size)).trans (hbE.mono (Nat.le_trans hBD.size (below_alloc wD _).size))⟩
        
end Go.Proofs.Qxb6603456a

/-
  THE WALK OF FnMaskedSpec.
-/
import Derived.Test.Qxb6604198aMasked
import Derived.Test.Qxb6604198aBytes
import Derived.Test.Qxb6604198aSame
import Derived.Deep.QuietTactic
import Derived.BigQuiet
import Derived.WalkSmall
namespace Go.Proofs.Qxb6604198a
open Go.RowKit
set_option linter.unusedVariables false

/-- Behind the last of the two boxed policies: nothing turns any more. -/
def After (w4 : World) (u0 u1 u2 : Value) (wr : World) : Prop := Below (w4.heap.size + 1) (w4.alloc (.cells #[u0, u1, u2] 33)) wr
theorem After.start (w4 : World) (u0 u1 u2 : Value) : After w4 u0 u1 u2 (w4.alloc (.cells #[u0, u1, u2] 33)) := Below.refl _ _
theorem After.below {w4 wr : World} {u0 u1 u2 : Value} (h : After w4 u0 u1 u2 wr) : Below w4.heap.size w4 wr := (below_alloc w4 _).trans (Below.mono h (by omega))
theorem After.size {w4 wr : World} {u0 u1 u2 : Value} (h : After w4 u0 u1 u2 wr) : w4.heap.size + 1 ≤ wr.heap.size := by have := Below.size h; simpa using this
theorem After.c0 {w4 wr : World} {u0 u1 u2 : Value} (h : After w4 u0 u1 u2 wr) : wr.cell? ⟨w4.heap.size, 0, none⟩ = some u0 := by rw [Below.cell h (p := ⟨w4.heap.size, 0, none⟩) (Nat.lt_succ_self _)]; simp
theorem After.c2 {w4 wr : World} {u0 u1 u2 : Value} (h : After w4 u0 u1 u2 wr) : wr.cell? ⟨w4.heap.size, 2, none⟩ = some u2 := by rw [Below.cell h (p := ⟨w4.heap.size, 2, none⟩) (Nat.lt_succ_self _)]; simp
theorem After.later {w4 wr wr' : World} {u0 u1 u2 : Value} (h : After w4 u0 u1 u2 wr) (hb : Below wr.heap.size wr wr') : After w4 u0 u1 u2 wr' := Below.trans h (hb.mono h.size)

set_option maxRecDepth 100000 in
set_option maxHeartbeats 4000000 in
theorem lawM (a1 : Option Addr) (n1 c1 : Nat) (o m : Nat → Int) (k g : Nat → ByteArray) (req : Bool) (a2 : Option Addr) (n2 c2 : Nat) (r : Nat → Nat → ByteArray) (w : World)
    (h1 : Cells w a1 n1 4 (KC o m k g)) (e1 : n1 ≤ maxLen) (hs1 : ∀ j, j < n1 → (k j).size ≤ maxLen ∧ (g j).size ≤ maxLen) (z1 : a1 = none → n1 = 0)
    (h2 : Cells w a2 n2 5 (RC r)) (e2 : n2 ≤ maxLen) (hs2 : ∀ f j, f < 5 → j < n2 → (r f j).size ≤ maxLen) (z2 : a2 = none → n2 = 0) (hb1 : n1 ≤ 65536) (hb2 : n2 ≤ 65536) :
    Calls Try.prog 3 #[.slice a1 n1 c1, .bool req, .slice a2 n2 c2] w fun r' w' => r' = .returned (.bool true) ∧ Below w.heap.size w w' := by
  have H1 : Hid (Cells w a1 n1 4 (KC o m k g)) := h1
  have H2 : Hid (Cells w a2 n2 5 (RC r)) := h2
  have S1 : Hid (∀ j, j < n1 → (k j).size ≤ maxLen ∧ (g j).size ≤ maxLen) := hs1
  have S2 : Hid (∀ f j, f < 5 → j < n2 → (r f j).size ≤ maxLen) := hs2
  have Z1 : Hid (a1 = none → n1 = 0) := z1
  have Z2 : Hid (a2 = none → n2 = 0) := z2
  have E1 : Hid (n1 ≤ maxLen) := e1
  have E2 : Hid (n2 ≤ maxLen) := e2
  clear h1 h2 hs1 hs2 z1 z2 e1 e2
  have hq1 := fun wx a n c' => Lib.run_eql_slice_nil (P := Try.prog) wx 30 38 a n c' 0 0 Try.underlying30
  have hq2 := fun wx a n c' => Lib.run_eql_slice_nil (P := Try.prog) wx 31 45 a n c' 0 0 Try.underlying31
  go_enter Try.func3, Try.ntmps3
  go_wp2_with fail
  refine (bytesM_any a1 n1 c1 o m k g req a2 n2 c2 r _ H1.out E1.out S1.out H2.out E2.out S2.out).mono ?_
  rintro r' wx ⟨⟨v, rfl⟩, hw⟩
  obtain rfl : w = wx := hw.symm
  clear hw
  go_wp2_with fail
  · go_ret; exact ⟨rfl, Below.refl _ _⟩
  refine (keysB_any a1 n1 c1 o m k g _ H1.out E1.out S1.out).mono ?_
  rintro r' wx ⟨⟨u1, rfl, u10, u11⟩, hw⟩
  obtain rfl : w = wx := hw.symm
  clear hw
  go_wp2_with fail
  refine (rulesB_any a2 n2 c2 r _ H2.out E2.out S2.out).mono ?_
  rintro r' wx ⟨⟨u2, rfl, u20, u21⟩, hw⟩
  obtain rfl : w = wx := hw.symm
  clear hw
  go_wp2_with fail
  refine (add_any u1 u2 _ u10 (by omega) u20 (by omega)).mono ?_
  rintro r' wx ⟨⟨u3, rfl, u30, u31⟩, hw⟩
  obtain rfl : w = wx := hw.symm
  clear hw
  go_wp2_with fail
  · go_ret; exact ⟨rfl, Below.refl _ _⟩
  refine (cloneK_any a1 n1 c1 o m k g _ H1.out Z1.out hb1).mono ?_
  rintro r' w1 ⟨x1, d1, rfl, i1, -, q1, hB1⟩
  have Q1 : Hid (Cells w1 x1 n1 4 (KC o m k g)) := q1
  have I1 : Hid (x1 = none → n1 = 0) := fun h => Z1.out (by rw [h] at i1; simpa using i1.symm)
  have P2 : Hid (Cells w1 a2 n2 5 (RC r)) := H2.out.below hB1
  clear q1 i1 H1 H2 S1 S2 E1 E2
  go_wp2_with fail
  refine (cloneR_any a2 n2 c2 r _ P2.out Z2.out hb2).mono ?_
  rintro r' w2 ⟨x2, d2, rfl, i2, -, q2, hB2'⟩
  have Q2 : Hid (Cells w2 x2 n2 5 (RC r)) := q2
  have I2 : Hid (x2 = none → n2 = 0) := fun h => Z2.out (by rw [h] at i2; simpa using i2.symm)
  have Q1' : Hid (Cells w2 x1 n1 4 (KC o m k g)) := Q1.out.below hB2'
  have hB2 : Below w.heap.size w w2 := hB1.trans (hB2'.mono hB1.size)
  clear q2 i2 P2 Q1 Z1 Z2 hB1 hB2'
  go_wp2_with fail
  refine (policy_any x1 n1 d1 o m k g req x2 n2 d2 r _ Q1'.out I1.out Q2.out I2.out hb1 hb2).mono ?_
  rintro r' w3 ⟨y1, v1, y2, v2, rfl, j1, j2, q1, q2, hB3'⟩
  have J1 : Hid (y1.isNone = x1.isNone) := j1
  have J2 : Hid (y2.isNone = x2.isNone) := j2
  have L2 : Hid (y2 = none → n2 = 0) := fun h => I2.out (by rw [h] at j2; simpa using j2.symm)
  have hB3 : Below w.heap.size w w3 := hB2.trans (hB3'.mono hB2.size)
  have Y1 : Hid (Cells w3 y1 n1 4 (KC o m k g)) := q1
  have Y2 : Hid (Cells w3 y2 n2 5 (RC r)) := q2
  have X1 : Hid (Cells w3 x1 n1 4 (KC o m k g)) := Q1'.out.below hB3'
  have X2 : Hid (Cells w3 x2 n2 5 (RC r)) := Q2.out.below hB3'
  clear j1 j2 q1 q2 hB3' hB2 I1 I2 Q1' Q2
  go_wp2_with fail
  refine (masked_any y1 n1 v1 o m k g req y2 n2 v2 r _ (Y1.out.alloc _) (Y2.out.alloc _) L2.out hb1).mono ?_
  rintro r' w4 ⟨b1, t1, b2, t2, rfl, q1, q2, hb4⟩
  have O1 : Hid (Cells w4 (some b1) n1 4 (KC o m stars g)) := q1
  have O2 : Hid (Cells w4 (some b2) n2 5 (RC r)) := q2
  have hA4 : Below w3.heap.size w3 w4 := (below_alloc w3 _).trans (hb4.mono (by simp))
  have hs4 : w3.heap.size < w4.heap.size := by have := hb4.size; simp at this; omega
  have c0 : w4.cell? ⟨w3.heap.size, 0, none⟩ = some (.slice y1 n1 v1) := by rw [hb4.cell (p := ⟨w3.heap.size, 0, none⟩) (by simp)]; simp
  have c2' : w4.cell? ⟨w3.heap.size, 2, none⟩ = some (.slice y2 n2 v2) := by rw [hb4.cell (p := ⟨w3.heap.size, 2, none⟩) (by simp)]; simp
  have hB4 : Below w.heap.size w w4 := hB3.trans (hA4.mono hB3.size)
  have F1 : Hid (Cells w4 y1 n1 4 (KC o m k g)) := Y1.out.below hA4
  have F2 : Hid (Cells w4 y2 n2 5 (RC r)) := Y2.out.below hA4
  have G1 : Hid (Cells w4 x1 n1 4 (KC o m k g)) := X1.out.below hA4
  have G2 : Hid (Cells w4 x2 n2 5 (RC r)) := X2.out.below hA4
  have HB : Hid (Below w.heap.size w w4) := hB4
  clear q1 q2 hb4 hA4 Y1 Y2 X1 X2 hB3 hB4 L2
  go_wp2_with fail
  go_loopw [9, 10] (fun i _ wr => ∃ t : Nat, t ≤ n1 ∧ i = .int .i64 t ∧ Hid (After w4 (.slice (some b1) n1 t1) (.bool req) (.slice (some b2) n2 t2) wr)) (fun i _ _ => n1 - (intOf i).toNat)
  case atStart => exact ⟨0, Nat.zero_le _, rfl, After.start _ _ _ _⟩
  case round =>
    obtain ⟨t, ht, rfl, HA⟩ := hrel
    by_cases hlt : t < n1
    · rcases O1.out.below HA.out.below with h0 | ⟨b, off, eb, hc⟩
      · omega
      obtain rfl := Option.some.inj eb
      rcases G1.out.below HA.out.below with h0 | ⟨b', off', rfl, hc'⟩
      · omega
      have o0 := HA.out.c0
      have hbi : (t : Int) < (n1 : Int) := by omega
      have hz4 : w4.heap.size < wr.heap.size := HA.out.size
      have hbb : b < wr.heap.size := lt_of_cell (hc 0 (by omega))
      have hbb' : b' < wr.heap.size := lt_of_cell (hc' 0 (by omega))
      have s0 : wr.cell? ⟨b, off + t * 4, none⟩ = some (.int .u32 (o t)) := by rw [hc _ (by omega), KC0]
      have s1 : wr.cell? ⟨b, off + t * 4 + 1, none⟩ = some (.int .u32 (m t)) := by rw [Nat.add_assoc, hc _ (by omega), KC1]
      have s2 : wr.cell? ⟨b, off + t * 4 + 2, none⟩ = some (.string ⟨#[42, 42, 42]⟩) := by rw [Nat.add_assoc, hc _ (by omega), KC2]; rfl
      have s3 : wr.cell? ⟨b, off + t * 4 + 3, none⟩ = some (.string (g t)) := by rw [Nat.add_assoc, hc _ (by omega), KC3]
      have d0 : wr.cell? ⟨b', off' + t * 4, none⟩ = some (.int .u32 (o t)) := by rw [hc' _ (by omega), KC0]
      have d1 : wr.cell? ⟨b', off' + t * 4 + 1, none⟩ = some (.int .u32 (m t)) := by rw [Nat.add_assoc, hc' _ (by omega), KC1]
      have d2 : wr.cell? ⟨b', off' + t * 4 + 2, none⟩ = some (.string (k t)) := by rw [Nat.add_assoc, hc' _ (by omega), KC2]
      have d3 : wr.cell? ⟨b', off' + t * 4 + 3, none⟩ = some (.string (g t)) := by rw [Nat.add_assoc, hc' _ (by omega), KC3]
      clear hc hc'
      go_wp2
      go_quiet (fail)
      go_wp2
      go_roundw
      case rel => exact ⟨t + 1, by omega, by go_num, HA.out.later ((below_alloc wr _).trans ((below_drewN' (wr.alloc _) nq).mono (by simp)))⟩
      case measure => simp [intOf]; omega
    · have o2 := HA.out.c2
      go_wp2
      obtain ⟨wo, rfl⟩ : ∃ wo : World, wo = wr := ⟨_, rfl⟩
      clear o2 hlt ht
      go_loopw [11] (fun i wr => ∃ t : Nat, t ≤ n2 ∧ i = .int .i64 t ∧ Hid (After w4 (.slice (some b1) n1 t1) (.bool req) (.slice (some b2) n2 t2) wr)) (fun i _ => n2 - (intOf i).toNat)
      case atStart => exact ⟨0, Nat.zero_le _, rfl, HA⟩
      case round =>
        clear HA
        obtain ⟨t, ht, rfl, HA⟩ := hrel
        by_cases hlt : t < n2
        · rcases O2.out.below HA.out.below with h0 | ⟨b, off, eb, hc⟩
          · omega
          obtain rfl := Option.some.inj eb
          rcases G2.out.below HA.out.below with h0 | ⟨b', off', rfl, hc'⟩
          · omega
          have o2 := HA.out.c2
          have hbi : (t : Int) < (n2 : Int) := by omega
          have s0 : wr.cell? ⟨b, off + t * 5, none⟩ = some (.string (r 0 t)) := by rw [hc _ (by omega), RC0]
          have s1 : wr.cell? ⟨b, off + t * 5 + 1, none⟩ = some (.string (r 1 t)) := by rw [Nat.add_assoc, hc _ (by omega), RC_at r t 1 (by omega)]
          have s2 : wr.cell? ⟨b, off + t * 5 + 2, none⟩ = some (.string (r 2 t)) := by rw [Nat.add_assoc, hc _ (by omega), RC_at r t 2 (by omega)]
          have s3 : wr.cell? ⟨b, off + t * 5 + 3, none⟩ = some (.string (r 3 t)) := by rw [Nat.add_assoc, hc _ (by omega), RC_at r t 3 (by omega)]
          have s4 : wr.cell? ⟨b, off + t * 5 + 4, none⟩ = some (.string (r 4 t)) := by rw [Nat.add_assoc, hc _ (by omega), RC_at r t 4 (by omega)]
          have d0 : wr.cell? ⟨b', off' + t * 5, none⟩ = some (.string (r 0 t)) := by rw [hc' _ (by omega), RC0]
          have d1 : wr.cell? ⟨b', off' + t * 5 + 1, none⟩ = some (.string (r 1 t)) := by rw [Nat.add_assoc, hc' _ (by omega), RC_at r t 1 (by omega)]
          have d2 : wr.cell? ⟨b', off' + t * 5 + 2, none⟩ = some (.string (r 2 t)) := by rw [Nat.add_assoc, hc' _ (by omega), RC_at r t 2 (by omega)]
          have d3 : wr.cell? ⟨b', off' + t * 5 + 3, none⟩ = some (.string (r 3 t)) := by rw [Nat.add_assoc, hc' _ (by omega), RC_at r t 3 (by omega)]
          have d4 : wr.cell? ⟨b', off' + t * 5 + 4, none⟩ = some (.string (r 4 t)) := by rw [Nat.add_assoc, hc' _ (by omega), RC_at r t 4 (by omega)]
          clear hc hc'
          go_wp2
          go_region_with (go_at_call 12; refine (ruleIs_same _ _ _ _ _ _).mono ?_; rintro r' w6 ⟨rfl, hb6⟩)
          all_goals
            go_wp2
            go_roundw
            case rel => exact ⟨t + 1, by omega, by go_num, HA.out.later (((Below.refl wr.heap.size wr).drew).trans (Below.mono hb6 (Nat.le_refl _)))⟩
            case measure => simp [intOf]; omega
        · have hA := HA.out.below
          have e0 : wr.cell? ⟨w3.heap.size, 0, none⟩ = some (.slice y1 n1 v1) := by rw [hA.cell (p := ⟨w3.heap.size, 0, none⟩) (by exact hs4)]; exact c0
          have e2 : wr.cell? ⟨w3.heap.size, 2, none⟩ = some (.slice y2 n2 v2) := by rw [hA.cell (p := ⟨w3.heap.size, 2, none⟩) (by exact hs4)]; exact c2'
          have hB5 : Below w.heap.size w wr := HB.out.trans (hA.mono HB.out.size)
          have F1' : Hid (Cells wr y1 n1 4 (KC o m k g)) := F1.out.below hA
          have F2' : Hid (Cells wr y2 n2 5 (RC r)) := F2.out.below hA
          have G1' : Hid (Cells wr x1 n1 4 (KC o m k g)) := G1.out.below hA
          have G2' : Hid (Cells wr x2 n2 5 (RC r)) := G2.out.below hA
          have hs5 : w3.heap.size < wr.heap.size := Nat.lt_of_lt_of_le hs4 hA.size
          clear F1 F2 G1 G2 O1 O2 hA HA c0 c2'
          go_wp2_with fail
          refine (sameK y1 x1 n1 v1 d1 o m k g _ F1'.out G1'.out J1.out hb1).mono ?_
          rintro r' w7 ⟨rfl, hb7⟩
          have e2' : w7.cell? ⟨w3.heap.size, 2, none⟩ = some (.slice y2 n2 v2) := by rw [hb7.cell (p := ⟨w3.heap.size, 2, none⟩) (by exact hs5)]; exact e2
          have F2'' : Hid (Cells w7 y2 n2 5 (RC r)) := F2'.out.below hb7
          have G2'' : Hid (Cells w7 x2 n2 5 (RC r)) := G2'.out.below hb7
          have hB7 : Below w.heap.size w w7 := hB5.trans (hb7.mono hB5.size)
          clear hb7 F2' G2' e0 e2 hB5
          go_wp2_with fail
          refine (sameR y2 x2 n2 v2 d2 r _ F2''.out G2''.out J2.out hb2).mono ?_
          rintro r' w8 ⟨rfl, hb8⟩
          go_wp2
          go_ret
          exact ⟨rfl, hB7.trans (hb8.mono hB7.size)⟩

set_option maxHeartbeats 1000000 in
theorem law_big (a1 : Option Addr) (n1 c1 : Nat) (o m : Nat → Int) (k g : Nat → ByteArray) (req : Bool) (a2 : Option Addr) (n2 c2 : Nat) (r : Nat → Nat → ByteArray) (w : World)
    (h1 : Cells w a1 n1 4 (KC o m k g)) (e1 : n1 ≤ maxLen) (hs1 : ∀ j, j < n1 → (k j).size ≤ maxLen ∧ (g j).size ≤ maxLen)
    (h2 : Cells w a2 n2 5 (RC r)) (e2 : n2 ≤ maxLen) (hs2 : ∀ f j, f < 5 → j < n2 → (r f j).size ≤ maxLen) (hno : ¬ (n1 ≤ 65536 ∧ n2 ≤ 65536)) :
    Calls Try.prog 3 #[.slice a1 n1 c1, .bool req, .slice a2 n2 c2] w fun r' w' => r' = .returned (.bool true) ∧ Below w.heap.size w w' := by
  have H1 : Hid (Cells w a1 n1 4 (KC o m k g)) := h1
  have H2 : Hid (Cells w a2 n2 5 (RC r)) := h2
  have S1 : Hid (∀ j, j < n1 → (k j).size ≤ maxLen ∧ (g j).size ≤ maxLen) := hs1
  have S2 : Hid (∀ f j, f < 5 → j < n2 → (r f j).size ≤ maxLen) := hs2
  have E1 : Hid (n1 ≤ maxLen) := e1
  have E2 : Hid (n2 ≤ maxLen) := e2
  clear h1 h2 hs1 hs2
  unfold maxLen at e1 e2
  rcases (by omega : 65536 < n1 ∨ (n1 ≤ 65536 ∧ 65536 < n2)) with hb | ⟨hb, hb'⟩
  all_goals
    clear hno
    go_enter Try.func3, Try.ntmps3
    go_wp2_with fail
    refine (bytesM_any a1 n1 c1 o m k g req a2 n2 c2 r _ H1.out E1.out S1.out H2.out E2.out S2.out).mono ?_
    rintro r' wx ⟨⟨v, rfl⟩, hw⟩
    obtain rfl : w = wx := hw.symm
    clear hw
    go_wp2_with fail
    all_goals (go_ret; exact ⟨rfl, Below.refl _ _⟩)

theorem law_any (a1 : Option Addr) (n1 c1 : Nat) (o m : Nat → Int) (k g : Nat → ByteArray) (req : Bool) (a2 : Option Addr) (n2 c2 : Nat) (r : Nat → Nat → ByteArray) (w : World)
    (h1 : Cells w a1 n1 4 (KC o m k g)) (e1 : n1 ≤ maxLen) (hs1 : ∀ j, j < n1 → (k j).size ≤ maxLen ∧ (g j).size ≤ maxLen) (z1 : a1 = none → n1 = 0)
    (h2 : Cells w a2 n2 5 (RC r)) (e2 : n2 ≤ maxLen) (hs2 : ∀ f j, f < 5 → j < n2 → (r f j).size ≤ maxLen) (z2 : a2 = none → n2 = 0) :
    Calls Try.prog 3 #[.slice a1 n1 c1, .bool req, .slice a2 n2 c2] w fun r' w' => r' = .returned (.bool true) ∧ Below w.heap.size w w' := by
  by_cases hno : n1 ≤ 65536 ∧ n2 ≤ 65536
  · exact lawM a1 n1 c1 o m k g req a2 n2 c2 r w h1 e1 hs1 z1 h2 e2 hs2 z2 hno.1 hno.2
  · exact law_big a1 n1 c1 o m k g req a2 n2 c2 r w h1 e1 hs1 h2 e2 hs2 hno
end Go.Proofs.Qxb6604198a

/-
  zzPolicy, Masked.
-/
import Derived.Test.Qxb6604198aConv
namespace Go.Proofs.Qxb6604198a
open Go.RowKit
set_option linter.unusedVariables false

/-- A policy whose lists hold C1 and C2, each nil just where the old one is. -/
def PolEnd (a1 a2 : Option Addr) (n1 n2 : Nat) (req : Bool) (C1 C2 : Nat → Value) (w : World) (r : Ending) (w' : World) : Prop :=
  ∃ b1 d1 b2 d2, r = .returned (.agg #[.slice b1 n1 d1, .bool req, .slice b2 n2 d2]) ∧ b1.isNone = a1.isNone ∧ b2.isNone = a2.isNone ∧ Cells w' b1 n1 4 C1 ∧ Cells w' b2 n2 5 C2 ∧ Below w.heap.size w w'

theorem cells_setCell {w : World} {a : Option Addr} {n z : Nat} {C : Nat → Value} (h : Cells w a n z C) {g o : Nat} {v : Value} (hg : ∀ b off, a = some ⟨b, off, none⟩ → b ≠ g) : Cells (w.setCell ⟨g, o, none⟩ v) a n z C := by
  rcases h with h0 | ⟨b, off, rfl, hc⟩
  · exact Or.inl h0
  · refine Or.inr ⟨b, off, rfl, fun i hi => ?_⟩
    rw [← hc i hi]
    exact World.cell?_of_block (by exact Below.heap_setCell w ⟨g, o, none⟩ v b (by simpa using hg b off rfl))

set_option maxRecDepth 100000 in
set_option maxHeartbeats 2000000 in
theorem policy_any (a1 : Option Addr) (n1 c1 : Nat) (o m : Nat → Int) (k g : Nat → ByteArray) (req : Bool) (a2 : Option Addr) (n2 c2 : Nat) (r : Nat → Nat → ByteArray) (w : World)
    (h1 : Cells w a1 n1 4 (KC o m k g)) (e1 : a1 = none → n1 = 0) (h2 : Cells w a2 n2 5 (RC r)) (e2 : a2 = none → n2 = 0) (b1 : n1 ≤ 65536) (b2 : n2 ≤ 65536) :
    Calls Try.prog 10 #[.slice a1 n1 c1, .bool req, .slice a2 n2 c2] w fun r' w' => PolEnd a1 a2 n1 n2 req (KC o m k g) (RC r) w r' w' := by
  have H1 : Hid (∀ x, Cells (w.alloc x) a1 n1 4 (KC o m k g)) := fun x => h1.alloc x
  have H2 : Hid (∀ x, Cells (w.alloc x) a2 n2 5 (RC r)) := fun x => h2.alloc x
  have E1 : Hid (a1 = none → n1 = 0) := e1
  have E2 : Hid (a2 = none → n2 = 0) := e2
  clear h1 h2 e1 e2
  go_enter Try.func10, Try.ntmps10
  go_wp2_with fail
  refine (toK_any a1 n1 c1 o m k g _ (H1.out _) E1.out b1).mono ?_
  rintro r' w1 ⟨x1, y1, rfl, i1, t1, q1, hb1⟩
  rw [World.size_alloc] at t1
  have I1 : Hid (x1.isNone = a1.isNone) := i1
  have T1 : Hid (∀ b off, x1 = some ⟨b, off, none⟩ → w.heap.size + 1 ≤ b) := t1
  have Q1 : Hid (Cells w1 x1 n1 4 (KC o m k g)) := q1
  have P2 : Hid (Cells w1 a2 n2 5 (RC r)) := (H2.out _).below hb1
  clear i1 t1 q1 H1 H2
  go_wp2_with fail
  refine (toR_any a2 n2 c2 r _ P2.out E2.out b2).mono ?_
  rintro r' w2 ⟨x2, y2, rfl, i2, t2, q2, hb2⟩
  have I2 : Hid (x2.isNone = a2.isNone) := i2
  have hsz : w.heap.size + 1 ≤ w1.heap.size := by have := hb1.size; simpa using this
  have T2 : Hid (∀ b off, x2 = some ⟨b, off, none⟩ → w.heap.size + 1 ≤ b) := fun b off h => Nat.le_trans hsz (t2 b off h)
  have Q2 : Hid (Cells w2 x2 n2 5 (RC r)) := q2
  have R1 : Hid (Cells w2 x1 n1 4 (KC o m k g)) := Q1.out.below hb2
  have z0 : w2.cell? ⟨w.heap.size, 0, none⟩ = some (.slice none 0 0) := by rw [hb2.cell (p := ⟨w.heap.size, 0, none⟩) (by exact hsz), hb1.cell (p := ⟨w.heap.size, 0, none⟩) (by simp)]; simp
  have z1 : w2.cell? ⟨w.heap.size, 1, none⟩ = some (.bool false) := by rw [hb2.cell (p := ⟨w.heap.size, 1, none⟩) (by exact hsz), hb1.cell (p := ⟨w.heap.size, 1, none⟩) (by simp)]; simp
  have z2 : w2.cell? ⟨w.heap.size, 2, none⟩ = some (.slice none 0 0) := by rw [hb2.cell (p := ⟨w.heap.size, 2, none⟩) (by exact hsz), hb1.cell (p := ⟨w.heap.size, 2, none⟩) (by simp)]; simp
  have f0 : w2.frozen? ⟨w.heap.size, 0, none⟩ = false := by rw [hb2.frozen (p := ⟨w.heap.size, 0, none⟩) (by exact hsz), hb1.frozen (p := ⟨w.heap.size, 0, none⟩) (by simp)]; simp
  have f1 : w2.frozen? ⟨w.heap.size, 1, none⟩ = false := by rw [hb2.frozen (p := ⟨w.heap.size, 1, none⟩) (by exact hsz), hb1.frozen (p := ⟨w.heap.size, 1, none⟩) (by simp)]; simp
  have f2 : w2.frozen? ⟨w.heap.size, 2, none⟩ = false := by rw [hb2.frozen (p := ⟨w.heap.size, 2, none⟩) (by exact hsz), hb1.frozen (p := ⟨w.heap.size, 2, none⟩) (by simp)]; simp
  have hB : Below w.heap.size w w2 := ((below_alloc w _).trans (hb1.mono (by simp))).trans (hb2.mono (by omega))
  have HB : Hid (Below w.heap.size w w2) := hB
  clear i2 t2 q2 hb1 hb2 Q1 P2 hB
  go_wp2
  refine bodyPost_ret (v := .agg #[.slice x1 n1 y1, .bool req, .slice x2 n2 y2]) (by simp [results, Try.results10, go_sem, z0, z1, z2]) rfl ⟨x1, y1, x2, y2, rfl, I1.out, I2.out, ?_, ?_, ?_⟩
  · exact cells_setCell (cells_setCell (cells_setCell R1.out (fun b off h => by have := T1.out b off h; omega)) (fun b off h => by have := T1.out b off h; omega)) (fun b off h => by have := T1.out b off h; omega)
  · exact cells_setCell (cells_setCell (cells_setCell Q2.out (fun b off h => by have := T2.out b off h; omega)) (fun b off h => by have := T2.out b off h; omega)) (fun b off h => by have := T2.out b off h; omega)
  · exact ((HB.out.setCell (Nat.le_refl _) _).setCell (Nat.le_refl _) _).setCell (Nat.le_refl _) _
end Go.Proofs.Qxb6604198a

/-
  Masked.
-/
import Derived.Test.Qxb6604198aPolicy
namespace Go.Proofs.Qxb6604198a
open Go.RowKit
set_option linter.unusedVariables false

/-- A policy as a body shows it: both lists there, each key masked. -/
def MaskEnd (n1 n2 : Nat) (req : Bool) (C1 C2 : Nat → Value) (w : World) (r : Ending) (w' : World) : Prop :=
  ∃ b1 d1 b2 d2, r = .returned (.agg #[.slice (some b1) n1 d1, .bool req, .slice (some b2) n2 d2]) ∧ Cells w' (some b1) n1 4 C1 ∧ Cells w' (some b2) n2 5 C2 ∧ Below w.heap.size w w'

def stars : Nat → ByteArray := fun _ => ⟨#[42, 42, 42]⟩

/-- Behind the make: the boxed policy and the result's block stand as they were laid; nothing older has turned. -/
structure Laid (w : World) (u0 u1 u2 : Value) (wr : World) : Prop where
  old : Below w.heap.size w wr
  p0 : wr.cell? ⟨w.heap.size, 0, none⟩ = some u0
  p1 : wr.cell? ⟨w.heap.size, 1, none⟩ = some u1
  p2 : wr.cell? ⟨w.heap.size, 2, none⟩ = some u2
  q0 : wr.cell? ⟨w.heap.size + 1, 0, none⟩ = some (.slice none 0 0)
  q1 : wr.cell? ⟨w.heap.size + 1, 1, none⟩ = some (.bool false)
  q2 : wr.cell? ⟨w.heap.size + 1, 2, none⟩ = some (.slice none 0 0)
  f : ∀ b o, b < w.heap.size + 1 + 1 → w.heap.size ≤ b → wr.frozen? ⟨b, o, none⟩ = false
  size : w.heap.size + 1 + 1 ≤ wr.heap.size

theorem laid_start (w w3 : World) (u0 u1 u2 : Value) (hb : Below (w.heap.size + 1 + 1) ((w.alloc (.cells #[u0, u1, u2] 33)).alloc (.cells #[.slice none 0 0, .bool false, .slice none 0 0] 33)) w3) : Laid w u0 u1 u2 w3 := by
  refine ⟨?_, ?_, ?_, ?_, ?_, ?_, ?_, ?_, ?_⟩
  · exact ((below_alloc w _).alloc (by simp) _).trans (hb.mono (by omega))
  · rw [hb.cell (p := ⟨w.heap.size, 0, none⟩) (by show w.heap.size < _; omega)]; simp
  · rw [hb.cell (p := ⟨w.heap.size, 1, none⟩) (by show w.heap.size < _; omega)]; simp
  · rw [hb.cell (p := ⟨w.heap.size, 2, none⟩) (by show w.heap.size < _; omega)]; simp
  · rw [hb.cell (p := ⟨w.heap.size + 1, 0, none⟩) (by show w.heap.size + 1 < _; omega)]; simp
  · rw [hb.cell (p := ⟨w.heap.size + 1, 1, none⟩) (by show w.heap.size + 1 < _; omega)]; simp
  · rw [hb.cell (p := ⟨w.heap.size + 1, 2, none⟩) (by show w.heap.size + 1 < _; omega)]; simp
  · intro b o h1 h2
    rw [hb.frozen (p := ⟨b, o, none⟩) h1]
    rcases (by omega : b = w.heap.size ∨ b = w.heap.size + 1) with rfl | rfl <;> simp
  · have := hb.size; simpa using this
theorem Laid.later {w wr wr' : World} {u0 u1 u2 : Value} (h : Laid w u0 u1 u2 wr) (hb : Below (w.heap.size + 1 + 1) wr wr') : Laid w u0 u1 u2 wr' := by
  refine ⟨h.old.trans (hb.mono (by omega)), ?_, ?_, ?_, ?_, ?_, ?_, ?_, Nat.le_trans h.size hb.size⟩
  · rw [hb.cell (p := ⟨w.heap.size, 0, none⟩) (by show w.heap.size < _; omega)]; exact h.p0
  · rw [hb.cell (p := ⟨w.heap.size, 1, none⟩) (by show w.heap.size < _; omega)]; exact h.p1
  · rw [hb.cell (p := ⟨w.heap.size, 2, none⟩) (by show w.heap.size < _; omega)]; exact h.p2
  · rw [hb.cell (p := ⟨w.heap.size + 1, 0, none⟩) (by show w.heap.size + 1 < _; omega)]; exact h.q0
  · rw [hb.cell (p := ⟨w.heap.size + 1, 1, none⟩) (by show w.heap.size + 1 < _; omega)]; exact h.q1
  · rw [hb.cell (p := ⟨w.heap.size + 1, 2, none⟩) (by show w.heap.size + 1 < _; omega)]; exact h.q2
  · intro b o h1 h2
    rw [hb.frozen (p := ⟨b, o, none⟩) h1]; exact h.f b o h1 h2

theorem below4 (wr : World) (G i0 i1 i2 i3 : Nat) (v0 v1 v2 v3 : Value) (x : Obj) (h : G ≤ wr.heap.size) :
    Below G wr (((((wr.setCell ⟨G, i0, none⟩ v0).setCell ⟨G, i1, none⟩ v1).setCell ⟨G, i2, none⟩ v2).setCell ⟨G, i3, none⟩ v3).alloc x) :=
  (((((Below.refl G wr).setCell (Nat.le_refl _) _).setCell (Nat.le_refl _) _).setCell (Nat.le_refl _) _).setCell (Nat.le_refl _) _).alloc (by simpa using h) _

set_option maxRecDepth 100000 in
set_option maxHeartbeats 4000000 in
theorem masked_any (a1 : Option Addr) (n1 c1 : Nat) (o m : Nat → Int) (k g : Nat → ByteArray) (req : Bool) (a2 : Option Addr) (n2 c2 : Nat) (r : Nat → Nat → ByteArray) (w : World)
    (h1 : Cells w a1 n1 4 (KC o m k g)) (h2 : Cells w a2 n2 5 (RC r)) (e2 : a2 = none → n2 = 0) (b1 : n1 ≤ 65536) :
    Calls Try.prog 11 #[.agg #[.slice a1 n1 c1, .bool req, .slice a2 n2 c2]] w fun r' w' => MaskEnd n1 n2 req (KC o m stars g) (RC r) w r' w' := by
  have hnq := fun wx a n c' => Lib.run_eql_slice_nil (P := Try.prog) wx 31 45 a n c' 0 0 Try.underlying31
  have H1 : Hid (Cells w a1 n1 4 (KC o m k g)) := h1
  have H2 : Hid (Cells w a2 n2 5 (RC r)) := h2
  have E2 : Hid (a2 = none → n2 = 0) := e2
  clear h1 h2 e2
  obtain ⟨i0, hi, hz0, hz1, hz2⟩ := info_parts Try.info38
  go_enter Try.func11, Try.ntmps11
  go_wp2_with (at_make; refine wpList_make_full _ rfl _ _ 30 rfl (w.heap.size + 1 + 1) 38 i0 (.agg zk) 4 Try.underlying30 hi hz0 hz1 _ _ _ _ n1 rfl rfl rfl rfl (by rw [hz2]; omega) (by unfold maxLen; omega) (by simp) ?_; intro w3 hown0 hgrow; rw [World.size_alloc, World.size_alloc] at hown0; have HO : Hid (w3.ownsRow (w.heap.size + 1 + 1) 38 4 (.slice (some ⟨w.heap.size + 1 + 1, 0, none⟩) n1 n1) n1 (rowC (upTo (KC o m stars g) (fun i => zk[i % 4]!) 0) (n1 * 4))) := (by rw [← upTo_zero]; have q := made_row zk (n1 * 4); exact q ▸ hown0); have hL := laid_start w w3 _ _ _ ((Below.refl (w.heap.size + 1 + 1) _).grown hgrow (by simp) (by intro k h; cases h)); have HL : Hid (Laid w (.slice a1 n1 c1) (.bool req) (.slice a2 n2 c2) w3) := hL; have p0 := hL.p0; clear hown0 hgrow hL)
  clear hi hz0 hz1 hz2 p0
  go_loopw [4, 5, 13] (fun _ _ i wr => ∃ t : Nat, t ≤ n1 ∧ i = .int .i64 t ∧ Hid (wr.ownsRow (w.heap.size + 1 + 1) 38 4 (.slice (some ⟨w.heap.size + 1 + 1, 0, none⟩) n1 n1) n1 (rowC (upTo (KC o m stars g) (fun i => zk[i % 4]!) (t * 4)) (n1 * 4))) ∧ Hid (Laid w (.slice a1 n1 c1) (.bool req) (.slice a2 n2 c2) wr)) (fun _ _ i _ => n1 - (intOf i).toNat)
  case atStart => exact ⟨0, Nat.zero_le _, rfl, by rw [Nat.zero_mul]; exact HO, HL⟩
  case round =>
    obtain ⟨t, ht, rfl, HR, HLr⟩ := hrel
    clear HO HL
    by_cases hlt : t < n1
    · rcases H1.out with h0 | ⟨b, off, rfl, hc⟩
      · omega
      have hbw : b < w.heap.size := lt_of_cell (hc 0 (by omega))
      have cs : ∀ i, i < n1 * 4 → wr.cell? ⟨b, off + i, none⟩ = some (KC o m k g i) := fun i hi => by rw [HLr.out.old.cell (p := ⟨b, off + i, none⟩) (lt_of_cell (hc i hi))]; exact hc i hi
      have s0 : wr.cell? ⟨b, off + t * 4, none⟩ = some (.int .u32 (o t)) := by rw [cs _ (by omega), KC0]
      have s1 : wr.cell? ⟨b, off + t * 4 + 1, none⟩ = some (.int .u32 (m t)) := by rw [Nat.add_assoc, cs _ (by omega), KC1]
      have s2 : wr.cell? ⟨b, off + t * 4 + 2, none⟩ = some (.string (k t)) := by rw [Nat.add_assoc, cs _ (by omega), KC2]
      have s3 : wr.cell? ⟨b, off + t * 4 + 3, none⟩ = some (.string (g t)) := by rw [Nat.add_assoc, cs _ (by omega), KC3]
      have d0 := own_cell HR.out (t * 4) (by omega)
      have d1 := own_cell HR.out (t * 4 + 1) (by omega)
      have d2 := own_cell HR.out (t * 4 + 2) (by omega)
      have d3 := own_cell HR.out (t * 4 + 3) (by omega)
      have f0 := HR.out.frozenAt (t * 4)
      have f1 := HR.out.frozenAt (t * 4 + 1)
      have f2 := HR.out.frozenAt (t * 4 + 2)
      have f3 := HR.out.frozenAt (t * 4 + 3)
      have hzz : w.heap.size + 1 + 1 < wr.heap.size := lt_of_cell d0
      clear cs hc
      go_wp2
      go_roundw
      case rel => exact ⟨t + 1, by omega, by go_num, by rw [← four_set _ _ n1 t hlt, KC0, KC1, KC2, KC3]; exact World.ownsRow.alloc ((((HR.out.stored _ _).1.stored _ _).1.stored _ _).1.stored _ _).1 _, HLr.out.later (below4 wr _ _ _ _ _ _ _ _ _ _ HLr.out.size)⟩
      case measure => simp [intOf]; omega
    · obtain rfl : n1 = t := by omega
      have p0 := HLr.out.p0
      have p1 := HLr.out.p1
      have p2 := HLr.out.p2
      have q0 := HLr.out.q0
      have q1 := HLr.out.q1
      have q2 := HLr.out.q2
      have g0 := HLr.out.f w.heap.size 0 (by omega) (by omega)
      have g2 := HLr.out.f w.heap.size 2 (by omega) (by omega)
      have h0 := HLr.out.f (w.heap.size + 1) 0 (by omega) (by omega)
      have h1 := HLr.out.f (w.heap.size + 1) 1 (by omega) (by omega)
      have h2 := HLr.out.f (w.heap.size + 1) 2 (by omega) (by omega)
      have hsz := HLr.out.size
      have hs0 : w.heap.size < wr.heap.size := by omega
      have hs1 : w.heap.size + 1 < wr.heap.size := by omega
      have hK : Cells wr (some ⟨w.heap.size + 1 + 1, 0, none⟩) n1 4 (KC o m stars g) := by
        refine cells_of_own (e := 38) (B := w.heap.size + 1 + 1) ?_
        rw [← upTo_all (KC o m stars g) (fun i => zk[i % 4]!) (n1 * 4) (n1 * 4) (Nat.le_refl _)]
        exact HR.out
      have HK : Hid (Cells wr (some ⟨w.heap.size + 1 + 1, 0, none⟩) n1 4 (KC o m stars g)) := hK
      clear hK
      rcases a2 with _ | y
      · obtain rfl : n2 = 0 := E2.out rfl
        go_wp2
        refine bodyPost_ret (v := .agg #[.slice (some ⟨w.heap.size + 1 + 1, 0, none⟩) n1 n1, .bool req, .slice (some ⟨wr.heap.size, 0, none⟩) 0 0]) (by simp [results, Try.results11, go_sem, q0, q1, q2, hs1]) rfl ⟨_, n1, _, 0, rfl, ?_, Or.inl rfl, ?_⟩
        · exact (cells_setCell (cells_setCell (cells_setCell (cells_setCell (cells_setCell HK.out (fun b off h => by cases h; omega)) (fun b off h => by cases h; omega)) (fun b off h => by cases h; omega)) (fun b off h => by cases h; omega)) (fun b off h => by cases h; omega)).alloc _
        · exact (((((HLr.out.old.setCell (Nat.le_refl _) _).setCell (Nat.le_refl _) _).setCell (Nat.le_succ _) _).setCell (Nat.le_succ _) _).setCell (Nat.le_succ _) _).alloc (by simp; omega) _
      · go_wp2
        have hB : Below w.heap.size w ((((wr.setCell ⟨w.heap.size, 0, none⟩ (.slice (some ⟨w.heap.size + 1 + 1, 0, none⟩) n1 n1)).setCell ⟨w.heap.size + 1, 0, none⟩ (.slice (some ⟨w.heap.size + 1 + 1, 0, none⟩) n1 n1)).setCell ⟨w.heap.size + 1, 1, none⟩ (.bool req)).setCell ⟨w.heap.size + 1, 2, none⟩ (.slice (some y) n2 c2)) := (((HLr.out.old.setCell (Nat.le_refl _) _).setCell (Nat.le_succ _) _).setCell (Nat.le_succ _) _).setCell (Nat.le_succ _) _
        refine bodyPost_ret (v := .agg #[.slice (some ⟨w.heap.size + 1 + 1, 0, none⟩) n1 n1, .bool req, .slice (some y) n2 c2]) (by simp [results, Try.results11, go_sem, q0, q1, q2]) rfl ⟨_, n1, _, c2, rfl, ?_, H2.out.below hB, hB⟩
        exact cells_setCell (cells_setCell (cells_setCell (cells_setCell HK.out (fun b off h => by cases h; omega)) (fun b off h => by cases h; omega)) (fun b off h => by cases h; omega)) (fun b off h => by cases h; omega)
end Go.Proofs.Qxb6604198a

/-
  zzCloneKeys, zzCloneRules.
-/
import Derived.Test.Qxb6604198aTools
namespace Go.Proofs.Qxb6604198a
open Go.RowKit
set_option linter.unusedVariables false

/-- A slice that holds C, nil just where the old one is. -/
def Made (a : Option Addr) (n z : Nat) (C : Nat → Value) (w : World) (r : Ending) (w' : World) : Prop :=
  ∃ a' c', r = .returned (.slice a' n c') ∧ a'.isNone = a.isNone ∧ (∀ b off, a' = some ⟨b, off, none⟩ → w.heap.size ≤ b) ∧ Cells w' a' n z C ∧ Below w.heap.size w w'

set_option maxRecDepth 100000 in
set_option maxHeartbeats 4000000 in
theorem cloneK_any (a : Option Addr) (n c : Nat) (o m : Nat → Int) (k g : Nat → ByteArray) (w : World) (h : Cells w a n 4 (KC o m k g)) (hnil : a = none → n = 0) (hn : n ≤ 65536) :
    Calls Try.prog 8 #[.slice a n c] w fun r' w' => Made a n 4 (KC o m k g) w r' w' := by
  have hnq := fun wx a n c' => Lib.run_eql_slice_nil (P := Try.prog) wx 22 40 a n c' 0 0 Try.underlying22
  rcases a with _ | y
  · obtain rfl := hnil rfl
    clear h hnil
    go_enter Try.func8, Try.ntmps8
    go_wp2
    go_ret
    exact ⟨none, 0, rfl, rfl, fun _ _ h => by (cases h), Or.inl rfl, Below.refl _ _⟩
  · have HC : Hid (Cells w (some y) n 4 (KC o m k g)) := h
    clear h hnil
    obtain ⟨i0, hi, hz0, hz1, hz2⟩ := info_parts Try.info40
    go_enter Try.func8, Try.ntmps8
    go_wp2_with (at_make; refine wpList_make_full _ rfl _ _ 22 rfl w.heap.size 40 i0 (.agg zk) 4 Try.underlying22 hi hz0 hz1 _ _ _ _ n rfl rfl rfl rfl (by rw [hz2]; omega) (by unfold maxLen; omega) (Nat.le_refl _) ?_; intro w3 hown0 hgrow; have HO : Hid (w3.ownsRow w.heap.size 40 4 (.slice (some ⟨w.heap.size, 0, none⟩) n n) n (rowC (upTo (KC o m k g) (fun i => zk[i % 4]!) 0) (n * 4))) := (by rw [← upTo_zero]; have q := made_row zk (n * 4); exact q ▸ hown0); have hb3 := (Below.refl w.heap.size w).grown hgrow (Nat.le_refl _) (by intro k h; cases h); clear hown0 hgrow)
    clear hi hz0 hz1 hz2
    go_loopw [4] (fun i wr => ∃ t : Nat, t ≤ n ∧ i = .int .i64 t ∧ Hid (wr.ownsRow w.heap.size 40 4 (.slice (some ⟨w.heap.size, 0, none⟩) n n) n (rowC (upTo (KC o m k g) (fun i => zk[i % 4]!) (t * 4)) (n * 4))) ∧ Below w.heap.size w wr) (fun i _ => n - (intOf i).toNat)
    case atStart => exact ⟨0, Nat.zero_le _, rfl, by rw [Nat.zero_mul]; exact HO, hb3⟩
    case round =>
      obtain ⟨t, ht, rfl, HR, hbr⟩ := hrel
      clear HO hb3
      by_cases hlt : t < n
      · rcases HC.out with h0 | ⟨b, off, hy, hc⟩
        · omega
        obtain rfl := Option.some.inj hy
        have hbw : b < w.heap.size := lt_of_cell (hc 0 (by omega))
        have cs : ∀ i, i < n * 4 → wr.cell? ⟨b, off + i, none⟩ = some (KC o m k g i) := fun i hi => by rw [hbr.cell (p := ⟨b, off + i, none⟩) (lt_of_cell (hc i hi))]; exact hc i hi
        have s0 : wr.cell? ⟨b, off + t * 4, none⟩ = some (.int .u32 (o t)) := by rw [cs _ (by omega), KC0]
        have s1 : wr.cell? ⟨b, off + t * 4 + 1, none⟩ = some (.int .u32 (m t)) := by rw [Nat.add_assoc, cs _ (by omega), KC1]
        have s2 : wr.cell? ⟨b, off + t * 4 + 2, none⟩ = some (.string (k t)) := by rw [Nat.add_assoc, cs _ (by omega), KC2]
        have s3 : wr.cell? ⟨b, off + t * 4 + 3, none⟩ = some (.string (g t)) := by rw [Nat.add_assoc, cs _ (by omega), KC3]
        have d0 := own_cell HR.out (t * 4) (by omega)
        have d1 := own_cell HR.out (t * 4 + 1) (by omega)
        have d2 := own_cell HR.out (t * 4 + 2) (by omega)
        have d3 := own_cell HR.out (t * 4 + 3) (by omega)
        have f0 := HR.out.frozenAt (t * 4)
        have f1 := HR.out.frozenAt (t * 4 + 1)
        have f2 := HR.out.frozenAt (t * 4 + 2)
        have f3 := HR.out.frozenAt (t * 4 + 3)
        clear cs hc
        go_wp2
        go_roundw
        case rel => exact ⟨t + 1, by omega, by go_num, by rw [← four_set _ _ n t hlt, KC0, KC1, KC2, KC3]; exact ((((HR.out.stored _ _).1.stored _ _).1.stored _ _).1.stored _ _).1, ((((hbr.setCell (Nat.le_refl _) _).setCell (Nat.le_refl _) _).setCell (Nat.le_refl _) _).setCell (Nat.le_refl _) _)⟩
        case measure => simp [intOf]; omega
      · obtain rfl : n = t := by omega
        go_wp2
        go_ret
        refine ⟨_, n, rfl, rfl, fun b off h => by (cases h; exact Nat.le_refl _), cells_of_own (e := 40) (B := w.heap.size) ?_, hbr⟩
        rw [← upTo_all (KC o m k g) (fun i => zk[i % 4]!) (n * 4) (n * 4) (Nat.le_refl _)]
        exact HR.out

set_option maxRecDepth 100000 in
set_option maxHeartbeats 4000000 in
theorem cloneR_any (a : Option Addr) (n c : Nat) (r : Nat → Nat → ByteArray) (w : World) (h : Cells w a n 5 (RC r)) (hnil : a = none → n = 0) (hn : n ≤ 65536) :
    Calls Try.prog 9 #[.slice a n c] w fun r' w' => Made a n 5 (RC r) w r' w' := by
  have hnq := fun wx a n c' => Lib.run_eql_slice_nil (P := Try.prog) wx 23 47 a n c' 0 0 Try.underlying23
  rcases a with _ | y
  · obtain rfl := hnil rfl
    clear h hnil
    go_enter Try.func9, Try.ntmps9
    go_wp2
    go_ret
    exact ⟨none, 0, rfl, rfl, fun _ _ h => by (cases h), Or.inl rfl, Below.refl _ _⟩
  · have HC : Hid (Cells w (some y) n 5 (RC r)) := h
    clear h hnil
    obtain ⟨i0, hi, hz0, hz1, hz2⟩ := info_parts Try.info47
    go_enter Try.func9, Try.ntmps9
    go_wp2_with (at_make; refine wpList_make_full _ rfl _ _ 23 rfl w.heap.size 47 i0 (.agg zr) 5 Try.underlying23 hi hz0 hz1 _ _ _ _ n rfl rfl rfl rfl (by rw [hz2]; omega) (by unfold maxLen; omega) (Nat.le_refl _) ?_; intro w3 hown0 hgrow; have HO : Hid (w3.ownsRow w.heap.size 47 5 (.slice (some ⟨w.heap.size, 0, none⟩) n n) n (rowC (upTo (RC r) (fun i => zr[i % 5]!) 0) (n * 5))) := (by rw [← upTo_zero]; have q := made_row zr (n * 5); exact q ▸ hown0); have hb3 := (Below.refl w.heap.size w).grown hgrow (Nat.le_refl _) (by intro k h; cases h); clear hown0 hgrow)
    clear hi hz0 hz1 hz2
    go_loopw [4] (fun i wr => ∃ t : Nat, t ≤ n ∧ i = .int .i64 t ∧ Hid (wr.ownsRow w.heap.size 47 5 (.slice (some ⟨w.heap.size, 0, none⟩) n n) n (rowC (upTo (RC r) (fun i => zr[i % 5]!) (t * 5)) (n * 5))) ∧ Below w.heap.size w wr) (fun i _ => n - (intOf i).toNat)
    case atStart => exact ⟨0, Nat.zero_le _, rfl, by rw [Nat.zero_mul]; exact HO, hb3⟩
    case round =>
      obtain ⟨t, ht, rfl, HR, hbr⟩ := hrel
      clear HO hb3
      by_cases hlt : t < n
      · rcases HC.out with h0 | ⟨b, off, hy, hc⟩
        · omega
        obtain rfl := Option.some.inj hy
        have hbw : b < w.heap.size := lt_of_cell (hc 0 (by omega))
        have cs : ∀ i, i < n * 5 → wr.cell? ⟨b, off + i, none⟩ = some (RC r i) := fun i hi => by rw [hbr.cell (p := ⟨b, off + i, none⟩) (lt_of_cell (hc i hi))]; exact hc i hi
        have s0 : wr.cell? ⟨b, off + t * 5, none⟩ = some (.string (r 0 t)) := by rw [cs _ (by omega), RC0]
        have s1 : wr.cell? ⟨b, off + t * 5 + 1, none⟩ = some (.string (r 1 t)) := by rw [Nat.add_assoc, cs _ (by omega), RC_at r t 1 (by omega)]
        have s2 : wr.cell? ⟨b, off + t * 5 + 2, none⟩ = some (.string (r 2 t)) := by rw [Nat.add_assoc, cs _ (by omega), RC_at r t 2 (by omega)]
        have s3 : wr.cell? ⟨b, off + t * 5 + 3, none⟩ = some (.string (r 3 t)) := by rw [Nat.add_assoc, cs _ (by omega), RC_at r t 3 (by omega)]
        have s4 : wr.cell? ⟨b, off + t * 5 + 4, none⟩ = some (.string (r 4 t)) := by rw [Nat.add_assoc, cs _ (by omega), RC_at r t 4 (by omega)]
        have d0 := own_cell HR.out (t * 5) (by omega)
        have d1 := own_cell HR.out (t * 5 + 1) (by omega)
        have d2 := own_cell HR.out (t * 5 + 2) (by omega)
        have d3 := own_cell HR.out (t * 5 + 3) (by omega)
        have d4 := own_cell HR.out (t * 5 + 4) (by omega)
        have f0 := HR.out.frozenAt (t * 5)
        have f1 := HR.out.frozenAt (t * 5 + 1)
        have f2 := HR.out.frozenAt (t * 5 + 2)
        have f3 := HR.out.frozenAt (t * 5 + 3)
        have f4 := HR.out.frozenAt (t * 5 + 4)
        clear cs hc
        go_wp2
        go_roundw
        case rel => exact ⟨t + 1, by omega, by go_num, by rw [← five_set _ _ n t hlt, RC0, RC_at r t 1 (by omega), RC_at r t 2 (by omega), RC_at r t 3 (by omega), RC_at r t 4 (by omega)]; exact (((((HR.out.stored _ _).1.stored _ _).1.stored _ _).1.stored _ _).1.stored _ _).1, (((((hbr.setCell (Nat.le_refl _) _).setCell (Nat.le_refl _) _).setCell (Nat.le_refl _) _).setCell (Nat.le_refl _) _).setCell (Nat.le_refl _) _)⟩
        case measure => simp [intOf]; omega
      · obtain rfl : n = t := by omega
        go_wp2
        go_ret
        refine ⟨_, n, rfl, rfl, fun b off h => by (cases h; exact Nat.le_refl _), cells_of_own (e := 47) (B := w.heap.size) ?_, hbr⟩
        rw [← upTo_all (RC r) (fun i => zr[i % 5]!) (n * 5) (n * 5) (Nat.le_refl _)]
        exact HR.out
end Go.Proofs.Qxb6604198a

/-
  zzKeyIs, zzRuleIs, zzSameKeys, zzSameRules, at what is the same.
-/
import Derived.Test.Qxb6604198aTools
import Derived.Deep.RegionWith
namespace Go.Proofs.Qxb6604198a
open Go.RowKit
set_option linter.unusedVariables false

set_option maxHeartbeats 1000000 in
theorem keyIs_same (o m : Int) (k g : ByteArray) (w : World) :
    Calls Try.prog 17 #[.agg #[.int .u32 o, .int .u32 m, .string k, .string g], .agg #[.int .u32 o, .int .u32 m, .string k, .string g]] w fun r w' => r = .returned (.bool true) ∧ Below w.heap.size w w' := by
  go_enter Try.func17, Try.ntmps17
  go_wp2
  go_ret
  exact ⟨rfl, ((Below.refl _ _).alloc (Nat.le_refl _) _).alloc (by simp) _⟩

set_option maxHeartbeats 1000000 in
theorem ruleIs_same (r0 r1 r2 r3 r4 : ByteArray) (w : World) :
    Calls Try.prog 12 #[.agg #[.string r0, .string r1, .string r2, .string r3, .string r4], .agg #[.string r0, .string r1, .string r2, .string r3, .string r4]] w fun r w' => r = .returned (.bool true) ∧ Below w.heap.size w w' := by
  go_enter Try.func12, Try.ntmps12
  go_wp2
  go_ret
  exact ⟨rfl, ((Below.refl _ _).alloc (Nat.le_refl _) _).alloc (by simp) _⟩

set_option maxRecDepth 100000 in
set_option maxHeartbeats 4000000 in
theorem sameK (a1 a2 : Option Addr) (n c1 c2 : Nat) (o m : Nat → Int) (k g : Nat → ByteArray) (w : World) (h1 : Cells w a1 n 4 (KC o m k g)) (h2 : Cells w a2 n 4 (KC o m k g)) (hnil : a1.isNone = a2.isNone) (hn : n ≤ 65536) :
    Calls Try.prog 13 #[.slice a1 n c1, .slice a2 n c2] w fun r' w' => r' = .returned (.bool true) ∧ Below w.heap.size w w' := by
  have q1 := fun wx a n c' => Lib.run_eql_slice_nil (P := Try.prog) wx 22 40 a n c' 0 0 Try.underlying22
  have q2 := fun wx a n c' => Lib.run_eql_slice_nil (P := Try.prog) wx 30 38 a n c' 0 0 Try.underlying30
  have H1 : Hid (Cells w a1 n 4 (KC o m k g)) := h1
  have H2 : Hid (Cells w a2 n 4 (KC o m k g)) := h2
  clear h1 h2
  rcases a1 with _ | y1 <;> rcases a2 with _ | y2
  · have h0 : n = 0 := by
      rcases H1.out with h0 | ⟨b1, off1, e1, hc1⟩
      · exact h0
      · cases e1
    subst h0
    go_enter Try.func13, Try.ntmps13
    go_wp2
    refine wp_loop_rounds 1 ?_
    rw [rounds_succ]
    go_wp2
    go_ret
    exact ⟨rfl, Below.refl _ _⟩
  · simp at hnil
  · simp at hnil
  go_enter Try.func13, Try.ntmps13
  go_wp2
  go_loopw [5] (fun i wr => ∃ t : Nat, t ≤ n ∧ i = .int .i64 t ∧ Below w.heap.size w wr) (fun i _ => n - (intOf i).toNat)
  case atStart => exact ⟨0, Nat.zero_le _, rfl, Below.refl _ _⟩
  case round =>
    obtain ⟨t, ht, rfl, hbr⟩ := hrel
    by_cases hlt : t < n
    · rcases H1.out with h0 | ⟨b1, off1, e1, hc1⟩
      · omega
      obtain rfl := Option.some.inj e1
      rcases H2.out with h0 | ⟨b2, off2, e2, hc2⟩
      · omega
      obtain rfl := Option.some.inj e2
      have hbi : (t : Int) < (n : Int) := by omega
      have s0 : wr.cell? ⟨b1, off1 + t * 4, none⟩ = some (.int .u32 (o t)) := by rw [hbr.cell (p := ⟨b1, off1 + t * 4, none⟩) (lt_of_cell (hc1 0 (by omega))), hc1 _ (by omega), KC0]
      have s1 : wr.cell? ⟨b1, off1 + t * 4 + 1, none⟩ = some (.int .u32 (m t)) := by rw [hbr.cell (p := ⟨b1, off1 + t * 4 + 1, none⟩) (lt_of_cell (hc1 0 (by omega))), Nat.add_assoc, hc1 _ (by omega), KC1]
      have s2 : wr.cell? ⟨b1, off1 + t * 4 + 2, none⟩ = some (.string (k t)) := by rw [hbr.cell (p := ⟨b1, off1 + t * 4 + 2, none⟩) (lt_of_cell (hc1 0 (by omega))), Nat.add_assoc, hc1 _ (by omega), KC2]
      have s3 : wr.cell? ⟨b1, off1 + t * 4 + 3, none⟩ = some (.string (g t)) := by rw [hbr.cell (p := ⟨b1, off1 + t * 4 + 3, none⟩) (lt_of_cell (hc1 0 (by omega))), Nat.add_assoc, hc1 _ (by omega), KC3]
      have d0 : wr.cell? ⟨b2, off2 + t * 4, none⟩ = some (.int .u32 (o t)) := by rw [hbr.cell (p := ⟨b2, off2 + t * 4, none⟩) (lt_of_cell (hc2 0 (by omega))), hc2 _ (by omega), KC0]
      have d1 : wr.cell? ⟨b2, off2 + t * 4 + 1, none⟩ = some (.int .u32 (m t)) := by rw [hbr.cell (p := ⟨b2, off2 + t * 4 + 1, none⟩) (lt_of_cell (hc2 0 (by omega))), Nat.add_assoc, hc2 _ (by omega), KC1]
      have d2 : wr.cell? ⟨b2, off2 + t * 4 + 2, none⟩ = some (.string (k t)) := by rw [hbr.cell (p := ⟨b2, off2 + t * 4 + 2, none⟩) (lt_of_cell (hc2 0 (by omega))), Nat.add_assoc, hc2 _ (by omega), KC2]
      have d3 : wr.cell? ⟨b2, off2 + t * 4 + 3, none⟩ = some (.string (g t)) := by rw [hbr.cell (p := ⟨b2, off2 + t * 4 + 3, none⟩) (lt_of_cell (hc2 0 (by omega))), Nat.add_assoc, hc2 _ (by omega), KC3]
      clear hc1 hc2
      go_wp2
      go_region_with (go_at_call 17; refine (keyIs_same _ _ _ _ _).mono ?_; rintro r' w1 ⟨rfl, hb1⟩)
      all_goals
        go_wp2
        go_roundw
        case rel => exact ⟨t + 1, by omega, by go_num, hbr.drew.trans (Below.mono hb1 hbr.size)⟩
        case measure => simp [intOf]; omega
    · go_wp2
      go_ret
      exact ⟨rfl, hbr⟩

set_option maxRecDepth 100000 in
set_option maxHeartbeats 4000000 in
theorem sameR (a1 a2 : Option Addr) (n c1 c2 : Nat) (r : Nat → Nat → ByteArray) (w : World) (h1 : Cells w a1 n 5 (RC r)) (h2 : Cells w a2 n 5 (RC r)) (hnil : a1.isNone = a2.isNone) (hn : n ≤ 65536) :
    Calls Try.prog 14 #[.slice a1 n c1, .slice a2 n c2] w fun r' w' => r' = .returned (.bool true) ∧ Below w.heap.size w w' := by
  have q1 := fun wx a n c' => Lib.run_eql_slice_nil (P := Try.prog) wx 23 47 a n c' 0 0 Try.underlying23
  have q2 := fun wx a n c' => Lib.run_eql_slice_nil (P := Try.prog) wx 31 45 a n c' 0 0 Try.underlying31
  have H1 : Hid (Cells w a1 n 5 (RC r)) := h1
  have H2 : Hid (Cells w a2 n 5 (RC r)) := h2
  clear h1 h2
  rcases a1 with _ | y1 <;> rcases a2 with _ | y2
  · have h0 : n = 0 := by
      rcases H1.out with h0 | ⟨b1, off1, e1, hc1⟩
      · exact h0
      · cases e1
    subst h0
    go_enter Try.func14, Try.ntmps14
    go_wp2
    refine wp_loop_rounds 1 ?_
    rw [rounds_succ]
    go_wp2
    go_ret
    exact ⟨rfl, Below.refl _ _⟩
  · simp at hnil
  · simp at hnil
  go_enter Try.func14, Try.ntmps14
  go_wp2
  go_loopw [5] (fun i wr => ∃ t : Nat, t ≤ n ∧ i = .int .i64 t ∧ Below w.heap.size w wr) (fun i _ => n - (intOf i).toNat)
  case atStart => exact ⟨0, Nat.zero_le _, rfl, Below.refl _ _⟩
  case round =>
    obtain ⟨t, ht, rfl, hbr⟩ := hrel
    by_cases hlt : t < n
    · rcases H1.out with h0 | ⟨b1, off1, e1, hc1⟩
      · omega
      obtain rfl := Option.some.inj e1
      rcases H2.out with h0 | ⟨b2, off2, e2, hc2⟩
      · omega
      obtain rfl := Option.some.inj e2
      have hbi : (t : Int) < (n : Int) := by omega
      have s0 : wr.cell? ⟨b1, off1 + t * 5, none⟩ = some (.string (r 0 t)) := by rw [hbr.cell (p := ⟨b1, off1 + t * 5, none⟩) (lt_of_cell (hc1 0 (by omega))), hc1 _ (by omega), RC0]
      have s1 : wr.cell? ⟨b1, off1 + t * 5 + 1, none⟩ = some (.string (r 1 t)) := by rw [hbr.cell (p := ⟨b1, off1 + t * 5 + 1, none⟩) (lt_of_cell (hc1 0 (by omega))), Nat.add_assoc, hc1 _ (by omega), RC_at r t 1 (by omega)]
      have s2 : wr.cell? ⟨b1, off1 + t * 5 + 2, none⟩ = some (.string (r 2 t)) := by rw [hbr.cell (p := ⟨b1, off1 + t * 5 + 2, none⟩) (lt_of_cell (hc1 0 (by omega))), Nat.add_assoc, hc1 _ (by omega), RC_at r t 2 (by omega)]
      have s3 : wr.cell? ⟨b1, off1 + t * 5 + 3, none⟩ = some (.string (r 3 t)) := by rw [hbr.cell (p := ⟨b1, off1 + t * 5 + 3, none⟩) (lt_of_cell (hc1 0 (by omega))), Nat.add_assoc, hc1 _ (by omega), RC_at r t 3 (by omega)]
      have s4 : wr.cell? ⟨b1, off1 + t * 5 + 4, none⟩ = some (.string (r 4 t)) := by rw [hbr.cell (p := ⟨b1, off1 + t * 5 + 4, none⟩) (lt_of_cell (hc1 0 (by omega))), Nat.add_assoc, hc1 _ (by omega), RC_at r t 4 (by omega)]
      have d0 : wr.cell? ⟨b2, off2 + t * 5, none⟩ = some (.string (r 0 t)) := by rw [hbr.cell (p := ⟨b2, off2 + t * 5, none⟩) (lt_of_cell (hc2 0 (by omega))), hc2 _ (by omega), RC0]
      have d1 : wr.cell? ⟨b2, off2 + t * 5 + 1, none⟩ = some (.string (r 1 t)) := by rw [hbr.cell (p := ⟨b2, off2 + t * 5 + 1, none⟩) (lt_of_cell (hc2 0 (by omega))), Nat.add_assoc, hc2 _ (by omega), RC_at r t 1 (by omega)]
      have d2 : wr.cell? ⟨b2, off2 + t * 5 + 2, none⟩ = some (.string (r 2 t)) := by rw [hbr.cell (p := ⟨b2, off2 + t * 5 + 2, none⟩) (lt_of_cell (hc2 0 (by omega))), Nat.add_assoc, hc2 _ (by omega), RC_at r t 2 (by omega)]
      have d3 : wr.cell? ⟨b2, off2 + t * 5 + 3, none⟩ = some (.string (r 3 t)) := by rw [hbr.cell (p := ⟨b2, off2 + t * 5 + 3, none⟩) (lt_of_cell (hc2 0 (by omega))), Nat.add_assoc, hc2 _ (by omega), RC_at r t 3 (by omega)]
      have d4 : wr.cell? ⟨b2, off2 + t * 5 + 4, none⟩ = some (.string (r 4 t)) := by rw [hbr.cell (p := ⟨b2, off2 + t * 5 + 4, none⟩) (lt_of_cell (hc2 0 (by omega))), Nat.add_assoc, hc2 _ (by omega), RC_at r t 4 (by omega)]
      clear hc1 hc2
      go_wp2
      go_region_with (go_at_call 12; refine (ruleIs_same _ _ _ _ _ _).mono ?_; rintro r' w1 ⟨rfl, hb1⟩)
      all_goals
        go_wp2
        go_roundw
        case rel => exact ⟨t + 1, by omega, by go_num, hbr.drew.trans (Below.mono hb1 hbr.size)⟩
        case measure => simp [intOf]; omega
    · go_wp2
      go_ret
      exact ⟨rfl, hbr⟩
end Go.Proofs.Qxb6604198a

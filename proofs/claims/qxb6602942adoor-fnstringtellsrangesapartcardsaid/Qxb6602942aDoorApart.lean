import Derived.Test.Qxb6602942aDoorWalks
import Derived.Deep.RegionWith
namespace Go.Proofs.Qxb6602942aDoor
open Go.RowKit
set_option linter.unusedVariables false

theorem retb {a b : Bool} (h : a = b) : Ending.returned (.bool a) = .returned (.bool b) := by rw [h]

theorem after1 {w w1 : World} {o1 : Obj} (x y : Int) (b : Bool) (hb : Below ((w.alloc o1).alloc (.cells #[.int .i64 x, .int .i64 y, .bool b] 23)).drew.heap.size ((w.alloc o1).alloc (.cells #[.int .i64 x, .int .i64 y, .bool b] 23)).drew w1) :
    w1.cell? ⟨w.heap.size + 1, 0, none⟩ = some (.int .i64 x) ∧ w1.cell? ⟨w.heap.size + 1, 1, none⟩ = some (.int .i64 y) ∧ w1.cell? ⟨w.heap.size + 1, 2, none⟩ = some (.bool b) ∧ Below w.heap.size w w1 := by
  refine ⟨?_, ?_, ?_, ?_⟩
  · rw [hb.cell (p := ⟨w.heap.size + 1, 0, none⟩) (by simp)]; simp
  · rw [hb.cell (p := ⟨w.heap.size + 1, 1, none⟩) (by simp)]; simp
  · rw [hb.cell (p := ⟨w.heap.size + 1, 2, none⟩) (by simp)]; simp
  · exact ((((Below.refl _ _).alloc (Nat.le_refl _) _).alloc (by simp) _).drew).trans (hb.mono (by simp; omega))
theorem before1 (w : World) (o1 o2 : Obj) : Below w.heap.size w ((w.alloc o1).alloc o2).drew := ((((Below.refl _ _).alloc (Nat.le_refl _) _).alloc (by simp) _).drew)

def tcmp (f1 t1 : Int) (e1 : Bool) (f2 t2 : Int) (e2 : Bool) : Bool := Num.text f1 t1 e1 == Num.text f2 t2 e2
theorem tcmp_eq (f1 t1 : Int) (e1 : Bool) (f2 t2 : Int) (e2 : Bool) : tcmp f1 t1 e1 f2 t2 e2 = ((f1 == f2) && ((e1 == e2) && (e1 || (t1 == t2)))) := by
  unfold tcmp
  rw [Bool.eq_iff_iff]
  simp [Num.text_iff]

set_option maxHeartbeats 4000000 in
theorem apart_walk (f1 t1 : Int) (e1 : Bool) (f2 t2 : Int) (e2 : Bool) (w : World)
    (a0 : -9223372036854775808 ≤ f1) (a1 : f1 ≤ 9223372036854775807) (b0 : -9223372036854775808 ≤ t1) (b1 : t1 ≤ 9223372036854775807)
    (c0 : -9223372036854775808 ≤ f2) (c1 : f2 ≤ 9223372036854775807) (d0 : -9223372036854775808 ≤ t2) (d1 : t2 ≤ 9223372036854775807)
    (htab : Lib.TabIs Tryd.prog w powName .u64 Lib.pow10Tab) :
    Calls Tryd.prog 4 #[.int .i64 f1, .int .i64 t1, .bool e1, .int .i64 f2, .int .i64 t2, .bool e2] w fun e w' => e = .returned (.bool true) ∧ Below w.heap.size w w' := by
  have htb := Lib.tabBelow_of_tabIs htab
  clear htab
  have HT : Hid (tcmp f1 t1 e1 f2 t2 e2 = _) := tcmp_eq f1 t1 e1 f2 t2 e2
  generalize hs1 : (f1 == f2) = s1 at HT
  generalize hs2 : (e1 == e2) = s2 at HT
  generalize hs3 : (t1 == t2) = s3 at HT
  have hcase : s1 = false ∨ (s1 = true ∧ s2 = false) ∨ (s1 = true ∧ s2 = true ∧ e1 = true) ∨ (s1 = true ∧ s2 = true ∧ e1 = false) := by
    cases s1 <;> cases s2 <;> cases e1 <;> simp
  rcases hcase with rfl | ⟨rfl, rfl⟩ | ⟨rfl, rfl, rfl⟩ | ⟨rfl, rfl, rfl⟩
  all_goals
    go_enter Tryd.func4, Tryd.ntmps4
    go_wp2
    go_region_with (first | (go_at_call_of 5 (Value.int .i64 f1); refine (string_any f1 t1 _ _ a0 a1 b0 b1 ?_).mono ?_; exact htb _ (before1 _ _ _); rintro e w1 ⟨rfl, hb1⟩; obtain ⟨q0, q1, q2, hbw⟩ := after1 _ _ _ hb1) | (go_at_call_of 5 (Value.int .i64 f2); refine (string_any f2 t2 _ _ c0 c1 d0 d1 ?_).mono ?_; exact htb _ hbw; rintro e w2 ⟨rfl, hb2⟩))
    all_goals
      go_wp2
      go_ret
      refine ⟨retb ?_, hbw.trans (hb2.mono hbw.size)⟩
      have h := HT.out
      unfold tcmp at h
      rw [h]
      try simp
end Go.Proofs.Qxb6602942aDoor

/-
  'if a != nil { c := make(..); copy(c, a); a = c }': what stands behind it.
-/
import Derived.Test.Qxb6603456aWalks
namespace Go.Proofs.Qxb6603456a
open Go.RowKit
set_option linter.unusedVariables false

/-- What stands behind 'if a != nil { c := make(..); copy(c, a); a = c }': the slice holds the same strings; nothing old has turned. -/
def Copied (w : World) (n : Nat) (S : Nat → ByteArray) (v : Value) (w' : World) : Prop := ∃ a c, v = .slice a n c ∧ Strs w' a n S ∧ Below w.heap.size w w'

theorem rowOf_zero' (n : Nat) : (madeCells (Value.string ByteArray.empty).cells (n * 1)).toList = rowOf (fun _ => ByteArray.empty) n := by
  rw [Nat.mul_one]; exact rowOf_zero n
theorem copied_src {w : World} {a : Option Addr} {n : Nat} {S : Nat → ByteArray} (h : Strs w a n S) (h0 : 0 < (rowOf S n).length) :
    ∃ ad, a = some ad ∧ ∀ j v, (rowOf S n)[j]? = some v → w.cell? (ad.add j) = some v := by
  rw [rowOf_len] at h0
  rcases h.1 with h1 | ⟨b, off, rfl, hc⟩
  · omega
  · refine ⟨_, rfl, fun j v hv => ?_⟩
    have hj : j < n := by
      have := (List.getElem?_eq_some_iff.1 hv).1
      rwa [rowOf_len] at this
    rw [rowOf_at S n j hj] at hv
    rw [Go.WideShapes.add_plain, hc j hj]
    exact hv
theorem rowOf_one (S : Nat → ByteArray) (n : Nat) : ∀ v ∈ rowOf S n, v.oneCell' = true := by
  intro v hv
  obtain ⟨j, _, rfl⟩ := List.mem_map.1 hv
  rfl
theorem splice_all (S : Nat → ByteArray) (n : Nat) (L : List Value) (h : L.length = n) : splice L 0 (rowOf S n) = rowOf S n := by
  unfold splice
  rw [rowOf_len, List.take_zero, List.drop_of_length_le (by omega)]
  simp

theorem one_strs (w : World) (x : ByteArray) (hx : x.size ≤ maxLen) : Strs (w.alloc (.cells #[.string x] 9)) (some ⟨w.heap.size, 0, none⟩) 1 (fun _ => x) :=
  ⟨Or.inr ⟨_, _, rfl, fun i hi => by obtain rfl : i = 0 := by omega
                                     simp⟩, by unfold maxLen; omega, fun _ _ => hx⟩
theorem anyEq_one (x : ByteArray) : anyEq (fun _ => x) x 1 = true := by simp [anyEq]
theorem below_alloc (w : World) (o : Obj) : Below w.heap.size w (w.alloc o) := (Below.refl _ _).alloc (Nat.le_refl _) o

/-- 'copy(c, a)' into the row that was just made, as one run. -/
theorem copy_run {w3 w0 : World} {g n c B : Nat} {a : Option Addr} {S F : Nat → ByteArray} (hO : w3.heap[g]? = some (.cells (rowOf F n).toArray 9 (0, 0))) (hS : Strs w3 a n S) (hb : Below B w0 w3) (hBg : B ≤ g) :
    ∃ w4, (Builtin.copy_ #[22, 22] 3 #[.slice (some ⟨g, 0, none⟩) n n, .slice a n c]).run Try.prog w3 = .ok (goInt n) w4 ∧ w4.heap[g]? = some (.cells (rowOf S n).toArray 9 (0, 0)) ∧ Below B w0 w4 := by
  by_cases h0 : n = 0
  · subst h0
    exact ⟨w3, run_copy_none (P := Try.prog) w3 22 22 3 9 _ a 0 0 0 c Try.underlying22 Try.size9 rfl, hO, hb⟩
  · obtain ⟨ad, rfl, hsrc⟩ := copied_src hS (by rw [rowOf_len]; omega)
    have hrun := run_copy_row (P := Try.prog) w3 22 22 3 9 g 0 n n ad n c (rowOf F n).toArray 9 (rowOf S n) Try.underlying22 Try.size9 hO (by rw [rowOf_len]; exact (Nat.min_self n).symm) hsrc (by simp [rowOf_len]) (rowOf_one S n)
    rw [rowOf_len] at hrun
    refine ⟨_, hrun, ?_, below_setRow hb hBg _⟩
    rw [setRow_heap w3 g _ _ 9 (0, 0) hO]
    have := splice_all S n (rowOf F n) (rowOf_len F n)
    unfold splice at this
    rw [rowOf_len] at this
    rw [List.append_assoc, this]

end Go.Proofs.Qxb6603456a

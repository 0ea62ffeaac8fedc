/-
  TOOLS FOR THIS SEAT's WALKS: slices of structs as flat rows of cells ('Cells'); keys ('KC': four cells each), rules ('RC': five cells each); rows that a call makes ('rowC').
-/
import Derived.Test.Qxb6604198aRows
import Derived.WalkKit
import Derived.ProofKit
import Derived.WalkSpells
import Derived.WalkLawsBesides
import Derived.Lib.Strings
namespace Go.Proofs.Qxb6604198a
open Go.RowKit
set_option linter.unusedVariables false

theorem retb {a b : Bool} (h : a = b) : Ending.returned (.bool a) = .returned (.bool b) := by rw [h]

theorem lt_of_cell {w : World} {b o : Nat} {v : Value} (h : w.cell? ⟨b, o, none⟩ = some v) : b < w.heap.size := by
  rcases Nat.lt_or_ge b w.heap.size with h2 | h2
  · exact h2
  · rw [World.cell?, Array.getElem?_eq_none (by simpa using h2)] at h; simp at h
theorem below_alloc (w : World) (o : Obj) : Below w.heap.size w (w.alloc o) := (Below.refl _ _).alloc (Nat.le_refl _) o
theorem below_drewN' (w : World) (q : Nat) : Below w.heap.size w (w.drewN q) := by
  induction q with
  | zero => exact Below.refl _ _
  | succ q ih => exact ih.drew

/-- WHAT THE WALK IS TOLD OF A SLICE OF STRUCTS of z cells each: it has no element, or it leads to a row of 'n * z' cells, those of C. -/
def Cells (w : World) (a : Option Addr) (n z : Nat) (C : Nat → Value) : Prop :=
  n = 0 ∨ ∃ b off, a = some ⟨b, off, none⟩ ∧ ∀ i, i < n * z → w.cell? ⟨b, off + i, none⟩ = some (C i)

theorem Cells.below {w w' : World} {a : Option Addr} {n z : Nat} {C : Nat → Value} (h : Cells w a n z C) (hb : Below w.heap.size w w') : Cells w' a n z C := by
  rcases h with h0 | ⟨b, off, ha, hc⟩
  · exact Or.inl h0
  · refine Or.inr ⟨b, off, ha, fun i hi => ?_⟩
    rw [hb.cell (p := ⟨b, off + i, none⟩) (lt_of_cell (hc i hi))]
    exact hc i hi
theorem Cells.alloc {w : World} {a : Option Addr} {n z : Nat} {C : Nat → Value} (h : Cells w a n z C) (o : Obj) : Cells (w.alloc o) a n z C := h.below (below_alloc w o)
theorem Cells.zero (w : World) (a : Option Addr) (z : Nat) (C : Nat → Value) : Cells w a 0 z C := Or.inl rfl

/-- Keys: owner, number, key, algorithm. -/
def KC (o m : Nat → Int) (k g : Nat → ByteArray) : Nat → Value := fun i =>
  if i % 4 = 0 then .int .u32 (o (i / 4)) else if i % 4 = 1 then .int .u32 (m (i / 4)) else if i % 4 = 2 then .string (k (i / 4)) else .string (g (i / 4))
theorem KC0 (o m : Nat → Int) (k g : Nat → ByteArray) (j : Nat) : KC o m k g (j * 4) = .int .u32 (o j) := by
  unfold KC; rw [if_pos (by omega), show j * 4 / 4 = j by omega]
theorem KC1 (o m : Nat → Int) (k g : Nat → ByteArray) (j : Nat) : KC o m k g (j * 4 + 1) = .int .u32 (m j) := by
  unfold KC; rw [if_neg (by omega), if_pos (by omega), show (j * 4 + 1) / 4 = j by omega]
theorem KC2 (o m : Nat → Int) (k g : Nat → ByteArray) (j : Nat) : KC o m k g (j * 4 + 2) = .string (k j) := by
  unfold KC; rw [if_neg (by omega), if_neg (by omega), if_pos (by omega), show (j * 4 + 2) / 4 = j by omega]
theorem KC3 (o m : Nat → Int) (k g : Nat → ByteArray) (j : Nat) : KC o m k g (j * 4 + 3) = .string (g j) := by
  unfold KC; rw [if_neg (by omega), if_neg (by omega), if_neg (by omega), show (j * 4 + 3) / 4 = j by omega]

/-- Rules: five strings. -/
def RC (r : Nat → Nat → ByteArray) : Nat → Value := fun i => .string (r (i % 5) (i / 5))
theorem RC_at (r : Nat → Nat → ByteArray) (j f : Nat) (hf : f < 5) : RC r (j * 5 + f) = .string (r f j) := by
  unfold RC; rw [show (j * 5 + f) % 5 = f by omega, show (j * 5 + f) / 5 = j by omega]
theorem RC0 (r : Nat → Nat → ByteArray) (j : Nat) : RC r (j * 5) = .string (r 0 j) := RC_at r j 0 (by omega)

/-! ### Rows that a call makes -/
def rowC (C : Nat → Value) (n : Nat) : List Value := (List.range n).map C
theorem rowC_len (C : Nat → Value) (n : Nat) : (rowC C n).length = n := by simp [rowC]
theorem rowC_at (C : Nat → Value) (n j : Nat) (h : j < n) : (rowC C n)[j]? = some (C j) := by
  simp [rowC, List.getElem?_map, List.getElem?_range h]
theorem rowC_congr {F G : Nat → Value} {n : Nat} (h : ∀ j, j < n → F j = G j) : rowC F n = rowC G n := by
  apply List.map_congr_left
  intro j hj
  exact h j (List.mem_range.1 hj)
theorem rowC_set (F : Nat → Value) (n k : Nat) (v : Value) : (rowC F n).set k v = rowC (fun j => if j = k then v else F j) n := by
  apply List.ext_getElem?
  intro j
  by_cases hj : j < n
  · rw [List.getElem?_set, rowC_at _ n j hj, rowC_at _ n j hj, rowC_len]
    by_cases e : k = j
    · subst e; simp [hj]
    · rw [if_neg e, if_neg (fun h => e h.symm)]
  · rw [List.getElem?_eq_none (by simp [rowC_len]; omega), List.getElem?_eq_none (by simp [rowC_len]; omega)]
theorem made_row (z : Array Value) (n : Nat) : (madeCells z n).toList = rowC (fun i => z[i % z.size]!) n := by
  simp [madeCells, rowC, Array.toList_map, Array.toList_range]

/-- The owned row, as a slice over all of it. -/
theorem cells_of_own {w : World} {B g n z : Nat} {e : TypeId} {C : Nat → Value} (h : w.ownsRow B e z (.slice (some ⟨g, 0, none⟩) n n) n (rowC C (n * z))) : Cells w (some ⟨g, 0, none⟩) n z C :=
  Or.inr ⟨g, 0, rfl, fun i hi => by rw [Nat.zero_add, h.cellAt i hi, rowC_at C (n * z) i hi]⟩
theorem own_cell {w : World} {B g n z : Nat} {e : TypeId} {C : Nat → Value} (h : w.ownsRow B e z (.slice (some ⟨g, 0, none⟩) n n) n (rowC C (n * z))) (i : Nat) (hi : i < n * z) : w.cell? ⟨g, i, none⟩ = some (C i) := by
  rw [h.cellAt i hi, rowC_at C (n * z) i hi]

def zk : Array Value := #[.int .u32 0, .int .u32 0, .string ByteArray.empty, .string ByteArray.empty]
def zr : Array Value := #[.string ByteArray.empty, .string ByteArray.empty, .string ByteArray.empty, .string ByteArray.empty, .string ByteArray.empty]
theorem Try.info40 : (Try.prog.info? 40).map (fun i => (i.zero, i.size, i.bytes)) = some (some (.agg zk), 4, 40) := by kernel_rfl
theorem Try.info38 : (Try.prog.info? 38).map (fun i => (i.zero, i.size, i.bytes)) = some (some (.agg zk), 4, 40) := by kernel_rfl
theorem Try.info47 : (Try.prog.info? 47).map (fun i => (i.zero, i.size, i.bytes)) = some (some (.agg zr), 5, 80) := by kernel_rfl
theorem Try.info45 : (Try.prog.info? 45).map (fun i => (i.zero, i.size, i.bytes)) = some (some (.agg zr), 5, 80) := by kernel_rfl

/-- The row behind t rounds: the first t elements are laid. -/
def upTo (C : Nat → Value) (Z : Nat → Value) (m : Nat) : Nat → Value := fun i => if i < m then C i else Z i

/-- Four stores lay one key more. -/
theorem four_set (C Z : Nat → Value) (n t : Nat) (ht : t < n) :
    ((((rowC (upTo C Z (t * 4)) (n * 4)).set (t * 4) (C (t * 4))).set (t * 4 + 1) (C (t * 4 + 1))).set (t * 4 + 2) (C (t * 4 + 2))).set (t * 4 + 3) (C (t * 4 + 3)) = rowC (upTo C Z ((t + 1) * 4)) (n * 4) := by
  rw [rowC_set, rowC_set, rowC_set, rowC_set]
  apply rowC_congr
  intro j hj
  unfold upTo
  by_cases e3 : j = t * 4 + 3
  · rw [if_pos e3, if_pos (by omega), e3]
  · rw [if_neg e3]
    by_cases e2 : j = t * 4 + 2
    · rw [if_pos e2, if_pos (by omega), e2]
    · rw [if_neg e2]
      by_cases e1 : j = t * 4 + 1
      · rw [if_pos e1, if_pos (by omega), e1]
      · rw [if_neg e1]
        by_cases e0 : j = t * 4
        · rw [if_pos e0, if_pos (by omega), e0]
        · rw [if_neg e0]
          by_cases e : j < t * 4
          · rw [if_pos e, if_pos (by omega)]
          · rw [if_neg e, if_neg (by omega)]
/-- Five stores lay one rule more. -/
theorem five_set (C Z : Nat → Value) (n t : Nat) (ht : t < n) :
    (((((rowC (upTo C Z (t * 5)) (n * 5)).set (t * 5) (C (t * 5))).set (t * 5 + 1) (C (t * 5 + 1))).set (t * 5 + 2) (C (t * 5 + 2))).set (t * 5 + 3) (C (t * 5 + 3))).set (t * 5 + 4) (C (t * 5 + 4)) = rowC (upTo C Z ((t + 1) * 5)) (n * 5) := by
  rw [rowC_set, rowC_set, rowC_set, rowC_set, rowC_set]
  apply rowC_congr
  intro j hj
  unfold upTo
  by_cases e4 : j = t * 5 + 4
  · rw [if_pos e4, if_pos (by omega), e4]
  · rw [if_neg e4]
    by_cases e3 : j = t * 5 + 3
    · rw [if_pos e3, if_pos (by omega), e3]
    · rw [if_neg e3]
      by_cases e2 : j = t * 5 + 2
      · rw [if_pos e2, if_pos (by omega), e2]
      · rw [if_neg e2]
        by_cases e1 : j = t * 5 + 1
        · rw [if_pos e1, if_pos (by omega), e1]
        · rw [if_neg e1]
          by_cases e0 : j = t * 5
          · rw [if_pos e0, if_pos (by omega), e0]
          · rw [if_neg e0]
            by_cases e : j < t * 5
            · rw [if_pos e, if_pos (by omega)]
            · rw [if_neg e, if_neg (by omega)]
theorem upTo_zero (C Z : Nat → Value) (n : Nat) : rowC Z n = rowC (upTo C Z 0) n := rowC_congr fun j hj => by unfold upTo; rw [if_neg (by omega)]
theorem upTo_all (C Z : Nat → Value) (n m : Nat) (h : n ≤ m) : rowC (upTo C Z m) n = rowC C n := rowC_congr fun j hj => by unfold upTo; rw [if_pos (by omega)]
end Go.Proofs.Qxb6604198a

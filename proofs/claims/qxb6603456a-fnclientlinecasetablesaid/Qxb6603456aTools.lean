/-
  TOOLS FOR THIS SEAT's WALKS: slices of strings ('Strs'), rows of strings that a call makes ('rowOf'), the plain scan ('anyEq').
-/
import Derived.Test.Qxb6603456aRows
import Derived.WalkKit
import Derived.ProofKit
import Derived.WalkSpells
import Derived.WalkLawsBesides
import Derived.Lib.Strings
import Derived.Laws.CopyOwn
namespace Go.Proofs.Qxb6603456a
open Go.RowKit
set_option linter.unusedVariables false

theorem retb {a b : Bool} (h : a = b) : Ending.returned (.bool a) = .returned (.bool b) := by rw [h]

/-- WHAT THE WALK IS TOLD OF A SLICE OF STRINGS: it has no element, or it leads to a row of 'len' cells that hold the strings 'S'. -/
def Strs (w : World) (a : Option Addr) (len : Nat) (S : Nat → ByteArray) : Prop :=
  (len = 0 ∨ ∃ b off, a = some ⟨b, off, none⟩ ∧ ∀ i, i < len → w.cell? ⟨b, off + i, none⟩ = some (.string (S i))) ∧ len ≤ maxLen ∧ ∀ i, i < len → (S i).size ≤ maxLen

theorem lt_of_cell {w : World} {b o : Nat} {v : Value} (h : w.cell? ⟨b, o, none⟩ = some v) : b < w.heap.size := by
  rcases Nat.lt_or_ge b w.heap.size with h2 | h2
  · exact h2
  · rw [World.cell?, Array.getElem?_eq_none (by simpa using h2)] at h; simp at h

/-- What a slice holds it holds behind whatever turns nothing old. -/
theorem Strs.below {w w' : World} {a : Option Addr} {n : Nat} {S : Nat → ByteArray} (h : Strs w a n S) (hb : Below w.heap.size w w') : Strs w' a n S := by
  obtain ⟨h1, h2, h3⟩ := h
  refine ⟨?_, h2, h3⟩
  rcases h1 with h0 | ⟨b, off, ha, hc⟩
  · exact Or.inl h0
  · refine Or.inr ⟨b, off, ha, fun i hi => ?_⟩
    rw [hb.cell (p := ⟨b, off + i, none⟩) (lt_of_cell (hc i hi))]
    exact hc i hi
theorem Strs.alloc {w : World} {a : Option Addr} {n : Nat} {S : Nat → ByteArray} (h : Strs w a n S) (o : Obj) : Strs (w.alloc o) a n S :=
  h.below ((Below.refl _ _).alloc (Nat.le_refl _) o)
theorem Strs.zero (w : World) (a : Option Addr) (S : Nat → ByteArray) : Strs w a 0 S := ⟨Or.inl rfl, Nat.zero_le _, fun i hi => by omega⟩

/-! ### The plain scan -/
def anyEq (S : Nat → ByteArray) (x : ByteArray) (k : Nat) : Bool := (List.range k).any fun i => (S i).toList == x.toList
theorem anyEq_zero (S : Nat → ByteArray) (x : ByteArray) : anyEq S x 0 = false := rfl
theorem anyEq_succ (S : Nat → ByteArray) (x : ByteArray) (k : Nat) : anyEq S x (k + 1) = (anyEq S x k || ((S k).toList == x.toList)) := by
  simp [anyEq, List.range_succ]
theorem anyEq_iff (S : Nat → ByteArray) (x : ByteArray) (n : Nat) : anyEq S x n = true ↔ ∃ i, i < n ∧ (S i).toList = x.toList := by
  simp [anyEq]
theorem anyEq_hit (S : Nat → ByteArray) (x : ByteArray) (k n : Nat) (hk : k < n) (h : ((S k).toList == x.toList) = true) : anyEq S x n = true :=
  (anyEq_iff S x n).2 ⟨k, hk, by simpa using h⟩

/-- a and then b. -/
def joinS (S T : Nat → ByteArray) (n : Nat) : Nat → ByteArray := fun i => if i < n then S i else T (i - n)
/-- a backwards. -/
def revS (S : Nat → ByteArray) (n : Nat) : Nat → ByteArray := fun i => S (n - 1 - i)
theorem anyEq_join (S T : Nat → ByteArray) (x : ByteArray) (n m : Nat) : anyEq (joinS S T n) x (n + m) = (anyEq S x n || anyEq T x m) := by
  rw [Bool.eq_iff_iff, Bool.or_eq_true, anyEq_iff, anyEq_iff, anyEq_iff]
  unfold joinS
  constructor
  · rintro ⟨i, hi, he⟩
    by_cases h : i < n
    · rw [if_pos h] at he; exact Or.inl ⟨i, h, he⟩
    · rw [if_neg h] at he; exact Or.inr ⟨i - n, by omega, he⟩
  · rintro (⟨i, hi, he⟩ | ⟨i, hi, he⟩)
    · exact ⟨i, by omega, by rw [if_pos hi]; exact he⟩
    · exact ⟨n + i, by omega, by rw [if_neg (by omega), show n + i - n = i by omega]; exact he⟩
theorem anyEq_rev (S : Nat → ByteArray) (x : ByteArray) (n : Nat) : anyEq (revS S n) x n = anyEq S x n := by
  rw [Bool.eq_iff_iff, anyEq_iff, anyEq_iff]
  unfold revS
  constructor
  · rintro ⟨i, hi, he⟩; exact ⟨n - 1 - i, by omega, he⟩
  · rintro ⟨i, hi, he⟩; exact ⟨n - 1 - i, by omega, by rw [show n - 1 - (n - 1 - i) = i by omega]; exact he⟩

/-! ### Rows of strings that a call makes -/
def rowOf (F : Nat → ByteArray) (n : Nat) : List Value := (List.range n).map fun j => .string (F j)
theorem rowOf_len (F : Nat → ByteArray) (n : Nat) : (rowOf F n).length = n := by simp [rowOf]
theorem rowOf_at (F : Nat → ByteArray) (n j : Nat) (h : j < n) : (rowOf F n)[j]? = some (.string (F j)) := by
  simp [rowOf, List.getElem?_map, List.getElem?_range h]
theorem rowOf_congr {F G : Nat → ByteArray} {n : Nat} (h : ∀ j, j < n → F j = G j) : rowOf F n = rowOf G n := by
  apply List.map_congr_left
  intro j hj
  rw [h j (List.mem_range.1 hj)]
theorem rowOf_set (F : Nat → ByteArray) (n k : Nat) (v : ByteArray) : (rowOf F n).set k (.string v) = rowOf (fun j => if j = k then v else F j) n := by
  apply List.ext_getElem?
  intro j
  by_cases hj : j < n
  · rw [List.getElem?_set, rowOf_at _ n j hj, rowOf_at _ n j hj, rowOf_len]
    by_cases e : k = j
    · subst e; simp [hj]
    · rw [if_neg e, if_neg (fun h => e h.symm)]
  · rw [List.getElem?_eq_none (by simp [rowOf_len]; omega), List.getElem?_eq_none (by simp [rowOf_len]; omega)]
theorem rowOf_zero (n : Nat) : (madeCells #[Value.string ByteArray.empty] n).toList = rowOf (fun _ => ByteArray.empty) n := by
  apply List.ext_getElem?
  intro j
  by_cases hj : j < n
  · rw [rowOf_at _ n j hj]
    simp [madeCells, hj, Nat.mod_one]
  · rw [List.getElem?_eq_none (by simp [size_madeCells]; omega), List.getElem?_eq_none (by simp [rowOf_len]; omega)]

/-- The owned row is its block. -/
theorem own_block {w : World} {B g n : Nat} {e : TypeId} {xs : List Value} (h : w.ownsRow B e 1 (.slice (some ⟨g, 0, none⟩) n n) n xs) : w.heap[g]? = some (.cells xs.toArray e (0, 0)) := by
  rcases h.2 with ⟨h', _⟩ | ⟨g', cap', cur, h', _, hg, _, _, hcs, htake⟩
  · simp at h'
  · simp only [Value.slice.injEq, Option.some.injEq, Addr.mk.injEq, and_true, true_and] at h'
    obtain ⟨rfl, rfl⟩ := h'
    rw [hg, ← htake, List.take_of_length_le (by rw [Array.length_toList, hcs]; exact Nat.le_refl _)]
/-- A block of strings, as a slice over all of it. -/
theorem strs_of_block {w : World} {g n : Nat} {F : Nat → ByteArray} {e : TypeId} (h : w.heap[g]? = some (.cells (rowOf F n).toArray e (0, 0))) (hn : n ≤ maxLen) (hF : ∀ i, i < n → (F i).size ≤ maxLen) :
    Strs w (some ⟨g, 0, none⟩) n F :=
  ⟨Or.inr ⟨g, 0, rfl, fun i hi => by rw [Nat.zero_add, World.cell?, h]; simp [rowOf_at F n i hi]⟩, hn, hF⟩

theorem Try.info9 : (Try.prog.info? 9).map (fun i => (i.zero, i.size, i.bytes)) = some (some (.string ByteArray.empty), 1, 16) := by kernel_rfl
theorem Try.size9 : (Try.prog.info? 9).map (·.size) = some 1 := by kernel_rfl
end Go.Proofs.Qxb6603456a

/-
  PLAIN LAWS: the halving of slices.BinarySearch over a strictly ascending row of strings finds just what a scan finds.
-/
import Derived.Shelf.Spec.SearchS
namespace Go.Proofs.Qxb6602954a

theorem less_eq : ∀ (x y : List UInt8), Op.bytesLess x y = decide (x < y)
  | [], [] => by simp [Op.bytesLess]
  | [], b :: y => by simp [Op.bytesLess]
  | a :: x, [] => by simp [Op.bytesLess]
  | a :: x, b :: y => by
    rw [Op.bytesLess, less_eq x y, Bool.eq_iff_iff]
    simp [List.cons_lt_cons_iff]

theorem less_trans {x y z : List UInt8} (h1 : Op.bytesLess x y = true) (h2 : Op.bytesLess y z = true) : Op.bytesLess x z = true := by
  rw [less_eq, decide_eq_true_eq] at *
  exact List.lt_trans h1 h2
theorem less_irrefl (x : List UInt8) : Op.bytesLess x x = false := by
  rw [less_eq, decide_eq_false_iff_not]
  exact List.lt_irrefl x

/-- The first n strings ascend strictly. -/
def Asc (S : Nat → ByteArray) (n : Nat) : Prop := ∀ j, 1 ≤ j → j < n → Op.bytesLess (S (j - 1)).toList (S j).toList = true

theorem Asc.lt {S : Nat → ByteArray} {n : Nat} (h : Asc S n) (s : Nat) : ∀ t, s < t → t < n → Op.bytesLess (S s).toList (S t).toList = true
  | 0, hst, _ => by omega
  | t + 1, hst, htn => by
    have h1 := h (t + 1) (by omega) htn
    rw [Nat.add_sub_cancel] at h1
    by_cases e : s = t
    · rw [e]; exact h1
    · exact less_trans (Asc.lt h s t (by omega) (by omega)) h1

theorem bs_spec (less : Nat → Bool) (n : Nat) (mono : ∀ s t, s < t → t < n → less t = true → less s = true) : ∀ (f lo hi : Nat), hi - lo ≤ f → lo ≤ hi → hi ≤ n →
    (∀ t, t < lo → less t = true) → (∀ t, hi ≤ t → t < n → less t = false) →
    (∀ t, t < Lib.bsGo less f lo hi → less t = true) ∧ (∀ t, Lib.bsGo less f lo hi ≤ t → t < n → less t = false)
  | 0, lo, hi, hf, h1, h2, h3, h4 => by
    obtain rfl : lo = hi := by omega
    exact ⟨h3, h4⟩
  | f + 1, lo, hi, hf, h1, h2, h3, h4 => by
    unfold Lib.bsGo
    by_cases h : lo < hi
    · rw [if_pos h]
      cases hm : less ((lo + hi) / 2)
      · refine bs_spec less n mono f lo ((lo + hi) / 2) (by omega) (by omega) (by omega) h3 fun t ht htn => ?_
        by_cases e : (lo + hi) / 2 = t
        · rw [← e]; exact hm
        · cases hx : less t
          · rfl
          · have := mono _ _ (show (lo + hi) / 2 < t by omega) htn hx
            rw [hm] at this; exact this.symm
      · refine bs_spec less n mono f ((lo + hi) / 2 + 1) hi (by omega) (by omega) h2 (fun t ht => ?_) h4
        by_cases e : t = (lo + hi) / 2
        · rw [e]; exact hm
        · exact mono _ _ (show t < (lo + hi) / 2 by omega) (by omega) hm
    · rw [if_neg h]
      obtain rfl : lo = hi := by omega
      exact ⟨h3, h4⟩

/-- The plain scan, over the first k strings. -/
def anyEq (S : Nat → ByteArray) (x : ByteArray) (k : Nat) : Bool := (List.range k).any fun i => (S i).toList == x.toList
theorem anyEq_zero (S : Nat → ByteArray) (x : ByteArray) : anyEq S x 0 = false := rfl
theorem anyEq_succ (S : Nat → ByteArray) (x : ByteArray) (k : Nat) : anyEq S x (k + 1) = (anyEq S x k || ((S k).toList == x.toList)) := by
  simp [anyEq, List.range_succ]

theorem toList_inj {a b : ByteArray} (h : a.toList = b.toList) : a = b := by
  rw [Lib.toList_data, Lib.toList_data] at h
  cases a; cases b
  exact congrArg ByteArray.mk (Array.toList_inj.1 h)

theorem found_eq (S : Nat → ByteArray) (x : ByteArray) (n : Nat) (h : Asc S n) :
    decide (Lib.bsGo (fun t => Op.bytesLess (S t).toList x.toList) n 0 n < n ∧ S (Lib.bsGo (fun t => Op.bytesLess (S t).toList x.toList) n 0 n) = x) = anyEq S x n := by
  obtain ⟨h1, h2⟩ := bs_spec (fun t => Op.bytesLess (S t).toList x.toList) n (fun s t hst htn ht => less_trans (h.lt s t hst htn) ht) n 0 n (by omega) (by omega) (Nat.le_refl _) (fun t ht => by omega) (fun t ht htn => by omega)
  generalize Lib.bsGo (fun t => Op.bytesLess (S t).toList x.toList) n 0 n = r at *
  rw [Bool.eq_iff_iff, decide_eq_true_eq, anyEq, List.any_eq_true]
  constructor
  · rintro ⟨hr, he⟩
    exact ⟨r, List.mem_range.2 hr, by rw [he]; simp⟩
  · rintro ⟨i, hi, he⟩
    have hi' := List.mem_range.1 hi
    have he' : S i = x := toList_inj (by simpa using he)
    have hri : r ≤ i := by
      rcases Nat.lt_or_ge i r with hlt | hge
      · have := h1 i hlt
        simp only [he', less_irrefl] at this
        cases this
      · exact hge
    have : r = i := by
      rcases Nat.lt_or_ge r i with hlt | hge
      · have ha := h.lt r i hlt hi'
        have hb := h2 r (Nat.le_refl _) (by omega)
        rw [he'] at ha
        simp only [ha] at hb
        cases hb
      · omega
    rw [this]; exact ⟨hi', he'⟩
end Go.Proofs.Qxb6602954a

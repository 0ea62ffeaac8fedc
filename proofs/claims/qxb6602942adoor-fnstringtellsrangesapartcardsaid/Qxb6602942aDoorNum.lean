/-
  PLAIN LAWS ON THE DECIMAL NUMERAL ('Lib.itoa', 'Lib.decDigits'): what parseCanonicalInt gathers of it; two ranges' texts. No Go in sight.
-/
import Derived.Lib.ItoaNum
namespace Go.Proofs.Qxb6602942aDoor.Num
open Go.Lib

/-- What the parser's loop gathers of a run of digits. -/
def gather (l : List UInt8) : Nat := l.foldl (fun m c => m * 10 + (c.toNat - 48)) 0

theorem gather_snoc (l : List UInt8) (c : UInt8) : gather (l ++ [c]) = gather l * 10 + (c.toNat - 48) := by simp [gather]
theorem gather_nil : gather [] = 0 := rfl

theorem byte48 (d : Nat) (h : d < 10) : (UInt8.ofNat (48 + d)).toNat = 48 + d := by
  rw [UInt8.toNat_ofNat']; omega

theorem dec_digit (u : Nat) : ∀ c ∈ decDigits u, 48 ≤ c.toNat ∧ c.toNat ≤ 57 := by
  induction u using Nat.strongRecOn with
  | _ u ih =>
    intro c hc
    by_cases h : u < 10
    · rw [decDigits, dif_pos h, List.mem_singleton] at hc
      rw [hc, byte48 u h]; omega
    · rw [decDigits, dif_neg h, List.mem_append, List.mem_singleton] at hc
      rcases hc with hc | hc
      · exact ih (u / 10) (by omega) c hc
      · rw [hc, byte48 (u % 10) (by omega)]; omega

theorem gather_dec (u : Nat) : gather (decDigits u) = u := by
  induction u using Nat.strongRecOn with
  | _ u ih =>
    by_cases h : u < 10
    · rw [decDigits, dif_pos h]
      show 0 * 10 + _ = u
      rw [byte48 u h]; omega
    · rw [decDigits, dif_neg h, gather_snoc, ih (u / 10) (by omega), byte48 (u % 10) (by omega)]; omega

theorem foldl_ge (l : List UInt8) : ∀ m : Nat, m ≤ l.foldl (fun m c => m * 10 + (c.toNat - 48)) m := by
  induction l with
  | nil => intro m; exact Nat.le_refl _
  | cons c l ih =>
    intro m
    have := ih (m * 10 + (c.toNat - 48))
    simp only [List.foldl_cons]
    omega

theorem gather_take_le (l : List UInt8) (k : Nat) : gather (l.take k) ≤ gather l := by
  have h : gather l = (l.drop k).foldl (fun m c => m * 10 + (c.toNat - 48)) (gather (l.take k)) := by
    conv => lhs; rw [← List.take_append_drop k l]
    unfold gather
    rw [List.foldl_append]
  rw [h]
  exact foldl_ge _ _

theorem nDigits_le (k : Nat) : ∀ u, u < 10 ^ k → 1 ≤ k → nDigits u ≤ k := by
  induction k with
  | zero => intro u _ h; omega
  | succ k ih =>
    intro u hu _
    by_cases h : u < 10
    · rw [nDigits_small h]; omega
    · rw [nDigits_big h]
      have hk : 1 ≤ k := by
        rcases k with _ | k
        · simp at hu; omega
        · omega
      have := ih (u / 10) (by rw [Nat.pow_succ] at hu; omega) hk
      omega

theorem dec_len19 (u : Nat) (h : u ≤ 9223372036854775808) : (decDigits u).length ≤ 19 := by
  rw [decDigits_length]; exact nDigits_le 19 u (by omega) (by omega)
theorem dec_len_pos (u : Nat) : 1 ≤ (decDigits u).length := by rw [decDigits_length]; exact nDigits_pos u

/-- A numeral of two digits or more does not begin with '0'. -/
theorem dec_head (u : Nat) (h : 1 < (decDigits u).length) : ∀ c, (decDigits u)[0]? = some c → c.toNat ≠ 48 := by
  induction u using Nat.strongRecOn with
  | _ u ih =>
    intro c hc
    by_cases hu : u < 10
    · rw [decDigits_length, nDigits_small hu] at h; omega
    · have hl := dec_len_pos (u / 10)
      rw [decDigits, dif_neg hu, List.getElem?_append_left (by omega)] at hc
      by_cases h2 : u / 10 < 10
      · rw [decDigits, dif_pos h2] at hc
        have hc' := Option.some.inj hc
        rw [← hc', byte48 _ h2]; omega
      · exact ih (u / 10) (by omega) (by rw [decDigits_length, nDigits_big h2]; have := nDigits_pos (u / 10 / 10); omega) c hc

theorem dec_zero (u : Nat) (h : gather (decDigits u) = 0) : u = 0 := by rwa [gather_dec] at h

theorem dec_inj {u v : Nat} (h : decDigits u = decDigits v) : u = v := by
  rw [← gather_dec u, h, gather_dec]

theorem dec_no45 (u : Nat) (l : List UInt8) : decDigits u ≠ 45 :: l := by
  intro h
  have := dec_digit u 45 (by rw [h]; simp)
  simp at this

theorem itoa_inj {a b : Int} (h : itoa a = itoa b) : a = b := by
  unfold itoa at h
  split at h <;> split at h
  · have := dec_inj (List.cons.inj h).2; omega
  · exact absurd h.symm (dec_no45 _ _)
  · exact absurd h (dec_no45 _ _)
  · have := dec_inj h; omega

theorem itoa_no58 (a : Int) : ∀ c ∈ itoa a, c ≠ 58 := by
  intro c hc he
  subst he
  unfold itoa at hc
  split at hc
  · rcases List.mem_cons.1 hc with h | h
    · exact absurd h (by decide)
    · have := dec_digit _ _ h; simp at this
  · have := dec_digit _ _ hc; simp at this
theorem itoa_no42 (a : Int) : itoa a ≠ [42] := by
  intro h
  have hm : (42 : UInt8) ∈ itoa a := by rw [h]; simp
  unfold itoa at hm
  split at hm
  · rcases List.mem_cons.1 hm with h | h
    · exact absurd h (by decide)
    · have := dec_digit _ _ h; simp at this
  · have := dec_digit _ _ hm; simp at this

/-- What String writes. -/
def text (f t : Int) (e : Bool) : List UInt8 := itoa f ++ 58 :: (if e then [42] else itoa t)

theorem split58 (a b : List UInt8) (ha : ∀ c ∈ a, c ≠ 58) (hb : ∀ c ∈ b, c ≠ 58) (x y : List UInt8) (h : a ++ 58 :: x = b ++ 58 :: y) : a = b ∧ x = y := by
  induction a generalizing b with
  | nil =>
    cases b with
    | nil => simp at h; exact ⟨rfl, h⟩
    | cons c b => simp at h; exact absurd h.1.symm (hb c (by simp))
  | cons d a ih =>
    cases b with
    | nil => simp at h; exact absurd h.1 (ha d (by simp))
    | cons c b =>
      simp at h
      obtain ⟨h1, h2⟩ := ih b (fun c hc => ha c (by simp [hc])) (fun c hc => hb c (by simp [hc])) h.2
      exact ⟨by rw [h.1, h1], h2⟩

theorem text_iff (f1 t1 : Int) (e1 : Bool) (f2 t2 : Int) (e2 : Bool) :
    (text f1 t1 e1 = text f2 t2 e2) ↔ (f1 = f2 ∧ e1 = e2 ∧ (e1 = true ∨ t1 = t2)) := by
  constructor
  · intro h
    obtain ⟨h1, h2⟩ := split58 _ _ (itoa_no58 _) (itoa_no58 _) _ _ h
    refine ⟨itoa_inj h1, ?_⟩
    cases e1 <;> cases e2
    · exact ⟨rfl, Or.inr (itoa_inj (by simpa using h2))⟩
    · exact absurd (by simpa using h2) (itoa_no42 t1)
    · exact absurd (by simpa using h2.symm) (itoa_no42 t2)
    · exact ⟨rfl, Or.inl rfl⟩
  · rintro ⟨rfl, rfl, h⟩
    rcases h with h | h
    · rw [h]; rfl
    · rw [h]

end Go.Proofs.Qxb6602942aDoor.Num

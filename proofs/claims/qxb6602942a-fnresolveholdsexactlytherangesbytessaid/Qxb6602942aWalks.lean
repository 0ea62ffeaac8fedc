import Derived.Test.Qxb6602942aRows
import Derived.WalkKit
import Derived.ProofKit
import Derived.WalkSpells
import Derived.WalkLawsBesides
namespace Go.Proofs.Qxb6602942a
open Go.RowKit
set_option linter.unusedVariables false

theorem ret2 {a a' : Int} {k : IntKind} {b : Bool} (h : a = a') : Ending.returned (.tuple #[.int k a, .bool b]) = .returned (.tuple #[.int k a', .bool b]) := by rw [h]

/-! ### offset: three ways -/
theorem offset_pos (x n : Int) (w : World) (h0 : 0 ≤ x) (h1 : x ≤ 9223372036854775807) :
    Calls Try.prog 7 #[.int .i64 x, .int .u64 n] w fun e w' => e = .returned (.tuple #[.int .u64 x, .bool true]) ∧ w' = w := by
  go_enter Try.func7, Try.ntmps7
  go_wp2
  go_ret2
  exact ⟨rfl, rfl⟩
theorem offset_out (x n : Int) (w : World) (h0 : x < 0) (h1 : -9223372036854775808 ≤ x) (hn0 : 0 ≤ n) (hn1 : n ≤ 18446744073709551615) (hx : n < -x) :
    Calls Try.prog 7 #[.int .i64 x, .int .u64 n] w fun e w' => e = .returned (.tuple #[.int .u64 0, .bool false]) ∧ w' = w := by
  go_enter Try.func7, Try.ntmps7
  go_wp2
  go_ret2
  exact ⟨rfl, rfl⟩
theorem offset_in (x n : Int) (w : World) (h0 : x < 0) (h1 : -9223372036854775808 ≤ x) (hn0 : 0 ≤ n) (hn1 : n ≤ 18446744073709551615) (hx : -x ≤ n) :
    Calls Try.prog 7 #[.int .i64 x, .int .u64 n] w fun e w' => e = .returned (.tuple #[.int .u64 (n + x), .bool true]) ∧ w' = w := by
  go_enter Try.func7, Try.ntmps7
  go_wp2
  go_ret2
  exact ⟨ret2 (by omega), rfl⟩

/-! ### The plain functions -/
/-- The first byte, as Resolve reckons it. -/
def fstB (f n : Int) : Int := if 0 ≤ f then f else if n < -f then 0 else n + f
/-- The last byte, as Resolve reckons it; below zero where the end counts back past the first byte. -/
def lstB (t n : Int) (e : Bool) : Int := if e then n - 1 else if 0 ≤ t then (if t ≤ n - 1 then t else n - 1) else n + t
def okB (f t n : Int) (e : Bool) : Bool := decide (n ≠ 0 ∧ fstB f n ≤ lstB t n e)
def inB (f t n b : Int) (e : Bool) : Bool := decide (b < n ∧ (if 0 ≤ f then f ≤ b else n - b ≤ -f) ∧ (e = true ∨ if 0 ≤ t then b ≤ t else -t ≤ n - b))

theorem fst_bd (f n : Int) (hn : 0 ≤ n) : 0 ≤ fstB f n := by 
  unfold fstB
  split
  · omega
  · split <;> omega
theorem ok_facts (f t n : Int) (e : Bool) (hn : 0 ≤ n) (h : okB f t n e = true) : n ≠ 0 ∧ 0 ≤ fstB f n ∧ fstB f n ≤ lstB t n e ∧ lstB t n e < n := by
  have h1 := fst_bd f n hn
  have h2 := of_decide_eq_true h
  refine ⟨h2.1, h1, h2.2, ?_⟩
  unfold lstB
  split
  · omega
  · split
    · split <;> omega
    · omega
theorem no_in (f t n b : Int) (e : Bool) (hn : 0 ≤ n) (hb : 0 ≤ b) (h : okB f t n e = false) : inB f t n b e = false := by
  have h2 := of_decide_eq_false h
  refine decide_eq_false ?_
  rintro ⟨k1, k2, k3⟩
  apply h2
  refine ⟨by omega, ?_⟩
  unfold fstB lstB
  rcases k3 with rfl | k3
  · rw [if_pos rfl]
    split at k2 <;> rename_i hf
    · rw [if_pos hf]; omega
    · rw [if_neg hf]; split <;> omega
  · cases e
    · simp only [Bool.false_eq_true, if_false]
      split at k2 <;> rename_i hf <;> split at k3 <;> rename_i ht
      · rw [if_pos hf, if_pos ht]; split <;> omega
      · rw [if_pos hf, if_neg ht]; omega
      · rw [if_neg hf, if_pos ht]; split <;> split <;> omega
      · rw [if_neg hf, if_neg ht]; split <;> omega
    · rw [if_pos rfl]
      split at k2 <;> rename_i hf
      · rw [if_pos hf]; omega
      · rw [if_neg hf]; split <;> omega
theorem in_iff (f t n b : Int) (e : Bool) (hn : 0 ≤ n) (hb : 0 ≤ b) (h : okB f t n e = true) : inB f t n b e = decide (fstB f n ≤ b ∧ b ≤ lstB t n e) := by
  have h2 := of_decide_eq_true h
  unfold inB
  rw [decide_eq_decide]
  obtain ⟨h3, h4⟩ := h2
  unfold fstB lstB at *
  cases e
  · simp only [Bool.false_eq_true, if_false, false_or] at h4 ⊢
    by_cases hf : 0 ≤ f <;> by_cases ht : 0 ≤ t <;> simp only [hf, ht, if_true, if_false] at h4 ⊢
    · by_cases hl : t ≤ n - 1 <;> simp only [hl, if_true, if_false] at h4 ⊢ <;> omega
    · omega
    · by_cases hl : t ≤ n - 1 <;> by_cases hm : n < -f <;> simp only [hl, hm, if_true, if_false] at h4 ⊢ <;> omega
    · by_cases hm : n < -f <;> simp only [hm, if_true, if_false] at h4 ⊢ <;> omega
  · simp only [if_true, true_or, and_true] at h4 ⊢
    by_cases hf : 0 ≤ f <;> simp only [hf, if_true, if_false] at h4 ⊢
    · omega
    · by_cases hm : n < -f <;> simp only [hm, if_true, if_false] at h4 ⊢ <;> omega

/-! ### byteInRange -/
theorem retb {a b : Bool} (h : a = b) : Ending.returned (.bool a) = .returned (.bool b) := by rw [h]
theorem neg_wrap (f : Int) (h : f < 0) (h0 : -9223372036854775808 ≤ f) : IntKind.u64.wrap (-IntKind.u64.wrap f) = -f := by
  simp only [IntKind.wrap, IntKind.bits, IntKind.signed] at *
  simp
  omega
theorem in_pp (f t n b : Int) (hf : 0 ≤ f) (ht : 0 ≤ t) : inB f t n b false = decide (b < n ∧ f ≤ b ∧ b ≤ t) := by simp [inB, hf, ht]
theorem in_pm (f t n b : Int) (hf : 0 ≤ f) (ht : t < 0) : inB f t n b false = decide (b < n ∧ f ≤ b ∧ -t ≤ n - b) := by simp [inB, hf, show ¬ 0 ≤ t by omega]
theorem in_mp (f t n b : Int) (hf : f < 0) (ht : 0 ≤ t) : inB f t n b false = decide (b < n ∧ n - b ≤ -f ∧ b ≤ t) := by simp [inB, ht, show ¬ 0 ≤ f by omega]
theorem in_mm (f t n b : Int) (hf : f < 0) (ht : t < 0) : inB f t n b false = decide (b < n ∧ n - b ≤ -f ∧ -t ≤ n - b) := by simp [inB, show ¬ 0 ≤ f by omega, show ¬ 0 ≤ t by omega]
theorem in_p (f t n b : Int) (hf : 0 ≤ f) : inB f t n b true = decide (b < n ∧ f ≤ b) := by simp [inB, hf]
theorem in_m (f t n b : Int) (hf : f < 0) : inB f t n b true = decide (b < n ∧ n - b ≤ -f) := by simp [inB, show ¬ 0 ≤ f by omega]
theorem in_out (f t n b : Int) (e : Bool) (h : n ≤ b) : inB f t n b e = false := decide_eq_false (fun k => by omega)

set_option maxHeartbeats 1000000 in
theorem byteIn_any (f t n b : Int) (e : Bool) (w : World) (f0 : -9223372036854775808 ≤ f) (f1 : f ≤ 9223372036854775807) (t0 : -9223372036854775808 ≤ t) (t1 : t ≤ 9223372036854775807)
    (n0 : 0 ≤ n) (n1 : n ≤ 18446744073709551615) (b0 : 0 ≤ b) (b1 : b ≤ 18446744073709551615) :
    Calls Try.prog 6 #[.int .i64 f, .int .i64 t, .bool e, .int .u64 n, .int .u64 b] w fun e' w' => e' = .returned (.bool (inB f t n b e)) ∧ w' = w := by
  by_cases hb : b < n
  · by_cases hf : 0 ≤ f <;> cases e <;> by_cases ht : 0 ≤ t
    all_goals
      try have hwf := neg_wrap f (by omega) f0
      try have hwt := neg_wrap t (by omega) t0
      go_enter Try.func6, Try.ntmps6
      go_wp2
      all_goals
        go_ret
        refine ⟨retb ?_, rfl⟩
        first | rw [in_pp f t n b (by omega) (by omega)] | rw [in_pm f t n b (by omega) (by omega)] | rw [in_mp f t n b (by omega) (by omega)] | rw [in_mm f t n b (by omega) (by omega)] | rw [in_p f t n b (by omega)] | rw [in_m f t n b (by omega)]
        first | exact (decide_eq_false (by omega)).symm | exact (decide_eq_true (by omega)).symm | exact decide_eq_decide.2 (by omega)
  · go_enter Try.func6, Try.ntmps6
    go_wp2
    go_ret
    exact ⟨retb (in_out f t n b e (by omega)).symm, rfl⟩

/-! ### Resolve -/
theorem ret3 {a a' b b' : Int} {k : IntKind} {c : Bool} (h : a = a') (h' : b = b') : Ending.returned (.tuple #[.int k a, .int k b, .bool c]) = .returned (.tuple #[.int k a', .int k b', .bool c]) := by rw [h, h']

set_option maxHeartbeats 1000000 in
theorem resolve_yes (f t n : Int) (e : Bool) (w : World) (f0 : -9223372036854775808 ≤ f) (f1 : f ≤ 9223372036854775807) (t0 : -9223372036854775808 ≤ t) (t1 : t ≤ 9223372036854775807)
    (n0 : 0 ≤ n) (n1 : n ≤ 18446744073709551615) (h : okB f t n e = true) :
    Calls Try.prog 5 #[.agg #[.int .i64 f, .int .i64 t, .bool e], .int .u64 n] w fun e' w' => e' = .returned (.tuple #[.int .u64 (fstB f n), .int .u64 (lstB t n e), .bool true]) ∧ w' = w.alloc (.cells #[.int .i64 f, .int .i64 t, .bool e] 24) := by
  obtain ⟨hn, hle⟩ := of_decide_eq_true h
  clear h
  unfold fstB lstB at *
  cases e <;> by_cases hf : 0 ≤ f <;> by_cases ht : 0 ≤ t <;> by_cases hm : n < -f <;> by_cases hl : t ≤ n - 1
  all_goals
    simp only [hf, ht, hm, hl, if_true, if_false, Bool.false_eq_true] at hle ⊢
    try (exfalso; omega)
  all_goals
    go_enter Try.func5, Try.ntmps5
    go_wp2_with (first | (go_at_call 7; refine (offset_pos _ _ _ (by omega) (by omega)).mono ?_; rintro e w' ⟨rfl, rfl⟩) | (go_at_call 7; refine (offset_out _ _ _ (by omega) (by omega) (by omega) (by omega) (by omega)).mono ?_; rintro e w' ⟨rfl, rfl⟩) | (go_at_call 7; refine (offset_in _ _ _ (by omega) (by omega) (by omega) (by omega) (by omega)).mono ?_; rintro e w' ⟨rfl, rfl⟩))
    go_ret3
    exact ⟨rfl, rfl⟩

set_option maxHeartbeats 1000000 in
theorem resolve_no (f t n : Int) (e : Bool) (w : World) (f0 : -9223372036854775808 ≤ f) (f1 : f ≤ 9223372036854775807) (t0 : -9223372036854775808 ≤ t) (t1 : t ≤ 9223372036854775807)
    (n0 : 0 ≤ n) (n1 : n ≤ 18446744073709551615) (h : okB f t n e = false) :
    Calls Try.prog 5 #[.agg #[.int .i64 f, .int .i64 t, .bool e], .int .u64 n] w fun e' w' => e' = .returned (.tuple #[.int .u64 0, .int .u64 0, .bool false]) ∧ w' = w.alloc (.cells #[.int .i64 f, .int .i64 t, .bool e] 24) := by
  have hno := of_decide_eq_false h
  clear h
  by_cases hn : n = 0
  · subst hn
    go_enter Try.func5, Try.ntmps5
    go_wp2
    go_ret3
    exact ⟨rfl, rfl⟩
  have hle : lstB t n e < fstB f n := by
    have := not_and.1 hno hn
    omega
  clear hno
  unfold fstB lstB at *
  cases e <;> by_cases hf : 0 ≤ f <;> by_cases ht : 0 ≤ t <;> by_cases hm : n < -f <;> by_cases hl : t ≤ n - 1 <;> by_cases ho : n < -t
  all_goals
    simp only [hf, ht, hm, hl, if_true, if_false, Bool.false_eq_true] at hle
    try (exfalso; omega)
  all_goals
    go_enter Try.func5, Try.ntmps5
    go_wp2_with (first | (go_at_call 7; refine (offset_pos _ _ _ (by omega) (by omega)).mono ?_; rintro e w' ⟨rfl, rfl⟩) | (go_at_call 7; refine (offset_out _ _ _ (by omega) (by omega) (by omega) (by omega) (by omega)).mono ?_; rintro e w' ⟨rfl, rfl⟩) | (go_at_call 7; refine (offset_in _ _ _ (by omega) (by omega) (by omega) (by omega) (by omega)).mono ?_; rintro e w' ⟨rfl, rfl⟩))
    go_ret3
    exact ⟨rfl, rfl⟩
end Go.Proofs.Qxb6602942a

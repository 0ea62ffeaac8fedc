import Derived.Test.Qxb6602954aWalks
import Derived.Test.Qxb6602954aShelf
import Derived.Test.Qxb6602954aPlain
namespace Go.Proofs.Qxb6602954a
open Go.RowKit
set_option linter.unusedVariables false

/-- WHAT THE WALK IS TOLD OF A SLICE OF STRINGS: it has no element, or it leads to a row of 'len' cells that hold the strings 'S'. -/
def Strs (w : World) (a : Option Addr) (len : Nat) (S : Nat → ByteArray) : Prop :=
  (len = 0 ∨ ∃ b off, a = some ⟨b, off, none⟩ ∧ ∀ i, i < len → w.cell? ⟨b, off + i, none⟩ = some (.string (S i))) ∧ len ≤ maxLen ∧ ∀ i, i < len → (S i).size ≤ maxLen

/-- It returns a bool, whichever. -/
def BoolEnd (r : Ending) : Prop := ∃ b : Bool, r = .returned (.bool b)

set_option maxHeartbeats 1000000 in
theorem bytes_any (e : Bool) (a : Option Addr) (len cap : Nat) (S : Nat → ByteArray) (t : ByteArray) (w : World) (h : Strs w a len S) (ht : t.size ≤ maxLen) :
    Calls Try.prog 10 #[.bool e, .slice a len cap, .string t] w fun r w' => BoolEnd r ∧ w' = w := by
  obtain ⟨h, hlen, hS⟩ := h
  unfold maxLen at hlen ht hS
  by_cases hbig : len ≤ 1048576
  · rcases h with h0 | ⟨b, off, rfl, hc⟩
    all_goals
      go_enter Try.func10, Try.ntmps10
      go_wp2
      go_loop [7, 8] (fun z i => ∃ k m : Nat, k ≤ len ∧ m ≤ 1048576 ∧ z = .int .i64 m ∧ i = .int .i64 k) (fun _ i => len - (intOf i).toNat)
      case atStart => exact ⟨0, len, Nat.zero_le _, by omega, by go_num, rfl⟩
      case round =>
        obtain ⟨k, m, hk, hm, rfl, rfl⟩ := hrel
        by_cases hlt : k < len
        · first
          | (exfalso; omega)
          | (have hck := hc k hlt
             have hSk := hS k hlt
             clear hc hS
             go_wp2
             · go_ret; exact ⟨⟨_, rfl⟩, rfl⟩
             · go_ret; exact ⟨⟨_, rfl⟩, rfl⟩
             · go_round
               case rel => exact ⟨k + 1, m + (S k).size, by omega, by omega, by go_num, by go_num⟩
               case measure => simp [intOf]; omega)
        · try clear hc
          clear hS
          go_wp2
          all_goals (go_ret; exact ⟨⟨_, rfl⟩, rfl⟩)
  · go_enter Try.func10, Try.ntmps10
    go_wp2
    go_ret
    exact ⟨⟨_, rfl⟩, rfl⟩

/-! ### Has -/
theorem below_drewN {w w' : World} {q : Nat} (h : w' = w.drewN q) : Below w.heap.size w w' := by
  subst h
  induction q with
  | zero => exact Below.refl _ _
  | succ q ih => exact ih.drew

set_option maxHeartbeats 1000000 in
theorem has_any (e : Bool) (a : Option Addr) (n c : Nat) (S : Nat → ByteArray) (x : ByteArray) (w : World) (h : Strs w a n S) (hbig : n < 4611686018427387904) (hasc : e = false → Asc S n) :
    Calls Try.prog 12 #[.agg #[.bool e, .slice a n c], .string x] w fun r w' => r = .returned (.bool (e || anyEq S x n)) ∧ Below w.heap.size w w' := by
  obtain ⟨h, -, -⟩ := h
  cases e
  · have hA := hasc rfl
    rcases h with rfl | ⟨b, off, rfl, hc⟩
    · clear hasc hA
      go_enter Try.func12, Try.ntmps12
      go_wp2_with (go_at_call 13; refine (Try.slices_BinarySearch_string_empty _ _ _ _).mono ?_; rintro e w1 ⟨rfl, rfl⟩)
      go_ret
      exact ⟨rfl, (Below.refl _ _).alloc (Nat.le_refl _) _⟩
    · have HA : Hid (Asc S n) := hA
      have hc' : ∀ j, j < n → (w.alloc (.cells #[.bool false, .slice (some ⟨b, off, none⟩) n c] 28)).cell? ⟨b, off + j, none⟩ = some (.string (S j)) := by
        intro j hj
        have h1 := hc j hj
        have hlt : b < w.heap.size := by
          rcases Nat.lt_or_ge b w.heap.size with h2 | h2
          · exact h2
          · rw [World.cell?, Array.getElem?_eq_none (by simpa using h2)] at h1; simp at h1
        rw [((Below.refl w.heap.size w).alloc (Nat.le_refl _) _).cell (p := ⟨b, off + j, none⟩) hlt]
        exact h1
      clear hasc hA hc
      go_enter Try.func12, Try.ntmps12
      go_wp2_with fail
      refine (Try.slices_BinarySearch_string b off n c S x _ hbig hc').mono ?_
      rintro e w1 ⟨rfl, q, hq⟩
      have hb1 := below_drewN hq
      clear hq
      rw [found_eq S x n HA.out]
      go_wp2
      go_ret
      exact ⟨rfl, ((Below.refl w.heap.size w).alloc (Nat.le_refl _) _).trans (hb1.mono (B' := w.heap.size) (by simp))⟩
  · clear h hasc
    go_enter Try.func12, Try.ntmps12
    go_wp2
    go_ret
    exact ⟨rfl, (Below.refl _ _).alloc (Nat.le_refl _) _⟩
end Go.Proofs.Qxb6602954a

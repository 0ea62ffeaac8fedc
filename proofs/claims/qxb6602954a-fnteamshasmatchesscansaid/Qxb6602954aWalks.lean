import Derived.Test.Qxb6602954aRows
import Derived.WalkKit
import Derived.ProofKit
import Derived.WalkSpells
import Derived.WalkLawsBesides
import Derived.Lib.Strings
namespace Go.Proofs.Qxb6602954a
open Go.RowKit
set_option linter.unusedVariables false

theorem retb {a b : Bool} (h : a = b) : Ending.returned (.bool a) = .returned (.bool b) := by rw [h]

/-! ### inAlphabet -/
theorem lit_fin : ∀ k : Fin 94, ((⟨#[33, 34, 35, 36, 37, 38, 39, 40, 41, 42, 43, 44, 45, 46, 47, 48, 49, 50, 51, 52, 53, 54, 55, 56, 57, 58, 59, 60, 61, 62, 63, 64, 65, 66, 67, 68, 69, 70, 71, 72, 73, 74, 75, 76, 77, 78, 79, 80, 81, 82, 83, 84, 85, 86, 87, 88, 89, 90, 91, 92, 93, 94, 95, 96, 97, 98, 99, 100, 101, 102, 103, 104, 105, 106, 107, 108, 109, 110, 111, 112, 113, 114, 115, 116, 117, 118, 119, 120, 121, 122, 123, 124, 125, 126]⟩ : ByteArray)[k.val]'(Nat.lt_of_lt_of_le k.isLt (by decide +kernel))).toNat = 33 + k.val := by decide +kernel
theorem lit_at (k : Nat) (h : k < 94) (h' : k < (⟨#[33, 34, 35, 36, 37, 38, 39, 40, 41, 42, 43, 44, 45, 46, 47, 48, 49, 50, 51, 52, 53, 54, 55, 56, 57, 58, 59, 60, 61, 62, 63, 64, 65, 66, 67, 68, 69, 70, 71, 72, 73, 74, 75, 76, 77, 78, 79, 80, 81, 82, 83, 84, 85, 86, 87, 88, 89, 90, 91, 92, 93, 94, 95, 96, 97, 98, 99, 100, 101, 102, 103, 104, 105, 106, 107, 108, 109, 110, 111, 112, 113, 114, 115, 116, 117, 118, 119, 120, 121, 122, 123, 124, 125, 126]⟩ : ByteArray).size) : ((⟨#[33, 34, 35, 36, 37, 38, 39, 40, 41, 42, 43, 44, 45, 46, 47, 48, 49, 50, 51, 52, 53, 54, 55, 56, 57, 58, 59, 60, 61, 62, 63, 64, 65, 66, 67, 68, 69, 70, 71, 72, 73, 74, 75, 76, 77, 78, 79, 80, 81, 82, 83, 84, 85, 86, 87, 88, 89, 90, 91, 92, 93, 94, 95, 96, 97, 98, 99, 100, 101, 102, 103, 104, 105, 106, 107, 108, 109, 110, 111, 112, 113, 114, 115, 116, 117, 118, 119, 120, 121, 122, 123, 124, 125, 126]⟩ : ByteArray)[k]'h').toNat = 33 + k := lit_fin ⟨k, h⟩

/-- The alphabet: the 94 printable characters but the space. -/
def okc (b : Int) : Bool := decide (33 ≤ b ∧ b ≤ 126)

set_option maxHeartbeats 1000000 in
theorem alpha_any (b : Int) (w : World) (b0 : 0 ≤ b) (b1 : b ≤ 255) :
    Calls Try.prog 7 #[.int .u8 b] w fun e w' => e = .returned (.bool (okc b)) ∧ w' = w := by
  go_enter Try.func7, Try.ntmps7
  go_wp2
  go_loop [3] (fun i => ∃ k : Nat, k ≤ 94 ∧ i = .int .i64 k ∧ ∀ j : Nat, j < k → b ≠ 33 + (j : Int)) (fun i => 94 - (intOf i).toNat)
  case atStart => exact ⟨0, Nat.zero_le _, rfl, fun j hj => absurd hj (by omega)⟩
  case round =>
    obtain ⟨k, hk, rfl, hno⟩ := hrel
    have HN : Hid (∀ j : Nat, j < k → b ≠ 33 + (j : Int)) := hno
    clear hno
    by_cases hlt : k < 94
    · have hl := lit_at k hlt (Nat.lt_of_lt_of_le hlt (by decide +kernel))
      by_cases hb : b = 33 + (k : Int)
      · have hb' : (33 + (k : Int) == b) = true := by rw [hb]; simp
        have HB : Hid (b = 33 + (k : Int)) := hb
        clear hb
        go_wp2
        go_ret
        exact ⟨retb (decide_eq_true (by have := HB.out; omega)).symm, rfl⟩
      · have hb' : (33 + (k : Int) == b) = false := by simpa using fun h => hb h.symm
        have HB : Hid (b ≠ 33 + (k : Int)) := hb
        clear hb
        go_wp2
        go_round
        case rel => exact ⟨k + 1, by omega, by go_num, fun j hj => by
          rcases (by omega : j < k ∨ j = k) with h | h
          · exact HN.out j h
          · rw [h]; exact HB.out⟩
        case measure => simp [intOf]; omega
    · go_wp2
      go_ret
      refine ⟨retb (decide_eq_false ?_).symm, rfl⟩
      intro h
      exact HN.out (b - 33).toNat (by omega) (by omega)

/-! ### ValidID -/
def okl (l : List UInt8) : Bool := l.all fun c => okc (c.toNat : Int)
def validB (s : ByteArray) : Bool := decide (1 ≤ s.size ∧ s.size ≤ 128) && okl s.data.toList

theorem len_data (s : ByteArray) : s.data.toList.length = s.size := Array.length_toList
theorem take_snoc (s : ByteArray) (k : Nat) (h : k < s.size) : s.data.toList.take (k + 1) = s.data.toList.take k ++ [s[k]] := by
  rw [List.take_succ_eq_append_getElem (by simpa using h)]; rfl
theorem okl_snoc (s : ByteArray) (k : Nat) (h : k < s.size) : okl (s.data.toList.take (k + 1)) = (okl (s.data.toList.take k) && okc (s[k].toNat : Int)) := by
  rw [take_snoc s k h]; simp [okl]
theorem okl_bad (s : ByteArray) (k : Nat) (h : k < s.size) (hb : okc (s[k].toNat : Int) = false) : okl s.data.toList = false := by
  rw [okl, List.all_eq_false]
  exact ⟨s[k], by rw [show s[k] = s.data.toList[k]'(by simpa using h) from rfl]; exact List.getElem_mem _, by simp [hb]⟩

set_option maxHeartbeats 1000000 in
theorem valid_any (s : ByteArray) (w : World) (hs : s.size ≤ maxLen) :
    Calls Try.prog 8 #[.string s] w fun e w' => e = .returned (.bool (validB s)) ∧ w' = w := by
  unfold maxLen at hs
  by_cases h1 : 1 ≤ s.size
  · have hne : s.toList.isEmpty = false := by
      rw [Lib.toList_data, List.isEmpty_eq_false_iff]
      intro h
      have := congrArg List.length h
      rw [len_data, List.length_nil] at this; omega
    by_cases h2 : s.size ≤ 128
    · go_enter Try.func8, Try.ntmps8
      go_wp2
      go_loop [3] (fun i => ∃ k : Nat, k ≤ s.size ∧ i = .int .i64 k ∧ okl (s.data.toList.take k) = true) (fun i => s.size - (intOf i).toNat)
      case atStart => exact ⟨0, Nat.zero_le _, rfl, rfl⟩
      case round =>
        obtain ⟨k, hk, rfl, hok⟩ := hrel
        have HK : Hid (okl (s.data.toList.take k) = true) := hok
        clear hok
        by_cases hlt : k < s.size
        · rcases (by omega : (s[k].toNat : Int) ≤ 32 ∨ 126 < (s[k].toNat : Int) ∨ (33 ≤ (s[k].toNat : Int) ∧ (s[k].toNat : Int) ≤ 126)) with hc | hc | ⟨hc, hc'⟩
          · go_wp2
            go_ret
            exact ⟨retb (by rw [validB, okl_bad s k hlt (decide_eq_false (by omega))]; simp), rfl⟩
          · go_wp2
            go_ret
            exact ⟨retb (by rw [validB, okl_bad s k hlt (decide_eq_false (by omega))]; simp), rfl⟩
          · go_wp2
            go_round
            case rel => exact ⟨k + 1, by omega, by go_num, by rw [okl_snoc s k hlt, HK.out, show okc (s[k].toNat : Int) = true from decide_eq_true (by omega)]; rfl⟩
            case measure => simp [intOf]; omega
        · obtain rfl : k = s.size := by omega
          go_wp2
          go_ret
          refine ⟨retb ?_, rfl⟩
          have := HK.out
          rw [List.take_of_length_le (by simp)] at this
          rw [validB, this, decide_eq_true ⟨h1, h2⟩]; rfl
    · go_enter Try.func8, Try.ntmps8
      go_wp2
      go_ret
      exact ⟨retb (by rw [validB, decide_eq_false (by omega)]; rfl), rfl⟩
  · have hne : s.toList.isEmpty = true := by
      rw [Lib.toList_data, List.isEmpty_iff]
      apply List.eq_nil_of_length_eq_zero
      rw [len_data]; omega
    go_enter Try.func8, Try.ntmps8
    go_wp2
    go_ret
    exact ⟨retb (by rw [validB, decide_eq_false (by omega)]; rfl), rfl⟩
end Go.Proofs.Qxb6602954a

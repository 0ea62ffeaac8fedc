/-
  THE CONTRACTS OF THE FUNCTIONS THAT FnClientLineCaseTable GOES THROUGH.
-/
import Derived.Test.Qxb6603456aWalks
import Derived.Deep.QuietTactic
import Derived.BigQuiet
import Derived.WalkSmall
namespace Go.Proofs.Qxb6603456a
open Go.RowKit
set_option linter.unusedVariables false

/-- It returns a bool; true only where lists and texts are no longer than the bound. -/
def BytesEndC (l1 l2 s1 s2 : Nat) (r : Ending) : Prop := ∃ v : Bool, r = .returned (.bool v) ∧ (v = true → l1 ≤ 1048576 ∧ l2 ≤ 1048576 ∧ s1 ≤ 1048576 ∧ s2 ≤ 1048576)

set_option maxHeartbeats 4000000 in
theorem bytesC_any (nm : ByteArray) (a1 : Option Addr) (l1 c1 : Nat) (S1 : Nat → ByteArray) (a2 : Option Addr) (l2 c2 : Nat) (S2 : Nat → ByteArray) (ht : ByteArray) (w : World)
    (h1 : Strs w a1 l1 S1) (h2 : Strs w a2 l2 S2) (hnm : nm.size ≤ maxLen) (hht : ht.size ≤ maxLen) :
    Calls Try.prog 12 #[.string nm, .slice a1 l1 c1, .slice a2 l2 c2, .string ht] w fun r w' => BytesEndC l1 l2 nm.size ht.size r ∧ w' = w := by
  have e1 := h1.2.1
  have e2 := h2.2.1
  have H1 : Hid (Strs w a1 l1 S1) := h1
  have H2 : Hid (Strs w a2 l2 S2) := h2
  clear h1 h2
  unfold maxLen at e1 e2 hnm hht
  go_enter Try.func12, Try.ntmps12
  go_wp2
  · go_ret; exact ⟨⟨_, rfl, fun h => by cases h⟩, rfl⟩
  · go_ret; exact ⟨⟨_, rfl, fun h => by cases h⟩, rfl⟩
  · go_ret; exact ⟨⟨_, rfl, fun h => by cases h⟩, rfl⟩
  go_loop [9, 10] (fun z i => ∃ k m : Nat, k ≤ l1 ∧ m ≤ 1048576 ∧ z = .int .i64 m ∧ i = .int .i64 k) (fun _ i => l1 - (intOf i).toNat)
  case atStart => exact ⟨0, nm.size + l1, Nat.zero_le _, by omega, by go_num, rfl⟩
  case round =>
    obtain ⟨k0, m0, hk0, hm0, rfl, rfl⟩ := hrel
    by_cases hlt0 : k0 < l1
    · obtain ⟨hh, -, hSS⟩ := H1.out
      rcases hh with h0 | ⟨b, off, rfl, hc⟩
      · omega
      have hck := hc k0 hlt0
      have hSk := hSS k0 hlt0
      unfold maxLen at hSk
      clear hc hSS
      go_wp2
      · go_ret; exact ⟨⟨_, rfl, fun h => by cases h⟩, rfl⟩
      · go_ret; exact ⟨⟨_, rfl, fun h => by cases h⟩, rfl⟩
      · go_round
        case rel => exact ⟨k0 + 1, m0 + (S1 k0).size, by omega, by omega, by go_num, by go_num⟩
        case measure => simp [intOf]; omega
    · go_wp2
      · go_ret; exact ⟨⟨_, rfl, fun h => by cases h⟩, rfl⟩
      · go_ret; exact ⟨⟨_, rfl, fun h => by cases h⟩, rfl⟩
      go_loop [9, 11] (fun z i => ∃ k m : Nat, k ≤ l2 ∧ m ≤ 1048576 ∧ z = .int .i64 m ∧ i = .int .i64 k) (fun _ i => l2 - (intOf i).toNat)
      case atStart => exact ⟨0, m0 + l2, Nat.zero_le _, by omega, by go_num, rfl⟩
      case round =>
        obtain ⟨k1, m1, hk1, hm1, rfl, rfl⟩ := hrel
        by_cases hlt1 : k1 < l2
        · obtain ⟨hh, -, hSS⟩ := H2.out
          rcases hh with h0 | ⟨b, off, rfl, hc⟩
          · omega
          have hck := hc k1 hlt1
          have hSk := hSS k1 hlt1
          unfold maxLen at hSk
          clear hc hSS
          go_wp2
          · go_ret; exact ⟨⟨_, rfl, fun h => by cases h⟩, rfl⟩
          · go_ret; exact ⟨⟨_, rfl, fun h => by cases h⟩, rfl⟩
          · go_round
            case rel => exact ⟨k1 + 1, m1 + (S2 k1).size, by omega, by omega, by go_num, by go_num⟩
            case measure => simp [intOf]; omega
        · go_wp2
          · go_ret; exact ⟨⟨_, rfl, fun h => by cases h⟩, rfl⟩
          · go_ret; exact ⟨⟨_, rfl, fun h => by cases h⟩, rfl⟩
          · go_ret; exact ⟨⟨_, rfl, fun _ => ⟨by omega, by omega, by omega, by omega⟩⟩, rfl⟩

/-! ### clientLine -/
theorem rets2 {a b c d : ByteArray} (h : a = c) (h' : b = d) : Ending.returned (.tuple #[.string a, .string b]) = .returned (.tuple #[.string c, .string d]) := by rw [h, h']

theorem ret_int {k : IntKind} {a b : Int} (h : a = b) : Ending.returned (.int k a) = .returned (.int k b) := by rw [h]
theorem below_drewN' (w : World) (q : Nat) : Below w.heap.size w (w.drewN q) := by
  induction q with
  | zero => exact Below.refl _ _
  | succ q ih => exact ih.drew
theorem box_below (w : World) (o : Obj) : Below w.heap.size w (w.alloc o) := (Below.refl _ _).alloc (Nat.le_refl _) o

set_option maxHeartbeats 2000000 in
theorem cl_deb (nm : ByteArray) (m : Option Addr) (ml mc : Nat) (a : Option Addr) (n c : Nat) (S : Nat → ByteArray) (ht : ByteArray) (w : World) (h : Strs w a n S) (hn : nm.size ≤ 1048576) (hh : ht.size ≤ 1048576) (hD : anyEq S ⟨#[46, 100, 101, 98]⟩ n = true) :
    Calls Try.prog 19 #[.agg #[.string nm, .slice m ml mc, .slice a n c], .string ht] w fun r w' => r = .returned (.tuple #[.string ⟨#[76, 105, 110, 101, 32, 102, 111, 114, 32, 97, 112, 116, 44, 32, 105, 110, 32, 47, 101, 116, 99, 47, 97, 112, 116, 47, 115, 111, 117, 114, 99, 101, 115, 46, 108, 105, 115, 116]⟩, .string (⟨#[100, 101, 98, 32]⟩ ++ (⟨#[104, 116, 116, 112, 58, 47, 47]⟩ ++ ht ++ ⟨#[47]⟩ ++ nm : ByteArray) ++ ⟨#[32, 60, 114, 101, 108, 101, 97, 115, 101, 62, 32, 109, 97, 105, 110]⟩)]) ∧ Below w.heap.size w w' := by
  have HS : Hid (Strs (w.alloc (.cells #[.string nm, .slice m ml mc, .slice a n c] 37)) a n S) := h.alloc _
  have hB := box_below w (.cells #[.string nm, .slice m ml mc, .slice a n c] 37)
  clear h
  go_enter Try.func19, Try.ntmps19
  go_wp2_with fail
  refine (hasSuf_any nm m ml mc a n c S ⟨#[46, 100, 101, 98]⟩ _ HS.out).mono ?_
  rintro r w1 ⟨rfl, hb1⟩
  rw [hD]
  have hB1 : Below w.heap.size w w1 := hB.trans (hb1.mono hB.size)
  go_wp2
  go_ret2
  exact ⟨rfl, hB1⟩

set_option maxHeartbeats 2000000 in
theorem cl_rpm (nm : ByteArray) (m : Option Addr) (ml mc : Nat) (a : Option Addr) (n c : Nat) (S : Nat → ByteArray) (ht : ByteArray) (w : World) (h : Strs w a n S) (hn : nm.size ≤ 1048576) (hh : ht.size ≤ 1048576) (hD : anyEq S ⟨#[46, 100, 101, 98]⟩ n = false) (hR : anyEq S ⟨#[46, 114, 112, 109]⟩ n = true) :
    Calls Try.prog 19 #[.agg #[.string nm, .slice m ml mc, .slice a n c], .string ht] w fun r w' => r = .returned (.tuple #[.string ⟨#[76, 105, 110, 101, 32, 102, 111, 114, 32, 100, 110, 102, 44, 32, 105, 110, 32, 97, 32, 114, 101, 112, 111, 115, 105, 116, 111, 114, 121, 32, 102, 105, 108, 101, 32, 105, 110, 32, 47, 101, 116, 99, 47, 121, 117, 109, 46, 114, 101, 112, 111, 115, 46, 100]⟩, .string (⟨#[98, 97, 115, 101, 117, 114, 108, 61]⟩ ++ (⟨#[104, 116, 116, 112, 58, 47, 47]⟩ ++ ht ++ ⟨#[47]⟩ ++ nm : ByteArray) ++ ⟨#[47, 60, 112, 97, 116, 104, 62]⟩)]) ∧ Below w.heap.size w w' := by
  have HS : Hid (Strs (w.alloc (.cells #[.string nm, .slice m ml mc, .slice a n c] 37)) a n S) := h.alloc _
  have hB := box_below w (.cells #[.string nm, .slice m ml mc, .slice a n c] 37)
  clear h
  go_enter Try.func19, Try.ntmps19
  go_wp2_with fail
  refine (hasSuf_any nm m ml mc a n c S ⟨#[46, 100, 101, 98]⟩ _ HS.out).mono ?_
  rintro r w1 ⟨rfl, hb1⟩
  rw [hD]
  have hB1 : Below w.heap.size w w1 := hB.trans (hb1.mono hB.size)
  have HS1 : Hid (Strs w1 a n S) := HS.out.below hb1
  have q0 : w1.cell? ⟨w.heap.size, 0, none⟩ = some (.string nm) := by rw [hb1.cell (p := ⟨w.heap.size, 0, none⟩) (by simp)]; simp
  have q1 : w1.cell? ⟨w.heap.size, 1, none⟩ = some (.slice m ml mc) := by rw [hb1.cell (p := ⟨w.heap.size, 1, none⟩) (by simp)]; simp
  have q2 : w1.cell? ⟨w.heap.size, 2, none⟩ = some (.slice a n c) := by rw [hb1.cell (p := ⟨w.heap.size, 2, none⟩) (by simp)]; simp
  clear hb1 HS
  go_wp2_with fail
  refine (hasSuf_any nm m ml mc a n c S ⟨#[46, 114, 112, 109]⟩ _ HS1.out).mono ?_
  rintro r w2 ⟨rfl, hb2⟩
  rw [hR]
  have hB2 : Below w.heap.size w w2 := hB1.trans (hb2.mono hB1.size)
  clear hb2 HS1
  go_wp2
  go_ret2
  exact ⟨rfl, hB2⟩

set_option maxHeartbeats 2000000 in
theorem cl_none (nm : ByteArray) (m : Option Addr) (ml mc : Nat) (a : Option Addr) (n c : Nat) (S : Nat → ByteArray) (ht : ByteArray) (w : World) (h : Strs w a n S) (hn : nm.size ≤ 1048576) (hh : ht.size ≤ 1048576) (hD : anyEq S ⟨#[46, 100, 101, 98]⟩ n = false) (hR : anyEq S ⟨#[46, 114, 112, 109]⟩ n = false) :
    Calls Try.prog 19 #[.agg #[.string nm, .slice m ml mc, .slice a n c], .string ht] w fun r w' => r = .returned (.tuple #[.string ⟨#[66, 97, 115, 101, 32, 85, 82, 76, 32, 111, 102, 32, 116, 104, 101, 32, 114, 101, 112, 111, 115, 105, 116, 111, 114, 121]⟩, .string ((⟨#[104, 116, 116, 112, 58, 47, 47]⟩ ++ ht ++ ⟨#[47]⟩ ++ nm : ByteArray) ++ ⟨#[47]⟩)]) ∧ Below w.heap.size w w' := by
  have HS : Hid (Strs (w.alloc (.cells #[.string nm, .slice m ml mc, .slice a n c] 37)) a n S) := h.alloc _
  have hB := box_below w (.cells #[.string nm, .slice m ml mc, .slice a n c] 37)
  clear h
  go_enter Try.func19, Try.ntmps19
  go_wp2_with fail
  refine (hasSuf_any nm m ml mc a n c S ⟨#[46, 100, 101, 98]⟩ _ HS.out).mono ?_
  rintro r w1 ⟨rfl, hb1⟩
  rw [hD]
  have hB1 : Below w.heap.size w w1 := hB.trans (hb1.mono hB.size)
  have HS1 : Hid (Strs w1 a n S) := HS.out.below hb1
  have q0 : w1.cell? ⟨w.heap.size, 0, none⟩ = some (.string nm) := by rw [hb1.cell (p := ⟨w.heap.size, 0, none⟩) (by simp)]; simp
  have q1 : w1.cell? ⟨w.heap.size, 1, none⟩ = some (.slice m ml mc) := by rw [hb1.cell (p := ⟨w.heap.size, 1, none⟩) (by simp)]; simp
  have q2 : w1.cell? ⟨w.heap.size, 2, none⟩ = some (.slice a n c) := by rw [hb1.cell (p := ⟨w.heap.size, 2, none⟩) (by simp)]; simp
  clear hb1 HS
  go_wp2_with fail
  refine (hasSuf_any nm m ml mc a n c S ⟨#[46, 114, 112, 109]⟩ _ HS1.out).mono ?_
  rintro r w2 ⟨rfl, hb2⟩
  rw [hR]
  have hB2 : Below w.heap.size w w2 := hB1.trans (hb2.mono hB1.size)
  clear hb2 HS1
  go_wp2
  go_ret2
  exact ⟨rfl, hB2⟩

theorem zl_deb (nm : ByteArray) (m : Option Addr) (ml mc : Nat) (a : Option Addr) (n c : Nat) (S : Nat → ByteArray) (ht : ByteArray) (w : World) (h : Strs w a n S) (hn : nm.size ≤ 1048576) (hh : ht.size ≤ 1048576) (hD : anyEq S ⟨#[46, 100, 101, 98]⟩ n = true) :
    Calls Try.prog 13 #[.string nm, .slice m ml mc, .slice a n c, .string ht] w fun r w' => r = .returned (.tuple #[.string ⟨#[76, 105, 110, 101, 32, 102, 111, 114, 32, 97, 112, 116, 44, 32, 105, 110, 32, 47, 101, 116, 99, 47, 97, 112, 116, 47, 115, 111, 117, 114, 99, 101, 115, 46, 108, 105, 115, 116]⟩, .string (⟨#[100, 101, 98, 32]⟩ ++ (⟨#[104, 116, 116, 112, 58, 47, 47]⟩ ++ ht ++ ⟨#[47]⟩ ++ nm : ByteArray) ++ ⟨#[32, 60, 114, 101, 108, 101, 97, 115, 101, 62, 32, 109, 97, 105, 110]⟩)]) ∧ Below w.heap.size w w' := by
  have HS : Hid (Strs w a n S) := h
  clear h
  go_enter Try.func13, Try.ntmps13
  go_wp2_with fail
  refine (cl_deb nm m ml mc a n c S ht _ HS.out hn hh hD).mono ?_
  rintro r w1 ⟨rfl, hb1⟩
  go_wp2
  go_ret2
  exact ⟨rfl, hb1⟩

theorem zl_rpm (nm : ByteArray) (m : Option Addr) (ml mc : Nat) (a : Option Addr) (n c : Nat) (S : Nat → ByteArray) (ht : ByteArray) (w : World) (h : Strs w a n S) (hn : nm.size ≤ 1048576) (hh : ht.size ≤ 1048576) (hD : anyEq S ⟨#[46, 100, 101, 98]⟩ n = false) (hR : anyEq S ⟨#[46, 114, 112, 109]⟩ n = true) :
    Calls Try.prog 13 #[.string nm, .slice m ml mc, .slice a n c, .string ht] w fun r w' => r = .returned (.tuple #[.string ⟨#[76, 105, 110, 101, 32, 102, 111, 114, 32, 100, 110, 102, 44, 32, 105, 110, 32, 97, 32, 114, 101, 112, 111, 115, 105, 116, 111, 114, 121, 32, 102, 105, 108, 101, 32, 105, 110, 32, 47, 101, 116, 99, 47, 121, 117, 109, 46, 114, 101, 112, 111, 115, 46, 100]⟩, .string (⟨#[98, 97, 115, 101, 117, 114, 108, 61]⟩ ++ (⟨#[104, 116, 116, 112, 58, 47, 47]⟩ ++ ht ++ ⟨#[47]⟩ ++ nm : ByteArray) ++ ⟨#[47, 60, 112, 97, 116, 104, 62]⟩)]) ∧ Below w.heap.size w w' := by
  have HS : Hid (Strs w a n S) := h
  clear h
  go_enter Try.func13, Try.ntmps13
  go_wp2_with fail
  refine (cl_rpm nm m ml mc a n c S ht _ HS.out hn hh hD hR).mono ?_
  rintro r w1 ⟨rfl, hb1⟩
  go_wp2
  go_ret2
  exact ⟨rfl, hb1⟩

theorem zl_none (nm : ByteArray) (m : Option Addr) (ml mc : Nat) (a : Option Addr) (n c : Nat) (S : Nat → ByteArray) (ht : ByteArray) (w : World) (h : Strs w a n S) (hn : nm.size ≤ 1048576) (hh : ht.size ≤ 1048576) (hD : anyEq S ⟨#[46, 100, 101, 98]⟩ n = false) (hR : anyEq S ⟨#[46, 114, 112, 109]⟩ n = false) :
    Calls Try.prog 13 #[.string nm, .slice m ml mc, .slice a n c, .string ht] w fun r w' => r = .returned (.tuple #[.string ⟨#[66, 97, 115, 101, 32, 85, 82, 76, 32, 111, 102, 32, 116, 104, 101, 32, 114, 101, 112, 111, 115, 105, 116, 111, 114, 121]⟩, .string ((⟨#[104, 116, 116, 112, 58, 47, 47]⟩ ++ ht ++ ⟨#[47]⟩ ++ nm : ByteArray) ++ ⟨#[47]⟩)]) ∧ Below w.heap.size w w' := by
  have HS : Hid (Strs w a n S) := h
  clear h
  go_enter Try.func13, Try.ntmps13
  go_wp2_with fail
  refine (cl_none nm m ml mc a n c S ht _ HS.out hn hh hD hR).mono ?_
  rintro r w1 ⟨rfl, hb1⟩
  go_wp2
  go_ret2
  exact ⟨rfl, hb1⟩

/-! ### zzLastIndex -/
/-- It returns an index: not below zero just where the scan finds x. -/
def IdxEnd (b : Bool) (r : Ending) : Prop := ∃ z : Int, r = .returned (.int .i64 z) ∧ decide (0 ≤ z) = b

theorem anyEq_none (S : Nat → ByteArray) (x : ByteArray) (n : Nat) (h : ∀ i, i < n → ((S i).toList == x.toList) = false) : anyEq S x n = false := by
  rw [anyEq, List.any_eq_false]
  intro i hi
  have := h i (List.mem_range.1 hi)
  simp [this]

set_option maxHeartbeats 2000000 in
theorem last_any (a : Option Addr) (n c : Nat) (S : Nat → ByteArray) (x : ByteArray) (w : World) (h : Strs w a n S) :
    Calls Try.prog 14 #[.slice a n c, .string x] w fun r w' => IdxEnd (anyEq S x n) r ∧ w' = w := by
  obtain ⟨h, hlen, -⟩ := h
  unfold maxLen at hlen
  go_enter Try.func14, Try.ntmps14
  go_wp2
  go_loop [5] (fun i => ∃ k : Nat, k ≤ n ∧ i = .int .i64 ((k : Int) - 1) ∧ ∀ j, k ≤ j → j < n → ((S j).toList == x.toList) = false) (fun i => (intOf i + 1).toNat)
  case atStart => exact ⟨n, Nat.le_refl _, rfl, fun j h1 h2 => by omega⟩
  case round =>
    obtain ⟨k, hk, rfl, hno⟩ := hrel
    have HN : Hid (∀ j, k ≤ j → j < n → ((S j).toList == x.toList) = false) := hno
    clear hno
    by_cases hlt : 0 < k
    · rcases h with h0 | ⟨b, off, rfl, hc⟩
      · omega
      obtain ⟨k', rfl⟩ : ∃ k', k = k' + 1 := ⟨k - 1, by omega⟩
      have hck := hc k' (by omega)
      clear hc
      cases heq : ((S k').toList == x.toList)
      · go_wp2
        go_round
        case rel => exact ⟨k', by omega, by go_num, fun j h1 h2 => by
          by_cases e : j = k'
          · rw [e]; exact heq
          · exact HN.out j (by omega) h2⟩
        case measure => simp [intOf] <;> omega
      · go_wp2
        go_ret
        exact ⟨⟨_, rfl, by rw [anyEq_hit S x k' n (by omega) heq]; exact decide_eq_true (by omega)⟩, rfl⟩
    · obtain rfl : k = 0 := by omega
      go_wp2
      go_ret
      exact ⟨⟨_, rfl, by rw [anyEq_none S x n (fun i hi => HN.out i (Nat.zero_le _) hi)]; rfl⟩, rfl⟩

/-! ### zzCanonical -/
theorem can_deb (b : Bool) (w : World) : Calls Try.prog 15 #[.bool true, .bool b] w fun r w' => r = .returned (.slice (some ⟨w.heap.size, 0, none⟩) 1 1) ∧ w' = w.alloc (.cells #[.string ⟨#[46, 100, 101, 98]⟩] 9) := by
  go_enter Try.func15, Try.ntmps15
  go_wp2
  go_ret
  exact ⟨rfl, rfl⟩
theorem can_rpm (w : World) : Calls Try.prog 15 #[.bool false, .bool true] w fun r w' => r = .returned (.slice (some ⟨w.heap.size, 0, none⟩) 1 1) ∧ w' = w.alloc (.cells #[.string ⟨#[46, 114, 112, 109]⟩] 9) := by
  go_enter Try.func15, Try.ntmps15
  go_wp2
  go_ret
  exact ⟨rfl, rfl⟩
theorem can_none (w : World) : Calls Try.prog 15 #[.bool false, .bool false] w fun r w' => r = .returned (.slice none 0 0) ∧ w' = w := by
  go_enter Try.func15, Try.ntmps15
  go_wp2
  go_ret
  exact ⟨rfl, rfl⟩

/-! ### zzAt, zzFramed -/
theorem byte_at (s : ByteArray) (pre p post : List UInt8) (hs : s.data.toList = pre ++ (p ++ post)) (k : Nat) (hk : k < p.length) (h : pre.length + k < s.size) : s[pre.length + k] = p[k] := by
  have hj : pre.length + k < s.data.toList.length := by simpa using h
  have h1 : s.data.toList[pre.length + k]? = some s[pre.length + k] := by rw [List.getElem?_eq_getElem hj]; rfl
  rw [hs, List.getElem?_append_right (by omega), show pre.length + k - pre.length = k by omega, List.getElem?_append_left hk, List.getElem?_eq_getElem hk] at h1
  exact (Option.some.inj h1).symm

set_option maxHeartbeats 2000000 in
theorem at_ok (s p : ByteArray) (pre post : List UInt8) (i : Nat) (w : World) (hs : s.data.toList = pre ++ (p.data.toList ++ post)) (hi : pre.length = i) (hsz : s.size ≤ 4194304) :
    Calls Try.prog 20 #[.string s, .int .i64 i, .string p] w fun r w' => r = .returned (.int .i64 ((i + p.size : Nat) : Int)) ∧ Below w.heap.size w w' := by
  have hlen : s.size = i + (p.size + post.length) := by
    have := congrArg List.length hs
    simpa [hi] using this
  have h1 : i + p.size ≤ s.size := by omega
  have HB : Hid (∀ k (h : k < p.size) (h' : i + k < s.size), s[i + k] = p[k]) := fun k h h' => by
    subst hi
    rw [byte_at s pre p.data.toList post hs k (by simpa using h) h']
    rfl
  clear hs hlen
  go_enter Try.func20, Try.ntmps20
  go_wp2
  go_loopw [7] (fun kv wr => ∃ k q : Nat, k ≤ p.size ∧ kv = .int .i64 k ∧ wr = w.drewN q) (fun kv _ => p.size - (intOf kv).toNat)
  case atStart => exact ⟨0, 0, Nat.zero_le _, rfl, rfl⟩
  case round =>
    obtain ⟨k, q, hk, rfl, rfl⟩ := hrel
    by_cases hlt : k < p.size
    · have hin : i + k < s.size := by omega
      have hq := HB.out k hlt hin
      have hb1 : (k : Int) < (p.size : Int) := by omega
      have hb2 : (i : Int) + (k : Int) < (s.size : Int) := by omega
      have hwr : IntKind.i64.wrap ((i : Int) + (k : Int)) = (i : Int) + (k : Int) := by rw [IntKind.wrap_i64]; omega
      have htn : ((i : Int) + (k : Int)).toNat = i + k := by omega
      go_wp2
      go_quiet (fail)
      go_wp2
      go_roundw
      case rel => exact ⟨k + 1, _, by omega, by go_num, rfl⟩
      case measure => simp [intOf]; omega
    · obtain rfl : p.size = k := by omega
      go_wp2
      go_ret
      exact ⟨ret_int (by omega), below_drewN' w q⟩

/-- Five pieces, one behind the other. -/
theorem framed_ok (s p1 h p2 n p3 : ByteArray) (w : World) (hs : s.data.toList = p1.data.toList ++ (h.data.toList ++ (p2.data.toList ++ (n.data.toList ++ p3.data.toList)))) (hsz : s.size ≤ 4194304) :
    Calls Try.prog 16 #[.string s, .string p1, .string h, .string p2, .string n, .string p3] w fun r w' => r = .returned (.bool true) ∧ Below w.heap.size w w' := by
  have hlen : s.size = p1.size + (h.size + (p2.size + (n.size + p3.size))) := by
    have := congrArg List.length hs
    simpa using this
  have e1 : s.size ≤ p1.size + h.size + p2.size + n.size + p3.size := by omega
  have e2 : p1.size + h.size + p2.size + n.size + p3.size ≤ s.size := by omega
  have HS : Hid (s.data.toList = p1.data.toList ++ (h.data.toList ++ (p2.data.toList ++ (n.data.toList ++ p3.data.toList)))) := hs
  clear hs hlen
  go_enter Try.func16, Try.ntmps16
  go_wp2_with fail
  refine (at_ok s p1 [] (h.data.toList ++ (p2.data.toList ++ (n.data.toList ++ p3.data.toList))) 0 _ (by rw [HS.out]; rfl) rfl hsz).mono ?_
  rintro r w1 ⟨rfl, hb1⟩
  rw [Nat.zero_add]
  go_wp2_with fail
  refine (at_ok s h p1.data.toList (p2.data.toList ++ (n.data.toList ++ p3.data.toList)) p1.size _ (by rw [HS.out]) (by simp) hsz).mono ?_
  rintro r w2 ⟨rfl, hb2⟩
  obtain ⟨j2, hj2⟩ : ∃ j, p1.size + h.size = j := ⟨_, rfl⟩
  rw [hj2]
  have J2 : Hid (p1.size + h.size = j2) := hj2
  clear hj2
  go_wp2_with fail
  refine (at_ok s p2 (p1.data.toList ++ h.data.toList) (n.data.toList ++ p3.data.toList) j2 _ (by rw [HS.out]; simp) (by rw [← J2.out]; simp) hsz).mono ?_
  rintro r w3 ⟨rfl, hb3⟩
  obtain ⟨j3, hj3⟩ : ∃ j, j2 + p2.size = j := ⟨_, rfl⟩
  rw [hj3]
  have J3 : Hid (j2 + p2.size = j3) := hj3
  clear hj3
  go_wp2_with fail
  refine (at_ok s n (p1.data.toList ++ (h.data.toList ++ p2.data.toList)) p3.data.toList j3 _ (by rw [HS.out]; simp) (by rw [← J3.out, ← J2.out]; simp; omega) hsz).mono ?_
  rintro r w4 ⟨rfl, hb4⟩
  obtain ⟨j4, hj4⟩ : ∃ j, j3 + n.size = j := ⟨_, rfl⟩
  rw [hj4]
  have J4 : Hid (j3 + n.size = j4) := hj4
  clear hj4
  go_wp2_with fail
  refine (at_ok s p3 (p1.data.toList ++ (h.data.toList ++ (p2.data.toList ++ n.data.toList))) [] j4 _ (by rw [HS.out]; simp) (by rw [← J4.out, ← J3.out, ← J2.out]; simp; omega) hsz).mono ?_
  rintro r w5 ⟨rfl, hb5⟩
  have hj5 : j4 + p3.size = s.size := by have := J2.out; have := J3.out; have := J4.out; omega
  rw [hj5]
  go_wp2
  go_ret
  refine ⟨retb (by simp), ?_⟩
  exact hb1.trans ((hb2.mono hb1.size).trans ((hb3.mono (Nat.le_trans hb1.size hb2.size)).trans ((hb4.mono (Nat.le_trans hb1.size (Nat.le_trans hb2.size hb3.size))).trans (hb5.mono (Nat.le_trans hb1.size (Nat.le_trans hb2.size (Nat.le_trans hb3.size hb4.size)))))))
end Go.Proofs.Qxb6603456a

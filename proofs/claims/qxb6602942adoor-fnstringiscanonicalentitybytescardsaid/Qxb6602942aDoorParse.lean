import Derived.Test.Qxb6602942aDoorWalks
namespace Go.Proofs.Qxb6602942aDoor
open Go.RowKit
set_option linter.unusedVariables false

/-- Digits 'D' stand in 's' from 'st' on, and no digit stands behind them. -/
structure Run (s : ByteArray) (st : Nat) (D : List UInt8) : Prop where
  le : st + D.length ≤ s.size
  at_ : ∀ k (h : k < D.length) (h' : st + k < s.size), s[st + k] = D[k]
  stop : ∀ h : st + D.length < s.size, ¬ (48 ≤ (s[st + D.length]).toNat ∧ (s[st + D.length]).toNat ≤ 57)

theorem neg_back (u : Nat) (h1 : 1 ≤ u) (h2 : u ≤ 9223372036854775808) : wrap64 (IntKind.u64.wrap (-(u : Int))) = -(u : Int) := by
  simp only [wrap64, IntKind.wrap, IntKind.bits, IntKind.signed]
  simp
  omega
theorem ret3 {a a' b b' : Int} {k k' : IntKind} {c : Bool} (h : a = a') (h' : b = b') : Ending.returned (.tuple #[.int k a, .int k' b, .bool c]) = .returned (.tuple #[.int k a', .int k' b', .bool c]) := by rw [h, h']

set_option maxHeartbeats 1000000 in
theorem parse_pos (s : ByteArray) (i u : Nat) (w : World) (hs : s.size ≤ 1000) (hu : u ≤ 9223372036854775807) (R : Run s i (Lib.decDigits u)) :
    Calls Tryd.prog 6 #[.string s, .int .i64 i] w fun e w' => e = .returned (.tuple #[.int .i64 u, .int .i64 ((i + (Lib.decDigits u).length : Nat) : Int), .bool true]) ∧ w' = w := by
  have hp := Num.dec_len_pos u
  have h19 := Num.dec_len19 u (by omega)
  have hle := R.le
  have h0 : i < s.size := by omega
  have hd0 : s[i].toNat ≠ 45 := by
    have := R.at_ 0 (by omega) (by omega)
    have h2 := Num.dec_digit u _ (List.getElem_mem (by omega : 0 < (Lib.decDigits u).length))
    rw [← this] at h2
    simp at h2; omega
  have hd0' : ((s[i].toNat : Int) == 45) = false := by simpa using (by omega : (s[i].toNat : Int) ≠ 45)
  have HR : Hid (Run s (i) (Lib.decDigits u)) := R
  clear R
  go_enter Tryd.func6, Tryd.ntmps6
  go_wp2
  go_loop [1, 9] (fun iv mv => ∃ k : Nat, k ≤ (Lib.decDigits u).length ∧ iv = .int .i64 ((i + k : Nat) : Int) ∧ mv = .int .u64 (Num.gather ((Lib.decDigits u).take k) : Nat)) (fun iv _ => s.size - (intOf iv).toNat)
  case atStart => exact ⟨0, Nat.zero_le _, by go_num, rfl⟩
  case round =>
    obtain ⟨k, hk, rfl, rfl⟩ := hrel
    by_cases hlt : k < (Lib.decDigits u).length
    · have hin : i + k < s.size := by omega
      have hc := HR.out.at_ k hlt hin
      have hd := Num.dec_digit u _ (List.getElem_mem hlt)
      have hsn := Num.gather_snoc ((Lib.decDigits u).take k) ((Lib.decDigits u)[k])
      rw [← List.take_succ_eq_append_getElem hlt] at hsn
      have hup := Num.gather_take_le (Lib.decDigits u) (k + 1)
      rw [Num.gather_dec] at hup
      rw [← hc] at hd hsn
      obtain ⟨hd1, hd2⟩ := hd
      have HS : Hid (Num.gather ((Lib.decDigits u).take (k + 1)) = Num.gather ((Lib.decDigits u).take k) * 10 + (s[i + k].toNat - 48)) := hsn
      rw [hsn] at hup
      clear hsn hc
      go_wp2
      go_round
      case rel => exact ⟨k + 1, by omega, by go_num, by rw [HS.out]; congr 1; omega⟩
      case measure => simp [intOf]; omega
    · obtain rfl : k = (Lib.decDigits u).length := by omega
      rw [List.take_length, Num.gather_dec]
      have hst := HR.out.stop
      have hh := Num.dec_head u
      have hz : 1 < (Lib.decDigits u).length → ((s[i].toNat : Int) == 48) = false := by
        intro h1
        have := HR.out.at_ 0 (by omega) (by omega)
        have h2 := hh h1 _ (List.getElem?_eq_getElem (by omega))
        rw [← this] at h2
        simp only [Nat.add_zero] at h2
        simpa using (by omega : (s[i].toNat : Int) ≠ 48)
      clear hh
      by_cases hend : i + (Lib.decDigits u).length < s.size
      · have hst' := hst hend
        clear hst
        rcases (by omega : (s[i + (Lib.decDigits u).length].toNat : Int) < 48 ∨ 57 < (s[i + (Lib.decDigits u).length].toNat : Int)) with hx | hx <;> by_cases h1 : 1 < (Lib.decDigits u).length
        all_goals
          first | (have hz' := hz h1; clear hz hst') | clear hz hst'
          go_wp2
          go_ret3
          exact ⟨ret3 rfl (by omega), rfl⟩
      · clear hst
        by_cases h1 : 1 < (Lib.decDigits u).length
        all_goals
          first | (have hz' := hz h1; clear hz) | clear hz
          go_wp2
          go_ret3
          exact ⟨ret3 rfl (by omega), rfl⟩

set_option maxHeartbeats 1000000 in
theorem parse_neg (s : ByteArray) (i u : Nat) (w : World) (hs : s.size ≤ 1000) (hu : u ≤ 9223372036854775808) (hu1 : 1 ≤ u) (hm : ∀ h : i < s.size, s[i] = 45) (R : Run s (i + 1) (Lib.decDigits u)) :
    Calls Tryd.prog 6 #[.string s, .int .i64 i] w fun e w' => e = .returned (.tuple #[.int .i64 (-(u : Int)), .int .i64 ((i + 1 + (Lib.decDigits u).length : Nat) : Int), .bool true]) ∧ w' = w := by
  have hp := Num.dec_len_pos u
  have h19 := Num.dec_len19 u (by omega)
  have hle := R.le
  have h0 : i + 1 < s.size := by omega
  have hi0 : i < s.size := by omega
  have hu0 : ((u : Int) == 0) = false := by simpa using (by omega : (u : Int) ≠ 0)
  have hd0' : ((s[i].toNat : Int) == 45) = true := by rw [hm hi0]; decide
  have HR : Hid (Run s (i + 1) (Lib.decDigits u)) := R
  clear R
  go_enter Tryd.func6, Tryd.ntmps6
  go_wp2
  go_loop [1, 9] (fun iv mv => ∃ k : Nat, k ≤ (Lib.decDigits u).length ∧ iv = .int .i64 ((i + 1 + k : Nat) : Int) ∧ mv = .int .u64 (Num.gather ((Lib.decDigits u).take k) : Nat)) (fun iv _ => s.size - (intOf iv).toNat)
  case atStart => exact ⟨0, Nat.zero_le _, by go_num, rfl⟩
  case round =>
    obtain ⟨k, hk, rfl, rfl⟩ := hrel
    by_cases hlt : k < (Lib.decDigits u).length
    · have hin : i + 1 + k < s.size := by omega
      have hc := HR.out.at_ k hlt hin
      have hd := Num.dec_digit u _ (List.getElem_mem hlt)
      have hsn := Num.gather_snoc ((Lib.decDigits u).take k) ((Lib.decDigits u)[k])
      rw [← List.take_succ_eq_append_getElem hlt] at hsn
      have hup := Num.gather_take_le (Lib.decDigits u) (k + 1)
      rw [Num.gather_dec] at hup
      rw [← hc] at hd hsn
      obtain ⟨hd1, hd2⟩ := hd
      have HS : Hid (Num.gather ((Lib.decDigits u).take (k + 1)) = Num.gather ((Lib.decDigits u).take k) * 10 + (s[i + 1 + k].toNat - 48)) := hsn
      rw [hsn] at hup
      clear hsn hc
      go_wp2
      go_round
      case rel => exact ⟨k + 1, by omega, by go_num, by rw [HS.out]; congr 1; omega⟩
      case measure => simp [intOf]; omega
    · obtain rfl : k = (Lib.decDigits u).length := by omega
      rw [List.take_length, Num.gather_dec]
      have hst := HR.out.stop
      have hh := Num.dec_head u
      have hz : 1 < (Lib.decDigits u).length → ((s[i + 1].toNat : Int) == 48) = false := by
        intro h1
        have := HR.out.at_ 0 (by omega) (by omega)
        have h2 := hh h1 _ (List.getElem?_eq_getElem (by omega))
        rw [← this] at h2
        simp only [Nat.add_zero] at h2
        simpa using (by omega : (s[i + 1].toNat : Int) ≠ 48)
      clear hh
      by_cases hend : i + 1 + (Lib.decDigits u).length < s.size
      · have hst' := hst hend
        clear hst
        rcases (by omega : (s[i + 1 + (Lib.decDigits u).length].toNat : Int) < 48 ∨ 57 < (s[i + 1 + (Lib.decDigits u).length].toNat : Int)) with hx | hx <;> by_cases h1 : 1 < (Lib.decDigits u).length
        all_goals
          first | (have hz' := hz h1; clear hz hst') | clear hz hst'
          go_wp2
          go_ret3
          exact ⟨ret3 (neg_back u hu1 hu) (by omega), rfl⟩
      · clear hst
        by_cases h1 : 1 < (Lib.decDigits u).length
        all_goals
          first | (have hz' := hz h1; clear hz) | clear hz
          go_wp2
          go_ret3
          exact ⟨ret3 (neg_back u hu1 hu) (by omega), rfl⟩

end Go.Proofs.Qxb6602942aDoor

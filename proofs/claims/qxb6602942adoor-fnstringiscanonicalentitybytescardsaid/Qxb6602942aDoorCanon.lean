import Derived.Test.Qxb6602942aDoorParse
namespace Go.Proofs.Qxb6602942aDoor
open Go.RowKit
set_option linter.unusedVariables false

theorem run_of (s : ByteArray) (pre D rest : List UInt8) (i : Nat) (hs : s.data.toList = pre ++ (D ++ rest)) (hi : pre.length = i)
    (hr : ∀ c, rest[0]? = some c → ¬ (48 ≤ c.toNat ∧ c.toNat ≤ 57)) : Run s i D := by
  have hsz : s.size = pre.length + (D.length + rest.length) := by
    have := congrArg List.length hs
    simpa using this
  have hget : ∀ j (h : j < s.size), s.data.toList[j]? = some s[j] := fun j h => by
    have hj : j < s.data.toList.length := by simpa using h
    rw [List.getElem?_eq_getElem hj]; rfl
  refine ⟨by omega, fun k h h' => ?_, fun h => ?_⟩
  · have h1 := hget (i + k) h'
    rw [hs, List.getElem?_append_right (by omega), show i + k - pre.length = k by omega, List.getElem?_append_left h, List.getElem?_eq_getElem h] at h1
    exact (Option.some.inj h1).symm
  · have h1 := hget (i + D.length) h
    rw [hs, List.getElem?_append_right (by omega), show i + D.length - pre.length = D.length by omega, List.getElem?_append_right (by omega), Nat.sub_self] at h1
    exact hr _ h1

theorem parse_itoa (s : ByteArray) (pre rest : List UInt8) (i : Nat) (n : Int) (w : World) (hs : s.data.toList = pre ++ (Lib.itoa n ++ rest)) (hi : pre.length = i) (hsz : s.size ≤ 1000)
    (h0 : -9223372036854775808 ≤ n) (h1 : n ≤ 9223372036854775807) (hr : ∀ c, rest[0]? = some c → ¬ (48 ≤ c.toNat ∧ c.toNat ≤ 57)) :
    Calls Tryd.prog 6 #[.string s, .int .i64 i] w fun e w' => e = .returned (.tuple #[.int .i64 n, .int .i64 ((i + (Lib.itoa n).length : Nat) : Int), .bool true]) ∧ w' = w := by
  by_cases hn : n < 0
  · have e1 : Lib.itoa n = 45 :: Lib.decDigits n.natAbs := by unfold Lib.itoa; rw [if_pos hn]
    have hs2 : s.data.toList = (pre ++ [45]) ++ (Lib.decDigits n.natAbs ++ rest) := by rw [hs, e1]; simp
    have R := run_of s (pre ++ [45]) (Lib.decDigits n.natAbs) rest (i + 1) hs2 (by simp [hi]) hr
    have hm : ∀ h : i < s.size, s[i] = 45 := fun h => by
      have hj : i < s.data.toList.length := by simpa using h
      have h2 : s.data.toList[i]? = some s[i] := by rw [List.getElem?_eq_getElem hj]; rfl
      rw [hs, e1, List.getElem?_append_right (by omega), hi, Nat.sub_self] at h2
      simpa using h2.symm
    refine (parse_neg s i n.natAbs w hsz (by omega) (by omega) hm R).mono fun e w' ⟨he, hw⟩ => ⟨?_, hw⟩
    rw [he]
    exact ret3 (by omega) (by rw [e1]; simp; omega)
  · have e1 : Lib.itoa n = Lib.decDigits n.toNat := by unfold Lib.itoa; rw [if_neg hn]
    rw [e1] at hs
    have R := run_of s pre (Lib.decDigits n.toNat) rest i hs hi hr
    refine (parse_pos s i n.toNat w hsz (by omega) R).mono fun e w' ⟨he, hw⟩ => ⟨?_, hw⟩
    rw [he]
    exact ret3 (by omega) (by rw [e1])

theorem text_len (f t : Int) (e : Bool) (f0 : -9223372036854775808 ≤ f) (f1 : f ≤ 9223372036854775807) (t0 : -9223372036854775808 ≤ t) (t1 : t ≤ 9223372036854775807) : (Num.text f t e).length ≤ 43 := by
  have h1 := Lib.itoa_length_le f f0 f1
  have h2 := Lib.itoa_length_le t t0 t1
  unfold Num.text
  cases e <;> simp <;> omega

/-- What the law asks of the text: the string, its length, its bytes at the colon and behind it. -/
theorem text_facts (s : ByteArray) (f t : Int) (e : Bool) (L : Nat) (hs : s.data.toList = Num.text f t e) (hL : (Lib.itoa f).length = L) :
    L < s.size ∧ (∀ h : L < s.size, s[L] = 58) ∧ (e = true → s.size = L + 2 ∧ ∀ h : L + 1 < s.size, s[L + 1] = 42) ∧ (e = false → s.size = L + 1 + (Lib.itoa t).length) := by
  have hsz : s.size = (Num.text f t e).length := by
    have := congrArg List.length hs
    simpa using this
  have hget : ∀ j (h : j < s.size), s.data.toList[j]? = some s[j] := fun j h => by
    have hj : j < s.data.toList.length := by simpa using h
    rw [List.getElem?_eq_getElem hj]; rfl
  have hlen : (Num.text f t e).length = L + 1 + (if e then [42] else Lib.itoa t : List UInt8).length := by unfold Num.text; simp [hL]; omega
  refine ⟨by omega, fun h => ?_, fun he => ?_, fun he => ?_⟩
  · have h1 := hget L h
    rw [hs, Num.text, List.getElem?_append_right (by omega), hL, Nat.sub_self] at h1
    simpa using h1.symm
  · subst he
    refine ⟨by rw [hsz, hlen]; simp, fun h => ?_⟩
    have h1 := hget (L + 1) h
    rw [hs, Num.text, List.getElem?_append_right (by omega), hL, show L + 1 - L = 1 by omega] at h1
    simpa using h1.symm
  · subst he
    rw [hsz, hlen]; simp

theorem retb {a b : Bool} (h : a = b) : Ending.returned (.bool a) = .returned (.bool b) := by rw [h]

set_option maxHeartbeats 2000000 in
theorem canon_walk (f t : Int) (e : Bool) (w : World)
    (f0 : -9223372036854775808 ≤ f) (f1 : f ≤ 9223372036854775807) (t0 : -9223372036854775808 ≤ t) (t1 : t ≤ 9223372036854775807)
    (htab : Lib.TabIs Tryd.prog w powName .u64 Lib.pow10Tab) :
    Calls Tryd.prog 3 #[.int .i64 f, .int .i64 t, .bool e] w fun r w' => r = .returned (.bool true) ∧ Below w.heap.size w w' := by
  have htb := Lib.tabIs_alloc htab (.cells #[.int .i64 f, .int .i64 t, .bool e] 23)
  clear htab
  have hlen := text_len f t e f0 f1 t0 t1
  obtain ⟨s, hsx⟩ : ∃ s : ByteArray, s = ⟨(Num.text f t e).toArray⟩ := ⟨_, rfl⟩
  have hs : s.data.toList = Num.text f t e := by rw [hsx]
  have hsz : s.size ≤ 43 := by rw [hsx]; simpa [ByteArray.size] using hlen
  obtain ⟨L, hL⟩ : ∃ L, (Lib.itoa f).length = L := ⟨_, rfl⟩
  obtain ⟨g1, g2, g3, g4⟩ := text_facts s f t e L hs hL
  have g2' := g2 g1
  have hcol : ((s[L].toNat : Int) != 58) = false := by rw [g2']; decide
  have HX : Hid (s = ⟨(Num.text f t e).toArray⟩) := hsx
  have HS : Hid (s.data.toList = Num.text f t e) := hs
  have HL : Hid ((Lib.itoa f).length = L) := hL
  clear hsx hs hL g2 g2' hlen
  cases e
  · have g4' := g4 rfl
    obtain ⟨M, hM⟩ : ∃ M, (Lib.itoa t).length = M := ⟨_, rfl⟩
    rw [hM] at g4'
    have HM : Hid ((Lib.itoa t).length = M) := hM
    have g5 : L + 1 + M ≤ s.size := by omega
    have g6 : s.size ≤ L + 1 + M := by omega
    clear g3 g4 g4' hM
    go_enter Tryd.func3, Tryd.ntmps3
    go_wp2_with fail
    refine (string_any f t false _ f0 f1 t0 t1 htb).mono ?_
    rintro r w1 ⟨rfl, hb1⟩
    rw [← HX.out]
    go_wp2_with fail
    refine (parse_itoa s [] (58 :: Lib.itoa t) 0 f _ (by rw [HS.out]; rfl) rfl (by omega) f0 f1 (by intro c hc; simp at hc; subst hc; decide)).mono ?_
    rintro r w2 ⟨rfl, rfl⟩
    rw [HL.out]
    go_wp2_with fail
    refine (parse_itoa s (Lib.itoa f ++ [58]) [] (L + 1) t _ (by rw [HS.out]; simp [Num.text]) (by simp [HL.out]) (by omega) t0 t1 (by intro c hc; simp at hc)).mono ?_
    rintro r w2 ⟨rfl, rfl⟩
    rw [HM.out]
    go_wp2
    go_ret
    exact ⟨retb (by simp; omega), ((Below.refl _ _).alloc (Nat.le_refl _) _).trans (hb1.mono (by simp))⟩
  · obtain ⟨g5, g6⟩ := g3 rfl
    have g7 : L + 1 < s.size := by omega
    have h42 : ((s[L + 1].toNat : Int) == 42) = true := by rw [g6 g7]; decide
    have g8 : s.size ≤ L + 2 := by omega
    clear g3 g4 g5 g6
    go_enter Tryd.func3, Tryd.ntmps3
    go_wp2_with fail
    refine (string_any f t true _ f0 f1 t0 t1 htb).mono ?_
    rintro r w1 ⟨rfl, hb1⟩
    rw [← HX.out]
    go_wp2_with fail
    refine (parse_itoa s [] (58 :: [42]) 0 f _ (by rw [HS.out]; rfl) rfl (by omega) f0 f1 (by intro c hc; simp at hc; subst hc; decide)).mono ?_
    rintro r w2 ⟨rfl, rfl⟩
    rw [HL.out]
    go_wp2
    go_ret
    exact ⟨rfl, ((Below.refl _ _).alloc (Nat.le_refl _) _).trans (hb1.mono (by simp))⟩
end Go.Proofs.Qxb6602942aDoor

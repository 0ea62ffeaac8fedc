/-
  THE PROOF OF 'Rows.FnValidIDMatchesAlphabetSaid': the frame by program (proof-skeleton.mjs), the walk by the contracts of Qxb6602954aWalks.lean.
-/
import Derived.Test.Qxb6602954aRows
import Derived.Test.Qxb6602954aWalks
import Derived.WalkKit
import Derived.ProofKit
import Derived.OpenShut
import Derived.ShutString
namespace Go.Proofs.Qxb6602954a.fnValidIDMatchesAlphabet
open Go.ChangeShapes Go.WideShapes Go.ChangeAt Go.RowKit
open Go.ChangeMaps (open_string shut_string)
set_option linter.unusedVariables false      -- a walk need not use every 'w<i>' (that an integer argument fits its kind)

theorem own : ownKnob Try.prog.godebug = none := by kernel_rfl

/-! ### STEP 1: THE WALK: the Go text returns true. 'Grown w w'': the world has at most new blocks (Derived/RowKit3.lean). Part the cases AHEAD of 'go_enter' where a test parts the walk; take each callee by a contract of your own. -/
theorem walk (a0 : ByteArray) (w0 : a0.size ≤ maxLen) (w : World) :
    Calls Try.prog 3 #[.string a0] w fun e w' => e = .returned (.bool true) ∧ Grown w w' := by
  unfold maxLen at w0
  have w0' : a0.size ≤ maxLen := by unfold maxLen; exact w0
  have HV : Hid (a0.size ≤ maxLen) := w0'
  clear w0'
  by_cases hbig : a0.size ≤ 1048576
  · by_cases h1 : 1 ≤ a0.size
    · by_cases h2 : a0.size ≤ 128
      · have hd2 : decide ((a0.size : Int) ≤ 128) = true := decide_eq_true (by omega)
        go_enter Try.func3, Try.ntmps3
        go_wp2
        go_loop [3, 4] (fun wv i => ∃ k : Nat, k ≤ a0.size ∧ wv = .bool true ∧ i = .int .i64 k ∧ okl (a0.data.toList.take k) = true) (fun _ i => a0.size - (intOf i).toNat)
        case atStart => exact ⟨0, Nat.zero_le _, rfl, rfl, rfl⟩
        case round =>
          obtain ⟨k, hk, rfl, rfl, hok⟩ := hrel
          have HK : Hid (okl (a0.data.toList.take k) = true) := hok
          clear hok
          by_cases hlt : k < a0.size
          · have hb0 : (a0[k].toNat : Int) ≤ 255 := by have := a0[k].toNat_lt; omega
            cases hc : okc (a0[k].toNat : Int)
            · have hv : validB a0 = false := by rw [validB, okl_bad a0 k hlt hc]; simp
              go_wp2_with (first | (go_at_call 7; refine (alpha_any _ _ (by omega) hb0).mono ?_; rintro e w' ⟨rfl, rfl⟩) | (go_at_call 8; refine (valid_any _ _ HV.out).mono ?_; rintro e w' ⟨rfl, rfl⟩))
              go_ret
              exact ⟨rfl, Grown.refl _⟩
            · go_wp2_with (first | (go_at_call 7; refine (alpha_any _ _ (by omega) hb0).mono ?_; rintro e w' ⟨rfl, rfl⟩) | (go_at_call 8; refine (valid_any _ _ HV.out).mono ?_; rintro e w' ⟨rfl, rfl⟩))
              go_round
              case rel => exact ⟨k + 1, by omega, rfl, by go_num, by rw [okl_snoc a0 k hlt, HK.out, hc]; rfl⟩
              case measure => simp [intOf]; omega
          · have hv : validB a0 = true := by
              have := HK.out
              rw [List.take_of_length_le (by rw [len_data]; omega)] at this
              rw [validB, this, decide_eq_true ⟨h1, h2⟩]; rfl
            go_wp2_with (first | (go_at_call 7; fail) | (go_at_call 8; refine (valid_any _ _ HV.out).mono ?_; rintro e w' ⟨rfl, rfl⟩))
            go_ret
            exact ⟨rfl, Grown.refl _⟩
      · have hv : validB a0 = false := by rw [validB, decide_eq_false (by omega)]; rfl
        have hd2 : decide ((a0.size : Int) ≤ 128) = false := decide_eq_false (by omega)
        go_enter Try.func3, Try.ntmps3
        go_wp2_with (first | (go_at_call 6; go_in) | (go_at_call 8; refine (valid_any _ _ HV.out).mono ?_; rintro e w' ⟨rfl, rfl⟩))
        go_ret
        exact ⟨rfl, Grown.refl _⟩
    · have hv : validB a0 = false := by rw [validB, decide_eq_false (by omega)]; rfl
      go_enter Try.func3, Try.ntmps3
      go_wp2_with (first | (go_at_call 6; go_in) | (go_at_call 8; refine (valid_any _ _ HV.out).mono ?_; rintro e w' ⟨rfl, rfl⟩))
      go_ret
      exact ⟨rfl, Grown.refl _⟩
  · go_enter Try.func3, Try.ntmps3
    go_wp2
    go_ret
    exact ⟨rfl, Grown.refl _⟩

/-! ### THE ROW's STEP: WRITTEN OUT: LEAVE IT -/
set_option maxRecDepth 100000 in
theorem lifted (os : Os) (started : os.Started) (H : Type) (enc : TypeId × Value → H) :
    ReturnsInHanded {} Try.checked os 3 .any (Rows.fnValidIDMatchesAlphabetSpec.pre6 enc Try.prog Try.f3 Rows.fnValidIDMatchesAlphabetRow.domain false) (Rows.fnValidIDMatchesAlphabetSpec.post enc Try.prog Try.f3 false true false false) := by
  refine returnsInHanded_of_change (C := Try.checked) own started (by kernel_rfl) Try.func3
    (ChangeSpec.witness6 (enc := enc) (C := Try.checked) false ⟨#[], #[.string ByteArray.empty], []⟩ 8 (by kernel_rfl) (by kernel_rfl) (by kernel_rfl) (by kernel_rfl)) ?_
  intro W base args ds gs before hval0 hW hcnd _
  have hval : ∀ (j : Nat) t v, Try.f3.params[j]? = some t → args[j]? = some v → Value.okWide Try.prog W .any base t v := hval0
  have hW' := hW
  obtain ⟨p, q, hA0, hV, rfl, hfz, hnd⟩ := hW
  have hA : DataW.TrodAll enc Try.prog W 0 (fun _ => true) true Try.f3.params.toList args.toList ds p := hA0
  rw [Try.params3] at hA hval
  obtain ⟨v0, vs0, d0, ds0, p0, q0, hargs, rfl, rfl, h0, r0⟩ := trodAll_cons hA
  obtain ⟨rfl, rfl, rfl⟩ := trodAll_nil r0
  obtain rfl : args = #[v0] := by cases args; simp_all
  obtain ⟨rfl, rfl⟩ := trodVars_none hV
  obtain ⟨a0, rfl, rfl, rfl, w0⟩ := open_string Try.underlying9 (hval 0 9 v0 rfl rfl) h0
  clear hA0 hval0
  simp only [List.append_nil] at hW'
  refine (walk a0 w0 W).mono fun e W' ⟨he, hg⟩ => ?_
  subst he
  exact ⟨_, rfl, post_of_same (pa := []) (pv := []) hW' (fun _ _ _ => (trodAll_cons_mk (shut_bool Try.underlying4 _) trodAll_mk0)) (fun sp _ => (trodAll_cons_mk (shut_string Try.underlying9 w0) trodAll_mk0)) (fun _ _ => rfl) rfl
    (hg.frame _) hg.2.1 (ok_one (by kernel_rfl) rfl (okWide_bool_mk Try.underlying4 _))⟩

theorem over : Rows.fnValidIDMatchesAlphabetRow.holds Try.pinned (OpenSpec.ofChange Rows.fnValidIDMatchesAlphabetSpec) :=
  OpenClaim.holds_of_wide 3 Try.f3 rfl rfl rfl rfl rfl rfl rfl ⟨rfl, rfl, rfl, rfl, rfl⟩ rfl rfl rfl rfl rfl (by kernel_rfl) Try.func3 (by kernel_rfl)
    (of_decide_eq_true (by kernel_rfl)) (by unfold Func.isWrapper; first | (rw [if_pos (by decide +kernel)]; kernel_rfl) | (rw [if_neg (by decide +kernel)]; exact ⟨rfl, rfl⟩))
    (fun os started H enc _ => lifted os started H enc)

/-- ████ THE STATEMENT ████ -/
theorem proved : Rows.FnValidIDMatchesAlphabetSaid :=
  over
end Go.Proofs.Qxb6602954a.fnValidIDMatchesAlphabet

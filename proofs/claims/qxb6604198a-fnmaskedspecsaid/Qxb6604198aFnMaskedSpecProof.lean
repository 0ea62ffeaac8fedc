/-
  THE PROOF OF 'Rows.FnMaskedSpecSaid': the frame after the guide's skeleton for a law over slices ('Below'), at slices of structs ('open_slice', 'trod_struct'); the walk: Qxb6604198aLaw.lean.
-/
import Derived.Test.Qxb6604198aRows
import Derived.Test.Qxb6604198aLaw
import Derived.WalkKit
import Derived.ProofKit
import Derived.OpenShut
import Derived.ShutString
import Derived.ChangeOld
import Derived.Below
import Derived.Deep.Slices
namespace Go.Proofs.Qxb6604198a.fnMaskedSpec
open Go.ChangeShapes Go.WideShapes Go.ChangeAt Go.RowKit Go.Deep
set_option linter.unusedVariables false

theorem own : ownKnob Try.prog.godebug = none := by kernel_rfl
theorem laidOut : laidOutB Try.prog = true := by kernel_rfl
theorem cells40 : Try.prog.cellsOf 40 = 4 := by kernel_rfl
theorem cells47 : Try.prog.cellsOf 47 = 5 := by kernel_rfl
theorem cells36 : Try.prog.cellsOf 36 = 1 := by kernel_rfl
theorem cells9 : Try.prog.cellsOf 9 = 1 := by kernel_rfl

section
variable {H : Type} {enc : TypeId × Value → H} {W : World} {sp : Nat → Bool} {held : Bool} {fuel : Nat} {a : Option Addr} {len cap : Nat} {x : DataW H × List MemPlace}

theorem key_open {fuel : Nat} {cs : List Value} {y : DataW H × List MemPlace} (h : DataW.trod enc Try.prog W 0 sp held fuel 40 cs = some y) :
    ∃ q : Int × Int × ByteArray × ByteArray, cs = [.int .u32 q.1, .int .u32 q.2.1, .string q.2.2.1, .string q.2.2.2] ∧ q.2.2.1.size ≤ maxLen ∧ q.2.2.2.size ≤ maxLen := by
  obtain ⟨xs, k, _, _, hl, hxl, hf⟩ := DataW.trod_struct Try.underlying40 h
  rw [cells40] at hl
  match xs, hxl, cs, hl with
  | [y0, y1, y2, y3], _, [v0, v1, v2, v3], _ =>
    have g0 := hf 0 _ rfl
    have g1 := hf 1 _ rfl
    have g2 := hf 2 _ rfl
    have g3 := hf 3 _ rfl
    simp [cells36, cells9] at g0 g1 g2 g3
    obtain ⟨o, e0, _, _⟩ := DataW.trod_int Try.underlying36 g0
    obtain ⟨m, e1, _, _⟩ := DataW.trod_int Try.underlying36 g1
    obtain ⟨k, e2, _, z2⟩ := DataW.trod_string Try.underlying9 g2
    obtain ⟨g, e3, _, z3⟩ := DataW.trod_string Try.underlying9 g3
    simp at e0 e1 e2 e3
    exact ⟨(o, m, k, g), by rw [e0, e1, e2, e3], z2, z3⟩

theorem rule_open {fuel : Nat} {cs : List Value} {y : DataW H × List MemPlace} (h : DataW.trod enc Try.prog W 0 sp held fuel 47 cs = some y) :
    ∃ q : Nat → ByteArray, cs = [.string (q 0), .string (q 1), .string (q 2), .string (q 3), .string (q 4)] ∧ ∀ f, f < 5 → (q f).size ≤ maxLen := by
  obtain ⟨xs, k, _, _, hl, hxl, hf⟩ := DataW.trod_struct Try.underlying47 h
  rw [cells47] at hl
  match xs, hxl, cs, hl with
  | [y0, y1, y2, y3, y4], _, [v0, v1, v2, v3, v4], _ =>
    have g0 := hf 0 _ rfl
    have g1 := hf 1 _ rfl
    have g2 := hf 2 _ rfl
    have g3 := hf 3 _ rfl
    have g4 := hf 4 _ rfl
    simp [cells9] at g0 g1 g2 g3 g4
    obtain ⟨r0, e0, _, z0⟩ := DataW.trod_string Try.underlying9 g0
    obtain ⟨r1, e1, _, z1⟩ := DataW.trod_string Try.underlying9 g1
    obtain ⟨r2, e2, _, z2⟩ := DataW.trod_string Try.underlying9 g2
    obtain ⟨r3, e3, _, z3⟩ := DataW.trod_string Try.underlying9 g3
    obtain ⟨r4, e4, _, z4⟩ := DataW.trod_string Try.underlying9 g4
    simp at e0 e1 e2 e3 e4
    refine ⟨fun f => if f = 0 then r0 else if f = 1 then r1 else if f = 2 then r2 else if f = 3 then r3 else r4, by rw [e0, e1, e2, e3, e4]; rfl, fun f hf => ?_⟩
    rcases (by omega : f = 0 ∨ f = 1 ∨ f = 2 ∨ f = 3 ∨ f = 4) with rfl | rfl | rfl | rfl | rfl
    · exact z0
    · exact z1
    · exact z2
    · exact z3
    · exact z4

theorem keys_open (h : DataW.trod enc Try.prog W 0 sp held fuel 22 [.slice a len cap] = some x) :
    ∃ o m k g, Cells W a len 4 (KC o m k g) ∧ len ≤ maxLen ∧ (∀ j, j < len → (k j).size ≤ maxLen ∧ (g j).size ≤ maxLen) ∧ (a = none → len = 0) := by
  rcases open_slice Try.underlying22 h with ⟨hcs, _⟩ | ⟨y, l, c, mm, n, D, Pl, hcs, _, hl, hm, hmm, _, hx⟩
  · simp at hcs
    obtain ⟨rfl, rfl, rfl⟩ := hcs
    exact ⟨fun _ => 0, fun _ => 0, fun _ => ByteArray.empty, fun _ => ByteArray.empty, Or.inl rfl, Nat.zero_le _, fun j hj => by omega, fun _ => rfl⟩
  · simp at hcs
    obtain ⟨rfl, rfl, rfl⟩ := hcs
    have hlen : len ≤ mm := by rw [hmm]; split <;> omega
    have each : ∀ i, i < len → ∃ q : Int × Int × ByteArray × ByteArray, (W.cell? (y.add (i * 4)) = some (.int .u32 q.1) ∧ W.cell? (y.add (i * 4 + 1)) = some (.int .u32 q.2.1) ∧ W.cell? (y.add (i * 4 + 2)) = some (.string q.2.2.1) ∧ W.cell? (y.add (i * 4 + 3)) = some (.string q.2.2.2)) ∧ q.2.2.1.size ≤ maxLen ∧ q.2.2.2.size ≤ maxLen := by
      intro i hi
      obtain ⟨cs', h1, h2⟩ := hx i (by omega)
      rw [cells40] at h1
      obtain ⟨_, _, hcell⟩ := World.cells?_some h1
      obtain ⟨q, rfl, z2, z3⟩ := key_open h2
      have k0 := hcell 0 (by omega)
      have k1 := hcell 1 (by omega)
      have k2 := hcell 2 (by omega)
      have k3 := hcell 3 (by omega)
      rw [add_add] at k0 k1 k2 k3
      exact ⟨q, ⟨by simpa using k0, by simpa using k1, by simpa using k2, by simpa using k3⟩, z2, z3⟩
    obtain ⟨Q, hQ⟩ := choose_lt each
    refine ⟨fun j => (Q j).1, fun j => (Q j).2.1, fun j => (Q j).2.2.1, fun j => (Q j).2.2.2, ?_, by omega, fun j hj => (hQ j hj).2, fun h => by cases h⟩
    by_cases h0 : len = 0
    · exact Or.inl h0
    · right
      obtain ⟨b, off, spot⟩ := y
      have hspot : spot = none := by simpa [Addr.add] using World.cell?_spot (hQ 0 (by omega)).1.1
      subst hspot
      refine ⟨b, off, rfl, fun i hi => ?_⟩
      have hj : i / 4 < len := by omega
      obtain ⟨k0, k1, k2, k3⟩ := (hQ (i / 4) hj).1
      simp only [Go.WideShapes.add_plain] at k0 k1 k2 k3
      rcases (by omega : i = i / 4 * 4 ∨ i = i / 4 * 4 + 1 ∨ i = i / 4 * 4 + 2 ∨ i = i / 4 * 4 + 3) with e | e | e | e
      · rw [e, KC0]; exact k0
      · rw [e, KC1]; exact k1
      · rw [e, KC2]; exact k2
      · rw [e, KC3]; exact k3

theorem rules_open (h : DataW.trod enc Try.prog W 0 sp held fuel 23 [.slice a len cap] = some x) :
    ∃ r, Cells W a len 5 (RC r) ∧ len ≤ maxLen ∧ (∀ f j, f < 5 → j < len → (r f j).size ≤ maxLen) ∧ (a = none → len = 0) := by
  rcases open_slice Try.underlying23 h with ⟨hcs, _⟩ | ⟨y, l, c, mm, n, D, Pl, hcs, _, hl, hm, hmm, _, hx⟩
  · simp at hcs
    obtain ⟨rfl, rfl, rfl⟩ := hcs
    exact ⟨fun _ _ => ByteArray.empty, Or.inl rfl, Nat.zero_le _, fun f j _ hj => by omega, fun _ => rfl⟩
  · simp at hcs
    obtain ⟨rfl, rfl, rfl⟩ := hcs
    have hlen : len ≤ mm := by rw [hmm]; split <;> omega
    have each : ∀ i, i < len → ∃ q : Nat → ByteArray, (∀ f, f < 5 → W.cell? (y.add (i * 5 + f)) = some (.string (q f))) ∧ ∀ f, f < 5 → (q f).size ≤ maxLen := by
      intro i hi
      obtain ⟨cs', h1, h2⟩ := hx i (by omega)
      rw [cells47] at h1
      obtain ⟨_, _, hcell⟩ := World.cells?_some h1
      obtain ⟨q, rfl, z⟩ := rule_open h2
      refine ⟨q, fun f hf => ?_, z⟩
      have kf := hcell f hf
      rw [add_add] at kf
      rw [kf]
      rcases (by omega : f = 0 ∨ f = 1 ∨ f = 2 ∨ f = 3 ∨ f = 4) with rfl | rfl | rfl | rfl | rfl <;> rfl
    obtain ⟨Q, hQ⟩ := choose_lt each
    refine ⟨fun f j => Q j f, ?_, by omega, fun f j hf hj => (hQ j hj).2 f hf, fun h => by cases h⟩
    by_cases h0 : len = 0
    · exact Or.inl h0
    · right
      obtain ⟨b, off, spot⟩ := y
      have hspot : spot = none := by simpa [Addr.add] using World.cell?_spot ((hQ 0 (by omega)).1 0 (by omega))
      subst hspot
      refine ⟨b, off, rfl, fun i hi => ?_⟩
      have hj : i / 5 < len := by omega
      have kf := (hQ (i / 5) hj).1 (i % 5) (by omega)
      rw [show i / 5 * 5 + i % 5 = i by omega, Go.WideShapes.add_plain] at kf
      exact kf
end

set_option maxRecDepth 100000 in
theorem lifted (os : Os) (started : os.Started) (H : Type) (enc : TypeId × Value → H) :
    ReturnsInHanded {} Try.checked os 3 .any (Rows.fnMaskedSpecSpec.pre6 enc Try.prog Try.f3 Rows.fnMaskedSpecRow.domain false) (Rows.fnMaskedSpecSpec.post enc Try.prog Try.f3 false true false false) := by
  refine returnsInHanded_of_change (C := Try.checked) own started (by kernel_rfl) Try.func3
    (ChangeSpec.witness6 (enc := enc) (C := Try.checked) false ⟨#[], #[.slice none 0 0, .bool false, .slice none 0 0], []⟩ 8 (by kernel_rfl) (by kernel_rfl) (by kernel_rfl) (by kernel_rfl)) ?_
  intro W base args ds gs before hval0 hW hcnd _
  have hval : ∀ (j : Nat) t v, Try.f3.params[j]? = some t → args[j]? = some v → Value.okWide Try.prog W .any base t v := hval0
  have hW' := hW
  obtain ⟨p, q, hA0, hV, rfl, hfz, hnd⟩ := hW
  have hA : DataW.TrodAll enc Try.prog W 0 (fun _ => true) true Try.f3.params.toList args.toList ds p := hA0
  rw [Try.params3] at hA hval
  obtain ⟨v0, vs0, d0, ds0, p0, q0, hargs, rfl, rfl, h0, r0⟩ := trodAll_cons hA
  obtain ⟨v1, vs1, d1, ds1, p1, q1, rfl, rfl, rfl, h1, r1⟩ := trodAll_cons r0
  obtain ⟨v2, vs2, d2, ds2, p2, q2, rfl, rfl, rfl, h2, r2⟩ := trodAll_cons r1
  obtain ⟨rfl, rfl, rfl⟩ := trodAll_nil r2
  obtain rfl : args = #[v0, v1, v2] := by cases args; simp_all
  obtain ⟨rfl, rfl⟩ := trodVars_none hV
  obtain ⟨a0, len0, cap0, rfl⟩ := okWide_slice Try.underlying22 (hval 0 22 v0 rfl rfl)
  have k0 := h0
  have lt0 : ∀ x ∈ p0, x.block < W.heap.size := by obtain ⟨m, hm⟩ := k0; exact DataW.trod_lt m _ _ _ hm
  obtain ⟨o, m, k, g, w0, e0, s0, z0⟩ : ∃ o m k g, Cells W a0 len0 4 (KC o m k g) ∧ len0 ≤ maxLen ∧ (∀ j, j < len0 → (k j).size ≤ maxLen ∧ (g j).size ≤ maxLen) ∧ (a0 = none → len0 = 0) := by
    obtain ⟨fuel, hf⟩ := h0
    exact keys_open hf
  obtain ⟨a1, rfl, rfl, rfl⟩ := open_bool Try.underlying4 (hval 1 4 v1 rfl rfl) h1
  obtain ⟨a2, len2, cap2, rfl⟩ := okWide_slice Try.underlying23 (hval 2 23 v2 rfl rfl)
  have k2 := h2
  have lt2 : ∀ x ∈ p2, x.block < W.heap.size := by obtain ⟨m, hm⟩ := k2; exact DataW.trod_lt m _ _ _ hm
  obtain ⟨r, w2, e2, s2, z2⟩ : ∃ r, Cells W a2 len2 5 (RC r) ∧ len2 ≤ maxLen ∧ (∀ f j, f < 5 → j < len2 → (r f j).size ≤ maxLen) ∧ (a2 = none → len2 = 0) := by
    obtain ⟨fuel, hf⟩ := h2
    exact rules_open hf
  clear hA0 hval0
  refine (law_any a0 len0 cap0 o m k g a1 a2 len2 cap2 r W w0 e0 s0 z0 w2 e2 s2 z2).mono fun e W' ⟨he, bel⟩ => ?_
  subst he
  exact ⟨_, rfl, _, _, _, [], _, [], hW', trodAll_mk1 (shut_bool Try.underlying4 _), (trodAll_cons_mk (Below.trod laidOut (by kernel_rfl) (of_decide_eq_true (by kernel_rfl)) k0 bel lt0) (trodAll_cons_mk (shut_bool Try.underlying4 _) (trodAll_cons_mk (Below.trod laidOut (by kernel_rfl) (of_decide_eq_true (by kernel_rfl)) k2 bel lt2) trodAll_mk0))), rfl, bel.frame _, fun h => by cases h⟩

theorem over : Rows.fnMaskedSpecRow.holds Try.pinned (OpenSpec.ofChange Rows.fnMaskedSpecSpec) :=
  OpenClaim.holds_of_wide 3 Try.f3 rfl rfl rfl rfl rfl rfl rfl ⟨rfl, rfl, rfl, rfl, rfl⟩ rfl rfl rfl rfl rfl (by kernel_rfl) Try.func3 (by kernel_rfl)
    (of_decide_eq_true (by kernel_rfl)) (by unfold Func.isWrapper; first | (rw [if_pos (by decide +kernel)]; kernel_rfl) | (rw [if_neg (by decide +kernel)]; exact ⟨rfl, rfl⟩))
    (fun os started H enc _ => lifted os started H enc)

/-- ████ THE STATEMENT ████ -/
theorem proved : Rows.FnMaskedSpecSaid := over
end Go.Proofs.Qxb6604198a.fnMaskedSpec

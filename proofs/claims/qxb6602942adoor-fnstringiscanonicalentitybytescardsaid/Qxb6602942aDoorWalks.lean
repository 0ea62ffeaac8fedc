import Derived.Test.Qxb6602942aDoorRows
import Derived.Test.Qxb6602942aDoorShelf
import Derived.Test.Qxb6602942aDoorNum
import Derived.WalkKit
import Derived.ProofKit
import Derived.WalkSpells
import Derived.WalkLawsBesides
import Derived.Lib.AppendIntMem
import Derived.Lib.ItoaLen
namespace Go.Proofs.Qxb6602942aDoor
open Go.RowKit
set_option linter.unusedVariables false

/-- The table's name, out of the given row. -/
def powName : String := Rows.fnStringIsCanonicalEntityBytesRow.named.headD default

theorem bcell {W w1 : World} (hb : Below W.heap.size W w1) : (∀ b o, b < W.heap.size → w1.cell? ⟨b, o, none⟩ = W.cell? ⟨b, o, none⟩) ∧ (∀ b o, b < W.heap.size → w1.frozen? ⟨b, o, none⟩ = W.frozen? ⟨b, o, none⟩) :=
  ⟨fun b o h => hb.cell (p := ⟨b, o, none⟩) h, fun b o h => hb.frozen (p := ⟨b, o, none⟩) h⟩

theorem fmt_any (n : Int) (h0 : -9223372036854775808 ≤ n) (h1 : n ≤ 9223372036854775807) (w : World) (htab : Lib.TabIs Tryd.prog w powName .u64 Lib.pow10Tab) :
    Calls Tryd.prog 7 #[.int .i64 n, .int .i64 10] w fun e w' => e = .returned (.string ⟨(Lib.itoa n).toArray⟩) ∧ Below w.heap.size w w' :=
  (Any.strconv_FormatInt_10 Tryd.laysM173 n h0 h1 w htab).mono fun e w' ⟨he, k, os, hw⟩ => ⟨he, by rw [hw]; exact Lib.below_grow _ w (Nat.le_refl _) k os⟩

theorem rets {a b : ByteArray} (h : a = b) : Ending.returned (.string a) = .returned (.string b) := by rw [h]
theorem join3 (a b : List UInt8) : ((⟨a.toArray⟩ : ByteArray) ++ ⟨#[58]⟩ ++ ⟨b.toArray⟩) = ⟨(a ++ 58 :: b).toArray⟩ := by
  apply ByteArray.ext
  simp [ByteArray.data_append]

set_option maxHeartbeats 1000000 in
theorem string_end (f t : Int) (w : World) (f0 : -9223372036854775808 ≤ f) (f1 : f ≤ 9223372036854775807) 
    (htab : Lib.TabIs Tryd.prog w powName .u64 Lib.pow10Tab) :
    Calls Tryd.prog 5 #[.agg #[.int .i64 f, .int .i64 t, .bool true]] w fun r w' => r = .returned (.string ⟨(Num.text f t true).toArray⟩) ∧ Below w.heap.size w w' := by
  have ht := Lib.tabIs_alloc htab (.cells #[.int .i64 f, .int .i64 t, .bool true] 23)
  have hl := Lib.itoa_length_le f f0 f1
  go_enter Tryd.func5, Tryd.ntmps5
  go_wp2_with (go_at_call 7; refine (fmt_any _ f0 f1 _ ht).mono ?_; rintro e w1 ⟨rfl, hb1⟩)
  go_ret
  exact ⟨rets (join3 (Lib.itoa f) [42]), ((Below.refl _ _).alloc (Nat.le_refl _) _).trans (hb1.mono (by simp))⟩

set_option maxHeartbeats 1000000 in
theorem string_num (f t : Int) (w : World) (f0 : -9223372036854775808 ≤ f) (f1 : f ≤ 9223372036854775807) (t0 : -9223372036854775808 ≤ t) (t1 : t ≤ 9223372036854775807)
    (htab : Lib.TabIs Tryd.prog w powName .u64 Lib.pow10Tab) :
    Calls Tryd.prog 5 #[.agg #[.int .i64 f, .int .i64 t, .bool false]] w fun r w' => r = .returned (.string ⟨(Num.text f t false).toArray⟩) ∧ Below w.heap.size w w' := by
  have ht := Lib.tabIs_alloc htab (.cells #[.int .i64 f, .int .i64 t, .bool false] 23)
  have hl := Lib.itoa_length_le f f0 f1
  have hl' := Lib.itoa_length_le t t0 t1
  go_enter Tryd.func5, Tryd.ntmps5
  go_wp2_with fail
  refine (fmt_any _ t0 t1 _ ht).mono ?_
  rintro e w1 ⟨rfl, hb1⟩
  have ht1 := Lib.tabBelow_of_tabIs ht w1 hb1
  obtain ⟨hc, hf⟩ := bcell hb1
  have hc0 : w1.cell? ⟨w.heap.size, 0, none⟩ = some (.int .i64 f) := by rw [hc _ _ (by simp)]; simp
  clear hc hf
  go_wp2_with fail
  refine (fmt_any _ f0 f1 _ ht1).mono ?_
  rintro e w2 ⟨rfl, hb2⟩
  go_wp2
  go_ret
  exact ⟨rets (join3 (Lib.itoa f) (Lib.itoa t)), (((Below.refl _ _).alloc (Nat.le_refl _) _).trans (hb1.mono (by simp))).trans (hb2.mono (by have := hb1.size; simp at this; omega))⟩

theorem string_any (f t : Int) (e : Bool) (w : World) (f0 : -9223372036854775808 ≤ f) (f1 : f ≤ 9223372036854775807) (t0 : -9223372036854775808 ≤ t) (t1 : t ≤ 9223372036854775807)
    (htab : Lib.TabIs Tryd.prog w powName .u64 Lib.pow10Tab) :
    Calls Tryd.prog 5 #[.agg #[.int .i64 f, .int .i64 t, .bool e]] w fun r w' => r = .returned (.string ⟨(Num.text f t e).toArray⟩) ∧ Below w.heap.size w w' := by
  cases e
  · exact string_num f t w f0 f1 t0 t1 htab
  · exact string_end f t w f0 f1 htab
end Go.Proofs.Qxb6602942aDoor

/-
  DERIVED: THE SHELF's CONTRACTS AT THIS DUMP, IN PLAIN WORDS (tools/lay-plain.mjs out of 'Qxb6602954aShelf.lean', which tools/lay-shelf.mjs wrote): THE SAME DECLARATIONS UNDER THE SAME NAMES: 'import', 'namespace', 'open', 'def', 'theorem' AND NOTHING ELSE: no command of the shelf's: FOR A HAND-IN. Each laying: the table of numbers ('.._ren') and one theorem, a field a fact of the dump's own or the kernel's comparison; each contract: ONE APPLICATION.
-/
import Derived.Shelf.Spec.SearchS
import Derived.Test.Qxb6602954aProg
namespace Go.Proofs
open Go.Shelf
def Try.lays26_ren : Go.Shelf.Ren := ⟨fun | 26 => 13 | 33 => 14 | 34 => 15 | 38 => 16 | n => n, fun | 24 => 25 | 9 => 9 | 3 => 3 | 4 => 4 | 40 => 32 | 0 => 0 | n => n, fun | n => n⟩
theorem Try.lays26 : Go.Proofs.Lays2.n26 Try.prog Try.lays26_ren := {
  mixed := by kernel_rfl
  f26 := Try.func13.trans (congrArg some (by kernel_rfl))
  f33 := Try.func14.trans (congrArg some (by kernel_rfl))
  f34 := Try.func15.trans (congrArg some (by kernel_rfl))
  f38 := Try.func16.trans (congrArg some (by kernel_rfl))
  t0 := Try.underlying0
  a0 := Try.isAgg0
  z0 := Try.sizeOf0
  v0 := Try.zeroValue0
  t3 := Try.underlying3
  a3 := Try.isAgg3
  z3 := Try.sizeOf3
  v3 := Try.zeroValue3
  t4 := Try.underlying4
  a4 := Try.isAgg4
  z4 := Try.sizeOf4
  v4 := Try.zeroValue4
  t9 := Try.underlying9
  a9 := Try.isAgg9
  z9 := Try.sizeOf9
  v9 := Try.zeroValue9
  t24 := Try.underlying25
  a24 := Try.isAgg25
  z24 := Try.sizeOf25
  v24 := Try.zeroValue25
  t40 := Try.underlying32
  a40 := Try.isAgg32
  z40 := Try.sizeOf32
  v40 := Try.zeroValue32 }
theorem Try.slices_BinarySearch_string (b off n c : Nat) (Sx : Nat → ByteArray) (x : ByteArray) (w : World) (hbig : n < 4611686018427387904) (hc : ∀ j, j < n → w.cell? ⟨b, off + j, none⟩ = some (.string (Sx j))) :
    Calls Try.prog 13 #[.slice (some ⟨b, off, none⟩) n c, .string x] w fun e w' =>
      e = .returned (.tuple #[.int .i64 (Lib.bsGo (fun t => Op.bytesLess (Sx t).toList x.toList) n 0 n : Nat), .bool (decide (Lib.bsGo (fun t => Op.bytesLess (Sx t).toList x.toList) n 0 n < n ∧ Sx (Lib.bsGo (fun t => Op.bytesLess (Sx t).toList x.toList) n 0 n) = x))]) ∧ ∃ q, w' = w.drewN q := Any2.slices_BinarySearch_string Try.lays26 b off n c Sx x w hbig hc
theorem Try.slices_BinarySearch_string_empty (a : Option Addr) (c : Nat) (x : ByteArray) (w : World) :
    Calls Try.prog 13 #[.slice a 0 c, .string x] w fun e w' => e = .returned (.tuple #[.int .i64 0, .bool false]) ∧ w' = w := Any2.slices_BinarySearch_string_empty Try.lays26 a c x w
end Go.Proofs

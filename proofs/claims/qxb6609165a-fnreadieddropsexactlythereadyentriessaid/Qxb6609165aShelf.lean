/-
  Contracts of CompareString and Compare at this program, laid by the kit's own tools (lay-shelf, then lay-plain).
-/
import Derived.Shelf.Small.Strs
import Derived.Test.Qxb6609165aProg
namespace Go.Proofs
open Go.Shelf
def Try.lays213_ren : Go.Shelf.Ren := ⟨fun | 213 => 58 | 265 => 65 | n => n, fun | 9 => 9 | 3 => 3 | n => n, fun | n => n⟩
theorem Try.lays213 : Go.Proofs.Lays.n213 Try.prog Try.lays213_ren := {
  mixed := by kernel_rfl
  f213 := Try.func58.trans (congrArg some (by kernel_rfl))
  f265 := Try.func65.trans (congrArg some (by kernel_rfl))
  t3 := Try.underlying3
  a3 := Try.isAgg3
  z3 := Try.sizeOf3
  v3 := Try.zeroValue3
  t9 := Try.underlying9
  a9 := Try.isAgg9
  z9 := Try.sizeOf9
  v9 := Try.zeroValue9 }
open Go.RowKit in
theorem Try.bytealg_CompareString (a b : ByteArray) (w : World) :
    Calls Try.prog 58 #[.string a, .string b] w fun e w' => e = .returned (.int .i64 (Lib.compareBytes a.data.toList b.data.toList)) ∧ w' = w := Any.bytealg_CompareString Try.lays213 a b w
def Try.lays106_ren : Go.Shelf.Ren := ⟨fun | 106 => 46 | 213 => 58 | 265 => 65 | n => n, fun | 9 => 9 | 3 => 3 | n => n, fun | n => n⟩
theorem Try.lays106 : Go.Proofs.Lays.n106 Try.prog Try.lays106_ren := {
  mixed := by kernel_rfl
  f106 := Try.func46.trans (congrArg some (by kernel_rfl))
  f213 := Try.func58.trans (congrArg some (by kernel_rfl))
  f265 := Try.func65.trans (congrArg some (by kernel_rfl))
  t3 := Try.underlying3
  a3 := Try.isAgg3
  z3 := Try.sizeOf3
  v3 := Try.zeroValue3
  t9 := Try.underlying9
  a9 := Try.isAgg9
  z9 := Try.sizeOf9
  v9 := Try.zeroValue9 }
open Go.RowKit in
theorem Try.strings_Compare (a b : ByteArray) (w : World) :
    Calls Try.prog 46 #[.string a, .string b] w fun e w' => e = .returned (.int .i64 (Lib.compareBytes a.data.toList b.data.toList)) ∧ w' = w := Any.strings_Compare Try.lays106 a b w
end Go.Proofs

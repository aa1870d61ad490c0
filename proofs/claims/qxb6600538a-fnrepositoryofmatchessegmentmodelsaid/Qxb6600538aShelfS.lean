/- strings.TrimPrefix and strings.LastIndex at this dump: the shelf's contracts, laid by the shelf's own tool, in plain words. -/
import Derived.Shelf.Strings.LastIndexAll
import Derived.Shelf.Strings.Prefix
import Derived.Test.Qxb6600538aProg
namespace Go.Proofs
open Go.Shelf
def Try.lays148_ren : Go.Shelf.Ren := ⟨fun | 148 => 21 | 222 => 24 | 223 => 25 | 269 => 28 | n => n, fun | 9 => 9 | 3 => 3 | 4 => 4 | 5 => 5 | 146 => 42 | 51 => 41 | 46 => 44 | n => n, fun | n => n⟩
theorem Try.lays148 : Go.Proofs.Lays.n148 Try.prog Try.lays148_ren := {
  mixed := by kernel_rfl
  f148 := Try.func21.trans (congrArg some (by kernel_rfl))
  f222 := Try.func24.trans (congrArg some (by kernel_rfl))
  f223 := Try.func25.trans (congrArg some (by kernel_rfl))
  f269 := Try.func28.trans (congrArg some (by kernel_rfl))
  t3 := Try.underlying3
  a3 := Try.isAgg3
  z3 := Try.sizeOf3
  v3 := Try.zeroValue3
  t4 := Try.underlying4
  a4 := Try.isAgg4
  z4 := Try.sizeOf4
  v4 := Try.zeroValue4
  t5 := Try.underlying5
  a5 := Try.isAgg5
  z5 := Try.sizeOf5
  v5 := Try.zeroValue5
  t9 := Try.underlying9
  a9 := Try.isAgg9
  z9 := Try.sizeOf9
  v9 := Try.zeroValue9
  t46 := Try.underlying44
  a46 := Try.isAgg44
  z46 := Try.sizeOf44
  v46 := Try.zeroValue44
  t51 := Try.underlying41
  a51 := Try.isAgg41
  z51 := Try.sizeOf41
  v51 := Try.zeroValue41
  t146 := Try.underlying42
  a146 := Try.isAgg42
  z146 := Try.sizeOf42
  v146 := Try.zeroValue42 }
open Go.RowKit Go.Lib in
theorem Try.strings_LastIndex (s sub : ByteArray) (hs : s.size < 4611686018427387904) (w : World) :
    Calls Try.prog 21 #[.string s, .string sub] w fun e w' => e = .returned (.int .i64 (Lib.lastIndex s.data.toList sub.data.toList)) ∧ w' = w := Any.strings_LastIndex Try.lays148 s sub hs w
open Go.RowKit Go.Lib in
theorem Try.strings_LastIndex_one (s sub : ByteArray) (h1 : sub.size = 1) (hs : s.size < 4611686018427387904) (w : World) :
    Calls Try.prog 21 #[.string s, .string sub] w fun e w' => e = .returned (.int .i64 (Lib.lastIndexByte s ((sub[0]'(by omega)).toNat : Int))) ∧ w' = w := Any.strings_LastIndex_one Try.lays148 s sub h1 hs w
def Try.lays101_ren : Go.Shelf.Ren := ⟨fun | 101 => 20 | 208 => 23 | 206 => 27 | n => n, fun | 9 => 9 | 4 => 4 | 3 => 3 | n => n, fun | n => n⟩
theorem Try.lays101 : Go.Proofs.Lays.n101 Try.prog Try.lays101_ren := {
  mixed := by kernel_rfl
  f101 := Try.func20.trans (congrArg some (by kernel_rfl))
  f206 := Try.func27.trans (congrArg some (by kernel_rfl))
  f208 := Try.func23.trans (congrArg some (by kernel_rfl))
  t3 := Try.underlying3
  a3 := Try.isAgg3
  z3 := Try.sizeOf3
  v3 := Try.zeroValue3
  t4 := Try.underlying4
  a4 := Try.isAgg4
  z4 := Try.sizeOf4
  v4 := Try.zeroValue4
  t9 := Try.underlying9
  a9 := Try.isAgg9
  z9 := Try.sizeOf9
  v9 := Try.zeroValue9 }
open Go.RowKit Go.Lib in
theorem Try.strings_TrimPrefix (s p : ByteArray) (w : World) :
    Calls Try.prog 20 #[.string s, .string p] w fun e w' => e = .returned (.string ⟨(Lib.trimPrefix s.data.toList p.data.toList).toArray⟩) ∧ w' = w := Any.strings_TrimPrefix Try.lays101 s p w
end Go.Proofs

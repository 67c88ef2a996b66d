/-
  THE SHELF's CONTRACTS AT THIS DUMP, as the kit's tools lay-shelf and lay-plain write them (cut down to those that are used).
-/
import Derived.Shelf.Strings.Search2
import Derived.Test.Qxb6605283aProg
namespace Go.Proofs.Qxb6605283a
open Go.Shelf
def Try.lays219_ren : Go.Shelf.Ren := ⟨fun | 219 => 23 | 217 => 24 | 225 => 25 | 224 => 26 | 267 => 27 | 266 => 28 | 314 => 29 | n => n, fun | 9 => 9 | 3 => 3 | 4 => 4 | 5 => 5 | 46 => 27 | 146 => 49 | 51 => 48 | n => n, fun | 1 => 0 | n => n⟩
theorem Try.lays219 : Go.Proofs.Lays.n219 Try.prog Try.lays219_ren := {
  mixed := by kernel_rfl
  f217 := Try.func24.trans (congrArg some (by kernel_rfl))
  f219 := Try.func23.trans (congrArg some (by kernel_rfl))
  f224 := Try.func26.trans (congrArg some (by kernel_rfl))
  f225 := Try.func25.trans (congrArg some (by kernel_rfl))
  f266 := Try.func28.trans (congrArg some (by kernel_rfl))
  f267 := Try.func27.trans (congrArg some (by kernel_rfl))
  f314 := Try.func29.trans (congrArg some (by kernel_rfl))
  t3 := Try.underlying3
  a3 := Try.isAgg3
  z3 := Try.sizeOf3
  v3 := Try.zeroValue3
  t4 := Try.underlying4
  a4 := Try.isAgg4
  z4 := Try.sizeOf4
  v4 := Try.zeroValue4
  t5 := Try.underlying5
  a5 := Try.isAgg5
  z5 := Try.sizeOf5
  v5 := Try.zeroValue5
  t9 := Try.underlying9
  a9 := Try.isAgg9
  z9 := Try.sizeOf9
  v9 := Try.zeroValue9
  t46 := Try.underlying27
  a46 := Try.isAgg27
  z46 := Try.sizeOf27
  v46 := Try.zeroValue27
  t51 := Try.underlying48
  a51 := Try.isAgg48
  z51 := Try.sizeOf48
  v51 := Try.zeroValue48
  t146 := Try.underlying49
  a146 := Try.isAgg49
  z146 := Try.sizeOf49
  v146 := Try.zeroValue49
  g1 := by kernel_rfl }
open Go.RowKit Go.Lib in
theorem Try.stringslite_Index_one (s : ByteArray) (c : UInt8) (w : World) :
    Calls Try.prog 23 #[.string s, .string ⟨#[c]⟩] w fun e w' => e = .returned (.int .i64 (Lib.indexByte s.data.toList c)) ∧ w' = w := Any.stringslite_Index_one Try.lays219 s c w
end Go.Proofs.Qxb6605283a

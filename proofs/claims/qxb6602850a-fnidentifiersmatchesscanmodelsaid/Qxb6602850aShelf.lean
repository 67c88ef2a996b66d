/-
  THE SHELF's CONTRACTS AT THIS DUMP, as the kit's tools lay-shelf and lay-plain write them (cut down to those that are used).
-/
import Derived.Shelf.Strings.Search2
import Derived.Test.Qxb6602850aProg
namespace Go.Proofs.Qxb6602850a
open Go.Shelf
def Try.lays219_ren : Go.Shelf.Ren := ⟨fun | 219 => 34 | 217 => 33 | 225 => 37 | 224 => 38 | 267 => 39 | 266 => 36 | 314 => 40 | n => n, fun | 9 => 9 | 3 => 3 | 4 => 4 | 5 => 5 | 46 => 43 | 146 => 45 | 51 => 44 | n => n, fun | 1 => 0 | n => n⟩
theorem Try.lays219 : Go.Proofs.Lays.n219 Try.prog Try.lays219_ren := {
  mixed := by kernel_rfl
  f217 := Try.func33.trans (congrArg some (by kernel_rfl))
  f219 := Try.func34.trans (congrArg some (by kernel_rfl))
  f224 := Try.func38.trans (congrArg some (by kernel_rfl))
  f225 := Try.func37.trans (congrArg some (by kernel_rfl))
  f266 := Try.func36.trans (congrArg some (by kernel_rfl))
  f267 := Try.func39.trans (congrArg some (by kernel_rfl))
  f314 := Try.func40.trans (congrArg some (by kernel_rfl))
  t3 := Try.underlying3
  a3 := Try.isAgg3
  z3 := Try.sizeOf3
  v3 := Try.zeroValue3
  t4 := Try.underlying4
  a4 := Try.isAgg4
  z4 := Try.sizeOf4
  v4 := Try.zeroValue4
  t5 := Try.underlying5
  a5 := Try.isAgg5
  z5 := Try.sizeOf5
  v5 := Try.zeroValue5
  t9 := Try.underlying9
  a9 := Try.isAgg9
  z9 := Try.sizeOf9
  v9 := Try.zeroValue9
  t46 := Try.underlying43
  a46 := Try.isAgg43
  z46 := Try.sizeOf43
  v46 := Try.zeroValue43
  t51 := Try.underlying44
  a51 := Try.isAgg44
  z51 := Try.sizeOf44
  v51 := Try.zeroValue44
  t146 := Try.underlying45
  a146 := Try.isAgg45
  z146 := Try.sizeOf45
  v146 := Try.zeroValue45
  g1 := by kernel_rfl }
open Go.RowKit Go.Lib in
theorem Try.stringslite_Index_one (s : ByteArray) (c : UInt8) (w : World) :
    Calls Try.prog 34 #[.string s, .string ⟨#[c]⟩] w fun e w' => e = .returned (.int .i64 (Lib.indexByte s.data.toList c)) ∧ w' = w := Any.stringslite_Index_one Try.lays219 s c w
end Go.Proofs.Qxb6602850a

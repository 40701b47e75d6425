/-
  The contracts of Go's library that the walks use, laid at this dump by the guide's shelf (plain words).
-/
import Derived.Shelf.LaysM
import Derived.Shelf.Strings.Search1
import Derived.Shelf.Strings.Search2
import Derived.Test.Qxb6002379aFmtProg
namespace Go.Proofs
open Go.Shelf
def Tryf.lays219_ren : Go.Shelf.Ren := ⟨fun | 219 => 36 | 217 => 38 | 225 => 39 | 224 => 40 | 267 => 41 | 266 => 46 | 314 => 47 | n => n, fun | 9 => 9 | 3 => 3 | 4 => 4 | 5 => 5 | 46 => 63 | 146 => 71 | 51 => 70 | n => n, fun | 1 => 0 | n => n⟩
theorem Tryf.lays219 : Go.Proofs.Lays.n219 Tryf.prog Tryf.lays219_ren := {
  mixed := by kernel_rfl
  f217 := Tryf.func38.trans (congrArg some (by kernel_rfl))
  f219 := Tryf.func36.trans (congrArg some (by kernel_rfl))
  f224 := Tryf.func40.trans (congrArg some (by kernel_rfl))
  f225 := Tryf.func39.trans (congrArg some (by kernel_rfl))
  f266 := Tryf.func46.trans (congrArg some (by kernel_rfl))
  f267 := Tryf.func41.trans (congrArg some (by kernel_rfl))
  f314 := Tryf.func47.trans (congrArg some (by kernel_rfl))
  t3 := Tryf.underlying3
  a3 := Tryf.isAgg3
  z3 := Tryf.sizeOf3
  v3 := Tryf.zeroValue3
  t4 := Tryf.underlying4
  a4 := Tryf.isAgg4
  z4 := Tryf.sizeOf4
  v4 := Tryf.zeroValue4
  t5 := Tryf.underlying5
  a5 := Tryf.isAgg5
  z5 := Tryf.sizeOf5
  v5 := Tryf.zeroValue5
  t9 := Tryf.underlying9
  a9 := Tryf.isAgg9
  z9 := Tryf.sizeOf9
  v9 := Tryf.zeroValue9
  t46 := Tryf.underlying63
  a46 := Tryf.isAgg63
  z46 := Tryf.sizeOf63
  v46 := Tryf.zeroValue63
  t51 := Tryf.underlying70
  a51 := Tryf.isAgg70
  z51 := Tryf.sizeOf70
  v51 := Tryf.zeroValue70
  t146 := Tryf.underlying71
  a146 := Tryf.isAgg71
  z146 := Tryf.sizeOf71
  v146 := Tryf.zeroValue71
  g1 := by kernel_rfl }
open Go.RowKit Go.Lib in
theorem Tryf.stringslite_Index_one (s : ByteArray) (c : UInt8) (w : World) :
    Calls Tryf.prog 36 #[.string s, .string ⟨#[c]⟩] w fun e w' => e = .returned (.int .i64 (Lib.indexByte s.data.toList c)) ∧ w' = w := Any.stringslite_Index_one Tryf.lays219 s c w
end Go.Proofs

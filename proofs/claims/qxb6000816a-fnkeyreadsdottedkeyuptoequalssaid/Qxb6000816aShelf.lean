/-
  The contracts of Go's library that the walks use, laid at this dump by the guide's shelf (plain words).
-/
import Derived.Shelf.Strings.Builder1
import Derived.Shelf.Strings.Builder2
import Derived.Shelf.Small.Utf8
import Derived.Shelf.Small.Strs
import Derived.Shelf.Strings.Search1
import Derived.Shelf.Strings.Prefix
import Derived.Shelf.Strings.Runes
import Derived.Shelf.Bits.Mul64
import Derived.Shelf.Strings.Repeat
import Derived.Test.Qxb6000816aProg
namespace Go.Proofs
open Go.Shelf
def Try.lays119_ren : Go.Shelf.Ren := ⟨fun | 119 => 44 | n => n, fun | 21 => 21 | 4 => 4 | n => n, fun | n => n⟩
theorem Try.lays119 : Go.Proofs.Lays.n119 Try.prog Try.lays119_ren := {
  mixed := by kernel_rfl
  f119 := Try.func44.trans (congrArg some (by kernel_rfl))
  t4 := Try.underlying4
  a4 := Try.isAgg4
  z4 := Try.sizeOf4
  v4 := Try.zeroValue4
  t21 := Try.underlying21
  a21 := Try.isAgg21
  z21 := Try.sizeOf21
  v21 := Try.zeroValue21 }
theorem Try.utf8_ValidRune (r : Int) (w : World) :
    Calls Try.prog 44 #[.int .i32 r] w fun e w' => e = .returned (.bool (Lib.validRune r)) ∧ w' = w := Any.utf8_ValidRune Try.lays119 r w
def Try.lays137_ren : Go.Shelf.Ren := ⟨fun | 137 => 43 | 217 => 51 | 266 => 54 | n => n, fun | 9 => 9 | 5 => 5 | 3 => 3 | n => n, fun | n => n⟩
theorem Try.lays137 : Go.Proofs.Lays.n137 Try.prog Try.lays137_ren := {
  mixed := by kernel_rfl
  f137 := Try.func43.trans (congrArg some (by kernel_rfl))
  f217 := Try.func51.trans (congrArg some (by kernel_rfl))
  f266 := Try.func54.trans (congrArg some (by kernel_rfl))
  t3 := Try.underlying3
  a3 := Try.isAgg3
  z3 := Try.sizeOf3
  v3 := Try.zeroValue3
  t5 := Try.underlying5
  a5 := Try.isAgg5
  z5 := Try.sizeOf5
  v5 := Try.zeroValue5
  t9 := Try.underlying9
  a9 := Try.isAgg9
  z9 := Try.sizeOf9
  v9 := Try.zeroValue9 }
open Go.RowKit in
theorem Try.strings_IndexByte (s : ByteArray) (c : Int) (w : World) :
    Calls Try.prog 43 #[.string s, .int .u8 c] w fun e w' => e = .returned (.int .i64 (Lib.indexByte s.data.toList c.toNat.toUInt8)) ∧ w' = w := Any.strings_IndexByte Try.lays137 s c w
def Try.lays99_ren : Go.Shelf.Ren := ⟨fun | 99 => 34 | 206 => 37 | n => n, fun | 9 => 9 | 4 => 4 | 3 => 3 | n => n, fun | n => n⟩
theorem Try.lays99 : Go.Proofs.Lays.n99 Try.prog Try.lays99_ren := {
  mixed := by kernel_rfl
  f99 := Try.func34.trans (congrArg some (by kernel_rfl))
  f206 := Try.func37.trans (congrArg some (by kernel_rfl))
  t3 := Try.underlying3
  a3 := Try.isAgg3
  z3 := Try.sizeOf3
  v3 := Try.zeroValue3
  t4 := Try.underlying4
  a4 := Try.isAgg4
  z4 := Try.sizeOf4
  v4 := Try.zeroValue4
  t9 := Try.underlying9
  a9 := Try.isAgg9
  z9 := Try.sizeOf9
  v9 := Try.zeroValue9 }
open Go.RowKit Go.Lib in
theorem Try.strings_HasPrefix (s p : ByteArray) (w : World) :
    Calls Try.prog 34 #[.string s, .string p] w fun e w' => e = .returned (.bool (Lib.hasPrefix s.data.toList p.data.toList)) ∧ w' = w := Any.strings_HasPrefix Try.lays99 s p w
def Try.lays151_ren : Go.Shelf.Ren := ⟨fun | 151 => 33 | 152 => 36 | 137 => 43 | 119 => 44 | 224 => 45 | 225 => 46 | 217 => 51 | 266 => 54 | n => n, fun | 9 => 9 | 21 => 21 | 4 => 4 | 3 => 3 | 5 => 5 | 0 => 0 | 46 => 45 | n => n, fun | n => n⟩
theorem Try.lays151 : Go.Proofs.Lays.n151 Try.prog Try.lays151_ren := {
  mixed := by kernel_rfl
  f119 := Try.func44.trans (congrArg some (by kernel_rfl))
  f137 := Try.func43.trans (congrArg some (by kernel_rfl))
  f151 := Try.func33.trans (congrArg some (by kernel_rfl))
  f152 := Try.func36.trans (congrArg some (by kernel_rfl))
  f217 := Try.func51.trans (congrArg some (by kernel_rfl))
  f224 := Try.func45.trans (congrArg some (by kernel_rfl))
  f225 := Try.func46.trans (congrArg some (by kernel_rfl))
  f266 := Try.func54.trans (congrArg some (by kernel_rfl))
  t0 := Try.underlying0
  a0 := Try.isAgg0
  z0 := Try.sizeOf0
  v0 := Try.zeroValue0
  t3 := Try.underlying3
  a3 := Try.isAgg3
  z3 := Try.sizeOf3
  v3 := Try.zeroValue3
  t4 := Try.underlying4
  a4 := Try.isAgg4
  z4 := Try.sizeOf4
  v4 := Try.zeroValue4
  t5 := Try.underlying5
  a5 := Try.isAgg5
  z5 := Try.sizeOf5
  v5 := Try.zeroValue5
  t9 := Try.underlying9
  a9 := Try.isAgg9
  z9 := Try.sizeOf9
  v9 := Try.zeroValue9
  t21 := Try.underlying21
  a21 := Try.isAgg21
  z21 := Try.sizeOf21
  v21 := Try.zeroValue21
  t46 := Try.underlying45
  a46 := Try.isAgg45
  z46 := Try.sizeOf45
  v46 := Try.zeroValue45 }
open Go.RowKit Go.Lib in
theorem Try.strings_ContainsRune_ascii (s : ByteArray) (r : Int) (w : World) (h0 : 0 ≤ r) (h1 : r < 128) :
    Calls Try.prog 33 #[.string s, .int .i32 r] w fun e w' => e = .returned (.bool (decide (0 ≤ Lib.indexByte s.data.toList r.toNat.toUInt8))) ∧ w' = w := Any.strings_ContainsRune_ascii Try.lays151 s r w h0 h1
def Try.lays105_ren : Go.Shelf.Ren := ⟨fun | 105 => 35 | 212 => 38 | 99 => 34 | 165 => 39 | 166 => 40 | 170 => 41 | 169 => 42 | 263 => 47 | 264 => 48 | 206 => 37 | 240 => 49 | 241 => 50 | 276 => 52 | 277 => 53 | n => n, fun | 9 => 9 | 3 => 3 | 4 => 4 | 20 => 20 | 0 => 0 | 46 => 45 | 109 => 46 | 5 => 5 | 72 => 50 | 76 => 54 | 51 => 62 | 146 => 63 | 53 => 65 | 148 => 66 | 70 => 48 | 37 => 38 | 75 => 53 | 127 => 68 | 164 => 69 | 80 => 57 | n => n, fun | n => n⟩
theorem Try.lays105 : Go.Proofs.Lays.n105 Try.prog Try.lays105_ren := {
  mixed := by kernel_rfl
  f99 := Try.func34.trans (congrArg some (by kernel_rfl))
  f105 := Try.func35.trans (congrArg some (by kernel_rfl))
  f165 := Try.func39.trans (congrArg some (by kernel_rfl))
  f166 := Try.func40.trans (congrArg some (by kernel_rfl))
  f169 := Try.func42.trans (congrArg some (by kernel_rfl))
  f170 := Try.func41.trans (congrArg some (by kernel_rfl))
  f206 := Try.func37.trans (congrArg some (by kernel_rfl))
  f212 := Try.func38.trans (congrArg some (by kernel_rfl))
  f240 := Try.func49.trans (congrArg some (by kernel_rfl))
  f241 := Try.func50.trans (congrArg some (by kernel_rfl))
  f263 := Try.func47.trans (congrArg some (by kernel_rfl))
  f264 := Try.func48.trans (congrArg some (by kernel_rfl))
  f276 := Try.func52.trans (congrArg some (by kernel_rfl))
  f277 := Try.func53.trans (congrArg some (by kernel_rfl))
  t0 := Try.underlying0
  a0 := Try.isAgg0
  z0 := Try.sizeOf0
  v0 := Try.zeroValue0
  t3 := Try.underlying3
  a3 := Try.isAgg3
  z3 := Try.sizeOf3
  v3 := Try.zeroValue3
  t4 := Try.underlying4
  a4 := Try.isAgg4
  z4 := Try.sizeOf4
  v4 := Try.zeroValue4
  t5 := Try.underlying5
  a5 := Try.isAgg5
  z5 := Try.sizeOf5
  v5 := Try.zeroValue5
  t9 := Try.underlying9
  a9 := Try.isAgg9
  z9 := Try.sizeOf9
  v9 := Try.zeroValue9
  t20 := Try.underlying20
  a20 := Try.isAgg20
  z20 := Try.sizeOf20
  v20 := Try.zeroValue20
  t37 := Try.underlying38
  a37 := Try.isAgg38
  z37 := Try.sizeOf38
  v37 := Try.zeroValue38
  t46 := Try.underlying45
  a46 := Try.isAgg45
  z46 := Try.sizeOf45
  v46 := Try.zeroValue45
  t51 := Try.underlying62
  a51 := Try.isAgg62
  z51 := Try.sizeOf62
  v51 := Try.zeroValue62
  t53 := Try.underlying65
  a53 := Try.isAgg65
  z53 := Try.sizeOf65
  v53 := Try.zeroValue65
  t70 := Try.underlying48
  a70 := Try.isAgg48
  z70 := Try.sizeOf48
  v70 := Try.zeroValue48
  t72 := Try.underlying50
  a72 := Try.isAgg50
  z72 := Try.sizeOf50
  v72 := Try.zeroValue50
  t75 := Try.underlying53
  a75 := Try.isAgg53
  z75 := Try.sizeOf53
  v75 := Try.zeroValue53
  t76 := Try.underlying54
  a76 := Try.isAgg54
  z76 := Try.sizeOf54
  v76 := Try.zeroValue54
  t109 := Try.underlying46
  a109 := Try.isAgg46
  z109 := Try.sizeOf46
  v109 := Try.zeroValue46
  t127 := Try.underlying68
  a127 := Try.isAgg68
  z127 := Try.sizeOf68
  v127 := Try.zeroValue68
  t146 := Try.underlying63
  a146 := Try.isAgg63
  z146 := Try.sizeOf63
  v146 := Try.zeroValue63
  t148 := Try.underlying66
  a148 := Try.isAgg66
  z148 := Try.sizeOf66
  v148 := Try.zeroValue66
  t164 := Try.underlying69
  a164 := Try.isAgg69
  z164 := Try.sizeOf69
  v164 := Try.zeroValue69 }
theorem Try.Builder_Extra_105 : Builder.Extra Try.prog Try.lays105_ren := {
  sizeBuilder := by kernel_rfl
  liesBuilder := by kernel_rfl
  t5 := Try.underlying5
  a5 := Try.isAgg5
  z5 := Try.sizeOf5
  v5 := Try.zeroValue5
  infoByte := by kernel_rfl
  cellsByte := by kernel_rfl
  sizeByte := by kernel_rfl
  neB5 := by decide }
open Go.RowKit Go.Lib in
theorem Try.strings_Repeat (s : ByteArray) (c : Nat) (w : World) (hc : c ≤ 9223372036854775807) (hlen : s.size * c ≤ 140737488355328) :
    Calls Try.prog 35 #[.string s, .int .i64 c] w fun e w' => e = .returned (.string ⟨(Lib.repeatL s.data.toList c).toArray⟩) ∧ Below w.heap.size w w' := Any.strings_Repeat Try.lays105 Try.Builder_Extra_105 s c w hc hlen
end Go.Proofs

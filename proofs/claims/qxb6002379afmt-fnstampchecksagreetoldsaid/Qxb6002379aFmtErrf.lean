/-
  THE CONTRACTS of fmt.Errorf at the four formats of this road: whatever fmt's text is, a new error comes back; memory has new blocks alone.
-/
import Derived.Test.Qxb6002379aFmtProg
import Derived.Stop.CallBack
import Derived.Stop.IfaceNil
import Derived.WalkKit
import Derived.WalkSpells
import Derived.WalkLawsBesides
import Derived.Handy
namespace Go.Proofs.Qxb6002379aFmt
open Go.RowKit Go.Extern.Stop Go.Stop Go.Extern
set_option linter.unusedVariables false

theorem call31 (args : Array Value) (w : World) : (callFunc 31 args).run Tryf.prog w = ((FmtStop.errorf #[9, 52] #[29] args).run Tryf.prog w).andThen fun v w' => .ok (.value v) w' :=
  run_callFunc_extern Tryf.func31 (by kernel_rfl) (by kernel_rfl) (by kernel_rfl) (by kernel_rfl) args w
theorem guardOk (name : String) (w : World) : (FmtStop.guard name).run Tryf.prog w = .ok () w := by kernel_rfl

def fm1 : ByteArray := ⟨#[116, 97, 108, 108, 121, 99, 108, 111, 99, 107, 58, 32, 37, 113, 32, 105, 115, 32, 110, 111, 116, 32, 97, 32, 115, 116, 97, 109, 112, 58, 32, 105, 116, 115, 32, 116, 105, 109, 101, 32, 105, 115, 32, 110, 111, 116, 32, 97, 110, 32, 105, 110, 116, 101, 103, 101, 114, 32, 102, 114, 111, 109, 32, 49, 32, 116, 111, 32, 37, 100, 32, 105, 110, 32, 112, 108, 97, 105, 110, 32, 100, 105, 103, 105, 116, 115]⟩
theorem fm1_pr (w : World) : (FmtDoors.printed ⟨#[116, 97, 108, 108, 121, 99, 108, 111, 99, 107, 58, 32, 37, 113, 32, 105, 115, 32, 110, 111, 116, 32, 97, 32, 115, 116, 97, 109, 112, 58, 32, 105, 116, 115, 32, 116, 105, 109, 101, 32, 105, 115, 32, 110, 111, 116, 32, 97, 110, 32, 105, 110, 116, 101, 103, 101, 114, 32, 102, 114, 111, 109, 32, 49, 32, 116, 111, 32, 37, 100, 32, 105, 110, 32, 112, 108, 97, 105, 110, 32, 100, 105, 103, 105, 116, 115]⟩ 2).run Tryf.prog w = .ok [(0, 113, false), (1, 100, false)] w := by kernel_rfl
def fm2 : ByteArray := ⟨#[116, 97, 108, 108, 121, 99, 108, 111, 99, 107, 58, 32, 37, 113, 32, 105, 115, 32, 110, 111, 116, 32, 97, 32, 115, 116, 97, 109, 112, 58, 32, 37, 119]⟩
theorem fm2_pr (w : World) : (FmtDoors.printed ⟨#[116, 97, 108, 108, 121, 99, 108, 111, 99, 107, 58, 32, 37, 113, 32, 105, 115, 32, 110, 111, 116, 32, 97, 32, 115, 116, 97, 109, 112, 58, 32, 37, 119]⟩ 2).run Tryf.prog w = .ok [(0, 113, false), (1, 119, false)] w := by kernel_rfl
def fm3 : ByteArray := ⟨#[112, 114, 111, 99, 101, 115, 115, 32, 110, 97, 109, 101, 32, 105, 115, 32, 37, 100, 32, 98, 121, 116, 101, 115, 32, 108, 111, 110, 103, 59, 32, 116, 104, 101, 32, 108, 111, 110, 103, 101, 115, 116, 32, 97, 108, 108, 111, 119, 101, 100, 32, 105, 115, 32, 37, 100]⟩
theorem fm3_pr (w : World) : (FmtDoors.printed ⟨#[112, 114, 111, 99, 101, 115, 115, 32, 110, 97, 109, 101, 32, 105, 115, 32, 37, 100, 32, 98, 121, 116, 101, 115, 32, 108, 111, 110, 103, 59, 32, 116, 104, 101, 32, 108, 111, 110, 103, 101, 115, 116, 32, 97, 108, 108, 111, 119, 101, 100, 32, 105, 115, 32, 37, 100]⟩ 2).run Tryf.prog w = .ok [(0, 100, false), (1, 100, false)] w := by kernel_rfl
def fm4 : ByteArray := ⟨#[112, 114, 111, 99, 101, 115, 115, 32, 110, 97, 109, 101, 32, 37, 113, 32, 104, 97, 115, 32, 98, 121, 116, 101, 32, 48, 120, 37, 48, 50, 88, 32, 97, 116, 32, 111, 102, 102, 115, 101, 116, 32, 37, 100, 59, 32, 101, 118, 101, 114, 121, 32, 98, 121, 116, 101, 32, 109, 117, 115, 116, 32, 98, 101, 32, 102, 114, 111, 109, 32, 39, 33, 39, 32, 40, 48, 120, 50, 49, 41, 32, 116, 111, 32, 39, 126, 39, 32, 40, 48, 120, 55, 69, 41]⟩
theorem fm4_pr (w : World) : (FmtDoors.printed ⟨#[112, 114, 111, 99, 101, 115, 115, 32, 110, 97, 109, 101, 32, 37, 113, 32, 104, 97, 115, 32, 98, 121, 116, 101, 32, 48, 120, 37, 48, 50, 88, 32, 97, 116, 32, 111, 102, 102, 115, 101, 116, 32, 37, 100, 59, 32, 101, 118, 101, 114, 121, 32, 98, 121, 116, 101, 32, 109, 117, 115, 116, 32, 98, 101, 32, 102, 114, 111, 109, 32, 39, 33, 39, 32, 40, 48, 120, 50, 49, 41, 32, 116, 111, 32, 39, 126, 39, 32, 40, 48, 120, 55, 69, 41]⟩ 3).run Tryf.prog w = .ok [(0, 113, false), (1, 88, false), (2, 100, false)] w := by kernel_rfl

def sh9 : List UInt8 := [12, 6, 0, 0, 0, 0, 0, 0, 0, 115, 116, 114, 105, 110, 103]
def sh3 : List UInt8 := [5, 3, 0, 0, 0, 0, 0, 0, 0, 105, 110, 116]
def sh5 : List UInt8 := [6, 5, 0, 0, 0, 0, 0, 0, 0, 117, 105, 110, 116, 56]
def sh22 : List UInt8 := [9, 6, 0, 0, 0, 0, 0, 0, 0, 117, 105, 110, 116, 54, 52]
def ty58 : String := String.singleton (Char.ofNat 42) ++ "errors.errorString"
def pl58 : List UInt8 := 14 :: FmtStop.pack ty58.toUTF8.data.toList
theorem op9_113 (name : String) (x : ByteArray) (w : World) : (FmtStop.operand name true 113 false (.iface 9 (.string x))).run Tryf.prog w = .ok (sh9, FmtStop.pack x.data.toList) w := by kernel_rfl
theorem op3_100 (name : String) (x : Int) (w : World) : (FmtStop.operand name true 100 false (.iface 3 (.int .i64 x))).run Tryf.prog w = .ok (sh3, Go.Extern.Stop.digits 8 (x % 2 ^ 64).toNat) w := by kernel_rfl
theorem op22_100 (name : String) (x : Int) (w : World) : (FmtStop.operand name true 100 false (.iface 22 (.int .u64 x))).run Tryf.prog w = .ok (sh22, Go.Extern.Stop.digits 8 (x % 2 ^ 64).toNat) w := by kernel_rfl
theorem op5_88 (name : String) (x : Int) (w : World) : (FmtStop.operand name true 88 false (.iface 5 (.int .u8 x))).run Tryf.prog w = .ok (sh5, Go.Extern.Stop.digits 8 (x % 2 ^ 64).toNat) w := by kernel_rfl
theorem opPlain58_119 (name : String) (a : Addr) (s : ByteArray) (w : World) (hc : w.cell? a = some (.string s)) :
    (FmtStop.operand name true 119 false (.iface 58 (.pointer (some a)))).run Tryf.prog w = .ok (pl58, s.data.toList) w := by
  have h1 : (typeStr 58).run Tryf.prog w = .ok ty58 w := by kernel_rfl
  have d2 : Tryf.t58.desc = .pointer 60 := rfl
  have d3 : Tryf.t60.desc = .named "errors.errorString" 59 := rfl
  simp [FmtStop.operand, h1, d2, d3, run_load, hc, pl58]
theorem ptr58 (w : World) : (FmtStop.ptrTo "errors.errorString").run Tryf.prog w = .ok 58 w := by kernel_rfl
theorem elem58 (w : World) : (elemOf 58).run Tryf.prog w = .ok 60 w := by kernel_rfl
theorem isError58 (w : World) : (FmtDoors.textMethod 58 "Error").run Tryf.prog w = .ok true w := by kernel_rfl
theorem ptr53 (w : World) : (FmtStop.ptrTo "fmt.wrapError").run Tryf.prog w = .ok 53 w := by kernel_rfl
theorem elem53 (w : World) : (elemOf 53).run Tryf.prog w = .ok 96 w := by kernel_rfl

/-- What a new error is: an interface value that is not nil, a pointer to a new block whose first cell is its text. -/
def NewErr (T : TypeId) (w : World) (e : Ending) (w' : World) : Prop := ∃ a s, e = .returned (.iface T (.pointer (some a))) ∧ w'.cell? a = some (.string s) ∧ w.heap.size ≤ a.block ∧ a.block < w'.heap.size ∧ Below w.heap.size w w'

theorem newErr1 {T TT : TypeId} (w : World) (s : ByteArray) : NewErr T w (.returned (.iface T (.pointer (some ⟨w.heap.size, 0, none⟩)))) (w.alloc (.cells #[.string s] TT)).drew :=
  ⟨_, s, rfl, by simp, Nat.le_refl _, by simp, ((Below.refl _ _).alloc (Nat.le_refl _) _).drew⟩
theorem newErr2 {T TT : TypeId} (w : World) (s : ByteArray) (x : Value) : NewErr T w (.returned (.iface T (.pointer (some ⟨w.heap.size, 0, none⟩)))) (w.alloc (.cells #[.string s, x] TT)).drew :=
  ⟨_, s, rfl, by simp, Nat.le_refl _, by simp, ((Below.refl _ _).alloc (Nat.le_refl _) _).drew⟩
theorem newErr0 {T TT : TypeId} (w : World) (s : ByteArray) : NewErr T w (.returned (.iface T (.pointer (some ⟨w.heap.size, 0, none⟩)))) (w.alloc (.cells #[.string s] TT)) :=
  ⟨_, s, rfl, by simp, Nat.le_refl _, by simp, (Below.refl _ _).alloc (Nat.le_refl _) _⟩

attribute [local go_sem] call31 guardOk fm1_pr fm2_pr fm3_pr fm4_pr op9_113 op3_100 op22_100 op5_88 ptr58 elem58 isError58 ptr53 elem53

theorem errorf1 (F : Interp) (s : ByteArray) (n : Int) (blk : Nat) (w : World) (hF : F.answers w.tape)
    (hc0 : w.cell? ⟨blk, 0, none⟩ = some (.iface 9 (.string s))) (hc1 : w.cell? ⟨blk, 1, none⟩ = some (.iface 22 (.int .u64 n))) :
    Calls Tryf.prog 22 #[.string fm1, .slice (some ⟨blk, 0, none⟩) 2 2] w fun e w' => NewErr 58 w e w' := by
  have hF' := hF
  unfold Interp.answers at hF'
  unfold fm1
  go_enter Tryf.func22, Tryf.ntmps22
  go_wp2
  go_ret
  exact newErr1 _ _

theorem errorf2 (F : Interp) (s : ByteArray) (a : Addr) (x : ByteArray) (blk : Nat) (w : World) (hF : F.answers w.tape)
    (hc0 : w.cell? ⟨blk, 0, none⟩ = some (.iface 9 (.string s))) (hc1 : w.cell? ⟨blk, 1, none⟩ = some (.iface 58 (.pointer (some a)))) (hx : w.cell? a = some (.string x)) :
    Calls Tryf.prog 22 #[.string fm2, .slice (some ⟨blk, 0, none⟩) 2 2] w fun e w' => NewErr 53 w e w' := by
  have hF' := hF
  unfold Interp.answers at hF'
  have hop := opPlain58_119 "fmt.errorf" a x w hx
  unfold fm2
  go_enter Tryf.func22, Tryf.ntmps22
  go_wp2
  go_ret
  exact newErr2 _ _ _

theorem errorf3 (F : Interp) (n m : Int) (blk : Nat) (w : World) (hF : F.answers w.tape)
    (hc0 : w.cell? ⟨blk, 0, none⟩ = some (.iface 3 (.int .i64 n))) (hc1 : w.cell? ⟨blk, 1, none⟩ = some (.iface 3 (.int .i64 m))) :
    Calls Tryf.prog 22 #[.string fm3, .slice (some ⟨blk, 0, none⟩) 2 2] w fun e w' => NewErr 58 w e w' := by
  have hF' := hF
  unfold Interp.answers at hF'
  unfold fm3
  go_enter Tryf.func22, Tryf.ntmps22
  go_wp2
  go_ret
  exact newErr1 _ _

theorem errorf4 (F : Interp) (s : ByteArray) (n m : Int) (blk : Nat) (w : World) (hF : F.answers w.tape)
    (hc0 : w.cell? ⟨blk, 0, none⟩ = some (.iface 9 (.string s))) (hc1 : w.cell? ⟨blk, 1, none⟩ = some (.iface 5 (.int .u8 n))) (hc2 : w.cell? ⟨blk, 2, none⟩ = some (.iface 3 (.int .i64 m))) :
    Calls Tryf.prog 22 #[.string fm4, .slice (some ⟨blk, 0, none⟩) 3 3] w fun e w' => NewErr 58 w e w' := by
  have hF' := hF
  unfold Interp.answers at hF'
  unfold fm4
  go_enter Tryf.func22, Tryf.ntmps22
  go_wp2
  go_ret
  exact newErr1 _ _

theorem errNew (s : ByteArray) (w : World) : Calls Tryf.prog 32 #[.string s] w fun e w' => NewErr 58 w e w' := by
  go_enter Tryf.func32, Tryf.ntmps32
  go_wp2
  go_ret
  exact newErr0 _ _
end Go.Proofs.Qxb6002379aFmt

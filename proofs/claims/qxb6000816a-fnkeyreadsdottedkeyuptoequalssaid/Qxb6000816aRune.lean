import Derived.Test.Qxb6000816aShelf
import Derived.Test.Qxb6000816aPlain
import Derived.WalkKit
import Derived.WalkSpells
import Derived.WalkLawsBesides
import Derived.Handy
import Derived.BigQuiet
import Derived.Deep.QuietTactic
namespace Go.Proofs.Qxb6000816a
open Go.RowKit

theorem enc_high (r : Int) (h0 : 128 ≤ r) (h1 : r ≤ 255) : ∃ c1 c2 : UInt8, Utf8.encode r = ⟨#[c1, c2]⟩ ∧ 128 ≤ c2.toNat := by
  refine ⟨UInt8.ofNat (192 + r.toNat / 64), UInt8.ofNat (128 + r.toNat % 64), ?_, ?_⟩
  · have hv : Utf8.valid r = true := by simp [Utf8.valid]; omega
    unfold Utf8.encode
    simp only [hv, if_true]
    rw [if_neg (by omega), if_pos (by omega)]
  · simp; omega


theorem indexByte_none (l : List UInt8) (c : UInt8) (h : ∀ x ∈ l, x ≠ c) : Lib.indexByte l c = -1 := by
  induction l with
  | nil => rfl
  | cons a l ih =>
    have h1 : (a == c) = false := by rw [beq_eq_false_iff_ne]; exact h a (by simp)
    have h2 := ih (fun x hx => h x (by simp [hx]))
    simp [Lib.indexByte, h1, h2]

theorem ib_high (c2 : UInt8) (hc : 128 ≤ c2.toNat) (w : World) :
    Calls Try.prog 43 #[.string ⟨#[13, 10, 46, 61]⟩, .int .u8 c2.toNat] w fun e w' => e = .returned (.int .i64 (-1)) ∧ w' = w := by
  refine (Try.strings_IndexByte _ _ _).mono ?_
  rintro e w' ⟨rfl, rfl⟩
  refine ⟨?_, rfl⟩
  rw [show ((c2.toNat : Int).toNat.toUInt8) = c2 by simp]
  rw [indexByte_none _ _ ?_]
  intro x hx e
  subst e
  simp at hx
  rcases hx with rfl | rfl | rfl | rfl <;> simp at hc

set_option maxHeartbeats 1000000 in
set_option maxRecDepth 1000000 in
theorem ir_high (r : Int) (h0 : 128 ≤ r) (h1 : r ≤ 255) (w : World) :
    Calls Try.prog 36 #[.string ⟨#[32, 9, 13, 10, 46, 61]⟩, .int .i32 r] w fun e w' => e = .returned (.int .i64 (-1)) ∧ ∃ n, w' = w.drewN n := by
  have e1 : (r == 65533) = false := by rw [beq_eq_false_iff_ne]; omega
  have d1 : decide (r < 128) = false := by simp; omega
  have d0 : decide (0 ≤ r) = true := by simp; omega
  have hv : Lib.validRune r = true := by simp [Lib.validRune]; omega
  obtain ⟨c1, c2, henc, hc⟩ := enc_high r h0 h1
  have hne : ((9 : Int) != (c2.toNat : Int)) = true := by simp; omega
  have hi1 : ∀ h, (⟨#[32, 9, 13, 10, 46, 61]⟩ : ByteArray)[1]'h = 9 := fun _ => rfl
  have hi2 : ∀ h, (⟨#[c1, c2]⟩ : ByteArray)[1]'h = c2 := fun _ => rfl
  have hx : ByteArray.extract ⟨#[32, 9, 13, 10, 46, 61]⟩ 2 6 = ⟨#[13, 10, 46, 61]⟩ := by decide
  have hw2 : IntKind.i64.wrap 2 = 2 := by decide
  have hsl : ∀ w, (Instr.slice 9 (.string ⟨#[32, 9, 13, 10, 46, 61]⟩) (some (.int .i64 2)) none none).run Try.prog w = .ok (.string ⟨#[13, 10, 46, 61]⟩) w := fun _ => by kernel_rfl
  go_enter Try.func36, Try.ntmps36
  go_wp2_with (go_at_call 44; refine (Try.utf8_ValidRune _ _).mono ?_; rintro e w' ⟨rfl, rfl⟩)
  go_step3
  go_wp2_with fail
  refine wp_loop_rounds 1 ?_
  rw [rounds_succ]
  go_wp2_with fail
  go_step3
  go_wp2_with fail
  go_quiet (fail)
  go_wp2_with fail
  go_quiet ((go_at_call 43; refine (ib_high c2 hc _).mono ?_; rintro e w'' ⟨rfl, rfl⟩; exact ⟨rfl, _, rfl⟩))
  go_wp2_with fail
  rw [Exit.noGoto_ret]
  simp only [Exit.inBlock, Exit.then]
  rw [Exit.noGoto_ret]
  go_returns
  exact ⟨rfl, _, rfl⟩

theorem cr_high (r : Int) (h0 : 128 ≤ r) (h1 : r ≤ 255) (w : World) :
    Calls Try.prog 33 #[.string ⟨#[32, 9, 13, 10, 46, 61]⟩, .int .i32 r] w fun e w' => e = .returned (.bool false) ∧ ∃ n, w' = w.drewN n := by
  go_enter Try.func33, Try.ntmps33
  go_wp2_with (go_at_call 36; refine (ir_high r h0 h1 _).mono ?_; rintro e w' ⟨rfl, n, rfl⟩)
  go_ret
  exact ⟨rfl, _, rfl⟩

theorem idx6 (c : UInt8) : (0 ≤ Lib.indexByte [32, 9, 13, 10, 46, 61] c) ↔ (c = 32 ∨ c = 9 ∨ c = 13 ∨ c = 10 ∨ c = 46 ∨ c = 61) := by
  constructor
  · intro h
    apply Classical.byContradiction
    intro g
    rw [indexByte_none _ _ ?_] at h
    · omega
    · intro x hx e
      subst e
      apply g
      simpa using hx
  · rintro (rfl | rfl | rfl | rfl | rfl | rfl) <;> decide

theorem cr_yes (r : Int) (h : Cut6 r) (w : World) :
    Calls Try.prog 33 #[.string ⟨#[32, 9, 13, 10, 46, 61]⟩, .int .i32 r] w fun e w' => e = .returned (.bool true) ∧ ∃ n, w' = w.drewN n := by
  have h01 : 0 ≤ r ∧ r < 128 := by unfold Cut6 at h; omega
  refine (Try.strings_ContainsRune_ascii _ r w h01.1 h01.2).mono ?_
  rintro e w' ⟨rfl, rfl⟩
  refine ⟨?_, 0, rfl⟩
  have hi : 0 ≤ Lib.indexByte [32, 9, 13, 10, 46, 61] r.toNat.toUInt8 := by
    rw [idx6]
    rcases h with rfl | rfl | rfl | rfl | rfl | rfl <;> decide
  show Ending.returned (.bool (decide (0 ≤ Lib.indexByte [32, 9, 13, 10, 46, 61] r.toNat.toUInt8))) = _
  rw [decide_eq_true hi]

theorem cr_no (r : Int) (h0 : 0 ≤ r) (h1 : r ≤ 255) (h : ¬ Cut6 r) (w : World) :
    Calls Try.prog 33 #[.string ⟨#[32, 9, 13, 10, 46, 61]⟩, .int .i32 r] w fun e w' => e = .returned (.bool false) ∧ ∃ n, w' = w.drewN n := by
  by_cases hr : 128 ≤ r
  · exact cr_high r hr h1 w
  · refine (Try.strings_ContainsRune_ascii _ r w h0 (by omega)).mono ?_
    rintro e w' ⟨rfl, rfl⟩
    refine ⟨?_, 0, rfl⟩
    have hi : ¬ 0 ≤ Lib.indexByte [32, 9, 13, 10, 46, 61] r.toNat.toUInt8 := by
      rw [idx6]
      intro g
      apply h
      have e : r = (r.toNat.toUInt8.toNat : Int) := by simp; omega
      unfold Cut6
      rw [e]
      rcases g with g | g | g | g | g | g <;> rw [g] <;> simp
    show Ending.returned (.bool (decide (0 ≤ Lib.indexByte [32, 9, 13, 10, 46, 61] r.toNat.toUInt8))) = _
    rw [decide_eq_false hi]
end Go.Proofs.Qxb6000816a

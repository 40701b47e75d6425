/-
  THE WALK of valueEnd at an opening brace or bracket; valueEnd whole; ZZvalueEnd.
-/
import Derived.Test.Qxb6600003aWalk
namespace Go.Proofs.Qxb6600003a
open Go.RowKit
set_option linter.unusedVariables false

set_option maxHeartbeats 2000000 in
theorem ve_nest (B n s : Nat) (f : Nat → Int) (hs : s < n) (hn : n ≤ 1048576) (w : World) (hr : Row w B n f) (hq : f s = 123 ∨ f s = 91) :
    Calls Try.prog 32 #[.slice (some ⟨B, 0, none⟩) n n, .int .i64 s] w fun e w' => (∃ r : Nat, VE f n s r ∧ e = .returned (.int .i64 (r : Int))) ∧ w' = w := by
  have hc := hr s hs
  have HR : Hid (Row w B n f) := hr
  have e1 : (f s == 34) = false := by rw [beq_eq_false_iff_ne]; omega
  have HQ : Hid (f s = 34 ∨ f s = 123 ∨ f s = 91) := .inr hq
  have hd0 : decide (n ≤ s) = false := by simp; omega
  have hbr : ((f s == 123) = true) ∨ ((f s == 123) = false ∧ (f s == 91) = true) := by
    rcases hq with h | h
    · left; simpa using h
    · right; rw [h]; exact ⟨rfl, rfl⟩
  clear hr hq
  rcases hbr with e2 | ⟨e2, e3⟩
  all_goals
    go_enter Try.func32, Try.ntmps32
    go_wp2_with fail
    go_loopg [5, 6] n (fun g d v wr => ∃ (k : Nat) (c : Int), s ≤ k ∧ k ≤ n ∧ -(n : Int) ≤ c ∧ c + (k : Int) ≥ -(n : Int) ∧ -(k : Int) ≤ c ∧ c ≤ (k : Int) ∧ v = .int .i64 k ∧ d = .int .i64 c ∧ wr = w ∧ n - k ≤ g)
    case atStart => exact ⟨s, 0, Nat.le_refl _, by omega, by omega, by omega, by omega, by omega, rfl, rfl, rfl, by omega⟩
    case round =>
      clear hc
      obtain ⟨k, c, hsk, hkn, hc1, hc2, hc3, hc4, rfl, rfl, rfl, hg⟩ := hrel
      by_cases hlt : k < n
      · have hck := HR.out k hlt
        by_cases h34 : f k = 34
        · have g1 : (f k == 34) = true := by simpa using h34
          clear h34
          go_wp2_with fail
          refine (closing_any B n k f hlt hn _ HR.out).mono ?_
          rintro e w' ⟨⟨r, h1, h2, rfl⟩, rfl⟩
          go_wp2_with fail
          go_roundg (n - (r + 1))
          case measure => omega
          case rel => exact ⟨r + 1, c, by omega, by omega, by omega, by omega, by omega, by omega, by go_num, rfl, rfl, Nat.le_refl _⟩
        · have g1 : (f k == 34) = false := by simpa using h34
          clear h34
          by_cases ho : f k = 123 ∨ f k = 91
          · have hob : ((f k == 123) = true) ∨ ((f k == 123) = false ∧ (f k == 91) = true) := by
              rcases ho with h | h
              · left; simpa using h
              · right; rw [h]; exact ⟨rfl, rfl⟩
            clear ho
            rcases hob with g2 | ⟨g2, g3⟩
            all_goals
              go_wp2_with fail
              go_roundg (n - (k + 1))
              case measure => omega
              case rel => exact ⟨k + 1, c + 1, by omega, by omega, by omega, by omega, by omega, by omega, by go_num, rfl, rfl, Nat.le_refl _⟩
          · have g2 : (f k == 123) = false := by rw [beq_eq_false_iff_ne]; exact fun e => ho (.inl e)
            have g3 : (f k == 91) = false := by rw [beq_eq_false_iff_ne]; exact fun e => ho (.inr e)
            clear ho
            by_cases hcl : f k = 125 ∨ f k = 93
            · have hcb : ((f k == 125) = true) ∨ ((f k == 125) = false ∧ (f k == 93) = true) := by
                rcases hcl with h | h
                · left; simpa using h
                · right; rw [h]; exact ⟨rfl, rfl⟩
              clear hcl
              by_cases hz : c - 1 = 0
              · have ez : (c - 1 == 0) = true := by simpa using hz
                have hsk' : s ≤ k := hsk
                rcases hcb with g4 | ⟨g4, g5⟩
                all_goals
                  clear hz
                  go_wp2_with fail
                  go_ret
                  exact ⟨⟨k + 1, VE.far (by omega) (by omega) HQ.out, ret_int (by omega)⟩, rfl⟩
              · have ez : (c - 1 == 0) = false := by simpa using hz
                clear hz
                rcases hcb with g4 | ⟨g4, g5⟩
                all_goals
                  go_wp2_with fail
                  go_roundg (n - (k + 1))
                  case measure => omega
                  case rel => exact ⟨k + 1, c - 1, by omega, by omega, by omega, by omega, by omega, by omega, by go_num, rfl, rfl, Nat.le_refl _⟩
            · have g4 : (f k == 125) = false := by rw [beq_eq_false_iff_ne]; exact fun e => hcl (.inl e)
              have g5 : (f k == 93) = false := by rw [beq_eq_false_iff_ne]; exact fun e => hcl (.inr e)
              clear hcl
              go_wp2_with fail
              go_roundg (n - (k + 1))
              case measure => omega
              case rel => exact ⟨k + 1, c, by omega, by omega, by omega, by omega, by omega, by omega, by go_num, rfl, rfl, Nat.le_refl _⟩
      · obtain rfl : k = n := by omega
        go_wp2_with fail
        go_ret
        exact ⟨⟨k, VE.far (by omega) (Nat.le_refl _) HQ.out, rfl⟩, rfl⟩

theorem ve_past (a : Option Addr) (n c s : Nat) (hs : n ≤ s) (hs2 : s ≤ 9223372036854775807) (w : World) :
    Calls Try.prog 32 #[.slice a n c, .int .i64 s] w fun e w' => e = .returned (.int .i64 (s : Int)) ∧ w' = w := by
  go_enter Try.func32, Try.ntmps32
  go_wp2
  go_ret
  exact ⟨rfl, rfl⟩

theorem ve_any (B n s : Nat) (f : Nat → Int) (hs : s < n) (hn : n ≤ 1048576) (w : World) (hr : Row w B n f) :
    Calls Try.prog 32 #[.slice (some ⟨B, 0, none⟩) n n, .int .i64 s] w fun e w' => (∃ r : Nat, VE f n s r ∧ e = .returned (.int .i64 (r : Int))) ∧ w' = w := by
  by_cases h1 : f s = 34
  · exact ve_quote B n s f hs hn w hr h1
  · by_cases h2 : f s = 123
    · exact ve_nest B n s f hs hn w hr (.inl h2)
    · by_cases h3 : f s = 91
      · exact ve_nest B n s f hs hn w hr (.inr h3)
      · exact ve_bare B n s f hs hn w hr h1 h2 h3

theorem zve_past (a : Option Addr) (n c s : Nat) (hs : n ≤ s) (hs2 : s ≤ 9223372036854775807) (w : World) :
    Calls Try.prog 15 #[.slice a n c, .int .i64 s] w fun e w' => e = .returned (.int .i64 (s : Int)) ∧ w' = w := by
  go_enter Try.func15, Try.ntmps15
  go_wp2_with fail
  refine (ve_past a n c s hs hs2 _).mono ?_
  rintro e w' ⟨rfl, rfl⟩
  go_wp2_with fail
  go_ret
  exact ⟨rfl, rfl⟩

theorem zve_any (B n s : Nat) (f : Nat → Int) (hs : s < n) (hn : n ≤ 1048576) (w : World) (hr : Row w B n f) :
    Calls Try.prog 15 #[.slice (some ⟨B, 0, none⟩) n n, .int .i64 s] w fun e w' => (∃ r : Nat, VE f n s r ∧ e = .returned (.int .i64 (r : Int))) ∧ w' = w := by
  go_enter Try.func15, Try.ntmps15
  go_wp2_with fail
  refine (ve_any B n s f hs hn _ hr).mono ?_
  rintro e w' ⟨⟨r, h, rfl⟩, rfl⟩
  go_wp2_with fail
  go_ret
  exact ⟨⟨r, h, rfl⟩, rfl⟩
end Go.Proofs.Qxb6600003a

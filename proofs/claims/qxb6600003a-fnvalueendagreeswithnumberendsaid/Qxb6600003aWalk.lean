/-
  THE WALKS of space, zzIsDelim, closingQuote, valueEnd, ZZvalueEnd over bytes in a block of the law's own.
-/
import Derived.Test.Qxb6600003aProg
import Derived.Test.Qxb6600003aShelf
import Derived.WalkKit
import Derived.WalkSpells
import Derived.WalkLawsBesides
import Derived.Handy
import Derived.BigQuiet
import Derived.Deep.QuietTactic
import Derived.Deep.LoopGhost
namespace Go.Proofs.Qxb6600003a
open Go.RowKit
set_option linter.unusedVariables false

theorem ret_int {k : IntKind} {a b : Int} (h : a = b) : Ending.returned (.int k a) = .returned (.int k b) := by rw [h]

/-- Block B holds the n bytes f 0 .. f (n - 1). -/
def Row (w : World) (B n : Nat) (f : Nat → Int) : Prop := ∀ i, i < n → w.cell? ⟨B, i, none⟩ = some (.int .u8 (f i))

/-- White space. -/
def Spc (c : Int) : Prop := c = 32 ∨ c = 9 ∨ c = 10 ∨ c = 13
/-- Where a bare value stops. -/
def Dlm (c : Int) : Prop := Spc c ∨ c = 44 ∨ c = 125 ∨ c = 93

theorem space_yes (c : Int) (h : Spc c) (w : World) : Calls Try.prog 40 #[.int .u8 c] w fun e w' => e = .returned (.bool true) ∧ w' = w := by
  rcases h with rfl | rfl | rfl | rfl
  all_goals
    go_enter Try.func40, Try.ntmps40
    go_wp2
    go_ret
    exact ⟨rfl, rfl⟩

theorem space_no (c : Int) (h : ¬ Spc c) (w : World) : Calls Try.prog 40 #[.int .u8 c] w fun e w' => e = .returned (.bool false) ∧ w' = w := by
  have e1 : (c == 32) = false := by rw [beq_eq_false_iff_ne]; exact fun e => h (.inl e)
  have e2 : (c == 9) = false := by rw [beq_eq_false_iff_ne]; exact fun e => h (.inr (.inl e))
  have e3 : (c == 10) = false := by rw [beq_eq_false_iff_ne]; exact fun e => h (.inr (.inr (.inl e)))
  have e4 : (c == 13) = false := by rw [beq_eq_false_iff_ne]; exact fun e => h (.inr (.inr (.inr e)))
  go_enter Try.func40, Try.ntmps40
  go_wp2
  go_ret
  exact ⟨rfl, rfl⟩

theorem delim_yes (c : Int) (h : Dlm c) (w : World) : Calls Try.prog 28 #[.int .u8 c] w fun e w' => e = .returned (.bool true) ∧ w' = w := by
  rcases h with (rfl | rfl | rfl | rfl) | rfl | rfl | rfl
  all_goals
    go_enter Try.func28, Try.ntmps28
    go_wp2
    go_ret
    exact ⟨rfl, rfl⟩

theorem delim_no (c : Int) (h : ¬ Dlm c) (w : World) : Calls Try.prog 28 #[.int .u8 c] w fun e w' => e = .returned (.bool false) ∧ w' = w := by
  have e1 : (c == 32) = false := by rw [beq_eq_false_iff_ne]; exact fun e => h (.inl (.inl e))
  have e2 : (c == 9) = false := by rw [beq_eq_false_iff_ne]; exact fun e => h (.inl (.inr (.inl e)))
  have e3 : (c == 10) = false := by rw [beq_eq_false_iff_ne]; exact fun e => h (.inl (.inr (.inr (.inl e))))
  have e4 : (c == 13) = false := by rw [beq_eq_false_iff_ne]; exact fun e => h (.inl (.inr (.inr (.inr e))))
  have e5 : (c == 44) = false := by rw [beq_eq_false_iff_ne]; exact fun e => h (.inr (.inl e))
  have e6 : (c == 125) = false := by rw [beq_eq_false_iff_ne]; exact fun e => h (.inr (.inr (.inl e)))
  have e7 : (c == 93) = false := by rw [beq_eq_false_iff_ne]; exact fun e => h (.inr (.inr (.inr e)))
  go_enter Try.func28, Try.ntmps28
  go_wp2
  go_ret
  exact ⟨rfl, rfl⟩

theorem indexByte_bd (l : List UInt8) (c : UInt8) : Lib.indexByte l c = -1 ∨ (0 ≤ Lib.indexByte l c ∧ Lib.indexByte l c < (l.length : Int)) := by
  induction l with
  | nil => left; rfl
  | cons a l ih =>
    unfold Lib.indexByte
    by_cases h : (a == c) = true
    · rw [if_pos h]; right; simp
    · rw [if_neg h]
      by_cases g : (Lib.indexByte l c == -1) = true
      · rw [if_pos g]; left; rfl
      · rw [if_neg g]
        right
        rcases ih with e | ⟨e1, e2⟩
        · rw [e] at g; simp at g
        · simp; omega

/-- What bytes.IndexByte answers: nothing found, or a place within. -/
def IdxOut (n : Nat) (e : Ending) : Prop := e = .returned (.int .i64 (-1)) ∨ ∃ k : Nat, k < n ∧ e = .returned (.int .i64 (k : Int))

theorem idx_any (B o n c : Nat) (f : Nat → Int) (cv : Int) (w : World) (hr : ∀ i, i < n → w.cell? ⟨B, o + i, none⟩ = some (.int .u8 (f (o + i)))) :
    Calls Try.prog 42 #[.slice (some ⟨B, o, none⟩) n c, .int .u8 cv] w fun e w' => IdxOut n e ∧ w' = w := by
  refine (Try.bytes_IndexByte B o n c ((List.range n).map fun i => f (o + i)) cv w (by simp) (fun i hi => ?_)).mono ?_
  · rw [hr i hi]
    simp [List.getD_eq_getElem?_getD, hi]
  · rintro e w' ⟨rfl, rfl⟩
    refine ⟨?_, rfl⟩
    have hl : (Lib.bytesOf ((List.range n).map fun i => f (o + i))).length = n := by simp [Lib.bytesOf]
    rcases indexByte_bd (Lib.bytesOf ((List.range n).map fun i => f (o + i))) cv.toNat.toUInt8 with h | ⟨h1, h2⟩
    · left; rw [h]
    · right
      obtain ⟨k, hk⟩ := Int.eq_ofNat_of_zero_le h1
      refine ⟨k, by rw [hk, hl] at h2; omega, by rw [hk]⟩

set_option maxHeartbeats 1000000 in
theorem closing_any (B n o : Nat) (f : Nat → Int) (ho : o < n) (hn : n ≤ 1048576) (w : World) (hr : Row w B n f) :
    Calls Try.prog 39 #[.slice (some ⟨B, 0, none⟩) n n, .int .i64 o] w fun e w' => (∃ r : Nat, o ≤ r ∧ r < n ∧ e = .returned (.int .i64 (r : Int))) ∧ w' = w := by
  have HR : Hid (Row w B n f) := hr
  clear hr
  go_enter Try.func39, Try.ntmps39
  go_wp2_with fail
  go_loop [5] (fun i => ∃ k : Nat, o < k ∧ k ≤ n ∧ i = .int .i64 k) (fun i => n - (intOf i).toNat)
  case atStart => exact ⟨o + 1, by omega, by omega, by go_num⟩
  case round =>
    obtain ⟨k, hok, hkn, rfl⟩ := hrel
    by_cases hk : k = n
    · obtain rfl : k = n := hk
      go_wp2_with fail
      refine (idx_any B 0 0 0 f 34 _ (fun i hi => by omega)).mono ?_
      rintro e w' ⟨he, rfl⟩
      obtain rfl : e = .returned (.int .i64 (-1)) := by
        rcases he with h | ⟨j, hj, _⟩
        · exact h
        · omega
      clear he
      go_wp2_with fail
      go_ret
      exact ⟨⟨k - 1, by omega, by omega, ret_int (by omega)⟩, rfl⟩
    · have hkl : k < n := by omega
      clear hk
      go_wp2_with fail
      refine (idx_any B k (n - k) (n - k) f 34 _ (fun i hi => HR.out (k + i) (by omega))).mono ?_
      rintro e w' ⟨rfl | ⟨j, hj, rfl⟩, rfl⟩
      · go_wp2_with fail
        go_ret
        exact ⟨⟨n - 1, by omega, by omega, ret_int (by omega)⟩, rfl⟩
      · obtain ⟨m, hm⟩ : ∃ m, m = k + j := ⟨_, rfl⟩
        have hmn : m < n := by omega
        have hkm : k ≤ m := by omega
        have ej : (j : Int) = (m : Int) - (k : Int) := by omega
        rw [ej]
        clear hm hj ej
        go_wp2_with fail
        go_loop [7, 8] (fun c v => ∃ q b : Nat, o ≤ q ∧ q + b + 1 = m ∧ v = .int .i64 q ∧ c = .int .i64 b) (fun _ v => (intOf v).toNat)
        case atStart => exact ⟨m - 1, 0, by omega, by omega, by congr 1; omega, rfl⟩
        case round =>
          obtain ⟨q, b, hoq, hqb, rfl, rfl⟩ := hrel
          have HQB : Hid (q + b + 1 = m) := hqb
          have hqm : q < m := by omega
          have hbm : b < m := by omega
          clear hqb
          by_cases hq : o < q ∧ f q = 92
          · obtain ⟨hq1, hq2⟩ := hq
            have e92 : (f q == 92) = true := by simpa using hq2
            have hc := HR.out q (by omega)
            clear hq2
            go_wp2
            go_round
            case rel => exact ⟨q - 1, b + 1, by omega, by have := HQB.out; omega, by congr 1; omega, by go_num⟩
            case measure => simp [intOf]; omega
          · by_cases hq1 : o < q
            · have e92 : (f q == 92) = false := by rw [beq_eq_false_iff_ne]; exact fun e => hq ⟨hq1, e⟩
              have hc := HR.out q (by omega)
              clear hq
              by_cases hpar : b % 2 = 0
              · have ep : ((b : Int) % 2 == 0) = true := by rw [beq_iff_eq]; omega
                go_wp2
                go_ret
                exact ⟨⟨m, by omega, hmn, ret_int (by omega)⟩, rfl⟩
              · have ep : ((b : Int) % 2 == 0) = false := by rw [beq_eq_false_iff_ne]; omega
                go_wp2
                go_round
                case rel => exact ⟨m + 1, by omega, by omega, by congr 1; omega⟩
                case measure => simp [intOf]; omega
            · clear hq
              by_cases hpar : b % 2 = 0
              · have ep : ((b : Int) % 2 == 0) = true := by rw [beq_iff_eq]; omega
                go_wp2
                go_ret
                exact ⟨⟨m, by omega, hmn, ret_int (by omega)⟩, rfl⟩
              · have ep : ((b : Int) % 2 == 0) = false := by rw [beq_eq_false_iff_ne]; omega
                go_wp2
                go_round
                case rel => exact ⟨m + 1, by omega, by omega, by congr 1; omega⟩
                case measure => simp [intOf]; omega

/-- What valueEnd answers at a place within. -/
structure VE (f : Nat → Int) (n s r : Nat) : Prop where
  le : s ≤ r
  top : r ≤ n
  here : r = s ↔ Dlm (f s)
  pass : f s ≠ 34 → f s ≠ 123 → f s ≠ 91 → ∀ i, s ≤ i → i < r → ¬ Dlm (f i)
  stop : f s ≠ 34 → f s ≠ 123 → f s ≠ 91 → r < n → Dlm (f r)

theorem VE.far {f : Nat → Int} {n s r : Nat} (h1 : s < r) (h2 : r ≤ n) (h : f s = 34 ∨ f s = 123 ∨ f s = 91) : VE f n s r :=
  ⟨by omega, h2, ⟨fun e => by omega, fun d => by unfold Dlm Spc at d; omega⟩, fun a b c => by omega, fun a b c => by omega⟩

theorem VE.bare {f : Nat → Int} {n s r : Nat} (h1 : s ≤ r) (h2 : r ≤ n) (hs : s < n) (hp : ∀ i, s ≤ i → i < r → ¬ Dlm (f i)) (hst : r < n → Dlm (f r)) : VE f n s r :=
  ⟨h1, h2, ⟨fun e => by subst e; exact hst hs, fun d => Classical.byContradiction fun g => hp s (Nat.le_refl _) (by omega) d⟩, fun _ _ _ => hp, fun _ _ _ => hst⟩

set_option maxHeartbeats 1000000 in
theorem ve_quote (B n s : Nat) (f : Nat → Int) (hs : s < n) (hn : n ≤ 1048576) (w : World) (hr : Row w B n f) (hq : f s = 34) :
    Calls Try.prog 32 #[.slice (some ⟨B, 0, none⟩) n n, .int .i64 s] w fun e w' => (∃ r : Nat, VE f n s r ∧ e = .returned (.int .i64 (r : Int))) ∧ w' = w := by
  have hc := hr s hs
  have HR : Hid (Row w B n f) := hr
  have e1 : (f s == 34) = true := by simpa using hq
  have HQ : Hid (f s = 34) := hq
  clear hr hq
  go_enter Try.func32, Try.ntmps32
  go_wp2_with fail
  refine (closing_any B n s f hs hn _ HR.out).mono ?_
  rintro e w' ⟨⟨r, h1, h2, rfl⟩, rfl⟩
  go_wp2_with fail
  go_ret
  exact ⟨⟨r + 1, VE.far (by omega) (by omega) (.inl HQ.out), ret_int (by omega)⟩, rfl⟩

set_option maxHeartbeats 1000000 in
theorem ve_bare (B n s : Nat) (f : Nat → Int) (hs : s < n) (hn : n ≤ 1048576) (w : World) (hr : Row w B n f) (h1 : f s ≠ 34) (h2 : f s ≠ 123) (h3 : f s ≠ 91) :
    Calls Try.prog 32 #[.slice (some ⟨B, 0, none⟩) n n, .int .i64 s] w fun e w' => (∃ r : Nat, VE f n s r ∧ e = .returned (.int .i64 (r : Int))) ∧ w' = w := by
  have hc := hr s hs
  have HR : Hid (Row w B n f) := hr
  have e1 : (f s == 34) = false := by simpa using h1
  have e2 : (f s == 123) = false := by simpa using h2
  have e3 : (f s == 91) = false := by simpa using h3
  have hd0 : decide (n ≤ s) = false := by simp; omega
  clear hr h1 h2 h3
  go_enter Try.func32, Try.ntmps32
  go_wp2_with fail
  go_loopg [7] n (fun g v wr => ∃ k : Nat, s ≤ k ∧ k ≤ n ∧ v = .int .i64 k ∧ (∀ i, s ≤ i → i < k → ¬ Dlm (f i)) ∧ wr = w ∧ n - k ≤ g)
  case atStart => exact ⟨s, Nat.le_refl _, by omega, rfl, fun i a b => by omega, rfl, by omega⟩
  case round =>
    clear hc
    obtain ⟨k, hsk, hkn, rfl, hp, rfl, hg⟩ := hrel
    have HP : Hid (∀ i, s ≤ i → i < k → ¬ Dlm (f i)) := hp
    clear hp
    by_cases hlt : k < n
    · have hck := HR.out k hlt
      by_cases hd : Dlm (f k)
      · have HD : Hid (Dlm (f k)) := hd
        rcases hd with hd | hd | hd | hd
        · have HS : Hid (Spc (f k)) := hd
          clear hd
          go_wp2_with (go_at_call 40; refine (space_yes _ HS.out _).mono ?_; rintro e w' ⟨rfl, rfl⟩)
          go_ret
          exact ⟨⟨k, VE.bare hsk (by omega) hs HP.out (fun _ => HD.out), rfl⟩, rfl⟩
        · have HS : Hid (¬ Spc (f k)) := by show ¬ _; unfold Spc; omega
          have d1 : (f k != 44) = false := by simp [hd]
          clear hd
          go_wp2_with (go_at_call 40; refine (space_no _ HS.out _).mono ?_; rintro e w' ⟨rfl, rfl⟩)
          go_ret
          exact ⟨⟨k, VE.bare hsk (by omega) hs HP.out (fun _ => HD.out), rfl⟩, rfl⟩
        · have HS : Hid (¬ Spc (f k)) := by show ¬ _; unfold Spc; omega
          have d1 : (f k != 44) = true := by simp; omega
          have d2 : (f k != 125) = false := by simp [hd]
          clear hd
          go_wp2_with (go_at_call 40; refine (space_no _ HS.out _).mono ?_; rintro e w' ⟨rfl, rfl⟩)
          go_ret
          exact ⟨⟨k, VE.bare hsk (by omega) hs HP.out (fun _ => HD.out), rfl⟩, rfl⟩
        · have HS : Hid (¬ Spc (f k)) := by show ¬ _; unfold Spc; omega
          have d1 : (f k != 44) = true := by simp; omega
          have d2 : (f k != 125) = true := by simp; omega
          have d3 : (f k != 93) = false := by simp [hd]
          clear hd
          go_wp2_with (go_at_call 40; refine (space_no _ HS.out _).mono ?_; rintro e w' ⟨rfl, rfl⟩)
          go_ret
          exact ⟨⟨k, VE.bare hsk (by omega) hs HP.out (fun _ => HD.out), rfl⟩, rfl⟩
      · have HS : Hid (¬ Spc (f k)) := fun g => hd (.inl g)
        have d1 : (f k != 44) = true := by simp; exact fun e => hd (.inr (.inl e))
        have d2 : (f k != 125) = true := by simp; exact fun e => hd (.inr (.inr (.inl e)))
        have d3 : (f k != 93) = true := by simp; exact fun e => hd (.inr (.inr (.inr e)))
        have HP2 : Hid (∀ i, s ≤ i → i < k + 1 → ¬ Dlm (f i)) := fun i a b => by
          by_cases e : i = k
          · rw [e]; exact hd
          · exact HP.out i a (by omega)
        clear hd
        go_wp2_with (go_at_call 40; refine (space_no _ HS.out _).mono ?_; rintro e w' ⟨rfl, rfl⟩)
        go_roundg (n - (k + 1))
        case measure => omega
        case rel => exact ⟨k + 1, by omega, by omega, by go_num, HP2.out, rfl, Nat.le_refl _⟩
    · obtain rfl : k = n := by omega
      go_wp2
      go_ret
      exact ⟨⟨k, VE.bare hsk (Nat.le_refl _) hs HP.out (fun g => by omega), rfl⟩, rfl⟩
end Go.Proofs.Qxb6600003a

/-
  THE WALKS of digitsEnd, numberEnd, ZZnumberEnd.
-/
import Derived.Test.Qxb6600003aWalk
import Derived.Deep.DeepCutAuto
import Derived.Deep.CutBlock
namespace Go.Proofs.Qxb6600003a
open Go.RowKit
set_option linter.unusedVariables false

/-- A byte that may stand in a number. -/
def NumC (c : Int) : Prop := (48 ≤ c ∧ c ≤ 57) ∨ c = 45 ∨ c = 43 ∨ c = 46 ∨ c = 101 ∨ c = 69

/-- A digit. -/
def Dig (c : Int) : Prop := 48 ≤ c ∧ c ≤ 57

/-- From i up to p all bytes may stand in a number. -/
def Nums (f : Nat → Int) (i p : Nat) : Prop := ∀ k, i ≤ k → k < p → NumC (f k)

theorem Nums.refl (f : Nat → Int) (i : Nat) : Nums f i i := fun k a b => by omega
theorem Nums.next {f : Nat → Int} {i p : Nat} (h : Nums f i p) (hp : NumC (f p)) : Nums f i (p + 1) := fun k a b => by
  by_cases e : k = p
  · rw [e]; exact hp
  · exact h k a (by omega)
theorem Nums.trans {f : Nat → Int} {i p q : Nat} (h : Nums f i p) (g : Nums f p q) : Nums f i q := fun k a b => by
  by_cases e : k < p
  · exact h k a e
  · exact g k (by omega) b

set_option maxHeartbeats 1000000 in
theorem digits_any (B n s : Nat) (f : Nat → Int) (hs : s ≤ n) (hn : n ≤ 1048576) (w : World) (hr : Row w B n f) :
    Calls Try.prog 41 #[.slice (some ⟨B, 0, none⟩) n n, .int .i64 s] w fun e w' => (∃ r : Nat, s ≤ r ∧ r ≤ n ∧ Nums f s r ∧ (r < n → ¬ Dig (f r)) ∧ e = .returned (.int .i64 (r : Int))) ∧ w' = w := by
  have HR : Hid (Row w B n f) := hr
  clear hr
  go_enter Try.func41, Try.ntmps41
  go_wp2_with fail
  go_loopg [1] n (fun g v wr => ∃ k : Nat, s ≤ k ∧ k ≤ n ∧ v = .int .i64 k ∧ Nums f s k ∧ wr = w ∧ n - k ≤ g)
  case atStart => exact ⟨s, Nat.le_refl _, hs, rfl, Nums.refl f s, rfl, by omega⟩
  case round =>
    obtain ⟨k, hsk, hkn, rfl, hp, rfl, hg⟩ := hrel
    have HP : Hid (Nums f s k) := hp
    clear hp
    by_cases hlt : k < n
    · have hck := HR.out k hlt
      by_cases hd : 48 ≤ f k ∧ f k ≤ 57
      · obtain ⟨d1, d2⟩ := hd
        have HP2 : Hid (Nums f s (k + 1)) := HP.out.next (.inl ⟨d1, d2⟩)
        go_wp2
        go_roundg (n - (k + 1))
        case measure => omega
        case rel => exact ⟨k + 1, by omega, by omega, by go_num, HP2.out, rfl, Nat.le_refl _⟩
      · by_cases d1 : 48 ≤ f k
        · have d2 : ¬ f k ≤ 57 := fun g => hd ⟨d1, g⟩
          have HD : Hid (¬ Dig (f k)) := hd
          clear hd
          go_wp2
          go_ret
          exact ⟨⟨k, hsk, hkn, HP.out, fun _ => HD.out, rfl⟩, rfl⟩
        · have HD : Hid (¬ Dig (f k)) := hd
          clear hd
          go_wp2
          go_ret
          exact ⟨⟨k, hsk, hkn, HP.out, fun _ => HD.out, rfl⟩, rfl⟩
    · obtain rfl : k = n := by omega
      go_wp2
      go_ret
      exact ⟨⟨k, hsk, Nat.le_refl _, HP.out, fun g => by omega, rfl⟩, rfl⟩

/-- What numberEnd answers from place i. -/
def NumOut (f : Nat → Int) (n i : Nat) (e : Ending) : Prop := ∃ (x : Int) (ok : Bool), e = .returned (.tuple #[.int .i64 x, .bool ok]) ∧ (ok = true → ∃ r : Nat, x = (r : Int) ∧ i < r ∧ r ≤ n ∧ Nums f i r)

set_option maxHeartbeats 2000000 in
set_option maxRecDepth 100000 in
theorem num_any (B n i : Nat) (f : Nat → Int) (hi : i < n) (hn : n ≤ 1048576) (w : World) (hr : Row w B n f) :
    Calls Try.prog 37 #[.slice (some ⟨B, 0, none⟩) n n, .int .i64 i] w fun e w' => NumOut f n i e ∧ w' = w := by
  have HR : Hid (Row w B n f) := hr
  have hci := hr i hi
  clear hr
  go_enter Try.func37, Try.ntmps37
  go_upto_if 18 with fail
  go_cut [1] (fun v wc => ∃ p : Nat, i ≤ p ∧ p ≤ n ∧ Nums f i p ∧ v = .int .i64 p ∧ wc = w)
  case first =>
    by_cases h45 : f i = 45
    · have e45 : (f i == 45) = true := by simpa using h45
      have HN : Hid (Nums f i (i + 1)) := (Nums.refl f i).next (by unfold NumC; omega)
      clear h45
      go_wp2_with fail
      go_meet
      case rel => exact ⟨i + 1, by omega, by omega, HN.out, by go_num, rfl⟩
    · have e45 : (f i == 45) = false := by simpa using h45
      clear h45
      go_wp2_with fail
      go_meet
      case rel => exact ⟨i, by omega, by omega, Nums.refl f i, rfl, rfl⟩
  case rest =>
    clear hci
    obtain ⟨p, hip, hpn, hnum, rfl, hw0⟩ := hcut
    obtain rfl := hw0
    obtain ⟨w, rfl⟩ : ∃ w : World, w = wc := ⟨_, rfl⟩
    have HN : Hid (Nums f i p) := hnum
    clear hnum
    go_upto_block 0 with fail
    go_cut [1] (fun v wc => ∃ q : Nat, i < q ∧ q ≤ n ∧ Nums f i q ∧ v = .int .i64 q ∧ wc = w)
    case first =>
      by_cases hp : p < n
      · have hcp := HR.out p hp
        by_cases h48 : f p = 48
        · have e48 : (f p == 48) = true := by simpa using h48
          have HN2 : Hid (Nums f i (p + 1)) := HN.out.next (by unfold NumC; omega)
          clear h48
          go_wp2_with fail
          go_meet
          case rel => exact ⟨p + 1, by omega, by omega, HN2.out, by go_num, rfl⟩
        · have e48 : (f p == 48) = false := by simpa using h48
          clear h48
          by_cases hd : 49 ≤ f p ∧ f p ≤ 57
          · obtain ⟨d1, d2⟩ := hd
            go_wp2_with fail
            refine (digits_any B n p f (by omega) hn _ HR.out).mono ?_
            rintro e w' ⟨⟨r, h1, h2, h3, h4, rfl⟩, rfl⟩
            have h5 : p < r := by
              apply Classical.byContradiction
              intro g
              obtain rfl : r = p := by omega
              exact h4 hp ⟨by omega, d2⟩
            have HN2 : Hid (Nums f i r) := HN.out.trans h3
            clear h3 h4
            go_wp2_with fail
            go_meet
            case rel => exact ⟨r, by omega, by omega, HN2.out, rfl, rfl⟩
          · by_cases d1 : 49 ≤ f p
            · have d2 : ¬ f p ≤ 57 := fun g => hd ⟨d1, g⟩
              clear hd
              go_wp2_with fail
              go_ret2
              exact ⟨⟨p, false, rfl, by simp⟩, rfl⟩
            · clear hd
              go_wp2_with fail
              go_ret2
              exact ⟨⟨p, false, rfl, by simp⟩, rfl⟩
      · go_wp2_with fail
        go_ret2
        exact ⟨⟨p, false, rfl, by simp⟩, rfl⟩
    case rest =>
      clear hip hpn HN
      obtain ⟨q, hiq, hqn, hnum, rfl, hw0⟩ := hcut
      obtain rfl := hw0
      obtain ⟨w, rfl⟩ : ∃ w : World, w = wc := ⟨_, rfl⟩
      have HN : Hid (Nums f i q) := hnum
      clear hnum
      by_cases hq : q < n
      · have hcq := HR.out q hq
        go_upto_if 68 with fail
        go_cut [1] (fun v wc => ∃ r : Nat, i < r ∧ r ≤ n ∧ Nums f i r ∧ v = .int .i64 r ∧ wc = w)
        case first =>
          by_cases h46 : f q = 46
          · have e46 : (f q == 46) = true := by simpa using h46
            have HN2 : Hid (Nums f i (q + 1)) := HN.out.next (by unfold NumC; omega)
            clear h46
            go_wp2_with fail
            have hq1 : ((q : Int) + 1) = ((q + 1 : Nat) : Int) := by omega
            rw [hq1]
            refine (digits_any B n (q + 1) f (by omega) hn _ HR.out).mono ?_
            rintro e w' ⟨⟨r, h1, h2, h3, h4, rfl⟩, rfl⟩
            have HN3 : Hid (Nums f i r) := HN2.out.trans h3
            rw [← hq1]
            clear h3 h4 hq1
            by_cases he : r = q + 1
            · have ee : ((r : Int) == (q : Int) + 1) = true := by rw [beq_iff_eq]; omega
              clear he
              go_wp2_with fail
              go_ret2
              exact ⟨⟨q, false, rfl, by simp⟩, rfl⟩
            · have ee : ((r : Int) == (q : Int) + 1) = false := by rw [beq_eq_false_iff_ne]; omega
              clear he
              go_wp2_with fail
              go_meet
              case rel => exact ⟨r, by omega, h2, HN3.out, rfl, rfl⟩
          · have e46 : (f q == 46) = false := by simpa using h46
            clear h46
            go_wp2_with fail
            go_meet
            case rel => exact ⟨q, hiq, hqn, HN.out, rfl, rfl⟩
        case rest =>
          clear hiq hqn HN hcq hq
          obtain ⟨r, hir, hrn, hnum, rfl, hw0⟩ := hcut
          obtain rfl := hw0
          obtain ⟨w, rfl⟩ : ∃ w : World, w = wc := ⟨_, rfl⟩
          have HN : Hid (Nums f i r) := hnum
          clear hnum
          by_cases hr : r < n
          · have hcr := HR.out r hr
            by_cases hE : f r = 101 ∨ f r = 69
            · have hEb : ((f r == 101) = true) ∨ ((f r == 101) = false ∧ (f r == 69) = true) := by
                rcases hE with h | h
                · left; simpa using h
                · right; rw [h]; exact ⟨rfl, rfl⟩
              have HN2 : Hid (Nums f i (r + 1)) := HN.out.next (by unfold NumC; omega)
              clear hE
              have hfin : ∀ (t : Nat), r < t → t ≤ n → Nums f i t → NumOut f n i (.returned (.tuple #[.int .i64 (t : Int), .bool true])) := fun t a b c => ⟨t, true, rfl, fun _ => ⟨t, rfl, by omega, b, c⟩⟩
              have HFIN : Hid (∀ (t : Nat), r < t → t ≤ n → Nums f i t → NumOut f n i (.returned (.tuple #[.int .i64 (t : Int), .bool true]))) := hfin
              clear hfin
              by_cases hr1 : r + 1 < n
              · have hcr1 := HR.out (r + 1) hr1
                by_cases hS : f (r + 1) = 43 ∨ f (r + 1) = 45
                · have hSb : ((f (r + 1) == 43) = true) ∨ ((f (r + 1) == 43) = false ∧ (f (r + 1) == 45) = true) := by
                    rcases hS with h | h
                    · left; simpa using h
                    · right; rw [h]; exact ⟨rfl, rfl⟩
                  have HN3 : Hid (Nums f i (r + 2)) := HN2.out.next (by unfold NumC; omega)
                  clear hS
                  rcases hEb with k1 | ⟨k1, k2⟩
                  all_goals
                    rcases hSb with k3 | ⟨k3, k4⟩
                    all_goals
                      go_wp2_with fail
                      have hT : ((r : Int) + 1 + 1) = ((r + 2 : Nat) : Int) := by omega
                      rw [hT]
                      refine (digits_any B n (r + 2) f (by omega) hn _ HR.out).mono ?_
                      rintro e w' ⟨⟨t, h1, h2, h3, h4, rfl⟩, rfl⟩
                      have HN4 : Hid (Nums f i t) := HN3.out.trans h3
                      rw [← hT]
                      clear h3 h4 hT
                      by_cases he : t = r + 2
                      · have ee : ((t : Int) == (r : Int) + 1 + 1) = true := by rw [beq_iff_eq]; omega
                        clear he
                        go_wp2_with fail
                        go_ret2
                        exact ⟨⟨_, false, rfl, by simp⟩, rfl⟩
                      · have ee : ((t : Int) == (r : Int) + 1 + 1) = false := by rw [beq_eq_false_iff_ne]; omega
                        clear he
                        go_wp2_with fail
                        go_ret2
                        exact ⟨HFIN.out t (by omega) h2 HN4.out, rfl⟩
                · have s1 : (f (r + 1) == 43) = false := by rw [beq_eq_false_iff_ne]; exact fun e => hS (.inl e)
                  have s2 : (f (r + 1) == 45) = false := by rw [beq_eq_false_iff_ne]; exact fun e => hS (.inr e)
                  clear hS
                  rcases hEb with k1 | ⟨k1, k2⟩
                  all_goals
                    go_wp2_with fail
                    have hT : ((r : Int) + 1) = ((r + 1 : Nat) : Int) := by omega
                    rw [hT]
                    refine (digits_any B n (r + 1) f (by omega) hn _ HR.out).mono ?_
                    rintro e w' ⟨⟨t, h1, h2, h3, h4, rfl⟩, rfl⟩
                    have HN4 : Hid (Nums f i t) := HN2.out.trans h3
                    rw [← hT]
                    clear h3 h4 hT
                    by_cases he : t = r + 1
                    · have ee : ((t : Int) == (r : Int) + 1) = true := by rw [beq_iff_eq]; omega
                      clear he
                      go_wp2_with fail
                      go_ret2
                      exact ⟨⟨_, false, rfl, by simp⟩, rfl⟩
                    · have ee : ((t : Int) == (r : Int) + 1) = false := by rw [beq_eq_false_iff_ne]; omega
                      clear he
                      go_wp2_with fail
                      go_ret2
                      exact ⟨HFIN.out t (by omega) h2 HN4.out, rfl⟩
              · rcases hEb with k1 | ⟨k1, k2⟩
                all_goals
                  go_wp2_with fail
                  have hT : ((r : Int) + 1) = ((r + 1 : Nat) : Int) := by omega
                  rw [hT]
                  refine (digits_any B n (r + 1) f (by omega) hn _ HR.out).mono ?_
                  rintro e w' ⟨⟨t, h1, h2, h3, h4, rfl⟩, rfl⟩
                  have HN4 : Hid (Nums f i t) := HN2.out.trans h3
                  rw [← hT]
                  clear h3 h4 hT
                  by_cases he : t = r + 1
                  · have ee : ((t : Int) == (r : Int) + 1) = true := by rw [beq_iff_eq]; omega
                    clear he
                    go_wp2_with fail
                    go_ret2
                    exact ⟨⟨_, false, rfl, by simp⟩, rfl⟩
                  · have ee : ((t : Int) == (r : Int) + 1) = false := by rw [beq_eq_false_iff_ne]; omega
                    clear he
                    go_wp2_with fail
                    go_ret2
                    exact ⟨HFIN.out t (by omega) h2 HN4.out, rfl⟩
            · have k1 : (f r == 101) = false := by rw [beq_eq_false_iff_ne]; exact fun e => hE (.inl e)
              have k2 : (f r == 69) = false := by rw [beq_eq_false_iff_ne]; exact fun e => hE (.inr e)
              clear hE
              go_wp2_with fail
              go_ret2
              exact ⟨⟨r, true, rfl, fun _ => ⟨r, rfl, hir, hrn, HN.out⟩⟩, rfl⟩
          · go_wp2_with fail
            go_ret2
            exact ⟨⟨r, true, rfl, fun _ => ⟨r, rfl, hir, hrn, HN.out⟩⟩, rfl⟩
      · go_wp2_with fail
        go_ret2
        exact ⟨⟨q, true, rfl, fun _ => ⟨q, rfl, hiq, hqn, HN.out⟩⟩, rfl⟩

theorem znum_any (B n i : Nat) (f : Nat → Int) (hi : i < n) (hn : n ≤ 1048576) (w : World) (hr : Row w B n f) :
    Calls Try.prog 23 #[.slice (some ⟨B, 0, none⟩) n n, .int .i64 i] w fun e w' => NumOut f n i e ∧ w' = w := by
  go_enter Try.func23, Try.ntmps23
  go_wp2_with fail
  refine (num_any B n i f hi hn _ hr).mono ?_
  rintro e w' ⟨⟨x, ok, rfl, h⟩, rfl⟩
  go_wp2_with fail
  go_ret2
  exact ⟨⟨x, ok, rfl, h⟩, rfl⟩
end Go.Proofs.Qxb6600003a

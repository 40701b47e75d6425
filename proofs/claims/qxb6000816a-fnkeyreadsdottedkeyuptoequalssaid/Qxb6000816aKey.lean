/-
  THE WALK of (*keyScanner).key and of ZZKey.
-/
import Derived.Test.Qxb6000816aQuoted
import Derived.Test.Qxb6000816aRune
namespace Go.Proofs.Qxb6000816a
open Go.RowKit
set_option linter.unusedVariables false

theorem Skip.cnt_top {t : ByteArray} {i j : Nat} (h : Skip t i j) (hi : i ≤ t.size + 4) : j ≤ t.size + 4 := by
  rcases h.top with g | g <;> omega
theorem Bare.cnt_eq {t : ByteArray} {i j : Nat} (h : Bare t i j) : cnt t j = cnt t i := by
  have : ∀ n, i + n ≤ j → cnt t (i + n) = cnt t i := by
    intro n
    induction n with
    | zero => intro _; rfl
    | succ n ih =>
      intro hn
      rw [← Nat.add_assoc, cnt_no t (i + n) (fun e => h.pass (i + n) (by omega) (by omega) (by unfold Cut6; omega)), ih (by omega)]
  have hle := h.le
  have := this (j - i) (by omega)
  rwa [show i + (j - i) = j by omega] at this

set_option maxHeartbeats 1000000 in
theorem key_any (b : Nat) (t : ByteArray) (k : Nat) (l : Int) (w : World) (h : Sc b t k l w) (hs : t.size ≤ 1073741824) (hk : k ≤ t.size) (hl1 : -1073741824 ≤ l) (hl2 : l ≤ 1073741824) :
    Calls Try.prog 28 #[.pointer (some ⟨b, 0, none⟩)] w fun e w' => e = .returned (.tuple #[]) ∧ ∃ j, k ≤ j ∧ j ≤ t.size + 4 ∧ Keyed t k j ∧ Sc b t j (l + cnt t j - cnt t k) w' ∧ Below b w w' := by
  go_enter Try.func28, Try.ntmps28
  go_wp2_with fail
  go_loopg [] (t.size + 1) (fun g wr => ∃ p, k ≤ p ∧ p ≤ t.size ∧ Head t k p ∧ Sc b t p (l + cnt t p - cnt t k) wr ∧ Below b w wr ∧ t.size + 1 - p ≤ g)
  case atStart => exact ⟨k, Nat.le_refl _, hk, Head.refl, by simpa using h, Below.refl _ _, by omega⟩
  case round =>
    obtain ⟨p, hkp, hpt, hhd, hsc, hbel, hg⟩ := hrel
    have bk := cnt_bd t k
    have bp := cnt_bd t p
    go_wp2_with fail
    refine (skip_any b t p _ _ hsc hs (by omega) (by omega)).mono ?_
    rintro e w1 ⟨rfl, p1, hk1, hs1, hb1⟩
    rw [show l + cnt t p - cnt t k + cnt t p1 - cnt t p = l + cnt t p1 - cnt t k by omega] at hs1
    have hp1 : p ≤ p1 := hk1.le
    have hp1t : p1 ≤ t.size := by rcases hk1.top with g | g <;> omega
    have hbel1 := hbel.trans hb1
    have bp1 := cnt_bd t p1
    clear hsc hb1 hbel
    have HS1 : Hid (Sc b t p1 (l + cnt t p1 - cnt t k) w1) := hs1
    have HK1 : Hid (Skip t p p1) := hk1
    clear hs1 hk1
    go_wp2_with fail
    refine (peek_sc HS1.out).mono ?_
    rintro e w' ⟨rfl, n1, rfl⟩
    by_cases hq : pk t p1 = 34 ∨ pk t p1 = 39
    · have hqq := hq
      have HQQ : Hid (pk t p1 = 34 ∨ pk t p1 = 39) := hqq
      clear hqq
      rcases hq with hq | hq
      · have e1 : (pk t p1 == 34) = true := by simpa using hq
        clear hq
        go_wp2_with fail
        refine (quoted_any b t p1 _ _ (HS1.out.drewN _) hs (by omega) (by omega) HQQ.out).mono ?_
        rintro e w2 ⟨rfl, p2, hk2, hs2, hb2⟩
        rw [show l + cnt t p1 - cnt t k + cnt t p2 - cnt t p1 = l + cnt t p2 - cnt t k by omega] at hs2
        have HS2 : Hid (Sc b t p2 (l + cnt t p2 - cnt t k) w2) := hs2
        have hp2 : p1 ≤ p2 := by have := hk2.le; omega
        have hp2t : p2 ≤ t.size + 4 := hk2.top
        have HT : Hid (Tok t p1 p2) := .inl ⟨HQQ.out, hk2⟩
        have hbel2 : Below b w w2 := (below_drewN hbel1 _).trans hb2
        clear hs2 hk2 hb2
        have bp2 := cnt_bd t p2
        go_wp2_with fail
        refine (skip_any b t p2 _ _ (HS2.out) hs (by omega) (by omega)).mono ?_
        rintro e w3 ⟨rfl, p3, hk3, hs3, hb3⟩
        rw [show l + cnt t p2 - cnt t k + cnt t p3 - cnt t p2 = l + cnt t p3 - cnt t k by omega] at hs3
        have hbel3 : Below b w w3 := (hbel2).trans hb3
        have hp3 : p2 ≤ p3 := hk3.le
        have hp3t : p3 ≤ t.size + 4 := hk3.cnt_top hp2t
        have HST : Hid (KStep t p p3) := ⟨p1, p2, HK1.out, HT.out, hk3⟩
        have HS3 : Hid (Sc b t p3 (l + cnt t p3 - cnt t k) w3) := hs3
        obtain ⟨_, c0, c1, c2, f1, f2⟩ := hs3
        clear hb3 hk3
        by_cases hd : pk t p3 = 46
        · have d46 : (pk t p3 != 46) = false := by simp [hd]
          have hlt : p3 < t.size := pk_in t p3 (by omega)
          have HH : Hid (Head t k (p3 + 1)) := hhd.next HST.out hd
          have HC : Hid (cnt t (p3 + 1) = cnt t p3) := cnt_no t p3 (by omega)
          clear hd
          go_wp2_with fail
          refine (peek_sc HS3.out).mono ?_
          rintro e w' ⟨rfl, n4, rfl⟩
          go_wp2_with fail
          go_roundg (t.size + 1 - (p3 + 1))
          case measure => omega
          case rel =>
            refine ⟨p3 + 1, by omega, by omega, HH.out, ?_, (below_drewN hbel3 _).setCell (Nat.le_refl _) _, Nat.le_refl _⟩
            rw [HC.out]
            exact (HS3.out.drewN _).setI (p3 + 1) (by omega)
        · have d46 : (pk t p3 != 46) = true := by simpa using hd
          have HH : Hid (Keyed t k p3) := ⟨p, hhd, HST.out, hd⟩
          clear hd
          go_wp2_with fail
          refine (peek_sc HS3.out).mono ?_
          rintro e w' ⟨rfl, n4, rfl⟩
          go_wp2_with fail
          go_returns
          exact ⟨rfl, p3, by omega, by omega, HH.out, HS3.out.drewN _, below_drewN hbel3 _⟩
      · have e1 : (pk t p1 == 39) = true := by simpa using hq
        have e0 : (pk t p1 == 34) = false := by rw [hq]; rfl
        clear hq
        go_wp2_with fail
        refine (quoted_any b t p1 _ _ (HS1.out.drewN _) hs (by omega) (by omega) HQQ.out).mono ?_
        rintro e w2 ⟨rfl, p2, hk2, hs2, hb2⟩
        rw [show l + cnt t p1 - cnt t k + cnt t p2 - cnt t p1 = l + cnt t p2 - cnt t k by omega] at hs2
        have HS2 : Hid (Sc b t p2 (l + cnt t p2 - cnt t k) w2) := hs2
        have hp2 : p1 ≤ p2 := by have := hk2.le; omega
        have hp2t : p2 ≤ t.size + 4 := hk2.top
        have HT : Hid (Tok t p1 p2) := .inl ⟨HQQ.out, hk2⟩
        have hbel2 : Below b w w2 := (below_drewN hbel1 _).trans hb2
        clear hs2 hk2 hb2
        have bp2 := cnt_bd t p2
        go_wp2_with fail
        refine (skip_any b t p2 _ _ (HS2.out) hs (by omega) (by omega)).mono ?_
        rintro e w3 ⟨rfl, p3, hk3, hs3, hb3⟩
        rw [show l + cnt t p2 - cnt t k + cnt t p3 - cnt t p2 = l + cnt t p3 - cnt t k by omega] at hs3
        have hbel3 : Below b w w3 := (hbel2).trans hb3
        have hp3 : p2 ≤ p3 := hk3.le
        have hp3t : p3 ≤ t.size + 4 := hk3.cnt_top hp2t
        have HST : Hid (KStep t p p3) := ⟨p1, p2, HK1.out, HT.out, hk3⟩
        have HS3 : Hid (Sc b t p3 (l + cnt t p3 - cnt t k) w3) := hs3
        obtain ⟨_, c0, c1, c2, f1, f2⟩ := hs3
        clear hb3 hk3
        by_cases hd : pk t p3 = 46
        · have d46 : (pk t p3 != 46) = false := by simp [hd]
          have hlt : p3 < t.size := pk_in t p3 (by omega)
          have HH : Hid (Head t k (p3 + 1)) := hhd.next HST.out hd
          have HC : Hid (cnt t (p3 + 1) = cnt t p3) := cnt_no t p3 (by omega)
          clear hd
          go_wp2_with fail
          refine (peek_sc HS3.out).mono ?_
          rintro e w' ⟨rfl, n4, rfl⟩
          go_wp2_with fail
          go_roundg (t.size + 1 - (p3 + 1))
          case measure => omega
          case rel =>
            refine ⟨p3 + 1, by omega, by omega, HH.out, ?_, (below_drewN hbel3 _).setCell (Nat.le_refl _) _, Nat.le_refl _⟩
            rw [HC.out]
            exact (HS3.out.drewN _).setI (p3 + 1) (by omega)
        · have d46 : (pk t p3 != 46) = true := by simpa using hd
          have HH : Hid (Keyed t k p3) := ⟨p, hhd, HST.out, hd⟩
          clear hd
          go_wp2_with fail
          refine (peek_sc HS3.out).mono ?_
          rintro e w' ⟨rfl, n4, rfl⟩
          go_wp2_with fail
          go_returns
          exact ⟨rfl, p3, by omega, by omega, HH.out, HS3.out.drewN _, below_drewN hbel3 _⟩
    · have hn34 : pk t p1 ≠ 34 := fun e => hq (.inl e)
      have hn39 : pk t p1 ≠ 39 := fun e => hq (.inr e)
      have e34 : (pk t p1 == 34) = false := by simpa using hn34
      have e39 : (pk t p1 == 39) = false := by simpa using hn39
      have HQN : Hid (pk t p1 ≠ 34 ∧ pk t p1 ≠ 39) := ⟨hn34, hn39⟩
      clear hq hn34 hn39
      go_wp2_with fail
      have HG : Hid (t.size + 1 - p ≤ gk) := hg
      obtain ⟨go, rfl⟩ : ∃ go : Nat, go = gk := ⟨_, rfl⟩
      obtain ⟨wo, rfl⟩ : ∃ wo : World, wo = wr := ⟨_, rfl⟩
      go_loopg [] t.size (fun g wr => ∃ i, p1 ≤ i ∧ i ≤ t.size ∧ (∀ m, p1 ≤ m → m < i → ¬ Cut6 (pk t m)) ∧ Sc b t i (l + cnt t p1 - cnt t k) wr ∧ Below b w wr ∧ t.size - i ≤ g)
      case atStart => exact ⟨p1, Nat.le_refl _, hp1t, fun m h1 h2 => by omega, HS1.out.drewN _, below_drewN hbel1 _, by omega⟩
      case round =>
        obtain ⟨i, hpi, hit, hpass, hsi, hbi, hgi⟩ := hrel
        have HSI : Hid (Sc b t i (l + cnt t p1 - cnt t k) wr) := hsi
        have HPS : Hid (∀ m, p1 ≤ m → m < i → ¬ Cut6 (pk t m)) := hpass
        obtain ⟨_, c0, c1, c2, f1, f2⟩ := hsi
        have hpb := pk_bd t i
        clear hpass
        obtain ⟨hpb1, hpb2⟩ := hpb
        by_cases hi : i < t.size
        · by_cases hc : Cut6 (pk t i)
          · have HBR : Hid (Bare t p1 i) := ⟨hpi, .inl hit, HPS.out, fun _ => hc⟩
            have HC6 : Hid (Cut6 (pk t i)) := hc
            clear hc
            go_wp2_with (first | (go_at_call 31; refine (done_scN HSI.out hi).mono ?_; rintro e w' ⟨rfl, n2, rfl⟩) | (go_at_call 32; refine (peek_sc (HSI.out.drewN _)).mono ?_; rintro e w' ⟨rfl, n3, rfl⟩) | (go_at_call 33; refine (cr_yes _ HC6.out _).mono ?_; rintro e w' ⟨rfl, n4, rfl⟩))
            obtain ⟨p2, hpe⟩ : ∃ p2, p2 = i := ⟨_, rfl⟩
            have HT : Hid (Tok t p1 p2) := .inr ⟨HQN.out, by rw [hpe]; exact HBR.out⟩
            have hp2 : p1 ≤ p2 := by omega
            have hp2t : p2 ≤ t.size + 4 := by omega
            have HS2 : Hid (Sc b t p2 (l + cnt t p2 - cnt t k) wr) := by rw [hpe, HBR.out.cnt_eq]; exact HSI.out
            clear hpe
            have hg := HG.out
            clear c0 c1 c2 f1 f2
            have bp2 := cnt_bd t p2
            refine (skip_any b t p2 _ _ (HS2.out.drewN _) hs (by omega) (by omega)).mono ?_
            rintro e w3 ⟨rfl, p3, hk3, hs3, hb3⟩
            rw [show l + cnt t p2 - cnt t k + cnt t p3 - cnt t p2 = l + cnt t p3 - cnt t k by omega] at hs3
            have hbel3 : Below b w w3 := (below_drewN hbi _).trans hb3
            have hp3 : p2 ≤ p3 := hk3.le
            have hp3t : p3 ≤ t.size + 4 := hk3.cnt_top hp2t
            have HST : Hid (KStep t p p3) := ⟨p1, p2, HK1.out, HT.out, hk3⟩
            have HS3 : Hid (Sc b t p3 (l + cnt t p3 - cnt t k) w3) := hs3
            obtain ⟨_, c0, c1, c2, f1, f2⟩ := hs3
            clear hb3 hk3
            by_cases hd : pk t p3 = 46
            · have d46 : (pk t p3 != 46) = false := by simp [hd]
              have hlt : p3 < t.size := pk_in t p3 (by omega)
              have HH : Hid (Head t k (p3 + 1)) := hhd.next HST.out hd
              have HC : Hid (cnt t (p3 + 1) = cnt t p3) := cnt_no t p3 (by omega)
              clear hd
              go_wp2_with fail
              refine (peek_sc HS3.out).mono ?_
              rintro e w' ⟨rfl, n4, rfl⟩
              go_wp2_with fail
              go_roundg (t.size + 1 - (p3 + 1))
              case measure => omega
              case rel =>
                refine ⟨p3 + 1, by omega, by omega, HH.out, ?_, (below_drewN hbel3 _).setCell (Nat.le_refl _) _, Nat.le_refl _⟩
                rw [HC.out]
                exact (HS3.out.drewN _).setI (p3 + 1) (by omega)
            · have d46 : (pk t p3 != 46) = true := by simpa using hd
              have HH : Hid (Keyed t k p3) := ⟨p, hhd, HST.out, hd⟩
              clear hd
              go_wp2_with fail
              refine (peek_sc HS3.out).mono ?_
              rintro e w' ⟨rfl, n4, rfl⟩
              go_wp2_with fail
              go_returns
              exact ⟨rfl, p3, by omega, by omega, HH.out, HS3.out.drewN _, below_drewN hbel3 _⟩
          · have HC6 : Hid (¬ Cut6 (pk t i)) := hc
            have HP2 : Hid (∀ m, p1 ≤ m → m < i + 1 → ¬ Cut6 (pk t m)) := fun m h1 h2 => by
              by_cases e : m = i
              · rw [e]; exact hc
              · exact HPS.out m h1 (by omega)
            clear hc
            go_wp2_with (first | (go_at_call 31; refine (done_scN HSI.out hi).mono ?_; rintro e w' ⟨rfl, n2, rfl⟩) | (go_at_call 32; refine (peek_sc (HSI.out.drewN _)).mono ?_; rintro e w' ⟨rfl, n3, rfl⟩) | (go_at_call 33; refine (cr_no _ hpb1 hpb2 HC6.out _).mono ?_; rintro e w' ⟨rfl, n4, rfl⟩))
            go_roundg (t.size - (i + 1))
            case measure => omega
            case rel => exact ⟨i + 1, by omega, by omega, HP2.out, (HSI.out.drewN _).setI (i + 1) (by omega), (below_drewN hbi _).setCell (Nat.le_refl _) _, Nat.le_refl _⟩
        · have hi' : t.size ≤ i := by omega
          have HBR : Hid (Bare t p1 i) := ⟨hpi, .inl hit, HPS.out, fun g => absurd g hi⟩
          go_wp2_with (first | (go_at_call 31; refine (done_scY HSI.out hi').mono ?_; rintro e w' ⟨rfl, n2, rfl⟩))
          obtain ⟨p2, hpe⟩ : ∃ p2, p2 = i := ⟨_, rfl⟩
          have HT : Hid (Tok t p1 p2) := .inr ⟨HQN.out, by rw [hpe]; exact HBR.out⟩
          have hp2 : p1 ≤ p2 := by omega
          have hp2t : p2 ≤ t.size + 4 := by omega
          have HS2 : Hid (Sc b t p2 (l + cnt t p2 - cnt t k) wr) := by rw [hpe, HBR.out.cnt_eq]; exact HSI.out
          clear hpe
          have hg := HG.out
          clear c0 c1 c2 f1 f2
          have bp2 := cnt_bd t p2
          refine (skip_any b t p2 _ _ (HS2.out.drewN _) hs (by omega) (by omega)).mono ?_
          rintro e w3 ⟨rfl, p3, hk3, hs3, hb3⟩
          rw [show l + cnt t p2 - cnt t k + cnt t p3 - cnt t p2 = l + cnt t p3 - cnt t k by omega] at hs3
          have hbel3 : Below b w w3 := (below_drewN hbi _).trans hb3
          have hp3 : p2 ≤ p3 := hk3.le
          have hp3t : p3 ≤ t.size + 4 := hk3.cnt_top hp2t
          have HST : Hid (KStep t p p3) := ⟨p1, p2, HK1.out, HT.out, hk3⟩
          have HS3 : Hid (Sc b t p3 (l + cnt t p3 - cnt t k) w3) := hs3
          obtain ⟨_, c0, c1, c2, f1, f2⟩ := hs3
          clear hb3 hk3
          by_cases hd : pk t p3 = 46
          · have d46 : (pk t p3 != 46) = false := by simp [hd]
            have hlt : p3 < t.size := pk_in t p3 (by omega)
            have HH : Hid (Head t k (p3 + 1)) := hhd.next HST.out hd
            have HC : Hid (cnt t (p3 + 1) = cnt t p3) := cnt_no t p3 (by omega)
            clear hd
            go_wp2_with fail
            refine (peek_sc HS3.out).mono ?_
            rintro e w' ⟨rfl, n4, rfl⟩
            go_wp2_with fail
            go_roundg (t.size + 1 - (p3 + 1))
            case measure => omega
            case rel =>
              refine ⟨p3 + 1, by omega, by omega, HH.out, ?_, (below_drewN hbel3 _).setCell (Nat.le_refl _) _, Nat.le_refl _⟩
              rw [HC.out]
              exact (HS3.out.drewN _).setI (p3 + 1) (by omega)
          · have d46 : (pk t p3 != 46) = true := by simpa using hd
            have HH : Hid (Keyed t k p3) := ⟨p, hhd, HST.out, hd⟩
            clear hd
            go_wp2_with fail
            refine (peek_sc HS3.out).mono ?_
            rintro e w' ⟨rfl, n4, rfl⟩
            go_wp2_with fail
            go_returns
            exact ⟨rfl, p3, by omega, by omega, HH.out, HS3.out.drewN _, below_drewN hbel3 _⟩

end Go.Proofs.Qxb6000816a

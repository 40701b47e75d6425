import Derived.Test.Qxb6000816aProg
import Derived.Test.Qxb6000816aPlain
import Derived.WalkKit
import Derived.WalkSpells
import Derived.WalkLawsBesides
import Derived.BigQuiet
import Derived.Deep.QuietTactic
import Derived.Deep.LoopGhost
import Derived.Handy
namespace Go.Proofs.Qxb6000816a
open Go.RowKit

theorem ret_int {k : IntKind} {a b : Int} (h : a = b) : Ending.returned (.int k a) = .returned (.int k b) := by rw [h]

theorem done_no (b : Nat) (t : ByteArray) (k : Nat) (w : World) (h : k < t.size)
    (c0 : w.cell? ⟨b, 0, none⟩ = some (.string t)) (c1 : w.cell? ⟨b, 1, none⟩ = some (.int .i64 k)) :
    Calls Try.prog 31 #[.pointer (some ⟨b, 0, none⟩)] w fun e w' => e = .returned (.bool false) ∧ ∃ n, w' = w.drewN n := by
  go_enter Try.func31, Try.ntmps31
  go_wp2
  go_quiet (fail)
  go_wp2
  go_ret
  exact ⟨by simp; omega, _, rfl⟩

theorem done_yes (b : Nat) (t : ByteArray) (k : Nat) (w : World) (h : t.size ≤ k)
    (c0 : w.cell? ⟨b, 0, none⟩ = some (.string t)) (c1 : w.cell? ⟨b, 1, none⟩ = some (.int .i64 k)) :
    Calls Try.prog 31 #[.pointer (some ⟨b, 0, none⟩)] w fun e w' => e = .returned (.bool true) ∧ ∃ n, w' = w.drewN n := by
  go_enter Try.func31, Try.ntmps31
  go_wp2
  go_quiet (fail)
  go_wp2
  go_ret
  exact ⟨by simp, _, rfl⟩

theorem peek_any (b : Nat) (t : ByteArray) (k : Nat) (w : World)
    (c0 : w.cell? ⟨b, 0, none⟩ = some (.string t)) (c1 : w.cell? ⟨b, 1, none⟩ = some (.int .i64 k)) :
    Calls Try.prog 32 #[.pointer (some ⟨b, 0, none⟩)] w fun e w' => e = .returned (.int .u8 (pk t k)) ∧ ∃ n, w' = w.drewN n := by
  by_cases h : k < t.size
  · go_enter Try.func32, Try.ntmps32
    go_wp2_with (go_at_call 31; refine (done_no b t k _ h c0 c1).mono ?_; rintro e w' ⟨rfl, n, rfl⟩)
    go_quiet (fail)
    go_wp2
    go_ret
    exact ⟨ret_int (pk_lt t k h), _, World.drewN_drewN _ _ _⟩
  · have h' : t.size ≤ k := by omega
    go_enter Try.func32, Try.ntmps32
    go_wp2_with (go_at_call 31; refine (done_yes b t k _ h' c0 c1).mono ?_; rintro e w' ⟨rfl, n, rfl⟩)
    go_ret
    exact ⟨ret_int (pk_ge t k h').symm, _, rfl⟩

/-- The scanner in block b: text t, place k, line l. -/
structure Sc (b : Nat) (t : ByteArray) (k : Nat) (l : Int) (w : World) : Prop where
  blk : b < w.heap.size
  c0 : w.cell? ⟨b, 0, none⟩ = some (.string t)
  c1 : w.cell? ⟨b, 1, none⟩ = some (.int .i64 k)
  c2 : w.cell? ⟨b, 2, none⟩ = some (.int .i64 l)
  f1 : w.frozen? ⟨b, 1, none⟩ = false
  f2 : w.frozen? ⟨b, 2, none⟩ = false

theorem Sc.drewN {b : Nat} {t : ByteArray} {k : Nat} {l : Int} {w : World} (h : Sc b t k l w) (n : Nat) : Sc b t k l (w.drewN n) :=
  ⟨h.blk, h.c0, h.c1, h.c2, h.f1, h.f2⟩

theorem Sc.setI {b : Nat} {t : ByteArray} {k : Nat} {l : Int} {w : World} (h : Sc b t k l w) (k' : Nat) {v : Int} (hv : v = (k' : Int)) : Sc b t k' l (w.setCell ⟨b, 1, none⟩ (.int .i64 v)) :=
  hv ▸ ⟨by simpa using h.blk, by rw [World.cell?_setCell_other _ _ _ _ (by simp)]; exact h.c0, World.cell?_setCell_same _ _ _ h.c1, by rw [World.cell?_setCell_other _ _ _ _ (by simp)]; exact h.c2, by simpa using h.f1, by simpa using h.f2⟩

theorem Sc.setL {b : Nat} {t : ByteArray} {k : Nat} {l : Int} {w : World} (h : Sc b t k l w) (l' : Int) {v : Int} (hv : v = l') : Sc b t k l' (w.setCell ⟨b, 2, none⟩ (.int .i64 v)) :=
  hv ▸ ⟨by simpa using h.blk, by rw [World.cell?_setCell_other _ _ _ _ (by simp)]; exact h.c0, by rw [World.cell?_setCell_other _ _ _ _ (by simp)]; exact h.c1, World.cell?_setCell_same _ _ _ h.c2, by simpa using h.f1, by simpa using h.f2⟩


set_option maxHeartbeats 1000000 in
theorem skip_any (b : Nat) (t : ByteArray) (k : Nat) (l : Int) (w : World) (h : Sc b t k l w) (hs : t.size ≤ 1073741824) (hl1 : -1099511627776 ≤ l) (hl2 : l ≤ 1099511627776) :
    Calls Try.prog 27 #[.pointer (some ⟨b, 0, none⟩)] w fun e w' => e = .returned (.tuple #[]) ∧ ∃ j, Skip t k j ∧ Sc b t j (l + cnt t j - cnt t k) w' ∧ Below b w w' := by
  go_enter Try.func27, Try.ntmps27
  go_wp2_with fail
  go_loopg [] t.size (fun g wr => ∃ j, k ≤ j ∧ (j ≤ t.size ∨ j = k) ∧ Pre t k j ∧ Sc b t j (l + cnt t j - cnt t k) wr ∧ Below b w wr ∧ t.size - j ≤ g)
  case atStart => exact ⟨k, Nat.le_refl _, .inr rfl, Pre.refl _ _, by simpa using h, Below.refl _ _, by omega⟩
  case round =>
    obtain ⟨j, hkj, hjt, hpre, hsc, hbel, hg⟩ := hrel
    by_cases hj : j < t.size
    · obtain ⟨L, hL⟩ : ∃ L, L = l + cnt t j - cnt t k := ⟨_, rfl⟩
      have HL : Hid (L = l + cnt t j - cnt t k) := hL
      rw [← hL] at hsc
      have H : Hid (Sc b t j L wr) := hsc
      have b1 := cnt_bd t j
      have b2 := cnt_bd t k
      have hL1 : -1099511627776 - 1073741824 ≤ L := by omega
      have hL2 : L ≤ 1099511627776 + 1073741824 := by omega
      obtain ⟨_, c0, c1, c2, f1, f2⟩ := hsc
      clear hL b1 b2
      by_cases hp10 : pk t j = 10
      · have e10 : (pk t j == 10) = true := by simpa using hp10
        have HC : Hid (cnt t (j + 1) = cnt t j + 1) := cnt_yes t j hp10
        have hpre' : Pre t k (j + 1) := hpre.blank (.inl hp10)
        clear hp10
        go_wp2_with (first | (go_at_call 31; refine (done_no b t j _ hj c0 c1).mono ?_; rintro e w' ⟨rfl, n, rfl⟩) | (go_at_call 32; refine (peek_any b t j _ (by simpa using c0) (by simpa using c1)).mono ?_; rintro e w' ⟨rfl, n, rfl⟩))
        go_roundg (t.size - (j + 1))
        case measure => omega
        case rel =>
          refine ⟨j + 1, by omega, .inl hj, hpre', ?_, ((below_drewN hbel _).setCell (Nat.le_refl _) _).setCell (Nat.le_refl _) _, Nat.le_refl _⟩
          rw [show l + cnt t (j + 1) - cnt t k = L + 1 by have := HC.out; have := HL.out; omega]
          exact ((H.out.drewN _).setL (L + 1) rfl).setI (j + 1) (by omega)
      · have e10 : (pk t j == 10) = false := by simpa using hp10
        have HC : Hid (cnt t (j + 1) = cnt t j) := cnt_no t j hp10
        clear hp10
        by_cases hpb : pk t j = 32 ∨ pk t j = 9 ∨ pk t j = 13
        · have hpre' : Pre t k (j + 1) := hpre.blank (.inr hpb)
          rcases hpb with hp | hp | hp
          · have e32 : (pk t j == 32) = true := by simpa using hp
            clear hp
            go_wp2_with (first | (go_at_call 31; refine (done_no b t j _ hj c0 c1).mono ?_; rintro e w' ⟨rfl, n, rfl⟩) | (go_at_call 32; refine (peek_any b t j _ (by simpa using c0) (by simpa using c1)).mono ?_; rintro e w' ⟨rfl, n, rfl⟩))
            go_roundg (t.size - (j + 1))
            case measure => omega
            case rel =>
              refine ⟨j + 1, by omega, .inl hj, hpre', ?_, (below_drewN hbel _).setCell (Nat.le_refl _) _, Nat.le_refl _⟩
              rw [show l + cnt t (j + 1) - cnt t k = L by have := HC.out; have := HL.out; omega]
              exact (H.out.drewN _).setI (j + 1) (by omega)
          · have e32 : (pk t j == 32) = false := by rw [hp]; rfl
            have e9 : (pk t j == 9) = true := by simpa using hp
            clear hp
            go_wp2_with (first | (go_at_call 31; refine (done_no b t j _ hj c0 c1).mono ?_; rintro e w' ⟨rfl, n, rfl⟩) | (go_at_call 32; refine (peek_any b t j _ (by simpa using c0) (by simpa using c1)).mono ?_; rintro e w' ⟨rfl, n, rfl⟩))
            go_roundg (t.size - (j + 1))
            case measure => omega
            case rel =>
              refine ⟨j + 1, by omega, .inl hj, hpre', ?_, (below_drewN hbel _).setCell (Nat.le_refl _) _, Nat.le_refl _⟩
              rw [show l + cnt t (j + 1) - cnt t k = L by have := HC.out; have := HL.out; omega]
              exact (H.out.drewN _).setI (j + 1) (by omega)
          · have e32 : (pk t j == 32) = false := by rw [hp]; rfl
            have e9 : (pk t j == 9) = false := by rw [hp]; rfl
            have e13 : (pk t j == 13) = true := by simpa using hp
            clear hp
            go_wp2_with (first | (go_at_call 31; refine (done_no b t j _ hj c0 c1).mono ?_; rintro e w' ⟨rfl, n, rfl⟩) | (go_at_call 32; refine (peek_any b t j _ (by simpa using c0) (by simpa using c1)).mono ?_; rintro e w' ⟨rfl, n, rfl⟩))
            go_roundg (t.size - (j + 1))
            case measure => omega
            case rel =>
              refine ⟨j + 1, by omega, .inl hj, hpre', ?_, (below_drewN hbel _).setCell (Nat.le_refl _) _, Nat.le_refl _⟩
              rw [show l + cnt t (j + 1) - cnt t k = L by have := HC.out; have := HL.out; omega]
              exact (H.out.drewN _).setI (j + 1) (by omega)
        · have e32 : (pk t j == 32) = false := by rw [beq_eq_false_iff_ne]; exact fun e => hpb (.inl e)
          have e9 : (pk t j == 9) = false := by rw [beq_eq_false_iff_ne]; exact fun e => hpb (.inr (.inl e))
          have e13 : (pk t j == 13) = false := by rw [beq_eq_false_iff_ne]; exact fun e => hpb (.inr (.inr e))
          clear hpb
          by_cases hp : pk t j = 35
          · have e35 : (pk t j == 35) = true := by simpa using hp
            have HP : Hid (pk t j = 35) := hp
            clear hp
            go_wp2_with (first | (go_at_call 31; refine (done_no b t j _ hj c0 c1).mono ?_; rintro e w' ⟨rfl, n, rfl⟩) | (go_at_call 32; refine (peek_any b t j _ (by simpa using c0) (by simpa using c1)).mono ?_; rintro e w' ⟨rfl, n, rfl⟩))
            have HQ : Hid (Below b w wr) := hbel
            have HG : Hid (t.size - j ≤ gk) := hg
            obtain ⟨wo, rfl⟩ : ∃ wo : World, wo = wr := ⟨_, rfl⟩
            obtain ⟨go, rfl⟩ : ∃ go : Nat, go = gk := ⟨_, rfl⟩
            clear hbel hg
            go_loopg [] t.size (fun g wr => ∃ i, j ≤ i ∧ i ≤ t.size ∧ Pre t k i ∧ cnt t i = cnt t j ∧ Sc b t i L wr ∧ Below b w wr ∧ t.size - i ≤ g)
            case atStart => exact ⟨j, Nat.le_refl _, by omega, hpre, rfl, H.out.drewN _, below_drewN HQ.out _, by omega⟩
            case round =>
              obtain ⟨i, hji, hit, hpre2, hci, hsc2, hbel2, hg2⟩ := hrel
              have HCI : Hid (cnt t i = cnt t j) := hci
              clear hci c0 c1 c2 f1 f2
              have H2 : Hid (Sc b t i L wr) := hsc2
              obtain ⟨_, c0, c1, c2, f1, f2⟩ := hsc2
              by_cases hi : i < t.size
              · by_cases hp : pk t i = 10
                · have d10 : (pk t i != 10) = false := by simp [hp]
                  have hij : i ≠ j := fun e => by subst e; have := HP.out; omega
                  clear hp
                  go_wp2_with (first | (go_at_call 31; refine (done_no b t i _ hi c0 c1).mono ?_; rintro e w' ⟨rfl, n, rfl⟩) | (go_at_call 32; refine (peek_any b t i _ (by simpa using c0) (by simpa using c1)).mono ?_; rintro e w' ⟨rfl, n, rfl⟩))
                  go_roundg (t.size - i)
                  case measure => have := HG.out; omega
                  case rel =>
                    refine ⟨i, by omega, .inl hit, hpre2, ?_, below_drewN hbel2 _, Nat.le_refl _⟩
                    rw [show l + cnt t i - cnt t k = L by have := HCI.out; have := HL.out; omega]
                    exact H2.out.drewN _
                · have d10 : (pk t i != 10) = true := by simpa using hp
                  have HC2 : Hid (cnt t (i + 1) = cnt t i) := cnt_no t i hp
                  clear hp
                  go_wp2_with (first | (go_at_call 31; refine (done_no b t i _ hi c0 c1).mono ?_; rintro e w' ⟨rfl, n, rfl⟩) | (go_at_call 32; refine (peek_any b t i _ (by simpa using c0) (by simpa using c1)).mono ?_; rintro e w' ⟨rfl, n, rfl⟩))
                  go_roundg (t.size - (i + 1))
                  case measure => omega
                  case rel =>
                    exact ⟨i + 1, by omega, hi, hpre2.hash hkj hji HP.out, by rw [HC2.out]; exact HCI.out, (H2.out.drewN _).setI (i + 1) (by omega), (below_drewN hbel2 _).setCell (Nat.le_refl _) _, Nat.le_refl _⟩
              · have hi' : t.size ≤ i := by omega
                have hij : i ≠ j := by omega
                go_wp2_with (go_at_call 31; refine (done_yes b t i _ hi' c0 c1).mono ?_; rintro e w' ⟨rfl, n, rfl⟩)
                go_roundg (t.size - i)
                case measure => have := HG.out; omega
                case rel =>
                  refine ⟨i, by omega, .inl hit, hpre2, ?_, below_drewN hbel2 _, Nat.le_refl _⟩
                  rw [show l + cnt t i - cnt t k = L by have := HCI.out; have := HL.out; omega]
                  exact H2.out.drewN _
          · have e35 : (pk t j == 35) = false := by simpa using hp
            have HS : Hid (¬ Blk (pk t j) ∧ pk t j ≠ 35) := by
              refine ⟨?_, hp⟩
              simp only [beq_eq_false_iff_ne] at e10 e32 e9 e13
              rintro (g | g | g | g)
              · exact e10 g
              · exact e32 g
              · exact e9 g
              · exact e13 g
            clear hp
            go_wp2_with (first | (go_at_call 31; refine (done_no b t j _ hj c0 c1).mono ?_; rintro e w' ⟨rfl, n, rfl⟩) | (go_at_call 32; refine (peek_any b t j _ (by simpa using c0) (by simpa using c1)).mono ?_; rintro e w' ⟨rfl, n, rfl⟩))
            go_returns
            refine ⟨rfl, j, ⟨hkj, hjt, hpre, fun _ => HS.out⟩, ?_, below_drewN hbel _⟩
            rw [← HL.out]
            exact H.out.drewN _
    · have hj' : t.size ≤ j := by omega
      have H : Hid (Sc b t j (l + cnt t j - cnt t k) wr) := hsc
      obtain ⟨_, c0, c1, _, _, _⟩ := hsc
      go_wp2_with (go_at_call 31; refine (done_yes b t j _ hj' c0 c1).mono ?_; rintro e w' ⟨rfl, n, rfl⟩)
      go_end0
      exact ⟨rfl, j, ⟨hkj, hjt, hpre, fun hlt => by omega⟩, H.out.drewN _, below_drewN hbel _⟩
end Go.Proofs.Qxb6000816a

/-
  THE WALK of (*keyScanner).quoted.
-/
import Derived.Test.Qxb6000816aScan
import Derived.Test.Qxb6000816aShelf
import Derived.Lib.IndexBytes
import Derived.Deep.RegionHeld3
namespace Go.Proofs.Qxb6000816a
open Go.RowKit
set_option linter.unusedVariables false

theorem rep3 (qb : UInt8) (w : World) :
    Calls Try.prog 35 #[.string ⟨#[qb]⟩, .int .i64 3] w fun e w' => e = .returned (.string ⟨#[qb, qb, qb]⟩) ∧ Below w.heap.size w w' := by
  refine (Try.strings_Repeat ⟨#[qb]⟩ 3 w (by decide) (show 1 * 3 ≤ 140737488355328 by decide)).mono ?_
  rintro e w' ⟨rfl, h⟩
  exact ⟨rfl, h⟩

theorem hp_yes (t : ByteArray) (j : Nat) (qb : UInt8) (hq : qb.toNat ≠ 0) (m : Nat) (d : ByteArray) (hd : d = ⟨(List.replicate m qb).toArray⟩) (h : At t j qb.toNat m) (w : World) :
    Calls Try.prog 34 #[.string (t.extract j t.size), .string d] w fun e w' => e = .returned (.bool true) ∧ w' = w := by
  subst hd
  refine (Try.strings_HasPrefix _ _ w).mono ?_
  rintro e w' ⟨rfl, rfl⟩
  refine ⟨?_, rfl⟩
  rw [Lib.extract_to_end]
  show Ending.returned (.bool ((List.replicate m qb).isPrefixOf _)) = _
  rw [(pre_at t j qb hq m).2 h]

theorem hp_no (t : ByteArray) (j : Nat) (qb : UInt8) (hq : qb.toNat ≠ 0) (m : Nat) (d : ByteArray) (hd : d = ⟨(List.replicate m qb).toArray⟩) (h : ¬ At t j qb.toNat m) (w : World) :
    Calls Try.prog 34 #[.string (t.extract j t.size), .string d] w fun e w' => e = .returned (.bool false) ∧ w' = w := by
  subst hd
  refine (Try.strings_HasPrefix _ _ w).mono ?_
  rintro e w' ⟨rfl, rfl⟩
  refine ⟨?_, rfl⟩
  rw [Lib.extract_to_end]
  show Ending.returned (.bool ((List.replicate m qb).isPrefixOf _)) = _
  have := mt (pre_at t j qb hq m).1 h
  rw [Bool.not_eq_true] at this
  rw [this]

theorem keepS {b : Nat} {t : ByteArray} {k : Nat} {w w0 w1 : World} (hb : Below w0.heap.size w0 w1) (hh : w0.heap = w.heap) (h0 : b < w.heap.size) (c0 : w.cell? ⟨b, 0, none⟩ = some (.string t)) (c1 : w.cell? ⟨b, 1, none⟩ = some (.int .i64 k)) :
    b < w1.heap.size ∧ w1.cell? ⟨b, 0, none⟩ = some (.string t) ∧ w1.cell? ⟨b, 1, none⟩ = some (.int .i64 k) := by
  have hz := hb.size
  have hw : b < w0.heap.size := by rw [hh]; exact h0
  have e : ∀ a, w0.cell? a = w.cell? a := fun a => by unfold World.cell?; rw [hh]
  exact ⟨by omega, by rw [hb.cell (p := ⟨b, 0, none⟩) hw, e]; exact c0, by rw [hb.cell (p := ⟨b, 1, none⟩) hw, e]; exact c1⟩

theorem Sc.later {b : Nat} {t : ByteArray} {k : Nat} {l : Int} {w w0 w1 : World} (h : Sc b t k l w) (hb : Below w0.heap.size w0 w1) (hh : w0.heap = w.heap) : Sc b t k l w1 := by
  obtain ⟨h0, c0, c1, c2, f1, f2⟩ := h
  have hz := hb.size
  have hw : b < w0.heap.size := by rw [hh]; exact h0
  have e : ∀ a, w0.cell? a = w.cell? a := fun a => by unfold World.cell?; rw [hh]
  have g : ∀ a, w0.frozen? a = w.frozen? a := fun a => by unfold World.frozen?; rw [hh]
  exact ⟨by omega, by rw [hb.cell (p := ⟨b, 0, none⟩) hw, e]; exact c0, by rw [hb.cell (p := ⟨b, 1, none⟩) hw, e]; exact c1, by rw [hb.cell (p := ⟨b, 2, none⟩) hw, e]; exact c2,
    by rw [hb.frozen (p := ⟨b, 1, none⟩) hw, g]; exact f1, by rw [hb.frozen (p := ⟨b, 2, none⟩) hw, g]; exact f2⟩

-- GENERATED BELOW
theorem done_scN {b : Nat} {t : ByteArray} {k : Nat} {l : Int} {w : World} (h : Sc b t k l w) (hk : k < t.size) :
    Calls Try.prog 31 #[.pointer (some ⟨b, 0, none⟩)] w fun e w' => e = .returned (.bool false) ∧ ∃ n, w' = w.drewN n := done_no b t k w hk h.c0 h.c1
theorem done_scY {b : Nat} {t : ByteArray} {k : Nat} {l : Int} {w : World} (h : Sc b t k l w) (hk : t.size ≤ k) :
    Calls Try.prog 31 #[.pointer (some ⟨b, 0, none⟩)] w fun e w' => e = .returned (.bool true) ∧ ∃ n, w' = w.drewN n := done_yes b t k w hk h.c0 h.c1
theorem peek_sc {b : Nat} {t : ByteArray} {k : Nat} {l : Int} {w : World} (h : Sc b t k l w) :
    Calls Try.prog 32 #[.pointer (some ⟨b, 0, none⟩)] w fun e w' => e = .returned (.int .u8 (pk t k)) ∧ ∃ n, w' = w.drewN n := peek_any b t k w h.c0 h.c1

set_option maxHeartbeats 1000000 in
theorem quoted_34_1 (b : Nat) (t : ByteArray) (k : Nat) (l : Int) (w : World) (h : Sc b t k l w) (hs : t.size ≤ 1073741824) (hl1 : -1099511627776 ≤ l) (hl2 : l ≤ 1099511627776) (hk : k < t.size) (hq : pk t k = 34) (h3 : ¬ At t k 34 3) :
    Calls Try.prog 30 #[.pointer (some ⟨b, 0, none⟩)] w fun e w' => e = .returned (.tuple #[]) ∧ ∃ j, Quoted t k j ∧ Sc b t j (l + cnt t j - cnt t k) w' ∧ Below b w w' := by
  have H : Hid (Sc b t k l w) := h
  have HQ : Hid (pk t k = 34) := hq
  have HA : Hid (At t k 34 1) := At.one.2 hq
  have HC0 : Hid (cnt t (k + 1) = cnt t k) := cnt_at (by decide) HA.out
  have hkm : k + 1 ≤ t.size := at_le (by decide) (by decide) HA.out
  obtain ⟨hblk, c0, c1, c2, f1, f2⟩ := h
  have henc : Utf8.encode 34 = ⟨#[34]⟩ := by decide
  have hki : (k : Int) < (t.size : Int) := by omega
  have hki2 : (k : Int) ≤ (t.size : Int) := by omega
  go_enter Try.func30, Try.ntmps30
  go_wp2_with (go_at_call 32; refine (peek_any b t k _ c0 c1).mono ?_; rintro e w' ⟨rfl, n, rfl⟩)
  go_region_held3 (fun w' => b < w'.heap.size ∧ w'.cell? ⟨b, 0, none⟩ = some (.string t) ∧ w'.cell? ⟨b, 1, none⟩ = some (.int .i64 k)) (first | exact hS1 | simp [*]) (first | (go_at_call 35; refine (rep3 _ _).mono ?_; rintro e w1 ⟨rfl, hb1⟩; have hS1 := keepS (w := w) hb1 rfl hblk c0 c1) | (go_at_call 34; refine (hp_no t k 34 (by decide) 3 _ rfl h3 _).mono ?_; rintro e w1 ⟨rfl, rfl⟩))
  have H1 : Hid (Sc b t k l w1) := H.out.later hb1 rfl
  have HB1 : Hid (Below b w w1) := (below_drewN (Below.refl b w) _).trans (hb1.mono (Nat.le_of_lt hblk))
  clear c0 c1 c2 f1 f2 hS1 hb1
  obtain ⟨_, c0, c1, c2, f1, f2⟩ := H1.out
  go_wp2_with fail
  go_loopg [] (t.size + 1) (fun g wr => ∃ j, Steps t 34 1 (k + 1) j ∧ k + 1 ≤ j ∧ j ≤ t.size + 1 ∧ Sc b t j (l + cnt t j - cnt t k) wr ∧ Below b w wr ∧ t.size + 1 - j ≤ g)
  case atStart =>
    refine ⟨k + 1, Steps.refl, Nat.le_refl _, by omega, ?_, HB1.out.setCell (Nat.le_refl _) _, by omega⟩
    rw [show l + cnt t (k + 1) - cnt t k = l by have := HC0.out; omega]
    exact H1.out.setI (k + 1) (by omega)
  case round =>
    clear c0 c1 c2 f1 f2 hki hki2 henc hq
    obtain ⟨j, hst, hkj, hjt, hsc, hbel, hg⟩ := hrel
    obtain ⟨L, hL⟩ : ∃ L, L = l + cnt t j - cnt t k := ⟨_, rfl⟩
    have HL : Hid (L = l + cnt t j - cnt t k) := hL
    rw [← hL] at hsc
    have HS : Hid (Sc b t j L wr) := hsc
    have b1 := cnt_bd t j
    have b2 := cnt_bd t k
    have hL1 : -1099511627776 - 1073741824 ≤ L := by omega
    have hL2 : L ≤ 1099511627776 + 1073741824 := by omega
    clear hL b1 b2
    obtain ⟨_, c0, c1, c2, f1, f2⟩ := hsc
    by_cases hj : j < t.size
    · have hji : (j : Int) < (t.size : Int) := by omega
      have hji2 : (j : Int) ≤ (t.size : Int) := by omega
      by_cases hat : At t j 34 1
      · have HCE : Hid (cnt t (j + 1) = cnt t j) := cnt_at (by decide) hat
        have hjm : j + 1 ≤ t.size := at_le (by decide) (by decide) hat
        have HR : Hid (Reach t 34 1 (k + 1) j) := hst.reach fun g => g.2 hat
        go_wp2_with fail
        go_quiet (first | (go_at_call 31; refine (done_scN (HS.out.drewN _) hj).mono ?_; rintro e w' ⟨rfl, n, rfl⟩; exact ⟨rfl, _, World.drewN_drewN _ _ _⟩) | (go_at_call 34; refine (hp_yes t j 34 (by decide) 1 _ rfl hat _).mono ?_; rintro e w' ⟨rfl, rfl⟩; exact ⟨rfl, _, rfl⟩))
        go_wp2_with fail
        refine wp_loop_rounds 1 ?_
        rw [rounds_succ]
        go_wp2_with fail
        go_returns
        refine ⟨rfl, j + 1, ⟨by omega, by omega, fun _ => ⟨j, ?_, rfl⟩⟩, ?_, (below_drewN hbel _).setCell (Nat.le_refl _) _⟩
        · rw [HQ.out]; exact HR.out
        · rw [show l + cnt t (j + 1) - cnt t k = L by have := HCE.out; have := HL.out; omega]
          exact (HS.out.drewN _).setI (j + 1) (by omega)
      · have hgo : qgo t 34 1 j := ⟨hj, hat⟩
        have HN : Hid (Steps t 34 1 (k + 1) (qstep t 34 j)) := hst.next hgo
        have HCS : Hid _ := @cnt_step t 34 j
        clear hgo hst
        by_cases h92 : pk t j = 92
        · have e92 : (pk t j == 92) = true := by simpa using h92
          have HQ2 : Hid (qstep t 34 j = j + 2) := if_pos ⟨rfl, h92⟩
          have HC1 : Hid (cnt t (j + 1) = cnt t j) := cnt_no t j (by omega)
          clear h92
          by_cases hj1 : j + 1 < t.size
          · by_cases h10 : pk t (j + 1) = 10
            · have e10 : (pk t (j + 1) == 10) = true := by simpa using h10
              have HC2 : Hid (cnt t (j + 2) = cnt t (j + 1) + 1) := cnt_yes t (j + 1) h10
              clear h10 HCS
              go_wp2_with fail
              go_quiet (first | (go_at_call 31; refine (done_scN (HS.out.drewN _) hj).mono ?_; rintro e w' ⟨rfl, n, rfl⟩; exact ⟨rfl, _, World.drewN_drewN _ _ _⟩) | (go_at_call 34; refine (hp_no t j 34 (by decide) 1 _ rfl hat _).mono ?_; rintro e w' ⟨rfl, rfl⟩; exact ⟨rfl, _, rfl⟩))
              go_wp2_with fail
              refine (peek_sc (HS.out.drewN _)).mono ?_
              rintro e w' ⟨rfl, n1, rfl⟩
              go_wp2_with fail
              refine (done_scN (k := j + 1) ((HS.out.drewN _).setI (j + 1) (by omega)) hj1).mono ?_
              rintro e w' ⟨rfl, n2, rfl⟩
              go_wp2_with fail
              refine (peek_sc (k := j + 1) (((HS.out.drewN _).setI (j + 1) (by omega)).drewN _)).mono ?_
              rintro e w' ⟨rfl, n3, rfl⟩
              go_wp2_with fail
              go_roundg (t.size + 1 - (j + 2))
              case measure => omega
              case rel =>
                refine ⟨j + 2, by rw [← HQ2.out]; exact HN.out, by omega, by omega, ?_, ?_, Nat.le_refl _⟩
                · rw [show l + cnt t (j + 2) - cnt t k = L + 1 by have := HC1.out; have := HC2.out; have := HL.out; omega]
                  exact ((((HS.out.drewN _).setI (j + 1) (by omega)).drewN _).setL (L + 1) rfl).setI (j + 2) (by omega)
                · exact ((below_drewN ((below_drewN hbel _).setCell (Nat.le_refl _) _) _).setCell (Nat.le_refl _) _).setCell (Nat.le_refl _) _
            · have e10 : (pk t (j + 1) == 10) = false := by simpa using h10
              have HC2 : Hid (cnt t (j + 2) = cnt t (j + 1)) := cnt_no t (j + 1) h10
              clear h10 HCS
              go_wp2_with fail
              go_quiet (first | (go_at_call 31; refine (done_scN (HS.out.drewN _) hj).mono ?_; rintro e w' ⟨rfl, n, rfl⟩; exact ⟨rfl, _, World.drewN_drewN _ _ _⟩) | (go_at_call 34; refine (hp_no t j 34 (by decide) 1 _ rfl hat _).mono ?_; rintro e w' ⟨rfl, rfl⟩; exact ⟨rfl, _, rfl⟩))
              go_wp2_with fail
              refine (peek_sc (HS.out.drewN _)).mono ?_
              rintro e w' ⟨rfl, n1, rfl⟩
              go_wp2_with fail
              refine (done_scN (k := j + 1) ((HS.out.drewN _).setI (j + 1) (by omega)) hj1).mono ?_
              rintro e w' ⟨rfl, n2, rfl⟩
              go_wp2_with fail
              refine (peek_sc (k := j + 1) (((HS.out.drewN _).setI (j + 1) (by omega)).drewN _)).mono ?_
              rintro e w' ⟨rfl, n3, rfl⟩
              go_wp2_with fail
              go_roundg (t.size + 1 - (j + 2))
              case measure => omega
              case rel =>
                refine ⟨j + 2, by rw [← HQ2.out]; exact HN.out, by omega, by omega, ?_, ?_, Nat.le_refl _⟩
                · rw [show l + cnt t (j + 2) - cnt t k = L by have := HC1.out; have := HC2.out; have := HL.out; omega]
                  exact (((HS.out.drewN _).setI (j + 1) (by omega)).drewN _).setI (j + 2) (by omega)
                · exact (below_drewN ((below_drewN hbel _).setCell (Nat.le_refl _) _) _).setCell (Nat.le_refl _) _
          · have hj1' : t.size ≤ j + 1 := by omega
            have HC2 : Hid (cnt t (j + 1 + 1) = cnt t (j + 1)) := cnt_end (m := 1) hj1'
            clear HCS
            go_wp2_with fail
            go_quiet (first | (go_at_call 31; refine (done_scN (HS.out.drewN _) hj).mono ?_; rintro e w' ⟨rfl, n, rfl⟩; exact ⟨rfl, _, World.drewN_drewN _ _ _⟩) | (go_at_call 34; refine (hp_no t j 34 (by decide) 1 _ rfl hat _).mono ?_; rintro e w' ⟨rfl, rfl⟩; exact ⟨rfl, _, rfl⟩))
            go_wp2_with fail
            refine (peek_sc (HS.out.drewN _)).mono ?_
            rintro e w' ⟨rfl, n1, rfl⟩
            go_wp2_with fail
            refine (done_scY (k := j + 1) ((HS.out.drewN _).setI (j + 1) (by omega)) hj1').mono ?_
            rintro e w' ⟨rfl, n2, rfl⟩
            go_wp2_with fail
            go_roundg (t.size + 1 - (j + 2))
            case measure => omega
            case rel =>
              refine ⟨j + 2, by rw [← HQ2.out]; exact HN.out, by omega, by omega, ?_, ?_, Nat.le_refl _⟩
              · rw [show l + cnt t (j + 2) - cnt t k = L by have := HC1.out; have : cnt t (j + 2) = cnt t (j + 1) := HC2.out; have := HL.out; omega]
                exact (((HS.out.drewN _).setI (j + 1) (by omega)).drewN _).setI (j + 2) (by omega)
              · exact (below_drewN ((below_drewN hbel _).setCell (Nat.le_refl _) _) _).setCell (Nat.le_refl _) _
        · have e92 : (pk t j == 92) = false := by simpa using h92
          have HQ2 : Hid (qstep t 34 j = j + 1) := if_neg (fun g => h92 g.2)
          clear h92 HCS
          by_cases h10 : pk t j = 10
          · have e10 : (pk t j == 10) = true := by simpa using h10
            have HC2 : Hid (cnt t (j + 1) = cnt t j + 1) := cnt_yes t j h10
            clear h10
            go_wp2_with fail
            go_quiet (first | (go_at_call 31; refine (done_scN (HS.out.drewN _) hj).mono ?_; rintro e w' ⟨rfl, n, rfl⟩; exact ⟨rfl, _, World.drewN_drewN _ _ _⟩) | (go_at_call 34; refine (hp_no t j 34 (by decide) 1 _ rfl hat _).mono ?_; rintro e w' ⟨rfl, rfl⟩; exact ⟨rfl, _, rfl⟩))
            go_wp2_with fail
            refine (peek_sc (HS.out.drewN _)).mono ?_
            rintro e w' ⟨rfl, n1, rfl⟩
            go_wp2_with fail
            refine (done_scN (HS.out.drewN _) hj).mono ?_
            rintro e w' ⟨rfl, n2, rfl⟩
            go_wp2_with fail
            refine (peek_sc (HS.out.drewN _)).mono ?_
            rintro e w' ⟨rfl, n3, rfl⟩
            go_wp2_with fail
            go_roundg (t.size + 1 - (j + 1))
            case measure => omega
            case rel =>
              refine ⟨j + 1, by rw [← HQ2.out]; exact HN.out, by omega, by omega, ?_, ?_, Nat.le_refl _⟩
              · rw [show l + cnt t (j + 1) - cnt t k = L + 1 by have := HC2.out; have := HL.out; omega]
                exact ((HS.out.drewN _).setL (L + 1) rfl).setI (j + 1) (by omega)
              · exact ((below_drewN hbel _).setCell (Nat.le_refl _) _).setCell (Nat.le_refl _) _
          · have e10 : (pk t j == 10) = false := by simpa using h10
            have HC2 : Hid (cnt t (j + 1) = cnt t j) := cnt_no t j h10
            clear h10
            go_wp2_with fail
            go_quiet (first | (go_at_call 31; refine (done_scN (HS.out.drewN _) hj).mono ?_; rintro e w' ⟨rfl, n, rfl⟩; exact ⟨rfl, _, World.drewN_drewN _ _ _⟩) | (go_at_call 34; refine (hp_no t j 34 (by decide) 1 _ rfl hat _).mono ?_; rintro e w' ⟨rfl, rfl⟩; exact ⟨rfl, _, rfl⟩))
            go_wp2_with fail
            refine (peek_sc (HS.out.drewN _)).mono ?_
            rintro e w' ⟨rfl, n1, rfl⟩
            go_wp2_with fail
            refine (done_scN (HS.out.drewN _) hj).mono ?_
            rintro e w' ⟨rfl, n2, rfl⟩
            go_wp2_with fail
            refine (peek_sc (HS.out.drewN _)).mono ?_
            rintro e w' ⟨rfl, n3, rfl⟩
            go_wp2_with fail
            go_roundg (t.size + 1 - (j + 1))
            case measure => omega
            case rel =>
              refine ⟨j + 1, by rw [← HQ2.out]; exact HN.out, by omega, by omega, ?_, ?_, Nat.le_refl _⟩
              · rw [show l + cnt t (j + 1) - cnt t k = L by have := HC2.out; have := HL.out; omega]
                exact (HS.out.drewN _).setI (j + 1) (by omega)
              · exact (below_drewN hbel _).setCell (Nat.le_refl _) _
    · have hj' : t.size ≤ j := by omega
      have HCE : Hid (cnt t (j + 1) = cnt t j) := cnt_end hj'
      have HR : Hid (Reach t 34 1 (k + 1) j) := hst.reach fun g => hj g.1
      go_wp2_with fail
      go_quiet (first | (go_at_call 31; refine (done_scY (HS.out.drewN _) hj').mono ?_; rintro e w' ⟨rfl, n, rfl⟩; exact ⟨rfl, _, World.drewN_drewN _ _ _⟩))
      go_wp2_with fail
      refine wp_loop_rounds 1 ?_
      rw [rounds_succ]
      go_wp2_with fail
      go_returns
      refine ⟨rfl, j + 1, ⟨by omega, by omega, fun _ => ⟨j, ?_, rfl⟩⟩, ?_, (below_drewN hbel _).setCell (Nat.le_refl _) _⟩
      · rw [HQ.out]; exact HR.out
      · rw [show l + cnt t (j + 1) - cnt t k = L by have := HCE.out; have := HL.out; omega]
        exact (HS.out.drewN _).setI (j + 1) (by omega)

set_option maxHeartbeats 1000000 in
theorem quoted_39_1 (b : Nat) (t : ByteArray) (k : Nat) (l : Int) (w : World) (h : Sc b t k l w) (hs : t.size ≤ 1073741824) (hl1 : -1099511627776 ≤ l) (hl2 : l ≤ 1099511627776) (hk : k < t.size) (hq : pk t k = 39) (h3 : ¬ At t k 39 3) :
    Calls Try.prog 30 #[.pointer (some ⟨b, 0, none⟩)] w fun e w' => e = .returned (.tuple #[]) ∧ ∃ j, Quoted t k j ∧ Sc b t j (l + cnt t j - cnt t k) w' ∧ Below b w w' := by
  have H : Hid (Sc b t k l w) := h
  have HQ : Hid (pk t k = 39) := hq
  have HA : Hid (At t k 39 1) := At.one.2 hq
  have HC0 : Hid (cnt t (k + 1) = cnt t k) := cnt_at (by decide) HA.out
  have hkm : k + 1 ≤ t.size := at_le (by decide) (by decide) HA.out
  obtain ⟨hblk, c0, c1, c2, f1, f2⟩ := h
  have henc : Utf8.encode 39 = ⟨#[39]⟩ := by decide
  have hki : (k : Int) < (t.size : Int) := by omega
  have hki2 : (k : Int) ≤ (t.size : Int) := by omega
  go_enter Try.func30, Try.ntmps30
  go_wp2_with (go_at_call 32; refine (peek_any b t k _ c0 c1).mono ?_; rintro e w' ⟨rfl, n, rfl⟩)
  go_region_held3 (fun w' => b < w'.heap.size ∧ w'.cell? ⟨b, 0, none⟩ = some (.string t) ∧ w'.cell? ⟨b, 1, none⟩ = some (.int .i64 k)) (first | exact hS1 | simp [*]) (first | (go_at_call 35; refine (rep3 _ _).mono ?_; rintro e w1 ⟨rfl, hb1⟩; have hS1 := keepS (w := w) hb1 rfl hblk c0 c1) | (go_at_call 34; refine (hp_no t k 39 (by decide) 3 _ rfl h3 _).mono ?_; rintro e w1 ⟨rfl, rfl⟩))
  have H1 : Hid (Sc b t k l w1) := H.out.later hb1 rfl
  have HB1 : Hid (Below b w w1) := (below_drewN (Below.refl b w) _).trans (hb1.mono (Nat.le_of_lt hblk))
  clear c0 c1 c2 f1 f2 hS1 hb1
  obtain ⟨_, c0, c1, c2, f1, f2⟩ := H1.out
  go_wp2_with fail
  go_loopg [] (t.size + 1) (fun g wr => ∃ j, Steps t 39 1 (k + 1) j ∧ k + 1 ≤ j ∧ j ≤ t.size + 1 ∧ Sc b t j (l + cnt t j - cnt t k) wr ∧ Below b w wr ∧ t.size + 1 - j ≤ g)
  case atStart =>
    refine ⟨k + 1, Steps.refl, Nat.le_refl _, by omega, ?_, HB1.out.setCell (Nat.le_refl _) _, by omega⟩
    rw [show l + cnt t (k + 1) - cnt t k = l by have := HC0.out; omega]
    exact H1.out.setI (k + 1) (by omega)
  case round =>
    clear c0 c1 c2 f1 f2 hki hki2 henc hq
    obtain ⟨j, hst, hkj, hjt, hsc, hbel, hg⟩ := hrel
    obtain ⟨L, hL⟩ : ∃ L, L = l + cnt t j - cnt t k := ⟨_, rfl⟩
    have HL : Hid (L = l + cnt t j - cnt t k) := hL
    rw [← hL] at hsc
    have HS : Hid (Sc b t j L wr) := hsc
    have b1 := cnt_bd t j
    have b2 := cnt_bd t k
    have hL1 : -1099511627776 - 1073741824 ≤ L := by omega
    have hL2 : L ≤ 1099511627776 + 1073741824 := by omega
    clear hL b1 b2
    obtain ⟨_, c0, c1, c2, f1, f2⟩ := hsc
    by_cases hj : j < t.size
    · have hji : (j : Int) < (t.size : Int) := by omega
      have hji2 : (j : Int) ≤ (t.size : Int) := by omega
      by_cases hat : At t j 39 1
      · have HCE : Hid (cnt t (j + 1) = cnt t j) := cnt_at (by decide) hat
        have hjm : j + 1 ≤ t.size := at_le (by decide) (by decide) hat
        have HR : Hid (Reach t 39 1 (k + 1) j) := hst.reach fun g => g.2 hat
        go_wp2_with fail
        go_quiet (first | (go_at_call 31; refine (done_scN (HS.out.drewN _) hj).mono ?_; rintro e w' ⟨rfl, n, rfl⟩; exact ⟨rfl, _, World.drewN_drewN _ _ _⟩) | (go_at_call 34; refine (hp_yes t j 39 (by decide) 1 _ rfl hat _).mono ?_; rintro e w' ⟨rfl, rfl⟩; exact ⟨rfl, _, rfl⟩))
        go_wp2_with fail
        refine wp_loop_rounds 1 ?_
        rw [rounds_succ]
        go_wp2_with fail
        go_returns
        refine ⟨rfl, j + 1, ⟨by omega, by omega, fun _ => ⟨j, ?_, rfl⟩⟩, ?_, (below_drewN hbel _).setCell (Nat.le_refl _) _⟩
        · rw [HQ.out]; exact HR.out
        · rw [show l + cnt t (j + 1) - cnt t k = L by have := HCE.out; have := HL.out; omega]
          exact (HS.out.drewN _).setI (j + 1) (by omega)
      · have hgo : qgo t 39 1 j := ⟨hj, hat⟩
        have HN : Hid (Steps t 39 1 (k + 1) (qstep t 39 j)) := hst.next hgo
        have HCS : Hid _ := @cnt_step t 39 j
        clear hgo hst
        have HQ2 : Hid (qstep t 39 j = j + 1) := if_neg (fun g => by omega)
        clear HCS
        by_cases h10 : pk t j = 10
        · have e10 : (pk t j == 10) = true := by simpa using h10
          have HC2 : Hid (cnt t (j + 1) = cnt t j + 1) := cnt_yes t j h10
          clear h10
          go_wp2_with fail
          go_quiet (first | (go_at_call 31; refine (done_scN (HS.out.drewN _) hj).mono ?_; rintro e w' ⟨rfl, n, rfl⟩; exact ⟨rfl, _, World.drewN_drewN _ _ _⟩) | (go_at_call 34; refine (hp_no t j 39 (by decide) 1 _ rfl hat _).mono ?_; rintro e w' ⟨rfl, rfl⟩; exact ⟨rfl, _, rfl⟩))
          go_wp2_with fail
          refine (done_scN (HS.out.drewN _) hj).mono ?_
          rintro e w' ⟨rfl, n2, rfl⟩
          go_wp2_with fail
          refine (peek_sc (HS.out.drewN _)).mono ?_
          rintro e w' ⟨rfl, n3, rfl⟩
          go_wp2_with fail
          go_roundg (t.size + 1 - (j + 1))
          case measure => omega
          case rel =>
            refine ⟨j + 1, by rw [← HQ2.out]; exact HN.out, by omega, by omega, ?_, ?_, Nat.le_refl _⟩
            · rw [show l + cnt t (j + 1) - cnt t k = L + 1 by have := HC2.out; have := HL.out; omega]
              exact ((HS.out.drewN _).setL (L + 1) rfl).setI (j + 1) (by omega)
            · exact ((below_drewN hbel _).setCell (Nat.le_refl _) _).setCell (Nat.le_refl _) _
        · have e10 : (pk t j == 10) = false := by simpa using h10
          have HC2 : Hid (cnt t (j + 1) = cnt t j) := cnt_no t j h10
          clear h10
          go_wp2_with fail
          go_quiet (first | (go_at_call 31; refine (done_scN (HS.out.drewN _) hj).mono ?_; rintro e w' ⟨rfl, n, rfl⟩; exact ⟨rfl, _, World.drewN_drewN _ _ _⟩) | (go_at_call 34; refine (hp_no t j 39 (by decide) 1 _ rfl hat _).mono ?_; rintro e w' ⟨rfl, rfl⟩; exact ⟨rfl, _, rfl⟩))
          go_wp2_with fail
          refine (done_scN (HS.out.drewN _) hj).mono ?_
          rintro e w' ⟨rfl, n2, rfl⟩
          go_wp2_with fail
          refine (peek_sc (HS.out.drewN _)).mono ?_
          rintro e w' ⟨rfl, n3, rfl⟩
          go_wp2_with fail
          go_roundg (t.size + 1 - (j + 1))
          case measure => omega
          case rel =>
            refine ⟨j + 1, by rw [← HQ2.out]; exact HN.out, by omega, by omega, ?_, ?_, Nat.le_refl _⟩
            · rw [show l + cnt t (j + 1) - cnt t k = L by have := HC2.out; have := HL.out; omega]
              exact (HS.out.drewN _).setI (j + 1) (by omega)
            · exact (below_drewN hbel _).setCell (Nat.le_refl _) _
    · have hj' : t.size ≤ j := by omega
      have HCE : Hid (cnt t (j + 1) = cnt t j) := cnt_end hj'
      have HR : Hid (Reach t 39 1 (k + 1) j) := hst.reach fun g => hj g.1
      go_wp2_with fail
      go_quiet (first | (go_at_call 31; refine (done_scY (HS.out.drewN _) hj').mono ?_; rintro e w' ⟨rfl, n, rfl⟩; exact ⟨rfl, _, World.drewN_drewN _ _ _⟩))
      go_wp2_with fail
      refine wp_loop_rounds 1 ?_
      rw [rounds_succ]
      go_wp2_with fail
      go_returns
      refine ⟨rfl, j + 1, ⟨by omega, by omega, fun _ => ⟨j, ?_, rfl⟩⟩, ?_, (below_drewN hbel _).setCell (Nat.le_refl _) _⟩
      · rw [HQ.out]; exact HR.out
      · rw [show l + cnt t (j + 1) - cnt t k = L by have := HCE.out; have := HL.out; omega]
        exact (HS.out.drewN _).setI (j + 1) (by omega)

set_option maxHeartbeats 1000000 in
theorem quoted_34_3 (b : Nat) (t : ByteArray) (k : Nat) (l : Int) (w : World) (h : Sc b t k l w) (hs : t.size ≤ 1073741824) (hl1 : -1099511627776 ≤ l) (hl2 : l ≤ 1099511627776) (hk : k < t.size) (hq : pk t k = 34) (h3 : At t k 34 3) :
    Calls Try.prog 30 #[.pointer (some ⟨b, 0, none⟩)] w fun e w' => e = .returned (.tuple #[]) ∧ ∃ j, Quoted t k j ∧ Sc b t j (l + cnt t j - cnt t k) w' ∧ Below b w w' := by
  have H : Hid (Sc b t k l w) := h
  have HQ : Hid (pk t k = 34) := hq
  have HA : Hid (At t k 34 3) := h3
  have HC0 : Hid (cnt t (k + 3) = cnt t k) := cnt_at (by decide) HA.out
  have hkm : k + 3 ≤ t.size := at_le (by decide) (by decide) HA.out
  obtain ⟨hblk, c0, c1, c2, f1, f2⟩ := h
  have henc : Utf8.encode 34 = ⟨#[34]⟩ := by decide
  have hki : (k : Int) < (t.size : Int) := by omega
  have hki2 : (k : Int) ≤ (t.size : Int) := by omega
  go_enter Try.func30, Try.ntmps30
  go_wp2_with (go_at_call 32; refine (peek_any b t k _ c0 c1).mono ?_; rintro e w' ⟨rfl, n, rfl⟩)
  go_region_held3 (fun w' => b < w'.heap.size ∧ w'.cell? ⟨b, 0, none⟩ = some (.string t) ∧ w'.cell? ⟨b, 1, none⟩ = some (.int .i64 k)) (first | exact hS1 | simp [*]) (first | (go_at_call 35; refine (rep3 _ _).mono ?_; rintro e w1 ⟨rfl, hb1⟩; have hS1 := keepS (w := w) hb1 rfl hblk c0 c1) | (go_at_call 34; refine (hp_yes t k 34 (by decide) 3 _ rfl h3 _).mono ?_; rintro e w1 ⟨rfl, rfl⟩))
  have H1 : Hid (Sc b t k l w1) := H.out.later hb1 rfl
  have HB1 : Hid (Below b w w1) := (below_drewN (Below.refl b w) _).trans (hb1.mono (Nat.le_of_lt hblk))
  clear c0 c1 c2 f1 f2 hS1 hb1
  go_wp2_with fail
  refine (rep3 _ _).mono ?_
  rintro e w2 ⟨rfl, hb2⟩
  have H2 : Hid (Sc b t k l w2) := H1.out.later hb2 rfl
  have HB2 : Hid (Below b w w2) := HB1.out.trans (hb2.mono (Nat.le_of_lt H1.out.blk))
  clear hb2
  obtain ⟨_, c0, c1, c2, f1, f2⟩ := H2.out
  go_wp2_with fail
  go_loopg [] (t.size + 1) (fun g wr => ∃ j, Steps t 34 3 (k + 3) j ∧ k + 3 ≤ j ∧ j ≤ t.size + 1 ∧ Sc b t j (l + cnt t j - cnt t k) wr ∧ Below b w wr ∧ t.size + 1 - j ≤ g)
  case atStart =>
    refine ⟨k + 3, Steps.refl, Nat.le_refl _, by omega, ?_, HB2.out.setCell (Nat.le_refl _) _, by omega⟩
    rw [show l + cnt t (k + 3) - cnt t k = l by have := HC0.out; omega]
    exact H2.out.setI (k + 3) (by omega)
  case round =>
    clear c0 c1 c2 f1 f2 hki hki2 henc hq
    obtain ⟨j, hst, hkj, hjt, hsc, hbel, hg⟩ := hrel
    obtain ⟨L, hL⟩ : ∃ L, L = l + cnt t j - cnt t k := ⟨_, rfl⟩
    have HL : Hid (L = l + cnt t j - cnt t k) := hL
    rw [← hL] at hsc
    have HS : Hid (Sc b t j L wr) := hsc
    have b1 := cnt_bd t j
    have b2 := cnt_bd t k
    have hL1 : -1099511627776 - 1073741824 ≤ L := by omega
    have hL2 : L ≤ 1099511627776 + 1073741824 := by omega
    clear hL b1 b2
    obtain ⟨_, c0, c1, c2, f1, f2⟩ := hsc
    by_cases hj : j < t.size
    · have hji : (j : Int) < (t.size : Int) := by omega
      have hji2 : (j : Int) ≤ (t.size : Int) := by omega
      by_cases hat : At t j 34 3
      · have HCE : Hid (cnt t (j + 3) = cnt t j) := cnt_at (by decide) hat
        have hjm : j + 3 ≤ t.size := at_le (by decide) (by decide) hat
        have HR : Hid (Reach t 34 3 (k + 3) j) := hst.reach fun g => g.2 hat
        go_wp2_with fail
        go_quiet (first | (go_at_call 31; refine (done_scN (HS.out.drewN _) hj).mono ?_; rintro e w' ⟨rfl, n, rfl⟩; exact ⟨rfl, _, World.drewN_drewN _ _ _⟩) | (go_at_call 34; refine (hp_yes t j 34 (by decide) 3 _ rfl hat _).mono ?_; rintro e w' ⟨rfl, rfl⟩; exact ⟨rfl, _, rfl⟩))
        go_wp2_with fail
        obtain ⟨wo, rfl⟩ : ∃ wo : World, wo = wr := ⟨_, rfl⟩
        go_loopg [] (t.size + 1) (fun g wr => ∃ i, j + 3 ≤ i ∧ i ≤ t.size + 4 ∧ cnt t i = cnt t j ∧ Sc b t i L wr ∧ Below b w wr ∧ t.size - i ≤ g)
        case atStart => exact ⟨j + 3, Nat.le_refl _, by omega, HCE.out, (HS.out.drewN _).setI (j + 3) (by omega), (below_drewN hbel _).setCell (Nat.le_refl _) _, by omega⟩
        case round =>
          clear c0 c1 c2 f1 f2
          obtain ⟨i, hji, hit, hci, hsi, hbi, hgi⟩ := hrel
          have HCI : Hid (cnt t i = cnt t j) := hci
          have HSI : Hid (Sc b t i L wr) := hsi
          clear hci
          obtain ⟨_, c0, c1, c2, f1, f2⟩ := hsi
          have hfin : ∀ n, (Sc b t i (l + cnt t i - cnt t k) (wr.drewN n)) := fun n => by
            rw [show l + cnt t i - cnt t k = L by have := HCI.out; have := HL.out; omega]
            exact HSI.out.drewN n
          by_cases hi : i < t.size
          · by_cases hp : pk t i = 34
            · have e1 : (pk t i == 34) = true := by simpa using hp
              have HC2 : Hid (cnt t (i + 1) = cnt t i) := cnt_no t i (by omega)
              clear hp hfin
              go_wp2_with (first | (go_at_call 31; refine (done_no b t i _ hi c0 c1).mono ?_; rintro e w' ⟨rfl, n, rfl⟩) | (go_at_call 32; refine (peek_any b t i _ (by simpa using c0) (by simpa using c1)).mono ?_; rintro e w' ⟨rfl, n, rfl⟩))
              go_roundg (t.size - (i + 1))
              case measure => omega
              case rel => exact ⟨i + 1, by omega, by omega, by rw [HC2.out]; exact HCI.out, (HSI.out.drewN _).setI (i + 1) (by omega), (below_drewN hbi _).setCell (Nat.le_refl _) _, Nat.le_refl _⟩
            · have e1 : (pk t i == 34) = false := by simpa using hp
              have HF : Hid (∀ n, (Sc b t i (l + cnt t i - cnt t k) (wr.drewN n))) := hfin
              clear hp hfin
              go_wp2_with (first | (go_at_call 31; refine (done_no b t i _ hi c0 c1).mono ?_; rintro e w' ⟨rfl, n, rfl⟩) | (go_at_call 32; refine (peek_any b t i _ (by simpa using c0) (by simpa using c1)).mono ?_; rintro e w' ⟨rfl, n, rfl⟩))
              go_returns
              exact ⟨rfl, i, ⟨by omega, by omega, fun g => absurd HA.out (HQ.out ▸ g)⟩, HF.out _, below_drewN hbi _⟩
          · have hi' : t.size ≤ i := by omega
            have HF : Hid (∀ n, (Sc b t i (l + cnt t i - cnt t k) (wr.drewN n))) := hfin
            clear hfin
            go_wp2_with (first | (go_at_call 31; refine (done_yes b t i _ hi' c0 c1).mono ?_; rintro e w' ⟨rfl, n, rfl⟩))
            go_returns
            exact ⟨rfl, i, ⟨by omega, by omega, fun g => absurd HA.out (HQ.out ▸ g)⟩, HF.out _, below_drewN hbi _⟩
      · have hgo : qgo t 34 3 j := ⟨hj, hat⟩
        have HN : Hid (Steps t 34 3 (k + 3) (qstep t 34 j)) := hst.next hgo
        have HCS : Hid _ := @cnt_step t 34 j
        clear hgo hst
        by_cases h92 : pk t j = 92
        · have e92 : (pk t j == 92) = true := by simpa using h92
          have HQ2 : Hid (qstep t 34 j = j + 2) := if_pos ⟨rfl, h92⟩
          have HC1 : Hid (cnt t (j + 1) = cnt t j) := cnt_no t j (by omega)
          clear h92
          by_cases hj1 : j + 1 < t.size
          · by_cases h10 : pk t (j + 1) = 10
            · have e10 : (pk t (j + 1) == 10) = true := by simpa using h10
              have HC2 : Hid (cnt t (j + 2) = cnt t (j + 1) + 1) := cnt_yes t (j + 1) h10
              clear h10 HCS
              go_wp2_with fail
              go_quiet (first | (go_at_call 31; refine (done_scN (HS.out.drewN _) hj).mono ?_; rintro e w' ⟨rfl, n, rfl⟩; exact ⟨rfl, _, World.drewN_drewN _ _ _⟩) | (go_at_call 34; refine (hp_no t j 34 (by decide) 3 _ rfl hat _).mono ?_; rintro e w' ⟨rfl, rfl⟩; exact ⟨rfl, _, rfl⟩))
              go_wp2_with fail
              refine (peek_sc (HS.out.drewN _)).mono ?_
              rintro e w' ⟨rfl, n1, rfl⟩
              go_wp2_with fail
              refine (done_scN (k := j + 1) ((HS.out.drewN _).setI (j + 1) (by omega)) hj1).mono ?_
              rintro e w' ⟨rfl, n2, rfl⟩
              go_wp2_with fail
              refine (peek_sc (k := j + 1) (((HS.out.drewN _).setI (j + 1) (by omega)).drewN _)).mono ?_
              rintro e w' ⟨rfl, n3, rfl⟩
              go_wp2_with fail
              go_roundg (t.size + 1 - (j + 2))
              case measure => omega
              case rel =>
                refine ⟨j + 2, by rw [← HQ2.out]; exact HN.out, by omega, by omega, ?_, ?_, Nat.le_refl _⟩
                · rw [show l + cnt t (j + 2) - cnt t k = L + 1 by have := HC1.out; have := HC2.out; have := HL.out; omega]
                  exact ((((HS.out.drewN _).setI (j + 1) (by omega)).drewN _).setL (L + 1) rfl).setI (j + 2) (by omega)
                · exact ((below_drewN ((below_drewN hbel _).setCell (Nat.le_refl _) _) _).setCell (Nat.le_refl _) _).setCell (Nat.le_refl _) _
            · have e10 : (pk t (j + 1) == 10) = false := by simpa using h10
              have HC2 : Hid (cnt t (j + 2) = cnt t (j + 1)) := cnt_no t (j + 1) h10
              clear h10 HCS
              go_wp2_with fail
              go_quiet (first | (go_at_call 31; refine (done_scN (HS.out.drewN _) hj).mono ?_; rintro e w' ⟨rfl, n, rfl⟩; exact ⟨rfl, _, World.drewN_drewN _ _ _⟩) | (go_at_call 34; refine (hp_no t j 34 (by decide) 3 _ rfl hat _).mono ?_; rintro e w' ⟨rfl, rfl⟩; exact ⟨rfl, _, rfl⟩))
              go_wp2_with fail
              refine (peek_sc (HS.out.drewN _)).mono ?_
              rintro e w' ⟨rfl, n1, rfl⟩
              go_wp2_with fail
              refine (done_scN (k := j + 1) ((HS.out.drewN _).setI (j + 1) (by omega)) hj1).mono ?_
              rintro e w' ⟨rfl, n2, rfl⟩
              go_wp2_with fail
              refine (peek_sc (k := j + 1) (((HS.out.drewN _).setI (j + 1) (by omega)).drewN _)).mono ?_
              rintro e w' ⟨rfl, n3, rfl⟩
              go_wp2_with fail
              go_roundg (t.size + 1 - (j + 2))
              case measure => omega
              case rel =>
                refine ⟨j + 2, by rw [← HQ2.out]; exact HN.out, by omega, by omega, ?_, ?_, Nat.le_refl _⟩
                · rw [show l + cnt t (j + 2) - cnt t k = L by have := HC1.out; have := HC2.out; have := HL.out; omega]
                  exact (((HS.out.drewN _).setI (j + 1) (by omega)).drewN _).setI (j + 2) (by omega)
                · exact (below_drewN ((below_drewN hbel _).setCell (Nat.le_refl _) _) _).setCell (Nat.le_refl _) _
          · have hj1' : t.size ≤ j + 1 := by omega
            have HC2 : Hid (cnt t (j + 1 + 1) = cnt t (j + 1)) := cnt_end (m := 1) hj1'
            clear HCS
            go_wp2_with fail
            go_quiet (first | (go_at_call 31; refine (done_scN (HS.out.drewN _) hj).mono ?_; rintro e w' ⟨rfl, n, rfl⟩; exact ⟨rfl, _, World.drewN_drewN _ _ _⟩) | (go_at_call 34; refine (hp_no t j 34 (by decide) 3 _ rfl hat _).mono ?_; rintro e w' ⟨rfl, rfl⟩; exact ⟨rfl, _, rfl⟩))
            go_wp2_with fail
            refine (peek_sc (HS.out.drewN _)).mono ?_
            rintro e w' ⟨rfl, n1, rfl⟩
            go_wp2_with fail
            refine (done_scY (k := j + 1) ((HS.out.drewN _).setI (j + 1) (by omega)) hj1').mono ?_
            rintro e w' ⟨rfl, n2, rfl⟩
            go_wp2_with fail
            go_roundg (t.size + 1 - (j + 2))
            case measure => omega
            case rel =>
              refine ⟨j + 2, by rw [← HQ2.out]; exact HN.out, by omega, by omega, ?_, ?_, Nat.le_refl _⟩
              · rw [show l + cnt t (j + 2) - cnt t k = L by have := HC1.out; have : cnt t (j + 2) = cnt t (j + 1) := HC2.out; have := HL.out; omega]
                exact (((HS.out.drewN _).setI (j + 1) (by omega)).drewN _).setI (j + 2) (by omega)
              · exact (below_drewN ((below_drewN hbel _).setCell (Nat.le_refl _) _) _).setCell (Nat.le_refl _) _
        · have e92 : (pk t j == 92) = false := by simpa using h92
          have HQ2 : Hid (qstep t 34 j = j + 1) := if_neg (fun g => h92 g.2)
          clear h92 HCS
          by_cases h10 : pk t j = 10
          · have e10 : (pk t j == 10) = true := by simpa using h10
            have HC2 : Hid (cnt t (j + 1) = cnt t j + 1) := cnt_yes t j h10
            clear h10
            go_wp2_with fail
            go_quiet (first | (go_at_call 31; refine (done_scN (HS.out.drewN _) hj).mono ?_; rintro e w' ⟨rfl, n, rfl⟩; exact ⟨rfl, _, World.drewN_drewN _ _ _⟩) | (go_at_call 34; refine (hp_no t j 34 (by decide) 3 _ rfl hat _).mono ?_; rintro e w' ⟨rfl, rfl⟩; exact ⟨rfl, _, rfl⟩))
            go_wp2_with fail
            refine (peek_sc (HS.out.drewN _)).mono ?_
            rintro e w' ⟨rfl, n1, rfl⟩
            go_wp2_with fail
            refine (done_scN (HS.out.drewN _) hj).mono ?_
            rintro e w' ⟨rfl, n2, rfl⟩
            go_wp2_with fail
            refine (peek_sc (HS.out.drewN _)).mono ?_
            rintro e w' ⟨rfl, n3, rfl⟩
            go_wp2_with fail
            go_roundg (t.size + 1 - (j + 1))
            case measure => omega
            case rel =>
              refine ⟨j + 1, by rw [← HQ2.out]; exact HN.out, by omega, by omega, ?_, ?_, Nat.le_refl _⟩
              · rw [show l + cnt t (j + 1) - cnt t k = L + 1 by have := HC2.out; have := HL.out; omega]
                exact ((HS.out.drewN _).setL (L + 1) rfl).setI (j + 1) (by omega)
              · exact ((below_drewN hbel _).setCell (Nat.le_refl _) _).setCell (Nat.le_refl _) _
          · have e10 : (pk t j == 10) = false := by simpa using h10
            have HC2 : Hid (cnt t (j + 1) = cnt t j) := cnt_no t j h10
            clear h10
            go_wp2_with fail
            go_quiet (first | (go_at_call 31; refine (done_scN (HS.out.drewN _) hj).mono ?_; rintro e w' ⟨rfl, n, rfl⟩; exact ⟨rfl, _, World.drewN_drewN _ _ _⟩) | (go_at_call 34; refine (hp_no t j 34 (by decide) 3 _ rfl hat _).mono ?_; rintro e w' ⟨rfl, rfl⟩; exact ⟨rfl, _, rfl⟩))
            go_wp2_with fail
            refine (peek_sc (HS.out.drewN _)).mono ?_
            rintro e w' ⟨rfl, n1, rfl⟩
            go_wp2_with fail
            refine (done_scN (HS.out.drewN _) hj).mono ?_
            rintro e w' ⟨rfl, n2, rfl⟩
            go_wp2_with fail
            refine (peek_sc (HS.out.drewN _)).mono ?_
            rintro e w' ⟨rfl, n3, rfl⟩
            go_wp2_with fail
            go_roundg (t.size + 1 - (j + 1))
            case measure => omega
            case rel =>
              refine ⟨j + 1, by rw [← HQ2.out]; exact HN.out, by omega, by omega, ?_, ?_, Nat.le_refl _⟩
              · rw [show l + cnt t (j + 1) - cnt t k = L by have := HC2.out; have := HL.out; omega]
                exact (HS.out.drewN _).setI (j + 1) (by omega)
              · exact (below_drewN hbel _).setCell (Nat.le_refl _) _
    · have hj' : t.size ≤ j := by omega
      have HCE : Hid (cnt t (j + 3) = cnt t j) := cnt_end hj'
      have HR : Hid (Reach t 34 3 (k + 3) j) := hst.reach fun g => hj g.1
      go_wp2_with fail
      go_quiet (first | (go_at_call 31; refine (done_scY (HS.out.drewN _) hj').mono ?_; rintro e w' ⟨rfl, n, rfl⟩; exact ⟨rfl, _, World.drewN_drewN _ _ _⟩))
      go_wp2_with fail
      obtain ⟨wo, rfl⟩ : ∃ wo : World, wo = wr := ⟨_, rfl⟩
      go_loopg [] (t.size + 1) (fun g wr => ∃ i, j + 3 ≤ i ∧ i ≤ t.size + 4 ∧ cnt t i = cnt t j ∧ Sc b t i L wr ∧ Below b w wr ∧ t.size - i ≤ g)
      case atStart => exact ⟨j + 3, Nat.le_refl _, by omega, HCE.out, (HS.out.drewN _).setI (j + 3) (by omega), (below_drewN hbel _).setCell (Nat.le_refl _) _, by omega⟩
      case round =>
        clear c0 c1 c2 f1 f2
        obtain ⟨i, hji, hit, hci, hsi, hbi, hgi⟩ := hrel
        have HCI : Hid (cnt t i = cnt t j) := hci
        have HSI : Hid (Sc b t i L wr) := hsi
        clear hci
        obtain ⟨_, c0, c1, c2, f1, f2⟩ := hsi
        have hfin : ∀ n, (Sc b t i (l + cnt t i - cnt t k) (wr.drewN n)) := fun n => by
          rw [show l + cnt t i - cnt t k = L by have := HCI.out; have := HL.out; omega]
          exact HSI.out.drewN n
        by_cases hi : i < t.size
        · omega
        · have hi' : t.size ≤ i := by omega
          have HF : Hid (∀ n, (Sc b t i (l + cnt t i - cnt t k) (wr.drewN n))) := hfin
          clear hfin
          go_wp2_with (first | (go_at_call 31; refine (done_yes b t i _ hi' c0 c1).mono ?_; rintro e w' ⟨rfl, n, rfl⟩))
          go_returns
          exact ⟨rfl, i, ⟨by omega, by omega, fun g => absurd HA.out (HQ.out ▸ g)⟩, HF.out _, below_drewN hbi _⟩

set_option maxHeartbeats 1000000 in
theorem quoted_39_3 (b : Nat) (t : ByteArray) (k : Nat) (l : Int) (w : World) (h : Sc b t k l w) (hs : t.size ≤ 1073741824) (hl1 : -1099511627776 ≤ l) (hl2 : l ≤ 1099511627776) (hk : k < t.size) (hq : pk t k = 39) (h3 : At t k 39 3) :
    Calls Try.prog 30 #[.pointer (some ⟨b, 0, none⟩)] w fun e w' => e = .returned (.tuple #[]) ∧ ∃ j, Quoted t k j ∧ Sc b t j (l + cnt t j - cnt t k) w' ∧ Below b w w' := by
  have H : Hid (Sc b t k l w) := h
  have HQ : Hid (pk t k = 39) := hq
  have HA : Hid (At t k 39 3) := h3
  have HC0 : Hid (cnt t (k + 3) = cnt t k) := cnt_at (by decide) HA.out
  have hkm : k + 3 ≤ t.size := at_le (by decide) (by decide) HA.out
  obtain ⟨hblk, c0, c1, c2, f1, f2⟩ := h
  have henc : Utf8.encode 39 = ⟨#[39]⟩ := by decide
  have hki : (k : Int) < (t.size : Int) := by omega
  have hki2 : (k : Int) ≤ (t.size : Int) := by omega
  go_enter Try.func30, Try.ntmps30
  go_wp2_with (go_at_call 32; refine (peek_any b t k _ c0 c1).mono ?_; rintro e w' ⟨rfl, n, rfl⟩)
  go_region_held3 (fun w' => b < w'.heap.size ∧ w'.cell? ⟨b, 0, none⟩ = some (.string t) ∧ w'.cell? ⟨b, 1, none⟩ = some (.int .i64 k)) (first | exact hS1 | simp [*]) (first | (go_at_call 35; refine (rep3 _ _).mono ?_; rintro e w1 ⟨rfl, hb1⟩; have hS1 := keepS (w := w) hb1 rfl hblk c0 c1) | (go_at_call 34; refine (hp_yes t k 39 (by decide) 3 _ rfl h3 _).mono ?_; rintro e w1 ⟨rfl, rfl⟩))
  have H1 : Hid (Sc b t k l w1) := H.out.later hb1 rfl
  have HB1 : Hid (Below b w w1) := (below_drewN (Below.refl b w) _).trans (hb1.mono (Nat.le_of_lt hblk))
  clear c0 c1 c2 f1 f2 hS1 hb1
  go_wp2_with fail
  refine (rep3 _ _).mono ?_
  rintro e w2 ⟨rfl, hb2⟩
  have H2 : Hid (Sc b t k l w2) := H1.out.later hb2 rfl
  have HB2 : Hid (Below b w w2) := HB1.out.trans (hb2.mono (Nat.le_of_lt H1.out.blk))
  clear hb2
  obtain ⟨_, c0, c1, c2, f1, f2⟩ := H2.out
  go_wp2_with fail
  go_loopg [] (t.size + 1) (fun g wr => ∃ j, Steps t 39 3 (k + 3) j ∧ k + 3 ≤ j ∧ j ≤ t.size + 1 ∧ Sc b t j (l + cnt t j - cnt t k) wr ∧ Below b w wr ∧ t.size + 1 - j ≤ g)
  case atStart =>
    refine ⟨k + 3, Steps.refl, Nat.le_refl _, by omega, ?_, HB2.out.setCell (Nat.le_refl _) _, by omega⟩
    rw [show l + cnt t (k + 3) - cnt t k = l by have := HC0.out; omega]
    exact H2.out.setI (k + 3) (by omega)
  case round =>
    clear c0 c1 c2 f1 f2 hki hki2 henc hq
    obtain ⟨j, hst, hkj, hjt, hsc, hbel, hg⟩ := hrel
    obtain ⟨L, hL⟩ : ∃ L, L = l + cnt t j - cnt t k := ⟨_, rfl⟩
    have HL : Hid (L = l + cnt t j - cnt t k) := hL
    rw [← hL] at hsc
    have HS : Hid (Sc b t j L wr) := hsc
    have b1 := cnt_bd t j
    have b2 := cnt_bd t k
    have hL1 : -1099511627776 - 1073741824 ≤ L := by omega
    have hL2 : L ≤ 1099511627776 + 1073741824 := by omega
    clear hL b1 b2
    obtain ⟨_, c0, c1, c2, f1, f2⟩ := hsc
    by_cases hj : j < t.size
    · have hji : (j : Int) < (t.size : Int) := by omega
      have hji2 : (j : Int) ≤ (t.size : Int) := by omega
      by_cases hat : At t j 39 3
      · have HCE : Hid (cnt t (j + 3) = cnt t j) := cnt_at (by decide) hat
        have hjm : j + 3 ≤ t.size := at_le (by decide) (by decide) hat
        have HR : Hid (Reach t 39 3 (k + 3) j) := hst.reach fun g => g.2 hat
        go_wp2_with fail
        go_quiet (first | (go_at_call 31; refine (done_scN (HS.out.drewN _) hj).mono ?_; rintro e w' ⟨rfl, n, rfl⟩; exact ⟨rfl, _, World.drewN_drewN _ _ _⟩) | (go_at_call 34; refine (hp_yes t j 39 (by decide) 3 _ rfl hat _).mono ?_; rintro e w' ⟨rfl, rfl⟩; exact ⟨rfl, _, rfl⟩))
        go_wp2_with fail
        obtain ⟨wo, rfl⟩ : ∃ wo : World, wo = wr := ⟨_, rfl⟩
        go_loopg [] (t.size + 1) (fun g wr => ∃ i, j + 3 ≤ i ∧ i ≤ t.size + 4 ∧ cnt t i = cnt t j ∧ Sc b t i L wr ∧ Below b w wr ∧ t.size - i ≤ g)
        case atStart => exact ⟨j + 3, Nat.le_refl _, by omega, HCE.out, (HS.out.drewN _).setI (j + 3) (by omega), (below_drewN hbel _).setCell (Nat.le_refl _) _, by omega⟩
        case round =>
          clear c0 c1 c2 f1 f2
          obtain ⟨i, hji, hit, hci, hsi, hbi, hgi⟩ := hrel
          have HCI : Hid (cnt t i = cnt t j) := hci
          have HSI : Hid (Sc b t i L wr) := hsi
          clear hci
          obtain ⟨_, c0, c1, c2, f1, f2⟩ := hsi
          have hfin : ∀ n, (Sc b t i (l + cnt t i - cnt t k) (wr.drewN n)) := fun n => by
            rw [show l + cnt t i - cnt t k = L by have := HCI.out; have := HL.out; omega]
            exact HSI.out.drewN n
          by_cases hi : i < t.size
          · by_cases hp : pk t i = 39
            · have e1 : (pk t i == 39) = true := by simpa using hp
              have HC2 : Hid (cnt t (i + 1) = cnt t i) := cnt_no t i (by omega)
              clear hp hfin
              go_wp2_with (first | (go_at_call 31; refine (done_no b t i _ hi c0 c1).mono ?_; rintro e w' ⟨rfl, n, rfl⟩) | (go_at_call 32; refine (peek_any b t i _ (by simpa using c0) (by simpa using c1)).mono ?_; rintro e w' ⟨rfl, n, rfl⟩))
              go_roundg (t.size - (i + 1))
              case measure => omega
              case rel => exact ⟨i + 1, by omega, by omega, by rw [HC2.out]; exact HCI.out, (HSI.out.drewN _).setI (i + 1) (by omega), (below_drewN hbi _).setCell (Nat.le_refl _) _, Nat.le_refl _⟩
            · have e1 : (pk t i == 39) = false := by simpa using hp
              have HF : Hid (∀ n, (Sc b t i (l + cnt t i - cnt t k) (wr.drewN n))) := hfin
              clear hp hfin
              go_wp2_with (first | (go_at_call 31; refine (done_no b t i _ hi c0 c1).mono ?_; rintro e w' ⟨rfl, n, rfl⟩) | (go_at_call 32; refine (peek_any b t i _ (by simpa using c0) (by simpa using c1)).mono ?_; rintro e w' ⟨rfl, n, rfl⟩))
              go_returns
              exact ⟨rfl, i, ⟨by omega, by omega, fun g => absurd HA.out (HQ.out ▸ g)⟩, HF.out _, below_drewN hbi _⟩
          · have hi' : t.size ≤ i := by omega
            have HF : Hid (∀ n, (Sc b t i (l + cnt t i - cnt t k) (wr.drewN n))) := hfin
            clear hfin
            go_wp2_with (first | (go_at_call 31; refine (done_yes b t i _ hi' c0 c1).mono ?_; rintro e w' ⟨rfl, n, rfl⟩))
            go_returns
            exact ⟨rfl, i, ⟨by omega, by omega, fun g => absurd HA.out (HQ.out ▸ g)⟩, HF.out _, below_drewN hbi _⟩
      · have hgo : qgo t 39 3 j := ⟨hj, hat⟩
        have HN : Hid (Steps t 39 3 (k + 3) (qstep t 39 j)) := hst.next hgo
        have HCS : Hid _ := @cnt_step t 39 j
        clear hgo hst
        have HQ2 : Hid (qstep t 39 j = j + 1) := if_neg (fun g => by omega)
        clear HCS
        by_cases h10 : pk t j = 10
        · have e10 : (pk t j == 10) = true := by simpa using h10
          have HC2 : Hid (cnt t (j + 1) = cnt t j + 1) := cnt_yes t j h10
          clear h10
          go_wp2_with fail
          go_quiet (first | (go_at_call 31; refine (done_scN (HS.out.drewN _) hj).mono ?_; rintro e w' ⟨rfl, n, rfl⟩; exact ⟨rfl, _, World.drewN_drewN _ _ _⟩) | (go_at_call 34; refine (hp_no t j 39 (by decide) 3 _ rfl hat _).mono ?_; rintro e w' ⟨rfl, rfl⟩; exact ⟨rfl, _, rfl⟩))
          go_wp2_with fail
          refine (done_scN (HS.out.drewN _) hj).mono ?_
          rintro e w' ⟨rfl, n2, rfl⟩
          go_wp2_with fail
          refine (peek_sc (HS.out.drewN _)).mono ?_
          rintro e w' ⟨rfl, n3, rfl⟩
          go_wp2_with fail
          go_roundg (t.size + 1 - (j + 1))
          case measure => omega
          case rel =>
            refine ⟨j + 1, by rw [← HQ2.out]; exact HN.out, by omega, by omega, ?_, ?_, Nat.le_refl _⟩
            · rw [show l + cnt t (j + 1) - cnt t k = L + 1 by have := HC2.out; have := HL.out; omega]
              exact ((HS.out.drewN _).setL (L + 1) rfl).setI (j + 1) (by omega)
            · exact ((below_drewN hbel _).setCell (Nat.le_refl _) _).setCell (Nat.le_refl _) _
        · have e10 : (pk t j == 10) = false := by simpa using h10
          have HC2 : Hid (cnt t (j + 1) = cnt t j) := cnt_no t j h10
          clear h10
          go_wp2_with fail
          go_quiet (first | (go_at_call 31; refine (done_scN (HS.out.drewN _) hj).mono ?_; rintro e w' ⟨rfl, n, rfl⟩; exact ⟨rfl, _, World.drewN_drewN _ _ _⟩) | (go_at_call 34; refine (hp_no t j 39 (by decide) 3 _ rfl hat _).mono ?_; rintro e w' ⟨rfl, rfl⟩; exact ⟨rfl, _, rfl⟩))
          go_wp2_with fail
          refine (done_scN (HS.out.drewN _) hj).mono ?_
          rintro e w' ⟨rfl, n2, rfl⟩
          go_wp2_with fail
          refine (peek_sc (HS.out.drewN _)).mono ?_
          rintro e w' ⟨rfl, n3, rfl⟩
          go_wp2_with fail
          go_roundg (t.size + 1 - (j + 1))
          case measure => omega
          case rel =>
            refine ⟨j + 1, by rw [← HQ2.out]; exact HN.out, by omega, by omega, ?_, ?_, Nat.le_refl _⟩
            · rw [show l + cnt t (j + 1) - cnt t k = L by have := HC2.out; have := HL.out; omega]
              exact (HS.out.drewN _).setI (j + 1) (by omega)
            · exact (below_drewN hbel _).setCell (Nat.le_refl _) _
    · have hj' : t.size ≤ j := by omega
      have HCE : Hid (cnt t (j + 3) = cnt t j) := cnt_end hj'
      have HR : Hid (Reach t 39 3 (k + 3) j) := hst.reach fun g => hj g.1
      go_wp2_with fail
      go_quiet (first | (go_at_call 31; refine (done_scY (HS.out.drewN _) hj').mono ?_; rintro e w' ⟨rfl, n, rfl⟩; exact ⟨rfl, _, World.drewN_drewN _ _ _⟩))
      go_wp2_with fail
      obtain ⟨wo, rfl⟩ : ∃ wo : World, wo = wr := ⟨_, rfl⟩
      go_loopg [] (t.size + 1) (fun g wr => ∃ i, j + 3 ≤ i ∧ i ≤ t.size + 4 ∧ cnt t i = cnt t j ∧ Sc b t i L wr ∧ Below b w wr ∧ t.size - i ≤ g)
      case atStart => exact ⟨j + 3, Nat.le_refl _, by omega, HCE.out, (HS.out.drewN _).setI (j + 3) (by omega), (below_drewN hbel _).setCell (Nat.le_refl _) _, by omega⟩
      case round =>
        clear c0 c1 c2 f1 f2
        obtain ⟨i, hji, hit, hci, hsi, hbi, hgi⟩ := hrel
        have HCI : Hid (cnt t i = cnt t j) := hci
        have HSI : Hid (Sc b t i L wr) := hsi
        clear hci
        obtain ⟨_, c0, c1, c2, f1, f2⟩ := hsi
        have hfin : ∀ n, (Sc b t i (l + cnt t i - cnt t k) (wr.drewN n)) := fun n => by
          rw [show l + cnt t i - cnt t k = L by have := HCI.out; have := HL.out; omega]
          exact HSI.out.drewN n
        by_cases hi : i < t.size
        · omega
        · have hi' : t.size ≤ i := by omega
          have HF : Hid (∀ n, (Sc b t i (l + cnt t i - cnt t k) (wr.drewN n))) := hfin
          clear hfin
          go_wp2_with (first | (go_at_call 31; refine (done_yes b t i _ hi' c0 c1).mono ?_; rintro e w' ⟨rfl, n, rfl⟩))
          go_returns
          exact ⟨rfl, i, ⟨by omega, by omega, fun g => absurd HA.out (HQ.out ▸ g)⟩, HF.out _, below_drewN hbi _⟩

theorem quoted_any (b : Nat) (t : ByteArray) (k : Nat) (l : Int) (w : World) (h : Sc b t k l w) (hs : t.size ≤ 1073741824) (hl1 : -1099511627776 ≤ l) (hl2 : l ≤ 1099511627776) (hq : pk t k = 34 ∨ pk t k = 39) :
    Calls Try.prog 30 #[.pointer (some ⟨b, 0, none⟩)] w fun e w' => e = .returned (.tuple #[]) ∧ ∃ j, Quoted t k j ∧ Sc b t j (l + cnt t j - cnt t k) w' ∧ Below b w w' := by
  have hk : k < t.size := pk_in t k (by omega)
  rcases hq with hq | hq
  · by_cases h3 : At t k 34 3
    · exact quoted_34_3 b t k l w h hs hl1 hl2 hk hq h3
    · exact quoted_34_1 b t k l w h hs hl1 hl2 hk hq h3
  · by_cases h3 : At t k 39 3
    · exact quoted_39_3 b t k l w h hs hl1 hl2 hk hq h3
    · exact quoted_39_1 b t k l w h hs hl1 hl2 hk hq h3

end Go.Proofs.Qxb6000816a

/-
  THE PROOF OF 'Rows.FnKeyStopsPastKeyAndCountsLinesSaid' ('example.com/quittance/quittance/zzlaws_internal_config_b1.FnKeyStopsPastKeyAndCountsLines').
  The frame is the guide's template; the walk is ours.
-/
import Derived.Test.Qxb6000816aRows
import Derived.WalkKit
import Derived.ProofKit
import Derived.OpenShut
import Derived.ShutString
import Derived.Below
import Derived.Carry
import Derived.ChangeOld
import Derived.Test.Qxb6000816aKeyZ
namespace Go.Proofs.Qxb6000816a.fnKeyStopsPastKeyAndCountsLines
open Go.ChangeShapes Go.WideShapes Go.ChangeAt Go.RowKit
open Go.ChangeMaps (open_string shut_string)
set_option linter.unusedVariables false      -- a walk need not use every 'w<i>' (that an integer argument fits its kind)

theorem own : ownKnob Try.prog.godebug = none := by kernel_rfl

/-! ### STEP 1: THE WALK: the Go text returns true, and writes nothing that was there. -/
theorem stopped {t : ByteArray} {k j : Nat} (h : Keyed t k j) (hj : j < t.size) : ¬ Blk (pk t j) ∧ pk t j ≠ 35 ∧ pk t j ≠ 46 := by
  obtain ⟨p, _, ⟨p1, p2, _, _, hs⟩, hd⟩ := h
  exact ⟨(hs.stop hj).1, (hs.stop hj).2, hd⟩

theorem ret_bool {a : Bool} (h : a = true) : Ending.returned (.bool a) = .returned (.bool true) := by rw [h]

theorem blank_no (c : Int) (h : ¬ Blk c) (w : World) : Calls Try.prog 17 #[.int .u8 c] w fun e w' => e = .returned (.bool false) ∧ w' = w := by
  have e1 : (c == 32) = false := by rw [beq_eq_false_iff_ne]; exact fun e => h (.inr (.inl e))
  have e2 : (c == 9) = false := by rw [beq_eq_false_iff_ne]; exact fun e => h (.inr (.inr (.inl e)))
  have e3 : (c == 13) = false := by rw [beq_eq_false_iff_ne]; exact fun e => h (.inr (.inr (.inr e)))
  have e4 : (c == 10) = false := by rw [beq_eq_false_iff_ne]; exact fun e => h (.inl e)
  go_enter Try.func17, Try.ntmps17
  go_wp2
  go_ret
  exact ⟨rfl, rfl⟩

theorem bytes_ok (t : ByteArray) (x y : Value) (h : t.size ≤ 1048576) (w : World) : Calls Try.prog 15 #[.string t, x, y] w fun e w' => e = .returned (.bool true) ∧ w' = w := by
  go_enter Try.func15, Try.ntmps15
  go_wp2
  go_ret
  exact ⟨rfl, rfl⟩

theorem bytes_no (t : ByteArray) (x y : Value) (h : ¬ t.size ≤ 1048576) (w : World) : Calls Try.prog 15 #[.string t, x, y] w fun e w' => e = .returned (.bool false) ∧ w' = w := by
  have h' : 1048576 < t.size := by omega
  clear h
  go_enter Try.func15, Try.ntmps15
  go_wp2
  go_ret
  exact ⟨rfl, rfl⟩

set_option maxHeartbeats 1000000 in
theorem walk (a0 : ByteArray) (a1 : Int) (a2 : Int) (w0 : a0.size ≤ maxLen) (w1 : (Lit.int .i64 a1).wf = true) (w2 : (Lit.int .i64 a2).wf = true) (w : World) :
    Calls Try.prog 5 #[.string a0, .int .i64 a1, .int .i64 a2] w fun e w' => e = .returned (.bool true) ∧ Below w.heap.size w w' := by
  clear w1 w2
  unfold maxLen at w0
  by_cases hb : a0.size ≤ 1048576
  · by_cases hi : a1 < 0
    · go_enter Try.func5, Try.ntmps5
      go_wp2_with (go_at_call 15; refine (bytes_ok a0 _ _ hb _).mono ?_; rintro e w' ⟨rfl, rfl⟩)
      go_ret
      exact ⟨rfl, Below.refl _ _⟩
    · obtain ⟨k, rfl⟩ := Int.eq_ofNat_of_zero_le (show 0 ≤ a1 by omega)
      clear hi
      by_cases hk : k ≤ a0.size
      · by_cases hl : -1073741824 ≤ a2
        · by_cases hl2 : a2 ≤ 1073741824
          · go_enter Try.func5, Try.ntmps5
            go_wp2_with (first | (go_at_call 15; refine (bytes_ok a0 _ _ hb _).mono ?_; rintro e w' ⟨rfl, rfl⟩))
            refine (zzkey_any a0 k a2 _ (by omega) hk hl hl2).mono ?_
            rintro e w1 ⟨j, rfl, hkj, hjt, hkey, hbel⟩
            have HK : Hid (Keyed a0 k j) := hkey
            have c1 := cnt_bd a0 j
            have c2 := cnt_bd a0 k
            clear hkey
            by_cases hj : j < a0.size
            · have hst := stopped HK.out hj
              have hpk := pk_lt a0 j hj
              have e35 : (((a0[j].toNat : Nat) : Int) == 35) = false := by rw [hpk, beq_eq_false_iff_ne]; exact hst.2.1
              have e46 : (((a0[j].toNat : Nat) : Int) == 46) = false := by rw [hpk, beq_eq_false_iff_ne]; exact hst.2.2
              have HB : Hid (¬ Blk ((a0[j].toNat : Nat) : Int)) := by rw [hpk]; exact hst.1
              clear hst hpk
              go_wp2_with (first | (go_at_call 17; refine (blank_no _ HB.out _).mono ?_; rintro e w' ⟨rfl, rfl⟩) | (go_at_call 13; refine (countNL_any a0 k j hkj (by omega) (by omega) _).mono ?_; rintro e w' ⟨rfl, rfl⟩))
              go_ret
              exact ⟨ret_bool (by rw [beq_iff_eq]; omega), hbel⟩
            · have hj' : a0.size ≤ j := by omega
              have HC : Hid (cnt a0 j = cnt a0 a0.size) := cnt_past a0 j hj'
              clear hj
              have c3 := cnt_bd a0 a0.size
              by_cases hje : a0.size < j
              · go_wp2_with (first | (go_at_call 13; refine (countNL_any a0 k a0.size hk (Nat.le_refl _) (by omega) _).mono ?_; rintro e w' ⟨rfl, rfl⟩))
                go_ret
                exact ⟨ret_bool (by rw [beq_iff_eq]; have := HC.out; omega), hbel⟩
              · obtain rfl : j = a0.size := by omega
                go_wp2_with (first | (go_at_call 13; refine (countNL_any a0 k a0.size hk (Nat.le_refl _) (by omega) _).mono ?_; rintro e w' ⟨rfl, rfl⟩))
                go_ret
                exact ⟨ret_bool (by rw [beq_iff_eq]; omega), hbel⟩
          · go_enter Try.func5, Try.ntmps5
            go_wp2_with (first | (go_at_call 15; refine (bytes_ok a0 _ _ hb _).mono ?_; rintro e w' ⟨rfl, rfl⟩))
            go_ret
            exact ⟨rfl, Below.refl _ _⟩
        · go_enter Try.func5, Try.ntmps5
          go_wp2_with (first | (go_at_call 15; refine (bytes_ok a0 _ _ hb _).mono ?_; rintro e w' ⟨rfl, rfl⟩))
          go_ret
          exact ⟨rfl, Below.refl _ _⟩
      · go_enter Try.func5, Try.ntmps5
        go_wp2_with (first | (go_at_call 15; refine (bytes_ok a0 _ _ hb _).mono ?_; rintro e w' ⟨rfl, rfl⟩))
        go_ret
        exact ⟨rfl, Below.refl _ _⟩
  · go_enter Try.func5, Try.ntmps5
    go_wp2_with (go_at_call 15; refine (bytes_no a0 _ _ hb _).mono ?_; rintro e w' ⟨rfl, rfl⟩)
    go_ret
    exact ⟨rfl, Below.refl _ _⟩

/-! ### THE ROW's STEP: WRITTEN OUT: LEAVE IT -/
set_option maxRecDepth 100000 in
theorem lifted (os : Os) (started : os.Started) (H : Type) (enc : TypeId × Value → H) :
    ReturnsInHanded {} Try.checked os 5 .any (Rows.fnKeyStopsPastKeyAndCountsLinesSpec.pre6 enc Try.prog Try.f5 Rows.fnKeyStopsPastKeyAndCountsLinesRow.domain false) (Rows.fnKeyStopsPastKeyAndCountsLinesSpec.post enc Try.prog Try.f5 false true false false) := by
  refine returnsInHanded_of_change (C := Try.checked) own started (by kernel_rfl) Try.func5
    (ChangeSpec.witness6 (enc := enc) (C := Try.checked) false ⟨#[], #[.string ByteArray.empty, .int .i64 0, .int .i64 0], []⟩ 8 (by kernel_rfl) (by kernel_rfl) (by kernel_rfl) (by kernel_rfl)) ?_
  intro W base args ds gs before hval0 hW hcnd _
  have hval : ∀ (j : Nat) t v, Try.f5.params[j]? = some t → args[j]? = some v → Value.okWide Try.prog W .any base t v := hval0
  have hW' := hW
  obtain ⟨p, q, hA0, hV, rfl, hfz, hnd⟩ := hW
  have hA : DataW.TrodAll enc Try.prog W 0 (fun _ => true) true Try.f5.params.toList args.toList ds p := hA0
  rw [Try.params5] at hA hval
  obtain ⟨v0, vs0, d0, ds0, p0, q0, hargs, rfl, rfl, h0, r0⟩ := trodAll_cons hA
  obtain ⟨v1, vs1, d1, ds1, p1, q1, rfl, rfl, rfl, h1, r1⟩ := trodAll_cons r0
  obtain ⟨v2, vs2, d2, ds2, p2, q2, rfl, rfl, rfl, h2, r2⟩ := trodAll_cons r1
  obtain ⟨rfl, rfl, rfl⟩ := trodAll_nil r2
  obtain rfl : args = #[v0, v1, v2] := by cases args; simp_all
  obtain ⟨rfl, rfl⟩ := trodVars_none hV
  obtain ⟨a0, rfl, rfl, rfl, w0⟩ := open_string Try.underlying9 (hval 0 9 v0 rfl rfl) h0
  obtain ⟨a1, rfl, rfl, rfl, w1⟩ := open_int Try.underlying3 (hval 1 3 v1 rfl rfl) h1
  obtain ⟨a2, rfl, rfl, rfl, w2⟩ := open_int Try.underlying3 (hval 2 3 v2 rfl rfl) h2
  clear hA0 hval0
  simp only [List.append_nil] at hW'
  refine (walk a0 a1 a2 w0 w1 w2 W).mono fun e W' ⟨he, bel⟩ => ?_
  subst he
  exact ⟨_, rfl, _, _, _, [], _, [], hW', trodAll_mk1 (shut_bool Try.underlying4 _), (trodAll_cons_mk (shut_string Try.underlying9 w0) (trodAll_cons_mk (shut_int Try.underlying3 w1) (trodAll_cons_mk (shut_int Try.underlying3 w2) trodAll_mk0))), rfl, bel.frame _, fun h => by cases h⟩

theorem over : Rows.fnKeyStopsPastKeyAndCountsLinesRow.holds Try.pinned (OpenSpec.ofChange Rows.fnKeyStopsPastKeyAndCountsLinesSpec) :=
  OpenClaim.holds_of_wide 5 Try.f5 rfl rfl rfl rfl rfl rfl rfl ⟨rfl, rfl, rfl, rfl, rfl⟩ rfl rfl rfl rfl rfl (by kernel_rfl) Try.func5 (by kernel_rfl)
    (of_decide_eq_true (by kernel_rfl)) (by unfold Func.isWrapper; first | (rw [if_pos (by decide +kernel)]; kernel_rfl) | (rw [if_neg (by decide +kernel)]; exact ⟨rfl, rfl⟩))
    (fun os started H enc _ => lifted os started H enc)

/-- ████ THE STATEMENT ████ -/
theorem proved : Rows.FnKeyStopsPastKeyAndCountsLinesSaid :=
  over
#print axioms proved
end Go.Proofs.Qxb6000816a.fnKeyStopsPastKeyAndCountsLines

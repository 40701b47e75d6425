/-
  THE PROOF OF 'Rows.FnKeyReadsDottedKeyUpToEqualsSaid'.
  The frame is the guide's template; the walk is ours.
-/
import Derived.Test.Qxb6000816aRows
import Derived.WalkKit
import Derived.ProofKit
import Derived.OpenShut
import Derived.ShutString
import Derived.Below
import Derived.Carry
import Derived.ChangeOld
import Derived.Test.Qxb6000816aKeyZ
import Derived.Test.Qxb6000816aEsc
namespace Go.Proofs.Qxb6000816a.fnKeyReadsDottedKeyUpToEquals
open Go.ChangeShapes Go.WideShapes Go.ChangeAt Go.RowKit
open Go.ChangeMaps (open_string shut_string)
set_option linter.unusedVariables false      -- a walk need not use every 'w<i>' (that an integer argument fits its kind)

theorem own : ownKnob Try.prog.godebug = none := by kernel_rfl

/-! ### STEP 1: THE WALK: the Go text returns true, and writes nothing that was there. -/
theorem ret_bool {a : Bool} (h : a = true) : Ending.returned (.bool a) = .returned (.bool true) := by rw [h]

theorem bytes_ok (a b c : ByteArray) (x : Value) (h : a.size + b.size + c.size ≤ 1048576) (w : World) : Calls Try.prog 18 #[.string a, .string b, .string c, x] w fun e w' => e = .returned (.bool true) ∧ w' = w := by
  have h1 : a.size ≤ 1048576 := by omega
  have h2 : b.size ≤ 1048576 := by omega
  have h3 : c.size ≤ 1048576 := by omega
  have h4 : a.size + b.size ≤ 1048576 := by omega
  go_enter Try.func18, Try.ntmps18
  go_wp2
  go_ret
  exact ⟨rfl, rfl⟩

theorem bytes_no (a b c : ByteArray) (x : Value) (wa : a.size ≤ 2 ^ 63 - 1) (wb : b.size ≤ 2 ^ 63 - 1) (wc : c.size ≤ 2 ^ 63 - 1) (h : ¬ a.size + b.size + c.size ≤ 1048576) (w : World) : Calls Try.prog 18 #[.string a, .string b, .string c, x] w fun e w' => e = .returned (.bool false) ∧ w' = w := by
  by_cases h1 : a.size ≤ 1048576
  · by_cases h2 : b.size ≤ 1048576
    · by_cases h3 : a.size + b.size ≤ 1048576
      · by_cases h4 : c.size ≤ 1048576
        · have h5 : 1048576 < a.size + b.size + c.size := by omega
          clear h
          go_enter Try.func18, Try.ntmps18
          go_wp2
          go_ret
          exact ⟨rfl, rfl⟩
        · have h5 : 1048576 < c.size := by omega
          clear h h4
          go_enter Try.func18, Try.ntmps18
          go_wp2
          go_ret
          exact ⟨rfl, rfl⟩
      · have h5 : 1048576 < a.size + b.size := by omega
        clear h h3
        go_enter Try.func18, Try.ntmps18
        go_wp2
        go_ret
        exact ⟨rfl, rfl⟩
    · have h5 : 1048576 < b.size := by omega
      clear h h2
      go_enter Try.func18, Try.ntmps18
      go_wp2
      go_ret
      exact ⟨rfl, rfl⟩
  · have h5 : 1048576 < a.size := by omega
    clear h h1
    go_enter Try.func18, Try.ntmps18
    go_wp2
    go_ret
    exact ⟨rfl, rfl⟩

theorem esc_enc (c : ByteArray) (w : World) (hs : c.size ≤ 1073741824) :
    Calls Try.prog 20 #[.string c] w fun e w' => ∃ enc : ByteArray, e = .returned (.string enc) ∧ (enc.data.toList = 34 :: (escL c.data.toList ++ [34]) ∧ Below w.heap.size w w') := by
  refine (esc_any c w hs).mono ?_
  rintro e w' ⟨rfl, h⟩
  exact ⟨_, rfl, by simp, h⟩

theorem enc_le {c enc : ByteArray} (h : enc.data.toList = 34 :: (escL c.data.toList ++ [34])) : enc.size ≤ 2 * c.size + 2 := by
  have h1 := size_split h
  have h2 := escL_len c.data.toList
  have h3 : c.data.toList.length = c.size := by simp
  simp at h1
  omega

theorem text_of {a0 a1 a2 enc t : ByteArray} (h : enc.data.toList = 34 :: (escL a1.data.toList ++ [34])) (ht : t = a0 ++ ⟨#[32, 46, 32]⟩ ++ enc ++ ⟨#[32, 61, 32]⟩ ++ a2) : Txt t a0 a1 a2 := by
  refine ⟨?_⟩
  rw [ht]
  simp [h]

set_option maxHeartbeats 1000000 in
theorem walk (a0 : ByteArray) (a1 : ByteArray) (a2 : ByteArray) (a3 : Int) (w0 : a0.size ≤ maxLen) (w1 : a1.size ≤ maxLen) (w2 : a2.size ≤ maxLen) (w3 : (Lit.int .i64 a3).wf = true) (w : World) :
    Calls Try.prog 6 #[.string a0, .string a1, .string a2, .int .i64 a3] w fun e w' => e = .returned (.bool true) ∧ Below w.heap.size w w' := by
  clear w3
  unfold maxLen at w0 w1 w2
  by_cases hb : a0.size + a1.size + a2.size ≤ 1048576
  · by_cases k0 : a0.size ≤ 262144
    · by_cases k1 : a1.size ≤ 262144
      · by_cases k2 : a2.size ≤ 262144
        · by_cases hl : -1073741824 ≤ a3
          · by_cases hl2 : a3 ≤ 1073741824
            · clear w0 w1 w2
              go_enter Try.func6, Try.ntmps6
              go_wp2_with (first | (go_at_call 18; refine (bytes_ok a0 a1 a2 _ hb _).mono ?_; rintro e w' ⟨rfl, rfl⟩))
              refine (valid_any a0 _ (by omega)).mono ?_
              rintro e w' ⟨⟨v, rfl, hv⟩, rfl⟩
              cases v with
              | false =>
                clear hv
                go_wp2_with fail
                go_ret
                exact ⟨rfl, Below.refl _ _⟩
              | true =>
                have HV : Hid (VP a0) := hv rfl
                clear hv
                go_wp2_with fail
                refine (esc_enc a1 _ (by omega)).mono ?_
                rintro e w1 ⟨enc, rfl, henc, hb1⟩
                have HE : Hid (enc.data.toList = 34 :: (escL a1.data.toList ++ [34])) := henc
                have hes := enc_le henc
                clear henc
                go_wp2_with fail
                obtain ⟨t, ht⟩ : ∃ t, t = a0 ++ ⟨#[32, 46, 32]⟩ ++ enc ++ ⟨#[32, 61, 32]⟩ ++ a2 := ⟨_, rfl⟩
                rw [← ht]
                have HT : Hid (Txt t a0 a1 a2) := text_of HE.out ht
                have hts : t.size ≤ 1073741824 := by
                  have z1 : (⟨#[32, 46, 32]⟩ : ByteArray).size = 3 := rfl
                  have z2 : (⟨#[32, 61, 32]⟩ : ByteArray).size = 3 := rfl
                  rw [ht]; simp; omega
                clear ht
                refine (zzkey_any t 0 a3 _ hts (Nat.zero_le _) hl hl2).mono ?_
                rintro e w2 ⟨j, rfl, _, hjt, hkey, hbel⟩
                have hj : j = a0.size + 3 + enc.size + 1 := by
                  rw [HT.out.keyed HV.out hkey, Txt.enc_size a0 a1 enc HE.out]
                have hc : cnt t j - cnt t 0 = cnt a1 a1.size := by
                  rw [HT.out.keyed HV.out hkey, HT.out.lines HV.out, cnt_zero]; omega
                have c1 := cnt_bd a1 a1.size
                have c0 := cnt_zero a1
                have HC : Hid (a3 + cnt t j - cnt t 0 = a3 + cnt a1 a1.size) := by
                  show _ = _
                  omega
                have hbw : Below w'.heap.size w' w2 := hb1.trans (hbel.mono hb1.size)
                clear hc hkey
                rw [HC.out]
                subst hj
                go_wp2_with (go_at_call 13; refine (countNL_any a1 0 a1.size (Nat.zero_le _) (Nat.le_refl _) (by omega) _).mono ?_; rintro e w' ⟨rfl, rfl⟩)
                go_ret
                exact ⟨rfl, hbw⟩
            · go_enter Try.func6, Try.ntmps6
              go_wp2_with (first | (go_at_call 18; refine (bytes_ok a0 a1 a2 _ hb _).mono ?_; rintro e w' ⟨rfl, rfl⟩))
              go_ret
              exact ⟨rfl, Below.refl _ _⟩
          · go_enter Try.func6, Try.ntmps6
            go_wp2_with (first | (go_at_call 18; refine (bytes_ok a0 a1 a2 _ hb _).mono ?_; rintro e w' ⟨rfl, rfl⟩))
            go_ret
            exact ⟨rfl, Below.refl _ _⟩
        · go_enter Try.func6, Try.ntmps6
          go_wp2_with (first | (go_at_call 18; refine (bytes_ok a0 a1 a2 _ hb _).mono ?_; rintro e w' ⟨rfl, rfl⟩))
          go_ret
          exact ⟨rfl, Below.refl _ _⟩
      · go_enter Try.func6, Try.ntmps6
        go_wp2_with (first | (go_at_call 18; refine (bytes_ok a0 a1 a2 _ hb _).mono ?_; rintro e w' ⟨rfl, rfl⟩))
        go_ret
        exact ⟨rfl, Below.refl _ _⟩
    · go_enter Try.func6, Try.ntmps6
      go_wp2_with (first | (go_at_call 18; refine (bytes_ok a0 a1 a2 _ hb _).mono ?_; rintro e w' ⟨rfl, rfl⟩))
      go_ret
      exact ⟨rfl, Below.refl _ _⟩
  · go_enter Try.func6, Try.ntmps6
    go_wp2_with (go_at_call 18; refine (bytes_no a0 a1 a2 _ w0 w1 w2 hb _).mono ?_; rintro e w' ⟨rfl, rfl⟩)
    go_ret
    exact ⟨rfl, Below.refl _ _⟩

/-! ### THE ROW's STEP: WRITTEN OUT: LEAVE IT -/
set_option maxRecDepth 100000 in
theorem lifted (os : Os) (started : os.Started) (H : Type) (enc : TypeId × Value → H) :
    ReturnsInHanded {} Try.checked os 6 .any (Rows.fnKeyReadsDottedKeyUpToEqualsSpec.pre6 enc Try.prog Try.f6 Rows.fnKeyReadsDottedKeyUpToEqualsRow.domain false) (Rows.fnKeyReadsDottedKeyUpToEqualsSpec.post enc Try.prog Try.f6 false true false false) := by
  refine returnsInHanded_of_change (C := Try.checked) own started (by kernel_rfl) Try.func6
    (ChangeSpec.witness6 (enc := enc) (C := Try.checked) false ⟨#[], #[.string ByteArray.empty, .string ByteArray.empty, .string ByteArray.empty, .int .i64 0], []⟩ 8 (by kernel_rfl) (by kernel_rfl) (by kernel_rfl) (by kernel_rfl)) ?_
  intro W base args ds gs before hval0 hW hcnd _
  have hval : ∀ (j : Nat) t v, Try.f6.params[j]? = some t → args[j]? = some v → Value.okWide Try.prog W .any base t v := hval0
  have hW' := hW
  obtain ⟨p, q, hA0, hV, rfl, hfz, hnd⟩ := hW
  have hA : DataW.TrodAll enc Try.prog W 0 (fun _ => true) true Try.f6.params.toList args.toList ds p := hA0
  rw [Try.params6] at hA hval
  obtain ⟨v0, vs0, d0, ds0, p0, q0, hargs, rfl, rfl, h0, r0⟩ := trodAll_cons hA
  obtain ⟨v1, vs1, d1, ds1, p1, q1, rfl, rfl, rfl, h1, r1⟩ := trodAll_cons r0
  obtain ⟨v2, vs2, d2, ds2, p2, q2, rfl, rfl, rfl, h2, r2⟩ := trodAll_cons r1
  obtain ⟨v3, vs3, d3, ds3, p3, q3, rfl, rfl, rfl, h3, r3⟩ := trodAll_cons r2
  obtain ⟨rfl, rfl, rfl⟩ := trodAll_nil r3
  obtain rfl : args = #[v0, v1, v2, v3] := by cases args; simp_all
  obtain ⟨rfl, rfl⟩ := trodVars_none hV
  obtain ⟨a0, rfl, rfl, rfl, w0⟩ := open_string Try.underlying9 (hval 0 9 v0 rfl rfl) h0
  obtain ⟨a1, rfl, rfl, rfl, w1⟩ := open_string Try.underlying9 (hval 1 9 v1 rfl rfl) h1
  obtain ⟨a2, rfl, rfl, rfl, w2⟩ := open_string Try.underlying9 (hval 2 9 v2 rfl rfl) h2
  obtain ⟨a3, rfl, rfl, rfl, w3⟩ := open_int Try.underlying3 (hval 3 3 v3 rfl rfl) h3
  clear hA0 hval0
  simp only [List.append_nil] at hW'
  refine (walk a0 a1 a2 a3 w0 w1 w2 w3 W).mono fun e W' ⟨he, bel⟩ => ?_
  subst he
  exact ⟨_, rfl, _, _, _, [], _, [], hW', trodAll_mk1 (shut_bool Try.underlying4 _), (trodAll_cons_mk (shut_string Try.underlying9 w0) (trodAll_cons_mk (shut_string Try.underlying9 w1) (trodAll_cons_mk (shut_string Try.underlying9 w2) (trodAll_cons_mk (shut_int Try.underlying3 w3) trodAll_mk0)))), rfl, bel.frame _, fun h => by cases h⟩

theorem over : Rows.fnKeyReadsDottedKeyUpToEqualsRow.holds Try.pinned (OpenSpec.ofChange Rows.fnKeyReadsDottedKeyUpToEqualsSpec) :=
  OpenClaim.holds_of_wide 6 Try.f6 rfl rfl rfl rfl rfl rfl rfl ⟨rfl, rfl, rfl, rfl, rfl⟩ rfl rfl rfl rfl rfl (by kernel_rfl) Try.func6 (by kernel_rfl)
    (of_decide_eq_true (by kernel_rfl)) (by unfold Func.isWrapper; first | (rw [if_pos (by decide +kernel)]; kernel_rfl) | (rw [if_neg (by decide +kernel)]; exact ⟨rfl, rfl⟩))
    (fun os started H enc _ => lifted os started H enc)

/-- ████ THE STATEMENT ████ -/
theorem proved : Rows.FnKeyReadsDottedKeyUpToEqualsSaid :=
  over
#print axioms proved
end Go.Proofs.Qxb6000816a.fnKeyReadsDottedKeyUpToEquals

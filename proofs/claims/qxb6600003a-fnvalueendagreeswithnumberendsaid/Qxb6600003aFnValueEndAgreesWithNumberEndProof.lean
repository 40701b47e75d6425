/-
  THE PROOF OF 'Rows.FnValueEndAgreesWithNumberEndSaid'.
  The frame is the guide's template; the walk is ours.
-/
import Derived.Test.Qxb6600003aRows
import Derived.WalkKit
import Derived.ProofKit
import Derived.OpenShut
import Derived.ShutString
import Derived.ChangeOld
import Derived.Below
import Derived.Test.Qxb6600003aCopy
import Derived.Test.Qxb6600003aNumber
namespace Go.Proofs.Qxb6600003a.fnValueEndAgreesWithNumberEnd
open Go.ChangeShapes Go.WideShapes Go.ChangeAt Go.RowKit
open Go.ChangeMaps (open_string shut_string)
set_option linter.unusedVariables false

theorem own : ownKnob Try.prog.godebug = none := by kernel_rfl
theorem laidOut : laidOutB Try.prog = true := by kernel_rfl

/-- WHAT THE WALK IS TOLD OF A SLICE OF INTEGERS THAT CAME IN: it is nil; or it leads to a row of 'cap' cells, the numbers 'zs' (the first 'len' are its elements, the rest its spare room), each fitting its kind. -/
def IsRow (k : IntKind) (w : World) (a : Option Addr) (len cap : Nat) (zs : List Int) : Prop :=
  (a = none ∧ len = 0 ∧ cap = 0 ∧ zs = []) ∨
  ∃ x, a = some x ∧ len ≤ cap ∧ cap ≤ maxLen ∧ zs.length = cap ∧ (∀ i, i < zs.length → w.cell? (x.add i) = some (.int k (zs.getD i 0))) ∧ ∀ n ∈ zs, (Lit.int k n).wf = true

/-! ### STEP 1: THE WALK: the Go text returns true, and writes nothing that was there. -/
theorem bytes_ok (a : Option Addr) (n c : Nat) (x : Value) (h : n ≤ 1048576) (w : World) : Calls Try.prog 30 #[.slice a n c, x] w fun e w' => e = .returned (.bool true) ∧ w' = w := by
  go_enter Try.func30, Try.ntmps30
  go_wp2
  go_ret
  exact ⟨rfl, rfl⟩

theorem bytes_no (a : Option Addr) (n c : Nat) (x : Value) (h : ¬ n ≤ 1048576) (hm : n ≤ 9223372036854775807) (w : World) : Calls Try.prog 30 #[.slice a n c, x] w fun e w' => e = .returned (.bool false) ∧ w' = w := by
  have h' : 1048576 < n := by omega
  clear h
  go_enter Try.func30, Try.ntmps30
  go_wp2
  go_ret
  exact ⟨rfl, rfl⟩

theorem num_not {c : Int} (h : NumC c) : ¬ Dlm c ∧ c ≠ 34 ∧ c ≠ 123 ∧ c ≠ 91 := by
  unfold NumC at h; unfold Dlm Spc; omega

theorem agree {f : Nat → Int} {n i r v : Nat} (hn : Nums f i r) (hir : i < r) (hrn : r ≤ n) (hend : r < n → Dlm (f r)) (hv : VE f n i v) : v = r := by
  have h0 := num_not (hn i (Nat.le_refl _) hir)
  have hp := hv.pass h0.2.1 h0.2.2.1 h0.2.2.2
  have hs := hv.stop h0.2.1 h0.2.2.1 h0.2.2.2
  have h1 := hv.le
  have h2 := hv.top
  apply Classical.byContradiction
  intro hne
  by_cases hlt : v < r
  · exact (num_not (hn v h1 hlt)).1 (hs (by omega))
  · exact hp r (by omega) (by omega) (hend (by omega))

theorem ret_bool {a : Bool} (h : a = true) : Ending.returned (.bool a) = .returned (.bool true) := by rw [h]

set_option maxHeartbeats 1000000 in
theorem walk (a0 : Option Addr) (len0 cap0 : Nat) (z0 : List Int) (a1 : Int) (w : World) (w0 : IsRow .u8 w a0 len0 cap0 z0) (w1 : (Lit.int .i64 a1).wf = true) :
    Calls Try.prog 11 #[.slice a0 len0 cap0, .int .i64 a1] w fun e w' => e = .returned (.bool true) ∧ Below w.heap.size w w' := by
  have hneq := fun (w : World) (a : Option Addr) (n c n' c' : Nat) => run_neq_slice_nil_any (P := Try.prog) w 22 5 a n c n' c' Try.underlying22
  have hb1 : a1 ≤ 9223372036854775807 := by
    simp [Lit.wf, IntKind.min, IntKind.max, IntKind.signed, IntKind.bits] at w1
    omega
  clear w1
  have hlm : len0 ≤ 9223372036854775807 := by
    rcases w0 with ⟨_, h, _⟩ | ⟨x, _, h1, h2, _⟩
    · omega
    · unfold maxLen at h2; omega
  by_cases hb : len0 ≤ 1048576
  · by_cases hi0 : a1 < 0
    · go_enter Try.func11, Try.ntmps11
      go_wp2_with (go_at_call 30; refine (bytes_ok a0 len0 cap0 _ hb _).mono ?_; rintro e w' ⟨rfl, rfl⟩)
      go_ret
      exact ⟨rfl, Below.refl _ _⟩
    · obtain ⟨i, rfl⟩ := Int.eq_ofNat_of_zero_le (show 0 ≤ a1 by omega)
      clear hi0
      by_cases hil : i < len0
      · rcases w0 with ⟨rfl, rfl, rfl, rfl⟩ | ⟨x, rfl, hlc, hcm, hzl, hcell, hwf⟩
        · omega
        · obtain ⟨i0, hi, hz0, hz1, hz2⟩ := info_parts info5
          have hd0 : decide (len0 ≤ i) = false := by simp; omega
          go_enter Try.func11, Try.ntmps11
          go_wp2_with (first | (go_at_call 30; refine (bytes_ok (some x) len0 cap0 _ hb _).mono ?_; rintro e w ⟨rfl, rfl⟩) | (at_make; refine wpList_make_full _ rfl _ _ 22 rfl w.heap.size 5 i0 (.int .u8 0) 1 Try.underlying22 hi hz0 hz1 .i64 .i64 _ _ len0 rfl rfl rfl rfl (by rw [hz2]; omega) (by unfold maxLen; omega) (Nat.le_refl _) ?_; intro w2 hown2 hgrow2; have hbel2 : Below w.heap.size w w2 := (Below.refl _ _).grown hgrow2 (Nat.le_refl _) (fun k hk => by simp at hk); obtain ⟨cur, hcur, hcl⟩ := own_row hown2; have hsrc := src_cells (n := len0) (by omega) hcell hbel2) | (refine wpList_copy_splice rfl (.tmp 28) (.tmp 29) 22 22 rfl 5 Try.underlying22 size5 (some ⟨w.heap.size, 0, none⟩) (some x) len0 len0 len0 cap0 rfl rfl w.heap.size 0 cur 5 hcur (cells z0 len0) (by rw [cells_len]; exact (Nat.min_self _).symm) (fun _ => ⟨rfl, x, rfl, hsrc⟩) (by rw [cells_len, hcl]; omega) (cells_one z0 len0) w.heap.size w hbel2 (Nat.le_refl _) ?_; intro w3 hh3 hbel3))
          obtain ⟨f, hf⟩ : ∃ f : Nat → Int, f = fun i => z0.getD i 0 := ⟨_, rfl⟩
          have HR : Hid (Row w3 w.heap.size len0 f) := by rw [hf]; exact row_of hcl hh3.out
          clear hf hh3 hsrc hcur hcl hbel2 hgrow2 hown2 hcell hwf hzl hcm hlc
          refine (znum_any w.heap.size len0 i f hil hb _ HR.out).mono ?_
          rintro e w4 ⟨⟨y, ok, rfl, hok⟩, rfl⟩
          cases ok with
          | false =>
            clear hok
            go_wp2_with fail
            go_ret
            exact ⟨rfl, hbel3⟩
          | true =>
            obtain ⟨r, rfl, hir, hrn, hnum⟩ := hok rfl
            have HN : Hid (Nums f i r) := hnum
            clear hok hnum
            by_cases hrl : r < len0
            · have hcr := HR.out r hrl
              by_cases hd : Dlm (f r)
              · have HD : Hid (Dlm (f r)) := hd
                clear hd
                go_wp2_with (first | (go_at_call 28; refine (delim_yes _ HD.out _).mono ?_; rintro e w' ⟨rfl, rfl⟩) | (go_at_call 15; refine (zve_any w.heap.size len0 i f hil hb _ HR.out).mono ?_; rintro e w' ⟨⟨v, hve, rfl⟩, rfl⟩))
                go_ret
                exact ⟨ret_bool (by rw [beq_iff_eq, agree HN.out hir hrn (fun _ => HD.out) hve]), hbel3⟩
              · have HD : Hid (¬ Dlm (f r)) := hd
                clear hd
                go_wp2_with (first | (go_at_call 28; refine (delim_no _ HD.out _).mono ?_; rintro e w' ⟨rfl, rfl⟩))
                go_ret
                exact ⟨rfl, hbel3⟩
            · go_wp2_with (first | (go_at_call 15; refine (zve_any w.heap.size len0 i f hil hb _ HR.out).mono ?_; rintro e w' ⟨⟨v, hve, rfl⟩, rfl⟩))
              go_ret
              exact ⟨ret_bool (by rw [beq_iff_eq, agree HN.out hir hrn (fun g => absurd g hrl) hve]), hbel3⟩
      · have hil' : len0 ≤ i := by omega
        go_enter Try.func11, Try.ntmps11
        go_wp2_with (go_at_call 30; refine (bytes_ok a0 len0 cap0 _ hb _).mono ?_; rintro e w' ⟨rfl, rfl⟩)
        go_ret
        exact ⟨rfl, Below.refl _ _⟩
  · go_enter Try.func11, Try.ntmps11
    go_wp2_with (go_at_call 30; refine (bytes_no a0 len0 cap0 _ hb hlm _).mono ?_; rintro e w' ⟨rfl, rfl⟩)
    go_ret
    exact ⟨rfl, Below.refl _ _⟩

/-! ### THE ROW's STEP: WRITTEN OUT: LEAVE IT -/
set_option maxRecDepth 100000 in
theorem lifted (os : Os) (started : os.Started) (H : Type) (enc : TypeId × Value → H) :
    ReturnsInHanded {} Try.checked os 11 .any (Rows.fnValueEndAgreesWithNumberEndSpec.pre6 enc Try.prog Try.f11 Rows.fnValueEndAgreesWithNumberEndRow.domain false) (Rows.fnValueEndAgreesWithNumberEndSpec.post enc Try.prog Try.f11 false true false false) := by
  refine returnsInHanded_of_change (C := Try.checked) own started (by kernel_rfl) Try.func11
    (ChangeSpec.witness6 (enc := enc) (C := Try.checked) false ⟨#[], #[.slice none 0 0, .int .i64 0], []⟩ 8 (by kernel_rfl) (by kernel_rfl) (by kernel_rfl) (by kernel_rfl)) ?_
  intro W base args ds gs before hval0 hW hcnd _
  have hval : ∀ (j : Nat) t v, Try.f11.params[j]? = some t → args[j]? = some v → Value.okWide Try.prog W .any base t v := hval0
  have hW' := hW
  obtain ⟨p, q, hA0, hV, rfl, hfz, hnd⟩ := hW
  have hA : DataW.TrodAll enc Try.prog W 0 (fun _ => true) true Try.f11.params.toList args.toList ds p := hA0
  rw [Try.params11] at hA hval
  obtain ⟨v0, vs0, d0, ds0, p0, q0, hargs, rfl, rfl, h0, r0⟩ := trodAll_cons hA
  obtain ⟨v1, vs1, d1, ds1, p1, q1, rfl, rfl, rfl, h1, r1⟩ := trodAll_cons r0
  obtain ⟨rfl, rfl, rfl⟩ := trodAll_nil r1
  obtain rfl : args = #[v0, v1] := by cases args; simp_all
  obtain ⟨rfl, rfl⟩ := trodVars_none hV
  obtain ⟨a0, len0, cap0, rfl⟩ := okWide_slice Try.underlying22 (hval 0 22 v0 rfl rfl)
  have k0 := h0
  have lt0 : ∀ x ∈ p0, x.block < W.heap.size := by obtain ⟨m, hm⟩ := k0; exact DataW.trod_lt m _ _ _ hm
  obtain ⟨z0, w0⟩ : ∃ zs, IsRow .u8 W a0 len0 cap0 zs := by
    obtain ⟨fuel, hf⟩ := h0
    rcases open_ints Try.underlying22 Try.underlying5 (by kernel_rfl) hf with ⟨hcs, _⟩ | ⟨x, l, c, zs, hcs, _, hl, hm, hz, _, hcell, hwz⟩
    · simp [Value.cells] at hcs
      obtain ⟨rfl, rfl, rfl⟩ := hcs
      exact ⟨[], .inl ⟨rfl, rfl, rfl, rfl⟩⟩
    · simp [Value.cells] at hcs
      obtain ⟨rfl, rfl, rfl⟩ := hcs
      exact ⟨zs, .inr ⟨_, rfl, hl, hm, by simpa using hz, hcell, hwz⟩⟩
  obtain ⟨a1, rfl, rfl, rfl, w1⟩ := open_int Try.underlying3 (hval 1 3 v1 rfl rfl) h1
  clear hA0 hval0
  refine (walk a0 len0 cap0 z0 a1 W w0 w1).mono fun e W' ⟨he, bel⟩ => ?_
  subst he
  exact ⟨_, rfl, _, _, _, [], _, [], hW', trodAll_mk1 (shut_bool Try.underlying4 _), (trodAll_cons_mk (Below.trod laidOut (by kernel_rfl) (of_decide_eq_true (by kernel_rfl)) k0 bel lt0) (trodAll_cons_mk (shut_int Try.underlying3 w1) trodAll_mk0)), rfl, bel.frame _, fun h => by cases h⟩

theorem over : Rows.fnValueEndAgreesWithNumberEndRow.holds Try.pinned (OpenSpec.ofChange Rows.fnValueEndAgreesWithNumberEndSpec) :=
  OpenClaim.holds_of_wide 11 Try.f11 rfl rfl rfl rfl rfl rfl rfl ⟨rfl, rfl, rfl, rfl, rfl⟩ rfl rfl rfl rfl rfl (by kernel_rfl) Try.func11 (by kernel_rfl)
    (of_decide_eq_true (by kernel_rfl)) (by unfold Func.isWrapper; first | (rw [if_pos (by decide +kernel)]; kernel_rfl) | (rw [if_neg (by decide +kernel)]; exact ⟨rfl, rfl⟩))
    (fun os started H enc _ => lifted os started H enc)

/-- ████ THE STATEMENT ████ -/
theorem proved : Rows.FnValueEndAgreesWithNumberEndSaid := over
#print axioms proved
end Go.Proofs.Qxb6600003a.fnValueEndAgreesWithNumberEnd

/-
  THE PROOF OF 'Rows.FnValueEndBoundsSaid'.
  The frame is the guide's template; the walk is ours.
-/
import Derived.Test.Qxb6600003aRows
import Derived.WalkKit
import Derived.ProofKit
import Derived.OpenShut
import Derived.ShutString
import Derived.ChangeOld
import Derived.Below
import Derived.Test.Qxb6600003aCopy
namespace Go.Proofs.Qxb6600003a.fnValueEndBounds
open Go.ChangeShapes Go.WideShapes Go.ChangeAt Go.RowKit
open Go.ChangeMaps (open_string shut_string)
set_option linter.unusedVariables false

theorem own : ownKnob Try.prog.godebug = none := by kernel_rfl
theorem laidOut : laidOutB Try.prog = true := by kernel_rfl

/-- WHAT THE WALK IS TOLD OF A SLICE OF INTEGERS THAT CAME IN: it is nil; or it leads to a row of 'cap' cells, the numbers 'zs' (the first 'len' are its elements, the rest its spare room), each fitting its kind. -/
def IsRow (k : IntKind) (w : World) (a : Option Addr) (len cap : Nat) (zs : List Int) : Prop :=
  (a = none ∧ len = 0 ∧ cap = 0 ∧ zs = []) ∨
  ∃ x, a = some x ∧ len ≤ cap ∧ cap ≤ maxLen ∧ zs.length = cap ∧ (∀ i, i < zs.length → w.cell? (x.add i) = some (.int k (zs.getD i 0))) ∧ ∀ n ∈ zs, (Lit.int k n).wf = true

/-! ### STEP 1: THE WALK: the Go text returns true, and writes nothing that was there. -/
theorem bytes_ok (a : Option Addr) (n c : Nat) (x : Value) (h : n ≤ 1048576) (w : World) : Calls Try.prog 27 #[.slice a n c, x] w fun e w' => e = .returned (.bool true) ∧ w' = w := by
  go_enter Try.func27, Try.ntmps27
  go_wp2
  go_ret
  exact ⟨rfl, rfl⟩

theorem bytes_no (a : Option Addr) (n c : Nat) (x : Value) (h : ¬ n ≤ 1048576) (hm : n ≤ 9223372036854775807) (w : World) : Calls Try.prog 27 #[.slice a n c, x] w fun e w' => e = .returned (.bool false) ∧ w' = w := by
  have h' : 1048576 < n := by omega
  clear h
  go_enter Try.func27, Try.ntmps27
  go_wp2
  go_ret
  exact ⟨rfl, rfl⟩

set_option maxHeartbeats 1000000 in
theorem walk (a0 : Option Addr) (len0 cap0 : Nat) (z0 : List Int) (a1 : Int) (w : World) (w0 : IsRow .u8 w a0 len0 cap0 z0) (w1 : (Lit.int .i64 a1).wf = true) :
    Calls Try.prog 9 #[.slice a0 len0 cap0, .int .i64 a1] w fun e w' => e = .returned (.bool true) ∧ Below w.heap.size w w' := by
  have hneq := fun (w : World) (a : Option Addr) (n c n' c' : Nat) => run_neq_slice_nil_any (P := Try.prog) w 22 5 a n c n' c' Try.underlying22
  have hb1 : a1 ≤ 9223372036854775807 := by
    simp [Lit.wf, IntKind.min, IntKind.max, IntKind.signed, IntKind.bits] at w1
    omega
  clear w1
  have hlm : len0 ≤ 9223372036854775807 := by
    rcases w0 with ⟨_, h, _⟩ | ⟨x, _, h1, h2, _⟩
    · omega
    · unfold maxLen at h2; omega
  by_cases hb : len0 ≤ 1048576
  · by_cases hi : a1 < 0
    · go_enter Try.func9, Try.ntmps9
      go_wp2_with (go_at_call 27; refine (bytes_ok a0 len0 cap0 _ hb _).mono ?_; rintro e w' ⟨rfl, rfl⟩)
      go_ret
      exact ⟨rfl, Below.refl _ _⟩
    · obtain ⟨s, rfl⟩ := Int.eq_ofNat_of_zero_le (show 0 ≤ a1 by omega)
      clear hi
      rcases w0 with ⟨rfl, rfl, rfl, rfl⟩ | ⟨x, rfl, hlc, hcm, hzl, hcell, hwf⟩
      · have hs0 : 0 ≤ s := Nat.zero_le s
        go_enter Try.func9, Try.ntmps9
        go_wp2_with (first | (go_at_call 27; refine (bytes_ok none 0 0 _ hb _).mono ?_; rintro e w' ⟨rfl, rfl⟩) | (go_at_call 15; refine (zve_past none 0 0 s (Nat.zero_le _) (by omega) _).mono ?_; rintro e w' ⟨rfl, rfl⟩))
        go_ret
        exact ⟨rfl, Below.refl _ _⟩
      · obtain ⟨i0, hi, hz0, hz1, hz2⟩ := info_parts info5
        go_enter Try.func9, Try.ntmps9
        go_wp2_with (first | (go_at_call 27; refine (bytes_ok (some x) len0 cap0 _ hb _).mono ?_; rintro e w ⟨rfl, rfl⟩) | (at_make; refine wpList_make_full _ rfl _ _ 22 rfl w.heap.size 5 i0 (.int .u8 0) 1 Try.underlying22 hi hz0 hz1 .i64 .i64 _ _ len0 rfl rfl rfl rfl (by rw [hz2]; omega) (by unfold maxLen; omega) (Nat.le_refl _) ?_; intro w2 hown2 hgrow2; have hbel2 : Below w.heap.size w w2 := (Below.refl _ _).grown hgrow2 (Nat.le_refl _) (fun k hk => by simp at hk); obtain ⟨cur, hcur, hcl⟩ := own_row hown2; have hsrc := src_cells (n := len0) (by omega) hcell hbel2) | (refine wpList_copy_splice rfl (.tmp 21) (.tmp 22) 22 22 rfl 5 Try.underlying22 size5 (some ⟨w.heap.size, 0, none⟩) (some x) len0 len0 len0 cap0 rfl rfl w.heap.size 0 cur 5 hcur (cells z0 len0) (by rw [cells_len]; exact (Nat.min_self _).symm) (fun _ => ⟨rfl, x, rfl, hsrc⟩) (by rw [cells_len, hcl]; omega) (cells_one z0 len0) w.heap.size w hbel2 (Nat.le_refl _) ?_; intro w3 hh3 hbel3))
        obtain ⟨f, hf⟩ : ∃ f : Nat → Int, f = fun i => z0.getD i 0 := ⟨_, rfl⟩
        have HR : Hid (Row w3 w.heap.size len0 f) := by rw [hf]; exact row_of hcl hh3.out
        clear hf hh3 hsrc hcur hcl hbel2 hgrow2 hown2 hcell hwf hzl hcm hlc
        by_cases hs : s < len0
        · have hd0 : decide (len0 ≤ s) = false := by simp; omega
          have hcs := HR.out s hs
          refine (zve_any w.heap.size len0 s f hs hb _ HR.out).mono ?_
          rintro e w4 ⟨⟨r, hve, rfl⟩, rfl⟩
          have hr1 : s ≤ r := hve.le
          have hr2 : r ≤ len0 := hve.top
          by_cases hd : Dlm (f s)
          · have HD : Hid (Dlm (f s)) := hd
            obtain rfl : r = s := hve.here.2 hd
            clear hve hd
            go_wp2_with (go_at_call 28; refine (delim_yes _ HD.out _).mono ?_; rintro e w' ⟨rfl, rfl⟩)
            go_ret
            exact ⟨rfl, hbel3⟩
          · have HD : Hid (¬ Dlm (f s)) := hd
            have hne : r ≠ s := fun e => hd (hve.here.1 e)
            have ee : ((r : Int) == (s : Int)) = false := by rw [beq_eq_false_iff_ne]; omega
            clear hve hd
            go_wp2_with (go_at_call 28; refine (delim_no _ HD.out _).mono ?_; rintro e w' ⟨rfl, rfl⟩)
            go_ret
            exact ⟨rfl, hbel3⟩
        · have hs' : len0 ≤ s := by omega
          refine (zve_past _ len0 len0 s hs' (by omega) _).mono ?_
          rintro e w4 ⟨rfl, rfl⟩
          go_wp2_with fail
          go_ret
          exact ⟨rfl, hbel3⟩
  · go_enter Try.func9, Try.ntmps9
    go_wp2_with (go_at_call 27; refine (bytes_no a0 len0 cap0 _ hb hlm _).mono ?_; rintro e w' ⟨rfl, rfl⟩)
    go_ret
    exact ⟨rfl, Below.refl _ _⟩

/-! ### THE ROW's STEP: WRITTEN OUT: LEAVE IT -/
set_option maxRecDepth 100000 in
theorem lifted (os : Os) (started : os.Started) (H : Type) (enc : TypeId × Value → H) :
    ReturnsInHanded {} Try.checked os 9 .any (Rows.fnValueEndBoundsSpec.pre6 enc Try.prog Try.f9 Rows.fnValueEndBoundsRow.domain false) (Rows.fnValueEndBoundsSpec.post enc Try.prog Try.f9 false true false false) := by
  refine returnsInHanded_of_change (C := Try.checked) own started (by kernel_rfl) Try.func9
    (ChangeSpec.witness6 (enc := enc) (C := Try.checked) false ⟨#[], #[.slice none 0 0, .int .i64 0], []⟩ 8 (by kernel_rfl) (by kernel_rfl) (by kernel_rfl) (by kernel_rfl)) ?_
  intro W base args ds gs before hval0 hW hcnd _
  have hval : ∀ (j : Nat) t v, Try.f9.params[j]? = some t → args[j]? = some v → Value.okWide Try.prog W .any base t v := hval0
  have hW' := hW
  obtain ⟨p, q, hA0, hV, rfl, hfz, hnd⟩ := hW
  have hA : DataW.TrodAll enc Try.prog W 0 (fun _ => true) true Try.f9.params.toList args.toList ds p := hA0
  rw [Try.params9] at hA hval
  obtain ⟨v0, vs0, d0, ds0, p0, q0, hargs, rfl, rfl, h0, r0⟩ := trodAll_cons hA
  obtain ⟨v1, vs1, d1, ds1, p1, q1, rfl, rfl, rfl, h1, r1⟩ := trodAll_cons r0
  obtain ⟨rfl, rfl, rfl⟩ := trodAll_nil r1
  obtain rfl : args = #[v0, v1] := by cases args; simp_all
  obtain ⟨rfl, rfl⟩ := trodVars_none hV
  obtain ⟨a0, len0, cap0, rfl⟩ := okWide_slice Try.underlying22 (hval 0 22 v0 rfl rfl)
  have k0 := h0
  have lt0 : ∀ x ∈ p0, x.block < W.heap.size := by obtain ⟨m, hm⟩ := k0; exact DataW.trod_lt m _ _ _ hm
  obtain ⟨z0, w0⟩ : ∃ zs, IsRow .u8 W a0 len0 cap0 zs := by
    obtain ⟨fuel, hf⟩ := h0
    rcases open_ints Try.underlying22 Try.underlying5 (by kernel_rfl) hf with ⟨hcs, _⟩ | ⟨x, l, c, zs, hcs, _, hl, hm, hz, _, hcell, hwz⟩
    · simp [Value.cells] at hcs
      obtain ⟨rfl, rfl, rfl⟩ := hcs
      exact ⟨[], .inl ⟨rfl, rfl, rfl, rfl⟩⟩
    · simp [Value.cells] at hcs
      obtain ⟨rfl, rfl, rfl⟩ := hcs
      exact ⟨zs, .inr ⟨_, rfl, hl, hm, by simpa using hz, hcell, hwz⟩⟩
  obtain ⟨a1, rfl, rfl, rfl, w1⟩ := open_int Try.underlying3 (hval 1 3 v1 rfl rfl) h1
  clear hA0 hval0
  refine (walk a0 len0 cap0 z0 a1 W w0 w1).mono fun e W' ⟨he, bel⟩ => ?_
  subst he
  exact ⟨_, rfl, _, _, _, [], _, [], hW', trodAll_mk1 (shut_bool Try.underlying4 _), (trodAll_cons_mk (Below.trod laidOut (by kernel_rfl) (of_decide_eq_true (by kernel_rfl)) k0 bel lt0) (trodAll_cons_mk (shut_int Try.underlying3 w1) trodAll_mk0)), rfl, bel.frame _, fun h => by cases h⟩

theorem over : Rows.fnValueEndBoundsRow.holds Try.pinned (OpenSpec.ofChange Rows.fnValueEndBoundsSpec) :=
  OpenClaim.holds_of_wide 9 Try.f9 rfl rfl rfl rfl rfl rfl rfl ⟨rfl, rfl, rfl, rfl, rfl⟩ rfl rfl rfl rfl rfl (by kernel_rfl) Try.func9 (by kernel_rfl)
    (of_decide_eq_true (by kernel_rfl)) (by unfold Func.isWrapper; first | (rw [if_pos (by decide +kernel)]; kernel_rfl) | (rw [if_neg (by decide +kernel)]; exact ⟨rfl, rfl⟩))
    (fun os started H enc _ => lifted os started H enc)

/-- ████ THE STATEMENT ████ -/
theorem proved : Rows.FnValueEndBoundsSaid := over
#print axioms proved
end Go.Proofs.Qxb6600003a.fnValueEndBounds

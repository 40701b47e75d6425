/-
  THE PROOF OF 'Rows.FnParseStampAcceptsExactlyValidToldSaid': the walk of the law; the row over fmt's stop; the told card.
-/
import Derived.Test.Qxb6002379aFmtRows
import Derived.Test.Qxb6002379aFmtCards
import Derived.Test.Qxb6002379aFmtParse
import Derived.ProofKit
import Derived.OpenShut
import Derived.ShutString
import Derived.ChangeOld
import Derived.Stop.JoinedAt
import Derived.Stop.JoinedTold
import Derived.SevenToldRow
namespace Go.Proofs.Qxb6002379aFmt.fnParseStampAcceptsExactlyValid
open Go.ChangeShapes Go.WideShapes Go.ChangeAt Go.RowKit Go.Kit
open Go.ChangeMaps (open_string shut_string)
open Go.Extern.Stop Go.Stop Go.Extern
set_option linter.unusedVariables false

theorem own : ownKnob Tryf.prog.godebug = none := by kernel_rfl
theorem laidOut : laidOutB Tryf.pinned.checked.prog = true := by kernel_rfl
theorem stops : Tryf.pinned.checked.prog.stops = ["fmt.errorf"] := by kernel_rfl
theorem stopKnobs : Tryf.pinned.checked.prog.stopKnobs = [] := by kernel_rfl
theorem quiet (os : Os) : Stop.quiet Tryf.pinned.checked.prog os := by
  intro k hk
  rw [stopKnobs] at hk
  cases hk

theorem bytes_ok (n : ByteArray) (x : Value) (h : n.size ≤ 1048576) (w : World) : Calls Tryf.prog 7 #[x, .string n] w fun e w' => e = .returned (.bool true) ∧ w' = w := by
  go_enter Tryf.func7, Tryf.ntmps7
  go_wp2
  go_ret
  exact ⟨rfl, rfl⟩

theorem bytes_no (n : ByteArray) (x : Value) (h : ¬ n.size ≤ 1048576) (w : World) : Calls Tryf.prog 7 #[x, .string n] w fun e w' => e = .returned (.bool false) ∧ w' = w := by
  have h' : 1048576 < n.size := by omega
  clear h
  go_enter Tryf.func7, Tryf.ntmps7
  go_wp2
  go_ret
  exact ⟨rfl, rfl⟩

theorem text_of {ds : List UInt8} {t : Nat} {S n T : ByteArray} (hd : Dec t ds) (hS : S.data.toList = ds) (hT : T = S ++ ⟨#[32]⟩ ++ n) : Txt T S n := by
  refine ⟨by rw [hT]; simp, fun x hx e => ?_⟩
  rw [hS] at hx
  have := (hd.each x hx).1
  rw [e] at this
  simp at this

set_option maxHeartbeats 1000000 in
theorem walk (F : Interp) (t : Nat) (n : ByteArray) (ht : t < 18446744073709551616) (wn : n.size ≤ maxLen) (w : World) (hF : F.answers w.tape) :
    Calls Tryf.prog 3 #[.int .u64 t, .string n] w fun e w' => e = .returned (.bool true) ∧ Below w.heap.size w w' := by
  unfold maxLen at wn
  by_cases hb : n.size ≤ 1048576
  · by_cases hn : n.size ≤ 65536
    · clear wn
      go_enter Tryf.func3, Tryf.ntmps3
      go_wp2_with (first | (go_at_call 7; refine (bytes_ok n _ hb _).mono ?_; rintro e w ⟨rfl, rfl⟩))
      refine (itoa_any t ht _).mono ?_
      rintro e w1 ⟨⟨ds, hd, rfl⟩, hb1⟩
      obtain ⟨S, hS⟩ : ∃ S : ByteArray, S = ⟨ds.toArray⟩ := ⟨_, rfl⟩
      have hSl : S.data.toList = ds := by rw [hS]
      rw [← hS]
      have hSz : S.size ≤ 20 := by
        have h1 := hd.top
        have h2 : S.data.toList.length = S.size := by simp
        rw [hSl] at h2
        omega
      have HD : Hid (Dec t ds) := hd
      have HSl : Hid (S.data.toList = ds) := hSl
      have HB1 : Hid (Below w.heap.size w w1) := hb1
      have hF1 : F.answers w1.tape := by rw [hb1.tape]; exact hF
      clear hS hd hSl hb1 hF
      go_wp2_with fail
      obtain ⟨T, hT⟩ : ∃ T, T = S ++ ⟨#[32]⟩ ++ n := ⟨_, rfl⟩
      rw [← hT]
      have HT : Hid (Txt T S n) := text_of HD.out HSl.out hT
      have hTz : T.size ≤ 1073741824 := by have := HT.out.size; omega
      clear hT
      refine (parse_any F t ds T S n HSl.out HD.out ht HT.out hTz _ hF1).mono ?_
      rintro e w2 ⟨hps, hb2⟩
      have HB2 : Hid (Below w.heap.size w w2) := HB1.out.trans (hb2.mono HB1.out.size)
      clear hb2
      rcases hps with ⟨h0, hv, rfl⟩ | ⟨hv, U, a, rfl⟩
      · have e0 : ((t : Int) != 0) = true := by simp; exact h0
        have HV : Hid (ValidN n) := hv
        clear hv h0
        go_wp2_with fail
        refine (validName_any n _ (by omega)).mono ?_
        rintro e w3 ⟨⟨v, rfl, hvv⟩, rfl⟩
        obtain rfl : v = true := hvv.2 HV.out
        clear hvv
        go_wp2_with fail
        go_ret
        exact ⟨rfl, HB2.out.alloc HB2.out.size _⟩
      · by_cases h0 : t = 0
        · have e0 : ((t : Int) != 0) = false := by simp; exact h0
          clear hv h0
          go_wp2_with fail
          go_ret
          exact ⟨rfl, HB2.out.alloc HB2.out.size _⟩
        · have e0 : ((t : Int) != 0) = true := by simp; exact h0
          have HV : Hid (¬ ValidN n) := fun g => hv ⟨h0, g⟩
          clear hv h0
          go_wp2_with fail
          refine (validName_any n _ (by omega)).mono ?_
          rintro e w3 ⟨⟨v, rfl, hvv⟩, rfl⟩
          obtain rfl : v = false := by
            rw [← Bool.not_eq_true]
            exact fun g => HV.out (hvv.1 g)
          clear hvv
          go_wp2_with fail
          go_ret
          exact ⟨rfl, HB2.out.alloc HB2.out.size _⟩
    · go_enter Tryf.func3, Tryf.ntmps3
      go_wp2_with (first | (go_at_call 7; refine (bytes_ok n _ hb _).mono ?_; rintro e w ⟨rfl, rfl⟩))
      go_ret
      exact ⟨rfl, Below.refl _ _⟩
  · go_enter Tryf.func3, Tryf.ntmps3
    go_wp2_with (go_at_call 7; refine (bytes_no n _ hb _).mono ?_; rintro e w' ⟨rfl, rfl⟩)
    go_ret
    exact ⟨rfl, Below.refl _ _⟩

set_option maxRecDepth 100000 in
theorem lifted (os : Os) (started : os.Started) (H : Type) (enc : TypeId × Value → H) :
    ReturnsInTold none {} Tryf.checked os 3 .any Input.okWide ((OpenSpec.ofChange Rows.fnParseStampAcceptsExactlyValidSpec).preRow enc Tryf.prog Tryf.f3 Rows.fnParseStampAcceptsExactlyValidRow.domain false []) (fun F => ((OpenSpec.ofChange Rows.fnParseStampAcceptsExactlyValidSpec).at F).post enc Tryf.prog Tryf.f3 false true false false) (aloneAtReturn Tryf.prog) nothingAlways := by
  refine returnsInTold_of_row (C := Tryf.checked) (s := OpenSpec.ofChange Rows.fnParseStampAcceptsExactlyValidSpec) (by kernel_rfl) own started (by kernel_rfl) Tryf.func3
    (OpenSpec.witness_stopped (enc := enc) (C := Tryf.checked) false ⟨#[], #[.int .u64 0, .string ⟨#[]⟩], []⟩ 8 (by kernel_rfl) (by kernel_rfl) (by kernel_rfl) (by kernel_rfl)) ?_
  intro F W base args ds gs before _ hF hval0 hW _ _ _ _ _
  have hval : ∀ (j : Nat) t v, Tryf.f3.params[j]? = some t → args[j]? = some v → Value.okWide Tryf.prog W .any base t v := hval0
  have hW' := hW
  obtain ⟨p, q, hA0, hV, rfl, hfz, hnd⟩ := hW
  have hA : DataW.TrodAll enc Tryf.prog W 0 (fun _ => true) true Tryf.f3.params.toList args.toList ds p := hA0
  rw [Tryf.params3] at hA hval
  obtain ⟨v0, v1, d0, d1, p0, p1, rfl, rfl, rfl, h0, h1⟩ := trodAll_two hA
  obtain ⟨rfl, rfl⟩ := trodVars_none hV
  obtain ⟨t, rfl, rfl, rfl, wt⟩ := open_int Tryf.underlying22 (hval 0 22 v0 rfl rfl) h0
  obtain ⟨n, rfl, rfl, rfl, wn⟩ := open_string Tryf.underlying9 (hval 1 9 v1 rfl rfl) h1
  clear hA0 hval0
  have hb : 0 ≤ t ∧ t ≤ 18446744073709551615 := by
    have := wt
    simp [Lit.wf, IntKind.min, IntKind.max, IntKind.signed, IntKind.bits] at this
    omega
  obtain ⟨m, rfl⟩ := Int.eq_ofNat_of_zero_le hb.1
  refine (walk F.told m n (by omega) wn W hF).mono fun e W' ⟨he, bel⟩ => ?_
  subst he
  exact ⟨_, rfl, _, _, _, [], _, [], hW', trodAll_mk1 (shut_bool Tryf.underlying4 _), trodAll_mk2 (shut_int Tryf.underlying22 wt) (shut_string Tryf.underlying9 wn), rfl, bel.frame _, fun h => by cases h⟩

/-- ████ THE STATEMENT ████ -/
theorem proved : Rows.FnParseStampAcceptsExactlyValidToldSaid :=
  Claim7.holds_of_told_any 3 Tryf.f3 "fmt.errorf" [] [] _ _ _ (by kernel_rfl) rfl rfl rfl laidOut (by kernel_rfl) rfl ⟨rfl, rfl, rfl, rfl, rfl, rfl, rfl⟩ rfl rfl (by kernel_rfl) (by kernel_rfl) Tryf.func3 (by kernel_rfl)
    (of_decide_eq_true (by kernel_rfl)) (by unfold Func.isWrapper; first | (rw [if_pos (by decide +kernel)]; kernel_rfl) | (rw [if_neg (by decide +kernel)]; exact ⟨rfl, rfl⟩)) stops.symm rfl stopKnobs.symm (by kernel_rfl)
    (by kernel_rfl) (by kernel_rfl) (by kernel_rfl) (by kernel_rfl) (by kernel_rfl) (by kernel_rfl) (by kernel_rfl) (by kernel_rfl) (by kernel_rfl) rfl (by kernel_rfl) rfl rfl
    rfl rfl rfl (by kernel_rfl) (by kernel_rfl) (by kernel_rfl) (by decide) (by kernel_rfl)
    (OpenClaim.moreEntering_of (by kernel_rfl) (by kernel_rfl) (by kernel_rfl) (by kernel_rfl) (by kernel_rfl) (by kernel_rfl) (by kernel_rfl) (by kernel_rfl) (by kernel_rfl) (by kernel_rfl))
    ⟨_, WideRow.started_initial, quiet _⟩
    (fun os started _ H enc _ => lifted os started H enc)
#print axioms proved
end Go.Proofs.Qxb6002379aFmt.fnParseStampAcceptsExactlyValid

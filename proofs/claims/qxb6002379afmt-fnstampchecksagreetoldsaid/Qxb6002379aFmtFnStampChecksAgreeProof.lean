/-
  THE PROOF OF 'Rows.FnStampChecksAgreeToldSaid': the walk of the law; the row over fmt's stop; the told card.
-/
import Derived.Test.Qxb6002379aFmtRows
import Derived.Test.Qxb6002379aFmtCards
import Derived.Test.Qxb6002379aFmtParse
import Derived.Test.Qxb6002379aFmtStamp
import Derived.ProofKit
import Derived.OpenShut
import Derived.ShutString
import Derived.ChangeOld
import Derived.Stop.JoinedAt
import Derived.Stop.JoinedTold
import Derived.SevenToldRow
namespace Go.Proofs.Qxb6002379aFmt.fnStampChecksAgree
open Go.ChangeShapes Go.WideShapes Go.ChangeAt Go.RowKit Go.Kit
open Go.ChangeMaps (open_string shut_string)
open Go.Extern.Stop Go.Stop Go.Extern
set_option linter.unusedVariables false

theorem own : ownKnob Tryf.prog.godebug = none := by kernel_rfl
theorem laidOut : laidOutB Tryf.pinned.checked.prog = true := by kernel_rfl
theorem stops : Tryf.pinned.checked.prog.stops = ["fmt.errorf"] := by kernel_rfl
theorem stopKnobs : Tryf.pinned.checked.prog.stopKnobs = [] := by kernel_rfl
theorem quiet (os : Os) : Stop.quiet Tryf.pinned.checked.prog os := by
  intro k hk
  rw [stopKnobs] at hk
  cases hk

theorem bytes_ok (n : ByteArray) (x : Value) (h : n.size ≤ 1048576) (w : World) : Calls Tryf.prog 13 #[x, .string n] w fun e w' => e = .returned (.bool true) ∧ w' = w := by
  go_enter Tryf.func13, Tryf.ntmps13
  go_wp2
  go_ret
  exact ⟨rfl, rfl⟩

theorem bytes_no (n : ByteArray) (x : Value) (h : ¬ n.size ≤ 1048576) (w : World) : Calls Tryf.prog 13 #[x, .string n] w fun e w' => e = .returned (.bool false) ∧ w' = w := by
  have h' : 1048576 < n.size := by omega
  clear h
  go_enter Tryf.func13, Tryf.ntmps13
  go_wp2
  go_ret
  exact ⟨rfl, rfl⟩

theorem text_of {ds : List UInt8} {t : Nat} {S n T : ByteArray} (hd : Dec t ds) (hS : S.data.toList = ds) (hT : T = S ++ ⟨#[32]⟩ ++ n) : Txt T S n := by
  refine ⟨by rw [hT]; simp, fun x hx e => ?_⟩
  rw [hS] at hx
  have := (hd.each x hx).1
  rw [e] at this
  simp at this

/-- Old cells and marks behind a call that makes memory. -/
theorem bcell {W w1 : World} (hb : Below W.heap.size W w1) : (∀ b o, b < W.heap.size → w1.cell? ⟨b, o, none⟩ = W.cell? ⟨b, o, none⟩) ∧ (∀ b o, b < W.heap.size → w1.frozen? ⟨b, o, none⟩ = W.frozen? ⟨b, o, none⟩) :=
  ⟨fun b o h => hb.cell (p := ⟨b, o, none⟩) h, fun b o h => hb.frozen (p := ⟨b, o, none⟩) h⟩

theorem valid_nonempty {n : ByteArray} (h : ValidN n) : n.toList.isEmpty = false := by
  have hp := h.pos
  have e : n.toList.length = n.size := by rw [ByteArray.toList_eq]; simp
  cases hl : n.toList with
  | nil => rw [hl] at e; simp at e; omega
  | cons a l => rfl

set_option maxHeartbeats 1000000 in
theorem walk (F : Interp) (t : Nat) (n : ByteArray) (ht : t < 18446744073709551616) (wn : n.size ≤ maxLen) (w : World) (hF : F.answers w.tape) :
    Calls Tryf.prog 5 #[.int .u64 t, .string n] w fun e w' => e = .returned (.bool true) ∧ Below w.heap.size w w' := by
  unfold maxLen at wn
  by_cases hb : n.size ≤ 1048576
  · by_cases hn : n.size ≤ 65536
    · clear wn
      go_enter Tryf.func5, Tryf.ntmps5
      go_wp2_with (first | (go_at_call 13; refine (bytes_ok n _ hb _).mono ?_; rintro e w ⟨rfl, rfl⟩))
      refine (check14 F t n (by omega) _ (by exact hF)).mono ?_
      rintro e w1 ⟨hck, hb1⟩
      have hs1 : w.heap.size < w1.heap.size := by have := hb1.size; simp at this; omega
      have c0 : w1.cell? ⟨w.heap.size, 0, none⟩ = some (.int .u64 t) := by rw [hb1.cell (p := ⟨w.heap.size, 0, none⟩) (by simp)]; simp
      have c1 : w1.cell? ⟨w.heap.size, 1, none⟩ = some (.string n) := by rw [hb1.cell (p := ⟨w.heap.size, 1, none⟩) (by simp)]; simp
      have HB1 : Hid (Below w.heap.size w w1) := ((Below.refl _ _).alloc (Nat.le_refl _) _).trans (hb1.mono (by simp))
      have hF1 : F.answers w1.tape := by rw [HB1.out.tape]; exact hF
      clear hb1 hF
      rcases hck with ⟨hck, rfl⟩ | ⟨hck, a, rfl⟩
      · have HK : Hid (ValidN n ∧ t ≠ 0) := hck
        have hF := hF1
        clear hck hF1
        go_wp2_with fail
        refine (itoa_any t ht _).mono ?_
        rintro e w2 ⟨⟨ds, hd, rfl⟩, hb2⟩
        obtain ⟨S, hS⟩ : ∃ S : ByteArray, S = ⟨ds.toArray⟩ := ⟨_, rfl⟩
        have hSl : S.data.toList = ds := by rw [hS]
        rw [← hS]
        have hSz : S.size ≤ 20 := by
          have h1 := hd.top
          have h2 : S.data.toList.length = S.size := by simp
          rw [hSl] at h2
          omega
        have HD : Hid (Dec t ds) := hd
        have HSl : Hid (S.data.toList = ds) := hSl
        have HB2 : Hid (Below w.heap.size w w2) := HB1.out.trans (hb2.mono HB1.out.size)
        have hF2 : F.answers w2.tape := by rw [hb2.tape]; exact hF
        have d0 : w2.cell? ⟨w.heap.size, 0, none⟩ = some (.int .u64 t) := by rw [hb2.cell (p := ⟨w.heap.size, 0, none⟩) hs1]; exact c0
        have d1 : w2.cell? ⟨w.heap.size, 1, none⟩ = some (.string n) := by rw [hb2.cell (p := ⟨w.heap.size, 1, none⟩) hs1]; exact c1
        have hs2 : w.heap.size < w2.heap.size := by have := hb2.size; omega
        clear hS hd hSl hb2 c0 c1 hs1
        go_wp2_with fail
        obtain ⟨T, hT⟩ : ∃ T, T = S ++ ⟨#[32]⟩ ++ n := ⟨_, rfl⟩
        rw [← hT]
        have HT : Hid (Txt T S n) := text_of HD.out HSl.out hT
        have hTz : T.size ≤ 1073741824 := by have := HT.out.size; omega
        clear hT
        refine (parse_any F t ds T S n HSl.out HD.out ht HT.out hTz _ hF2).mono ?_
        rintro e w3 ⟨hps, hb3⟩
        have HB3 : Hid (Below w.heap.size w w3) := HB2.out.trans (hb3.mono HB2.out.size)
        have g0 : w3.cell? ⟨w.heap.size, 0, none⟩ = some (.int .u64 t) := by rw [hb3.cell (p := ⟨w.heap.size, 0, none⟩) hs2]; exact d0
        have g1 : w3.cell? ⟨w.heap.size, 1, none⟩ = some (.string n) := by rw [hb3.cell (p := ⟨w.heap.size, 1, none⟩) hs2]; exact d1
        have hs3 : w.heap.size < w3.heap.size := by have := hb3.size; omega
        have hs4 : w.heap.size < w3.heap.size + 1 := by omega
        have hs5 : w.heap.size < w3.heap.size + 1 + 1 := by omega
        clear hb3 d0 d1 hs2 hF hF2
        obtain rfl : e = .returned (.tuple #[.agg #[.int .u64 t, .string n], .nilIface]) := by
          rcases hps with ⟨_, _, h⟩ | ⟨h, _⟩
          · exact h
          · exact absurd ⟨HK.out.2, HK.out.1⟩ h
        clear hps
        go_wp2_with fail
        refine (missing15 t n (w3.heap.size + 1) _ (by simp [go_sem]) (by simp [go_sem])).mono ?_
        rintro e w4 ⟨hm, hb4⟩
        have k0 : w4.cell? ⟨w3.heap.size + 1, 0, none⟩ = some (.int .u64 t) := by rw [hb4.cell (p := ⟨w3.heap.size + 1, 0, none⟩) (by simp)]; simp [go_sem]
        have k1 : w4.cell? ⟨w3.heap.size + 1, 1, none⟩ = some (.string n) := by rw [hb4.cell (p := ⟨w3.heap.size + 1, 1, none⟩) (by simp)]; simp [go_sem]
        have m0 : w4.cell? ⟨w.heap.size, 0, none⟩ = some (.int .u64 t) := by rw [hb4.cell (p := ⟨w.heap.size, 0, none⟩) (by simp; omega), World.cell?_alloc_lt _ _ _ (by simp; omega), World.cell?_alloc_lt _ _ _ hs3]; exact g0
        have m1 : w4.cell? ⟨w.heap.size, 1, none⟩ = some (.string n) := by rw [hb4.cell (p := ⟨w.heap.size, 1, none⟩) (by simp; omega), World.cell?_alloc_lt _ _ _ (by simp; omega), World.cell?_alloc_lt _ _ _ hs3]; exact g1
        have HB4 : Hid (Below w.heap.size w w4) := ((HB3.out.alloc HB3.out.size _).alloc (by have := HB3.out.size; simp; omega) _).trans (hb4.mono (by have := HB3.out.size; simp; omega))
        clear hb4 g0 g1 hs3 hs4 hs5
        have e0 : ((t : Int) != 0) = true := by simp; exact HK.out.2
        have e1 := valid_nonempty HK.out.1
        obtain rfl : e = .returned .nilIface := by
          rcases hm with ⟨_, h⟩ | ⟨h, _⟩
          · exact h
          · exact absurd ⟨e1, HK.out.2⟩ h
        clear hm
        go_wp2_with fail
        go_ret
        exact ⟨rfl, HB4.out⟩
      · have HK : Hid (¬ (ValidN n ∧ t ≠ 0)) := hck
        have hF := hF1
        clear hck hF1
        go_wp2_with fail
        refine (itoa_any t ht _).mono ?_
        rintro e w2 ⟨⟨ds, hd, rfl⟩, hb2⟩
        obtain ⟨S, hS⟩ : ∃ S : ByteArray, S = ⟨ds.toArray⟩ := ⟨_, rfl⟩
        have hSl : S.data.toList = ds := by rw [hS]
        rw [← hS]
        have hSz : S.size ≤ 20 := by
          have h1 := hd.top
          have h2 : S.data.toList.length = S.size := by simp
          rw [hSl] at h2
          omega
        have HD : Hid (Dec t ds) := hd
        have HSl : Hid (S.data.toList = ds) := hSl
        have HB2 : Hid (Below w.heap.size w w2) := HB1.out.trans (hb2.mono HB1.out.size)
        have hF2 : F.answers w2.tape := by rw [hb2.tape]; exact hF
        have d0 : w2.cell? ⟨w.heap.size, 0, none⟩ = some (.int .u64 t) := by rw [hb2.cell (p := ⟨w.heap.size, 0, none⟩) hs1]; exact c0
        have d1 : w2.cell? ⟨w.heap.size, 1, none⟩ = some (.string n) := by rw [hb2.cell (p := ⟨w.heap.size, 1, none⟩) hs1]; exact c1
        have hs2 : w.heap.size < w2.heap.size := by have := hb2.size; omega
        clear hS hd hSl hb2 c0 c1 hs1
        go_wp2_with fail
        obtain ⟨T, hT⟩ : ∃ T, T = S ++ ⟨#[32]⟩ ++ n := ⟨_, rfl⟩
        rw [← hT]
        have HT : Hid (Txt T S n) := text_of HD.out HSl.out hT
        have hTz : T.size ≤ 1073741824 := by have := HT.out.size; omega
        clear hT
        refine (parse_any F t ds T S n HSl.out HD.out ht HT.out hTz _ hF2).mono ?_
        rintro e w3 ⟨hps, hb3⟩
        have HB3 : Hid (Below w.heap.size w w3) := HB2.out.trans (hb3.mono HB2.out.size)
        have g0 : w3.cell? ⟨w.heap.size, 0, none⟩ = some (.int .u64 t) := by rw [hb3.cell (p := ⟨w.heap.size, 0, none⟩) hs2]; exact d0
        have g1 : w3.cell? ⟨w.heap.size, 1, none⟩ = some (.string n) := by rw [hb3.cell (p := ⟨w.heap.size, 1, none⟩) hs2]; exact d1
        have hs3 : w.heap.size < w3.heap.size := by have := hb3.size; omega
        have hs4 : w.heap.size < w3.heap.size + 1 := by omega
        have hs5 : w.heap.size < w3.heap.size + 1 + 1 := by omega
        clear hb3 d0 d1 hs2 hF hF2
        obtain ⟨U, a2, rfl⟩ : ∃ U a2, e = .returned (.tuple #[.agg #[.int .u64 0, .string ⟨#[]⟩], .iface U (.pointer (some a2))]) := by
          rcases hps with ⟨h1, h2, _⟩ | ⟨_, h⟩
          · exact absurd ⟨h2, h1⟩ HK.out
          · exact h
        clear hps
        go_wp2_with fail
        refine (missing15 t n (w3.heap.size + 1) _ (by simp [go_sem]) (by simp [go_sem])).mono ?_
        rintro e w4 ⟨hm, hb4⟩
        have k0 : w4.cell? ⟨w3.heap.size + 1, 0, none⟩ = some (.int .u64 t) := by rw [hb4.cell (p := ⟨w3.heap.size + 1, 0, none⟩) (by simp)]; simp [go_sem]
        have k1 : w4.cell? ⟨w3.heap.size + 1, 1, none⟩ = some (.string n) := by rw [hb4.cell (p := ⟨w3.heap.size + 1, 1, none⟩) (by simp)]; simp [go_sem]
        have m0 : w4.cell? ⟨w.heap.size, 0, none⟩ = some (.int .u64 t) := by rw [hb4.cell (p := ⟨w.heap.size, 0, none⟩) (by simp; omega), World.cell?_alloc_lt _ _ _ (by simp; omega), World.cell?_alloc_lt _ _ _ hs3]; exact g0
        have m1 : w4.cell? ⟨w.heap.size, 1, none⟩ = some (.string n) := by rw [hb4.cell (p := ⟨w.heap.size, 1, none⟩) (by simp; omega), World.cell?_alloc_lt _ _ _ (by simp; omega), World.cell?_alloc_lt _ _ _ hs3]; exact g1
        have HB4 : Hid (Below w.heap.size w w4) := ((HB3.out.alloc HB3.out.size _).alloc (by have := HB3.out.size; simp; omega) _).trans (hb4.mono (by have := HB3.out.size; simp; omega))
        clear hb4 g0 g1 hs3 hs4 hs5
        by_cases e1 : n.toList.isEmpty = false
        · by_cases h0 : t = 0
          · have e0 : ((t : Int) != 0) = false := by simp; exact h0
            obtain ⟨a3, rfl⟩ : ∃ a3, e = .returned (.iface 58 (.pointer (some a3))) := by
              rcases hm with ⟨h, _⟩ | ⟨_, h⟩
              · exact absurd h0 h.2
              · exact h
            clear hm h0
            go_wp2_with fail
            go_ret
            exact ⟨rfl, HB4.out⟩
          · have e0 : ((t : Int) != 0) = true := by simp; exact h0
            obtain rfl : e = .returned .nilIface := by
              rcases hm with ⟨_, h⟩ | ⟨h, _⟩
              · exact h
              · exact absurd ⟨e1, h0⟩ h
            clear hm h0
            go_wp2_with fail
            go_ret
            exact ⟨rfl, HB4.out⟩
        · have e2 : n.toList.isEmpty = true := by simpa using e1
          obtain ⟨a3, rfl⟩ : ∃ a3, e = .returned (.iface 58 (.pointer (some a3))) := by
            rcases hm with ⟨h, _⟩ | ⟨_, h⟩
            · exact absurd h.1 e1
            · exact h
          clear hm e1
          go_wp2_with fail
          go_ret
          exact ⟨rfl, HB4.out⟩
    · go_enter Tryf.func5, Tryf.ntmps5
      go_wp2_with (first | (go_at_call 13; refine (bytes_ok n _ hb _).mono ?_; rintro e w ⟨rfl, rfl⟩))
      go_ret
      exact ⟨rfl, Below.refl _ _⟩
  · go_enter Tryf.func5, Tryf.ntmps5
    go_wp2_with (go_at_call 13; refine (bytes_no n _ hb _).mono ?_; rintro e w' ⟨rfl, rfl⟩)
    go_ret
    exact ⟨rfl, Below.refl _ _⟩

set_option maxRecDepth 100000 in
theorem lifted (os : Os) (started : os.Started) (H : Type) (enc : TypeId × Value → H) :
    ReturnsInTold none {} Tryf.checked os 5 .any Input.okWide ((OpenSpec.ofChange Rows.fnStampChecksAgreeSpec).preRow enc Tryf.prog Tryf.f5 Rows.fnStampChecksAgreeRow.domain false []) (fun F => ((OpenSpec.ofChange Rows.fnStampChecksAgreeSpec).at F).post enc Tryf.prog Tryf.f5 false true false false) (aloneAtReturn Tryf.prog) nothingAlways := by
  refine returnsInTold_of_row (C := Tryf.checked) (s := OpenSpec.ofChange Rows.fnStampChecksAgreeSpec) (by kernel_rfl) own started (by kernel_rfl) Tryf.func5
    (OpenSpec.witness_stopped (enc := enc) (C := Tryf.checked) false ⟨#[], #[.int .u64 0, .string ⟨#[]⟩], []⟩ 8 (by kernel_rfl) (by kernel_rfl) (by kernel_rfl) (by kernel_rfl)) ?_
  intro F W base args ds gs before _ hF hval0 hW _ _ _ _ _
  have hval : ∀ (j : Nat) t v, Tryf.f5.params[j]? = some t → args[j]? = some v → Value.okWide Tryf.prog W .any base t v := hval0
  have hW' := hW
  obtain ⟨p, q, hA0, hV, rfl, hfz, hnd⟩ := hW
  have hA : DataW.TrodAll enc Tryf.prog W 0 (fun _ => true) true Tryf.f5.params.toList args.toList ds p := hA0
  rw [Tryf.params5] at hA hval
  obtain ⟨v0, v1, d0, d1, p0, p1, rfl, rfl, rfl, h0, h1⟩ := trodAll_two hA
  obtain ⟨rfl, rfl⟩ := trodVars_none hV
  obtain ⟨t, rfl, rfl, rfl, wt⟩ := open_int Tryf.underlying22 (hval 0 22 v0 rfl rfl) h0
  obtain ⟨n, rfl, rfl, rfl, wn⟩ := open_string Tryf.underlying9 (hval 1 9 v1 rfl rfl) h1
  clear hA0 hval0
  have hb : 0 ≤ t ∧ t ≤ 18446744073709551615 := by
    have := wt
    simp [Lit.wf, IntKind.min, IntKind.max, IntKind.signed, IntKind.bits] at this
    omega
  obtain ⟨m, rfl⟩ := Int.eq_ofNat_of_zero_le hb.1
  refine (walk F.told m n (by omega) wn W hF).mono fun e W' ⟨he, bel⟩ => ?_
  subst he
  exact ⟨_, rfl, _, _, _, [], _, [], hW', trodAll_mk1 (shut_bool Tryf.underlying4 _), trodAll_mk2 (shut_int Tryf.underlying22 wt) (shut_string Tryf.underlying9 wn), rfl, bel.frame _, fun h => by cases h⟩

/-- ████ THE STATEMENT ████ -/
theorem proved : Rows.FnStampChecksAgreeToldSaid :=
  Claim7.holds_of_told_any 5 Tryf.f5 "fmt.errorf" [] [] _ _ _ (by kernel_rfl) rfl rfl rfl laidOut (by kernel_rfl) rfl ⟨rfl, rfl, rfl, rfl, rfl, rfl, rfl⟩ rfl rfl (by kernel_rfl) (by kernel_rfl) Tryf.func5 (by kernel_rfl)
    (of_decide_eq_true (by kernel_rfl)) (by unfold Func.isWrapper; first | (rw [if_pos (by decide +kernel)]; kernel_rfl) | (rw [if_neg (by decide +kernel)]; exact ⟨rfl, rfl⟩)) stops.symm rfl stopKnobs.symm (by kernel_rfl)
    (by kernel_rfl) (by kernel_rfl) (by kernel_rfl) (by kernel_rfl) (by kernel_rfl) (by kernel_rfl) (by kernel_rfl) (by kernel_rfl) (by kernel_rfl) rfl (by kernel_rfl) rfl rfl
    rfl rfl rfl (by kernel_rfl) (by kernel_rfl) (by kernel_rfl) (by decide) (by kernel_rfl)
    (OpenClaim.moreEntering_of (by kernel_rfl) (by kernel_rfl) (by kernel_rfl) (by kernel_rfl) (by kernel_rfl) (by kernel_rfl) (by kernel_rfl) (by kernel_rfl) (by kernel_rfl) (by kernel_rfl))
    ⟨_, WideRow.started_initial, quiet _⟩
    (fun os started _ H enc _ => lifted os started H enc)
#print axioms proved
end Go.Proofs.Qxb6002379aFmt.fnStampChecksAgree

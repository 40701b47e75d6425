/-
  THE WALKS of clip, checkProcess, CheckProcess, zzValidName.
-/
import Derived.Test.Qxb6002379aFmtErrf
import Derived.Test.Qxb6002379aFmtPlain
namespace Go.Proofs.Qxb6002379aFmt
open Go.RowKit Go.Extern.Stop Go.Stop Go.Extern
set_option linter.unusedVariables false

/-- A string comes back. -/
def SomeStr (e : Ending) : Prop := ∃ s : ByteArray, e = .returned (.string s)

theorem clip_any (s : ByteArray) (w : World) (hs : s.size ≤ 1073741824) :
    Calls Tryf.prog 23 #[.string s] w fun e w' => SomeStr e ∧ w' = w := by
  by_cases h40 : s.size ≤ 40
  · go_enter Tryf.func23, Tryf.ntmps23
    go_wp2
    go_ret
    exact ⟨⟨_, rfl⟩, rfl⟩
  · have h41 : 40 < s.size := by omega
    clear h40
    go_enter Tryf.func23, Tryf.ntmps23
    go_wp2_with fail
    go_loop [3] (fun i => ∃ k : Nat, k ≤ 40 ∧ i = .int .i64 k) (fun i => (intOf i).toNat)
    case atStart => exact ⟨40, Nat.le_refl _, rfl⟩
    case round =>
      obtain ⟨k, hk, rfl⟩ := hrel
      by_cases h0 : 0 < k
      · have hks : k < s.size := by omega
        have h0' : (0 : Int) < (k : Int) := by omega
        go_wp2
        · go_round
          case rel => exact ⟨k - 1, by omega, by congr 1; omega⟩
          case measure => simp [intOf]; omega
        · go_ret
          exact ⟨⟨_, rfl⟩, rfl⟩
      · obtain rfl : k = 0 := by omega
        go_wp2
        go_ret
        exact ⟨⟨_, rfl⟩, rfl⟩

/-- What checkProcess answers. -/
def CkOut (n : ByteArray) (w : World) (e : Ending) (w' : World) : Prop := (ValidN n ∧ e = .returned .nilIface ∧ w' = w) ∨ (¬ ValidN n ∧ NewErr 58 w e w')

theorem NewErr.after {T : TypeId} {w0 w w' : World} {e : Ending} (h : NewErr T w e w') (hb : Below w0.heap.size w0 w) : NewErr T w0 e w' := by
  obtain ⟨a, s, he, hc, h1, h2, h3⟩ := h
  exact ⟨a, s, he, hc, Nat.le_trans hb.size h1, h2, hb.trans (h3.mono hb.size)⟩

set_option maxHeartbeats 1000000 in
theorem checkProcess_any (F : Interp) (n : ByteArray) (w : World) (hs : n.size ≤ 1073741824) (hF : F.answers w.tape) :
    Calls Tryf.prog 34 #[.string n] w fun e w' => CkOut n w e w' := by
  by_cases h0 : n.size = 0
  · have e0 : ((n.size : Int) == 0) = true := by rw [beq_iff_eq]; omega
    have hv : ¬ ValidN n := fun h => by have := h.pos; omega
    have HV : Hid (¬ ValidN n) := hv
    clear h0 hv
    go_enter Tryf.func34, Tryf.ntmps34
    go_wp2_with fail
    refine (errNew _ _).mono ?_
    rintro e w1 hne
    have HN := hne
    obtain ⟨a, s, rfl, hc, h1, h2, h3⟩ := hne
    have HH : Hid (NewErr 58 w (.returned (.iface 58 (.pointer (some a)))) w1) := HN
    clear HN hc h1 h2 h3
    go_wp2_with fail
    go_ret
    exact .inr ⟨HV.out, HH.out⟩
  · have e0 : ((n.size : Int) == 0) = false := by rw [beq_eq_false_iff_ne]; omega
    have hpos : 0 < n.size := by omega
    clear h0
    by_cases h200 : n.size ≤ 200
    · go_enter Tryf.func34, Tryf.ntmps34
      go_wp2_with fail
      go_loop [3] (fun v => ∃ k : Nat, k ≤ n.size ∧ v = .int .i64 k ∧ ∀ i, i < k → 33 ≤ pk n i ∧ pk n i ≤ 126) (fun v => n.size - (intOf v).toNat)
      case atStart => exact ⟨0, Nat.zero_le _, rfl, fun i hi => by omega⟩
      case round =>
        obtain ⟨k, hk, rfl, hall⟩ := hrel
        have HA : Hid (∀ i, i < k → 33 ≤ pk n i ∧ pk n i ≤ 126) := hall
        clear hall
        by_cases hlt : k < n.size
        · have hpk := pk_lt n k hlt
          have HP : Hid (((n[k].toNat : Nat) : Int) = pk n k) := hpk
          by_cases hb : 33 ≤ pk n k ∧ pk n k ≤ 126
          · have g1 : 33 ≤ ((n[k].toNat : Nat) : Int) := by omega
            have g2 : ((n[k].toNat : Nat) : Int) ≤ 126 := by omega
            have HA2 : Hid (∀ i, i < k + 1 → 33 ≤ pk n i ∧ pk n i ≤ 126) := fun i hi => by
              by_cases e : i = k
              · rw [e]; exact hb
              · exact HA.out i (by omega)
            clear hpk hb
            go_wp2
            go_round
            case rel => exact ⟨k + 1, by omega, by go_num, HA2.out⟩
            case measure => simp [intOf]; omega
          · have hv : ¬ ValidN n := fun h => hb (h.each k hlt)
            have HV : Hid (¬ ValidN n) := hv
            by_cases hlo : pk n k < 33
            · have g1 : ((n[k].toNat : Nat) : Int) < 33 := by omega
              clear hpk hb hv hlo
              go_wp2_with fail
              refine (clip_any n _ hs).mono ?_
              rintro e w' ⟨⟨s, rfl⟩, rfl⟩
              go_wp2_with fail
              refine (errorf4 F s ((n[k].toNat : Nat) : Int) (k : Int) w'.heap.size _ (by exact hF) (by simp) (by simp) (by simp)).mono ?_
              rintro e w1 hne
              have HH : Hid (NewErr 58 _ e w1) := hne
              obtain ⟨a, s, rfl, hc, h1, h2, h3⟩ := hne
              clear hc h1 h2 h3
              go_wp2_with fail
              go_ret
              exact .inr ⟨HV.out, HH.out.after ((Below.refl _ _).alloc (Nat.le_refl _) _)⟩
            · have g1 : ¬ ((n[k].toNat : Nat) : Int) < 33 := by omega
              have g2 : 126 < ((n[k].toNat : Nat) : Int) := by omega
              clear hpk hb hv hlo
              go_wp2_with fail
              refine (clip_any n _ hs).mono ?_
              rintro e w' ⟨⟨s, rfl⟩, rfl⟩
              go_wp2_with fail
              refine (errorf4 F s ((n[k].toNat : Nat) : Int) (k : Int) w'.heap.size _ (by exact hF) (by simp) (by simp) (by simp)).mono ?_
              rintro e w1 hne
              have HH : Hid (NewErr 58 _ e w1) := hne
              obtain ⟨a, s, rfl, hc, h1, h2, h3⟩ := hne
              clear hc h1 h2 h3
              go_wp2_with fail
              go_ret
              exact .inr ⟨HV.out, HH.out.after ((Below.refl _ _).alloc (Nat.le_refl _) _)⟩
        · obtain rfl : k = n.size := by omega
          go_wp2
          go_ret
          exact .inl ⟨⟨hpos, h200, HA.out⟩, rfl, rfl⟩
    · have h201 : 200 < n.size := by omega
      have HV : Hid (¬ ValidN n) := fun h => h200 h.top
      clear h200
      go_enter Tryf.func34, Tryf.ntmps34
      go_wp2_with fail
      refine (errorf3 F (n.size : Int) 200 w.heap.size _ (by exact hF) (by simp) (by simp)).mono ?_
      rintro e w1 hne
      have HH : Hid (NewErr 58 _ e w1) := hne
      obtain ⟨a, s, rfl, hc, h1, h2, h3⟩ := hne
      clear hc h1 h2 h3
      go_wp2_with fail
      go_ret
      exact .inr ⟨HV.out, HH.out.after ((Below.refl _ _).alloc (Nat.le_refl _) _)⟩

theorem CheckProcess_any (F : Interp) (n : ByteArray) (w : World) (hs : n.size ≤ 1073741824) (hF : F.answers w.tape) :
    Calls Tryf.prog 24 #[.string n] w fun e w' => CkOut n w e w' := by
  go_enter Tryf.func24, Tryf.ntmps24
  go_wp2_with fail
  refine (checkProcess_any F n _ hs hF).mono ?_
  rintro e w1 hne
  have HH : Hid (CkOut n w e w1) := hne
  rcases hne with ⟨_, rfl, h⟩ | ⟨_, a, s, rfl, h⟩
  · clear h
    go_wp2_with fail
    go_ret
    exact HH.out
  · clear h
    go_wp2_with fail
    go_ret
    exact HH.out

/-- What zzValidName answers. -/
def NmOut (n : ByteArray) (e : Ending) : Prop := ∃ v : Bool, e = .returned (.bool v) ∧ (v = true ↔ ValidN n)

set_option maxHeartbeats 1000000 in
set_option maxRecDepth 100000 in
theorem validName_any (n : ByteArray) (w : World) (hs : n.size ≤ 1073741824) :
    Calls Tryf.prog 10 #[.string n] w fun e w' => NmOut n e ∧ w' = w := by
  go_enter Tryf.func10, Tryf.ntmps10
  go_wp2_with fail
  go_loop [3, 4] (fun c v => ∃ k : Nat, k ≤ n.size ∧ k ≤ 200 ∧ v = .int .i64 k ∧ c = .int .i64 k ∧ ∀ i, i < k → 33 ≤ pk n i ∧ pk n i ≤ 126) (fun _ v => n.size - (intOf v).toNat)
  case atStart => exact ⟨0, Nat.zero_le _, by omega, rfl, rfl, fun i hi => by omega⟩
  case round =>
    obtain ⟨k, hk, hk2, rfl, rfl, hall⟩ := hrel
    have HA : Hid (∀ i, i < k → 33 ≤ pk n i ∧ pk n i ≤ 126) := hall
    clear hall
    by_cases hlt : k < n.size
    · have hpk := pk_lt n k hlt
      by_cases hb : 33 ≤ pk n k ∧ pk n k ≤ 126
      · have g1 : 33 ≤ ((n[k].toNat : Nat) : Int) := by omega
        have g2 : ((n[k].toNat : Nat) : Int) ≤ 126 := by omega
        have HA2 : Hid (∀ i, i < k + 1 → 33 ≤ pk n i ∧ pk n i ≤ 126) := fun i hi => by
          by_cases e : i = k
          · rw [e]; exact hb
          · exact HA.out i (by omega)
        clear hpk hb
        by_cases h200 : k < 200
        · go_wp2
          go_round
          case rel => exact ⟨k + 1, by omega, by omega, by go_num, by go_num, HA2.out⟩
          case measure => simp [intOf]; omega
        · have h200' : 200 ≤ k := by omega
          have HV : Hid (¬ ValidN n) := fun h => by have := h.top; omega
          go_wp2
          go_ret
          exact ⟨⟨false, rfl, by simp; exact HV.out⟩, rfl⟩
      · have HV : Hid (¬ ValidN n) := fun h => hb (h.each k hlt)
        by_cases hlo : pk n k < 33
        · have g1 : ((n[k].toNat : Nat) : Int) ≤ 32 := by omega
          clear hpk hb hlo
          go_wp2
          go_ret
          exact ⟨⟨false, rfl, by simp; exact HV.out⟩, rfl⟩
        · have g1 : ¬ ((n[k].toNat : Nat) : Int) ≤ 32 := by omega
          have g2 : 127 ≤ ((n[k].toNat : Nat) : Int) := by omega
          clear hpk hb hlo
          go_wp2
          go_ret
          exact ⟨⟨false, rfl, by simp; exact HV.out⟩, rfl⟩
    · obtain rfl : k = n.size := by omega
      go_wp2
      go_ret
      refine ⟨⟨decide (0 < n.size), rfl, ?_⟩, rfl⟩
      simp
      exact ⟨fun h => ⟨h, hk2, HA.out⟩, fun h => h.pos⟩
end Go.Proofs.Qxb6002379aFmt

/-
  THE WALKS of Stamp.check, Stamp.missing and their two shims.
-/
import Derived.Test.Qxb6002379aFmtNames
namespace Go.Proofs.Qxb6002379aFmt
open Go.RowKit Go.Extern.Stop Go.Stop Go.Extern
set_option linter.unusedVariables false

/-- nil where it holds, a new error where not. -/
def ErrOut (ok : Prop) (e : Ending) : Prop := (ok ∧ e = .returned .nilIface) ∨ (¬ ok ∧ ∃ a, e = .returned (.iface 58 (.pointer (some a))))

set_option maxHeartbeats 400000 in
theorem check26 (F : Interp) (t : Nat) (n : ByteArray) (hn : n.size ≤ 1073741824) (w : World) (hF : F.answers w.tape) :
    Calls Tryf.prog 26 #[.agg #[.int .u64 t, .string n]] w fun e w' => ErrOut (ValidN n ∧ t ≠ 0) e ∧ Below w.heap.size w w' := by
  go_enter Tryf.func26, Tryf.ntmps26
  go_wp2_with fail
  refine (CheckProcess_any F n _ hn (by exact hF)).mono ?_
  rintro e w2 (⟨hv, rfl, rfl⟩ | ⟨hv, a, x, rfl, hca, hla, hlb, hb2⟩)
  · by_cases h0 : t = 0
    · have e0 : ((t : Int) == 0) = true := by rw [beq_iff_eq]; omega
      have H0 : Hid (t = 0) := h0
      clear h0
      go_wp2_with fail
      refine (errNew _ _).mono ?_
      rintro e w3 ⟨a, x, rfl, _, _, _, hb3⟩
      go_wp2_with fail
      go_ret
      exact ⟨.inr ⟨fun g => g.2 H0.out, a, rfl⟩, ((Below.refl _ _).alloc (Nat.le_refl _) _).trans (hb3.mono (by simp))⟩
    · have e0 : ((t : Int) == 0) = false := by rw [beq_eq_false_iff_ne]; omega
      go_wp2_with fail
      go_ret
      exact ⟨.inl ⟨⟨hv, h0⟩, rfl⟩, (Below.refl _ _).alloc (Nat.le_refl _) _⟩
  · have HB : Hid (Below w.heap.size w w2) := ((Below.refl _ _).alloc (Nat.le_refl _) _).trans (hb2.mono (by simp))
    have HV : Hid (¬ ValidN n) := hv
    clear hv hca hla hlb hb2
    go_wp2_with fail
    go_ret
    exact ⟨.inr ⟨fun g => HV.out g.1, a, rfl⟩, HB.out⟩

set_option maxHeartbeats 400000 in
theorem check14 (F : Interp) (t : Nat) (n : ByteArray) (hn : n.size ≤ 1073741824) (w : World) (hF : F.answers w.tape) :
    Calls Tryf.prog 14 #[.agg #[.int .u64 t, .string n]] w fun e w' => ErrOut (ValidN n ∧ t ≠ 0) e ∧ Below w.heap.size w w' := by
  go_enter Tryf.func14, Tryf.ntmps14
  go_wp2_with fail
  refine (check26 F t n hn _ (by exact hF)).mono ?_
  rintro e w2 ⟨he, hb2⟩
  have HB : Hid (Below w.heap.size w w2) := ((Below.refl _ _).alloc (Nat.le_refl _) _).trans (hb2.mono (by simp))
  have HE : Hid (ErrOut (ValidN n ∧ t ≠ 0) e) := he
  rcases he with ⟨h, rfl⟩ | ⟨h, a, rfl⟩
  · clear h hb2
    go_wp2_with fail
    go_ret
    exact ⟨HE.out, HB.out⟩
  · clear h hb2
    go_wp2_with fail
    go_ret
    exact ⟨HE.out, HB.out⟩

set_option maxHeartbeats 400000 in
theorem missing27 (t : Nat) (n : ByteArray) (b : Nat) (w : World) (c0 : w.cell? ⟨b, 0, none⟩ = some (.int .u64 t)) (c1 : w.cell? ⟨b, 1, none⟩ = some (.string n)) :
    Calls Tryf.prog 27 #[.pointer (some ⟨b, 0, none⟩)] w fun e w' => ErrOut (n.toList.isEmpty = false ∧ t ≠ 0) e ∧ Below w.heap.size w w' := by
  by_cases hn : n.toList.isEmpty = true
  · go_enter Tryf.func27, Tryf.ntmps27
    go_wp2_with fail
    refine (errNew _ _).mono ?_
    rintro e w3 ⟨a, x, rfl, _, _, _, hb3⟩
    go_wp2_with fail
    go_ret
    exact ⟨.inr ⟨fun g => by rw [hn] at g; simp at g, a, rfl⟩, hb3⟩
  · have hn' : n.toList.isEmpty = false := by simpa using hn
    clear hn
    by_cases h0 : t = 0
    · have e0 : ((t : Int) == 0) = true := by rw [beq_iff_eq]; omega
      have H0 : Hid (t = 0) := h0
      clear h0
      go_enter Tryf.func27, Tryf.ntmps27
      go_wp2_with fail
      refine (errNew _ _).mono ?_
      rintro e w3 ⟨a, x, rfl, _, _, _, hb3⟩
      go_wp2_with fail
      go_ret
      exact ⟨.inr ⟨fun g => g.2 H0.out, a, rfl⟩, hb3⟩
    · have e0 : ((t : Int) == 0) = false := by rw [beq_eq_false_iff_ne]; omega
      go_enter Tryf.func27, Tryf.ntmps27
      go_wp2_with fail
      go_ret
      exact ⟨.inl ⟨⟨hn', h0⟩, rfl⟩, Below.refl _ _⟩

set_option maxHeartbeats 400000 in
theorem missing15 (t : Nat) (n : ByteArray) (b : Nat) (w : World) (c0 : w.cell? ⟨b, 0, none⟩ = some (.int .u64 t)) (c1 : w.cell? ⟨b, 1, none⟩ = some (.string n)) :
    Calls Tryf.prog 15 #[.pointer (some ⟨b, 0, none⟩)] w fun e w' => ErrOut (n.toList.isEmpty = false ∧ t ≠ 0) e ∧ Below w.heap.size w w' := by
  go_enter Tryf.func15, Tryf.ntmps15
  go_wp2_with fail
  refine (missing27 t n b _ c0 c1).mono ?_
  rintro e w2 ⟨he, hb2⟩
  have HB : Hid (Below w.heap.size w w2) := hb2
  have HE : Hid (ErrOut (n.toList.isEmpty = false ∧ t ≠ 0) e) := he
  rcases he with ⟨h, rfl⟩ | ⟨h, a, rfl⟩
  · clear h hb2
    go_wp2_with fail
    go_ret
    exact ⟨HE.out, HB.out⟩
  · clear h hb2
    go_wp2_with fail
    go_ret
    exact ⟨HE.out, HB.out⟩
end Go.Proofs.Qxb6002379aFmt

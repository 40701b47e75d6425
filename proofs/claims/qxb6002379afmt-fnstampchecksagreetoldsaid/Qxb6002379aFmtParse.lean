/-
  THE WALKS of strings.Cut at one blank and of ParseStamp.
-/
import Derived.Test.Qxb6002379aFmtShelf
import Derived.Test.Qxb6002379aFmtNames
import Derived.Test.Qxb6002379aFmtTime
import Derived.Test.Qxb6002379aFmtItoa
import Derived.Lib.Strings
import Derived.BigQuiet
import Derived.Deep.QuietTactic
namespace Go.Proofs.Qxb6002379aFmt
open Go.RowKit Go.Extern.Stop Go.Stop Go.Extern
set_option linter.unusedVariables false

theorem idx_at (ds l : List UInt8) (c : UInt8) (h : ∀ x ∈ ds, x ≠ c) : Lib.indexByte (ds ++ c :: l) c = (ds.length : Int) := by
  induction ds with
  | nil => simp [Lib.indexByte]
  | cons a ds ih =>
    have h1 : (a == c) = false := by rw [beq_eq_false_iff_ne]; exact h a (by simp)
    have h2 := ih (fun x hx => h x (by simp [hx]))
    have h3 : ((ds.length : Int) == -1) = false := by rw [beq_eq_false_iff_ne]; omega
    simp [Lib.indexByte, h1, h2, h3]

/-- A text of digits, a blank and a name. -/
structure Txt (T S n : ByteArray) : Prop where
  list : T.data.toList = S.data.toList ++ 32 :: n.data.toList
  dig : ∀ x ∈ S.data.toList, x ≠ 32

theorem Txt.size {T S n : ByteArray} (h : Txt T S n) : T.size = S.size + 1 + n.size := by
  have := congrArg List.length h.list
  simp at this
  omega

theorem Txt.before {T S n : ByteArray} (h : Txt T S n) : T.extract 0 S.size = S := by
  rw [Lib.extract_eq, h.list]
  have : S.size = S.data.toList.length := by simp
  rw [List.drop_zero, Nat.sub_zero, this, List.take_left]

theorem Txt.after {T S n : ByteArray} (h : Txt T S n) : T.extract (S.size + 1) T.size = n := by
  rw [Lib.extract_eq, h.list, h.size]
  have e1 : S.data.toList ++ 32 :: n.data.toList = (S.data.toList ++ [32]) ++ n.data.toList := by simp
  have e2 : (S.data.toList ++ [32]).length = S.size + 1 := by simp
  rw [e1, ← e2, List.drop_left, List.take_of_length_le (by simp)]

set_option maxHeartbeats 400000 in
theorem cut30 (T S n : ByteArray) (h : Txt T S n) (hs : T.size ≤ 1073741824) (w : World) :
    Calls Tryf.prog 30 #[.string T, .string ⟨#[32]⟩] w fun e w' => e = .returned (.tuple #[.string S, .string n, .bool true]) ∧ ∃ q, w' = w.drewN q := by
  have hx := idx_at S.data.toList n.data.toList 32 h.dig
  rw [← h.list] at hx
  have HX : Hid (Lib.indexByte T.data.toList 32 = (S.data.toList.length : Int)) := hx
  have hz := h.size
  have hz1 : S.size < T.size := by omega
  have hz2 : S.size + 1 ≤ T.size := by omega
  have HB : Hid (T.extract 0 S.size = S) := h.before
  have HA : Hid (T.extract (S.size + 1) T.size = n) := h.after
  have HL : Hid (S.data.toList.length = S.size) := by show _ = _; simp
  clear hx hz
  go_enter Tryf.func30, Tryf.ntmps30
  go_wp2_with fail
  refine (Tryf.stringslite_Index_one T 32 _).mono ?_
  rintro e w' ⟨rfl, rfl⟩
  rw [HX.out, HL.out]
  go_wp2_with fail
  go_quiet (fail)
  go_wp2_with fail
  rw [HB.out, HA.out]
  go_ret3
  exact ⟨rfl, _, rfl⟩

theorem cut20 (T S n : ByteArray) (h : Txt T S n) (hs : T.size ≤ 1073741824) (w : World) :
    Calls Tryf.prog 20 #[.string T, .string ⟨#[32]⟩] w fun e w' => e = .returned (.tuple #[.string S, .string n, .bool true]) ∧ ∃ q, w' = w.drewN q := by
  go_enter Tryf.func20, Tryf.ntmps20
  go_wp2_with fail
  refine (cut30 T S n h hs _).mono ?_
  rintro e w' ⟨rfl, q, rfl⟩
  go_wp2_with fail
  go_ret3
  exact ⟨rfl, _, rfl⟩

/-- What ParseStamp answers at the text of t and a name. -/
def PsOut (t : Nat) (n : ByteArray) (e : Ending) : Prop :=
  (t ≠ 0 ∧ ValidN n ∧ e = .returned (.tuple #[.agg #[.int .u64 t, .string n], .nilIface])) ∨
  (¬ (t ≠ 0 ∧ ValidN n) ∧ ∃ U a, e = .returned (.tuple #[.agg #[.int .u64 0, .string ⟨#[]⟩], .iface U (.pointer (some a))]))

/-- The result's variable behind a call that made an error: still there, still zero. -/
theorem res_kept {w W w2 : World} {B : Nat} {x y : Value} (hc0 : W.cell? ⟨B, 0, none⟩ = some x) (hc1 : W.cell? ⟨B, 1, none⟩ = some y) (f0 : W.frozen? ⟨B, 0, none⟩ = false) (f1 : W.frozen? ⟨B, 1, none⟩ = false) (hB : B < W.heap.size) (hb : Below W.heap.size W w2) :
    w2.cell? ⟨B, 0, none⟩ = some x ∧ w2.cell? ⟨B, 1, none⟩ = some y ∧ w2.frozen? ⟨B, 0, none⟩ = false ∧ w2.frozen? ⟨B, 1, none⟩ = false ∧ B < w2.heap.size := by
  have hz := hb.size
  exact ⟨by rw [hb.cell (p := ⟨B, 0, none⟩) hB]; exact hc0, by rw [hb.cell (p := ⟨B, 1, none⟩) hB]; exact hc1, by rw [hb.frozen (p := ⟨B, 0, none⟩) hB]; exact f0, by rw [hb.frozen (p := ⟨B, 1, none⟩) hB]; exact f1, by omega⟩

set_option maxHeartbeats 1000000 in
theorem parse_any (F : Interp) (t : Nat) (ds : List UInt8) (T S n : ByteArray) (hS : S.data.toList = ds) (hd : Dec t ds) (ht : t < 18446744073709551616) (h : Txt T S n) (hs : T.size ≤ 1073741824) (w : World) (hF : F.answers w.tape) :
    Calls Tryf.prog 9 #[.string T] w fun e w' => PsOut t n e ∧ Below w.heap.size w w' := by
  have hn : n.size ≤ 1073741824 := by have := h.size; omega
  by_cases h0 : t = 0
  · have hz := hd.zero h0
    have hS0 : S = ⟨[48].toArray⟩ := by
      rw [hz] at hS
      cases S with | mk d => cases d with | mk l => simp at hS; rw [hS]
    go_enter Tryf.func9, Tryf.ntmps9
    go_wp2_with fail
    refine (cut20 T S n h hs _).mono ?_
    rintro e w1 ⟨rfl, q, rfl⟩
    rw [hS0]
    clear hS hz hS0
    go_wp2_with fail
    refine (time_zero _).mono ?_
    rintro e w1 ⟨rfl, rfl⟩
    go_wp2_with fail
    refine (clip_any T _ hs).mono ?_
    rintro e w1 ⟨⟨cl, rfl⟩, rfl⟩
    go_wp2_with fail
    refine (errorf1 F cl 18446744073709551615 (w.heap.size + 1) _ (by exact hF) (by simp [go_sem]) (by simp [go_sem])).mono ?_
    rintro e w2 ⟨a, x, rfl, _, _, _, hb2⟩
    have hk := res_kept (w := w) (B := w.heap.size) (x := .int .u64 0) (y := .string ⟨#[]⟩) (by simp [go_sem]) (by simp [go_sem]) (by simp [go_sem]) (by simp [go_sem]) (by simp; omega) hb2
    have HB : Hid (Below w.heap.size w w2) := ((below_drewN ((Below.refl _ _).alloc (Nat.le_refl _) _) q).alloc (by simp) _).trans (hb2.mono (by simp; omega))
    obtain ⟨c0, c1, f0, f1, hsz⟩ := hk
    clear hb2
    go_wp2_with fail
    refine bodyPost_ret (v := .tuple #[.agg #[.int .u64 0, .string ⟨#[]⟩], .iface 58 (.pointer (some a))]) ?_ rfl ?_
    · simp [results, Tryf.results9, go_sem, c0, c1]
    · refine ⟨.inr ⟨fun g => g.1 h0, 58, a, rfl⟩, ?_⟩
      exact (HB.out.setCell (Nat.le_refl _) _).setCell (Nat.le_refl _) _
  · go_enter Tryf.func9, Tryf.ntmps9
    go_wp2_with fail
    refine (cut20 T S n h hs _).mono ?_
    rintro e w1 ⟨rfl, q, rfl⟩
    go_wp2_with fail
    refine (time_ok t ds S hS hd ht h0 _).mono ?_
    rintro e w1 ⟨rfl, rfl⟩
    clear hS hd
    go_wp2_with fail
    refine (CheckProcess_any F n _ hn (by exact hF)).mono ?_
    rintro e w2 (⟨hv, rfl, rfl⟩ | ⟨hv, a, x, rfl, hca, hla, hlb, hb2⟩)
    · go_wp2_with fail
      refine bodyPost_ret (v := .tuple #[.agg #[.int .u64 t, .string n], .nilIface]) ?_ rfl ?_
      · simp [results, Tryf.results9, go_sem]
      · refine ⟨.inl ⟨h0, hv, rfl⟩, ?_⟩
        exact ((below_drewN ((Below.refl _ _).alloc (Nat.le_refl _) _) q).setCell (Nat.le_refl _) _).setCell (Nat.le_refl _) _
    · have hk := res_kept (w := w) (B := w.heap.size) (x := .int .u64 0) (y := .string ⟨#[]⟩) (by simp [go_sem]) (by simp [go_sem]) (by simp [go_sem]) (by simp [go_sem]) (by simp) hb2
      have HB : Hid (Below w.heap.size w w2) := (below_drewN ((Below.refl _ _).alloc (Nat.le_refl _) _) q).trans (hb2.mono (by simp))
      have hF2 : F.answers w2.tape := by rw [HB.out.tape]; exact hF
      obtain ⟨c0, c1, f0, f1, hsz⟩ := hk
      have HV : Hid (¬ ValidN n) := hv
      have hlb' : a.block < w2.heap.size := hlb
      clear hb2 hv hla hF hlb
      go_wp2_with fail
      refine (clip_any T _ hs).mono ?_
      rintro e w3 ⟨⟨cl, rfl⟩, rfl⟩
      go_wp2_with fail
      refine (errorf2 F cl a x w3.heap.size _ (by exact hF2) (by simp [go_sem]) (by simp [go_sem]) (by rw [World.cell?_alloc_lt _ _ _ hlb']; exact hca)).mono ?_
      rintro e w4 ⟨a2, x2, rfl, _, _, _, hb4⟩
      have hk2 := res_kept (w := w) (B := w.heap.size) (x := .int .u64 0) (y := .string ⟨#[]⟩) (by rw [World.cell?_alloc_lt _ _ _ hsz]; exact c0) (by rw [World.cell?_alloc_lt _ _ _ hsz]; exact c1) (by rw [((Below.refl w3.heap.size w3).alloc (Nat.le_refl _) _).frozen (p := ⟨w.heap.size, 0, none⟩) hsz]; exact f0) (by rw [((Below.refl w3.heap.size w3).alloc (Nat.le_refl _) _).frozen (p := ⟨w.heap.size, 1, none⟩) hsz]; exact f1) (by simp; omega) hb4
      have HB4 : Hid (Below w.heap.size w w4) := (HB.out.alloc HB.out.size _).trans (hb4.mono (by have := HB.out.size; simp; omega))
      clear c0 c1 f0 f1 hsz hb4
      obtain ⟨c0, c1, f0, f1, hsz⟩ := hk2
      go_wp2_with fail
      refine bodyPost_ret (v := .tuple #[.agg #[.int .u64 0, .string ⟨#[]⟩], .iface 53 (.pointer (some a2))]) ?_ rfl ?_
      · simp [results, Tryf.results9, go_sem, c0, c1]
      · refine ⟨.inr ⟨fun g => HV.out g.2, 53, a2, rfl⟩, ?_⟩
        exact (HB4.out.setCell (Nat.le_refl _) _).setCell (Nat.le_refl _) _
end Go.Proofs.Qxb6002379aFmt

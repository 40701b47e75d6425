/-
  THE WALKS of the JSON scanner: take, plainString, wholeNumber, and the shim's three functions over them.
-/
import Derived.Test.Qxb6600537aDoorUtoa
import Derived.OwnWalk
import Derived.Lib.AtoiErrMem
namespace Go.Proofs.Qxb6600537aDoor
open Go.RowKit
set_option linter.unusedVariables false

/-- The scanner in block S: over the n bytes of block g, at place i. -/
structure Sc (S g n c i : Nat) (w : World) : Prop where
  blk : S < w.heap.size
  c0 : w.cell? ⟨S, 0, none⟩ = some (.slice (some ⟨g, 0, none⟩) n c)
  c1 : w.cell? ⟨S, 1, none⟩ = some (.int .i64 i)
  f1 : w.frozen? ⟨S, 1, none⟩ = false

theorem Sc.fresh (g n c i : Nat) (w : World) (T : TypeId) : Sc w.heap.size g n c i (w.alloc (.cells #[.slice (some ⟨g, 0, none⟩) n c, .int .i64 i] T)) :=
  ⟨by simp, by simp, by simp, by simp [go_sem]⟩

theorem Sc.drewN {S g n c i : Nat} {w : World} (h : Sc S g n c i w) (k : Nat) : Sc S g n c i (w.drewN k) := ⟨h.blk, h.c0, h.c1, h.f1⟩

theorem Sc.setI {S g n c i : Nat} {w : World} (h : Sc S g n c i w) (k : Nat) {v : Int} (hv : v = (k : Int)) : Sc S g n c k (w.setCell ⟨S, 1, none⟩ (.int .i64 v)) :=
  hv ▸ ⟨by simpa using h.blk, by rw [World.cell?_setCell_other _ _ _ _ (by simp)]; exact h.c0, World.cell?_setCell_same _ _ _ h.c1, by simpa using h.f1⟩

set_option maxHeartbeats 1000000 in
theorem take_yes (S g n c i : Nat) (q : Int) (hi : i < n) (hn : n ≤ 1099511627776) (w : World) (h : Sc S g n c i w) (hc : w.cell? ⟨g, i, none⟩ = some (.int .u8 q)) :
    Calls Tryd.prog 20 #[.pointer (some ⟨S, 0, none⟩), .int .u8 q] w fun e w' => e = .returned (.bool true) ∧ Sc S g n c (i + 1) w' ∧ Below S w w' := by
  have HS : Hid (Sc S g n c i w) := h
  obtain ⟨hb, c0, c1, f1⟩ := h
  have e1 : ((i : Int) == (n : Int)) = false := by rw [beq_eq_false_iff_ne]; omega
  have e2 : (q != q) = false := by simp
  go_enter Tryd.func20, Tryd.ntmps20
  go_wp2_with fail
  go_quiet (fail)
  go_wp2_with fail
  go_ret
  exact ⟨rfl, (HS.out.drewN _).setI (i + 1) (by omega), Below.setCell (B := S) (below_drewN (Below.refl S w) _) (p := ⟨S, 1, none⟩) (Nat.le_refl S) _⟩

set_option maxHeartbeats 1000000 in
theorem ztake_yes (g n c i : Nat) (q : Int) (hi : i < n) (hn : n ≤ 1099511627776) (w : World) (hg : g < w.heap.size) (hc : w.cell? ⟨g, i, none⟩ = some (.int .u8 q)) :
    Calls Tryd.prog 16 #[.slice (some ⟨g, 0, none⟩) n c, .int .i64 i, .int .u8 q] w fun e w' => e = .returned (.tuple #[.int .i64 ((i : Int) + 1), .bool true]) ∧ Below w.heap.size w w' := by
  have HC : Hid (w.cell? ⟨g, i, none⟩ = some (.int .u8 q)) := hc
  clear hc
  go_enter Tryd.func16, Tryd.ntmps16
  go_wp2_with fail
  refine (take_yes w.heap.size g n c i q hi hn _ (Sc.fresh g n c i w _) (src_cell HC.out ((Below.refl _ _).alloc (Nat.le_refl _) _))).mono ?_
  rintro e w1 ⟨rfl, hsc, hb⟩
  have HB : Hid (Below w.heap.size w w1) := ((Below.refl _ _).alloc (Nat.le_refl _) _).trans hb
  clear hb
  obtain ⟨_, c0, c1, _⟩ := hsc
  go_wp2_with fail
  go_ret2
  exact ⟨by simp, HB.out⟩

/-- Block g holds the n bytes f 0 .. f (n - 1). -/
def RowU (w : World) (g n : Nat) (f : Nat → UInt8) : Prop := ∀ i, i < n → w.cell? ⟨g, i, none⟩ = some (.int .u8 ((f i).toNat : Int))

theorem idx_at : ∀ (l : List UInt8) (c : UInt8) (m : Nat), l[m]? = some c → (∀ j, j < m → l[j]? ≠ some c) → Lib.indexByte l c = (m : Int)
  | [], c, m, h, _ => by simp at h
  | b :: l, c, m, h, hn => by
    unfold Lib.indexByte
    cases m with
    | zero => simp at h; simp [h]
    | succ m =>
      have hb : b ≠ c := by have := hn 0 (by omega); simpa using this
      have := idx_at l c m (by simpa using h) (fun j hj => by have := hn (j + 1) (by omega); simpa using this)
      rw [this]
      have e1 : (b == c) = false := by simpa using hb
      have e2 : ((m : Int) == -1) = false := by rw [beq_eq_false_iff_ne]; omega
      simp only [e1, e2]
      simp

theorem idx_none : ∀ (l : List UInt8) (c : UInt8), (∀ x ∈ l, x ≠ c) → Lib.indexByte l c = -1
  | [], c, _ => rfl
  | b :: l, c, h => by
    unfold Lib.indexByte
    have e1 : (b == c) = false := by simpa using h b (by simp)
    rw [idx_none l c (fun x hx => h x (by simp [hx]))]
    simp [e1]

theorem idx_call (g o n c : Nat) (f : Nat → UInt8) (q : UInt8) (cv : Int) (hq : cv = (q.toNat : Int)) (w : World) (hr : ∀ i, i < n → w.cell? ⟨g, o + i, none⟩ = some (.int .u8 ((f (o + i)).toNat : Int))) :
    Calls Tryd.prog 23 #[.slice (some ⟨g, o, none⟩) n c, .int .u8 cv] w fun e w' => e = .returned (.int .i64 (Lib.indexByte ((List.range n).map fun i => f (o + i)) q)) ∧ w' = w := by
  subst hq
  refine (Tryd.bytes_IndexByte g o n c ((List.range n).map fun i => ((f (o + i)).toNat : Int)) _ w (by simp) (fun i hi => ?_)).mono ?_
  · rw [hr i hi]
    simp [List.getD_eq_getElem?_getD, hi]
  · rintro e w' ⟨rfl, rfl⟩
    refine ⟨?_, rfl⟩
    have e1 : Lib.bytesOf ((List.range n).map fun i => ((f (o + i)).toNat : Int)) = (List.range n).map fun i => f (o + i) := by
      simp [Lib.bytesOf]
    rw [e1]
    simp

theorem idx_found (g o n c m : Nat) (f : Nat → UInt8) (q : UInt8) (cv : Int) (hq : cv = (q.toNat : Int)) (w : World) (hr : ∀ i, i < n → w.cell? ⟨g, o + i, none⟩ = some (.int .u8 ((f (o + i)).toNat : Int))) (hm : m < n) (hat : f (o + m) = q) (hno : ∀ j, j < m → f (o + j) ≠ q) :
    Calls Tryd.prog 23 #[.slice (some ⟨g, o, none⟩) n c, .int .u8 cv] w fun e w' => e = .returned (.int .i64 (m : Int)) ∧ w' = w := by
  have h := idx_call g o n c f q cv hq w hr
  rw [idx_at _ q m (by simp [hm, hat]) (fun j hj => by simp [show j < n by omega]; exact hno j hj)] at h
  exact h

theorem idx_missing (g o n c : Nat) (f : Nat → UInt8) (q : UInt8) (cv : Int) (hq : cv = (q.toNat : Int)) (w : World) (hr : ∀ i, i < n → w.cell? ⟨g, o + i, none⟩ = some (.int .u8 ((f (o + i)).toNat : Int))) (hno : ∀ j, j < n → f (o + j) ≠ q) :
    Calls Tryd.prog 23 #[.slice (some ⟨g, o, none⟩) n c, .int .u8 cv] w fun e w' => e = .returned (.int .i64 (-1)) ∧ w' = w := by
  have h := idx_call g o n c f q cv hq w hr
  rw [idx_none _ q (fun x hx => by simp at hx; obtain ⟨j, hj, rfl⟩ := hx; exact hno j hj)] at h
  exact h

theorem esz22 (w : World) : (sizeOf (Tryd.prog.elem 22)).run Tryd.prog w = .ok 1 w := by kernel_rfl
theorem und22 : Tryd.prog.underlying 22 = some (.slice (Tryd.prog.elem 22)) := by kernel_rfl

theorem slice_lo (g n c l : Nat) (hl : l ≤ n) (hc : l < c) (L : Int) (hL : L = (l : Int)) (w : World) : (Instr.sliceAt 22 (.slice (some ⟨g, 0, none⟩) n c) (some (.int .i64 L)) none none).run Tryd.prog w = .ok (.slice (some ⟨g, l, none⟩) (n - l) (c - l)) w := by
  subst hL
  rw [run_sliceAt_slice (P := Tryd.prog) w 22 _ _ _ _ und22, run_slice_l (P := Tryd.prog) w 22 _ n c und22 .i64 _ (by omega) (by omega), esz22]
  simp [Result.andThen, sliced, show ¬ c = l by omega, Addr.add]
  intro h; rw [h]

theorem slice_lh (g n c l h : Nat) (h1 : l ≤ h) (h2 : h ≤ c) (hc : l < c) (L H : Int) (hL : L = (l : Int)) (hH : H = (h : Int)) (w : World) : (Instr.sliceAt 22 (.slice (some ⟨g, 0, none⟩) n c) (some (.int .i64 L)) (some (.int .i64 H)) none).run Tryd.prog w = .ok (.slice (some ⟨g, l, none⟩) (h - l) (c - l)) w := by
  subst hL hH
  rw [run_sliceAt_slice (P := Tryd.prog) w 22 _ _ _ _ und22, run_slice_lh (P := Tryd.prog) w 22 _ n c und22 .i64 .i64 _ _ (by omega) (by omega) (by omega), esz22]
  simp [Result.andThen, sliced, show ¬ c = l by omega, Addr.add]
  intro h; rw [h]

theorem wrap_id (x : Int) (h0 : 0 ≤ x) (h1 : x ≤ 9223372036854775807) : IntKind.i64.wrap x = x := by rw [IntKind.wrap_i64]; omega

set_option maxHeartbeats 1000000 in
theorem plain_yes (S g n c i m : Nat) (f : Nat → UInt8) (hm : i + 1 + m < n) (hnc : n ≤ c) (hc2 : c ≤ 9223372036854775807) (hn : n ≤ 1099511627776) (w : World) (h : Sc S g n c i w) (hr : RowU w g n f)
    (h0 : f i = 34) (h1 : f (i + 1 + m) = 34) (h2 : ∀ j, j < m → f (i + 1 + j) ≠ 34) (h3 : ∀ j, j < m → f (i + 1 + j) ≠ 92) :
    Calls Tryd.prog 21 #[.pointer (some ⟨S, 0, none⟩)] w fun e w' => e = .returned (.tuple #[.slice (some ⟨g, i + 1, none⟩) m (c - (i + 1)), .bool true]) ∧ Sc S g n c (i + m + 2) w' ∧ Below S w w' := by
  have HS : Hid (Sc S g n c i w) := h
  have HR : Hid (RowU w g n f) := hr
  have hci : w.cell? ⟨g, i, none⟩ = some (.int .u8 34) := by have := hr i (by omega); rw [h0] at this; exact this
  have H1 : Hid (f (i + 1 + m) = 34) := h1
  have H2 : Hid (∀ j, j < m → f (i + 1 + j) ≠ 34) := h2
  have H3 : Hid (∀ j, j < m → f (i + 1 + j) ≠ 92) := h3
  obtain ⟨hb, c0, c1, f1⟩ := h
  clear hr h0 h1 h2 h3
  have e1 : ((i : Int) == (n : Int)) = false := by rw [beq_eq_false_iff_ne]; omega
  have hw1 := wrap_id ((i : Int) + 1) (by omega) (by omega)
  have hw2 := wrap_id ((i : Int) + 1 + (m : Int)) (by omega) (by omega)
  have hs1 := slice_lo g n c (i + 1) (by omega) (by omega) ((i : Int) + 1) (by omega)
  have hs2 := slice_lh g n c (i + 1) (i + 1 + m) (by omega) (by omega) (by omega) ((i : Int) + 1) ((i : Int) + 1 + (m : Int)) (by omega) (by omega)
  rw [show i + 1 + m - (i + 1) = m by omega] at hs2
  go_enter Tryd.func21, Tryd.ntmps21
  go_wp2_with fail
  go_quiet (fail)
  go_wp2_with fail
  go_quiet (first | (go_at_call 23; refine (idx_found g (i + 1) (n - (i + 1)) (c - (i + 1)) m f 34 34 rfl _ (by exact fun j hj => HR.out (i + 1 + j) (by omega)) (by omega) H1.out H2.out).mono ?_; rintro e w' ⟨rfl, rfl⟩; exact ⟨rfl, _, rfl⟩))
  go_wp2_with fail
  go_quiet (fail)
  go_wp2_with (go_at_call 23; refine (idx_missing g (i + 1) m (c - (i + 1)) f 92 92 rfl _ (by exact fun j hj => HR.out (i + 1 + j) (by omega)) H3.out).mono ?_; rintro e w' ⟨rfl, rfl⟩)
  go_ret2
  exact ⟨rfl, (HS.out.drewN _).setI (i + m + 2) (by omega), Below.setCell (B := S) (below_drewN (Below.refl S w) _) (p := ⟨S, 1, none⟩) (Nat.le_refl S) _⟩

theorem RowU.below {w w' : World} {g n : Nat} {f : Nat → UInt8} (h : RowU w g n f) (hb : Below w.heap.size w w') : RowU w' g n f := fun i hi => src_cell (h i hi) hb

set_option maxHeartbeats 1000000 in
theorem zplain_yes (g n c i m : Nat) (f : Nat → UInt8) (hm : i + 1 + m < n) (hnc : n ≤ c) (hc2 : c ≤ 9223372036854775807) (hn : n ≤ 1099511627776) (w : World) (hr : RowU w g n f)
    (h0 : f i = 34) (h1 : f (i + 1 + m) = 34) (h2 : ∀ j, j < m → f (i + 1 + j) ≠ 34) (h3 : ∀ j, j < m → f (i + 1 + j) ≠ 92) :
    Calls Tryd.prog 17 #[.slice (some ⟨g, 0, none⟩) n c, .int .i64 i] w fun e w' => e = .returned (.tuple #[.slice (some ⟨g, i + 1, none⟩) m (c - (i + 1)), .int .i64 ((i + m + 2 : Nat) : Int), .bool true]) ∧ Below w.heap.size w w' := by
  have HR : Hid (RowU w g n f) := hr
  have H0 : Hid (f i = 34) := h0
  have H1 : Hid (f (i + 1 + m) = 34) := h1
  have H2 : Hid (∀ j, j < m → f (i + 1 + j) ≠ 34) := h2
  have H3 : Hid (∀ j, j < m → f (i + 1 + j) ≠ 92) := h3
  clear hr h0 h1 h2 h3
  go_enter Tryd.func17, Tryd.ntmps17
  go_wp2_with fail
  refine (plain_yes w.heap.size g n c i m f hm hnc hc2 hn _ (Sc.fresh g n c i w _) (HR.out.below ((Below.refl _ _).alloc (Nat.le_refl _) _)) H0.out H1.out H2.out H3.out).mono ?_
  rintro e w1 ⟨rfl, hsc, hb⟩
  have HB : Hid (Below w.heap.size w w1) := ((Below.refl _ _).alloc (Nat.le_refl _) _).trans hb
  clear hb
  obtain ⟨_, c0, c1, _⟩ := hsc
  go_wp2_with fail
  go_quiet (fail)
  go_wp2_with fail
  go_ret3
  exact ⟨rfl, below_drewN HB.out _⟩

/-- The m bytes of f from i on, as a list. -/
def part (f : Nat → UInt8) (i m : Nat) : List UInt8 := (List.range m).map fun j => f (i + j)

theorem back (g i m c : Nat) (f : Nat → UInt8) (w : World) (hr : ∀ j, j < m → w.cell? ⟨g, i + j, none⟩ = some (.int .u8 ((f (i + j)).toNat : Int))) : (convert 22 9 (.slice (some ⟨g, i, none⟩) m c)).run Tryd.prog w = .ok (.string ⟨(part f i m).toArray⟩) w := by
  have hl : (part f i m).length = m := by simp [part]
  have := run_convert_bytes_back (P := Tryd.prog) w 22 9 5 ⟨g, i, none⟩ c (part f i m) Tryd.underlying22 Tryd.underlying5 Tryd.underlying9 (fun j hj => by
    rw [hl] at hj
    have e := hr j hj
    rw [show (⟨g, i, none⟩ : Addr).add j = ⟨g, i + j, none⟩ by simp [Addr.add]]
    rw [e]
    simp [part])
  rw [hl] at this
  exact this

theorem parse_below {w w2 : World} {s : ByteArray} (h : w2 = w ∨ w2 = Lib.bytesWorld w 5 s) : Below w.heap.size w w2 := by
  rcases h with rfl | rfl
  · exact Below.refl _ _
  · exact Lib.bytesWorld_below _ _ _

theorem Sc.old {S g n c i : Nat} {w w2 : World} (h : Sc S g n c i w) (hb : Below w.heap.size w w2) : Sc S g n c i w2 :=
  ⟨Nat.lt_of_lt_of_le h.blk hb.size, src_cell h.c0 hb, src_cell h.c1 hb, by rw [hb.frozen (p := ⟨S, 1, none⟩) h.blk]; exact h.f1⟩

set_option maxHeartbeats 1000000 in
theorem whole_yes (S g n c i m t : Nat) (f : Nat → UInt8) (hgS : g < S) (hm1 : 0 < m) (hm : i + m < n) (hm20 : m ≤ 20) (hnc : n ≤ c) (hc2 : c ≤ 9223372036854775807) (hn : n ≤ 1099511627776) (w : World) (h : Sc S g n c i w) (hr : RowU w g n f)
    (h0 : ∀ j, j < m → 48 ≤ (f (i + j)).toNat ∧ (f (i + j)).toNat ≤ 57) (h1 : f (i + m) = 125) (h2 : 1 < m → f i ≠ 48) (h3 : Lib.parseUintB 64 (part f i m) = .ok t) :
    Calls Tryd.prog 19 #[.pointer (some ⟨S, 0, none⟩)] w fun e w' => e = .returned (.tuple #[.int .u64 t, .bool true]) ∧ Sc S g n c (i + m) w' ∧ Below S w w' := by
  have HS : Hid (Sc S g n c i w) := h
  have HR : Hid (RowU w g n f) := hr
  have H0 : Hid (∀ j, j < m → 48 ≤ (f (i + j)).toNat ∧ (f (i + j)).toNat ≤ 57) := h0
  have H1 : Hid (f (i + m) = 125) := h1
  have H2 : Hid (1 < m → f i ≠ 48) := h2
  have H3 : Hid (Lib.parseUintB 64 (part f i m) = .ok t) := h3
  obtain ⟨hb, c0, c1, f1⟩ := h
  clear hr h0 h1 h2 h3
  go_enter Tryd.func19, Tryd.ntmps19
  go_wp2_with fail
  clear c0 c1 f1 hb
  go_loopg [] m (fun g' wr => ∃ k : Nat, k ≤ m ∧ Sc S g n c (i + k) wr ∧ Below S w wr ∧ m - k ≤ g')
  case atStart => exact ⟨0, by omega, HS.out, Below.refl _ _, by omega⟩
  case round =>
    obtain ⟨k, hk, hsc, hbel, hg⟩ := hrel
    have HC : Hid (Sc S g n c (i + k) wr) := hsc
    have HB : Hid (Below S w wr) := hbel
    obtain ⟨hb, c0, c1, f1⟩ := hsc
    by_cases hlt : k < m
    · have hcell : wr.cell? ⟨g, i + k, none⟩ = some (.int .u8 ((f (i + k)).toNat : Int)) := by
        rw [hbel.cell (p := ⟨g, i + k, none⟩) hgS]; exact HR.out (i + k) (by omega)
      obtain ⟨hx1, hx2⟩ := H0.out k hlt
      obtain ⟨j, hj⟩ : ∃ j, j = i + k := ⟨_, rfl⟩
      rw [← hj] at c1 hcell hx1 hx2
      obtain ⟨x, hx⟩ : ∃ x : Int, x = ((f j).toNat : Int) := ⟨_, rfl⟩
      rw [← hx] at hcell
      have d1 : decide ((48 : Int) ≤ x) = true := by rw [hx]; simp; omega
      have d2 : decide (x ≤ 57) = true := by rw [hx]; simp; omega
      have d0 : decide ((j : Int) < (n : Int)) = true := by simp; omega
      have hjn : j < n := by omega
      have HJ : Hid (j = i + k) := hj
      clear hj hx hx1 hx2 hbel
      go_wp2_with fail
      go_quiet (fail)
      go_wp2_with fail
      go_roundg (m - (k + 1))
      case measure => omega
      case rel => exact ⟨k + 1, hlt, (HC.out.drewN _).setI (i + (k + 1)) (by have := HJ.out; omega), Below.setCell (B := S) (below_drewN HB.out _) (p := ⟨S, 1, none⟩) (Nat.le_refl S) _, Nat.le_refl _⟩
    · obtain rfl : k = m := by omega
      have hcell : wr.cell? ⟨g, i + k, none⟩ = some (.int .u8 125) := by
        have e := HR.out (i + k) hm
        rw [H1.out] at e
        rw [hbel.cell (p := ⟨g, i + k, none⟩) hgS]; exact e
      have hrow : ∀ j, j < k → wr.cell? ⟨g, i + j, none⟩ = some (.int .u8 ((f (i + j)).toNat : Int)) := fun j hj => by
        rw [hbel.cell (p := ⟨g, i + j, none⟩) hgS]; exact HR.out (i + j) (by omega)
      obtain ⟨j, hj⟩ : ∃ j, j = i + k := ⟨_, rfl⟩
      rw [← hj] at c1 hcell
      have d0 : decide ((j : Int) < (n : Int)) = true := by simp; omega
      have hjn : j < n := by omega
      have hij : i < j := by omega
      have hs2 := slice_lh g n c i j (by omega) (by omega) (by omega) (i : Int) (j : Int) rfl rfl
      rw [show j - i = k by omega] at hs2
      have HJ : Hid (j = i + k) := hj
      have hbk : ∀ q, (convert 22 9 (.slice (some ⟨g, i, none⟩) k (c - i))).run Tryd.prog (wr.drewN q) = .ok (.string ⟨(part f i k).toArray⟩) (wr.drewN q) := fun q => back g i k (c - i) f (wr.drewN q) hrow
      have hfirst := hrow 0 hm1
      rw [Nat.add_zero] at hfirst
      have hlen : (part f i k).toArray.size ≤ 20 := by simp [part]; omega
      clear hj hrow hbel
      by_cases h1k : 1 < k
      · have e48 : (((f i).toNat : Int) == 48) = false := by
          rw [beq_eq_false_iff_ne]
          intro e
          exact H2.out h1k (UInt8.toNat_inj.1 (by simpa using Int.ofNat_inj.1 e))
        go_wp2_with fail
        go_quiet (fail)
        go_wp2_with fail
        go_quiet (fail)
        go_wp2_with (go_at_call 22; refine (Tryd.strconv_ParseUint_10_at64_ok ⟨(part f i k).toArray⟩ (by show (part f i k).toArray.size ≤ _; omega) t (by simpa using H3.out) _).mono ?_; rintro e w2 ⟨rfl, hw2⟩)
        have HP : Hid (Sc S g n c (i + k) w2 ∧ Below S w w2) := ⟨(HC.out.drewN _).old (parse_below hw2), (below_drewN HB.out _).trans ((parse_below hw2).mono (Nat.le_of_lt hb))⟩
        clear hw2
        go_quiet (fail)
        go_wp2_with fail
        go_ret2
        exact ⟨rfl, HP.out.1.drewN _, below_drewN HP.out.2 _⟩
      · go_wp2_with fail
        go_quiet (fail)
        go_wp2_with fail
        go_quiet (fail)
        go_wp2_with (go_at_call 22; refine (Tryd.strconv_ParseUint_10_at64_ok ⟨(part f i k).toArray⟩ (by show (part f i k).toArray.size ≤ _; omega) t (by simpa using H3.out) _).mono ?_; rintro e w2 ⟨rfl, hw2⟩)
        have HP : Hid (Sc S g n c (i + k) w2 ∧ Below S w w2) := ⟨(HC.out.drewN _).old (parse_below hw2), (below_drewN HB.out _).trans ((parse_below hw2).mono (Nat.le_of_lt hb))⟩
        clear hw2
        go_quiet (fail)
        go_wp2_with fail
        go_ret2
        exact ⟨rfl, HP.out.1.drewN _, below_drewN HP.out.2 _⟩

set_option maxHeartbeats 1000000 in
theorem zwhole_yes (g n c i m t : Nat) (f : Nat → UInt8) (hm1 : 0 < m) (hm : i + m < n) (hm20 : m ≤ 20) (hnc : n ≤ c) (hc2 : c ≤ 9223372036854775807) (hn : n ≤ 1099511627776) (w : World) (hg : g < w.heap.size) (hr : RowU w g n f)
    (h0 : ∀ j, j < m → 48 ≤ (f (i + j)).toNat ∧ (f (i + j)).toNat ≤ 57) (h1 : f (i + m) = 125) (h2 : 1 < m → f i ≠ 48) (h3 : Lib.parseUintB 64 (part f i m) = .ok t) :
    Calls Tryd.prog 11 #[.slice (some ⟨g, 0, none⟩) n c, .int .i64 i] w fun e w' => e = .returned (.tuple #[.int .u64 t, .int .i64 ((i + m : Nat) : Int), .bool true]) ∧ Below w.heap.size w w' := by
  have HR : Hid (RowU w g n f) := hr
  have H0 : Hid (∀ j, j < m → 48 ≤ (f (i + j)).toNat ∧ (f (i + j)).toNat ≤ 57) := h0
  have H1 : Hid (f (i + m) = 125) := h1
  have H2 : Hid (1 < m → f i ≠ 48) := h2
  have H3 : Hid (Lib.parseUintB 64 (part f i m) = .ok t) := h3
  clear hr h0 h1 h2 h3
  go_enter Tryd.func11, Tryd.ntmps11
  go_wp2_with fail
  refine (whole_yes w.heap.size g n c i m t f hg hm1 hm hm20 hnc hc2 hn _ (Sc.fresh g n c i w _) (HR.out.below ((Below.refl _ _).alloc (Nat.le_refl _) _)) H0.out H1.out H2.out H3.out).mono ?_
  rintro e w1 ⟨rfl, hsc, hb⟩
  have HB : Hid (Below w.heap.size w w1) := ((Below.refl _ _).alloc (Nat.le_refl _) _).trans hb
  clear hb
  obtain ⟨_, c0, c1, _⟩ := hsc
  go_wp2_with fail
  go_quiet (fail)
  go_wp2_with fail
  go_ret3
  exact ⟨rfl, below_drewN HB.out _⟩
end Go.Proofs.Qxb6600537aDoor

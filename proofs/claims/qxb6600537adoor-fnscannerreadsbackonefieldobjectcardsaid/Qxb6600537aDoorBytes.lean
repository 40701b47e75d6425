/-
  THE WALKS of the law's own helpers over bytes: zzHasByteHttpB1, zzCloneBytesHttpB1, zzSameBytesHttpB1.
-/
import Derived.Test.Qxb6600537aDoorProg
import Derived.Test.Qxb6600537aDoorShelf
import Derived.WalkKit
import Derived.WalkSpells
import Derived.WalkLawsBesides
import Derived.Handy
import Derived.BigQuiet
import Derived.Deep.QuietTactic
import Derived.Deep.LoopGhost
namespace Go.Proofs.Qxb6600537aDoor
open Go.RowKit
set_option linter.unusedVariables false

theorem ret_int {k : IntKind} {a b : Int} (h : a = b) : Ending.returned (.int k a) = .returned (.int k b) := by rw [h]
theorem info5 : (Tryd.prog.info? 5).map (fun i => (i.zero, i.size, i.bytes)) = some (some (.int .u8 0), 1, 1) := by kernel_rfl
theorem below_drewN {b : Nat} {w w' : World} (h : Below b w w') (n : Nat) : Below b w (w'.drewN n) := h.trans ⟨rfl, rfl, rfl, Nat.le_refl _, fun _ _ => rfl⟩

/-- The n bytes at a are f 0 .. f (n - 1). -/
def Row (w : World) (a : Option Addr) (n : Nat) (f : Nat → Int) : Prop := n = 0 ∨ ∃ x : Addr, a = some x ∧ ∀ i, i < n → w.cell? (x.add i) = some (.int .u8 (f i))

theorem Row.drewN {w : World} {a : Option Addr} {n : Nat} {f : Nat → Int} (h : Row w a n f) (k : Nat) : Row (w.drewN k) a n f := h

theorem Row.below {w w' : World} {a : Option Addr} {n : Nat} {f : Nat → Int} (h : Row w a n f) (hb : Below w.heap.size w w') : Row w' a n f := by
  rcases h with h | ⟨x, rfl, h⟩
  · exact .inl h
  · refine .inr ⟨x, rfl, fun i hi => ?_⟩
    have hc := h i hi
    have hlt : (x.add i).block < w.heap.size := by
      rcases Nat.lt_or_ge (x.add i).block w.heap.size with h | h
      · exact h
      · simp [World.cell?, Array.getElem?_eq_none h] at hc
    rw [hb.cell hlt, hc]

theorem src_cell {w w2 : World} {x : Addr} {v : Value} (hc : w.cell? x = some v) (hb : Below w.heap.size w w2) : w2.cell? x = some v := by
  have hlt : x.block < w.heap.size := by
    rcases Nat.lt_or_ge x.block w.heap.size with h | h
    · exact h
    · simp [World.cell?, Array.getElem?_eq_none h] at hc
  rw [hb.cell hlt, hc]

set_option maxHeartbeats 1000000 in
theorem has_any (a : Option Addr) (n c : Nat) (f : Nat → Int) (q : Int) (hn : n ≤ 1048576) (w : World) (hr : Row w a n f) :
    Calls Tryd.prog 15 #[.slice a n c, .int .u8 q] w fun e w' => (∃ b : Bool, (b = false → ∀ i, i < n → f i ≠ q) ∧ e = .returned (.bool b)) ∧ w' = w := by
  have HR : Hid (Row w a n f) := hr
  clear hr
  go_enter Tryd.func15, Tryd.ntmps15
  go_wp2_with fail
  go_loopg [5] n (fun g v wr => ∃ k : Nat, k ≤ n ∧ v = .int .i64 k ∧ (∀ i, i < k → f i ≠ q) ∧ wr = w ∧ n - k ≤ g)
  case atStart => exact ⟨0, by omega, rfl, fun i h => by omega, rfl, by omega⟩
  case round =>
    obtain ⟨k, hkn, rfl, hp, rfl, hg⟩ := hrel
    have HP : Hid (∀ i, i < k → f i ≠ q) := hp
    clear hp
    by_cases hlt : k < n
    · obtain ⟨x, hx, hcs⟩ : ∃ x, a = some x ∧ ∀ i, i < n → wr.cell? (x.add i) = some (.int .u8 (f i)) := by
        rcases HR.out with h | h
        · omega
        · exact h
      have hc := hcs k hlt
      subst hx
      clear hcs
      by_cases hq : f k = q
      · have e1 : (f k == q) = true := by simpa using hq
        clear hq
        go_wp2_with fail
        go_ret
        exact ⟨⟨true, by simp, rfl⟩, rfl⟩
      · have e1 : (f k == q) = false := by simpa using hq
        have HP2 : Hid (∀ i, i < k + 1 → f i ≠ q) := fun i b => by
          by_cases e : i = k
          · rw [e]; exact hq
          · exact HP.out i (by omega)
        clear hq
        go_wp2_with fail
        go_roundg (n - (k + 1))
        case measure => omega
        case rel => exact ⟨k + 1, by omega, by go_num, HP2.out, rfl, Nat.le_refl _⟩
    · obtain rfl : k = n := by omega
      go_wp2_with fail
      go_ret
      exact ⟨⟨false, fun _ => HP.out, rfl⟩, rfl⟩

set_option maxHeartbeats 1000000 in
theorem same_any (a b : Option Addr) (n c d : Nat) (f : Nat → Int) (hn : n ≤ 1048576) (w : World) (hr : Row w a n f) (hs : Row w b n f) :
    Calls Tryd.prog 18 #[.slice a n c, .slice b n d] w fun e w' => e = .returned (.bool true) ∧ ∃ k, w' = w.drewN k := by
  have HR : Hid (Row w a n f) := hr
  have HS : Hid (Row w b n f) := hs
  clear hr hs
  go_enter Tryd.func18, Tryd.ntmps18
  go_wp2_with fail
  go_loopg [5] n (fun g v wr => ∃ k m : Nat, k ≤ n ∧ v = .int .i64 k ∧ wr = w.drewN m ∧ n - k ≤ g)
  case atStart => exact ⟨0, 0, by omega, rfl, rfl, by omega⟩
  case round =>
    obtain ⟨k, m, hkn, rfl, rfl, hg⟩ := hrel
    by_cases hlt : k < n
    · obtain ⟨x, hx, hcs⟩ : ∃ x, a = some x ∧ ∀ i, i < n → w.cell? (x.add i) = some (.int .u8 (f i)) := by
        rcases HR.out with h | h
        · omega
        · exact h
      obtain ⟨y, hy, hds⟩ : ∃ x, b = some x ∧ ∀ i, i < n → w.cell? (x.add i) = some (.int .u8 (f i)) := by
        rcases HS.out with h | h
        · omega
        · exact h
      have hc := hcs k hlt
      have hd := hds k hlt
      subst hx hy
      clear hcs hds
      go_wp2_with fail
      go_quiet (fail)
      go_wp2_with fail
      go_roundg (n - (k + 1))
      case measure => omega
      case rel => exact ⟨k + 1, _, by omega, by go_num, rfl, Nat.le_refl _⟩
    · obtain rfl : k = n := by omega
      go_wp2_with fail
      go_ret
      exact ⟨rfl, _, rfl⟩

/-- The copy's block B, filled up to k. -/
structure Fill (w0 : World) (n : Nat) (f : Nat → Int) (k : Nat) (w : World) : Prop where
  blk : w0.heap.size < w.heap.size
  cell : ∀ j, j < n → ∃ v : Value, w.cell? ⟨w0.heap.size, j, none⟩ = some v
  free : ∀ j, j < n → w.frozen? ⟨w0.heap.size, j, none⟩ = false
  done : ∀ j, j < k → w.cell? ⟨w0.heap.size, j, none⟩ = some (.int .u8 (f j))
  bel : Below w0.heap.size w0 w

theorem Fill.next {w0 w : World} {n k : Nat} {f : Nat → Int} (h : Fill w0 n f k w) (hk : k < n) {v : Int} (hv : v = f k) : Fill w0 n f (k + 1) (w.setCell ⟨w0.heap.size, k, none⟩ (.int .u8 v)) := by
  subst hv
  obtain ⟨v0, hc0⟩ := h.cell k hk
  refine ⟨by simpa using h.blk, fun j hj => ?_, fun j hj => by simpa using h.free j hj, fun j hj => ?_, h.bel.setCell (Nat.le_refl _) _⟩
  · by_cases e : j = k
    · subst e; exact ⟨_, World.cell?_setCell_same _ _ _ hc0⟩
    · rw [World.cell?_setCell_other _ _ _ _ (fun h => e (by injection h with _ h2; exact h2.symm))]
      exact h.cell j hj
  · by_cases e : j = k
    · subst e; exact World.cell?_setCell_same _ _ _ hc0
    · rw [World.cell?_setCell_other _ _ _ _ (fun h => e (by injection h with _ h2; exact h2.symm))]
      exact h.done j (by omega)

theorem fill_start {w w2 : World} {n : Nat} {f : Nat → Int} {xs : List Value} (h : w2.ownsRow w.heap.size 5 1 (.slice (some ⟨w.heap.size, 0, none⟩) n n) n xs) (hb : Below w.heap.size w w2) : Fill w n f 0 w2 := by
  obtain ⟨_, h | ⟨g', cap, cur, hv, _, hc, _, _, hs, _⟩⟩ := h
  · exact absurd h.1 (by simp)
  · simp at hv
    obtain ⟨rfl, rfl⟩ := hv
    refine ⟨(Array.getElem?_eq_some_iff.1 hc).1, fun j hj => ?_, fun j hj => ?_, fun j hj => by omega, hb⟩
    · refine ⟨cur[j]'(by omega), ?_⟩
      unfold World.cell?
      simp [hc, show j < cur.size by omega]
    · unfold World.frozen?
      simp [hc]

theorem eql_nil (w : World) (a : Option Addr) (n c n' c' : Nat) : (binOp .eql 22 (.slice a n c) (.slice none n' c')).run Tryd.prog w = .ok (.bool a.isNone) w :=
  Lib.run_eql_slice_nil (P := Tryd.prog) w 22 5 a n c n' c' Tryd.underlying22

set_option maxHeartbeats 1000000 in
theorem clone_nil (w : World) :
    Calls Tryd.prog 7 #[.slice none 0 0] w fun e w' => e = .returned (.slice none 0 0) ∧ w' = w := by
  have heq := fun (w : World) (a : Option Addr) (n c n' c' : Nat) => eql_nil w a n c n' c'
  go_enter Tryd.func7, Tryd.ntmps7
  go_wp2_with fail
  go_ret
  exact ⟨rfl, rfl⟩

set_option maxHeartbeats 1000000 in
theorem clone_some (x : Addr) (n c : Nat) (f : Nat → Int) (hn : n ≤ 1048576) (w : World) (hr : ∀ i, i < n → w.cell? (x.add i) = some (.int .u8 (f i))) :
    Calls Tryd.prog 7 #[.slice (some x) n c] w fun e w' => e = .returned (.slice (some ⟨w.heap.size, 0, none⟩) n n) ∧ Fill w n f n w' := by
  obtain ⟨i0, hi, hz0, hz1, hz2⟩ := info_parts info5
  have HR : Hid (∀ i, i < n → w.cell? (x.add i) = some (.int .u8 (f i))) := hr
  clear hr
  have heq := fun (w : World) (a : Option Addr) (n c n' c' : Nat) => eql_nil w a n c n' c'
  go_enter Tryd.func7, Tryd.ntmps7
  go_wp2_with (at_make; refine wpList_make_full _ rfl _ _ 22 rfl w.heap.size 5 i0 (.int .u8 0) 1 Tryd.underlying22 hi hz0 hz1 .i64 .i64 _ _ n rfl rfl rfl rfl (by rw [hz2]; omega) (by unfold maxLen; omega) (Nat.le_refl _) ?_; intro w2 hown2 hgrow2; have hbel2 : Below w.heap.size w w2 := (Below.refl _ _).grown hgrow2 (Nat.le_refl _) (fun k hk => by simp at hk); have hfill : Hid (Fill w n f 0 w2) := fill_start hown2 hbel2; clear hown2 hgrow2 hbel2)
  go_loopg [4] n (fun g v wr => ∃ k : Nat, k ≤ n ∧ v = .int .i64 k ∧ Fill w n f k wr ∧ n - k ≤ g)
  case atStart => exact ⟨0, by omega, rfl, hfill.out, by omega⟩
  case round =>
    clear hfill
    obtain ⟨k, hkn, rfl, hfill, hg⟩ := hrel
    have HF : Hid (Fill w n f k wr) := hfill
    by_cases hlt : k < n
    · have hsrc := src_cell (HR.out k hlt) hfill.bel
      obtain ⟨v0, hc0⟩ := hfill.cell k hlt
      have hf0 := hfill.free k hlt
      clear hfill
      go_wp2_with fail
      go_roundg (n - (k + 1))
      case measure => omega
      case rel => exact ⟨k + 1, by omega, by go_num, HF.out.next hlt rfl, Nat.le_refl _⟩
    · obtain rfl : k = n := by omega
      clear hfill
      go_wp2_with fail
      go_ret
      exact ⟨rfl, HF.out⟩

theorem Fill.row {w w' : World} {n : Nat} {f : Nat → Int} (h : Fill w n f n w') : Row w' (some ⟨w.heap.size, 0, none⟩) n f :=
  .inr ⟨_, rfl, fun i hi => by rw [show (⟨w.heap.size, 0, none⟩ : Addr).add i = ⟨w.heap.size, i, none⟩ by simp [Addr.add]; intro e; rw [e]]; exact h.done i hi⟩

/-- zzCloneBytesHttpB1, whatever the slice: the same bytes. -/
theorem clone_any (a : Option Addr) (n c : Nat) (f : Nat → Int) (hn : n ≤ 1048576) (hnil : a = none → n = 0 ∧ c = 0) (w : World) (hr : Row w a n f) :
    Calls Tryd.prog 7 #[.slice a n c] w fun e w' => (∃ a', (a' = none → n = 0) ∧ e = .returned (.slice a' n n) ∧ Row w' a' n f) ∧ Below w.heap.size w w' := by
  cases a with
  | none =>
    obtain ⟨rfl, rfl⟩ := hnil rfl
    refine (clone_nil w).mono ?_
    rintro e w' ⟨rfl, rfl⟩
    exact ⟨⟨none, fun _ => rfl, rfl, .inl rfl⟩, Below.refl _ _⟩
  | some x =>
    refine (clone_some x n c f hn w (fun i hi => ?_)).mono ?_
    · rcases hr with h | ⟨y, hy, h⟩
      · omega
      · cases hy; exact h i hi
    · rintro e w' ⟨rfl, hf⟩
      exact ⟨⟨some ⟨w.heap.size, 0, none⟩, by simp, rfl, hf.row⟩, hf.bel⟩
end Go.Proofs.Qxb6600537aDoor

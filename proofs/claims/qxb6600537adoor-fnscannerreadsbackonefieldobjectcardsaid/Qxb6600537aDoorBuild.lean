/-
  The text {"key":n}rest, built by appends in a row of the call's own; what stands where in it (no Go in that part).
-/
import Derived.Test.Qxb6600537aDoorScan
import Derived.Laws.AppendOwnNone
import Derived.Lib.Hide
namespace Go.Proofs.Qxb6600537aDoor
open Go.RowKit
set_option linter.unusedVariables false

/-- The bytes l, as a row at a. -/
def RL (w : World) (a : Option Addr) (l : List UInt8) : Prop := Row w a l.length fun i => ((l.getD i 0).toNat : Int)

theorem RL.below {w w' : World} {a : Option Addr} {l : List UInt8} (h : RL w a l) (hb : Below w.heap.size w w') : RL w' a l := Row.below h hb

theorem rl_one (w : World) (x : Int) (p : UInt8) (h : x = (p.toNat : Int)) : RL (w.alloc (.cells #[.int .u8 x] 5)) (some ⟨w.heap.size, 0, none⟩) [p] := by
  subst h
  refine .inr ⟨_, rfl, fun i hi => ?_⟩
  obtain rfl : i = 0 := by simp at hi; omega
  simp [Addr.add]

theorem rl_two (w : World) (x y : Int) (p q : UInt8) (h : x = (p.toNat : Int)) (k : y = (q.toNat : Int)) : RL (w.alloc (.cells #[.int .u8 x, .int .u8 y] 5)) (some ⟨w.heap.size, 0, none⟩) [p, q] := by
  subst h k
  refine .inr ⟨_, rfl, fun i hi => ?_⟩
  simp at hi
  rcases (show i = 0 ∨ i = 1 by omega) with rfl | rfl <;> simp [Addr.add]

theorem append_row {w : World} {ops : Array Oper} {rest : List Oper} {o : Oper} {a : Act} {Q : Exit → Act → World → Prop} (hgd : o.guard = none) (s x : Operand)
    (ho : o.op = .call { callee := .builtin .append, args := #[s, x], argTypes := #[22, 22] }) (base : Nat) (v : Value) (L : List UInt8) (hs : a.eval s = v) (hown : w.ownsRow base 5 1 v L.length (bcs L))
    (ad : Option Addr) (c : Nat) (l : List UInt8) (hx : a.eval x = .slice ad l.length c) (hnil : ad = none → l = [] ∧ c = 0) (hrow : RL w ad l) (hlim : L.length + l.length ≤ 1073741824) (hbase : base ≤ w.heap.size)
    (h : ∀ v' w', w'.ownsRow base 5 1 v' (L ++ l).length (bcs (L ++ l)) → w.grownBy w' v.ownBlock → wpList Tryd.prog ops Q rest (a.put o.dst v') w') : wpList Tryd.prog ops Q (o :: rest) a w := by
  obtain ⟨i0, hi, hz0, hz1, hz2⟩ := info_parts info5
  cases ad with
  | none =>
    obtain ⟨rfl, rfl⟩ := hnil rfl
    refine wpList_append_own_none hgd s x 22 ho base 5 i0 1 Tryd.underlying22 hi v L.length (bcs L) hs hown hx ?_
    exact h v w (by simpa using hown) ⟨rfl, rfl, rfl, Nat.le_refl _, fun _ _ _ => rfl⟩
  | some ad =>
    refine wpList_append_own _ hgd s x 22 ho base 5 i0 (.int .u8 0) 1 1 Tryd.underlying22 hi hz0 hz1 hz2 rfl (by decide) v L.length (bcs L) hs hown ad l.length c (bcs l) hx (by simp [bcs]) (fun j u hj => ?_) ?_ (by unfold maxLen; omega) (by omega) hbase ?_
    · have hjl : j < l.length := by
        have := (List.getElem?_eq_some_iff.1 hj).1
        simpa [bcs] using this
      rcases hrow with e | ⟨y, hy, hc⟩
      · omega
      · cases hy
        rw [hc j hjl]
        simp [bcs, hjl] at hj
        simp [← hj, List.getD_eq_getElem?_getD, hjl]
    · intro u hu
      obtain ⟨z, _, rfl⟩ := List.mem_map.1 hu
      rfl
    · intro v' w' h1 h2 _
      refine h v' w' ?_ h2
      rw [bcs_append, List.length_append]
      exact h1

/-- The text. -/
def tx (kl ds rl : List UInt8) : List UInt8 := 123 :: 34 :: (kl ++ 34 :: 58 :: (ds ++ 125 :: rl))

theorem tx_len (kl ds rl : List UInt8) : (tx kl ds rl).length = kl.length + ds.length + rl.length + 5 := by simp [tx]; omega
theorem tx_ne (kl ds rl : List UInt8) : tx kl ds rl ≠ [] := by simp [tx]
theorem tx_key (kl ds rl : List UInt8) (j : Nat) (h : j < kl.length) : (tx kl ds rl).getD (2 + j) 0 = kl.getD j 0 := by
  simp only [tx, List.getD_eq_getElem?_getD]
  rw [show 2 + j = j + 1 + 1 by omega, List.getElem?_cons_succ, List.getElem?_cons_succ, List.getElem?_append_left h]
theorem tx_tail (kl ds rl : List UInt8) (j : Nat) : (tx kl ds rl).getD (2 + kl.length + j) 0 = (34 :: 58 :: (ds ++ 125 :: rl)).getD j 0 := by
  simp only [tx, List.getD_eq_getElem?_getD]
  rw [show 2 + kl.length + j = kl.length + j + 1 + 1 by omega, List.getElem?_cons_succ, List.getElem?_cons_succ, List.getElem?_append_right (by omega), show kl.length + j - kl.length = j by omega]
theorem tx_q (kl ds rl : List UInt8) : (tx kl ds rl).getD (2 + kl.length) 0 = 34 := by
  have := tx_tail kl ds rl 0; simpa using this
theorem tx_colon (kl ds rl : List UInt8) : (tx kl ds rl).getD (3 + kl.length) 0 = 58 := by
  have := tx_tail kl ds rl 1; rw [show 2 + kl.length + 1 = 3 + kl.length by omega] at this; simpa using this
theorem tx_dig (kl ds rl : List UInt8) (j : Nat) (h : j < ds.length) : (tx kl ds rl).getD (4 + kl.length + j) 0 = ds.getD j 0 := by
  have := tx_tail kl ds rl (j + 1 + 1)
  rw [show 2 + kl.length + (j + 1 + 1) = 4 + kl.length + j by omega] at this
  rw [this]
  simp only [List.getD_eq_getElem?_getD]
  rw [List.getElem?_cons_succ, List.getElem?_cons_succ, List.getElem?_append_left h]
theorem tx_end (kl ds rl : List UInt8) : (tx kl ds rl).getD (4 + kl.length + ds.length) 0 = 125 := by
  have := tx_tail kl ds rl (ds.length + 1 + 1)
  rw [show 2 + kl.length + (ds.length + 1 + 1) = 4 + kl.length + ds.length by omega] at this
  rw [this]
  simp only [List.getD_eq_getElem?_getD]
  rw [List.getElem?_cons_succ, List.getElem?_cons_succ, List.getElem?_append_right (by omega)]
  simp
theorem tx_part (kl ds rl : List UInt8) : part (fun i => (tx kl ds rl).getD i 0) (4 + kl.length) ds.length = ds := by
  apply List.ext_getElem
  · simp [part]
  · intro j h1 h2
    simp only [part, List.getElem_map, List.getElem_range]
    rw [tx_dig kl ds rl j h2]
    simp [List.getD_eq_getElem?_getD, h2]

theorem tx_built (kl ds rl : List UInt8) : [] ++ [123, 34] ++ kl ++ [34, 58] ++ ds ++ [125] ++ rl = tx kl ds rl := by simp [tx]

/-- A row of the call's own, read; its room. -/
theorem own_rowU {w : World} {B n : Nat} {v : Value} {l : List UInt8} (h : w.ownsRow B 5 1 v n (bcs l)) (hl : l ≠ []) : ∃ g cap, v = .slice (some ⟨g, 0, none⟩) l.length cap ∧ l.length ≤ cap ∧ cap ≤ 9223372036854775807 ∧ g < w.heap.size ∧ RowU w g l.length (fun i => l.getD i 0) := by
  have h' := h
  obtain ⟨g, cap, rfl, h1, h2, h3⟩ := own_row h hl
  refine ⟨g, cap, rfl, h1, ?_, h2, fun i hi => h3 i hi⟩
  obtain ⟨_, e | ⟨g', cap', cur, e, _, _, _, hm, _⟩⟩ := h'
  · exact absurd e.1 (by simp)
  · simp at e
    obtain ⟨_, _, rfl⟩ := e
    exact hm
end Go.Proofs.Qxb6600537aDoor

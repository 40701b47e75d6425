/-
  A slice of bytes that came in, copied into a block of the law's own.
-/
import Derived.Test.Qxb6600003aValue
import Derived.Laws.CopyOwn
namespace Go.Proofs.Qxb6600003a
open Go.RowKit
set_option linter.unusedVariables false

theorem info5 : (Try.prog.info? 5).map (fun i => (i.zero, i.size, i.bytes)) = some (some (.int .u8 0), 1, 1) := by kernel_rfl
theorem size5 : (Try.prog.info? 5).map (·.size) = some 1 := by kernel_rfl

/-- The bytes of a row, as cells. -/
def cells (z : List Int) (n : Nat) : List Value := (List.range n).map fun i => Value.int .u8 (z.getD i 0)
theorem cells_len (z : List Int) (n : Nat) : (cells z n).length = n := by simp [cells]
theorem cells_one (z : List Int) (n : Nat) : ∀ v ∈ cells z n, v.oneCell' = true := by
  intro v hv
  obtain ⟨i, _, rfl⟩ := List.mem_map.1 hv
  rfl

/-- The row that 'make' has laid. -/
theorem own_row {w : World} {base g n : Nat} {xs : List Value} (h : w.ownsRow base 5 1 (.slice (some ⟨g, 0, none⟩) n n) n xs) : ∃ cur : List Value, w.heap[g]? = some (.cells cur.toArray 5 (0, 0)) ∧ cur.length = n := by
  obtain ⟨_, h | ⟨g', cap, cur, hv, _, hc, _, _, hs, _⟩⟩ := h
  · exact absurd h.1 (by simp)
  · simp at hv
    obtain ⟨rfl, rfl⟩ := hv
    exact ⟨cur.toList, by simpa using hc, by simpa using hs⟩

/-- The source of the copy, behind 'make'. -/
theorem src_cells {w w2 : World} {x : Addr} {z : List Int} {n : Nat} (hz : n ≤ z.length) (hcell : ∀ i, i < z.length → w.cell? (x.add i) = some (.int .u8 (z.getD i 0))) (hb : Below w.heap.size w w2) : ∀ j v, (cells z n)[j]? = some v → w2.cell? (x.add j) = some v := by
  intro j v hj
  have hjn : j < n := by have := (List.getElem?_eq_some_iff.1 hj).1; rwa [cells_len] at this
  have hv : v = .int .u8 (z.getD j 0) := by
    simp [cells, List.getElem?_map, List.getElem?_range hjn] at hj
    rw [← hj, List.getD_eq_getElem?_getD]
  have hc := hcell j (by omega)
  have hlt : (x.add j).block < w.heap.size := by
    rcases Nat.lt_or_ge (x.add j).block w.heap.size with h | h
    · exact h
    · simp [World.cell?, Array.getElem?_eq_none h] at hc
  rw [hb.cell hlt, hc, hv]

/-- The copy, as a row. -/
theorem row_of {w : World} {B n : Nat} {z : List Int} {cur : List Value} (hcl : cur.length = n) (h : w.heap[B]? = some (.cells (splice cur 0 (cells z n)).toArray 5 (0, 0))) : Row w B n fun i => z.getD i 0 := by
  intro i hi
  unfold World.cell?
  simp only [h]
  have e : (splice cur 0 (cells z n))[i]? = some (Value.int .u8 (z.getD i 0)) := by
    unfold splice
    rw [List.take_zero, List.nil_append, List.getElem?_append_left (by rw [cells_len]; exact hi)]
    simp [cells, List.getElem?_range hi]
  simpa using e

end Go.Proofs.Qxb6600003a

/-
  THE WALK of zzItoa.
-/
import Derived.Test.Qxb6002379aFmtProg
import Derived.Test.Qxb6002379aFmtPlain
import Derived.WalkKit
import Derived.WalkSpells
import Derived.WalkLawsBesides
import Derived.Handy
import Derived.Deep.LoopGhost
namespace Go.Proofs.Qxb6002379aFmt
open Go.RowKit
set_option linter.unusedVariables false

/-- zzItoa's buffer, block B: the digits ds stand at its end. -/
structure Buf (B : Nat) (ds : List UInt8) (w : World) : Prop where
  blk : B < w.heap.size
  cell : ∀ j, j < 20 → ∃ v : Int, w.cell? ⟨B, j, none⟩ = some (.int .u8 v)
  free : ∀ j, j < 20 → w.frozen? ⟨B, j, none⟩ = false
  digs : ∀ j (hj : j < ds.length), w.cell? ⟨B, 20 - ds.length + j, none⟩ = some (.int .u8 (ds[j].toNat : Int))


theorem alen42 : Tryf.prog.arrayLen 42 = 20 := by kernel_rfl
theorem esz42 (w : World) : (sizeOf (Tryf.prog.elem 42)).run Tryf.prog w = .ok 1 w := by kernel_rfl
theorem und42 : Tryf.prog.underlying 42 = some (.array (Tryf.prog.arrayLen 42) (Tryf.prog.elem 42)) := by kernel_rfl

theorem slice20 (B p : Nat) (hp : p < 20) (w : World) : (Instr.sliceAt 42 (.pointer (some ⟨B, 0, none⟩)) (some (.int .i64 (p : Int))) none none).run Tryf.prog w = .ok (.slice (some ⟨B, p, none⟩) (20 - p) (20 - p)) w := by
  rw [run_sliceAt_array_l (P := Tryf.prog) w 42 ⟨B, 0, none⟩ und42 .i64 (p : Int) (by omega) (by rw [alen42]; omega), esz42]
  have hne : ¬ 20 = p := by omega
  simp [Result.andThen, slicedAt, alen42, hne, Addr.add]
  intro h; omega

/-- Behind one more digit. -/
theorem Buf.next {B : Nat} {ds : List UInt8} {w : World} (h : Buf B ds w) (p : Nat) (hl : p + 1 + ds.length = 20) (c : UInt8) {v : Int} (hv : v = (c.toNat : Int)) : Buf B (c :: ds) (w.setCell ⟨B, p, none⟩ (.int .u8 v)) := by
  subst hv
  obtain ⟨v0, hc0⟩ := h.cell p (by omega)
  refine ⟨by simpa using h.blk, fun j hj => ?_, fun j hj => by simpa using h.free j hj, fun j hj => ?_⟩
  · by_cases e : j = p
    · subst e; exact ⟨_, World.cell?_setCell_same _ _ _ hc0⟩
    · rw [World.cell?_setCell_other _ _ _ _ (fun h => e (by injection h with _ h2; exact h2.symm))]
      exact h.cell j hj
  · have hsz : 20 - (c :: ds).length = p := by simp; omega
    rw [hsz]
    cases j with
    | zero => exact World.cell?_setCell_same _ _ _ hc0
    | succ j =>
      rw [World.cell?_setCell_other _ _ _ _ (by simp)]
      have hj' : j < ds.length := by simpa using hj
      have := h.digs j hj'
      rw [show 20 - ds.length + j = p + (j + 1) by omega] at this
      simpa using this

/-- 'string(b[i:])'. -/
theorem Buf.back {B : Nat} {ds : List UInt8} {w : World} (h : Buf B ds w) (p : Nat) (hl : p + ds.length = 20) : (convert 37 9 (.slice (some ⟨B, p, none⟩) (20 - p) (20 - p))).run Tryf.prog w = .ok (.string ⟨ds.toArray⟩) w := by
  rw [show 20 - p = ds.length by omega]
  refine run_convert_bytes_back (P := Tryf.prog) w 37 9 5 ⟨B, p, none⟩ ds.length ds Tryf.underlying37 Tryf.underlying5 Tryf.underlying9 (fun j hj => ?_)
  have := h.digs j hj
  rw [show 20 - ds.length + j = p + j by omega] at this
  rw [show (⟨B, p, none⟩ : Addr).add j = ⟨B, p + j, none⟩ by simp [Addr.add]]
  exact this

/-- The digit of m's last place. -/
def dg (m : Nat) : UInt8 := UInt8.ofNat (48 + m % 10)
theorem dg_nat (m : Nat) : (dg m).toNat = 48 + m % 10 := by unfold dg; simp; omega

theorem dec_step {t m : Nat} {ds : List UInt8} (h : t = m * 10 ^ ds.length + val ds) : t = m / 10 * 10 ^ (dg m :: ds).length + val (dg m :: ds) := by
  rw [val, dg_nat, List.length_cons, Nat.pow_succ]
  have e1 : m = m / 10 * 10 + m % 10 := by omega
  rw [h]
  conv => lhs; rw [e1]
  rw [Nat.add_mul, Nat.mul_assoc, Nat.mul_comm 10 (10 ^ ds.length), show 48 + m % 10 - 48 = m % 10 by omega]
  omega

set_option maxHeartbeats 1000000 in
theorem itoa_any (t : Nat) (ht : t < 18446744073709551616) (w : World) :
    Calls Tryf.prog 8 #[.int .u64 t] w fun e w' => (∃ ds, Dec t ds ∧ e = .returned (.string ⟨ds.toArray⟩)) ∧ Below w.heap.size w w' := by
  go_enter Tryf.func8, Tryf.ntmps8
  go_wp2_with fail
  go_loopg [4, 0] 20 (fun g i u wr => ∃ (p m : Nat) (ds : List UInt8), p + 1 + ds.length = 20 ∧ i = .int .i64 ((p : Int) + 1) ∧ u = .int .u64 m ∧ m < 18446744073709551616 ∧ t = m * 10 ^ ds.length + val ds ∧ (ds ≠ [] → m ≠ 0) ∧ (∀ c ∈ ds, 48 ≤ c.toNat ∧ c.toNat ≤ 57) ∧ Buf w.heap.size ds wr ∧ Below w.heap.size w wr ∧ p < g)
  case atStart =>
    refine ⟨19, t, [], rfl, rfl, rfl, ht, by simp [val], by simp, by simp, ⟨by simp, ?_, ?_, by simp⟩, (Below.refl _ _).alloc (Nat.le_refl _) _, by omega⟩
    · intro j hj
      refine ⟨0, ?_⟩
      rw [World.cell?_alloc_at _ _ _ _ rfl]
      rcases j with _ | _ | _ | _ | _ | _ | _ | _ | _ | _ | _ | _ | _ | _ | _ | _ | _ | _ | _ | _ | j <;> first | rfl | omega
    · intro j hj
      simp [go_sem]
  case round =>
    obtain ⟨p, m, ds, hlen, rfl, rfl, hm, heq, hne, heach, hbuf, hbel, hg⟩ := hrel
    have HE : Hid (t = m * 10 ^ ds.length + val ds) := heq
    have HL : Hid (p + 1 + ds.length = 20) := hlen
    have HN : Hid (ds ≠ [] → m ≠ 0) := hne
    have HA : Hid (∀ c ∈ ds, 48 ≤ c.toNat ∧ c.toNat ≤ 57) := heach
    have HB : Hid (Buf w.heap.size ds wr) := hbuf
    have hp : p < 20 := by omega
    obtain ⟨v0, hc0⟩ := hbuf.cell p hp
    have hf0 := hbuf.free p hp
    have hblk := hbuf.blk
    clear heq hlen hne heach hbuf
    have hsl := slice20 w.heap.size p hp
    have HB2 : Hid (Buf w.heap.size (dg m :: ds) (wr.setCell ⟨w.heap.size, p, none⟩ (.int .u8 (48 + (m : Int) % 10)))) := HB.out.next p HL.out (dg m) (by rw [dg_nat]; omega)
    have HE2 : Hid (t = m / 10 * 10 ^ (dg m :: ds).length + val (dg m :: ds)) := dec_step HE.out
    have HA2 : Hid (∀ c ∈ dg m :: ds, 48 ≤ c.toNat ∧ c.toNat ≤ 57) := fun c hc => by
      rcases List.mem_cons.1 hc with rfl | hc
      · rw [dg_nat]; omega
      · exact HA.out c hc
    by_cases hz : m / 10 = 0
    · have ez : ((m : Int) / 10 == 0) = true := by rw [beq_iff_eq]; omega
      have hbk := HB2.out.back p (by have := HL.out; simp; omega)
      have HZ : Hid (m / 10 = 0) := hz
      clear hz
      go_wp2_with fail
      go_ret
      refine ⟨⟨dg m :: ds, ⟨by simp, by have := HL.out; simp; omega, HA2.out, ?_, ?_, ?_⟩, rfl⟩, hbel.setCell (Nat.le_refl _) _⟩
      · have := HE2.out; rw [HZ.out] at this; omega
      · intro ht0 hh
        have hd : dg m = 48 := by simpa using hh
        have h48 : 48 + m % 10 = 48 := by rw [← dg_nat, hd]; rfl
        have hm0 : m = 0 := by have := HZ.out; omega
        apply ht0
        have hds : ds = [] := Classical.byContradiction fun g => HN.out g hm0
        have := HE.out
        rw [hm0, hds] at this
        simpa [val] using this
      · intro ht0
        have hm0 : m = 0 := by
          have := HE.out
          apply Classical.byContradiction
          intro g
          have : 0 < m * 10 ^ ds.length := Nat.mul_pos (by omega) (Nat.pow_pos (by omega))
          omega
        have hds : ds = [] := Classical.byContradiction fun g => HN.out g hm0
        rw [hds, hm0]
        rfl
    · have ez : ((m : Int) / 10 == 0) = false := by rw [beq_eq_false_iff_ne]; omega
      have HZ : Hid (m / 10 ≠ 0) := hz
      clear hz hsl
      go_wp2_with fail
      have hp0 : 0 < p := by
        apply Classical.byContradiction
        intro g
        have e := HL.out
        have h1 := HE2.out
        have hlen : (dg m :: ds).length = 20 := by simp; omega
        rw [hlen] at h1
        have h2 : 1 ≤ m / 10 := by have := HZ.out; omega
        have h3 : 1 * 10 ^ 20 ≤ m / 10 * 10 ^ 20 := Nat.mul_le_mul_right _ h2
        omega
      go_roundg p
      case measure => omega
      case rel => exact ⟨p - 1, m / 10, dg m :: ds, by have := HL.out; simp; omega, by congr 1; omega, by congr 1, by omega, HE2.out, fun _ => HZ.out, HA2.out, HB2.out, hbel.setCell (Nat.le_refl _) _, by omega⟩
end Go.Proofs.Qxb6002379aFmt

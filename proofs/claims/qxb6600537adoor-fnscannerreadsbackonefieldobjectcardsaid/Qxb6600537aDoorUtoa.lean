/-
  THE WALK of zzUtoaHttpB1: a uint64's decimal digits; and what ParseUint makes of them (no Go in that part).
-/
import Derived.Test.Qxb6600537aDoorBytes
import Derived.Lib.ParseIntBCases
import Derived.Maps.AppendAt
namespace Go.Proofs.Qxb6600537aDoor
open Go.RowKit
set_option linter.unusedVariables false

/-- The number that the digits spell. -/
def val : List UInt8 → Nat
  | [] => 0
  | c :: ds => (c.toNat - 48) * 10 ^ ds.length + val ds

/-- ds is t in decimal, without leading zeros. -/
structure Dec (t : Nat) (ds : List UInt8) : Prop where
  ne : ds ≠ []
  len : ds.length ≤ 20
  each : ∀ c ∈ ds, 48 ≤ c.toNat ∧ c.toNat ≤ 57
  val : val ds = t
  lead : ∀ c r, ds = c :: r → r ≠ [] → c.toNat ≠ 48

theorem parseM (M : Nat) (hM : M < 18446744073709551616) : ∀ (ds : List UInt8) (acc : Nat), (∀ c ∈ ds, 48 ≤ c.toNat ∧ c.toNat ≤ 57) → acc * 10 ^ ds.length + val ds ≤ M → Lib.parseUintM M acc ds = .ok (acc * 10 ^ ds.length + val ds)
  | [], acc, _, _ => by simp [Lib.parseUintM, val]
  | c :: r, acc, he, hb => by
    have hc := he c (by simp)
    have e : acc * 10 ^ (c :: r).length + val (c :: r) = (acc * 10 + (c.toNat - 48)) * 10 ^ r.length + val r := by
      rw [val, List.length_cons, Nat.pow_succ, Nat.add_mul, Nat.mul_assoc, Nat.mul_comm 10 (10 ^ r.length)]
      omega
    rw [e] at hb ⊢
    have h1 : acc * 10 + (c.toNat - 48) ≤ (acc * 10 + (c.toNat - 48)) * 10 ^ r.length := Nat.le_mul_of_pos_right _ (Nat.pow_pos (by omega))
    rw [Lib.parseUintM, if_pos hc, if_neg (by omega), if_neg (by omega)]
    exact parseM M hM r _ (fun c hc => he c (by simp [hc])) hb

theorem Dec.parse {t : Nat} {ds : List UInt8} (h : Dec t ds) (ht : t < 18446744073709551616) : Lib.parseUintB 64 ds = .ok t := by
  unfold Lib.parseUintB
  rw [if_neg h.ne]
  have := parseM (2 ^ 64 - 1) (by omega) ds 0 h.each (by rw [h.val]; omega)
  rw [this, h.val]
  simp

/-- zzUtoaHttpB1's buffer, block B: the digits ds stand at its end. -/
structure Buf (B : Nat) (ds : List UInt8) (w : World) : Prop where
  blk : B < w.heap.size
  cell : ∀ j, j < 20 → ∃ v : Int, w.cell? ⟨B, j, none⟩ = some (.int .u8 v)
  free : ∀ j, j < 20 → w.frozen? ⟨B, j, none⟩ = false
  digs : ∀ j (hj : j < ds.length), w.cell? ⟨B, 20 - ds.length + j, none⟩ = some (.int .u8 (ds[j].toNat : Int))

/-- Behind one more digit. -/
theorem Buf.next {B : Nat} {ds : List UInt8} {w : World} (h : Buf B ds w) (p : Nat) (hl : p + 1 + ds.length = 20) (c : UInt8) {v : Int} (hv : v = (c.toNat : Int)) : Buf B (c :: ds) (w.setCell ⟨B, p, none⟩ (.int .u8 v)) := by
  subst hv
  obtain ⟨v0, hc0⟩ := h.cell p (by omega)
  refine ⟨by simpa using h.blk, fun j hj => ?_, fun j hj => by simpa using h.free j hj, fun j hj => ?_⟩
  · by_cases e : j = p
    · subst e; exact ⟨_, World.cell?_setCell_same _ _ _ hc0⟩
    · rw [World.cell?_setCell_other _ _ _ _ (fun h => e (by injection h with _ h2; exact h2.symm))]
      exact h.cell j hj
  · have hsz : 20 - (c :: ds).length = p := by simp; omega
    rw [hsz]
    cases j with
    | zero => exact World.cell?_setCell_same _ _ _ hc0
    | succ j =>
      rw [World.cell?_setCell_other _ _ _ _ (by simp)]
      have hj' : j < ds.length := by simpa using hj
      have := h.digs j hj'
      rw [show 20 - ds.length + j = p + (j + 1) by omega] at this
      simpa using this

/-- The digit of m's last place. -/
def dg (m : Nat) : UInt8 := UInt8.ofNat (48 + m % 10)
theorem dg_nat (m : Nat) : (dg m).toNat = 48 + m % 10 := by unfold dg; simp; omega

theorem dec_step {t m : Nat} {ds : List UInt8} (h : t = m * 10 ^ ds.length + val ds) : t = m / 10 * 10 ^ (dg m :: ds).length + val (dg m :: ds) := by
  rw [val, dg_nat, List.length_cons, Nat.pow_succ]
  have e1 : m = m / 10 * 10 + m % 10 := by omega
  rw [h]
  conv => lhs; rw [e1]
  rw [Nat.add_mul, Nat.mul_assoc, Nat.mul_comm 10 (10 ^ ds.length), show 48 + m % 10 - 48 = m % 10 by omega]
  omega

/-- The bytes, as cells. -/
def bcs (l : List UInt8) : List Value := l.map fun c => Value.int .u8 (c.toNat : Int)
theorem bcs_append (l m : List UInt8) : bcs (l ++ m) = bcs l ++ bcs m := by simp [bcs]
theorem bcs_snoc (l : List UInt8) (c : UInt8) : bcs (l ++ [c]) = bcs l ++ [Value.int .u8 (c.toNat : Int)] := by simp [bcs]
theorem bcs_length (l : List UInt8) : (bcs l).length = l.length := by simp [bcs]

/-- A row of the call's own, read. -/
theorem own_row {w : World} {B n : Nat} {v : Value} {l : List UInt8} (h : w.ownsRow B 5 1 v n (bcs l)) (hl : l ≠ []) : ∃ g cap, v = .slice (some ⟨g, 0, none⟩) l.length cap ∧ l.length ≤ cap ∧ g < w.heap.size ∧ ∀ i, i < l.length → w.cell? ⟨g, i, none⟩ = some (.int .u8 ((l.getD i 0).toNat : Int)) := by
  obtain ⟨hn, h | ⟨g, cap, cur, rfl, hg, hc, hn2, hcm, hcs, hx⟩⟩ := h
  · rw [bcs_length] at hn
    exact absurd (List.eq_nil_of_length_eq_zero (by omega)) hl
  · rw [bcs_length] at hn
    obtain rfl : n = l.length := by omega
    refine ⟨g, cap, rfl, hn2, (Array.getElem?_eq_some_iff.1 hc).1, fun j hj => ?_⟩
    have e1 : (cur.toList.take (l.length * 1))[j]? = some (Value.int .u8 ((l.getD j 0).toNat : Int)) := by
      rw [hx]; simp [bcs, hj, List.getD_eq_getElem?_getD]
    rw [List.getElem?_take] at e1
    rw [if_pos (by omega)] at e1
    unfold World.cell?
    simp only [hc]
    simpa using e1

theorem row_of {w : World} {g n : Nat} {f : Nat → Int} (h : ∀ i, i < n → w.cell? ⟨g, i, none⟩ = some (.int .u8 (f i))) : Row w (some ⟨g, 0, none⟩) n f :=
  .inr ⟨_, rfl, fun i hi => by rw [show (⟨g, 0, none⟩ : Addr).add i = ⟨g, i, none⟩ by simp [Addr.add]; intro e; rw [e]]; exact h i hi⟩

theorem app_new {B : Nat} {w w1 w2 : World} {o : Obj} {v : Value} {n : Nat} {xs : List Value} (hown : w1.ownsRow B 5 1 v n xs) (hb : Below B w w1) (hg : (w1.alloc o).grownBy w2 v.ownBlock) (hB : B ≤ w1.heap.size) : Below B w w2 :=
  (hb.alloc hB o).grown hg (by simp; omega) (fun k hk => (hown.lt k hk).1)

set_option maxHeartbeats 2000000 in
theorem utoa_any (t : Nat) (ht : t < 18446744073709551616) (w : World) :
    Calls Tryd.prog 13 #[.int .u64 t] w fun e w' => (∃ ds, Dec t ds ∧ ∃ x cap, e = .returned (.slice (some x) ds.length cap) ∧ Row w' (some x) ds.length (fun i => ((ds.getD i 0).toNat : Int))) ∧ Below w.heap.size w w' := by
  obtain ⟨i0, hi, hz0, hz1, hz2⟩ := info_parts info5
  go_enter Tryd.func13, Tryd.ntmps13
  go_wp2_with fail
  go_loopg [4, 0] 20 (fun g i u wr => ∃ (p m : Nat) (ds : List UInt8), p + 1 + ds.length = 20 ∧ i = .int .i64 ((p : Int) + 1) ∧ u = .int .u64 m ∧ m < 18446744073709551616 ∧ t = m * 10 ^ ds.length + val ds ∧ (ds ≠ [] → m ≠ 0) ∧ (∀ c ∈ ds, 48 ≤ c.toNat ∧ c.toNat ≤ 57) ∧ Buf w.heap.size ds wr ∧ Below w.heap.size w wr ∧ p < g)
  case atStart =>
    refine ⟨19, t, [], rfl, rfl, rfl, ht, by simp [val], by simp, by simp, ⟨by simp, ?_, ?_, by simp⟩, (Below.refl _ _).alloc (Nat.le_refl _) _, by omega⟩
    · intro j hj
      refine ⟨0, ?_⟩
      rw [World.cell?_alloc_at _ _ _ _ rfl]
      rcases j with _ | _ | _ | _ | _ | _ | _ | _ | _ | _ | _ | _ | _ | _ | _ | _ | _ | _ | _ | _ | j <;> first | rfl | omega
    · intro j hj
      simp [go_sem]
  case round =>
    obtain ⟨p, m, ds, hlen, rfl, rfl, hm, heq, hne, heach, hbuf, hbel, hg⟩ := hrel
    have HE : Hid (t = m * 10 ^ ds.length + val ds) := heq
    have HL : Hid (p + 1 + ds.length = 20) := hlen
    have HN : Hid (ds ≠ [] → m ≠ 0) := hne
    have HA : Hid (∀ c ∈ ds, 48 ≤ c.toNat ∧ c.toNat ≤ 57) := heach
    have HB : Hid (Buf w.heap.size ds wr) := hbuf
    have hp : p < 20 := by omega
    obtain ⟨v0, hc0⟩ := hbuf.cell p hp
    have hf0 := hbuf.free p hp
    have hblk := hbuf.blk
    clear heq hlen hne heach hbuf
    have HB2 : Hid (Buf w.heap.size (dg m :: ds) (wr.setCell ⟨w.heap.size, p, none⟩ (.int .u8 (48 + (m : Int) % 10)))) := HB.out.next p HL.out (dg m) (by rw [dg_nat]; omega)
    have HE2 : Hid (t = m / 10 * 10 ^ (dg m :: ds).length + val (dg m :: ds)) := dec_step HE.out
    have HA2 : Hid (∀ c ∈ dg m :: ds, 48 ≤ c.toNat ∧ c.toNat ≤ 57) := fun c hc => by
      rcases List.mem_cons.1 hc with rfl | hc
      · rw [dg_nat]; omega
      · exact HA.out c hc
    by_cases hz : m / 10 = 0
    · have ez : ((m : Int) / 10 == 0) = true := by rw [beq_iff_eq]; omega
      have HZ : Hid (m / 10 = 0) := hz
      clear hz
      have HD : Hid (Dec t (dg m :: ds)) := by
        refine ⟨by simp, by have := HL.out; simp; omega, HA2.out, ?_, ?_⟩
        · have := HE2.out; rw [HZ.out] at this; omega
        · rintro c r ⟨⟩ hr
          rw [dg_nat]
          have := HN.out hr
          have := HZ.out
          omega
      have hbel2 : Below w.heap.size w (wr.setCell ⟨w.heap.size, p, none⟩ (.int .u8 (48 + (m : Int) % 10))) := hbel.setCell (Nat.le_refl _) _
      have HK : Hid (p + (dg m :: ds).length = 20) := by have := HL.out; show _ = _; simp; omega
      go_wp2_with (at_make; refine wpList_make_own _ rfl _ _ 22 rfl wr.heap.size 5 i0 (.int .u8 0) 1 Tryd.underlying22 hi hz0 hz1 .i64 .i64 _ (20 - p) rfl rfl (by omega) (by rw [hz2]; omega) (by unfold maxLen; omega) (by simp) ?_; intro w2 hown2 hgrow2)
      have hbw : Below wr.heap.size (wr.setCell ⟨w.heap.size, p, none⟩ (.int .u8 (48 + (m : Int) % 10))) w2 := (Below.refl _ _).grown hgrow2 (by simp) (fun k hk => by simp at hk)
      have hw1 : wr.heap.size ≤ (wr.setCell ⟨w.heap.size, p, none⟩ (.int .u8 (48 + (m : Int) % 10))).heap.size := by simp
      clear hc0 hf0
      rw [show (wr.setCell ⟨w.heap.size, p, none⟩ (.int .u8 (48 + (m : Int) % 10))).heap.size = wr.heap.size by simp] at hown2
      generalize dg m :: ds = es at *
      generalize wr.setCell ⟨w.heap.size, p, none⟩ (.int .u8 (48 + (m : Int) % 10)) = w1 at *
      generalize wr.heap.size = B1 at *
      go_loopg [5, 6] 20 (fun g v q wr => ∃ k : Nat, k ≤ es.length ∧ q = .int .i64 ((p + k : Nat) : Int) ∧ wr.ownsRow B1 5 1 v k (bcs (es.take k)) ∧ Below B1 w1 wr ∧ es.length - k ≤ g)
      case atStart => exact ⟨0, by omega, rfl, by simpa [bcs] using hown2, hbw, by have := HK.out; omega⟩
      case round =>
        clear hown2 hgrow2 hbw
        obtain ⟨k, hk, rfl, hown, hb, hg2⟩ := hrel
        have hsz := hb.size
        by_cases hlt : k < es.length
        · have hk20 : k < 20 := by have := HK.out; omega
          obtain ⟨q, hq⟩ : ∃ q, q = p + k := ⟨_, rfl⟩
          have hq20 : q < 20 := by have := HK.out; omega
          have hcell : wr.cell? ⟨w.heap.size, q, none⟩ = some (.int .u8 (es[k].toNat : Int)) := by
            have h1 := HB2.out.digs k hlt
            rw [show 20 - es.length + k = q by have := HK.out; omega] at h1
            rw [hb.cell (p := ⟨w.heap.size, q, none⟩) hblk]; exact h1
          have HT : Hid (es.take (k + 1) = es.take k ++ [es[k]]) := List.take_succ_eq_append_getElem hlt
          rw [← hq]
          have HQ : Hid (q = p + k) := hq
          clear hq
          go_wp2_with (at_builtin; refine wpList_append_own _ rfl (.tmp 27) (.tmp 31) 22 rfl B1 5 i0 (.int .u8 0) 1 1 Tryd.underlying22 hi hz0 hz1 hz2 rfl (by decide) u5 _ _ rfl (hown.alloc _) ⟨wr.heap.size, 0, none⟩ 1 1 [.int .u8 (es[k].toNat : Int)] rfl rfl (cell_one_new _ _ _) (by simp [Value.oneCell']) (by unfold maxLen; omega) (by omega) (by simp; omega) ?_; intro v3 w3 hown3 hgrow3 _)
          go_roundg (es.length - (k + 1))
          case measure => omega
          case rel => exact ⟨k + 1, hlt, by have := HQ.out; congr 1; omega, by rw [HT.out, bcs_snoc]; exact hown3, app_new hown hb hgrow3 (by omega), Nat.le_refl _⟩
        · obtain rfl : k = es.length := by omega
          rw [HK.out]
          go_wp2_with fail
          rw [List.take_length] at hown
          obtain ⟨g, cap, rfl, hcap, hgs, hrow⟩ := own_row hown HD.out.ne
          go_ret
          exact ⟨⟨es, HD.out, _, cap, rfl, row_of hrow⟩, hbel2.trans (hb.mono (by omega))⟩
    · have ez : ((m : Int) / 10 == 0) = false := by rw [beq_eq_false_iff_ne]; omega
      have HZ : Hid (m / 10 ≠ 0) := hz
      clear hz
      go_wp2_with fail
      have hp0 : 0 < p := by
        apply Classical.byContradiction
        intro g
        have e := HL.out
        have h1 := HE2.out
        have hlen : (dg m :: ds).length = 20 := by simp; omega
        rw [hlen] at h1
        have h2 : 1 ≤ m / 10 := by have := HZ.out; omega
        have h3 : 1 * 10 ^ 20 ≤ m / 10 * 10 ^ 20 := Nat.mul_le_mul_right _ h2
        omega
      go_roundg p
      case measure => omega
      case rel => exact ⟨p - 1, m / 10, dg m :: ds, by have := HL.out; simp; omega, by congr 1; omega, by congr 1, by omega, HE2.out, fun _ => HZ.out, HA2.out, HB2.out, hbel.setCell (Nat.le_refl _) _, by omega⟩
end Go.Proofs.Qxb6600537aDoor

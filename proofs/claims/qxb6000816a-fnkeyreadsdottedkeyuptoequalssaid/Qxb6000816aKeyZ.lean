/-
  THE WALKS of ZZKey, zzCountNL, zzBlank.
-/
import Derived.Test.Qxb6000816aKey
namespace Go.Proofs.Qxb6000816a
open Go.RowKit
set_option linter.unusedVariables false

theorem Sc.fresh (t : ByteArray) (k : Nat) (l : Int) (w : World) (x : Value) (T : TypeId) : Sc w.heap.size t k l (w.alloc (.cells #[.string t, .int .i64 k, .int .i64 l, x] T)) :=
  ⟨by simp, by simp, by simp, by simp, by simp [go_sem], by simp [go_sem]⟩

set_option maxHeartbeats 400000 in
theorem zzkey_any (t : ByteArray) (k : Nat) (l : Int) (w : World) (hs : t.size ≤ 1073741824) (hk : k ≤ t.size) (hl1 : -1073741824 ≤ l) (hl2 : l ≤ 1073741824) :
    Calls Try.prog 16 #[.string t, .int .i64 k, .int .i64 l] w fun e w' => ∃ j : Nat, e = .returned (.tuple #[.int .i64 j, .int .i64 (l + cnt t j - cnt t k)]) ∧ (k ≤ j ∧ j ≤ t.size + 4 ∧ Keyed t k j ∧ Below w.heap.size w w') := by
  go_enter Try.func16, Try.ntmps16
  go_wp2_with fail
  refine (key_any w.heap.size t k l _ (Sc.fresh t k l w _ _) hs hk hl1 hl2).mono ?_
  rintro e w1 ⟨rfl, j, h1, h2, h3, hsc, hb⟩
  have HB : Hid (Below w.heap.size w w1) := ((Below.refl _ _).alloc (Nat.le_refl _) _).trans hb
  have HK : Hid (Keyed t k j) := h3
  clear hb h3
  obtain ⟨_, c0, c1, c2, _, _⟩ := hsc
  go_wp2_with fail
  go_quiet (fail)
  go_wp2_with fail
  go_ret2
  exact ⟨j, rfl, h1, h2, HK.out, below_drewN HB.out _⟩

set_option maxHeartbeats 400000 in
theorem countNL_any (t : ByteArray) (i j : Nat) (hij : i ≤ j) (hj : j ≤ t.size) (hs : t.size ≤ 1073741824) (w : World) :
    Calls Try.prog 13 #[.string t, .int .i64 i, .int .i64 j] w fun e w' => e = .returned (.int .i64 (cnt t j - cnt t i)) ∧ w' = w := by
  go_enter Try.func13, Try.ntmps13
  go_wp2_with fail
  go_loop [7, 8] (fun n v => ∃ k : Nat, i ≤ k ∧ k ≤ j ∧ v = .int .i64 k ∧ n = .int .i64 (cnt t k - cnt t i)) (fun _ v => j - (intOf v).toNat)
  case atStart => exact ⟨i, Nat.le_refl _, hij, rfl, by simp⟩
  case round =>
    obtain ⟨k, hik, hkj, rfl, rfl⟩ := hrel
    obtain ⟨c, hc⟩ : ∃ c, c = cnt t k - cnt t i := ⟨_, rfl⟩
    have b1 := cnt_bd t k
    have b2 := cnt_bd t i
    rw [← hc]
    have HC : Hid (c = cnt t k - cnt t i) := hc
    have hc1 : -1073741824 ≤ c := by omega
    have hc2 : c ≤ 1073741824 := by omega
    clear hc b1 b2
    by_cases hlt : k < j
    · have hks : k < t.size := by omega
      have hpk := pk_lt t k hks
      by_cases h10 : pk t k = 10
      · have e10 : (((t[k].toNat : Nat) : Int) == 10) = true := by rw [hpk]; simpa using h10
        have HN : Hid (cnt t (k + 1) = cnt t k + 1) := cnt_yes t k h10
        clear hpk h10
        go_wp2
        go_round
        case rel => exact ⟨k + 1, by omega, by omega, by go_num, by rw [HN.out]; have := HC.out; congr 1; omega⟩
        case measure => simp [intOf]; omega
      · have e10 : (((t[k].toNat : Nat) : Int) == 10) = false := by rw [hpk]; simpa using h10
        have HN : Hid (cnt t (k + 1) = cnt t k) := cnt_no t k h10
        clear hpk h10
        go_wp2
        go_round
        case rel => exact ⟨k + 1, by omega, by omega, by go_num, by rw [HN.out]; have := HC.out; congr 1⟩
        case measure => simp [intOf]; omega
    · go_wp2
      go_ret
      obtain rfl : k = j := by omega
      exact ⟨ret_int HC.out, rfl⟩
end Go.Proofs.Qxb6000816a

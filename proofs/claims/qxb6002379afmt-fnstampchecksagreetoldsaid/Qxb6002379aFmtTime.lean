/-
  THE WALK of parseTime.
-/
import Derived.Test.Qxb6002379aFmtProg
import Derived.Test.Qxb6002379aFmtPlain
import Derived.WalkKit
import Derived.WalkSpells
import Derived.WalkLawsBesides
import Derived.Handy
namespace Go.Proofs.Qxb6002379aFmt
open Go.RowKit
set_option linter.unusedVariables false

theorem byte_of {S : ByteArray} {ds : List UInt8} (h : S.data.toList = ds) (k : Nat) (hk : k < S.size) : ∃ hk' : k < ds.length, S[k] = ds[k] := by
  subst h
  exact ⟨by simpa using hk, rfl⟩

theorem time_zero (w : World) : Calls Tryf.prog 21 #[.string ⟨[48].toArray⟩] w fun e w' => e = .returned (.tuple #[.int .u64 0, .bool false]) ∧ w' = w := by
  go_enter Tryf.func21, Tryf.ntmps21
  go_wp2
  go_ret2
  exact ⟨rfl, rfl⟩

set_option maxHeartbeats 1000000 in
theorem time_ok (t : Nat) (ds : List UInt8) (S : ByteArray) (hS : S.data.toList = ds) (hd : Dec t ds) (ht : t < 18446744073709551616) (h0 : t ≠ 0) (w : World) :
    Calls Tryf.prog 21 #[.string S] w fun e w' => e = .returned (.tuple #[.int .u64 t, .bool true]) ∧ w' = w := by
  have hsz : ds.length = S.size := by rw [← hS]; simp
  have hpos : 0 < S.size := by have := hd.pos; omega
  have htop : S.size ≤ 20 := by have := hd.top; omega
  have e0 : ((S.size : Int) == 0) = false := by rw [beq_eq_false_iff_ne]; omega
  have HS : Hid (S.data.toList = ds) := hS
  have HD : Hid (Dec t ds) := hd
  have HZ : Hid (ds.length = S.size) := hsz
  have e48 : (((S[0].toNat : Nat) : Int) == 48) = false := by
    rw [beq_eq_false_iff_ne]
    intro g
    obtain ⟨hk, hb⟩ := byte_of hS 0 hpos
    apply hd.head h0
    rw [List.head?_eq_getElem?, List.getElem?_eq_getElem hk, ← hb]
    congr 1
    apply UInt8.toNat_inj.1
    simpa using Int.ofNat_inj.1 g
  clear hS hd hsz h0
  go_enter Tryf.func21, Tryf.ntmps21
  go_wp2_with fail
  go_loop [4, 5] (fun a v => ∃ k : Nat, k ≤ S.size ∧ v = .int .i64 k ∧ a = .int .u64 (val (ds.take k) : Nat)) (fun _ v => S.size - (intOf v).toNat)
  case atStart => exact ⟨0, Nat.zero_le _, rfl, rfl⟩
  case round =>
    obtain ⟨k, hk, rfl, rfl⟩ := hrel
    by_cases hlt : k < S.size
    · obtain ⟨hk', hb⟩ := byte_of HS.out k hlt
      have hc := HD.out.each ds[k] (List.getElem_mem hk')
      have hc1 : (48 : Int) ≤ ((S[k].toNat : Nat) : Int) := by rw [hb]; omega
      have hc2 : ((S[k].toNat : Nat) : Int) ≤ 57 := by rw [hb]; omega
      have HN : Hid (val (ds.take (k + 1)) = val (ds.take k) * 10 + (S[k].toNat - 48)) := by
        have := val_take_succ ds k hk'
        rw [← hb] at this
        exact this
      have hle := val_take_le ds (k + 1)
      have hv := HD.out.value
      have hn := HN.out
      obtain ⟨a, ha⟩ : ∃ a, a = val (ds.take k) := ⟨_, rfl⟩
      obtain ⟨c, hcc⟩ : ∃ c : Int, c = ((S[k].toNat : Nat) : Int) := ⟨_, rfl⟩
      have HA : Hid (a = val (ds.take k)) := ha
      rw [← ha]
      have hb1 : a * 10 + (S[k].toNat - 48) < 18446744073709551616 := by omega
      have hb2 : (a : Int) * 10 + (((S[k].toNat : Nat) : Int) - 48) < 18446744073709551616 := by omega
      clear hb hc hle hv hn ha hcc
      by_cases h19 : k = 19
      · have e19 : ((k : Int) == 19) = true := by rw [beq_iff_eq]; omega
        have hq : (a : Int) ≤ (18446744073709551615 - (((S[k].toNat : Nat) : Int) - 48)) / 10 := by omega
        clear h19
        go_wp2
        go_round
        case rel => exact ⟨k + 1, by omega, by go_num, by rw [HN.out, ← HA.out]; congr 1; omega⟩
        case measure => simp [intOf]; omega
      · have e19 : ((k : Int) == 19) = false := by rw [beq_eq_false_iff_ne]; omega
        clear h19
        go_wp2
        go_round
        case rel => exact ⟨k + 1, by omega, by go_num, by rw [HN.out, ← HA.out]; congr 1; omega⟩
        case measure => simp [intOf]; omega
    · obtain rfl : k = S.size := by omega
      go_wp2
      go_ret2
      refine ⟨?_, rfl⟩
      have hv := HD.out.value
      have ht' : ds.take S.size = ds := by rw [← HZ.out]; exact List.take_length
      show Ending.returned (.tuple #[.int .u64 ((val (ds.take S.size) : Nat) : Int), .bool true]) = _
      rw [ht', hv]
end Go.Proofs.Qxb6002379aFmt

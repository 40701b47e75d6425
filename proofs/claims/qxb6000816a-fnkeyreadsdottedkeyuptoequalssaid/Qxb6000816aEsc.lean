/-
  THE WALKS of zzEscapeBasic, zzValidBarePath, zzBareByte.
-/
import Derived.Test.Qxb6000816aProg
import Derived.Test.Qxb6000816aDotted
import Derived.WalkKit
import Derived.WalkSpells
import Derived.WalkLawsBesides
import Derived.Handy
namespace Go.Proofs.Qxb6000816a
open Go.RowKit
set_option linter.unusedVariables false

theorem Try.info5 : (Try.prog.info? 5).map (fun i => (i.zero, i.size, i.bytes)) = some (some (.int .u8 0), 1, 1) := by kernel_rfl

/-- Bytes as cells. -/
def bcs (l : List UInt8) : List Value := l.map fun x => Value.int .u8 (x.toNat : Int)

theorem bcs_length (l : List UInt8) : (bcs l).length = l.length := by simp [bcs]

/-- What has been written when k bytes of c are done. -/
def wl (c : ByteArray) (k : Nat) : List UInt8 := 34 :: escL (c.data.toList.take k)

theorem escL_len (l : List UInt8) : (escL l).length ≤ 2 * l.length := by
  induction l with
  | nil => simp [escL]
  | cons x l ih =>
    have : (esc1 x).length ≤ 2 := by unfold esc1; split <;> simp
    simp [escL]; omega

theorem wl_len (c : ByteArray) (k : Nat) (h : k ≤ c.size) : (wl c k).length ≤ 2 * k + 1 := by
  have h1 := escL_len (c.data.toList.take k)
  have h2 : (c.data.toList.take k).length ≤ k := List.length_take_le _ _
  simp [wl]; omega

theorem wl_succ (c : ByteArray) (k : Nat) (h : k < c.size) : wl c (k + 1) = wl c k ++ esc1 c[k] := by
  have ht : c.data.toList.take (k + 1) = c.data.toList.take k ++ [c[k]] := by
    rw [List.take_succ_eq_append_getElem (by simpa using h)]; rfl
  unfold wl
  rw [ht, escL_append]
  simp [escL]

theorem own_ge {w : World} {B : Nat} {e : TypeId} {s : Nat} {v : Value} {n : Nat} {xs : List Value} (h : w.ownsRow B e s v n xs) : ∀ k, v.ownBlock = some k → B ≤ k := by
  intro k hk
  rcases h.2 with ⟨rfl, _⟩ | ⟨g, cap, cur, rfl, hg, _⟩
  · simp [Value.ownBlock] at hk
  · simp [Value.ownBlock] at hk; omega

/-- Behind one append of one byte. -/
theorem app_one {w wr w1 : World} {v : Value} {n : Nat} {xs : List Value} {o : Obj} (hown : wr.ownsRow w.heap.size 5 1 v n xs) (hb : Below w.heap.size w wr) (hg : (wr.alloc o).grownBy w1 v.ownBlock) : Below w.heap.size w w1 :=
  (hb.alloc hb.size o).grown hg (by have := hb.size; simp; omega) (own_ge hown)

/-- 'string(b)' of what the call owns. -/
theorem back {w : World} {B : Nat} {v : Value} {n : Nat} {l : List UInt8} (h : w.ownsRow B 5 1 v n (bcs l)) (hl : l ≠ []) : (convert 38 9 v).run Try.prog w = .ok (.string ⟨l.toArray⟩) w := by
  obtain ⟨hn, h | ⟨g, cap, cur, rfl, hg, hc, hn2, hcm, hcs, hx⟩⟩ := h
  · rw [bcs_length] at hn
    exact absurd (List.eq_nil_of_length_eq_zero (by omega)) hl
  · rw [bcs_length] at hn
    have hnl : n = l.length := by omega
    subst hnl
    refine run_convert_bytes_back (P := Try.prog) w 38 9 5 ⟨g, 0, none⟩ cap l Try.underlying38 Try.underlying5 Try.underlying9 (fun j hj => ?_)
    have e1 : (cur.toList.take (l.length * 1))[j]? = some (Value.int .u8 (l[j].toNat : Int)) := by
      rw [hx]; simp [bcs, hj]
    rw [List.getElem?_take] at e1
    rw [if_pos (by omega)] at e1
    have : w.cell? ⟨g, j, none⟩ = some (Value.int .u8 (l[j].toNat : Int)) := by
      unfold World.cell?
      simp [hc]
      simpa using e1
    rw [show (⟨g, 0, none⟩ : Addr).add j = ⟨g, j, none⟩ by simp [Addr.add]; intro e; rw [e]]
    exact this

set_option maxHeartbeats 1000000 in
theorem esc_any (c : ByteArray) (w : World) (hs : c.size ≤ 1073741824) :
    Calls Try.prog 20 #[.string c] w fun e w' => e = .returned (.string ⟨(34 :: (escL c.data.toList ++ [34])).toArray⟩) ∧ Below w.heap.size w w' := by
  obtain ⟨i0, hi, hz0, hz1, hz2⟩ := info_parts Try.info5
  go_enter Try.func20, Try.ntmps20
  go_wp2_with (first | (at_make; refine wpList_make_own _ rfl _ _ 38 rfl w.heap.size 5 i0 (.int .u8 0) 1 Try.underlying38 hi hz0 hz1 .i64 .i64 _ (2 * c.size + 2) rfl rfl (by omega) (by rw [hz2]; omega) (by unfold maxLen; omega) (Nat.le_refl _) ?_; intro w0 hown0 hgrow0) | (at_builtin; refine wpList_append_own _ rfl (.tmp 10) (.tmp 11) 38 rfl w.heap.size 5 i0 (.int .u8 0) 1 1 Try.underlying38 hi hz0 hz1 hz2 rfl (by decide) (.slice (some ⟨w.heap.size, 0, none⟩) 0 (2 * c.size + 2)) 0 [] rfl (hown0.alloc _) ⟨w0.heap.size, 0, none⟩ 1 1 [.int .u8 34] rfl rfl (cell_one_new _ _ _) (by simp [Value.oneCell']) (by unfold maxLen; omega) (by omega) (by have := hgrow0.size; simp; omega) ?_; intro v1 w1 hown1 hgrow1 _))
  have hb0 : Below w.heap.size w w0 := (Below.refl _ _).grown hgrow0 (Nat.le_refl _) (fun k hk => by simp at hk)
  have hb1 : Below w.heap.size w w1 := app_one hown0 hb0 hgrow1
  clear hgrow0 hgrow1 hb0 hown0
  go_loopw [3, 4] (fun v i wr => ∃ k : Nat, k ≤ c.size ∧ i = .int .i64 k ∧ wr.ownsRow w.heap.size 5 1 v (wl c k).length (bcs (wl c k)) ∧ Below w.heap.size w wr) (fun _ i _ => c.size - (intOf i).toNat)
  case atStart => exact ⟨0, Nat.zero_le _, rfl, hown1, hb1⟩
  case round =>
    clear hown1 hb1
    obtain ⟨k, hk, rfl, hown, hbel⟩ := hrel
    have hlen := wl_len c k hk
    have hsz := hbel.size
    by_cases hlt : k < c.size
    · have HW := wl_succ c k hlt
      by_cases hx : c[k] = 34 ∨ c[k] = 92
      · rcases hx with hx | hx
        · have e34 : (((c[k].toNat : Nat) : Int) == 34) = true := by rw [hx]; rfl
          have HL0 : wl c (k + 1) = wl c k ++ [92] ++ [c[k]] := by rw [HW, esc1, if_pos (.inl hx)]; simp
          have HL : Hid (wl c (k + 1) = wl c k ++ [92] ++ [c[k]]) := HL0
          clear HW hx HL0
          go_wp2_with (first | (at_builtin; refine wpList_append_own _ rfl (.tmp 29) (.tmp 30) 38 rfl w.heap.size 5 i0 (.int .u8 0) 1 1 Try.underlying38 hi hz0 hz1 hz2 rfl (by decide) u3 _ _ rfl (hown.alloc _) ⟨wr.heap.size, 0, none⟩ 1 1 [.int .u8 92] rfl rfl (cell_one_new _ _ _) (by simp [Value.oneCell']) (by unfold maxLen; omega) (by omega) (by simp; omega) ?_; intro v1 w1 hown1 hgrow1 _; have hbel1 := app_one hown hbel hgrow1; have hsz1 := hbel1.size) | (at_builtin; refine wpList_append_own _ rfl (.tmp 32) (.tmp 36) 38 rfl w.heap.size 5 i0 (.int .u8 0) 1 1 Try.underlying38 hi hz0 hz1 hz2 rfl (by decide) v1 _ _ rfl (hown1.alloc _) ⟨w1.heap.size, 0, none⟩ 1 1 [.int .u8 (c[k].toNat : Int)] rfl rfl (cell_one_new _ _ _) (by simp [Value.oneCell']) (by unfold maxLen; omega) (by omega) (by simp; omega) ?_; intro v2 w2 hown2 hgrow2 _))
          go_roundw
          case rel => exact ⟨k + 1, by omega, by go_num, by rw [HL.out]; simpa [bcs] using hown2, app_one hown1 hbel1 hgrow2⟩
          case measure => simp [intOf]; omega
        · have e34 : (((c[k].toNat : Nat) : Int) == 34) = false := by rw [hx]; rfl
          have e92 : (((c[k].toNat : Nat) : Int) == 92) = true := by rw [hx]; rfl
          have HL0 : wl c (k + 1) = wl c k ++ [92] ++ [c[k]] := by rw [HW, esc1, if_pos (.inr hx)]; simp
          have HL : Hid (wl c (k + 1) = wl c k ++ [92] ++ [c[k]]) := HL0
          clear HW hx HL0
          go_wp2_with (first | (at_builtin; refine wpList_append_own _ rfl (.tmp 29) (.tmp 30) 38 rfl w.heap.size 5 i0 (.int .u8 0) 1 1 Try.underlying38 hi hz0 hz1 hz2 rfl (by decide) u3 _ _ rfl (hown.alloc _) ⟨wr.heap.size, 0, none⟩ 1 1 [.int .u8 92] rfl rfl (cell_one_new _ _ _) (by simp [Value.oneCell']) (by unfold maxLen; omega) (by omega) (by simp; omega) ?_; intro v1 w1 hown1 hgrow1 _; have hbel1 := app_one hown hbel hgrow1; have hsz1 := hbel1.size) | (at_builtin; refine wpList_append_own _ rfl (.tmp 32) (.tmp 36) 38 rfl w.heap.size 5 i0 (.int .u8 0) 1 1 Try.underlying38 hi hz0 hz1 hz2 rfl (by decide) v1 _ _ rfl (hown1.alloc _) ⟨w1.heap.size, 0, none⟩ 1 1 [.int .u8 (c[k].toNat : Int)] rfl rfl (cell_one_new _ _ _) (by simp [Value.oneCell']) (by unfold maxLen; omega) (by omega) (by simp; omega) ?_; intro v2 w2 hown2 hgrow2 _))
          go_roundw
          case rel => exact ⟨k + 1, by omega, by go_num, by rw [HL.out]; simpa [bcs] using hown2, app_one hown1 hbel1 hgrow2⟩
          case measure => simp [intOf]; omega
      · have e34 : (((c[k].toNat : Nat) : Int) == 34) = false := by
          rw [beq_eq_false_iff_ne]; intro g; apply hx; left; apply UInt8.toNat_inj.1; simpa using Int.ofNat_inj.1 g
        have e92 : (((c[k].toNat : Nat) : Int) == 92) = false := by
          rw [beq_eq_false_iff_ne]; intro g; apply hx; right; apply UInt8.toNat_inj.1; simpa using Int.ofNat_inj.1 g
        have HL0 : wl c (k + 1) = wl c k ++ [c[k]] := by rw [HW, esc1, if_neg hx]
        have HL : Hid (wl c (k + 1) = wl c k ++ [c[k]]) := HL0
        clear HW hx HL0
        go_wp2_with (at_builtin; refine wpList_append_own _ rfl (.tmp 32) (.tmp 36) 38 rfl w.heap.size 5 i0 (.int .u8 0) 1 1 Try.underlying38 hi hz0 hz1 hz2 rfl (by decide) u3 _ _ rfl (hown.alloc _) ⟨wr.heap.size, 0, none⟩ 1 1 [.int .u8 (c[k].toNat : Int)] rfl rfl (cell_one_new _ _ _) (by simp [Value.oneCell']) (by unfold maxLen; omega) (by omega) (by simp; omega) ?_; intro v1 w1 hown1 hgrow1 _)
        go_roundw
        case rel => exact ⟨k + 1, by omega, by go_num, by rw [HL.out]; simpa [bcs] using hown1, app_one hown hbel hgrow1⟩
        case measure => simp [intOf]; omega
    · obtain rfl : k = c.size := by omega
      go_wp2_with (at_builtin; refine wpList_append_own _ rfl (.tmp 38) (.tmp 39) 38 rfl w.heap.size 5 i0 (.int .u8 0) 1 1 Try.underlying38 hi hz0 hz1 hz2 rfl (by decide) u3 _ _ rfl (hown.alloc _) ⟨wr.heap.size, 0, none⟩ 1 1 [.int .u8 34] rfl rfl (cell_one_new _ _ _) (by simp [Value.oneCell']) (by unfold maxLen; omega) (by omega) (by simp; omega) ?_; intro v1 w1 hown1 hgrow1 _; have hbk := back (l := wl c c.size ++ [34]) (by simpa [bcs] using hown1) (by simp))
      go_ret
      refine ⟨?_, app_one hown hbel hgrow1⟩
      have ht : c.data.toList.take c.size = c.data.toList := List.take_of_length_le (by simp)
      unfold wl
      rw [ht]
      simp
def bareD (c : Int) : Bool := decide ((97 ≤ c ∧ c ≤ 122) ∨ (65 ≤ c ∧ c ≤ 90) ∨ (48 ≤ c ∧ c ≤ 57) ∨ c = 95 ∨ c = 45)
theorem bareD_iff (c : Int) : bareD c = true ↔ BareB c := by unfold bareD BareB; simp
theorem bareD_is (c : Int) (b : Bool) (h : (b = true ↔ BareB c)) : Ending.returned (.bool b) = .returned (.bool (bareD c)) := by
  have : b = bareD c := by rw [Bool.eq_iff_iff, h, bareD_iff]
  rw [this]

theorem bare_lower (c : Int) (w : World) (ha : 97 ≤ c) (hb : c ≤ 122) : Calls Try.prog 29 #[.int .u8 c] w fun e w' => e = .returned (.bool (bareD c)) ∧ w' = w := by
  have d0 : decide (97 ≤ c) = true := by simp; omega
  have d1 : decide (c ≤ 122) = true := by simp; omega
  have d2 : decide (65 ≤ c) = true := by simp; omega
  have d3 : decide (c ≤ 90) = false := by simp; omega
  have d4 : decide (48 ≤ c) = true := by simp; omega
  have d5 : decide (c ≤ 57) = false := by simp; omega
  have e7 : (c == 95) = false := by rw [beq_eq_false_iff_ne]; omega
  have e8 : (c == 45) = false := by rw [beq_eq_false_iff_ne]; omega
  go_enter Try.func29, Try.ntmps29
  go_wp2
  go_ret
  exact ⟨bareD_is c _ (by simp [BareB]; omega), rfl⟩

theorem bare_high (c : Int) (w : World) (ha : 122 < c) (hb : True) : Calls Try.prog 29 #[.int .u8 c] w fun e w' => e = .returned (.bool (bareD c)) ∧ w' = w := by
  have d0 : decide (97 ≤ c) = true := by simp; omega
  have d1 : decide (c ≤ 122) = false := by simp; omega
  have d2 : decide (65 ≤ c) = true := by simp; omega
  have d3 : decide (c ≤ 90) = false := by simp; omega
  have d4 : decide (48 ≤ c) = true := by simp; omega
  have d5 : decide (c ≤ 57) = false := by simp; omega
  have e7 : (c == 95) = false := by rw [beq_eq_false_iff_ne]; omega
  have e8 : (c == 45) = false := by rw [beq_eq_false_iff_ne]; omega
  go_enter Try.func29, Try.ntmps29
  go_wp2
  go_ret
  exact ⟨bareD_is c _ (by simp [BareB]; omega), rfl⟩

theorem bare_upper (c : Int) (w : World) (ha : 65 ≤ c) (hb : c ≤ 90) : Calls Try.prog 29 #[.int .u8 c] w fun e w' => e = .returned (.bool (bareD c)) ∧ w' = w := by
  have d0 : decide (97 ≤ c) = false := by simp; omega
  have d1 : decide (c ≤ 122) = true := by simp; omega
  have d2 : decide (65 ≤ c) = true := by simp; omega
  have d3 : decide (c ≤ 90) = true := by simp; omega
  have d4 : decide (48 ≤ c) = true := by simp; omega
  have d5 : decide (c ≤ 57) = false := by simp; omega
  have e7 : (c == 95) = false := by rw [beq_eq_false_iff_ne]; omega
  have e8 : (c == 45) = false := by rw [beq_eq_false_iff_ne]; omega
  go_enter Try.func29, Try.ntmps29
  go_wp2
  go_ret
  exact ⟨bareD_is c _ (by simp [BareB]; omega), rfl⟩

theorem bare_mid1 (c : Int) (w : World) (ha : 90 < c ∧ c < 97) (hb : c ≠ 95) : Calls Try.prog 29 #[.int .u8 c] w fun e w' => e = .returned (.bool (bareD c)) ∧ w' = w := by
  have d0 : decide (97 ≤ c) = false := by simp; omega
  have d1 : decide (c ≤ 122) = true := by simp; omega
  have d2 : decide (65 ≤ c) = true := by simp; omega
  have d3 : decide (c ≤ 90) = false := by simp; omega
  have d4 : decide (48 ≤ c) = true := by simp; omega
  have d5 : decide (c ≤ 57) = false := by simp; omega
  have e7 : (c == 95) = false := by rw [beq_eq_false_iff_ne]; omega
  have e8 : (c == 45) = false := by rw [beq_eq_false_iff_ne]; omega
  go_enter Try.func29, Try.ntmps29
  go_wp2
  go_ret
  exact ⟨bareD_is c _ (by simp [BareB]; omega), rfl⟩

theorem bare_under (c : Int) (w : World) (ha : c = 95) (hb : True) : Calls Try.prog 29 #[.int .u8 c] w fun e w' => e = .returned (.bool (bareD c)) ∧ w' = w := by
  subst ha
  go_enter Try.func29, Try.ntmps29
  go_wp2
  go_ret
  exact ⟨rfl, rfl⟩

theorem bare_digit (c : Int) (w : World) (ha : 48 ≤ c) (hb : c ≤ 57) : Calls Try.prog 29 #[.int .u8 c] w fun e w' => e = .returned (.bool (bareD c)) ∧ w' = w := by
  have d0 : decide (97 ≤ c) = false := by simp; omega
  have d1 : decide (c ≤ 122) = true := by simp; omega
  have d2 : decide (65 ≤ c) = false := by simp; omega
  have d3 : decide (c ≤ 90) = true := by simp; omega
  have d4 : decide (48 ≤ c) = true := by simp; omega
  have d5 : decide (c ≤ 57) = true := by simp; omega
  have e7 : (c == 95) = false := by rw [beq_eq_false_iff_ne]; omega
  have e8 : (c == 45) = false := by rw [beq_eq_false_iff_ne]; omega
  go_enter Try.func29, Try.ntmps29
  go_wp2
  go_ret
  exact ⟨bareD_is c _ (by simp [BareB]; omega), rfl⟩

theorem bare_mid2 (c : Int) (w : World) (ha : 57 < c) (hb : c < 65) : Calls Try.prog 29 #[.int .u8 c] w fun e w' => e = .returned (.bool (bareD c)) ∧ w' = w := by
  have d0 : decide (97 ≤ c) = false := by simp; omega
  have d1 : decide (c ≤ 122) = true := by simp; omega
  have d2 : decide (65 ≤ c) = false := by simp; omega
  have d3 : decide (c ≤ 90) = true := by simp; omega
  have d4 : decide (48 ≤ c) = true := by simp; omega
  have d5 : decide (c ≤ 57) = false := by simp; omega
  have e7 : (c == 95) = false := by rw [beq_eq_false_iff_ne]; omega
  have e8 : (c == 45) = false := by rw [beq_eq_false_iff_ne]; omega
  go_enter Try.func29, Try.ntmps29
  go_wp2
  go_ret
  exact ⟨bareD_is c _ (by simp [BareB]; omega), rfl⟩

theorem bare_low (c : Int) (w : World) (ha : c < 48) (hb : c ≠ 45) : Calls Try.prog 29 #[.int .u8 c] w fun e w' => e = .returned (.bool (bareD c)) ∧ w' = w := by
  have d0 : decide (97 ≤ c) = false := by simp; omega
  have d1 : decide (c ≤ 122) = true := by simp; omega
  have d2 : decide (65 ≤ c) = false := by simp; omega
  have d3 : decide (c ≤ 90) = true := by simp; omega
  have d4 : decide (48 ≤ c) = false := by simp; omega
  have d5 : decide (c ≤ 57) = true := by simp; omega
  have e7 : (c == 95) = false := by rw [beq_eq_false_iff_ne]; omega
  have e8 : (c == 45) = false := by rw [beq_eq_false_iff_ne]; omega
  go_enter Try.func29, Try.ntmps29
  go_wp2
  go_ret
  exact ⟨bareD_is c _ (by simp [BareB]; omega), rfl⟩

theorem bare_minus (c : Int) (w : World) (ha : c = 45) (hb : True) : Calls Try.prog 29 #[.int .u8 c] w fun e w' => e = .returned (.bool (bareD c)) ∧ w' = w := by
  subst ha
  go_enter Try.func29, Try.ntmps29
  go_wp2
  go_ret
  exact ⟨rfl, rfl⟩

theorem bare_any (c : Int) (w : World) : Calls Try.prog 29 #[.int .u8 c] w fun e w' => e = .returned (.bool (bareD c)) ∧ w' = w := by
  by_cases h1 : c = 95
  · exact bare_under c w h1 trivial
  by_cases h2 : c = 45
  · exact bare_minus c w h2 trivial
  by_cases h3 : 122 < c
  · exact bare_high c w h3 trivial
  by_cases h4 : 97 ≤ c
  · exact bare_lower c w h4 (by omega)
  by_cases h5 : 90 < c
  · exact bare_mid1 c w ⟨h5, by omega⟩ h1
  by_cases h6 : 65 ≤ c
  · exact bare_upper c w h6 (by omega)
  by_cases h7 : 57 < c
  · exact bare_mid2 c w h7 (by omega)
  by_cases h8 : 48 ≤ c
  · exact bare_digit c w h8 (by omega)
  · exact bare_low c w (by omega) h2

theorem bare_not' {x : Int} (h : BareB x) : x ≠ 46 := by unfold BareB at h; omega

/-- The first k bytes of p are names and single dots; 'd': a name must begin here. -/
structure PI (p : ByteArray) (k : Nat) (d : Bool) : Prop where
  each : ∀ i, i < k → pk p i = 46 ∨ BareB (pk p i)
  dot : ∀ i, i < k → pk p i = 46 → 0 < i ∧ pk p (i - 1) ≠ 46
  here : d = true ↔ (k = 0 ∨ pk p (k - 1) = 46)

theorem PI.zero (p : ByteArray) : PI p 0 true := ⟨fun i h => by omega, fun i h => by omega, by simp⟩
theorem PI.dotted {p : ByteArray} {k : Nat} (h : PI p k false) (hd : pk p k = 46) : PI p (k + 1) true :=
  ⟨fun i hi => by
    by_cases e : i = k
    · subst e; exact .inl hd
    · exact h.each i (by omega),
   fun i hi hi46 => by
    by_cases e : i = k
    · subst e
      have := mt h.here.2 (by simp)
      exact ⟨by omega, fun g => this (.inr g)⟩
    · exact h.dot i (by omega) hi46, by simp [hd]⟩
theorem PI.named {p : ByteArray} {k : Nat} {d : Bool} (h : PI p k d) (hb : BareB (pk p k)) : PI p (k + 1) false :=
  ⟨fun i hi => by
    by_cases e : i = k
    · subst e; exact .inr hb
    · exact h.each i (by omega),
   fun i hi hi46 => by
    by_cases e : i = k
    · subst e; exact absurd hi46 (bare_not' hb)
    · exact h.dot i (by omega) hi46, by simp; exact bare_not' hb⟩

/-- What zzValidBarePath's answer tells. -/
def VOut (p : ByteArray) (e : Ending) : Prop := ∃ v : Bool, e = .returned (.bool v) ∧ (v = true → VP p)

set_option maxHeartbeats 1000000 in
theorem valid_any (p : ByteArray) (w : World) (hs : p.size ≤ 1073741824) :
    Calls Try.prog 19 #[.string p] w fun e w' => VOut p e ∧ w' = w := by
  by_cases h0 : p.size = 0
  · have e0 : ((p.size : Int) == 0) = true := by rw [beq_iff_eq]; omega
    clear h0
    go_enter Try.func19, Try.ntmps19
    go_wp2
    go_ret
    exact ⟨⟨false, rfl, by simp⟩, rfl⟩
  · have e0 : ((p.size : Int) == 0) = false := by rw [beq_eq_false_iff_ne]; omega
    have hpos : 0 < p.size := by omega
    clear h0
    go_enter Try.func19, Try.ntmps19
    go_wp2_with fail
    go_loop [3, 4] (fun d i => ∃ (k : Nat) (b : Bool), k ≤ p.size ∧ i = .int .i64 k ∧ d = .bool b ∧ PI p k b) (fun _ i => p.size - (intOf i).toNat)
    case atStart => exact ⟨0, true, Nat.zero_le _, rfl, rfl, PI.zero p⟩
    case round =>
      obtain ⟨k, b, hk, rfl, rfl, hpi⟩ := hrel
      have HP : Hid (PI p k b) := hpi
      clear hpi
      by_cases hlt : k < p.size
      · have hpk := pk_lt p k hlt
        by_cases h46 : pk p k = 46
        · have e46 : (((p[k].toNat : Nat) : Int) == 46) = true := by rw [hpk]; simpa using h46
          have H46 : Hid (pk p k = 46) := h46
          clear hpk h46
          cases b with
          | true =>
            go_wp2
            go_ret
            exact ⟨⟨false, rfl, by simp⟩, rfl⟩
          | false =>
            go_wp2
            go_round
            case rel => exact ⟨k + 1, true, by omega, by go_num, rfl, HP.out.dotted H46.out⟩
            case measure => simp [intOf]; omega
        · have e46 : (((p[k].toNat : Nat) : Int) == 46) = false := by rw [hpk]; simpa using h46
          by_cases hb : BareB (pk p k)
          · have HB : Hid (BareB (pk p k)) := hb
            have hd : bareD ((p[k].toNat : Nat) : Int) = true := by rw [hpk, bareD_iff]; exact hb
            clear hpk h46 hb
            go_wp2_with (go_at_call 29; refine (bare_any _ _).mono ?_; rintro e w' ⟨rfl, rfl⟩)
            go_round
            case rel => exact ⟨k + 1, false, by omega, by go_num, rfl, HP.out.named HB.out⟩
            case measure => simp [intOf]; omega
          · have hd : bareD ((p[k].toNat : Nat) : Int) = false := by
              rw [hpk, ← Bool.not_eq_true, bareD_iff]; exact hb
            clear hpk h46 hb
            go_wp2_with (go_at_call 29; refine (bare_any _ _).mono ?_; rintro e w' ⟨rfl, rfl⟩)
            go_ret
            exact ⟨⟨false, rfl, by simp⟩, rfl⟩
      · obtain rfl : k = p.size := by omega
        go_wp2
        go_ret
        refine ⟨⟨!b, rfl, ?_⟩, rfl⟩
        intro hb
        have hb' : b = false := by simpa using hb
        have hpi := HP.out
        rw [hb'] at hpi
        have hn := mt hpi.here.2 (by simp)
        exact ⟨hpos, hpi.each, hpi.dot, fun g => hn (.inr g)⟩

end Go.Proofs.Qxb6000816a

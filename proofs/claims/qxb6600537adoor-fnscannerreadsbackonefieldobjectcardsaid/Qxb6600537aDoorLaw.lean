/-
  THE WALK of the law FnScannerReadsBackOneFieldObject.
-/
import Derived.Test.Qxb6600537aDoorBuild
namespace Go.Proofs.Qxb6600537aDoor
open Go.RowKit
set_option linter.unusedVariables false

theorem bytes_ok (a b : Option Addr) (n c m d : Nat) (t : Value) (h : n + m ≤ 1048576) (w : World) : Calls Tryd.prog 14 #[.slice a n c, t, .slice b m d] w fun e w' => e = .returned (.bool true) ∧ w' = w := by
  go_enter Tryd.func14, Tryd.ntmps14
  go_wp2
  go_ret
  exact ⟨rfl, rfl⟩

theorem bytes_no (a b : Option Addr) (n c m d : Nat) (t : Value) (h : ¬ n + m ≤ 1048576) (hn : n ≤ 9223372036854775807) (hm : m ≤ 9223372036854775807) (w : World) : Calls Tryd.prog 14 #[.slice a n c, t, .slice b m d] w fun e w' => e = .returned (.bool false) ∧ w' = w := by
  by_cases h1 : n ≤ 1048576
  · by_cases h2 : m ≤ 1048576
    · have h3 : 1048576 < n + m := by omega
      go_enter Tryd.func14, Tryd.ntmps14
      go_wp2
      go_ret
      exact ⟨rfl, rfl⟩
    · have h3 : 1048576 < m := by omega
      clear h h2
      go_enter Tryd.func14, Tryd.ntmps14
      go_wp2
      go_ret
      exact ⟨rfl, rfl⟩
  · have h3 : 1048576 < n := by omega
    clear h h1
    go_enter Tryd.func14, Tryd.ntmps14
    go_wp2
    go_ret
    exact ⟨rfl, rfl⟩

/-- ZZTake, the number behind it named. -/
theorem ztake_at (g n c i P : Nat) (f : Nat → UInt8) (q : UInt8) (cv : Int) (hq : cv = (q.toNat : Int)) (hP : P = i + 1) (hi : i < n) (hn : n ≤ 1099511627776) (w : World) (hg : g < w.heap.size) (hr : RowU w g n f) (hc : f i = q) :
    Calls Tryd.prog 16 #[.slice (some ⟨g, 0, none⟩) n c, .int .i64 i, .int .u8 cv] w fun e w' => e = .returned (.tuple #[.int .i64 (P : Int), .bool true]) ∧ Below w.heap.size w w' := by
  subst hq hP hc
  exact ztake_yes g n c i _ hi hn w hg (hr i hi)

/-- ZZPlainString, the number behind it named. -/
theorem zplain_at (g n c i m P : Nat) (hP : P = i + m + 2) (f : Nat → UInt8) (hm : i + 1 + m < n) (hnc : n ≤ c) (hc2 : c ≤ 9223372036854775807) (hn : n ≤ 1099511627776) (w : World) (hr : RowU w g n f)
    (h0 : f i = 34) (h1 : f (i + 1 + m) = 34) (h2 : ∀ j, j < m → f (i + 1 + j) ≠ 34) (h3 : ∀ j, j < m → f (i + 1 + j) ≠ 92) :
    Calls Tryd.prog 17 #[.slice (some ⟨g, 0, none⟩) n c, .int .i64 i] w fun e w' => e = .returned (.tuple #[.slice (some ⟨g, i + 1, none⟩) m (c - (i + 1)), .int .i64 (P : Int), .bool true]) ∧ Below w.heap.size w w' := by
  subst hP
  exact zplain_yes g n c i m f hm hnc hc2 hn w hr h0 h1 h2 h3

/-- ZZWholeNumber, the number behind it named. -/
theorem zwhole_at (g n c i m t P : Nat) (hP : P = i + m) (f : Nat → UInt8) (hm1 : 0 < m) (hm : i + m < n) (hm20 : m ≤ 20) (hnc : n ≤ c) (hc2 : c ≤ 9223372036854775807) (hn : n ≤ 1099511627776) (w : World) (hg : g < w.heap.size) (hr : RowU w g n f)
    (h0 : ∀ j, j < m → 48 ≤ (f (i + j)).toNat ∧ (f (i + j)).toNat ≤ 57) (h1 : f (i + m) = 125) (h2 : 1 < m → f i ≠ 48) (h3 : Lib.parseUintB 64 (part f i m) = .ok t) :
    Calls Tryd.prog 11 #[.slice (some ⟨g, 0, none⟩) n c, .int .i64 i] w fun e w' => e = .returned (.tuple #[.int .u64 t, .int .i64 (P : Int), .bool true]) ∧ Below w.heap.size w w' := by
  subst hP
  exact zwhole_yes g n c i m t f hm1 hm hm20 hnc hc2 hn w hg hr h0 h1 h2 h3

theorem app_bel {B : Nat} {w w1 w2 : World} {v : Value} {n : Nat} {xs : List Value} (hown : w1.ownsRow B 5 1 v n xs) (hb : Below B w w1) (hg : w1.grownBy w2 v.ownBlock) (hB : B ≤ w1.heap.size) : Below B w w2 :=
  hb.grown hg hB (fun k hk => (hown.lt k hk).1)

set_option maxHeartbeats 4000000 in
set_option maxRecDepth 100000 in
theorem law_any (a0 a2 : Option Addr) (c0 c2 t : Nat) (kl rl : List UInt8) (hn0 : a0 = none → kl.length = 0 ∧ c0 = 0) (hn2 : a2 = none → rl.length = 0 ∧ c2 = 0) (ht : t < 18446744073709551616) (hlen : kl.length + rl.length ≤ 1048576) (w : World) (h0 : RL w a0 kl) (h2 : RL w a2 rl) :
    Calls Tryd.prog 5 #[.slice a0 kl.length c0, .int .u64 t, .slice a2 rl.length c2] w fun e w' => e = .returned (.bool true) ∧ Below w.heap.size w w' := by
  obtain ⟨i0, hi, hz0, hz1, hz2⟩ := info_parts info5
  have H0 : Hid (RL w a0 kl) := h0
  have H2 : Hid (RL w a2 rl) := h2
  have HN0 : Hid (a0 = none → kl.length = 0 ∧ c0 = 0) := hn0
  have HN2 : Hid (a2 = none → rl.length = 0 ∧ c2 = 0) := hn2
  obtain ⟨nk, hnk⟩ : ∃ nk, nk = kl.length := ⟨_, rfl⟩
  obtain ⟨nr, hnr⟩ : ∃ nr, nr = rl.length := ⟨_, rfl⟩
  rw [← hnk, ← hnr] at hlen
  rw [← hnk, ← hnr]
  have HK : Hid (nk = kl.length) := hnk
  have HR : Hid (nr = rl.length) := hnr
  clear h0 h2 hn0 hn2 hnk hnr
  go_enter Tryd.func5, Tryd.ntmps5
  go_wp2_with (first | (go_at_call 14; refine (bytes_ok a0 a2 nk c0 nr c2 _ hlen _).mono ?_; rintro e w' ⟨rfl, hw'⟩; have hw' := hw'.symm; subst hw') | (go_at_call 15; refine Hid.out ?_))
  refine Lib.hid ?_
  have hh := has_any a0 nk c0 (fun i => ((kl.getD i 0).toNat : Int)) 34 (by omega) w (by rw [HK.out]; exact H0.out)
  go_wp2_with (go_at_call 15; refine hh.mono ?_; rintro e w' ⟨⟨b1, hb1, rfl⟩, hw'⟩; have hw' := hw'.symm; subst hw'; refine Hid.out ?_)
  cases b1 with
  | true =>
    clear hb1
    refine Lib.hid ?_
    go_wp2_with fail
    go_ret
    exact ⟨rfl, Below.refl _ _⟩
  | false =>
    have HB1 : Hid (∀ i, i < nk → kl.getD i 0 ≠ 34) := fun i hi e => by
      have := hb1 rfl i hi
      rw [e] at this
      exact this rfl
    clear hb1 hh
    refine Lib.hid ?_
    have hh := has_any a0 nk c0 (fun i => ((kl.getD i 0).toNat : Int)) 92 (by omega) w (by rw [HK.out]; exact H0.out)
    go_wp2_with (go_at_call 15; refine hh.mono ?_; rintro e w' ⟨⟨b1, hb1, rfl⟩, hw'⟩; have hw' := hw'.symm; subst hw'; refine Hid.out ?_)
    cases b1 with
    | true =>
      clear hb1
      refine Lib.hid ?_
      go_wp2_with fail
      go_ret
      exact ⟨rfl, Below.refl _ _⟩
    | false =>
      have HB2 : Hid (∀ i, i < nk → kl.getD i 0 ≠ 92) := fun i hi e => by
        have := hb1 rfl i hi
        rw [e] at this
        exact this rfl
      clear hb1 hh
      refine Lib.hid ?_
      go_wp2_with (go_at_call 7; refine (clone_any a0 nk c0 (fun i => ((kl.getD i 0).toNat : Int)) (by omega) (by rw [HK.out]; exact HN0.out) w (by rw [HK.out]; exact H0.out)).mono ?_; rintro e w1 ⟨⟨a1, hn1, rfl, hr1⟩, hbel1⟩; refine Hid.out ?_)
      have hr2 : RL w1 a2 rl := H2.out.below hbel1
      have HR1 : Hid (RL w1 a1 kl) := by have := hr1; rw [HK.out] at this; exact this
      have HR2 : Hid (RL w1 a2 rl) := hr2
      have HN1 : Hid (a1 = none → nk = 0) := hn1
      have HL1 : Hid (Below w.heap.size w w1) := hbel1
      clear hr1 hr2 hn1 hbel1
      refine Lib.hid ?_
      go_wp2_with (go_at_call 7; refine (clone_any a2 nr c2 (fun i => ((rl.getD i 0).toNat : Int)) (by omega) (by rw [HR.out]; exact HN2.out) w1 (by rw [HR.out]; exact HR2.out)).mono ?_; rintro e w2 ⟨⟨a3, hn3, rfl, hr3⟩, hbel2⟩; refine Hid.out ?_)
      have HR3 : Hid (RL w2 a3 rl) := by have := hr3; rw [HR.out] at this; exact this
      have HK2 : Hid (RL w2 a1 kl) := HR1.out.below hbel2
      have HN3 : Hid (a3 = none → nr = 0) := hn3
      have HL2 : Hid (Below w.heap.size w w2) := HL1.out.trans (hbel2.mono HL1.out.size)
      clear hr3 hn3 hbel2 HR1 HR2
      refine Lib.hid ?_
      go_wp2_with (go_at_call 13; refine (utoa_any t ht w2).mono ?_; rintro e w3 ⟨⟨ds, hd, x, cap, rfl, hr4⟩, hbel3⟩; refine Hid.out ?_)
      have HD : Hid (Dec t ds) := hd
      have HK3 : Hid (RL w3 a1 kl) := HK2.out.below hbel3
      have HR4 : Hid (RL w3 a3 rl) := HR3.out.below hbel3
      have HD3 : Hid (RL w3 (some x) ds) := hr4
      have HL3 : Hid (Below w.heap.size w w3) := HL2.out.trans (hbel3.mono HL2.out.size)
      have hd20 := hd.len
      obtain ⟨nd, hnd⟩ : ∃ nd, nd = ds.length := ⟨_, rfl⟩
      rw [← hnd] at hd20
      rw [← hnd]
      have HE : Hid (nd = ds.length) := hnd
      clear hr4 hbel3 hd hnd HK2 HR3 HL1 HL2
      refine Lib.hid ?_
      go_wp2_with (at_make; refine wpList_make_own _ rfl _ _ 22 rfl w3.heap.size 5 i0 (.int .u8 0) 1 Tryd.underlying22 hi hz0 hz1 .i64 .i64 _ (nk + nd + nr + 5) rfl rfl (by omega) (by rw [hz2]; omega) (by unfold maxLen; omega) (Nat.le_refl _) ?_; intro w4 hown4 hgrow4; refine Hid.out ?_)
      have hb4 : Below w3.heap.size w3 w4 := (Below.refl _ _).grown hgrow4 (Nat.le_refl _) (fun k hk => by simp at hk)
      have hs4 := hb4.size
      clear hgrow4
      refine Lib.hid ?_
      go_wp2_with (at_builtin; refine append_row rfl (.tmp 64) (.tmp 65) rfl w3.heap.size _ [] rfl (hown4.alloc _) (some ⟨w4.heap.size, 0, none⟩) 2 [123, 34] rfl (by simp) (rl_two _ _ _ _ _ rfl rfl) (by simp) (by simp; omega) ?_; intro v5 w5 hown5 hgrow5; refine Hid.out ?_)
      have hb5 : Below w3.heap.size w3 w5 := app_bel (hown4.alloc _) (hb4.alloc hs4 _) hgrow5 (by simp; omega)
      have hs5 := hb5.size
      clear hgrow5 hown4 hb4 hs4
      refine Lib.hid ?_
      go_wp2_with (at_builtin; refine append_row rfl (.tmp 67) (.tmp 68) rfl w3.heap.size v5 ([] ++ [123, 34]) rfl hown5 a1 nk kl (by rw [← HK.out]; rfl) (by exact fun e => ⟨List.eq_nil_of_length_eq_zero (by rw [← HK.out]; exact HN1.out e), HN1.out e⟩) (by exact HK3.out.below hb5) (by have := HK.out; have := HR.out; have := HE.out; simp only [List.length_append, List.length_cons, List.length_nil]; omega) hs5 ?_; intro v6 w6 hown6 hgrow6; refine Hid.out ?_)
      have hb6 : Below w3.heap.size w3 w6 := app_bel hown5 hb5 hgrow6 hs5
      have hs6 := hb6.size
      clear hgrow6 hown5 hb5 hs5
      refine Lib.hid ?_
      go_wp2_with (at_builtin; refine append_row rfl (.tmp 70) (.tmp 71) rfl w3.heap.size v6 ([] ++ [123, 34] ++ kl) rfl (hown6.alloc _) (some ⟨w6.heap.size, 0, none⟩) 2 [34, 58] rfl (by simp) (rl_two _ _ _ _ _ rfl rfl) (by have := HK.out; have := HR.out; have := HE.out; simp only [List.length_append, List.length_cons, List.length_nil]; omega) (by simp; omega) ?_; intro v7 w7 hown7 hgrow7; refine Hid.out ?_)
      have hb7 : Below w3.heap.size w3 w7 := app_bel (hown6.alloc _) (hb6.alloc hs6 _) hgrow7 (by simp; omega)
      have hs7 := hb7.size
      clear hgrow7 hown6 hb6 hs6
      refine Lib.hid ?_
      go_wp2_with (at_builtin; refine append_row rfl (.tmp 73) (.tmp 74) rfl w3.heap.size v7 ([] ++ [123, 34] ++ kl ++ [34, 58]) rfl hown7 (some x) cap ds (by rw [← HE.out]; rfl) (by simp) (by exact HD3.out.below hb7) (by have := HK.out; have := HR.out; have := HE.out; simp only [List.length_append, List.length_cons, List.length_nil]; omega) hs7 ?_; intro v8 w8 hown8 hgrow8; refine Hid.out ?_)
      have hb8 : Below w3.heap.size w3 w8 := app_bel hown7 hb7 hgrow8 hs7
      have hs8 := hb8.size
      clear hgrow8 hown7 hb7 hs7
      refine Lib.hid ?_
      go_wp2_with (at_builtin; refine append_row rfl (.tmp 76) (.tmp 77) rfl w3.heap.size v8 ([] ++ [123, 34] ++ kl ++ [34, 58] ++ ds) rfl (hown8.alloc _) (some ⟨w8.heap.size, 0, none⟩) 1 [125] rfl (by simp) (rl_one _ _ _ rfl) (by have := HK.out; have := HR.out; have := HE.out; simp only [List.length_append, List.length_cons, List.length_nil]; omega) (by simp; omega) ?_; intro v9 w9 hown9 hgrow9; refine Hid.out ?_)
      have hb9 : Below w3.heap.size w3 w9 := app_bel (hown8.alloc _) (hb8.alloc hs8 _) hgrow9 (by simp; omega)
      have hs9 := hb9.size
      clear hgrow9 hown8 hb8 hs8
      refine Lib.hid ?_
      go_wp2_with (at_builtin; refine append_row rfl (.tmp 79) (.tmp 80) rfl w3.heap.size v9 ([] ++ [123, 34] ++ kl ++ [34, 58] ++ ds ++ [125]) rfl hown9 a3 nr rl (by rw [← HR.out]; rfl) (by exact fun e => ⟨List.eq_nil_of_length_eq_zero (by rw [← HR.out]; exact HN3.out e), HN3.out e⟩) (by exact HR4.out.below hb9) (by have := HK.out; have := HR.out; have := HE.out; simp only [List.length_append, List.length_cons, List.length_nil]; omega) hs9 ?_; intro v10 w10 hown10 hgrow10; refine Hid.out ?_)
      have hb10 : Below w3.heap.size w3 w10 := app_bel hown9 hb9 hgrow10 hs9
      have hs10 := hb10.size
      clear hgrow10 hown9 hb9 hs9
      refine Lib.hid ?_
      rw [tx_built] at hown10
      obtain ⟨g, C, rfl, hC1, hC2, hg10, hru⟩ := own_rowU hown10 (tx_ne kl ds rl)
      have HRU : Hid (RowU w10 g (tx kl ds rl).length (fun i => (tx kl ds rl).getD i 0)) := hru
      obtain ⟨N, hN⟩ : ∃ N, N = (tx kl ds rl).length := ⟨_, rfl⟩
      have hN2 : N = nk + nd + nr + 5 := by rw [hN, tx_len, ← HK.out, ← HE.out, ← HR.out]
      have HNN : Hid (N = (tx kl ds rl).length) := hN
      rw [← hN] at hC1
      rw [← hN]
      have HL10 : Hid (Below w.heap.size w w10) := HL3.out.trans (hb10.mono HL3.out.size)
      have HK10 : Hid (RL w10 a1 kl) := HK3.out.below hb10
      clear hru hN hb10 hs10 hown10 HK3 HR4 HD3 HL3
      obtain ⟨f, hf⟩ : ∃ f : Nat → UInt8, f = fun i => (tx kl ds rl).getD i 0 := ⟨_, rfl⟩
      have HU : Hid (RowU w10 g N f) := by rw [hf, HNN.out]; exact HRU.out
      have F0 : Hid (f 0 = 123) := by rw [hf]; rfl
      have F1 : Hid (f 1 = 34) := by rw [hf]; rfl
      have FK : Hid (∀ j, j < nk → f (2 + j) = kl.getD j 0) := fun j hj => by rw [hf]; exact tx_key kl ds rl j (by rw [← HK.out]; exact hj)
      have FQ : Hid (f (2 + nk) = 34) := by rw [hf, HK.out]; exact tx_q kl ds rl
      have FC : Hid (f (3 + nk) = 58) := by rw [hf, HK.out]; exact tx_colon kl ds rl
      have FD : Hid (∀ j, j < nd → f (4 + nk + j) = ds.getD j 0) := fun j hj => by rw [hf, HK.out]; exact tx_dig kl ds rl j (by rw [← HE.out]; exact hj)
      have FE : Hid (f (4 + nk + nd) = 125) := by rw [hf, HK.out, HE.out]; exact tx_end kl ds rl
      have FP : Hid (part f (4 + nk) nd = ds) := by rw [hf, HK.out, HE.out]; exact tx_part kl ds rl
      have hN3 : nk + nd + nr + 5 ≤ N := by omega
      have hN4 : N ≤ nk + nd + nr + 5 := by omega
      clear hf HRU hN2 HNN
      go_wp2_with (go_at_call 16; refine (ztake_at g N C 0 1 f 123 123 rfl rfl (by omega) (by omega) w10 hg10 (by exact HU.out) (by exact F0.out)).mono ?_; rintro e w11 ⟨rfl, hbel⟩; refine Hid.out ?_)
      have HU11 : Hid (RowU w11 g N f) := HU.out.below hbel
      have HK11 : Hid (RL w11 a1 kl) := HK10.out.below hbel
      have hg11 : g < w11.heap.size := Nat.lt_of_lt_of_le hg10 hbel.size
      have HL11 : Hid (Below w.heap.size w w11) := HL10.out.trans (hbel.mono HL10.out.size)
      clear HU HK10 hg10 hbel HL10
      refine Lib.hid ?_
      obtain ⟨P2, hP2⟩ : ∃ P2, P2 = 1 + nk + 2 := ⟨_, rfl⟩
      have e2 : ((P2 : Int) != 3 + (nk : Int)) = false := by rw [bne_eq_false_iff_eq]; omega
      have HP2 : Hid (P2 = 3 + nk) := by show _ = _; omega
      have hP2N : P2 + 2 + nd + nr ≤ N := by omega
      have HP2' : Hid (P2 = 1 + nk + 2) := hP2
      clear hP2
      go_wp2_with (go_at_call 17; refine (zplain_at g N C 1 nk P2 (by exact HP2'.out) f (by omega) hC1 hC2 (by omega) w11 (by exact HU11.out) (by exact F1.out) (by exact FQ.out) (by exact fun j hj => by rw [FK.out j hj]; exact HB1.out j hj) (by exact fun j hj => by rw [FK.out j hj]; exact HB2.out j hj)).mono ?_; rintro e w12 ⟨rfl, hbel⟩; refine Hid.out ?_)
      have HU12 : Hid (RowU w12 g N f) := HU11.out.below hbel
      have HK12 : Hid (RL w12 a1 kl) := HK11.out.below hbel
      have hg12 : g < w12.heap.size := Nat.lt_of_lt_of_le hg11 hbel.size
      have HL12 : Hid (Below w.heap.size w w12) := HL11.out.trans (hbel.mono HL11.out.size)
      clear HU11 HK11 hg11 hbel HL11
      have HT : Hid (Row w12 (some ⟨g, 2, none⟩) nk fun i => ((kl.getD i 0).toNat : Int)) := .inr ⟨_, rfl, fun j hj => by
        have e := HU12.out (2 + j) (by omega)
        rw [FK.out j hj] at e
        rw [show (⟨g, 2, none⟩ : Addr).add j = ⟨g, 2 + j, none⟩ by simp [Addr.add]]
        exact e⟩
      have HT2 : Hid (Row w12 a1 nk fun i => ((kl.getD i 0).toNat : Int)) := by rw [HK.out]; exact HK12.out
      refine Lib.hid ?_
      go_wp2_with (go_at_call 18; refine (same_any (some ⟨g, 2, none⟩) a1 nk (C - 2) nk _ (by omega) w12 (by exact HT.out) (by exact HT2.out)).mono ?_; rintro e w13 ⟨rfl, q, rfl⟩; refine Hid.out ?_)
      have HU13 : Hid (RowU (w12.drewN q) g N f) := HU12.out
      have HL13 : Hid (Below w.heap.size w (w12.drewN q)) := below_drewN HL12.out q
      have hg13 : g < (w12.drewN q).heap.size := hg12
      generalize w12.drewN q = w13 at *
      obtain ⟨P3, hP3⟩ : ∃ P3, P3 = P2 + 1 := ⟨_, rfl⟩
      have e3 : ((P3 : Int) != (P2 : Int) + 1) = false := by rw [bne_eq_false_iff_eq]; omega
      have HP3 : Hid (P3 = P2 + 1) := hP3
      have HP3' : Hid (P3 = 4 + nk) := by have := HP2.out; show _ = _; omega
      have hP3N : P3 + 1 + nd + nr ≤ N := by omega
      clear hP3 HT HT2 HU12 HL12 hg12 HK12
      refine Lib.hid ?_
      go_wp2_with (go_at_call 16; refine (ztake_at g N C P2 P3 f 58 58 rfl (by exact HP3.out) (by omega) (by omega) w13 hg13 (by exact HU13.out) (by rw [HP2.out]; exact FC.out)).mono ?_; rintro e w14 ⟨rfl, hbel⟩; refine Hid.out ?_)
      have HU14 : Hid (RowU w14 g N f) := HU13.out.below hbel
      have hg14 : g < w14.heap.size := Nat.lt_of_lt_of_le hg13 hbel.size
      have HL14 : Hid (Below w.heap.size w w14) := HL13.out.trans (hbel.mono HL13.out.size)
      obtain ⟨P4, hP4⟩ : ∃ P4, P4 = P3 + nd := ⟨_, rfl⟩
      have e4 : ((P4 : Int) != (P3 : Int) + (nd : Int)) = false := by rw [bne_eq_false_iff_eq]; omega
      have HP4 : Hid (P4 = P3 + nd) := hP4
      have HP4' : Hid (P4 = 4 + nk + nd) := by have := HP3'.out; show _ = _; omega
      have hP4N : P4 + 1 + nr ≤ N := by omega
      have hnd0 : 0 < nd := by
        have := HD.out.ne
        have e := HE.out
        rcases Nat.eq_zero_or_pos nd with h | h
        · rw [h] at e; exact absurd (List.eq_nil_of_length_eq_zero e.symm) this
        · exact h
      have HG : Hid (∀ j, j < nd → 48 ≤ (f (P3 + j)).toNat ∧ (f (P3 + j)).toNat ≤ 57) := fun j hj => by
        rw [HP3'.out, FD.out j hj]
        have hj' : j < ds.length := by rw [← HE.out]; exact hj
        rw [List.getD_eq_getElem?_getD, List.getElem?_eq_getElem hj']
        exact HD.out.each _ (List.getElem_mem hj')
      have HZ : Hid (1 < nd → f P3 ≠ 48) := fun h1 e => by
        have e1 := FD.out 0 (by omega)
        rw [Nat.add_zero, ← HP3'.out, e] at e1
        have hl := HD.out.lead
        have hE := HE.out
        cases hds : ds with
        | nil => rw [hds] at hE; simp at hE; omega
        | cons c r =>
          rw [hds] at e1 hE
          simp at e1 hE
          refine hl c r hds (fun hr => by rw [hr] at hE; simp at hE; omega) ?_
          rw [← e1]; rfl
      have HQ : Hid (Lib.parseUintB 64 (part f P3 nd) = .ok t) := by
        rw [HP3'.out, FP.out]; exact HD.out.parse ht
      clear hP4 hbel HU13 HL13 hg13 e2
      refine Lib.hid ?_
      go_wp2_with (go_at_call 11; refine (zwhole_at g N C P3 nd t P4 (by exact HP4.out) f hnd0 (by omega) hd20 hC1 hC2 (by omega) w14 hg14 (by exact HU14.out) (by exact HG.out) (by rw [← HP4.out, HP4'.out]; exact FE.out) (by exact HZ.out) (by exact HQ.out)).mono ?_; rintro e w15 ⟨rfl, hbel⟩; refine Hid.out ?_)
      have HU15 : Hid (RowU w15 g N f) := HU14.out.below hbel
      have hg15 : g < w15.heap.size := Nat.lt_of_lt_of_le hg14 hbel.size
      have HL15 : Hid (Below w.heap.size w w15) := HL14.out.trans (hbel.mono HL14.out.size)
      obtain ⟨P5, hP5⟩ : ∃ P5, P5 = P4 + 1 := ⟨_, rfl⟩
      have HP5 : Hid (P5 = P4 + 1) := hP5
      have e5 : ((P5 : Int) == (N : Int) - (nr : Int)) = true := by
        rw [beq_iff_eq]
        have := HP4'.out
        omega
      clear hP5 hbel HU14 HL14 hg14 e3
      refine Lib.hid ?_
      go_wp2_with (go_at_call 16; refine (ztake_at g N C P4 P5 f 125 125 rfl (by exact HP5.out) (by omega) (by omega) w15 hg15 (by exact HU15.out) (by rw [HP4'.out]; exact FE.out)).mono ?_; rintro e w16 ⟨rfl, hbel⟩)
      go_ret
      exact ⟨rfl, HL15.out.trans (hbel.mono HL15.out.size)⟩

set_option maxRecDepth 100000 in
theorem law_no (a0 a2 : Option Addr) (n0 c0 n2 c2 : Nat) (t : Int) (h : ¬ n0 + n2 ≤ 1048576) (h0 : n0 ≤ 9223372036854775807) (h2 : n2 ≤ 9223372036854775807) (w : World) :
    Calls Tryd.prog 5 #[.slice a0 n0 c0, .int .u64 t, .slice a2 n2 c2] w fun e w' => e = .returned (.bool true) ∧ Below w.heap.size w w' := by
  have hno := bytes_no a0 a2 n0 c0 n2 c2 (.int .u64 t) h h0 h2 w
  clear h h0 h2
  go_enter Tryd.func5, Tryd.ntmps5
  go_wp2_with (go_at_call 14; refine hno.mono ?_; rintro e w' ⟨rfl, hw'⟩; have hw' := hw'.symm; subst hw')
  go_ret
  exact ⟨rfl, Below.refl _ _⟩
end Go.Proofs.Qxb6600537aDoor

/-
  THE PLAIN LAW of the second statement: over 'a.b.c . "<escaped c>" = tail' key ends at the '='. No Go in sight.
-/
import Derived.Test.Qxb6000816aPlain
namespace Go.Proofs.Qxb6000816a

theorem pk_split {t : ByteArray} {a b : List UInt8} {x : UInt8} (h : t.data.toList = a ++ x :: b) : pk t a.length = (x.toNat : Int) := by
  unfold pk
  rw [h, List.getD_eq_getElem?_getD, List.getElem?_append_right (Nat.le_refl _)]
  simp

theorem size_split {t : ByteArray} {a : List UInt8} (h : t.data.toList = a) : t.size = a.length := by
  rw [← h]; simp

/-- How many line ends a list of bytes bears. -/
def nls (l : List UInt8) : Int := ((l.filter (fun c => c == 10)).length : Int)

theorem nls_append (a b : List UInt8) : nls (a ++ b) = nls a + nls b := by
  unfold nls; rw [List.filter_append, List.length_append]; omega

theorem cnt_split {t : ByteArray} {a b : List UInt8} (h : t.data.toList = a ++ b) : cnt t a.length = nls a := by
  unfold cnt nls
  rw [h, List.take_left]

theorem cnt_all (t : ByteArray) : cnt t t.size = nls t.data.toList := by
  unfold cnt nls
  rw [List.take_of_length_le (by simp)]

/-- A byte of a bare name. -/
def BareB (c : Int) : Prop := (97 ≤ c ∧ c ≤ 122) ∨ (65 ≤ c ∧ c ≤ 90) ∨ (48 ≤ c ∧ c ≤ 57) ∨ c = 95 ∨ c = 45

/-- A path of bare names parted by single dots. -/
structure VP (p : ByteArray) : Prop where
  pos : 0 < p.size
  each : ∀ i, i < p.size → pk p i = 46 ∨ BareB (pk p i)
  dot : ∀ i, i < p.size → pk p i = 46 → 0 < i ∧ pk p (i - 1) ≠ 46
  last : pk p (p.size - 1) ≠ 46

/-- A byte behind its backslash, where it wants one. -/
def esc1 (x : UInt8) : List UInt8 := if x = 34 ∨ x = 92 then [92, x] else [x]

/-- The escaped text. -/
def escL : List UInt8 → List UInt8
  | [] => []
  | x :: l => esc1 x ++ escL l

theorem escL_append (a b : List UInt8) : escL (a ++ b) = escL a ++ escL b := by
  induction a with
  | nil => rfl
  | cons x a ih => simp [escL, ih]

theorem nls_esc1 (x : UInt8) : nls (esc1 x) = nls [x] := by
  unfold esc1
  by_cases h : x = 34 ∨ x = 92
  · rw [if_pos h]
    rcases h with rfl | rfl <;> rfl
  · rw [if_neg h]

theorem nls_escL (l : List UInt8) : nls (escL l) = nls l := by
  induction l with
  | nil => rfl
  | cons x l ih =>
    show nls (esc1 x ++ escL l) = nls ([x] ++ l)
    rw [nls_append, nls_append, ih, nls_esc1]

/-- The text that the law builds, told by its bytes. -/
structure Txt (t path c tail : ByteArray) : Prop where
  list : t.data.toList = path.data.toList ++ ([32, 46, 32] ++ ([34] ++ (escL c.data.toList ++ ([34] ++ ([32, 61, 32] ++ tail.data.toList)))))

namespace Txt
variable {t path c tail : ByteArray}

theorem path_at (h : Txt t path c tail) {i : Nat} (hi : i < path.size) : pk t i = pk path i := by
  unfold pk
  rw [h.list, List.getD_eq_getElem?_getD, List.getElem?_append_left (by simpa using hi), ← List.getD_eq_getElem?_getD]

theorem plen (path : ByteArray) : path.data.toList.length = path.size := by simp

theorem at0 (h : Txt t path c tail) : pk t path.size = 32 := by
  have := pk_split (a := path.data.toList) h.list
  rw [plen] at this; exact this

theorem at1 (h : Txt t path c tail) : pk t (path.size + 1) = 46 := by
  have := pk_split (t := t) (a := path.data.toList ++ [32]) (x := 46) (by rw [h.list]; simp; rfl)
  rw [List.length_append, plen] at this; exact this

theorem at2 (h : Txt t path c tail) : pk t (path.size + 2) = 32 := by
  have := pk_split (t := t) (a := path.data.toList ++ [32, 46]) (x := 32) (by rw [h.list]; simp; rfl)
  rw [List.length_append, plen] at this; exact this

theorem at3 (h : Txt t path c tail) : pk t (path.size + 3) = 34 := by
  have := pk_split (t := t) (a := path.data.toList ++ [32, 46, 32]) (x := 34) (by rw [h.list]; simp; rfl)
  rw [List.length_append, plen] at this; exact this

/-- The place of the m-th byte of c. -/
def place (path c : ByteArray) (m : Nat) : Nat := path.size + 4 + (escL (c.data.toList.take m)).length

theorem place_zero : place path c 0 = path.size + 4 := by simp [place, escL]

/-- The text, parted at the m-th byte of c. -/
theorem part (h : Txt t path c tail) (m : Nat) : t.data.toList = (path.data.toList ++ [32, 46, 32, 34] ++ escL (c.data.toList.take m)) ++ (escL (c.data.toList.drop m) ++ ([34] ++ ([32, 61, 32] ++ tail.data.toList))) := by
  rw [h.list]
  conv => lhs; rw [← List.take_append_drop m c.data.toList, escL_append]
  simp

theorem part_len (path c : ByteArray) (m : Nat) : (path.data.toList ++ [32, 46, 32, 34] ++ escL (c.data.toList.take m)).length = place path c m := by
  simp [place]
  omega

theorem byte (h : Txt t path c tail) {m : Nat} (hm : m < c.size) : (pk t (place path c m) = 92 ∧ place path c (m + 1) = place path c m + 2) ∨ (pk t (place path c m) ≠ 92 ∧ pk t (place path c m) ≠ 34 ∧ place path c (m + 1) = place path c m + 1) := by
  have hm' : m < c.data.toList.length := by simpa using hm
  have hd : c.data.toList.drop m = c.data.toList[m] :: c.data.toList.drop (m + 1) := List.drop_eq_getElem_cons hm'
  have hp := h.part m
  have ht : c.data.toList.take (m + 1) = c.data.toList.take m ++ [c.data.toList[m]] := List.take_succ_eq_append_getElem hm'
  have hl : place path c (m + 1) = place path c m + (esc1 c.data.toList[m]).length := by
    unfold place
    rw [ht, escL_append]
    simp [escL]
    omega
  rw [hd] at hp
  generalize hx : c.data.toList[m] = x at *
  by_cases he : x = 34 ∨ x = 92
  · left
    have e1 : esc1 x = [92, x] := if_pos he
    rw [e1] at hl
    refine ⟨?_, hl⟩
    have := pk_split (t := t) (x := 92) (a := path.data.toList ++ [32, 46, 32, 34] ++ escL (c.data.toList.take m)) (b := x :: escL (c.data.toList.drop (m + 1)) ++ ([34] ++ ([32, 61, 32] ++ tail.data.toList))) (by rw [hp, escL, e1]; simp)
    rw [part_len] at this
    exact this
  · right
    have e1 : esc1 x = [x] := if_neg he
    rw [e1] at hl
    have := pk_split (t := t) (x := x) (a := path.data.toList ++ [32, 46, 32, 34] ++ escL (c.data.toList.take m)) (b := escL (c.data.toList.drop (m + 1)) ++ ([34] ++ ([32, 61, 32] ++ tail.data.toList))) (by rw [hp, escL, e1]; simp)
    rw [part_len] at this
    refine ⟨?_, ?_, hl⟩
    · rw [this]; intro g; apply he; right; apply UInt8.toNat_inj.1; simpa using Int.ofNat_inj.1 g
    · rw [this]; intro g; apply he; left; apply UInt8.toNat_inj.1; simpa using Int.ofNat_inj.1 g

theorem fin (h : Txt t path c tail) : pk t (place path c c.size) = 34 ∧ pk t (place path c c.size + 1) = 32 ∧ pk t (place path c c.size + 2) = 61 := by
  have hp := h.part c.size
  have hd : c.data.toList.drop c.size = [] := List.drop_eq_nil_of_le (by simp)
  rw [hd] at hp
  have hl := part_len path c c.size
  refine ⟨?_, ?_, ?_⟩
  · have := pk_split (t := t) (x := 34) (a := path.data.toList ++ [32, 46, 32, 34] ++ escL (c.data.toList.take c.size)) (by rw [hp]; simp [escL]; rfl)
    rw [hl] at this; exact this
  · have := pk_split (t := t) (x := 32) (a := path.data.toList ++ [32, 46, 32, 34] ++ escL (c.data.toList.take c.size) ++ [34]) (by rw [hp]; simp [escL]; rfl)
    rw [List.length_append, hl] at this; exact this
  · have := pk_split (t := t) (x := 61) (a := path.data.toList ++ [32, 46, 32, 34] ++ escL (c.data.toList.take c.size) ++ [34, 32]) (by rw [hp]; simp [escL]; rfl)
    rw [List.length_append, hl] at this; exact this

theorem big (h : Txt t path c tail) : place path c c.size + 2 < t.size := pk_in t _ (by rw [h.fin.2.2]; decide)

/-- The count of line ends up to the '='. -/
theorem lines (h : Txt t path c tail) (hv : VP path) : cnt t (place path c c.size + 2) = cnt c c.size := by
  have hp := h.part c.size
  have hd : c.data.toList.drop c.size = [] := List.drop_eq_nil_of_le (by simp)
  have ht : c.data.toList.take c.size = c.data.toList := List.take_of_length_le (by simp)
  have hl := part_len path c c.size
  have := cnt_split (t := t) (a := path.data.toList ++ [32, 46, 32, 34] ++ escL (c.data.toList.take c.size) ++ [34, 32]) (b := [61, 32] ++ tail.data.toList) (by rw [hp, hd]; simp [escL])
  rw [List.length_append, hl] at this
  rw [show place path c c.size + 2 = place path c c.size + [(34 : UInt8), 32].length from rfl, this, cnt_all, ht]
  rw [nls_append, nls_append, nls_append, nls_escL]
  have e0 : nls path.data.toList = 0 := by
    unfold nls
    rw [List.filter_eq_nil_iff.2 ?_]
    · rfl
    · intro x hx
      obtain ⟨i, hi, rfl⟩ := List.getElem_of_mem hx
      have hi' : i < path.size := by simpa using hi
      have hb := hv.each i hi'
      have hpk : pk path i = ((path.data.toList[i]).toNat : Int) := by
        unfold pk
        rw [List.getD_eq_getElem?_getD, List.getElem?_eq_getElem hi]
        rfl
      intro e
      have e' : path.data.toList[i] = 10 := eq_of_beq e
      rw [hpk, e'] at hb
      unfold BareB at hb
      simp at hb
  rw [e0]
  show 0 + 0 + nls c.data.toList + 0 = _
  omega

theorem skip_none {t : ByteArray} {p q : Nat} (h : Skip t p q) (h1 : ¬ Blk (pk t p)) (h2 : pk t p ≠ 35) : q = p := by
  have hle := h.le
  by_cases e : q = p
  · exact e
  · exact absurd (h.pre p (Nat.le_refl _) (by omega) (fun m g1 g2 => by
      have em : m = p := by omega
      rw [em]; exact h2)) h1

theorem skip_one {t : ByteArray} {p q : Nat} (h : Skip t p q) (hp : p + 1 < t.size) (h0 : pk t p = 32) (h1 : ¬ Blk (pk t (p + 1))) (h2 : pk t (p + 1) ≠ 35) : q = p + 1 := by
  have hle := h.le
  have hb : Blk (pk t p) := .inr (.inl h0)
  by_cases e0 : q = p
  · subst e0; exact absurd hb (h.stop (by omega)).1
  · by_cases e : q = p + 1
    · exact e
    · exact absurd (h.pre (p + 1) (by omega) (by omega) (fun m g1 g2 => by
        by_cases em : m = p
        · rw [em, h0]; decide
        · have em2 : m = p + 1 := by omega
          rw [em2]; exact h2)) h1

theorem bare_not {x : Int} (h : BareB x) : ¬ Blk x ∧ x ≠ 35 ∧ x ≠ 34 ∧ x ≠ 39 ∧ ¬ Cut6 x ∧ x ≠ 46 := by
  unfold BareB at h; unfold Blk Cut6; omega

/-- What key's heads are over this text. -/
def Hd (t path : ByteArray) (p : Nat) : Prop := (p < path.size ∧ BareB (pk t p)) ∨ p = path.size + 2

theorem step_bare (h : Txt t path c tail) (hv : VP path) {p q : Nat} (hp : p < path.size) (hb : BareB (pk t p)) (hs : KStep t p q) : pk t q = 46 ∧ Hd t path (q + 1) := by
  obtain ⟨p1, p2, s1, tk, s2⟩ := hs
  have nb := bare_not hb
  obtain rfl : p1 = p := skip_none s1 nb.1 nb.2.1
  have hbig := h.big
  have hpl : path.size + 4 ≤ place path c c.size := by unfold place; omega
  rcases tk with ⟨g, _⟩ | ⟨_, br⟩
  · omega
  · have hle : p2 ≤ path.size := by
      apply Classical.byContradiction
      intro g
      exact br.pass path.size (by omega) (by omega) (by rw [h.at0]; unfold Cut6; omega)
    have hcut := br.stop (by omega)
    have hne : p2 ≠ p1 := fun e => nb.2.2.2.2.1 (e ▸ hcut)
    have := br.le
    by_cases e : p2 = path.size
    · subst e
      have hq : q = path.size + 1 := skip_one s2 (by omega) h.at0 (by rw [h.at1]; unfold Blk; omega) (by rw [h.at1]; decide)
      subst hq
      exact ⟨h.at1, .inr rfl⟩
    · have hlt : p2 < path.size := by omega
      have hd : pk t p2 = 46 := by
        have := hv.each p2 hlt
        rw [← h.path_at hlt] at this
        rcases this with g | g
        · exact g
        · exact absurd hcut (bare_not g).2.2.2.2.1
      have hq : q = p2 := skip_none s2 (by rw [hd]; unfold Blk; omega) (by rw [hd]; decide)
      subst hq
      refine ⟨hd, .inl ?_⟩
      have hdp : pk path q = 46 := by rw [← h.path_at hlt]; exact hd
      have hnl : q ≠ path.size - 1 := fun e => hv.last (e ▸ hdp)
      have hlt2 : q + 1 < path.size := by omega
      refine ⟨hlt2, ?_⟩
      rcases hv.each (q + 1) hlt2 with g | g
      · exact absurd hdp (by simpa using (hv.dot (q + 1) hlt2 g).2)
      · rw [h.path_at hlt2]; exact g

theorem step_quoted (h : Txt t path c tail) {q : Nat} (hs : KStep t (path.size + 2) q) : q = place path c c.size + 2 := by
  obtain ⟨p1, p2, s1, tk, s2⟩ := hs
  have hbig := h.big
  have hpl : path.size + 4 ≤ place path c c.size := by unfold place; omega
  have hp1 : p1 = path.size + 3 := skip_one s1 (by omega) h.at2 (by rw [h.at3]; unfold Blk; omega) (by rw [h.at3]; decide)
  subst hp1
  have h34 := h.at3
  rcases tk with ⟨_, qd⟩ | ⟨g, _⟩
  · have h3 : ¬ At t (path.size + 3) (pk t (path.size + 3)) 3 := by
      rw [h34]
      intro g
      have g1 := g 1 (by omega)
      have g2 := g 2 (by omega)
      by_cases hc : c.size = 0
      · have hf := h.fin.2.1
        rw [hc, place_zero] at hf
        rw [show path.size + 3 + 2 = path.size + 4 + 1 by omega, hf] at g2
        omega
      · have hb := h.byte (m := 0) (by omega)
        rw [place_zero] at hb
        rw [show path.size + 3 + 1 = path.size + 4 by omega] at g1
        omega
    obtain ⟨j, hr, rfl⟩ := qd.one h3
    rw [h34] at hr
    have hI := hr.inv (fun k => ∃ m, m ≤ c.size ∧ k = place path c m) ⟨0, by omega, by rw [place_zero]⟩ (by
      rintro k ⟨m, hm, rfl⟩ ⟨g1, g2⟩
      have hm' : m < c.size := by
        apply Classical.byContradiction
        intro hn
        obtain rfl : m = c.size := by omega
        exact g2 (At.one.2 h.fin.1)
      refine ⟨m + 1, by omega, ?_⟩
      rcases h.byte hm' with ⟨b1, b2⟩ | ⟨b1, b2, b3⟩
      · rw [qstep, if_pos ⟨rfl, b1⟩, b2]
      · rw [qstep, if_neg (fun e => b1 e.2), b3])
    obtain ⟨⟨m, hm, rfl⟩, hstop⟩ := hI
    have hmc : m = c.size := by
      apply Classical.byContradiction
      intro hn
      have hm' : m < c.size := by omega
      apply hstop
      rcases h.byte hm' with ⟨b1, b2⟩ | ⟨b1, b2, b3⟩
      · exact ⟨pk_in t _ (by rw [b1]; decide), fun g => by have := At.one.1 g; omega⟩
      · refine ⟨?_, fun g => b2 (At.one.1 g)⟩
        have : place path c m ≤ place path c c.size := by
          unfold place
          have e : c.data.toList.take c.size = c.data.toList.take m ++ (c.data.toList.take c.size).drop m := by
            conv => lhs; rw [← List.take_append_drop m (c.data.toList.take c.size)]
            rw [List.take_take, Nat.min_eq_left hm]
          rw [e, escL_append, List.length_append]
          omega
        omega
    subst hmc
    have hq := skip_one s2 (by omega) h.fin.2.1 (by rw [show place path c c.size + 1 + 1 = place path c c.size + 2 from rfl, h.fin.2.2]; unfold Blk; omega) (by rw [show place path c c.size + 1 + 1 = place path c c.size + 2 from rfl, h.fin.2.2]; decide)
    exact hq
  · omega

theorem keyed (h : Txt t path c tail) (hv : VP path) {j : Nat} (hk : Keyed t 0 j) : j = place path c c.size + 2 := by
  obtain ⟨p, hd, hs, hne⟩ := hk
  have hp : Hd t path p := hd (Hd t path) (by
    left
    refine ⟨hv.pos, ?_⟩
    rw [h.path_at hv.pos]
    rcases hv.each 0 hv.pos with g | g
    · exact absurd (hv.dot 0 hv.pos g).1 (by omega)
    · exact g) (by
    rintro a q (⟨ha, hb⟩ | rfl) hq h46
    · exact (h.step_bare hv ha hb hq).2
    · have := h.step_quoted hq
      rw [this, h.fin.2.2] at h46
      omega)
  rcases hp with ⟨ha, hb⟩ | rfl
  · exact absurd (h.step_bare hv ha hb hs).1 hne
  · exact h.step_quoted hs

theorem enc_size (path c enc : ByteArray) (he : enc.data.toList = 34 :: (escL c.data.toList ++ [34])) : place path c c.size + 2 = path.size + 3 + enc.size + 1 := by
  have := size_split he
  have ht : c.data.toList.take c.size = c.data.toList := List.take_of_length_le (by simp)
  unfold place
  rw [this, ht]
  simp
  omega
end Txt
end Go.Proofs.Qxb6000816a

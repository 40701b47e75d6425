/-
  THE PLAIN PART (no Go in sight): the byte at a place, the count of line ends, what skipping, quoting and reading a key come to.
-/
namespace Go.Proofs.Qxb6000816a

/-- The byte at place k as a number; 0 behind the end. -/
def pk (t : ByteArray) (k : Nat) : Int := ((t.data.toList.getD k 0).toNat : Int)

theorem pk_lt (t : ByteArray) (k : Nat) (h : k < t.size) : ((t[k].toNat : Nat) : Int) = pk t k := by
  unfold pk
  rw [List.getD_eq_getElem?_getD, List.getElem?_eq_getElem (by simpa using h)]
  rfl

theorem pk_ge (t : ByteArray) (k : Nat) (h : t.size ≤ k) : pk t k = 0 := by
  unfold pk
  rw [List.getD_eq_getElem?_getD, List.getElem?_eq_none (by simpa using h)]
  rfl

theorem pk_bd (t : ByteArray) (k : Nat) : 0 ≤ pk t k ∧ pk t k ≤ 255 := by
  unfold pk
  have := (t.data.toList.getD k 0).toNat_lt
  omega

theorem pk_in (t : ByteArray) (k : Nat) (h : pk t k ≠ 0) : k < t.size := by
  by_cases g : k < t.size
  · exact g
  · exact absurd (pk_ge t k (by omega)) h

/-- How many line ends lie among the first k bytes. -/
def cnt (t : ByteArray) (k : Nat) : Int := (((t.data.toList.take k).filter (fun c => c == 10)).length : Int)

theorem cnt_zero (t : ByteArray) : cnt t 0 = 0 := rfl

theorem cnt_yes (t : ByteArray) (k : Nat) (h : pk t k = 10) : cnt t (k + 1) = cnt t k + 1 := by
  have hk : k < t.data.toList.length := by simpa using pk_in t k (by omega)
  unfold cnt
  rw [List.take_succ_eq_append_getElem hk, List.filter_append]
  have e : t.data.toList[k] = 10 := by
    unfold pk at h
    rw [List.getD_eq_getElem?_getD, List.getElem?_eq_getElem hk] at h
    apply UInt8.toNat_inj.1
    simp at h ⊢
    omega
  rw [e]
  simp

theorem cnt_no (t : ByteArray) (k : Nat) (h : pk t k ≠ 10) : cnt t (k + 1) = cnt t k := by
  unfold cnt
  by_cases hk : k < t.data.toList.length
  · rw [List.take_succ_eq_append_getElem hk, List.filter_append]
    have e : (t.data.toList[k] == 10) = false := by
      rw [beq_eq_false_iff_ne]
      intro e
      apply h
      unfold pk
      rw [List.getD_eq_getElem?_getD, List.getElem?_eq_getElem hk]
      simp [e]
    rw [List.filter_cons, e]
    simp
  · rw [List.take_of_length_le (by omega), List.take_of_length_le (by omega)]

theorem cnt_bd (t : ByteArray) (k : Nat) : 0 ≤ cnt t k ∧ cnt t k ≤ t.size := by
  unfold cnt
  have h1 := List.length_filter_le (fun c : UInt8 => c == 10) (t.data.toList.take k)
  have h2 : (t.data.toList.take k).length ≤ t.data.toList.length := by simp; omega
  have h3 : t.data.toList.length = t.size := by simp
  omega

theorem cnt_past (t : ByteArray) (k : Nat) (h : t.size ≤ k) : cnt t k = cnt t t.size := by
  unfold cnt
  rw [List.take_of_length_le (by simpa using h), List.take_of_length_le (by simp)]

/-- A blank that skipSpace passes one by one. -/
def Blk (c : Int) : Prop := c = 10 ∨ c = 32 ∨ c = 9 ∨ c = 13

/-- From i up to j all that is passed ahead of the first comment mark is blank. -/
def Pre (t : ByteArray) (i j : Nat) : Prop := ∀ k, i ≤ k → k < j → (∀ m, i ≤ m → m ≤ k → pk t m ≠ 35) → Blk (pk t k)

theorem Pre.refl (t : ByteArray) (i : Nat) : Pre t i i := fun k h1 h2 => by omega

theorem Pre.blank {t : ByteArray} {i j : Nat} (h : Pre t i j) (hb : Blk (pk t j)) : Pre t i (j + 1) := fun k h1 h2 h3 => by
  by_cases e : k = j
  · subst e; exact hb
  · exact h k h1 (by omega) h3

theorem Pre.hash {t : ByteArray} {i j m : Nat} (h : Pre t i j) (h1 : i ≤ m) (h2 : m ≤ j) (h3 : pk t m = 35) : Pre t i (j + 1) := fun k g1 g2 g3 => by
  by_cases e : k = j
  · subst e; exact absurd h3 (g3 m h1 h2)
  · exact h k g1 (by omega) g3

/-- What skipSpace comes to from place i: it stops at j. -/
structure Skip (t : ByteArray) (i j : Nat) : Prop where
  le : i ≤ j
  top : j ≤ t.size ∨ j = i
  pre : Pre t i j
  stop : j < t.size → ¬ Blk (pk t j) ∧ pk t j ≠ 35

/-- m bytes q stand at place j. -/
def At (t : ByteArray) (j : Nat) (q : Int) (m : Nat) : Prop := ∀ r, r < m → pk t (j + r) = q

theorem At.one {t : ByteArray} {j : Nat} {q : Int} : At t j q 1 ↔ pk t j = q :=
  ⟨fun h => by simpa using h 0 (by omega), fun h r hr => by obtain rfl : r = 0 := by omega
                                                            simpa using h⟩

/-- f, n times. -/
def iter (f : Nat → Nat) : Nat → Nat → Nat
  | 0, x => x
  | n + 1, x => f (iter f n x)

/-- One step of quoted's loop. -/
def qstep (t : ByteArray) (q : Int) (k : Nat) : Nat := if q = 34 ∧ pk t k = 92 then k + 2 else k + 1

/-- quoted's loop goes on at place k. -/
def qgo (t : ByteArray) (q : Int) (m k : Nat) : Prop := k < t.size ∧ ¬ At t k q m

/-- From place i the steps lead to j, where the loop ends. -/
def Reach (t : ByteArray) (q : Int) (m i j : Nat) : Prop := ∃ n, j = iter (qstep t q) n i ∧ (∀ r, r < n → qgo t q m (iter (qstep t q) r i)) ∧ ¬ qgo t q m j

theorem Reach.inv {t : ByteArray} {q : Int} {m i j : Nat} (h : Reach t q m i j) (I : Nat → Prop) (h0 : I i) (hs : ∀ k, I k → qgo t q m k → I (qstep t q k)) : I j ∧ ¬ qgo t q m j := by
  obtain ⟨n, rfl, hgo, hstop⟩ := h
  refine ⟨?_, hstop⟩
  clear hstop
  induction n with
  | zero => exact h0
  | succ n ih => exact hs _ (ih fun r hr => hgo r (by omega)) (hgo n (by omega))

/-- From place i the steps have led to j. -/
def Steps (t : ByteArray) (q : Int) (m i j : Nat) : Prop := ∃ n, j = iter (qstep t q) n i ∧ ∀ r, r < n → qgo t q m (iter (qstep t q) r i)

theorem Steps.refl {t : ByteArray} {q : Int} {m i : Nat} : Steps t q m i i := ⟨0, rfl, fun r hr => by omega⟩

theorem Steps.next {t : ByteArray} {q : Int} {m i j : Nat} (h : Steps t q m i j) (hg : qgo t q m j) : Steps t q m i (qstep t q j) := by
  obtain ⟨n, rfl, hr⟩ := h
  refine ⟨n + 1, rfl, fun r hrn => ?_⟩
  by_cases e : r = n
  · subst e; exact hg
  · exact hr r (by omega)

theorem Steps.reach {t : ByteArray} {q : Int} {m i j : Nat} (h : Steps t q m i j) (hg : ¬ qgo t q m j) : Reach t q m i j := by
  obtain ⟨n, e, hr⟩ := h
  exact ⟨n, e, hr, hg⟩

theorem at_le {t : ByteArray} {j : Nat} {q : Int} {m : Nat} (hq : q ≠ 0) (hm : 0 < m) (h : At t j q m) : j + m ≤ t.size := by
  have := pk_in t (j + (m - 1)) (by rw [h (m - 1) (by omega)]; exact hq)
  omega

/-- What quoted comes to from a quote at place k: it ends at e. -/
structure Quoted (t : ByteArray) (k e : Nat) : Prop where
  le : k + 2 ≤ e
  top : e ≤ t.size + 4
  one : ¬ At t k (pk t k) 3 → ∃ j, Reach t (pk t k) 1 (k + 1) j ∧ e = j + 1

theorem cnt_at {t : ByteArray} {j : Nat} {q : Int} {m : Nat} (hq : q ≠ 10) (h : At t j q m) : cnt t (j + m) = cnt t j := by
  induction m with
  | zero => rfl
  | succ m ih =>
    have h1 := ih (fun r hr => h r (by omega))
    have h2 : pk t (j + m) ≠ 10 := by rw [h m (by omega)]; exact hq
    rw [← Nat.add_assoc, cnt_no t (j + m) h2, h1]

theorem cnt_end {t : ByteArray} {j m : Nat} (h : t.size ≤ j) : cnt t (j + m) = cnt t j := by
  rw [cnt_past t j h, cnt_past t (j + m) (by omega)]

/-- The line ends passed by one step. -/
theorem cnt_step {t : ByteArray} {q : Int} {k : Nat} : cnt t (qstep t q k) = (if q = 34 ∧ pk t k = 92 then (if pk t (k + 1) = 10 then cnt t k + 1 else cnt t k) else (if pk t k = 10 then cnt t k + 1 else cnt t k)) := by
  unfold qstep
  by_cases h : q = 34 ∧ pk t k = 92
  · rw [if_pos h, if_pos h]
    have e1 : cnt t (k + 1) = cnt t k := cnt_no t k (by omega)
    by_cases g : pk t (k + 1) = 10
    · rw [if_pos g, show k + 2 = (k + 1) + 1 from rfl, cnt_yes t (k + 1) g, e1]
    · rw [if_neg g, show k + 2 = (k + 1) + 1 from rfl, cnt_no t (k + 1) g, e1]
  · rw [if_neg h, if_neg h]
    by_cases g : pk t k = 10
    · rw [if_pos g, cnt_yes t k g]
    · rw [if_neg g, cnt_no t k g]

/-- A byte at which a bare name ends: blank, '.' or '='. -/
def Cut6 (r : Int) : Prop := r = 32 ∨ r = 9 ∨ r = 13 ∨ r = 10 ∨ r = 46 ∨ r = 61

/-- What a bare name from place i comes to: it ends at j. -/
structure Bare (t : ByteArray) (i j : Nat) : Prop where
  le : i ≤ j
  top : j ≤ t.size ∨ j = i
  pass : ∀ k, i ≤ k → k < j → ¬ Cut6 (pk t k)
  stop : j < t.size → Cut6 (pk t j)

/-- One name, quoted or bare. -/
def Tok (t : ByteArray) (i j : Nat) : Prop := ((pk t i = 34 ∨ pk t i = 39) ∧ Quoted t i j) ∨ ((pk t i ≠ 34 ∧ pk t i ≠ 39) ∧ Bare t i j)

/-- One round of key: from the round's head p to q, behind the name and the blanks after it. -/
def KStep (t : ByteArray) (p q : Nat) : Prop := ∃ p1 p2, Skip t p p1 ∧ Tok t p1 p2 ∧ Skip t p2 q

/-- The heads of key's rounds, from k on. -/
def Head (t : ByteArray) (k p : Nat) : Prop := ∀ I : Nat → Prop, I k → (∀ a q, I a → KStep t a q → pk t q = 46 → I (q + 1)) → I p

theorem Head.refl {t : ByteArray} {k : Nat} : Head t k k := fun _ h _ => h

theorem Head.next {t : ByteArray} {k p q : Nat} (h : Head t k p) (hs : KStep t p q) (hq : pk t q = 46) : Head t k (q + 1) := fun I h0 hc => hc p q (h I h0 hc) hs hq

/-- What key comes to from place k: it ends at j. -/
def Keyed (t : ByteArray) (k j : Nat) : Prop := ∃ p, Head t k p ∧ KStep t p j ∧ pk t j ≠ 46

theorem pre_at (t : ByteArray) (j : Nat) (qb : UInt8) (hq : qb.toNat ≠ 0) (m : Nat) : ((List.replicate m qb).isPrefixOf (t.data.toList.drop j)) = true ↔ At t j qb.toNat m := by
  induction m generalizing j with
  | zero => simp [At]
  | succ m ih =>
    by_cases hj : j < t.size
    · have hd : t.data.toList.drop j = t.data.toList[j]'(by simpa using hj) :: t.data.toList.drop (j + 1) := List.drop_eq_getElem_cons _
      have hpk : pk t j = ((t.data.toList[j]'(by simpa using hj)).toNat : Int) := by
        unfold pk
        rw [List.getD_eq_getElem?_getD, List.getElem?_eq_getElem (by simpa using hj)]
        rfl
      rw [hd, List.replicate_succ, List.isPrefixOf_cons_cons, Bool.and_eq_true, ih (j + 1)]
      constructor
      · rintro ⟨h1, h2⟩ r hr
        cases r with
        | zero =>
          have := eq_of_beq h1
          rw [Nat.add_zero, hpk, ← this]
        | succ r => rw [show j + (r + 1) = j + 1 + r by omega]; exact h2 r (by omega)
      · intro h
        refine ⟨?_, fun r hr => by rw [show j + 1 + r = j + (r + 1) by omega]; exact h (r + 1) (by omega)⟩
        have := h 0 (by omega)
        rw [Nat.add_zero, hpk] at this
        rw [beq_iff_eq]
        apply UInt8.toNat_inj.1
        omega
    · have hd : t.data.toList.drop j = [] := List.drop_eq_nil_of_le (by simpa using hj)
      rw [hd]
      constructor
      · intro h; simp [List.replicate_succ] at h
      · intro h
        have := h 0 (by omega)
        rw [Nat.add_zero, pk_ge t j (by omega)] at this
        omega

end Go.Proofs.Qxb6000816a

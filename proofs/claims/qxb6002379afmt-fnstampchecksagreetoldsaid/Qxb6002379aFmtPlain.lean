/-
  THE PLAIN PART (no Go in sight): bytes of a string, valid names, decimal digits and their value.
-/
namespace Go.Proofs.Qxb6002379aFmt

/-- The byte at place k as a number; 0 behind the end. -/
def pk (t : ByteArray) (k : Nat) : Int := ((t.data.toList.getD k 0).toNat : Int)

theorem pk_lt (t : ByteArray) (k : Nat) (h : k < t.size) : ((t[k].toNat : Nat) : Int) = pk t k := by
  unfold pk
  rw [List.getD_eq_getElem?_getD, List.getElem?_eq_getElem (by simpa using h)]
  rfl

theorem pk_bd (t : ByteArray) (k : Nat) : 0 ≤ pk t k ∧ pk t k ≤ 255 := by
  unfold pk
  have := (t.data.toList.getD k 0).toNat_lt
  omega

/-- A valid process name. -/
structure ValidN (n : ByteArray) : Prop where
  pos : 0 < n.size
  top : n.size ≤ 200
  each : ∀ i, i < n.size → 33 ≤ pk n i ∧ pk n i ≤ 126

/-- The number that decimal digits spell. -/
def val : List UInt8 → Nat
  | [] => 0
  | c :: l => (c.toNat - 48) * 10 ^ l.length + val l

theorem val_snoc (l : List UInt8) (c : UInt8) : val (l ++ [c]) = val l * 10 + (c.toNat - 48) := by
  induction l with
  | nil => simp [val]
  | cons d l ih =>
    rw [List.cons_append, val, val, ih, List.length_append, Nat.add_mul]
    simp [Nat.pow_succ]
    rw [Nat.mul_assoc]
    omega

theorem val_append_le (l m : List UInt8) : val l ≤ val (l ++ m) := by
  induction m generalizing l with
  | nil => simp
  | cons c m ih =>
    have h1 := ih (l ++ [c])
    rw [val_snoc] at h1
    rw [show l ++ c :: m = l ++ [c] ++ m by simp]
    omega

/-- What zzItoa writes for t. -/
structure Dec (t : Nat) (ds : List UInt8) : Prop where
  pos : 1 ≤ ds.length
  top : ds.length ≤ 20
  each : ∀ c ∈ ds, 48 ≤ c.toNat ∧ c.toNat ≤ 57
  value : val ds = t
  head : t ≠ 0 → ds.head? ≠ some 48
  zero : t = 0 → ds = [48]

theorem val_take_le (ds : List UInt8) (k : Nat) : val (ds.take k) ≤ val ds := by
  have := val_append_le (ds.take k) (ds.drop k)
  rwa [List.take_append_drop] at this

theorem val_take_succ (ds : List UInt8) (k : Nat) (h : k < ds.length) : val (ds.take (k + 1)) = val (ds.take k) * 10 + (ds[k].toNat - 48) := by
  rw [List.take_succ_eq_append_getElem h, val_snoc]
end Go.Proofs.Qxb6002379aFmt

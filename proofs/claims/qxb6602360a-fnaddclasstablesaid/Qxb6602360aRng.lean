/-
  PLAIN: sets by ranges of bytes.
-/
import Derived.Test.Qxb6602360aPlain
namespace Go.Proofs.Qxb6602360a.Cl

/-- One byte added to the two words. -/
def addTo (a : Nat × Nat) (b : Nat) : Nat × Nat := if b < 64 then (a.1 ||| 2 ^ b, a.2) else (a.1, a.2 ||| 2 ^ (b - 64))
/-- m bytes from l on. -/
def rangeN (a : Nat × Nat) (l : Nat) : Nat → Nat × Nat
  | 0 => a
  | m + 1 => addTo (rangeN a l m) (l + m)
/-- Byte j of the table, 0 beyond its end. -/
def rb (r : ByteArray) (j : Nat) : Nat := (r.data.toList.getD j 0).toNat
/-- The first i ranges. -/
def pairsN (r : ByteArray) (a : Nat × Nat) : Nat → Nat × Nat
  | 0 => a
  | i + 1 => rangeN (pairsN r a i) (rb r (2 * i)) (rb r (2 * i + 1) + 1 - rb r (2 * i))

def orP (a b : Nat × Nat) : Nat × Nat := (a.1 ||| b.1, a.2 ||| b.2)
theorem orP_assoc (a b c : Nat × Nat) : orP (orP a b) c = orP a (orP b c) := by simp [orP, Nat.or_assoc]
theorem addTo_or (a b : Nat × Nat) (k : Nat) : addTo (orP a b) k = orP a (addTo b k) := by
  unfold addTo orP
  by_cases h : k < 64
  · simp [h, Nat.or_assoc]
  · simp [h, Nat.or_assoc]
theorem rangeN_or (a b : Nat × Nat) (l : Nat) : ∀ m, rangeN (orP a b) l m = orP a (rangeN b l m)
  | 0 => rfl
  | m + 1 => by rw [rangeN, rangeN, rangeN_or a b l m, addTo_or]
theorem pairsN_or (r : ByteArray) (a b : Nat × Nat) : ∀ i, pairsN r (orP a b) i = orP a (pairsN r b i)
  | 0 => rfl
  | i + 1 => by rw [pairsN, pairsN, pairsN_or r a b i, rangeN_or]

theorem orP_zero (a : Nat × Nat) : orP a (0, 0) = a := by simp [orP]

/-- A table's ranges are a kind. -/
theorem pairs_class {r : ByteArray} {p : Nat → Bool} {i : Nat} (h : pairsN r (0, 0) i = (lo p 0, hi p 0)) (x0 x1 : Nat) : pairsN r (x0, x1) i = (lo p x0, hi p x1) := by
  have := pairsN_or r (x0, x1) (0, 0) i
  rw [orP_zero, h] at this
  rw [this, lo_eq p x0, hi_eq p x1]; rfl

def Fits (a : Nat × Nat) : Prop := a.1 < 2 ^ 64 ∧ a.2 < 2 ^ 64
theorem Fits.add {a : Nat × Nat} (h : Fits a) {b : Nat} (hb : b < 128) : Fits (addTo a b) := by
  unfold addTo
  by_cases hlt : b < 64
  · rw [if_pos hlt]; exact ⟨Nat.or_lt_two_pow h.1 (Nat.pow_lt_pow_right (by decide) hlt), h.2⟩
  · rw [if_neg hlt]; exact ⟨h.1, Nat.or_lt_two_pow h.2 (Nat.pow_lt_pow_right (by decide) (by omega))⟩
theorem Fits.range {a : Nat × Nat} (h : Fits a) {l : Nat} : ∀ m, l + m ≤ 128 → Fits (rangeN a l m)
  | 0, _ => h
  | m + 1, hm => (h.range m (by omega)).add (by omega)

theorem rb_eq (r : ByteArray) (j : Nat) (h : j < r.size) : r[j].toNat = rb r j := by
  unfold rb
  have h' : j < r.data.toList.length := by simpa using h
  rw [List.getD_eq_getElem?_getD, List.getElem?_eq_getElem h']
  rfl

end Go.Proofs.Qxb6602360a.Cl

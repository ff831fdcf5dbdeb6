/-
  PLAIN FACTS ON MEMBERSHIP: no Go in sight. A list of ints: 'f : Nat → Int' and its length.
-/
namespace Go.Proofs.Qxb6602317a.Mem

/-- id is among the first l numbers. -/
def memB (f : Nat → Int) (id : Int) : Nat → Bool
  | 0 => false
  | k + 1 => memB f id k || f k == id

theorem memB_true {f : Nat → Int} {id : Int} : ∀ {l : Nat}, memB f id l = true ↔ ∃ j, j < l ∧ f j = id
  | 0 => by simp [memB]
  | k + 1 => by
    rw [memB, Bool.or_eq_true, memB_true, beq_iff_eq]
    constructor
    · rintro (⟨j, hj, h⟩ | h)
      · exact ⟨j, by omega, h⟩
      · exact ⟨k, by omega, h⟩
    · rintro ⟨j, hj, h⟩
      by_cases e : j = k
      · exact Or.inr (by rw [← e]; exact h)
      · exact Or.inl ⟨j, by omega, h⟩

theorem memB_false {f : Nat → Int} {id : Int} {l : Nat} (h : ∀ j, j < l → f j ≠ id) : memB f id l = false := by
  cases hb : memB f id l with
  | false => rfl
  | true =>
    obtain ⟨j, hj, e⟩ := memB_true.1 hb
    exact absurd e (h j hj)

/-- id is in one of the first n rows. -/
def anyB (F : Nat → Nat → Int) (L : Nat → Nat) (id : Int) : Nat → Bool
  | 0 => false
  | k + 1 => anyB F L id k || memB (F k) id (L k)

theorem anyB_true {F : Nat → Nat → Int} {L : Nat → Nat} {id : Int} : ∀ {n : Nat}, anyB F L id n = true ↔ ∃ r, r < n ∧ memB (F r) id (L r) = true
  | 0 => by simp [anyB]
  | k + 1 => by
    rw [anyB, Bool.or_eq_true, anyB_true]
    constructor
    · rintro (⟨j, hj, h⟩ | h)
      · exact ⟨j, by omega, h⟩
      · exact ⟨k, by omega, h⟩
    · rintro ⟨j, hj, h⟩
      by_cases e : j = k
      · exact Or.inr (by rw [← e]; exact h)
      · exact Or.inl ⟨j, by omega, h⟩

theorem anyB_false {F : Nat → Nat → Int} {L : Nat → Nat} {id : Int} {n : Nat} (h : ∀ r, r < n → memB (F r) id (L r) = false) : anyB F L id n = false := by
  cases hb : anyB F L id n with
  | false => rfl
  | true =>
    obtain ⟨r, hr, e⟩ := anyB_true.1 hb
    rw [h r hr] at e; cases e

/-- How often id stands in the places from m on. -/
def CntFrom (f : Nat → Int) (id : Int) (l m : Nat) (c0 c : Nat) : Prop := c0 ≤ c ∧ c ≤ c0 + (l - m) ∧ (0 < c ↔ 0 < c0 ∨ ∃ j, m ≤ j ∧ j < l ∧ f j = id)

theorem CntFrom.start (f : Nat → Int) (id : Int) (l c0 : Nat) : CntFrom f id l l c0 c0 :=
  ⟨Nat.le_refl _, by omega, ⟨Or.inl, fun h => h.elim (fun x => x) (fun ⟨j, h1, h2, _⟩ => by omega)⟩⟩

theorem CntFrom.hit {f : Nat → Int} {id : Int} {l m c0 c : Nat} (h : CntFrom f id l (m + 1) c0 c) (hm : m < l) (e : f m = id) : CntFrom f id l m c0 (c + 1) :=
  ⟨by have := h.1; omega, by have := h.2.1; omega, ⟨fun _ => Or.inr ⟨m, Nat.le_refl _, hm, e⟩, fun _ => by omega⟩⟩

theorem CntFrom.miss {f : Nat → Int} {id : Int} {l m c0 c : Nat} (h : CntFrom f id l (m + 1) c0 c) (e : f m ≠ id) : CntFrom f id l m c0 c := by
  refine ⟨h.1, by have := h.2.1; omega, ?_⟩
  rw [h.2.2]
  constructor
  · rintro (x | ⟨j, h1, h2, h3⟩)
    · exact Or.inl x
    · exact Or.inr ⟨j, by omega, h2, h3⟩
  · rintro (x | ⟨j, h1, h2, h3⟩)
    · exact Or.inl x
    · refine Or.inr ⟨j, ?_, h2, h3⟩
      rcases Nat.lt_or_ge m j with hh | hh
      · exact hh
      · obtain rfl : j = m := by omega
        exact absurd h3 e

/-- Behind a whole row. -/
theorem CntFrom.done {f : Nat → Int} {id : Int} {l c0 c : Nat} (h : CntFrom f id l 0 c0 c) : c0 ≤ c ∧ c ≤ c0 + l ∧ (0 < c ↔ 0 < c0 ∨ memB f id l = true) := by
  refine ⟨h.1, by have := h.2.1; omega, ?_⟩
  rw [h.2.2, memB_true]
  constructor
  · rintro (x | ⟨j, _, h2, h3⟩)
    · exact Or.inl x
    · exact Or.inr ⟨j, h2, h3⟩
  · rintro (x | ⟨j, h2, h3⟩)
    · exact Or.inl x
    · exact Or.inr ⟨j, Nat.zero_le _, h2, h3⟩

/-- Over the rows from k on: the count is bounded, and tells whether id was met. -/
def RowsFrom (F : Nat → Nat → Int) (L : Nat → Nat) (id : Int) (n k c : Nat) : Prop :=
  c ≤ (n - k) * 131072 ∧ (0 < c ↔ ∃ r, k ≤ r ∧ r < n ∧ memB (F r) id (L r) = true)

theorem RowsFrom.start (F : Nat → Nat → Int) (L : Nat → Nat) (id : Int) (n : Nat) : RowsFrom F L id n n 0 :=
  ⟨by omega, ⟨fun h => by omega, fun ⟨r, h1, h2, _⟩ => by omega⟩⟩

theorem RowsFrom.step {F : Nat → Nat → Int} {L : Nat → Nat} {id : Int} {n k c c' : Nat} (h : RowsFrom F L id n (k + 1) c) (hk : k < n) (hL : L k ≤ 131072)
    (hc : c ≤ c' ∧ c' ≤ c + L k ∧ (0 < c' ↔ 0 < c ∨ memB (F k) id (L k) = true)) : RowsFrom F L id n k c' := by
  obtain ⟨h1, h2⟩ := h
  obtain ⟨_, h4, h5⟩ := hc
  constructor
  · clear h2 h5
    have e : n - k = (n - (k + 1)) + 1 := by omega
    rw [e, Nat.add_mul]; omega
  · rw [h5, h2]
    constructor
    · rintro (⟨r, a, b, x⟩ | x)
      · exact ⟨r, by omega, b, x⟩
      · exact ⟨k, Nat.le_refl _, hk, x⟩
    · rintro ⟨r, a, b, x⟩
      by_cases e : r = k
      · exact Or.inr (by rw [← e]; exact x)
      · exact Or.inl ⟨r, by omega, b, x⟩

theorem RowsFrom.done {F : Nat → Nat → Int} {L : Nat → Nat} {id : Int} {n c : Nat} (h : RowsFrom F L id n 0 c) : c ≤ n * 131072 ∧ (0 < c ↔ anyB F L id n = true) := by
  refine ⟨by have := h.1; simpa using this, ?_⟩
  rw [h.2, anyB_true]
  constructor
  · rintro ⟨r, _, b, x⟩
    exact ⟨r, b, x⟩
  · rintro ⟨r, b, x⟩
    exact ⟨r, Nat.zero_le _, b, x⟩

end Go.Proofs.Qxb6602317a.Mem

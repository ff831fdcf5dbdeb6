/-
  PLAIN FACTS ON JSON TEXT, no Go in sight: the text is 'g : Nat → Int' (its bytes) and 'n' (its length).
  'Str p e': a JSON string lies at [p, e) for a scanner that skips the byte behind each backslash.
  'R a b': the container's scanner goes from (place, depth) a to b.
  'Val p e k': a value of kind k lies at [p, e).
-/
namespace Go.Proofs.Qxb6602274a.Js

/-- JSON white space. -/
def wsB (c : Int) : Bool := c == 32 || c == 9 || c == 13 || c == 10
def digB (c : Int) : Bool := decide (48 ≤ c) && decide (c ≤ 57)
def hexB (c : Int) : Bool := digB c || (decide (97 ≤ c) && decide (c ≤ 102)) || (decide (65 ≤ c) && decide (c ≤ 70))
/-- What a scalar's own bytes are not. -/
def delB (c : Int) : Bool := wsB c || c == 44 || c == 93 || c == 125 || c == 34 || c == 91 || c == 123

/-- So many steps of the string's scanner lead from i to q. -/
def SR (g : Nat → Int) (n : Nat) : Nat → Nat → Nat → Prop
  | 0, i, q => i = q
  | k + 1, i, q => i < n ∧ ((g i = 92 ∧ SR g n k (i + 2) q) ∨ (g i ≠ 92 ∧ g i ≠ 34 ∧ SR g n k (i + 1) q))

theorem SR.trans {g : Nat → Int} {n : Nat} : ∀ {k l i q r : Nat}, SR g n k i q → SR g n l q r → SR g n (k + l) i r
  | 0, l, i, q, r, h, h2 => by cases h; simpa using h2
  | k + 1, l, i, q, r, h, h2 => by
    have e : k + 1 + l = (k + l) + 1 := by omega
    rw [e]
    obtain ⟨hi, h⟩ := h
    refine ⟨hi, ?_⟩
    rcases h with ⟨h1, h⟩ | ⟨h1, h1', h⟩
    · exact Or.inl ⟨h1, h.trans h2⟩
    · exact Or.inr ⟨h1, h1', h.trans h2⟩

def Str (g : Nat → Int) (n p e : Nat) : Prop := p < n ∧ g p = 34 ∧ ∃ k q, SR g n k (p + 1) q ∧ q < n ∧ g q = 34 ∧ e = q + 1

theorem SR.le {g : Nat → Int} {n : Nat} : ∀ {k i q : Nat}, SR g n k i q → i ≤ q
  | 0, i, q, h => by cases h; exact Nat.le_refl _
  | k + 1, i, q, h => by
    obtain ⟨_, h⟩ := h
    rcases h with ⟨_, h⟩ | ⟨_, _, h⟩
    · have := h.le; omega
    · have := h.le; omega

theorem Str.le {g : Nat → Int} {n p e : Nat} (h : Str g n p e) : p + 2 ≤ e ∧ e ≤ n := by
  obtain ⟨_, _, k, q, hs, hq, _, rfl⟩ := h
  have := hs.le
  omega

/-- The scanner's step. -/
def Stp (g : Nat → Int) (n : Nat) (a b : Nat × Nat) : Prop :=
  a.1 < n ∧ (
  (g a.1 = 34 ∧ Str g n a.1 b.1 ∧ b.2 = a.2) ∨
  ((g a.1 = 123 ∨ g a.1 = 91) ∧ b.1 = a.1 + 1 ∧ b.2 = a.2 + 1) ∨
  ((g a.1 = 125 ∨ g a.1 = 93) ∧ b.1 = a.1 + 1 ∧ 1 ≤ b.2 ∧ a.2 = b.2 + 1) ∨
  (g a.1 ≠ 34 ∧ g a.1 ≠ 123 ∧ g a.1 ≠ 91 ∧ g a.1 ≠ 125 ∧ g a.1 ≠ 93 ∧ b.1 = a.1 + 1 ∧ b.2 = a.2))

def RK (g : Nat → Int) (n : Nat) : Nat → Nat × Nat → Nat × Nat → Prop
  | 0, a, b => a = b
  | k + 1, a, b => ∃ c, Stp g n a c ∧ RK g n k c b

def R (g : Nat → Int) (n : Nat) (a b : Nat × Nat) : Prop := ∃ k, RK g n k a b

theorem R.refl (g : Nat → Int) (n : Nat) (a : Nat × Nat) : R g n a a := ⟨0, rfl⟩

theorem RK.trans {g : Nat → Int} {n : Nat} : ∀ {k l : Nat} {a b c : Nat × Nat}, RK g n k a b → RK g n l b c → RK g n (k + l) a c
  | 0, l, a, b, c, h, h2 => by cases h; simpa using h2
  | k + 1, l, a, b, c, h, h2 => by
    have e : k + 1 + l = (k + l) + 1 := by omega
    rw [e]
    obtain ⟨d, hd, h⟩ := h
    exact ⟨d, hd, h.trans h2⟩

theorem R.trans {g : Nat → Int} {n : Nat} {a b c : Nat × Nat} (h : R g n a b) (h2 : R g n b c) : R g n a c := by
  obtain ⟨k, h⟩ := h
  obtain ⟨l, h2⟩ := h2
  exact ⟨k + l, h.trans h2⟩

theorem R.one {g : Nat → Int} {n : Nat} {a b : Nat × Nat} (h : Stp g n a b) : R g n a b := ⟨1, b, h, rfl⟩

theorem Stp.shift {g : Nat → Int} {n i d j e : Nat} (h : Stp g n (i, d) (j, e)) (x : Nat) : Stp g n (i, d + x) (j, e + x) := by
  obtain ⟨h0, h⟩ := h
  refine ⟨h0, ?_⟩
  simp only at h ⊢
  rcases h with ⟨h1, h2, h3⟩ | ⟨h1, h2, h3⟩ | ⟨h1, h2, h3, h4⟩ | ⟨h1, h2, h3, h4, h5, h6, h7⟩
  · exact Or.inl ⟨h1, h2, by omega⟩
  · exact Or.inr (Or.inl ⟨h1, h2, by omega⟩)
  · exact Or.inr (Or.inr (Or.inl ⟨h1, h2, by omega, by omega⟩))
  · exact Or.inr (Or.inr (Or.inr ⟨h1, h2, h3, h4, h5, h6, by omega⟩))

theorem RK.shift {g : Nat → Int} {n : Nat} : ∀ {k i d j e : Nat}, RK g n k (i, d) (j, e) → ∀ x, RK g n k (i, d + x) (j, e + x)
  | 0, i, d, j, e, h, x => by
    have h' : (i, d) = (j, e) := h
    obtain ⟨rfl, rfl⟩ := Prod.mk.inj h'
    rfl
  | k + 1, i, d, j, e, h, x => by
    obtain ⟨⟨i2, d2⟩, hs, h⟩ := h
    exact ⟨(i2, d2 + x), hs.shift x, h.shift x⟩

/-- A byte that the container's scanner passes over. -/
def plainB (c : Int) : Prop := c ≠ 34 ∧ c ≠ 123 ∧ c ≠ 91 ∧ c ≠ 125 ∧ c ≠ 93

theorem R.pass {g : Nat → Int} {n : Nat} (d : Nat) : ∀ (m p : Nat), p + m ≤ n → (∀ j, p ≤ j → j < p + m → plainB (g j)) → R g n (p, d) (p + m, d)
  | 0, p, _, _ => R.refl _ _ _
  | m + 1, p, hn, h => by
    have h1 : Stp g n (p, d) (p + 1, d) := by
      have := h p (Nat.le_refl _) (by omega)
      obtain ⟨a, b, c, e, f⟩ := this
      exact ⟨by show p < n; omega, Or.inr (Or.inr (Or.inr ⟨a, b, c, e, f, rfl, rfl⟩))⟩
    have h2 := R.pass (g := g) (n := n) d m (p + 1) (by omega) (fun j hj hj' => h j (by omega) (by omega))
    have e : p + 1 + m = p + (m + 1) := by omega
    rw [e] at h2
    exact (R.one h1).trans h2

/-- An array or object lies at [p, e). -/
def Cont (g : Nat → Int) (n p e : Nat) : Prop :=
  p < n ∧ (g p = 91 ∨ g p = 123) ∧ p + 2 ≤ e ∧ e ≤ n ∧ (g (e - 1) = 93 ∨ g (e - 1) = 125) ∧ R g n (p, 0) (e - 1, 1)

/-- A number or a word lies at [p, e). -/
def Scal (g : Nat → Int) (n p e : Nat) : Prop := p < e ∧ e ≤ n ∧ ∀ j, p ≤ j → j < e → delB (g j) = false

/-- A value of kind k lies at [p, e). -/
def Val (g : Nat → Int) (n p e : Nat) (k : Int) : Prop :=
  (k = 3 ∧ Str g n p e) ∨ ((k = 4 ∨ k = 5) ∧ Cont g n p e) ∨ ((k = 1 ∨ k = 2 ∨ k = 6) ∧ Scal g n p e)

theorem Val.le {g : Nat → Int} {n p e : Nat} {k : Int} (h : Val g n p e k) : p < e ∧ e ≤ n := by
  rcases h with ⟨_, h⟩ | ⟨_, h⟩ | ⟨_, h⟩
  · have := h.le; omega
  · obtain ⟨_, _, h1, h2, _⟩ := h; omega
  · exact ⟨h.1, h.2.1⟩

theorem plain_of_del {c : Int} (h : delB c = false) : plainB c := by
  unfold delB at h
  simp only [Bool.or_eq_false_iff, beq_eq_false_iff_ne] at h
  unfold plainB; omega

theorem plain_of_ws {c : Int} (h : wsB c = true) : plainB c := by
  unfold wsB at h
  simp only [Bool.or_eq_true, beq_iff_eq] at h
  unfold plainB; omega

theorem Str.r {g : Nat → Int} {n p e : Nat} (h : Str g n p e) (d : Nat) : R g n (p, d) (e, d) :=
  R.one ⟨h.1, Or.inl ⟨h.2.1, h, rfl⟩⟩

/-- Whatever the value, the scanner passes over it at every depth from one on. -/
theorem Val.r {g : Nat → Int} {n p e : Nat} {k : Int} (h : Val g n p e k) (d : Nat) (hd : 1 ≤ d) : R g n (p, d) (e, d) := by
  rcases h with ⟨_, h⟩ | ⟨_, h⟩ | ⟨_, h⟩
  · exact h.r d
  · obtain ⟨hp, ho, h1, h2, hc, kk, hr⟩ := h
    have hs := hr.shift d
    have e0 : (0 : Nat) + d = d := by omega
    rw [e0] at hs
    refine R.trans ⟨kk, hs⟩ (R.one ⟨by show e - 1 < n; omega, Or.inr (Or.inr (Or.inl ⟨?_, ?_, hd, ?_⟩))⟩)
    · show g (e - 1) = 125 ∨ g (e - 1) = 93; exact hc.symm
    · show e = e - 1 + 1; omega
    · show 1 + d = d + 1; omega
  · obtain ⟨h1, h2, h3⟩ := h
    have := R.pass (g := g) (n := n) d (e - p) p (by omega) (fun j hj hj' => plain_of_del (h3 j hj (by omega)))
    have e0 : p + (e - p) = e := by omega
    rwa [e0] at this

/-- White space from p on, up to q and no further. -/
def Skip (g : Nat → Int) (n p q : Nat) : Prop := p ≤ q ∧ q ≤ n ∧ (∀ j, p ≤ j → j < q → wsB (g j) = true) ∧ (q < n → wsB (g q) = false)

theorem Skip.r {g : Nat → Int} {n p q : Nat} (h : Skip g n p q) (d : Nat) : R g n (p, d) (q, d) := by
  obtain ⟨h1, h2, h3, _⟩ := h
  have := R.pass (g := g) (n := n) d (q - p) p (by omega) (fun j hj hj' => plain_of_ws (h3 j hj (by omega)))
  have e0 : p + (q - p) = q := by omega
  rwa [e0] at this

theorem step_plain {g : Nat → Int} {n i d : Nat} (h : i < n) (hp : plainB (g i)) : R g n (i, d) (i + 1, d) := by
  obtain ⟨a, b, c, e, f⟩ := hp
  exact R.one ⟨h, Or.inr (Or.inr (Or.inr ⟨a, b, c, e, f, rfl, rfl⟩))⟩

theorem step_open {g : Nat → Int} {n i : Nat} (h : i < n) (hp : g i = 91 ∨ g i = 123) : R g n (i, 0) (i + 1, 1) :=
  R.one ⟨h, Or.inr (Or.inl ⟨hp.symm, rfl, rfl⟩)⟩

/-- What may follow a value. -/
def folB (g : Nat → Int) (n e : Nat) (k : Int) : Bool :=
  k == 3 || k == 4 || k == 5 || decide (n ≤ e) || wsB (g e) || g e == 44 || g e == 93 || g e == 125

end Go.Proofs.Qxb6602274a.Js

/-
  PLAIN: a value read from a place p on is a value of the text that begins at p.
-/
import Derived.Test.Qxb6602274aPlain
namespace Go.Proofs.Qxb6602274a.Js

/-- The text from p on. -/
def sub (g : Nat → Int) (p : Nat) : Nat → Int := fun x => g (p + x)

theorem sub_at (g : Nat → Int) (p j : Nat) (h : p ≤ j) : sub g p (j - p) = g j := by
  unfold sub; rw [show p + (j - p) = j by omega]

theorem SR.sub {g : Nat → Int} {n p : Nat} : ∀ {k i q : Nat}, SR g n k i q → p ≤ i → SR (sub g p) (n - p) k (i - p) (q - p)
  | 0, i, q, h, _ => by cases h; rfl
  | k + 1, i, q, h, hp => by
    obtain ⟨hi, h⟩ := h
    refine ⟨by omega, ?_⟩
    rw [sub_at g p i hp]
    rcases h with ⟨h1, h⟩ | ⟨h1, h2, h⟩
    · refine Or.inl ⟨h1, ?_⟩
      have := h.sub (p := p) (by omega)
      rwa [show i + 2 - p = i - p + 2 by omega] at this
    · refine Or.inr ⟨h1, h2, ?_⟩
      have := h.sub (p := p) (by omega)
      rwa [show i + 1 - p = i - p + 1 by omega] at this

theorem Str.subAt {g : Nat → Int} {n p i e : Nat} (h : Str g n i e) (hp : p ≤ i) : Str (sub g p) (n - p) (i - p) (e - p) := by
  obtain ⟨h0, h34, k, q, hs, hq, hq34, rfl⟩ := h
  have hle := hs.le
  refine ⟨by omega, by rw [sub_at g p i hp]; exact h34, k, q - p, ?_, by omega, by rw [sub_at g p q (by omega)]; exact hq34, by omega⟩
  have := hs.sub (p := p) (by omega)
  rwa [show i + 1 - p = i - p + 1 by omega] at this

theorem Str.sub {g : Nat → Int} {n p e : Nat} (h : Str g n p e) : Str (Js.sub g p) (n - p) 0 (e - p) := by
  have := h.subAt (Nat.le_refl p)
  rwa [Nat.sub_self] at this

theorem Stp.fst_le {g : Nat → Int} {n : Nat} {a b : Nat × Nat} (h : Stp g n a b) : a.1 < b.1 := by
  obtain ⟨_, h⟩ := h
  rcases h with ⟨_, h, _⟩ | ⟨_, h, _⟩ | ⟨_, h, _⟩ | ⟨_, _, _, _, _, h, _⟩
  · have := h.le; omega
  · omega
  · omega
  · omega

theorem RK.fst_le {g : Nat → Int} {n : Nat} : ∀ {k : Nat} {a b : Nat × Nat}, RK g n k a b → a.1 ≤ b.1
  | 0, a, b, h => by cases h; exact Nat.le_refl _
  | k + 1, a, b, h => by
    obtain ⟨c, hs, h⟩ := h
    have := hs.fst_le
    have := h.fst_le
    omega

theorem Stp.sub {g : Nat → Int} {n p i d j e : Nat} (h : Stp g n (i, d) (j, e)) (hp : p ≤ i) : Stp (sub g p) (n - p) (i - p, d) (j - p, e) := by
  obtain ⟨h0, h⟩ := h
  simp only at h0 h
  refine ⟨by show i - p < n - p; omega, ?_⟩
  simp only
  rw [sub_at g p i hp]
  rcases h with ⟨h1, h2, h3⟩ | ⟨h1, h2, h3⟩ | ⟨h1, h2, h3, h4⟩ | ⟨h1, h2, h3, h4, h5, h6, h7⟩
  · exact Or.inl ⟨h1, h2.subAt hp, h3⟩
  · exact Or.inr (Or.inl ⟨h1, by omega, h3⟩)
  · exact Or.inr (Or.inr (Or.inl ⟨h1, by omega, h3, h4⟩))
  · exact Or.inr (Or.inr (Or.inr ⟨h1, h2, h3, h4, h5, by omega, h7⟩))

theorem RK.sub {g : Nat → Int} {n p : Nat} : ∀ {k i d j e : Nat}, RK g n k (i, d) (j, e) → p ≤ i → RK (sub g p) (n - p) k (i - p, d) (j - p, e)
  | 0, i, d, j, e, h, _ => by
    have h' : (i, d) = (j, e) := h
    obtain ⟨rfl, rfl⟩ := Prod.mk.inj h'
    rfl
  | k + 1, i, d, j, e, h, hp => by
    obtain ⟨⟨i2, d2⟩, hs, h⟩ := h
    have := hs.fst_le
    exact ⟨(i2 - p, d2), hs.sub hp, h.sub (by simp only at this; omega)⟩

theorem Cont.sub {g : Nat → Int} {n p e : Nat} (h : Cont g n p e) : Cont (Js.sub g p) (n - p) 0 (e - p) := by
  obtain ⟨h0, h1, h2, h3, h4, k, h5⟩ := h
  refine ⟨by omega, by simpa [Js.sub] using h1, by omega, by omega, ?_, k, ?_⟩
  · rw [show e - p - 1 = (e - 1) - p by omega, sub_at g p (e - 1) (by omega)]; exact h4
  · have := h5.sub (Nat.le_refl p)
    rwa [Nat.sub_self, show e - 1 - p = e - p - 1 by omega] at this

theorem Scal.sub {g : Nat → Int} {n p e : Nat} (h : Scal g n p e) : Scal (Js.sub g p) (n - p) 0 (e - p) := by
  obtain ⟨h0, h1, h2⟩ := h
  exact ⟨by omega, by omega, fun j _ hj => h2 (p + j) (by omega) (by omega)⟩

theorem Val.sub {g : Nat → Int} {n p e : Nat} {k : Int} (h : Val g n p e k) : Val (Js.sub g p) (n - p) 0 (e - p) k := by
  rcases h with ⟨h0, h⟩ | ⟨h0, h⟩ | ⟨h0, h⟩
  · exact Or.inl ⟨h0, h.sub⟩
  · exact Or.inr (Or.inl ⟨h0, h.sub⟩)
  · exact Or.inr (Or.inr ⟨h0, h.sub⟩)

/-- A scalar ends at e: the text's end, or a byte that ends it. -/
def EndsAt (g : Nat → Int) (n e : Nat) : Prop := e = n ∨ wsB (g e) = true ∨ g e = 44 ∨ g e = 93 ∨ g e = 125

theorem EndsAt.of_fol {g : Nat → Int} {n e : Nat} {k : Int} (hk : k = 1 ∨ k = 2 ∨ k = 6) (he : e ≤ n) (h : folB g n e k = true) : EndsAt g n e := by
  unfold folB at h
  simp only [Bool.or_eq_true, beq_iff_eq, decide_eq_true_eq] at h
  unfold EndsAt
  rcases h with ((((((h | h) | h) | h) | h) | h) | h) | h
  · omega
  · omega
  · omega
  · left; omega
  · exact Or.inr (Or.inl h)
  · exact Or.inr (Or.inr (Or.inl h))
  · exact Or.inr (Or.inr (Or.inr (Or.inl h)))
  · exact Or.inr (Or.inr (Or.inr (Or.inr h)))

theorem EndsAt.sub {g : Nat → Int} {n p e : Nat} (h : EndsAt g n e) (hp : p ≤ e) : EndsAt (Js.sub g p) (n - p) (e - p) := by
  unfold EndsAt at h ⊢
  rw [sub_at g p e hp]
  rcases h with h | h
  · left; omega
  · exact Or.inr h

end Go.Proofs.Qxb6602274a.Js

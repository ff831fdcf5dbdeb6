/-
  PLAIN: the kinds of ASCII bytes and the sets of bytes as words: no Go in sight.
-/
namespace Go.Proofs.Qxb6602360a.Cl

def isL (b : Nat) : Bool := (decide (97 ≤ b) && decide (b ≤ 122)) || (decide (65 ≤ b) && decide (b ≤ 90))
def isDg (b : Nat) : Bool := decide (48 ≤ b) && decide (b ≤ 57)
def pAlnum (b : Nat) : Bool := isL b || isDg b
def pBlank (b : Nat) : Bool := b == 32 || b == 9
def pCntrl (b : Nat) : Bool := decide (b < 32) || b == 127
def pGraph (b : Nat) : Bool := decide (32 < b) && decide (b < 127)
def pLower (b : Nat) : Bool := decide (97 ≤ b) && decide (b ≤ 122)
def pPrint (b : Nat) : Bool := decide (32 ≤ b) && decide (b < 127)
def pPunct (b : Nat) : Bool := decide (32 < b) && decide (b < 127) && !isL b && !isDg b
def pSpace (b : Nat) : Bool := b == 32 || b == 9 || b == 10 || b == 13
def pUpper (b : Nat) : Bool := decide (65 ≤ b) && decide (b ≤ 90)
def pXdigit (b : Nat) : Bool := isDg b || (decide (97 ≤ b ||| 32) && decide (b ||| 32 ≤ 102))

/-- The first word with the members below k added. -/
def loN (p : Nat → Bool) (x : Nat) : Nat → Nat
  | 0 => x
  | k + 1 => if p k = true ∧ k < 64 then loN p x k ||| 2 ^ k else loN p x k
/-- The second word. -/
def hiN (p : Nat → Bool) (x : Nat) : Nat → Nat
  | 0 => x
  | k + 1 => if p k = true ∧ 64 ≤ k then hiN p x k ||| 2 ^ (k - 64) else hiN p x k

theorem loN_or (p : Nat → Bool) (x : Nat) : ∀ k, loN p x k = x ||| loN p 0 k
  | 0 => by simp [loN]
  | k + 1 => by
    rw [loN, loN]
    by_cases h : p k = true ∧ k < 64
    · rw [if_pos h, if_pos h, loN_or p x k, Nat.or_assoc]
    · rw [if_neg h, if_neg h, loN_or p x k]
theorem hiN_or (p : Nat → Bool) (x : Nat) : ∀ k, hiN p x k = x ||| hiN p 0 k
  | 0 => by simp [hiN]
  | k + 1 => by
    rw [hiN, hiN]
    by_cases h : p k = true ∧ 64 ≤ k
    · rw [if_pos h, if_pos h, hiN_or p x k, Nat.or_assoc]
    · rw [if_neg h, if_neg h, hiN_or p x k]

theorem loN_lt (p : Nat → Bool) {x : Nat} (hx : x < 2 ^ 64) : ∀ k, loN p x k < 2 ^ 64
  | 0 => hx
  | k + 1 => by
    rw [loN]
    by_cases h : p k = true ∧ k < 64
    · rw [if_pos h]
      exact Nat.or_lt_two_pow (loN_lt p hx k) (Nat.pow_lt_pow_right (by decide) h.2)
    · rw [if_neg h]; exact loN_lt p hx k
theorem hiN_lt (p : Nat → Bool) {x : Nat} (hx : x < 2 ^ 64) : ∀ k, k ≤ 128 → hiN p x k < 2 ^ 64
  | 0, _ => hx
  | k + 1, hk => by
    rw [hiN]
    by_cases h : p k = true ∧ 64 ≤ k
    · rw [if_pos h]
      exact Nat.or_lt_two_pow (hiN_lt p hx k (by omega)) (Nat.pow_lt_pow_right (by decide) (by omega))
    · rw [if_neg h]; exact hiN_lt p hx k (by omega)

/-- A kind added to a word: the first, the second. -/
def lo (p : Nat → Bool) (x : Nat) : Nat := loN p x 128
def hi (p : Nat → Bool) (x : Nat) : Nat := hiN p x 128
theorem lo_eq (p : Nat → Bool) (x : Nat) : lo p x = x ||| lo p 0 := loN_or p x 128
theorem hi_eq (p : Nat → Bool) (x : Nat) : hi p x = x ||| hi p 0 := hiN_or p x 128
theorem lo_lt (p : Nat → Bool) {x : Nat} (hx : x < 2 ^ 64) : lo p x < 2 ^ 64 := loN_lt p hx 128
theorem hi_lt (p : Nat → Bool) {x : Nat} (hx : x < 2 ^ 64) : hi p x < 2 ^ 64 := hiN_lt p hx 128 (Nat.le_refl _)

/-- Two kinds, one behind the other, are a third. -/
theorem lo_two {p q r : Nat → Bool} (h : lo q 0 ||| lo r 0 = lo p 0) (x : Nat) : lo r (lo q x) = lo p x := by
  rw [lo_eq r, lo_eq q, lo_eq p, Nat.or_assoc, h]
theorem hi_two {p q r : Nat → Bool} (h : hi q 0 ||| hi r 0 = hi p 0) (x : Nat) : hi r (hi q x) = hi p x := by
  rw [hi_eq r, hi_eq q, hi_eq p, Nat.or_assoc, h]

theorem alnum_lo : lo isL 0 ||| lo isDg 0 = lo pAlnum 0 := by decide +kernel
theorem alnum_hi : hi isL 0 ||| hi isDg 0 = hi pAlnum 0 := by decide +kernel
theorem alpha_lo : lo pLower 0 ||| lo pUpper 0 = lo isL 0 := by decide +kernel
theorem alpha_hi : hi pLower 0 ||| hi pUpper 0 = hi isL 0 := by decide +kernel
theorem graph_lo : lo pAlnum 0 ||| lo pPunct 0 = lo pGraph 0 := by decide +kernel
theorem graph_hi : hi pAlnum 0 ||| hi pPunct 0 = hi pGraph 0 := by decide +kernel
theorem xd_lo : lo pXdigit 0 ||| lo pAlnum 0 = lo pAlnum 0 := by decide +kernel
theorem xd_hi : hi pXdigit 0 ||| hi pAlnum 0 = hi pAlnum 0 := by decide +kernel
theorem space_lo : lo pBlank 0 ||| lo pSpace 0 = lo pSpace 0 := by decide +kernel
theorem space_hi : hi pBlank 0 ||| hi pSpace 0 = hi pSpace 0 := by decide +kernel
theorem print_lo0 : lo pGraph 0 ||| 2 ^ 32 = lo pPrint 0 := by decide +kernel
theorem print_hi0 : hi pGraph 0 = hi pPrint 0 := by decide +kernel
theorem print_lo (x : Nat) : lo pGraph x ||| 2 ^ 32 = lo pPrint x := by rw [lo_eq pGraph, lo_eq pPrint, Nat.or_assoc, print_lo0]
theorem print_hi (x : Nat) : hi pGraph x = hi pPrint x := by rw [hi_eq pGraph, hi_eq pPrint, print_hi0]
theorem disj_lo : lo pCntrl 0 &&& lo pPrint 0 = 0 := by decide +kernel
theorem disj_hi : hi pCntrl 0 &&& hi pPrint 0 = 0 := by decide +kernel
theorem full_lo : lo pCntrl 0 ||| lo pPrint 0 = 18446744073709551615 := by decide +kernel
theorem full_hi : hi pCntrl 0 ||| hi pPrint 0 = 18446744073709551615 := by decide +kernel

end Go.Proofs.Qxb6602360a.Cl

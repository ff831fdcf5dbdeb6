/-
  THE WALKS of byteSet.addClass (34) and ZZaddClass (13), a kind each. (Typed by a small program, a row each kind.)
-/
import Derived.Test.Qxb6602360aWalks
namespace Go.Proofs.Qxb6602360a
open Go.RowKit Cl
set_option linter.unusedVariables false

def RClass (p : Nat → Bool) (D x0 x1 x2 x3 : Nat) (w : World) (e : Ending) (w' : World) : Prop :=
  e = .returned (.bool true) ∧ SetAt w' D (lo p x0) (hi p x1) x2 x3 ∧ Below D w w'

theorem loN_in {p : Nat → Bool} {x k : Nat} (h : p k = true) (hk : k < 64) : loN p x (k + 1) = loN p x k ||| 2 ^ k := by rw [loN, if_pos ⟨h, hk⟩]
theorem loN_out {p : Nat → Bool} {x k : Nat} (h : p k = false ∨ 64 ≤ k) : loN p x (k + 1) = loN p x k := by
  rw [loN, if_neg]
  rintro ⟨a, b⟩
  rcases h with h | h
  · rw [h] at a; cases a
  · omega
theorem hiN_in {p : Nat → Bool} {x k : Nat} (h : p k = true) (hk : 64 ≤ k) : hiN p x (k + 1) = hiN p x k ||| 2 ^ (k - 64) := by rw [hiN, if_pos ⟨h, hk⟩]
theorem hiN_out {p : Nat → Bool} {x k : Nat} (h : p k = false ∨ k < 64) : hiN p x (k + 1) = hiN p x k := by
  rw [hiN, if_neg]
  rintro ⟨a, b⟩
  rcases h with h | h
  · rw [h] at a; cases a
  · omega

set_option maxRecDepth 20000 in
set_option maxHeartbeats 400000 in
theorem cls_alnum (D x0 x1 x2 x3 : Nat) (w : World) (h : SetAt w D x0 x1 x2 x3) (hx0 : x0 < 2 ^ 64) (hx1 : x1 < 2 ^ 64) :
    Calls Try.prog 34 #[.pointer (some ⟨D, 0, none⟩), .string (ByteArray.mk #[97, 108, 110, 117, 109])] w (RClass pAlnum D x0 x1 x2 x3 w) := by
  have HS : Hid (SetAt w D x0 x1 x2 x3) := h
  have HX0 : Hid (x0 < 2 ^ 64) := hx0
  have HX1 : Hid (x1 < 2 ^ 64) := hx1
  clear h hx0 hx1
  go_enter Try.func34, Try.ntmps34
  go_wp2_with fail
  go_loopg [32] 128 (fun gk i wr => ∃ k : Nat, i = .int .i64 k ∧ Hid (gk + k = 128) ∧ k ≤ 128 ∧ Hid (SetAt wr D (loN pAlnum x0 k) (hiN pAlnum x1 k) x2 x3) ∧ Hid (Below D w wr))
  case atStart => exact ⟨0, rfl, Nat.add_zero _, Nat.zero_le _, HS, Below.refl _ _⟩
  case round =>
    obtain ⟨k, rfl, hgk, hk, hs, hb⟩ := hrel
    by_cases hlt : k < 128
    · by_cases hp : pAlnum k = true
      · by_cases h64 : k < 64
        · go_wp2_with (first | (go_at_call 39; refine (f39 k _ hlt).mono ?_; rintro e w' ⟨rfl, hw⟩; subst hw) | (go_at_call 51; refine (add_lo D k _ _ x2 x3 _ hs.out h64 (loN_lt _ HX0.out k)).mono ?_; rintro e w' ⟨rfl, hs', hb'⟩))
          go_roundg (gk - 1)
          case rel => exact ⟨k + 1, by go_num, by have := hgk.out; show _ = _; omega, by omega, by rw [loN_in hp h64, hiN_out (Or.inr h64)]; exact hs', hb.out.trans hb'⟩
          case measure => have := hgk.out; omega
        · go_wp2_with (first | (go_at_call 39; refine (f39 k _ hlt).mono ?_; rintro e w' ⟨rfl, hw⟩; subst hw) | (go_at_call 51; refine (add_hi D k _ _ x2 x3 _ hs.out (by omega) hlt (hiN_lt _ HX1.out k hk)).mono ?_; rintro e w' ⟨rfl, hs', hb'⟩))
          go_roundg (gk - 1)
          case rel => exact ⟨k + 1, by go_num, by have := hgk.out; show _ = _; omega, by omega, by rw [loN_out (Or.inr (by omega)), hiN_in hp (by omega)]; exact hs', hb.out.trans hb'⟩
          case measure => have := hgk.out; omega
      · have hp' : pAlnum k = false := by simpa using hp
        go_wp2_with (go_at_call 39; refine (f39 k _ hlt).mono ?_; rintro e w' ⟨rfl, hw⟩; subst hw)
        go_roundg (gk - 1)
        case rel => exact ⟨k + 1, by go_num, by have := hgk.out; show _ = _; omega, by omega, by rw [loN_out (Or.inl hp'), hiN_out (Or.inl hp')]; exact hs, hb⟩
        case measure => have := hgk.out; omega
    · obtain rfl : k = 128 := by omega
      go_wp2_with fail
      go_ret
      exact ⟨rfl, hs.out, hb.out⟩

set_option maxRecDepth 20000 in
set_option maxHeartbeats 400000 in
theorem cls_alpha (D x0 x1 x2 x3 : Nat) (w : World) (h : SetAt w D x0 x1 x2 x3) (hx0 : x0 < 2 ^ 64) (hx1 : x1 < 2 ^ 64) :
    Calls Try.prog 34 #[.pointer (some ⟨D, 0, none⟩), .string (ByteArray.mk #[97, 108, 112, 104, 97])] w (RClass isL D x0 x1 x2 x3 w) := by
  have HS : Hid (SetAt w D x0 x1 x2 x3) := h
  have HX0 : Hid (x0 < 2 ^ 64) := hx0
  have HX1 : Hid (x1 < 2 ^ 64) := hx1
  clear h hx0 hx1
  go_enter Try.func34, Try.ntmps34
  go_wp2_with fail
  go_loopg [32] 128 (fun gk i wr => ∃ k : Nat, i = .int .i64 k ∧ Hid (gk + k = 128) ∧ k ≤ 128 ∧ Hid (SetAt wr D (loN isL x0 k) (hiN isL x1 k) x2 x3) ∧ Hid (Below D w wr))
  case atStart => exact ⟨0, rfl, Nat.add_zero _, Nat.zero_le _, HS, Below.refl _ _⟩
  case round =>
    obtain ⟨k, rfl, hgk, hk, hs, hb⟩ := hrel
    by_cases hlt : k < 128
    · by_cases hp : isL k = true
      · by_cases h64 : k < 64
        · go_wp2_with (first | (go_at_call 40; refine (f40 k _ hlt).mono ?_; rintro e w' ⟨rfl, hw⟩; subst hw) | (go_at_call 51; refine (add_lo D k _ _ x2 x3 _ hs.out h64 (loN_lt _ HX0.out k)).mono ?_; rintro e w' ⟨rfl, hs', hb'⟩))
          go_roundg (gk - 1)
          case rel => exact ⟨k + 1, by go_num, by have := hgk.out; show _ = _; omega, by omega, by rw [loN_in hp h64, hiN_out (Or.inr h64)]; exact hs', hb.out.trans hb'⟩
          case measure => have := hgk.out; omega
        · go_wp2_with (first | (go_at_call 40; refine (f40 k _ hlt).mono ?_; rintro e w' ⟨rfl, hw⟩; subst hw) | (go_at_call 51; refine (add_hi D k _ _ x2 x3 _ hs.out (by omega) hlt (hiN_lt _ HX1.out k hk)).mono ?_; rintro e w' ⟨rfl, hs', hb'⟩))
          go_roundg (gk - 1)
          case rel => exact ⟨k + 1, by go_num, by have := hgk.out; show _ = _; omega, by omega, by rw [loN_out (Or.inr (by omega)), hiN_in hp (by omega)]; exact hs', hb.out.trans hb'⟩
          case measure => have := hgk.out; omega
      · have hp' : isL k = false := by simpa using hp
        go_wp2_with (go_at_call 40; refine (f40 k _ hlt).mono ?_; rintro e w' ⟨rfl, hw⟩; subst hw)
        go_roundg (gk - 1)
        case rel => exact ⟨k + 1, by go_num, by have := hgk.out; show _ = _; omega, by omega, by rw [loN_out (Or.inl hp'), hiN_out (Or.inl hp')]; exact hs, hb⟩
        case measure => have := hgk.out; omega
    · obtain rfl : k = 128 := by omega
      go_wp2_with fail
      go_ret
      exact ⟨rfl, hs.out, hb.out⟩

set_option maxRecDepth 20000 in
set_option maxHeartbeats 400000 in
theorem cls_blank (D x0 x1 x2 x3 : Nat) (w : World) (h : SetAt w D x0 x1 x2 x3) (hx0 : x0 < 2 ^ 64) (hx1 : x1 < 2 ^ 64) :
    Calls Try.prog 34 #[.pointer (some ⟨D, 0, none⟩), .string (ByteArray.mk #[98, 108, 97, 110, 107])] w (RClass pBlank D x0 x1 x2 x3 w) := by
  have HS : Hid (SetAt w D x0 x1 x2 x3) := h
  have HX0 : Hid (x0 < 2 ^ 64) := hx0
  have HX1 : Hid (x1 < 2 ^ 64) := hx1
  clear h hx0 hx1
  go_enter Try.func34, Try.ntmps34
  go_wp2_with fail
  go_loopg [32] 128 (fun gk i wr => ∃ k : Nat, i = .int .i64 k ∧ Hid (gk + k = 128) ∧ k ≤ 128 ∧ Hid (SetAt wr D (loN pBlank x0 k) (hiN pBlank x1 k) x2 x3) ∧ Hid (Below D w wr))
  case atStart => exact ⟨0, rfl, Nat.add_zero _, Nat.zero_le _, HS, Below.refl _ _⟩
  case round =>
    obtain ⟨k, rfl, hgk, hk, hs, hb⟩ := hrel
    by_cases hlt : k < 128
    · by_cases hp : pBlank k = true
      · by_cases h64 : k < 64
        · go_wp2_with (first | (go_at_call 42; refine (f42 k _ hlt).mono ?_; rintro e w' ⟨rfl, hw⟩; subst hw) | (go_at_call 51; refine (add_lo D k _ _ x2 x3 _ hs.out h64 (loN_lt _ HX0.out k)).mono ?_; rintro e w' ⟨rfl, hs', hb'⟩))
          go_roundg (gk - 1)
          case rel => exact ⟨k + 1, by go_num, by have := hgk.out; show _ = _; omega, by omega, by rw [loN_in hp h64, hiN_out (Or.inr h64)]; exact hs', hb.out.trans hb'⟩
          case measure => have := hgk.out; omega
        · go_wp2_with (first | (go_at_call 42; refine (f42 k _ hlt).mono ?_; rintro e w' ⟨rfl, hw⟩; subst hw) | (go_at_call 51; refine (add_hi D k _ _ x2 x3 _ hs.out (by omega) hlt (hiN_lt _ HX1.out k hk)).mono ?_; rintro e w' ⟨rfl, hs', hb'⟩))
          go_roundg (gk - 1)
          case rel => exact ⟨k + 1, by go_num, by have := hgk.out; show _ = _; omega, by omega, by rw [loN_out (Or.inr (by omega)), hiN_in hp (by omega)]; exact hs', hb.out.trans hb'⟩
          case measure => have := hgk.out; omega
      · have hp' : pBlank k = false := by simpa using hp
        go_wp2_with (go_at_call 42; refine (f42 k _ hlt).mono ?_; rintro e w' ⟨rfl, hw⟩; subst hw)
        go_roundg (gk - 1)
        case rel => exact ⟨k + 1, by go_num, by have := hgk.out; show _ = _; omega, by omega, by rw [loN_out (Or.inl hp'), hiN_out (Or.inl hp')]; exact hs, hb⟩
        case measure => have := hgk.out; omega
    · obtain rfl : k = 128 := by omega
      go_wp2_with fail
      go_ret
      exact ⟨rfl, hs.out, hb.out⟩

set_option maxRecDepth 20000 in
set_option maxHeartbeats 400000 in
theorem cls_cntrl (D x0 x1 x2 x3 : Nat) (w : World) (h : SetAt w D x0 x1 x2 x3) (hx0 : x0 < 2 ^ 64) (hx1 : x1 < 2 ^ 64) :
    Calls Try.prog 34 #[.pointer (some ⟨D, 0, none⟩), .string (ByteArray.mk #[99, 110, 116, 114, 108])] w (RClass pCntrl D x0 x1 x2 x3 w) := by
  have HS : Hid (SetAt w D x0 x1 x2 x3) := h
  have HX0 : Hid (x0 < 2 ^ 64) := hx0
  have HX1 : Hid (x1 < 2 ^ 64) := hx1
  clear h hx0 hx1
  go_enter Try.func34, Try.ntmps34
  go_wp2_with fail
  go_loopg [32] 128 (fun gk i wr => ∃ k : Nat, i = .int .i64 k ∧ Hid (gk + k = 128) ∧ k ≤ 128 ∧ Hid (SetAt wr D (loN pCntrl x0 k) (hiN pCntrl x1 k) x2 x3) ∧ Hid (Below D w wr))
  case atStart => exact ⟨0, rfl, Nat.add_zero _, Nat.zero_le _, HS, Below.refl _ _⟩
  case round =>
    obtain ⟨k, rfl, hgk, hk, hs, hb⟩ := hrel
    by_cases hlt : k < 128
    · by_cases hp : pCntrl k = true
      · by_cases h64 : k < 64
        · go_wp2_with (first | (go_at_call 43; refine (f43 k _ hlt).mono ?_; rintro e w' ⟨rfl, hw⟩; subst hw) | (go_at_call 51; refine (add_lo D k _ _ x2 x3 _ hs.out h64 (loN_lt _ HX0.out k)).mono ?_; rintro e w' ⟨rfl, hs', hb'⟩))
          go_roundg (gk - 1)
          case rel => exact ⟨k + 1, by go_num, by have := hgk.out; show _ = _; omega, by omega, by rw [loN_in hp h64, hiN_out (Or.inr h64)]; exact hs', hb.out.trans hb'⟩
          case measure => have := hgk.out; omega
        · go_wp2_with (first | (go_at_call 43; refine (f43 k _ hlt).mono ?_; rintro e w' ⟨rfl, hw⟩; subst hw) | (go_at_call 51; refine (add_hi D k _ _ x2 x3 _ hs.out (by omega) hlt (hiN_lt _ HX1.out k hk)).mono ?_; rintro e w' ⟨rfl, hs', hb'⟩))
          go_roundg (gk - 1)
          case rel => exact ⟨k + 1, by go_num, by have := hgk.out; show _ = _; omega, by omega, by rw [loN_out (Or.inr (by omega)), hiN_in hp (by omega)]; exact hs', hb.out.trans hb'⟩
          case measure => have := hgk.out; omega
      · have hp' : pCntrl k = false := by simpa using hp
        go_wp2_with (go_at_call 43; refine (f43 k _ hlt).mono ?_; rintro e w' ⟨rfl, hw⟩; subst hw)
        go_roundg (gk - 1)
        case rel => exact ⟨k + 1, by go_num, by have := hgk.out; show _ = _; omega, by omega, by rw [loN_out (Or.inl hp'), hiN_out (Or.inl hp')]; exact hs, hb⟩
        case measure => have := hgk.out; omega
    · obtain rfl : k = 128 := by omega
      go_wp2_with fail
      go_ret
      exact ⟨rfl, hs.out, hb.out⟩

set_option maxRecDepth 20000 in
set_option maxHeartbeats 400000 in
theorem cls_digit (D x0 x1 x2 x3 : Nat) (w : World) (h : SetAt w D x0 x1 x2 x3) (hx0 : x0 < 2 ^ 64) (hx1 : x1 < 2 ^ 64) :
    Calls Try.prog 34 #[.pointer (some ⟨D, 0, none⟩), .string (ByteArray.mk #[100, 105, 103, 105, 116])] w (RClass isDg D x0 x1 x2 x3 w) := by
  have HS : Hid (SetAt w D x0 x1 x2 x3) := h
  have HX0 : Hid (x0 < 2 ^ 64) := hx0
  have HX1 : Hid (x1 < 2 ^ 64) := hx1
  clear h hx0 hx1
  go_enter Try.func34, Try.ntmps34
  go_wp2_with fail
  go_loopg [32] 128 (fun gk i wr => ∃ k : Nat, i = .int .i64 k ∧ Hid (gk + k = 128) ∧ k ≤ 128 ∧ Hid (SetAt wr D (loN isDg x0 k) (hiN isDg x1 k) x2 x3) ∧ Hid (Below D w wr))
  case atStart => exact ⟨0, rfl, Nat.add_zero _, Nat.zero_le _, HS, Below.refl _ _⟩
  case round =>
    obtain ⟨k, rfl, hgk, hk, hs, hb⟩ := hrel
    by_cases hlt : k < 128
    · by_cases hp : isDg k = true
      · by_cases h64 : k < 64
        · go_wp2_with (first | (go_at_call 41; refine (f41 k _ hlt).mono ?_; rintro e w' ⟨rfl, hw⟩; subst hw) | (go_at_call 51; refine (add_lo D k _ _ x2 x3 _ hs.out h64 (loN_lt _ HX0.out k)).mono ?_; rintro e w' ⟨rfl, hs', hb'⟩))
          go_roundg (gk - 1)
          case rel => exact ⟨k + 1, by go_num, by have := hgk.out; show _ = _; omega, by omega, by rw [loN_in hp h64, hiN_out (Or.inr h64)]; exact hs', hb.out.trans hb'⟩
          case measure => have := hgk.out; omega
        · go_wp2_with (first | (go_at_call 41; refine (f41 k _ hlt).mono ?_; rintro e w' ⟨rfl, hw⟩; subst hw) | (go_at_call 51; refine (add_hi D k _ _ x2 x3 _ hs.out (by omega) hlt (hiN_lt _ HX1.out k hk)).mono ?_; rintro e w' ⟨rfl, hs', hb'⟩))
          go_roundg (gk - 1)
          case rel => exact ⟨k + 1, by go_num, by have := hgk.out; show _ = _; omega, by omega, by rw [loN_out (Or.inr (by omega)), hiN_in hp (by omega)]; exact hs', hb.out.trans hb'⟩
          case measure => have := hgk.out; omega
      · have hp' : isDg k = false := by simpa using hp
        go_wp2_with (go_at_call 41; refine (f41 k _ hlt).mono ?_; rintro e w' ⟨rfl, hw⟩; subst hw)
        go_roundg (gk - 1)
        case rel => exact ⟨k + 1, by go_num, by have := hgk.out; show _ = _; omega, by omega, by rw [loN_out (Or.inl hp'), hiN_out (Or.inl hp')]; exact hs, hb⟩
        case measure => have := hgk.out; omega
    · obtain rfl : k = 128 := by omega
      go_wp2_with fail
      go_ret
      exact ⟨rfl, hs.out, hb.out⟩

set_option maxRecDepth 20000 in
set_option maxHeartbeats 400000 in
theorem cls_graph (D x0 x1 x2 x3 : Nat) (w : World) (h : SetAt w D x0 x1 x2 x3) (hx0 : x0 < 2 ^ 64) (hx1 : x1 < 2 ^ 64) :
    Calls Try.prog 34 #[.pointer (some ⟨D, 0, none⟩), .string (ByteArray.mk #[103, 114, 97, 112, 104])] w (RClass pGraph D x0 x1 x2 x3 w) := by
  have HS : Hid (SetAt w D x0 x1 x2 x3) := h
  have HX0 : Hid (x0 < 2 ^ 64) := hx0
  have HX1 : Hid (x1 < 2 ^ 64) := hx1
  clear h hx0 hx1
  go_enter Try.func34, Try.ntmps34
  go_wp2_with fail
  go_loopg [32] 128 (fun gk i wr => ∃ k : Nat, i = .int .i64 k ∧ Hid (gk + k = 128) ∧ k ≤ 128 ∧ Hid (SetAt wr D (loN pGraph x0 k) (hiN pGraph x1 k) x2 x3) ∧ Hid (Below D w wr))
  case atStart => exact ⟨0, rfl, Nat.add_zero _, Nat.zero_le _, HS, Below.refl _ _⟩
  case round =>
    obtain ⟨k, rfl, hgk, hk, hs, hb⟩ := hrel
    by_cases hlt : k < 128
    · by_cases hp : pGraph k = true
      · by_cases h64 : k < 64
        · go_wp2_with (first | (go_at_call 44; refine (f44 k _ hlt).mono ?_; rintro e w' ⟨rfl, hw⟩; subst hw) | (go_at_call 51; refine (add_lo D k _ _ x2 x3 _ hs.out h64 (loN_lt _ HX0.out k)).mono ?_; rintro e w' ⟨rfl, hs', hb'⟩))
          go_roundg (gk - 1)
          case rel => exact ⟨k + 1, by go_num, by have := hgk.out; show _ = _; omega, by omega, by rw [loN_in hp h64, hiN_out (Or.inr h64)]; exact hs', hb.out.trans hb'⟩
          case measure => have := hgk.out; omega
        · go_wp2_with (first | (go_at_call 44; refine (f44 k _ hlt).mono ?_; rintro e w' ⟨rfl, hw⟩; subst hw) | (go_at_call 51; refine (add_hi D k _ _ x2 x3 _ hs.out (by omega) hlt (hiN_lt _ HX1.out k hk)).mono ?_; rintro e w' ⟨rfl, hs', hb'⟩))
          go_roundg (gk - 1)
          case rel => exact ⟨k + 1, by go_num, by have := hgk.out; show _ = _; omega, by omega, by rw [loN_out (Or.inr (by omega)), hiN_in hp (by omega)]; exact hs', hb.out.trans hb'⟩
          case measure => have := hgk.out; omega
      · have hp' : pGraph k = false := by simpa using hp
        go_wp2_with (go_at_call 44; refine (f44 k _ hlt).mono ?_; rintro e w' ⟨rfl, hw⟩; subst hw)
        go_roundg (gk - 1)
        case rel => exact ⟨k + 1, by go_num, by have := hgk.out; show _ = _; omega, by omega, by rw [loN_out (Or.inl hp'), hiN_out (Or.inl hp')]; exact hs, hb⟩
        case measure => have := hgk.out; omega
    · obtain rfl : k = 128 := by omega
      go_wp2_with fail
      go_ret
      exact ⟨rfl, hs.out, hb.out⟩

set_option maxRecDepth 20000 in
set_option maxHeartbeats 400000 in
theorem cls_lower (D x0 x1 x2 x3 : Nat) (w : World) (h : SetAt w D x0 x1 x2 x3) (hx0 : x0 < 2 ^ 64) (hx1 : x1 < 2 ^ 64) :
    Calls Try.prog 34 #[.pointer (some ⟨D, 0, none⟩), .string (ByteArray.mk #[108, 111, 119, 101, 114])] w (RClass pLower D x0 x1 x2 x3 w) := by
  have HS : Hid (SetAt w D x0 x1 x2 x3) := h
  have HX0 : Hid (x0 < 2 ^ 64) := hx0
  have HX1 : Hid (x1 < 2 ^ 64) := hx1
  clear h hx0 hx1
  go_enter Try.func34, Try.ntmps34
  go_wp2_with fail
  go_loopg [32] 128 (fun gk i wr => ∃ k : Nat, i = .int .i64 k ∧ Hid (gk + k = 128) ∧ k ≤ 128 ∧ Hid (SetAt wr D (loN pLower x0 k) (hiN pLower x1 k) x2 x3) ∧ Hid (Below D w wr))
  case atStart => exact ⟨0, rfl, Nat.add_zero _, Nat.zero_le _, HS, Below.refl _ _⟩
  case round =>
    obtain ⟨k, rfl, hgk, hk, hs, hb⟩ := hrel
    by_cases hlt : k < 128
    · by_cases hp : pLower k = true
      · by_cases h64 : k < 64
        · go_wp2_with (first | (go_at_call 45; refine (f45 k _ hlt).mono ?_; rintro e w' ⟨rfl, hw⟩; subst hw) | (go_at_call 51; refine (add_lo D k _ _ x2 x3 _ hs.out h64 (loN_lt _ HX0.out k)).mono ?_; rintro e w' ⟨rfl, hs', hb'⟩))
          go_roundg (gk - 1)
          case rel => exact ⟨k + 1, by go_num, by have := hgk.out; show _ = _; omega, by omega, by rw [loN_in hp h64, hiN_out (Or.inr h64)]; exact hs', hb.out.trans hb'⟩
          case measure => have := hgk.out; omega
        · go_wp2_with (first | (go_at_call 45; refine (f45 k _ hlt).mono ?_; rintro e w' ⟨rfl, hw⟩; subst hw) | (go_at_call 51; refine (add_hi D k _ _ x2 x3 _ hs.out (by omega) hlt (hiN_lt _ HX1.out k hk)).mono ?_; rintro e w' ⟨rfl, hs', hb'⟩))
          go_roundg (gk - 1)
          case rel => exact ⟨k + 1, by go_num, by have := hgk.out; show _ = _; omega, by omega, by rw [loN_out (Or.inr (by omega)), hiN_in hp (by omega)]; exact hs', hb.out.trans hb'⟩
          case measure => have := hgk.out; omega
      · have hp' : pLower k = false := by simpa using hp
        go_wp2_with (go_at_call 45; refine (f45 k _ hlt).mono ?_; rintro e w' ⟨rfl, hw⟩; subst hw)
        go_roundg (gk - 1)
        case rel => exact ⟨k + 1, by go_num, by have := hgk.out; show _ = _; omega, by omega, by rw [loN_out (Or.inl hp'), hiN_out (Or.inl hp')]; exact hs, hb⟩
        case measure => have := hgk.out; omega
    · obtain rfl : k = 128 := by omega
      go_wp2_with fail
      go_ret
      exact ⟨rfl, hs.out, hb.out⟩

set_option maxRecDepth 20000 in
set_option maxHeartbeats 400000 in
theorem cls_print (D x0 x1 x2 x3 : Nat) (w : World) (h : SetAt w D x0 x1 x2 x3) (hx0 : x0 < 2 ^ 64) (hx1 : x1 < 2 ^ 64) :
    Calls Try.prog 34 #[.pointer (some ⟨D, 0, none⟩), .string (ByteArray.mk #[112, 114, 105, 110, 116])] w (RClass pPrint D x0 x1 x2 x3 w) := by
  have HS : Hid (SetAt w D x0 x1 x2 x3) := h
  have HX0 : Hid (x0 < 2 ^ 64) := hx0
  have HX1 : Hid (x1 < 2 ^ 64) := hx1
  clear h hx0 hx1
  go_enter Try.func34, Try.ntmps34
  go_wp2_with fail
  go_loopg [32] 128 (fun gk i wr => ∃ k : Nat, i = .int .i64 k ∧ Hid (gk + k = 128) ∧ k ≤ 128 ∧ Hid (SetAt wr D (loN pPrint x0 k) (hiN pPrint x1 k) x2 x3) ∧ Hid (Below D w wr))
  case atStart => exact ⟨0, rfl, Nat.add_zero _, Nat.zero_le _, HS, Below.refl _ _⟩
  case round =>
    obtain ⟨k, rfl, hgk, hk, hs, hb⟩ := hrel
    by_cases hlt : k < 128
    · by_cases hp : pPrint k = true
      · by_cases h64 : k < 64
        · go_wp2_with (first | (go_at_call 46; refine (f46 k _ hlt).mono ?_; rintro e w' ⟨rfl, hw⟩; subst hw) | (go_at_call 51; refine (add_lo D k _ _ x2 x3 _ hs.out h64 (loN_lt _ HX0.out k)).mono ?_; rintro e w' ⟨rfl, hs', hb'⟩))
          go_roundg (gk - 1)
          case rel => exact ⟨k + 1, by go_num, by have := hgk.out; show _ = _; omega, by omega, by rw [loN_in hp h64, hiN_out (Or.inr h64)]; exact hs', hb.out.trans hb'⟩
          case measure => have := hgk.out; omega
        · go_wp2_with (first | (go_at_call 46; refine (f46 k _ hlt).mono ?_; rintro e w' ⟨rfl, hw⟩; subst hw) | (go_at_call 51; refine (add_hi D k _ _ x2 x3 _ hs.out (by omega) hlt (hiN_lt _ HX1.out k hk)).mono ?_; rintro e w' ⟨rfl, hs', hb'⟩))
          go_roundg (gk - 1)
          case rel => exact ⟨k + 1, by go_num, by have := hgk.out; show _ = _; omega, by omega, by rw [loN_out (Or.inr (by omega)), hiN_in hp (by omega)]; exact hs', hb.out.trans hb'⟩
          case measure => have := hgk.out; omega
      · have hp' : pPrint k = false := by simpa using hp
        go_wp2_with (go_at_call 46; refine (f46 k _ hlt).mono ?_; rintro e w' ⟨rfl, hw⟩; subst hw)
        go_roundg (gk - 1)
        case rel => exact ⟨k + 1, by go_num, by have := hgk.out; show _ = _; omega, by omega, by rw [loN_out (Or.inl hp'), hiN_out (Or.inl hp')]; exact hs, hb⟩
        case measure => have := hgk.out; omega
    · obtain rfl : k = 128 := by omega
      go_wp2_with fail
      go_ret
      exact ⟨rfl, hs.out, hb.out⟩

set_option maxRecDepth 20000 in
set_option maxHeartbeats 400000 in
theorem cls_punct (D x0 x1 x2 x3 : Nat) (w : World) (h : SetAt w D x0 x1 x2 x3) (hx0 : x0 < 2 ^ 64) (hx1 : x1 < 2 ^ 64) :
    Calls Try.prog 34 #[.pointer (some ⟨D, 0, none⟩), .string (ByteArray.mk #[112, 117, 110, 99, 116])] w (RClass pPunct D x0 x1 x2 x3 w) := by
  have HS : Hid (SetAt w D x0 x1 x2 x3) := h
  have HX0 : Hid (x0 < 2 ^ 64) := hx0
  have HX1 : Hid (x1 < 2 ^ 64) := hx1
  clear h hx0 hx1
  go_enter Try.func34, Try.ntmps34
  go_wp2_with fail
  go_loopg [32] 128 (fun gk i wr => ∃ k : Nat, i = .int .i64 k ∧ Hid (gk + k = 128) ∧ k ≤ 128 ∧ Hid (SetAt wr D (loN pPunct x0 k) (hiN pPunct x1 k) x2 x3) ∧ Hid (Below D w wr))
  case atStart => exact ⟨0, rfl, Nat.add_zero _, Nat.zero_le _, HS, Below.refl _ _⟩
  case round =>
    obtain ⟨k, rfl, hgk, hk, hs, hb⟩ := hrel
    by_cases hlt : k < 128
    · by_cases hp : pPunct k = true
      · by_cases h64 : k < 64
        · go_wp2_with (first | (go_at_call 47; refine (f47 k _ hlt).mono ?_; rintro e w' ⟨rfl, hw⟩; subst hw) | (go_at_call 51; refine (add_lo D k _ _ x2 x3 _ hs.out h64 (loN_lt _ HX0.out k)).mono ?_; rintro e w' ⟨rfl, hs', hb'⟩))
          go_roundg (gk - 1)
          case rel => exact ⟨k + 1, by go_num, by have := hgk.out; show _ = _; omega, by omega, by rw [loN_in hp h64, hiN_out (Or.inr h64)]; exact hs', hb.out.trans hb'⟩
          case measure => have := hgk.out; omega
        · go_wp2_with (first | (go_at_call 47; refine (f47 k _ hlt).mono ?_; rintro e w' ⟨rfl, hw⟩; subst hw) | (go_at_call 51; refine (add_hi D k _ _ x2 x3 _ hs.out (by omega) hlt (hiN_lt _ HX1.out k hk)).mono ?_; rintro e w' ⟨rfl, hs', hb'⟩))
          go_roundg (gk - 1)
          case rel => exact ⟨k + 1, by go_num, by have := hgk.out; show _ = _; omega, by omega, by rw [loN_out (Or.inr (by omega)), hiN_in hp (by omega)]; exact hs', hb.out.trans hb'⟩
          case measure => have := hgk.out; omega
      · have hp' : pPunct k = false := by simpa using hp
        go_wp2_with (go_at_call 47; refine (f47 k _ hlt).mono ?_; rintro e w' ⟨rfl, hw⟩; subst hw)
        go_roundg (gk - 1)
        case rel => exact ⟨k + 1, by go_num, by have := hgk.out; show _ = _; omega, by omega, by rw [loN_out (Or.inl hp'), hiN_out (Or.inl hp')]; exact hs, hb⟩
        case measure => have := hgk.out; omega
    · obtain rfl : k = 128 := by omega
      go_wp2_with fail
      go_ret
      exact ⟨rfl, hs.out, hb.out⟩

set_option maxRecDepth 20000 in
set_option maxHeartbeats 400000 in
theorem cls_space (D x0 x1 x2 x3 : Nat) (w : World) (h : SetAt w D x0 x1 x2 x3) (hx0 : x0 < 2 ^ 64) (hx1 : x1 < 2 ^ 64) :
    Calls Try.prog 34 #[.pointer (some ⟨D, 0, none⟩), .string (ByteArray.mk #[115, 112, 97, 99, 101])] w (RClass pSpace D x0 x1 x2 x3 w) := by
  have HS : Hid (SetAt w D x0 x1 x2 x3) := h
  have HX0 : Hid (x0 < 2 ^ 64) := hx0
  have HX1 : Hid (x1 < 2 ^ 64) := hx1
  clear h hx0 hx1
  go_enter Try.func34, Try.ntmps34
  go_wp2_with fail
  go_loopg [32] 128 (fun gk i wr => ∃ k : Nat, i = .int .i64 k ∧ Hid (gk + k = 128) ∧ k ≤ 128 ∧ Hid (SetAt wr D (loN pSpace x0 k) (hiN pSpace x1 k) x2 x3) ∧ Hid (Below D w wr))
  case atStart => exact ⟨0, rfl, Nat.add_zero _, Nat.zero_le _, HS, Below.refl _ _⟩
  case round =>
    obtain ⟨k, rfl, hgk, hk, hs, hb⟩ := hrel
    by_cases hlt : k < 128
    · by_cases hp : pSpace k = true
      · by_cases h64 : k < 64
        · go_wp2_with (first | (go_at_call 48; refine (f48 k _ hlt).mono ?_; rintro e w' ⟨rfl, hw⟩; subst hw) | (go_at_call 51; refine (add_lo D k _ _ x2 x3 _ hs.out h64 (loN_lt _ HX0.out k)).mono ?_; rintro e w' ⟨rfl, hs', hb'⟩))
          go_roundg (gk - 1)
          case rel => exact ⟨k + 1, by go_num, by have := hgk.out; show _ = _; omega, by omega, by rw [loN_in hp h64, hiN_out (Or.inr h64)]; exact hs', hb.out.trans hb'⟩
          case measure => have := hgk.out; omega
        · go_wp2_with (first | (go_at_call 48; refine (f48 k _ hlt).mono ?_; rintro e w' ⟨rfl, hw⟩; subst hw) | (go_at_call 51; refine (add_hi D k _ _ x2 x3 _ hs.out (by omega) hlt (hiN_lt _ HX1.out k hk)).mono ?_; rintro e w' ⟨rfl, hs', hb'⟩))
          go_roundg (gk - 1)
          case rel => exact ⟨k + 1, by go_num, by have := hgk.out; show _ = _; omega, by omega, by rw [loN_out (Or.inr (by omega)), hiN_in hp (by omega)]; exact hs', hb.out.trans hb'⟩
          case measure => have := hgk.out; omega
      · have hp' : pSpace k = false := by simpa using hp
        go_wp2_with (go_at_call 48; refine (f48 k _ hlt).mono ?_; rintro e w' ⟨rfl, hw⟩; subst hw)
        go_roundg (gk - 1)
        case rel => exact ⟨k + 1, by go_num, by have := hgk.out; show _ = _; omega, by omega, by rw [loN_out (Or.inl hp'), hiN_out (Or.inl hp')]; exact hs, hb⟩
        case measure => have := hgk.out; omega
    · obtain rfl : k = 128 := by omega
      go_wp2_with fail
      go_ret
      exact ⟨rfl, hs.out, hb.out⟩

set_option maxRecDepth 20000 in
set_option maxHeartbeats 400000 in
theorem cls_upper (D x0 x1 x2 x3 : Nat) (w : World) (h : SetAt w D x0 x1 x2 x3) (hx0 : x0 < 2 ^ 64) (hx1 : x1 < 2 ^ 64) :
    Calls Try.prog 34 #[.pointer (some ⟨D, 0, none⟩), .string (ByteArray.mk #[117, 112, 112, 101, 114])] w (RClass pUpper D x0 x1 x2 x3 w) := by
  have HS : Hid (SetAt w D x0 x1 x2 x3) := h
  have HX0 : Hid (x0 < 2 ^ 64) := hx0
  have HX1 : Hid (x1 < 2 ^ 64) := hx1
  clear h hx0 hx1
  go_enter Try.func34, Try.ntmps34
  go_wp2_with fail
  go_loopg [32] 128 (fun gk i wr => ∃ k : Nat, i = .int .i64 k ∧ Hid (gk + k = 128) ∧ k ≤ 128 ∧ Hid (SetAt wr D (loN pUpper x0 k) (hiN pUpper x1 k) x2 x3) ∧ Hid (Below D w wr))
  case atStart => exact ⟨0, rfl, Nat.add_zero _, Nat.zero_le _, HS, Below.refl _ _⟩
  case round =>
    obtain ⟨k, rfl, hgk, hk, hs, hb⟩ := hrel
    by_cases hlt : k < 128
    · by_cases hp : pUpper k = true
      · by_cases h64 : k < 64
        · go_wp2_with (first | (go_at_call 49; refine (f49 k _ hlt).mono ?_; rintro e w' ⟨rfl, hw⟩; subst hw) | (go_at_call 51; refine (add_lo D k _ _ x2 x3 _ hs.out h64 (loN_lt _ HX0.out k)).mono ?_; rintro e w' ⟨rfl, hs', hb'⟩))
          go_roundg (gk - 1)
          case rel => exact ⟨k + 1, by go_num, by have := hgk.out; show _ = _; omega, by omega, by rw [loN_in hp h64, hiN_out (Or.inr h64)]; exact hs', hb.out.trans hb'⟩
          case measure => have := hgk.out; omega
        · go_wp2_with (first | (go_at_call 49; refine (f49 k _ hlt).mono ?_; rintro e w' ⟨rfl, hw⟩; subst hw) | (go_at_call 51; refine (add_hi D k _ _ x2 x3 _ hs.out (by omega) hlt (hiN_lt _ HX1.out k hk)).mono ?_; rintro e w' ⟨rfl, hs', hb'⟩))
          go_roundg (gk - 1)
          case rel => exact ⟨k + 1, by go_num, by have := hgk.out; show _ = _; omega, by omega, by rw [loN_out (Or.inr (by omega)), hiN_in hp (by omega)]; exact hs', hb.out.trans hb'⟩
          case measure => have := hgk.out; omega
      · have hp' : pUpper k = false := by simpa using hp
        go_wp2_with (go_at_call 49; refine (f49 k _ hlt).mono ?_; rintro e w' ⟨rfl, hw⟩; subst hw)
        go_roundg (gk - 1)
        case rel => exact ⟨k + 1, by go_num, by have := hgk.out; show _ = _; omega, by omega, by rw [loN_out (Or.inl hp'), hiN_out (Or.inl hp')]; exact hs, hb⟩
        case measure => have := hgk.out; omega
    · obtain rfl : k = 128 := by omega
      go_wp2_with fail
      go_ret
      exact ⟨rfl, hs.out, hb.out⟩

set_option maxRecDepth 20000 in
set_option maxHeartbeats 400000 in
theorem cls_xdigit (D x0 x1 x2 x3 : Nat) (w : World) (h : SetAt w D x0 x1 x2 x3) (hx0 : x0 < 2 ^ 64) (hx1 : x1 < 2 ^ 64) :
    Calls Try.prog 34 #[.pointer (some ⟨D, 0, none⟩), .string (ByteArray.mk #[120, 100, 105, 103, 105, 116])] w (RClass pXdigit D x0 x1 x2 x3 w) := by
  have HS : Hid (SetAt w D x0 x1 x2 x3) := h
  have HX0 : Hid (x0 < 2 ^ 64) := hx0
  have HX1 : Hid (x1 < 2 ^ 64) := hx1
  clear h hx0 hx1
  go_enter Try.func34, Try.ntmps34
  go_wp2_with fail
  go_loopg [32] 128 (fun gk i wr => ∃ k : Nat, i = .int .i64 k ∧ Hid (gk + k = 128) ∧ k ≤ 128 ∧ Hid (SetAt wr D (loN pXdigit x0 k) (hiN pXdigit x1 k) x2 x3) ∧ Hid (Below D w wr))
  case atStart => exact ⟨0, rfl, Nat.add_zero _, Nat.zero_le _, HS, Below.refl _ _⟩
  case round =>
    obtain ⟨k, rfl, hgk, hk, hs, hb⟩ := hrel
    by_cases hlt : k < 128
    · by_cases hp : pXdigit k = true
      · by_cases h64 : k < 64
        · go_wp2_with (first | (go_at_call 50; refine (f50 k _ hlt).mono ?_; rintro e w' ⟨rfl, hw⟩; subst hw) | (go_at_call 51; refine (add_lo D k _ _ x2 x3 _ hs.out h64 (loN_lt _ HX0.out k)).mono ?_; rintro e w' ⟨rfl, hs', hb'⟩))
          go_roundg (gk - 1)
          case rel => exact ⟨k + 1, by go_num, by have := hgk.out; show _ = _; omega, by omega, by rw [loN_in hp h64, hiN_out (Or.inr h64)]; exact hs', hb.out.trans hb'⟩
          case measure => have := hgk.out; omega
        · go_wp2_with (first | (go_at_call 50; refine (f50 k _ hlt).mono ?_; rintro e w' ⟨rfl, hw⟩; subst hw) | (go_at_call 51; refine (add_hi D k _ _ x2 x3 _ hs.out (by omega) hlt (hiN_lt _ HX1.out k hk)).mono ?_; rintro e w' ⟨rfl, hs', hb'⟩))
          go_roundg (gk - 1)
          case rel => exact ⟨k + 1, by go_num, by have := hgk.out; show _ = _; omega, by omega, by rw [loN_out (Or.inr (by omega)), hiN_in hp (by omega)]; exact hs', hb.out.trans hb'⟩
          case measure => have := hgk.out; omega
      · have hp' : pXdigit k = false := by simpa using hp
        go_wp2_with (go_at_call 50; refine (f50 k _ hlt).mono ?_; rintro e w' ⟨rfl, hw⟩; subst hw)
        go_roundg (gk - 1)
        case rel => exact ⟨k + 1, by go_num, by have := hgk.out; show _ = _; omega, by omega, by rw [loN_out (Or.inl hp'), hiN_out (Or.inl hp')]; exact hs, hb⟩
        case measure => have := hgk.out; omega
    · obtain rfl : k = 128 := by omega
      go_wp2_with fail
      go_ret
      exact ⟨rfl, hs.out, hb.out⟩

end Go.Proofs.Qxb6602360a

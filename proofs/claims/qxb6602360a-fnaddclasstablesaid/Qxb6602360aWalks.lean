/-
  THE WALKS of byteSet.add (51) and of the kinds' tests.
-/
import Derived.Test.Qxb6602360aProg
import Derived.Test.Qxb6602360aPlain
import Derived.WalkKit
import Derived.Deep.LoopGhost
import Derived.Below
import Derived.RegionTactic
import Derived.BigRegion
import Derived.Laws.BitsAllLaws
namespace Go.Proofs.Qxb6602360a
open Go.RowKit Cl
set_option linter.unusedVariables false
set_option linter.unusedSimpArgs false

/-- A set of bytes in block D. -/
def SetAt (w : World) (D : Nat) (x0 x1 x2 x3 : Nat) : Prop :=
  (w.cell? ⟨D, 0, none⟩ = some (.int .u64 x0) ∧ w.frozen? ⟨D, 0, none⟩ = false) ∧ (w.cell? ⟨D, 1, none⟩ = some (.int .u64 x1) ∧ w.frozen? ⟨D, 1, none⟩ = false) ∧
  (w.cell? ⟨D, 2, none⟩ = some (.int .u64 x2) ∧ w.frozen? ⟨D, 2, none⟩ = false) ∧ (w.cell? ⟨D, 3, none⟩ = some (.int .u64 x3) ∧ w.frozen? ⟨D, 3, none⟩ = false)

theorem or_bit (x k : Nat) (hx : x < 2 ^ 64) (hk : k < 64) : bits .or .u64 (x : Int) (IntKind.u64.wrap (2 ^ k)) = ((x ||| 2 ^ k : Nat) : Int) := by
  have hp : 2 ^ k < 2 ^ 64 := Nat.pow_lt_pow_right (by decide) hk
  have e : IntKind.u64.wrap ((2 : Int) ^ k) = ((2 ^ k : Nat) : Int) := by
    rw [IntKind.wrap_u64]
    have : ((2 : Int) ^ k) = ((2 ^ k : Nat) : Int) := by simp
    rw [this]
    exact Int.emod_eq_of_lt (Int.natCast_nonneg _) (by have : ((2 ^ 64 : Nat) : Int) = 18446744073709551616 := by decide
                                                       omega)
  rw [e]
  exact u64_or_nat x (2 ^ k) (by have : (2 : Nat) ^ 64 = 18446744073709551616 := by decide
                                 omega) (by have : (2 : Nat) ^ 64 = 18446744073709551616 := by decide
                                            omega)

theorem cell_put (w : World) (D i j : Nat) (v u : Value) (h : w.cell? ⟨D, j, none⟩ = some u) : ((w.setCell ⟨D, i, none⟩ v).drew).cell? ⟨D, j, none⟩ = some (if j = i then v else u) := by
  show (w.setCell ⟨D, i, none⟩ v).cell? ⟨D, j, none⟩ = _
  by_cases e : j = i
  · subst e; rw [if_pos rfl]; exact World.cell?_setCell_same _ _ _ h
  · rw [if_neg e, World.cell?_setCell_other _ _ _ _ (by intro hh; injection hh; omega)]; exact h
theorem frozen_put (w : World) (D i j : Nat) (v : Value) : ((w.setCell ⟨D, i, none⟩ v).drew).frozen? ⟨D, j, none⟩ = w.frozen? ⟨D, j, none⟩ := by
  show (w.setCell ⟨D, i, none⟩ v).frozen? ⟨D, j, none⟩ = _
  simp

theorem below_put (w : World) (D i : Nat) (v : Value) : Below D w ((w.setCell ⟨D, i, none⟩ v).drew) := Below.drew (Below.setCell (p := ⟨D, i, none⟩) (Below.refl D w) (Nat.le_refl D) v)

def RAdd (D y0 y1 y2 y3 : Nat) (w : World) (e : Ending) (w' : World) : Prop := e = .returned (.tuple #[]) ∧ SetAt w' D y0 y1 y2 y3 ∧ Below D w w'

theorem add_lo (D b x0 x1 x2 x3 : Nat) (w : World) (h : SetAt w D x0 x1 x2 x3) (hb : b < 64) (hx : x0 < 2 ^ 64) :
    Calls Try.prog 51 #[.pointer (some ⟨D, 0, none⟩), .int .u8 b] w (RAdd D (x0 ||| 2 ^ b) x1 x2 x3 w) := by
  obtain ⟨⟨c0, z0⟩, ⟨c1, z1⟩, ⟨c2, z2⟩, ⟨c3, z3⟩⟩ := h
  have HX : Hid (x0 < 2 ^ 64) := hx
  clear hx
  have e0 : b / 64 = 0 := by omega
  have c0' : w.cell? ⟨D, b / 64, none⟩ = some (.int .u64 x0) := by rw [e0]; exact c0
  have z0' : w.frozen? ⟨D, b / 64, none⟩ = false := by rw [e0]; exact z0
  have E0 : Hid (b / 64 = 0) := e0
  clear e0
  go_enter Try.func51, Try.ntmps51
  go_region
  go_end0
  refine ⟨rfl, ?_, below_put _ _ _ _⟩
  rw [E0.out, show b % 64 = b by omega, or_bit x0 b HX.out hb]
  exact ⟨⟨by rw [cell_put w D 0 0 _ _ c0]; rfl, by rw [frozen_put]; exact z0⟩, ⟨by rw [cell_put w D 0 1 _ _ c1]; rfl, by rw [frozen_put]; exact z1⟩,
    ⟨by rw [cell_put w D 0 2 _ _ c2]; rfl, by rw [frozen_put]; exact z2⟩, ⟨by rw [cell_put w D 0 3 _ _ c3]; rfl, by rw [frozen_put]; exact z3⟩⟩

theorem add_hi (D b x0 x1 x2 x3 : Nat) (w : World) (h : SetAt w D x0 x1 x2 x3) (hb : 64 ≤ b) (hb2 : b < 128) (hx : x1 < 2 ^ 64) :
    Calls Try.prog 51 #[.pointer (some ⟨D, 0, none⟩), .int .u8 b] w (RAdd D x0 (x1 ||| 2 ^ (b - 64)) x2 x3 w) := by
  obtain ⟨⟨c0, z0⟩, ⟨c1, z1⟩, ⟨c2, z2⟩, ⟨c3, z3⟩⟩ := h
  have HX : Hid (x1 < 2 ^ 64) := hx
  clear hx
  have e0 : b / 64 = 1 := by omega
  have c1' : w.cell? ⟨D, b / 64, none⟩ = some (.int .u64 x1) := by rw [e0]; exact c1
  have z1' : w.frozen? ⟨D, b / 64, none⟩ = false := by rw [e0]; exact z1
  have E0 : Hid (b / 64 = 1) := e0
  clear e0
  go_enter Try.func51, Try.ntmps51
  go_region
  go_end0
  refine ⟨rfl, ?_, below_put _ _ _ _⟩
  rw [E0.out, show b % 64 = b - 64 by omega, or_bit x1 (b - 64) HX.out (by omega)]
  exact ⟨⟨by rw [cell_put w D 1 0 _ _ c0]; rfl, by rw [frozen_put]; exact z0⟩, ⟨by rw [cell_put w D 1 1 _ _ c1]; rfl, by rw [frozen_put]; exact z1⟩,
    ⟨by rw [cell_put w D 1 2 _ _ c2]; rfl, by rw [frozen_put]; exact z2⟩, ⟨by rw [cell_put w D 1 3 _ _ c3]; rfl, by rw [frozen_put]; exact z3⟩⟩

/-! ### the tests -/
theorem f40 (b : Nat) (w : World) (hb : b < 128) : Calls Try.prog 40 #[.int .u8 (b : Nat)] w fun e w' => e = .returned (.bool (isL b)) ∧ w' = w := by
  by_cases h0 : (97 : Int) ≤ (b : Int)
  · have d0 : decide ((97 : Int) ≤ (b : Int)) = true := decide_eq_true h0
    by_cases h1 : (b : Int) ≤ 122
    · have d1 : decide ((b : Int) ≤ 122) = true := decide_eq_true h1
      have HV : isL b = true := by unfold isL; simp only [Bool.or_eq_true, Bool.and_eq_true, decide_eq_true_eq, beq_iff_eq]; omega
      rw [HV]; clear HV
      go_enter Try.func40, Try.ntmps40
      go_wp2_with fail
      go_ret
      exact ⟨rfl, rfl⟩
    · have d1 : decide ((b : Int) ≤ 122) = false := decide_eq_false h1
      have dd : decide ((b : Int) ≤ 90) = false := decide_eq_false (by omega)
      have HV : isL b = false := by unfold isL; simp only [Bool.or_eq_false_iff, Bool.and_eq_false_iff, decide_eq_false_iff_not, beq_eq_false_iff_ne]; omega
      rw [HV]; clear HV
      go_enter Try.func40, Try.ntmps40
      go_wp2_with fail
      go_ret
      exact ⟨rfl, rfl⟩
  · have d0 : decide ((97 : Int) ≤ (b : Int)) = false := decide_eq_false h0
    by_cases h1 : (65 : Int) ≤ (b : Int)
    · have d1 : decide ((65 : Int) ≤ (b : Int)) = true := decide_eq_true h1
      by_cases h2 : (b : Int) ≤ 90
      · have d2 : decide ((b : Int) ≤ 90) = true := decide_eq_true h2
        have HV : isL b = true := by unfold isL; simp only [Bool.or_eq_true, Bool.and_eq_true, decide_eq_true_eq, beq_iff_eq]; omega
        rw [HV]; clear HV
        go_enter Try.func40, Try.ntmps40
        go_wp2_with fail
        go_ret
        exact ⟨rfl, rfl⟩
      · have d2 : decide ((b : Int) ≤ 90) = false := decide_eq_false h2
        have HV : isL b = false := by unfold isL; simp only [Bool.or_eq_false_iff, Bool.and_eq_false_iff, decide_eq_false_iff_not, beq_eq_false_iff_ne]; omega
        rw [HV]; clear HV
        go_enter Try.func40, Try.ntmps40
        go_wp2_with fail
        go_ret
        exact ⟨rfl, rfl⟩
    · have d1 : decide ((65 : Int) ≤ (b : Int)) = false := decide_eq_false h1
      have HV : isL b = false := by unfold isL; simp only [Bool.or_eq_false_iff, Bool.and_eq_false_iff, decide_eq_false_iff_not, beq_eq_false_iff_ne]; omega
      rw [HV]; clear HV
      go_enter Try.func40, Try.ntmps40
      go_wp2_with fail
      go_ret
      exact ⟨rfl, rfl⟩

theorem f41 (b : Nat) (w : World) (hb : b < 128) : Calls Try.prog 41 #[.int .u8 (b : Nat)] w fun e w' => e = .returned (.bool (isDg b)) ∧ w' = w := by
  by_cases h0 : (48 : Int) ≤ (b : Int)
  · have d0 : decide ((48 : Int) ≤ (b : Int)) = true := decide_eq_true h0
    by_cases h1 : (b : Int) ≤ 57
    · have d1 : decide ((b : Int) ≤ 57) = true := decide_eq_true h1
      have HV : isDg b = true := by unfold isDg; simp only [Bool.or_eq_true, Bool.and_eq_true, decide_eq_true_eq, beq_iff_eq]; omega
      rw [HV]; clear HV
      go_enter Try.func41, Try.ntmps41
      go_wp2_with fail
      go_ret
      exact ⟨rfl, rfl⟩
    · have d1 : decide ((b : Int) ≤ 57) = false := decide_eq_false h1
      have HV : isDg b = false := by unfold isDg; simp only [Bool.or_eq_false_iff, Bool.and_eq_false_iff, decide_eq_false_iff_not, beq_eq_false_iff_ne]; omega
      rw [HV]; clear HV
      go_enter Try.func41, Try.ntmps41
      go_wp2_with fail
      go_ret
      exact ⟨rfl, rfl⟩
  · have d0 : decide ((48 : Int) ≤ (b : Int)) = false := decide_eq_false h0
    have HV : isDg b = false := by unfold isDg; simp only [Bool.or_eq_false_iff, Bool.and_eq_false_iff, decide_eq_false_iff_not, beq_eq_false_iff_ne]; omega
    rw [HV]; clear HV
    go_enter Try.func41, Try.ntmps41
    go_wp2_with fail
    go_ret
    exact ⟨rfl, rfl⟩

theorem f45 (b : Nat) (w : World) (hb : b < 128) : Calls Try.prog 45 #[.int .u8 (b : Nat)] w fun e w' => e = .returned (.bool (pLower b)) ∧ w' = w := by
  by_cases h0 : (97 : Int) ≤ (b : Int)
  · have d0 : decide ((97 : Int) ≤ (b : Int)) = true := decide_eq_true h0
    by_cases h1 : (b : Int) ≤ 122
    · have d1 : decide ((b : Int) ≤ 122) = true := decide_eq_true h1
      have HV : pLower b = true := by unfold pLower; simp only [Bool.or_eq_true, Bool.and_eq_true, decide_eq_true_eq, beq_iff_eq]; omega
      rw [HV]; clear HV
      go_enter Try.func45, Try.ntmps45
      go_wp2_with fail
      go_ret
      exact ⟨rfl, rfl⟩
    · have d1 : decide ((b : Int) ≤ 122) = false := decide_eq_false h1
      have HV : pLower b = false := by unfold pLower; simp only [Bool.or_eq_false_iff, Bool.and_eq_false_iff, decide_eq_false_iff_not, beq_eq_false_iff_ne]; omega
      rw [HV]; clear HV
      go_enter Try.func45, Try.ntmps45
      go_wp2_with fail
      go_ret
      exact ⟨rfl, rfl⟩
  · have d0 : decide ((97 : Int) ≤ (b : Int)) = false := decide_eq_false h0
    have HV : pLower b = false := by unfold pLower; simp only [Bool.or_eq_false_iff, Bool.and_eq_false_iff, decide_eq_false_iff_not, beq_eq_false_iff_ne]; omega
    rw [HV]; clear HV
    go_enter Try.func45, Try.ntmps45
    go_wp2_with fail
    go_ret
    exact ⟨rfl, rfl⟩

theorem f49 (b : Nat) (w : World) (hb : b < 128) : Calls Try.prog 49 #[.int .u8 (b : Nat)] w fun e w' => e = .returned (.bool (pUpper b)) ∧ w' = w := by
  by_cases h0 : (65 : Int) ≤ (b : Int)
  · have d0 : decide ((65 : Int) ≤ (b : Int)) = true := decide_eq_true h0
    by_cases h1 : (b : Int) ≤ 90
    · have d1 : decide ((b : Int) ≤ 90) = true := decide_eq_true h1
      have HV : pUpper b = true := by unfold pUpper; simp only [Bool.or_eq_true, Bool.and_eq_true, decide_eq_true_eq, beq_iff_eq]; omega
      rw [HV]; clear HV
      go_enter Try.func49, Try.ntmps49
      go_wp2_with fail
      go_ret
      exact ⟨rfl, rfl⟩
    · have d1 : decide ((b : Int) ≤ 90) = false := decide_eq_false h1
      have HV : pUpper b = false := by unfold pUpper; simp only [Bool.or_eq_false_iff, Bool.and_eq_false_iff, decide_eq_false_iff_not, beq_eq_false_iff_ne]; omega
      rw [HV]; clear HV
      go_enter Try.func49, Try.ntmps49
      go_wp2_with fail
      go_ret
      exact ⟨rfl, rfl⟩
  · have d0 : decide ((65 : Int) ≤ (b : Int)) = false := decide_eq_false h0
    have HV : pUpper b = false := by unfold pUpper; simp only [Bool.or_eq_false_iff, Bool.and_eq_false_iff, decide_eq_false_iff_not, beq_eq_false_iff_ne]; omega
    rw [HV]; clear HV
    go_enter Try.func49, Try.ntmps49
    go_wp2_with fail
    go_ret
    exact ⟨rfl, rfl⟩

theorem f44 (b : Nat) (w : World) (hb : b < 128) : Calls Try.prog 44 #[.int .u8 (b : Nat)] w fun e w' => e = .returned (.bool (pGraph b)) ∧ w' = w := by
  by_cases h0 : (32 : Int) < (b : Int)
  · have d0 : decide ((32 : Int) < (b : Int)) = true := decide_eq_true h0
    by_cases h1 : (b : Int) < 127
    · have d1 : decide ((b : Int) < 127) = true := decide_eq_true h1
      have HV : pGraph b = true := by unfold pGraph; simp only [Bool.or_eq_true, Bool.and_eq_true, decide_eq_true_eq, beq_iff_eq]; omega
      rw [HV]; clear HV
      go_enter Try.func44, Try.ntmps44
      go_wp2_with fail
      go_ret
      exact ⟨rfl, rfl⟩
    · have d1 : decide ((b : Int) < 127) = false := decide_eq_false h1
      have HV : pGraph b = false := by unfold pGraph; simp only [Bool.or_eq_false_iff, Bool.and_eq_false_iff, decide_eq_false_iff_not, beq_eq_false_iff_ne]; omega
      rw [HV]; clear HV
      go_enter Try.func44, Try.ntmps44
      go_wp2_with fail
      go_ret
      exact ⟨rfl, rfl⟩
  · have d0 : decide ((32 : Int) < (b : Int)) = false := decide_eq_false h0
    have HV : pGraph b = false := by unfold pGraph; simp only [Bool.or_eq_false_iff, Bool.and_eq_false_iff, decide_eq_false_iff_not, beq_eq_false_iff_ne]; omega
    rw [HV]; clear HV
    go_enter Try.func44, Try.ntmps44
    go_wp2_with fail
    go_ret
    exact ⟨rfl, rfl⟩

theorem f46 (b : Nat) (w : World) (hb : b < 128) : Calls Try.prog 46 #[.int .u8 (b : Nat)] w fun e w' => e = .returned (.bool (pPrint b)) ∧ w' = w := by
  by_cases h0 : (32 : Int) ≤ (b : Int)
  · have d0 : decide ((32 : Int) ≤ (b : Int)) = true := decide_eq_true h0
    by_cases h1 : (b : Int) < 127
    · have d1 : decide ((b : Int) < 127) = true := decide_eq_true h1
      have HV : pPrint b = true := by unfold pPrint; simp only [Bool.or_eq_true, Bool.and_eq_true, decide_eq_true_eq, beq_iff_eq]; omega
      rw [HV]; clear HV
      go_enter Try.func46, Try.ntmps46
      go_wp2_with fail
      go_ret
      exact ⟨rfl, rfl⟩
    · have d1 : decide ((b : Int) < 127) = false := decide_eq_false h1
      have HV : pPrint b = false := by unfold pPrint; simp only [Bool.or_eq_false_iff, Bool.and_eq_false_iff, decide_eq_false_iff_not, beq_eq_false_iff_ne]; omega
      rw [HV]; clear HV
      go_enter Try.func46, Try.ntmps46
      go_wp2_with fail
      go_ret
      exact ⟨rfl, rfl⟩
  · have d0 : decide ((32 : Int) ≤ (b : Int)) = false := decide_eq_false h0
    have HV : pPrint b = false := by unfold pPrint; simp only [Bool.or_eq_false_iff, Bool.and_eq_false_iff, decide_eq_false_iff_not, beq_eq_false_iff_ne]; omega
    rw [HV]; clear HV
    go_enter Try.func46, Try.ntmps46
    go_wp2_with fail
    go_ret
    exact ⟨rfl, rfl⟩

theorem f43 (b : Nat) (w : World) (hb : b < 128) : Calls Try.prog 43 #[.int .u8 (b : Nat)] w fun e w' => e = .returned (.bool (pCntrl b)) ∧ w' = w := by
  by_cases h0 : (b : Int) < 32
  · have d0 : decide ((b : Int) < 32) = true := decide_eq_true h0
    have HV : pCntrl b = true := by unfold pCntrl; simp only [Bool.or_eq_true, Bool.and_eq_true, decide_eq_true_eq, beq_iff_eq]; omega
    rw [HV]; clear HV
    go_enter Try.func43, Try.ntmps43
    go_wp2_with fail
    go_ret
    exact ⟨rfl, rfl⟩
  · have d0 : decide ((b : Int) < 32) = false := decide_eq_false h0
    by_cases h1 : (b : Int) = 127
    · have d1 : ((b : Int) == 127) = true := by rw [h1]; rfl
      have HV : pCntrl b = true := by unfold pCntrl; simp only [Bool.or_eq_true, Bool.and_eq_true, decide_eq_true_eq, beq_iff_eq]; omega
      rw [HV]; clear HV
      go_enter Try.func43, Try.ntmps43
      go_wp2_with fail
      go_ret
      exact ⟨rfl, rfl⟩
    · have d1 : ((b : Int) == 127) = false := by simp only [beq_eq_false_iff_ne]; exact h1
      have HV : pCntrl b = false := by unfold pCntrl; simp only [Bool.or_eq_false_iff, Bool.and_eq_false_iff, decide_eq_false_iff_not, beq_eq_false_iff_ne]; omega
      rw [HV]; clear HV
      go_enter Try.func43, Try.ntmps43
      go_wp2_with fail
      go_ret
      exact ⟨rfl, rfl⟩

theorem f42 (b : Nat) (w : World) (hb : b < 128) : Calls Try.prog 42 #[.int .u8 (b : Nat)] w fun e w' => e = .returned (.bool (pBlank b)) ∧ w' = w := by
  by_cases h0 : (b : Int) = 32
  · have d0 : ((b : Int) == 32) = true := by rw [h0]; rfl
    have HV : pBlank b = true := by unfold pBlank; simp only [Bool.or_eq_true, Bool.and_eq_true, decide_eq_true_eq, beq_iff_eq]; omega
    rw [HV]; clear HV
    go_enter Try.func42, Try.ntmps42
    go_wp2_with fail
    go_ret
    exact ⟨rfl, rfl⟩
  · have d0 : ((b : Int) == 32) = false := by simp only [beq_eq_false_iff_ne]; exact h0
    by_cases h1 : (b : Int) = 9
    · have d1 : ((b : Int) == 9) = true := by rw [h1]; rfl
      have HV : pBlank b = true := by unfold pBlank; simp only [Bool.or_eq_true, Bool.and_eq_true, decide_eq_true_eq, beq_iff_eq]; omega
      rw [HV]; clear HV
      go_enter Try.func42, Try.ntmps42
      go_wp2_with fail
      go_ret
      exact ⟨rfl, rfl⟩
    · have d1 : ((b : Int) == 9) = false := by simp only [beq_eq_false_iff_ne]; exact h1
      have HV : pBlank b = false := by unfold pBlank; simp only [Bool.or_eq_false_iff, Bool.and_eq_false_iff, decide_eq_false_iff_not, beq_eq_false_iff_ne]; omega
      rw [HV]; clear HV
      go_enter Try.func42, Try.ntmps42
      go_wp2_with fail
      go_ret
      exact ⟨rfl, rfl⟩

theorem f48 (b : Nat) (w : World) (hb : b < 128) : Calls Try.prog 48 #[.int .u8 (b : Nat)] w fun e w' => e = .returned (.bool (pSpace b)) ∧ w' = w := by
  by_cases h0 : (b : Int) = 32
  · have d0 : ((b : Int) == 32) = true := by rw [h0]; rfl
    have HV : pSpace b = true := by unfold pSpace; simp only [Bool.or_eq_true, Bool.and_eq_true, decide_eq_true_eq, beq_iff_eq]; omega
    rw [HV]; clear HV
    go_enter Try.func48, Try.ntmps48
    go_wp2_with fail
    go_ret
    exact ⟨rfl, rfl⟩
  · have d0 : ((b : Int) == 32) = false := by simp only [beq_eq_false_iff_ne]; exact h0
    by_cases h1 : (b : Int) = 9
    · have d1 : ((b : Int) == 9) = true := by rw [h1]; rfl
      have HV : pSpace b = true := by unfold pSpace; simp only [Bool.or_eq_true, Bool.and_eq_true, decide_eq_true_eq, beq_iff_eq]; omega
      rw [HV]; clear HV
      go_enter Try.func48, Try.ntmps48
      go_wp2_with fail
      go_ret
      exact ⟨rfl, rfl⟩
    · have d1 : ((b : Int) == 9) = false := by simp only [beq_eq_false_iff_ne]; exact h1
      by_cases h2 : (b : Int) = 10
      · have d2 : ((b : Int) == 10) = true := by rw [h2]; rfl
        have HV : pSpace b = true := by unfold pSpace; simp only [Bool.or_eq_true, Bool.and_eq_true, decide_eq_true_eq, beq_iff_eq]; omega
        rw [HV]; clear HV
        go_enter Try.func48, Try.ntmps48
        go_wp2_with fail
        go_ret
        exact ⟨rfl, rfl⟩
      · have d2 : ((b : Int) == 10) = false := by simp only [beq_eq_false_iff_ne]; exact h2
        by_cases h3 : (b : Int) = 13
        · have d3 : ((b : Int) == 13) = true := by rw [h3]; rfl
          have HV : pSpace b = true := by unfold pSpace; simp only [Bool.or_eq_true, Bool.and_eq_true, decide_eq_true_eq, beq_iff_eq]; omega
          rw [HV]; clear HV
          go_enter Try.func48, Try.ntmps48
          go_wp2_with fail
          go_ret
          exact ⟨rfl, rfl⟩
        · have d3 : ((b : Int) == 13) = false := by simp only [beq_eq_false_iff_ne]; exact h3
          have HV : pSpace b = false := by unfold pSpace; simp only [Bool.or_eq_false_iff, Bool.and_eq_false_iff, decide_eq_false_iff_not, beq_eq_false_iff_ne]; omega
          rw [HV]; clear HV
          go_enter Try.func48, Try.ntmps48
          go_wp2_with fail
          go_ret
          exact ⟨rfl, rfl⟩

theorem f39 (b : Nat) (w : World) (hb : b < 128) : Calls Try.prog 39 #[.int .u8 (b : Nat)] w fun e w' => e = .returned (.bool (pAlnum b)) ∧ w' = w := by
  by_cases h : isL b = true
  · have HV : pAlnum b = true := by simp [pAlnum, h]
    rw [HV]; clear HV
    go_enter Try.func39, Try.ntmps39
    go_wp2_with (first | (go_at_call 40; refine (f40 _ _ hb).mono ?_; rintro e w' ⟨rfl, hw⟩; subst hw) | (go_at_call 41; refine (f41 _ _ hb).mono ?_; rintro e w' ⟨rfl, hw⟩; subst hw))
    go_ret
    exact ⟨rfl, rfl⟩
  · have h' : isL b = false := by simpa using h
    clear h
    have HV : pAlnum b = isDg b := by simp [pAlnum, h']
    rw [HV]; clear HV
    go_enter Try.func39, Try.ntmps39
    go_wp2_with (first | (go_at_call 40; refine (f40 _ _ hb).mono ?_; rintro e w' ⟨rfl, hw⟩; subst hw) | (go_at_call 41; refine (f41 _ _ hb).mono ?_; rintro e w' ⟨rfl, hw⟩; subst hw))
    go_ret
    exact ⟨rfl, rfl⟩

theorem f47 (b : Nat) (w : World) (hb : b < 128) : Calls Try.prog 47 #[.int .u8 (b : Nat)] w fun e w' => e = .returned (.bool (pPunct b)) ∧ w' = w := by
  by_cases h1 : (32 : Int) < (b : Int)
  · have d1 : decide ((32 : Int) < (b : Int)) = true := decide_eq_true h1
    by_cases h2 : (b : Int) < 127
    · have d2 : decide ((b : Int) < 127) = true := decide_eq_true h2
      have n1 : decide (32 < b) = true := decide_eq_true (by omega)
      have n2 : decide (b < 127) = true := decide_eq_true (by omega)
      by_cases h : isL b = true
      · have HV : pPunct b = false := by simp [pPunct, h]
        rw [HV]; clear HV
        go_enter Try.func47, Try.ntmps47
        go_wp2_with (first | (go_at_call 40; refine (f40 _ _ hb).mono ?_; rintro e w' ⟨rfl, hw⟩; subst hw) | (go_at_call 41; refine (f41 _ _ hb).mono ?_; rintro e w' ⟨rfl, hw⟩; subst hw))
        go_ret
        exact ⟨rfl, rfl⟩
      · have h' : isL b = false := by simpa using h
        clear h
        have HV : pPunct b = !isDg b := by unfold pPunct; rw [n1, n2, h']; rfl
        rw [HV]; clear HV
        go_enter Try.func47, Try.ntmps47
        go_wp2_with (first | (go_at_call 40; refine (f40 _ _ hb).mono ?_; rintro e w' ⟨rfl, hw⟩; subst hw) | (go_at_call 41; refine (f41 _ _ hb).mono ?_; rintro e w' ⟨rfl, hw⟩; subst hw))
        go_ret
        exact ⟨rfl, rfl⟩
    · have d2 : decide ((b : Int) < 127) = false := decide_eq_false h2
      have n2 : decide (b < 127) = false := decide_eq_false (by omega)
      have HV : pPunct b = false := by unfold pPunct; rw [n2]; simp
      rw [HV]; clear HV
      go_enter Try.func47, Try.ntmps47
      go_wp2_with fail
      go_ret
      exact ⟨rfl, rfl⟩
  · have d1 : decide ((32 : Int) < (b : Int)) = false := decide_eq_false h1
    have n1 : decide (32 < b) = false := decide_eq_false (by omega)
    have HV : pPunct b = false := by unfold pPunct; rw [n1]; simp
    rw [HV]; clear HV
    go_enter Try.func47, Try.ntmps47
    go_wp2_with fail
    go_ret
    exact ⟨rfl, rfl⟩

theorem f50 (b : Nat) (w : World) (hb : b < 128) : Calls Try.prog 50 #[.int .u8 (b : Nat)] w fun e w' => e = .returned (.bool (pXdigit b)) ∧ w' = w := by
  by_cases h : isDg b = true
  · have HV : pXdigit b = true := by simp [pXdigit, h]
    rw [HV]; clear HV
    go_enter Try.func50, Try.ntmps50
    go_wp2_with (first | (go_at_call 40; refine (f40 _ _ hb).mono ?_; rintro e w' ⟨rfl, hw⟩; subst hw) | (go_at_call 41; refine (f41 _ _ hb).mono ?_; rintro e w' ⟨rfl, hw⟩; subst hw))
    go_ret
    exact ⟨rfl, rfl⟩
  · have h' : isDg b = false := by simpa using h
    clear h
    have ho : bits .or .u8 (b : Int) 32 = ((b ||| 32 : Nat) : Int) := u8_or_nat b 32 (by omega) (by omega)
    have HV : pXdigit b = (decide (97 ≤ b ||| 32) && decide (b ||| 32 ≤ 102)) := by simp [pXdigit, h']
    rw [HV]; clear HV
    generalize b ||| 32 = z at ho ⊢
    by_cases h1 : (97 : Int) ≤ (z : Int)
    · have d1 : decide ((97 : Int) ≤ (z : Int)) = true := decide_eq_true h1
      by_cases h2 : (z : Int) ≤ 102
      · have HV : (decide (97 ≤ z) && decide (z ≤ 102)) = true := by simp only [Bool.and_eq_true, decide_eq_true_eq]; omega
        rw [HV]; clear HV
        go_enter Try.func50, Try.ntmps50
        go_wp2_with (first | (go_at_call 40; refine (f40 _ _ hb).mono ?_; rintro e w' ⟨rfl, hw⟩; subst hw) | (go_at_call 41; refine (f41 _ _ hb).mono ?_; rintro e w' ⟨rfl, hw⟩; subst hw))
        go_ret
        exact ⟨rfl, rfl⟩
      · have HV : (decide (97 ≤ z) && decide (z ≤ 102)) = false := by simp only [Bool.and_eq_false_iff, decide_eq_false_iff_not]; omega
        have d2 : decide ((z : Int) ≤ 102) = false := decide_eq_false h2
        rw [HV]; clear HV
        go_enter Try.func50, Try.ntmps50
        go_wp2_with (first | (go_at_call 40; refine (f40 _ _ hb).mono ?_; rintro e w' ⟨rfl, hw⟩; subst hw) | (go_at_call 41; refine (f41 _ _ hb).mono ?_; rintro e w' ⟨rfl, hw⟩; subst hw))
        go_ret
        exact ⟨rfl, rfl⟩
    · have d1 : decide ((97 : Int) ≤ (z : Int)) = false := decide_eq_false h1
      have HV : (decide (97 ≤ z) && decide (z ≤ 102)) = false := by simp only [Bool.and_eq_false_iff, decide_eq_false_iff_not]; omega
      rw [HV]; clear HV
      go_enter Try.func50, Try.ntmps50
      go_wp2_with (first | (go_at_call 40; refine (f40 _ _ hb).mono ?_; rintro e w' ⟨rfl, hw⟩; subst hw) | (go_at_call 41; refine (f41 _ _ hb).mono ?_; rintro e w' ⟨rfl, hw⟩; subst hw))
      go_ret
      exact ⟨rfl, rfl⟩

end Go.Proofs.Qxb6602360a

/-
  THE WALK of FnAddClassAlgebra (5): over whatever answers the fifteen calls give. (Typed by a small program.)
-/
import Derived.Test.Qxb6602360aEq
import Derived.Deep.RegionWith
import Derived.Deep.QuietTactic
import Derived.BigQuiet
import Derived.Deep.DeepCutAuto
import Derived.WalkSmall
namespace Go.Proofs.Qxb6602360a
open Go.RowKit Cl
set_option linter.unusedVariables false

/-- A set in a box. -/
def Boxed (w : World) (B y0 y1 y2 y3 : Nat) : Prop :=
  w.cell? ⟨B, 0, none⟩ = some (.int .u64 y0) ∧ w.cell? ⟨B, 1, none⟩ = some (.int .u64 y1) ∧ w.cell? ⟨B, 2, none⟩ = some (.int .u64 y2) ∧ w.cell? ⟨B, 3, none⟩ = some (.int .u64 y3)
theorem Boxed.ext {w w' : World} {B y0 y1 y2 y3 : Nat} (h : Boxed w B y0 y1 y2 y3) (hx : Ext w w') : Boxed w' B y0 y1 y2 y3 := by
  obtain ⟨h0, h1, h2, h3⟩ := h
  have hlt : B < w.heap.size := World.block_lt_of_cell? _ _ h0
  exact ⟨by rw [Below.cell (p := ⟨B, 0, none⟩) hx hlt]; exact h0, by rw [Below.cell (p := ⟨B, 1, none⟩) hx hlt]; exact h1, by rw [Below.cell (p := ⟨B, 2, none⟩) hx hlt]; exact h2, by rw [Below.cell (p := ⟨B, 3, none⟩) hx hlt]; exact h3⟩
theorem boxed_new (w : World) (y0 y1 y2 y3 : Nat) (t : TypeId) : Boxed (w.alloc (.cells #[.int .u64 y0, .int .u64 y1, .int .u64 y2, .int .u64 y3] t)) w.heap.size y0 y1 y2 y3 := by
  refine ⟨?_, ?_, ?_, ?_⟩ <;> (rw [World.cell?_alloc_at _ _ _ _ rfl]; rfl)

theorem Boxed.drew {w : World} {B y0 y1 y2 y3 : Nat} (h : Boxed w B y0 y1 y2 y3) : Boxed w.drew B y0 y1 y2 y3 := h
theorem boxed_after {w w' : World} {B y0 y1 y2 y3 : Nat} (h : Boxed w B y0 y1 y2 y3) (hx : Ext w.drew w') : Boxed w' B y0 y1 y2 y3 := h.drew.ext hx
theorem ext_drew {w w1 : World} (h : Ext w w1) : Ext w w1.drew := Below.drew h

/-- All ones. (Behind a name.) -/
def full : Int := 18446744073709551615

/-- The words of a set that holds no byte from 128 on, by their place. -/
def two (y0 y1 : Nat) (k : Nat) : Int := if k = 0 then y0 else if k = 1 then y1 else 0
/-- All ASCII's words. -/
def asc (k : Nat) : Int := if k = 0 then full else if k = 1 then full else 0
theorem Boxed.at {w : World} {B y0 y1 : Nat} (h : Boxed w B y0 y1 0 0) (k : Nat) (hk : k < 4) : w.cell? ⟨B, k, none⟩ = some (.int .u64 (two y0 y1 k)) := by
  obtain ⟨h0, h1, h2, h3⟩ := h
  have hc : k = 0 ∨ k = 1 ∨ k = 2 ∨ k = 3 := by omega
  rcases hc with rfl | rfl | rfl | rfl
  · exact h0
  · exact h1
  · exact h2
  · exact h3
/-- The block of all ASCII's words lies there. -/
def Asc (w : World) (B : Nat) : Prop := ∀ k, k < 4 → w.cell? ⟨B, k, none⟩ = some (.int .u64 (asc k))
theorem asc_new (w : World) : Asc (w.alloc (.cells #[.int .u64 18446744073709551615, .int .u64 18446744073709551615, .int .u64 0, .int .u64 0] 23)) w.heap.size := by
  intro k hk
  rw [World.cell?_alloc_at _ _ _ _ rfl]
  have hc : k = 0 ∨ k = 1 ∨ k = 2 ∨ k = 3 := by omega
  rcases hc with rfl | rfl | rfl | rfl <;> rfl
theorem Asc.drewN {w : World} {B : Nat} (h : Asc w B) (n : Nat) : Asc (w.drewN n) B := h
theorem Boxed.drewN {w : World} {B y0 y1 y2 y3 : Nat} (h : Boxed w B y0 y1 y2 y3) (n : Nat) : Boxed (w.drewN n) B y0 y1 y2 y3 := h
theorem Ext.drewN {w w1 : World} (h : Ext w w1) (n : Nat) : Ext w (w1.drewN n) := below_drewN h n
theorem and_two {c0 c1 p0 p1 : Nat} (h0 : bits .and .u64 c0 p0 = 0) (h1 : bits .and .u64 c1 p1 = 0) (k : Nat) : (bits .and .u64 (two c0 c1 k) (two p0 p1 k) != 0) = false := by
  unfold two
  by_cases e0 : k = 0
  · simp only [e0, if_true]; rw [h0]; rfl
  · by_cases e1 : k = 1
    · simp only [e1, if_true, if_neg (show ¬ (1 : Nat) = 0 by decide)]; rw [h1]; rfl
    · simp only [e0, e1, if_false]; rfl
theorem or_two {c0 c1 p0 p1 : Nat} (h0 : bits .or .u64 c0 p0 = full) (h1 : bits .or .u64 c1 p1 = full) (k : Nat) : (bits .or .u64 (two c0 c1 k) (two p0 p1 k) != asc k) = false := by
  unfold two asc
  by_cases e0 : k = 0
  · simp only [e0, if_true]; rw [h0]; simp
  · by_cases e1 : k = 1
    · simp only [e1, if_true, if_neg (show ¬ (1 : Nat) = 0 by decide)]; rw [h1]; simp
    · simp only [e0, e1, if_false]; rfl

def RTop (w : World) (e : Ending) (w' : World) : Prop := e = .returned (.bool true) ∧ Ext w w'

set_option maxRecDepth 20000 in
set_option maxHeartbeats 4000000 in
theorem alg_core (x0 x1 x2 x3 al0 al1 an0 an1 lw0 lw1 gr0 gr1 pr0 pr1 xd0 xd1 bl0 bl1 sp0 sp1 c0 c1 p0 p1 : Nat) (w : World)
    (H1 : ∀ w, Calls Try.prog 13 #[.agg #[.int .u64 x0, .int .u64 x1, .int .u64 x2, .int .u64 x3], .string (ByteArray.mk #[97, 108, 112, 104, 97])] w (RZz al0 al1 x2 x3 true w))
    (H2 : ∀ w, Calls Try.prog 13 #[.agg #[.int .u64 x0, .int .u64 x1, .int .u64 x2, .int .u64 x3], .string (ByteArray.mk #[97, 108, 110, 117, 109])] w (RZz an0 an1 x2 x3 true w))
    (H3 : ∀ w, Calls Try.prog 13 #[.agg #[.int .u64 al0, .int .u64 al1, .int .u64 x2, .int .u64 x3], .string (ByteArray.mk #[100, 105, 103, 105, 116])] w (RZz an0 an1 x2 x3 true w))
    (H4 : ∀ w, Calls Try.prog 13 #[.agg #[.int .u64 x0, .int .u64 x1, .int .u64 x2, .int .u64 x3], .string (ByteArray.mk #[108, 111, 119, 101, 114])] w (RZz lw0 lw1 x2 x3 true w))
    (H5 : ∀ w, Calls Try.prog 13 #[.agg #[.int .u64 lw0, .int .u64 lw1, .int .u64 x2, .int .u64 x3], .string (ByteArray.mk #[117, 112, 112, 101, 114])] w (RZz al0 al1 x2 x3 true w))
    (H6 : ∀ w, Calls Try.prog 13 #[.agg #[.int .u64 x0, .int .u64 x1, .int .u64 x2, .int .u64 x3], .string (ByteArray.mk #[103, 114, 97, 112, 104])] w (RZz gr0 gr1 x2 x3 true w))
    (H7 : ∀ w, Calls Try.prog 13 #[.agg #[.int .u64 an0, .int .u64 an1, .int .u64 x2, .int .u64 x3], .string (ByteArray.mk #[112, 117, 110, 99, 116])] w (RZz gr0 gr1 x2 x3 true w))
    (H8 : ∀ w, Calls Try.prog 13 #[.agg #[.int .u64 x0, .int .u64 x1, .int .u64 x2, .int .u64 x3], .string (ByteArray.mk #[112, 114, 105, 110, 116])] w (RZz pr0 pr1 x2 x3 true w))
    (H9 : ∀ w, Calls Try.prog 13 #[.agg #[.int .u64 x0, .int .u64 x1, .int .u64 x2, .int .u64 x3], .string (ByteArray.mk #[120, 100, 105, 103, 105, 116])] w (RZz xd0 xd1 x2 x3 true w))
    (H10 : ∀ w, Calls Try.prog 13 #[.agg #[.int .u64 xd0, .int .u64 xd1, .int .u64 x2, .int .u64 x3], .string (ByteArray.mk #[97, 108, 110, 117, 109])] w (RZz an0 an1 x2 x3 true w))
    (H11 : ∀ w, Calls Try.prog 13 #[.agg #[.int .u64 x0, .int .u64 x1, .int .u64 x2, .int .u64 x3], .string (ByteArray.mk #[98, 108, 97, 110, 107])] w (RZz bl0 bl1 x2 x3 true w))
    (H12 : ∀ w, Calls Try.prog 13 #[.agg #[.int .u64 bl0, .int .u64 bl1, .int .u64 x2, .int .u64 x3], .string (ByteArray.mk #[115, 112, 97, 99, 101])] w (RZz sp0 sp1 x2 x3 true w))
    (H13 : ∀ w, Calls Try.prog 13 #[.agg #[.int .u64 x0, .int .u64 x1, .int .u64 x2, .int .u64 x3], .string (ByteArray.mk #[115, 112, 97, 99, 101])] w (RZz sp0 sp1 x2 x3 true w))
    (H14 : ∀ w, Calls Try.prog 13 #[.agg #[.int .u64 0, .int .u64 0, .int .u64 0, .int .u64 0], .string (ByteArray.mk #[99, 110, 116, 114, 108])] w (RZz c0 c1 0 0 true w))
    (H15 : ∀ w, Calls Try.prog 13 #[.agg #[.int .u64 0, .int .u64 0, .int .u64 0, .int .u64 0], .string (ByteArray.mk #[112, 114, 105, 110, 116])] w (RZz p0 p1 0 0 true w))
    (HB : ∀ w, Calls Try.prog 17 #[.agg #[.int .u64 gr0, .int .u64 gr1, .int .u64 x2, .int .u64 x3], .int .i64 32] w (RSet pr0 pr1 x2 x3 w))
    (ha0 : bits .and .u64 c0 p0 = 0) (ha1 : bits .and .u64 c1 p1 = 0) (ho0 : bits .or .u64 c0 p0 = full) (ho1 : bits .or .u64 c1 p1 = full)
    : Calls Try.prog 5 #[.agg #[.int .u64 x0, .int .u64 x1, .int .u64 x2, .int .u64 x3]] w (RTop w) := by
  have K1 : Hid (∀ w, Calls Try.prog 13 #[.agg #[.int .u64 x0, .int .u64 x1, .int .u64 x2, .int .u64 x3], .string (ByteArray.mk #[97, 108, 112, 104, 97])] w (RZz al0 al1 x2 x3 true w)) := H1
  have K2 : Hid (∀ w, Calls Try.prog 13 #[.agg #[.int .u64 x0, .int .u64 x1, .int .u64 x2, .int .u64 x3], .string (ByteArray.mk #[97, 108, 110, 117, 109])] w (RZz an0 an1 x2 x3 true w)) := H2
  have K3 : Hid (∀ w, Calls Try.prog 13 #[.agg #[.int .u64 al0, .int .u64 al1, .int .u64 x2, .int .u64 x3], .string (ByteArray.mk #[100, 105, 103, 105, 116])] w (RZz an0 an1 x2 x3 true w)) := H3
  have K4 : Hid (∀ w, Calls Try.prog 13 #[.agg #[.int .u64 x0, .int .u64 x1, .int .u64 x2, .int .u64 x3], .string (ByteArray.mk #[108, 111, 119, 101, 114])] w (RZz lw0 lw1 x2 x3 true w)) := H4
  have K5 : Hid (∀ w, Calls Try.prog 13 #[.agg #[.int .u64 lw0, .int .u64 lw1, .int .u64 x2, .int .u64 x3], .string (ByteArray.mk #[117, 112, 112, 101, 114])] w (RZz al0 al1 x2 x3 true w)) := H5
  have K6 : Hid (∀ w, Calls Try.prog 13 #[.agg #[.int .u64 x0, .int .u64 x1, .int .u64 x2, .int .u64 x3], .string (ByteArray.mk #[103, 114, 97, 112, 104])] w (RZz gr0 gr1 x2 x3 true w)) := H6
  have K7 : Hid (∀ w, Calls Try.prog 13 #[.agg #[.int .u64 an0, .int .u64 an1, .int .u64 x2, .int .u64 x3], .string (ByteArray.mk #[112, 117, 110, 99, 116])] w (RZz gr0 gr1 x2 x3 true w)) := H7
  have K8 : Hid (∀ w, Calls Try.prog 13 #[.agg #[.int .u64 x0, .int .u64 x1, .int .u64 x2, .int .u64 x3], .string (ByteArray.mk #[112, 114, 105, 110, 116])] w (RZz pr0 pr1 x2 x3 true w)) := H8
  have K9 : Hid (∀ w, Calls Try.prog 13 #[.agg #[.int .u64 x0, .int .u64 x1, .int .u64 x2, .int .u64 x3], .string (ByteArray.mk #[120, 100, 105, 103, 105, 116])] w (RZz xd0 xd1 x2 x3 true w)) := H9
  have K10 : Hid (∀ w, Calls Try.prog 13 #[.agg #[.int .u64 xd0, .int .u64 xd1, .int .u64 x2, .int .u64 x3], .string (ByteArray.mk #[97, 108, 110, 117, 109])] w (RZz an0 an1 x2 x3 true w)) := H10
  have K11 : Hid (∀ w, Calls Try.prog 13 #[.agg #[.int .u64 x0, .int .u64 x1, .int .u64 x2, .int .u64 x3], .string (ByteArray.mk #[98, 108, 97, 110, 107])] w (RZz bl0 bl1 x2 x3 true w)) := H11
  have K12 : Hid (∀ w, Calls Try.prog 13 #[.agg #[.int .u64 bl0, .int .u64 bl1, .int .u64 x2, .int .u64 x3], .string (ByteArray.mk #[115, 112, 97, 99, 101])] w (RZz sp0 sp1 x2 x3 true w)) := H12
  have K13 : Hid (∀ w, Calls Try.prog 13 #[.agg #[.int .u64 x0, .int .u64 x1, .int .u64 x2, .int .u64 x3], .string (ByteArray.mk #[115, 112, 97, 99, 101])] w (RZz sp0 sp1 x2 x3 true w)) := H13
  have K14 : Hid (∀ w, Calls Try.prog 13 #[.agg #[.int .u64 0, .int .u64 0, .int .u64 0, .int .u64 0], .string (ByteArray.mk #[99, 110, 116, 114, 108])] w (RZz c0 c1 0 0 true w)) := H14
  have K15 : Hid (∀ w, Calls Try.prog 13 #[.agg #[.int .u64 0, .int .u64 0, .int .u64 0, .int .u64 0], .string (ByteArray.mk #[112, 114, 105, 110, 116])] w (RZz p0 p1 0 0 true w)) := H15
  have KB : Hid (∀ w, Calls Try.prog 17 #[.agg #[.int .u64 gr0, .int .u64 gr1, .int .u64 x2, .int .u64 x3], .int .i64 32] w (RSet pr0 pr1 x2 x3 w)) := HB
  have A0 : Hid (bits .and .u64 c0 p0 = 0) := ha0
  have A1 : Hid (bits .and .u64 c1 p1 = 0) := ha1
  have O0 : Hid (bits .or .u64 c0 p0 = full) := ho0
  have O1 : Hid (bits .or .u64 c1 p1 = full) := ho1
  clear H1 H2 H3 H4 H5 H6 H7 H8 H9 H10 H11 H12 H13 H14 H15 HB ha0 ha1 ho0 ho1
  have X0 : Hid (Ext w (w.alloc (.cells #[.int .u64 x0, .int .u64 x1, .int .u64 x2, .int .u64 x3] 23))) := (Ext.refl _).alloc _
  have B0 : Hid (Boxed (w.alloc (.cells #[.int .u64 x0, .int .u64 x1, .int .u64 x2, .int .u64 x3] 23)) w.heap.size x0 x1 x2 x3) := boxed_new _ _ _ _ _ _
  go_enter Try.func5, Try.ntmps5
  go_wp2_with fail
  refine (K1.out _).mono ?_
  rintro e w1 ⟨rfl, hx⟩
  have Y : Ext (w.alloc (.cells #[.int .u64 x0, .int .u64 x1, .int .u64 x2, .int .u64 x3] 23)) (w1.alloc (.cells #[.int .u64 al0, .int .u64 al1, .int .u64 x2, .int .u64 x3] 23)) := hx.alloc _
  replace B0 : Hid (Boxed (w1.alloc (.cells #[.int .u64 al0, .int .u64 al1, .int .u64 x2, .int .u64 x3] 23)) w.heap.size x0 x1 x2 x3) := B0.out.ext Y
  have B1 : Hid (Boxed (w1.alloc (.cells #[.int .u64 al0, .int .u64 al1, .int .u64 x2, .int .u64 x3] 23)) w1.heap.size al0 al1 x2 x3) := boxed_new _ _ _ _ _ _
  replace X0 : Hid (Ext w (w1.alloc (.cells #[.int .u64 al0, .int .u64 al1, .int .u64 x2, .int .u64 x3] 23))) := X0.out.trans Y
  clear Y hx
  obtain ⟨e0, e1, e2, e3⟩ := B0.out
  go_wp2_with fail
  clear e0 e1 e2 e3
  refine (K2.out _).mono ?_
  rintro e w2 ⟨rfl, hx⟩
  have Y : Ext (w1.alloc (.cells #[.int .u64 al0, .int .u64 al1, .int .u64 x2, .int .u64 x3] 23)) (w2.alloc (.cells #[.int .u64 an0, .int .u64 an1, .int .u64 x2, .int .u64 x3] 23)) := hx.alloc _
  replace B0 : Hid (Boxed (w2.alloc (.cells #[.int .u64 an0, .int .u64 an1, .int .u64 x2, .int .u64 x3] 23)) w.heap.size x0 x1 x2 x3) := B0.out.ext Y
  replace B1 : Hid (Boxed (w2.alloc (.cells #[.int .u64 an0, .int .u64 an1, .int .u64 x2, .int .u64 x3] 23)) w1.heap.size al0 al1 x2 x3) := B1.out.ext Y
  have B2 : Hid (Boxed (w2.alloc (.cells #[.int .u64 an0, .int .u64 an1, .int .u64 x2, .int .u64 x3] 23)) w2.heap.size an0 an1 x2 x3) := boxed_new _ _ _ _ _ _
  replace X0 : Hid (Ext w (w2.alloc (.cells #[.int .u64 an0, .int .u64 an1, .int .u64 x2, .int .u64 x3] 23))) := X0.out.trans Y
  clear Y hx
  obtain ⟨e0, e1, e2, e3⟩ := B1.out
  go_wp2_with fail
  clear e0 e1 e2 e3
  refine (K3.out _).mono ?_
  rintro e w3 ⟨rfl, hx⟩
  have Y : Ext (w2.alloc (.cells #[.int .u64 an0, .int .u64 an1, .int .u64 x2, .int .u64 x3] 23)) (w3.alloc (.cells #[.int .u64 an0, .int .u64 an1, .int .u64 x2, .int .u64 x3] 23)) := hx.alloc _
  replace B0 : Hid (Boxed (w3.alloc (.cells #[.int .u64 an0, .int .u64 an1, .int .u64 x2, .int .u64 x3] 23)) w.heap.size x0 x1 x2 x3) := B0.out.ext Y
  replace B1 : Hid (Boxed (w3.alloc (.cells #[.int .u64 an0, .int .u64 an1, .int .u64 x2, .int .u64 x3] 23)) w1.heap.size al0 al1 x2 x3) := B1.out.ext Y
  replace B2 : Hid (Boxed (w3.alloc (.cells #[.int .u64 an0, .int .u64 an1, .int .u64 x2, .int .u64 x3] 23)) w2.heap.size an0 an1 x2 x3) := B2.out.ext Y
  have B3 : Hid (Boxed (w3.alloc (.cells #[.int .u64 an0, .int .u64 an1, .int .u64 x2, .int .u64 x3] 23)) w3.heap.size an0 an1 x2 x3) := boxed_new _ _ _ _ _ _
  replace X0 : Hid (Ext w (w3.alloc (.cells #[.int .u64 an0, .int .u64 an1, .int .u64 x2, .int .u64 x3] 23))) := X0.out.trans Y
  clear Y hx
  obtain ⟨e0, e1, e2, e3⟩ := B0.out
  go_wp2_with fail
  clear e0 e1 e2 e3
  refine (K4.out _).mono ?_
  rintro e w4 ⟨rfl, hx⟩
  have Y : Ext (w3.alloc (.cells #[.int .u64 an0, .int .u64 an1, .int .u64 x2, .int .u64 x3] 23)) (w4.alloc (.cells #[.int .u64 lw0, .int .u64 lw1, .int .u64 x2, .int .u64 x3] 23)) := hx.alloc _
  replace B0 : Hid (Boxed (w4.alloc (.cells #[.int .u64 lw0, .int .u64 lw1, .int .u64 x2, .int .u64 x3] 23)) w.heap.size x0 x1 x2 x3) := B0.out.ext Y
  replace B1 : Hid (Boxed (w4.alloc (.cells #[.int .u64 lw0, .int .u64 lw1, .int .u64 x2, .int .u64 x3] 23)) w1.heap.size al0 al1 x2 x3) := B1.out.ext Y
  replace B2 : Hid (Boxed (w4.alloc (.cells #[.int .u64 lw0, .int .u64 lw1, .int .u64 x2, .int .u64 x3] 23)) w2.heap.size an0 an1 x2 x3) := B2.out.ext Y
  replace B3 : Hid (Boxed (w4.alloc (.cells #[.int .u64 lw0, .int .u64 lw1, .int .u64 x2, .int .u64 x3] 23)) w3.heap.size an0 an1 x2 x3) := B3.out.ext Y
  have B4 : Hid (Boxed (w4.alloc (.cells #[.int .u64 lw0, .int .u64 lw1, .int .u64 x2, .int .u64 x3] 23)) w4.heap.size lw0 lw1 x2 x3) := boxed_new _ _ _ _ _ _
  replace X0 : Hid (Ext w (w4.alloc (.cells #[.int .u64 lw0, .int .u64 lw1, .int .u64 x2, .int .u64 x3] 23))) := X0.out.trans Y
  clear Y hx
  obtain ⟨e0, e1, e2, e3⟩ := B4.out
  go_wp2_with fail
  clear e0 e1 e2 e3
  refine (K5.out _).mono ?_
  rintro e w5 ⟨rfl, hx⟩
  have Y : Ext (w4.alloc (.cells #[.int .u64 lw0, .int .u64 lw1, .int .u64 x2, .int .u64 x3] 23)) (w5.alloc (.cells #[.int .u64 al0, .int .u64 al1, .int .u64 x2, .int .u64 x3] 23)) := hx.alloc _
  replace B0 : Hid (Boxed (w5.alloc (.cells #[.int .u64 al0, .int .u64 al1, .int .u64 x2, .int .u64 x3] 23)) w.heap.size x0 x1 x2 x3) := B0.out.ext Y
  replace B1 : Hid (Boxed (w5.alloc (.cells #[.int .u64 al0, .int .u64 al1, .int .u64 x2, .int .u64 x3] 23)) w1.heap.size al0 al1 x2 x3) := B1.out.ext Y
  replace B2 : Hid (Boxed (w5.alloc (.cells #[.int .u64 al0, .int .u64 al1, .int .u64 x2, .int .u64 x3] 23)) w2.heap.size an0 an1 x2 x3) := B2.out.ext Y
  replace B3 : Hid (Boxed (w5.alloc (.cells #[.int .u64 al0, .int .u64 al1, .int .u64 x2, .int .u64 x3] 23)) w3.heap.size an0 an1 x2 x3) := B3.out.ext Y
  replace B4 : Hid (Boxed (w5.alloc (.cells #[.int .u64 al0, .int .u64 al1, .int .u64 x2, .int .u64 x3] 23)) w4.heap.size lw0 lw1 x2 x3) := B4.out.ext Y
  have B5 : Hid (Boxed (w5.alloc (.cells #[.int .u64 al0, .int .u64 al1, .int .u64 x2, .int .u64 x3] 23)) w5.heap.size al0 al1 x2 x3) := boxed_new _ _ _ _ _ _
  replace X0 : Hid (Ext w (w5.alloc (.cells #[.int .u64 al0, .int .u64 al1, .int .u64 x2, .int .u64 x3] 23))) := X0.out.trans Y
  clear Y hx
  obtain ⟨e0, e1, e2, e3⟩ := B0.out
  go_wp2_with fail
  clear e0 e1 e2 e3
  refine (K6.out _).mono ?_
  rintro e w6 ⟨rfl, hx⟩
  have Y : Ext (w5.alloc (.cells #[.int .u64 al0, .int .u64 al1, .int .u64 x2, .int .u64 x3] 23)) (w6.alloc (.cells #[.int .u64 gr0, .int .u64 gr1, .int .u64 x2, .int .u64 x3] 23)) := hx.alloc _
  replace B0 : Hid (Boxed (w6.alloc (.cells #[.int .u64 gr0, .int .u64 gr1, .int .u64 x2, .int .u64 x3] 23)) w.heap.size x0 x1 x2 x3) := B0.out.ext Y
  replace B1 : Hid (Boxed (w6.alloc (.cells #[.int .u64 gr0, .int .u64 gr1, .int .u64 x2, .int .u64 x3] 23)) w1.heap.size al0 al1 x2 x3) := B1.out.ext Y
  replace B2 : Hid (Boxed (w6.alloc (.cells #[.int .u64 gr0, .int .u64 gr1, .int .u64 x2, .int .u64 x3] 23)) w2.heap.size an0 an1 x2 x3) := B2.out.ext Y
  replace B3 : Hid (Boxed (w6.alloc (.cells #[.int .u64 gr0, .int .u64 gr1, .int .u64 x2, .int .u64 x3] 23)) w3.heap.size an0 an1 x2 x3) := B3.out.ext Y
  replace B4 : Hid (Boxed (w6.alloc (.cells #[.int .u64 gr0, .int .u64 gr1, .int .u64 x2, .int .u64 x3] 23)) w4.heap.size lw0 lw1 x2 x3) := B4.out.ext Y
  replace B5 : Hid (Boxed (w6.alloc (.cells #[.int .u64 gr0, .int .u64 gr1, .int .u64 x2, .int .u64 x3] 23)) w5.heap.size al0 al1 x2 x3) := B5.out.ext Y
  have B6 : Hid (Boxed (w6.alloc (.cells #[.int .u64 gr0, .int .u64 gr1, .int .u64 x2, .int .u64 x3] 23)) w6.heap.size gr0 gr1 x2 x3) := boxed_new _ _ _ _ _ _
  replace X0 : Hid (Ext w (w6.alloc (.cells #[.int .u64 gr0, .int .u64 gr1, .int .u64 x2, .int .u64 x3] 23))) := X0.out.trans Y
  clear Y hx
  obtain ⟨e0, e1, e2, e3⟩ := B2.out
  go_wp2_with fail
  clear e0 e1 e2 e3
  refine (K7.out _).mono ?_
  rintro e w7 ⟨rfl, hx⟩
  have Y : Ext (w6.alloc (.cells #[.int .u64 gr0, .int .u64 gr1, .int .u64 x2, .int .u64 x3] 23)) (w7.alloc (.cells #[.int .u64 gr0, .int .u64 gr1, .int .u64 x2, .int .u64 x3] 23)) := hx.alloc _
  replace B0 : Hid (Boxed (w7.alloc (.cells #[.int .u64 gr0, .int .u64 gr1, .int .u64 x2, .int .u64 x3] 23)) w.heap.size x0 x1 x2 x3) := B0.out.ext Y
  replace B1 : Hid (Boxed (w7.alloc (.cells #[.int .u64 gr0, .int .u64 gr1, .int .u64 x2, .int .u64 x3] 23)) w1.heap.size al0 al1 x2 x3) := B1.out.ext Y
  replace B2 : Hid (Boxed (w7.alloc (.cells #[.int .u64 gr0, .int .u64 gr1, .int .u64 x2, .int .u64 x3] 23)) w2.heap.size an0 an1 x2 x3) := B2.out.ext Y
  replace B3 : Hid (Boxed (w7.alloc (.cells #[.int .u64 gr0, .int .u64 gr1, .int .u64 x2, .int .u64 x3] 23)) w3.heap.size an0 an1 x2 x3) := B3.out.ext Y
  replace B4 : Hid (Boxed (w7.alloc (.cells #[.int .u64 gr0, .int .u64 gr1, .int .u64 x2, .int .u64 x3] 23)) w4.heap.size lw0 lw1 x2 x3) := B4.out.ext Y
  replace B5 : Hid (Boxed (w7.alloc (.cells #[.int .u64 gr0, .int .u64 gr1, .int .u64 x2, .int .u64 x3] 23)) w5.heap.size al0 al1 x2 x3) := B5.out.ext Y
  replace B6 : Hid (Boxed (w7.alloc (.cells #[.int .u64 gr0, .int .u64 gr1, .int .u64 x2, .int .u64 x3] 23)) w6.heap.size gr0 gr1 x2 x3) := B6.out.ext Y
  have B7 : Hid (Boxed (w7.alloc (.cells #[.int .u64 gr0, .int .u64 gr1, .int .u64 x2, .int .u64 x3] 23)) w7.heap.size gr0 gr1 x2 x3) := boxed_new _ _ _ _ _ _
  replace X0 : Hid (Ext w (w7.alloc (.cells #[.int .u64 gr0, .int .u64 gr1, .int .u64 x2, .int .u64 x3] 23))) := X0.out.trans Y
  clear Y hx
  obtain ⟨e0, e1, e2, e3⟩ := B0.out
  go_wp2_with fail
  clear e0 e1 e2 e3
  refine (K8.out _).mono ?_
  rintro e w8 ⟨rfl, hx⟩
  have Y : Ext (w7.alloc (.cells #[.int .u64 gr0, .int .u64 gr1, .int .u64 x2, .int .u64 x3] 23)) (w8.alloc (.cells #[.int .u64 pr0, .int .u64 pr1, .int .u64 x2, .int .u64 x3] 23)) := hx.alloc _
  replace B0 : Hid (Boxed (w8.alloc (.cells #[.int .u64 pr0, .int .u64 pr1, .int .u64 x2, .int .u64 x3] 23)) w.heap.size x0 x1 x2 x3) := B0.out.ext Y
  replace B1 : Hid (Boxed (w8.alloc (.cells #[.int .u64 pr0, .int .u64 pr1, .int .u64 x2, .int .u64 x3] 23)) w1.heap.size al0 al1 x2 x3) := B1.out.ext Y
  replace B2 : Hid (Boxed (w8.alloc (.cells #[.int .u64 pr0, .int .u64 pr1, .int .u64 x2, .int .u64 x3] 23)) w2.heap.size an0 an1 x2 x3) := B2.out.ext Y
  replace B3 : Hid (Boxed (w8.alloc (.cells #[.int .u64 pr0, .int .u64 pr1, .int .u64 x2, .int .u64 x3] 23)) w3.heap.size an0 an1 x2 x3) := B3.out.ext Y
  replace B4 : Hid (Boxed (w8.alloc (.cells #[.int .u64 pr0, .int .u64 pr1, .int .u64 x2, .int .u64 x3] 23)) w4.heap.size lw0 lw1 x2 x3) := B4.out.ext Y
  replace B5 : Hid (Boxed (w8.alloc (.cells #[.int .u64 pr0, .int .u64 pr1, .int .u64 x2, .int .u64 x3] 23)) w5.heap.size al0 al1 x2 x3) := B5.out.ext Y
  replace B6 : Hid (Boxed (w8.alloc (.cells #[.int .u64 pr0, .int .u64 pr1, .int .u64 x2, .int .u64 x3] 23)) w6.heap.size gr0 gr1 x2 x3) := B6.out.ext Y
  replace B7 : Hid (Boxed (w8.alloc (.cells #[.int .u64 pr0, .int .u64 pr1, .int .u64 x2, .int .u64 x3] 23)) w7.heap.size gr0 gr1 x2 x3) := B7.out.ext Y
  have B8 : Hid (Boxed (w8.alloc (.cells #[.int .u64 pr0, .int .u64 pr1, .int .u64 x2, .int .u64 x3] 23)) w8.heap.size pr0 pr1 x2 x3) := boxed_new _ _ _ _ _ _
  replace X0 : Hid (Ext w (w8.alloc (.cells #[.int .u64 pr0, .int .u64 pr1, .int .u64 x2, .int .u64 x3] 23))) := X0.out.trans Y
  clear Y hx
  obtain ⟨e0, e1, e2, e3⟩ := B0.out
  go_wp2_with fail
  clear e0 e1 e2 e3
  refine (K9.out _).mono ?_
  rintro e w9 ⟨rfl, hx⟩
  have Y : Ext (w8.alloc (.cells #[.int .u64 pr0, .int .u64 pr1, .int .u64 x2, .int .u64 x3] 23)) (w9.alloc (.cells #[.int .u64 xd0, .int .u64 xd1, .int .u64 x2, .int .u64 x3] 23)) := hx.alloc _
  replace B0 : Hid (Boxed (w9.alloc (.cells #[.int .u64 xd0, .int .u64 xd1, .int .u64 x2, .int .u64 x3] 23)) w.heap.size x0 x1 x2 x3) := B0.out.ext Y
  replace B1 : Hid (Boxed (w9.alloc (.cells #[.int .u64 xd0, .int .u64 xd1, .int .u64 x2, .int .u64 x3] 23)) w1.heap.size al0 al1 x2 x3) := B1.out.ext Y
  replace B2 : Hid (Boxed (w9.alloc (.cells #[.int .u64 xd0, .int .u64 xd1, .int .u64 x2, .int .u64 x3] 23)) w2.heap.size an0 an1 x2 x3) := B2.out.ext Y
  replace B3 : Hid (Boxed (w9.alloc (.cells #[.int .u64 xd0, .int .u64 xd1, .int .u64 x2, .int .u64 x3] 23)) w3.heap.size an0 an1 x2 x3) := B3.out.ext Y
  replace B4 : Hid (Boxed (w9.alloc (.cells #[.int .u64 xd0, .int .u64 xd1, .int .u64 x2, .int .u64 x3] 23)) w4.heap.size lw0 lw1 x2 x3) := B4.out.ext Y
  replace B5 : Hid (Boxed (w9.alloc (.cells #[.int .u64 xd0, .int .u64 xd1, .int .u64 x2, .int .u64 x3] 23)) w5.heap.size al0 al1 x2 x3) := B5.out.ext Y
  replace B6 : Hid (Boxed (w9.alloc (.cells #[.int .u64 xd0, .int .u64 xd1, .int .u64 x2, .int .u64 x3] 23)) w6.heap.size gr0 gr1 x2 x3) := B6.out.ext Y
  replace B7 : Hid (Boxed (w9.alloc (.cells #[.int .u64 xd0, .int .u64 xd1, .int .u64 x2, .int .u64 x3] 23)) w7.heap.size gr0 gr1 x2 x3) := B7.out.ext Y
  replace B8 : Hid (Boxed (w9.alloc (.cells #[.int .u64 xd0, .int .u64 xd1, .int .u64 x2, .int .u64 x3] 23)) w8.heap.size pr0 pr1 x2 x3) := B8.out.ext Y
  have B9 : Hid (Boxed (w9.alloc (.cells #[.int .u64 xd0, .int .u64 xd1, .int .u64 x2, .int .u64 x3] 23)) w9.heap.size xd0 xd1 x2 x3) := boxed_new _ _ _ _ _ _
  replace X0 : Hid (Ext w (w9.alloc (.cells #[.int .u64 xd0, .int .u64 xd1, .int .u64 x2, .int .u64 x3] 23))) := X0.out.trans Y
  clear Y hx
  obtain ⟨e0, e1, e2, e3⟩ := B9.out
  go_wp2_with fail
  clear e0 e1 e2 e3
  refine (K10.out _).mono ?_
  rintro e w10 ⟨rfl, hx⟩
  have Y : Ext (w9.alloc (.cells #[.int .u64 xd0, .int .u64 xd1, .int .u64 x2, .int .u64 x3] 23)) (w10.alloc (.cells #[.int .u64 an0, .int .u64 an1, .int .u64 x2, .int .u64 x3] 23)) := hx.alloc _
  replace B0 : Hid (Boxed (w10.alloc (.cells #[.int .u64 an0, .int .u64 an1, .int .u64 x2, .int .u64 x3] 23)) w.heap.size x0 x1 x2 x3) := B0.out.ext Y
  replace B1 : Hid (Boxed (w10.alloc (.cells #[.int .u64 an0, .int .u64 an1, .int .u64 x2, .int .u64 x3] 23)) w1.heap.size al0 al1 x2 x3) := B1.out.ext Y
  replace B2 : Hid (Boxed (w10.alloc (.cells #[.int .u64 an0, .int .u64 an1, .int .u64 x2, .int .u64 x3] 23)) w2.heap.size an0 an1 x2 x3) := B2.out.ext Y
  replace B3 : Hid (Boxed (w10.alloc (.cells #[.int .u64 an0, .int .u64 an1, .int .u64 x2, .int .u64 x3] 23)) w3.heap.size an0 an1 x2 x3) := B3.out.ext Y
  replace B4 : Hid (Boxed (w10.alloc (.cells #[.int .u64 an0, .int .u64 an1, .int .u64 x2, .int .u64 x3] 23)) w4.heap.size lw0 lw1 x2 x3) := B4.out.ext Y
  replace B5 : Hid (Boxed (w10.alloc (.cells #[.int .u64 an0, .int .u64 an1, .int .u64 x2, .int .u64 x3] 23)) w5.heap.size al0 al1 x2 x3) := B5.out.ext Y
  replace B6 : Hid (Boxed (w10.alloc (.cells #[.int .u64 an0, .int .u64 an1, .int .u64 x2, .int .u64 x3] 23)) w6.heap.size gr0 gr1 x2 x3) := B6.out.ext Y
  replace B7 : Hid (Boxed (w10.alloc (.cells #[.int .u64 an0, .int .u64 an1, .int .u64 x2, .int .u64 x3] 23)) w7.heap.size gr0 gr1 x2 x3) := B7.out.ext Y
  replace B8 : Hid (Boxed (w10.alloc (.cells #[.int .u64 an0, .int .u64 an1, .int .u64 x2, .int .u64 x3] 23)) w8.heap.size pr0 pr1 x2 x3) := B8.out.ext Y
  replace B9 : Hid (Boxed (w10.alloc (.cells #[.int .u64 an0, .int .u64 an1, .int .u64 x2, .int .u64 x3] 23)) w9.heap.size xd0 xd1 x2 x3) := B9.out.ext Y
  have B10 : Hid (Boxed (w10.alloc (.cells #[.int .u64 an0, .int .u64 an1, .int .u64 x2, .int .u64 x3] 23)) w10.heap.size an0 an1 x2 x3) := boxed_new _ _ _ _ _ _
  replace X0 : Hid (Ext w (w10.alloc (.cells #[.int .u64 an0, .int .u64 an1, .int .u64 x2, .int .u64 x3] 23))) := X0.out.trans Y
  clear Y hx
  obtain ⟨e0, e1, e2, e3⟩ := B0.out
  go_wp2_with fail
  clear e0 e1 e2 e3
  refine (K11.out _).mono ?_
  rintro e w11 ⟨rfl, hx⟩
  have Y : Ext (w10.alloc (.cells #[.int .u64 an0, .int .u64 an1, .int .u64 x2, .int .u64 x3] 23)) (w11.alloc (.cells #[.int .u64 bl0, .int .u64 bl1, .int .u64 x2, .int .u64 x3] 23)) := hx.alloc _
  replace B0 : Hid (Boxed (w11.alloc (.cells #[.int .u64 bl0, .int .u64 bl1, .int .u64 x2, .int .u64 x3] 23)) w.heap.size x0 x1 x2 x3) := B0.out.ext Y
  replace B1 : Hid (Boxed (w11.alloc (.cells #[.int .u64 bl0, .int .u64 bl1, .int .u64 x2, .int .u64 x3] 23)) w1.heap.size al0 al1 x2 x3) := B1.out.ext Y
  replace B2 : Hid (Boxed (w11.alloc (.cells #[.int .u64 bl0, .int .u64 bl1, .int .u64 x2, .int .u64 x3] 23)) w2.heap.size an0 an1 x2 x3) := B2.out.ext Y
  replace B3 : Hid (Boxed (w11.alloc (.cells #[.int .u64 bl0, .int .u64 bl1, .int .u64 x2, .int .u64 x3] 23)) w3.heap.size an0 an1 x2 x3) := B3.out.ext Y
  replace B4 : Hid (Boxed (w11.alloc (.cells #[.int .u64 bl0, .int .u64 bl1, .int .u64 x2, .int .u64 x3] 23)) w4.heap.size lw0 lw1 x2 x3) := B4.out.ext Y
  replace B5 : Hid (Boxed (w11.alloc (.cells #[.int .u64 bl0, .int .u64 bl1, .int .u64 x2, .int .u64 x3] 23)) w5.heap.size al0 al1 x2 x3) := B5.out.ext Y
  replace B6 : Hid (Boxed (w11.alloc (.cells #[.int .u64 bl0, .int .u64 bl1, .int .u64 x2, .int .u64 x3] 23)) w6.heap.size gr0 gr1 x2 x3) := B6.out.ext Y
  replace B7 : Hid (Boxed (w11.alloc (.cells #[.int .u64 bl0, .int .u64 bl1, .int .u64 x2, .int .u64 x3] 23)) w7.heap.size gr0 gr1 x2 x3) := B7.out.ext Y
  replace B8 : Hid (Boxed (w11.alloc (.cells #[.int .u64 bl0, .int .u64 bl1, .int .u64 x2, .int .u64 x3] 23)) w8.heap.size pr0 pr1 x2 x3) := B8.out.ext Y
  replace B9 : Hid (Boxed (w11.alloc (.cells #[.int .u64 bl0, .int .u64 bl1, .int .u64 x2, .int .u64 x3] 23)) w9.heap.size xd0 xd1 x2 x3) := B9.out.ext Y
  replace B10 : Hid (Boxed (w11.alloc (.cells #[.int .u64 bl0, .int .u64 bl1, .int .u64 x2, .int .u64 x3] 23)) w10.heap.size an0 an1 x2 x3) := B10.out.ext Y
  have B11 : Hid (Boxed (w11.alloc (.cells #[.int .u64 bl0, .int .u64 bl1, .int .u64 x2, .int .u64 x3] 23)) w11.heap.size bl0 bl1 x2 x3) := boxed_new _ _ _ _ _ _
  replace X0 : Hid (Ext w (w11.alloc (.cells #[.int .u64 bl0, .int .u64 bl1, .int .u64 x2, .int .u64 x3] 23))) := X0.out.trans Y
  clear Y hx
  obtain ⟨e0, e1, e2, e3⟩ := B11.out
  go_wp2_with fail
  clear e0 e1 e2 e3
  refine (K12.out _).mono ?_
  rintro e w12 ⟨rfl, hx⟩
  have Y : Ext (w11.alloc (.cells #[.int .u64 bl0, .int .u64 bl1, .int .u64 x2, .int .u64 x3] 23)) (w12.alloc (.cells #[.int .u64 sp0, .int .u64 sp1, .int .u64 x2, .int .u64 x3] 23)) := hx.alloc _
  replace B0 : Hid (Boxed (w12.alloc (.cells #[.int .u64 sp0, .int .u64 sp1, .int .u64 x2, .int .u64 x3] 23)) w.heap.size x0 x1 x2 x3) := B0.out.ext Y
  replace B1 : Hid (Boxed (w12.alloc (.cells #[.int .u64 sp0, .int .u64 sp1, .int .u64 x2, .int .u64 x3] 23)) w1.heap.size al0 al1 x2 x3) := B1.out.ext Y
  replace B2 : Hid (Boxed (w12.alloc (.cells #[.int .u64 sp0, .int .u64 sp1, .int .u64 x2, .int .u64 x3] 23)) w2.heap.size an0 an1 x2 x3) := B2.out.ext Y
  replace B3 : Hid (Boxed (w12.alloc (.cells #[.int .u64 sp0, .int .u64 sp1, .int .u64 x2, .int .u64 x3] 23)) w3.heap.size an0 an1 x2 x3) := B3.out.ext Y
  replace B4 : Hid (Boxed (w12.alloc (.cells #[.int .u64 sp0, .int .u64 sp1, .int .u64 x2, .int .u64 x3] 23)) w4.heap.size lw0 lw1 x2 x3) := B4.out.ext Y
  replace B5 : Hid (Boxed (w12.alloc (.cells #[.int .u64 sp0, .int .u64 sp1, .int .u64 x2, .int .u64 x3] 23)) w5.heap.size al0 al1 x2 x3) := B5.out.ext Y
  replace B6 : Hid (Boxed (w12.alloc (.cells #[.int .u64 sp0, .int .u64 sp1, .int .u64 x2, .int .u64 x3] 23)) w6.heap.size gr0 gr1 x2 x3) := B6.out.ext Y
  replace B7 : Hid (Boxed (w12.alloc (.cells #[.int .u64 sp0, .int .u64 sp1, .int .u64 x2, .int .u64 x3] 23)) w7.heap.size gr0 gr1 x2 x3) := B7.out.ext Y
  replace B8 : Hid (Boxed (w12.alloc (.cells #[.int .u64 sp0, .int .u64 sp1, .int .u64 x2, .int .u64 x3] 23)) w8.heap.size pr0 pr1 x2 x3) := B8.out.ext Y
  replace B9 : Hid (Boxed (w12.alloc (.cells #[.int .u64 sp0, .int .u64 sp1, .int .u64 x2, .int .u64 x3] 23)) w9.heap.size xd0 xd1 x2 x3) := B9.out.ext Y
  replace B10 : Hid (Boxed (w12.alloc (.cells #[.int .u64 sp0, .int .u64 sp1, .int .u64 x2, .int .u64 x3] 23)) w10.heap.size an0 an1 x2 x3) := B10.out.ext Y
  replace B11 : Hid (Boxed (w12.alloc (.cells #[.int .u64 sp0, .int .u64 sp1, .int .u64 x2, .int .u64 x3] 23)) w11.heap.size bl0 bl1 x2 x3) := B11.out.ext Y
  have B12 : Hid (Boxed (w12.alloc (.cells #[.int .u64 sp0, .int .u64 sp1, .int .u64 x2, .int .u64 x3] 23)) w12.heap.size sp0 sp1 x2 x3) := boxed_new _ _ _ _ _ _
  replace X0 : Hid (Ext w (w12.alloc (.cells #[.int .u64 sp0, .int .u64 sp1, .int .u64 x2, .int .u64 x3] 23))) := X0.out.trans Y
  clear Y hx
  obtain ⟨e0, e1, e2, e3⟩ := B0.out
  go_wp2_with fail
  clear e0 e1 e2 e3
  refine (K13.out _).mono ?_
  rintro e w13 ⟨rfl, hx⟩
  have Y : Ext (w12.alloc (.cells #[.int .u64 sp0, .int .u64 sp1, .int .u64 x2, .int .u64 x3] 23)) (w13.alloc (.cells #[.int .u64 sp0, .int .u64 sp1, .int .u64 x2, .int .u64 x3] 23)) := hx.alloc _
  replace B0 : Hid (Boxed (w13.alloc (.cells #[.int .u64 sp0, .int .u64 sp1, .int .u64 x2, .int .u64 x3] 23)) w.heap.size x0 x1 x2 x3) := B0.out.ext Y
  replace B1 : Hid (Boxed (w13.alloc (.cells #[.int .u64 sp0, .int .u64 sp1, .int .u64 x2, .int .u64 x3] 23)) w1.heap.size al0 al1 x2 x3) := B1.out.ext Y
  replace B2 : Hid (Boxed (w13.alloc (.cells #[.int .u64 sp0, .int .u64 sp1, .int .u64 x2, .int .u64 x3] 23)) w2.heap.size an0 an1 x2 x3) := B2.out.ext Y
  replace B3 : Hid (Boxed (w13.alloc (.cells #[.int .u64 sp0, .int .u64 sp1, .int .u64 x2, .int .u64 x3] 23)) w3.heap.size an0 an1 x2 x3) := B3.out.ext Y
  replace B4 : Hid (Boxed (w13.alloc (.cells #[.int .u64 sp0, .int .u64 sp1, .int .u64 x2, .int .u64 x3] 23)) w4.heap.size lw0 lw1 x2 x3) := B4.out.ext Y
  replace B5 : Hid (Boxed (w13.alloc (.cells #[.int .u64 sp0, .int .u64 sp1, .int .u64 x2, .int .u64 x3] 23)) w5.heap.size al0 al1 x2 x3) := B5.out.ext Y
  replace B6 : Hid (Boxed (w13.alloc (.cells #[.int .u64 sp0, .int .u64 sp1, .int .u64 x2, .int .u64 x3] 23)) w6.heap.size gr0 gr1 x2 x3) := B6.out.ext Y
  replace B7 : Hid (Boxed (w13.alloc (.cells #[.int .u64 sp0, .int .u64 sp1, .int .u64 x2, .int .u64 x3] 23)) w7.heap.size gr0 gr1 x2 x3) := B7.out.ext Y
  replace B8 : Hid (Boxed (w13.alloc (.cells #[.int .u64 sp0, .int .u64 sp1, .int .u64 x2, .int .u64 x3] 23)) w8.heap.size pr0 pr1 x2 x3) := B8.out.ext Y
  replace B9 : Hid (Boxed (w13.alloc (.cells #[.int .u64 sp0, .int .u64 sp1, .int .u64 x2, .int .u64 x3] 23)) w9.heap.size xd0 xd1 x2 x3) := B9.out.ext Y
  replace B10 : Hid (Boxed (w13.alloc (.cells #[.int .u64 sp0, .int .u64 sp1, .int .u64 x2, .int .u64 x3] 23)) w10.heap.size an0 an1 x2 x3) := B10.out.ext Y
  replace B11 : Hid (Boxed (w13.alloc (.cells #[.int .u64 sp0, .int .u64 sp1, .int .u64 x2, .int .u64 x3] 23)) w11.heap.size bl0 bl1 x2 x3) := B11.out.ext Y
  replace B12 : Hid (Boxed (w13.alloc (.cells #[.int .u64 sp0, .int .u64 sp1, .int .u64 x2, .int .u64 x3] 23)) w12.heap.size sp0 sp1 x2 x3) := B12.out.ext Y
  have B13 : Hid (Boxed (w13.alloc (.cells #[.int .u64 sp0, .int .u64 sp1, .int .u64 x2, .int .u64 x3] 23)) w13.heap.size sp0 sp1 x2 x3) := boxed_new _ _ _ _ _ _
  replace X0 : Hid (Ext w (w13.alloc (.cells #[.int .u64 sp0, .int .u64 sp1, .int .u64 x2, .int .u64 x3] 23))) := X0.out.trans Y
  clear Y hx
  go_wp2_with fail
  refine (K14.out _).mono ?_
  rintro e w14 ⟨rfl, hx⟩
  have Y : Ext (w13.alloc (.cells #[.int .u64 sp0, .int .u64 sp1, .int .u64 x2, .int .u64 x3] 23)) (w14.alloc (.cells #[.int .u64 c0, .int .u64 c1, .int .u64 0, .int .u64 0] 23)) := hx.alloc _
  replace B0 : Hid (Boxed (w14.alloc (.cells #[.int .u64 c0, .int .u64 c1, .int .u64 0, .int .u64 0] 23)) w.heap.size x0 x1 x2 x3) := B0.out.ext Y
  replace B1 : Hid (Boxed (w14.alloc (.cells #[.int .u64 c0, .int .u64 c1, .int .u64 0, .int .u64 0] 23)) w1.heap.size al0 al1 x2 x3) := B1.out.ext Y
  replace B2 : Hid (Boxed (w14.alloc (.cells #[.int .u64 c0, .int .u64 c1, .int .u64 0, .int .u64 0] 23)) w2.heap.size an0 an1 x2 x3) := B2.out.ext Y
  replace B3 : Hid (Boxed (w14.alloc (.cells #[.int .u64 c0, .int .u64 c1, .int .u64 0, .int .u64 0] 23)) w3.heap.size an0 an1 x2 x3) := B3.out.ext Y
  replace B4 : Hid (Boxed (w14.alloc (.cells #[.int .u64 c0, .int .u64 c1, .int .u64 0, .int .u64 0] 23)) w4.heap.size lw0 lw1 x2 x3) := B4.out.ext Y
  replace B5 : Hid (Boxed (w14.alloc (.cells #[.int .u64 c0, .int .u64 c1, .int .u64 0, .int .u64 0] 23)) w5.heap.size al0 al1 x2 x3) := B5.out.ext Y
  replace B6 : Hid (Boxed (w14.alloc (.cells #[.int .u64 c0, .int .u64 c1, .int .u64 0, .int .u64 0] 23)) w6.heap.size gr0 gr1 x2 x3) := B6.out.ext Y
  replace B7 : Hid (Boxed (w14.alloc (.cells #[.int .u64 c0, .int .u64 c1, .int .u64 0, .int .u64 0] 23)) w7.heap.size gr0 gr1 x2 x3) := B7.out.ext Y
  replace B8 : Hid (Boxed (w14.alloc (.cells #[.int .u64 c0, .int .u64 c1, .int .u64 0, .int .u64 0] 23)) w8.heap.size pr0 pr1 x2 x3) := B8.out.ext Y
  replace B9 : Hid (Boxed (w14.alloc (.cells #[.int .u64 c0, .int .u64 c1, .int .u64 0, .int .u64 0] 23)) w9.heap.size xd0 xd1 x2 x3) := B9.out.ext Y
  replace B10 : Hid (Boxed (w14.alloc (.cells #[.int .u64 c0, .int .u64 c1, .int .u64 0, .int .u64 0] 23)) w10.heap.size an0 an1 x2 x3) := B10.out.ext Y
  replace B11 : Hid (Boxed (w14.alloc (.cells #[.int .u64 c0, .int .u64 c1, .int .u64 0, .int .u64 0] 23)) w11.heap.size bl0 bl1 x2 x3) := B11.out.ext Y
  replace B12 : Hid (Boxed (w14.alloc (.cells #[.int .u64 c0, .int .u64 c1, .int .u64 0, .int .u64 0] 23)) w12.heap.size sp0 sp1 x2 x3) := B12.out.ext Y
  replace B13 : Hid (Boxed (w14.alloc (.cells #[.int .u64 c0, .int .u64 c1, .int .u64 0, .int .u64 0] 23)) w13.heap.size sp0 sp1 x2 x3) := B13.out.ext Y
  have B14 : Hid (Boxed (w14.alloc (.cells #[.int .u64 c0, .int .u64 c1, .int .u64 0, .int .u64 0] 23)) w14.heap.size c0 c1 0 0) := boxed_new _ _ _ _ _ _
  replace X0 : Hid (Ext w (w14.alloc (.cells #[.int .u64 c0, .int .u64 c1, .int .u64 0, .int .u64 0] 23))) := X0.out.trans Y
  clear Y hx
  go_wp2_with fail
  refine (K15.out _).mono ?_
  rintro e w15 ⟨rfl, hx⟩
  have Y : Ext (w14.alloc (.cells #[.int .u64 c0, .int .u64 c1, .int .u64 0, .int .u64 0] 23)) (w15.alloc (.cells #[.int .u64 p0, .int .u64 p1, .int .u64 0, .int .u64 0] 23)) := hx.alloc _
  replace B0 : Hid (Boxed (w15.alloc (.cells #[.int .u64 p0, .int .u64 p1, .int .u64 0, .int .u64 0] 23)) w.heap.size x0 x1 x2 x3) := B0.out.ext Y
  replace B1 : Hid (Boxed (w15.alloc (.cells #[.int .u64 p0, .int .u64 p1, .int .u64 0, .int .u64 0] 23)) w1.heap.size al0 al1 x2 x3) := B1.out.ext Y
  replace B2 : Hid (Boxed (w15.alloc (.cells #[.int .u64 p0, .int .u64 p1, .int .u64 0, .int .u64 0] 23)) w2.heap.size an0 an1 x2 x3) := B2.out.ext Y
  replace B3 : Hid (Boxed (w15.alloc (.cells #[.int .u64 p0, .int .u64 p1, .int .u64 0, .int .u64 0] 23)) w3.heap.size an0 an1 x2 x3) := B3.out.ext Y
  replace B4 : Hid (Boxed (w15.alloc (.cells #[.int .u64 p0, .int .u64 p1, .int .u64 0, .int .u64 0] 23)) w4.heap.size lw0 lw1 x2 x3) := B4.out.ext Y
  replace B5 : Hid (Boxed (w15.alloc (.cells #[.int .u64 p0, .int .u64 p1, .int .u64 0, .int .u64 0] 23)) w5.heap.size al0 al1 x2 x3) := B5.out.ext Y
  replace B6 : Hid (Boxed (w15.alloc (.cells #[.int .u64 p0, .int .u64 p1, .int .u64 0, .int .u64 0] 23)) w6.heap.size gr0 gr1 x2 x3) := B6.out.ext Y
  replace B7 : Hid (Boxed (w15.alloc (.cells #[.int .u64 p0, .int .u64 p1, .int .u64 0, .int .u64 0] 23)) w7.heap.size gr0 gr1 x2 x3) := B7.out.ext Y
  replace B8 : Hid (Boxed (w15.alloc (.cells #[.int .u64 p0, .int .u64 p1, .int .u64 0, .int .u64 0] 23)) w8.heap.size pr0 pr1 x2 x3) := B8.out.ext Y
  replace B9 : Hid (Boxed (w15.alloc (.cells #[.int .u64 p0, .int .u64 p1, .int .u64 0, .int .u64 0] 23)) w9.heap.size xd0 xd1 x2 x3) := B9.out.ext Y
  replace B10 : Hid (Boxed (w15.alloc (.cells #[.int .u64 p0, .int .u64 p1, .int .u64 0, .int .u64 0] 23)) w10.heap.size an0 an1 x2 x3) := B10.out.ext Y
  replace B11 : Hid (Boxed (w15.alloc (.cells #[.int .u64 p0, .int .u64 p1, .int .u64 0, .int .u64 0] 23)) w11.heap.size bl0 bl1 x2 x3) := B11.out.ext Y
  replace B12 : Hid (Boxed (w15.alloc (.cells #[.int .u64 p0, .int .u64 p1, .int .u64 0, .int .u64 0] 23)) w12.heap.size sp0 sp1 x2 x3) := B12.out.ext Y
  replace B13 : Hid (Boxed (w15.alloc (.cells #[.int .u64 p0, .int .u64 p1, .int .u64 0, .int .u64 0] 23)) w13.heap.size sp0 sp1 x2 x3) := B13.out.ext Y
  replace B14 : Hid (Boxed (w15.alloc (.cells #[.int .u64 p0, .int .u64 p1, .int .u64 0, .int .u64 0] 23)) w14.heap.size c0 c1 0 0) := B14.out.ext Y
  have B15 : Hid (Boxed (w15.alloc (.cells #[.int .u64 p0, .int .u64 p1, .int .u64 0, .int .u64 0] 23)) w15.heap.size p0 p1 0 0) := boxed_new _ _ _ _ _ _
  replace X0 : Hid (Ext w (w15.alloc (.cells #[.int .u64 p0, .int .u64 p1, .int .u64 0, .int .u64 0] 23))) := X0.out.trans Y
  clear Y hx
  obtain ⟨s0, s1, s2, s3⟩ := B1.out
  obtain ⟨t0, t1, t2, t3⟩ := B2.out
  obtain ⟨u0, u1, u2, u3⟩ := B3.out
  obtain ⟨r0, r1, r2, r3⟩ := B5.out
  obtain ⟨q0, q1, q2, q3⟩ := B6.out
  obtain ⟨m0, m1, m2, m3⟩ := B7.out
  have heq := fun (y0 y1 y2 y3 : Nat) (w : World) => eq_self y0 y1 y2 y3 w
  go_upto_region 18 with fail
  clear s0 s1 s2 s3 t0 t1 t2 t3 u0 u1 u2 u3 r0 r1 r2 r3 q0 q1 q2 q3 m0 m1 m2 m3
  go_cut [137] (fun v wc => v = .bool false ∧ Hid (Ext w wc ∧ Boxed wc w14.heap.size c0 c1 0 0 ∧ Boxed wc w15.heap.size p0 p1 0 0))
  case first =>
    obtain ⟨i0, i1, i2, i3⟩ := B8.out
    obtain ⟨g0, g1, g2, g3⟩ := B6.out
    go_region_with (go_at_call 17; refine (KB.out _).mono ?_; rintro e w16 ⟨rfl, hx⟩; have Z : Hid (Ext w w16 ∧ Boxed w16 w14.heap.size c0 c1 0 0 ∧ Boxed w16 w15.heap.size p0 p1 0 0) := ⟨(ext_drew X0.out).trans hx, boxed_after B14.out hx, boxed_after B15.out hx⟩; obtain ⟨k0, k1, k2, k3⟩ := boxed_after B8.out hx; obtain ⟨l0, l1, l2, l3⟩ := boxed_after B10.out hx; obtain ⟨m0, m1, m2, m3⟩ := boxed_after B2.out hx; obtain ⟨n0, n1, n2, n3⟩ := boxed_after B12.out hx; obtain ⟨o0, o1, o2, o3⟩ := boxed_after B13.out hx)
    all_goals
      go_wp2_with fail
      go_meet
      exact ⟨rfl, by assumption⟩
  case rest =>
    obtain ⟨rfl, hz⟩ := hcut
    clear B0 B1 B2 B3 B4 B5 B6 B7 B8 B9 B10 B11 B12 B13 B14 B15 K1 K2 K3 K4 K5 K6 K7 K8 K9 K10 K11 K12 K13 K14 K15 KB heq X0
    go_wp2_with fail
    go_loopg [33] 4 (fun gk i wr => ∃ k : Nat, i = .int .i64 k ∧ gk = 4 - k ∧ k ≤ 4 ∧ Hid (Ext w wr ∧ Boxed wr w14.heap.size c0 c1 0 0 ∧ Boxed wr w15.heap.size p0 p1 0 0))
    case atStart => exact ⟨0, rfl, rfl, Nat.zero_le _, hz⟩
    case round =>
      clear hz
      obtain ⟨k, rfl, rfl, hk, hz⟩ := hrel
      by_cases hlt : k < 4
      · have e1 := hz.out.2.1.at k hlt
        have e2 := hz.out.2.2.at k hlt
        have hb := and_two A0.out A1.out k
        have hli : (k : Int) < 4 := by omega
        go_wp2_with fail
        go_quiet (fail)
        go_wp2_with fail
        go_roundg (4 - (k + 1))
        case rel => exact ⟨k + 1, by go_num, rfl, by omega, hz.out.1.drewN _, hz.out.2.1.drewN _, hz.out.2.2.drewN _⟩
        case measure => omega
      · have hza : Hid (Ext w (wr.alloc (.cells #[.int .u64 18446744073709551615, .int .u64 18446744073709551615, .int .u64 0, .int .u64 0] 23)) ∧ Boxed (wr.alloc (.cells #[.int .u64 18446744073709551615, .int .u64 18446744073709551615, .int .u64 0, .int .u64 0] 23)) w14.heap.size c0 c1 0 0 ∧ Boxed (wr.alloc (.cells #[.int .u64 18446744073709551615, .int .u64 18446744073709551615, .int .u64 0, .int .u64 0] 23)) w15.heap.size p0 p1 0 0 ∧ Asc (wr.alloc (.cells #[.int .u64 18446744073709551615, .int .u64 18446744073709551615, .int .u64 0, .int .u64 0] 23)) wr.heap.size) :=
          ⟨hz.out.1.alloc _, hz.out.2.1.ext ((Ext.refl _).alloc _), hz.out.2.2.ext ((Ext.refl _).alloc _), asc_new wr⟩
        obtain ⟨wo, rfl⟩ : ∃ wo : World, wo = wr := ⟨_, rfl⟩
        go_wp2_with fail
        go_loopg [35] 4 (fun gk i wq => ∃ k : Nat, i = .int .i64 k ∧ gk = 4 - k ∧ k ≤ 4 ∧ Hid (Ext w wq ∧ Boxed wq w14.heap.size c0 c1 0 0 ∧ Boxed wq w15.heap.size p0 p1 0 0 ∧ Asc wq wo.heap.size))
        case atStart => exact ⟨0, rfl, rfl, Nat.zero_le _, hza⟩
        case round =>
          clear hza hz
          obtain ⟨k2, rfl, rfl, hk2, hz⟩ := hrel
          by_cases hlt2 : k2 < 4
          · have e1 := hz.out.2.1.at k2 hlt2
            have e2 := hz.out.2.2.1.at k2 hlt2
            have e3 := hz.out.2.2.2 k2 hlt2
            have hb := or_two O0.out O1.out k2
            have hli : (k2 : Int) < 4 := by omega
            go_wp2_with fail
            go_quiet (fail)
            go_wp2_with fail
            go_roundg (4 - (k2 + 1))
            case rel => exact ⟨k2 + 1, by go_num, rfl, by omega, hz.out.1.drewN _, hz.out.2.1.drewN _, hz.out.2.2.1.drewN _, hz.out.2.2.2.drewN _⟩
            case measure => omega
          · go_wp2_with fail
            go_ret
            exact ⟨rfl, hz.out.1⟩

end Go.Proofs.Qxb6602360a

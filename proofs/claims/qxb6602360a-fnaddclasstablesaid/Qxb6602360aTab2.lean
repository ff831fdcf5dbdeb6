/-
  THE WALK of addRanges (15).
-/
import Derived.Test.Qxb6602360aTab1
import Derived.Test.Qxb6602360aBit
import Derived.Test.Qxb6602360aRng
namespace Go.Proofs.Qxb6602360a
open Go.RowKit Cl
set_option linter.unusedVariables false

theorem bit_any (b x0 x1 x2 x3 : Nat) (w : World) (hb : b < 128) (hx : Fits (x0, x1)) :
    Calls Try.prog 17 #[.agg #[.int .u64 x0, .int .u64 x1, .int .u64 x2, .int .u64 x3], .int .i64 b] w (RSet (addTo (x0, x1) b).1 (addTo (x0, x1) b).2 x2 x3 w) := by
  by_cases h : b < 64
  · have e : addTo (x0, x1) b = (x0 ||| 2 ^ b, x1) := by unfold addTo; rw [if_pos h]
    rw [e]; exact bit_lo b x0 x1 x2 x3 w h hx.1
  · have e : addTo (x0, x1) b = (x0, x1 ||| 2 ^ (b - 64)) := by unfold addTo; rw [if_neg h]
    rw [e]; exact bit_hi b x0 x1 x2 x3 w (by omega) hb hx.2

/-- Four stores into block D. -/
def put4 (w : World) (D : Nat) (v0 v1 v2 v3 : Value) : World := (((w.setCell ⟨D, 0, none⟩ v0).setCell ⟨D, 1, none⟩ v1).setCell ⟨D, 2, none⟩ v2).setCell ⟨D, 3, none⟩ v3

theorem set_same {w : World} {D x0 x1 x2 x3 : Nat} (h : SetAt w D x0 x1 x2 x3) (y0 y1 y2 y3 : Nat) : SetAt (put4 w D (.int .u64 y0) (.int .u64 y1) (.int .u64 y2) (.int .u64 y3)) D y0 y1 y2 y3 := by
  obtain ⟨⟨c0, z0⟩, ⟨c1, z1⟩, ⟨c2, z2⟩, ⟨c3, z3⟩⟩ := h
  have g : ∀ (w : World) (i j : Nat) (v u : Value), w.cell? ⟨D, j, none⟩ = some u → (w.setCell ⟨D, i, none⟩ v).cell? ⟨D, j, none⟩ = some (if j = i then v else u) := by
    intro w i j v u h
    by_cases e : j = i
    · subst e; rw [if_pos rfl]; exact World.cell?_setCell_same _ _ _ h
    · rw [if_neg e, World.cell?_setCell_other _ _ _ _ (by intro hh; injection hh; omega)]; exact h
  unfold put4
  refine ⟨⟨?_, by simpa using z0⟩, ⟨?_, by simpa using z1⟩, ⟨?_, by simpa using z2⟩, ⟨?_, by simpa using z3⟩⟩
  · rw [g _ 3 0 _ _ (g _ 2 0 _ _ (g _ 1 0 _ _ (g _ 0 0 _ _ c0)))]; rfl
  · rw [g _ 3 1 _ _ (g _ 2 1 _ _ (g _ 1 1 _ _ (g _ 0 1 _ _ c1)))]; rfl
  · rw [g _ 3 2 _ _ (g _ 2 2 _ _ (g _ 1 2 _ _ (g _ 0 2 _ _ c2)))]; rfl
  · rw [g _ 3 3 _ _ (g _ 2 3 _ _ (g _ 1 3 _ _ (g _ 0 3 _ _ c3)))]; rfl
theorem set_other {w : World} {D E x0 x1 x2 x3 : Nat} (h : SetAt w E x0 x1 x2 x3) (hE : E ≠ D) (v0 v1 v2 v3 : Value) : SetAt (put4 w D v0 v1 v2 v3) E x0 x1 x2 x3 := by
  obtain ⟨⟨c0, z0⟩, ⟨c1, z1⟩, ⟨c2, z2⟩, ⟨c3, z3⟩⟩ := h
  have g : ∀ (w : World) (i j : Nat) (v : Value), (w.setCell ⟨D, i, none⟩ v).cell? ⟨E, j, none⟩ = w.cell? ⟨E, j, none⟩ := by
    intro w i j v
    rw [World.cell?_setCell_other _ _ _ _ (by intro hh; injection hh; omega)]
  unfold put4
  refine ⟨⟨?_, by simpa using z0⟩, ⟨?_, by simpa using z1⟩, ⟨?_, by simpa using z2⟩, ⟨?_, by simpa using z3⟩⟩
  · rw [g, g, g, g]; exact c0
  · rw [g, g, g, g]; exact c1
  · rw [g, g, g, g]; exact c2
  · rw [g, g, g, g]; exact c3
theorem SetAt.ext {w w' : World} {D x0 x1 x2 x3 : Nat} (h : SetAt w D x0 x1 x2 x3) (hx : Ext w w') : SetAt w' D x0 x1 x2 x3 := by
  obtain ⟨⟨c0, z0⟩, ⟨c1, z1⟩, ⟨c2, z2⟩, ⟨c3, z3⟩⟩ := h
  have hlt : D < w.heap.size := World.block_lt_of_cell? _ _ c0
  have gc : ∀ j, w'.cell? ⟨D, j, none⟩ = w.cell? ⟨D, j, none⟩ := fun j => Below.cell (p := ⟨D, j, none⟩) hx hlt
  have gf : ∀ j, w'.frozen? ⟨D, j, none⟩ = w.frozen? ⟨D, j, none⟩ := fun j => Below.frozen (p := ⟨D, j, none⟩) hx hlt
  exact ⟨⟨by rw [gc]; exact c0, by rw [gf]; exact z0⟩, ⟨by rw [gc]; exact c1, by rw [gf]; exact z1⟩, ⟨by rw [gc]; exact c2, by rw [gf]; exact z2⟩, ⟨by rw [gc]; exact c3, by rw [gf]; exact z3⟩⟩
theorem ext_put4 {w w1 : World} (h : Ext w w1) {D : Nat} (hD : w.heap.size ≤ D) (v0 v1 v2 v3 : Value) : Ext w (put4 w1 D v0 v1 v2 v3) :=
  Below.setCell (Below.setCell (Below.setCell (Below.setCell h hD _) hD _) hD _) hD _

/-- The two blocks of addRanges: the set, the result's. -/
def Two (w w1 : World) (a : Nat × Nat) (x2 x3 : Nat) : Prop := SetAt w1 w.heap.size a.1 a.2 x2 x3 ∧ SetAt w1 (w.heap.size + 1) 0 0 0 0 ∧ Ext w w1

theorem two_start (w : World) (x0 x1 x2 x3 : Nat) : Two w ((w.alloc (.cells #[.int .u64 x0, .int .u64 x1, .int .u64 x2, .int .u64 x3] 23)).alloc (.cells #[.int .u64 0, .int .u64 0, .int .u64 0, .int .u64 0] 23)) (x0, x1) x2 x3 := by
  have hs : (w.alloc (.cells #[.int .u64 x0, .int .u64 x1, .int .u64 x2, .int .u64 x3] 23)).heap.size = w.heap.size + 1 := by simp
  refine ⟨?_, ?_, ((Ext.refl _).alloc _).alloc _⟩
  · unfold SetAt
    refine ⟨⟨?_, ?_⟩, ⟨?_, ?_⟩, ⟨?_, ?_⟩, ⟨?_, ?_⟩⟩
    all_goals first | (rw [World.cell?_alloc_past _ _ _ (by omega), World.cell?_alloc_at _ _ _ _ rfl]; rfl) | (rw [World.frozen?_alloc_past _ _ _ (by omega), World.frozen?_alloc_at _ _ _ _ rfl])
  · unfold SetAt
    refine ⟨⟨?_, ?_⟩, ⟨?_, ?_⟩, ⟨?_, ?_⟩, ⟨?_, ?_⟩⟩
    all_goals first | (rw [World.cell?_alloc_at _ _ _ _ hs.symm]; rfl) | (rw [World.frozen?_alloc_at _ _ _ _ hs.symm])

theorem two_step {w w1 w2 : World} {a : Nat × Nat} {x2 x3 : Nat} (h : Two w w1 a x2 x3) (hx : Ext w1 w2) (b : Nat × Nat) :
    Two w (put4 w2 w.heap.size (.int .u64 b.1) (.int .u64 b.2) (.int .u64 x2) (.int .u64 x3)) b x2 x3 :=
  ⟨set_same (h.1.ext hx) _ _ _ _, set_other (h.2.1.ext hx) (by omega) _ _ _ _, ext_put4 (h.2.2.trans hx) (Nat.le_refl _) _ _ _ _⟩

set_option maxRecDepth 20000 in
set_option maxHeartbeats 1000000 in
theorem ranges_any (r : ByteArray) (x0 x1 x2 x3 : Nat) (w : World) (hr : ∀ j, rb r j < 128) (hs : r.size ≤ 16) (hx : Fits (x0, x1)) :
    Calls Try.prog 15 #[.agg #[.int .u64 x0, .int .u64 x1, .int .u64 x2, .int .u64 x3], .string r] w (RSet (pairsN r (x0, x1) (r.size / 2)).1 (pairsN r (x0, x1) (r.size / 2)).2 x2 x3 w) := by
  have HR : Hid (∀ j, rb r j < 128) := hr
  have HX : Hid (Fits (x0, x1)) := hx
  have HT : Hid (Two w ((w.alloc (.cells #[.int .u64 x0, .int .u64 x1, .int .u64 x2, .int .u64 x3] 23)).alloc (.cells #[.int .u64 0, .int .u64 0, .int .u64 0, .int .u64 0] 23)) (x0, x1) x2 x3) := two_start w x0 x1 x2 x3
  clear hr hx
  go_enter Try.func15, Try.ntmps15
  go_wp2_with fail
  go_loopg [5] r.size (fun gk i wr => ∃ (k j : Nat) (a : Nat × Nat), i = .int .i64 k ∧ gk = r.size - k ∧ k ≤ r.size ∧ Hid (k = 2 * j ∧ a = pairsN r (x0, x1) j ∧ Fits a ∧ Two w wr a x2 x3))
  case atStart => exact ⟨0, 0, (x0, x1), rfl, rfl, Nat.zero_le _, rfl, rfl, HX.out, HT.out⟩
  case round =>
    clear HT
    obtain ⟨k, j, a, rfl, rfl, hk, hz⟩ := hrel
    obtain ⟨hkj, ha, hfit, htwo⟩ := hz.out
    have HKJ : Hid (k = 2 * j) := hkj
    have HA : Hid (a = pairsN r (x0, x1) j) := ha
    have HF : Hid (Fits a) := hfit
    have HW : Hid (Two w wr a x2 x3) := htwo
    clear hkj ha hfit htwo hz
    by_cases hlt : k + 1 < r.size
    · obtain ⟨l, HLl⟩ : ∃ l, Hid (l = rb r k) := ⟨_, rfl⟩
      obtain ⟨u, HUu⟩ : ∃ u, Hid (u = rb r (k + 1)) := ⟨_, rfl⟩
      have el : r[k].toNat = l := (rb_eq r k (by omega)).trans HLl.out.symm
      have eu : r[k + 1].toNat = u := (rb_eq r (k + 1) hlt).trans HUu.out.symm
      have hl : l < 128 := by rw [HLl.out]; exact HR.out k
      have hu : u < 128 := by rw [HUu.out]; exact HR.out (k + 1)
      have hd1 : decide ((k : Int) + 1 < (r.size : Int)) = true := decide_eq_true (by omega)
      go_wp2_with fail
      go_loopg [6] (u + 1 - l) (fun gk b wq => ∃ (bb m a0 a1 : Nat), b = .int .i64 bb ∧ gk = u + 1 - l - m ∧ m ≤ u + 1 - l ∧ Hid (bb = l + m ∧ (a0, a1) = rangeN a l m ∧ Fits (a0, a1) ∧ Two w wq (a0, a1) x2 x3))
      case atStart => exact ⟨l, 0, a.1, a.2, rfl, rfl, Nat.zero_le _, rfl, rfl, HF.out, HW.out⟩
      case round =>
        clear HW
        obtain ⟨bb, m, a0, a1, rfl, rfl, hm, hz⟩ := hrel
        obtain ⟨hbm, hra, hfit, htwo⟩ := hz.out
        have HBM : Hid (bb = l + m) := hbm
        have HRA : Hid ((a0, a1) = rangeN a l m) := hra
        have HF1 : Hid (Fits (a0, a1)) := hfit
        have HW1 : Hid (Two w wr (a0, a1) x2 x3) := htwo
        clear hz hbm hra hfit htwo
        by_cases hbu : bb ≤ u
        · obtain ⟨⟨c0, z0⟩, ⟨c1, z1⟩, ⟨c2, z2⟩, ⟨c3, z3⟩⟩ := HW1.out.1
          have hdb : decide ((bb : Int) ≤ (u : Int)) = true := decide_eq_true (by omega)
          go_wp2_with fail
          clear c0 c1 c2 c3 z0 z1 z2 z3
          refine (bit_any bb a0 a1 x2 x3 _ (by omega) HF1.out).mono ?_
          rintro e w2 ⟨rfl, hx⟩
          obtain ⟨y0, y1, hy⟩ : ∃ y0 y1, addTo (a0, a1) bb = (y0, y1) := ⟨_, _, rfl⟩
          have HY : Hid (addTo (a0, a1) bb = (y0, y1)) := hy
          have HW2 : Hid (Two w (put4 w2 w.heap.size (.int .u64 y0) (.int .u64 y1) (.int .u64 x2) (.int .u64 x3)) (y0, y1) x2 x3) := two_step HW1.out hx (y0, y1)
          obtain ⟨⟨c0, z0⟩, ⟨c1, z1⟩, ⟨c2, z2⟩, ⟨c3, z3⟩⟩ := HW1.out.1.ext hx
          rw [hy]
          clear hy hx
          go_wp2_with fail
          go_roundg (u + 1 - l - (m + 1))
          case rel => exact ⟨bb + 1, m + 1, y0, y1, by go_num, rfl, by have := HBM.out; omega, by have := HBM.out; omega, by rw [rangeN, ← HRA.out, ← HBM.out, HY.out], by rw [← HY.out]; exact HF1.out.add (by omega), HW2.out⟩
          case measure => have := HBM.out; omega
        · have hmm : m = u + 1 - l := by have := HBM.out; omega
          have HM : Hid (m = u + 1 - l) := hmm
          clear hmm
          have hdb : decide ((bb : Int) ≤ (u : Int)) = false := decide_eq_false (by omega)
          go_wp2_with fail
          go_roundg (r.size - (k + 2))
          case rel =>
            refine ⟨k + 2, j + 1, (a0, a1), by go_num, rfl, by omega, by have := HKJ.out; omega, ?_, HF1.out, HW1.out⟩
            rw [pairsN, HRA.out, HM.out, ← HA.out, ← HKJ.out, ← HLl.out, ← HUu.out]
          case measure => omega
    · obtain ⟨a0, a1⟩ := a
      obtain ⟨⟨c0, z0⟩, ⟨c1, z1⟩, ⟨c2, z2⟩, ⟨c3, z3⟩⟩ := HW.out.1
      obtain ⟨⟨d0, q0⟩, ⟨d1, q1⟩, ⟨d2, q2⟩, ⟨d3, q3⟩⟩ := HW.out.2.1
      have HJ : Hid (r.size / 2 = j) := by have := HKJ.out; show _ = _; omega
      go_wp2_with fail
      exact bodyPost_ret (v := .agg #[.int .u64 a0, .int .u64 a1, .int .u64 x2, .int .u64 x3]) (by simp [results, Try.results15, go_sem, d0, d1, d2, d3]) rfl ⟨by rw [HJ.out, ← HA.out], ext_put4 HW.out.2.2 (D := w.heap.size + 1) (by omega) _ _ _ _⟩

end Go.Proofs.Qxb6602360a

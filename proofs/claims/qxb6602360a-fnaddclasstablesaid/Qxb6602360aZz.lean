/-
  THE WALK of ZZaddClass (13), out of addClass's contract.
-/
import Derived.Test.Qxb6602360aWalks
namespace Go.Proofs.Qxb6602360a
open Go.RowKit Cl
set_option linter.unusedVariables false

/-- What was there stays as it was. -/
def Ext (w w' : World) : Prop := Below w.heap.size w w'
theorem Ext.refl (w : World) : Ext w w := Below.refl _ _
theorem Ext.trans {a b c : World} (h : Ext a b) (k : Ext b c) : Ext a c := Below.trans h (Below.mono k h.size)
theorem Ext.alloc {w w1 : World} (h : Ext w w1) (o : Obj) : Ext w (w1.alloc o) := Below.alloc h h.size o

/-- A set as a value. -/
def arr (x0 x1 x2 x3 : Nat) : Value := .agg #[.int .u64 x0, .int .u64 x1, .int .u64 x2, .int .u64 x3]

/-- What ZZaddClass answers. -/
def RZz (y0 y1 y2 y3 : Nat) (v : Bool) (w : World) (e : Ending) (w' : World) : Prop :=
  e = .returned (.tuple #[.agg #[.int .u64 y0, .int .u64 y1, .int .u64 y2, .int .u64 y3], .bool v]) ∧ Ext w w'

/-- The world in which addClass is called. -/
def W3 (w : World) (x0 x1 x2 x3 : Nat) : World :=
  ((w.alloc (.cells #[.int .u64 x0, .int .u64 x1, .int .u64 x2, .int .u64 x3] 23)).alloc (.cells #[.int .u64 0, .int .u64 0, .int .u64 0, .int .u64 0] 23)).alloc (.cells #[.int .u64 x0, .int .u64 x1, .int .u64 x2, .int .u64 x3] 45)

theorem setAt_W3 (w : World) (x0 x1 x2 x3 : Nat) : SetAt (W3 w x0 x1 x2 x3) (w.heap.size + 2) x0 x1 x2 x3 := by
  have hs : ((w.alloc (.cells #[.int .u64 x0, .int .u64 x1, .int .u64 x2, .int .u64 x3] 23)).alloc (.cells #[.int .u64 0, .int .u64 0, .int .u64 0, .int .u64 0] 23)).heap.size = w.heap.size + 2 := by simp
  unfold SetAt W3
  refine ⟨⟨?_, ?_⟩, ⟨?_, ?_⟩, ⟨?_, ?_⟩, ⟨?_, ?_⟩⟩
  all_goals first | (rw [World.cell?_alloc_at _ _ _ _ hs.symm]; rfl) | (rw [World.frozen?_alloc_at _ _ _ _ hs.symm])

theorem zero_W3 (w w1 : World) (x0 x1 x2 x3 : Nat) (h : Below (w.heap.size + 2) (W3 w x0 x1 x2 x3) w1) : SetAt w1 (w.heap.size + 1) 0 0 0 0 := by
  have hs : (w.alloc (.cells #[.int .u64 x0, .int .u64 x1, .int .u64 x2, .int .u64 x3] 23)).heap.size = w.heap.size + 1 := by simp
  have hs2 : ((w.alloc (.cells #[.int .u64 x0, .int .u64 x1, .int .u64 x2, .int .u64 x3] 23)).alloc (.cells #[.int .u64 0, .int .u64 0, .int .u64 0, .int .u64 0] 23)).heap.size = w.heap.size + 2 := by simp
  have hc : ∀ i, w1.cell? ⟨w.heap.size + 1, i, none⟩ = (#[.int .u64 0, .int .u64 0, .int .u64 0, .int .u64 0] : Array Value)[i]? := by
    intro i
    rw [Below.cell h (by show w.heap.size + 1 < _; omega)]
    unfold W3
    rw [World.cell?_alloc_past _ _ _ (by omega), World.cell?_alloc_at _ _ _ _ hs.symm]
  have hf : ∀ i, w1.frozen? ⟨w.heap.size + 1, i, none⟩ = false := by
    intro i
    rw [Below.frozen h (by show w.heap.size + 1 < _; omega)]
    unfold W3
    rw [World.frozen?_alloc_past _ _ _ (by omega), World.frozen?_alloc_at _ _ _ _ hs.symm]
  exact ⟨⟨by rw [hc]; rfl, hf 0⟩, ⟨by rw [hc]; rfl, hf 1⟩, ⟨by rw [hc]; rfl, hf 2⟩, ⟨by rw [hc]; rfl, hf 3⟩⟩

theorem ext_W3 (w w1 : World) (x0 x1 x2 x3 : Nat) (h : Below (w.heap.size + 2) (W3 w x0 x1 x2 x3) w1) (v0 v1 v2 v3 : Value) :
    Ext w ((((w1.setCell ⟨w.heap.size + 1, 0, none⟩ v0).setCell ⟨w.heap.size + 1, 1, none⟩ v1).setCell ⟨w.heap.size + 1, 2, none⟩ v2).setCell ⟨w.heap.size + 1, 3, none⟩ v3) := by
  have h0 : Ext w (W3 w x0 x1 x2 x3) := (((Ext.refl _).alloc _).alloc _).alloc _
  have h1 : Ext w w1 := Below.trans h0 (Below.mono h (by omega))
  exact Below.setCell (Below.setCell (Below.setCell (Below.setCell h1 (by show w.heap.size ≤ w.heap.size + 1; omega) _) (by show w.heap.size ≤ w.heap.size + 1; omega) _) (by show w.heap.size ≤ w.heap.size + 1; omega) _) (by show w.heap.size ≤ w.heap.size + 1; omega) _

set_option maxHeartbeats 400000 in
theorem zz_of (name : ByteArray) (x0 x1 x2 x3 y0 y1 y2 y3 : Nat) (v : Bool) (w : World)
    (h : Calls Try.prog 34 #[.pointer (some ⟨w.heap.size + 2, 0, none⟩), .string name] (W3 w x0 x1 x2 x3) fun e w' => e = .returned (.bool v) ∧ SetAt w' (w.heap.size + 2) y0 y1 y2 y3 ∧ Below (w.heap.size + 2) (W3 w x0 x1 x2 x3) w') :
    Calls Try.prog 13 #[.agg #[.int .u64 x0, .int .u64 x1, .int .u64 x2, .int .u64 x3], .string name] w (RZz y0 y1 y2 y3 v w) := by
  have HC : Hid (Calls Try.prog 34 #[.pointer (some ⟨w.heap.size + 2, 0, none⟩), .string name] (W3 w x0 x1 x2 x3) fun e w' => e = .returned (.bool v) ∧ SetAt w' (w.heap.size + 2) y0 y1 y2 y3 ∧ Below (w.heap.size + 2) (W3 w x0 x1 x2 x3) w') := h
  clear h
  go_enter Try.func13, Try.ntmps13
  go_wp2_with fail
  refine HC.out.mono ?_
  rintro e w1 ⟨rfl, hs, hb⟩
  obtain ⟨⟨a0, p0⟩, ⟨a1, p1⟩, ⟨a2, p2⟩, ⟨a3, p3⟩⟩ := hs
  obtain ⟨⟨d0, q0⟩, ⟨d1, q1⟩, ⟨d2, q2⟩, ⟨d3, q3⟩⟩ := zero_W3 w w1 x0 x1 x2 x3 hb
  have HB := ext_W3 w w1 x0 x1 x2 x3 hb (.int .u64 y0) (.int .u64 y1) (.int .u64 y2) (.int .u64 y3)
  have HB' : Hid (Ext w ((((w1.setCell ⟨w.heap.size + 1, 0, none⟩ (.int .u64 y0)).setCell ⟨w.heap.size + 1, 1, none⟩ (.int .u64 y1)).setCell ⟨w.heap.size + 1, 2, none⟩ (.int .u64 y2)).setCell ⟨w.heap.size + 1, 3, none⟩ (.int .u64 y3))) := HB
  clear HB hb
  go_wp2_with fail
  exact bodyPost_ret (v := .tuple #[.agg #[.int .u64 y0, .int .u64 y1, .int .u64 y2, .int .u64 y3], .bool v]) (by simp [results, Try.results13, go_sem, d0, d1, d2, d3]) rfl ⟨rfl, HB'.out⟩

end Go.Proofs.Qxb6602360a

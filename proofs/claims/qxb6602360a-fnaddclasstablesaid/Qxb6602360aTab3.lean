/-
  THE WALK of FnAddClassTable (3), over whatever answers ZZaddClass, classRanges and addRanges give.
-/
import Derived.Test.Qxb6602360aTab2
import Derived.Test.Qxb6602360aEq
import Derived.Deep.RegionWith
namespace Go.Proofs.Qxb6602360a
open Go.RowKit Cl
set_option linter.unusedVariables false

def RT (w : World) (e : Ending) (w' : World) : Prop := e = .returned (.bool true) ∧ Ext w w'

theorem bytes_small (x0 x1 x2 x3 : Nat) (name : ByteArray) (w : World) (h : (name.size : Int) ≤ 1048576) :
    Calls Try.prog 12 #[.agg #[.int .u64 x0, .int .u64 x1, .int .u64 x2, .int .u64 x3], .string name] w (RT w) := by
  go_enter Try.func12, Try.ntmps12
  go_wp2_with fail
  go_ret
  exact ⟨rfl, (Ext.refl _).alloc _⟩
def RF (w : World) (e : Ending) (w' : World) : Prop := e = .returned (.bool false) ∧ Ext w w'
theorem bytes_big (x0 x1 x2 x3 : Nat) (name : ByteArray) (w : World) (h : 1048576 < (name.size : Int)) :
    Calls Try.prog 12 #[.agg #[.int .u64 x0, .int .u64 x1, .int .u64 x2, .int .u64 x3], .string name] w (RF w) := by
  go_enter Try.func12, Try.ntmps12
  go_wp2_with fail
  go_ret
  exact ⟨rfl, (Ext.refl _).alloc _⟩

theorem set_new (w : World) (y0 y1 y2 y3 : Nat) (t : TypeId) : SetAt (w.alloc (.cells #[.int .u64 y0, .int .u64 y1, .int .u64 y2, .int .u64 y3] t)) w.heap.size y0 y1 y2 y3 := by
  unfold SetAt
  refine ⟨⟨?_, ?_⟩, ⟨?_, ?_⟩, ⟨?_, ?_⟩, ⟨?_, ?_⟩⟩
  all_goals first | (rw [World.cell?_alloc_at _ _ _ _ rfl]; rfl) | (rw [World.frozen?_alloc_at _ _ _ _ rfl])

theorem set_after {w w' : World} {D x0 x1 x2 x3 : Nat} (h : SetAt w D x0 x1 x2 x3) (hx : Ext w.drew w') : SetAt w' D x0 x1 x2 x3 := SetAt.ext (w := w.drew) h hx

theorem top_big (x0 x1 x2 x3 : Nat) (name : ByteArray) (w : World) (h : 1048576 < (name.size : Int)) :
    Calls Try.prog 3 #[.agg #[.int .u64 x0, .int .u64 x1, .int .u64 x2, .int .u64 x3], .string name] w (RT w) := by
  go_enter Try.func3, Try.ntmps3
  go_wp2_with fail
  refine (bytes_big x0 x1 x2 x3 name _ h).mono ?_
  rintro e w1 ⟨rfl, hx⟩
  have HX : Hid (Ext w w1) := ((Ext.refl _).alloc _).trans hx
  clear hx
  go_wp2_with fail
  go_ret
  exact ⟨rfl, HX.out⟩

set_option maxHeartbeats 1000000 in
theorem top_known (x0 x1 x2 x3 y0 y1 : Nat) (name r : ByteArray) (w : World) (h : (name.size : Int) ≤ 1048576)
    (hz : ∀ w, Calls Try.prog 13 #[.agg #[.int .u64 x0, .int .u64 x1, .int .u64 x2, .int .u64 x3], .string name] w (RZz y0 y1 x2 x3 true w))
    (hc : ∀ w, Calls Try.prog 14 #[.string name] w fun e w' => e = .returned (.tuple #[.string r, .bool true]) ∧ w' = w)
    (ha : ∀ w, Calls Try.prog 15 #[.agg #[.int .u64 x0, .int .u64 x1, .int .u64 x2, .int .u64 x3], .string r] w (RSet y0 y1 x2 x3 w)) :
    Calls Try.prog 3 #[.agg #[.int .u64 x0, .int .u64 x1, .int .u64 x2, .int .u64 x3], .string name] w (RT w) := by
  have HZ : Hid (∀ w, Calls Try.prog 13 #[.agg #[.int .u64 x0, .int .u64 x1, .int .u64 x2, .int .u64 x3], .string name] w (RZz y0 y1 x2 x3 true w)) := hz
  have HC : Hid (∀ w, Calls Try.prog 14 #[.string name] w fun e w' => e = .returned (.tuple #[.string r, .bool true]) ∧ w' = w) := hc
  have HA : Hid (∀ w, Calls Try.prog 15 #[.agg #[.int .u64 x0, .int .u64 x1, .int .u64 x2, .int .u64 x3], .string r] w (RSet y0 y1 x2 x3 w)) := ha
  clear hz hc ha
  have B0 : Hid (SetAt (w.alloc (.cells #[.int .u64 x0, .int .u64 x1, .int .u64 x2, .int .u64 x3] 23)) w.heap.size x0 x1 x2 x3) := set_new w _ _ _ _ _
  have X0 : Hid (Ext w (w.alloc (.cells #[.int .u64 x0, .int .u64 x1, .int .u64 x2, .int .u64 x3] 23))) := (Ext.refl _).alloc _
  go_enter Try.func3, Try.ntmps3
  go_wp2_with fail
  refine (bytes_small x0 x1 x2 x3 name _ h).mono ?_
  rintro e w1 ⟨rfl, hx⟩
  replace B0 : Hid (SetAt w1 w.heap.size x0 x1 x2 x3) := B0.out.ext hx
  replace X0 : Hid (Ext w w1) := X0.out.trans hx
  clear hx
  obtain ⟨⟨c0, z0⟩, ⟨c1, z1⟩, ⟨c2, z2⟩, ⟨c3, z3⟩⟩ := B0.out
  go_wp2_with fail
  clear c0 c1 c2 c3 z0 z1 z2 z3
  refine (HZ.out _).mono ?_
  rintro e w2 ⟨rfl, hx⟩
  have B1 : Hid (SetAt (w2.alloc (.cells #[.int .u64 y0, .int .u64 y1, .int .u64 x2, .int .u64 x3] 23)) w2.heap.size y0 y1 x2 x3) := set_new w2 _ _ _ _ _
  replace B0 : Hid (SetAt (w2.alloc (.cells #[.int .u64 y0, .int .u64 y1, .int .u64 x2, .int .u64 x3] 23)) w.heap.size x0 x1 x2 x3) := B0.out.ext (hx.alloc _)
  replace X0 : Hid (Ext w (w2.alloc (.cells #[.int .u64 y0, .int .u64 y1, .int .u64 x2, .int .u64 x3] 23))) := X0.out.trans (hx.alloc _)
  clear hx
  go_wp2_with fail
  refine (HC.out _).mono ?_
  rintro e w' ⟨rfl, hw⟩
  subst hw
  have heq := fun (y0 y1 y2 y3 : Nat) (w : World) => eq_self y0 y1 y2 y3 w
  go_wp2_with fail
  obtain ⟨⟨c0, z0⟩, ⟨c1, z1⟩, ⟨c2, z2⟩, ⟨c3, z3⟩⟩ := B0.out
  obtain ⟨⟨d0, q0⟩, ⟨d1, q1⟩, ⟨d2, q2⟩, ⟨d3, q3⟩⟩ := B1.out
  go_region_with (go_at_call 15; refine (HA.out _).mono ?_; rintro e w3 ⟨rfl, hx⟩; have Z : Hid (Ext w w3) := Below.trans (Below.drew X0.out) (Below.mono hx X0.out.size); obtain ⟨⟨k0, _⟩, ⟨k1, _⟩, ⟨k2, _⟩, ⟨k3, _⟩⟩ := set_after B1.out hx)
  all_goals
    go_wp2_with fail
    go_ret
    exact ⟨rfl, Hid.out (by assumption)⟩

set_option maxHeartbeats 1000000 in
theorem top_none (x0 x1 x2 x3 : Nat) (name r : ByteArray) (w : World) (h : (name.size : Int) ≤ 1048576)
    (hz : ∀ w, Calls Try.prog 13 #[.agg #[.int .u64 x0, .int .u64 x1, .int .u64 x2, .int .u64 x3], .string name] w (RZz x0 x1 x2 x3 false w))
    (hc : ∀ w, Calls Try.prog 14 #[.string name] w fun e w' => e = .returned (.tuple #[.string r, .bool false]) ∧ w' = w) :
    Calls Try.prog 3 #[.agg #[.int .u64 x0, .int .u64 x1, .int .u64 x2, .int .u64 x3], .string name] w (RT w) := by
  have HZ : Hid (∀ w, Calls Try.prog 13 #[.agg #[.int .u64 x0, .int .u64 x1, .int .u64 x2, .int .u64 x3], .string name] w (RZz x0 x1 x2 x3 false w)) := hz
  have HC : Hid (∀ w, Calls Try.prog 14 #[.string name] w fun e w' => e = .returned (.tuple #[.string r, .bool false]) ∧ w' = w) := hc
  clear hz hc
  have B0 : Hid (SetAt (w.alloc (.cells #[.int .u64 x0, .int .u64 x1, .int .u64 x2, .int .u64 x3] 23)) w.heap.size x0 x1 x2 x3) := set_new w _ _ _ _ _
  have X0 : Hid (Ext w (w.alloc (.cells #[.int .u64 x0, .int .u64 x1, .int .u64 x2, .int .u64 x3] 23))) := (Ext.refl _).alloc _
  go_enter Try.func3, Try.ntmps3
  go_wp2_with fail
  refine (bytes_small x0 x1 x2 x3 name _ h).mono ?_
  rintro e w1 ⟨rfl, hx⟩
  replace B0 : Hid (SetAt w1 w.heap.size x0 x1 x2 x3) := B0.out.ext hx
  replace X0 : Hid (Ext w w1) := X0.out.trans hx
  clear hx
  obtain ⟨⟨c0, z0⟩, ⟨c1, z1⟩, ⟨c2, z2⟩, ⟨c3, z3⟩⟩ := B0.out
  go_wp2_with fail
  clear c0 c1 c2 c3 z0 z1 z2 z3
  refine (HZ.out _).mono ?_
  rintro e w2 ⟨rfl, hx⟩
  have B1 : Hid (SetAt (w2.alloc (.cells #[.int .u64 x0, .int .u64 x1, .int .u64 x2, .int .u64 x3] 23)) w2.heap.size x0 x1 x2 x3) := set_new w2 _ _ _ _ _
  replace B0 : Hid (SetAt (w2.alloc (.cells #[.int .u64 x0, .int .u64 x1, .int .u64 x2, .int .u64 x3] 23)) w.heap.size x0 x1 x2 x3) := B0.out.ext (hx.alloc _)
  replace X0 : Hid (Ext w (w2.alloc (.cells #[.int .u64 x0, .int .u64 x1, .int .u64 x2, .int .u64 x3] 23))) := X0.out.trans (hx.alloc _)
  clear hx
  go_wp2_with fail
  refine (HC.out _).mono ?_
  rintro e w' ⟨rfl, hw⟩
  subst hw
  have heq := fun (y0 y1 y2 y3 : Nat) (w : World) => eq_self y0 y1 y2 y3 w
  obtain ⟨⟨c0, z0⟩, ⟨c1, z1⟩, ⟨c2, z2⟩, ⟨c3, z3⟩⟩ := B0.out
  obtain ⟨⟨d0, q0⟩, ⟨d1, q1⟩, ⟨d2, q2⟩, ⟨d3, q3⟩⟩ := B1.out
  go_wp2_with fail
  go_ret
  exact ⟨rfl, X0.out⟩

end Go.Proofs.Qxb6602360a

/-
  THE WALKS of slices.Index (22), slices.Contains (21), rosterTooBig (8), zzBytes (7), cloneInts (9).
-/
import Derived.Test.Qxb6602317aProg
import Derived.Test.Qxb6602317aPlain
import Derived.WalkKit
import Derived.Deep.LoopGhost
import Derived.Below
import Derived.Deep.OwnRows
import Derived.Lib.SliceRun
namespace Go.Proofs.Qxb6602317a
open Go.RowKit Mem
set_option linter.unusedVariables false

theorem ret_bool {a b : Bool} (h : a = b) : Ending.returned (.bool a) = .returned (.bool b) := by rw [h]

/-- What was there stays as it was. -/
def Ext (w w' : World) : Prop := Below w.heap.size w w'
theorem Ext.refl (w : World) : Ext w w := Below.refl _ _
theorem Ext.trans {a b c : World} (h : Ext a b) (k : Ext b c) : Ext a c := Below.trans h (Below.mono k h.size)
theorem Ext.alloc {w w1 : World} (h : Ext w w1) (o : Obj) : Ext w (w1.alloc o) := Below.alloc h h.size o
theorem Ext.set {w w1 : World} (h : Ext w w1) {a : Addr} (ha : w.heap.size ≤ a.block) (v : Value) : Ext w (w1.setCell a v) := Below.setCell h ha v

/-- The cells of a list of ints. -/
def Cells (w : World) (b off l : Nat) (f : Nat → Int) : Prop := ∀ j, j < l → w.cell? ⟨b, off + j, none⟩ = some (.int .i64 (f j))
theorem Cells.ext {w w' : World} {b off l : Nat} {f : Nat → Int} (h : Cells w b off l f) (hx : Ext w w') : Cells w' b off l f := by
  intro j hj
  have h1 := h j hj
  rw [Below.cell hx (World.block_lt_of_cell? _ _ h1)]; exact h1

/-- A slice of ints: empty (wherever it points), or its cells. -/
def IRow (w : World) (a : Option Addr) (l : Nat) (f : Nat → Int) : Prop := l = 0 ∨ ∃ b off, a = some ⟨b, off, none⟩ ∧ Cells w b off l f
theorem IRow.ext {w w' : World} {a : Option Addr} {l : Nat} {f : Nat → Int} (h : IRow w a l f) (hx : Ext w w') : IRow w' a l f := by
  rcases h with h | ⟨b, off, h1, h2⟩
  · exact Or.inl h
  · exact Or.inr ⟨b, off, h1, h2.ext hx⟩

theorem index_zero (a : Option Addr) (c : Nat) (id : Int) (w : World) :
    Calls Try.prog 22 #[.slice a 0 c, .int .i64 id] w fun e w' => e = .returned (.int .i64 (-1)) ∧ w' = w := by
  go_enter Try.func22, Try.ntmps22
  go_wp2_with fail
  refine wp_loop_rounds 1 ?_
  rw [rounds_succ]
  go_wp2_with fail
  go_ret
  exact ⟨rfl, rfl⟩

/-- What slices.Index answers. -/
def RIdx (f : Nat → Int) (id : Int) (l : Nat) (w : World) (e : Ending) (w' : World) : Prop :=
  ∃ i : Int, e = .returned (.int .i64 i) ∧ decide (0 ≤ i) = memB f id l ∧ w' = w

theorem index_any (b off l c : Nat) (f : Nat → Int) (id : Int) (w : World) (h : Cells w b off l f) (hl : l ≤ 131072) :
    Calls Try.prog 22 #[.slice (some ⟨b, off, none⟩) l c, .int .i64 id] w (RIdx f id l w) := by
  go_enter Try.func22, Try.ntmps22
  go_wp2_with fail
  go_loopg [8] l (fun gk i wr => ∃ k : Nat, i = .int .i64 k ∧ gk = l - k ∧ k ≤ l ∧ Hid (∀ j, j < k → f j ≠ id) ∧ w = wr)
  case atStart => exact ⟨0, rfl, rfl, Nat.zero_le _, fun j hj => by omega, rfl⟩
  case round =>
    obtain ⟨k, rfl, rfl, hk, hno, rfl⟩ := hrel
    by_cases hlt : k < l
    · have hc := h k hlt
      by_cases he : f k = id
      · have hb : (id == f k) = true := by rw [he]; simp
        go_wp2_with fail
        go_ret
        exact ⟨k, rfl, by rw [memB_true.2 ⟨k, hlt, he⟩]; simp, rfl⟩
      · have hb : (id == f k) = false := by simp only [beq_eq_false_iff_ne]; exact fun x => he x.symm
        go_wp2_with fail
        go_roundg (l - (k + 1))
        case rel => exact ⟨k + 1, by go_num, rfl, by omega, fun j hj => by
          by_cases e : j = k
          · rw [e]; exact he
          · exact hno.out j (by omega), rfl⟩
        case measure => omega
    · go_wp2_with fail
      go_ret
      exact ⟨-1, rfl, by rw [memB_false (fun j hj => hno.out j (by omega))]; rfl, rfl⟩

/-- slices.Contains. -/
theorem contains_any (a : Option Addr) (l c : Nat) (f : Nat → Int) (id : Int) (w : World) (h : IRow w a l f) (hl : l ≤ 131072) :
    Calls Try.prog 21 #[.slice a l c, .int .i64 id] w fun e w' => e = .returned (.bool (memB f id l)) ∧ w' = w := by
  rcases h with rfl | ⟨b, off, rfl, h⟩
  · go_enter Try.func21, Try.ntmps21
    go_wp2_with (go_at_call 22; refine (index_zero _ _ _ _).mono ?_; rintro e w' ⟨rfl, hw⟩; subst hw)
    go_ret
    exact ⟨rfl, rfl⟩
  · have H : Hid (Cells w b off l f) := h
    clear h
    go_enter Try.func21, Try.ntmps21
    go_wp2_with fail
    refine (index_any b off l c f id w H.out hl).mono ?_
    rintro e w' ⟨i, rfl, hi, hw⟩
    subst hw
    have HI : Hid (decide (0 ≤ i) = memB f id l) := hi
    clear hi
    go_wp2_with fail
    go_ret
    exact ⟨ret_bool HI.out, rfl⟩

end Go.Proofs.Qxb6602317a

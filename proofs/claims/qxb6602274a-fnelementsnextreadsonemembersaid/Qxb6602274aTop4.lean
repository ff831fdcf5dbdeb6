/-
  THE WALK of FnElementsNextReadsOneMember (4), in parts.
-/
import Derived.Test.Qxb6602274aZz
namespace Go.Proofs.Qxb6602274a
open Go.RowKit Js
set_option linter.unusedVariables false

/-- Some Bool, the world as it was. -/
def RAny (w : World) (e : Ending) (w' : World) : Prop := ∃ r : Bool, e = .returned (.bool r) ∧ w' = w

set_option maxHeartbeats 1000000 in
theorem bytes_any (a0 : Option Addr) (l0 c0 : Nat) (ob : Bool) (a2 : Option Addr) (l2 c2 : Nat) (a3 : Option Addr) (l3 c3 : Nat) (w : World) :
    Calls Try.prog 11 #[.slice a0 l0 c0, .bool ob, .slice a2 l2 c2, .slice a3 l3 c3] w (RAny w) := by
  go_enter Try.func11, Try.ntmps11
  go_wp2_with fail
  all_goals
    go_ret
    exact ⟨_, rfl, rfl⟩

theorem bytes_small (a0 : Option Addr) (l0 c0 : Nat) (ob : Bool) (a2 : Option Addr) (l2 c2 : Nat) (a3 : Option Addr) (l3 c3 : Nat) (w : World)
    (h0 : (l0 : Int) ≤ 65536) (h2 : (l2 : Int) ≤ 65536) (h3 : (l3 : Int) ≤ 65536) :
    Calls Try.prog 11 #[.slice a0 l0 c0, .bool ob, .slice a2 l2 c2, .slice a3 l3 c3] w fun e w' => e = .returned (.bool true) ∧ w' = w := by
  go_enter Try.func11, Try.ntmps11
  go_wp2_with fail
  go_ret
  exact ⟨rfl, rfl⟩

def RTop (w : World) (e : Ending) (w' : World) : Prop := e = .returned (.bool true) ∧ Ext w w'

/-- One of the three is too long. -/
theorem top_big (a0 : Option Addr) (l0 c0 : Nat) (ob : Bool) (a2 : Option Addr) (l2 c2 : Nat) (a3 : Option Addr) (l3 c3 : Nat) (w : World)
    (h : 65536 < (l0 : Int) ∨ 65536 < (l2 : Int) ∨ 65536 < (l3 : Int)) :
    Calls Try.prog 4 #[.slice a0 l0 c0, .bool ob, .slice a2 l2 c2, .slice a3 l3 c3] w (RTop w) := by
  have HB := bytes_any a0 l0 c0 ob a2 l2 c2 a3 l3 c3 w
  have HB' : Hid (Calls Try.prog 11 #[.slice a0 l0 c0, .bool ob, .slice a2 l2 c2, .slice a3 l3 c3] w (RAny w)) := HB
  clear HB
  by_cases h0 : 65536 < (l0 : Int)
  · clear h
    go_enter Try.func4, Try.ntmps4
    go_wp2_with fail
    refine HB'.out.mono ?_
    rintro e w' ⟨r, rfl, hw⟩
    subst hw
    cases r <;> (go_wp2_with fail; go_ret; exact ⟨rfl, Ext.refl _⟩)
  · by_cases h2 : 65536 < (l2 : Int)
    · clear h
      go_enter Try.func4, Try.ntmps4
      go_wp2_with fail
      refine HB'.out.mono ?_
      rintro e w' ⟨r, rfl, hw⟩
      subst hw
      cases r <;> (go_wp2_with fail; go_ret; exact ⟨rfl, Ext.refl _⟩)
    · have h3 : 65536 < (l3 : Int) := by omega
      clear h
      go_enter Try.func4, Try.ntmps4
      go_wp2_with fail
      refine HB'.out.mono ?_
      rintro e w' ⟨r, rfl, hw⟩
      subst hw
      cases r <;> (go_wp2_with fail; go_ret; exact ⟨rfl, Ext.refl _⟩)

/-- Nothing in the rest. -/
theorem top_zero (a0 : Option Addr) (c0 : Nat) (ob : Bool) (a2 : Option Addr) (l2 c2 : Nat) (a3 : Option Addr) (l3 c3 : Nat) (w : World)
    (h2 : (l2 : Int) ≤ 65536) (h3 : (l3 : Int) ≤ 65536) :
    Calls Try.prog 4 #[.slice a0 0 c0, .bool ob, .slice a2 l2 c2, .slice a3 l3 c3] w (RTop w) := by
  have HB : Hid (Calls Try.prog 11 #[.slice a0 0 c0, .bool ob, .slice a2 l2 c2, .slice a3 l3 c3] w fun e w' => e = .returned (.bool true) ∧ w' = w) := bytes_small a0 0 c0 ob a2 l2 c2 a3 l3 c3 w (by omega) h2 h3
  go_enter Try.func4, Try.ntmps4
  go_wp2_with fail
  refine HB.out.mono ?_
  rintro e w' ⟨rfl, hw⟩
  subst hw
  go_wp2_with fail
  refine (step_zero a0 c0 ob (fun _ => 0) _).mono ?_
  rintro e w1 ⟨cl, pos, na, nb, va, vb, kind, ok, rfl, hns, hx⟩
  cases ok with
  | true =>
    obtain ⟨i, _, hi, _⟩ := hns rfl
    omega
  | false =>
    clear hns
    have HX := hx.alloc (.cells #[.int .i64 na, .int .i64 nb, .int .i64 va, .int .i64 vb, .int .i64 kind] 31)
    go_wp2_with fail
    go_ret
    exact ⟨rfl, HX⟩

/-- mClone of the rest. -/
def RCloneB (g : Nat → Int) (n : Nat) (w : World) (e : Ending) (w' : World) : Prop :=
  ∃ B, e = .returned (.slice (some ⟨B, 0, none⟩) n n) ∧ Txt w' B 0 n g ∧ Ext w w'
theorem clone_rest (b off n cap : Nat) (g : Nat → Int) (w : World) (ht : Txt w b off n g) (hn : n ≤ 65536) :
    Calls Try.prog 9 #[.slice (some ⟨b, off, none⟩) n cap] w (RCloneB g n w) := by
  refine (clone_some b off n cap g w ht hn).mono ?_
  rintro e w' ⟨rfl, ht, hx, _⟩
  exact ⟨_, rfl, ht, hx⟩

/-- What is told of a slice that came in, for mClone. -/
def CameIn (w : World) (a : Option Addr) (l c : Nat) : Prop :=
  (a = none ∧ l = 0 ∧ c = 0) ∨ (∃ x, a = some x ∧ l = 0) ∨ ∃ b off g, a = some ⟨b, off, none⟩ ∧ Txt w b off l g
theorem CameIn.ext {w w' : World} {a : Option Addr} {l c : Nat} (h : CameIn w a l c) (hx : Ext w w') : CameIn w' a l c := by
  rcases h with h | h | ⟨b, off, g, h1, h2⟩
  · exact Or.inl h
  · exact Or.inr (Or.inl h)
  · exact Or.inr (Or.inr ⟨b, off, g, h1, h2.ext hx⟩)

/-- mSame of what is left behind a value and of the text from there on. -/
theorem same_tail {b n va vb l1 c1 l2 c2 : Nat} {a : Addr} {g : Nat → Int} {w : World} (ht : Txt w b 0 n g) (hn : n ≤ 65536) (h1 : va ≤ vb) (h2 : vb ≤ n) (e1 : l1 = n - vb) (e2 : l2 = n - vb)
    (ha : vb < n → a = ⟨b, vb, none⟩) :
    Calls Try.prog 14 #[.slice (some ⟨b, roOf n va (vb - va), none⟩) l1 c1, .slice (some a) l2 c2] w fun e w' => e = .returned (.bool true) ∧ Ext w w' := by
  by_cases hlt : vb < n
  · have hr : roOf n va (vb - va) = vb := by
      unfold roOf; rw [if_neg (by omega)]; omega
    rw [hr, ha hlt]
    subst e1; subst e2
    exact same_some b vb c1 b vb c2 (n - vb) (Js.sub g vb) w (txt_sub0 ht vb) (txt_sub0 ht vb) (by omega)
  · obtain rfl : l1 = 0 := by omega
    obtain rfl : l2 = 0 := by omega
    exact same_empty _ _ _ _ _

/-- mSame of a part with itself. -/
theorem same_part {b n p l c1 c2 : Nat} {g : Nat → Int} {w : World} (ht : Txt w b 0 n g) (hn : n ≤ 65536) (h : p + l ≤ n) :
    Calls Try.prog 14 #[.slice (some ⟨b, p, none⟩) l c1, .slice (some ⟨b, p, none⟩) l c2] w fun e w' => e = .returned (.bool true) ∧ Ext w w' := by
  have h1 : Txt w b p l (Js.sub g p) := fun j hj => txt_sub0 ht p j (by omega)
  exact same_some b p c1 b p c2 l _ w h1 h1 (by omega)

end Go.Proofs.Qxb6602274a

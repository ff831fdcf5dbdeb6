/-
  THE WALKS of trimSpace (30), mSame (14); mClone (9) at whatever slice of bytes.
-/
import Derived.Test.Qxb6602274aClone
namespace Go.Proofs.Qxb6602274a
open Go.RowKit Js

/-! ### trimSpace: where a byte that is no white space follows -/
theorem trim_any (b off n cap q : Nat) (g : Nat → Int) (w : World) (ht : Txt w b off n g) (hn : n ≤ 65536) (hcap : n ≤ cap) (hs : Skip g n 0 q) (hq : q < n) :
    Calls Try.prog 30 #[.slice (some ⟨b, off, none⟩) n cap] w fun e w' => e = .returned (.slice (some ⟨b, off + q, none⟩) (n - q) (cap - q)) ∧ w' = w := by
  obtain ⟨_, _, hws, hend⟩ := hs
  have HW : Hid (∀ j, 0 ≤ j → j < q → wsB (g j) = true) := hws
  have hend' := hend hq
  clear hws hend
  go_enter Try.func30, Try.ntmps30
  go_wp2_with fail
  go_loopg [0] q (fun gk t wr => ∃ k o l c : Nat, t = .slice (some ⟨b, o, none⟩) l c ∧ gk = q - k ∧ k ≤ q ∧ Hid (o = off + k ∧ l = n - k ∧ c = cap - k) ∧ w = wr)
  case atStart => exact ⟨0, off, n, cap, rfl, rfl, Nat.zero_le _, ⟨rfl, rfl, rfl⟩, rfl⟩
  case round =>
    obtain ⟨k, o, l, c, rfl, rfl, hk, HO, rfl⟩ := hrel
    have hl : 0 < (l : Int) := by have := HO.out; omega
    have hc := ht k (by omega)
    rw [← HO.out.1] at hc
    by_cases hkq : k < q
    · have hb := HW.out k (Nat.zero_le _) hkq
      have hl1 : 1 ≤ (l : Int) := by omega
      have hc1 : ¬ c = 1 := by have := HO.out; omega
      have hlc : l ≤ c := by have := HO.out; omega
      go_wp2_with (go_at_call 29; refine (isSpace_any _ _).mono ?_; rintro e w' ⟨rfl, rfl⟩)
      go_roundg (q - (k + 1))
      case rel => exact ⟨k + 1, o + 1, l - 1, c - 1, rfl, rfl, by omega, ⟨by have := HO.out; omega, by have := HO.out; omega, by have := HO.out; omega⟩, rfl⟩
      case measure => omega
    · obtain rfl : k = q := by omega
      go_wp2_with (go_at_call 29; refine (isSpace_any _ _).mono ?_; rintro e w' ⟨rfl, rfl⟩)
      go_ret
      obtain ⟨rfl, rfl, rfl⟩ := HO.out
      exact ⟨rfl, rfl⟩

/-! ### mSame: two slices that are not nil and hold the same -/
theorem same_some (b1 o1 c1 b2 o2 c2 m : Nat) (g : Nat → Int) (w : World) (h1 : Txt w b1 o1 m g) (h2 : Txt w b2 o2 m g) (hm : m ≤ 65536) :
    Calls Try.prog 14 #[.slice (some ⟨b1, o1, none⟩) m c1, .slice (some ⟨b2, o2, none⟩) m c2] w fun e w' => e = .returned (.bool true) ∧ Ext w w' := by
  have n1 := Lib.run_eql_slice_nil (P := Try.prog) w 22 5 (some ⟨b1, o1, none⟩) m c1 0 0 Try.underlying22
  have n2 := Lib.run_eql_slice_nil (P := Try.prog) w 22 5 (some ⟨b2, o2, none⟩) m c2 0 0 Try.underlying22
  go_enter Try.func14, Try.ntmps14
  go_wp2_with fail
  clear n1 n2
  go_loopg [5] m (fun gk i wr => ∃ k : Nat, i = .int .i64 k ∧ gk = m - k ∧ k ≤ m ∧ Hid (Ext w wr))
  case atStart => exact ⟨0, rfl, rfl, Nat.zero_le _, Ext.refl _⟩
  case round =>
    obtain ⟨k, rfl, rfl, hk, hx⟩ := hrel
    by_cases hlt : k < m
    · have e1 := (h1.ext hx.out) k hlt
      have e2 := (h2.ext hx.out) k hlt
      have hli : (k : Int) < (m : Int) := by omega
      go_wp2_with fail
      go_quiet (fail)
      go_wp2_with fail
      go_roundg (m - (k + 1))
      case rel => exact ⟨k + 1, by go_num, rfl, by omega, hx.out.trans (Ext.drewN _ _)⟩
      case measure => omega
    · go_wp2_with fail
      go_ret
      exact ⟨rfl, hx.out⟩

/-- .. two empty ones, wherever they lie. -/
theorem same_empty (a1 a2 : Addr) (c1 c2 : Nat) (w : World) :
    Calls Try.prog 14 #[.slice (some a1) 0 c1, .slice (some a2) 0 c2] w fun e w' => e = .returned (.bool true) ∧ Ext w w' := by
  have n1 := Lib.run_eql_slice_nil (P := Try.prog) w 22 5 (some a1) 0 c1 0 0 Try.underlying22
  have n2 := Lib.run_eql_slice_nil (P := Try.prog) w 22 5 (some a2) 0 c2 0 0 Try.underlying22
  go_enter Try.func14, Try.ntmps14
  go_wp2_with fail
  refine wp_loop_rounds 1 ?_
  rw [rounds_succ]
  go_wp2_with fail
  go_ret
  exact ⟨rfl, Ext.refl _⟩

/-- .. nil and nil. -/
theorem same_nil (w : World) :
    Calls Try.prog 14 #[.slice none 0 0, .slice none 0 0] w fun e w' => e = .returned (.bool true) ∧ Ext w w' := by
  have n1 := Lib.run_eql_slice_nil (P := Try.prog) w 22 5 none 0 0 0 0 Try.underlying22
  go_enter Try.func14, Try.ntmps14
  go_wp2_with fail
  refine wp_loop_rounds 1 ?_
  rw [rounds_succ]
  go_wp2_with fail
  go_ret
  exact ⟨rfl, Ext.refl _⟩

/-- A slice that mSame finds the same as itself: nil, or bytes that lie in a block. -/
def Self (w : World) (a : Option Addr) (l c : Nat) : Prop :=
  (a = none ∧ l = 0 ∧ c = 0) ∨ (∃ B g, a = some ⟨B, 0, none⟩ ∧ l ≤ 65536 ∧ Txt w B 0 l g)
theorem Self.ext {w w' : World} {a : Option Addr} {l c : Nat} (h : Self w a l c) (hx : Ext w w') : Self w' a l c := by
  rcases h with h | ⟨B, g, h1, h2, h3⟩
  · exact Or.inl h
  · exact Or.inr ⟨B, g, h1, h2, h3.ext hx⟩
theorem same_self {w : World} {a : Option Addr} {l c : Nat} (h : Self w a l c) :
    Calls Try.prog 14 #[.slice a l c, .slice a l c] w fun e w' => e = .returned (.bool true) ∧ Ext w w' := by
  rcases h with ⟨rfl, rfl, rfl⟩ | ⟨B, g, rfl, h2, h3⟩
  · exact same_nil w
  · exact same_some B 0 c B 0 c l g w h3 h3 h2

/-! ### mClone -/
theorem clone_empty (a : Addr) (cap : Nat) (w : World) :
    Calls Try.prog 9 #[.slice (some a) 0 cap] w (RClone (fun _ => 0) 0 w) := by
  have hnil := Lib.run_eql_slice_nil (P := Try.prog) w 22 5 (some a) 0 cap 0 0 Try.underlying22
  have hmk : (Instr.makeSlice 22 (.int .i64 0) (.int .i64 0)).run Try.prog w = .ok (.slice (some ⟨w.heap.size, 0, none⟩) 0 0) (w.alloc (.cells (madeCells #[.int .u8 0] 0) 5)) :=
    run_make_row' (P := Try.prog) 22 5 (.int .u8 0) 1 Try.underlying22 Try.info5 rfl .i64 .i64 0 (by omega) (by omega) w
  go_enter Try.func9, Try.ntmps9
  go_wp2_with (refine wpList_copy_own rfl (.tmp 9) (.tmp 10) 22 22 rfl 5 Try.underlying22 Try.size5 w.heap.size 0 0 0 a 0 cap rfl rfl (madeCells #[.int .u8 0] 0) 5 (heap_alloc_new _ _) [] rfl (fun j v hj => by simp at hj) (by simp) (fun v hv => by simp at hv) ?_)
  go_ret
  exact ⟨rfl, fun j hj => by omega, below_setRow (Below.alloc (Below.refl _ _) (Nat.le_refl _) _) (Nat.le_refl _) _, by simp⟩

/-- What mClone answers at whatever slice. -/
def RCl (w : World) (e : Ending) (w' : World) : Prop := ∃ a l c, e = .returned (.slice a l c) ∧ Self w' a l c ∧ Ext w w'

theorem clone_any (a : Option Addr) (l c : Nat) (w : World) (hl : l ≤ 65536) (h : (a = none ∧ l = 0 ∧ c = 0) ∨ (∃ x, a = some x ∧ l = 0) ∨ ∃ b off g, a = some ⟨b, off, none⟩ ∧ Txt w b off l g) :
    Calls Try.prog 9 #[.slice a l c] w (RCl w) := by
  rcases h with ⟨rfl, rfl, rfl⟩ | ⟨x, rfl, rfl⟩ | ⟨b, off, g, rfl, ht⟩
  · refine (clone_nil w).mono ?_
    rintro e w' ⟨rfl, rfl⟩
    exact ⟨none, 0, 0, rfl, Or.inl ⟨rfl, rfl, rfl⟩, Ext.refl _⟩
  · refine (clone_empty x c w).mono ?_
    rintro e w' ⟨rfl, ht, hx, _⟩
    exact ⟨_, _, _, rfl, Or.inr ⟨_, _, rfl, hl, ht⟩, hx⟩
  · refine (clone_some b off l c g w ht hl).mono ?_
    rintro e w' ⟨rfl, ht, hx, _⟩
    exact ⟨_, _, _, rfl, Or.inr ⟨_, _, rfl, hl, ht⟩, hx⟩

end Go.Proofs.Qxb6602274a

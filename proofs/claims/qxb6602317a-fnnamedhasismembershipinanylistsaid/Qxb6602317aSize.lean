/-
  THE WALKS of rosterTooBig (8) and zzBytes (7).
-/
import Derived.Test.Qxb6602317aWalks
namespace Go.Proofs.Qxb6602317a
open Go.RowKit Mem
set_option linter.unusedVariables false

/-- The cells of a list of lists: row r lies at off + r. -/
def Heads (w : World) (b off n : Nat) (A : Nat → Option Addr) (L C : Nat → Nat) : Prop := ∀ r, r < n → w.cell? ⟨b, off + r, none⟩ = some (.slice (A r) (L r) (C r))
theorem Heads.ext {w w' : World} {b off n : Nat} {A : Nat → Option Addr} {L C : Nat → Nat} (h : Heads w b off n A L C) (hx : Ext w w') : Heads w' b off n A L C := by
  intro j hj
  have h1 := h j hj
  rw [Below.cell hx (World.block_lt_of_cell? _ _ h1)]; exact h1

/-- What rosterTooBig answers. -/
def RRost (l n : Nat) (L : Nat → Nat) (w : World) (e : Ending) (w' : World) : Prop :=
  ∃ r : Bool, e = .returned (.bool r) ∧ (r = false → l ≤ 65536 ∧ n ≤ 65536 ∧ ∀ r, r < n → L r ≤ 131072) ∧ w' = w
theorem rrost_yes (l n : Nat) (L : Nat → Nat) (w : World) : RRost l n L w (.returned (.bool true)) w := ⟨true, rfl, fun h => (by cases h), rfl⟩
theorem rrost_no {l n : Nat} {L : Nat → Nat} {w : World} (h : l ≤ 65536 ∧ n ≤ 65536 ∧ ∀ r, r < n → L r ≤ 131072) : RRost l n L w (.returned (.bool false)) w := ⟨false, rfl, fun _ => h, rfl⟩

theorem roster_zero (a : Option Addr) (l c : Nat) (a2 : Option Addr) (c2 : Nat) (L : Nat → Nat) (w : World) :
    Calls Try.prog 8 #[.slice a l c, .slice a2 0 c2, .slice none 0 0] w (RRost l 0 L w) := by
  by_cases h1 : 65536 < (l : Int)
  · go_enter Try.func8, Try.ntmps8
    go_wp2_with fail
    go_ret
    exact rrost_yes _ _ _ _
  · have d1 : decide (65536 < (l : Int)) = false := decide_eq_false h1
    go_enter Try.func8, Try.ntmps8
    go_wp2_with fail
    refine wp_loop_rounds 1 ?_
    rw [rounds_succ]
    go_wp2_with fail
    go_ret
    exact rrost_no ⟨by omega, by omega, fun r hr => by omega⟩

theorem roster_any (a : Option Addr) (l c : Nat) (b off n c2 : Nat) (A : Nat → Option Addr) (L C : Nat → Nat) (w : World) (h : Heads w b off n A L C) :
    Calls Try.prog 8 #[.slice a l c, .slice (some ⟨b, off, none⟩) n c2, .slice none 0 0] w (RRost l n L w) := by
  by_cases h1 : 65536 < (l : Int)
  · go_enter Try.func8, Try.ntmps8
    go_wp2_with fail
    go_ret
    exact rrost_yes _ _ _ _
  have d1 : decide (65536 < (l : Int)) = false := decide_eq_false h1
  by_cases h2 : 65536 < (n : Int)
  · go_enter Try.func8, Try.ntmps8
    go_wp2_with fail
    go_ret
    exact rrost_yes _ _ _ _
  have d2 : decide (65536 < (n : Int)) = false := decide_eq_false h2
  by_cases h3 : 1048576 < 8 * (l : Int) + 24 * (n : Int)
  · go_enter Try.func8, Try.ntmps8
    go_wp2_with fail
    go_ret
    exact rrost_yes _ _ _ _
  have d3 : decide (1048576 < 8 * (l : Int) + 24 * (n : Int)) = false := decide_eq_false h3
  go_enter Try.func8, Try.ntmps8
  go_wp2_with fail
  go_loopg [7, 8] n (fun gk s i wr => ∃ (z : Int) (k : Nat), s = .int .i64 z ∧ i = .int .i64 k ∧ gk = n - k ∧ k ≤ n ∧ 0 ≤ z ∧ z ≤ 1048576 ∧ Hid (∀ r, r < k → L r ≤ 131072) ∧ w = wr)
  case atStart => exact ⟨_, 0, rfl, rfl, rfl, Nat.zero_le _, by omega, by omega, fun r hr => by omega, rfl⟩
  case round =>
    obtain ⟨z, k, rfl, rfl, rfl, hk, hz0, hz1, hL, rfl⟩ := hrel
    by_cases hlt : k < n
    · have hc := h k hlt
      by_cases h4 : 131072 < (L k : Int)
      · go_wp2_with fail
        go_ret
        exact rrost_yes _ _ _ _
      · by_cases h5 : 1048576 < z + 8 * (L k : Int)
        · go_wp2_with fail
          go_ret
          exact rrost_yes _ _ _ _
        · go_wp2_with fail
          go_roundg (n - (k + 1))
          case rel => exact ⟨z + 8 * (L k : Int), k + 1, rfl, by go_num, rfl, by omega, by omega, by omega, fun r hr => by
            by_cases e : r = k
            · rw [e]; omega
            · exact hL.out r (by omega), rfl⟩
          case measure => omega
    · go_wp2_with fail
      go_ret
      exact rrost_no ⟨by omega, by omega, fun r hr => hL.out r (by omega)⟩

/-- Some Bool, the world as it was. -/
def RAny (w : World) (e : Ending) (w' : World) : Prop := ∃ r : Bool, e = .returned (.bool r) ∧ w' = w

theorem bytes_zero (ro : Int) (a : Option Addr) (l c : Nat) (a2 : Option Addr) (c2 : Nat) (id : Int) (w : World) :
    Calls Try.prog 7 #[.int .u64 ro, .slice a l c, .slice a2 0 c2, .int .i64 id] w (RAny w) := by
  by_cases h1 : 1048576 < (l : Int)
  · go_enter Try.func7, Try.ntmps7
    go_wp2_with fail
    go_ret
    exact ⟨_, rfl, rfl⟩
  · go_enter Try.func7, Try.ntmps7
    go_wp2_with fail
    refine wp_loop_rounds 1 ?_
    rw [rounds_succ]
    go_wp2_with fail
    go_ret
    exact ⟨_, rfl, rfl⟩

theorem bytes_any (ro : Int) (a : Option Addr) (l c : Nat) (b off n c2 : Nat) (A : Nat → Option Addr) (L C : Nat → Nat) (id : Int) (w : World) (h : Heads w b off n A L C) :
    Calls Try.prog 7 #[.int .u64 ro, .slice a l c, .slice (some ⟨b, off, none⟩) n c2, .int .i64 id] w (RAny w) := by
  by_cases h1 : 1048576 < (l : Int)
  · go_enter Try.func7, Try.ntmps7
    go_wp2_with fail
    go_ret
    exact ⟨_, rfl, rfl⟩
  by_cases h2 : 1048576 < (n : Int)
  · go_enter Try.func7, Try.ntmps7
    go_wp2_with fail
    go_ret
    exact ⟨_, rfl, rfl⟩
  by_cases h3 : 1048576 < (l : Int) + (n : Int)
  · go_enter Try.func7, Try.ntmps7
    go_wp2_with fail
    go_ret
    exact ⟨_, rfl, rfl⟩
  have d1 : decide (1048576 < (l : Int)) = false := decide_eq_false h1
  have d2 : decide (1048576 < (n : Int)) = false := decide_eq_false h2
  have d3 : decide (1048576 < (l : Int) + (n : Int)) = false := decide_eq_false h3
  go_enter Try.func7, Try.ntmps7
  go_wp2_with fail
  go_loopg [9, 10] n (fun gk s i wr => ∃ (z : Int) (k : Nat), s = .int .i64 z ∧ i = .int .i64 k ∧ gk = n - k ∧ k ≤ n ∧ 0 ≤ z ∧ z ≤ 1048576 ∧ w = wr)
  case atStart => exact ⟨_, 0, rfl, rfl, rfl, Nat.zero_le _, by omega, by omega, rfl⟩
  case round =>
    obtain ⟨z, k, rfl, rfl, rfl, hk, hz0, hz1, rfl⟩ := hrel
    by_cases hlt : k < n
    · have hc := h k hlt
      by_cases h4 : 1048576 < (L k : Int)
      · go_wp2_with fail
        go_ret
        exact ⟨_, rfl, rfl⟩
      · by_cases h5 : 1048576 < z + (L k : Int)
        · go_wp2_with fail
          go_ret
          exact ⟨_, rfl, rfl⟩
        · go_wp2_with fail
          go_roundg (n - (k + 1))
          case rel => exact ⟨z + (L k : Int), k + 1, rfl, by go_num, rfl, by omega, by omega, by omega, rfl⟩
          case measure => omega
    · go_wp2_with fail
      go_ret
      exact ⟨_, rfl, rfl⟩

end Go.Proofs.Qxb6602317a

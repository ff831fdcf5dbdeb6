/-
  THE WALKS of the small readers: mIsWS (23), isSpace (29), mIsDigit (21), mIsHex (28), mSkipWS (25), mFollows (8), zzBytes (6).
-/
import Derived.Test.Qxb6602274aProg
import Derived.Test.Qxb6602274aPlain
import Derived.WalkKit
import Derived.Deep.LoopGhost
import Derived.Below
namespace Go.Proofs.Qxb6602274a
open Go.RowKit Js

theorem ret_bool {a b : Bool} (h : a = b) : Ending.returned (.bool a) = .returned (.bool b) := by rw [h]
theorem ret_int {k : IntKind} {a b : Int} (h : a = b) : Ending.returned (.int k a) = .returned (.int k b) := by rw [h]

/-- The cells of a text: byte j lies at off + j. -/
def Txt (w : World) (b off n : Nat) (g : Nat → Int) : Prop := ∀ j, j < n → w.cell? ⟨b, off + j, none⟩ = some (.int .u8 (g j))

theorem isWS_any (c : Int) (w : World) : Calls Try.prog 23 #[.int .u8 c] w fun e w' => e = .returned (.bool (wsB c)) ∧ w' = w := by
  by_cases h1 : (c == 32) = true
  · have hv : wsB c = true := by simp [wsB, h1]
    rw [hv]; clear hv
    go_enter Try.func23, Try.ntmps23
    go_wp2
    go_ret
    exact ⟨rfl, rfl⟩
  · have h1' : (c == 32) = false := by simpa using h1
    clear h1
    by_cases h2 : (c == 9) = true
    · have hv : wsB c = true := by simp [wsB, h2]
      rw [hv]; clear hv
      go_enter Try.func23, Try.ntmps23
      go_wp2
      go_ret
      exact ⟨rfl, rfl⟩
    · have h2' : (c == 9) = false := by simpa using h2
      clear h2
      by_cases h3 : (c == 13) = true
      · have hv : wsB c = true := by simp [wsB, h3]
        rw [hv]; clear hv
        go_enter Try.func23, Try.ntmps23
        go_wp2
        go_ret
        exact ⟨rfl, rfl⟩
      · have h3' : (c == 13) = false := by simpa using h3
        clear h3
        have hv : wsB c = (c == 10) := by simp [wsB, h1', h2', h3']
        rw [hv]; clear hv
        go_enter Try.func23, Try.ntmps23
        go_wp2
        go_ret
        exact ⟨rfl, rfl⟩

theorem isSpace_any (c : Int) (w : World) : Calls Try.prog 29 #[.int .u8 c] w fun e w' => e = .returned (.bool (wsB c)) ∧ w' = w := by
  by_cases h1 : (c == 32) = true
  · have hv : wsB c = true := by simp [wsB, h1]
    rw [hv]; clear hv
    go_enter Try.func29, Try.ntmps29
    go_wp2
    go_ret
    exact ⟨rfl, rfl⟩
  · have h1' : (c == 32) = false := by simpa using h1
    clear h1
    by_cases h2 : (c == 9) = true
    · have hv : wsB c = true := by simp [wsB, h2]
      rw [hv]; clear hv
      go_enter Try.func29, Try.ntmps29
      go_wp2
      go_ret
      exact ⟨rfl, rfl⟩
    · have h2' : (c == 9) = false := by simpa using h2
      clear h2
      by_cases h3 : (c == 13) = true
      · have hv : wsB c = true := by simp [wsB, h3]
        rw [hv]; clear hv
        go_enter Try.func29, Try.ntmps29
        go_wp2
        go_ret
        exact ⟨rfl, rfl⟩
      · have h3' : (c == 13) = false := by simpa using h3
        clear h3
        have hv : wsB c = (c == 10) := by simp [wsB, h1', h2', h3']
        rw [hv]; clear hv
        go_enter Try.func29, Try.ntmps29
        go_wp2
        go_ret
        exact ⟨rfl, rfl⟩

theorem isDigit_any (c : Int) (w : World) : Calls Try.prog 21 #[.int .u8 c] w fun e w' => e = .returned (.bool (digB c)) ∧ w' = w := by
  by_cases h1 : 48 ≤ c
  · have hv : digB c = decide (c ≤ 57) := by simp [digB, h1]
    rw [hv]; clear hv
    go_enter Try.func21, Try.ntmps21
    go_wp2
    go_ret
    exact ⟨rfl, rfl⟩
  · have hv : digB c = false := by simp [digB, h1]
    rw [hv]; clear hv
    have hd : decide (48 ≤ c) = false := by simpa using h1
    go_enter Try.func21, Try.ntmps21
    go_wp2
    go_ret
    exact ⟨rfl, rfl⟩

theorem isHex_any (c : Int) (w : World) : Calls Try.prog 28 #[.int .u8 c] w fun e w' => e = .returned (.bool (hexB c)) ∧ w' = w := by
  by_cases h0 : digB c = true
  · have hv : hexB c = true := by simp [hexB, h0]
    rw [hv]; clear hv
    go_enter Try.func28, Try.ntmps28
    go_wp2_with (go_at_call 21; refine (isDigit_any _ _).mono ?_; rintro e w' ⟨rfl, rfl⟩)
    go_ret
    exact ⟨rfl, rfl⟩
  · have h0' : digB c = false := by simpa using h0
    clear h0
    by_cases h1 : 97 ≤ c
    · by_cases h2 : c ≤ 102
      · have hv : hexB c = true := by simp [hexB, h1, h2]
        rw [hv]; clear hv
        go_enter Try.func28, Try.ntmps28
        go_wp2_with (go_at_call 21; refine (isDigit_any _ _).mono ?_; rintro e w' ⟨rfl, rfl⟩)
        go_ret
        exact ⟨rfl, rfl⟩
      · have h65 : 65 ≤ c := by omega
        have hv : hexB c = false := by simp [hexB, h0', h2]; omega
        rw [hv]; clear hv
        have h70 : ¬ c ≤ 70 := by omega
        have hd : decide (c ≤ 102) = false := by simpa using h2
        have hd7 : decide (c ≤ 70) = false := by simpa using h70
        go_enter Try.func28, Try.ntmps28
        go_wp2_with (go_at_call 21; refine (isDigit_any _ _).mono ?_; rintro e w' ⟨rfl, rfl⟩)
        go_ret
        exact ⟨rfl, rfl⟩
    · have hd : decide (97 ≤ c) = false := by simpa using h1
      by_cases h3 : 65 ≤ c
      · have hv : hexB c = decide (c ≤ 70) := by simp [hexB, h0', h1, h3]
        rw [hv]; clear hv
        go_enter Try.func28, Try.ntmps28
        go_wp2_with (go_at_call 21; refine (isDigit_any _ _).mono ?_; rintro e w' ⟨rfl, rfl⟩)
        go_ret
        exact ⟨rfl, rfl⟩
      · have hv : hexB c = false := by simp [hexB, h0', h1, h3]
        rw [hv]; clear hv
        have hd2 : decide (65 ≤ c) = false := by simpa using h3
        go_enter Try.func28, Try.ntmps28
        go_wp2_with (go_at_call 21; refine (isDigit_any _ _).mono ?_; rintro e w' ⟨rfl, rfl⟩)
        go_ret
        exact ⟨rfl, rfl⟩

theorem skip_any (b off n cap p : Nat) (g : Nat → Int) (w : World) (ht : Txt w b off n g) (hp : p ≤ n) (hn : n ≤ 65536) :
    Calls Try.prog 25 #[.slice (some ⟨b, off, none⟩) n cap, .int .i64 p] w fun e w' => ∃ q : Nat, e = .returned (.int .i64 q) ∧ Skip g n p q ∧ w' = w := by
  go_enter Try.func25, Try.ntmps25
  go_wp2
  go_loop [1] (fun i => ∃ k : Nat, p ≤ k ∧ k ≤ n ∧ i = .int .i64 k ∧ Hid (∀ j, p ≤ j → j < k → wsB (g j) = true)) (fun i => n - (intOf i).toNat)
  case atStart => exact ⟨p, Nat.le_refl _, hp, rfl, fun j h1 h2 => by omega⟩
  case round =>
    obtain ⟨k, hpk, hk, rfl, hall⟩ := hrel
    by_cases hlt : k < n
    · have hc := ht k hlt
      by_cases hb : wsB (g k) = true
      · go_wp2_with (go_at_call 23; refine (isWS_any _ _).mono ?_; rintro e w' ⟨rfl, rfl⟩)
        go_round
        case rel => exact ⟨k + 1, by omega, by omega, by go_num, fun j h1 h2 => by
          by_cases e : j = k
          · rw [e]; exact hb
          · exact hall.out j h1 (by omega)⟩
        case measure => simp [intOf]; omega
      · have hb' : wsB (g k) = false := by simpa using hb
        go_wp2_with (go_at_call 23; refine (isWS_any _ _).mono ?_; rintro e w' ⟨rfl, rfl⟩)
        go_ret
        exact ⟨k, rfl, ⟨hpk, hk, hall.out, fun _ => hb'⟩, rfl⟩
    · go_wp2_with fail
      go_ret
      exact ⟨k, rfl, ⟨hpk, hk, hall.out, fun h => absurd h hlt⟩, rfl⟩

/-- Nothing to skip in an empty text, whatever its address. -/
theorem skip_none (a : Option Addr) (cap : Nat) (w : World) :
    Calls Try.prog 25 #[.slice a 0 cap, .int .i64 0] w fun e w' => e = .returned (.int .i64 0) ∧ w' = w := by
  go_enter Try.func25, Try.ntmps25
  go_wp2
  refine wp_loop_rounds 1 ?_
  rw [rounds_succ]
  go_wp2_with fail
  go_ret
  exact ⟨rfl, rfl⟩

end Go.Proofs.Qxb6602274a

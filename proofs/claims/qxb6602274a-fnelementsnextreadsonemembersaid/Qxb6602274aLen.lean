/-
  THE WALKS of mFollows (8), valueLen (24), ZZvalueLen (10), mClone (9).
-/
import Derived.Test.Qxb6602274aNum
import Derived.Laws.CopyOwn
import Derived.Deep.OwnRows
import Derived.Lib.SliceRun
namespace Go.Proofs.Qxb6602274a
open Go.RowKit Js

/-! ### mFollows -/
theorem follows_any (b off n cap p : Nat) (g : Nat → Int) (k : Int) (w : World) (ht : Txt w b off n g) :
    Calls Try.prog 8 #[.slice (some ⟨b, off, none⟩) n cap, .int .i64 p, .int .i64 k] w fun e w' => e = .returned (.bool (folB g n p k)) ∧ w' = w := by
  by_cases h3 : (k == 3) = true
  · have HV : folB g n p k = true := by simp [folB, h3]
    rw [HV]; clear HV
    go_enter Try.func8, Try.ntmps8
    go_wp2_with fail
    go_ret
    exact ⟨rfl, rfl⟩
  have h3' : (k == 3) = false := by simpa using h3
  clear h3
  by_cases h4 : (k == 4) = true
  · have HV : folB g n p k = true := by simp [folB, h4]
    rw [HV]; clear HV
    go_enter Try.func8, Try.ntmps8
    go_wp2_with fail
    go_ret
    exact ⟨rfl, rfl⟩
  have h4' : (k == 4) = false := by simpa using h4
  clear h4
  by_cases h5 : (k == 5) = true
  · have HV : folB g n p k = true := by simp [folB, h5]
    rw [HV]; clear HV
    go_enter Try.func8, Try.ntmps8
    go_wp2_with fail
    go_ret
    exact ⟨rfl, rfl⟩
  have h5' : (k == 5) = false := by simpa using h5
  clear h5
  by_cases hpn : p < n
  · have hc := ht p hpn
    have hdn : decide (n ≤ p) = false := decide_eq_false (by omega)
    obtain ⟨c, HC⟩ : ∃ c, Hid (c = g p) := ⟨_, rfl⟩
    rw [← HC.out] at hc
    have HV : folB g n p k = (wsB c || c == 44 || c == 93 || c == 125) := by rw [HC.out]; simp [folB, h3', h4', h5', hdn]
    rw [HV]; clear HV hdn
    by_cases hw : wsB c = true
    · have HV : (wsB c || c == 44 || c == 93 || c == 125) = true := by simp [hw]
      rw [HV]; clear HV
      go_enter Try.func8, Try.ntmps8
      go_wp2_with (go_at_call 23; refine (isWS_any _ _).mono ?_; rintro e w' ⟨rfl, rfl⟩)
      go_ret
      exact ⟨rfl, rfl⟩
    have hw' : wsB c = false := by simpa using hw
    clear hw
    by_cases h44 : (c == 44) = true
    · have HV : (wsB c || c == 44 || c == 93 || c == 125) = true := by simp [h44]
      rw [HV]; clear HV
      go_enter Try.func8, Try.ntmps8
      go_wp2_with (go_at_call 23; refine (isWS_any _ _).mono ?_; rintro e w' ⟨rfl, rfl⟩)
      go_ret
      exact ⟨rfl, rfl⟩
    have h44' : (c == 44) = false := by simpa using h44
    clear h44
    by_cases h93 : (c == 93) = true
    · have HV : (wsB c || c == 44 || c == 93 || c == 125) = true := by simp [h93]
      rw [HV]; clear HV
      go_enter Try.func8, Try.ntmps8
      go_wp2_with (go_at_call 23; refine (isWS_any _ _).mono ?_; rintro e w' ⟨rfl, rfl⟩)
      go_ret
      exact ⟨rfl, rfl⟩
    have h93' : (c == 93) = false := by simpa using h93
    clear h93
    have HV : (wsB c || c == 44 || c == 93 || c == 125) = (c == 125) := by simp [hw', h44', h93']
    rw [HV]; clear HV
    go_enter Try.func8, Try.ntmps8
    go_wp2_with (go_at_call 23; refine (isWS_any _ _).mono ?_; rintro e w' ⟨rfl, rfl⟩)
    go_ret
    exact ⟨rfl, rfl⟩
  · have HV : folB g n p k = true := by
      have : decide (n ≤ p) = true := decide_eq_true (by omega)
      simp [folB, this]
    rw [HV]; clear HV
    go_enter Try.func8, Try.ntmps8
    go_wp2_with fail
    go_ret
    exact ⟨rfl, rfl⟩

/-! ### valueLen -/
/-- .. of a string. -/
theorem vl_str (b off n cap : Nat) (g : Nat → Int) (e : Nat) (w : World) (ht : Txt w b off n g) (hn : n ≤ 65536) (h : Str g n 0 e) :
    Calls Try.prog 24 #[.slice (some ⟨b, off, none⟩) n cap] w fun E w' => E = .returned (.int .i64 e) ∧ w' = w := by
  obtain ⟨h0, h34, k0, q, hsr, hq, hq34, rfl⟩ := h
  have hc0 := ht 0 h0
  rw [h34] at hc0
  simp only [Nat.add_zero] at hc0
  have HQ : Hid (g q = 34) := hq34
  clear h34 hq34
  go_enter Try.func24, Try.ntmps24
  go_wp2_with fail
  go_loopg [3] k0 (fun gk i wr => ∃ k : Nat, i = .int .i64 k ∧ Hid (SR g n gk k q) ∧ w = wr)
  case atStart => exact ⟨1, rfl, hsr, rfl⟩
  case round =>
    obtain ⟨k, rfl, hk, rfl⟩ := hrel
    have hle := hk.out.le
    have hc := ht k (by omega)
    cases gk with
    | zero =>
      obtain rfl : k = q := hk.out
      rw [HQ.out] at hc
      go_wp2_with fail
      go_ret
      exact ⟨ret_int (by omega), rfl⟩
    | succ m =>
      obtain ⟨hkn, hs⟩ := hk.out
      clear hk
      rcases hs with ⟨h92, hs⟩ | ⟨h92, h34, hs⟩
      · rw [h92] at hc
        have HS : Hid (SR g n m (k + 2) q) := hs
        clear hs h92
        go_wp2_with fail
        go_roundg m
        case rel => exact ⟨k + 2, by go_num, HS, rfl⟩
        case measure => omega
      · have HS : Hid (SR g n m (k + 1) q) := hs
        clear hs
        have b92 : (g k == 92) = false := by simpa using h92
        have b34 : (g k == 34) = false := by simpa using h34
        go_wp2_with fail
        go_roundg m
        case rel => exact ⟨k + 1, by go_num, HS, rfl⟩
        case measure => omega

end Go.Proofs.Qxb6602274a

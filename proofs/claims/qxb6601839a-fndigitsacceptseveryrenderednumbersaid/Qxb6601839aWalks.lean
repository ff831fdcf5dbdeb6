/-
  THE WALKS of 'number.Digits' (11), 'countDigitBytes' (10), 'isDigitByte' (20), 'zzBytes_..' (9).
-/
import Derived.Test.Qxb6601839aProg
import Derived.Test.Qxb6601839aPlain
import Derived.WalkKit
namespace Go.Proofs.Qxb6601839a
open Go.RowKit Dig

theorem ret_bool {a b : Bool} (h : a = b) : Ending.returned (.bool a) = .returned (.bool b) := by rw [h]
theorem ret_int {k : IntKind} {a b : Int} (h : a = b) : Ending.returned (.int k a) = .returned (.int k b) := by rw [h]

theorem digits_empty (s : ByteArray) (h : s.size = 0) : digB s.data.toList = false := by
  unfold digB
  have : s.data.toList = [] := by
    apply List.eq_nil_of_length_eq_zero
    simpa using h
  rw [this]; rfl

theorem digB_of_all (s : ByteArray) (h : 0 < s.size) (hd : (s.data.toList.take s.size).all isD = true) : digB s.data.toList = true := by
  have hl : s.data.toList.length = s.size := by simp
  rw [List.take_of_length_le (by omega)] at hd
  unfold digB
  rw [hd]
  cases hs : s.data.toList with
  | nil => rw [hs] at hl; simp at hl; omega
  | cons a l => rfl

theorem digB_of_not (s : ByteArray) (k : Nat) (h : k < s.size) (hd : isD s[k] = false) : digB s.data.toList = false := by
  unfold digB; rw [not_all_of s k h hd]; simp

set_option maxHeartbeats 400000 in
theorem digits_any (s : ByteArray) (w : World) (hs : s.size ≤ maxLen) :
    Calls Try.prog 11 #[.string s] w fun e w' => e = .returned (.bool (digB s.data.toList)) ∧ w' = w := by
  unfold maxLen at hs
  by_cases h0 : s.size = 0
  · have he : s = ByteArray.empty := ByteArray.size_eq_zero_iff.1 h0
    subst he
    go_enter Try.func11, Try.ntmps11
    go_wp2
    go_ret
    exact ⟨rfl, rfl⟩
  · have hne : s.toList.isEmpty = false := by
      have hl : s.toList.length = s.size := by rw [ByteArray.toList_eq]; simp
      cases hh : s.toList with
      | nil => rw [hh] at hl; simp at hl; omega
      | cons a l => rfl
    go_enter Try.func11, Try.ntmps11
    go_wp2
    go_loop [3] (fun i => ∃ k : Nat, k ≤ s.size ∧ i = .int .i64 k ∧ Hid ((s.data.toList.take k).all isD = true)) (fun i => s.size - (intOf i).toNat)
    case atStart => exact ⟨0, Nat.zero_le _, rfl, rfl⟩
    case round =>
      obtain ⟨k, hk, rfl, hall⟩ := hrel
      by_cases hlt : k < s.size
      · by_cases h1 : (s[k].toNat : Int) < 48
        · go_wp2
          go_ret
          exact ⟨ret_bool (digB_of_not s k hlt (isD_low _ h1)).symm, rfl⟩
        · by_cases h2 : 57 < (s[k].toNat : Int)
          · go_wp2
            go_ret
            exact ⟨ret_bool (digB_of_not s k hlt (isD_high _ h2)).symm, rfl⟩
          · have hd : Hid (isD s[k] = true) := isD_yes _ (by omega) (by omega)
            go_wp2
            go_round
            case rel => exact ⟨k + 1, by omega, by go_num, by show _ = true; rw [all_take_succ s k hlt, hall.out, hd.out]; rfl⟩
            case measure => simp [intOf]; omega
      · have hke : k = s.size := by omega
        go_wp2
        go_ret
        exact ⟨ret_bool (digB_of_all s (by omega) (by rw [← hke]; exact hall.out)).symm, rfl⟩

theorem isDigitByte_any (c : UInt8) (w : World) :
    Calls Try.prog 20 #[.int .u8 c.toNat] w fun e w' => e = .returned (.bool (isD c)) ∧ w' = w := by
  by_cases h : 48 ≤ (c.toNat : Int) ∧ (c.toNat : Int) ≤ 57
  · have hd := isD_yes c h.1 h.2
    rw [hd]
    obtain ⟨n, hn⟩ : ∃ n : Nat, n = c.toNat := ⟨_, rfl⟩
    rw [← hn] at h ⊢
    clear hn hd
    have hc : n = 48 ∨ n = 49 ∨ n = 50 ∨ n = 51 ∨ n = 52 ∨ n = 53 ∨ n = 54 ∨ n = 55 ∨ n = 56 ∨ n = 57 := by omega
    clear h
    rcases hc with rfl | rfl | rfl | rfl | rfl | rfl | rfl | rfl | rfl | rfl
    all_goals
      go_enter Try.func20, Try.ntmps20
      go_wp2
      go_ret
      exact ⟨rfl, rfl⟩
  · have hd : isD c = false := by
      unfold isD; simp; omega
    rw [hd]
    obtain ⟨n, hn⟩ : ∃ n : Nat, n = c.toNat := ⟨_, rfl⟩
    rw [← hn] at h ⊢
    clear hn hd
    have h' : (n : Int) < 48 ∨ 57 < (n : Int) := by omega
    clear h
    rcases h' with h' | h'
    all_goals
      go_enter Try.func20, Try.ntmps20
      go_wp2
      go_ret
      exact ⟨rfl, rfl⟩

set_option maxHeartbeats 400000 in
theorem count_any (s : ByteArray) (w : World) (hs : s.size ≤ maxLen) :
    Calls Try.prog 10 #[.string s] w fun e w' => e = .returned (.int .i64 (cnt s.data.toList)) ∧ w' = w := by
  unfold maxLen at hs
  go_enter Try.func10, Try.ntmps10
  go_wp2
  go_loop [3, 4] (fun n i => ∃ k : Nat, k ≤ s.size ∧ i = .int .i64 k ∧ n = .int .i64 (cnt (s.data.toList.take k))) (fun _ i => s.size - (intOf i).toNat)
  case atStart => exact ⟨0, Nat.zero_le _, rfl, rfl⟩
  case round =>
    obtain ⟨k, hk, rfl, rfl⟩ := hrel
    have hd := cnt_le (s.data.toList.take k)
    have hl : (s.data.toList.take k).length ≤ k := List.length_take_le _ _
    by_cases hlt : k < s.size
    · have HS : Hid (cnt (s.data.toList.take (k + 1)) = cnt (s.data.toList.take k) + (if isD s[k] = true then 1 else 0)) := cnt_take_succ s k hlt
      by_cases hb : isD s[k] = true
      · go_wp2_with (go_at_call 20; refine (isDigitByte_any _ _).mono ?_; rintro e w' ⟨rfl, rfl⟩)
        go_round
        case rel => exact ⟨k + 1, by omega, by go_num, by rw [HS.out, if_pos hb]; go_num⟩
        case measure => simp [intOf]; omega
      · have hb' : isD s[k] = false := by simpa using hb
        go_wp2_with (go_at_call 20; refine (isDigitByte_any _ _).mono ?_; rintro e w' ⟨rfl, rfl⟩)
        go_round
        case rel => exact ⟨k + 1, by omega, by go_num, by rw [HS.out, if_neg (by simp [hb'])]; go_num⟩
        case measure => simp [intOf]; omega
    · go_wp2
      go_ret
      exact ⟨ret_int (by rw [List.take_of_length_le (by simp; omega)]), rfl⟩

end Go.Proofs.Qxb6601839a

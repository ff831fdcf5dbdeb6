/-
  THE WALK of mParseString (19): where it answers true, a string lies there.
-/
import Derived.Test.Qxb6602274aWalks
namespace Go.Proofs.Qxb6602274a
open Go.RowKit Js

theorem sr_one {g : Nat → Int} {n k i q : Nat} (h : SR g n k i q) (hq : q < n) (h1 : g q ≠ 92) (h2 : g q ≠ 34) : ∃ m, SR g n m i (q + 1) :=
  ⟨k + 1, h.trans (l := 1) ⟨hq, Or.inr ⟨h1, h2, rfl⟩⟩⟩
theorem sr_two {g : Nat → Int} {n k i q : Nat} (h : SR g n k i q) (hq : q < n) (h1 : g q = 92) : ∃ m, SR g n m i (q + 2) :=
  ⟨k + 1, h.trans (l := 1) ⟨hq, Or.inl ⟨h1, rfl⟩⟩⟩

theorem hex_plain {c : Int} (h : hexB c = true) : c ≠ 92 ∧ c ≠ 34 := by
  unfold hexB digB at h
  simp only [Bool.or_eq_true, Bool.and_eq_true, decide_eq_true_eq] at h
  omega

theorem sr_u {g : Nat → Int} {n i q : Nat} (h : ∃ k, SR g n k i q) (hq : q + 6 ≤ n) (h1 : g q = 92)
    (hx : ∀ j, 2 ≤ j → j < 6 → hexB (g (q + j)) = true) : ∃ m, SR g n m i (q + 6) := by
  obtain ⟨k, h⟩ := h
  obtain ⟨k2, h⟩ := sr_two h (by omega) h1
  have a2 := hex_plain (hx 2 (by omega) (by omega))
  have a3 := hex_plain (hx 3 (by omega) (by omega))
  have a4 := hex_plain (hx 4 (by omega) (by omega))
  have a5 := hex_plain (hx 5 (by omega) (by omega))
  obtain ⟨k3, h⟩ := sr_one h (by omega) a2.1 a2.2
  obtain ⟨k4, h⟩ := sr_one h (by omega) a3.1 a3.2
  obtain ⟨k5, h⟩ := sr_one h (by omega) a4.1 a4.2
  obtain ⟨k6, h⟩ := sr_one h (by omega) a5.1 a5.2
  exact ⟨k6, h⟩

theorem str_mk {g : Nat → Int} {n p q : Nat} (hp : p < n) (h0 : g p = 34) (h : ∃ k, SR g n k (p + 1) q) (hq : q < n) (h1 : g q = 34) : Str g n p (q + 1) := by
  obtain ⟨k, h⟩ := h
  exact ⟨hp, h0, k, q, h, hq, h1, rfl⟩

/-- What mParseString answers. (Behind a name, so that the walk does not take it apart.) -/
def RStr (g : Nat → Int) (n p : Nat) (w : World) (e : Ending) (w' : World) : Prop :=
  ∃ (q : Nat) (ok : Bool), e = .returned (.tuple #[.int .i64 q, .bool ok]) ∧ (ok = true → Str g n p q) ∧ w' = w
theorem rstr_no (g : Nat → Int) (n p : Nat) (w : World) : RStr g n p w (.returned (.tuple #[.int .i64 0, .bool false])) w :=
  ⟨0, false, rfl, fun h => (by cases h), rfl⟩
theorem rstr_yes {g : Nat → Int} {n p q : Nat} (w : World) {v : Int} (hv : v = ((q + 1 : Nat) : Int)) (h : Str g n p (q + 1)) : RStr g n p w (.returned (.tuple #[.int .i64 v, .bool true])) w :=
  ⟨q + 1, true, by rw [hv], fun _ => h, rfl⟩

set_option maxRecDepth 20000 in
set_option maxHeartbeats 1000000 in
theorem pstr_any (b off n cap p : Nat) (g : Nat → Int) (w : World) (ht : Txt w b off n g) (hp : p ≤ n) (hn : n ≤ 65536) :
    Calls Try.prog 19 #[.slice (some ⟨b, off, none⟩) n cap, .int .i64 p] w (RStr g n p w) := by
  by_cases hlt0 : p < n
  · have hc0 := ht p hlt0
    by_cases hq0 : g p = 34
    · rw [hq0] at hc0
      have HQ : Hid (g p = 34) := hq0
      clear hq0
      go_enter Try.func19, Try.ntmps19
      go_wp2_with fail
      go_loop [6] (fun i => ∃ k : Nat, p + 1 ≤ k ∧ k ≤ n ∧ i = .int .i64 k ∧ Hid (∃ m, SR g n m (p + 1) k)) (fun i => n - (intOf i).toNat)
      case atStart => exact ⟨p + 1, Nat.le_refl _, hlt0, by go_num, ⟨0, rfl⟩⟩
      case round =>
        obtain ⟨k, hpk, hk, rfl, hsr⟩ := hrel
        by_cases hlt : k < n
        · have hc := ht k hlt
          obtain ⟨c, HC⟩ : ∃ c, Hid (c = g k) := ⟨_, rfl⟩
          rw [← HC.out] at hc
          by_cases h34 : c = 34
          · subst h34
            go_wp2_with fail
            go_ret2
            exact rstr_yes _ (q := k) (by omega) (str_mk hlt0 HQ.out hsr.out hlt HC.out.symm)
          · by_cases h20 : c < 32
            · go_wp2_with fail
              go_ret2
              exact rstr_no _ _ _ _
            · by_cases h92 : c = 92
              · subst h92
                by_cases hk1 : k + 1 < n
                · have hc1 := ht (k + 1) hk1
                  obtain ⟨c2, HC2⟩ : ∃ c2, Hid (c2 = g (k + 1)) := ⟨_, rfl⟩
                  rw [← HC2.out] at hc1
                  by_cases hesc : c2 = 34 ∨ c2 = 92 ∨ c2 = 47 ∨ c2 = 98 ∨ c2 = 102 ∨ c2 = 110 ∨ c2 = 114 ∨ c2 = 116
                  · have HN : Hid (∃ m, SR g n m (p + 1) (k + 2)) := by
                      obtain ⟨m, h⟩ := hsr.out
                      exact sr_two h hlt HC.out.symm
                    rcases hesc with rfl | rfl | rfl | rfl | rfl | rfl | rfl | rfl
                    all_goals
                      go_wp2_with fail
                      go_round
                      case rel => exact ⟨k + 2, by omega, by omega, by go_num, HN⟩
                      case measure => simp [intOf]; omega
                  · by_cases h117 : c2 = 117
                    · subst h117
                      clear hesc
                      by_cases h6 : k + 6 ≤ n
                      · go_wp2_with fail
                        go_loop [8] (fun kk => ∃ j : Nat, 2 ≤ j ∧ j ≤ 6 ∧ kk = .int .i64 j ∧ Hid (∀ i, 2 ≤ i → i < j → hexB (g (k + i)) = true)) (fun kk => 6 - (intOf kk).toNat)
                        case atStart => exact ⟨2, Nat.le_refl _, by omega, rfl, fun i h1 h2 => by omega⟩
                        case round =>
                          obtain ⟨j, hj2, hj6, rfl, hhex⟩ := hrel
                          by_cases hj : j < 6
                          · have hcj := ht (k + j) (by omega)
                            by_cases hb : hexB (g (k + j)) = true
                            · go_wp2_with (go_at_call 28; refine (isHex_any _ _).mono ?_; rintro e w' ⟨rfl, rfl⟩)
                              go_round
                              case rel => exact ⟨j + 1, by omega, by omega, by go_num, fun i h1 h2 => by
                                by_cases e : i = j
                                · rw [e]; exact hb
                                · exact hhex.out i h1 (by omega)⟩
                              case measure => simp [intOf]; omega
                            · have hb' : hexB (g (k + j)) = false := by simpa using hb
                              go_wp2_with (go_at_call 28; refine (isHex_any _ _).mono ?_; rintro e w' ⟨rfl, rfl⟩)
                              go_ret2
                              exact rstr_no _ _ _ _
                          · have HN : Hid (∃ m, SR g n m (p + 1) (k + 6)) := sr_u hsr.out h6 HC.out.symm (fun i h1 h2 => hhex.out i h1 (by omega))
                            obtain rfl : j = 6 := by omega
                            clear hhex hj hj6 hj2
                            go_wp2_with fail
                            go_round
                            case rel => exact ⟨_, _, .int .i64 ((k + 6 : Nat) : Int), ⟨k + 6, by omega, by omega, rfl, HN⟩, rfl, rfl, by go_num⟩
                            case measure => simp [intOf]; omega
                      · go_wp2_with fail
                        go_ret2
                        exact rstr_no _ _ _ _
                    · have e1 : ¬ c2 = 34 := fun h => hesc (by simp [h])
                      have e2 : ¬ c2 = 92 := fun h => hesc (by simp [h])
                      have e3 : ¬ c2 = 47 := fun h => hesc (by simp [h])
                      have e4 : ¬ c2 = 98 := fun h => hesc (by simp [h])
                      have e5 : ¬ c2 = 102 := fun h => hesc (by simp [h])
                      have e6 : ¬ c2 = 110 := fun h => hesc (by simp [h])
                      have e7 : ¬ c2 = 114 := fun h => hesc (by simp [h])
                      have e8 : ¬ c2 = 116 := fun h => hesc (by simp [h])
                      clear hesc
                      go_wp2_with fail
                      go_ret2
                      exact rstr_no _ _ _ _
                · go_wp2_with fail
                  go_ret2
                  exact rstr_no _ _ _ _
              · have HN : Hid (∃ m, SR g n m (p + 1) (k + 1)) := by
                  obtain ⟨m, h⟩ := hsr.out
                  exact sr_one h hlt (by rw [← HC.out]; exact h92) (by rw [← HC.out]; exact h34)
                go_wp2_with fail
                go_round
                case rel => exact ⟨k + 1, by omega, by omega, by go_num, HN⟩
                case measure => simp [intOf]; omega
        · go_wp2_with fail
          go_ret2
          exact rstr_no _ _ _ _
    · have hq1 : (g p != 34) = true := by simpa using hq0
      go_enter Try.func19, Try.ntmps19
      go_wp2_with fail
      go_ret2
      exact rstr_no _ _ _ _
  · go_enter Try.func19, Try.ntmps19
    go_wp2_with fail
    go_ret2
    exact rstr_no _ _ _ _

end Go.Proofs.Qxb6602274a

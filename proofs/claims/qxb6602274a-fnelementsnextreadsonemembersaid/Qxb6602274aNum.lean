/-
  THE WALKS of mFollows (8), mParseWord (20), mParseNumber (22).
-/
import Derived.Test.Qxb6602274aWalks
import Derived.Deep.QuietTactic
import Derived.BigQuiet
import Derived.Deep.DeepCutAuto
import Derived.WalkSmall
namespace Go.Proofs.Qxb6602274a
open Go.RowKit Js

/-- What was there stays as it was. -/
def Ext (w w' : World) : Prop := Below w.heap.size w w'
theorem Ext.refl (w : World) : Ext w w := Below.refl _ _
theorem Ext.trans {a b c : World} (h : Ext a b) (k : Ext b c) : Ext a c := Below.trans h (Below.mono k h.size)
theorem Ext.drewN (w : World) (n : Nat) : Ext w (w.drewN n) := below_drewN (Below.refl _ _) n
theorem Txt.ext {w w' : World} {b off n : Nat} {g : Nat → Int} (h : Txt w b off n g) (hb : Ext w w') : Txt w' b off n g := by
  intro j hj
  have h1 := h j hj
  rw [Below.cell hb (World.block_lt_of_cell? _ _ h1)]; exact h1

/-- What mParseWord and mParseNumber answer. -/
def RScal (g : Nat → Int) (n p : Nat) (w : World) (e : Ending) (w' : World) : Prop :=
  ∃ (q : Nat) (ok : Bool), e = .returned (.tuple #[.int .i64 q, .bool ok]) ∧ (ok = true → Scal g n p q) ∧ Ext w w'
theorem rscal_no {g : Nat → Int} {n p : Nat} {w w' : World} (h : Ext w w') : RScal g n p w (.returned (.tuple #[.int .i64 0, .bool false])) w' :=
  ⟨0, false, rfl, fun h => (by cases h), h⟩
theorem rscal_yes {g : Nat → Int} {n p q : Nat} {w w' : World} {v : Int} (hv : v = (q : Int)) (h : Scal g n p q) (hb : Ext w w') : RScal g n p w (.returned (.tuple #[.int .i64 v, .bool true])) w' :=
  ⟨q, true, by rw [hv], fun _ => h, hb⟩

theorem word_scal {g : Nat → Int} {n p : Nat} (s : ByteArray) (h0 : 0 < s.size) (hn : p + s.size ≤ n) (hd : ∀ j (h : j < s.size), delB (s[j].toNat : Int) = false)
    (hm : ∀ j (h : j < s.size), g (p + j) = (s[j].toNat : Int)) : Scal g n p (p + s.size) := by
  refine ⟨by omega, hn, fun j h1 h2 => ?_⟩
  have := hm (j - p) (by omega)
  rw [show p + (j - p) = j by omega] at this
  rw [this]; exact hd _ _

set_option maxHeartbeats 400000 in
theorem word_any (b off n cap p : Nat) (g : Nat → Int) (w : World) (ht : Txt w b off n g) (hp : p ≤ n) (hn : n ≤ 65536) (s : ByteArray) (h0 : 0 < s.size) (h8 : s.size ≤ 8)
    (hd : ∀ j (h : j < s.size), delB (s[j].toNat : Int) = false) :
    Calls Try.prog 20 #[.slice (some ⟨b, off, none⟩) n cap, .int .i64 p, .string s] w (RScal g n p w) := by
  have HD : Hid (∀ j (h : j < s.size), delB (s[j].toNat : Int) = false) := hd
  clear hd
  by_cases hl : p + s.size ≤ n
  · go_enter Try.func20, Try.ntmps20
    go_wp2
    go_loopw [8] (fun i wr => ∃ k : Nat, k ≤ s.size ∧ i = .int .i64 k ∧ Hid (∀ j (h : j < s.size), j < k → g (p + j) = (s[j].toNat : Int)) ∧ Hid (Ext w wr)) (fun i _ => s.size - (intOf i).toNat)
    case atStart => exact ⟨0, Nat.zero_le _, rfl, fun j _ h => by omega, Ext.refl _⟩
    case round =>
      obtain ⟨k, hk, rfl, hm, hx⟩ := hrel
      have hti := ht.ext hx.out
      by_cases hlt : k < s.size
      · have hc := hti (p + k) (by omega)
        have hli : (k : Int) < (s.size : Int) := by omega
        by_cases he : g (p + k) = (s[k].toNat : Int)
        · rw [he] at hc
          have HE : Hid (g (p + k) = (s[k].toNat : Int)) := he
          clear he
          go_wp2
          go_quiet (fail)
          go_wp2
          go_roundw
          case rel => exact ⟨k + 1, by omega, by go_num, fun j hj h => by
              by_cases e : j = k
              · subst e; exact HE.out
              · exact hm.out j hj (by omega), hx.out.trans (Ext.drewN _ _)⟩
          case measure => simp [intOf]; omega
        · have he' : (g (p + k) != (s[k].toNat : Int)) = true := by simpa using he
          go_wp2
          go_quiet (fail)
          go_wp2
          go_ret2
          exact rscal_no (hx.out.trans (Ext.drewN _ _))
      · have hks : k = s.size := by omega
        go_wp2
        go_ret2
        exact rscal_yes (by omega) (word_scal s h0 hl HD.out (fun j h => hm.out j h (by omega))) hx.out
  · go_enter Try.func20, Try.ntmps20
    go_wp2
    go_ret2
    exact rscal_no (Ext.refl _)

/-- Numeric bytes from p up to i. -/
def NumTo (g : Nat → Int) (n p i : Nat) : Prop := p ≤ i ∧ i ≤ n ∧ ∀ j, p ≤ j → j < i → delB (g j) = false
theorem NumTo.zero {g : Nat → Int} {n p : Nat} (h : p ≤ n) : NumTo g n p p := ⟨Nat.le_refl _, h, fun j h1 h2 => by omega⟩
theorem NumTo.succ {g : Nat → Int} {n p i : Nat} (h : NumTo g n p i) (hi : i < n) (hd : delB (g i) = false) : NumTo g n p (i + 1) :=
  ⟨by have := h.1; omega, by omega, fun j h1 h2 => by
    by_cases e : j = i
    · rw [e]; exact hd
    · exact h.2.2 j h1 (by omega)⟩
theorem del_digit {c : Int} (h : digB c = true) : delB c = false := by
  unfold digB at h
  simp only [Bool.and_eq_true, decide_eq_true_eq] at h
  unfold delB wsB
  simp only [Bool.or_eq_false_iff, beq_eq_false_iff_ne]
  omega
theorem del_of {c : Int} (h : c = 45 ∨ c = 43 ∨ c = 46 ∨ c = 101 ∨ c = 69 ∨ c = 48) : delB c = false := by
  unfold delB wsB
  simp only [Bool.or_eq_false_iff, beq_eq_false_iff_ne]
  omega
theorem dig_of {c : Int} (h1 : 48 ≤ c) (h2 : c ≤ 57) : digB c = true := by simp [digB, h1, h2]

theorem scal_of {g : Nat → Int} {n p k : Nat} (h : NumTo g n p k) (hk : p < k) : Scal g n p k := ⟨hk, h.2.1, h.2.2⟩
/-- Numeric bytes, one at least. -/
def Num1 (g : Nat → Int) (n p i : Nat) : Prop := NumTo g n p i ∧ p < i

def eB (c : Int) : Bool := c == 101 || c == 69
def sB (c : Int) : Bool := c == 43 || c == 45
theorem eB_of {c : Int} (h : eB c = true) : c = 101 ∨ c = 69 := by simpa [eB] using h
theorem sB_of {c : Int} (h : sB c = true) : c = 43 ∨ c = 45 := by simpa [sB] using h

set_option maxRecDepth 20000 in
set_option maxHeartbeats 2000000 in
theorem num_any (b off n cap p : Nat) (g : Nat → Int) (w : World) (ht : Txt w b off n g) (hp : p < n) (hn : n ≤ 65536) :
    Calls Try.prog 22 #[.slice (some ⟨b, off, none⟩) n cap, .int .i64 p] w (RScal g n p w) := by
  have hc0 := ht p hp
  go_enter Try.func22, Try.ntmps22
  go_upto_if 20 with fail
  go_cut [6] (fun i wc => ∃ k : Nat, i = .int .i64 k ∧ k ≤ n ∧ Hid (NumTo g n p k) ∧ w = wc)
  case first =>
    by_cases h45 : g p = 45
    · have hb : (g p == 45) = true := by simpa using h45
      go_wp2_with fail
      go_meet
      exact ⟨p + 1, by go_num, by omega, (NumTo.zero (by omega)).succ hp (del_of (Or.inl h45)), rfl⟩
    · have hb : (g p == 45) = false := by simpa using h45
      go_wp2_with fail
      go_meet
      exact ⟨p, by go_num, by omega, NumTo.zero (by omega), rfl⟩
  case rest =>
    obtain ⟨k, rfl, hk, hnum, rfl⟩ := hcut
    clear hc0
    by_cases hkn : k < n
    · have hc := ht k hkn
      obtain ⟨c, HC⟩ : ∃ c, Hid (c = g k) := ⟨_, rfl⟩
      rw [← HC.out] at hc
      have hdk : decide (n ≤ k) = false := decide_eq_false (by omega)
      go_upto_if 31 with fail
      go_cut [6] (fun i wc => ∃ k : Nat, i = .int .i64 k ∧ k ≤ n ∧ Hid (Num1 g n p k) ∧ w = wc)
      case first =>
        by_cases h48 : c = 48
        · subst h48
          go_wp2_with fail
          go_meet
          exact ⟨k + 1, by go_num, by omega, ⟨hnum.out.succ hkn (del_of (by rw [← HC.out]; omega)), by have := hnum.out.1; omega⟩, rfl⟩
        · have hb : (c == 48) = false := by simpa using h48
          by_cases h49 : 49 ≤ c
          · by_cases h57 : c ≤ 57
            · have HDk : Hid (digB (g k) = true) := by show digB (g k) = true; rw [← HC.out]; exact dig_of (by omega) h57
              have hloop := hnum
              rw [hb]
              go_wp2_with fail
              go_loopg [6] (n - k) (fun gk i wr => ∃ k' : Nat, i = .int .i64 k' ∧ gk = n - k' ∧ k ≤ k' ∧ k' ≤ n ∧ Hid (NumTo g n p k') ∧ w = wr)
              case atStart => exact ⟨k, rfl, rfl, Nat.le_refl _, by omega, hloop, rfl⟩
              case round =>
                obtain ⟨k', rfl, rfl, hkk, hk', hnum', rfl⟩ := hrel
                by_cases hlt : k' < n
                · have hc' := ht k' hlt
                  by_cases hd : digB (g k') = true
                  · go_wp2_with (go_at_call 21; refine (isDigit_any _ _).mono ?_; rintro e w' ⟨rfl, rfl⟩)
                    go_roundg (n - (k' + 1))
                    case rel => exact ⟨k' + 1, by go_num, rfl, by omega, by omega, hnum'.out.succ hlt (del_digit hd), rfl⟩
                    case measure => omega
                  · have hd' : digB (g k') = false := by simpa using hd
                    have hne : k' ≠ k := fun e => by rw [e] at hd'; rw [HDk.out] at hd'; cases hd'
                    go_wp2_with (go_at_call 21; refine (isDigit_any _ _).mono ?_; rintro e w' ⟨rfl, rfl⟩)
                    go_meet
                    exact ⟨k', by go_num, by omega, ⟨hnum'.out, by have := hnum.out.1; omega⟩, rfl⟩
                · go_wp2_with fail
                  go_meet
                  exact ⟨k', by go_num, by omega, ⟨hnum'.out, by have := hnum.out.1; omega⟩, rfl⟩
            · have hd : decide (c ≤ 57) = false := by simpa using h57
              go_wp2_with fail
              go_ret2
              exact rscal_no (Ext.refl _)
          · have hd : decide (49 ≤ c) = false := by simpa using h49
            go_wp2_with fail
            go_ret2
            exact rscal_no (Ext.refl _)
      case rest =>
        clear hc HC hnum hkn hk hdk
        obtain ⟨k, rfl, hk, hnum, rfl⟩ := hcut
        by_cases hkn : k < n
        · have hc := ht k hkn
          obtain ⟨c, HC⟩ : ∃ c, Hid (c = g k) := ⟨_, rfl⟩
          rw [← HC.out] at hc
          go_upto_if 69 with fail
          go_cut [6] (fun i wc => ∃ k : Nat, i = .int .i64 k ∧ k ≤ n ∧ Hid (Num1 g n p k) ∧ w = wc)
          case first =>
            by_cases h46 : c = 46
            · subst h46
              have hloop : Hid (NumTo g n p (k + 1)) := hnum.out.1.succ hkn (del_of (by rw [← HC.out]; omega))
              go_wp2_with fail
              go_loopg [6] (n - (k + 1)) (fun gk i wr => ∃ k' : Nat, i = .int .i64 k' ∧ gk = n - k' ∧ (k + 1) ≤ k' ∧ k' ≤ n ∧ Hid (NumTo g n p k') ∧ w = wr)
              case atStart => exact ⟨(k + 1), by go_num, rfl, Nat.le_refl _, by omega, hloop, rfl⟩
              case round =>
                obtain ⟨k', rfl, rfl, hkk, hk', hnum', rfl⟩ := hrel
                by_cases hlt : k' < n
                · have hc' := ht k' hlt
                  by_cases hd : digB (g k') = true
                  · go_wp2_with (go_at_call 21; refine (isDigit_any _ _).mono ?_; rintro e w' ⟨rfl, rfl⟩)
                    go_roundg (n - (k' + 1))
                    case rel => exact ⟨k' + 1, by go_num, rfl, by omega, by omega, hnum'.out.succ hlt (del_digit hd), rfl⟩
                    case measure => omega
                  · have hd' : digB (g k') = false := by simpa using hd
                    by_cases hks : k' = k + 1
                    · obtain rfl : k' = k + 1 := hks
                      go_wp2_with (go_at_call 21; refine (isDigit_any _ _).mono ?_; rintro e w' ⟨rfl, rfl⟩)
                      go_ret2
                      exact rscal_no (Ext.refl _)
                    · have hb1 : ((k' : Int) == (k : Int) + 1) = false := by simp only [beq_eq_false_iff_ne]; omega
                      go_wp2_with (go_at_call 21; refine (isDigit_any _ _).mono ?_; rintro e w' ⟨rfl, rfl⟩)
                      go_meet
                      exact ⟨k', by go_num, by omega, ⟨hnum'.out, by have := hnum.out.2; omega⟩, rfl⟩
                · by_cases hks : k' = k + 1
                  · obtain rfl : k' = k + 1 := hks
                    go_wp2_with fail
                    go_ret2
                    exact rscal_no (Ext.refl _)
                  · have hb1 : ((k' : Int) == (k : Int) + 1) = false := by simp only [beq_eq_false_iff_ne]; omega
                    go_wp2_with fail
                    go_meet
                    exact ⟨k', by go_num, by omega, ⟨hnum'.out, by have := hnum.out.2; omega⟩, rfl⟩
            · have hb : (c == 46) = false := by simpa using h46
              go_wp2_with fail
              go_meet
              exact ⟨k, by go_num, by omega, hnum, rfl⟩
          case rest =>
            clear hc HC hnum hkn hk
            obtain ⟨k, rfl, hk, hnum, rfl⟩ := hcut
            by_cases hkn : k < n
            · have hc := ht k hkn
              obtain ⟨c, HC⟩ : ∃ c, Hid (c = g k) := ⟨_, rfl⟩
              rw [← HC.out] at hc
              have hpk := hnum.out.2
              go_upto_region 19 with fail
              go_cut [106] (fun v wc => v = .bool (eB c) ∧ w = wc)
              case first =>
                by_cases h101 : c = 101
                · subst h101
                  go_wp2_with fail
                  go_meet
                  exact ⟨rfl, rfl⟩
                · have hb1 : (c == 101) = false := by simpa using h101
                  have HV : Hid (eB c = (c == 69)) := by show eB c = _; simp [eB, hb1]
                  go_wp2_with fail
                  go_meet
                  exact ⟨by rw [HV.out], rfl⟩
              case rest =>
                obtain ⟨rfl, rfl⟩ := hcut
                by_cases hE : eB c = true
                · have hnum1 : Hid (NumTo g n p (k + 1)) := hnum.out.1.succ hkn (del_of (by have := eB_of hE; rw [← HC.out]; omega))
                  rw [hE]
                  by_cases hk1 : k + 1 < n
                  · have hc1 := ht (k + 1) hk1
                    obtain ⟨c1, HC1⟩ : ∃ c1, Hid (c1 = g (k + 1)) := ⟨_, rfl⟩
                    rw [← HC1.out] at hc1
                    go_upto_region 21 with fail
                    go_cut [126] (fun v wc => v = .bool (sB c1) ∧ w = wc)
                    case first =>
                      by_cases h43 : c1 = 43
                      · subst h43
                        go_wp2_with fail
                        go_meet
                        exact ⟨rfl, rfl⟩
                      · have hb1 : (c1 == 43) = false := by simpa using h43
                        have HV : Hid (sB c1 = (c1 == 45)) := by show sB c1 = _; simp [sB, hb1]
                        go_wp2_with fail
                        go_meet
                        exact ⟨by rw [HV.out], rfl⟩
                    case rest =>
                      obtain ⟨rfl, rfl⟩ := hcut
                      by_cases hS : sB c1 = true
                      · have hloop : Hid (NumTo g n p (k + 2)) := hnum1.out.succ hk1 (del_of (by have := sB_of hS; rw [← HC1.out]; omega))
                        rw [hS]
                        go_wp2_with fail
                        go_loopg [6] (n - (k + 2)) (fun gk i wr => ∃ k' : Nat, i = .int .i64 k' ∧ gk = n - k' ∧ (k + 2) ≤ k' ∧ k' ≤ n ∧ Hid (NumTo g n p k') ∧ w = wr)
                        case atStart => exact ⟨(k + 2), by go_num, rfl, Nat.le_refl _, by omega, hloop, rfl⟩
                        case round =>
                          obtain ⟨k', rfl, rfl, hkk, hk', hnum', rfl⟩ := hrel
                          by_cases hlt : k' < n
                          · have hc' := ht k' hlt
                            by_cases hd : digB (g k') = true
                            · go_wp2_with (go_at_call 21; refine (isDigit_any _ _).mono ?_; rintro e w' ⟨rfl, rfl⟩)
                              go_roundg (n - (k' + 1))
                              case rel => exact ⟨k' + 1, by go_num, rfl, by omega, by omega, hnum'.out.succ hlt (del_digit hd), rfl⟩
                              case measure => omega
                            · have hd' : digB (g k') = false := by simpa using hd
                              by_cases hks : k' = k + 2
                              · obtain rfl : k' = k + 2 := hks
                                go_wp2_with (go_at_call 21; refine (isDigit_any _ _).mono ?_; rintro e w' ⟨rfl, rfl⟩)
                                go_ret2
                                exact rscal_no (Ext.refl _)
                              · have hb1 : ((k' : Int) == (k : Int) + 2) = false := by simp only [beq_eq_false_iff_ne]; omega
                                go_wp2_with (go_at_call 21; refine (isDigit_any _ _).mono ?_; rintro e w' ⟨rfl, rfl⟩)
                                go_ret2
                                exact rscal_yes (q := k') (by omega) (scal_of hnum'.out (by omega)) (Ext.refl _)
                          · by_cases hks : k' = k + 2
                            · obtain rfl : k' = k + 2 := hks
                              go_wp2_with fail
                              go_ret2
                              exact rscal_no (Ext.refl _)
                            · have hb1 : ((k' : Int) == (k : Int) + 2) = false := by simp only [beq_eq_false_iff_ne]; omega
                              go_wp2_with fail
                              go_ret2
                              exact rscal_yes (q := k') (by omega) (scal_of hnum'.out (by omega)) (Ext.refl _)
                      · have hS' : sB c1 = false := by simpa using hS
                        have hloop := hnum1
                        clear hc1
                        rw [hS']
                        go_wp2_with fail
                        go_loopg [6] (n - (k + 1)) (fun gk i wr => ∃ k' : Nat, i = .int .i64 k' ∧ gk = n - k' ∧ (k + 1) ≤ k' ∧ k' ≤ n ∧ Hid (NumTo g n p k') ∧ w = wr)
                        case atStart => exact ⟨(k + 1), by go_num, rfl, Nat.le_refl _, by omega, hloop, rfl⟩
                        case round =>
                          obtain ⟨k', rfl, rfl, hkk, hk', hnum', rfl⟩ := hrel
                          by_cases hlt : k' < n
                          · have hc' := ht k' hlt
                            by_cases hd : digB (g k') = true
                            · go_wp2_with (go_at_call 21; refine (isDigit_any _ _).mono ?_; rintro e w' ⟨rfl, rfl⟩)
                              go_roundg (n - (k' + 1))
                              case rel => exact ⟨k' + 1, by go_num, rfl, by omega, by omega, hnum'.out.succ hlt (del_digit hd), rfl⟩
                              case measure => omega
                            · have hd' : digB (g k') = false := by simpa using hd
                              by_cases hks : k' = k + 1
                              · obtain rfl : k' = k + 1 := hks
                                go_wp2_with (go_at_call 21; refine (isDigit_any _ _).mono ?_; rintro e w' ⟨rfl, rfl⟩)
                                go_ret2
                                exact rscal_no (Ext.refl _)
                              · have hb1 : ((k' : Int) == (k : Int) + 1) = false := by simp only [beq_eq_false_iff_ne]; omega
                                go_wp2_with (go_at_call 21; refine (isDigit_any _ _).mono ?_; rintro e w' ⟨rfl, rfl⟩)
                                go_ret2
                                exact rscal_yes (q := k') (by omega) (scal_of hnum'.out (by omega)) (Ext.refl _)
                          · by_cases hks : k' = k + 1
                            · exact absurd hk1 (by omega)
                            · have hb1 : ((k' : Int) == (k : Int) + 1) = false := by simp only [beq_eq_false_iff_ne]; omega
                              go_wp2_with fail
                              go_ret2
                              exact rscal_yes (q := k') (by omega) (scal_of hnum'.out (by omega)) (Ext.refl _)
                  · go_wp2_with fail
                    refine wp_loop_rounds 1 ?_
                    rw [rounds_succ]
                    go_wp2_with fail
                    go_ret2
                    exact rscal_no (Ext.refl _)
                · have hE' : eB c = false := by simpa using hE
                  rw [hE']
                  go_wp2_with fail
                  go_ret2
                  exact rscal_yes (q := k) (by omega) (scal_of hnum.out.1 hnum.out.2) (Ext.refl _)
            · go_wp2_with fail
              go_ret2
              exact rscal_yes (q := k) (by omega) (scal_of hnum.out.1 hnum.out.2) (Ext.refl _)
        · go_wp2_with fail
          go_ret2
          exact rscal_yes (q := k) (by omega) (scal_of hnum.out.1 hnum.out.2) (Ext.refl _)
    · go_wp2_with fail
      go_ret2
      exact rscal_no (Ext.refl _)

end Go.Proofs.Qxb6602274a

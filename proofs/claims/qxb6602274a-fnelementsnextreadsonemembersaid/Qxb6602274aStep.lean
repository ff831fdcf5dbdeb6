/-
  THE WALK of mNextStep (12).
-/
import Derived.Test.Qxb6602274aNext1
import Derived.RegionTactic
namespace Go.Proofs.Qxb6602274a
open Go.RowKit Js
set_option linter.unusedVariables false

/-- White space, at most one comma, white space: up to i. -/
def Pre (g : Nat → Int) (n i : Nat) : Prop :=
  ∃ q, Skip g n 0 q ∧ q < n ∧ ((g q = 44 ∧ Skip g n (q + 1) i) ∨ (g q ≠ 44 ∧ i = q))

/-- The grammar's reading of the remainder. -/
def NStep (g : Nat → Int) (n : Nat) (obj : Bool) (cl : Bool) (pos na nb va vb : Int) (kind : Int) : Prop :=
  ∃ i : Nat, Pre g n i ∧ i < n ∧
    ((cl = true ∧ (g i = 93 ∨ g i = 125) ∧ pos = i) ∨
     (cl = false ∧ g i ≠ 93 ∧ g i ≠ 125 ∧ ∃ va' vb' : Nat, va = va' ∧ vb = vb' ∧ Val g n va' vb' kind ∧ folB g n vb' kind = true ∧
       ((obj = false ∧ va' = i) ∨ (obj = true ∧ na = i ∧ ∃ nb' j : Nat, nb = nb' ∧ Str g n i nb' ∧ Skip g n nb' j ∧ j < n ∧ g j = 58 ∧ Skip g n (j + 1) va'))))

def RStep (g : Nat → Int) (n : Nat) (obj : Bool) (w : World) (e : Ending) (w' : World) : Prop :=
  ∃ (cl : Bool) (pos na nb va vb kind : Int) (ok : Bool), e = .returned (.tuple #[.bool cl, .int .i64 pos, .agg #[.int .i64 na, .int .i64 nb, .int .i64 va, .int .i64 vb, .int .i64 kind], .bool ok]) ∧
    (ok = true → NStep g n obj cl pos na nb va vb kind) ∧ Ext w w'

theorem rstep_no {g : Nat → Int} {n : Nat} {obj : Bool} {w w' : World} {na nb va vb kind : Int} (h : Ext w w') :
    RStep g n obj w (.returned (.tuple #[.bool false, .int .i64 0, .agg #[.int .i64 na, .int .i64 nb, .int .i64 va, .int .i64 vb, .int .i64 kind], .bool false])) w' :=
  ⟨false, 0, na, nb, va, vb, kind, false, rfl, fun h => (by cases h), h⟩

theorem Ext.drew {w w1 : World} (h : Ext w w1) : Ext w w1.drew := Below.drew h

theorem step_zero (a : Option Addr) (cap : Nat) (obj : Bool) (g : Nat → Int) (w : World) :
    Calls Try.prog 12 #[.slice a 0 cap, .bool obj] w (RStep g 0 obj w) := by
  go_enter Try.func12, Try.ntmps12
  go_wp2_with (go_at_call 25; refine (skip_none _ _ _).mono ?_; rintro e w' ⟨rfl, hw⟩; subst hw)
  go_region
  go_wp2_with fail
  exact bodyPost_ret (v := .tuple #[.bool false, .int .i64 0, .agg #[.int .i64 0, .int .i64 0, .int .i64 0, .int .i64 0, .int .i64 0], .bool false]) (by simp [results, Try.results12, go_sem]) rfl (rstep_no (((Ext.refl _).alloc _).alloc _).drew)

/-- Two fresh blocks, seen behind a later call. -/
theorem fresh2 {w w1 : World} {c d : Array Value} {t u : TypeId} (h : Ext ((w.alloc (.cells c t)).alloc (.cells d u)) w1) :
    (∀ i v, c[i]? = some v → w1.cell? ⟨w.heap.size, i, none⟩ = some v ∧ w1.frozen? ⟨w.heap.size, i, none⟩ = false) ∧
    (∀ i v, d[i]? = some v → w1.cell? ⟨w.heap.size + 1, i, none⟩ = some v ∧ w1.frozen? ⟨w.heap.size + 1, i, none⟩ = false) := by
  have hs : ((w.alloc (.cells c t)).alloc (.cells d u)).heap.size = w.heap.size + 2 := by simp
  have h0 : (w.alloc (.cells c t)).heap.size = w.heap.size + 1 := by simp
  constructor
  · intro i v hv
    constructor
    · rw [Below.cell h (by show w.heap.size < _; omega), World.cell?_alloc_past _ _ _ (by omega), World.cell?_alloc_at _ _ _ _ rfl]; exact hv
    · rw [Below.frozen h (by show w.heap.size < _; omega), World.frozen?_alloc_past _ _ _ (by omega), World.frozen?_alloc_at _ _ _ _ rfl]
  · intro i v hv
    constructor
    · rw [Below.cell h (by show w.heap.size + 1 < _; omega), World.cell?_alloc_at _ _ _ _ h0.symm]; exact hv
    · rw [Below.frozen h (by show w.heap.size + 1 < _; omega), World.frozen?_alloc_at _ _ _ _ h0.symm]

theorem ext5 {w w1 : World} (h : Ext w w1) (v0 v1 v2 v3 v4 : Value) : Ext w (((((w1.setCell ⟨w.heap.size, 0, none⟩ v0).setCell ⟨w.heap.size, 1, none⟩ v1).setCell ⟨w.heap.size, 2, none⟩ v2).setCell ⟨w.heap.size, 3, none⟩ v3).setCell ⟨w.heap.size, 4, none⟩ v4).drew :=
  (((((h.set (Nat.le_refl _) _).set (Nat.le_refl _) _).set (Nat.le_refl _) _).set (Nat.le_refl _) _).set (Nat.le_refl _) _).drew
theorem ext3 {w w1 : World} (h : Ext w w1) (v2 v3 v4 : Value) : Ext w (((w1.setCell ⟨w.heap.size + 1, 2, none⟩ v2).setCell ⟨w.heap.size + 1, 3, none⟩ v3).setCell ⟨w.heap.size + 1, 4, none⟩ v4) :=
  (((h.set (Nat.le_succ _) _).set (Nat.le_succ _) _).set (Nat.le_succ _) _)

set_option maxRecDepth 20000 in
set_option maxHeartbeats 4000000 in
theorem step_ca (b off n cap q : Nat) (g : Nat → Int) (w : World) (ht : Txt w b off n g) (hn : n ≤ 65536) (hval : ∀ p', p' ≤ n → ∀ w', Txt w' b off n g → Calls Try.prog 7 #[.slice (some ⟨b, off, none⟩) n cap, .int .i64 (p' : Nat)] w' (RVal g n p' w'))
    (hskip0 : Calls Try.prog 25 #[.slice (some ⟨b, off, none⟩) n cap, .int .i64 0] ((w.alloc (.cells #[.int .i64 0, .int .i64 0, .int .i64 0, .int .i64 0, .int .i64 0] 31)).alloc (.cells #[.int .i64 0, .int .i64 0, .int .i64 0, .int .i64 0, .int .i64 0] 31)) fun e w' => e = .returned (.int .i64 q) ∧ w' = ((w.alloc (.cells #[.int .i64 0, .int .i64 0, .int .i64 0, .int .i64 0, .int .i64 0] 31)).alloc (.cells #[.int .i64 0, .int .i64 0, .int .i64 0, .int .i64 0, .int .i64 0] 31)))
    (hsk : Skip g n 0 q) (hq : q < n) (h44 : g q = 44) :
    Calls Try.prog 12 #[.slice (some ⟨b, off, none⟩) n cap, .bool false] w (RStep g n false w) := by
  have HSK : Hid (Skip g n 0 q) := hsk
  have HVAL : Hid (∀ p', p' ≤ n → ∀ w', Txt w' b off n g → Calls Try.prog 7 #[.slice (some ⟨b, off, none⟩) n cap, .int .i64 (p' : Nat)] w' (RVal g n p' w')) := hval
  have HS0 : Hid (Calls Try.prog 25 #[.slice (some ⟨b, off, none⟩) n cap, .int .i64 0] ((w.alloc (.cells #[.int .i64 0, .int .i64 0, .int .i64 0, .int .i64 0, .int .i64 0] 31)).alloc (.cells #[.int .i64 0, .int .i64 0, .int .i64 0, .int .i64 0, .int .i64 0] 31)) fun e w' => e = .returned (.int .i64 q) ∧ w' = ((w.alloc (.cells #[.int .i64 0, .int .i64 0, .int .i64 0, .int .i64 0, .int .i64 0] 31)).alloc (.cells #[.int .i64 0, .int .i64 0, .int .i64 0, .int .i64 0, .int .i64 0] 31))) := hskip0
  have HXA : Hid (∀ o o', Txt ((w.alloc o).alloc o') b off n g) := fun o o' => ht.ext (((Ext.refl _).alloc _).alloc _)
  have HXE : Hid (∀ o o', Ext w ((w.alloc o).alloc o')) := fun o o' => (((Ext.refl _).alloc _).alloc _)
  have hcq := HXA.out (.cells #[.int .i64 0, .int .i64 0, .int .i64 0, .int .i64 0, .int .i64 0] 31) (.cells #[.int .i64 0, .int .i64 0, .int .i64 0, .int .i64 0, .int .i64 0] 31) q hq
  have H44 : Hid (g q = 44) := h44
  rw [h44] at hcq
  clear hsk hval hskip0 h44
  go_enter Try.func12, Try.ntmps12
  go_wp2_with fail
  refine HS0.out.mono ?_
  rintro e w' ⟨rfl, hw⟩
  subst hw
  go_wp2_with fail
  refine (skip_any b off n cap (q + 1) g _ (HXA.out _ _) (by omega) hn).mono ?_
  rintro e w' ⟨i, rfl, hski, hw⟩
  subst hw
  have HPRE : Hid (Pre g n i) := ⟨q, HSK.out, hq, Or.inl ⟨H44.out, hski⟩⟩
  have hin := hski.2.1
  clear hski hcq
  by_cases hlt : i < n
  · obtain ⟨c, HC⟩ : ∃ c, Hid (c = g i) := ⟨_, rfl⟩
    have hci := HXA.out (.cells #[.int .i64 0, .int .i64 0, .int .i64 0, .int .i64 0, .int .i64 0] 31) (.cells #[.int .i64 0, .int .i64 0, .int .i64 0, .int .i64 0, .int .i64 0] 31) i hlt
    rw [← HC.out] at hci
    by_cases hcl : c = 93 ∨ c = 125
    · rcases hcl with rfl | rfl
      all_goals
        go_wp2_with fail
        go_region
        go_wp2_with fail
        exact bodyPost_ret (v := .tuple #[.bool true, .int .i64 i, .agg #[.int .i64 0, .int .i64 0, .int .i64 0, .int .i64 0, .int .i64 0], .bool true]) (by simp [results, Try.results12, go_sem]) rfl ⟨true, i, 0, 0, 0, 0, 0, true, rfl, fun _ => ⟨i, HPRE.out, hlt, Or.inl ⟨rfl, by rw [← HC.out]; omega, rfl⟩⟩, (HXE.out _ _).drew⟩
    · have b93 : (c == 93) = false := by simp only [beq_eq_false_iff_ne]; omega
      have b125 : (c == 125) = false := by simp only [beq_eq_false_iff_ne]; omega
      have HN : Hid (g i ≠ 93 ∧ g i ≠ 125) := by show g i ≠ 93 ∧ g i ≠ 125; rw [← HC.out]; omega
      clear hcl
      go_wp2_with fail
      clear hci b93 b125
      refine (HVAL.out i (by omega) _ (HXA.out _ _)).mono ?_
      rintro e w1 ⟨vb, kd, ok, rfl, hv, hx1⟩
      obtain ⟨f, f'⟩ := fresh2 hx1
      have HX1 : Hid (Ext w w1) := (HXE.out _ _).trans hx1
      have ht1 := ht.ext HX1.out
      obtain ⟨a0, z0⟩ := f 0 (.int .i64 0) rfl
      obtain ⟨a1, z1⟩ := f 1 (.int .i64 0) rfl
      obtain ⟨a2, z2⟩ := f 2 (.int .i64 0) rfl
      obtain ⟨a3, z3⟩ := f 3 (.int .i64 0) rfl
      obtain ⟨a4, z4⟩ := f 4 (.int .i64 0) rfl
      obtain ⟨d0, y0⟩ := f' 0 (.int .i64 0) rfl
      obtain ⟨d1, y1⟩ := f' 1 (.int .i64 0) rfl
      obtain ⟨d2, y2⟩ := f' 2 (.int .i64 0) rfl
      obtain ⟨d3, y3⟩ := f' 3 (.int .i64 0) rfl
      obtain ⟨d4, y4⟩ := f' 4 (.int .i64 0) rfl
      clear f f' hx1
      cases ok with
      | false =>
        clear hv
        go_wp2_with fail
        go_region
        go_wp2_with fail
        exact bodyPost_ret (v := .tuple #[.bool false, .int .i64 0, .agg #[.int .i64 0, .int .i64 0, .int .i64 0, .int .i64 0, .int .i64 0], .bool false]) (by simp [results, Try.results12, go_sem, a0, a1, a2, a3, a4]) rfl (rstep_no (ext5 HX1.out _ _ _ _ _))
      | true =>
        have HV : Hid (Val g n i vb kd) := hv rfl
        clear hv
        go_wp2_with fail
        refine (follows_any b off n cap vb g kd w1 ht1).mono ?_
        rintro e w' ⟨rfl, hw⟩
        subst hw
        by_cases hf : folB g n vb kd = true
        · rw [hf]
          go_wp2_with fail
          go_region
          go_wp2_with fail
          exact bodyPost_ret (v := .tuple #[.bool false, .int .i64 0, .agg #[.int .i64 0, .int .i64 0, .int .i64 i, .int .i64 vb, .int .i64 kd], .bool true]) (by simp [results, Try.results12, go_sem, a0, a1, a2, a3, a4]) rfl ⟨false, 0, 0, 0, i, vb, kd, true, rfl, fun _ => ⟨i, HPRE.out, hlt, Or.inr ⟨rfl, HN.out.1, HN.out.2, i, vb, rfl, rfl, HV.out, hf, Or.inl ⟨rfl, rfl⟩⟩⟩, ext5 (ext3 HX1.out _ _ _) _ _ _ _ _⟩
        · have hf' : folB g n vb kd = false := by simpa using hf
          rw [hf']
          go_wp2_with fail
          go_region
          go_wp2_with fail
          exact bodyPost_ret (v := .tuple #[.bool false, .int .i64 0, .agg #[.int .i64 0, .int .i64 0, .int .i64 0, .int .i64 0, .int .i64 0], .bool false]) (by simp [results, Try.results12, go_sem, a0, a1, a2, a3, a4]) rfl (rstep_no (ext5 HX1.out _ _ _ _ _))
  · go_wp2_with fail
    go_region
    go_wp2_with fail
    exact bodyPost_ret (v := .tuple #[.bool false, .int .i64 0, .agg #[.int .i64 0, .int .i64 0, .int .i64 0, .int .i64 0, .int .i64 0], .bool false]) (by simp [results, Try.results12, go_sem]) rfl (rstep_no (HXE.out _ _).drew)

set_option maxRecDepth 20000 in
set_option maxHeartbeats 4000000 in
theorem step_na (b off n cap q : Nat) (g : Nat → Int) (w : World) (ht : Txt w b off n g) (hn : n ≤ 65536) (hval : ∀ p', p' ≤ n → ∀ w', Txt w' b off n g → Calls Try.prog 7 #[.slice (some ⟨b, off, none⟩) n cap, .int .i64 (p' : Nat)] w' (RVal g n p' w'))
    (hskip0 : Calls Try.prog 25 #[.slice (some ⟨b, off, none⟩) n cap, .int .i64 0] ((w.alloc (.cells #[.int .i64 0, .int .i64 0, .int .i64 0, .int .i64 0, .int .i64 0] 31)).alloc (.cells #[.int .i64 0, .int .i64 0, .int .i64 0, .int .i64 0, .int .i64 0] 31)) fun e w' => e = .returned (.int .i64 q) ∧ w' = ((w.alloc (.cells #[.int .i64 0, .int .i64 0, .int .i64 0, .int .i64 0, .int .i64 0] 31)).alloc (.cells #[.int .i64 0, .int .i64 0, .int .i64 0, .int .i64 0, .int .i64 0] 31)))
    (hsk : Skip g n 0 q) (hq : q < n) (h44 : g q ≠ 44) :
    Calls Try.prog 12 #[.slice (some ⟨b, off, none⟩) n cap, .bool false] w (RStep g n false w) := by
  have HSK : Hid (Skip g n 0 q) := hsk
  have HVAL : Hid (∀ p', p' ≤ n → ∀ w', Txt w' b off n g → Calls Try.prog 7 #[.slice (some ⟨b, off, none⟩) n cap, .int .i64 (p' : Nat)] w' (RVal g n p' w')) := hval
  have HS0 : Hid (Calls Try.prog 25 #[.slice (some ⟨b, off, none⟩) n cap, .int .i64 0] ((w.alloc (.cells #[.int .i64 0, .int .i64 0, .int .i64 0, .int .i64 0, .int .i64 0] 31)).alloc (.cells #[.int .i64 0, .int .i64 0, .int .i64 0, .int .i64 0, .int .i64 0] 31)) fun e w' => e = .returned (.int .i64 q) ∧ w' = ((w.alloc (.cells #[.int .i64 0, .int .i64 0, .int .i64 0, .int .i64 0, .int .i64 0] 31)).alloc (.cells #[.int .i64 0, .int .i64 0, .int .i64 0, .int .i64 0, .int .i64 0] 31))) := hskip0
  have HXA : Hid (∀ o o', Txt ((w.alloc o).alloc o') b off n g) := fun o o' => ht.ext (((Ext.refl _).alloc _).alloc _)
  have HXE : Hid (∀ o o', Ext w ((w.alloc o).alloc o')) := fun o o' => (((Ext.refl _).alloc _).alloc _)
  have hcq := HXA.out (.cells #[.int .i64 0, .int .i64 0, .int .i64 0, .int .i64 0, .int .i64 0] 31) (.cells #[.int .i64 0, .int .i64 0, .int .i64 0, .int .i64 0, .int .i64 0] 31) q hq
  have H44 : Hid (g q ≠ 44) := h44
  have hb44 : (g q == 44) = false := by simpa using h44
  clear hsk hval hskip0 h44
  go_enter Try.func12, Try.ntmps12
  go_wp2_with fail
  refine HS0.out.mono ?_
  rintro e w' ⟨rfl, hw⟩
  subst hw
  obtain ⟨i, hi⟩ : ∃ i, i = q := ⟨_, rfl⟩
  have HPRE : Hid (Pre g n i) := ⟨q, HSK.out, hq, Or.inr ⟨H44.out, hi⟩⟩
  obtain rfl : i = q := hi
  have hin : i ≤ n := by omega
  by_cases hlt : i < n
  · obtain ⟨c, HC⟩ : ∃ c, Hid (c = g i) := ⟨_, rfl⟩
    have hci := HXA.out (.cells #[.int .i64 0, .int .i64 0, .int .i64 0, .int .i64 0, .int .i64 0] 31) (.cells #[.int .i64 0, .int .i64 0, .int .i64 0, .int .i64 0, .int .i64 0] 31) i hlt
    rw [← HC.out] at hci
    clear hcq
    rw [← HC.out] at hb44
    by_cases hcl : c = 93 ∨ c = 125
    · rcases hcl with rfl | rfl
      all_goals
        go_wp2_with fail
        go_region
        go_wp2_with fail
        exact bodyPost_ret (v := .tuple #[.bool true, .int .i64 i, .agg #[.int .i64 0, .int .i64 0, .int .i64 0, .int .i64 0, .int .i64 0], .bool true]) (by simp [results, Try.results12, go_sem]) rfl ⟨true, i, 0, 0, 0, 0, 0, true, rfl, fun _ => ⟨i, HPRE.out, hlt, Or.inl ⟨rfl, by rw [← HC.out]; omega, rfl⟩⟩, (HXE.out _ _).drew⟩
    · have b93 : (c == 93) = false := by simp only [beq_eq_false_iff_ne]; omega
      have b125 : (c == 125) = false := by simp only [beq_eq_false_iff_ne]; omega
      have HN : Hid (g i ≠ 93 ∧ g i ≠ 125) := by show g i ≠ 93 ∧ g i ≠ 125; rw [← HC.out]; omega
      clear hcl
      go_wp2_with fail
      clear hci b93 b125 hb44
      refine (HVAL.out i (by omega) _ (HXA.out _ _)).mono ?_
      rintro e w1 ⟨vb, kd, ok, rfl, hv, hx1⟩
      obtain ⟨f, f'⟩ := fresh2 hx1
      have HX1 : Hid (Ext w w1) := (HXE.out _ _).trans hx1
      have ht1 := ht.ext HX1.out
      obtain ⟨a0, z0⟩ := f 0 (.int .i64 0) rfl
      obtain ⟨a1, z1⟩ := f 1 (.int .i64 0) rfl
      obtain ⟨a2, z2⟩ := f 2 (.int .i64 0) rfl
      obtain ⟨a3, z3⟩ := f 3 (.int .i64 0) rfl
      obtain ⟨a4, z4⟩ := f 4 (.int .i64 0) rfl
      obtain ⟨d0, y0⟩ := f' 0 (.int .i64 0) rfl
      obtain ⟨d1, y1⟩ := f' 1 (.int .i64 0) rfl
      obtain ⟨d2, y2⟩ := f' 2 (.int .i64 0) rfl
      obtain ⟨d3, y3⟩ := f' 3 (.int .i64 0) rfl
      obtain ⟨d4, y4⟩ := f' 4 (.int .i64 0) rfl
      clear f f' hx1
      cases ok with
      | false =>
        clear hv
        go_wp2_with fail
        go_region
        go_wp2_with fail
        exact bodyPost_ret (v := .tuple #[.bool false, .int .i64 0, .agg #[.int .i64 0, .int .i64 0, .int .i64 0, .int .i64 0, .int .i64 0], .bool false]) (by simp [results, Try.results12, go_sem, a0, a1, a2, a3, a4]) rfl (rstep_no (ext5 HX1.out _ _ _ _ _))
      | true =>
        have HV : Hid (Val g n i vb kd) := hv rfl
        clear hv
        go_wp2_with fail
        refine (follows_any b off n cap vb g kd w1 ht1).mono ?_
        rintro e w' ⟨rfl, hw⟩
        subst hw
        by_cases hf : folB g n vb kd = true
        · rw [hf]
          go_wp2_with fail
          go_region
          go_wp2_with fail
          exact bodyPost_ret (v := .tuple #[.bool false, .int .i64 0, .agg #[.int .i64 0, .int .i64 0, .int .i64 i, .int .i64 vb, .int .i64 kd], .bool true]) (by simp [results, Try.results12, go_sem, a0, a1, a2, a3, a4]) rfl ⟨false, 0, 0, 0, i, vb, kd, true, rfl, fun _ => ⟨i, HPRE.out, hlt, Or.inr ⟨rfl, HN.out.1, HN.out.2, i, vb, rfl, rfl, HV.out, hf, Or.inl ⟨rfl, rfl⟩⟩⟩, ext5 (ext3 HX1.out _ _ _) _ _ _ _ _⟩
        · have hf' : folB g n vb kd = false := by simpa using hf
          rw [hf']
          go_wp2_with fail
          go_region
          go_wp2_with fail
          exact bodyPost_ret (v := .tuple #[.bool false, .int .i64 0, .agg #[.int .i64 0, .int .i64 0, .int .i64 0, .int .i64 0, .int .i64 0], .bool false]) (by simp [results, Try.results12, go_sem, a0, a1, a2, a3, a4]) rfl (rstep_no (ext5 HX1.out _ _ _ _ _))
  · exact absurd hq hlt

set_option maxRecDepth 20000 in
set_option maxHeartbeats 4000000 in
theorem step_co (b off n cap q : Nat) (g : Nat → Int) (w : World) (ht : Txt w b off n g) (hn : n ≤ 65536) (hval : ∀ p', p' ≤ n → ∀ w', Txt w' b off n g → Calls Try.prog 7 #[.slice (some ⟨b, off, none⟩) n cap, .int .i64 (p' : Nat)] w' (RVal g n p' w'))
    (hskip0 : Calls Try.prog 25 #[.slice (some ⟨b, off, none⟩) n cap, .int .i64 0] ((w.alloc (.cells #[.int .i64 0, .int .i64 0, .int .i64 0, .int .i64 0, .int .i64 0] 31)).alloc (.cells #[.int .i64 0, .int .i64 0, .int .i64 0, .int .i64 0, .int .i64 0] 31)) fun e w' => e = .returned (.int .i64 q) ∧ w' = ((w.alloc (.cells #[.int .i64 0, .int .i64 0, .int .i64 0, .int .i64 0, .int .i64 0] 31)).alloc (.cells #[.int .i64 0, .int .i64 0, .int .i64 0, .int .i64 0, .int .i64 0] 31)))
    (hsk : Skip g n 0 q) (hq : q < n) (h44 : g q = 44) :
    Calls Try.prog 12 #[.slice (some ⟨b, off, none⟩) n cap, .bool true] w (RStep g n true w) := by
  have HSK : Hid (Skip g n 0 q) := hsk
  have HVAL : Hid (∀ p', p' ≤ n → ∀ w', Txt w' b off n g → Calls Try.prog 7 #[.slice (some ⟨b, off, none⟩) n cap, .int .i64 (p' : Nat)] w' (RVal g n p' w')) := hval
  have HS0 : Hid (Calls Try.prog 25 #[.slice (some ⟨b, off, none⟩) n cap, .int .i64 0] ((w.alloc (.cells #[.int .i64 0, .int .i64 0, .int .i64 0, .int .i64 0, .int .i64 0] 31)).alloc (.cells #[.int .i64 0, .int .i64 0, .int .i64 0, .int .i64 0, .int .i64 0] 31)) fun e w' => e = .returned (.int .i64 q) ∧ w' = ((w.alloc (.cells #[.int .i64 0, .int .i64 0, .int .i64 0, .int .i64 0, .int .i64 0] 31)).alloc (.cells #[.int .i64 0, .int .i64 0, .int .i64 0, .int .i64 0, .int .i64 0] 31))) := hskip0
  have HXA : Hid (∀ o o', Txt ((w.alloc o).alloc o') b off n g) := fun o o' => ht.ext (((Ext.refl _).alloc _).alloc _)
  have HXE : Hid (∀ o o', Ext w ((w.alloc o).alloc o')) := fun o o' => (((Ext.refl _).alloc _).alloc _)
  have hcq := HXA.out (.cells #[.int .i64 0, .int .i64 0, .int .i64 0, .int .i64 0, .int .i64 0] 31) (.cells #[.int .i64 0, .int .i64 0, .int .i64 0, .int .i64 0, .int .i64 0] 31) q hq
  have H44 : Hid (g q = 44) := h44
  rw [h44] at hcq
  clear hsk hval hskip0 h44
  go_enter Try.func12, Try.ntmps12
  go_wp2_with fail
  refine HS0.out.mono ?_
  rintro e w' ⟨rfl, hw⟩
  subst hw
  go_wp2_with fail
  refine (skip_any b off n cap (q + 1) g _ (HXA.out _ _) (by omega) hn).mono ?_
  rintro e w' ⟨i, rfl, hski, hw⟩
  subst hw
  have HPRE : Hid (Pre g n i) := ⟨q, HSK.out, hq, Or.inl ⟨H44.out, hski⟩⟩
  have hin := hski.2.1
  clear hski hcq
  by_cases hlt : i < n
  · obtain ⟨c, HC⟩ : ∃ c, Hid (c = g i) := ⟨_, rfl⟩
    have hci := HXA.out (.cells #[.int .i64 0, .int .i64 0, .int .i64 0, .int .i64 0, .int .i64 0] 31) (.cells #[.int .i64 0, .int .i64 0, .int .i64 0, .int .i64 0, .int .i64 0] 31) i hlt
    rw [← HC.out] at hci
    by_cases hcl : c = 93 ∨ c = 125
    · rcases hcl with rfl | rfl
      all_goals
        go_wp2_with fail
        go_region
        go_wp2_with fail
        exact bodyPost_ret (v := .tuple #[.bool true, .int .i64 i, .agg #[.int .i64 0, .int .i64 0, .int .i64 0, .int .i64 0, .int .i64 0], .bool true]) (by simp [results, Try.results12, go_sem]) rfl ⟨true, i, 0, 0, 0, 0, 0, true, rfl, fun _ => ⟨i, HPRE.out, hlt, Or.inl ⟨rfl, by rw [← HC.out]; omega, rfl⟩⟩, (HXE.out _ _).drew⟩
    · have b93 : (c == 93) = false := by simp only [beq_eq_false_iff_ne]; omega
      have b125 : (c == 125) = false := by simp only [beq_eq_false_iff_ne]; omega
      have HN : Hid (g i ≠ 93 ∧ g i ≠ 125) := by show g i ≠ 93 ∧ g i ≠ 125; rw [← HC.out]; omega
      clear hcl
      go_wp2_with fail
      clear hci b93 b125
      refine (pstr_any b off n cap i g _ (HXA.out _ _) hin hn).mono ?_
      rintro e w' ⟨nb, okn, rfl, hs, hw⟩
      subst hw
      cases okn with
      | false =>
        clear hs
        go_wp2_with fail
        go_region
        go_wp2_with fail
        exact bodyPost_ret (v := .tuple #[.bool false, .int .i64 0, .agg #[.int .i64 0, .int .i64 0, .int .i64 0, .int .i64 0, .int .i64 0], .bool false]) (by simp [results, Try.results12, go_sem]) rfl (rstep_no (HXE.out _ _).drew)
      | true =>
        have hs' := hs rfl
        have HSTR : Hid (Str g n i nb) := hs'
        have hnb := hs'.le
        clear hs hs'
        go_wp2_with fail
        refine (skip_any b off n cap nb g _ (HXA.out _ _) (by omega) hn).mono ?_
        rintro e w' ⟨j, rfl, hskj, hw⟩
        subst hw
        have HSJ : Hid (Skip g n nb j) := hskj
        have hj1 := hskj.1
        have hj2 := hskj.2.1
        clear hskj
        by_cases hjn : j < n
        · have hcj := HXA.out (.cells #[.int .i64 0, .int .i64 0, .int .i64 0, .int .i64 0, .int .i64 0] 31) (.cells #[.int .i64 i, .int .i64 nb, .int .i64 0, .int .i64 0, .int .i64 0] 31) j hjn
          by_cases h58 : g j = 58
          · rw [h58] at hcj
            have HJ : Hid (g j = 58) := h58
            clear h58
            go_wp2_with fail
            refine (skip_any b off n cap (j + 1) g _ (HXA.out _ _) (by omega) hn).mono ?_
            rintro e w' ⟨va, rfl, hskv, hw⟩
            subst hw
            have HSV : Hid (Skip g n (j + 1) va) := hskv
            have hv1 := hskv.1
            have hv2 := hskv.2.1
            clear hskv hcj
            go_wp2_with fail
            refine (HVAL.out va (by omega) _ (HXA.out _ _)).mono ?_
            rintro e w1 ⟨vb, kd, ok, rfl, hv, hx1⟩
            obtain ⟨f, f'⟩ := fresh2 hx1
            have HX1 : Hid (Ext w w1) := (HXE.out _ _).trans hx1
            have ht1 := ht.ext HX1.out
            obtain ⟨a0, z0⟩ := f 0 (.int .i64 0) rfl
            obtain ⟨a1, z1⟩ := f 1 (.int .i64 0) rfl
            obtain ⟨a2, z2⟩ := f 2 (.int .i64 0) rfl
            obtain ⟨a3, z3⟩ := f 3 (.int .i64 0) rfl
            obtain ⟨a4, z4⟩ := f 4 (.int .i64 0) rfl
            obtain ⟨d0, y0⟩ := f' 0 (.int .i64 i) rfl
            obtain ⟨d1, y1⟩ := f' 1 (.int .i64 nb) rfl
            obtain ⟨d2, y2⟩ := f' 2 (.int .i64 0) rfl
            obtain ⟨d3, y3⟩ := f' 3 (.int .i64 0) rfl
            obtain ⟨d4, y4⟩ := f' 4 (.int .i64 0) rfl
            clear f f' hx1
            cases ok with
            | false =>
              clear hv
              go_wp2_with fail
              go_region
              go_wp2_with fail
              exact bodyPost_ret (v := .tuple #[.bool false, .int .i64 0, .agg #[.int .i64 i, .int .i64 nb, .int .i64 0, .int .i64 0, .int .i64 0], .bool false]) (by simp [results, Try.results12, go_sem, a0, a1, a2, a3, a4]) rfl (rstep_no (ext5 HX1.out _ _ _ _ _))
            | true =>
              have HV : Hid (Val g n va vb kd) := hv rfl
              clear hv
              go_wp2_with fail
              refine (follows_any b off n cap vb g kd w1 ht1).mono ?_
              rintro e w' ⟨rfl, hw⟩
              subst hw
              by_cases hf : folB g n vb kd = true
              · rw [hf]
                go_wp2_with fail
                go_region
                go_wp2_with fail
                exact bodyPost_ret (v := .tuple #[.bool false, .int .i64 0, .agg #[.int .i64 i, .int .i64 nb, .int .i64 va, .int .i64 vb, .int .i64 kd], .bool true]) (by simp [results, Try.results12, go_sem, a0, a1, a2, a3, a4]) rfl ⟨false, 0, i, nb, va, vb, kd, true, rfl, fun _ => ⟨i, HPRE.out, hlt, Or.inr ⟨rfl, HN.out.1, HN.out.2, va, vb, rfl, rfl, HV.out, hf, Or.inr ⟨rfl, rfl, nb, j, rfl, HSTR.out, HSJ.out, hjn, HJ.out, HSV.out⟩⟩⟩, ext5 (ext3 HX1.out _ _ _) _ _ _ _ _⟩
              · have hf' : folB g n vb kd = false := by simpa using hf
                rw [hf']
                go_wp2_with fail
                go_region
                go_wp2_with fail
                exact bodyPost_ret (v := .tuple #[.bool false, .int .i64 0, .agg #[.int .i64 i, .int .i64 nb, .int .i64 0, .int .i64 0, .int .i64 0], .bool false]) (by simp [results, Try.results12, go_sem, a0, a1, a2, a3, a4]) rfl (rstep_no (ext5 HX1.out _ _ _ _ _))
          · have hb58 : (g j != 58) = true := by simpa using h58
            go_wp2_with fail
            go_region
            go_wp2_with fail
            exact bodyPost_ret (v := .tuple #[.bool false, .int .i64 0, .agg #[.int .i64 i, .int .i64 nb, .int .i64 0, .int .i64 0, .int .i64 0], .bool false]) (by simp [results, Try.results12, go_sem]) rfl (rstep_no (HXE.out _ _).drew)
        · go_wp2_with fail
          go_region
          go_wp2_with fail
          exact bodyPost_ret (v := .tuple #[.bool false, .int .i64 0, .agg #[.int .i64 i, .int .i64 nb, .int .i64 0, .int .i64 0, .int .i64 0], .bool false]) (by simp [results, Try.results12, go_sem]) rfl (rstep_no (HXE.out _ _).drew)
  · go_wp2_with fail
    go_region
    go_wp2_with fail
    exact bodyPost_ret (v := .tuple #[.bool false, .int .i64 0, .agg #[.int .i64 0, .int .i64 0, .int .i64 0, .int .i64 0, .int .i64 0], .bool false]) (by simp [results, Try.results12, go_sem]) rfl (rstep_no (HXE.out _ _).drew)

set_option maxRecDepth 20000 in
set_option maxHeartbeats 4000000 in
theorem step_no (b off n cap q : Nat) (g : Nat → Int) (w : World) (ht : Txt w b off n g) (hn : n ≤ 65536) (hval : ∀ p', p' ≤ n → ∀ w', Txt w' b off n g → Calls Try.prog 7 #[.slice (some ⟨b, off, none⟩) n cap, .int .i64 (p' : Nat)] w' (RVal g n p' w'))
    (hskip0 : Calls Try.prog 25 #[.slice (some ⟨b, off, none⟩) n cap, .int .i64 0] ((w.alloc (.cells #[.int .i64 0, .int .i64 0, .int .i64 0, .int .i64 0, .int .i64 0] 31)).alloc (.cells #[.int .i64 0, .int .i64 0, .int .i64 0, .int .i64 0, .int .i64 0] 31)) fun e w' => e = .returned (.int .i64 q) ∧ w' = ((w.alloc (.cells #[.int .i64 0, .int .i64 0, .int .i64 0, .int .i64 0, .int .i64 0] 31)).alloc (.cells #[.int .i64 0, .int .i64 0, .int .i64 0, .int .i64 0, .int .i64 0] 31)))
    (hsk : Skip g n 0 q) (hq : q < n) (h44 : g q ≠ 44) :
    Calls Try.prog 12 #[.slice (some ⟨b, off, none⟩) n cap, .bool true] w (RStep g n true w) := by
  have HSK : Hid (Skip g n 0 q) := hsk
  have HVAL : Hid (∀ p', p' ≤ n → ∀ w', Txt w' b off n g → Calls Try.prog 7 #[.slice (some ⟨b, off, none⟩) n cap, .int .i64 (p' : Nat)] w' (RVal g n p' w')) := hval
  have HS0 : Hid (Calls Try.prog 25 #[.slice (some ⟨b, off, none⟩) n cap, .int .i64 0] ((w.alloc (.cells #[.int .i64 0, .int .i64 0, .int .i64 0, .int .i64 0, .int .i64 0] 31)).alloc (.cells #[.int .i64 0, .int .i64 0, .int .i64 0, .int .i64 0, .int .i64 0] 31)) fun e w' => e = .returned (.int .i64 q) ∧ w' = ((w.alloc (.cells #[.int .i64 0, .int .i64 0, .int .i64 0, .int .i64 0, .int .i64 0] 31)).alloc (.cells #[.int .i64 0, .int .i64 0, .int .i64 0, .int .i64 0, .int .i64 0] 31))) := hskip0
  have HXA : Hid (∀ o o', Txt ((w.alloc o).alloc o') b off n g) := fun o o' => ht.ext (((Ext.refl _).alloc _).alloc _)
  have HXE : Hid (∀ o o', Ext w ((w.alloc o).alloc o')) := fun o o' => (((Ext.refl _).alloc _).alloc _)
  have hcq := HXA.out (.cells #[.int .i64 0, .int .i64 0, .int .i64 0, .int .i64 0, .int .i64 0] 31) (.cells #[.int .i64 0, .int .i64 0, .int .i64 0, .int .i64 0, .int .i64 0] 31) q hq
  have H44 : Hid (g q ≠ 44) := h44
  have hb44 : (g q == 44) = false := by simpa using h44
  clear hsk hval hskip0 h44
  go_enter Try.func12, Try.ntmps12
  go_wp2_with fail
  refine HS0.out.mono ?_
  rintro e w' ⟨rfl, hw⟩
  subst hw
  obtain ⟨i, hi⟩ : ∃ i, i = q := ⟨_, rfl⟩
  have HPRE : Hid (Pre g n i) := ⟨q, HSK.out, hq, Or.inr ⟨H44.out, hi⟩⟩
  obtain rfl : i = q := hi
  have hin : i ≤ n := by omega
  by_cases hlt : i < n
  · obtain ⟨c, HC⟩ : ∃ c, Hid (c = g i) := ⟨_, rfl⟩
    have hci := HXA.out (.cells #[.int .i64 0, .int .i64 0, .int .i64 0, .int .i64 0, .int .i64 0] 31) (.cells #[.int .i64 0, .int .i64 0, .int .i64 0, .int .i64 0, .int .i64 0] 31) i hlt
    rw [← HC.out] at hci
    clear hcq
    rw [← HC.out] at hb44
    by_cases hcl : c = 93 ∨ c = 125
    · rcases hcl with rfl | rfl
      all_goals
        go_wp2_with fail
        go_region
        go_wp2_with fail
        exact bodyPost_ret (v := .tuple #[.bool true, .int .i64 i, .agg #[.int .i64 0, .int .i64 0, .int .i64 0, .int .i64 0, .int .i64 0], .bool true]) (by simp [results, Try.results12, go_sem]) rfl ⟨true, i, 0, 0, 0, 0, 0, true, rfl, fun _ => ⟨i, HPRE.out, hlt, Or.inl ⟨rfl, by rw [← HC.out]; omega, rfl⟩⟩, (HXE.out _ _).drew⟩
    · have b93 : (c == 93) = false := by simp only [beq_eq_false_iff_ne]; omega
      have b125 : (c == 125) = false := by simp only [beq_eq_false_iff_ne]; omega
      have HN : Hid (g i ≠ 93 ∧ g i ≠ 125) := by show g i ≠ 93 ∧ g i ≠ 125; rw [← HC.out]; omega
      clear hcl
      go_wp2_with fail
      clear hci b93 b125 hb44
      refine (pstr_any b off n cap i g _ (HXA.out _ _) hin hn).mono ?_
      rintro e w' ⟨nb, okn, rfl, hs, hw⟩
      subst hw
      cases okn with
      | false =>
        clear hs
        go_wp2_with fail
        go_region
        go_wp2_with fail
        exact bodyPost_ret (v := .tuple #[.bool false, .int .i64 0, .agg #[.int .i64 0, .int .i64 0, .int .i64 0, .int .i64 0, .int .i64 0], .bool false]) (by simp [results, Try.results12, go_sem]) rfl (rstep_no (HXE.out _ _).drew)
      | true =>
        have hs' := hs rfl
        have HSTR : Hid (Str g n i nb) := hs'
        have hnb := hs'.le
        clear hs hs'
        go_wp2_with fail
        refine (skip_any b off n cap nb g _ (HXA.out _ _) (by omega) hn).mono ?_
        rintro e w' ⟨j, rfl, hskj, hw⟩
        subst hw
        have HSJ : Hid (Skip g n nb j) := hskj
        have hj1 := hskj.1
        have hj2 := hskj.2.1
        clear hskj
        by_cases hjn : j < n
        · have hcj := HXA.out (.cells #[.int .i64 0, .int .i64 0, .int .i64 0, .int .i64 0, .int .i64 0] 31) (.cells #[.int .i64 i, .int .i64 nb, .int .i64 0, .int .i64 0, .int .i64 0] 31) j hjn
          by_cases h58 : g j = 58
          · rw [h58] at hcj
            have HJ : Hid (g j = 58) := h58
            clear h58
            go_wp2_with fail
            refine (skip_any b off n cap (j + 1) g _ (HXA.out _ _) (by omega) hn).mono ?_
            rintro e w' ⟨va, rfl, hskv, hw⟩
            subst hw
            have HSV : Hid (Skip g n (j + 1) va) := hskv
            have hv1 := hskv.1
            have hv2 := hskv.2.1
            clear hskv hcj
            go_wp2_with fail
            refine (HVAL.out va (by omega) _ (HXA.out _ _)).mono ?_
            rintro e w1 ⟨vb, kd, ok, rfl, hv, hx1⟩
            obtain ⟨f, f'⟩ := fresh2 hx1
            have HX1 : Hid (Ext w w1) := (HXE.out _ _).trans hx1
            have ht1 := ht.ext HX1.out
            obtain ⟨a0, z0⟩ := f 0 (.int .i64 0) rfl
            obtain ⟨a1, z1⟩ := f 1 (.int .i64 0) rfl
            obtain ⟨a2, z2⟩ := f 2 (.int .i64 0) rfl
            obtain ⟨a3, z3⟩ := f 3 (.int .i64 0) rfl
            obtain ⟨a4, z4⟩ := f 4 (.int .i64 0) rfl
            obtain ⟨d0, y0⟩ := f' 0 (.int .i64 i) rfl
            obtain ⟨d1, y1⟩ := f' 1 (.int .i64 nb) rfl
            obtain ⟨d2, y2⟩ := f' 2 (.int .i64 0) rfl
            obtain ⟨d3, y3⟩ := f' 3 (.int .i64 0) rfl
            obtain ⟨d4, y4⟩ := f' 4 (.int .i64 0) rfl
            clear f f' hx1
            cases ok with
            | false =>
              clear hv
              go_wp2_with fail
              go_region
              go_wp2_with fail
              exact bodyPost_ret (v := .tuple #[.bool false, .int .i64 0, .agg #[.int .i64 i, .int .i64 nb, .int .i64 0, .int .i64 0, .int .i64 0], .bool false]) (by simp [results, Try.results12, go_sem, a0, a1, a2, a3, a4]) rfl (rstep_no (ext5 HX1.out _ _ _ _ _))
            | true =>
              have HV : Hid (Val g n va vb kd) := hv rfl
              clear hv
              go_wp2_with fail
              refine (follows_any b off n cap vb g kd w1 ht1).mono ?_
              rintro e w' ⟨rfl, hw⟩
              subst hw
              by_cases hf : folB g n vb kd = true
              · rw [hf]
                go_wp2_with fail
                go_region
                go_wp2_with fail
                exact bodyPost_ret (v := .tuple #[.bool false, .int .i64 0, .agg #[.int .i64 i, .int .i64 nb, .int .i64 va, .int .i64 vb, .int .i64 kd], .bool true]) (by simp [results, Try.results12, go_sem, a0, a1, a2, a3, a4]) rfl ⟨false, 0, i, nb, va, vb, kd, true, rfl, fun _ => ⟨i, HPRE.out, hlt, Or.inr ⟨rfl, HN.out.1, HN.out.2, va, vb, rfl, rfl, HV.out, hf, Or.inr ⟨rfl, rfl, nb, j, rfl, HSTR.out, HSJ.out, hjn, HJ.out, HSV.out⟩⟩⟩, ext5 (ext3 HX1.out _ _ _) _ _ _ _ _⟩
              · have hf' : folB g n vb kd = false := by simpa using hf
                rw [hf']
                go_wp2_with fail
                go_region
                go_wp2_with fail
                exact bodyPost_ret (v := .tuple #[.bool false, .int .i64 0, .agg #[.int .i64 i, .int .i64 nb, .int .i64 0, .int .i64 0, .int .i64 0], .bool false]) (by simp [results, Try.results12, go_sem, a0, a1, a2, a3, a4]) rfl (rstep_no (ext5 HX1.out _ _ _ _ _))
          · have hb58 : (g j != 58) = true := by simpa using h58
            go_wp2_with fail
            go_region
            go_wp2_with fail
            exact bodyPost_ret (v := .tuple #[.bool false, .int .i64 0, .agg #[.int .i64 i, .int .i64 nb, .int .i64 0, .int .i64 0, .int .i64 0], .bool false]) (by simp [results, Try.results12, go_sem]) rfl (rstep_no (HXE.out _ _).drew)
        · go_wp2_with fail
          go_region
          go_wp2_with fail
          exact bodyPost_ret (v := .tuple #[.bool false, .int .i64 0, .agg #[.int .i64 i, .int .i64 nb, .int .i64 0, .int .i64 0, .int .i64 0], .bool false]) (by simp [results, Try.results12, go_sem]) rfl (rstep_no (HXE.out _ _).drew)
  · exact absurd hq hlt

theorem skip_ex (g : Nat → Int) (n : Nat) : ∀ m p, n - p ≤ m → p ≤ n → ∃ q, Skip g n p q
  | 0, p, hm, hp => ⟨p, Nat.le_refl _, hp, fun j h1 h2 => by omega, fun h => by omega⟩
  | m + 1, p, hm, hp => by
    by_cases hlt : p < n
    · by_cases hb : wsB (g p) = true
      · obtain ⟨q, h1, h2, h3, h4⟩ := skip_ex g n m (p + 1) (by omega) (by omega)
        refine ⟨q, by omega, h2, fun j hj hj' => ?_, h4⟩
        by_cases e : j = p
        · rw [e]; exact hb
        · exact h3 j (by omega) hj'
      · exact ⟨p, Nat.le_refl _, hp, fun j h1 h2 => by omega, fun _ => by simpa using hb⟩
    · exact ⟨p, Nat.le_refl _, hp, fun j h1 h2 => by omega, fun h => absurd h hlt⟩

theorem skip_one {g : Nat → Int} {n p q q' : Nat} (h : Skip g n p q) (h' : Skip g n p q') : q = q' := by
  obtain ⟨a1, a2, a3, a4⟩ := h
  obtain ⟨b1, b2, b3, b4⟩ := h'
  rcases Nat.lt_trichotomy q q' with hlt | he | hlt
  · have x := b3 q a1 hlt
    have y := a4 (by omega)
    rw [x] at y; cases y
  · exact he
  · have x := a3 q' b1 hlt
    have y := b4 (by omega)
    rw [x] at y; cases y

theorem step_any (b off n cap : Nat) (g : Nat → Int) (obj : Bool) (w : World) (ht : Txt w b off n g) (hn : n ≤ 65536) :
    Calls Try.prog 12 #[.slice (some ⟨b, off, none⟩) n cap, .bool obj] w (RStep g n obj w) := by
  have hval : ∀ p', p' ≤ n → ∀ w', Txt w' b off n g → Calls Try.prog 7 #[.slice (some ⟨b, off, none⟩) n cap, .int .i64 (p' : Nat)] w' (RVal g n p' w') :=
    fun p' h w' h' => val_any b off n cap g hn n p' (by omega) h w' h'
  obtain ⟨q, hsk⟩ := skip_ex g n n 0 (by omega) (by omega)
  have hskip0 : Calls Try.prog 25 #[.slice (some ⟨b, off, none⟩) n cap, .int .i64 0] ((w.alloc (.cells #[.int .i64 0, .int .i64 0, .int .i64 0, .int .i64 0, .int .i64 0] 31)).alloc (.cells #[.int .i64 0, .int .i64 0, .int .i64 0, .int .i64 0, .int .i64 0] 31)) fun e w' => e = .returned (.int .i64 q) ∧ w' = ((w.alloc (.cells #[.int .i64 0, .int .i64 0, .int .i64 0, .int .i64 0, .int .i64 0] 31)).alloc (.cells #[.int .i64 0, .int .i64 0, .int .i64 0, .int .i64 0, .int .i64 0] 31)) := by
    refine (skip_any b off n cap 0 g _ (ht.ext (((Ext.refl _).alloc _).alloc _)) (by omega) hn).mono ?_
    rintro e w' ⟨q', rfl, h', hw⟩
    exact ⟨by rw [skip_one hsk h'], hw⟩
  by_cases hq : q < n
  · by_cases h44 : g q = 44
    · cases obj with
      | false => exact step_ca b off n cap q g w ht hn hval hskip0 hsk hq h44
      | true => exact step_co b off n cap q g w ht hn hval hskip0 hsk hq h44
    · cases obj with
      | false => exact step_na b off n cap q g w ht hn hval hskip0 hsk hq h44
      | true => exact step_no b off n cap q g w ht hn hval hskip0 hsk hq h44
  · obtain rfl : q = n := by have := hsk.2.1; omega
    have HS0 : Hid (Calls Try.prog 25 #[.slice (some ⟨b, off, none⟩) q cap, .int .i64 0] ((w.alloc (.cells #[.int .i64 0, .int .i64 0, .int .i64 0, .int .i64 0, .int .i64 0] 31)).alloc (.cells #[.int .i64 0, .int .i64 0, .int .i64 0, .int .i64 0, .int .i64 0] 31)) fun e w' => e = .returned (.int .i64 q) ∧ w' = ((w.alloc (.cells #[.int .i64 0, .int .i64 0, .int .i64 0, .int .i64 0, .int .i64 0] 31)).alloc (.cells #[.int .i64 0, .int .i64 0, .int .i64 0, .int .i64 0, .int .i64 0] 31))) := hskip0
    clear hval hskip0 hsk ht
    go_enter Try.func12, Try.ntmps12
    go_wp2_with fail
    refine HS0.out.mono ?_
    rintro e w' ⟨rfl, hw⟩
    subst hw
    go_wp2_with fail
    go_region
    go_wp2_with fail
    exact bodyPost_ret (v := .tuple #[.bool false, .int .i64 0, .agg #[.int .i64 0, .int .i64 0, .int .i64 0, .int .i64 0, .int .i64 0], .bool false]) (by simp [results, Try.results12, go_sem]) rfl (rstep_no (((Ext.refl _).alloc _).alloc _).drew)

end Go.Proofs.Qxb6602274a

/-
  THE WALKS of cloneInts (9) and cloneIntLists (10).
-/
import Derived.Test.Qxb6602317aSize
namespace Go.Proofs.Qxb6602317a
open Go.RowKit Mem
set_option linter.unusedVariables false

theorem Try.info3 : (Try.prog.info? 3).map (fun i => (i.zero, i.size, i.bytes)) = some (some (.int .i64 0), 1, 8) := by kernel_rfl
theorem Try.info23 : (Try.prog.info? 23).map (fun i => (i.zero, i.size, i.bytes)) = some (some (.slice none 0 0), 1, 24) := by kernel_rfl

/-- A block of the call's own, cell by cell. -/
def Fill (w : World) (B l : Nat) (h : Nat → Value) : Prop := ∀ j, j < l → w.cell? ⟨B, j, none⟩ = some (h j) ∧ w.frozen? ⟨B, j, none⟩ = false
theorem Fill.set {w : World} {B l : Nat} {h : Nat → Value} (hf : Fill w B l h) (k : Nat) (v : Value) : Fill (w.setCell ⟨B, k, none⟩ v) B l (fun j => if j = k then v else h j) := by
  intro j hj
  refine ⟨?_, by simpa using (hf j hj).2⟩
  by_cases e : j = k
  · subst e; simp only [if_true]; exact World.cell?_setCell_same _ _ _ (hf j hj).1
  · simp only [e, if_false]; rw [World.cell?_setCell_other _ _ _ _ (by intro hh; injection hh; omega)]; exact (hf j hj).1
theorem Fill.ext {w w' : World} {B l : Nat} {h : Nat → Value} (hf : Fill w B l h) (hx : Ext w w') : Fill w' B l h := by
  intro j hj
  have h1 := hf j hj
  have hlt := World.block_lt_of_cell? _ _ h1.1
  exact ⟨by rw [Below.cell hx hlt]; exact h1.1, by rw [Below.frozen hx hlt]; exact h1.2⟩
theorem Fill.congr {w : World} {B l : Nat} {h h' : Nat → Value} (hf : Fill w B l h) (e : ∀ j, j < l → h j = h' j) : Fill w B l h' := by
  intro j hj
  rw [← e j hj]; exact hf j hj
theorem fill_made (w : World) (z : Value) (l : Nat) (t : TypeId) : Fill (w.alloc (.cells (madeCells #[z] l) t)) w.heap.size l (fun _ => z) := by
  intro j hj
  refine ⟨?_, by rw [World.frozen?_alloc_at _ _ _ _ rfl]⟩
  rw [World.cell?_alloc_at _ _ _ _ rfl]
  simp [madeCells, hj, Nat.mod_one]

/-- What cloneInts answers. -/
def RCl (f : Nat → Int) (l : Nat) (w : World) (e : Ending) (w' : World) : Prop :=
  ∃ (a : Option Addr) (c : Nat), e = .returned (.slice a l c) ∧ IRow w' a l f ∧ (a = none → l = 0) ∧ (∀ x, a = some x → w.heap.size ≤ x.block) ∧ Ext w w'

theorem clone_nil (l c : Nat) (f : Nat → Int) (w : World) (hl : l = 0) : Calls Try.prog 9 #[.slice none l c] w (RCl f l w) := by
  subst hl
  have hnil := Lib.run_eql_slice_nil (P := Try.prog) w 23 3 none 0 c 0 0 Try.underlying23
  go_enter Try.func9, Try.ntmps9
  go_wp2_with fail
  go_ret
  exact ⟨none, 0, rfl, Or.inl rfl, fun _ => rfl, fun x h => (by cases h), Ext.refl _⟩

theorem clone_empty (x : Addr) (c : Nat) (f : Nat → Int) (w : World) : Calls Try.prog 9 #[.slice (some x) 0 c] w (RCl f 0 w) := by
  have hnil := Lib.run_eql_slice_nil (P := Try.prog) w 23 3 (some x) 0 c 0 0 Try.underlying23
  have hmk : (Instr.makeSlice 23 (.int .i64 0) (.int .i64 0)).run Try.prog w = .ok (.slice (some ⟨w.heap.size, 0, none⟩) 0 0) (w.alloc (.cells (madeCells #[.int .i64 0] 0) 3)) :=
    run_make_row' (P := Try.prog) 23 3 (.int .i64 0) 8 Try.underlying23 Try.info3 rfl .i64 .i64 0 (by omega) (by omega) w
  go_enter Try.func9, Try.ntmps9
  go_wp2_with fail
  refine wp_loop_rounds 1 ?_
  rw [rounds_succ]
  go_wp2_with fail
  go_ret
  exact ⟨_, _, rfl, Or.inl rfl, fun _ => rfl, fun x h => (by cases h; exact Nat.le_refl _), (Ext.refl _).alloc _⟩

theorem clone_some (b off l c : Nat) (f : Nat → Int) (w : World) (h : Cells w b off l f) (hl : l ≤ 131072) : Calls Try.prog 9 #[.slice (some ⟨b, off, none⟩) l c] w (RCl f l w) := by
  have hnil := Lib.run_eql_slice_nil (P := Try.prog) w 23 3 (some ⟨b, off, none⟩) l c 0 0 Try.underlying23
  have hmk := run_make_row' (P := Try.prog) 23 3 (.int .i64 0) 8 Try.underlying23 Try.info3 rfl .i64 .i64 l (by omega) (by omega) w
  have HF : Hid (Fill (w.alloc (.cells (madeCells #[.int .i64 0] l) 3)) w.heap.size l (fun _ => .int .i64 0)) := fill_made w _ l 3
  go_enter Try.func9, Try.ntmps9
  go_wp2_with fail
  clear hnil hmk
  go_loopg [4] l (fun gk i wr => ∃ k : Nat, i = .int .i64 k ∧ gk = l - k ∧ k ≤ l ∧ Hid (Fill wr w.heap.size l (fun j => .int .i64 (if j < k then f j else 0))) ∧ Hid (Ext w wr))
  case atStart => exact ⟨0, rfl, rfl, Nat.zero_le _, HF.out.congr (fun j hj => by simp), (Ext.refl _).alloc _⟩
  case round =>
    obtain ⟨k, rfl, rfl, hk, hfill, hx⟩ := hrel
    by_cases hlt : k < l
    · have hc := (h.ext hx.out) k hlt
      obtain ⟨hd, hfz⟩ := hfill.out k hlt
      simp only [Nat.lt_irrefl, if_false] at hd
      go_wp2_with fail
      go_roundg (l - (k + 1))
      case rel => exact ⟨k + 1, by go_num, rfl, by omega, (hfill.out.set k (.int .i64 (f k))).congr (fun j hj => by
          by_cases e : j = k
          · simp only [e, if_true, Nat.lt_succ_self]
          · simp only [e, if_false]
            by_cases e2 : j < k
            · rw [if_pos e2, if_pos (by omega)]
            · rw [if_neg e2, if_neg (by omega)]), hx.out.set (Nat.le_refl _) _⟩
      case measure => omega
    · go_wp2_with fail
      go_ret
      exact ⟨_, _, rfl, Or.inr ⟨w.heap.size, 0, rfl, fun j hj => by
        have h1 := (hfill.out j hj).1
        simp only [show j < k by omega, if_true] at h1
        rw [Nat.zero_add]; exact h1⟩, fun h => (by cases h), fun x h => (by cases h; exact Nat.le_refl _), hx.out⟩

theorem clone_any (a : Option Addr) (l c : Nat) (f : Nat → Int) (w : World) (h : IRow w a l f) (hn : a = none → l = 0) (hl : l ≤ 131072) : Calls Try.prog 9 #[.slice a l c] w (RCl f l w) := by
  cases a with
  | none => exact clone_nil l c f w (hn rfl)
  | some x =>
    rcases h with rfl | ⟨b, off, e, h⟩
    · exact clone_empty x c f w
    · injection e with e
      subst e
      exact clone_some b off l c f w h hl

theorem IRow.setOther {w : World} {a : Option Addr} {l : Nat} {f : Nat → Int} (h : IRow w a l f) {B k : Nat} (hB : ∀ x, a = some x → B < x.block) (v : Value) : IRow (w.setCell ⟨B, k, none⟩ v) a l f := by
  rcases h with h | ⟨b, off, e, h⟩
  · exact Or.inl h
  · refine Or.inr ⟨b, off, e, fun j hj => ?_⟩
    have := hB _ e
    simp only at this
    rw [World.cell?_setCell_other _ _ _ _ (by intro hh; injection hh; omega)]; exact h j hj

/-- What cloneIntLists answers. -/
def RCls (F : Nat → Nat → Int) (n : Nat) (L : Nat → Nat) (w : World) (e : Ending) (w' : World) : Prop :=
  ∃ (a : Option Addr) (c : Nat) (A' : Nat → Option Addr) (C' : Nat → Nat), e = .returned (.slice a n c) ∧ (n = 0 ∨ ∃ b off, a = some ⟨b, off, none⟩ ∧ Heads w' b off n A' L C') ∧
    (∀ r, r < n → IRow w' (A' r) (L r) (F r)) ∧ Ext w w'

theorem clones_nil (n c : Nat) (F : Nat → Nat → Int) (L : Nat → Nat) (w : World) (hn : n = 0) : Calls Try.prog 10 #[.slice none n c] w (RCls F n L w) := by
  subst hn
  have hnil := Lib.run_eql_slice_nil (P := Try.prog) w 24 23 none 0 c 0 0 Try.underlying24
  go_enter Try.func10, Try.ntmps10
  go_wp2_with fail
  go_ret
  exact ⟨none, 0, fun _ => none, fun _ => 0, rfl, Or.inl rfl, fun r h => by omega, Ext.refl _⟩

theorem clones_empty (x : Addr) (c : Nat) (F : Nat → Nat → Int) (L : Nat → Nat) (w : World) : Calls Try.prog 10 #[.slice (some x) 0 c] w (RCls F 0 L w) := by
  have hnil := Lib.run_eql_slice_nil (P := Try.prog) w 24 23 (some x) 0 c 0 0 Try.underlying24
  have hmk : (Instr.makeSlice 24 (.int .i64 0) (.int .i64 0)).run Try.prog w = .ok (.slice (some ⟨w.heap.size, 0, none⟩) 0 0) (w.alloc (.cells (madeCells #[.slice none 0 0] 0) 23)) :=
    run_make_row' (P := Try.prog) 24 23 (.slice none 0 0) 24 Try.underlying24 Try.info23 rfl .i64 .i64 0 (by omega) (by omega) w
  go_enter Try.func10, Try.ntmps10
  go_wp2_with fail
  refine wp_loop_rounds 1 ?_
  rw [rounds_succ]
  go_wp2_with fail
  go_ret
  exact ⟨_, _, fun _ => none, fun _ => 0, rfl, Or.inl rfl, fun r h => by omega, (Ext.refl _).alloc _⟩

set_option maxHeartbeats 400000 in
theorem clones_some (b off n c : Nat) (A : Nat → Option Addr) (L C : Nat → Nat) (F : Nat → Nat → Int) (w : World) (h : Heads w b off n A L C) (hr : ∀ r, r < n → IRow w (A r) (L r) (F r) ∧ (A r = none → L r = 0))
    (hn : n ≤ 65536) (hL : ∀ r, r < n → L r ≤ 131072) : Calls Try.prog 10 #[.slice (some ⟨b, off, none⟩) n c] w (RCls F n L w) := by
  have hnil := Lib.run_eql_slice_nil (P := Try.prog) w 24 23 (some ⟨b, off, none⟩) n c 0 0 Try.underlying24
  have hmk := run_make_row' (P := Try.prog) 24 23 (.slice none 0 0) 24 Try.underlying24 Try.info23 rfl .i64 .i64 n (by omega) (by omega) w
  have HF : Hid (Fill (w.alloc (.cells (madeCells #[.slice none 0 0] n) 23)) w.heap.size n (fun _ => .slice none 0 0)) := fill_made w _ n 23
  have HR : Hid (∀ r, r < n → IRow w (A r) (L r) (F r) ∧ (A r = none → L r = 0)) := hr
  have HL : Hid (∀ r, r < n → L r ≤ 131072) := hL
  have HH : Hid (Heads w b off n A L C) := h
  clear hr hL h
  go_enter Try.func10, Try.ntmps10
  go_wp2_with fail
  clear hnil hmk
  go_loopg [4] n (fun gk i wr => ∃ (k : Nat) (A' : Nat → Option Addr) (C' : Nat → Nat), i = .int .i64 k ∧ gk = n - k ∧ k ≤ n ∧ Hid (Fill wr w.heap.size n (fun r => if r < k then .slice (A' r) (L r) (C' r) else .slice none 0 0)) ∧
      Hid (∀ r, r < k → IRow wr (A' r) (L r) (F r) ∧ (∀ x, A' r = some x → w.heap.size < x.block)) ∧ Hid (Ext w wr) ∧ w.heap.size < wr.heap.size)
  case atStart => exact ⟨0, fun _ => none, fun _ => 0, rfl, rfl, Nat.zero_le _, HF.out.congr (fun j hj => by simp), fun r h => by omega, (Ext.refl _).alloc _, by simp⟩
  case round =>
    obtain ⟨k, A', C', rfl, rfl, hk, hfill, hrows, hx, hsz⟩ := hrel
    by_cases hlt : k < n
    · have hc := (HH.out.ext hx.out) k hlt
      have HN := HR.out k hlt
      have hcall := clone_any (A k) (L k) (C k) (F k) wr (HN.1.ext hx.out) HN.2 (HL.out k hlt)
      have HCALL : Hid (Calls Try.prog 9 #[.slice (A k) (L k) (C k)] wr (RCl (F k) (L k) wr)) := hcall
      clear hcall HN
      go_wp2_with fail
      refine HCALL.out.mono ?_
      rintro e w1 ⟨a1, c1, rfl, hrow1, _, hbl1, hx1⟩
      have HX1 : Hid (Ext wr w1) := hx1
      have HROW1 : Hid (IRow w1 a1 (L k) (F k)) := hrow1
      have HBL1 : Hid (∀ x, a1 = some x → wr.heap.size ≤ x.block) := hbl1
      clear hx1 hrow1 hbl1
      have HF1 : Hid (Fill w1 w.heap.size n (fun r => if r < k then .slice (A' r) (L r) (C' r) else .slice none 0 0)) := hfill.out.ext HX1.out
      obtain ⟨hd, hfz⟩ := HF1.out k hlt
      simp only [Nat.lt_irrefl, if_false] at hd
      have hsz1 : w.heap.size < w1.heap.size := by have := HX1.out.size; omega
      go_wp2_with fail
      go_roundg (n - (k + 1))
      case rel =>
        refine ⟨k + 1, fun r => if r = k then a1 else A' r, fun r => if r = k then c1 else C' r, by go_num, rfl, by omega, ?_, ?_, (hx.out.trans HX1.out).set (Nat.le_refl _) _, by simpa [World.setCell] using hsz1⟩
        · refine (HF1.out.set k (.slice a1 (L k) c1)).congr (fun j hj => ?_)
          by_cases e : j = k
          · simp only [e, if_true, Nat.lt_succ_self]
          · simp only [e, if_false]
            by_cases e2 : j < k
            · rw [if_pos e2, if_pos (by omega)]
            · rw [if_neg e2, if_neg (by omega)]
        · intro r hr'
          by_cases e : r = k
          · simp only [e, if_true]
            have hb1 : ∀ x, a1 = some x → w.heap.size < x.block := fun x hx' => by have := HBL1.out x hx'; omega
            exact ⟨HROW1.out.setOther hb1 _, hb1⟩
          · simp only [e, if_false]
            have := hrows.out r (by omega)
            exact ⟨(this.1.ext HX1.out).setOther this.2 _, this.2⟩
      case measure => omega
    · go_wp2_with fail
      go_ret
      refine ⟨_, _, A', C', rfl, Or.inr ⟨w.heap.size, 0, rfl, fun r hr' => ?_⟩, fun r hr' => (hrows.out r (by omega)).1, hx.out⟩
      have h1 := (hfill.out r hr').1
      simp only [show r < k by omega, if_true] at h1
      rw [Nat.zero_add]; exact h1

end Go.Proofs.Qxb6602317a

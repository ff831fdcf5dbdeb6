/-
  THE WALKS of (named).has (18) and ZZNamedHas (11).
-/
import Derived.Test.Qxb6602317aClone
namespace Go.Proofs.Qxb6602317a
open Go.RowKit Mem
set_option linter.unusedVariables false

/-- The ranges, three cells each: no start, no end, the responders. -/
def Ranges (w : World) (g n : Nat) (A : Nat → Option Addr) (L C : Nat → Nat) : Prop :=
  ∀ r, r < n → w.cell? ⟨g, r * 3, none⟩ = some (.slice none 0 0) ∧ w.cell? ⟨g, r * 3 + 1, none⟩ = some (.slice none 0 0) ∧ w.cell? ⟨g, r * 3 + 2, none⟩ = some (.slice (A r) (L r) (C r))
theorem Ranges.ext {w w' : World} {g n : Nat} {A : Nat → Option Addr} {L C : Nat → Nat} (h : Ranges w g n A L C) (hx : Ext w w') : Ranges w' g n A L C := by
  intro r hr
  obtain ⟨h1, h2, h3⟩ := h r hr
  have hlt : g < w.heap.size := World.block_lt_of_cell? _ _ h1
  exact ⟨by rw [Below.cell hx hlt]; exact h1, by rw [Below.cell (p := ⟨g, r * 3 + 1, none⟩) hx hlt]; exact h2, by rw [Below.cell (p := ⟨g, r * 3 + 2, none⟩) hx hlt]; exact h3⟩

/-- A Bool; what was there stays. -/
def RHas (v : Bool) (w : World) (e : Ending) (w' : World) : Prop := e = .returned (.bool v) ∧ Ext w w'

set_option maxHeartbeats 400000 in
theorem has_any (ro : Int) (a : Option Addr) (l c : Nat) (f : Nat → Int) (g n c2 : Nat) (A : Nat → Option Addr) (L C : Nat → Nat) (F : Nat → Nat → Int) (id : Int) (w : World)
    (h0 : IRow w a l f) (hl : l ≤ 131072) (hR : Ranges w g n A L C) (hr : ∀ r, r < n → IRow w (A r) (L r) (F r)) (hn : n ≤ 65536) (hL : ∀ r, r < n → L r ≤ 131072) :
    Calls Try.prog 18 #[.agg #[.int .u64 ro, .slice a l c, .slice (some ⟨g, 0, none⟩) n c2], .int .i64 id] w (RHas (memB f id l || anyB F L id n) w) := by
  have H0 : Hid (IRow w a l f) := h0
  have HRA : Hid (Ranges w g n A L C) := hR
  have HR : Hid (∀ r, r < n → IRow w (A r) (L r) (F r)) := hr
  have HL : Hid (∀ r, r < n → L r ≤ 131072) := hL
  clear h0 hR hr hL
  by_cases hm : memB f id l = true
  · have HV : (memB f id l || anyB F L id n) = true := by rw [hm]; rfl
    rw [HV]; clear HV
    go_enter Try.func18, Try.ntmps18
    go_wp2_with fail
    refine (contains_any a l c f id _ (H0.out.ext ((Ext.refl _).alloc _)) hl).mono ?_
    rintro e w' ⟨rfl, hw⟩
    subst hw
    rw [hm]
    go_wp2_with fail
    go_ret
    exact ⟨rfl, (Ext.refl _).alloc _⟩
  · have hm' : memB f id l = false := by simpa using hm
    have HV : (memB f id l || anyB F L id n) = anyB F L id n := by rw [hm']; rfl
    rw [HV]; clear HV hm
    go_enter Try.func18, Try.ntmps18
    go_wp2_with fail
    refine (contains_any a l c f id _ (H0.out.ext ((Ext.refl _).alloc _)) hl).mono ?_
    rintro e w' ⟨rfl, hw⟩
    subst hw
    rw [hm']
    go_wp2_with fail
    go_loopg [14] n (fun gk i wr => ∃ k : Nat, i = .int .i64 k ∧ gk = n - k ∧ k ≤ n ∧ Hid (∀ r, r < k → memB (F r) id (L r) = false) ∧ Hid (Ext w wr))
    case atStart => exact ⟨0, rfl, rfl, Nat.zero_le _, fun r h => by omega, (Ext.refl _).alloc _⟩
    case round =>
      obtain ⟨k, rfl, rfl, hk, hno, hx⟩ := hrel
      by_cases hlt : k < n
      · obtain ⟨d0, d1, d2⟩ := (HRA.out.ext hx.out) k hlt
        have HRk : Hid (IRow wr (A k) (L k) (F k)) := (HR.out k hlt).ext hx.out
        go_wp2_with fail
        refine (contains_any (A k) (L k) (C k) (F k) id _ (HRk.out.ext ((Ext.refl _).alloc _)) (HL.out k hlt)).mono ?_
        rintro e w' ⟨rfl, hw⟩
        subst hw
        by_cases hb : memB (F k) id (L k) = true
        · rw [hb]
          go_wp2_with fail
          go_ret
          exact ⟨ret_bool (anyB_true.2 ⟨k, hlt, hb⟩).symm, hx.out.alloc _⟩
        · have hb' : memB (F k) id (L k) = false := by simpa using hb
          rw [hb']
          go_wp2_with fail
          go_roundg (n - (k + 1))
          case rel => exact ⟨k + 1, by go_num, rfl, by omega, fun r hr => by
            by_cases e : r = k
            · rw [e]; exact hb'
            · exact hno.out r (by omega), hx.out.alloc _⟩
          case measure => omega
      · go_wp2_with fail
        go_ret
        exact ⟨ret_bool (anyB_false (fun r hr => hno.out r (by omega))).symm, hx.out⟩

/-- .. with no ranges. -/
theorem has_none (ro : Int) (a : Option Addr) (l c : Nat) (f : Nat → Int) (id : Int) (w : World) (h0 : IRow w a l f) (hl : l ≤ 131072) :
    Calls Try.prog 18 #[.agg #[.int .u64 ro, .slice a l c, .slice none 0 0], .int .i64 id] w (RHas (memB f id l) w) := by
  have H0 : Hid (IRow w a l f) := h0
  clear h0
  go_enter Try.func18, Try.ntmps18
  go_wp2_with fail
  refine (contains_any a l c f id _ (H0.out.ext ((Ext.refl _).alloc _)) hl).mono ?_
  rintro e w' ⟨rfl, hw⟩
  subst hw
  by_cases hm : memB f id l = true
  · rw [hm]
    go_wp2_with fail
    go_ret
    exact ⟨ret_bool hm.symm, (Ext.refl _).alloc _⟩
  · have hm' : memB f id l = false := by simpa using hm
    rw [hm']
    go_wp2_with fail
    refine wp_loop_rounds 1 ?_
    rw [rounds_succ]
    go_wp2_with fail
    go_ret
    exact ⟨ret_bool hm'.symm, (Ext.refl _).alloc _⟩

/-! ### ZZNamedHas -/
theorem Try.info38 : (Try.prog.info? 38).map (fun i => (i.zero, i.size, i.bytes)) = some (some (.agg #[.slice none 0 0, .slice none 0 0, .slice none 0 0]), 3, 72) := by kernel_rfl

/-- The ranges' cells, one behind the other. -/
def rc (A : Nat → Option Addr) (L C : Nat → Nat) : Nat → List Value
  | 0 => []
  | k + 1 => rc A L C k ++ [.slice none 0 0, .slice none 0 0, .slice (A k) (L k) (C k)]
theorem rc_len (A : Nat → Option Addr) (L C : Nat → Nat) : ∀ k, (rc A L C k).length = k * 3
  | 0 => rfl
  | k + 1 => by rw [rc, List.length_append, rc_len A L C k]; simp; omega
theorem rc_at (A : Nat → Option Addr) (L C : Nat → Nat) : ∀ n r, r < n →
    (rc A L C n)[r * 3]? = some (.slice none 0 0) ∧ (rc A L C n)[r * 3 + 1]? = some (.slice none 0 0) ∧ (rc A L C n)[r * 3 + 2]? = some (.slice (A r) (L r) (C r))
  | 0, r, h => by omega
  | k + 1, r, h => by
    have hl := rc_len A L C k
    by_cases e : r < k
    · obtain ⟨h1, h2, h3⟩ := rc_at A L C k r e
      rw [rc]
      refine ⟨?_, ?_, ?_⟩
      · rw [List.getElem?_append_left (by omega)]; exact h1
      · rw [List.getElem?_append_left (by omega)]; exact h2
      · rw [List.getElem?_append_left (by omega)]; exact h3
    · obtain rfl : r = k := by omega
      rw [rc]
      refine ⟨?_, ?_, ?_⟩
      · rw [List.getElem?_append_right (by omega), hl, Nat.sub_self]; rfl
      · rw [List.getElem?_append_right (by omega), hl, show r * 3 + 1 - r * 3 = 1 by omega]; rfl
      · rw [List.getElem?_append_right (by omega), hl, show r * 3 + 2 - r * 3 = 2 by omega]; rfl

theorem ranges_of {w : World} {base : Nat} {v : Value} {n : Nat} {A : Nat → Option Addr} {L C : Nat → Nat} (h : w.ownsRow base 38 3 v n (rc A L C n)) :
    (v = .slice none 0 0 ∧ n = 0) ∨ ∃ g cap, v = .slice (some ⟨g, 0, none⟩) n cap ∧ Ranges w g n A L C := by
  obtain ⟨_, h | ⟨g, cap, cur, hv, _, hheap, _, _, _, htake⟩⟩ := h
  · exact Or.inl h
  · refine Or.inr ⟨g, cap, hv, fun r hr => ?_⟩
    obtain ⟨h1, h2, h3⟩ := rc_at A L C n r hr
    have hcell : ∀ i v, (rc A L C n)[i]? = some v → w.cell? ⟨g, i, none⟩ = some v := by
      intro i v hi
      have hlt : i < n * 3 := by
        rcases Nat.lt_or_ge i (n * 3) with hh | hh
        · exact hh
        · rw [List.getElem?_eq_none (by rw [rc_len]; omega)] at hi; cases hi
      rw [← htake, List.getElem?_take, if_pos hlt] at hi
      simp [World.cell?, hheap]
      simpa using hi
    exact ⟨hcell _ _ h1, hcell _ _ h2, hcell _ _ h3⟩

theorem own_block {w : World} {base : Nat} {e : TypeId} {size : Nat} {v : Value} {n : Nat} {xs : List Value} (h : w.ownsRow base e size v n xs) : ∀ k, v.ownBlock = some k → base ≤ k := by
  intro k hk
  obtain ⟨_, ⟨rfl, _⟩ | ⟨g, cap, cur, rfl, hg, _⟩⟩ := h
  · cases hk
  · injection hk with hk
    subst hk
    exact hg

set_option maxHeartbeats 1000000 in
theorem zz_any (ro : Int) (a : Option Addr) (l c : Nat) (f : Nat → Int) (b off n c2 : Nat) (A : Nat → Option Addr) (L C : Nat → Nat) (F : Nat → Nat → Int) (id : Int) (w : World)
    (h0 : IRow w a l f) (hl : l ≤ 131072) (hH : Heads w b off n A L C) (hr : ∀ r, r < n → IRow w (A r) (L r) (F r)) (hn : n ≤ 65536) (hL : ∀ r, r < n → L r ≤ 131072) :
    Calls Try.prog 11 #[.int .u64 ro, .slice a l c, .slice (some ⟨b, off, none⟩) n c2, .int .i64 id] w (RHas (memB f id l || anyB F L id n) w) := by
  have H0 : Hid (IRow w a l f) := h0
  have HH : Hid (Heads w b off n A L C) := hH
  have HR : Hid (∀ r, r < n → IRow w (A r) (L r) (F r)) := hr
  have HL : Hid (∀ r, r < n → L r ≤ 131072) := hL
  clear h0 hH hr hL
  obtain ⟨i0, hi, hz0, hz1, hz2⟩ := info_parts Try.info38
  have HI : Hid (Try.prog.info? 38 = some i0) := hi
  have HZ0 : Hid (i0.zero = some (.agg #[.slice none 0 0, .slice none 0 0, .slice none 0 0])) := hz0
  have HZ1 : Hid (i0.size = 3) := hz1
  have HZ2 : Hid (i0.bytes = 72) := hz2
  clear hi hz0 hz1 hz2
  go_enter Try.func11, Try.ntmps11
  go_wp2_with fail
  go_loopg [9, 10] n (fun gk v i wr => ∃ (k : Nat) (va : Option Addr) (vn vc : Nat), v = .slice va vn vc ∧ i = .int .i64 k ∧ gk = n - k ∧ k ≤ n ∧ Hid (wr.ownsRow w.heap.size 38 3 (.slice va vn vc) k (rc A L C k)) ∧ Hid (Ext w wr))
  case atStart => exact ⟨0, none, 0, 0, rfl, rfl, rfl, Nat.zero_le _, World.ownsRow_nil _ _ _ _, Ext.refl _⟩
  case round =>
    obtain ⟨k, va, vn, vc, rfl, rfl, rfl, hk, hown, hx⟩ := hrel
    by_cases hlt : k < n
    · have hc := (HH.out.ext hx.out) k hlt
      go_wp2_with (at_builtin; refine wpList_append_own _ rfl _ _ 36 rfl w.heap.size 38 i0 _ 3 72 Try.underlying36 HI.out HZ0.out HZ1.out HZ2.out rfl (by decide) _ _ _ rfl (hown.out.alloc _) ⟨wr.heap.size, 0, none⟩ 1 1 [.slice none 0 0, .slice none 0 0, .slice (A k) (L k) (C k)] rfl rfl ?q1 ?q2 ?q3 ?q4 ?q5 ?_)
      case q1 =>
        intro j u hj
        match j, hj with
        | 0, hj => simp at hj; subst hj; simp [Addr.add]
        | 1, hj => simp at hj; subst hj; simp [Addr.add]
        | 2, hj => simp at hj; subst hj; simp [Addr.add]
        | j + 3, hj => simp at hj
      case q2 =>
        intro u hu
        simp at hu
        rcases hu with rfl | rfl <;> rfl
      case q3 => unfold maxLen; omega
      case q4 => omega
      case q5 => have := hx.out.size; simp; omega
      · intro v' w1 hown' hgrow _
        have hex : ∃ va' vn' vc', v' = .slice va' vn' vc' := by
          obtain ⟨_, ⟨rfl, _⟩ | ⟨g, cap, cur, rfl, _⟩⟩ := hown'
          · exact ⟨_, _, _, rfl⟩
          · exact ⟨_, _, _, rfl⟩
        obtain ⟨va', vn', vc', hv'⟩ := hex
        rw [hv'] at hown' ⊢
        clear hv'
        have HOWN' : Hid (w1.ownsRow w.heap.size 38 3 (.slice va' vn' vc') (k + 1) (rc A L C (k + 1))) := hown'
        have HX' : Hid (Ext w w1) := Below.grown (hx.out.alloc _) hgrow (by have := hx.out.size; simp; omega) (own_block hown.out)
        clear hown' hgrow
        go_wp2_with fail
        go_roundg (n - (k + 1))
        case rel => exact ⟨k + 1, va', vn', vc', rfl, by go_num, rfl, by omega, HOWN', HX'⟩
        case measure => omega
    · obtain rfl : k = n := by omega
      have H0' := H0.out.ext hx.out
      rcases ranges_of hown.out with ⟨hv, rfl⟩ | ⟨g, cap, hv, hR⟩
      · rw [hv]
        clear hv hown
        go_wp2_with fail
        refine (has_none ro a l c f id wr H0' hl).mono ?_
        rintro e w' ⟨rfl, hx'⟩
        have HXX : Hid (Ext w w') := hx.out.trans hx'
        clear hx'
        go_wp2_with fail
        go_ret
        exact ⟨ret_bool (by simp [anyB]), HXX.out⟩
      · rw [hv]
        clear hv hown
        have HRA : Hid (Ranges wr g k A L C) := hR
        clear hR
        go_wp2_with fail
        refine (has_any ro a l c f g k cap A L C F id wr H0' hl HRA.out (fun r hr' => (HR.out r hr').ext hx.out) hn HL.out).mono ?_
        rintro e w' ⟨rfl, hx'⟩
        have HXX : Hid (Ext w w') := hx.out.trans hx'
        clear hx'
        go_wp2_with fail
        go_ret
        exact ⟨rfl, HXX.out⟩

/-- .. with no lists. -/
theorem zz_none (ro : Int) (a : Option Addr) (l c : Nat) (f : Nat → Int) (a2 : Option Addr) (c2 : Nat) (id : Int) (w : World) (h0 : IRow w a l f) (hl : l ≤ 131072) :
    Calls Try.prog 11 #[.int .u64 ro, .slice a l c, .slice a2 0 c2, .int .i64 id] w (RHas (memB f id l) w) := by
  have H0 : Hid (IRow w a l f) := h0
  clear h0
  go_enter Try.func11, Try.ntmps11
  go_wp2_with fail
  refine wp_loop_rounds 1 ?_
  rw [rounds_succ]
  go_wp2_with fail
  refine (has_none ro a l c f id w H0.out hl).mono ?_
  rintro e w' ⟨rfl, hx'⟩
  have HXX : Hid (Ext w w') := hx'
  clear hx'
  go_wp2_with fail
  go_ret
  exact ⟨rfl, HXX.out⟩

end Go.Proofs.Qxb6602317a

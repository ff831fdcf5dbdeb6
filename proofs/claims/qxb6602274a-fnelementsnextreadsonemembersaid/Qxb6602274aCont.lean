/-
  THE WALK of mParseContainer (16), its members not kept: where it answers true, an array or object lies there.
-/
import Derived.Test.Qxb6602274aStr
import Derived.Test.Qxb6602274aNum
namespace Go.Proofs.Qxb6602274a
open Go.RowKit Js

/-- What mParseValue answers. -/
def RVal (g : Nat → Int) (n p : Nat) (w : World) (e : Ending) (w' : World) : Prop :=
  ∃ (q : Nat) (k : Int) (ok : Bool), e = .returned (.tuple #[.int .i64 q, .int .i64 k, .bool ok]) ∧ (ok = true → Val g n p q k) ∧ Ext w w'
/-- What mParseContainer answers. -/
def RCont (g : Nat → Int) (n p : Nat) (w : World) (e : Ending) (w' : World) : Prop :=
  ∃ (cl : Int) (q : Nat) (ok : Bool), e = .returned (.tuple #[.slice none 0 0, .int .i64 cl, .int .i64 q, .bool ok]) ∧ (ok = true → Cont g n p q) ∧ Ext w w'
theorem rcont_no {g : Nat → Int} {n p : Nat} {w w' : World} (h : Ext w w') : RCont g n p w (.returned (.tuple #[.slice none 0 0, .int .i64 0, .int .i64 0, .bool false])) w' :=
  ⟨0, 0, false, rfl, fun h => (by cases h), h⟩
theorem rcont_yes {g : Nat → Int} {n p q : Nat} {w w' : World} {cl v : Int} (hv : v = ((q + 1 : Nat) : Int)) (h : Cont g n p (q + 1)) (hb : Ext w w') : RCont g n p w (.returned (.tuple #[.slice none 0 0, .int .i64 cl, .int .i64 v, .bool true])) w' :=
  ⟨cl, q + 1, true, by rw [hv], fun _ => h, hb⟩

theorem Ext.alloc {w w1 : World} (h : Ext w w1) (o : Obj) : Ext w (w1.alloc o) := Below.alloc h h.size o
theorem Ext.set {w w1 : World} (h : Ext w w1) {a : Addr} (ha : w.heap.size ≤ a.block) (v : Value) : Ext w (w1.setCell a v) := Below.setCell h ha v

theorem cont_mk {g : Nat → Int} {n p q : Nat} (hp : p < n) (ho : g p = 91 ∨ g p = 123) (hq : p < q) (hqn : q < n) (hc : g q = 93 ∨ g q = 125) (hr : R g n (p, 0) (q, 1)) : Cont g n p (q + 1) :=
  ⟨hp, ho, by omega, by omega, by simpa using hc, by simpa using hr⟩

/-- A callee's fresh block, seen behind a later call. -/
theorem fresh_of {w w1 : World} {c : Array Value} {t : TypeId} (h : Ext (w.alloc (.cells c t)) w1) (i : Nat) (v : Value) (hv : c[i]? = some v) :
    w1.cell? ⟨w.heap.size, i, none⟩ = some v ∧ w1.frozen? ⟨w.heap.size, i, none⟩ = false := by
  have hlt : w.heap.size < (w.alloc (.cells c t)).heap.size := by simp
  constructor
  · rw [Below.cell h hlt, World.cell?_alloc_at _ _ _ _ rfl]; exact hv
  · rw [Below.frozen h hlt, World.frozen?_alloc_at _ _ _ _ rfl]

set_option maxRecDepth 20000 in
set_option maxHeartbeats 2000000 in
theorem cont_arr (b off n cap p : Nat) (g : Nat → Int) (w : World) (ht : Txt w b off n g) (hn : n ≤ 65536) (hp : p < n) (hopn : g p = 91)
    (hval : ∀ p', p < p' → p' ≤ n → ∀ w', Txt w' b off n g → Calls Try.prog 7 #[.slice (some ⟨b, off, none⟩) n cap, .int .i64 (p' : Nat)] w' (RVal g n p' w')) :
    Calls Try.prog 16 #[.slice (some ⟨b, off, none⟩) n cap, .int .i64 p, .bool false] w (RCont g n p w) := by
  have hc0 := ht p hp
  rw [hopn] at hc0
  have HO : Hid (g p = 91 ∨ g p = 123) := Or.inl hopn
  have HVAL : Hid (∀ p', p < p' → p' ≤ n → ∀ w', Txt w' b off n g → Calls Try.prog 7 #[.slice (some ⟨b, off, none⟩) n cap, .int .i64 (p' : Nat)] w' (RVal g n p' w')) := hval
  clear hopn hval
  go_enter Try.func16, Try.ntmps16
  go_wp2_with fail
  refine (skip_any b off n cap (p + 1) g _ ht (by omega) hn).mono ?_
  rintro e w' ⟨q, rfl, hskip, hw⟩
  obtain rfl : w = w' := hw.symm
  have hq := hskip.1
  have hqn := hskip.2.1
  have HR0 : Hid (R g n (p, 0) (q, 1)) := (step_open hp HO.out).trans (hskip.r 1)
  clear hskip
  by_cases hlt0 : q < n
  · have hcq := ht q hlt0
    by_cases hcl : g q = 93
    · rw [hcl] at hcq
      have HC : Hid (g q = 93) := hcl
      clear hcl
      go_wp2_with fail
      exact bodyPost_ret (v := .tuple #[.slice none 0 0, .int .i64 q, .int .i64 (q + 1), .bool true]) (by simp [results, Try.results16, go_sem]) rfl (rcont_yes (q := q) (by omega) (cont_mk hp HO.out (by omega) hlt0 (Or.inl HC.out) HR0.out) (Ext.refl _))
    · have hbcl : (g q == 93) = false := by simpa using hcl
      clear hcl
      go_wp2_with fail
      clear hcq hbcl
      go_loopg [12, 13] (n - q) (fun gk i sp wr => ∃ k : Nat, i = .int .i64 k ∧ sp = .slice none 0 0 ∧ gk = n - k ∧ p < k ∧ k ≤ n ∧ Hid (R g n (p, 0) (k, 1)) ∧ Hid (Ext w wr))
      case atStart => exact ⟨q, rfl, rfl, rfl, by omega, hqn, HR0, Ext.refl _⟩
      case round =>
        clear HR0 hlt0 hq hqn
        obtain ⟨k, rfl, rfl, rfl, hpk, hkn, HR, hx⟩ := hrel
        by_cases hlt : k < n
        · have htr := ht.ext hx.out
          go_wp2_with fail
          refine (HVAL.out k (by omega) (by omega) _ (by exact htr.ext ((Ext.refl _).alloc _))).mono ?_
          rintro e w1 ⟨vb, kd, ok, rfl, hv, hx1⟩
          cases ok with
          | false =>
            clear hv
            have hxx : Ext w w1 := hx.out.trans (((Ext.refl _).alloc _).trans hx1)
            go_wp2_with fail
            exact bodyPost_ret (v := .tuple #[.slice none 0 0, .int .i64 0, .int .i64 0, .bool false]) (by simp [results, Try.results16, go_sem]) rfl (rcont_no hxx)
          | true =>
            have hv' := hv rfl
            clear hv
            have hvle := hv'.le
            have HR1 : Hid (R g n (p, 0) (vb, 1)) := HR.out.trans (hv'.r 1 (Nat.le_refl _))
            clear hv' HR
            obtain ⟨c2, z2⟩ := fresh_of hx1 2 (.int .i64 0) rfl
            obtain ⟨c3, z3⟩ := fresh_of hx1 3 (.int .i64 0) rfl
            obtain ⟨c4, z4⟩ := fresh_of hx1 4 (.int .i64 0) rfl
            have hxx : Ext w w1 := hx.out.trans (((Ext.refl _).alloc _).trans hx1)
            have hB : w.heap.size ≤ wr.heap.size := hx.out.size
            have hx2 := ((hxx.set (a := ⟨wr.heap.size, 2, none⟩) hB (.int .i64 k)).set (a := ⟨wr.heap.size, 3, none⟩) hB (.int .i64 vb)).set (a := ⟨wr.heap.size, 4, none⟩) hB (.int .i64 kd)
            clear hx1 htr hxx
            have HX2 : Hid (Ext w (((w1.setCell ⟨wr.heap.size, 2, none⟩ (.int .i64 k)).setCell ⟨wr.heap.size, 3, none⟩ (.int .i64 vb)).setCell ⟨wr.heap.size, 4, none⟩ (.int .i64 kd))) := hx2
            clear hx2
            go_wp2_with fail
            clear c2 c3 c4 z2 z3 z4
            generalize (((w1.setCell ⟨wr.heap.size, 2, none⟩ (.int .i64 k)).setCell ⟨wr.heap.size, 3, none⟩ (.int .i64 vb)).setCell ⟨wr.heap.size, 4, none⟩ (.int .i64 kd)) = wz at HX2 ⊢
            have htz := ht.ext HX2.out
            refine (skip_any b off n cap vb g wz htz (by omega) hn).mono ?_
            rintro e w' ⟨q2, rfl, hskip, hw⟩
            obtain rfl : wz = w' := hw.symm
            have hq2 := hskip.1
            have hq2n := hskip.2.1
            have HR2 : Hid (R g n (p, 0) (q2, 1)) := HR1.out.trans (hskip.r 1)
            clear hskip HR1
            by_cases hlt2 : q2 < n
            · have hcq := htz q2 hlt2
              obtain ⟨c, HC⟩ : ∃ c, Hid (c = g q2) := ⟨_, rfl⟩
              rw [← HC.out] at hcq
              by_cases hcl : c = 93
              · subst hcl
                go_wp2_with fail
                exact bodyPost_ret (v := .tuple #[.slice none 0 0, .int .i64 q2, .int .i64 (q2 + 1), .bool true]) (by simp [results, Try.results16, go_sem]) rfl (rcont_yes (q := q2) (by omega) (cont_mk hp HO.out (by omega) hlt2 (Or.inl HC.out.symm) HR2.out) HX2.out)
              · have hbcl : (c == 93) = false := by simpa using hcl
                by_cases h44 : c = 44
                · subst h44
                  clear hbcl hcl
                  go_wp2_with fail
                  refine (skip_any b off n cap (q2 + 1) g wz htz (by omega) hn).mono ?_
                  rintro e w' ⟨q3, rfl, hskip, hw⟩
                  obtain rfl : wz = w' := hw.symm
                  have hq3 := hskip.1
                  have hq3n := hskip.2.1
                  have HR3 : Hid (R g n (p, 0) (q3, 1)) := (HR2.out.trans (step_plain hlt2 (by rw [← HC.out]; unfold plainB; omega))).trans (hskip.r 1)
                  clear hskip HR2
                  go_wp2_with fail
                  go_roundg (n - q3)
                  case rel => exact ⟨q3, rfl, rfl, rfl, by omega, hq3n, HR3, HX2⟩
                  case measure => omega
                · have hb44 : (c != 44) = true := by simpa using h44
                  go_wp2_with fail
                  exact bodyPost_ret (v := .tuple #[.slice none 0 0, .int .i64 0, .int .i64 0, .bool false]) (by simp [results, Try.results16, go_sem]) rfl (rcont_no HX2.out)
            · go_wp2_with fail
              exact bodyPost_ret (v := .tuple #[.slice none 0 0, .int .i64 0, .int .i64 0, .bool false]) (by simp [results, Try.results16, go_sem]) rfl (rcont_no HX2.out)
        · go_wp2_with fail
          exact bodyPost_ret (v := .tuple #[.slice none 0 0, .int .i64 0, .int .i64 0, .bool false]) (by simp [results, Try.results16, go_sem]) rfl (rcont_no hx.out)
  · go_wp2_with fail
    refine wp_loop_rounds 1 ?_
    rw [rounds_succ]
    go_wp2_with fail
    exact bodyPost_ret (v := .tuple #[.slice none 0 0, .int .i64 0, .int .i64 0, .bool false]) (by simp [results, Try.results16, go_sem]) rfl (rcont_no (Ext.refl _))

set_option maxRecDepth 20000 in
set_option maxHeartbeats 2000000 in
theorem cont_obj (b off n cap p : Nat) (g : Nat → Int) (w : World) (ht : Txt w b off n g) (hn : n ≤ 65536) (hp : p < n) (hopn : g p = 123)
    (hval : ∀ p', p < p' → p' ≤ n → ∀ w', Txt w' b off n g → Calls Try.prog 7 #[.slice (some ⟨b, off, none⟩) n cap, .int .i64 (p' : Nat)] w' (RVal g n p' w')) :
    Calls Try.prog 16 #[.slice (some ⟨b, off, none⟩) n cap, .int .i64 p, .bool false] w (RCont g n p w) := by
  have hc0 := ht p hp
  rw [hopn] at hc0
  have HO : Hid (g p = 91 ∨ g p = 123) := Or.inr hopn
  have HVAL : Hid (∀ p', p < p' → p' ≤ n → ∀ w', Txt w' b off n g → Calls Try.prog 7 #[.slice (some ⟨b, off, none⟩) n cap, .int .i64 (p' : Nat)] w' (RVal g n p' w')) := hval
  clear hopn hval
  go_enter Try.func16, Try.ntmps16
  go_wp2_with fail
  refine (skip_any b off n cap (p + 1) g _ ht (by omega) hn).mono ?_
  rintro e w' ⟨q, rfl, hskip, hw⟩
  obtain rfl : w = w' := hw.symm
  have hq := hskip.1
  have hqn := hskip.2.1
  have HR0 : Hid (R g n (p, 0) (q, 1)) := (step_open hp HO.out).trans (hskip.r 1)
  clear hskip
  by_cases hlt0 : q < n
  · have hcq := ht q hlt0
    by_cases hcl : g q = 125
    · rw [hcl] at hcq
      have HC : Hid (g q = 125) := hcl
      clear hcl
      go_wp2_with fail
      exact bodyPost_ret (v := .tuple #[.slice none 0 0, .int .i64 q, .int .i64 (q + 1), .bool true]) (by simp [results, Try.results16, go_sem]) rfl (rcont_yes (q := q) (by omega) (cont_mk hp HO.out (by omega) hlt0 (Or.inr HC.out) HR0.out) (Ext.refl _))
    · have hbcl : (g q == 125) = false := by simpa using hcl
      clear hcl
      go_wp2_with fail
      clear hcq hbcl
      go_loopg [12, 13] (n - q) (fun gk i sp wr => ∃ k : Nat, i = .int .i64 k ∧ sp = .slice none 0 0 ∧ gk = n - k ∧ p < k ∧ k ≤ n ∧ Hid (R g n (p, 0) (k, 1)) ∧ Hid (Ext w wr))
      case atStart => exact ⟨q, rfl, rfl, rfl, by omega, hqn, HR0, Ext.refl _⟩
      case round =>
        clear HR0 hlt0 hq hqn
        obtain ⟨k, rfl, rfl, rfl, hpk, hkn, HR, hx⟩ := hrel
        by_cases hlt : k < n
        · have htr := ht.ext hx.out
          have hxa : ∀ o, Txt (wr.alloc o) b off n g := fun o => htr.ext ((Ext.refl _).alloc o)
          have hxe : ∀ o, Ext w (wr.alloc o) := fun o => hx.out.alloc o
          have HXA : Hid (∀ o, Txt (wr.alloc o) b off n g) := hxa
          have HXE : Hid (∀ o, Ext w (wr.alloc o)) := hxe
          clear hxa hxe
          go_wp2_with fail
          refine (pstr_any b off n cap k g _ (HXA.out _) hkn hn).mono ?_
          rintro e w' ⟨nb, okn, rfl, hs, hw⟩
          subst hw
          cases okn with
          | false =>
            clear hs
            go_wp2_with fail
            exact bodyPost_ret (v := .tuple #[.slice none 0 0, .int .i64 0, .int .i64 0, .bool false]) (by simp [results, Try.results16, go_sem]) rfl (rcont_no (HXE.out _))
          | true =>
            have hs' := hs rfl
            clear hs
            have hnb := hs'.le
            have HRs : Hid (R g n (p, 0) (nb, 1)) := HR.out.trans (hs'.r 1)
            clear hs' HR
            go_wp2_with fail
            refine (skip_any b off n cap nb g _ (HXA.out _) (by omega) hn).mono ?_
            rintro e w' ⟨q1, rfl, hskip, hw⟩
            subst hw
            have hq1 := hskip.1
            have hq1n := hskip.2.1
            have HRt : Hid (R g n (p, 0) (q1, 1)) := HRs.out.trans (hskip.r 1)
            clear hskip HRs
            by_cases hlt1 : q1 < n
            · have hcq1 := HXA.out (.cells #[.int .i64 k, .int .i64 nb, .int .i64 0, .int .i64 0, .int .i64 0] 31) q1 hlt1
              by_cases h58 : g q1 = 58
              · rw [h58] at hcq1
                have H58 : Hid (g q1 = 58) := h58
                clear h58
                go_wp2_with fail
                refine (skip_any b off n cap (q1 + 1) g _ (HXA.out _) (by omega) hn).mono ?_
                rintro e w' ⟨qv, rfl, hskip, hw⟩
                subst hw
                have hqv := hskip.1
                have hqvn := hskip.2.1
                have HR : Hid (R g n (p, 0) (qv, 1)) := (HRt.out.trans (step_plain hlt1 (by rw [H58.out]; unfold plainB; omega))).trans (hskip.r 1)
                clear hskip HRt H58 hcq1
                go_wp2_with fail
                refine (HVAL.out qv (by omega) (by omega) _ (by exact htr.ext ((Ext.refl _).alloc _))).mono ?_
                rintro e w1 ⟨vb, kd, ok, rfl, hv, hx1⟩
                cases ok with
                | false =>
                  clear hv
                  have hxx : Ext w w1 := hx.out.trans (((Ext.refl _).alloc _).trans hx1)
                  go_wp2_with fail
                  exact bodyPost_ret (v := .tuple #[.slice none 0 0, .int .i64 0, .int .i64 0, .bool false]) (by simp [results, Try.results16, go_sem]) rfl (rcont_no hxx)
                | true =>
                  have hv' := hv rfl
                  clear hv
                  have hvle := hv'.le
                  have HR1 : Hid (R g n (p, 0) (vb, 1)) := HR.out.trans (hv'.r 1 (Nat.le_refl _))
                  clear hv' HR
                  obtain ⟨c2, z2⟩ := fresh_of hx1 2 (.int .i64 0) rfl
                  obtain ⟨c3, z3⟩ := fresh_of hx1 3 (.int .i64 0) rfl
                  obtain ⟨c4, z4⟩ := fresh_of hx1 4 (.int .i64 0) rfl
                  have hxx : Ext w w1 := hx.out.trans (((Ext.refl _).alloc _).trans hx1)
                  have hB : w.heap.size ≤ wr.heap.size := hx.out.size
                  have hx2 := ((hxx.set (a := ⟨wr.heap.size, 2, none⟩) hB (.int .i64 qv)).set (a := ⟨wr.heap.size, 3, none⟩) hB (.int .i64 vb)).set (a := ⟨wr.heap.size, 4, none⟩) hB (.int .i64 kd)
                  clear hx1 htr hxx
                  have HX2 : Hid (Ext w (((w1.setCell ⟨wr.heap.size, 2, none⟩ (.int .i64 qv)).setCell ⟨wr.heap.size, 3, none⟩ (.int .i64 vb)).setCell ⟨wr.heap.size, 4, none⟩ (.int .i64 kd))) := hx2
                  clear hx2
                  go_wp2_with fail
                  clear c2 c3 c4 z2 z3 z4
                  generalize (((w1.setCell ⟨wr.heap.size, 2, none⟩ (.int .i64 qv)).setCell ⟨wr.heap.size, 3, none⟩ (.int .i64 vb)).setCell ⟨wr.heap.size, 4, none⟩ (.int .i64 kd)) = wz at HX2 ⊢
                  have htz := ht.ext HX2.out
                  refine (skip_any b off n cap vb g wz htz (by omega) hn).mono ?_
                  rintro e w' ⟨q2, rfl, hskip, hw⟩
                  obtain rfl : wz = w' := hw.symm
                  have hq2 := hskip.1
                  have hq2n := hskip.2.1
                  have HR2 : Hid (R g n (p, 0) (q2, 1)) := HR1.out.trans (hskip.r 1)
                  clear hskip HR1
                  by_cases hlt2 : q2 < n
                  · have hcq := htz q2 hlt2
                    obtain ⟨c, HC⟩ : ∃ c, Hid (c = g q2) := ⟨_, rfl⟩
                    rw [← HC.out] at hcq
                    by_cases hcl : c = 125
                    · subst hcl
                      go_wp2_with fail
                      exact bodyPost_ret (v := .tuple #[.slice none 0 0, .int .i64 q2, .int .i64 (q2 + 1), .bool true]) (by simp [results, Try.results16, go_sem]) rfl (rcont_yes (q := q2) (by omega) (cont_mk hp HO.out (by omega) hlt2 (Or.inr HC.out.symm) HR2.out) HX2.out)
                    · have hbcl : (c == 125) = false := by simpa using hcl
                      by_cases h44 : c = 44
                      · subst h44
                        clear hbcl hcl
                        go_wp2_with fail
                        refine (skip_any b off n cap (q2 + 1) g wz htz (by omega) hn).mono ?_
                        rintro e w' ⟨q3, rfl, hskip, hw⟩
                        obtain rfl : wz = w' := hw.symm
                        have hq3 := hskip.1
                        have hq3n := hskip.2.1
                        have HR3 : Hid (R g n (p, 0) (q3, 1)) := (HR2.out.trans (step_plain hlt2 (by rw [← HC.out]; unfold plainB; omega))).trans (hskip.r 1)
                        clear hskip HR2
                        go_wp2_with fail
                        go_roundg (n - q3)
                        case rel => exact ⟨q3, rfl, rfl, rfl, by omega, hq3n, HR3, HX2⟩
                        case measure => omega
                      · have hb44 : (c != 44) = true := by simpa using h44
                        go_wp2_with fail
                        exact bodyPost_ret (v := .tuple #[.slice none 0 0, .int .i64 0, .int .i64 0, .bool false]) (by simp [results, Try.results16, go_sem]) rfl (rcont_no HX2.out)
                  · go_wp2_with fail
                    exact bodyPost_ret (v := .tuple #[.slice none 0 0, .int .i64 0, .int .i64 0, .bool false]) (by simp [results, Try.results16, go_sem]) rfl (rcont_no HX2.out)

              · have hb58 : (g q1 != 58) = true := by simpa using h58
                go_wp2_with fail
                exact bodyPost_ret (v := .tuple #[.slice none 0 0, .int .i64 0, .int .i64 0, .bool false]) (by simp [results, Try.results16, go_sem]) rfl (rcont_no (HXE.out _))
            · go_wp2_with fail
              exact bodyPost_ret (v := .tuple #[.slice none 0 0, .int .i64 0, .int .i64 0, .bool false]) (by simp [results, Try.results16, go_sem]) rfl (rcont_no (HXE.out _))
        · go_wp2_with fail
          exact bodyPost_ret (v := .tuple #[.slice none 0 0, .int .i64 0, .int .i64 0, .bool false]) (by simp [results, Try.results16, go_sem]) rfl (rcont_no hx.out)
  · go_wp2_with fail
    refine wp_loop_rounds 1 ?_
    rw [rounds_succ]
    go_wp2_with fail
    exact bodyPost_ret (v := .tuple #[.slice none 0 0, .int .i64 0, .int .i64 0, .bool false]) (by simp [results, Try.results16, go_sem]) rfl (rcont_no (Ext.refl _))

end Go.Proofs.Qxb6602274a

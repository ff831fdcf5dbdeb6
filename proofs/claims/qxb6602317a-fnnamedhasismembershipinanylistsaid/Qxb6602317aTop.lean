/-
  THE WALK of FnNamedHasIsMembershipInAnyList (3).
-/
import Derived.Test.Qxb6602317aHas
namespace Go.Proofs.Qxb6602317a
open Go.RowKit Mem
set_option linter.unusedVariables false

/-- A slice of ints that came in. -/
def In1 (w : World) (a : Option Addr) (l : Nat) (f : Nat → Int) : Prop := IRow w a l f ∧ (a = none → l = 0)
/-- A slice of slices of ints that came in. -/
def In2 (w : World) (a : Option Addr) (n : Nat) (A : Nat → Option Addr) (L C : Nat → Nat) (F : Nat → Nat → Int) : Prop :=
  (a = none → n = 0) ∧ (n = 0 ∨ ∃ b off, a = some ⟨b, off, none⟩ ∧ Heads w b off n A L C) ∧ ∀ r, r < n → IRow w (A r) (L r) (F r) ∧ (A r = none → L r = 0)

theorem rows_any (a : Option Addr) (n c : Nat) (A : Nat → Option Addr) (L C : Nat → Nat) (F : Nat → Nat → Int) (w : World) (h : In2 w a n A L C F) (hn : n ≤ 65536) (hL : ∀ r, r < n → L r ≤ 131072) :
    Calls Try.prog 10 #[.slice a n c] w (RCls F n L w) := by
  obtain ⟨h1, h2, h3⟩ := h
  cases a with
  | none => exact clones_nil n c F L w (h1 rfl)
  | some x =>
    rcases h2 with rfl | ⟨b, off, e, h⟩
    · exact clones_empty x c F L w
    · injection e with e
      subst e
      exact clones_some b off n c A L C F w h h3 hn hL
theorem rost_any (a : Option Addr) (l c : Nat) (a2 : Option Addr) (n c2 : Nat) (A : Nat → Option Addr) (L C : Nat → Nat) (F : Nat → Nat → Int) (w : World) (h : In2 w a2 n A L C F) :
    Calls Try.prog 8 #[.slice a l c, .slice a2 n c2, .slice none 0 0] w (RRost l n L w) := by
  obtain ⟨_, rfl | ⟨b, off, rfl, h⟩, _⟩ := h
  · exact roster_zero a l c a2 c2 L w
  · exact roster_any a l c b off n c2 A L C w h
theorem byt_any (ro : Int) (a : Option Addr) (l c : Nat) (a2 : Option Addr) (n c2 : Nat) (A : Nat → Option Addr) (L C : Nat → Nat) (F : Nat → Nat → Int) (id : Int) (w : World) (h : In2 w a2 n A L C F) :
    Calls Try.prog 7 #[.int .u64 ro, .slice a l c, .slice a2 n c2, .int .i64 id] w (RAny w) := by
  obtain ⟨_, rfl | ⟨b, off, rfl, h⟩, _⟩ := h
  · exact bytes_zero ro a l c a2 c2 id w
  · exact bytes_any ro a l c b off n c2 A L C id w h

theorem fin_eq {f : Nat → Int} {id : Int} {l c c' : Nat} {v : Bool} (h1 : 0 < c ↔ v = true) (h2 : c ≤ c' ∧ c' ≤ c + l ∧ (0 < c' ↔ 0 < c ∨ memB f id l = true)) :
    ((memB f id l || v) == decide (0 < c')) = true := by
  rw [beq_iff_eq]
  have h3 := h2.2.2
  rw [h1] at h3
  cases hm : memB f id l <;> cases v <;> simp [hm] at h3 <;> simp <;> omega

theorem in2_ext {w w' : World} {a : Option Addr} {n : Nat} {A : Nat → Option Addr} {L C : Nat → Nat} {F : Nat → Nat → Int} (h : In2 w a n A L C F) (hx : Ext w w') : In2 w' a n A L C F := by
  obtain ⟨h1, h2, h3⟩ := h
  refine ⟨h1, ?_, fun r hr => ⟨(h3 r hr).1.ext hx, (h3 r hr).2⟩⟩
  rcases h2 with h2 | ⟨b, off, e, h2⟩
  · exact Or.inl h2
  · exact Or.inr ⟨b, off, e, h2.ext hx⟩

def RTop (w : World) (e : Ending) (w' : World) : Prop := e = .returned (.bool true) ∧ Ext w w'

set_option maxRecDepth 20000 in
set_option maxHeartbeats 2000000 in
theorem top_any (ro : Int) (a : Option Addr) (l c0 : Nat) (f : Nat → Int) (a2 : Option Addr) (n c2 : Nat) (A : Nat → Option Addr) (L C : Nat → Nat) (F : Nat → Nat → Int) (id : Int) (w : World)
    (h1 : In1 w a l f) (h2 : In2 w a2 n A L C F) :
    Calls Try.prog 3 #[.int .u64 ro, .slice a l c0, .slice a2 n c2, .int .i64 id] w (RTop w) := by
  have H1 : Hid (In1 w a l f) := h1
  have H2 : Hid (In2 w a2 n A L C F) := h2
  clear h1 h2
  go_enter Try.func3, Try.ntmps3
  go_wp2_with fail
  refine (byt_any ro a l c0 a2 n c2 A L C F id w H2.out).mono ?_
  rintro e w' ⟨r, rfl, hw⟩
  obtain rfl : w = w' := hw.symm
  cases r with
  | false =>
    go_wp2_with fail
    go_ret
    exact ⟨rfl, Ext.refl _⟩
  | true =>
    go_wp2_with fail
    refine (rost_any a l c0 a2 n c2 A L C F w H2.out).mono ?_
    rintro e w' ⟨r, rfl, hb, hw⟩
    obtain rfl : w = w' := hw.symm
    cases r with
    | true =>
      go_wp2_with fail
      go_ret
      exact ⟨rfl, Ext.refl _⟩
    | false =>
      obtain ⟨hl, hn, hL⟩ := hb rfl
      have HL : Hid (∀ r, r < n → L r ≤ 131072) := hL
      clear hb hL
      go_wp2_with fail
      refine (clone_any a l c0 f w H1.out.1 H1.out.2 (by omega)).mono ?_
      rintro e w1 ⟨a1, cc1, rfl, hi1, _, _, hx1⟩
      have HX1 : Hid (Ext w w1) := hx1
      have HI1w : Hid (IRow w1 a1 l f) := hi1
      clear hx1 hi1
      go_wp2_with fail
      refine (rows_any a2 n c2 A L C F w1 (in2_ext H2.out HX1.out) hn HL.out).mono ?_
      rintro e w2 ⟨a2', cc2, A', C', rfl, hh, hrs, hx2⟩
      have HXW2 : Hid (Ext w w2) := HX1.out.trans hx2
      have HI1 : Hid (IRow w2 a1 l f) := HI1w.out.ext hx2
      have HRS : Hid (∀ r, r < n → IRow w2 (A' r) (L r) (F r)) := hrs
      clear hx2 hrs HI1w HX1
      rcases hh with hn0 | ⟨B, Bo, ha2, hhd⟩
      · obtain rfl : n = 0 := hn0
        go_wp2_with fail
        refine wp_loop_rounds 1 ?_
        rw [rounds_succ]
        go_wp2_with fail
        rcases HI1.out with hl0 | ⟨rb, roff, ha1, hcl⟩
        · obtain rfl : l = 0 := hl0
          refine wp_loop_rounds 1 ?_
          rw [rounds_succ]
          have HFIN : Hid ((memB f id 0 == decide (0 < 0)) = true) := by have := fin_eq (v := false) (c := 0) (by simp) (CntFrom.start f id 0 0).done; rwa [Bool.or_false] at this
          go_wp2_with fail
          refine (zz_none ro a1 0 cc1 f a2' cc2 id w2 HI1.out (by omega)).mono ?_
          rintro e w3 ⟨rfl, hx3⟩
          have HX3 : Hid (Ext w2 w3) := hx3
          clear hx3
          go_wp2_with fail
          go_ret
          exact ⟨ret_bool HFIN.out, HXW2.out.trans HX3.out⟩
        · obtain rfl : a1 = some ⟨rb, roff, none⟩ := ha1
          have HCL : Hid (Cells w2 rb roff l f) := hcl
          clear hcl
          go_loopg [9, 13] l (fun gk cnt i wr => ∃ (m : Nat) (iv : Int) (c' : Nat), cnt = .int .i64 c' ∧ i = .int .i64 iv ∧ gk = m ∧ m ≤ l ∧ Hid (iv = (m : Int) - 1) ∧ Hid (CntFrom f id l m 0 c') ∧ w2 = wr)
          case atStart => exact ⟨l, _, 0, rfl, rfl, rfl, Nat.le_refl _, rfl, CntFrom.start f id l 0, rfl⟩
          case round =>
            obtain ⟨m, iv, c', rfl, rfl, rfl, hm, hiv, hcf, rfl⟩ := hrel
            have hcb := hcf.out.2.1
            cases gk with
            | zero =>
              obtain rfl : iv = -1 := hiv.out
              have HFIN : Hid ((memB f id l == decide (0 < c')) = true) := by have := fin_eq (v := false) (c := 0) (by simp) hcf.out.done; rwa [Bool.or_false] at this
              go_wp2_with fail
              refine (zz_none ro (some ⟨rb, roff, none⟩) l cc1 f a2' cc2 id w2 HI1.out (by omega)).mono ?_
              rintro e w3 ⟨rfl, hx3⟩
              have HX3 : Hid (Ext w2 w3) := hx3
              clear hx3
              go_wp2_with fail
              go_ret
              exact ⟨ret_bool HFIN.out, HXW2.out.trans HX3.out⟩
            | succ m =>
              obtain rfl : iv = (m : Int) := by have := hiv.out; omega
              have hcx := HCL.out m (by omega)
              by_cases he : f m = id
              · have hb : (f m == id) = true := by simpa using he
                go_wp2_with fail
                go_roundg m
                case rel => exact ⟨m, _, c' + 1, by go_num, rfl, rfl, by omega, rfl, hcf.out.hit (by omega) he, rfl⟩
                case measure => omega
              · have hb : (f m == id) = false := by simpa using he
                go_wp2_with fail
                go_roundg m
                case rel => exact ⟨m, _, c', rfl, rfl, rfl, by omega, rfl, hcf.out.miss he, rfl⟩
                case measure => omega
      · obtain rfl : a2' = some ⟨B, Bo, none⟩ := ha2
        have HHD : Hid (Heads w2 B Bo n A' L C') := hhd
        clear hhd
        go_wp2_with fail
        go_loopg [9, 10] n (fun gk cnt i wr => ∃ (k : Nat) (iv : Int) (c : Nat), cnt = .int .i64 c ∧ i = .int .i64 iv ∧ gk = k ∧ k ≤ n ∧ Hid (iv = (k : Int) - 1) ∧ Hid (RowsFrom F L id n k c) ∧ w2 = wr)
        case atStart => exact ⟨n, _, 0, rfl, rfl, rfl, Nat.le_refl _, rfl, RowsFrom.start F L id n, rfl⟩
        case round =>
          obtain ⟨k, iv, c, rfl, rfl, rfl, hk, hiv, hrf, rfl⟩ := hrel
          have hcb : c ≤ 8589934592 := Nat.le_trans hrf.out.1 (by omega)
          cases gk with
          | zero =>
            obtain rfl : iv = -1 := hiv.out
            go_wp2_with fail
            rcases HI1.out with hl0 | ⟨rb, roff, ha1, hcl⟩
            · obtain rfl : l = 0 := hl0
              refine wp_loop_rounds 1 ?_
              rw [rounds_succ]
              have HFIN : Hid (((memB f id 0 || anyB F L id n) == decide (0 < c)) = true) := fin_eq hrf.out.done.2 (CntFrom.start f id 0 c).done
              go_wp2_with fail
              refine (zz_any ro a1 0 cc1 f B Bo n cc2 A' L C' F id w2 HI1.out (by omega) HHD.out HRS.out hn HL.out).mono ?_
              rintro e w3 ⟨rfl, hx3⟩
              have HX3 : Hid (Ext w2 w3) := hx3
              clear hx3
              go_wp2_with fail
              go_ret
              exact ⟨ret_bool HFIN.out, HXW2.out.trans HX3.out⟩
            · obtain rfl : a1 = some ⟨rb, roff, none⟩ := ha1
              have HCL : Hid (Cells w2 rb roff l f) := hcl
              clear hcl
              go_loopg [9, 13] l (fun gk cnt i wr => ∃ (m : Nat) (iv : Int) (c' : Nat), cnt = .int .i64 c' ∧ i = .int .i64 iv ∧ gk = m ∧ m ≤ l ∧ Hid (iv = (m : Int) - 1) ∧ Hid (CntFrom f id l m c c') ∧ w2 = wr)
              case atStart => exact ⟨l, _, c, rfl, rfl, rfl, Nat.le_refl _, rfl, CntFrom.start f id l c, rfl⟩
              case round =>
                obtain ⟨m, iv, c', rfl, rfl, rfl, hm, hiv, hcf, rfl⟩ := hrel
                have hcb := hcf.out.2.1
                cases gk with
                | zero =>
                  obtain rfl : iv = -1 := hiv.out
                  have HFIN : Hid (((memB f id l || anyB F L id n) == decide (0 < c')) = true) := fin_eq hrf.out.done.2 hcf.out.done
                  go_wp2_with fail
                  refine (zz_any ro (some ⟨rb, roff, none⟩) l cc1 f B Bo n cc2 A' L C' F id w2 HI1.out (by omega) HHD.out HRS.out hn HL.out).mono ?_
                  rintro e w3 ⟨rfl, hx3⟩
                  have HX3 : Hid (Ext w2 w3) := hx3
                  clear hx3
                  go_wp2_with fail
                  go_ret
                  exact ⟨ret_bool HFIN.out, HXW2.out.trans HX3.out⟩
                | succ m =>
                  obtain rfl : iv = (m : Int) := by have := hiv.out; omega
                  have hcx := HCL.out m (by omega)
                  by_cases he : f m = id
                  · have hb : (f m == id) = true := by simpa using he
                    go_wp2_with fail
                    go_roundg m
                    case rel => exact ⟨m, _, c' + 1, by go_num, rfl, rfl, by omega, rfl, hcf.out.hit (by omega) he, rfl⟩
                    case measure => omega
                  · have hb : (f m == id) = false := by simpa using he
                    go_wp2_with fail
                    go_roundg m
                    case rel => exact ⟨m, _, c', rfl, rfl, rfl, by omega, rfl, hcf.out.miss he, rfl⟩
                    case measure => omega
          | succ k =>
            obtain rfl : iv = (k : Int) := by have := hiv.out; omega
            obtain ⟨lr, HLR⟩ : ∃ lr, Hid (lr = L k) := ⟨_, rfl⟩
            obtain ⟨ar, HAR⟩ : ∃ ar, Hid (ar = A' k) := ⟨_, rfl⟩
            have hch := HHD.out k (by omega)
            have hrow := HRS.out k (by omega)
            have hlb := HL.out k (by omega)
            rw [← HAR.out, ← HLR.out] at hch hrow
            rw [← HLR.out] at hlb
            rcases hrow with hl0 | ⟨rb, roff, ha1, hcl⟩
            · obtain rfl : lr = 0 := hl0
              go_wp2_with fail
              refine wp_loop_rounds 1 ?_
              rw [rounds_succ]
              go_wp2_with fail
              go_roundg k
              case rel => exact ⟨k, _, c, rfl, rfl, rfl, by omega, rfl, hrf.out.step (by omega) (by rw [← HLR.out]; omega) (by rw [← HLR.out]; exact (CntFrom.start (F k) id 0 c).done), rfl⟩
              case measure => omega
            · obtain rfl : ar = some ⟨rb, roff, none⟩ := ha1
              have HCL : Hid (Cells w2 rb roff lr (F k)) := hcl
              clear hcl
              go_wp2_with fail
              go_loopg [9, 12] lr (fun gk cnt i wr => ∃ (m : Nat) (iv : Int) (c' : Nat), cnt = .int .i64 c' ∧ i = .int .i64 iv ∧ gk = m ∧ m ≤ lr ∧ Hid (iv = (m : Int) - 1) ∧ Hid (CntFrom (F k) id lr m c c') ∧ w2 = wr)
              case atStart => exact ⟨lr, _, c, rfl, rfl, rfl, Nat.le_refl _, rfl, CntFrom.start (F k) id lr c, rfl⟩
              case round =>
                obtain ⟨m, iv2, c', rfl, rfl, rfl, hm, hiv2, hcf, rfl⟩ := hrel
                have hcb' := hcf.out.2.1
                cases gk with
                | zero =>
                  obtain rfl : iv2 = -1 := hiv2.out
                  go_wp2_with fail
                  go_roundg k
                  case rel => exact ⟨k, _, c', rfl, rfl, rfl, by omega, rfl, hrf.out.step (by omega) (by rw [← HLR.out]; omega) (by rw [← HLR.out]; exact hcf.out.done), rfl⟩
                  case measure => omega
                | succ m =>
                  obtain rfl : iv2 = (m : Int) := by have := hiv2.out; omega
                  have hcx := HCL.out m (by omega)
                  by_cases he : F k m = id
                  · have hb : (F k m == id) = true := by simpa using he
                    go_wp2_with fail
                    go_roundg m
                    case rel => exact ⟨m, _, c' + 1, by go_num, rfl, rfl, by omega, rfl, hcf.out.hit (by omega) he, rfl⟩
                    case measure => omega
                  · have hb : (F k m == id) = false := by simpa using he
                    go_wp2_with fail
                    go_roundg m
                    case rel => exact ⟨m, _, c', rfl, rfl, rfl, by omega, rfl, hcf.out.miss he, rfl⟩
                    case measure => omega

end Go.Proofs.Qxb6602317a

/-
  THE WALK of FnElementsNextReadsOneMember (4): the main road.
-/
import Derived.Test.Qxb6602274aTop4
namespace Go.Proofs.Qxb6602274a
open Go.RowKit Js
set_option linter.unusedVariables false

set_option maxRecDepth 20000 in
set_option maxHeartbeats 4000000 in
theorem top_main (b off n cap : Nat) (g : Nat → Int) (ob : Bool) (a2 : Option Addr) (l2 c2 : Nat) (a3 : Option Addr) (l3 c3 : Nat) (w : World) (ht : Txt w b off n g) (hn : n ≤ 65536) (hl2 : (l2 : Int) ≤ 65536) (hl3 : (l3 : Int) ≤ 65536)
    (h2 : CameIn w a2 l2 c2) (h3 : CameIn w a3 l3 c3) :
    Calls Try.prog 4 #[.slice (some ⟨b, off, none⟩) n cap, .bool ob, .slice a2 l2 c2, .slice a3 l3 c3] w (RTop w) := by
  have HB : Hid (Calls Try.prog 11 #[.slice (some ⟨b, off, none⟩) n cap, .bool ob, .slice a2 l2 c2, .slice a3 l3 c3] w fun e w' => e = .returned (.bool true) ∧ w' = w) := bytes_small _ n cap ob a2 l2 c2 a3 l3 c3 w (by omega) hl2 hl3
  have HT : Hid (Txt w b off n g) := ht
  have H2 : Hid (CameIn w a2 l2 c2) := h2
  have H3 : Hid (CameIn w a3 l3 c3) := h3
  clear ht h2 h3
  go_enter Try.func4, Try.ntmps4
  go_wp2_with fail
  refine HB.out.mono ?_
  rintro e w' ⟨rfl, hw⟩
  obtain rfl : w = w' := hw.symm
  clear HB
  go_wp2_with fail
  refine (step_any b off n cap g ob w HT.out hn).mono ?_
  rintro e w1 ⟨cl, pos, na, nb, va, vb, kind, ok, rfl, hns, hx1⟩
  have HXS : Hid (Ext w (w1.alloc (.cells #[.int .i64 na, .int .i64 nb, .int .i64 va, .int .i64 vb, .int .i64 kind] 31))) := hx1.alloc _
  clear hx1
  cases ok with
  | false =>
    clear hns
    go_wp2_with fail
    go_ret
    exact ⟨rfl, HXS.out⟩
  | true =>
    obtain ⟨i, hpre0, hi, hcase⟩ := hns rfl
    have hpre : Hid (Pre g n i) := hpre0
    clear hns hpre0
    rcases hcase with ⟨rfl, hcl, rfl⟩ | ⟨rfl, hn93, hn125, va', vb', rfl, rfl, hv, hf, hcase⟩
    · have HCL : Hid (g i = 93 ∨ g i = 125) := hcl
      clear hcl
      go_wp2_with fail
      refine (clone_rest b off n cap g _ (HT.out.ext HXS.out) hn).mono ?_
      rintro e w2 ⟨B, rfl, ht2, hx2⟩
      have HX2 : Hid (Ext (w1.alloc (.cells #[.int .i64 na, .int .i64 nb, .int .i64 va, .int .i64 vb, .int .i64 kind] 31)) w2) := hx2
      have HT2 : Hid (Txt w2 B 0 n g) := ht2
      clear hx2 ht2
      go_wp2_with fail
      refine (clone_any a2 l2 c2 _ (by omega) (H2.out.ext (HXS.out.trans HX2.out))).mono ?_
      rintro e w3 ⟨A2, L2, C2, rfl, hs2, hx3⟩
      have HX3 : Hid (Ext w2 w3) := hx3
      have HS2 : Hid (Self w3 A2 L2 C2) := hs2
      clear hx3 hs2
      go_wp2_with fail
      refine (clone_any a3 l3 c3 _ (by omega) (H3.out.ext ((HXS.out.trans HX2.out).trans HX3.out))).mono ?_
      rintro e w4 ⟨A3, L3, C3, rfl, hs3, hx4⟩
      have HX4 : Hid (Ext w3 w4) := hx4
      have HS3 : Hid (Self w4 A3 L3 C3) := hs3
      clear hx4 hs3
      have HT4 : Hid (Txt w4 B 0 n g) := (HT2.out.ext HX3.out).ext HX4.out
      have HS24 : Hid (Self w4 A2 L2 C2) := HS2.out.ext HX4.out
      have HXW4 : Hid (Ext w w4) := ((HXS.out.trans HX2.out).trans HX3.out).trans HX4.out
      have HXS4 : Hid (Ext (w1.alloc (.cells #[.int .i64 na, .int .i64 nb, .int .i64 va, .int .i64 vb, .int .i64 kind] 31)) w4) := (HX2.out.trans HX3.out).trans HX4.out
      clear HX2 HX3 HX4 HT2 HS2
      go_wp2_with fail
      refine (zz_close B n i ob g w4 A2 L2 C2 A3 L3 C3 HT4.out hn hpre.out hi HCL.out).mono ?_
      rintro e w5 ⟨rfl, hx5⟩
      have HX5 : Hid (Ext w4 w5) := hx5
      clear hx5
      have hni : ¬ n = i := by omega
      have hii : (i : Int) ≤ (n : Int) := by omega
      go_wp2_with fail
      refine (same_part (b := B) (n := n) (p := i) (l := n - i) (g := g) (HT4.out.ext HX5.out) hn (by omega)).mono ?_
      rintro e w6 ⟨rfl, hx6⟩
      have HX6 : Hid (Ext w5 w6) := hx6
      clear hx6
      go_wp2_with fail
      refine (same_self ((HS24.out.ext HX5.out).ext HX6.out)).mono ?_
      rintro e w7 ⟨rfl, hx7⟩
      have HX7 : Hid (Ext w6 w7) := hx7
      clear hx7
      go_wp2_with fail
      refine (same_self (((HS3.out.ext HX5.out).ext HX6.out).ext HX7.out)).mono ?_
      rintro e w8 ⟨rfl, hx8⟩
      have HX8 : Hid (Ext w7 w8) := hx8
      clear hx8
      go_wp2_with fail
      go_ret
      exact ⟨rfl, (((HXW4.out.trans HX5.out).trans HX6.out).trans HX7.out).trans HX8.out⟩
    · have HN : Hid (g i ≠ 93 ∧ g i ≠ 125) := ⟨hn93, hn125⟩
      have HV : Hid (Val g n va' vb' kind) := hv
      have HF : Hid (folB g n vb' kind = true) := hf
      have hvle := hv.le
      clear hn93 hn125 hv hf
      rcases hcase with ⟨rfl, rfl⟩ | ⟨rfl, rfl, nb', j, rfl, hstr, hskj, hj, h58, hskv⟩
      · go_wp2_with fail
        refine (clone_rest b off n cap g _ (HT.out.ext HXS.out) hn).mono ?_
        rintro e w2 ⟨B, rfl, ht2, hx2⟩
        have HX2 : Hid (Ext (w1.alloc (.cells #[.int .i64 na, .int .i64 nb, .int .i64 va', .int .i64 vb', .int .i64 kind] 31)) w2) := hx2
        have HT2 : Hid (Txt w2 B 0 n g) := ht2
        clear hx2 ht2
        go_wp2_with fail
        refine (clone_any a2 l2 c2 _ (by omega) (H2.out.ext (HXS.out.trans HX2.out))).mono ?_
        rintro e w3 ⟨A2, L2, C2, rfl, hs2, hx3⟩
        have HX3 : Hid (Ext w2 w3) := hx3
        have HS2 : Hid (Self w3 A2 L2 C2) := hs2
        clear hx3 hs2
        go_wp2_with fail
        refine (clone_any a3 l3 c3 _ (by omega) (H3.out.ext ((HXS.out.trans HX2.out).trans HX3.out))).mono ?_
        rintro e w4 ⟨A3, L3, C3, rfl, hs3, hx4⟩
        have HX4 : Hid (Ext w3 w4) := hx4
        have HS3 : Hid (Self w4 A3 L3 C3) := hs3
        clear hx4 hs3
        have HT4 : Hid (Txt w4 B 0 n g) := (HT2.out.ext HX3.out).ext HX4.out
        have HS24 : Hid (Self w4 A2 L2 C2) := HS2.out.ext HX4.out
        have HXW4 : Hid (Ext w w4) := ((HXS.out.trans HX2.out).trans HX3.out).trans HX4.out
        have HXS4 : Hid (Ext (w1.alloc (.cells #[.int .i64 na, .int .i64 nb, .int .i64 va', .int .i64 vb', .int .i64 kind] 31)) w4) := (HX2.out.trans HX3.out).trans HX4.out
        clear HX2 HX3 HX4 HT2 HS2
        go_wp2_with fail
        refine (zz_item B n va' (vb' - va') kind g w4 A2 L2 C2 A3 L3 C3 HT4.out hn hpre.out hi HN.out.1 HN.out.2 (by rw [show va' + (vb' - va') = vb' by omega]; exact HV.out) (by rw [show va' + (vb' - va') = vb' by omega]; exact HF.out)).mono ?_
        rintro e w5 ⟨rfl, hx5⟩
        have HX5 : Hid (Ext w4 w5) := hx5
        clear hx5
        have hT5 := HT4.out.ext HX5.out
        have HT5 : Hid (Txt w5 B 0 n g) := hT5
        clear hT5
        obtain ⟨d2, _⟩ := fresh_of (HXS4.out.trans HX5.out) 2 (.int .i64 va') rfl
        obtain ⟨d3, _⟩ := fresh_of (HXS4.out.trans HX5.out) 3 (.int .i64 vb') rfl
        have hvn : (vb' : Int) ≤ (n : Int) := by omega
        have hvv : (va' : Int) ≤ (vb' : Int) := by omega
        have hnva : ¬ n = va' := by omega
        by_cases hend : n = vb'
        · obtain rfl : n = vb' := hend
          go_wp2_with fail
          refine (same_tail (b := B) (n := n) (va := va') (vb := n) (g := g) HT5.out hn (by omega) (by omega) (by omega) (by omega) (fun h => absurd h (by omega))).mono ?_
          rintro e w6 ⟨rfl, hx6⟩
          have HX6 : Hid (Ext w5 w6) := hx6
          clear hx6
          have HT6 : Hid (Txt w6 B 0 n g) := HT5.out.ext HX6.out
          have HXS6 : Hid (Ext (w1.alloc (.cells #[.int .i64 na, .int .i64 nb, .int .i64 va', .int .i64 n, .int .i64 kind] 31)) w6) := (HXS4.out.trans HX5.out).trans HX6.out
          obtain ⟨d2', _⟩ := fresh_of HXS6.out 2 (.int .i64 va') rfl
          obtain ⟨d3', _⟩ := fresh_of HXS6.out 3 (.int .i64 n) rfl
          go_wp2_with fail
          refine (same_part (b := B) (n := n) (p := va') (l := n - va') (g := g) HT6.out hn (by omega)).mono ?_
          rintro e w7 ⟨rfl, hx7⟩
          have HX7 : Hid (Ext w6 w7) := hx7
          clear hx7
          clear d2 d3 d2' d3'
          go_wp2_with fail
          refine (same_self (((HS24.out.ext HX5.out).ext HX6.out).ext HX7.out)).mono ?_
          rintro e w8 ⟨rfl, hx8⟩
          have HX8 : Hid (Ext w7 w8) := hx8
          clear hx8
          go_wp2_with fail
          go_ret
          exact ⟨rfl, (((HXW4.out.trans HX5.out).trans HX6.out).trans HX7.out).trans HX8.out⟩

        · go_wp2_with fail
          refine (same_tail (b := B) (n := n) (va := va') (vb := vb') (g := g) HT5.out hn (by omega) (by omega) (by omega) (by omega) (fun _ => rfl)).mono ?_
          rintro e w6 ⟨rfl, hx6⟩
          have HX6 : Hid (Ext w5 w6) := hx6
          clear hx6
          have HT6 : Hid (Txt w6 B 0 n g) := HT5.out.ext HX6.out
          have HXS6 : Hid (Ext (w1.alloc (.cells #[.int .i64 na, .int .i64 nb, .int .i64 va', .int .i64 vb', .int .i64 kind] 31)) w6) := (HXS4.out.trans HX5.out).trans HX6.out
          obtain ⟨d2', _⟩ := fresh_of HXS6.out 2 (.int .i64 va') rfl
          obtain ⟨d3', _⟩ := fresh_of HXS6.out 3 (.int .i64 vb') rfl
          go_wp2_with fail
          refine (same_part (b := B) (n := n) (p := va') (l := vb' - va') (g := g) HT6.out hn (by omega)).mono ?_
          rintro e w7 ⟨rfl, hx7⟩
          have HX7 : Hid (Ext w6 w7) := hx7
          clear hx7
          clear d2 d3 d2' d3'
          go_wp2_with fail
          refine (same_self (((HS24.out.ext HX5.out).ext HX6.out).ext HX7.out)).mono ?_
          rintro e w8 ⟨rfl, hx8⟩
          have HX8 : Hid (Ext w7 w8) := hx8
          clear hx8
          go_wp2_with fail
          go_ret
          exact ⟨rfl, (((HXW4.out.trans HX5.out).trans HX6.out).trans HX7.out).trans HX8.out⟩
      · have HSTR : Hid (Str g n i nb') := hstr
        have HSJ : Hid (Skip g n nb' j) := hskj
        have HSV : Hid (Skip g n (j + 1) va') := hskv
        have hsle := hstr.le
        have hj1 := hskj.1
        have hv1 := hskv.1
        clear hstr hskj hskv h58
        go_wp2_with fail
        refine (clone_rest b off n cap g _ (HT.out.ext HXS.out) hn).mono ?_
        rintro e w2 ⟨B, rfl, ht2, hx2⟩
        have HX2 : Hid (Ext (w1.alloc (.cells #[.int .i64 i, .int .i64 nb', .int .i64 va', .int .i64 vb', .int .i64 kind] 31)) w2) := hx2
        have HT2 : Hid (Txt w2 B 0 n g) := ht2
        clear hx2 ht2
        go_wp2_with fail
        refine (clone_any a2 l2 c2 _ (by omega) (H2.out.ext (HXS.out.trans HX2.out))).mono ?_
        rintro e w3 ⟨A2, L2, C2, rfl, hs2, hx3⟩
        have HX3 : Hid (Ext w2 w3) := hx3
        have HS2 : Hid (Self w3 A2 L2 C2) := hs2
        clear hx3 hs2
        go_wp2_with fail
        refine (clone_any a3 l3 c3 _ (by omega) (H3.out.ext ((HXS.out.trans HX2.out).trans HX3.out))).mono ?_
        rintro e w4 ⟨A3, L3, C3, rfl, hs3, hx4⟩
        have HX4 : Hid (Ext w3 w4) := hx4
        have HS3 : Hid (Self w4 A3 L3 C3) := hs3
        clear hx4 hs3
        have HT4 : Hid (Txt w4 B 0 n g) := (HT2.out.ext HX3.out).ext HX4.out
        have HS24 : Hid (Self w4 A2 L2 C2) := HS2.out.ext HX4.out
        have HXW4 : Hid (Ext w w4) := ((HXS.out.trans HX2.out).trans HX3.out).trans HX4.out
        have HXS4 : Hid (Ext (w1.alloc (.cells #[.int .i64 i, .int .i64 nb', .int .i64 va', .int .i64 vb', .int .i64 kind] 31)) w4) := (HX2.out.trans HX3.out).trans HX4.out
        clear HX2 HX3 HX4 HT2 HS2
        go_wp2_with fail
        refine (zz_member B n i (nb' - i) j va' (vb' - va') kind g w4 A2 L2 C2 A3 L3 C3 HT4.out hn hpre.out hi HN.out.1 HN.out.2 (by rw [show i + (nb' - i) = nb' by omega]; exact HSTR.out) (by rw [show i + (nb' - i) = nb' by omega]; exact HSJ.out) hj HSV.out (by rw [show va' + (vb' - va') = vb' by omega]; exact HV.out) (by rw [show va' + (vb' - va') = vb' by omega]; exact HF.out)).mono ?_
        rintro e w5 ⟨rfl, hx5⟩
        have HX5 : Hid (Ext w4 w5) := hx5
        clear hx5
        have hT5 := HT4.out.ext HX5.out
        have HT5 : Hid (Txt w5 B 0 n g) := hT5
        clear hT5
        obtain ⟨d2, _⟩ := fresh_of (HXS4.out.trans HX5.out) 2 (.int .i64 va') rfl
        obtain ⟨d3, _⟩ := fresh_of (HXS4.out.trans HX5.out) 3 (.int .i64 vb') rfl
        have hvn : (vb' : Int) ≤ (n : Int) := by omega
        have hvv : (va' : Int) ≤ (vb' : Int) := by omega
        have hnva : ¬ n = va' := by omega
        by_cases hend : n = vb'
        · obtain rfl : n = vb' := hend
          go_wp2_with fail
          refine (same_tail (b := B) (n := n) (va := va') (vb := n) (g := g) HT5.out hn (by omega) (by omega) (by omega) (by omega) (fun h => absurd h (by omega))).mono ?_
          rintro e w6 ⟨rfl, hx6⟩
          have HX6 : Hid (Ext w5 w6) := hx6
          clear hx6
          have HT6 : Hid (Txt w6 B 0 n g) := HT5.out.ext HX6.out
          have HXS6 : Hid (Ext (w1.alloc (.cells #[.int .i64 i, .int .i64 nb', .int .i64 va', .int .i64 n, .int .i64 kind] 31)) w6) := (HXS4.out.trans HX5.out).trans HX6.out
          obtain ⟨d2', _⟩ := fresh_of HXS6.out 2 (.int .i64 va') rfl
          obtain ⟨d3', _⟩ := fresh_of HXS6.out 3 (.int .i64 n) rfl
          go_wp2_with fail
          refine (same_part (b := B) (n := n) (p := va') (l := n - va') (g := g) HT6.out hn (by omega)).mono ?_
          rintro e w7 ⟨rfl, hx7⟩
          have HX7 : Hid (Ext w6 w7) := hx7
          clear hx7
          clear d2 d3 d2' d3'
          obtain ⟨d0', _⟩ := fresh_of (HXS6.out.trans HX7.out) 0 (.int .i64 i) rfl
          obtain ⟨d1', _⟩ := fresh_of (HXS6.out.trans HX7.out) 1 (.int .i64 nb') rfl
          have hnn : (nb' : Int) ≤ (n : Int) := by omega
          have hin : (i : Int) ≤ (nb' : Int) := by omega
          have hni : ¬ n = i := by omega
          go_wp2_with fail
          refine (same_part (b := B) (n := n) (p := i) (l := nb' - i) (g := g) (HT6.out.ext HX7.out) hn (by omega)).mono ?_
          rintro e w8 ⟨rfl, hx8⟩
          have HX8 : Hid (Ext w7 w8) := hx8
          clear hx8
          go_wp2_with fail
          go_ret
          exact ⟨rfl, (((HXW4.out.trans HX5.out).trans HX6.out).trans HX7.out).trans HX8.out⟩

        · go_wp2_with fail
          refine (same_tail (b := B) (n := n) (va := va') (vb := vb') (g := g) HT5.out hn (by omega) (by omega) (by omega) (by omega) (fun _ => rfl)).mono ?_
          rintro e w6 ⟨rfl, hx6⟩
          have HX6 : Hid (Ext w5 w6) := hx6
          clear hx6
          have HT6 : Hid (Txt w6 B 0 n g) := HT5.out.ext HX6.out
          have HXS6 : Hid (Ext (w1.alloc (.cells #[.int .i64 i, .int .i64 nb', .int .i64 va', .int .i64 vb', .int .i64 kind] 31)) w6) := (HXS4.out.trans HX5.out).trans HX6.out
          obtain ⟨d2', _⟩ := fresh_of HXS6.out 2 (.int .i64 va') rfl
          obtain ⟨d3', _⟩ := fresh_of HXS6.out 3 (.int .i64 vb') rfl
          go_wp2_with fail
          refine (same_part (b := B) (n := n) (p := va') (l := vb' - va') (g := g) HT6.out hn (by omega)).mono ?_
          rintro e w7 ⟨rfl, hx7⟩
          have HX7 : Hid (Ext w6 w7) := hx7
          clear hx7
          clear d2 d3 d2' d3'
          obtain ⟨d0', _⟩ := fresh_of (HXS6.out.trans HX7.out) 0 (.int .i64 i) rfl
          obtain ⟨d1', _⟩ := fresh_of (HXS6.out.trans HX7.out) 1 (.int .i64 nb') rfl
          have hnn : (nb' : Int) ≤ (n : Int) := by omega
          have hin : (i : Int) ≤ (nb' : Int) := by omega
          have hni : ¬ n = i := by omega
          go_wp2_with fail
          refine (same_part (b := B) (n := n) (p := i) (l := nb' - i) (g := g) (HT6.out.ext HX7.out) hn (by omega)).mono ?_
          rintro e w8 ⟨rfl, hx8⟩
          have HX8 : Hid (Ext w7 w8) := hx8
          clear hx8
          go_wp2_with fail
          go_ret
          exact ⟨rfl, (((HXW4.out.trans HX5.out).trans HX6.out).trans HX7.out).trans HX8.out⟩

end Go.Proofs.Qxb6602274a

/-
  THE WALK of ZZelementsNext (13), and what it answers by the grammar's reading.
-/
import Derived.Test.Qxb6602274aNext2
namespace Go.Proofs.Qxb6602274a
open Go.RowKit Js

/-- What ZZelementsNext answers. -/
def RZz (got : Bool) (b ro lr cr : Nat) (A2 : Option Addr) (L2 C2 : Nat) (A3 : Option Addr) (L3 C3 : Nat) (w : World) (e : Ending) (w' : World) : Prop :=
  e = .returned (.tuple #[.bool got, .slice (some ⟨b, ro, none⟩) lr cr, .slice A2 L2 C2, .slice A3 L3 C3]) ∧ Ext w w'

set_option maxHeartbeats 1000000 in
theorem zz_of (b n : Nat) (obj : Bool) (w : World) (a2 : Option Addr) (l2 c2 : Nat) (a3 : Option Addr) (l3 c3 : Nat)
    (got : Bool) (ro lr cr : Nat) (A2 : Option Addr) (L2 C2 : Nat) (A3 : Option Addr) (L3 C3 : Nat) (d : Nat)
    (hnext : Calls Try.prog 26 #[.pointer (some ⟨w.heap.size, 0, none⟩)] (w.alloc (.cells #[.slice (some ⟨b, 0, none⟩) n n, .bool obj, .slice a2 l2 c2, .slice a3 l3 c3] 49)) fun e w' =>
      e = .returned (.bool got) ∧ w' = (w.alloc (.cells #[.slice (some ⟨b, ro, none⟩) lr cr, .bool obj, .slice A2 L2 C2, .slice A3 L3 C3] 49)).drewN d) :
    Calls Try.prog 13 #[.slice (some ⟨b, 0, none⟩) n n, .bool obj, .slice a2 l2 c2, .slice a3 l3 c3] w (RZz got b ro lr cr A2 L2 C2 A3 L3 C3 w) := by
  have HN : Hid (Calls Try.prog 26 #[.pointer (some ⟨w.heap.size, 0, none⟩)] (w.alloc (.cells #[.slice (some ⟨b, 0, none⟩) n n, .bool obj, .slice a2 l2 c2, .slice a3 l3 c3] 49)) fun e w' =>
      e = .returned (.bool got) ∧ w' = (w.alloc (.cells #[.slice (some ⟨b, ro, none⟩) lr cr, .bool obj, .slice A2 L2 C2, .slice A3 L3 C3] 49)).drewN d) := hnext
  clear hnext
  go_enter Try.func13, Try.ntmps13
  go_wp2_with fail
  refine HN.out.mono ?_
  rintro e w' ⟨rfl, hw⟩
  subst hw
  go_wp2_with fail
  go_quiet (fail)
  go_wp2_with fail
  exact bodyPost_ret (v := .tuple #[.bool got, .slice (some ⟨b, ro, none⟩) lr cr, .slice A2 L2 C2, .slice A3 L3 C3]) (by simp [results, Try.results13, go_sem]) rfl ⟨rfl, (((Ext.refl _).alloc _).trans (Ext.drewN _ _)).trans (Ext.drewN _ _)⟩

/-- The closing bracket. -/
theorem zz_close (b n i : Nat) (obj : Bool) (g : Nat → Int) (w : World) (a2 : Option Addr) (l2 c2 : Nat) (a3 : Option Addr) (l3 c3 : Nat) (ht : Txt w b 0 n g) (hn : n ≤ 65536)
    (hp : Pre g n i) (hi : i < n) (hcl : g i = 93 ∨ g i = 125) :
    Calls Try.prog 13 #[.slice (some ⟨b, 0, none⟩) n n, .bool obj, .slice a2 l2 c2, .slice a3 l3 c3] w (RZz false b i (n - i) (n - i) a2 l2 c2 a3 l3 c3 w) := by
  refine zz_of b n obj w a2 l2 c2 a3 l3 c3 false i (n - i) (n - i) a2 l2 c2 a3 l3 c3 0 ?_
  obtain ⟨q, hsk, hq, h | h⟩ := hp
  · exact next_cc b n q g w a2 l2 c2 a3 l3 c3 ht hn obj i hi hcl hsk hq h.1 h.2
  · obtain ⟨h44, rfl⟩ := h
    exact next_cn b n g w a2 l2 c2 a3 l3 c3 ht hn obj i hi hcl hsk h44

/-- Where the rest begins behind a value at [va, va + m). -/
def roOf (n va m : Nat) : Nat := if n - va = m then va else va + m

theorem rnext_at {b n va m : Nat} {ob : Bool} {nv : Value} {w : World} {e : Ending} {w' : World} (h : RNext b n va m ob nv w e w') :
    e = .returned (.bool true) ∧ w' = (w.alloc (.cells #[.slice (some ⟨b, roOf n va m, none⟩) (n - va - m) (n - va - m), .bool ob, nv, .slice (some ⟨b, va, none⟩) m (n - va)] 49)).drewN 1 := by
  obtain ⟨ro, h1, h2, rfl, rfl⟩ := h
  have e : ro = roOf n va m := by
    unfold roOf
    by_cases hm : n - va = m
    · rw [if_pos hm]; exact h1 hm
    · rw [if_neg hm]; exact h2 hm
  subst e
  exact ⟨rfl, rfl⟩

/-- An item. -/
theorem zz_item (b n va m : Nat) (k : Int) (g : Nat → Int) (w : World) (a2 : Option Addr) (l2 c2 : Nat) (a3 : Option Addr) (l3 c3 : Nat) (ht : Txt w b 0 n g) (hn : n ≤ 65536)
    (hp : Pre g n va) (hi : va < n) (h93 : g va ≠ 93) (h125 : g va ≠ 125) (hv : Val g n va (va + m) k) (hf : folB g n (va + m) k = true) :
    Calls Try.prog 13 #[.slice (some ⟨b, 0, none⟩) n n, .bool false, .slice a2 l2 c2, .slice a3 l3 c3] w (RZz true b (roOf n va m) (n - va - m) (n - va - m) a2 l2 c2 (some ⟨b, va, none⟩) m (n - va) w) := by
  refine zz_of b n false w a2 l2 c2 a3 l3 c3 true (roOf n va m) (n - va - m) (n - va - m) a2 l2 c2 (some ⟨b, va, none⟩) m (n - va) 1 ?_
  obtain ⟨q, hsk, hq, h | h⟩ := hp
  · exact (next_ac b n q g w a2 l2 c2 a3 l3 c3 ht hn va m k hi h93 h125 hv hf hsk hq h.1 h.2).mono fun _ _ => rnext_at
  · obtain ⟨h44, rfl⟩ := h
    exact (next_an b n g w a2 l2 c2 a3 l3 c3 ht hn va m k hi h93 h125 hv hf hsk h44).mono fun _ _ => rnext_at

/-- A member. -/
theorem zz_member (b n i m1 j va m : Nat) (k : Int) (g : Nat → Int) (w : World) (a2 : Option Addr) (l2 c2 : Nat) (a3 : Option Addr) (l3 c3 : Nat) (ht : Txt w b 0 n g) (hn : n ≤ 65536)
    (hp : Pre g n i) (hi : i < n) (h93 : g i ≠ 93) (h125 : g i ≠ 125) (hstr : Str g n i (i + m1)) (hskj : Skip g n (i + m1) j) (hj : j < n) (hskv : Skip g n (j + 1) va)
    (hv : Val g n va (va + m) k) (hf : folB g n (va + m) k = true) :
    Calls Try.prog 13 #[.slice (some ⟨b, 0, none⟩) n n, .bool true, .slice a2 l2 c2, .slice a3 l3 c3] w (RZz true b (roOf n va m) (n - va - m) (n - va - m) (some ⟨b, i, none⟩) m1 (n - i) (some ⟨b, va, none⟩) m (n - va) w) := by
  refine zz_of b n true w a2 l2 c2 a3 l3 c3 true (roOf n va m) (n - va - m) (n - va - m) (some ⟨b, i, none⟩) m1 (n - i) (some ⟨b, va, none⟩) m (n - va) 1 ?_
  obtain ⟨q, hsk, hq, h | h⟩ := hp
  · exact (next_oc b n q g w a2 l2 c2 a3 l3 c3 ht hn i m1 j va m k hi h93 h125 hstr hskj hj hskv hv hf hsk hq h.1 h.2).mono fun _ _ => rnext_at
  · obtain ⟨h44, rfl⟩ := h
    exact (next_on b n g w a2 l2 c2 a3 l3 c3 ht hn i m1 j va m k hi h93 h125 hstr hskj hj hskv hv hf hsk h44).mono fun _ _ => rnext_at

end Go.Proofs.Qxb6602274a

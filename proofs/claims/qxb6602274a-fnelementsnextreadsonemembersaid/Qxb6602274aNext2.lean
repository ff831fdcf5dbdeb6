/-
  THE WALKS of (*elements).next (26) and ZZelementsNext (13).
-/
import Derived.Test.Qxb6602274aStep
import Derived.BigRegion
namespace Go.Proofs.Qxb6602274a
open Go.RowKit Js
set_option linter.unusedVariables false

theorem skip_sub {g : Nat → Int} {n p q : Nat} (h : Skip g n p q) : Skip (Js.sub g p) (n - p) 0 (q - p) := by
  obtain ⟨h1, h2, h3, h4⟩ := h
  refine ⟨Nat.zero_le _, by omega, fun j _ hj => h3 (p + j) (by omega) (by omega), fun hq => ?_⟩
  rw [sub_at g p q h1]; exact h4 (by omega)

theorem txt_sub0 {w : World} {b n : Nat} {g : Nat → Int} (h : Txt w b 0 n g) (p : Nat) : Txt w b p (n - p) (Js.sub g p) := by
  have := h.sub p
  rwa [Nat.zero_add] at this

/-- trimSpace at a slice that begins at p. -/
theorem trim_at {b n p q l c : Nat} {g : Nat → Int} {w : World} (ht : Txt w b 0 n g) (hn : n ≤ 65536) (hs : Skip g n p q) (hq : q < n) (hl : l = n - p) (hc : c = n - p) :
    Calls Try.prog 30 #[.slice (some ⟨b, p, none⟩) l c] w fun e w' => e = .returned (.slice (some ⟨b, q, none⟩) (n - q) (n - q)) ∧ w' = w := by
  subst hl; subst hc
  have hle := hs.1
  have := trim_any b p (n - p) (n - p) (q - p) (Js.sub g p) w (txt_sub0 ht p) (by omega) (Nat.le_refl _) (skip_sub hs) (by omega)
  rwa [show p + (q - p) = q by omega, show n - p - (q - p) = n - q by omega] at this

/-- valueLen at a slice that begins at p. -/
theorem vl_at {b n p m l c : Nat} {k : Int} {g : Nat → Int} {w : World} (ht : Txt w b 0 n g) (hn : n ≤ 65536) (hv : Val g n p (p + m) k) (hf : folB g n (p + m) k = true) (hl : l = n - p) (hc : c = n - p) :
    Calls Try.prog 24 #[.slice (some ⟨b, p, none⟩) l c] w fun e w' => e = .returned (.int .i64 m) ∧ w' = w := by
  subst hl; subst hc
  have hle := hv.le
  have hsub := hv.sub
  rw [show p + m - p = m by omega] at hsub
  rcases hsub with ⟨_, h⟩ | ⟨_, h⟩ | ⟨hk, h⟩
  · exact vl_str b p (n - p) (n - p) _ m w (txt_sub0 ht p) (by omega) h
  · exact vl_cont b p (n - p) (n - p) _ m w (txt_sub0 ht p) (by omega) (Nat.le_refl _) h
  · have he := (EndsAt.of_fol hk hle.2 hf).sub (p := p) (by omega)
    rw [show p + m - p = m by omega] at he
    exact vl_scal b p (n - p) (n - p) _ m w (txt_sub0 ht p) (by omega) h he
theorem vls_at {b n p m l c : Nat} {g : Nat → Int} {w : World} (ht : Txt w b 0 n g) (hn : n ≤ 65536) (hv : Str g n p (p + m)) (hl : l = n - p) (hc : c = n - p) :
    Calls Try.prog 24 #[.slice (some ⟨b, p, none⟩) l c] w fun e w' => e = .returned (.int .i64 m) ∧ w' = w := by
  subst hl; subst hc
  have hsub := hv.sub
  rw [show p + m - p = m by omega] at hsub
  exact vl_str b p (n - p) (n - p) _ m w (txt_sub0 ht p) (by omega) hsub

/-- What next leaves where it has read an item or a member: 'ro': where the rest begins. -/
def RNext (b n va m : Nat) (ob : Bool) (nv : Value) (w : World) (e : Ending) (w' : World) : Prop :=
  ∃ ro : Nat, (n - va = m → ro = va) ∧ (¬ n - va = m → ro = va + m) ∧ e = .returned (.bool true) ∧
    w' = (w.alloc (.cells #[.slice (some ⟨b, ro, none⟩) (n - va - m) (n - va - m), .bool ob, nv, .slice (some ⟨b, va, none⟩) m (n - va)] 49)).drew

set_option maxRecDepth 20000 in
set_option maxHeartbeats 2000000 in
theorem next_cc (b n q : Nat) (g : Nat → Int) (w : World) (a2 : Option Addr) (l2 c2 : Nat) (a3 : Option Addr) (l3 c3 : Nat) (ht : Txt w b 0 n g) (hn : n ≤ 65536) (obj : Bool) (i : Nat) (hi : i < n) (hcl : g i = 93 ∨ g i = 125) (hsk : Skip g n 0 q) (hq : q < n) (h44 : g q = 44) (hsk2 : Skip g n (q + 1) i) :
    Calls Try.prog 26 #[.pointer (some ⟨w.heap.size, 0, none⟩)] (w.alloc (.cells #[.slice (some ⟨b, 0, none⟩) n n, .bool obj, .slice a2 l2 c2, .slice a3 l3 c3] 49)) fun e w' => e = .returned (.bool false) ∧ w' = (w.alloc (.cells #[.slice (some ⟨b, i, none⟩) (n - i) (n - i), .bool obj, .slice a2 l2 c2, .slice a3 l3 c3] 49)) := by
  have HXA : Hid (∀ o, Txt (w.alloc o) b 0 n g) := fun o => ht.ext ((Ext.refl _).alloc o)
  have HSK : Hid (Skip g n 0 q) := hsk
  have HSK2 : Hid (Skip g n (q + 1) i) := hsk2
  have hle2 := hsk2.1
  have hc44 := HXA.out (.cells #[.slice (some ⟨b, q, none⟩) (n - q) (n - q), .bool obj, .slice a2 l2 c2, .slice a3 l3 c3] 49) q hq
  rw [h44, Nat.zero_add] at hc44
  have hci := HXA.out (.cells #[.slice (some ⟨b, i, none⟩) (n - i) (n - i), .bool obj, .slice a2 l2 c2, .slice a3 l3 c3] 49) i hi
  rw [Nat.zero_add] at hci
  have hni : (0 : Int) < ((n - i : Nat) : Int) := by omega
  have hnq : (0 : Int) < ((n - q : Nat) : Int) := by omega
  have hnq1 : (1 : Int) ≤ ((n - q : Nat) : Int) := by omega
  have hnq2 : ¬ n - q = 1 := by omega
  clear hsk h44 hsk2 ht
  rcases hcl with hcl | hcl
  · rw [hcl] at hci
    clear hcl
    go_enter Try.func26, Try.ntmps26
    go_wp2_with fail
    refine (trim_at (HXA.out _) hn HSK.out (by omega) (by omega) (by omega)).mono ?_
    rintro e w' ⟨rfl, hw⟩
    subst hw
    go_wp2_with fail
    refine (trim_at (HXA.out _) hn HSK2.out (by omega) (by omega) (by omega)).mono ?_
    rintro e w' ⟨rfl, hw⟩
    subst hw
    clear hc44
    go_wp2_with fail
    go_ret
    exact ⟨rfl, rfl⟩
  · rw [hcl] at hci
    clear hcl
    go_enter Try.func26, Try.ntmps26
    go_wp2_with fail
    refine (trim_at (HXA.out _) hn HSK.out (by omega) (by omega) (by omega)).mono ?_
    rintro e w' ⟨rfl, hw⟩
    subst hw
    go_wp2_with fail
    refine (trim_at (HXA.out _) hn HSK2.out (by omega) (by omega) (by omega)).mono ?_
    rintro e w' ⟨rfl, hw⟩
    subst hw
    clear hc44
    go_wp2_with fail
    go_ret
    exact ⟨rfl, rfl⟩

set_option maxRecDepth 20000 in
set_option maxHeartbeats 2000000 in
theorem next_cn (b n : Nat) (g : Nat → Int) (w : World) (a2 : Option Addr) (l2 c2 : Nat) (a3 : Option Addr) (l3 c3 : Nat) (ht : Txt w b 0 n g) (hn : n ≤ 65536) (obj : Bool) (i : Nat) (hi : i < n) (hcl : g i = 93 ∨ g i = 125) (hsk : Skip g n 0 i) (h44 : g i ≠ 44) :
    Calls Try.prog 26 #[.pointer (some ⟨w.heap.size, 0, none⟩)] (w.alloc (.cells #[.slice (some ⟨b, 0, none⟩) n n, .bool obj, .slice a2 l2 c2, .slice a3 l3 c3] 49)) fun e w' => e = .returned (.bool false) ∧ w' = (w.alloc (.cells #[.slice (some ⟨b, i, none⟩) (n - i) (n - i), .bool obj, .slice a2 l2 c2, .slice a3 l3 c3] 49)) := by
  have HXA : Hid (∀ o, Txt (w.alloc o) b 0 n g) := fun o => ht.ext ((Ext.refl _).alloc o)
  have HSK : Hid (Skip g n 0 i) := hsk
  have hb44 : (g i == 44) = false := by simpa using h44
  have hci := HXA.out (.cells #[.slice (some ⟨b, i, none⟩) (n - i) (n - i), .bool obj, .slice a2 l2 c2, .slice a3 l3 c3] 49) i hi
  rw [Nat.zero_add] at hci
  have hni : (0 : Int) < ((n - i : Nat) : Int) := by omega
  clear hsk h44 ht
  rcases hcl with hcl | hcl
  · rw [hcl] at hci
    clear hb44
    clear hcl
    go_enter Try.func26, Try.ntmps26
    go_wp2_with fail
    refine (trim_at (HXA.out _) hn HSK.out (by omega) (by omega) (by omega)).mono ?_
    rintro e w' ⟨rfl, hw⟩
    subst hw
    go_wp2_with fail
    go_ret
    exact ⟨rfl, rfl⟩
  · rw [hcl] at hci
    clear hb44
    clear hcl
    go_enter Try.func26, Try.ntmps26
    go_wp2_with fail
    refine (trim_at (HXA.out _) hn HSK.out (by omega) (by omega) (by omega)).mono ?_
    rintro e w' ⟨rfl, hw⟩
    subst hw
    go_wp2_with fail
    go_ret
    exact ⟨rfl, rfl⟩

set_option maxRecDepth 20000 in
set_option maxHeartbeats 2000000 in
theorem next_ac (b n q : Nat) (g : Nat → Int) (w : World) (a2 : Option Addr) (l2 c2 : Nat) (a3 : Option Addr) (l3 c3 : Nat) (ht : Txt w b 0 n g) (hn : n ≤ 65536) (va m : Nat) (k : Int) (hi : va < n) (hn93 : g va ≠ 93) (hn125 : g va ≠ 125) (hv : Val g n va (va + m) k) (hf : folB g n (va + m) k = true) (hsk : Skip g n 0 q) (hq : q < n) (h44 : g q = 44) (hsk2 : Skip g n (q + 1) va) :
    Calls Try.prog 26 #[.pointer (some ⟨w.heap.size, 0, none⟩)] (w.alloc (.cells #[.slice (some ⟨b, 0, none⟩) n n, .bool false, .slice a2 l2 c2, .slice a3 l3 c3] 49)) (RNext b n va m false (.slice a2 l2 c2) w) := by
  have HXA : Hid (∀ o, Txt (w.alloc o) b 0 n g) := fun o => ht.ext ((Ext.refl _).alloc o)
  have HSK : Hid (Skip g n 0 q) := hsk
  have HSK2 : Hid (Skip g n (q + 1) va) := hsk2
  have hle2 := hsk2.1
  have hc44 := HXA.out (.cells #[.slice (some ⟨b, q, none⟩) (n - q) (n - q), .bool false, .slice a2 l2 c2, .slice a3 l3 c3] 49) q hq
  rw [h44, Nat.zero_add] at hc44
  have hci := HXA.out (.cells #[.slice (some ⟨b, va, none⟩) (n - va) (n - va), .bool false, .slice a2 l2 c2, .slice a3 l3 c3] 49) va hi
  rw [Nat.zero_add] at hci
  have hni : (0 : Int) < ((n - va : Nat) : Int) := by omega
  have hnq : (0 : Int) < ((n - q : Nat) : Int) := by omega
  have hnq1 : (1 : Int) ≤ ((n - q : Nat) : Int) := by omega
  have hnq2 : ¬ n - q = 1 := by omega
  have b93 : (g va == 93) = false := by simpa using hn93
  have b125 : (g va == 125) = false := by simpa using hn125
  have HV : Hid (Val g n va (va + m) k) := hv
  have HF : Hid (folB g n (va + m) k = true) := hf
  have hvle := hv.le
  clear hn93 hn125 hv hf
  clear hsk h44 hsk2 ht
  go_enter Try.func26, Try.ntmps26
  go_wp2_with fail
  refine (trim_at (HXA.out _) hn HSK.out (by omega) (by omega) (by omega)).mono ?_
  rintro e w' ⟨rfl, hw⟩
  subst hw
  go_wp2_with fail
  refine (trim_at (HXA.out _) hn HSK2.out (by omega) (by omega) (by omega)).mono ?_
  rintro e w' ⟨rfl, hw⟩
  subst hw
  clear hc44
  go_wp2_with fail
  refine (vl_at (HXA.out _) hn HV.out HF.out (by omega) (by omega)).mono ?_
  rintro e w' ⟨rfl, hw⟩
  subst hw
  have hmn : (m : Int) ≤ ((n - va : Nat) : Int) := by omega
  clear hci
  by_cases hmv : n - va = m
  · obtain rfl : m = n - va := hmv.symm
    go_wp2_with fail
    go_region
    all_goals
      go_wp2_with fail
      go_ret
      exact ⟨va, fun _ => rfl, fun h => absurd rfl h, rfl, by simp⟩
  · go_wp2_with fail
    go_region
    all_goals
      go_wp2_with fail
      go_ret
      exact ⟨va + m, fun h => absurd h hmv, fun _ => rfl, rfl, rfl⟩

set_option maxRecDepth 20000 in
set_option maxHeartbeats 2000000 in
theorem next_an (b n : Nat) (g : Nat → Int) (w : World) (a2 : Option Addr) (l2 c2 : Nat) (a3 : Option Addr) (l3 c3 : Nat) (ht : Txt w b 0 n g) (hn : n ≤ 65536) (va m : Nat) (k : Int) (hi : va < n) (hn93 : g va ≠ 93) (hn125 : g va ≠ 125) (hv : Val g n va (va + m) k) (hf : folB g n (va + m) k = true) (hsk : Skip g n 0 va) (h44 : g va ≠ 44) :
    Calls Try.prog 26 #[.pointer (some ⟨w.heap.size, 0, none⟩)] (w.alloc (.cells #[.slice (some ⟨b, 0, none⟩) n n, .bool false, .slice a2 l2 c2, .slice a3 l3 c3] 49)) (RNext b n va m false (.slice a2 l2 c2) w) := by
  have HXA : Hid (∀ o, Txt (w.alloc o) b 0 n g) := fun o => ht.ext ((Ext.refl _).alloc o)
  have HSK : Hid (Skip g n 0 va) := hsk
  have hb44 : (g va == 44) = false := by simpa using h44
  have hci := HXA.out (.cells #[.slice (some ⟨b, va, none⟩) (n - va) (n - va), .bool false, .slice a2 l2 c2, .slice a3 l3 c3] 49) va hi
  rw [Nat.zero_add] at hci
  have hni : (0 : Int) < ((n - va : Nat) : Int) := by omega
  have b93 : (g va == 93) = false := by simpa using hn93
  have b125 : (g va == 125) = false := by simpa using hn125
  have HV : Hid (Val g n va (va + m) k) := hv
  have HF : Hid (folB g n (va + m) k = true) := hf
  have hvle := hv.le
  clear hn93 hn125 hv hf
  clear hsk h44 ht
  go_enter Try.func26, Try.ntmps26
  go_wp2_with fail
  refine (trim_at (HXA.out _) hn HSK.out (by omega) (by omega) (by omega)).mono ?_
  rintro e w' ⟨rfl, hw⟩
  subst hw
  go_wp2_with fail
  refine (vl_at (HXA.out _) hn HV.out HF.out (by omega) (by omega)).mono ?_
  rintro e w' ⟨rfl, hw⟩
  subst hw
  have hmn : (m : Int) ≤ ((n - va : Nat) : Int) := by omega
  clear hci
  by_cases hmv : n - va = m
  · obtain rfl : m = n - va := hmv.symm
    go_wp2_with fail
    go_region
    all_goals
      go_wp2_with fail
      go_ret
      exact ⟨va, fun _ => rfl, fun h => absurd rfl h, rfl, by simp⟩
  · go_wp2_with fail
    go_region
    all_goals
      go_wp2_with fail
      go_ret
      exact ⟨va + m, fun h => absurd h hmv, fun _ => rfl, rfl, rfl⟩

set_option maxRecDepth 20000 in
set_option maxHeartbeats 2000000 in
theorem next_oc (b n q : Nat) (g : Nat → Int) (w : World) (a2 : Option Addr) (l2 c2 : Nat) (a3 : Option Addr) (l3 c3 : Nat) (ht : Txt w b 0 n g) (hn : n ≤ 65536) (i m1 j va m : Nat) (k : Int) (hi : i < n) (hn93 : g i ≠ 93) (hn125 : g i ≠ 125) (hstr : Str g n i (i + m1)) (hskj : Skip g n (i + m1) j) (hj : j < n) (hskv : Skip g n (j + 1) va) (hv : Val g n va (va + m) k) (hf : folB g n (va + m) k = true) (hsk : Skip g n 0 q) (hq : q < n) (h44 : g q = 44) (hsk2 : Skip g n (q + 1) i) :
    Calls Try.prog 26 #[.pointer (some ⟨w.heap.size, 0, none⟩)] (w.alloc (.cells #[.slice (some ⟨b, 0, none⟩) n n, .bool true, .slice a2 l2 c2, .slice a3 l3 c3] 49)) (RNext b n va m true (.slice (some ⟨b, i, none⟩) m1 (n - i)) w) := by
  have HXA : Hid (∀ o, Txt (w.alloc o) b 0 n g) := fun o => ht.ext ((Ext.refl _).alloc o)
  have HSK : Hid (Skip g n 0 q) := hsk
  have HSK2 : Hid (Skip g n (q + 1) i) := hsk2
  have hle2 := hsk2.1
  have hc44 := HXA.out (.cells #[.slice (some ⟨b, q, none⟩) (n - q) (n - q), .bool true, .slice a2 l2 c2, .slice a3 l3 c3] 49) q hq
  rw [h44, Nat.zero_add] at hc44
  have hci := HXA.out (.cells #[.slice (some ⟨b, i, none⟩) (n - i) (n - i), .bool true, .slice a2 l2 c2, .slice a3 l3 c3] 49) i hi
  rw [Nat.zero_add] at hci
  have hni : (0 : Int) < ((n - i : Nat) : Int) := by omega
  have hnq : (0 : Int) < ((n - q : Nat) : Int) := by omega
  have hnq1 : (1 : Int) ≤ ((n - q : Nat) : Int) := by omega
  have hnq2 : ¬ n - q = 1 := by omega
  have b93 : (g i == 93) = false := by simpa using hn93
  have b125 : (g i == 125) = false := by simpa using hn125
  have HV : Hid (Val g n va (va + m) k) := hv
  have HF : Hid (folB g n (va + m) k = true) := hf
  have hvle := hv.le
  have HSTR : Hid (Str g n i (i + m1)) := hstr
  have HSJ : Hid (Skip g n (i + m1) j) := hskj
  have HSV : Hid (Skip g n (j + 1) va) := hskv
  have hsle := hstr.le
  have hj1 := hskj.1
  have hv1 := hskv.1
  clear hstr hskj hskv
  clear hn93 hn125 hv hf
  clear hsk h44 hsk2 ht
  go_enter Try.func26, Try.ntmps26
  go_wp2_with fail
  refine (trim_at (HXA.out _) hn HSK.out (by omega) (by omega) (by omega)).mono ?_
  rintro e w' ⟨rfl, hw⟩
  subst hw
  go_wp2_with fail
  refine (trim_at (HXA.out _) hn HSK2.out (by omega) (by omega) (by omega)).mono ?_
  rintro e w' ⟨rfl, hw⟩
  subst hw
  clear hc44
  go_wp2_with fail
  refine (vls_at (HXA.out _) hn HSTR.out (by omega) (by omega)).mono ?_
  rintro e w' ⟨rfl, hw⟩
  subst hw
  clear hci
  have hm1 : (m1 : Int) ≤ ((n - i : Nat) : Int) := by omega
  have hm1c : ¬ n - i = m1 := by omega
  go_wp2_with fail
  refine (trim_at (HXA.out _) hn HSJ.out (by omega) (by omega) (by omega)).mono ?_
  rintro e w' ⟨rfl, hw⟩
  subst hw
  have hnj1 : (1 : Int) ≤ ((n - j : Nat) : Int) := by omega
  have hnj2 : ¬ n - j = 1 := by omega
  go_wp2_with fail
  refine (trim_at (HXA.out _) hn HSV.out (by omega) (by omega) (by omega)).mono ?_
  rintro e w' ⟨rfl, hw⟩
  subst hw
  go_wp2_with fail
  refine (vl_at (HXA.out _) hn HV.out HF.out (by omega) (by omega)).mono ?_
  rintro e w' ⟨rfl, hw⟩
  subst hw
  have hmn : (m : Int) ≤ ((n - va : Nat) : Int) := by omega
  by_cases hmv : n - va = m
  · obtain rfl : m = n - va := hmv.symm
    go_wp2_with fail
    go_region
    all_goals
      go_wp2_with fail
      go_ret
      exact ⟨va, fun _ => rfl, fun h => absurd rfl h, rfl, by simp⟩
  · go_wp2_with fail
    go_region
    all_goals
      go_wp2_with fail
      go_ret
      exact ⟨va + m, fun h => absurd h hmv, fun _ => rfl, rfl, rfl⟩

set_option maxRecDepth 20000 in
set_option maxHeartbeats 2000000 in
theorem next_on (b n : Nat) (g : Nat → Int) (w : World) (a2 : Option Addr) (l2 c2 : Nat) (a3 : Option Addr) (l3 c3 : Nat) (ht : Txt w b 0 n g) (hn : n ≤ 65536) (i m1 j va m : Nat) (k : Int) (hi : i < n) (hn93 : g i ≠ 93) (hn125 : g i ≠ 125) (hstr : Str g n i (i + m1)) (hskj : Skip g n (i + m1) j) (hj : j < n) (hskv : Skip g n (j + 1) va) (hv : Val g n va (va + m) k) (hf : folB g n (va + m) k = true) (hsk : Skip g n 0 i) (h44 : g i ≠ 44) :
    Calls Try.prog 26 #[.pointer (some ⟨w.heap.size, 0, none⟩)] (w.alloc (.cells #[.slice (some ⟨b, 0, none⟩) n n, .bool true, .slice a2 l2 c2, .slice a3 l3 c3] 49)) (RNext b n va m true (.slice (some ⟨b, i, none⟩) m1 (n - i)) w) := by
  have HXA : Hid (∀ o, Txt (w.alloc o) b 0 n g) := fun o => ht.ext ((Ext.refl _).alloc o)
  have HSK : Hid (Skip g n 0 i) := hsk
  have hb44 : (g i == 44) = false := by simpa using h44
  have hci := HXA.out (.cells #[.slice (some ⟨b, i, none⟩) (n - i) (n - i), .bool true, .slice a2 l2 c2, .slice a3 l3 c3] 49) i hi
  rw [Nat.zero_add] at hci
  have hni : (0 : Int) < ((n - i : Nat) : Int) := by omega
  have b93 : (g i == 93) = false := by simpa using hn93
  have b125 : (g i == 125) = false := by simpa using hn125
  have HV : Hid (Val g n va (va + m) k) := hv
  have HF : Hid (folB g n (va + m) k = true) := hf
  have hvle := hv.le
  have HSTR : Hid (Str g n i (i + m1)) := hstr
  have HSJ : Hid (Skip g n (i + m1) j) := hskj
  have HSV : Hid (Skip g n (j + 1) va) := hskv
  have hsle := hstr.le
  have hj1 := hskj.1
  have hv1 := hskv.1
  clear hstr hskj hskv
  clear hn93 hn125 hv hf
  clear hsk h44 ht
  go_enter Try.func26, Try.ntmps26
  go_wp2_with fail
  refine (trim_at (HXA.out _) hn HSK.out (by omega) (by omega) (by omega)).mono ?_
  rintro e w' ⟨rfl, hw⟩
  subst hw
  go_wp2_with fail
  refine (vls_at (HXA.out _) hn HSTR.out (by omega) (by omega)).mono ?_
  rintro e w' ⟨rfl, hw⟩
  subst hw
  clear hci
  have hm1 : (m1 : Int) ≤ ((n - i : Nat) : Int) := by omega
  have hm1c : ¬ n - i = m1 := by omega
  go_wp2_with fail
  refine (trim_at (HXA.out _) hn HSJ.out (by omega) (by omega) (by omega)).mono ?_
  rintro e w' ⟨rfl, hw⟩
  subst hw
  have hnj1 : (1 : Int) ≤ ((n - j : Nat) : Int) := by omega
  have hnj2 : ¬ n - j = 1 := by omega
  go_wp2_with fail
  refine (trim_at (HXA.out _) hn HSV.out (by omega) (by omega) (by omega)).mono ?_
  rintro e w' ⟨rfl, hw⟩
  subst hw
  go_wp2_with fail
  refine (vl_at (HXA.out _) hn HV.out HF.out (by omega) (by omega)).mono ?_
  rintro e w' ⟨rfl, hw⟩
  subst hw
  have hmn : (m : Int) ≤ ((n - va : Nat) : Int) := by omega
  by_cases hmv : n - va = m
  · obtain rfl : m = n - va := hmv.symm
    go_wp2_with fail
    go_region
    all_goals
      go_wp2_with fail
      go_ret
      exact ⟨va, fun _ => rfl, fun h => absurd rfl h, rfl, by simp⟩
  · go_wp2_with fail
    go_region
    all_goals
      go_wp2_with fail
      go_ret
      exact ⟨va + m, fun h => absurd h hmv, fun _ => rfl, rfl, rfl⟩

end Go.Proofs.Qxb6602274a

/-
  THE WALKS of valueLen (24) at scalars and containers; ZZvalueLen (10); mClone (9).
-/
import Derived.Test.Qxb6602274aLen
import Derived.Test.Qxb6602274aSub
namespace Go.Proofs.Qxb6602274a
open Go.RowKit Js

theorem Txt.sub {w : World} {b off n : Nat} {g : Nat → Int} (h : Txt w b off n g) (p : Nat) : Txt w b (off + p) (n - p) (Js.sub g p) := by
  intro j hj
  have := h (p + j) (by omega)
  rw [show off + p + j = off + (p + j) by omega]
  exact this

/-- .. of a number or a word. -/
theorem vl_scal (b off n cap : Nat) (g : Nat → Int) (e : Nat) (w : World) (ht : Txt w b off n g) (hn : n ≤ 65536) (h : Scal g n 0 e) (he : EndsAt g n e) :
    Calls Try.prog 24 #[.slice (some ⟨b, off, none⟩) n cap] w fun E w' => E = .returned (.int .i64 e) ∧ w' = w := by
  obtain ⟨h0, hen, hdel⟩ := h
  have hc0 := ht 0 (by omega)
  simp only [Nat.add_zero] at hc0
  have hd0 := hdel 0 (Nat.le_refl _) h0
  have HD : Hid (∀ j, 0 ≤ j → j < e → delB (g j) = false) := hdel
  have HE : Hid (EndsAt g n e) := he
  clear hdel he
  have hn34 : (g 0 == 34) = false := by
    unfold delB at hd0; simp only [Bool.or_eq_false_iff] at hd0; exact hd0.1.1.2
  have hn91 : (g 0 == 91) = false := by
    unfold delB at hd0; simp only [Bool.or_eq_false_iff] at hd0; exact hd0.1.2
  have hn123 : (g 0 == 123) = false := by
    unfold delB at hd0; simp only [Bool.or_eq_false_iff] at hd0; exact hd0.2
  clear hd0
  go_enter Try.func24, Try.ntmps24
  go_wp2_with fail
  go_loopg [6] (n - 1) (fun gk i wr => ∃ k : Nat, i = .int .i64 k ∧ gk = n - k ∧ 1 ≤ k ∧ k ≤ e ∧ w = wr)
  case atStart => exact ⟨1, rfl, rfl, by omega, by omega, rfl⟩
  case round =>
    obtain ⟨k, rfl, rfl, hk1, hke, rfl⟩ := hrel
    clear hc0
    by_cases hlt : k < e
    · have hc := ht k (by omega)
      have hd := HD.out k (by omega) hlt
      obtain ⟨c, HC⟩ : ∃ c, Hid (c = g k) := ⟨_, rfl⟩
      rw [← HC.out] at hc hd
      unfold delB at hd
      simp only [Bool.or_eq_false_iff] at hd
      obtain ⟨⟨⟨⟨⟨⟨hws, h44⟩, h93⟩, h125⟩, _⟩, _⟩, _⟩ := hd
      have hltn : k < n := by omega
      have b44 : (c != 44) = true := by rw [bne, h44]; rfl
      have b93 : (c != 93) = true := by rw [bne, h93]; rfl
      have b125 : (c != 125) = true := by rw [bne, h125]; rfl
      clear h44 h93 h125
      go_wp2_with (go_at_call 29; refine (isSpace_any _ _).mono ?_; rintro e w' ⟨rfl, rfl⟩)
      go_roundg (n - (k + 1))
      case rel => exact ⟨k + 1, by go_num, rfl, by omega, by omega, rfl⟩
      case measure => omega
    · obtain rfl : k = e := by omega
      by_cases hkn : k < n
      · have hc := ht k hkn
        obtain ⟨c, HC⟩ : ∃ c, Hid (c = g k) := ⟨_, rfl⟩
        rw [← HC.out] at hc
        by_cases hws : wsB c = true
        · go_wp2_with (go_at_call 29; refine (isSpace_any _ _).mono ?_; rintro e w' ⟨rfl, rfl⟩)
          go_ret
          exact ⟨rfl, rfl⟩
        · have hws' : wsB c = false := by simpa using hws
          clear hws
          have h3 : c = 44 ∨ c = 93 ∨ c = 125 := by
            rcases HE.out with h | h | h | h | h
            · omega
            · rw [← HC.out, hws'] at h; cases h
            · rw [← HC.out] at h; exact Or.inl h
            · rw [← HC.out] at h; exact Or.inr (Or.inl h)
            · rw [← HC.out] at h; exact Or.inr (Or.inr h)
          rcases h3 with rfl | rfl | rfl
          all_goals
            go_wp2_with (go_at_call 29; refine (isSpace_any _ _).mono ?_; rintro e w' ⟨rfl, rfl⟩)
            go_ret
            exact ⟨rfl, rfl⟩
      · go_wp2_with fail
        go_ret
        exact ⟨rfl, rfl⟩

set_option maxHeartbeats 1000000 in
/-- .. of an array or an object. -/
theorem vl_cont (b off n cap : Nat) (g : Nat → Int) (e : Nat) (w : World) (ht : Txt w b off n g) (hn : n ≤ 65536) (hcap : n ≤ cap) (h : Cont g n 0 e) :
    Calls Try.prog 24 #[.slice (some ⟨b, off, none⟩) n cap] w fun E w' => E = .returned (.int .i64 e) ∧ w' = w := by
  obtain ⟨h0, hopen, he2, hen, hclose, k0, hr⟩ := h
  have hc0 := ht 0 h0
  simp only [Nat.add_zero] at hc0
  obtain ⟨c0, HC0⟩ : ∃ c, Hid (c = g 0) := ⟨_, rfl⟩
  rw [← HC0.out] at hc0 hopen
  have HR : Hid (RK g n k0 (0, 0) (e - 1, 1)) := hr
  have HCL : Hid (g (e - 1) = 93 ∨ g (e - 1) = 125) := hclose
  clear hr hclose
  have hd0 : (c0 == 34) = false := by rcases hopen with rfl | rfl <;> rfl
  rcases hopen with rfl | rfl
  all_goals
    go_enter Try.func24, Try.ntmps24
    go_wp2_with fail
    go_loopg [4, 5] k0 (fun gk dd i wr => ∃ d k : Nat, dd = .int .i64 d ∧ i = .int .i64 k ∧ d ≤ k ∧ Hid (RK g n gk (k, d) (e - 1, 1)) ∧ w = wr)
    case atStart => exact ⟨0, 0, rfl, rfl, Nat.le_refl _, HR, rfl⟩
    case round =>
      obtain ⟨d, k, rfl, rfl, hdk, hk, rfl⟩ := hrel
      clear hc0 HC0 hd0
      have hle := hk.out.fst_le
      simp only at hle
      have hc := ht k (by omega)
      cases gk with
      | zero =>
        have hh : (k, d) = (e - 1, 1) := hk.out
        obtain ⟨hk1, rfl⟩ := Prod.mk.inj hh
        have hcl : g k = 93 ∨ g k = 125 := by rw [hk1]; exact HCL.out
        have HK : Hid (k = e - 1) := hk1
        clear hh hk hk1
        rcases hcl with hcl | hcl
        · rw [hcl] at hc; clear hcl
          go_wp2_with fail
          go_ret
          exact ⟨ret_int (by have := HK.out; omega), rfl⟩
        · rw [hcl] at hc; clear hcl
          go_wp2_with fail
          go_ret
          exact ⟨ret_int (by have := HK.out; omega), rfl⟩
      | succ m =>
        obtain ⟨⟨k2, d2⟩, hs, hrest⟩ := hk.out
        have HREST : Hid (RK g n m (k2, d2) (e - 1, 1)) := hrest
        have hle2 := hrest.fst_le
        simp only at hle2
        clear hk hrest
        obtain ⟨hkn, hs⟩ := hs
        simp only at hkn hs
        rcases hs with ⟨h34, hstr, rfl⟩ | ⟨hop, rfl, rfl⟩ | ⟨hcl, rfl, hd1, rfl⟩ | ⟨n1, n2, n3, n4, n5, rfl, rfl⟩
        · rw [h34] at hc; clear h34
          have hsl := hstr.le
          have hstr' := hstr.sub
          obtain ⟨l, rfl⟩ : ∃ l, k2 = k + l := ⟨k2 - k, by omega⟩
          rw [show k + l - k = l by omega] at hstr'
          have hcall := vl_str b (off + k) (n - k) (cap - k) (Js.sub g k) l w (ht.sub k) (by omega) hstr'
          have hck : ¬ cap = k := by omega
          clear hstr hstr'
          go_wp2_with (go_at_call 24; refine hcall.mono ?_; rintro e w' ⟨rfl, rfl⟩)
          go_roundg m
          case rel => exact ⟨d2, k + l, rfl, by go_num, by omega, HREST, rfl⟩
          case measure => omega
        · rcases hop with hop | hop
          all_goals
            rw [hop] at hc; clear hop
            go_wp2_with fail
            go_roundg m
            case rel => exact ⟨d + 1, k + 1, by go_num, by go_num, by omega, HREST, rfl⟩
            case measure => omega
        · have hne : (((d2 : Int)) == 0) = false := by simp only [beq_eq_false_iff_ne]; omega
          rcases hcl with hcl | hcl
          all_goals
            rw [hcl] at hc; clear hcl
            go_wp2_with fail
            go_roundg m
            case rel => exact ⟨d2, k + 1, by go_num, by go_num, by omega, HREST, rfl⟩
            case measure => omega
        · have m1 : (g k == 34) = false := by simpa using n1
          have m2 : (g k == 123) = false := by simpa using n2
          have m3 : (g k == 91) = false := by simpa using n3
          have m4 : (g k == 125) = false := by simpa using n4
          have m5 : (g k == 93) = false := by simpa using n5
          clear n1 n2 n3 n4 n5
          go_wp2_with fail
          go_roundg m
          case rel => exact ⟨d2, k + 1, rfl, by go_num, by omega, HREST, rfl⟩
          case measure => omega

end Go.Proofs.Qxb6602274a

/-
  THE WALKS of mParseValue (7), by induction on what is left of the text; and of mClone (9).
-/
import Derived.Test.Qxb6602274aCont
import Derived.Test.Qxb6602274aLen2
namespace Go.Proofs.Qxb6602274a
open Go.RowKit Js

theorem rval_no {g : Nat → Int} {n p : Nat} {w w' : World} (h : Ext w w') : RVal g n p w (.returned (.tuple #[.int .i64 0, .int .i64 0, .bool false])) w' :=
  ⟨0, 0, false, rfl, fun h => (by cases h), h⟩
theorem rval_mk {g : Nat → Int} {n p q : Nat} {k : Int} {ok : Bool} {w w' : World} (h : ok = true → Val g n p q k) (hb : Ext w w') : RVal g n p w (.returned (.tuple #[.int .i64 q, .int .i64 k, .bool ok])) w' :=
  ⟨q, k, ok, rfl, h, hb⟩

theorem del_true : ∀ j (h : j < (ByteArray.mk #[116, 114, 117, 101]).size), delB ((ByteArray.mk #[116, 114, 117, 101])[j].toNat : Int) = false := by decide
theorem del_false : ∀ j (h : j < (ByteArray.mk #[102, 97, 108, 115, 101]).size), delB ((ByteArray.mk #[102, 97, 108, 115, 101])[j].toNat : Int) = false := by decide
theorem del_null : ∀ j (h : j < (ByteArray.mk #[110, 117, 108, 108]).size), delB ((ByteArray.mk #[110, 117, 108, 108])[j].toNat : Int) = false := by decide

set_option maxRecDepth 20000 in
set_option maxHeartbeats 1000000 in
theorem val_any (b off n cap : Nat) (g : Nat → Int) (hn : n ≤ 65536) (m : Nat) : ∀ p, n - p ≤ m → p ≤ n → ∀ w, Txt w b off n g →
    Calls Try.prog 7 #[.slice (some ⟨b, off, none⟩) n cap, .int .i64 (p : Nat)] w (RVal g n p w) := by
  induction m with
  | zero =>
    intro p hm hp w ht
    have hpn : ¬ (p : Int) < (n : Int) := by omega
    go_enter Try.func7, Try.ntmps7
    go_wp2_with fail
    go_ret3
    exact rval_no (Ext.refl _)
  | succ m ih =>
    intro p hm hp w ht
    by_cases hlt : p < n
    · have hc := ht p hlt
      obtain ⟨c, HC⟩ : ∃ c, Hid (c = g p) := ⟨_, rfl⟩
      rw [← HC.out] at hc
      have IH : Hid (∀ p', p < p' → p' ≤ n → ∀ w', Txt w' b off n g → Calls Try.prog 7 #[.slice (some ⟨b, off, none⟩) n cap, .int .i64 (p' : Nat)] w' (RVal g n p' w')) :=
        fun p' h1 h2 w' h3 => ih p' (by omega) h2 w' h3
      clear ih
      by_cases h34 : c = 34
      · subst h34
        go_enter Try.func7, Try.ntmps7
        go_wp2_with (go_at_call 19; refine (pstr_any b off n cap p g _ ht hp hn).mono ?_; rintro e w' ⟨q, ok, rfl, hs, hw⟩; subst hw)
        go_ret3
        exact rval_mk (fun h => Or.inl ⟨rfl, hs h⟩) (Ext.refl _)
      have b34 : (c == 34) = false := by simpa using h34
      by_cases h91 : c = 91
      · subst h91
        clear b34 h34
        go_enter Try.func7, Try.ntmps7
        go_wp2_with (go_at_call 16; refine (cont_arr b off n cap p g _ ht hn hlt HC.out.symm IH.out).mono ?_; rintro e w' ⟨cl, q, ok, rfl, hs, hx⟩)
        go_ret3
        exact rval_mk (fun h => Or.inr (Or.inl ⟨Or.inl rfl, hs h⟩)) hx
      have b91 : (c == 91) = false := by simpa using h91
      by_cases h123 : c = 123
      · subst h123
        clear b34 h34 b91 h91
        go_enter Try.func7, Try.ntmps7
        go_wp2_with (go_at_call 16; refine (cont_obj b off n cap p g _ ht hn hlt HC.out.symm IH.out).mono ?_; rintro e w' ⟨cl, q, ok, rfl, hs, hx⟩)
        go_ret3
        exact rval_mk (fun h => Or.inr (Or.inl ⟨Or.inr rfl, hs h⟩)) hx
      have b123 : (c == 123) = false := by simpa using h123
      by_cases h116 : c = 116
      · subst h116
        clear b34 h34 b91 h91 b123 h123
        go_enter Try.func7, Try.ntmps7
        go_wp2_with (go_at_call 20; refine (word_any b off n cap p g _ ht hp hn _ (by decide) (by decide) del_true).mono ?_; rintro e w' ⟨q, ok, rfl, hs, hx⟩)
        go_ret3
        exact rval_mk (fun h => Or.inr (Or.inr ⟨Or.inr (Or.inl rfl), hs h⟩)) hx
      have b116 : (c == 116) = false := by simpa using h116
      by_cases h102 : c = 102
      · subst h102
        clear b34 h34 b91 h91 b123 h123 b116 h116
        go_enter Try.func7, Try.ntmps7
        go_wp2_with (go_at_call 20; refine (word_any b off n cap p g _ ht hp hn _ (by decide) (by decide) del_false).mono ?_; rintro e w' ⟨q, ok, rfl, hs, hx⟩)
        go_ret3
        exact rval_mk (fun h => Or.inr (Or.inr ⟨Or.inr (Or.inl rfl), hs h⟩)) hx
      have b102 : (c == 102) = false := by simpa using h102
      by_cases h110 : c = 110
      · subst h110
        clear b34 h34 b91 h91 b123 h123 b116 h116 b102 h102
        go_enter Try.func7, Try.ntmps7
        go_wp2_with (go_at_call 20; refine (word_any b off n cap p g _ ht hp hn _ (by decide) (by decide) del_null).mono ?_; rintro e w' ⟨q, ok, rfl, hs, hx⟩)
        go_ret3
        exact rval_mk (fun h => Or.inr (Or.inr ⟨Or.inl rfl, hs h⟩)) hx
      have b110 : (c == 110) = false := by simpa using h110
      clear h34 h91 h123 h116 h102 h110
      by_cases h45 : c = 45
      · subst h45
        clear b34 b91 b123 b116 b102 b110
        go_enter Try.func7, Try.ntmps7
        go_wp2_with (go_at_call 22; refine (num_any b off n cap p g _ ht hlt hn).mono ?_; rintro e w' ⟨q, ok, rfl, hs, hx⟩)
        go_ret3
        exact rval_mk (fun h => Or.inr (Or.inr ⟨Or.inr (Or.inr rfl), hs h⟩)) hx
      have b45 : (c == 45) = false := by simpa using h45
      clear h45
      by_cases hd : digB c = true
      · go_enter Try.func7, Try.ntmps7
        go_wp2_with (first | (go_at_call 21; refine (isDigit_any _ _).mono ?_; rintro e w' ⟨rfl, hw⟩; subst hw) | (go_at_call 22; refine (num_any b off n cap p g _ ht hlt hn).mono ?_; rintro e w' ⟨q, ok, rfl, hs, hx⟩))
        go_ret3
        exact rval_mk (fun h => Or.inr (Or.inr ⟨Or.inr (Or.inr rfl), hs h⟩)) hx
      · have hd' : digB c = false := by simpa using hd
        clear hd
        go_enter Try.func7, Try.ntmps7
        go_wp2_with (go_at_call 21; refine (isDigit_any _ _).mono ?_; rintro e w' ⟨rfl, hw⟩; subst hw)
        go_ret3
        exact rval_no (Ext.refl _)
    · have hpn : ¬ (p : Int) < (n : Int) := by omega
      clear ih
      go_enter Try.func7, Try.ntmps7
      go_wp2_with fail
      go_ret3
      exact rval_no (Ext.refl _)

end Go.Proofs.Qxb6602274a

/-
  THE WALKS of classRanges (14), and of addClass (34) at a name that is no kind. (Typed by a small program.)
-/
import Derived.Test.Qxb6602360aZzAll
namespace Go.Proofs.Qxb6602360a
open Go.RowKit Cl
set_option linter.unusedVariables false

/-- No kind bears this name. -/
def NoClass (name : ByteArray) : Prop :=
  (name.toList == [97, 108, 110, 117, 109]) = false ∧ (name.toList == [97, 108, 112, 104, 97]) = false ∧ (name.toList == [98, 108, 97, 110, 107]) = false ∧ (name.toList == [99, 110, 116, 114, 108]) = false ∧ (name.toList == [100, 105, 103, 105, 116]) = false ∧ (name.toList == [103, 114, 97, 112, 104]) = false ∧ (name.toList == [108, 111, 119, 101, 114]) = false ∧ (name.toList == [112, 114, 105, 110, 116]) = false ∧ (name.toList == [112, 117, 110, 99, 116]) = false ∧ (name.toList == [115, 112, 97, 99, 101]) = false ∧ (name.toList == [117, 112, 112, 101, 114]) = false ∧ (name.toList == [120, 100, 105, 103, 105, 116]) = false

theorem cr_alnum (w : World) : Calls Try.prog 14 #[.string (ByteArray.mk #[97, 108, 110, 117, 109])] w fun e w' => e = .returned (.tuple #[.string (ByteArray.mk #[48, 57, 65, 90, 97, 122]), .bool true]) ∧ w' = w := by
  go_enter Try.func14, Try.ntmps14
  go_wp2_with fail
  go_ret2
  exact ⟨rfl, rfl⟩
theorem cr_alpha (w : World) : Calls Try.prog 14 #[.string (ByteArray.mk #[97, 108, 112, 104, 97])] w fun e w' => e = .returned (.tuple #[.string (ByteArray.mk #[65, 90, 97, 122]), .bool true]) ∧ w' = w := by
  go_enter Try.func14, Try.ntmps14
  go_wp2_with fail
  go_ret2
  exact ⟨rfl, rfl⟩
theorem cr_blank (w : World) : Calls Try.prog 14 #[.string (ByteArray.mk #[98, 108, 97, 110, 107])] w fun e w' => e = .returned (.tuple #[.string (ByteArray.mk #[9, 9, 32, 32]), .bool true]) ∧ w' = w := by
  go_enter Try.func14, Try.ntmps14
  go_wp2_with fail
  go_ret2
  exact ⟨rfl, rfl⟩
theorem cr_cntrl (w : World) : Calls Try.prog 14 #[.string (ByteArray.mk #[99, 110, 116, 114, 108])] w fun e w' => e = .returned (.tuple #[.string (ByteArray.mk #[0, 31, 127, 127]), .bool true]) ∧ w' = w := by
  go_enter Try.func14, Try.ntmps14
  go_wp2_with fail
  go_ret2
  exact ⟨rfl, rfl⟩
theorem cr_digit (w : World) : Calls Try.prog 14 #[.string (ByteArray.mk #[100, 105, 103, 105, 116])] w fun e w' => e = .returned (.tuple #[.string (ByteArray.mk #[48, 57]), .bool true]) ∧ w' = w := by
  go_enter Try.func14, Try.ntmps14
  go_wp2_with fail
  go_ret2
  exact ⟨rfl, rfl⟩
theorem cr_graph (w : World) : Calls Try.prog 14 #[.string (ByteArray.mk #[103, 114, 97, 112, 104])] w fun e w' => e = .returned (.tuple #[.string (ByteArray.mk #[33, 126]), .bool true]) ∧ w' = w := by
  go_enter Try.func14, Try.ntmps14
  go_wp2_with fail
  go_ret2
  exact ⟨rfl, rfl⟩
theorem cr_lower (w : World) : Calls Try.prog 14 #[.string (ByteArray.mk #[108, 111, 119, 101, 114])] w fun e w' => e = .returned (.tuple #[.string (ByteArray.mk #[97, 122]), .bool true]) ∧ w' = w := by
  go_enter Try.func14, Try.ntmps14
  go_wp2_with fail
  go_ret2
  exact ⟨rfl, rfl⟩
theorem cr_print (w : World) : Calls Try.prog 14 #[.string (ByteArray.mk #[112, 114, 105, 110, 116])] w fun e w' => e = .returned (.tuple #[.string (ByteArray.mk #[32, 126]), .bool true]) ∧ w' = w := by
  go_enter Try.func14, Try.ntmps14
  go_wp2_with fail
  go_ret2
  exact ⟨rfl, rfl⟩
theorem cr_punct (w : World) : Calls Try.prog 14 #[.string (ByteArray.mk #[112, 117, 110, 99, 116])] w fun e w' => e = .returned (.tuple #[.string (ByteArray.mk #[33, 47, 58, 64, 91, 96, 123, 126]), .bool true]) ∧ w' = w := by
  go_enter Try.func14, Try.ntmps14
  go_wp2_with fail
  go_ret2
  exact ⟨rfl, rfl⟩
theorem cr_space (w : World) : Calls Try.prog 14 #[.string (ByteArray.mk #[115, 112, 97, 99, 101])] w fun e w' => e = .returned (.tuple #[.string (ByteArray.mk #[9, 10, 13, 13, 32, 32]), .bool true]) ∧ w' = w := by
  go_enter Try.func14, Try.ntmps14
  go_wp2_with fail
  go_ret2
  exact ⟨rfl, rfl⟩
theorem cr_upper (w : World) : Calls Try.prog 14 #[.string (ByteArray.mk #[117, 112, 112, 101, 114])] w fun e w' => e = .returned (.tuple #[.string (ByteArray.mk #[65, 90]), .bool true]) ∧ w' = w := by
  go_enter Try.func14, Try.ntmps14
  go_wp2_with fail
  go_ret2
  exact ⟨rfl, rfl⟩
theorem cr_xdigit (w : World) : Calls Try.prog 14 #[.string (ByteArray.mk #[120, 100, 105, 103, 105, 116])] w fun e w' => e = .returned (.tuple #[.string (ByteArray.mk #[48, 57, 65, 70, 97, 102]), .bool true]) ∧ w' = w := by
  go_enter Try.func14, Try.ntmps14
  go_wp2_with fail
  go_ret2
  exact ⟨rfl, rfl⟩

theorem cr_none (name : ByteArray) (h : NoClass name) (w : World) : Calls Try.prog 14 #[.string name] w fun e w' => e = .returned (.tuple #[.string (ByteArray.mk #[]), .bool false]) ∧ w' = w := by
  obtain ⟨h1, h2, h3, h4, h5, h6, h7, h8, h9, h10, h11, h12⟩ := h
  go_enter Try.func14, Try.ntmps14
  go_wp2_with fail
  go_ret2
  exact ⟨rfl, rfl⟩

theorem cls_none (name : ByteArray) (h : NoClass name) (D x0 x1 x2 x3 : Nat) (w : World) (hs : SetAt w D x0 x1 x2 x3) :
    Calls Try.prog 34 #[.pointer (some ⟨D, 0, none⟩), .string name] w fun e w' => e = .returned (.bool false) ∧ SetAt w' D x0 x1 x2 x3 ∧ Below D w w' := by
  obtain ⟨h1, h2, h3, h4, h5, h6, h7, h8, h9, h10, h11, h12⟩ := h
  have HS : Hid (SetAt w D x0 x1 x2 x3) := hs
  clear hs
  go_enter Try.func34, Try.ntmps34
  go_wp2_with fail
  go_ret
  exact ⟨rfl, HS.out, Below.refl _ _⟩

theorem z_none (name : ByteArray) (h : NoClass name) (x0 x1 x2 x3 : Nat) (w : World) :
    Calls Try.prog 13 #[.agg #[.int .u64 x0, .int .u64 x1, .int .u64 x2, .int .u64 x3], .string name] w (RZz x0 x1 x2 x3 false w) :=
  zz_of _ x0 x1 x2 x3 _ _ _ _ false w (cls_none name h (w.heap.size + 2) x0 x1 x2 x3 (W3 w x0 x1 x2 x3) (setAt_W3 w x0 x1 x2 x3))

theorem toList_inj {a b : ByteArray} (h : (a.toList == b.data.toList) = true) : a = b := by
  rw [ByteArray.toList_eq, beq_iff_eq] at h
  cases a; cases b
  simp only at h
  rw [Array.toList_inj.1 h]

/-- Which kind, or none. -/
theorem which (name : ByteArray) : name = (ByteArray.mk #[97, 108, 110, 117, 109]) ∨ name = (ByteArray.mk #[97, 108, 112, 104, 97]) ∨ name = (ByteArray.mk #[98, 108, 97, 110, 107]) ∨ name = (ByteArray.mk #[99, 110, 116, 114, 108]) ∨ name = (ByteArray.mk #[100, 105, 103, 105, 116]) ∨ name = (ByteArray.mk #[103, 114, 97, 112, 104]) ∨ name = (ByteArray.mk #[108, 111, 119, 101, 114]) ∨ name = (ByteArray.mk #[112, 114, 105, 110, 116]) ∨ name = (ByteArray.mk #[112, 117, 110, 99, 116]) ∨ name = (ByteArray.mk #[115, 112, 97, 99, 101]) ∨ name = (ByteArray.mk #[117, 112, 112, 101, 114]) ∨ name = (ByteArray.mk #[120, 100, 105, 103, 105, 116]) ∨ NoClass name := by
  by_cases h : (name.toList == [97, 108, 110, 117, 109]) = true
  · exact Or.inl (toList_inj (b := (ByteArray.mk #[97, 108, 110, 117, 109])) h)
  have h1 : (name.toList == [97, 108, 110, 117, 109]) = false := by simpa using h
  clear h
  by_cases h : (name.toList == [97, 108, 112, 104, 97]) = true
  · exact Or.inr (Or.inl (toList_inj (b := (ByteArray.mk #[97, 108, 112, 104, 97])) h))
  have h2 : (name.toList == [97, 108, 112, 104, 97]) = false := by simpa using h
  clear h
  by_cases h : (name.toList == [98, 108, 97, 110, 107]) = true
  · exact Or.inr (Or.inr (Or.inl (toList_inj (b := (ByteArray.mk #[98, 108, 97, 110, 107])) h)))
  have h3 : (name.toList == [98, 108, 97, 110, 107]) = false := by simpa using h
  clear h
  by_cases h : (name.toList == [99, 110, 116, 114, 108]) = true
  · exact Or.inr (Or.inr (Or.inr (Or.inl (toList_inj (b := (ByteArray.mk #[99, 110, 116, 114, 108])) h))))
  have h4 : (name.toList == [99, 110, 116, 114, 108]) = false := by simpa using h
  clear h
  by_cases h : (name.toList == [100, 105, 103, 105, 116]) = true
  · exact Or.inr (Or.inr (Or.inr (Or.inr (Or.inl (toList_inj (b := (ByteArray.mk #[100, 105, 103, 105, 116])) h)))))
  have h5 : (name.toList == [100, 105, 103, 105, 116]) = false := by simpa using h
  clear h
  by_cases h : (name.toList == [103, 114, 97, 112, 104]) = true
  · exact Or.inr (Or.inr (Or.inr (Or.inr (Or.inr (Or.inl (toList_inj (b := (ByteArray.mk #[103, 114, 97, 112, 104])) h))))))
  have h6 : (name.toList == [103, 114, 97, 112, 104]) = false := by simpa using h
  clear h
  by_cases h : (name.toList == [108, 111, 119, 101, 114]) = true
  · exact Or.inr (Or.inr (Or.inr (Or.inr (Or.inr (Or.inr (Or.inl (toList_inj (b := (ByteArray.mk #[108, 111, 119, 101, 114])) h)))))))
  have h7 : (name.toList == [108, 111, 119, 101, 114]) = false := by simpa using h
  clear h
  by_cases h : (name.toList == [112, 114, 105, 110, 116]) = true
  · exact Or.inr (Or.inr (Or.inr (Or.inr (Or.inr (Or.inr (Or.inr (Or.inl (toList_inj (b := (ByteArray.mk #[112, 114, 105, 110, 116])) h))))))))
  have h8 : (name.toList == [112, 114, 105, 110, 116]) = false := by simpa using h
  clear h
  by_cases h : (name.toList == [112, 117, 110, 99, 116]) = true
  · exact Or.inr (Or.inr (Or.inr (Or.inr (Or.inr (Or.inr (Or.inr (Or.inr (Or.inl (toList_inj (b := (ByteArray.mk #[112, 117, 110, 99, 116])) h)))))))))
  have h9 : (name.toList == [112, 117, 110, 99, 116]) = false := by simpa using h
  clear h
  by_cases h : (name.toList == [115, 112, 97, 99, 101]) = true
  · exact Or.inr (Or.inr (Or.inr (Or.inr (Or.inr (Or.inr (Or.inr (Or.inr (Or.inr (Or.inl (toList_inj (b := (ByteArray.mk #[115, 112, 97, 99, 101])) h))))))))))
  have h10 : (name.toList == [115, 112, 97, 99, 101]) = false := by simpa using h
  clear h
  by_cases h : (name.toList == [117, 112, 112, 101, 114]) = true
  · exact Or.inr (Or.inr (Or.inr (Or.inr (Or.inr (Or.inr (Or.inr (Or.inr (Or.inr (Or.inr (Or.inl (toList_inj (b := (ByteArray.mk #[117, 112, 112, 101, 114])) h)))))))))))
  have h11 : (name.toList == [117, 112, 112, 101, 114]) = false := by simpa using h
  clear h
  by_cases h : (name.toList == [120, 100, 105, 103, 105, 116]) = true
  · exact Or.inr (Or.inr (Or.inr (Or.inr (Or.inr (Or.inr (Or.inr (Or.inr (Or.inr (Or.inr (Or.inr (Or.inl (toList_inj (b := (ByteArray.mk #[120, 100, 105, 103, 105, 116])) h))))))))))))
  have h12 : (name.toList == [120, 100, 105, 103, 105, 116]) = false := by simpa using h
  clear h
  exact Or.inr (Or.inr (Or.inr (Or.inr (Or.inr (Or.inr (Or.inr (Or.inr (Or.inr (Or.inr (Or.inr (Or.inr (⟨h1, h2, h3, h4, h5, h6, h7, h8, h9, h10, h11, h12⟩))))))))))))

end Go.Proofs.Qxb6602360a

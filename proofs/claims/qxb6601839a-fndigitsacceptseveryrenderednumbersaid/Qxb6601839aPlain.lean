/-
  PLAIN FACTS ON DIGITS: no Go in sight. For the seat's two laws on 'number.Digits'.
-/
namespace Go.Proofs.Qxb6601839a.Dig

/-- An ASCII digit. -/
def isD (c : UInt8) : Bool := decide (48 ≤ c.toNat) && decide (c.toNat ≤ 57)
/-- One or more ASCII digits. -/
def digB (l : List UInt8) : Bool := !l.isEmpty && l.all isD
/-- How many of them are digits. -/
def cnt (l : List UInt8) : Nat := (l.filter isD).length

theorem cnt_le (l : List UInt8) : cnt l ≤ l.length := List.length_filter_le _ _

theorem cnt_snoc (l : List UInt8) (c : UInt8) : cnt (l ++ [c]) = cnt l + (if isD c = true then 1 else 0) := by
  unfold cnt
  rw [List.filter_append]
  by_cases h : isD c = true <;> simp [h]

theorem cnt_all (l : List UInt8) : (cnt l = l.length) ↔ l.all isD = true := by
  unfold cnt
  rw [List.length_filter_eq_length_iff, List.all_eq_true]

theorem digB_cnt (l : List UInt8) : digB l = (decide (0 < l.length) && decide (cnt l = l.length)) := by
  unfold digB
  have h1 : (!l.isEmpty) = decide (0 < l.length) := by cases l <;> simp
  have h2 : l.all isD = decide (cnt l = l.length) := by
    rw [Bool.eq_iff_iff]; simp only [decide_eq_true_eq]; exact (cnt_all l).symm
  rw [h1, h2]

theorem all_snoc (l : List UInt8) (c : UInt8) : (l ++ [c]).all isD = (l.all isD && isD c) := by simp

theorem take_snoc (s : ByteArray) (k : Nat) (h : k < s.size) : s.data.toList.take (k + 1) = s.data.toList.take k ++ [s[k]] := by
  rw [List.take_succ_eq_append_getElem (by simpa using h)]; rfl

theorem all_take_succ (s : ByteArray) (k : Nat) (h : k < s.size) : (s.data.toList.take (k + 1)).all isD = ((s.data.toList.take k).all isD && isD s[k]) := by
  rw [take_snoc s k h, all_snoc]

theorem cnt_take_succ (s : ByteArray) (k : Nat) (h : k < s.size) : cnt (s.data.toList.take (k + 1)) = cnt (s.data.toList.take k) + (if isD s[k] = true then 1 else 0) := by
  rw [take_snoc s k h, cnt_snoc]

theorem not_all_of (s : ByteArray) (k : Nat) (h : k < s.size) (hd : isD s[k] = false) : s.data.toList.all isD = false := by
  rw [← List.take_append_drop (k + 1) s.data.toList, List.all_append, all_take_succ s k h, hd]; simp

theorem isD_yes (c : UInt8) (h1 : 48 ≤ (c.toNat : Int)) (h2 : (c.toNat : Int) ≤ 57) : isD c = true := by
  unfold isD; simp; omega
theorem isD_low (c : UInt8) (h1 : (c.toNat : Int) < 48) : isD c = false := by
  unfold isD; simp; omega
theorem isD_high (c : UInt8) (h1 : 57 < (c.toNat : Int)) : isD c = false := by
  unfold isD; simp; omega

end Go.Proofs.Qxb6601839a.Dig

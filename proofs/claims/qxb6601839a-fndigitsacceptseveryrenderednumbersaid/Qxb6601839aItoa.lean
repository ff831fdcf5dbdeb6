/-
  THE WALK of 'itoaU64' (13): a non-empty string of ASCII digits, of at most twenty bytes.
-/
import Derived.Test.Qxb6601839aWalks
import Derived.Laws.BytesArg
namespace Go.Proofs.Qxb6601839a
open Go.RowKit Dig

theorem pow_step (m i : Nat) (h : m < 10 ^ (i + 1)) : m / 10 < 10 ^ i := by
  rw [Nat.pow_succ] at h; omega
theorem pow_pos_of (m i : Nat) (h : m < 10 ^ i) (hm : 0 < m) : ∃ k, i = k + 1 := by
  cases i with
  | zero => simp at h; omega
  | succ k => exact ⟨k, rfl⟩

/-- The relation of the loop: what the twenty cells hold. -/
def Cells20 (B : Nat) (f : Nat → Int) (wr : World) : Prop :=
  ∀ j, j < 20 → wr.cell? ⟨B, j, none⟩ = some (.int .u8 (f j)) ∧ wr.frozen? ⟨B, j, none⟩ = false

theorem Cells20.set {B : Nat} {f : Nat → Int} {wr : World} (h : Cells20 B f wr) (i : Nat) (hi : i < 20) (x : Int) :
    Cells20 B (fun j => if j = i then x else f j) (wr.setCell ⟨B, i, none⟩ (.int .u8 x)) := by
  intro j hj
  refine ⟨?_, by simpa using (h j hj).2⟩
  by_cases e : j = i
  · subst e; simp only [if_true]; exact World.cell?_setCell_same _ _ _ (h j hj).1
  · simp only [e, if_false]; rw [World.cell?_setCell_other _ _ _ _ (by intro hh; injection hh; omega)]; exact (h j hj).1

theorem digB_nums (xs : List Int) (h0 : xs ≠ []) (h : ∀ x ∈ xs, 48 ≤ x ∧ x ≤ 57) : digB (strOfNums xs).data.toList = true := by
  rw [strOfNums_data]
  unfold digB
  rw [Bool.and_eq_true]
  refine ⟨by cases xs <;> simp_all, ?_⟩
  rw [List.all_eq_true]
  intro c hc
  obtain ⟨x, hx, rfl⟩ := List.mem_map.1 hc
  have := h x hx
  have e : (UInt8.ofNat x.toNat).toNat = x.toNat := by
    rw [UInt8.toNat_ofNat']; omega
  apply isD_yes <;> rw [e] <;> omega

theorem Try.alen32 : Try.prog.arrayLen 32 = 20 := by kernel_rfl
theorem Try.elem32 : Try.prog.elem 32 = 5 := by kernel_rfl
theorem Try.size5 (w : World) : (sizeOf 5).run Try.prog w = .ok 1 w := by kernel_rfl

theorem slice20 (k : Nat) (hk : k < 20) (B : Nat) (w : World) :
    (Instr.sliceAt 32 (.pointer (some ⟨B, 0, none⟩)) (some (.int .i64 k)) none none).run Try.prog w = .ok (.slice (some ⟨B, k, none⟩) (20 - k) (20 - k)) w := by
  rw [run_sliceAt_array_l w 32 _ (by rw [Try.alen32, Try.elem32]; exact Try.underlying32) .i64 k (by omega) (by rw [Try.alen32]; omega)]
  rw [Try.elem32, Try.size5, Try.alen32]
  have h20 : ¬ 20 = k := by omega
  simp [slicedAt, Addr.add, h20]
  exact fun h => h.symm

set_option maxHeartbeats 400000 in
theorem itoa_any (n : Int) (h0 : 0 ≤ n) (h1 : n ≤ 18446744073709551615) (w : World) :
    Calls Try.prog 13 #[.int .u64 n] w fun e w' => ∃ s : ByteArray, e = .returned (.string s) ∧ s.size ≤ 20 ∧ digB s.data.toList = true ∧ Grown w w' := by
  by_cases hz : n = 0
  · subst hz
    go_enter Try.func13, Try.ntmps13
    go_wp2
    go_ret
    exact ⟨⟨#[48]⟩, rfl, by decide, by decide, Grown.refl _⟩
  · have hne : (n == 0) = false := by simpa using hz
    obtain ⟨nn, rfl⟩ : ∃ nn : Nat, n = nn := ⟨n.toNat, by omega⟩
    have hp : Hid (nn < 10 ^ 20) := by show nn < _; omega
    go_enter Try.func13, Try.ntmps13
    go_wp2
    go_loopw [0, 4] (fun n i wr => ∃ (m k : Nat) (f : Nat → Int), n = .int .u64 m ∧ i = .int .i64 k ∧ k ≤ 20 ∧ m ≤ nn ∧ Hid (m < 10 ^ k) ∧ (k = 20 → 0 < m) ∧ Cells20 w.heap.size f wr ∧ Hid (∀ j, k ≤ j → j < 20 → 48 ≤ f j ∧ f j ≤ 57) ∧ Grown w wr)
      (fun _ i _ => (intOf i).toNat)
    case atStart =>
      refine ⟨nn, 20, fun _ => 0, rfl, rfl, Nat.le_refl _, Nat.le_refl _, hp, fun _ => by omega, ?_, fun j hj hk => by omega, (Grown.refl _).alloc _ _⟩
      intro j hj
      refine ⟨?_, by rw [World.frozen?_alloc_at _ _ _ _ rfl]⟩
      rw [World.cell?_alloc_at _ _ _ _ rfl]
      have hc : j = 0 ∨ j = 1 ∨ j = 2 ∨ j = 3 ∨ j = 4 ∨ j = 5 ∨ j = 6 ∨ j = 7 ∨ j = 8 ∨ j = 9 ∨ j = 10 ∨ j = 11 ∨ j = 12 ∨ j = 13 ∨ j = 14 ∨ j = 15 ∨ j = 16 ∨ j = 17 ∨ j = 18 ∨ j = 19 := by omega
      rcases hc with rfl | rfl | rfl | rfl | rfl | rfl | rfl | rfl | rfl | rfl | rfl | rfl | rfl | rfl | rfl | rfl | rfl | rfl | rfl | rfl <;> rfl
    case round =>
      obtain ⟨m, k, f, rfl, rfl, hk, hmn, hpow, hk20, hcells, hdig, hg⟩ := hrel
      by_cases hm : 0 < (m : Int)
      · obtain ⟨k', rfl⟩ := pow_pos_of m k hpow.out (by omega)
        have hc := (hcells k' (by omega)).1
        have hf := (hcells k' (by omega)).2
        have HC : Hid (Cells20 w.heap.size f wr) := hcells
        clear hcells hk20
        go_wp2
        go_roundw
        case rel => exact ⟨m / 10, k', fun j => if j = k' then 48 + (m : Int) % 10 else f j, by go_num, by go_num, by omega, by omega, pow_step m k' hpow.out, by omega, HC.out.set k' (by omega) _, fun j hj hj' => by
            by_cases e : j = k'
            · simp only [e, if_true]; omega
            · simp only [e, if_false]; exact hdig.out j (by omega) hj', hg.setCell (Nat.le_refl _) _⟩
        case measure => simp [intOf]
      · have hm0 : m = 0 := by omega
        have hk' : k < 20 := by
          by_cases e : k = 20
          · have := hk20 e; omega
          · omega
        clear hk20
        have hconv := run_convert_bytes_arg (P := Try.prog) wr 33 5 Try.underlying33 Try.underlying5 w.heap.size k (20 - k) (20 - k) ((List.range (20 - k)).map fun j => f (k + j)) (by simp) (fun i hi => by
          rw [(hcells (k + i) (by omega)).1]; simp [hi]) 9 Try.underlying9
        have HD : Hid (digB (strOfNums ((List.range (20 - k)).map fun j => f (k + j))).data.toList = true) := digB_nums _ (by simp; omega) (by
          intro x hx
          obtain ⟨j, hj, rfl⟩ := List.mem_map.1 hx
          exact hdig.out _ (by omega) (by have := List.mem_range.1 hj; omega))
        have hsl := slice20 k hk' w.heap.size wr
        clear hcells
        go_wp2
        go_ret
        exact ⟨_, rfl, by rw [strOfNums_size]; simp, HD.out, hg⟩

end Go.Proofs.Qxb6601839a

/-
  THE WALK of mClone (9): a fresh copy.
-/
import Derived.Test.Qxb6602274aVal
namespace Go.Proofs.Qxb6602274a
open Go.RowKit Js

theorem Try.info5 : (Try.prog.info? 5).map (fun i => (i.zero, i.size, i.bytes)) = some (some (.int .u8 0), 1, 1) := by kernel_rfl
theorem Try.size5 : (Try.prog.info? 5).map (·.size) = some 1 := by kernel_rfl

theorem clone_nil (w : World) : Calls Try.prog 9 #[.slice none 0 0] w fun e w' => e = .returned (.slice none 0 0) ∧ w' = w := by
  have hnil := Lib.run_eql_slice_nil (P := Try.prog) w 22 5 none 0 0 0 0 Try.underlying22
  go_enter Try.func9, Try.ntmps9
  go_wp2_with fail
  go_ret
  exact ⟨rfl, rfl⟩

/-- What mClone answers at a slice that is not nil. -/
def RClone (g : Nat → Int) (n : Nat) (w : World) (e : Ending) (w' : World) : Prop :=
  e = .returned (.slice (some ⟨w.heap.size, 0, none⟩) n n) ∧ Txt w' w.heap.size 0 n g ∧ Ext w w' ∧ w.heap.size < w'.heap.size

theorem clone_some (b off n cap : Nat) (g : Nat → Int) (w : World) (ht : Txt w b off n g) (hn : n ≤ 65536) :
    Calls Try.prog 9 #[.slice (some ⟨b, off, none⟩) n cap] w (RClone g n w) := by
  have hnil := Lib.run_eql_slice_nil (P := Try.prog) w 22 5 (some ⟨b, off, none⟩) n cap 0 0 Try.underlying22
  have hmk := run_make_row' (P := Try.prog) 22 5 (.int .u8 0) 1 Try.underlying22 Try.info5 rfl .i64 .i64 n (by omega) (by omega) w
  have hsz : (madeCells #[.int .u8 0] n).size = n := by simp [madeCells]
  go_enter Try.func9, Try.ntmps9
  go_wp2_with (refine wpList_copy_own rfl (.tmp 9) (.tmp 10) 22 22 rfl 5 Try.underlying22 Try.size5 w.heap.size 0 n n ⟨b, off, none⟩ n cap rfl rfl (madeCells #[.int .u8 0] n) 5 (heap_alloc_new _ _) ((List.range n).map fun j => .int .u8 (g j)) ?q1 ?q2 ?q3 ?q4 ?_)
  case q1 => simp
  case q2 =>
    intro j v hj
    have hjn : j < n := by
      rcases Nat.lt_or_ge j n with h | h
      · exact h
      · rw [List.getElem?_eq_none (by simpa using h)] at hj; cases hj
    have hv : v = .int .u8 (g j) := by simpa [hjn] using hj.symm
    have h1 := ht j hjn
    have hadd : (⟨b, off, none⟩ : Addr).add j = ⟨b, off + j, none⟩ := by unfold Addr.add; split <;> simp_all
    rw [hadd, World.cell?_alloc_lt _ _ _ (World.block_lt_of_cell? _ _ h1), h1, hv]
  case q3 => simp [hsz]
  case q4 =>
    intro v hv
    obtain ⟨j, _, rfl⟩ := List.mem_map.1 hv
    rfl
  go_ret
  refine ⟨rfl, ?_, ?_, ?_⟩
  · intro j hj
    rw [Nat.zero_add, cell_setRow_same _ _ _ _ _ _ _ (heap_alloc_new _ _)]
    simp
    rw [List.getElem?_append_left (by simpa using hj)]
    simp [hj]
  · exact below_setRow (Below.alloc (Below.refl _ _) (Nat.le_refl _) _) (Nat.le_refl _) _
  · simp

/-- valueLen, of whatever value, followed as it must be. -/
theorem vl_val (b off n cap : Nat) (g : Nat → Int) (e : Nat) (k : Int) (w : World) (ht : Txt w b off n g) (hn : n ≤ 65536) (hcap : n ≤ cap) (h : Val g n 0 e k) (hf : folB g n e k = true) :
    Calls Try.prog 24 #[.slice (some ⟨b, off, none⟩) n cap] w fun E w' => E = .returned (.int .i64 e) ∧ w' = w := by
  have hle := h.le
  rcases h with ⟨_, h⟩ | ⟨_, h⟩ | ⟨hk, h⟩
  · exact vl_str b off n cap g e w ht hn h
  · exact vl_cont b off n cap g e w ht hn hcap h
  · exact vl_scal b off n cap g e w ht hn h (EndsAt.of_fol hk hle.2 hf)

/-- mParseValue at the empty text. -/
theorem val_zero (a : Option Addr) (cap : Nat) (w : World) :
    Calls Try.prog 7 #[.slice a 0 cap, .int .i64 0] w fun e w' => e = .returned (.tuple #[.int .i64 0, .int .i64 0, .bool false]) ∧ w' = w := by
  go_enter Try.func7, Try.ntmps7
  go_wp2_with fail
  go_ret3
  exact ⟨rfl, rfl⟩

end Go.Proofs.Qxb6602274a

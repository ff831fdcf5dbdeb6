/-
  '==' on two sets of bytes ([4]uint64).
-/
import Derived.Test.Qxb6602360aBit
import Derived.ChangeKeysEq
namespace Go.Proofs.Qxb6602360a
open Go.RowKit Cl

theorem info22 : ∃ i, Try.prog.info? 22 = some i := by
  have h : (Try.prog.info? 22).isSome = true := by kernel_rfl
  exact Option.isSome_iff_exists.1 h
theorem Try.cells22 : Try.prog.cellsOf 22 = 1 := by kernel_rfl

theorem eq_items (w : World) (y0 y1 y2 y3 z0 z1 z2 z3 : Nat) :
    (Op.equalIn 10000 23 (.agg #[.int .u64 y0, .int .u64 y1, .int .u64 y2, .int .u64 y3]) (.agg #[.int .u64 z0, .int .u64 z1, .int .u64 z2, .int .u64 z3])).run Try.prog w =
      .ok ((y0 : Int) == z0 && ((y1 : Int) == z1 && ((y2 : Int) == z2 && (y3 : Int) == z3))) w := by
  obtain ⟨i, hi⟩ := info22
  show (Op.equalIn (9999 + 1) 23 _ _).run Try.prog w = _
  rw [run_equalIn_array w 9999 _ _ Try.underlying23 hi, Try.cells22]
  simp [Op.eqItems, List.range_succ, part, go_sem, Try.underlying22]
  by_cases h0 : (y0 : Int) = z0
  · by_cases h1 : (y1 : Int) = z1
    · by_cases h2 : (y2 : Int) = z2
      · by_cases h3 : (y3 : Int) = z3
        · simp [h0, h1, h2, h3]
        · simp [h0, h1, h2, h3]
      · simp [h0, h1, h2]
    · simp [h0, h1]
  · simp [h0]

theorem eq_self (y0 y1 y2 y3 : Nat) (w : World) :
    (Op.equalIn 10000 23 (.agg #[.int .u64 y0, .int .u64 y1, .int .u64 y2, .int .u64 y3]) (.agg #[.int .u64 y0, .int .u64 y1, .int .u64 y2, .int .u64 y3])).run Try.prog w = .ok true w := by
  rw [eq_items]; simp

end Go.Proofs.Qxb6602360a

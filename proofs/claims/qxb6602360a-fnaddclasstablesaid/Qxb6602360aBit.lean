/-
  THE WALK of bitWith (17).
-/
import Derived.Test.Qxb6602360aZz
namespace Go.Proofs.Qxb6602360a
open Go.RowKit Cl
set_option linter.unusedVariables false

/-- A set comes back. -/
def RSet (y0 y1 y2 y3 : Nat) (w : World) (e : Ending) (w' : World) : Prop :=
  e = .returned (.agg #[.int .u64 y0, .int .u64 y1, .int .u64 y2, .int .u64 y3]) ∧ Ext w w'

theorem bit_lo (b x0 x1 x2 x3 : Nat) (w : World) (hb : b < 64) (hx : x0 < 2 ^ 64) :
    Calls Try.prog 17 #[.agg #[.int .u64 x0, .int .u64 x1, .int .u64 x2, .int .u64 x3], .int .i64 b] w (RSet (x0 ||| 2 ^ b) x1 x2 x3 w) := by
  have HX : Hid (x0 < 2 ^ 64) := hx
  clear hx
  have hq : (b : Int) / 64 = 0 := by omega
  have hr : (b : Int) % 64 = (b : Int) := by omega
  go_enter Try.func17, Try.ntmps17
  go_wp2_with fail
  exact bodyPost_ret (v := .agg #[.int .u64 (bits .or .u64 x0 (IntKind.u64.wrap (2 ^ b))), .int .u64 x1, .int .u64 x2, .int .u64 x3]) (by simp [results, Try.results17, go_sem]) rfl ⟨by rw [or_bit x0 b HX.out hb], ((Ext.refl _).alloc _).alloc _⟩

theorem bit_hi (b x0 x1 x2 x3 : Nat) (w : World) (hb : 64 ≤ b) (hb2 : b < 128) (hx : x1 < 2 ^ 64) :
    Calls Try.prog 17 #[.agg #[.int .u64 x0, .int .u64 x1, .int .u64 x2, .int .u64 x3], .int .i64 b] w (RSet x0 (x1 ||| 2 ^ (b - 64)) x2 x3 w) := by
  have HX : Hid (x1 < 2 ^ 64) := hx
  clear hx
  obtain ⟨c, HC⟩ : ∃ c : Nat, Hid (c = b - 64) := ⟨_, rfl⟩
  have hq : (b : Int) / 64 = 1 := by omega
  have hr : (b : Int) % 64 = (c : Int) := by have := HC.out; omega
  have hc64 : c < 64 := by have := HC.out; omega
  rw [← HC.out]
  go_enter Try.func17, Try.ntmps17
  go_wp2_with fail
  exact bodyPost_ret (v := .agg #[.int .u64 x0, .int .u64 (bits .or .u64 x1 (IntKind.u64.wrap (2 ^ c))), .int .u64 x2, .int .u64 x3]) (by simp [results, Try.results17, go_sem]) rfl ⟨by rw [or_bit x1 c HX.out hc64], ((Ext.refl _).alloc _).alloc _⟩

end Go.Proofs.Qxb6602360a

/-
  'Rows.FnAddClassAlgebraSaid', PROVED. The frame is the shells' own, turned by hand to a parameter of type [4]uint64 (after the guide's IdRangearrayProofs.lean).
-/
import Derived.Test.Qxb6602360aRows
import Derived.WalkKit
import Derived.ProofKit
import Derived.OpenShut
import Derived.ChangeOld
import Derived.Below
import Derived.Laws.IdiomArrays
import Derived.Test.Qxb6602360aAlg
import Derived.Test.Qxb6602360aZzAll
namespace Go.Proofs.Qxb6602360a.fnAddClassAlgebra
open Go.ChangeShapes Go.WideShapes Go.ChangeAt Go.RowKit Cl
set_option linter.unusedVariables false

theorem own : ownKnob Try.prog.godebug = none := by kernel_rfl
theorem laidOut : laidOutB Try.prog = true := by kernel_rfl

theorem and_nat {a b : Nat} (ha : a < 2 ^ 64) (hb : b < 2 ^ 64) (h : a &&& b = 0) : bits .and .u64 (a : Int) (b : Int) = 0 := by
  have e : (2 : Nat) ^ 64 = 18446744073709551616 := by decide
  rw [u64_and_nat a b (by omega) (by omega), h]; rfl
theorem or_nat {a b : Nat} (ha : a < 2 ^ 64) (hb : b < 2 ^ 64) (h : a ||| b = 18446744073709551615) : bits .or .u64 (a : Int) (b : Int) = full := by
  have e : (2 : Nat) ^ 64 = 18446744073709551616 := by decide
  rw [u64_or_nat a b (by omega) (by omega), h]; rfl

theorem walk (x0 x1 x2 x3 : Nat) (h0 : x0 < 2 ^ 64) (h1 : x1 < 2 ^ 64) (w : World) :
    Calls Try.prog 5 #[.agg #[.int .u64 x0, .int .u64 x1, .int .u64 x2, .int .u64 x3]] w (RTop w) := by
  have z0 : (0 : Nat) < 2 ^ 64 := by decide
  refine alg_core x0 x1 x2 x3 (lo isL x0) (hi isL x1) (lo pAlnum x0) (hi pAlnum x1) (lo pLower x0) (hi pLower x1) (lo pGraph x0) (hi pGraph x1) (lo pPrint x0) (hi pPrint x1) (lo pXdigit x0) (hi pXdigit x1)
    (lo pBlank x0) (hi pBlank x1) (lo pSpace x0) (hi pSpace x1) (lo pCntrl 0) (hi pCntrl 0) (lo pPrint 0) (hi pPrint 0) w
    (z_alpha x0 x1 x2 x3 h0 h1) (z_alnum x0 x1 x2 x3 h0 h1) ?_ (z_lower x0 x1 x2 x3 h0 h1) ?_ (z_graph x0 x1 x2 x3 h0 h1) ?_ (z_print x0 x1 x2 x3 h0 h1) (z_xdigit x0 x1 x2 x3 h0 h1) ?_ (z_blank x0 x1 x2 x3 h0 h1) ?_ (z_space x0 x1 x2 x3 h0 h1)
    (z_cntrl 0 0 0 0 z0 z0) (z_print 0 0 0 0 z0 z0) ?_
    (and_nat (lo_lt _ z0) (lo_lt _ z0) disj_lo) (and_nat (hi_lt _ z0) (hi_lt _ z0) disj_hi) (or_nat (lo_lt _ z0) (lo_lt _ z0) full_lo) (or_nat (hi_lt _ z0) (hi_lt _ z0) full_hi)
  · intro w
    have := z_digit (lo isL x0) (hi isL x1) x2 x3 (lo_lt _ h0) (hi_lt _ h1) w
    rwa [lo_two alnum_lo, hi_two alnum_hi] at this
  · intro w
    have := z_upper (lo pLower x0) (hi pLower x1) x2 x3 (lo_lt _ h0) (hi_lt _ h1) w
    rwa [lo_two alpha_lo, hi_two alpha_hi] at this
  · intro w
    have := z_punct (lo pAlnum x0) (hi pAlnum x1) x2 x3 (lo_lt _ h0) (hi_lt _ h1) w
    rwa [lo_two graph_lo, hi_two graph_hi] at this
  · intro w
    have := z_alnum (lo pXdigit x0) (hi pXdigit x1) x2 x3 (lo_lt _ h0) (hi_lt _ h1) w
    rwa [lo_two xd_lo, hi_two xd_hi] at this
  · intro w
    have := z_space (lo pBlank x0) (hi pBlank x1) x2 x3 (lo_lt _ h0) (hi_lt _ h1) w
    rwa [lo_two space_lo, hi_two space_hi] at this
  · intro w
    have e32 : ((32 : Nat) : Int) = (32 : Int) := by decide
    have hthis := bit_lo 32 (lo pGraph x0) (hi pGraph x1) x2 x3 w (by decide) (lo_lt _ h0)
    rw [print_lo x0, e32] at hthis
    have e1 : hi pGraph x1 = hi pPrint x1 := print_hi x1
    generalize lo pPrint x0 = a at hthis ⊢
    generalize lo pGraph x0 = b at hthis ⊢
    rw [← e1]
    exact hthis

theorem nat_of {x : Int} (h : (Lit.int .u64 x).wf = true) : ∃ n : Nat, x = n ∧ n < 2 ^ 64 := by
  have hb := bounds_u64 h
  have e : (2 : Nat) ^ 64 = 18446744073709551616 := by decide
  exact ⟨x.toNat, by omega, by omega⟩

theorem list4 {α : Type} (l : List α) (h : (⟨l⟩ : Array α).size = 4) : ∃ a b c d, l = [a, b, c, d] := by
  match l, h with
  | [a, b, c, d], _ => exact ⟨a, b, c, d, rfl⟩

theorem cells23 : Try.prog.cellsOf 23 = 4 := by kernel_rfl

set_option maxRecDepth 100000 in
theorem lifted (os : Os) (started : os.Started) (H : Type) (enc : TypeId × Value → H) :
    ReturnsInHanded {} Try.checked os 5 .any (Rows.fnAddClassAlgebraSpec.pre6 enc Try.prog Try.f5 Rows.fnAddClassAlgebraRow.domain false) (Rows.fnAddClassAlgebraSpec.post enc Try.prog Try.f5 false true false false) := by
  refine returnsInHanded_of_change (C := Try.checked) own started (by kernel_rfl) Try.func5
    (ChangeSpec.witness6 (enc := enc) (C := Try.checked) false ⟨#[], #[.agg #[.int .u64 0, .int .u64 0, .int .u64 0, .int .u64 0]], []⟩ 8 (by kernel_rfl) (by kernel_rfl) (by kernel_rfl) (by kernel_rfl)) ?_
  intro W base args ds gs before hval0 hW hcnd _
  have hval : ∀ (j : Nat) t v, Try.f5.params[j]? = some t → args[j]? = some v → Value.okWide Try.prog W .any base t v := hval0
  have hW' := hW
  obtain ⟨p, q, hA0, hV, rfl, hfz, hnd⟩ := hW
  have hA : DataW.TrodAll enc Try.prog W 0 (fun _ => true) true Try.f5.params.toList args.toList ds p := hA0
  rw [Try.params5] at hA hval
  obtain ⟨v0, vs0, d0, ds0, p0, q0, hargs, rfl, rfl, h0, r0⟩ := trodAll_cons hA
  obtain ⟨rfl, rfl, rfl⟩ := trodAll_nil r0
  obtain rfl : args = #[v0] := by cases args; simp_all
  obtain ⟨rfl, rfl⟩ := trodVars_none hV
  have k0 := h0
  have lt0 : ∀ x ∈ p0, x.block < W.heap.size := by obtain ⟨m, hm⟩ := k0; exact DataW.trod_lt m _ _ _ hm
  obtain ⟨cs, rfl, hsz, _⟩ : ∃ cs, v0 = .agg cs ∧ cs.size = Try.prog.cellsOf 23 ∧ Row.okWide Try.prog W .any base 23 cs := by
    have := hval 0 23 v0 rfl rfl
    simpa [Value.okWide, Try.underlying23] using this
  rw [cells23] at hsz
  obtain ⟨l⟩ := cs
  obtain ⟨c0, c1, c2, c3, rfl⟩ := list4 l hsz
  obtain ⟨n0, n1, n2, n3, e0, e1, e2, e3, b0, b1⟩ : ∃ n0 n1 n2 n3 : Nat, c0 = .int .u64 n0 ∧ c1 = .int .u64 n1 ∧ c2 = .int .u64 n2 ∧ c3 = .int .u64 n3 ∧ n0 < 2 ^ 64 ∧ n1 < 2 ^ 64 := by
    obtain ⟨fuel, hf⟩ := h0
    obtain ⟨y0, y1, y2, y3, m, hx, hy0, hy1, hy2, hy3⟩ := trod_array4 Try.underlying23 (by kernel_rfl) hf
    obtain ⟨x0, e0, rfl, w0⟩ := DataW.trod_int Try.underlying22 hy0
    obtain ⟨x1, e1, rfl, w1⟩ := DataW.trod_int Try.underlying22 hy1
    obtain ⟨x2, e2, rfl, w2⟩ := DataW.trod_int Try.underlying22 hy2
    obtain ⟨x3, e3, rfl, w3⟩ := DataW.trod_int Try.underlying22 hy3
    simp at e0 e1 e2 e3
    obtain ⟨n0, rfl, b0⟩ := nat_of w0
    obtain ⟨n1, rfl, b1⟩ := nat_of w1
    obtain ⟨n2, rfl, b2⟩ := nat_of w2
    obtain ⟨n3, rfl, b3⟩ := nat_of w3
    exact ⟨n0, n1, n2, n3, e0, e1, e2, e3, b0, b1⟩
  subst e0 e1 e2 e3
  clear hA0 hval0
  refine (walk n0 n1 n2 n3 b0 b1 W).mono fun e W' ⟨he, bel⟩ => ?_
  subst he
  exact ⟨_, rfl, _, _, _, [], _, [], hW', trodAll_mk1 (shut_bool Try.underlying4 _), (trodAll_cons_mk (Below.trod laidOut (by kernel_rfl) (of_decide_eq_true (by kernel_rfl)) k0 bel lt0) trodAll_mk0), rfl, Below.frame bel _, fun h => by cases h⟩

theorem over : Rows.fnAddClassAlgebraRow.holds Try.pinned (OpenSpec.ofChange Rows.fnAddClassAlgebraSpec) :=
  OpenClaim.holds_of_wide 5 Try.f5 rfl rfl rfl rfl rfl rfl rfl ⟨rfl, rfl, rfl, rfl, rfl⟩ rfl rfl rfl rfl rfl (by kernel_rfl) Try.func5 (by kernel_rfl)
    (of_decide_eq_true (by kernel_rfl)) (by unfold Func.isWrapper; first | (rw [if_pos (by decide +kernel)]; kernel_rfl) | (rw [if_neg (by decide +kernel)]; exact ⟨rfl, rfl⟩))
    (fun os started H enc _ => lifted os started H enc)

/-- THE STATEMENT -/
theorem proved : Rows.FnAddClassAlgebraSaid := over
#print axioms proved
end Go.Proofs.Qxb6602360a.fnAddClassAlgebra

/-
  'Rows.FnAddClassTableSaid', PROVED. The frame is the shells' own, turned by hand to parameters of type [4]uint64 and string (after the guide's IdRangearrayProofs.lean).
-/
import Derived.Test.Qxb6602360aRows
import Derived.WalkKit
import Derived.ProofKit
import Derived.OpenShut
import Derived.ShutString
import Derived.ChangeOld
import Derived.Below
import Derived.Laws.IdiomArrays
import Derived.Test.Qxb6602360aTab3
namespace Go.Proofs.Qxb6602360a.fnAddClassTable
open Go.ChangeShapes Go.WideShapes Go.ChangeAt Go.RowKit Cl
open Go.ChangeMaps (open_string shut_string)
set_option linter.unusedVariables false

theorem own : ownKnob Try.prog.godebug = none := by kernel_rfl
theorem laidOut : laidOutB Try.prog = true := by kernel_rfl

/-! ### THE TABLES' RANGES ARE THE KINDS -/
theorem rb_small {l : List UInt8} (h : l.all (fun c => decide (c.toNat < 128)) = true) (j : Nat) : (l.getD j 0).toNat < 128 := by
  rw [List.getD_eq_getElem?_getD]
  rcases Nat.lt_or_ge j l.length with hj | hj
  · rw [List.getElem?_eq_getElem hj]
    have := List.all_eq_true.1 h l[j] (List.getElem_mem hj)
    simpa using this
  · rw [List.getElem?_eq_none hj]; decide

/-- addRanges over a table that says a kind. -/
theorem ranges_class {r : ByteArray} {p : Nat → Bool} (hs : r.size ≤ 16) (hr : r.data.toList.all (fun c => decide (c.toNat < 128)) = true) (hp : pairsN r (0, 0) (r.size / 2) = (lo p 0, hi p 0))
    (x0 x1 x2 x3 : Nat) (h0 : x0 < 2 ^ 64) (h1 : x1 < 2 ^ 64) (w : World) :
    Calls Try.prog 15 #[.agg #[.int .u64 x0, .int .u64 x1, .int .u64 x2, .int .u64 x3], .string r] w (RSet (lo p x0) (hi p x1) x2 x3 w) := by
  have := ranges_any r x0 x1 x2 x3 w (fun j => rb_small hr j) hs ⟨h0, h1⟩
  rw [pairs_class hp x0 x1] at this
  exact this

theorem t_alnum : pairsN (ByteArray.mk #[48, 57, 65, 90, 97, 122]) (0, 0) ((ByteArray.mk #[48, 57, 65, 90, 97, 122]).size / 2) = (lo pAlnum 0, hi pAlnum 0) := by decide +kernel
theorem t_alpha : pairsN (ByteArray.mk #[65, 90, 97, 122]) (0, 0) ((ByteArray.mk #[65, 90, 97, 122]).size / 2) = (lo isL 0, hi isL 0) := by decide +kernel
theorem t_blank : pairsN (ByteArray.mk #[9, 9, 32, 32]) (0, 0) ((ByteArray.mk #[9, 9, 32, 32]).size / 2) = (lo pBlank 0, hi pBlank 0) := by decide +kernel
theorem t_cntrl : pairsN (ByteArray.mk #[0, 31, 127, 127]) (0, 0) ((ByteArray.mk #[0, 31, 127, 127]).size / 2) = (lo pCntrl 0, hi pCntrl 0) := by decide +kernel
theorem t_digit : pairsN (ByteArray.mk #[48, 57]) (0, 0) ((ByteArray.mk #[48, 57]).size / 2) = (lo isDg 0, hi isDg 0) := by decide +kernel
theorem t_graph : pairsN (ByteArray.mk #[33, 126]) (0, 0) ((ByteArray.mk #[33, 126]).size / 2) = (lo pGraph 0, hi pGraph 0) := by decide +kernel
theorem t_lower : pairsN (ByteArray.mk #[97, 122]) (0, 0) ((ByteArray.mk #[97, 122]).size / 2) = (lo pLower 0, hi pLower 0) := by decide +kernel
theorem t_print : pairsN (ByteArray.mk #[32, 126]) (0, 0) ((ByteArray.mk #[32, 126]).size / 2) = (lo pPrint 0, hi pPrint 0) := by decide +kernel
theorem t_punct : pairsN (ByteArray.mk #[33, 47, 58, 64, 91, 96, 123, 126]) (0, 0) ((ByteArray.mk #[33, 47, 58, 64, 91, 96, 123, 126]).size / 2) = (lo pPunct 0, hi pPunct 0) := by decide +kernel
theorem t_space : pairsN (ByteArray.mk #[9, 10, 13, 13, 32, 32]) (0, 0) ((ByteArray.mk #[9, 10, 13, 13, 32, 32]).size / 2) = (lo pSpace 0, hi pSpace 0) := by decide +kernel
theorem t_upper : pairsN (ByteArray.mk #[65, 90]) (0, 0) ((ByteArray.mk #[65, 90]).size / 2) = (lo pUpper 0, hi pUpper 0) := by decide +kernel
theorem t_xdigit : pairsN (ByteArray.mk #[48, 57, 65, 70, 97, 102]) (0, 0) ((ByteArray.mk #[48, 57, 65, 70, 97, 102]).size / 2) = (lo pXdigit 0, hi pXdigit 0) := by decide +kernel

theorem walk (x0 x1 x2 x3 : Nat) (h0 : x0 < 2 ^ 64) (h1 : x1 < 2 ^ 64) (name : ByteArray) (w : World) :
    Calls Try.prog 3 #[.agg #[.int .u64 x0, .int .u64 x1, .int .u64 x2, .int .u64 x3], .string name] w (RT w) := by
  by_cases hbig : 1048576 < (name.size : Int)
  · exact top_big x0 x1 x2 x3 name w hbig
  · rcases which name with rfl | rfl | rfl | rfl | rfl | rfl | rfl | rfl | rfl | rfl | rfl | rfl | hno
    · exact top_known x0 x1 x2 x3 _ _ _ (ByteArray.mk #[48, 57, 65, 90, 97, 122]) w (by omega) (z_alnum x0 x1 x2 x3 h0 h1) cr_alnum (ranges_class (by decide) (by decide) t_alnum x0 x1 x2 x3 h0 h1)
    · exact top_known x0 x1 x2 x3 _ _ _ (ByteArray.mk #[65, 90, 97, 122]) w (by omega) (z_alpha x0 x1 x2 x3 h0 h1) cr_alpha (ranges_class (by decide) (by decide) t_alpha x0 x1 x2 x3 h0 h1)
    · exact top_known x0 x1 x2 x3 _ _ _ (ByteArray.mk #[9, 9, 32, 32]) w (by omega) (z_blank x0 x1 x2 x3 h0 h1) cr_blank (ranges_class (by decide) (by decide) t_blank x0 x1 x2 x3 h0 h1)
    · exact top_known x0 x1 x2 x3 _ _ _ (ByteArray.mk #[0, 31, 127, 127]) w (by omega) (z_cntrl x0 x1 x2 x3 h0 h1) cr_cntrl (ranges_class (by decide) (by decide) t_cntrl x0 x1 x2 x3 h0 h1)
    · exact top_known x0 x1 x2 x3 _ _ _ (ByteArray.mk #[48, 57]) w (by omega) (z_digit x0 x1 x2 x3 h0 h1) cr_digit (ranges_class (by decide) (by decide) t_digit x0 x1 x2 x3 h0 h1)
    · exact top_known x0 x1 x2 x3 _ _ _ (ByteArray.mk #[33, 126]) w (by omega) (z_graph x0 x1 x2 x3 h0 h1) cr_graph (ranges_class (by decide) (by decide) t_graph x0 x1 x2 x3 h0 h1)
    · exact top_known x0 x1 x2 x3 _ _ _ (ByteArray.mk #[97, 122]) w (by omega) (z_lower x0 x1 x2 x3 h0 h1) cr_lower (ranges_class (by decide) (by decide) t_lower x0 x1 x2 x3 h0 h1)
    · exact top_known x0 x1 x2 x3 _ _ _ (ByteArray.mk #[32, 126]) w (by omega) (z_print x0 x1 x2 x3 h0 h1) cr_print (ranges_class (by decide) (by decide) t_print x0 x1 x2 x3 h0 h1)
    · exact top_known x0 x1 x2 x3 _ _ _ (ByteArray.mk #[33, 47, 58, 64, 91, 96, 123, 126]) w (by omega) (z_punct x0 x1 x2 x3 h0 h1) cr_punct (ranges_class (by decide) (by decide) t_punct x0 x1 x2 x3 h0 h1)
    · exact top_known x0 x1 x2 x3 _ _ _ (ByteArray.mk #[9, 10, 13, 13, 32, 32]) w (by omega) (z_space x0 x1 x2 x3 h0 h1) cr_space (ranges_class (by decide) (by decide) t_space x0 x1 x2 x3 h0 h1)
    · exact top_known x0 x1 x2 x3 _ _ _ (ByteArray.mk #[65, 90]) w (by omega) (z_upper x0 x1 x2 x3 h0 h1) cr_upper (ranges_class (by decide) (by decide) t_upper x0 x1 x2 x3 h0 h1)
    · exact top_known x0 x1 x2 x3 _ _ _ (ByteArray.mk #[48, 57, 65, 70, 97, 102]) w (by omega) (z_xdigit x0 x1 x2 x3 h0 h1) cr_xdigit (ranges_class (by decide) (by decide) t_xdigit x0 x1 x2 x3 h0 h1)
    · exact top_none x0 x1 x2 x3 name _ w (by omega) (z_none name hno x0 x1 x2 x3) (cr_none name hno)

theorem nat_of {x : Int} (h : (Lit.int .u64 x).wf = true) : ∃ n : Nat, x = n ∧ n < 2 ^ 64 := by
  have hb := bounds_u64 h
  have e : (2 : Nat) ^ 64 = 18446744073709551616 := by decide
  exact ⟨x.toNat, by omega, by omega⟩

theorem list4 {α : Type} (l : List α) (h : (⟨l⟩ : Array α).size = 4) : ∃ a b c d, l = [a, b, c, d] := by
  match l, h with
  | [a, b, c, d], _ => exact ⟨a, b, c, d, rfl⟩

theorem cells23 : Try.prog.cellsOf 23 = 4 := by kernel_rfl

set_option maxRecDepth 100000 in
theorem lifted (os : Os) (started : os.Started) (H : Type) (enc : TypeId × Value → H) :
    ReturnsInHanded {} Try.checked os 3 .any (Rows.fnAddClassTableSpec.pre6 enc Try.prog Try.f3 Rows.fnAddClassTableRow.domain false) (Rows.fnAddClassTableSpec.post enc Try.prog Try.f3 false true false false) := by
  refine returnsInHanded_of_change (C := Try.checked) own started (by kernel_rfl) Try.func3
    (ChangeSpec.witness6 (enc := enc) (C := Try.checked) false ⟨#[], #[.agg #[.int .u64 0, .int .u64 0, .int .u64 0, .int .u64 0], .string ByteArray.empty], []⟩ 8 (by kernel_rfl) (by kernel_rfl) (by kernel_rfl) (by kernel_rfl)) ?_
  intro W base args ds gs before hval0 hW hcnd _
  have hval : ∀ (j : Nat) t v, Try.f3.params[j]? = some t → args[j]? = some v → Value.okWide Try.prog W .any base t v := hval0
  have hW' := hW
  obtain ⟨p, q, hA0, hV, rfl, hfz, hnd⟩ := hW
  have hA : DataW.TrodAll enc Try.prog W 0 (fun _ => true) true Try.f3.params.toList args.toList ds p := hA0
  rw [Try.params3] at hA hval
  obtain ⟨v0, vs0, d0, ds0, p0, q0, hargs, rfl, rfl, h0, r0⟩ := trodAll_cons hA
  obtain ⟨v1, vs1, d1, ds1, p1, q1, rfl, rfl, rfl, h1, r1⟩ := trodAll_cons r0
  obtain ⟨rfl, rfl, rfl⟩ := trodAll_nil r1
  obtain rfl : args = #[v0, v1] := by cases args; simp_all
  obtain ⟨rfl, rfl⟩ := trodVars_none hV
  have k0 := h0
  have lt0 : ∀ x ∈ p0, x.block < W.heap.size := by obtain ⟨m, hm⟩ := k0; exact DataW.trod_lt m _ _ _ hm
  obtain ⟨cs, rfl, hsz, _⟩ : ∃ cs, v0 = .agg cs ∧ cs.size = Try.prog.cellsOf 23 ∧ Row.okWide Try.prog W .any base 23 cs := by
    have := hval 0 23 v0 rfl rfl
    simpa [Value.okWide, Try.underlying23] using this
  rw [cells23] at hsz
  obtain ⟨l⟩ := cs
  obtain ⟨c0, c1, c2, c3, rfl⟩ := list4 l hsz
  obtain ⟨n0, n1, n2, n3, e0, e1, e2, e3, b0, b1⟩ : ∃ n0 n1 n2 n3 : Nat, c0 = .int .u64 n0 ∧ c1 = .int .u64 n1 ∧ c2 = .int .u64 n2 ∧ c3 = .int .u64 n3 ∧ n0 < 2 ^ 64 ∧ n1 < 2 ^ 64 := by
    obtain ⟨fuel, hf⟩ := h0
    obtain ⟨y0, y1, y2, y3, m, hx, hy0, hy1, hy2, hy3⟩ := trod_array4 Try.underlying23 (by kernel_rfl) hf
    obtain ⟨x0, e0, rfl, w0⟩ := DataW.trod_int Try.underlying22 hy0
    obtain ⟨x1, e1, rfl, w1⟩ := DataW.trod_int Try.underlying22 hy1
    obtain ⟨x2, e2, rfl, w2⟩ := DataW.trod_int Try.underlying22 hy2
    obtain ⟨x3, e3, rfl, w3⟩ := DataW.trod_int Try.underlying22 hy3
    simp at e0 e1 e2 e3
    obtain ⟨n0, rfl, b0⟩ := nat_of w0
    obtain ⟨n1, rfl, b1⟩ := nat_of w1
    obtain ⟨n2, rfl, b2⟩ := nat_of w2
    obtain ⟨n3, rfl, b3⟩ := nat_of w3
    exact ⟨n0, n1, n2, n3, e0, e1, e2, e3, b0, b1⟩
  subst e0 e1 e2 e3
  obtain ⟨s1, rfl, rfl, rfl, w1⟩ := open_string Try.underlying9 (hval 1 9 v1 rfl rfl) h1
  clear hA0 hval0
  refine (walk n0 n1 n2 n3 b0 b1 s1 W).mono fun e W' ⟨he, bel⟩ => ?_
  subst he
  exact ⟨_, rfl, _, _, _, [], _, [], hW', trodAll_mk1 (shut_bool Try.underlying4 _), (trodAll_cons_mk (Below.trod laidOut (by kernel_rfl) (of_decide_eq_true (by kernel_rfl)) k0 bel lt0) (trodAll_cons_mk (shut_string Try.underlying9 w1) trodAll_mk0)), rfl, Below.frame bel _, fun h => by cases h⟩

theorem over : Rows.fnAddClassTableRow.holds Try.pinned (OpenSpec.ofChange Rows.fnAddClassTableSpec) :=
  OpenClaim.holds_of_wide 3 Try.f3 rfl rfl rfl rfl rfl rfl rfl ⟨rfl, rfl, rfl, rfl, rfl⟩ rfl rfl rfl rfl rfl (by kernel_rfl) Try.func3 (by kernel_rfl)
    (of_decide_eq_true (by kernel_rfl)) (by unfold Func.isWrapper; first | (rw [if_pos (by decide +kernel)]; kernel_rfl) | (rw [if_neg (by decide +kernel)]; exact ⟨rfl, rfl⟩))
    (fun os started H enc _ => lifted os started H enc)

/-- THE STATEMENT -/
theorem proved : Rows.FnAddClassTableSaid := over
#print axioms proved
end Go.Proofs.Qxb6602360a.fnAddClassTable

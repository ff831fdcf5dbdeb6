/-
  'Rows.FnDigitsAcceptsEveryRenderedNumberSaid', PROVED. The frame is the shell's own (proof-skeleton.mjs); the walk is mine.
-/
import Derived.Test.Qxb6601839aRows
import Derived.WalkKit
import Derived.ProofKit
import Derived.OpenShut
import Derived.ShutString
import Derived.Test.Qxb6601839aItoa
namespace Go.Proofs.Qxb6601839a.fnDigitsAcceptsEveryRenderedNumber
open Go.ChangeShapes Go.WideShapes Go.ChangeAt Go.RowKit
open Go.ChangeMaps (open_string shut_string)
set_option linter.unusedVariables false      -- a walk need not use every 'w<i>' (that an integer argument fits its kind)

theorem own : ownKnob Try.prog.godebug = none := by kernel_rfl

theorem data_append (a b : ByteArray) : (a ++ b).data.toList = a.data.toList ++ b.data.toList := by simp
theorem size_append (a b : ByteArray) : (a ++ b).size = a.size + b.size := by simp

/-- Two strings put together: the sum's run, its size, whether it is all digits. -/
theorem joined (a b : ByteArray) (h : a.size + b.size ≤ 40) (v : Bool) (hv : Dig.digB (a.data.toList ++ b.data.toList) = v) :
    ∃ d : ByteArray, (∀ w, (Op.stringOp .add a b).run Try.prog w = .ok (.string d) w) ∧ d.size ≤ maxLen ∧ Dig.digB d.data.toList = v :=
  ⟨a ++ b, fun w => run_string_add_sum w a b (by omega), by rw [size_append]; unfold maxLen; omega, by rw [data_append]; exact hv⟩

theorem front (c : UInt8) (l : List UInt8) : Dig.digB ([c] ++ l) = (Dig.isD c && l.all Dig.isD) := by simp [Dig.digB]
theorem back (l m : List UInt8) (h : m.all Dig.isD = false) : Dig.digB (l ++ m) = false := by
  unfold Dig.digB; rw [List.all_append, h]; simp

/-! ### STEP 1: THE WALK -/
set_option maxHeartbeats 400000 in
theorem walk (a0 : Int) (w0 : (Lit.int .u64 a0).wf = true) (w : World) :
    Calls Try.prog 5 #[.int .u64 a0] w fun e w' => e = .returned (.bool true) ∧ Grown w w' := by
  have hb := bounds_u64 w0
  go_enter Try.func5, Try.ntmps5
  go_wp2_with fail
  refine (itoa_any a0 hb.1 (by omega) _).mono ?_
  rintro e w1 ⟨d, rfl, hsz, hd, hg⟩
  have hall : d.data.toList.all Dig.isD = true := by
    unfold Dig.digB at hd; rw [Bool.and_eq_true] at hd; exact hd.2
  have hm : d.size ≤ maxLen := by unfold maxLen; omega
  obtain ⟨d0, r0, m0, v0⟩ := joined ⟨#[48]⟩ d (by show 1 + _ ≤ _; omega) true (by rw [front, hall]; rfl)
  obtain ⟨d1, r1, m1, v1⟩ := joined ⟨#[45]⟩ d (by show 1 + _ ≤ _; omega) false (by rw [front]; rfl)
  obtain ⟨d2, r2, m2, v2⟩ := joined ⟨#[43]⟩ d (by show 1 + _ ≤ _; omega) false (by rw [front]; rfl)
  obtain ⟨d3, r3, m3, v3⟩ := joined d ⟨#[46, 48]⟩ (by show _ + 2 ≤ _; omega) false (back _ _ rfl)
  obtain ⟨d4, r4, m4, v4⟩ := joined d ⟨#[32]⟩ (by show _ + 1 ≤ _; omega) false (back _ _ rfl)
  clear hall hsz
  go_wp2_with (go_at_call 11; refine (digits_any _ _ (by assumption)).mono ?_; rintro e w' ⟨rfl, rfl⟩)
  go_ret
  exact ⟨rfl, hg⟩

/-! ### THE ROW's STEP: WRITTEN OUT: LEAVE IT -/
set_option maxRecDepth 100000 in
theorem lifted (os : Os) (started : os.Started) (H : Type) (enc : TypeId × Value → H) :
    ReturnsInHanded {} Try.checked os 5 .any (Rows.fnDigitsAcceptsEveryRenderedNumberSpec.pre6 enc Try.prog Try.f5 Rows.fnDigitsAcceptsEveryRenderedNumberRow.domain false) (Rows.fnDigitsAcceptsEveryRenderedNumberSpec.post enc Try.prog Try.f5 false true false false) := by
  refine returnsInHanded_of_change (C := Try.checked) own started (by kernel_rfl) Try.func5
    (ChangeSpec.witness6 (enc := enc) (C := Try.checked) false ⟨#[], #[.int .u64 0], []⟩ 8 (by kernel_rfl) (by kernel_rfl) (by kernel_rfl) (by kernel_rfl)) ?_
  intro W base args ds gs before hval0 hW hcnd _
  have hval : ∀ (j : Nat) t v, Try.f5.params[j]? = some t → args[j]? = some v → Value.okWide Try.prog W .any base t v := hval0
  have hW' := hW
  obtain ⟨p, q, hA0, hV, rfl, hfz, hnd⟩ := hW
  have hA : DataW.TrodAll enc Try.prog W 0 (fun _ => true) true Try.f5.params.toList args.toList ds p := hA0
  rw [Try.params5] at hA hval
  obtain ⟨v0, vs0, d0, ds0, p0, q0, hargs, rfl, rfl, h0, r0⟩ := trodAll_cons hA
  obtain ⟨rfl, rfl, rfl⟩ := trodAll_nil r0
  obtain rfl : args = #[v0] := by cases args; simp_all
  obtain ⟨rfl, rfl⟩ := trodVars_none hV
  obtain ⟨a0, rfl, rfl, rfl, w0⟩ := open_int Try.underlying25 (hval 0 25 v0 rfl rfl) h0
  clear hA0 hval0
  simp only [List.append_nil] at hW'
  refine (walk a0 w0 W).mono fun e W' ⟨he, hg⟩ => ?_
  subst he
  exact ⟨_, rfl, post_of_same (pa := []) (pv := []) hW' (fun _ _ _ => (trodAll_cons_mk (shut_bool Try.underlying4 _) trodAll_mk0)) (fun sp _ => (trodAll_cons_mk (shut_int Try.underlying25 w0) trodAll_mk0)) (fun _ _ => rfl) rfl
    (hg.frame _) hg.2.1 (ok_one (by kernel_rfl) rfl (okWide_bool_mk Try.underlying4 _))⟩

theorem over : Rows.fnDigitsAcceptsEveryRenderedNumberRow.holds Try.pinned (OpenSpec.ofChange Rows.fnDigitsAcceptsEveryRenderedNumberSpec) :=
  OpenClaim.holds_of_wide 5 Try.f5 rfl rfl rfl rfl rfl rfl rfl ⟨rfl, rfl, rfl, rfl, rfl⟩ rfl rfl rfl rfl rfl (by kernel_rfl) Try.func5 (by kernel_rfl)
    (of_decide_eq_true (by kernel_rfl)) (by unfold Func.isWrapper; first | (rw [if_pos (by decide +kernel)]; kernel_rfl) | (rw [if_neg (by decide +kernel)]; exact ⟨rfl, rfl⟩))
    (fun os started H enc _ => lifted os started H enc)

/-- ████ THE STATEMENT ████ -/
theorem proved : Rows.FnDigitsAcceptsEveryRenderedNumberSaid :=
  over
#print axioms proved
end Go.Proofs.Qxb6601839a.fnDigitsAcceptsEveryRenderedNumber

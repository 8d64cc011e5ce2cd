/-
A new PushTelemetryResponse is written, at every version, as the reference writes its default: for every input the law returns true. No condition.
-/
import Derived.Test.YtkhmglikdlgfpaaFacts
import Derived.Test.YtkhmglikdlgfpaaMPushTelemetryResponse
import Derived.WalkKit
import Derived.ProofKit
import Derived.OpenShut
import Derived.ShutString
import Derived.ChangeOld
import Derived.Below
import Derived.SizedLaws
namespace Go.Proofs.Ytkhmglikdlgfpaa
set_option linter.all false
namespace fnNewPushTelemetryResponse
open Go.ChangeShapes Go.WideShapes Go.ChangeAt Go.RowKit
theorem own : ownKnob Try.prog.godebug = none := by kernel_rfl
set_option maxRecDepth 100000 in
theorem lifted (os : Os) (started : os.Started) (H : Type) (enc : TypeId × Value → H) :
    ReturnsInHanded {} Try.checked os 4 .any (Rows.fnNewPushTelemetryResponseSpec.pre6 enc Try.prog Try.f4 Rows.fnNewPushTelemetryResponseRow.domain false) (Rows.fnNewPushTelemetryResponseSpec.post enc Try.prog Try.f4 false true false false) := by
  refine returnsInHanded_of_change_sized (C := Try.checked) own started (by kernel_rfl) Try.func4
    (ChangeSpec.witness6 (enc := enc) (C := Try.checked) false ⟨#[], #[.int .u8 0], []⟩ 8 (by kernel_rfl) (by kernel_rfl) (by kernel_rfl) (by kernel_rfl)) ?_
  intro W base args ds gs before hval0 hW hcnd hsz0 _
  have hval : ∀ (j : Nat) t v, Try.f4.params[j]? = some t → args[j]? = some v → Value.okWide Try.prog W .any base t v := hval0
  have hW' := hW
  obtain ⟨p, q, hA0, hV, rfl, hfz, hnd⟩ := hW
  have hA : DataW.TrodAll enc Try.prog W 0 (fun _ => true) true Try.f4.params.toList args.toList ds p := hA0
  rw [Try.params4] at hA hval
  obtain ⟨v0, vs0, d0, ds0, p0, q0, hargs, rfl, rfl, h0, r0⟩ := trodAll_cons hA
  obtain ⟨rfl, rfl, rfl⟩ := trodAll_nil r0
  obtain rfl : args = #[v0] := by cases args; simp_all
  obtain ⟨rfl, rfl⟩ := trodVars_none hV
  obtain ⟨a0, rfl, rfl, rfl, w0⟩ := open_int Try.underlying5 (hval 0 5 v0 rfl rfl) h0
  clear hA0 hval0 hsz0
  simp only [List.append_nil] at hW'
  have hr : 0 ≤ a0 ∧ a0 < 256 := by have h := w0; simp only [Lit.wf, IntKind.min, IntKind.max, IntKind.signed, IntKind.bits, Bool.and_eq_true, decide_eq_true_eq] at h; simp at h; omega
  refine Calls.mono (walk_PushTelemetryResponse a0 hr.1 hr.2 W) fun e W' ⟨v, he, hv, hc⟩ => ?_
  subst he
  subst hv
  exact ⟨_, rfl, _, _, _, [], _, [], hW', trodAll_cons_mk (shut_bool Try.underlying4 _) trodAll_mk0, trodAll_cons_mk (shut_int Try.underlying5 w0) trodAll_mk0, rfl, (below_of hc).frame _, fun h => by cases h⟩
theorem c2 : (Rows.fnNewPushTelemetryResponseRow.inPlace == Try.prog.inPlace 4) = true := by kernel_rfl
theorem c3 : (Rows.fnNewPushTelemetryResponseRow.unfollowed == Try.prog.unfollowed 4) = true := by kernel_rfl
theorem c4 : (Rows.fnNewPushTelemetryResponseRow.recurses == Try.prog.recurses 4) = true := by kernel_rfl
theorem c5 : (Rows.fnNewPushTelemetryResponseRow.named == Try.prog.varsNamed 4) = true := by kernel_rfl
theorem c7 : (Rows.fnNewPushTelemetryResponseRow.lifted == Try.prog.liftsFinal) = true := by
  have h : Rows.fnNewPushTelemetryResponseRow.lifted = Facts.lifted := rfl
  rw [h]; exact Facts.c7
theorem c8 : (Try.prog.make == some Rows.fnNewPushTelemetryResponseRow.make) = true := by
  have h : Rows.fnNewPushTelemetryResponseRow.make = Facts.make := rfl
  rw [h]; exact Facts.c8
theorem c9 : (Rows.fnNewPushTelemetryResponseRow.plainKeys == Try.prog.plainKeys) = true := by
  have h : Rows.fnNewPushTelemetryResponseRow.plainKeys = Facts.plainKeys := rfl
  rw [h]; exact Facts.c9
theorem c11 : Try.prog.funcNamed Rows.fnNewPushTelemetryResponseRow.func = some 4 := by kernel_rfl
theorem closed : joinedFacts Try.prog 4 Try.f4 Rows.fnNewPushTelemetryResponseSpec Rows.fnNewPushTelemetryResponseRow = true := by
  unfold joinedFacts
  simp only [Bool.and_eq_true]
  repeat' (refine And.intro ?_ ?_)
  all_goals first | with_reducible exact Facts.c1 | with_reducible exact Facts.c0 | with_reducible exact c2 | with_reducible exact c3 | with_reducible exact c4 | with_reducible exact c5 | with_reducible exact Facts.c6 | with_reducible exact c7 | with_reducible exact c8 | with_reducible exact c9 | with_reducible exact Facts.c10 | kernel_rfl
theorem over : Rows.fnNewPushTelemetryResponseRow.holds Try.pinned (OpenSpec.ofChange Rows.fnNewPushTelemetryResponseSpec) :=
  OpenClaim.holds_of_wide 4 Try.f4 rfl rfl rfl rfl rfl rfl rfl ⟨rfl, rfl, rfl, rfl, rfl⟩ rfl rfl rfl rfl rfl c11 Try.func4 closed
    (of_decide_eq_true (by kernel_rfl)) (by unfold Func.isWrapper; first | (rw [if_pos (by decide +kernel)]; kernel_rfl) | (rw [if_neg (by decide +kernel)]; exact ⟨rfl, rfl⟩))
    (fun os started H enc _ => lifted os started H enc)
end fnNewPushTelemetryResponse
/-- The statement. -/
theorem fnNewPushTelemetryResponse_holds : Rows.FnNewPushTelemetryResponseSaid := fnNewPushTelemetryResponse.over
#print axioms fnNewPushTelemetryResponse_holds
end Go.Proofs.Ytkhmglikdlgfpaa

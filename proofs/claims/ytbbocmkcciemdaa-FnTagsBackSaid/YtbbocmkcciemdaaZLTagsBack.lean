/-
For every list of tags the law returns true: what is written of tags, behind how many they are, is read as the same tags. The input reads as it did. No condition.
-/
import Derived.Test.YtbbocmkcciemdaaZF
import Derived.Test.YtbbocmkcciemdaaZR
import Derived.SizedLaws
namespace Go.Proofs.Ytbbocmkcciemdaa
set_option linter.all false
namespace fnTagsBack
open Go.ChangeShapes Go.WideShapes Go.ChangeAt Go.RowKit
theorem own : ownKnob Try.prog.godebug = none := by kernel_rfl
set_option maxRecDepth 100000 in
theorem lifted (os : Os) (started : os.Started) (H : Type) (enc : TypeId × Value → H) :
    ReturnsInHanded {} Try.checked os 3 .any (Rows.fnTagsBackSpec.pre6 enc Try.prog Try.f3 Rows.fnTagsBackRow.domain false) (Rows.fnTagsBackSpec.post enc Try.prog Try.f3 false true false false) := by
  refine returnsInHanded_of_change_sized (C := Try.checked) own started (by kernel_rfl) Try.func3
    (ChangeSpec.witness6 (enc := enc) (C := Try.checked) false ⟨#[], #[.slice none 0 0], []⟩ 8 (by kernel_rfl) (by kernel_rfl) (by kernel_rfl) (by kernel_rfl)) ?_
  intro W base args ds gs before hval0 hW hcnd hsz0 _
  have hval : ∀ (j : Nat) t v, Try.f3.params[j]? = some t → args[j]? = some v → Value.okWide Try.prog W .any base t v := hval0
  have hW' := hW
  obtain ⟨p, q, hA0, hV, rfl, hfz, hnd⟩ := hW
  have hA : DataW.TrodAll enc Try.prog W 0 (fun _ => true) true Try.f3.params.toList args.toList ds p := hA0
  rw [Try.params3] at hA hval
  obtain ⟨v0, vs0, d0, ds0, p0, q0, hargs, rfl, rfl, h0, r0⟩ := trodAll_cons hA
  obtain ⟨rfl, rfl, rfl⟩ := trodAll_nil r0
  obtain rfl : args = #[v0] := by cases args; simp_all
  obtain ⟨rfl, rfl⟩ := trodVars_none hV
  obtain ⟨t0, hT⟩ := itags_arg (hval 0 22 v0 rfl rfl) h0
  clear hA0 hval0 hsz0
  simp only [List.append_nil] at hW'
  have hlt : ∀ x ∈ _, MemPlace.block x < W.heap.size := fun x hx => hW'.lt x hx
  refine Calls.mono (walk_tags hT fun _ h => h) fun e W' ⟨v, he, hv, hc⟩ => ?_
  subst he
  subst hv
  exact ⟨_, rfl, _, _, _, [], _, [], hW', trodAll_cons_mk (shut_bool Try.underlying4 _) trodAll_mk0, trodAll_cons_mk (itags_same h0 hc (fun x hx => hlt x (by simp [hx]))) trodAll_mk0, rfl, (below_of hc).frame _, fun h => by cases h⟩
theorem c2 : (Rows.fnTagsBackRow.inPlace == Try.prog.inPlace 3) = true := by kernel_rfl
theorem c3 : (Rows.fnTagsBackRow.unfollowed == Try.prog.unfollowed 3) = true := by kernel_rfl
theorem c4 : (Rows.fnTagsBackRow.recurses == Try.prog.recurses 3) = true := by kernel_rfl
theorem c5 : (Rows.fnTagsBackRow.named == Try.prog.varsNamed 3) = true := by kernel_rfl
theorem c7 : (Rows.fnTagsBackRow.lifted == Try.prog.liftsFinal) = true := by
  have h : Rows.fnTagsBackRow.lifted = Facts.lifted := rfl
  rw [h]; exact Facts.c7
theorem c8 : (Try.prog.make == some Rows.fnTagsBackRow.make) = true := by
  have h : Rows.fnTagsBackRow.make = Facts.make := rfl
  rw [h]; exact Facts.c8
theorem c9 : (Rows.fnTagsBackRow.plainKeys == Try.prog.plainKeys) = true := by
  have h : Rows.fnTagsBackRow.plainKeys = Facts.plainKeys := rfl
  rw [h]; exact Facts.c9
theorem c11 : Try.prog.funcNamed Rows.fnTagsBackRow.func = some 3 := by kernel_rfl
theorem closed : joinedFacts Try.prog 3 Try.f3 Rows.fnTagsBackSpec Rows.fnTagsBackRow = true := by
  unfold joinedFacts
  simp only [Bool.and_eq_true]
  repeat' (refine And.intro ?_ ?_)
  all_goals first | with_reducible exact Facts.c1 | with_reducible exact Facts.c0 | with_reducible exact c2 | with_reducible exact c3 | with_reducible exact c4 | with_reducible exact c5 | with_reducible exact Facts.c6 | with_reducible exact c7 | with_reducible exact c8 | with_reducible exact c9 | with_reducible exact Facts.c10 | kernel_rfl
theorem over : Rows.fnTagsBackRow.holds Try.pinned (OpenSpec.ofChange Rows.fnTagsBackSpec) :=
  OpenClaim.holds_of_wide 3 Try.f3 rfl rfl rfl rfl rfl rfl rfl ⟨rfl, rfl, rfl, rfl, rfl⟩ rfl rfl rfl rfl rfl c11 Try.func3 closed
    (of_decide_eq_true (by kernel_rfl)) (by unfold Func.isWrapper; first | (rw [if_pos (by decide +kernel)]; kernel_rfl) | (rw [if_neg (by decide +kernel)]; exact ⟨rfl, rfl⟩))
    (fun os started H enc _ => lifted os started H enc)
end fnTagsBack
theorem fnTagsBack_holds : Rows.FnTagsBackSaid := fnTagsBack.over
#print axioms fnTagsBack_holds
end Go.Proofs.Ytbbocmkcciemdaa

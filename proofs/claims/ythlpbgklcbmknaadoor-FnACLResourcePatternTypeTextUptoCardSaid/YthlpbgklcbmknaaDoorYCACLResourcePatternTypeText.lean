/-
A value that the documentation names is written as its word, and read back (ACLResourcePatternTypeText): for every input the law returns true. Conditions: the listed variables hold what the text lays (tied by the card).
-/
import Derived.Test.YthlpbgklcbmknaaDoorYF
import Derived.Test.YthlpbgklcbmknaaDoorYP
import Derived.Test.YthlpbgklcbmknaaDoorYO
namespace Go.Proofs.YthlpbgklcbmknaaDoor
set_option linter.all false
namespace fnACLResourcePatternTypeText
open Go.ChangeShapes Go.WideShapes Go.ChangeAt Go.RowKit
set_option maxRecDepth 100000
set_option maxHeartbeats 1000000
theorem witness_row (os : Os) {H : Type} (enc : TypeId × Value → H) :
    (Rows.OpenSpec.upto Rows.fnACLResourcePatternTypeTextSpec).preRow enc Tryd.prog Tryd.f4 Rows.fnACLResourcePatternTypeTextUptoRow.domain false Rows.fnACLResourcePatternTypeTextUptoRow.laid ((laidWorld os).forCall (fun _ _ => 0) ⟨#[], #[.int .i8 0], []⟩).memory #[.int .i8 0] := by
  have hw : (DataW.whole enc Tryd.prog ((laidWorld os).forCall (fun _ _ => 0) ⟨#[], #[.int .i8 0], []⟩).memory Tryd.f4.params.toList Rows.fnACLResourcePatternTypeTextSpec.vars false (#[.int .i8 0] : Array Value).toList 8).map (fun x => (decide (Rows.uptoBulkAll (x.1 ++ x.2.1) ≤ 1048576))) = some true := by kernel_rfl
  obtain ⟨⟨x1, x2, x3⟩, hx, hx1⟩ := Option.map_eq_some_iff.1 hw
  exact OpenSpec.preRow_of_cond 8 hx (by kernel_rfl) (fun k hk => by cases hk; exact hx1) (by kernel_rfl) (laid_met os _)
theorem lifted (os : Os) (started : os.Started) (H : Type) (enc : TypeId × Value → H) (F : Stop.Interp) :
    ReturnsInHanded {} Tryd.checked os 4 .any ((Rows.OpenSpec.upto Rows.fnACLResourcePatternTypeTextSpec).preRow enc Tryd.prog Tryd.f4 Rows.fnACLResourcePatternTypeTextUptoRow.domain false Rows.fnACLResourcePatternTypeTextUptoRow.laid) (((Rows.OpenSpec.upto Rows.fnACLResourcePatternTypeTextSpec).at F).post enc Tryd.prog Tryd.f4 false true false false) := by
  refine returnsInHanded_of_row (C := Tryd.checked) (s := Rows.OpenSpec.upto Rows.fnACLResourcePatternTypeTextSpec) own started (by kernel_rfl) Tryd.func4
    (witness_row_atRef (enc := enc) (C := Tryd.checked) false (laidWorld os) #[.int .i8 0] rfl (by kernel_rfl) (by kernel_rfl) (by kernel_rfl) (witness_row os enc)) ?_
  intro W base args ds gs before hval0 hW _ hcond _ hL _ _
  have hval : ∀ (j : Nat) t v, Tryd.f4.params[j]? = some t → args[j]? = some v → Value.okWide Tryd.prog W .any base t v := hval0
  have hW' := hW
  obtain ⟨p, q, hA0, hV, rfl, hfz, hnd⟩ := hW
  have hA : DataW.TrodAll enc Tryd.prog W 0 (fun _ => true) true Tryd.f4.params.toList args.toList ds p := hA0
  rw [Tryd.params4] at hA hval
  obtain ⟨v0, vs0, d0, ds0, p0, q0, hargs, rfl, rfl, h0, r0⟩ := trodAll_cons hA
  obtain ⟨rfl, rfl, rfl⟩ := trodAll_nil r0
  obtain rfl : args = #[v0] := by cases args; simp_all
  obtain ⟨rfl, rfl⟩ := trodVars_none hV
  simp only [List.append_nil] at hW' hcond
  have hbulk := hcond _ rfl
  replace hbulk := of_decide_eq_true hbulk
  simp only [Rows.uptoBulkAll] at hbulk
  have hlt : ∀ x ∈ _, MemPlace.block x < W.heap.size := fun x hx => hW'.lt x hx
  obtain ⟨a0, rfl, rfl, rfl, x0⟩ := open_int Tryd.underlying30 (hval 0 30 v0 rfl rfl) h0
  have y0 : -128 ≤ a0 ∧ a0 < 128 := by have h := x0; simp only [Lit.wf, IntKind.min, IntKind.max, IntKind.signed, IntKind.bits, Bool.and_eq_true, decide_eq_true_eq] at h; simp at h; omega
  clear hA0 hval0
  refine Calls.mono (walk_FnACLResourcePatternTypeText y0.1 y0.2 (spaceW_of hL)) fun e W' ⟨v, he, hv, hc⟩ => ?_
  subst he
  subst hv
  exact ⟨_, rfl, _, _, _, [], _, [], hW', trodAll_cons_mk (shut_bool Tryd.underlying4 _) trodAll_mk0, trodAll_cons_mk (shut_int Tryd.underlying30 x0) (trodAll_mk0), rfl, (below_of hc).frame _, fun h => by cases h⟩
theorem c2 : (Rows.fnACLResourcePatternTypeTextUptoRow.inPlace == Tryd.prog.inPlace 4) = true := by kernel_rfl
theorem c3 : (Rows.fnACLResourcePatternTypeTextUptoRow.unfollowed == Tryd.prog.unfollowed 4) = true := by kernel_rfl
theorem c4 : (Rows.fnACLResourcePatternTypeTextUptoRow.recurses == Tryd.prog.recurses 4) = true := by kernel_rfl
theorem c5 : (Rows.fnACLResourcePatternTypeTextUptoRow.named == Tryd.prog.varsNamed 4) = true := by kernel_rfl
theorem c7 : (Rows.fnACLResourcePatternTypeTextUptoRow.lifted == Tryd.prog.liftsFinal) = true := by
  have h : Rows.fnACLResourcePatternTypeTextUptoRow.lifted = Facts.lifted := rfl
  rw [h]; exact Facts.c7
theorem c8 : (Tryd.prog.make == some Rows.fnACLResourcePatternTypeTextUptoRow.make) = true := by
  have h : Rows.fnACLResourcePatternTypeTextUptoRow.make = Facts.make := rfl
  rw [h]; exact Facts.c8
theorem c9 : (Rows.fnACLResourcePatternTypeTextUptoRow.plainKeys == Tryd.prog.plainKeys) = true := by
  have h : Rows.fnACLResourcePatternTypeTextUptoRow.plainKeys = Facts.plainKeys := rfl
  rw [h]; exact Facts.c9
theorem c11 : Tryd.prog.funcNamed Rows.fnACLResourcePatternTypeTextUptoRow.func = some 4 := by kernel_rfl
theorem closed : joinedFacts Tryd.prog 4 Tryd.f4 (Rows.OpenSpec.upto Rows.fnACLResourcePatternTypeTextSpec).bare Rows.fnACLResourcePatternTypeTextUptoRow = true := by
  unfold joinedFacts
  simp only [Bool.and_eq_true]
  repeat' (refine And.intro ?_ ?_)
  all_goals first | with_reducible exact Facts.c1 | with_reducible exact Facts.c0 | with_reducible exact c2 | with_reducible exact c3 | with_reducible exact c4 | with_reducible exact c5 | with_reducible exact Facts.c6 | with_reducible exact c7 | with_reducible exact c8 | with_reducible exact c9 | with_reducible exact Facts.c10 | kernel_rfl
theorem over : Rows.FnACLResourcePatternTypeTextUptoSaid :=
  OpenClaim.holds_of_cond 4 Tryd.f4 rfl rfl rfl rfl rfl rfl rfl ⟨rfl, rfl, rfl, rfl, rfl⟩ rfl rfl rfl rfl rfl c11 Tryd.func4 closed
    (of_decide_eq_true (by kernel_rfl)) (by unfold Func.isWrapper; first | (rw [if_pos (by decide +kernel)]; kernel_rfl) | (rw [if_neg (by decide +kernel)]; exact ⟨rfl, rfl⟩))
    (fun os started H enc _ F => by rw [OpenClaim.pre_eq_preRow]; exact lifted os started H enc F)
theorem plain (f : FuncId) (fn : Func) (hf : Tryd.pinned.checked.prog.funcNamed "pub-kmsg/laws.FnACLResourcePatternTypeText" = some f) (hfn : Tryd.pinned.checked.prog.funcs[f]? = some fn) :
    false = Tryd.pinned.checked.prog.looks [] ∧ ∀ (j : Nat) t, fn.params[j]? = some t → Tryd.pinned.checked.prog.wantsStandIn t = false := by
  obtain rfl : f = 4 := Option.some.inj ((show Tryd.prog.funcNamed "pub-kmsg/laws.FnACLResourcePatternTypeText" = some 4 by kernel_rfl).symm.trans hf) |>.symm
  obtain rfl : fn = Tryd.f4 := (Option.some.inj (Tryd.func4.symm.trans hfn)).symm
  refine ⟨by kernel_rfl, fun j t ht => ?_⟩
  rw [Tryd.params4] at ht
  have hw0 : Tryd.prog.wantsStandIn 30 = false := by kernel_rfl
  have hm := Array.mem_of_getElem? ht
  simp only [List.mem_toArray, List.mem_cons, List.not_mem_nil, or_false] at hm
  rcases hm with rfl <;> assumption
end fnACLResourcePatternTypeText
theorem fnACLResourcePatternTypeText_holds : Rows.FnACLResourcePatternTypeTextUptoCardSaid :=
  Claim7.holds_tied_plain_at .later [] _ _ _ _ fnACLResourcePatternTypeText.over (fun _ h => by cases h) (by kernel_rfl) (fun _ h => by cases h) fnACLResourcePatternTypeTextUpto_row_tie rfl ⟨rfl, rfl⟩ (by kernel_rfl) rfl fnACLResourcePatternTypeText.plain (by kernel_rfl)
#print axioms fnACLResourcePatternTypeText_holds
end Go.Proofs.YthlpbgklcbmknaaDoor

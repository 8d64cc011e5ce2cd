/-
A text is read as the value whose word it is (ConfigSource), any other one is an error; so is a text that is unmarshalled: for every input of bulk at most 1048576 the law returns true. Conditions: the listed variables hold what the text lays (tied by the card).
-/
import Derived.Test.YthlpbgklcbmknaaDoorZF
import Derived.Test.YthlpbgklcbmknaaDoorZP
import Derived.Test.YthlpbgklcbmknaaDoorZO
namespace Go.Proofs.YthlpbgklcbmknaaDoor
set_option linter.all false
namespace fnParseConfigSource
open Go.ChangeShapes Go.WideShapes Go.ChangeAt Go.RowKit
set_option maxRecDepth 100000
set_option maxHeartbeats 1000000
theorem witness_row (os : Os) {H : Type} (enc : TypeId × Value → H) :
    (Rows.OpenSpec.upto Rows.fnParseConfigSourceSpec).preRow enc Tryd.prog Tryd.f3 Rows.fnParseConfigSourceUptoRow.domain false Rows.fnParseConfigSourceUptoRow.laid ((laidWorld os).forCall (fun _ _ => 0) ⟨#[], #[.string ⟨#[]⟩], []⟩).memory #[.string ⟨#[]⟩] := by
  have hw : (DataW.whole enc Tryd.prog ((laidWorld os).forCall (fun _ _ => 0) ⟨#[], #[.string ⟨#[]⟩], []⟩).memory Tryd.f3.params.toList Rows.fnParseConfigSourceSpec.vars false (#[.string ⟨#[]⟩] : Array Value).toList 8).map (fun x => (decide (Rows.uptoBulkAll (x.1 ++ x.2.1) ≤ 1048576))) = some true := by kernel_rfl
  obtain ⟨⟨x1, x2, x3⟩, hx, hx1⟩ := Option.map_eq_some_iff.1 hw
  exact OpenSpec.preRow_of_cond 8 hx (by kernel_rfl) (fun k hk => by cases hk; exact hx1) (by kernel_rfl) (laid_met os _)
theorem lifted (os : Os) (started : os.Started) (H : Type) (enc : TypeId × Value → H) (F : Stop.Interp) :
    ReturnsInHanded {} Tryd.checked os 3 .any ((Rows.OpenSpec.upto Rows.fnParseConfigSourceSpec).preRow enc Tryd.prog Tryd.f3 Rows.fnParseConfigSourceUptoRow.domain false Rows.fnParseConfigSourceUptoRow.laid) (((Rows.OpenSpec.upto Rows.fnParseConfigSourceSpec).at F).post enc Tryd.prog Tryd.f3 false true false false) := by
  refine returnsInHanded_of_row (C := Tryd.checked) (s := Rows.OpenSpec.upto Rows.fnParseConfigSourceSpec) own started (by kernel_rfl) Tryd.func3
    (witness_row_atRef (enc := enc) (C := Tryd.checked) false (laidWorld os) #[.string ⟨#[]⟩] rfl (by kernel_rfl) (by kernel_rfl) (by kernel_rfl) (witness_row os enc)) ?_
  intro W base args ds gs before hval0 hW _ hcond _ hL _ _
  have hval : ∀ (j : Nat) t v, Tryd.f3.params[j]? = some t → args[j]? = some v → Value.okWide Tryd.prog W .any base t v := hval0
  have hW' := hW
  obtain ⟨p, q, hA0, hV, rfl, hfz, hnd⟩ := hW
  have hA : DataW.TrodAll enc Tryd.prog W 0 (fun _ => true) true Tryd.f3.params.toList args.toList ds p := hA0
  rw [Tryd.params3] at hA hval
  obtain ⟨v0, vs0, d0, ds0, p0, q0, hargs, rfl, rfl, h0, r0⟩ := trodAll_cons hA
  obtain ⟨rfl, rfl, rfl⟩ := trodAll_nil r0
  obtain rfl : args = #[v0] := by cases args; simp_all
  obtain ⟨rfl, rfl⟩ := trodVars_none hV
  simp only [List.append_nil] at hW' hcond
  have hbulk := hcond _ rfl
  replace hbulk := of_decide_eq_true hbulk
  simp only [Rows.uptoBulkAll] at hbulk
  have hlt : ∀ x ∈ _, MemPlace.block x < W.heap.size := fun x hx => hW'.lt x hx
  obtain ⟨s0, rfl, rfl, rfl, ws0⟩ := Go.ChangeMaps.open_string Tryd.underlying9 (hval 0 9 v0 rfl rfl) h0
  obtain ⟨l0, rfl⟩ : ∃ l : Bs', s0 = ⟨l.toArray⟩ := ⟨s0.data.toList, by cases s0; simp⟩
  have hl0 : l0.length ≤ 1048576 := by simp [Rows.uptoBulk] at hbulk; omega
  clear hA0 hval0
  refine Calls.mono (walk_FnParseConfigSource hl0 (spaceW_of hL)) fun e W' ⟨v, he, hv, hc⟩ => ?_
  subst he
  subst hv
  exact ⟨_, rfl, _, _, _, [], _, [], hW', trodAll_cons_mk (shut_bool Tryd.underlying4 _) trodAll_mk0, trodAll_cons_mk (Go.ChangeMaps.shut_string Tryd.underlying9 ws0) (trodAll_mk0), rfl, (below_of hc).frame _, fun h => by cases h⟩
theorem c2 : (Rows.fnParseConfigSourceUptoRow.inPlace == Tryd.prog.inPlace 3) = true := by kernel_rfl
theorem c3 : (Rows.fnParseConfigSourceUptoRow.unfollowed == Tryd.prog.unfollowed 3) = true := by kernel_rfl
theorem c4 : (Rows.fnParseConfigSourceUptoRow.recurses == Tryd.prog.recurses 3) = true := by kernel_rfl
theorem c5 : (Rows.fnParseConfigSourceUptoRow.named == Tryd.prog.varsNamed 3) = true := by kernel_rfl
theorem c7 : (Rows.fnParseConfigSourceUptoRow.lifted == Tryd.prog.liftsFinal) = true := by
  have h : Rows.fnParseConfigSourceUptoRow.lifted = Facts.lifted := rfl
  rw [h]; exact Facts.c7
theorem c8 : (Tryd.prog.make == some Rows.fnParseConfigSourceUptoRow.make) = true := by
  have h : Rows.fnParseConfigSourceUptoRow.make = Facts.make := rfl
  rw [h]; exact Facts.c8
theorem c9 : (Rows.fnParseConfigSourceUptoRow.plainKeys == Tryd.prog.plainKeys) = true := by
  have h : Rows.fnParseConfigSourceUptoRow.plainKeys = Facts.plainKeys := rfl
  rw [h]; exact Facts.c9
theorem c11 : Tryd.prog.funcNamed Rows.fnParseConfigSourceUptoRow.func = some 3 := by kernel_rfl
theorem closed : joinedFacts Tryd.prog 3 Tryd.f3 (Rows.OpenSpec.upto Rows.fnParseConfigSourceSpec).bare Rows.fnParseConfigSourceUptoRow = true := by
  unfold joinedFacts
  simp only [Bool.and_eq_true]
  repeat' (refine And.intro ?_ ?_)
  all_goals first | with_reducible exact Facts.c1 | with_reducible exact Facts.c0 | with_reducible exact c2 | with_reducible exact c3 | with_reducible exact c4 | with_reducible exact c5 | with_reducible exact Facts.c6 | with_reducible exact c7 | with_reducible exact c8 | with_reducible exact c9 | with_reducible exact Facts.c10 | kernel_rfl
theorem over : Rows.FnParseConfigSourceUptoSaid :=
  OpenClaim.holds_of_cond 3 Tryd.f3 rfl rfl rfl rfl rfl rfl rfl ⟨rfl, rfl, rfl, rfl, rfl⟩ rfl rfl rfl rfl rfl c11 Tryd.func3 closed
    (of_decide_eq_true (by kernel_rfl)) (by unfold Func.isWrapper; first | (rw [if_pos (by decide +kernel)]; kernel_rfl) | (rw [if_neg (by decide +kernel)]; exact ⟨rfl, rfl⟩))
    (fun os started H enc _ F => by rw [OpenClaim.pre_eq_preRow]; exact lifted os started H enc F)
theorem plain (f : FuncId) (fn : Func) (hf : Tryd.pinned.checked.prog.funcNamed "pub-kmsg/laws.FnParseConfigSource" = some f) (hfn : Tryd.pinned.checked.prog.funcs[f]? = some fn) :
    false = Tryd.pinned.checked.prog.looks [] ∧ ∀ (j : Nat) t, fn.params[j]? = some t → Tryd.pinned.checked.prog.wantsStandIn t = false := by
  obtain rfl : f = 3 := Option.some.inj ((show Tryd.prog.funcNamed "pub-kmsg/laws.FnParseConfigSource" = some 3 by kernel_rfl).symm.trans hf) |>.symm
  obtain rfl : fn = Tryd.f3 := (Option.some.inj (Tryd.func3.symm.trans hfn)).symm
  refine ⟨by kernel_rfl, fun j t ht => ?_⟩
  rw [Tryd.params3] at ht
  have hw0 : Tryd.prog.wantsStandIn 9 = false := by kernel_rfl
  have hm := Array.mem_of_getElem? ht
  simp only [List.mem_toArray, List.mem_cons, List.not_mem_nil, or_false] at hm
  rcases hm with rfl <;> assumption
end fnParseConfigSource
theorem fnParseConfigSource_holds : Rows.FnParseConfigSourceUptoCardSaid :=
  Claim7.holds_tied_plain_at .later [] _ _ _ _ fnParseConfigSource.over (fun _ h => by cases h) (by kernel_rfl) (fun _ h => by cases h) fnParseConfigSourceUpto_row_tie rfl ⟨rfl, rfl⟩ (by kernel_rfl) rfl fnParseConfigSource.plain (by kernel_rfl)
#print axioms fnParseConfigSource_holds
end Go.Proofs.YthlpbgklcbmknaaDoor

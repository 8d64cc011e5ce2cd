/-
What a ExpireDelegationTokenRequest says, written by the rules of the protocol, is read, and written back byte by byte: for every input of bulk at most 1048576 the law returns true. Conditions: the listed variable holds what the text lays (tied by the card).
-/
import Derived.Test.YtbgfphbajbbgoaaDoorYE
import Derived.Test.YtbgfphbajbbgoaaDoorYW
import Derived.Test.YtbgfphbajbbgoaaDoorYN
import Derived.Test.YtbgfphbajbbgoaaDoorYF
import Derived.Test.YtbgfphbajbbgoaaDoorYP
namespace Go.Proofs.YtbgfphbajbbgoaaDoor
set_option linter.all false
open Go.RowKit
set_option maxRecDepth 100000
set_option maxHeartbeats 2000000
def sch_ExpireDelegationTokenRequest : List Fld := [.mk .bytes 0 (-1) (-1) (-1) 0 .bool [], .mk .i64 0 (-1) (-1) (-1) 0 .bool []]
def dd_ExpireDelegationTokenRequest : List Value := [.slice none 0 0, .int .i64 0, .map none]
theorem defm_ExpireDelegationTokenRequest : DefM 70 dd_ExpireDelegationTokenRequest := by
  intro w B v T hb
  refine callsR_of0 Tryd.func70 rfl rfl Tryd.ntmps70 (by simp) ?_
  intro a hN hD ha
  exact wp_skip ⟨hD, hb, Chg.refl _ _⟩
theorem read_ExpireDelegationTokenRequest : ReadsF 71 true (fun ver => decide (2 ≤ ver)) sch_ExpireDelegationTokenRequest dd_ExpireDelegationTokenRequest [.bool false] := by
  refine read_flex Tryd.func71 rfl rfl Tryd.ntmps71 (fun args w => Tryd.call70 args w) defm_ExpireDelegationTokenRequest (by kernel_rfl) ?_
  intro ver hver
  (repeat' (first | (with_reducible refine rt_tagged rfl rfl ?_) | (with_reducible refine rt_next rfl (by kernel_rfl) ?_ ?_) | (with_reducible refine rt_end rfl ?_) | (with_reducible refine rt_noflex rfl ?_) | (with_reducible refine rt_fin co_en (by kernel_rfl) (by kernel_rfl)) | (with_reducible refine rt_tl (I := 1000) (by kernel_rfl) ?_ ?_) | (with_reducible refine rd_tags (by kernel_rfl) tagOK_all tg_en (by kernel_rfl) (by kernel_rfl)) | (with_reducible refine rd_tagged rfl rfl ?_) | (with_reducible refine rd_noflex rfl ?_) | (with_reducible refine rd_last rfl rfl (by kernel_rfl) ?_) | (with_reducible refine rd_next rfl (by kernel_rfl) (by kernel_rfl) ?_ ?_) | (with_reducible refine rd_end rfl ?_) | (with_reducible refine sf_all rfl (by dsimp only; omega) ?_) | ((with_reducible refine sf_from rfl (by kernel_rfl) (fun hv => ?_)); try dsimp only at hv) | ((with_reducible refine sf_range rfl (by kernel_rfl) (fun hv hv2 => ?_)); try dsimp only at hv hv2) | (with_reducible refine rf_store ?_ rfl (by kernel_rfl) (by kernel_rfl) (by kernel_rfl)) | (with_reducible refine rf_store2 ?_ rfl (by kernel_rfl) (by kernel_rfl) (by kernel_rfl) (by kernel_rfl)) | (with_reducible refine rd_pre ?_ (by kernel_rfl)) | (with_reducible refine rv_safe ?_ (by kernel_rfl)) | (with_reducible refine rv_flex rfl (fun hx => ?_) (fun hx => ?_) (by kernel_rfl)) | (with_reducible refine rv_i64 (by kernel_rfl)) | (with_reducible refine rv_bytes (by first | assumption | rfl) (by kernel_rfl)) | (with_reducible refine rv_cbytes (by first | assumption | rfl) (by kernel_rfl)) | (with_reducible refine rv_again ?_ (by kernel_rfl)) | (with_reducible refine rv_pre ?_ (by kernel_rfl))))
theorem app_ExpireDelegationTokenRequest : AppendsTo 40 true (fun ver => decide (2 ≤ ver)) sch_ExpireDelegationTokenRequest := by
  refine app_flex Tryd.func40 rfl rfl Tryd.ntmps40 (by kernel_rfl) ?_
  intro ver s hver
  (repeat' (first | with_reducible refine wt_start ?_ | with_reducible refine wp_noflex rfl ?_ | with_reducible refine wr_start ?_ | with_reducible refine wt_tagged rfl rfl ?_ | (with_reducible refine wt_next rfl (by kernel_rfl) (fun d hd => ?_) ?_) | (with_reducible refine wt_fin rfl rfl ?_) | (with_reducible refine wt_end rfl (by kernel_rfl) ?_ ?_) | (with_reducible refine wt_ret (by kernel_rfl)) | with_reducible refine wr_tagged rfl rfl ?_ | (with_reducible refine wr_last rfl rfl (fun d hd => ?_)) | (with_reducible refine wr_next rfl (by kernel_rfl) (fun d hd => ?_) ?_) | (with_reducible refine wr_end rfl ?_) | (with_reducible refine wr_tail rfl (by kernel_rfl) k_uint32 (by kernel_rfl)) | (with_reducible refine wf_all rfl (by dsimp only; omega) ?_) | ((with_reducible refine wf_from rfl (by kernel_rfl) (fun hv => ?_)); try dsimp only at hv) | ((with_reducible refine wf_range rfl (by kernel_rfl) (fun hv hv2 => ?_)); try dsimp only at hv hv2) | (with_reducible refine wf_load rfl hd (by kernel_rfl) (by kernel_rfl) rfl ?_) | (with_reducible refine wv_i64 (by kernel_rfl)) | (with_reducible refine wv_flexS rfl (by kernel_rfl) (fun hx => ?_) (fun hx => ?_)) | (with_reducible refine wv_bytes (by first | assumption | rfl) (by kernel_rfl)) | (with_reducible refine wv_cbytes (by first | assumption | rfl) (by kernel_rfl)) | (with_reducible refine wv_again (by kernel_rfl) rfl ?_)))
end Go.Proofs.YtbgfphbajbbgoaaDoor
namespace Go.Proofs.YtbgfphbajbbgoaaDoor
set_option linter.all false
open Go.RowKit
set_option maxRecDepth 100000
set_option maxHeartbeats 2000000
theorem lay_ExpireDelegationTokenRequest : LaysM 18 sch_ExpireDelegationTokenRequest 2 := by
  intro w
  refine callsR_ofC Tryd.func18 rfl rfl (by kernel_rfl) Tryd.ntmps18 (by simp) ?_
  intro a hN hD ha
  refine wp_seq_k fun K hK => ?_; refine zad ?_
  refine wl_allocA (z := zaP [.slice none 0 0, .int .i64 0]) (fun w => Tryd.zeroValue38 w) fun w0 hc0 hb0 hs0 => ?_
  refine zab ?_; refine hK _ _ ?_; clear hK K
  refine wp_seq_k fun K hK => ?_; refine zad ?_
  have hq : Chg (fun _ => False) w0 w0 := Chg.refl _ _
  refine wl_build (l := fldCells (.mk .bytes 0 (-1) (-1) (-1) 0 .bool []) (.slice none 0 0)) (by simp only [List.map_toArray, List.map_cons, List.map_nil, evb, kb, hN, seval]; kernel_rfl) ?_
  refine wl_build (l := fldCells (.mk .i64 0 (-1) (-1) (-1) 0 .bool []) (.slice none 0 0)) (by simp only [List.map_toArray, List.map_cons, List.map_nil, evb, kb, hN, seval]; kernel_rfl) ?_
  refine wl_fields sch_ExpireDelegationTokenRequest [fldCells (.mk .bytes 0 (-1) (-1) (-1) 0 .bool []) (.slice none 0 0), fldCells (.mk .i64 0 (-1) (-1) (-1) 0 .bool []) (.slice none 0 0)] rfl (by simp only [List.map_toArray, List.map_cons, List.map_nil, evb, kb, hN, seval]; rfl) (by simp only [List.length_cons, List.length_nil]; omega) hq (.cons (fldCells_is (.mk .bytes 0 (-1) (-1) (-1) 0 .bool []) (schS_nil _ _ _ _)) (.cons (fldCells_is (.mk .i64 0 (-1) (-1) (-1) 0 .bool []) (schS_nil _ _ _ _)) (.nil))) ?_
  rintro v wF hcF hkF hsF rfl
  refine wl_build (l := [.slice (some ⟨w0.heap.size, 0, none⟩) (sch_ExpireDelegationTokenRequest).length (sch_ExpireDelegationTokenRequest).length, .int .i64 2]) (by simp only [List.map_toArray, List.map_cons, List.map_nil, evb, kb, hN, seval]; kernel_rfl) ?_
  have hbF := hb0.chg hcF (fun h => h)
  refine za4 (b := w.heap.size) (n := 2) (l' := [.slice (some ⟨w0.heap.size, 0, none⟩) (sch_ExpireDelegationTokenRequest).length (sch_ExpireDelegationTokenRequest).length, .int .i64 2]) (by kernel_rfl) (by simp [evb, kb, hN, sdb]) (by simp [evb, kb, hN, sdb]) hbF rfl (by intro y hy; simp only [List.mem_cons, List.not_mem_nil, or_false] at hy; rcases hy with rfl | rfl <;> rfl) rfl fun wE hbE hcE => ?_
  refine zab ?_; refine hK _ _ ?_; clear hK K
  refine wp_ret ⟨by simp [zaa, hD], w.heap.size, _, _, by simp only [evb, kb, hN, seval], hbE, by kernel_rfl, ⟨_, rfl, SchS.stay ⟨fun k hk hg => ⟨hcE.block k hk (by omega), by omega⟩⟩ hsF, ?_⟩⟩
  exact (hc0.trans hcF fun _ _ h => h).trans hcE fun k hk h => by omega
theorem new_ExpireDelegationTokenRequest : NewsPtr 36 dd_ExpireDelegationTokenRequest :=
  newptr_of dd_ExpireDelegationTokenRequest dd_ExpireDelegationTokenRequest Tryd.func36 rfl rfl Tryd.ntmps36 (by kernel_rfl) (fun w => Tryd.zeroValue88 w) (fun args w => Tryd.call70 args w) defm_ExpireDelegationTokenRequest
theorem max_ExpireDelegationTokenRequest : MaxIs 17 2 := by
  intro w
  refine zas Tryd.func17 rfl rfl Tryd.ntmps17 (by simp) ?_
  intro a hN hD ha
  refine wp_seq_k fun K hK => ?_; refine zad ?_; refine zau ?_; refine zab ?_; refine hK _ _ ?_; clear hK K
  refine wp_seq_k fun K hK => ?_; refine zad ?_
  refine zay (fun args w => Tryd.call36 args w) (by simp only [List.map_toArray, List.map_nil]; exact new_ExpireDelegationTokenRequest w) ?_
  rintro v w1 ⟨rfl, hc, _⟩
  refine zay (fun args w => Tryd.call37 args w) (by simp only [List.map_toArray, List.map_cons, List.map_nil]; simp only [evb, kb, hN, seval]; exact maxver_of Tryd.func37 rfl rfl Tryd.ntmps37 (by kernel_rfl) _ w1) ?_
  rintro _ w2 ⟨rfl, rfl⟩
  (repeat (first | ((with_reducible refine zax ?_ ?_ ?_ ?_); (· exact rfl); (· simp [evb, kb, hN, dyb, sdb] <;> omega); (· kernel_rfl); try simp only [evb, kb, hN, seval, pvb]) | ((with_reducible refine zag ?_ ?_ ?_); rotate_left 1; (· simp [evb, kb, hN, sdb]); rotate_left 1; (· kernel_rfl); try simp only [evb, kb, hN, seval, pvb])))
  refine zab ?_; refine hK _ _ ?_; clear hK K; refine wp_ret ⟨by simp [zaa, hD], ?_⟩; simp only [evb, kb, hN, seval]
  exact ⟨by first | rfl | trivial, hc⟩
theorem setv_ExpireDelegationTokenRequest : SetsVersion 38 := setver_of Tryd.func38 rfl rfl Tryd.ntmps38 (by kernel_rfl)
theorem from_ExpireDelegationTokenRequest : ReadsFrom 39 71 := fun h => readfrom_c Tryd.func39 rfl rfl Tryd.ntmps39 (fun args w => Tryd.call71 args w) h
theorem ag_ExpireDelegationTokenRequest : AgC 19 (fun ver => decide (2 ≤ ver)) 2 sch_ExpireDelegationTokenRequest := fun ver h0 h1 w G oa bs cap hsrc hlim herr hout =>
  again_of Tryd.func19 rfl rfl Tryd.ntmps19 (fun args w => Tryd.call36 args w) (fun args w => Tryd.call38 args w) (fun args w => Tryd.call39 args w) (fun args w => Tryd.call40 args w) new_ExpireDelegationTokenRequest setv_ExpireDelegationTokenRequest from_ExpireDelegationTokenRequest read_ExpireDelegationTokenRequest app_ExpireDelegationTokenRequest h0 (by omega) hsrc hlim herr hout
theorem ok_ExpireDelegationTokenRequest : SchOK (fun ver => decide (2 ≤ ver)) 2 sch_ExpireDelegationTokenRequest := schB_out (by kernel_rfl)
theorem walk_FnAgainExpireDelegationTokenRequest {a : Int} (hn : 0 ≤ a) (hn2 : a < 256) {w : World} {G : Nat → Prop} {v : Tr} {ts : List Value} (hv : TrC w G v ts) (hkv : keyV v) (hb : zaT v ≤ 1048576) (herr : ErrW w) :
    zaD Tryd.prog 5 #[.int .u8 a, zaP ts] w fun v w' => v = .bool true ∧ Chg (fun _ => False) w w' :=
  lawAgain_of Tryd.func5 rfl rfl (by kernel_rfl) rfl Tryd.ntmps5 (fun args w => Tryd.call17 args w) (fun args w => Tryd.call18 args w) (fun args w => Tryd.call19 args w) max_ExpireDelegationTokenRequest lay_ExpireDelegationTokenRequest ag_ExpireDelegationTokenRequest (by decide) (fun ver _ => by simp) ok_ExpireDelegationTokenRequest hn hn2 hv hkv hb herr
end Go.Proofs.YtbgfphbajbbgoaaDoor
namespace Go.Proofs.YtbgfphbajbbgoaaDoor
set_option linter.all false
namespace fnAgainExpireDelegationTokenRequest
open Go.ChangeShapes Go.WideShapes Go.ChangeAt Go.RowKit
set_option maxRecDepth 100000
set_option maxHeartbeats 1000000
theorem laid_met (os : Os) : laidMet Tryd.prog Rows.fnAgainExpireDelegationTokenRequestUptoRow.laid ((laidWorld os).forCall (fun _ _ => 0) ⟨#[], #[.int .u8 0, .agg #[.int .i64 0, .slice none 0 0, .bool false, .slice none 0 0, .slice none 0 0]], []⟩).memory :=
  laidMet_of_run' 8 (by kernel_rfl) (by kernel_rfl)
theorem witness_row (os : Os) {H : Type} (enc : TypeId × Value → H) :
    (Rows.OpenSpec.upto Rows.fnAgainExpireDelegationTokenRequestSpec).preRow enc Tryd.prog Tryd.f5 Rows.fnAgainExpireDelegationTokenRequestUptoRow.domain false Rows.fnAgainExpireDelegationTokenRequestUptoRow.laid ((laidWorld os).forCall (fun _ _ => 0) ⟨#[], #[.int .u8 0, .agg #[.int .i64 0, .slice none 0 0, .bool false, .slice none 0 0, .slice none 0 0]], []⟩).memory #[.int .u8 0, .agg #[.int .i64 0, .slice none 0 0, .bool false, .slice none 0 0, .slice none 0 0]] := by
  have hw : (DataW.whole enc Tryd.prog ((laidWorld os).forCall (fun _ _ => 0) ⟨#[], #[.int .u8 0, .agg #[.int .i64 0, .slice none 0 0, .bool false, .slice none 0 0, .slice none 0 0]], []⟩).memory Tryd.f5.params.toList Rows.fnAgainExpireDelegationTokenRequestSpec.vars false (#[.int .u8 0, .agg #[.int .i64 0, .slice none 0 0, .bool false, .slice none 0 0, .slice none 0 0]] : Array Value).toList 8).map (fun x => (decide (Rows.uptoBulkAll (x.1 ++ x.2.1) ≤ 1048576))) = some true := by kernel_rfl
  obtain ⟨⟨x1, x2, x3⟩, hx, hx1⟩ := Option.map_eq_some_iff.1 hw
  exact OpenSpec.preRow_of_cond 8 hx (by kernel_rfl) (fun k hk => by cases hk; exact hx1) (by kernel_rfl) (laid_met os)
theorem lifted (os : Os) (started : os.Started) (H : Type) (enc : TypeId × Value → H) (F : Stop.Interp) :
    ReturnsInHanded {} Tryd.checked os 5 .any ((Rows.OpenSpec.upto Rows.fnAgainExpireDelegationTokenRequestSpec).preRow enc Tryd.prog Tryd.f5 Rows.fnAgainExpireDelegationTokenRequestUptoRow.domain false Rows.fnAgainExpireDelegationTokenRequestUptoRow.laid) (((Rows.OpenSpec.upto Rows.fnAgainExpireDelegationTokenRequestSpec).at F).post enc Tryd.prog Tryd.f5 false true false false) := by
  refine returnsInHanded_of_row (C := Tryd.checked) (s := Rows.OpenSpec.upto Rows.fnAgainExpireDelegationTokenRequestSpec) own started (by kernel_rfl) Tryd.func5
    (witness_row_atRef (enc := enc) (C := Tryd.checked) false (laidWorld os) #[.int .u8 0, .agg #[.int .i64 0, .slice none 0 0, .bool false, .slice none 0 0, .slice none 0 0]] rfl (by kernel_rfl) (by kernel_rfl) (by kernel_rfl) (witness_row os enc)) ?_
  intro W base args ds gs before hval0 hW _ hcond _ hL _ _
  have hval : ∀ (j : Nat) t v, Tryd.f5.params[j]? = some t → args[j]? = some v → Value.okWide Tryd.prog W .any base t v := hval0
  have hW' := hW
  obtain ⟨p, q, hA0, hV, rfl, hfz, hnd⟩ := hW
  have hA : DataW.TrodAll enc Tryd.prog W 0 (fun _ => true) true Tryd.f5.params.toList args.toList ds p := hA0
  rw [Tryd.params5] at hA hval
  obtain ⟨v0, vs0, d0, ds0, p0, q0, hargs, rfl, rfl, h0, r0⟩ := trodAll_cons hA
  obtain ⟨v1, vs1, d1, ds1, p1, q1, rfl, rfl, rfl, h1, r1⟩ := trodAll_cons r0
  obtain ⟨rfl, rfl, rfl⟩ := trodAll_nil r1
  obtain rfl : args = #[v0, v1] := by cases args; simp_all
  obtain ⟨rfl, rfl⟩ := trodVars_none hV
  simp only [List.append_nil] at hW' hcond
  have hbulk := hcond _ rfl
  replace hbulk := of_decide_eq_true hbulk
  simp only [Rows.uptoBulkAll] at hbulk
  have hlt : ∀ x ∈ _, MemPlace.block x < W.heap.size := fun x hx => hW'.lt x hx
  obtain ⟨a0, rfl, rfl, rfl, x0⟩ := open_int Tryd.underlying5 (hval 0 5 v0 rfl rfl) h0
  have y0 : 0 ≤ a0 ∧ a0 < 256 := by have h := x0; simp only [Lit.wf, IntKind.min, IntKind.max, IntKind.signed, IntKind.bits, Bool.and_eq_true, decide_eq_true_eq] at h; simp at h; omega
  obtain ⟨ts, T, rfl, hT, hkey, hbT⟩ := tree_arg (hval 1 32 v1 rfl rfl) h1 (by omega)
  clear hA0 hval0
  refine Calls.mono (walk_FnAgainExpireDelegationTokenRequest y0.1 y0.2 hT hkey hbT (errW_of hL)) fun e W' ⟨v, he, hv, hc⟩ => ?_
  subst he
  subst hv
  exact ⟨_, rfl, _, _, _, [], _, [], hW', trodAll_cons_mk (shut_bool Tryd.underlying4 _) trodAll_mk0, trodAll_cons_mk (shut_int Tryd.underlying5 x0) (trodAll_cons_mk (tree_same h1 hc (fun x hx => hlt x (by simp [hx]))) (trodAll_mk0)), rfl, (below_of hc).frame _, fun h => by cases h⟩
theorem c2 : (Rows.fnAgainExpireDelegationTokenRequestUptoRow.inPlace == Tryd.prog.inPlace 5) = true := by kernel_rfl
theorem c3 : (Rows.fnAgainExpireDelegationTokenRequestUptoRow.unfollowed == Tryd.prog.unfollowed 5) = true := by kernel_rfl
theorem c4 : (Rows.fnAgainExpireDelegationTokenRequestUptoRow.recurses == Tryd.prog.recurses 5) = true := by kernel_rfl
theorem c5 : (Rows.fnAgainExpireDelegationTokenRequestUptoRow.named == Tryd.prog.varsNamed 5) = true := by kernel_rfl
theorem c7 : (Rows.fnAgainExpireDelegationTokenRequestUptoRow.lifted == Tryd.prog.liftsFinal) = true := by
  have h : Rows.fnAgainExpireDelegationTokenRequestUptoRow.lifted = Facts.lifted := rfl
  rw [h]; exact Facts.c7
theorem c8 : (Tryd.prog.make == some Rows.fnAgainExpireDelegationTokenRequestUptoRow.make) = true := by
  have h : Rows.fnAgainExpireDelegationTokenRequestUptoRow.make = Facts.make := rfl
  rw [h]; exact Facts.c8
theorem c9 : (Rows.fnAgainExpireDelegationTokenRequestUptoRow.plainKeys == Tryd.prog.plainKeys) = true := by
  have h : Rows.fnAgainExpireDelegationTokenRequestUptoRow.plainKeys = Facts.plainKeys := rfl
  rw [h]; exact Facts.c9
theorem c11 : Tryd.prog.funcNamed Rows.fnAgainExpireDelegationTokenRequestUptoRow.func = some 5 := by kernel_rfl
theorem closed : joinedFacts Tryd.prog 5 Tryd.f5 (Rows.OpenSpec.upto Rows.fnAgainExpireDelegationTokenRequestSpec).bare Rows.fnAgainExpireDelegationTokenRequestUptoRow = true := by
  unfold joinedFacts
  simp only [Bool.and_eq_true]
  repeat' (refine And.intro ?_ ?_)
  all_goals first | with_reducible exact Facts.c1 | with_reducible exact Facts.c0 | with_reducible exact c2 | with_reducible exact c3 | with_reducible exact c4 | with_reducible exact c5 | with_reducible exact Facts.c6 | with_reducible exact c7 | with_reducible exact c8 | with_reducible exact c9 | with_reducible exact Facts.c10 | kernel_rfl
theorem over : Rows.FnAgainExpireDelegationTokenRequestUptoSaid :=
  OpenClaim.holds_of_cond 5 Tryd.f5 rfl rfl rfl rfl rfl rfl rfl ⟨rfl, rfl, rfl, rfl, rfl⟩ rfl rfl rfl rfl rfl c11 Tryd.func5 closed
    (of_decide_eq_true (by kernel_rfl)) (by unfold Func.isWrapper; first | (rw [if_pos (by decide +kernel)]; kernel_rfl) | (rw [if_neg (by decide +kernel)]; exact ⟨rfl, rfl⟩))
    (fun os started H enc _ F => by rw [OpenClaim.pre_eq_preRow]; exact lifted os started H enc F)
theorem plain (f : FuncId) (fn : Func) (hf : Tryd.pinned.checked.prog.funcNamed "pub-kmsg/laws.FnAgainExpireDelegationTokenRequest" = some f) (hfn : Tryd.pinned.checked.prog.funcs[f]? = some fn) :
    false = Tryd.pinned.checked.prog.looks [] ∧ ∀ (j : Nat) t, fn.params[j]? = some t → Tryd.pinned.checked.prog.wantsStandIn t = false := by
  obtain rfl : f = 5 := Option.some.inj ((show Tryd.prog.funcNamed "pub-kmsg/laws.FnAgainExpireDelegationTokenRequest" = some 5 by kernel_rfl).symm.trans hf) |>.symm
  obtain rfl : fn = Tryd.f5 := (Option.some.inj (Tryd.func5.symm.trans hfn)).symm
  refine ⟨by kernel_rfl, fun j t ht => ?_⟩
  rw [Tryd.params5] at ht
  have hw0 : Tryd.prog.wantsStandIn 5 = false := by kernel_rfl
  have hw1 : Tryd.prog.wantsStandIn 32 = false := by kernel_rfl
  have hm := Array.mem_of_getElem? ht
  simp only [List.mem_toArray, List.mem_cons, List.not_mem_nil, or_false] at hm
  rcases hm with rfl | rfl <;> assumption
end fnAgainExpireDelegationTokenRequest
theorem fnAgainExpireDelegationTokenRequest_holds : Rows.FnAgainExpireDelegationTokenRequestUptoCardSaid :=
  Claim7.holds_tied_plain_at .later [] _ _ _ _ fnAgainExpireDelegationTokenRequest.over (fun _ h => by cases h) (by kernel_rfl) (fun _ h => by cases h) fnAgainExpireDelegationTokenRequestUpto_row_tie rfl ⟨rfl, rfl⟩ (by kernel_rfl) rfl fnAgainExpireDelegationTokenRequest.plain (by kernel_rfl)
#print axioms fnAgainExpireDelegationTokenRequest_holds
end Go.Proofs.YtbgfphbajbbgoaaDoor

/-
A SASLAuthenticateRequest that ends anywhere ahead of its end is an error: for every input of bulk at most 1048576 the law returns true. Conditions: the listed variable holds what the text lays (tied by the card).
-/
import Derived.Test.YtbgfphbajbbgoaaDoorYE
import Derived.Test.YtbgfphbajbbgoaaDoorYW
import Derived.Test.YtbgfphbajbbgoaaDoorYX
import Derived.Test.YtbgfphbajbbgoaaDoorYF
import Derived.Test.YtbgfphbajbbgoaaDoorYP
namespace Go.Proofs.YtbgfphbajbbgoaaDoor
set_option linter.all false
open Go.RowKit
set_option maxRecDepth 100000
set_option maxHeartbeats 2000000
def sch_SASLAuthenticateRequest : List Fld := [.mk .bytes 0 (-1) (-1) (-1) 0 .bool []]
def dd_SASLAuthenticateRequest : List Value := [.slice none 0 0, .map none]
theorem defm_SASLAuthenticateRequest : DefM 58 dd_SASLAuthenticateRequest := by
  intro w B v T hb
  refine callsR_of0 Tryd.func58 rfl rfl Tryd.ntmps58 (by simp) ?_
  intro a hN hD ha
  exact wp_skip ⟨hD, hb, Chg.refl _ _⟩
theorem read_SASLAuthenticateRequest : ReadsF 67 true (fun ver => decide (2 ≤ ver)) sch_SASLAuthenticateRequest dd_SASLAuthenticateRequest [.bool false] := by
  refine read_flex Tryd.func67 rfl rfl Tryd.ntmps67 (fun args w => Tryd.call58 args w) defm_SASLAuthenticateRequest (by kernel_rfl) ?_
  intro ver hver
  (repeat' (first | (with_reducible refine rt_tagged rfl rfl ?_) | (with_reducible refine rt_next rfl (by kernel_rfl) ?_ ?_) | (with_reducible refine rt_end rfl ?_) | (with_reducible refine rt_noflex rfl ?_) | (with_reducible refine rt_fin co_en (by kernel_rfl) (by kernel_rfl)) | (with_reducible refine rt_tl (I := 1000) (by kernel_rfl) ?_ ?_) | (with_reducible refine rd_tags (by kernel_rfl) tagOK_all tg_en (by kernel_rfl) (by kernel_rfl)) | (with_reducible refine rd_tagged rfl rfl ?_) | (with_reducible refine rd_noflex rfl ?_) | (with_reducible refine rd_last rfl rfl (by kernel_rfl) ?_) | (with_reducible refine rd_next rfl (by kernel_rfl) (by kernel_rfl) ?_ ?_) | (with_reducible refine rd_end rfl ?_) | (with_reducible refine sf_all rfl (by dsimp only; omega) ?_) | ((with_reducible refine sf_from rfl (by kernel_rfl) (fun hv => ?_)); try dsimp only at hv) | ((with_reducible refine sf_range rfl (by kernel_rfl) (fun hv hv2 => ?_)); try dsimp only at hv hv2) | (with_reducible refine rf_store ?_ rfl (by kernel_rfl) (by kernel_rfl) (by kernel_rfl)) | (with_reducible refine rf_store2 ?_ rfl (by kernel_rfl) (by kernel_rfl) (by kernel_rfl) (by kernel_rfl)) | (with_reducible refine rd_pre ?_ (by kernel_rfl)) | (with_reducible refine rv_safe ?_ (by kernel_rfl)) | (with_reducible refine rv_flex rfl (fun hx => ?_) (fun hx => ?_) (by kernel_rfl)) | (with_reducible refine rv_bytes (by first | assumption | rfl) (by kernel_rfl)) | (with_reducible refine rv_cbytes (by first | assumption | rfl) (by kernel_rfl)) | (with_reducible refine rv_again ?_ (by kernel_rfl)) | (with_reducible refine rv_pre ?_ (by kernel_rfl))))
theorem app_SASLAuthenticateRequest : AppendsTo 35 true (fun ver => decide (2 ≤ ver)) sch_SASLAuthenticateRequest := by
  refine app_flex Tryd.func35 rfl rfl Tryd.ntmps35 (by kernel_rfl) ?_
  intro ver s hver
  (repeat' (first | with_reducible refine wt_start ?_ | with_reducible refine wp_noflex rfl ?_ | with_reducible refine wr_start ?_ | with_reducible refine wt_tagged rfl rfl ?_ | (with_reducible refine wt_next rfl (by kernel_rfl) (fun d hd => ?_) ?_) | (with_reducible refine wt_fin rfl rfl ?_) | (with_reducible refine wt_end rfl (by kernel_rfl) ?_ ?_) | (with_reducible refine wt_ret (by kernel_rfl)) | with_reducible refine wr_tagged rfl rfl ?_ | (with_reducible refine wr_last rfl rfl (fun d hd => ?_)) | (with_reducible refine wr_next rfl (by kernel_rfl) (fun d hd => ?_) ?_) | (with_reducible refine wr_end rfl ?_) | (with_reducible refine wr_tail rfl (by kernel_rfl) k_uint32 (by kernel_rfl)) | (with_reducible refine wf_all rfl (by dsimp only; omega) ?_) | ((with_reducible refine wf_from rfl (by kernel_rfl) (fun hv => ?_)); try dsimp only at hv) | ((with_reducible refine wf_range rfl (by kernel_rfl) (fun hv hv2 => ?_)); try dsimp only at hv hv2) | (with_reducible refine wf_load rfl hd (by kernel_rfl) (by kernel_rfl) rfl ?_) | (with_reducible refine wv_flexS rfl (by kernel_rfl) (fun hx => ?_) (fun hx => ?_)) | (with_reducible refine wv_bytes (by first | assumption | rfl) (by kernel_rfl)) | (with_reducible refine wv_cbytes (by first | assumption | rfl) (by kernel_rfl)) | (with_reducible refine wv_again (by kernel_rfl) rfl ?_)))
end Go.Proofs.YtbgfphbajbbgoaaDoor
namespace Go.Proofs.YtbgfphbajbbgoaaDoor
set_option linter.all false
open Go.RowKit
set_option maxRecDepth 100000
set_option maxHeartbeats 2000000
theorem lay_SASLAuthenticateRequest : LaysM 15 sch_SASLAuthenticateRequest 2 := by
  intro w
  refine callsR_ofC Tryd.func15 rfl rfl (by kernel_rfl) Tryd.ntmps15 (by simp) ?_
  intro a hN hD ha
  refine wp_seq_k fun K hK => ?_; refine zad ?_
  refine wl_allocA (z := zaP [.slice none 0 0, .int .i64 0]) (fun w => Tryd.zeroValue38 w) fun w0 hc0 hb0 hs0 => ?_
  refine zab ?_; refine hK _ _ ?_; clear hK K
  refine wp_seq_k fun K hK => ?_; refine zad ?_
  have hq : Chg (fun _ => False) w0 w0 := Chg.refl _ _
  refine wl_build (l := fldCells (.mk .bytes 0 (-1) (-1) (-1) 0 .bool []) (.slice none 0 0)) (by simp only [List.map_toArray, List.map_cons, List.map_nil, evb, kb, hN, seval]; kernel_rfl) ?_
  refine wl_fields sch_SASLAuthenticateRequest [fldCells (.mk .bytes 0 (-1) (-1) (-1) 0 .bool []) (.slice none 0 0)] rfl (by simp only [List.map_toArray, List.map_cons, List.map_nil, evb, kb, hN, seval]; rfl) (by simp only [List.length_cons, List.length_nil]; omega) hq (.cons (fldCells_is (.mk .bytes 0 (-1) (-1) (-1) 0 .bool []) (schS_nil _ _ _ _)) (.nil)) ?_
  rintro v wF hcF hkF hsF rfl
  refine wl_build (l := [.slice (some ⟨w0.heap.size, 0, none⟩) (sch_SASLAuthenticateRequest).length (sch_SASLAuthenticateRequest).length, .int .i64 2]) (by simp only [List.map_toArray, List.map_cons, List.map_nil, evb, kb, hN, seval]; kernel_rfl) ?_
  have hbF := hb0.chg hcF (fun h => h)
  refine za4 (b := w.heap.size) (n := 2) (l' := [.slice (some ⟨w0.heap.size, 0, none⟩) (sch_SASLAuthenticateRequest).length (sch_SASLAuthenticateRequest).length, .int .i64 2]) (by kernel_rfl) (by simp [evb, kb, hN, sdb]) (by simp [evb, kb, hN, sdb]) hbF rfl (by intro y hy; simp only [List.mem_cons, List.not_mem_nil, or_false] at hy; rcases hy with rfl | rfl <;> rfl) rfl fun wE hbE hcE => ?_
  refine zab ?_; refine hK _ _ ?_; clear hK K
  refine wp_ret ⟨by simp [zaa, hD], w.heap.size, _, _, by simp only [evb, kb, hN, seval], hbE, by kernel_rfl, ⟨_, rfl, SchS.stay ⟨fun k hk hg => ⟨hcE.block k hk (by omega), by omega⟩⟩ hsF, ?_⟩⟩
  exact (hc0.trans hcF fun _ _ h => h).trans hcE fun k hk h => by omega
theorem new_SASLAuthenticateRequest : NewsPtr 30 dd_SASLAuthenticateRequest :=
  newptr_of dd_SASLAuthenticateRequest dd_SASLAuthenticateRequest Tryd.func30 rfl rfl Tryd.ntmps30 (by kernel_rfl) (fun w => Tryd.zeroValue77 w) (fun args w => Tryd.call58 args w) defm_SASLAuthenticateRequest
theorem max_SASLAuthenticateRequest : MaxIs 13 2 := by
  intro w
  refine zas Tryd.func13 rfl rfl Tryd.ntmps13 (by simp) ?_
  intro a hN hD ha
  refine wp_seq_k fun K hK => ?_; refine zad ?_; refine zau ?_; refine zab ?_; refine hK _ _ ?_; clear hK K
  refine wp_seq_k fun K hK => ?_; refine zad ?_
  refine zay (fun args w => Tryd.call30 args w) (by simp only [List.map_toArray, List.map_nil]; exact new_SASLAuthenticateRequest w) ?_
  rintro v w1 ⟨rfl, hc, _⟩
  refine zay (fun args w => Tryd.call31 args w) (by simp only [List.map_toArray, List.map_cons, List.map_nil]; simp only [evb, kb, hN, seval]; exact maxver_of Tryd.func31 rfl rfl Tryd.ntmps31 (by kernel_rfl) _ w1) ?_
  rintro _ w2 ⟨rfl, rfl⟩
  (repeat (first | ((with_reducible refine zax ?_ ?_ ?_ ?_); (· exact rfl); (· simp [evb, kb, hN, dyb, sdb] <;> omega); (· kernel_rfl); try simp only [evb, kb, hN, seval, pvb]) | ((with_reducible refine zag ?_ ?_ ?_); rotate_left 1; (· simp [evb, kb, hN, sdb]); rotate_left 1; (· kernel_rfl); try simp only [evb, kb, hN, seval, pvb])))
  refine zab ?_; refine hK _ _ ?_; clear hK K; refine wp_ret ⟨by simp [zaa, hD], ?_⟩; simp only [evb, kb, hN, seval]
  exact ⟨by first | rfl | trivial, hc⟩
theorem setv_SASLAuthenticateRequest : SetsVersion 33 := setver_of Tryd.func33 rfl rfl Tryd.ntmps33 (by kernel_rfl)
theorem from_SASLAuthenticateRequest : ReadsFrom 34 67 := fun h => readfrom_c Tryd.func34 rfl rfl Tryd.ntmps34 (fun args w => Tryd.call67 args w) h
theorem ag_SASLAuthenticateRequest : AgC 16 (fun ver => decide (2 ≤ ver)) 2 sch_SASLAuthenticateRequest := fun ver h0 h1 w G oa bs cap hsrc hlim herr hout =>
  again_of Tryd.func16 rfl rfl Tryd.ntmps16 (fun args w => Tryd.call30 args w) (fun args w => Tryd.call33 args w) (fun args w => Tryd.call34 args w) (fun args w => Tryd.call35 args w) new_SASLAuthenticateRequest setv_SASLAuthenticateRequest from_SASLAuthenticateRequest read_SASLAuthenticateRequest app_SASLAuthenticateRequest h0 (by omega) hsrc hlim herr hout
theorem ok_SASLAuthenticateRequest : SchOK (fun ver => decide (2 ≤ ver)) 2 sch_SASLAuthenticateRequest := schB_out (by kernel_rfl)
theorem walk_FnCutSASLAuthenticateRequest {a b : Int} (hn : 0 ≤ a) (hn2 : a < 256) {w : World} {G : Nat → Prop} {v : Tr} {ts : List Value} (hv : TrC w G v ts) (hkv : keyV v) (hb : zaT v ≤ 1048576) (hb0 : 0 ≤ b) (hb1 : b < 65536) (herr : ErrW w) :
    zaD Tryd.prog 4 #[.int .u8 a, zaP ts, .int .u16 b] w fun v w' => v = .bool true ∧ Chg (fun _ => False) w w' :=
  lawCut_of Tryd.func4 rfl rfl (by kernel_rfl) rfl (by kernel_rfl) rfl Tryd.ntmps4 (fun args w => Tryd.call13 args w) (fun args w => Tryd.call15 args w) (fun args w => Tryd.call16 args w) max_SASLAuthenticateRequest lay_SASLAuthenticateRequest ag_SASLAuthenticateRequest (by decide) (fun ver _ => by simp) ok_SASLAuthenticateRequest hn hn2 hv hkv hb hb0 hb1 herr
end Go.Proofs.YtbgfphbajbbgoaaDoor
namespace Go.Proofs.YtbgfphbajbbgoaaDoor
set_option linter.all false
namespace fnCutSASLAuthenticateRequest
open Go.ChangeShapes Go.WideShapes Go.ChangeAt Go.RowKit
set_option maxRecDepth 100000
set_option maxHeartbeats 1000000
theorem laid_met (os : Os) : laidMet Tryd.prog Rows.fnCutSASLAuthenticateRequestUptoRow.laid ((laidWorld os).forCall (fun _ _ => 0) ⟨#[], #[.int .u8 0, .agg #[.int .i64 0, .slice none 0 0, .bool false, .slice none 0 0, .slice none 0 0], .int .u16 0], []⟩).memory :=
  laidMet_of_run' 8 (by kernel_rfl) (by kernel_rfl)
theorem witness_row (os : Os) {H : Type} (enc : TypeId × Value → H) :
    (Rows.OpenSpec.upto Rows.fnCutSASLAuthenticateRequestSpec).preRow enc Tryd.prog Tryd.f4 Rows.fnCutSASLAuthenticateRequestUptoRow.domain false Rows.fnCutSASLAuthenticateRequestUptoRow.laid ((laidWorld os).forCall (fun _ _ => 0) ⟨#[], #[.int .u8 0, .agg #[.int .i64 0, .slice none 0 0, .bool false, .slice none 0 0, .slice none 0 0], .int .u16 0], []⟩).memory #[.int .u8 0, .agg #[.int .i64 0, .slice none 0 0, .bool false, .slice none 0 0, .slice none 0 0], .int .u16 0] := by
  have hw : (DataW.whole enc Tryd.prog ((laidWorld os).forCall (fun _ _ => 0) ⟨#[], #[.int .u8 0, .agg #[.int .i64 0, .slice none 0 0, .bool false, .slice none 0 0, .slice none 0 0], .int .u16 0], []⟩).memory Tryd.f4.params.toList Rows.fnCutSASLAuthenticateRequestSpec.vars false (#[.int .u8 0, .agg #[.int .i64 0, .slice none 0 0, .bool false, .slice none 0 0, .slice none 0 0], .int .u16 0] : Array Value).toList 8).map (fun x => (decide (Rows.uptoBulkAll (x.1 ++ x.2.1) ≤ 1048576))) = some true := by kernel_rfl
  obtain ⟨⟨x1, x2, x3⟩, hx, hx1⟩ := Option.map_eq_some_iff.1 hw
  exact OpenSpec.preRow_of_cond 8 hx (by kernel_rfl) (fun k hk => by cases hk; exact hx1) (by kernel_rfl) (laid_met os)
theorem lifted (os : Os) (started : os.Started) (H : Type) (enc : TypeId × Value → H) (F : Stop.Interp) :
    ReturnsInHanded {} Tryd.checked os 4 .any ((Rows.OpenSpec.upto Rows.fnCutSASLAuthenticateRequestSpec).preRow enc Tryd.prog Tryd.f4 Rows.fnCutSASLAuthenticateRequestUptoRow.domain false Rows.fnCutSASLAuthenticateRequestUptoRow.laid) (((Rows.OpenSpec.upto Rows.fnCutSASLAuthenticateRequestSpec).at F).post enc Tryd.prog Tryd.f4 false true false false) := by
  refine returnsInHanded_of_row (C := Tryd.checked) (s := Rows.OpenSpec.upto Rows.fnCutSASLAuthenticateRequestSpec) own started (by kernel_rfl) Tryd.func4
    (witness_row_atRef (enc := enc) (C := Tryd.checked) false (laidWorld os) #[.int .u8 0, .agg #[.int .i64 0, .slice none 0 0, .bool false, .slice none 0 0, .slice none 0 0], .int .u16 0] rfl (by kernel_rfl) (by kernel_rfl) (by kernel_rfl) (witness_row os enc)) ?_
  intro W base args ds gs before hval0 hW _ hcond _ hL _ _
  have hval : ∀ (j : Nat) t v, Tryd.f4.params[j]? = some t → args[j]? = some v → Value.okWide Tryd.prog W .any base t v := hval0
  have hW' := hW
  obtain ⟨p, q, hA0, hV, rfl, hfz, hnd⟩ := hW
  have hA : DataW.TrodAll enc Tryd.prog W 0 (fun _ => true) true Tryd.f4.params.toList args.toList ds p := hA0
  rw [Tryd.params4] at hA hval
  obtain ⟨v0, vs0, d0, ds0, p0, q0, hargs, rfl, rfl, h0, r0⟩ := trodAll_cons hA
  obtain ⟨v1, vs1, d1, ds1, p1, q1, rfl, rfl, rfl, h1, r1⟩ := trodAll_cons r0
  obtain ⟨v2, vs2, d2, ds2, p2, q2, rfl, rfl, rfl, h2, r2⟩ := trodAll_cons r1
  obtain ⟨rfl, rfl, rfl⟩ := trodAll_nil r2
  obtain rfl : args = #[v0, v1, v2] := by cases args; simp_all
  obtain ⟨rfl, rfl⟩ := trodVars_none hV
  simp only [List.append_nil] at hW' hcond
  have hbulk := hcond _ rfl
  replace hbulk := of_decide_eq_true hbulk
  simp only [Rows.uptoBulkAll] at hbulk
  have hlt : ∀ x ∈ _, MemPlace.block x < W.heap.size := fun x hx => hW'.lt x hx
  obtain ⟨a0, rfl, rfl, rfl, x0⟩ := open_int Tryd.underlying5 (hval 0 5 v0 rfl rfl) h0
  have y0 : 0 ≤ a0 ∧ a0 < 256 := by have h := x0; simp only [Lit.wf, IntKind.min, IntKind.max, IntKind.signed, IntKind.bits, Bool.and_eq_true, decide_eq_true_eq] at h; simp at h; omega
  obtain ⟨ts, T, rfl, hT, hkey, hbT⟩ := tree_arg (hval 1 32 v1 rfl rfl) h1 (by omega)
  obtain ⟨a2, rfl, rfl, rfl, x2⟩ := open_int Tryd.underlying33 (hval 2 33 v2 rfl rfl) h2
  have y2 : 0 ≤ a2 ∧ a2 < 65536 := by have h := x2; simp only [Lit.wf, IntKind.min, IntKind.max, IntKind.signed, IntKind.bits, Bool.and_eq_true, decide_eq_true_eq] at h; simp at h; omega
  clear hA0 hval0
  refine Calls.mono (walk_FnCutSASLAuthenticateRequest y0.1 y0.2 hT hkey hbT y2.1 y2.2 (errW_of hL)) fun e W' ⟨v, he, hv, hc⟩ => ?_
  subst he
  subst hv
  exact ⟨_, rfl, _, _, _, [], _, [], hW', trodAll_cons_mk (shut_bool Tryd.underlying4 _) trodAll_mk0, trodAll_cons_mk (shut_int Tryd.underlying5 x0) (trodAll_cons_mk (tree_same h1 hc (fun x hx => hlt x (by simp [hx]))) (trodAll_cons_mk (shut_int Tryd.underlying33 x2) (trodAll_mk0))), rfl, (below_of hc).frame _, fun h => by cases h⟩
theorem c2 : (Rows.fnCutSASLAuthenticateRequestUptoRow.inPlace == Tryd.prog.inPlace 4) = true := by kernel_rfl
theorem c3 : (Rows.fnCutSASLAuthenticateRequestUptoRow.unfollowed == Tryd.prog.unfollowed 4) = true := by kernel_rfl
theorem c4 : (Rows.fnCutSASLAuthenticateRequestUptoRow.recurses == Tryd.prog.recurses 4) = true := by kernel_rfl
theorem c5 : (Rows.fnCutSASLAuthenticateRequestUptoRow.named == Tryd.prog.varsNamed 4) = true := by kernel_rfl
theorem c7 : (Rows.fnCutSASLAuthenticateRequestUptoRow.lifted == Tryd.prog.liftsFinal) = true := by
  have h : Rows.fnCutSASLAuthenticateRequestUptoRow.lifted = Facts.lifted := rfl
  rw [h]; exact Facts.c7
theorem c8 : (Tryd.prog.make == some Rows.fnCutSASLAuthenticateRequestUptoRow.make) = true := by
  have h : Rows.fnCutSASLAuthenticateRequestUptoRow.make = Facts.make := rfl
  rw [h]; exact Facts.c8
theorem c9 : (Rows.fnCutSASLAuthenticateRequestUptoRow.plainKeys == Tryd.prog.plainKeys) = true := by
  have h : Rows.fnCutSASLAuthenticateRequestUptoRow.plainKeys = Facts.plainKeys := rfl
  rw [h]; exact Facts.c9
theorem c11 : Tryd.prog.funcNamed Rows.fnCutSASLAuthenticateRequestUptoRow.func = some 4 := by kernel_rfl
theorem closed : joinedFacts Tryd.prog 4 Tryd.f4 (Rows.OpenSpec.upto Rows.fnCutSASLAuthenticateRequestSpec).bare Rows.fnCutSASLAuthenticateRequestUptoRow = true := by
  unfold joinedFacts
  simp only [Bool.and_eq_true]
  repeat' (refine And.intro ?_ ?_)
  all_goals first | with_reducible exact Facts.c1 | with_reducible exact Facts.c0 | with_reducible exact c2 | with_reducible exact c3 | with_reducible exact c4 | with_reducible exact c5 | with_reducible exact Facts.c6 | with_reducible exact c7 | with_reducible exact c8 | with_reducible exact c9 | with_reducible exact Facts.c10 | kernel_rfl
theorem over : Rows.FnCutSASLAuthenticateRequestUptoSaid :=
  OpenClaim.holds_of_cond 4 Tryd.f4 rfl rfl rfl rfl rfl rfl rfl ⟨rfl, rfl, rfl, rfl, rfl⟩ rfl rfl rfl rfl rfl c11 Tryd.func4 closed
    (of_decide_eq_true (by kernel_rfl)) (by unfold Func.isWrapper; first | (rw [if_pos (by decide +kernel)]; kernel_rfl) | (rw [if_neg (by decide +kernel)]; exact ⟨rfl, rfl⟩))
    (fun os started H enc _ F => by rw [OpenClaim.pre_eq_preRow]; exact lifted os started H enc F)
theorem plain (f : FuncId) (fn : Func) (hf : Tryd.pinned.checked.prog.funcNamed "pub-kmsg/laws.FnCutSASLAuthenticateRequest" = some f) (hfn : Tryd.pinned.checked.prog.funcs[f]? = some fn) :
    false = Tryd.pinned.checked.prog.looks [] ∧ ∀ (j : Nat) t, fn.params[j]? = some t → Tryd.pinned.checked.prog.wantsStandIn t = false := by
  obtain rfl : f = 4 := Option.some.inj ((show Tryd.prog.funcNamed "pub-kmsg/laws.FnCutSASLAuthenticateRequest" = some 4 by kernel_rfl).symm.trans hf) |>.symm
  obtain rfl : fn = Tryd.f4 := (Option.some.inj (Tryd.func4.symm.trans hfn)).symm
  refine ⟨by kernel_rfl, fun j t ht => ?_⟩
  rw [Tryd.params4] at ht
  have hw0 : Tryd.prog.wantsStandIn 5 = false := by kernel_rfl
  have hw1 : Tryd.prog.wantsStandIn 32 = false := by kernel_rfl
  have hw2 : Tryd.prog.wantsStandIn 33 = false := by kernel_rfl
  have hm := Array.mem_of_getElem? ht
  simp only [List.mem_toArray, List.mem_cons, List.not_mem_nil, or_false] at hm
  rcases hm with rfl | rfl | rfl <;> assumption
end fnCutSASLAuthenticateRequest
theorem fnCutSASLAuthenticateRequest_holds : Rows.FnCutSASLAuthenticateRequestUptoCardSaid :=
  Claim7.holds_tied_plain_at .later [] _ _ _ _ fnCutSASLAuthenticateRequest.over (fun _ h => by cases h) (by kernel_rfl) (fun _ h => by cases h) fnCutSASLAuthenticateRequestUpto_row_tie rfl ⟨rfl, rfl⟩ (by kernel_rfl) rfl fnCutSASLAuthenticateRequest.plain (by kernel_rfl)
#print axioms fnCutSASLAuthenticateRequest_holds
end Go.Proofs.YtbgfphbajbbgoaaDoor

/-
What is read of any bytes as a TxnMetadataKey is written as bytes that are read again, and written as the same: for every input of bulk at most 1048576 the law returns true. Conditions: the listed variable holds what the text lays (tied by the card).
-/
import Derived.Test.YtgjnllebnkjofaaDoorZQ
import Derived.Test.YtgjnllebnkjofaaDoorZE
import Derived.Test.YtgjnllebnkjofaaDoorZW
import Derived.Test.YtgjnllebnkjofaaDoorZF
import Derived.Test.YtgjnllebnkjofaaDoorZP
namespace Go.Proofs.YtgjnllebnkjofaaDoor
set_option linter.all false
open Go.RowKit
set_option maxRecDepth 100000
set_option maxHeartbeats 2000000
def sch_TxnMetadataKey : List Fld := [.mk .text 0 (-1) (-1) (-1) 0 .bool []]
def schm_TxnMetadataKey : List Fld := [.mk .text (-32768) (-1) (-1) (-1) 0 .bool []]
def dd_TxnMetadataKey : List Value := [.string ⟨#[]⟩]
theorem defm_TxnMetadataKey : DefM 37 dd_TxnMetadataKey := by
  intro w B v T hb
  refine callsR_of0 Tryd.func37 rfl rfl Tryd.ntmps37 (by simp) ?_
  intro a hN hD ha
  exact wp_skip ⟨hD, hb, Chg.refl _ _⟩
theorem read_TxnMetadataKey : ReadsK 38 (fun ver => -32768 ≤ ver) (verF (-32768) :: schm_TxnMetadataKey) dd_TxnMetadataKey := by
  refine read_kept (by omega) (fun _ h => h) Tryd.func38 rfl rfl Tryd.ntmps38 (fun args w => Tryd.call37 args w) defm_TxnMetadataKey (by kernel_rfl) ?_
  intro ver hver
  (repeat' (first | (with_reducible refine rt_tagged rfl rfl ?_) | (with_reducible refine rt_next rfl (by kernel_rfl) ?_ ?_) | (with_reducible refine rt_end rfl ?_) | (with_reducible refine rt_noflex rfl ?_) | (with_reducible refine rt_fin co_en (by kernel_rfl) (by kernel_rfl)) | (with_reducible refine rd_tagged rfl rfl ?_) | (with_reducible refine rd_noflex rfl ?_) | (with_reducible refine rd_last rfl rfl (by kernel_rfl) ?_) | (with_reducible refine rd_next rfl (by kernel_rfl) (by kernel_rfl) ?_ ?_) | (with_reducible refine rd_end rfl ?_) | (with_reducible refine sf_allM rfl (by dsimp only; omega) ?_) | (with_reducible refine sf_all rfl (by dsimp only; omega) ?_) | ((with_reducible refine sf_from rfl (by kernel_rfl) (fun hv => ?_)); try dsimp only at hv) | ((with_reducible refine sf_range rfl (by kernel_rfl) (fun hv hv2 => ?_)); try dsimp only at hv hv2) | (with_reducible refine rf_store ?_ rfl (by kernel_rfl) (by kernel_rfl) (by kernel_rfl)) | (with_reducible refine rf_store2 ?_ rfl (by kernel_rfl) (by kernel_rfl) (by kernel_rfl) (by kernel_rfl)) | (with_reducible refine rd_pre ?_ (by kernel_rfl)) | (with_reducible refine rv_safe ?_ (by kernel_rfl)) | (with_reducible refine rv_flex rfl (fun hx => ?_) (fun hx => ?_) (by kernel_rfl)) | (with_reducible refine rv_i16 (by kernel_rfl)) | (with_reducible refine rv_string rfl (by first | assumption | rfl) (by kernel_rfl)) | (with_reducible refine rv_again ?_ (by kernel_rfl)) | (with_reducible refine rv_pre ?_ (by kernel_rfl))))
theorem app_TxnMetadataKey : AppendsK 25 (fun ver => -32768 ≤ ver) (verF (-32768) :: schm_TxnMetadataKey) := by
  refine app_kept Tryd.func25 rfl rfl Tryd.ntmps25 (by kernel_rfl) ?_
  intro ver s hver
  (repeat' (first | with_reducible refine wt_start ?_ | with_reducible refine wp_noflex rfl ?_ | with_reducible refine wr_start ?_ | with_reducible refine wt_tagged rfl rfl ?_ | (with_reducible refine wt_next rfl (by kernel_rfl) (fun d hd => ?_) ?_) | (with_reducible refine wt_fin rfl rfl ?_) | (with_reducible refine wt_end rfl (by kernel_rfl) ?_ ?_) | (with_reducible refine wt_ret (by kernel_rfl)) | with_reducible refine wr_tagged rfl rfl ?_ | (with_reducible refine wr_last rfl rfl (fun d hd => ?_)) | (with_reducible refine wr_next rfl (by kernel_rfl) (fun d hd => ?_) ?_) | (with_reducible refine wr_end rfl ?_) | (with_reducible refine wf_allM rfl (by dsimp only; omega) ?_) | (with_reducible refine wf_all rfl (by dsimp only; omega) ?_) | ((with_reducible refine wf_from rfl (by kernel_rfl) (fun hv => ?_)); try dsimp only at hv) | ((with_reducible refine wf_range rfl (by kernel_rfl) (fun hv hv2 => ?_)); try dsimp only at hv hv2) | (with_reducible refine wf_load rfl hd (by kernel_rfl) (by kernel_rfl) rfl ?_) | (with_reducible refine wv_i16 (by kernel_rfl)) | (with_reducible refine wv_flexS rfl (by kernel_rfl) (fun hx => ?_) (fun hx => ?_)) | (with_reducible refine wv_string rfl (by first | assumption | rfl) (by kernel_rfl)) | (with_reducible refine wv_again (by kernel_rfl) rfl ?_)))
end Go.Proofs.YtgjnllebnkjofaaDoor
namespace Go.Proofs.YtgjnllebnkjofaaDoor
set_option linter.all false
open Go.RowKit
set_option maxRecDepth 100000
set_option maxHeartbeats 2000000
theorem lay_TxnMetadataKey : LaysM 12 sch_TxnMetadataKey (-1) := by
  intro w
  refine callsR_ofC Tryd.func12 rfl rfl (by kernel_rfl) Tryd.ntmps12 (by simp) ?_
  intro a hN hD ha
  refine wp_seq_k fun K hK => ?_; refine zag ?_
  refine wl_allocA (z := zaJ [.slice none 0 0, .int .i64 0]) (fun w => Tryd.zeroValue31 w) fun w0 hc0 hb0 hs0 => ?_
  refine zad ?_; refine hK _ _ ?_; clear hK K
  refine wp_seq_k fun K hK => ?_; refine zag ?_
  have hq : Chg (fun _ => False) w0 w0 := Chg.refl _ _
  refine wl_build (l := fldCells (.mk .text 0 (-1) (-1) (-1) 0 .bool []) (.slice none 0 0)) (by simp only [List.map_toArray, List.map_cons, List.map_nil, evb, kb, hN, seval]; kernel_rfl) ?_
  refine wl_fields sch_TxnMetadataKey [fldCells (.mk .text 0 (-1) (-1) (-1) 0 .bool []) (.slice none 0 0)] rfl (by simp only [List.map_toArray, List.map_cons, List.map_nil, evb, kb, hN, seval]; rfl) (by simp only [List.length_cons, List.length_nil]; omega) hq (.cons (fldCells_is (.mk .text 0 (-1) (-1) (-1) 0 .bool []) (schS_nil _ _ _ _)) (.nil)) ?_
  rintro v wF hcF hkF hsF rfl
  refine wl_build (l := [.slice (some ⟨w0.heap.size, 0, none⟩) (sch_TxnMetadataKey).length (sch_TxnMetadataKey).length, .int .i64 (-1)]) (by simp only [List.map_toArray, List.map_cons, List.map_nil, evb, kb, hN, seval]; kernel_rfl) ?_
  have hbF := hb0.chg hcF (fun h => h)
  refine zaU (b := w.heap.size) (n := 2) (l' := [.slice (some ⟨w0.heap.size, 0, none⟩) (sch_TxnMetadataKey).length (sch_TxnMetadataKey).length, .int .i64 (-1)]) (by kernel_rfl) (by simp [evb, kb, hN, sdb]) (by simp [evb, kb, hN, sdb]) hbF rfl (by intro y hy; simp only [List.mem_cons, List.not_mem_nil, or_false] at hy; rcases hy with rfl | rfl <;> rfl) rfl fun wE hbE hcE => ?_
  refine zad ?_; refine hK _ _ ?_; clear hK K
  refine wp_ret ⟨by simp [zab, hD], w.heap.size, _, _, by simp only [evb, kb, hN, seval], hbE, by kernel_rfl, ⟨_, rfl, SchS.stay ⟨fun k hk hg => ⟨hcE.block k hk (by omega), by omega⟩⟩ hsF, ?_⟩⟩
  exact (hc0.trans hcF fun _ _ h => h).trans hcE fun k hk h => by omega
theorem zero_TxnMetadataKey : zeroB Tryd.prog 55 (zaJ (.int .i16 0 :: dd_TxnMetadataKey)) := fun w => Tryd.zeroValue55 w
theorem new_TxnMetadataKey : NewV 23 (.int .i16 0 :: dd_TxnMetadataKey) := newval_of (n := 2) Tryd.func23 rfl rfl Tryd.ntmps23 zero_TxnMetadataKey (fun args w => Tryd.call37 args w) defm_TxnMetadataKey (by kernel_rfl)
theorem from_TxnMetadataKey : ReadsFrom 24 38 := fun h => readfrom_c Tryd.func24 rfl rfl Tryd.ntmps24 (fun args w => Tryd.call38 args w) h
theorem ag_TxnMetadataKey : AgK 11 (fun ver => -32768 ≤ ver) (verF (-32768) :: schm_TxnMetadataKey) :=
  again_kept (n := 2) (fun _ h => h) Tryd.func11 rfl rfl Tryd.ntmps11 (fun args w => Tryd.call23 args w) (fun args w => Tryd.call24 args w) (fun args w => Tryd.call25 args w) zero_TxnMetadataKey (by kernel_rfl) new_TxnMetadataKey from_TxnMetadataKey read_TxnMetadataKey app_TxnMetadataKey
theorem ok_TxnMetadataKey : SchOK (fun _ => false) 0 sch_TxnMetadataKey := schB_out (by kernel_rfl)
theorem dec_TxnMetadataKey : ∀ (ver : Int) bs, -32768 ≤ ver → zaF false ver schm_TxnMetadataKey bs = zaF false 0 sch_TxnMetadataKey bs := by
  intro ver bs h
  unfold zaF partOf schm_TxnMetadataKey sch_TxnMetadataKey
  simp [decL, decF, Fld.has, Fld.tag, Fld.from_, Fld.to, h]
theorem enc_TxnMetadataKey : ∀ (ver : Int) s, -32768 ≤ ver → zaH false ver schm_TxnMetadataKey s = zaH false 0 sch_TxnMetadataKey s := by
  rintro ver ⟨ds, t⟩ h
  unfold zaH schm_TxnMetadataKey sch_TxnMetadataKey
  cases ds with
  | nil => rfl
  | cons d ds => simp [encL, encF, Fld.has, Fld.tag, Fld.from_, Fld.to, h]
theorem ag0_TxnMetadataKey : AgK0 11 sch_TxnMetadataKey := agk0_of ag_TxnMetadataKey dec_TxnMetadataKey enc_TxnMetadataKey
theorem any_TxnMetadataKey : AnyOK (fun _ => false) 0 (verF 0 :: sch_TxnMetadataKey) := anyB_out (by kernel_rfl)
theorem walk_FnAnyTxnMetadataKey {w : World} {G : Nat → Prop} {oa : Option Addr} {bs : Bs} {cap : Nat} (hbs : zau w G oa bs) (hcap : bs.length ≤ cap) (hlen : bs.length ≤ 1048576) (herr : ErrW w) :
    zaD Tryd.prog 4 #[.slice oa bs.length cap] w fun v w' => v = .bool true ∧ Chg (fun _ => False) w w' :=
  lawAnyK_of Tryd.func4 rfl rfl Tryd.ntmps4 (fun args w => Tryd.call12 args w) (fun args w => Tryd.call11 args w) lay_TxnMetadataKey ag0_TxnMetadataKey ok_TxnMetadataKey (of_decide_eq_true (by kernel_rfl)) any_TxnMetadataKey hbs hcap hlen herr
end Go.Proofs.YtgjnllebnkjofaaDoor
namespace Go.Proofs.YtgjnllebnkjofaaDoor
set_option linter.all false
namespace fnAnyTxnMetadataKey
open Go.ChangeShapes Go.WideShapes Go.ChangeAt Go.RowKit
set_option maxRecDepth 100000
set_option maxHeartbeats 1000000
theorem laid_met (os : Os) : laidMet Tryd.prog Rows.fnAnyTxnMetadataKeyUptoRow.laid ((laidWorld os).forCall (fun _ _ => 0) ⟨#[], #[.slice none 0 0], []⟩).memory :=
  laidMet_of_run' 8 (by kernel_rfl) (by kernel_rfl)
theorem witness_row (os : Os) {H : Type} (enc : TypeId × Value → H) :
    (Rows.OpenSpec.upto Rows.fnAnyTxnMetadataKeySpec).preRow enc Tryd.prog Tryd.f4 Rows.fnAnyTxnMetadataKeyUptoRow.domain false Rows.fnAnyTxnMetadataKeyUptoRow.laid ((laidWorld os).forCall (fun _ _ => 0) ⟨#[], #[.slice none 0 0], []⟩).memory #[.slice none 0 0] := by
  have hw : (DataW.whole enc Tryd.prog ((laidWorld os).forCall (fun _ _ => 0) ⟨#[], #[.slice none 0 0], []⟩).memory Tryd.f4.params.toList Rows.fnAnyTxnMetadataKeySpec.vars false (#[.slice none 0 0] : Array Value).toList 8).map (fun x => (decide (Rows.uptoBulkAll (x.1 ++ x.2.1) ≤ 1048576))) = some true := by kernel_rfl
  obtain ⟨⟨x1, x2, x3⟩, hx, hx1⟩ := Option.map_eq_some_iff.1 hw
  exact OpenSpec.preRow_of_cond 8 hx (by kernel_rfl) (fun k hk => by cases hk; exact hx1) (by kernel_rfl) (laid_met os)
theorem lifted (os : Os) (started : os.Started) (H : Type) (enc : TypeId × Value → H) (F : Stop.Interp) :
    ReturnsInHanded {} Tryd.checked os 4 .any ((Rows.OpenSpec.upto Rows.fnAnyTxnMetadataKeySpec).preRow enc Tryd.prog Tryd.f4 Rows.fnAnyTxnMetadataKeyUptoRow.domain false Rows.fnAnyTxnMetadataKeyUptoRow.laid) (((Rows.OpenSpec.upto Rows.fnAnyTxnMetadataKeySpec).at F).post enc Tryd.prog Tryd.f4 false true false false) := by
  refine returnsInHanded_of_row (C := Tryd.checked) (s := Rows.OpenSpec.upto Rows.fnAnyTxnMetadataKeySpec) own started (by kernel_rfl) Tryd.func4
    (witness_row_atRef (enc := enc) (C := Tryd.checked) false (laidWorld os) #[.slice none 0 0] rfl (by kernel_rfl) (by kernel_rfl) (by kernel_rfl) (witness_row os enc)) ?_
  intro W base args ds gs before hval0 hW _ hcond _ hL _ _
  have hval : ∀ (j : Nat) t v, Tryd.f4.params[j]? = some t → args[j]? = some v → Value.okWide Tryd.prog W .any base t v := hval0
  have hW' := hW
  obtain ⟨p, q, hA0, hV, rfl, hfz, hnd⟩ := hW
  have hA : DataW.TrodAll enc Tryd.prog W 0 (fun _ => true) true Tryd.f4.params.toList args.toList ds p := hA0
  rw [Tryd.params4] at hA hval
  obtain ⟨v0, vs0, d0, ds0, p0, q0, hargs, rfl, rfl, h0, r0⟩ := trodAll_cons hA
  obtain ⟨rfl, rfl, rfl⟩ := trodAll_nil r0
  obtain rfl : args = #[v0] := by cases args; simp_all
  obtain ⟨rfl, rfl⟩ := trodVars_none hV
  simp only [List.append_nil] at hW' hcond
  have hbulk := hcond _ rfl
  replace hbulk := of_decide_eq_true hbulk
  simp only [Rows.uptoBulkAll] at hbulk
  have hlt : ∀ x ∈ _, MemPlace.block x < W.heap.size := fun x hx => hW'.lt x hx
  obtain ⟨oa, bs, cap, rfl, hbs, hcap, hlen⟩ := bytes_arg (hval 0 22 v0 rfl rfl) h0 (by omega)
  clear hA0 hval0
  refine Calls.mono (walk_FnAnyTxnMetadataKey hbs hcap hlen (errW_of hL)) fun e W' ⟨v, he, hv, hc⟩ => ?_
  subst he
  subst hv
  exact ⟨_, rfl, _, _, _, [], _, [], hW', trodAll_cons_mk (shut_bool Tryd.underlying4 _) trodAll_mk0, trodAll_cons_mk (bytes_same h0 hc (fun x hx => hlt x (by simp [hx]))) (trodAll_mk0), rfl, (below_of hc).frame _, fun h => by cases h⟩
theorem c2 : (Rows.fnAnyTxnMetadataKeyUptoRow.inPlace == Tryd.prog.inPlace 4) = true := by kernel_rfl
theorem c3 : (Rows.fnAnyTxnMetadataKeyUptoRow.unfollowed == Tryd.prog.unfollowed 4) = true := by kernel_rfl
theorem c4 : (Rows.fnAnyTxnMetadataKeyUptoRow.recurses == Tryd.prog.recurses 4) = true := by kernel_rfl
theorem c5 : (Rows.fnAnyTxnMetadataKeyUptoRow.named == Tryd.prog.varsNamed 4) = true := by kernel_rfl
theorem c7 : (Rows.fnAnyTxnMetadataKeyUptoRow.lifted == Tryd.prog.liftsFinal) = true := by
  have h : Rows.fnAnyTxnMetadataKeyUptoRow.lifted = Facts.lifted := rfl
  rw [h]; exact Facts.c7
theorem c8 : (Tryd.prog.make == some Rows.fnAnyTxnMetadataKeyUptoRow.make) = true := by
  have h : Rows.fnAnyTxnMetadataKeyUptoRow.make = Facts.make := rfl
  rw [h]; exact Facts.c8
theorem c9 : (Rows.fnAnyTxnMetadataKeyUptoRow.plainKeys == Tryd.prog.plainKeys) = true := by
  have h : Rows.fnAnyTxnMetadataKeyUptoRow.plainKeys = Facts.plainKeys := rfl
  rw [h]; exact Facts.c9
theorem c11 : Tryd.prog.funcNamed Rows.fnAnyTxnMetadataKeyUptoRow.func = some 4 := by kernel_rfl
theorem closed : joinedFacts Tryd.prog 4 Tryd.f4 (Rows.OpenSpec.upto Rows.fnAnyTxnMetadataKeySpec).bare Rows.fnAnyTxnMetadataKeyUptoRow = true := by
  unfold joinedFacts
  simp only [Bool.and_eq_true]
  repeat' (refine And.intro ?_ ?_)
  all_goals first | with_reducible exact Facts.c1 | with_reducible exact Facts.c0 | with_reducible exact c2 | with_reducible exact c3 | with_reducible exact c4 | with_reducible exact c5 | with_reducible exact Facts.c6 | with_reducible exact c7 | with_reducible exact c8 | with_reducible exact c9 | with_reducible exact Facts.c10 | kernel_rfl
theorem over : Rows.FnAnyTxnMetadataKeyUptoSaid :=
  OpenClaim.holds_of_cond 4 Tryd.f4 rfl rfl rfl rfl rfl rfl rfl ⟨rfl, rfl, rfl, rfl, rfl⟩ rfl rfl rfl rfl rfl c11 Tryd.func4 closed
    (of_decide_eq_true (by kernel_rfl)) (by unfold Func.isWrapper; first | (rw [if_pos (by decide +kernel)]; kernel_rfl) | (rw [if_neg (by decide +kernel)]; exact ⟨rfl, rfl⟩))
    (fun os started H enc _ F => by rw [OpenClaim.pre_eq_preRow]; exact lifted os started H enc F)
theorem plain (f : FuncId) (fn : Func) (hf : Tryd.pinned.checked.prog.funcNamed "pub-kmsg/laws.FnAnyTxnMetadataKey" = some f) (hfn : Tryd.pinned.checked.prog.funcs[f]? = some fn) :
    false = Tryd.pinned.checked.prog.looks [] ∧ ∀ (j : Nat) t, fn.params[j]? = some t → Tryd.pinned.checked.prog.wantsStandIn t = false := by
  obtain rfl : f = 4 := Option.some.inj ((show Tryd.prog.funcNamed "pub-kmsg/laws.FnAnyTxnMetadataKey" = some 4 by kernel_rfl).symm.trans hf) |>.symm
  obtain rfl : fn = Tryd.f4 := (Option.some.inj (Tryd.func4.symm.trans hfn)).symm
  refine ⟨by kernel_rfl, fun j t ht => ?_⟩
  rw [Tryd.params4] at ht
  have hw0 : Tryd.prog.wantsStandIn 22 = false := by kernel_rfl
  have hm := Array.mem_of_getElem? ht
  simp only [List.mem_toArray, List.mem_cons, List.not_mem_nil, or_false] at hm
  rcases hm with rfl <;> assumption
end fnAnyTxnMetadataKey
theorem fnAnyTxnMetadataKey_holds : Rows.FnAnyTxnMetadataKeyUptoCardSaid :=
  Claim7.holds_tied_plain_at .later [] _ _ _ _ fnAnyTxnMetadataKey.over (fun _ h => by cases h) (by kernel_rfl) (fun _ h => by cases h) fnAnyTxnMetadataKeyUpto_row_tie rfl ⟨rfl, rfl⟩ (by kernel_rfl) rfl fnAnyTxnMetadataKey.plain (by kernel_rfl)
#print axioms fnAnyTxnMetadataKey_holds
end Go.Proofs.YtgjnllebnkjofaaDoor

/-
What a ControlRecordKey says, written by the rules of the protocol, is read, and written back byte by byte: for every input of bulk at most 1048576 the law returns true. Conditions: the listed variable holds what the text lays (tied by the card).
-/
import Derived.Test.YtgjnllebnkjofaaDoorZQ
import Derived.Test.YtgjnllebnkjofaaDoorZE
import Derived.Test.YtgjnllebnkjofaaDoorZW
import Derived.Test.YtgjnllebnkjofaaDoorZF
import Derived.Test.YtgjnllebnkjofaaDoorZP
namespace Go.Proofs.YtgjnllebnkjofaaDoor
set_option linter.all false
open Go.RowKit
set_option maxRecDepth 100000
set_option maxHeartbeats 2000000
def sch_ControlRecordKey : List Fld := [.mk .i16 0 (-1) (-1) (-1) 0 .bool []]
def dd_ControlRecordKey : List Value := [.int .i16 0]
theorem defm_ControlRecordKey : DefM 34 dd_ControlRecordKey := by
  intro w B v T hb
  refine callsR_of0 Tryd.func34 rfl rfl Tryd.ntmps34 (by simp) ?_
  intro a hN hD ha
  exact wp_skip ⟨hD, hb, Chg.refl _ _⟩
theorem read_ControlRecordKey : ReadsK 35 (fun ver => 0 ≤ ver) (verF 0 :: sch_ControlRecordKey) dd_ControlRecordKey := by
  refine read_kept (by omega) (fun _ h => h) Tryd.func35 rfl rfl Tryd.ntmps35 (fun args w => Tryd.call34 args w) defm_ControlRecordKey (by kernel_rfl) ?_
  intro ver hver
  (repeat' (first | (with_reducible refine rt_tagged rfl rfl ?_) | (with_reducible refine rt_next rfl (by kernel_rfl) ?_ ?_) | (with_reducible refine rt_end rfl ?_) | (with_reducible refine rt_noflex rfl ?_) | (with_reducible refine rt_fin co_en (by kernel_rfl) (by kernel_rfl)) | (with_reducible refine rd_tagged rfl rfl ?_) | (with_reducible refine rd_noflex rfl ?_) | (with_reducible refine rd_last rfl rfl (by kernel_rfl) ?_) | (with_reducible refine rd_next rfl (by kernel_rfl) (by kernel_rfl) ?_ ?_) | (with_reducible refine rd_end rfl ?_) | (with_reducible refine sf_all rfl (by dsimp only; omega) ?_) | ((with_reducible refine sf_from rfl (by kernel_rfl) (fun hv => ?_)); try dsimp only at hv) | ((with_reducible refine sf_range rfl (by kernel_rfl) (fun hv hv2 => ?_)); try dsimp only at hv hv2) | (with_reducible refine rf_store ?_ rfl (by kernel_rfl) (by kernel_rfl) (by kernel_rfl)) | (with_reducible refine rf_store2 ?_ rfl (by kernel_rfl) (by kernel_rfl) (by kernel_rfl) (by kernel_rfl)) | (with_reducible refine rd_pre ?_ (by kernel_rfl)) | (with_reducible refine rv_safe ?_ (by kernel_rfl)) | (with_reducible refine rv_flex rfl (fun hx => ?_) (fun hx => ?_) (by kernel_rfl)) | (with_reducible refine rv_i16 (by kernel_rfl)) | (with_reducible refine rv_again ?_ (by kernel_rfl)) | (with_reducible refine rv_pre ?_ (by kernel_rfl))))
theorem app_ControlRecordKey : AppendsK 22 (fun ver => 0 ≤ ver) (verF 0 :: sch_ControlRecordKey) := by
  refine app_kept Tryd.func22 rfl rfl Tryd.ntmps22 (by kernel_rfl) ?_
  intro ver s hver
  (repeat' (first | with_reducible refine wt_start ?_ | with_reducible refine wp_noflex rfl ?_ | with_reducible refine wr_start ?_ | with_reducible refine wt_tagged rfl rfl ?_ | (with_reducible refine wt_next rfl (by kernel_rfl) (fun d hd => ?_) ?_) | (with_reducible refine wt_fin rfl rfl ?_) | (with_reducible refine wt_end rfl (by kernel_rfl) ?_ ?_) | (with_reducible refine wt_ret (by kernel_rfl)) | with_reducible refine wr_tagged rfl rfl ?_ | (with_reducible refine wr_last rfl rfl (fun d hd => ?_)) | (with_reducible refine wr_next rfl (by kernel_rfl) (fun d hd => ?_) ?_) | (with_reducible refine wr_end rfl ?_) | (with_reducible refine wf_all rfl (by dsimp only; omega) ?_) | ((with_reducible refine wf_from rfl (by kernel_rfl) (fun hv => ?_)); try dsimp only at hv) | ((with_reducible refine wf_range rfl (by kernel_rfl) (fun hv hv2 => ?_)); try dsimp only at hv hv2) | (with_reducible refine wf_load rfl hd (by kernel_rfl) (by kernel_rfl) rfl ?_) | (with_reducible refine wv_i16 (by kernel_rfl)) | (with_reducible refine wv_flexS rfl (by kernel_rfl) (fun hx => ?_) (fun hx => ?_)) | (with_reducible refine wv_again (by kernel_rfl) rfl ?_)))
end Go.Proofs.YtgjnllebnkjofaaDoor
namespace Go.Proofs.YtgjnllebnkjofaaDoor
set_option linter.all false
open Go.RowKit
set_option maxRecDepth 100000
set_option maxHeartbeats 2000000
theorem lay_ControlRecordKey : LaysM 8 sch_ControlRecordKey (-1) := by
  intro w
  refine callsR_ofC Tryd.func8 rfl rfl (by kernel_rfl) Tryd.ntmps8 (by simp) ?_
  intro a hN hD ha
  refine wp_seq_k fun K hK => ?_; refine zag ?_
  refine wl_allocA (z := zaJ [.slice none 0 0, .int .i64 0]) (fun w => Tryd.zeroValue31 w) fun w0 hc0 hb0 hs0 => ?_
  refine zad ?_; refine hK _ _ ?_; clear hK K
  refine wp_seq_k fun K hK => ?_; refine zag ?_
  have hq : Chg (fun _ => False) w0 w0 := Chg.refl _ _
  refine wl_build (l := fldCells (.mk .i16 0 (-1) (-1) (-1) 0 .bool []) (.slice none 0 0)) (by simp only [List.map_toArray, List.map_cons, List.map_nil, evb, kb, hN, seval]; kernel_rfl) ?_
  refine wl_fields sch_ControlRecordKey [fldCells (.mk .i16 0 (-1) (-1) (-1) 0 .bool []) (.slice none 0 0)] rfl (by simp only [List.map_toArray, List.map_cons, List.map_nil, evb, kb, hN, seval]; rfl) (by simp only [List.length_cons, List.length_nil]; omega) hq (.cons (fldCells_is (.mk .i16 0 (-1) (-1) (-1) 0 .bool []) (schS_nil _ _ _ _)) (.nil)) ?_
  rintro v wF hcF hkF hsF rfl
  refine wl_build (l := [.slice (some ⟨w0.heap.size, 0, none⟩) (sch_ControlRecordKey).length (sch_ControlRecordKey).length, .int .i64 (-1)]) (by simp only [List.map_toArray, List.map_cons, List.map_nil, evb, kb, hN, seval]; kernel_rfl) ?_
  have hbF := hb0.chg hcF (fun h => h)
  refine zaU (b := w.heap.size) (n := 2) (l' := [.slice (some ⟨w0.heap.size, 0, none⟩) (sch_ControlRecordKey).length (sch_ControlRecordKey).length, .int .i64 (-1)]) (by kernel_rfl) (by simp [evb, kb, hN, sdb]) (by simp [evb, kb, hN, sdb]) hbF rfl (by intro y hy; simp only [List.mem_cons, List.not_mem_nil, or_false] at hy; rcases hy with rfl | rfl <;> rfl) rfl fun wE hbE hcE => ?_
  refine zad ?_; refine hK _ _ ?_; clear hK K
  refine wp_ret ⟨by simp [zab, hD], w.heap.size, _, _, by simp only [evb, kb, hN, seval], hbE, by kernel_rfl, ⟨_, rfl, SchS.stay ⟨fun k hk hg => ⟨hcE.block k hk (by omega), by omega⟩⟩ hsF, ?_⟩⟩
  exact (hc0.trans hcF fun _ _ h => h).trans hcE fun k hk h => by omega
theorem zero_ControlRecordKey : zeroB Tryd.prog 48 (zaJ (.int .i16 0 :: dd_ControlRecordKey)) := fun w => Tryd.zeroValue48 w
theorem new_ControlRecordKey : NewV 20 (.int .i16 0 :: dd_ControlRecordKey) := newval_of (n := 2) Tryd.func20 rfl rfl Tryd.ntmps20 zero_ControlRecordKey (fun args w => Tryd.call34 args w) defm_ControlRecordKey (by kernel_rfl)
theorem from_ControlRecordKey : ReadsFrom 21 35 := fun h => readfrom_c Tryd.func21 rfl rfl Tryd.ntmps21 (fun args w => Tryd.call35 args w) h
theorem ag_ControlRecordKey : AgK 9 (fun ver => 0 ≤ ver) (verF 0 :: sch_ControlRecordKey) :=
  again_kept (n := 2) (fun _ h => h) Tryd.func9 rfl rfl Tryd.ntmps9 (fun args w => Tryd.call20 args w) (fun args w => Tryd.call21 args w) (fun args w => Tryd.call22 args w) zero_ControlRecordKey (by kernel_rfl) new_ControlRecordKey from_ControlRecordKey read_ControlRecordKey app_ControlRecordKey
theorem ok_ControlRecordKey : SchOK (fun _ => false) 0 sch_ControlRecordKey := schB_out (by kernel_rfl)
theorem walk_FnAgainControlRecordKey {a : Int} (hn : 0 ≤ a) (hn2 : a < 256) {w : World} {G : Nat → Prop} {v : Tr} {ts : List Value} (hv : TrC w G v ts) (hkv : keyV v) (hb : zaN v ≤ 1048576) (herr : ErrW w) :
    zaD Tryd.prog 3 #[.int .u8 a, zaJ ts] w fun v w' => v = .bool true ∧ Chg (fun _ => False) w w' :=
  lawAgainK_of (k := 0) Tryd.func3 rfl rfl (by kernel_rfl) rfl Tryd.ntmps3 (fun args w => Tryd.call8 args w) (fun args w => Tryd.call9 args w) lay_ControlRecordKey ag_ControlRecordKey (by decide) rfl ok_ControlRecordKey (of_decide_eq_true (by kernel_rfl)) hn hn2 hv hkv hb herr
end Go.Proofs.YtgjnllebnkjofaaDoor
namespace Go.Proofs.YtgjnllebnkjofaaDoor
set_option linter.all false
namespace fnAgainControlRecordKey
open Go.ChangeShapes Go.WideShapes Go.ChangeAt Go.RowKit
set_option maxRecDepth 100000
set_option maxHeartbeats 1000000
theorem laid_met (os : Os) : laidMet Tryd.prog Rows.fnAgainControlRecordKeyUptoRow.laid ((laidWorld os).forCall (fun _ _ => 0) ⟨#[], #[.int .u8 0, .agg #[.int .i64 0, .slice none 0 0, .bool false, .slice none 0 0, .slice none 0 0]], []⟩).memory :=
  laidMet_of_run' 8 (by kernel_rfl) (by kernel_rfl)
theorem witness_row (os : Os) {H : Type} (enc : TypeId × Value → H) :
    (Rows.OpenSpec.upto Rows.fnAgainControlRecordKeySpec).preRow enc Tryd.prog Tryd.f3 Rows.fnAgainControlRecordKeyUptoRow.domain false Rows.fnAgainControlRecordKeyUptoRow.laid ((laidWorld os).forCall (fun _ _ => 0) ⟨#[], #[.int .u8 0, .agg #[.int .i64 0, .slice none 0 0, .bool false, .slice none 0 0, .slice none 0 0]], []⟩).memory #[.int .u8 0, .agg #[.int .i64 0, .slice none 0 0, .bool false, .slice none 0 0, .slice none 0 0]] := by
  have hw : (DataW.whole enc Tryd.prog ((laidWorld os).forCall (fun _ _ => 0) ⟨#[], #[.int .u8 0, .agg #[.int .i64 0, .slice none 0 0, .bool false, .slice none 0 0, .slice none 0 0]], []⟩).memory Tryd.f3.params.toList Rows.fnAgainControlRecordKeySpec.vars false (#[.int .u8 0, .agg #[.int .i64 0, .slice none 0 0, .bool false, .slice none 0 0, .slice none 0 0]] : Array Value).toList 8).map (fun x => (decide (Rows.uptoBulkAll (x.1 ++ x.2.1) ≤ 1048576))) = some true := by kernel_rfl
  obtain ⟨⟨x1, x2, x3⟩, hx, hx1⟩ := Option.map_eq_some_iff.1 hw
  exact OpenSpec.preRow_of_cond 8 hx (by kernel_rfl) (fun k hk => by cases hk; exact hx1) (by kernel_rfl) (laid_met os)
theorem lifted (os : Os) (started : os.Started) (H : Type) (enc : TypeId × Value → H) (F : Stop.Interp) :
    ReturnsInHanded {} Tryd.checked os 3 .any ((Rows.OpenSpec.upto Rows.fnAgainControlRecordKeySpec).preRow enc Tryd.prog Tryd.f3 Rows.fnAgainControlRecordKeyUptoRow.domain false Rows.fnAgainControlRecordKeyUptoRow.laid) (((Rows.OpenSpec.upto Rows.fnAgainControlRecordKeySpec).at F).post enc Tryd.prog Tryd.f3 false true false false) := by
  refine returnsInHanded_of_row (C := Tryd.checked) (s := Rows.OpenSpec.upto Rows.fnAgainControlRecordKeySpec) own started (by kernel_rfl) Tryd.func3
    (witness_row_atRef (enc := enc) (C := Tryd.checked) false (laidWorld os) #[.int .u8 0, .agg #[.int .i64 0, .slice none 0 0, .bool false, .slice none 0 0, .slice none 0 0]] rfl (by kernel_rfl) (by kernel_rfl) (by kernel_rfl) (witness_row os enc)) ?_
  intro W base args ds gs before hval0 hW _ hcond _ hL _ _
  have hval : ∀ (j : Nat) t v, Tryd.f3.params[j]? = some t → args[j]? = some v → Value.okWide Tryd.prog W .any base t v := hval0
  have hW' := hW
  obtain ⟨p, q, hA0, hV, rfl, hfz, hnd⟩ := hW
  have hA : DataW.TrodAll enc Tryd.prog W 0 (fun _ => true) true Tryd.f3.params.toList args.toList ds p := hA0
  rw [Tryd.params3] at hA hval
  obtain ⟨v0, vs0, d0, ds0, p0, q0, hargs, rfl, rfl, h0, r0⟩ := trodAll_cons hA
  obtain ⟨v1, vs1, d1, ds1, p1, q1, rfl, rfl, rfl, h1, r1⟩ := trodAll_cons r0
  obtain ⟨rfl, rfl, rfl⟩ := trodAll_nil r1
  obtain rfl : args = #[v0, v1] := by cases args; simp_all
  obtain ⟨rfl, rfl⟩ := trodVars_none hV
  simp only [List.append_nil] at hW' hcond
  have hbulk := hcond _ rfl
  replace hbulk := of_decide_eq_true hbulk
  simp only [Rows.uptoBulkAll] at hbulk
  have hlt : ∀ x ∈ _, MemPlace.block x < W.heap.size := fun x hx => hW'.lt x hx
  obtain ⟨a0, rfl, rfl, rfl, x0⟩ := open_int Tryd.underlying5 (hval 0 5 v0 rfl rfl) h0
  have y0 : 0 ≤ a0 ∧ a0 < 256 := by have h := x0; simp only [Lit.wf, IntKind.min, IntKind.max, IntKind.signed, IntKind.bits, Bool.and_eq_true, decide_eq_true_eq] at h; simp at h; omega
  obtain ⟨ts, T, rfl, hT, hkey, hbT⟩ := tree_arg (hval 1 26 v1 rfl rfl) h1 (by omega)
  clear hA0 hval0
  refine Calls.mono (walk_FnAgainControlRecordKey y0.1 y0.2 hT hkey hbT (errW_of hL)) fun e W' ⟨v, he, hv, hc⟩ => ?_
  subst he
  subst hv
  exact ⟨_, rfl, _, _, _, [], _, [], hW', trodAll_cons_mk (shut_bool Tryd.underlying4 _) trodAll_mk0, trodAll_cons_mk (shut_int Tryd.underlying5 x0) (trodAll_cons_mk (tree_same h1 hc (fun x hx => hlt x (by simp [hx]))) (trodAll_mk0)), rfl, (below_of hc).frame _, fun h => by cases h⟩
theorem c2 : (Rows.fnAgainControlRecordKeyUptoRow.inPlace == Tryd.prog.inPlace 3) = true := by kernel_rfl
theorem c3 : (Rows.fnAgainControlRecordKeyUptoRow.unfollowed == Tryd.prog.unfollowed 3) = true := by kernel_rfl
theorem c4 : (Rows.fnAgainControlRecordKeyUptoRow.recurses == Tryd.prog.recurses 3) = true := by kernel_rfl
theorem c5 : (Rows.fnAgainControlRecordKeyUptoRow.named == Tryd.prog.varsNamed 3) = true := by kernel_rfl
theorem c7 : (Rows.fnAgainControlRecordKeyUptoRow.lifted == Tryd.prog.liftsFinal) = true := by
  have h : Rows.fnAgainControlRecordKeyUptoRow.lifted = Facts.lifted := rfl
  rw [h]; exact Facts.c7
theorem c8 : (Tryd.prog.make == some Rows.fnAgainControlRecordKeyUptoRow.make) = true := by
  have h : Rows.fnAgainControlRecordKeyUptoRow.make = Facts.make := rfl
  rw [h]; exact Facts.c8
theorem c9 : (Rows.fnAgainControlRecordKeyUptoRow.plainKeys == Tryd.prog.plainKeys) = true := by
  have h : Rows.fnAgainControlRecordKeyUptoRow.plainKeys = Facts.plainKeys := rfl
  rw [h]; exact Facts.c9
theorem c11 : Tryd.prog.funcNamed Rows.fnAgainControlRecordKeyUptoRow.func = some 3 := by kernel_rfl
theorem closed : joinedFacts Tryd.prog 3 Tryd.f3 (Rows.OpenSpec.upto Rows.fnAgainControlRecordKeySpec).bare Rows.fnAgainControlRecordKeyUptoRow = true := by
  unfold joinedFacts
  simp only [Bool.and_eq_true]
  repeat' (refine And.intro ?_ ?_)
  all_goals first | with_reducible exact Facts.c1 | with_reducible exact Facts.c0 | with_reducible exact c2 | with_reducible exact c3 | with_reducible exact c4 | with_reducible exact c5 | with_reducible exact Facts.c6 | with_reducible exact c7 | with_reducible exact c8 | with_reducible exact c9 | with_reducible exact Facts.c10 | kernel_rfl
theorem over : Rows.FnAgainControlRecordKeyUptoSaid :=
  OpenClaim.holds_of_cond 3 Tryd.f3 rfl rfl rfl rfl rfl rfl rfl ⟨rfl, rfl, rfl, rfl, rfl⟩ rfl rfl rfl rfl rfl c11 Tryd.func3 closed
    (of_decide_eq_true (by kernel_rfl)) (by unfold Func.isWrapper; first | (rw [if_pos (by decide +kernel)]; kernel_rfl) | (rw [if_neg (by decide +kernel)]; exact ⟨rfl, rfl⟩))
    (fun os started H enc _ F => by rw [OpenClaim.pre_eq_preRow]; exact lifted os started H enc F)
theorem plain (f : FuncId) (fn : Func) (hf : Tryd.pinned.checked.prog.funcNamed "pub-kmsg/laws.FnAgainControlRecordKey" = some f) (hfn : Tryd.pinned.checked.prog.funcs[f]? = some fn) :
    false = Tryd.pinned.checked.prog.looks [] ∧ ∀ (j : Nat) t, fn.params[j]? = some t → Tryd.pinned.checked.prog.wantsStandIn t = false := by
  obtain rfl : f = 3 := Option.some.inj ((show Tryd.prog.funcNamed "pub-kmsg/laws.FnAgainControlRecordKey" = some 3 by kernel_rfl).symm.trans hf) |>.symm
  obtain rfl : fn = Tryd.f3 := (Option.some.inj (Tryd.func3.symm.trans hfn)).symm
  refine ⟨by kernel_rfl, fun j t ht => ?_⟩
  rw [Tryd.params3] at ht
  have hw0 : Tryd.prog.wantsStandIn 5 = false := by kernel_rfl
  have hw1 : Tryd.prog.wantsStandIn 26 = false := by kernel_rfl
  have hm := Array.mem_of_getElem? ht
  simp only [List.mem_toArray, List.mem_cons, List.not_mem_nil, or_false] at hm
  rcases hm with rfl | rfl <;> assumption
end fnAgainControlRecordKey
theorem fnAgainControlRecordKey_holds : Rows.FnAgainControlRecordKeyUptoCardSaid :=
  Claim7.holds_tied_plain_at .later [] _ _ _ _ fnAgainControlRecordKey.over (fun _ h => by cases h) (by kernel_rfl) (fun _ h => by cases h) fnAgainControlRecordKeyUpto_row_tie rfl ⟨rfl, rfl⟩ (by kernel_rfl) rfl fnAgainControlRecordKey.plain (by kernel_rfl)
#print axioms fnAgainControlRecordKey_holds
end Go.Proofs.YtgjnllebnkjofaaDoor

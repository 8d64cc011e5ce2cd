/-
What a RemoveRaftVoterRequest says, written by the rules of the protocol, is read, and written back byte by byte: for every input of bulk at most 1048576 the law returns true. Conditions: the listed variable holds what the text lays (tied by the card).
-/
import Derived.Test.YtjkdpaefamnhhaaGreatDoorZE
import Derived.Test.YtjkdpaefamnhhaaGreatDoorZW
import Derived.Test.YtjkdpaefamnhhaaGreatDoorZN
import Derived.Test.YtjkdpaefamnhhaaGreatDoorZF
import Derived.Test.YtjkdpaefamnhhaaGreatDoorZP
namespace Go.Proofs.YtjkdpaefamnhhaaGreatDoor
set_option linter.all false
open Go.RowKit
set_option maxRecDepth 100000
set_option maxHeartbeats 2000000
def sch_RemoveRaftVoterRequest : List Fld := [.mk .text 0 (-1) 0 (-1) 0 .bool [], .mk .i32 0 (-1) (-1) (-1) 0 .bool [], .mk .uuid 0 (-1) (-1) (-1) 0 .bool []]
def dd_RemoveRaftVoterRequest : List Value := [.pointer none, .int .i32 0, .int .u8 0, .int .u8 0, .int .u8 0, .int .u8 0, .int .u8 0, .int .u8 0, .int .u8 0, .int .u8 0, .int .u8 0, .int .u8 0, .int .u8 0, .int .u8 0, .int .u8 0, .int .u8 0, .int .u8 0, .int .u8 0, .map none]
theorem defm_RemoveRaftVoterRequest : DefM 40 dd_RemoveRaftVoterRequest := by
  intro w B v T hb
  refine zbf Tryz.func40 rfl rfl Tryz.ntmps40 (by simp) ?_
  intro a hN hD ha
  exact wp_skip ⟨hD, hb, Chg.refl _ _⟩
theorem read_RemoveRaftVoterRequest : ReadsF 49 true (fun ver => decide (0 ≤ ver)) sch_RemoveRaftVoterRequest dd_RemoveRaftVoterRequest [.bool false] := by
  refine read_flex Tryz.func49 rfl rfl Tryz.ntmps49 (fun args w => Tryz.call40 args w) defm_RemoveRaftVoterRequest (by kernel_rfl) ?_
  intro ver hver
  (repeat' (first | (with_reducible refine rt_tagged rfl rfl ?_) | (with_reducible refine rt_next rfl (by kernel_rfl) ?_ ?_) | (with_reducible refine rt_end rfl ?_) | (with_reducible refine rt_noflex rfl ?_) | (with_reducible refine rt_fin co_en (by kernel_rfl) (by kernel_rfl)) | (with_reducible refine rt_tl (I := 1000) (by kernel_rfl) ?_ ?_) | (with_reducible refine rd_tags (by kernel_rfl) tagOK_all tg_en (by kernel_rfl) (by kernel_rfl)) | (with_reducible refine rd_tagged rfl rfl ?_) | (with_reducible refine rd_noflex rfl ?_) | (with_reducible refine rd_last rfl rfl (by kernel_rfl) ?_) | (with_reducible refine rd_next rfl (by kernel_rfl) (by kernel_rfl) ?_ ?_) | (with_reducible refine rd_end rfl ?_) | (with_reducible refine sf_all rfl (by dsimp only; omega) ?_) | ((with_reducible refine sf_from rfl (by kernel_rfl) (fun hv => ?_)); try dsimp only at hv) | ((with_reducible refine sf_range rfl (by kernel_rfl) (fun hv hv2 => ?_)); try dsimp only at hv hv2) | (with_reducible refine rf_store ?_ rfl (by kernel_rfl) (by kernel_rfl) (by kernel_rfl)) | (with_reducible refine rf_store2 ?_ rfl (by kernel_rfl) (by kernel_rfl) (by kernel_rfl) (by kernel_rfl)) | (with_reducible refine rd_pre ?_ (by kernel_rfl)) | (with_reducible refine rv_safe ?_ (by kernel_rfl)) | (with_reducible refine rv_flex rfl (fun hx => ?_) (fun hx => ?_) (by kernel_rfl)) | (with_reducible refine rv_i32 (by kernel_rfl)) | (with_reducible refine rv_string rfl (by first | assumption | rfl) (by kernel_rfl)) | (with_reducible refine rv_cstring rfl (by first | assumption | rfl) (by kernel_rfl)) | (with_reducible refine rv_nstring rfl (by first | assumption | rfl) (by dsimp only; omega) (by kernel_rfl)) | (with_reducible refine rv_cnstring rfl (by first | assumption | rfl) (by dsimp only; omega) (by kernel_rfl)) | (with_reducible refine rf_uuid2 rfl (by kernel_rfl) (by kernel_rfl) (by kernel_rfl) (by kernel_rfl) (by kernel_rfl)) | (with_reducible refine rv_again ?_ (by kernel_rfl)) | (with_reducible refine rv_pre ?_ (by kernel_rfl))))
theorem app_RemoveRaftVoterRequest : AppendsTo 25 true (fun ver => decide (0 ≤ ver)) sch_RemoveRaftVoterRequest := by
  refine app_flex Tryz.func25 rfl rfl Tryz.ntmps25 (by kernel_rfl) ?_
  intro ver s hver
  (repeat' (first | with_reducible refine wt_start ?_ | with_reducible refine wp_noflex rfl ?_ | with_reducible refine wr_start ?_ | with_reducible refine wt_tagged rfl rfl ?_ | (with_reducible refine wt_next rfl (by kernel_rfl) (fun d hd => ?_) ?_) | (with_reducible refine wt_fin rfl rfl ?_) | (with_reducible refine wt_end rfl (by kernel_rfl) ?_ ?_) | (with_reducible refine wt_ret (by kernel_rfl)) | with_reducible refine wr_tagged rfl rfl ?_ | (with_reducible refine wr_last rfl rfl (fun d hd => ?_)) | (with_reducible refine wr_next rfl (by kernel_rfl) (fun d hd => ?_) ?_) | (with_reducible refine wr_end rfl ?_) | (with_reducible refine wr_tail rfl (by kernel_rfl) k_uint32 (by kernel_rfl)) | (with_reducible refine wf_all rfl (by dsimp only; omega) ?_) | ((with_reducible refine wf_from rfl (by kernel_rfl) (fun hv => ?_)); try dsimp only at hv) | ((with_reducible refine wf_range rfl (by kernel_rfl) (fun hv hv2 => ?_)); try dsimp only at hv hv2) | (with_reducible refine wf_load rfl hd (by kernel_rfl) (by kernel_rfl) rfl ?_) | (with_reducible refine wf_uuid rfl hd (by kernel_rfl) uuidZero (by kernel_rfl)) | (with_reducible refine wv_i32 (by kernel_rfl)) | (with_reducible refine wv_flexS rfl (by kernel_rfl) (fun hx => ?_) (fun hx => ?_)) | (with_reducible refine wv_string rfl (by first | assumption | rfl) (by kernel_rfl)) | (with_reducible refine wv_cstring rfl (by first | assumption | rfl) (by kernel_rfl)) | (with_reducible refine wv_nstring rfl (by dsimp only; omega) (by first | assumption | rfl) (by kernel_rfl)) | (with_reducible refine wv_cnstring rfl (by dsimp only; omega) (by first | assumption | rfl) (by kernel_rfl)) | ((with_reducible refine wv_otext rfl (by kernel_rfl) (by kernel_rfl) (by kernel_rfl) (by kernel_rfl) rfl (fun l => ?_) (fun hv => ?_)); (try dsimp only at hv)) | (with_reducible refine wv_again (by kernel_rfl) rfl ?_)))
end Go.Proofs.YtjkdpaefamnhhaaGreatDoor
namespace Go.Proofs.YtjkdpaefamnhhaaGreatDoor
set_option linter.all false
open Go.RowKit
set_option maxRecDepth 100000
set_option maxHeartbeats 2000000
theorem lay_RemoveRaftVoterRequest : LaysM 9 sch_RemoveRaftVoterRequest 0 := by
  intro w
  refine callsR_ofC Tryz.func9 rfl rfl (by kernel_rfl) Tryz.ntmps9 (by simp) ?_
  intro a hN hD ha
  refine wp_seq_k fun K hK => ?_; refine zag ?_
  refine za7 (z := zaP [.slice none 0 0, .int .i64 0]) (fun w => Tryz.zeroValue32 w) fun w0 hc0 hb0 hs0 => ?_
  refine zac ?_; refine hK _ _ ?_; clear hK K
  refine wp_seq_k fun K hK => ?_; refine zag ?_
  have hq : Chg (fun _ => False) w0 w0 := Chg.refl _ _
  refine zaY (l := zaF (.mk .text 0 (-1) 0 (-1) 0 .bool []) (.slice none 0 0)) (by simp only [List.map_toArray, List.map_cons, List.map_nil, evb, kb, hN, seval]; kernel_rfl) ?_
  refine zaY (l := zaF (.mk .i32 0 (-1) (-1) (-1) 0 .bool []) (.slice none 0 0)) (by simp only [List.map_toArray, List.map_cons, List.map_nil, evb, kb, hN, seval]; kernel_rfl) ?_
  refine zaY (l := zaF (.mk .uuid 0 (-1) (-1) (-1) 0 .bool []) (.slice none 0 0)) (by simp only [List.map_toArray, List.map_cons, List.map_nil, evb, kb, hN, seval]; kernel_rfl) ?_
  refine wl_fields sch_RemoveRaftVoterRequest [zaF (.mk .text 0 (-1) 0 (-1) 0 .bool []) (.slice none 0 0), zaF (.mk .i32 0 (-1) (-1) (-1) 0 .bool []) (.slice none 0 0), zaF (.mk .uuid 0 (-1) (-1) (-1) 0 .bool []) (.slice none 0 0)] rfl (by simp only [List.map_toArray, List.map_cons, List.map_nil, evb, kb, hN, seval]; rfl) (by simp only [List.length_cons, List.length_nil]; omega) hq (.cons (zaO (.mk .text 0 (-1) 0 (-1) 0 .bool []) (schS_nil _ _ _ _)) (.cons (zaO (.mk .i32 0 (-1) (-1) (-1) 0 .bool []) (schS_nil _ _ _ _)) (.cons (zaO (.mk .uuid 0 (-1) (-1) (-1) 0 .bool []) (schS_nil _ _ _ _)) (.nil)))) ?_
  rintro v wF hcF hkF hsF rfl
  refine zaY (l := [.slice (some ⟨w0.heap.size, 0, none⟩) (sch_RemoveRaftVoterRequest).length (sch_RemoveRaftVoterRequest).length, .int .i64 0]) (by simp only [List.map_toArray, List.map_cons, List.map_nil, evb, kb, hN, seval]; kernel_rfl) ?_
  have hbF := hb0.chg hcF (fun h => h)
  refine za5 (b := w.heap.size) (n := 2) (l' := [.slice (some ⟨w0.heap.size, 0, none⟩) (sch_RemoveRaftVoterRequest).length (sch_RemoveRaftVoterRequest).length, .int .i64 0]) (by kernel_rfl) (by simp [evb, kb, hN, sdb]) (by simp [evb, kb, hN, sdb]) hbF rfl (by intro y hy; simp only [List.mem_cons, List.not_mem_nil, or_false] at hy; rcases hy with rfl | rfl <;> rfl) rfl fun wE hbE hcE => ?_
  refine zac ?_; refine hK _ _ ?_; clear hK K
  refine wp_ret ⟨by simp [zae, hD], w.heap.size, _, _, by simp only [evb, kb, hN, seval], hbE, by kernel_rfl, ⟨_, rfl, SchS.stay ⟨fun k hk hg => ⟨hcE.block k hk (by omega), by omega⟩⟩ hsF, ?_⟩⟩
  exact (hc0.trans hcF fun _ _ h => h).trans hcE fun k hk h => by omega
theorem new_RemoveRaftVoterRequest : NewsPtr 20 dd_RemoveRaftVoterRequest :=
  newptr_of dd_RemoveRaftVoterRequest dd_RemoveRaftVoterRequest Tryz.func20 rfl rfl Tryz.ntmps20 (by kernel_rfl) (fun w => Tryz.zeroValue69 w) (fun args w => Tryz.call40 args w) defm_RemoveRaftVoterRequest
theorem max_RemoveRaftVoterRequest : MaxIs 7 0 := by
  intro w
  refine zap Tryz.func7 rfl rfl Tryz.ntmps7 (by simp) ?_
  intro a hN hD ha
  refine wp_seq_k fun K hK => ?_; refine zag ?_; refine zam ?_; refine zac ?_; refine hK _ _ ?_; clear hK K
  refine wp_seq_k fun K hK => ?_; refine zag ?_
  refine zay (fun args w => Tryz.call20 args w) (by simp only [List.map_toArray, List.map_nil]; exact new_RemoveRaftVoterRequest w) ?_
  rintro v w1 ⟨rfl, hc, _⟩
  refine zay (fun args w => Tryz.call21 args w) (by simp only [List.map_toArray, List.map_cons, List.map_nil]; simp only [evb, kb, hN, seval]; exact maxver_of Tryz.func21 rfl rfl Tryz.ntmps21 (by kernel_rfl) _ w1) ?_
  rintro _ w2 ⟨rfl, rfl⟩
  (repeat (first | ((with_reducible refine zaz ?_ ?_ ?_ ?_); (· exact rfl); (· simp [evb, kb, hN, dyb, sdb] <;> omega); (· kernel_rfl); try simp only [evb, kb, hN, seval, pvb]) | ((with_reducible refine zak ?_ ?_ ?_); rotate_left 1; (· simp [evb, kb, hN, sdb]); rotate_left 1; (· kernel_rfl); try simp only [evb, kb, hN, seval, pvb])))
  refine zac ?_; refine hK _ _ ?_; clear hK K; refine wp_ret ⟨by simp [zae, hD], ?_⟩; simp only [evb, kb, hN, seval]
  exact ⟨by first | rfl | trivial, hc⟩
theorem setv_RemoveRaftVoterRequest : SetsVersion 23 := setver_of Tryz.func23 rfl rfl Tryz.ntmps23 (by kernel_rfl)
theorem from_RemoveRaftVoterRequest : ReadsFrom 24 49 := fun h => readfrom_c Tryz.func24 rfl rfl Tryz.ntmps24 (fun args w => Tryz.call49 args w) h
theorem ag_RemoveRaftVoterRequest : AgC 11 (fun ver => decide (0 ≤ ver)) 0 sch_RemoveRaftVoterRequest := fun ver h0 h1 w G oa bs cap hsrc hlim herr hout =>
  again_of Tryz.func11 rfl rfl Tryz.ntmps11 (fun args w => Tryz.call20 args w) (fun args w => Tryz.call23 args w) (fun args w => Tryz.call24 args w) (fun args w => Tryz.call25 args w) new_RemoveRaftVoterRequest setv_RemoveRaftVoterRequest from_RemoveRaftVoterRequest read_RemoveRaftVoterRequest app_RemoveRaftVoterRequest h0 (by omega) hsrc hlim herr hout
theorem ok_RemoveRaftVoterRequest : SchOK (fun ver => decide (0 ≤ ver)) 0 sch_RemoveRaftVoterRequest := schB_out (by kernel_rfl)
theorem walk_FnAgainRemoveRaftVoterRequest {a : Int} (hn : 0 ≤ a) (hn2 : a < 256) {w : World} {G : Nat → Prop} {v : Tr} {ts : List Value} (hv : TrC w G v ts) (hkv : keyV v) (hb : za3 v ≤ 1048576) (herr : ErrW w) :
    zaG Tryz.prog 3 #[.int .u8 a, zaP ts] w fun v w' => v = .bool true ∧ Chg (fun _ => False) w w' :=
  lawAgain_of Tryz.func3 rfl rfl (by kernel_rfl) rfl Tryz.ntmps3 (fun args w => Tryz.call7 args w) (fun args w => Tryz.call9 args w) (fun args w => Tryz.call11 args w) max_RemoveRaftVoterRequest lay_RemoveRaftVoterRequest ag_RemoveRaftVoterRequest (by decide) (fun ver _ => by simp) ok_RemoveRaftVoterRequest hn hn2 hv hkv hb herr
end Go.Proofs.YtjkdpaefamnhhaaGreatDoor
namespace Go.Proofs.YtjkdpaefamnhhaaGreatDoor
set_option linter.all false
namespace fnAgainRemoveRaftVoterRequest
open Go.ChangeShapes Go.WideShapes Go.ChangeAt Go.RowKit
set_option maxRecDepth 100000
set_option maxHeartbeats 1000000
theorem laid_met (os : Os) : laidMet Tryz.prog Rows.fnAgainRemoveRaftVoterRequestUptoRow.laid ((laidWorld os).forCall (fun _ _ => 0) ⟨#[], #[.int .u8 0, .agg #[.int .i64 0, .slice none 0 0, .bool false, .slice none 0 0, .slice none 0 0]], []⟩).memory :=
  laidMet_of_run' 8 (by kernel_rfl) (by kernel_rfl)
theorem witness_row (os : Os) {H : Type} (enc : TypeId × Value → H) :
    (Rows.OpenSpec.upto Rows.fnAgainRemoveRaftVoterRequestSpec).preRow enc Tryz.prog Tryz.f3 Rows.fnAgainRemoveRaftVoterRequestUptoRow.domain false Rows.fnAgainRemoveRaftVoterRequestUptoRow.laid ((laidWorld os).forCall (fun _ _ => 0) ⟨#[], #[.int .u8 0, .agg #[.int .i64 0, .slice none 0 0, .bool false, .slice none 0 0, .slice none 0 0]], []⟩).memory #[.int .u8 0, .agg #[.int .i64 0, .slice none 0 0, .bool false, .slice none 0 0, .slice none 0 0]] := by
  have hw : (DataW.whole enc Tryz.prog ((laidWorld os).forCall (fun _ _ => 0) ⟨#[], #[.int .u8 0, .agg #[.int .i64 0, .slice none 0 0, .bool false, .slice none 0 0, .slice none 0 0]], []⟩).memory Tryz.f3.params.toList Rows.fnAgainRemoveRaftVoterRequestSpec.vars false (#[.int .u8 0, .agg #[.int .i64 0, .slice none 0 0, .bool false, .slice none 0 0, .slice none 0 0]] : Array Value).toList 8).map (fun x => (decide (Rows.uptoBulkAll (x.1 ++ x.2.1) ≤ 1048576))) = some true := by kernel_rfl
  obtain ⟨⟨x1, x2, x3⟩, hx, hx1⟩ := Option.map_eq_some_iff.1 hw
  exact OpenSpec.preRow_of_cond 8 hx (by kernel_rfl) (fun k hk => by cases hk; exact hx1) (by kernel_rfl) (laid_met os)
theorem lifted (os : Os) (started : os.Started) (H : Type) (enc : TypeId × Value → H) (F : Stop.Interp) :
    ReturnsInHanded {} Tryz.checked os 3 .any ((Rows.OpenSpec.upto Rows.fnAgainRemoveRaftVoterRequestSpec).preRow enc Tryz.prog Tryz.f3 Rows.fnAgainRemoveRaftVoterRequestUptoRow.domain false Rows.fnAgainRemoveRaftVoterRequestUptoRow.laid) (((Rows.OpenSpec.upto Rows.fnAgainRemoveRaftVoterRequestSpec).at F).post enc Tryz.prog Tryz.f3 false true false false) := by
  refine returnsInHanded_of_row (C := Tryz.checked) (s := Rows.OpenSpec.upto Rows.fnAgainRemoveRaftVoterRequestSpec) own started (by kernel_rfl) Tryz.func3
    (witness_row_atRef (enc := enc) (C := Tryz.checked) false (laidWorld os) #[.int .u8 0, .agg #[.int .i64 0, .slice none 0 0, .bool false, .slice none 0 0, .slice none 0 0]] rfl (by kernel_rfl) (by kernel_rfl) (by kernel_rfl) (witness_row os enc)) ?_
  intro W base args ds gs before hval0 hW _ hcond _ hL _ _
  have hval : ∀ (j : Nat) t v, Tryz.f3.params[j]? = some t → args[j]? = some v → Value.okWide Tryz.prog W .any base t v := hval0
  have hW' := hW
  obtain ⟨p, q, hA0, hV, rfl, hfz, hnd⟩ := hW
  have hA : DataW.TrodAll enc Tryz.prog W 0 (fun _ => true) true Tryz.f3.params.toList args.toList ds p := hA0
  rw [Tryz.params3] at hA hval
  obtain ⟨v0, vs0, d0, ds0, p0, q0, hargs, rfl, rfl, h0, r0⟩ := trodAll_cons hA
  obtain ⟨v1, vs1, d1, ds1, p1, q1, rfl, rfl, rfl, h1, r1⟩ := trodAll_cons r0
  obtain ⟨rfl, rfl, rfl⟩ := trodAll_nil r1
  obtain rfl : args = #[v0, v1] := by cases args; simp_all
  obtain ⟨rfl, rfl⟩ := trodVars_none hV
  simp only [List.append_nil] at hW' hcond
  have hbulk := hcond _ rfl
  replace hbulk := of_decide_eq_true hbulk
  simp only [Rows.uptoBulkAll] at hbulk
  have hlt : ∀ x ∈ _, MemPlace.block x < W.heap.size := fun x hx => hW'.lt x hx
  obtain ⟨a0, rfl, rfl, rfl, x0⟩ := open_int Tryz.underlying5 (hval 0 5 v0 rfl rfl) h0
  have y0 : 0 ≤ a0 ∧ a0 < 256 := by have h := x0; simp only [Lit.wf, IntKind.min, IntKind.max, IntKind.signed, IntKind.bits, Bool.and_eq_true, decide_eq_true_eq] at h; simp at h; omega
  obtain ⟨ts, T, rfl, hT, hkey, hbT⟩ := tree_arg (hval 1 26 v1 rfl rfl) h1 (by omega)
  clear hA0 hval0
  refine Calls.mono (walk_FnAgainRemoveRaftVoterRequest y0.1 y0.2 hT hkey hbT (errW_of hL)) fun e W' ⟨v, he, hv, hc⟩ => ?_
  subst he
  subst hv
  exact ⟨_, rfl, _, _, _, [], _, [], hW', trodAll_cons_mk (shut_bool Tryz.underlying4 _) trodAll_mk0, trodAll_cons_mk (shut_int Tryz.underlying5 x0) (trodAll_cons_mk (tree_same h1 hc (fun x hx => hlt x (by simp [hx]))) (trodAll_mk0)), rfl, (below_of hc).frame _, fun h => by cases h⟩
theorem c2 : (Rows.fnAgainRemoveRaftVoterRequestUptoRow.inPlace == Tryz.prog.inPlace 3) = true := by kernel_rfl
theorem c3 : (Rows.fnAgainRemoveRaftVoterRequestUptoRow.unfollowed == Tryz.prog.unfollowed 3) = true := by kernel_rfl
theorem c4 : (Rows.fnAgainRemoveRaftVoterRequestUptoRow.recurses == Tryz.prog.recurses 3) = true := by kernel_rfl
theorem c5 : (Rows.fnAgainRemoveRaftVoterRequestUptoRow.named == Tryz.prog.varsNamed 3) = true := by kernel_rfl
theorem c7 : (Rows.fnAgainRemoveRaftVoterRequestUptoRow.lifted == Tryz.prog.liftsFinal) = true := by
  have h : Rows.fnAgainRemoveRaftVoterRequestUptoRow.lifted = Facts.lifted := rfl
  rw [h]; exact Facts.c7
theorem c8 : (Tryz.prog.make == some Rows.fnAgainRemoveRaftVoterRequestUptoRow.make) = true := by
  have h : Rows.fnAgainRemoveRaftVoterRequestUptoRow.make = Facts.make := rfl
  rw [h]; exact Facts.c8
theorem c9 : (Rows.fnAgainRemoveRaftVoterRequestUptoRow.plainKeys == Tryz.prog.plainKeys) = true := by
  have h : Rows.fnAgainRemoveRaftVoterRequestUptoRow.plainKeys = Facts.plainKeys := rfl
  rw [h]; exact Facts.c9
theorem c11 : Tryz.prog.funcNamed Rows.fnAgainRemoveRaftVoterRequestUptoRow.func = some 3 := by kernel_rfl
theorem closed : joinedFacts Tryz.prog 3 Tryz.f3 (Rows.OpenSpec.upto Rows.fnAgainRemoveRaftVoterRequestSpec).bare Rows.fnAgainRemoveRaftVoterRequestUptoRow = true := by
  unfold joinedFacts
  simp only [Bool.and_eq_true]
  repeat' (refine And.intro ?_ ?_)
  all_goals first | with_reducible exact Facts.c1 | with_reducible exact Facts.c0 | with_reducible exact c2 | with_reducible exact c3 | with_reducible exact c4 | with_reducible exact c5 | with_reducible exact Facts.c6 | with_reducible exact c7 | with_reducible exact c8 | with_reducible exact c9 | with_reducible exact Facts.c10 | kernel_rfl
theorem over : Rows.FnAgainRemoveRaftVoterRequestUptoSaid :=
  OpenClaim.holds_of_cond 3 Tryz.f3 rfl rfl rfl rfl rfl rfl rfl ⟨rfl, rfl, rfl, rfl, rfl⟩ rfl rfl rfl rfl rfl c11 Tryz.func3 closed
    (of_decide_eq_true (by kernel_rfl)) (by unfold Func.isWrapper; first | (rw [if_pos (by decide +kernel)]; kernel_rfl) | (rw [if_neg (by decide +kernel)]; exact ⟨rfl, rfl⟩))
    (fun os started H enc _ F => by rw [OpenClaim.pre_eq_preRow]; exact lifted os started H enc F)
theorem plain (f : FuncId) (fn : Func) (hf : Tryz.pinned.checked.prog.funcNamed "pub-kmsg/laws.FnAgainRemoveRaftVoterRequest" = some f) (hfn : Tryz.pinned.checked.prog.funcs[f]? = some fn) :
    false = Tryz.pinned.checked.prog.looks [] ∧ ∀ (j : Nat) t, fn.params[j]? = some t → Tryz.pinned.checked.prog.wantsStandIn t = false := by
  obtain rfl : f = 3 := Option.some.inj ((show Tryz.prog.funcNamed "pub-kmsg/laws.FnAgainRemoveRaftVoterRequest" = some 3 by kernel_rfl).symm.trans hf) |>.symm
  obtain rfl : fn = Tryz.f3 := (Option.some.inj (Tryz.func3.symm.trans hfn)).symm
  refine ⟨by kernel_rfl, fun j t ht => ?_⟩
  rw [Tryz.params3] at ht
  have hw0 : Tryz.prog.wantsStandIn 5 = false := by kernel_rfl
  have hw1 : Tryz.prog.wantsStandIn 26 = false := by kernel_rfl
  have hm := Array.mem_of_getElem? ht
  simp only [List.mem_toArray, List.mem_cons, List.not_mem_nil, or_false] at hm
  rcases hm with rfl | rfl <;> assumption
end fnAgainRemoveRaftVoterRequest
theorem fnAgainRemoveRaftVoterRequest_holds : Rows.FnAgainRemoveRaftVoterRequestUptoCardSaid :=
  Claim7.holds_tied_plain_at .later [] _ _ _ _ fnAgainRemoveRaftVoterRequest.over (fun _ h => by cases h) (by kernel_rfl) (fun _ h => by cases h) fnAgainRemoveRaftVoterRequestUpto_row_tie rfl ⟨rfl, rfl⟩ (by kernel_rfl) rfl fnAgainRemoveRaftVoterRequest.plain (by kernel_rfl)
#print axioms fnAgainRemoveRaftVoterRequest_holds
end Go.Proofs.YtjkdpaefamnhhaaGreatDoor

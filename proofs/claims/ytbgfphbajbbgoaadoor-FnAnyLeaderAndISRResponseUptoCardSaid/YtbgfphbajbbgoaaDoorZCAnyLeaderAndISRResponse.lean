/-
What is read of any bytes as a LeaderAndISRResponse is written as bytes that are read again, and written as the same: for every input of bulk at most 1048576 the law returns true. Conditions: the listed variable holds what the text lays (tied by the card).
-/
import Derived.Test.YtbgfphbajbbgoaaDoorZE
import Derived.Test.YtbgfphbajbbgoaaDoorZW
import Derived.Test.YtbgfphbajbbgoaaDoorZY
import Derived.Test.YtbgfphbajbbgoaaDoorZF
import Derived.Test.YtbgfphbajbbgoaaDoorZP
namespace Go.Proofs.YtbgfphbajbbgoaaDoor
set_option linter.all false
open Go.RowKit
set_option maxRecDepth 100000
set_option maxHeartbeats 2000000
def sch_sLeaderAndISRResponseTopicPartition : List Fld := [.mk .text 0 4 (-1) (-1) 0 .bool [], .mk .i32 0 (-1) (-1) (-1) 0 .bool [], .mk .i16 0 (-1) (-1) (-1) 0 .bool []]
def sch_sLeaderAndISRResponseTopic : List Fld := [.mk .uuid 0 (-1) (-1) (-1) 0 .bool [], .mk .list 0 (-1) (-1) (-1) 0 .struct sch_sLeaderAndISRResponseTopicPartition]
def sch_LeaderAndISRResponse : List Fld := [.mk .i16 0 (-1) (-1) (-1) 0 .bool [], .mk .list 0 4 (-1) (-1) 0 .struct sch_sLeaderAndISRResponseTopicPartition, .mk .list 5 (-1) (-1) (-1) 0 .struct sch_sLeaderAndISRResponseTopic]
def zz_sLeaderAndISRResponseTopicPartition : List Value := [.string ⟨#[]⟩, .int .i32 0, .int .i16 0, .map none]
def dd_sLeaderAndISRResponseTopicPartition : List Value := [.string ⟨#[]⟩, .int .i32 0, .int .i16 0, .map none]
theorem elz_sLeaderAndISRResponseTopicPartition : ∀ e, (Tryd.prog).underlying 106 = some (.slice e) → zeroB Tryd.prog e (aggOf zz_sLeaderAndISRResponseTopicPartition) := by
  intro e he
  have h : (Tryd.prog).underlying 106 = some (.slice 113) := by kernel_rfl
  rw [h] at he; cases he
  exact fun w => Tryd.zeroValue113 w
theorem eln_sLeaderAndISRResponseTopicPartition : Enters Tryd.prog 108 := (fun args w => Tryd.call108 args w)
theorem eld_sLeaderAndISRResponseTopicPartition : DefC 108 (aggOf zz_sLeaderAndISRResponseTopicPartition).cells.toList dd_sLeaderAndISRResponseTopicPartition := by
  intro w b off cs T hb hlen hseg
  refine callsR_of0 Tryd.func108 rfl rfl Tryd.ntmps108 (by simp) ?_
  intro a hN hD ha
  refine wp_skip ⟨hD, ?_, Chg.refl _ _⟩
  have e : splice cs off dd_sLeaderAndISRResponseTopicPartition = cs := splice_same hseg hlen
  rw [e]; exact hb
def zz_sLeaderAndISRResponseTopic : List Value := [.int .u8 0, .int .u8 0, .int .u8 0, .int .u8 0, .int .u8 0, .int .u8 0, .int .u8 0, .int .u8 0, .int .u8 0, .int .u8 0, .int .u8 0, .int .u8 0, .int .u8 0, .int .u8 0, .int .u8 0, .int .u8 0, .slice none 0 0, .map none]
def dd_sLeaderAndISRResponseTopic : List Value := [.int .u8 0, .int .u8 0, .int .u8 0, .int .u8 0, .int .u8 0, .int .u8 0, .int .u8 0, .int .u8 0, .int .u8 0, .int .u8 0, .int .u8 0, .int .u8 0, .int .u8 0, .int .u8 0, .int .u8 0, .int .u8 0, .slice none 0 0, .map none]
theorem elz_sLeaderAndISRResponseTopic : ∀ e, (Tryd.prog).underlying 107 = some (.slice e) → zeroB Tryd.prog e (aggOf zz_sLeaderAndISRResponseTopic) := by
  intro e he
  have h : (Tryd.prog).underlying 107 = some (.slice 117) := by kernel_rfl
  rw [h] at he; cases he
  exact fun w => Tryd.zeroValue117 w
theorem eln_sLeaderAndISRResponseTopic : Enters Tryd.prog 113 := (fun args w => Tryd.call113 args w)
theorem eld_sLeaderAndISRResponseTopic : DefC 113 (aggOf zz_sLeaderAndISRResponseTopic).cells.toList dd_sLeaderAndISRResponseTopic := by
  intro w b off cs T hb hlen hseg
  refine callsR_of0 Tryd.func113 rfl rfl Tryd.ntmps113 (by simp) ?_
  intro a hN hD ha
  refine wp_skip ⟨hD, ?_, Chg.refl _ _⟩
  have e : splice cs off dd_sLeaderAndISRResponseTopic = cs := splice_same hseg hlen
  rw [e]; exact hb
def dd_LeaderAndISRResponse : List Value := [.int .i16 0, .slice none 0 0, .slice none 0 0, .map none]
theorem defm_LeaderAndISRResponse : DefM 78 dd_LeaderAndISRResponse := by
  intro w B v T hb
  refine callsR_of0 Tryd.func78 rfl rfl Tryd.ntmps78 (by simp) ?_
  intro a hN hD ha
  exact wp_skip ⟨hD, hb, Chg.refl _ _⟩
theorem read_LeaderAndISRResponse : ReadsF 79 true (fun ver => decide (4 ≤ ver)) sch_LeaderAndISRResponse dd_LeaderAndISRResponse [.bool false] := by
  refine read_flex Tryd.func79 rfl rfl Tryd.ntmps79 (fun args w => Tryd.call78 args w) defm_LeaderAndISRResponse (by kernel_rfl) ?_
  intro ver hver
  (repeat' (first | (with_reducible refine rt_tagged rfl rfl ?_) | (with_reducible refine rt_next rfl (by kernel_rfl) ?_ ?_) | (with_reducible refine rt_end rfl ?_) | (with_reducible refine rt_noflex rfl ?_) | (with_reducible refine rt_fin co_en (by kernel_rfl) (by kernel_rfl)) | (with_reducible refine rt_tl (I := 1000) (by kernel_rfl) ?_ ?_) | (with_reducible refine rd_tags (by kernel_rfl) tagOK_all tg_en (by kernel_rfl) (by kernel_rfl)) | (with_reducible refine rd_tagged rfl rfl ?_) | (with_reducible refine rd_noflex rfl ?_) | (with_reducible refine rd_last rfl rfl (by kernel_rfl) ?_) | (with_reducible refine rd_next rfl (by kernel_rfl) (by kernel_rfl) ?_ ?_) | (with_reducible refine rd_end rfl ?_) | (with_reducible refine sf_all rfl (by dsimp only; omega) ?_) | ((with_reducible refine sf_from rfl (by kernel_rfl) (fun hv => ?_)); try dsimp only at hv) | ((with_reducible refine sf_range rfl (by kernel_rfl) (fun hv hv2 => ?_)); try dsimp only at hv hv2) | (with_reducible refine rf_list1 rfl (by kernel_rfl) elz_sLeaderAndISRResponseTopicPartition (by kernel_rfl) ?_ ok_en co_en ?_ (by kernel_rfl)) | (with_reducible refine el_struct1 (by kernel_rfl) eln_sLeaderAndISRResponseTopicPartition eld_sLeaderAndISRResponseTopicPartition (by kernel_rfl) ?_ (by kernel_rfl) (by kernel_rfl) (by kernel_rfl)) | (with_reducible refine rf_list1 rfl (by kernel_rfl) elz_sLeaderAndISRResponseTopic (by kernel_rfl) ?_ ok_en co_en ?_ (by kernel_rfl)) | (with_reducible refine el_struct1 (by kernel_rfl) eln_sLeaderAndISRResponseTopic eld_sLeaderAndISRResponseTopic (by kernel_rfl) ?_ (by kernel_rfl) (by kernel_rfl) (by kernel_rfl)) | (with_reducible refine rf_store ?_ rfl (by kernel_rfl) (by kernel_rfl) (by kernel_rfl)) | (with_reducible refine rf_store2 ?_ rfl (by kernel_rfl) (by kernel_rfl) (by kernel_rfl) (by kernel_rfl)) | (with_reducible refine rd_pre ?_ (by kernel_rfl)) | (with_reducible refine rv_safe ?_ (by kernel_rfl)) | (with_reducible refine rv_flex rfl (fun hx => ?_) (fun hx => ?_) (by kernel_rfl)) | (with_reducible refine rv_i16 (by kernel_rfl)) | (with_reducible refine rv_i32 (by kernel_rfl)) | (with_reducible refine rv_string rfl (by first | assumption | rfl) (by kernel_rfl)) | (with_reducible refine rv_cstring rfl (by first | assumption | rfl) (by kernel_rfl)) | (with_reducible refine rf_uuid2 rfl (by kernel_rfl) (by kernel_rfl) (by kernel_rfl) (by kernel_rfl) (by kernel_rfl)) | (with_reducible refine rv_again ?_ (by kernel_rfl)) | (with_reducible refine rv_pre ?_ (by kernel_rfl)) | (with_reducible refine rn_plain (by first | assumption | rfl) (by kernel_rfl)) | (with_reducible refine rn_cplain (by first | assumption | rfl) (by kernel_rfl)) | (with_reducible refine rn_flex rfl (fun hx => ?_) (fun hx => ?_) (by kernel_rfl)) | (with_reducible refine el_pre ?_ (by kernel_rfl)) | (with_reducible refine el_val1 (by kernel_rfl) (rv_elem rfl ?_) (by kernel_rfl) (by kernel_rfl))))
theorem app_LeaderAndISRResponse : AppendsTo 50 true (fun ver => decide (4 ≤ ver)) sch_LeaderAndISRResponse := by
  refine app_flex Tryd.func50 rfl rfl Tryd.ntmps50 (by kernel_rfl) ?_
  intro ver s hver
  (repeat' (first | with_reducible refine wt_start ?_ | with_reducible refine wp_noflex rfl ?_ | with_reducible refine wr_start ?_ | with_reducible refine wt_tagged rfl rfl ?_ | (with_reducible refine wt_next rfl (by kernel_rfl) (fun d hd => ?_) ?_) | (with_reducible refine wt_fin rfl rfl ?_) | (with_reducible refine wt_end rfl (by kernel_rfl) ?_ ?_) | (with_reducible refine wt_ret (by kernel_rfl)) | with_reducible refine wr_tagged rfl rfl ?_ | (with_reducible refine wr_last rfl rfl (fun d hd => ?_)) | (with_reducible refine wr_next rfl (by kernel_rfl) (fun d hd => ?_) ?_) | (with_reducible refine wr_end rfl ?_) | (with_reducible refine wr_tail rfl (by kernel_rfl) k_uint32 (by kernel_rfl)) | (with_reducible refine wf_all rfl (by dsimp only; omega) ?_) | ((with_reducible refine wf_from rfl (by kernel_rfl) (fun hv => ?_)); try dsimp only at hv) | ((with_reducible refine wf_range rfl (by kernel_rfl) (fun hv hv2 => ?_)); try dsimp only at hv hv2) | (with_reducible refine wf_load rfl hd (by kernel_rfl) (by kernel_rfl) rfl ?_) | (with_reducible refine wf_uuid rfl hd (by kernel_rfl) uuidZero (by kernel_rfl)) | (with_reducible refine wf_inner rfl hd (by kernel_rfl) (by kernel_rfl) rfl (fun s => ?_)) | (with_reducible refine wv_i16 (by kernel_rfl)) | (with_reducible refine wv_i32 (by kernel_rfl)) | (with_reducible refine wv_flexS rfl (by kernel_rfl) (fun hx => ?_) (fun hx => ?_)) | (with_reducible refine wv_string rfl (by first | assumption | rfl) (by kernel_rfl)) | (with_reducible refine wv_cstring rfl (by first | assumption | rfl) (by kernel_rfl)) | (with_reducible refine wv_listS (fun oa n cap M => ?_) (by kernel_rfl) (by kernel_rfl) (by kernel_rfl) (by kernel_rfl) (fun s => ?_)) | (with_reducible refine wv_listK (fun oa n cap M => ?_) (by kernel_rfl) (by kernel_rfl) (by kernel_rfl) (by kernel_rfl) (fun d => ?_)) | (with_reducible refine wn_flex rfl (by kernel_rfl) (fun hx => ?_) (fun hx => ?_)) | (with_reducible refine wn_plain (by dsimp only; omega) (by first | assumption | rfl) (by kernel_rfl) (by kernel_rfl)) | (with_reducible refine wn_cplain (by dsimp only; omega) (by first | assumption | rfl) (by kernel_rfl) (by kernel_rfl)) | (with_reducible refine wv_again (by kernel_rfl) rfl ?_)))
end Go.Proofs.YtbgfphbajbbgoaaDoor
namespace Go.Proofs.YtbgfphbajbbgoaaDoor
set_option linter.all false
open Go.RowKit
set_option maxRecDepth 100000
set_option maxHeartbeats 2000000
theorem new_LeaderAndISRResponse : NewsPtr 46 dd_LeaderAndISRResponse :=
  newptr_of dd_LeaderAndISRResponse dd_LeaderAndISRResponse Tryd.func46 rfl rfl Tryd.ntmps46 (by kernel_rfl) (fun w => Tryd.zeroValue109 w) (fun args w => Tryd.call78 args w) defm_LeaderAndISRResponse
theorem max_LeaderAndISRResponse : MaxIs 22 7 := by
  intro w
  refine callsR_of Tryd.func22 rfl rfl Tryd.ntmps22 (by simp) ?_
  intro a hN hD ha
  refine wp_seq_k fun K hK => ?_; refine wp_reg ?_; refine wl_assign ?_; refine wl_nil ?_; refine hK _ _ ?_; clear hK K
  refine wp_seq_k fun K hK => ?_; refine wp_reg ?_
  refine wl_call (fun args w => Tryd.call46 args w) (by simp only [List.map_toArray, List.map_nil]; exact new_LeaderAndISRResponse w) ?_
  rintro v w1 ⟨rfl, hc, _⟩
  refine wl_call (fun args w => Tryd.call47 args w) (by simp only [List.map_toArray, List.map_cons, List.map_nil]; simp only [evb, kb, hN, Nat.reduceLT, Nat.reduceEqDiff, reduceIte, Int.reduceToNat, Int.reduceBEq]; exact maxver_of Tryd.func47 rfl rfl Tryd.ntmps47 (by kernel_rfl) _ w1) ?_
  rintro _ w2 ⟨rfl, rfl⟩
  (repeat (first | ((with_reducible refine wl_q ?_ ?_ ?_ ?_); (· exact rfl); (· simp [evb, kb, hN, dyb, sdb] <;> omega); (· kernel_rfl); try simp only [evb, kb, hN, Nat.reduceLT, Nat.reduceEqDiff, reduceIte, Int.reduceToNat, Int.reduceBEq, pvb]) | ((with_reducible refine wl_lenS ?_ ?_ ?_); rotate_left 1; (· simp [evb, kb, hN, sdb]); rotate_left 1; (· kernel_rfl); try simp only [evb, kb, hN, Nat.reduceLT, Nat.reduceEqDiff, reduceIte, Int.reduceToNat, Int.reduceBEq, pvb])))
  refine wl_nil ?_; refine hK _ _ ?_; clear hK K; refine wp_ret ⟨by simp [defers_put, hD], ?_⟩; simp only [evb, kb, hN, Nat.reduceLT, Nat.reduceEqDiff, reduceIte, Int.reduceToNat, Int.reduceBEq]
  exact ⟨by first | rfl | trivial, hc⟩
theorem setv_LeaderAndISRResponse : SetsVersion 48 := setver_of Tryd.func48 rfl rfl Tryd.ntmps48 (by kernel_rfl)
theorem from_LeaderAndISRResponse : ReadsFrom 49 79 := fun h => readfrom_c Tryd.func49 rfl rfl Tryd.ntmps49 (fun args w => Tryd.call79 args w) h
theorem ag_LeaderAndISRResponse : AgC 23 (fun ver => decide (4 ≤ ver)) 7 sch_LeaderAndISRResponse := fun ver h0 h1 w G oa bs cap hsrc hlim herr hout =>
  again_of Tryd.func23 rfl rfl Tryd.ntmps23 (fun args w => Tryd.call46 args w) (fun args w => Tryd.call48 args w) (fun args w => Tryd.call49 args w) (fun args w => Tryd.call50 args w) new_LeaderAndISRResponse setv_LeaderAndISRResponse from_LeaderAndISRResponse read_LeaderAndISRResponse app_LeaderAndISRResponse h0 (by omega) hsrc hlim herr hout
theorem any_LeaderAndISRResponse : AnyOK (fun ver => decide (4 ≤ ver)) 7 sch_LeaderAndISRResponse := anyB_out (by kernel_rfl)
theorem walk_FnAnyLeaderAndISRResponse {a : Int} (hn : 0 ≤ a) (hn2 : a < 256) {w : World} {G : Nat → Prop} {oa : Option Addr} {bs : Bs} {cap : Nat} (hbs : BytesAt w G oa bs) (hcap : bs.length ≤ cap) (hlen : bs.length ≤ 1048576) (herr : ErrW w) :
    CallsR Tryd.prog 7 #[.int .u8 a, .slice oa bs.length cap] w fun v w' => v = .bool true ∧ Chg (fun _ => False) w w' :=
  lawAny_of Tryd.func7 rfl rfl Tryd.ntmps7 (fun args w => Tryd.call22 args w) (fun args w => Tryd.call23 args w) max_LeaderAndISRResponse ag_LeaderAndISRResponse (by decide) any_LeaderAndISRResponse hn hn2 hbs hcap hlen herr
end Go.Proofs.YtbgfphbajbbgoaaDoor
namespace Go.Proofs.YtbgfphbajbbgoaaDoor
set_option linter.all false
namespace fnAnyLeaderAndISRResponse
open Go.ChangeShapes Go.WideShapes Go.ChangeAt Go.RowKit
set_option maxRecDepth 100000
set_option maxHeartbeats 1000000
theorem laid_met (os : Os) : laidMet Tryd.prog Rows.fnAnyLeaderAndISRResponseUptoRow.laid ((laidWorld os).forCall (fun _ _ => 0) ⟨#[], #[.int .u8 0, .slice none 0 0], []⟩).memory :=
  laidMet_of_run' 8 (by kernel_rfl) (by kernel_rfl)
theorem witness_row (os : Os) {H : Type} (enc : TypeId × Value → H) :
    (Rows.OpenSpec.upto Rows.fnAnyLeaderAndISRResponseSpec).preRow enc Tryd.prog Tryd.f7 Rows.fnAnyLeaderAndISRResponseUptoRow.domain false Rows.fnAnyLeaderAndISRResponseUptoRow.laid ((laidWorld os).forCall (fun _ _ => 0) ⟨#[], #[.int .u8 0, .slice none 0 0], []⟩).memory #[.int .u8 0, .slice none 0 0] := by
  have hw : (DataW.whole enc Tryd.prog ((laidWorld os).forCall (fun _ _ => 0) ⟨#[], #[.int .u8 0, .slice none 0 0], []⟩).memory Tryd.f7.params.toList Rows.fnAnyLeaderAndISRResponseSpec.vars false (#[.int .u8 0, .slice none 0 0] : Array Value).toList 8).map (fun x => (decide (Rows.uptoBulkAll (x.1 ++ x.2.1) ≤ 1048576))) = some true := by kernel_rfl
  obtain ⟨⟨x1, x2, x3⟩, hx, hx1⟩ := Option.map_eq_some_iff.1 hw
  exact OpenSpec.preRow_of_cond 8 hx (by kernel_rfl) (fun k hk => by cases hk; exact hx1) (by kernel_rfl) (laid_met os)
theorem lifted (os : Os) (started : os.Started) (H : Type) (enc : TypeId × Value → H) (F : Stop.Interp) :
    ReturnsInHanded {} Tryd.checked os 7 .any ((Rows.OpenSpec.upto Rows.fnAnyLeaderAndISRResponseSpec).preRow enc Tryd.prog Tryd.f7 Rows.fnAnyLeaderAndISRResponseUptoRow.domain false Rows.fnAnyLeaderAndISRResponseUptoRow.laid) (((Rows.OpenSpec.upto Rows.fnAnyLeaderAndISRResponseSpec).at F).post enc Tryd.prog Tryd.f7 false true false false) := by
  refine returnsInHanded_of_row (C := Tryd.checked) (s := Rows.OpenSpec.upto Rows.fnAnyLeaderAndISRResponseSpec) own started (by kernel_rfl) Tryd.func7
    (witness_row_atRef (enc := enc) (C := Tryd.checked) false (laidWorld os) #[.int .u8 0, .slice none 0 0] rfl (by kernel_rfl) (by kernel_rfl) (by kernel_rfl) (witness_row os enc)) ?_
  intro W base args ds gs before hval0 hW _ hcond _ hL _ _
  have hval : ∀ (j : Nat) t v, Tryd.f7.params[j]? = some t → args[j]? = some v → Value.okWide Tryd.prog W .any base t v := hval0
  have hW' := hW
  obtain ⟨p, q, hA0, hV, rfl, hfz, hnd⟩ := hW
  have hA : DataW.TrodAll enc Tryd.prog W 0 (fun _ => true) true Tryd.f7.params.toList args.toList ds p := hA0
  rw [Tryd.params7] at hA hval
  obtain ⟨v0, vs0, d0, ds0, p0, q0, hargs, rfl, rfl, h0, r0⟩ := trodAll_cons hA
  obtain ⟨v1, vs1, d1, ds1, p1, q1, rfl, rfl, rfl, h1, r1⟩ := trodAll_cons r0
  obtain ⟨rfl, rfl, rfl⟩ := trodAll_nil r1
  obtain rfl : args = #[v0, v1] := by cases args; simp_all
  obtain ⟨rfl, rfl⟩ := trodVars_none hV
  simp only [List.append_nil] at hW' hcond
  have hbulk := hcond _ rfl
  replace hbulk := of_decide_eq_true hbulk
  simp only [Rows.uptoBulkAll] at hbulk
  have hlt : ∀ x ∈ _, MemPlace.block x < W.heap.size := fun x hx => hW'.lt x hx
  obtain ⟨a0, rfl, rfl, rfl, x0⟩ := open_int Tryd.underlying5 (hval 0 5 v0 rfl rfl) h0
  have y0 : 0 ≤ a0 ∧ a0 < 256 := by have h := x0; simp only [Lit.wf, IntKind.min, IntKind.max, IntKind.signed, IntKind.bits, Bool.and_eq_true, decide_eq_true_eq] at h; simp at h; omega
  obtain ⟨oa, bs, cap, rfl, hbs, hcap, hlen⟩ := bytes_arg (hval 1 22 v1 rfl rfl) h1 (by omega)
  clear hA0 hval0
  refine Calls.mono (walk_FnAnyLeaderAndISRResponse y0.1 y0.2 hbs hcap hlen (errW_of hL)) fun e W' ⟨v, he, hv, hc⟩ => ?_
  subst he
  subst hv
  exact ⟨_, rfl, _, _, _, [], _, [], hW', trodAll_cons_mk (shut_bool Tryd.underlying4 _) trodAll_mk0, trodAll_cons_mk (shut_int Tryd.underlying5 x0) (trodAll_cons_mk (bytes_same h1 hc (fun x hx => hlt x (by simp [hx]))) (trodAll_mk0)), rfl, (below_of hc).frame _, fun h => by cases h⟩
theorem c2 : (Rows.fnAnyLeaderAndISRResponseUptoRow.inPlace == Tryd.prog.inPlace 7) = true := by kernel_rfl
theorem c3 : (Rows.fnAnyLeaderAndISRResponseUptoRow.unfollowed == Tryd.prog.unfollowed 7) = true := by kernel_rfl
theorem c4 : (Rows.fnAnyLeaderAndISRResponseUptoRow.recurses == Tryd.prog.recurses 7) = true := by kernel_rfl
theorem c5 : (Rows.fnAnyLeaderAndISRResponseUptoRow.named == Tryd.prog.varsNamed 7) = true := by kernel_rfl
theorem c7 : (Rows.fnAnyLeaderAndISRResponseUptoRow.lifted == Tryd.prog.liftsFinal) = true := by
  have h : Rows.fnAnyLeaderAndISRResponseUptoRow.lifted = Facts.lifted := rfl
  rw [h]; exact Facts.c7
theorem c8 : (Tryd.prog.make == some Rows.fnAnyLeaderAndISRResponseUptoRow.make) = true := by
  have h : Rows.fnAnyLeaderAndISRResponseUptoRow.make = Facts.make := rfl
  rw [h]; exact Facts.c8
theorem c9 : (Rows.fnAnyLeaderAndISRResponseUptoRow.plainKeys == Tryd.prog.plainKeys) = true := by
  have h : Rows.fnAnyLeaderAndISRResponseUptoRow.plainKeys = Facts.plainKeys := rfl
  rw [h]; exact Facts.c9
theorem c11 : Tryd.prog.funcNamed Rows.fnAnyLeaderAndISRResponseUptoRow.func = some 7 := by kernel_rfl
theorem closed : joinedFacts Tryd.prog 7 Tryd.f7 (Rows.OpenSpec.upto Rows.fnAnyLeaderAndISRResponseSpec).bare Rows.fnAnyLeaderAndISRResponseUptoRow = true := by
  unfold joinedFacts
  simp only [Bool.and_eq_true]
  repeat' (refine And.intro ?_ ?_)
  all_goals first | with_reducible exact Facts.c1 | with_reducible exact Facts.c0 | with_reducible exact c2 | with_reducible exact c3 | with_reducible exact c4 | with_reducible exact c5 | with_reducible exact Facts.c6 | with_reducible exact c7 | with_reducible exact c8 | with_reducible exact c9 | with_reducible exact Facts.c10 | kernel_rfl
theorem over : Rows.FnAnyLeaderAndISRResponseUptoSaid :=
  OpenClaim.holds_of_cond 7 Tryd.f7 rfl rfl rfl rfl rfl rfl rfl ⟨rfl, rfl, rfl, rfl, rfl⟩ rfl rfl rfl rfl rfl c11 Tryd.func7 closed
    (of_decide_eq_true (by kernel_rfl)) (by unfold Func.isWrapper; first | (rw [if_pos (by decide +kernel)]; kernel_rfl) | (rw [if_neg (by decide +kernel)]; exact ⟨rfl, rfl⟩))
    (fun os started H enc _ F => by rw [OpenClaim.pre_eq_preRow]; exact lifted os started H enc F)
theorem plain (f : FuncId) (fn : Func) (hf : Tryd.pinned.checked.prog.funcNamed "pub-kmsg/laws.FnAnyLeaderAndISRResponse" = some f) (hfn : Tryd.pinned.checked.prog.funcs[f]? = some fn) :
    false = Tryd.pinned.checked.prog.looks [] ∧ ∀ (j : Nat) t, fn.params[j]? = some t → Tryd.pinned.checked.prog.wantsStandIn t = false := by
  obtain rfl : f = 7 := Option.some.inj ((show Tryd.prog.funcNamed "pub-kmsg/laws.FnAnyLeaderAndISRResponse" = some 7 by kernel_rfl).symm.trans hf) |>.symm
  obtain rfl : fn = Tryd.f7 := (Option.some.inj (Tryd.func7.symm.trans hfn)).symm
  refine ⟨by kernel_rfl, fun j t ht => ?_⟩
  rw [Tryd.params7] at ht
  have hw0 : Tryd.prog.wantsStandIn 5 = false := by kernel_rfl
  have hw1 : Tryd.prog.wantsStandIn 22 = false := by kernel_rfl
  have hm := Array.mem_of_getElem? ht
  simp only [List.mem_toArray, List.mem_cons, List.not_mem_nil, or_false] at hm
  rcases hm with rfl | rfl <;> assumption
end fnAnyLeaderAndISRResponse
theorem fnAnyLeaderAndISRResponse_holds : Rows.FnAnyLeaderAndISRResponseUptoCardSaid :=
  Claim7.holds_tied_plain_at .later [] _ _ _ _ fnAnyLeaderAndISRResponse.over (fun _ h => by cases h) (by kernel_rfl) (fun _ h => by cases h) fnAnyLeaderAndISRResponseUpto_row_tie rfl ⟨rfl, rfl⟩ (by kernel_rfl) rfl fnAnyLeaderAndISRResponse.plain (by kernel_rfl)
#print axioms fnAnyLeaderAndISRResponse_holds
end Go.Proofs.YtbgfphbajbbgoaaDoor

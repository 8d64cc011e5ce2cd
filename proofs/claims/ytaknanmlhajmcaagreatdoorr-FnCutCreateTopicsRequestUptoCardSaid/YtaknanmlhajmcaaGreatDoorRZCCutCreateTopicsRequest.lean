/-
A CreateTopicsRequest that ends anywhere ahead of its end is an error: for every input of bulk at most 1048576 the law returns true. Conditions: the listed variable holds what the text lays (tied by the card).
-/
import Derived.Test.YtaknanmlhajmcaaGreatDoorRZE
import Derived.Test.YtaknanmlhajmcaaGreatDoorRZW
import Derived.Test.YtaknanmlhajmcaaGreatDoorRZX
import Derived.Test.YtaknanmlhajmcaaGreatDoorRZF
import Derived.Test.YtaknanmlhajmcaaGreatDoorRZP
namespace Go.Proofs.YtaknanmlhajmcaaGreatDoorR
set_option linter.all false
open Go.RowKit
set_option maxRecDepth 100000
set_option maxHeartbeats 2000000
def sch_sCreateTopicsRequestTopicReplicaAssignment : List Fld := [.mk .i32 0 (-1) (-1) (-1) 0 .bool [], .mk .list 0 (-1) (-1) (-1) 0 .i32 []]
def sch_sCreateTopicsRequestTopicConfig : List Fld := [.mk .text 0 (-1) (-1) (-1) 0 .bool [], .mk .text 0 (-1) 0 (-1) 0 .bool []]
def sch_sCreateTopicsRequestTopic : List Fld := [.mk .text 0 (-1) (-1) (-1) 0 .bool [], .mk .i32 0 (-1) (-1) (-1) 0 .bool [], .mk .i16 0 (-1) (-1) (-1) 0 .bool [], .mk .list 0 (-1) (-1) (-1) 0 .struct sch_sCreateTopicsRequestTopicReplicaAssignment, .mk .list 0 (-1) (-1) (-1) 0 .struct sch_sCreateTopicsRequestTopicConfig]
def sch_CreateTopicsRequest : List Fld := [.mk .list 0 (-1) (-1) (-1) 0 .struct sch_sCreateTopicsRequestTopic, .mk .i32 0 (-1) (-1) (-1) 60000 .bool [], .mk .bool 1 (-1) (-1) (-1) 0 .bool []]
theorem elz_k_Int32CreateTopicsRequest : ∀ e, (Tryz.prog).underlying 90 = some (.slice e) → zeroB Tryz.prog e (.int .i32 0) := by
  intro e he
  have h : (Tryz.prog).underlying 90 = some (.slice 21) := by kernel_rfl
  rw [h] at he; cases he
  exact fun w => Tryz.zeroValue21 w
def zz_sCreateTopicsRequestTopicReplicaAssignment : List Value := [.int .i32 0, .slice none 0 0, .map none]
def dd_sCreateTopicsRequestTopicReplicaAssignment : List Value := [.int .i32 0, .slice none 0 0, .map none]
theorem elz_sCreateTopicsRequestTopicReplicaAssignment : ∀ e, (Tryz.prog).underlying 104 = some (.slice e) → zeroB Tryz.prog e (zaP zz_sCreateTopicsRequestTopicReplicaAssignment) := by
  intro e he
  have h : (Tryz.prog).underlying 104 = some (.slice 111) := by kernel_rfl
  rw [h] at he; cases he
  exact fun w => Tryz.zeroValue111 w
theorem eln_sCreateTopicsRequestTopicReplicaAssignment : zaQ Tryz.prog 107 := (fun args w => Tryz.call107 args w)
theorem eld_sCreateTopicsRequestTopicReplicaAssignment : DefC 107 (zaP zz_sCreateTopicsRequestTopicReplicaAssignment).cells.toList dd_sCreateTopicsRequestTopicReplicaAssignment := by
  intro w b off cs T hb hlen hseg
  refine zbf Tryz.func107 rfl rfl Tryz.ntmps107 (by simp) ?_
  intro a hN hD ha
  refine wp_skip ⟨hD, ?_, Chg.refl _ _⟩
  have e : zaH cs off dd_sCreateTopicsRequestTopicReplicaAssignment = cs := splice_same hseg hlen
  rw [e]; exact hb
def zz_sCreateTopicsRequestTopicConfig : List Value := [.string ⟨#[]⟩, .pointer none, .map none]
def dd_sCreateTopicsRequestTopicConfig : List Value := [.string ⟨#[]⟩, .pointer none, .map none]
theorem elz_sCreateTopicsRequestTopicConfig : ∀ e, (Tryz.prog).underlying 105 = some (.slice e) → zeroB Tryz.prog e (zaP zz_sCreateTopicsRequestTopicConfig) := by
  intro e he
  have h : (Tryz.prog).underlying 105 = some (.slice 115) := by kernel_rfl
  rw [h] at he; cases he
  exact fun w => Tryz.zeroValue115 w
theorem eln_sCreateTopicsRequestTopicConfig : zaQ Tryz.prog 108 := (fun args w => Tryz.call108 args w)
theorem eld_sCreateTopicsRequestTopicConfig : DefC 108 (zaP zz_sCreateTopicsRequestTopicConfig).cells.toList dd_sCreateTopicsRequestTopicConfig := by
  intro w b off cs T hb hlen hseg
  refine zbf Tryz.func108 rfl rfl Tryz.ntmps108 (by simp) ?_
  intro a hN hD ha
  refine wp_skip ⟨hD, ?_, Chg.refl _ _⟩
  have e : zaH cs off dd_sCreateTopicsRequestTopicConfig = cs := splice_same hseg hlen
  rw [e]; exact hb
def zz_sCreateTopicsRequestTopic : List Value := [.string ⟨#[]⟩, .int .i32 0, .int .i16 0, .slice none 0 0, .slice none 0 0, .map none]
def dd_sCreateTopicsRequestTopic : List Value := [.string ⟨#[]⟩, .int .i32 0, .int .i16 0, .slice none 0 0, .slice none 0 0, .map none]
theorem elz_sCreateTopicsRequestTopic : ∀ e, (Tryz.prog).underlying 100 = some (.slice e) → zeroB Tryz.prog e (zaP zz_sCreateTopicsRequestTopic) := by
  intro e he
  have h : (Tryz.prog).underlying 100 = some (.slice 107) := by kernel_rfl
  rw [h] at he; cases he
  exact fun w => Tryz.zeroValue107 w
theorem eln_sCreateTopicsRequestTopic : zaQ Tryz.prog 105 := (fun args w => Tryz.call105 args w)
theorem eld_sCreateTopicsRequestTopic : DefC 105 (zaP zz_sCreateTopicsRequestTopic).cells.toList dd_sCreateTopicsRequestTopic := by
  intro w b off cs T hb hlen hseg
  refine zbf Tryz.func105 rfl rfl Tryz.ntmps105 (by simp) ?_
  intro a hN hD ha
  refine wp_skip ⟨hD, ?_, Chg.refl _ _⟩
  have e : zaH cs off dd_sCreateTopicsRequestTopic = cs := splice_same hseg hlen
  rw [e]; exact hb
def dd_CreateTopicsRequest : List Value := [.slice none 0 0, .int .i32 60000, .bool false, .map none]
theorem defm_CreateTopicsRequest : DefM 74 dd_CreateTopicsRequest := by
  intro w B v T hb
  refine zbf Tryz.func74 rfl rfl Tryz.ntmps74 (by simp) ?_
  intro a hN hD ha
  have h0 : get a 0 = .pointer (some ⟨B, 0, none⟩) := ha 0 _ rfl
  refine zaf ?_
  (repeat (first | ((with_reducible refine zax ?_ ?_ ?_ ?_); (· exact rfl); (· simp [evb, kb, hN, h0, dyb, sdb] <;> omega); (· kernel_rfl); try simp only [evb, kb, hN, seval, pvb, h0]) | ((with_reducible refine zak ?_ ?_ ?_); rotate_left 1; (· simp [evb, kb, hN, h0, sdb]); rotate_left 1; (· kernel_rfl); try simp only [evb, kb, hN, seval, pvb, h0])))
  refine zaY (p := ⟨B, 0, none⟩) (by simp [evb, kb, hN, h0, sdb]) ?_
  refine zaV (b := B) (o := 0) (off := 2) (n := 1) (by kernel_rfl) (by simp [evb, kb, hN, sdb]) ?_
  refine za5 (b := B) (o := 0 + 2) (n := 1) (v := .int .i32 60000) (by kernel_rfl) (by simp [evb, kb, hN, sdb]) (by simp [evb, kb, hN, sdb]) hb rfl (by intro y hy; simp only [Value.cells, List.mem_singleton] at hy; subst hy; rfl) (by show _ ≤ 5; decide) fun w0 hb0 hc0 => ?_
  refine zac ⟨by simp [zae, hD], ?_, hc0⟩
  exact hb0
def zz_CreateTopicsRequest : List Value := [.slice none 0 0, .int .i32 0, .bool false, .map none]
theorem defz_CreateTopicsRequest : ∀ (w : World) (B : Nat) (v : Value) (T : TypeId), Blk w B (v :: zz_CreateTopicsRequest) T → zaB Tryz.prog 74 #[.pointer (some ⟨B, 0, none⟩)] w fun _ w' => Blk w' B (v :: dd_CreateTopicsRequest) T ∧ Chg (fun k => k = B) w w' := by
  intro w B v T hb
  refine zbf Tryz.func74 rfl rfl Tryz.ntmps74 (by simp) ?_
  intro a hN hD ha
  have h0 : get a 0 = .pointer (some ⟨B, 0, none⟩) := ha 0 _ rfl
  refine zaf ?_
  (repeat (first | ((with_reducible refine zax ?_ ?_ ?_ ?_); (· exact rfl); (· simp [evb, kb, hN, h0, dyb, sdb] <;> omega); (· kernel_rfl); try simp only [evb, kb, hN, seval, pvb, h0]) | ((with_reducible refine zak ?_ ?_ ?_); rotate_left 1; (· simp [evb, kb, hN, h0, sdb]); rotate_left 1; (· kernel_rfl); try simp only [evb, kb, hN, seval, pvb, h0])))
  refine zaY (p := ⟨B, 0, none⟩) (by simp [evb, kb, hN, h0, sdb]) ?_
  refine zaV (b := B) (o := 0) (off := 2) (n := 1) (by kernel_rfl) (by simp [evb, kb, hN, sdb]) ?_
  refine za5 (b := B) (o := 0 + 2) (n := 1) (v := .int .i32 60000) (by kernel_rfl) (by simp [evb, kb, hN, sdb]) (by simp [evb, kb, hN, sdb]) hb rfl (by intro y hy; simp only [Value.cells, List.mem_singleton] at hy; subst hy; rfl) (by show _ ≤ 5; decide) fun w0 hb0 hc0 => ?_
  refine zac ⟨by simp [zae, hD], ?_, hc0⟩
  exact hb0
theorem read_CreateTopicsRequest : ReadsF 77 true (fun ver => decide (5 ≤ ver)) sch_CreateTopicsRequest dd_CreateTopicsRequest [.bool false] := by
  refine read_flex Tryz.func77 rfl rfl Tryz.ntmps77 (fun args w => Tryz.call74 args w) defm_CreateTopicsRequest (by kernel_rfl) ?_
  intro ver hver
  (repeat' (first | (with_reducible refine rt_tagged rfl rfl ?_) | (with_reducible refine rt_next rfl (by kernel_rfl) ?_ ?_) | (with_reducible refine rt_end rfl ?_) | (with_reducible refine rt_noflex rfl ?_) | (with_reducible refine rt_fin co_en (by kernel_rfl) (by kernel_rfl)) | (with_reducible refine rt_tl (I := 1000) (by kernel_rfl) ?_ ?_) | (with_reducible refine rd_tags (by kernel_rfl) tagOK_all tg_en (by kernel_rfl) (by kernel_rfl)) | (with_reducible refine rd_tagged rfl rfl ?_) | (with_reducible refine rd_noflex rfl ?_) | (with_reducible refine rd_last rfl rfl (by kernel_rfl) ?_) | (with_reducible refine rd_next rfl (by kernel_rfl) (by kernel_rfl) ?_ ?_) | (with_reducible refine rd_end rfl ?_) | (with_reducible refine sf_all rfl (by dsimp only; omega) ?_) | ((with_reducible refine sf_from rfl (by kernel_rfl) (fun hv => ?_)); try dsimp only at hv) | ((with_reducible refine sf_range rfl (by kernel_rfl) (fun hv hv2 => ?_)); try dsimp only at hv hv2) | (with_reducible refine rf_list1 rfl (by kernel_rfl) elz_k_Int32CreateTopicsRequest (by kernel_rfl) ?_ ok_en co_en ?_ (by kernel_rfl)) | (with_reducible refine rf_list1 rfl (by kernel_rfl) elz_sCreateTopicsRequestTopicReplicaAssignment (by kernel_rfl) ?_ ok_en co_en ?_ (by kernel_rfl)) | (with_reducible refine el_struct1 (by kernel_rfl) eln_sCreateTopicsRequestTopicReplicaAssignment eld_sCreateTopicsRequestTopicReplicaAssignment (by kernel_rfl) ?_ (by kernel_rfl) (by kernel_rfl) (by kernel_rfl)) | (with_reducible refine rf_list1 rfl (by kernel_rfl) elz_sCreateTopicsRequestTopicConfig (by kernel_rfl) ?_ ok_en co_en ?_ (by kernel_rfl)) | (with_reducible refine el_struct1 (by kernel_rfl) eln_sCreateTopicsRequestTopicConfig eld_sCreateTopicsRequestTopicConfig (by kernel_rfl) ?_ (by kernel_rfl) (by kernel_rfl) (by kernel_rfl)) | (with_reducible refine rf_list1 rfl (by kernel_rfl) elz_sCreateTopicsRequestTopic (by kernel_rfl) ?_ ok_en co_en ?_ (by kernel_rfl)) | (with_reducible refine el_struct1 (by kernel_rfl) eln_sCreateTopicsRequestTopic eld_sCreateTopicsRequestTopic (by kernel_rfl) ?_ (by kernel_rfl) (by kernel_rfl) (by kernel_rfl)) | (with_reducible refine rf_store ?_ rfl (by kernel_rfl) (by kernel_rfl) (by kernel_rfl)) | (with_reducible refine rf_store2 ?_ rfl (by kernel_rfl) (by kernel_rfl) (by kernel_rfl) (by kernel_rfl)) | (with_reducible refine rd_pre ?_ (by kernel_rfl)) | (with_reducible refine rv_safe ?_ (by kernel_rfl)) | (with_reducible refine rv_flex rfl (fun hx => ?_) (fun hx => ?_) (by kernel_rfl)) | (with_reducible refine rv_i16 (by kernel_rfl)) | (with_reducible refine rv_i32 (by kernel_rfl)) | (with_reducible refine rv_bool (by kernel_rfl)) | (with_reducible refine rv_string rfl (by first | assumption | rfl) (by kernel_rfl)) | (with_reducible refine rv_cstring rfl (by first | assumption | rfl) (by kernel_rfl)) | (with_reducible refine rv_nstring rfl (by first | assumption | rfl) (by dsimp only; omega) (by kernel_rfl)) | (with_reducible refine rv_cnstring rfl (by first | assumption | rfl) (by dsimp only; omega) (by kernel_rfl)) | (with_reducible refine rv_again ?_ (by kernel_rfl)) | (with_reducible refine rv_pre ?_ (by kernel_rfl)) | (with_reducible refine rn_plain (by first | assumption | rfl) (by kernel_rfl)) | (with_reducible refine rn_cplain (by first | assumption | rfl) (by kernel_rfl)) | (with_reducible refine rn_flex rfl (fun hx => ?_) (fun hx => ?_) (by kernel_rfl)) | (with_reducible refine el_pre ?_ (by kernel_rfl)) | (with_reducible refine el_val1 (by kernel_rfl) (rv_elem rfl ?_) (by kernel_rfl) (by kernel_rfl))))
theorem app_CreateTopicsRequest : AppendsTo 48 true (fun ver => decide (5 ≤ ver)) sch_CreateTopicsRequest := by
  refine app_flex Tryz.func48 rfl rfl Tryz.ntmps48 (by kernel_rfl) ?_
  intro ver s hver
  (repeat' (first | with_reducible refine wt_start ?_ | with_reducible refine wp_noflex rfl ?_ | with_reducible refine wr_start ?_ | with_reducible refine wt_tagged rfl rfl ?_ | (with_reducible refine wt_next rfl (by kernel_rfl) (fun d hd => ?_) ?_) | (with_reducible refine wt_fin rfl rfl ?_) | (with_reducible refine wt_end rfl (by kernel_rfl) ?_ ?_) | (with_reducible refine wt_ret (by kernel_rfl)) | with_reducible refine wr_tagged rfl rfl ?_ | (with_reducible refine wr_last rfl rfl (fun d hd => ?_)) | (with_reducible refine wr_next rfl (by kernel_rfl) (fun d hd => ?_) ?_) | (with_reducible refine wr_end rfl ?_) | (with_reducible refine wr_tail rfl (by kernel_rfl) k_uint32 (by kernel_rfl)) | (with_reducible refine wf_all rfl (by dsimp only; omega) ?_) | ((with_reducible refine wf_from rfl (by kernel_rfl) (fun hv => ?_)); try dsimp only at hv) | ((with_reducible refine wf_range rfl (by kernel_rfl) (fun hv hv2 => ?_)); try dsimp only at hv hv2) | (with_reducible refine wf_load rfl hd (by kernel_rfl) (by kernel_rfl) rfl ?_) | (with_reducible refine wf_inner rfl hd (by kernel_rfl) (by kernel_rfl) rfl (fun s => ?_)) | (with_reducible refine wv_bool (by kernel_rfl)) | (with_reducible refine wv_i16 (by kernel_rfl)) | (with_reducible refine wv_i32 (by kernel_rfl)) | (with_reducible refine wv_flexS rfl (by kernel_rfl) (fun hx => ?_) (fun hx => ?_)) | (with_reducible refine wv_string rfl (by first | assumption | rfl) (by kernel_rfl)) | (with_reducible refine wv_cstring rfl (by first | assumption | rfl) (by kernel_rfl)) | (with_reducible refine wv_nstring rfl (by dsimp only; omega) (by first | assumption | rfl) (by kernel_rfl)) | (with_reducible refine wv_cnstring rfl (by dsimp only; omega) (by first | assumption | rfl) (by kernel_rfl)) | ((with_reducible refine wv_otext rfl (by kernel_rfl) (by kernel_rfl) (by kernel_rfl) (by kernel_rfl) rfl (fun l => ?_) (fun hv => ?_)); (try dsimp only at hv)) | (with_reducible refine wv_listS (fun oa n cap M => ?_) (by kernel_rfl) (by kernel_rfl) (by kernel_rfl) (by kernel_rfl) (fun s => ?_)) | (with_reducible refine wv_listK (fun oa n cap M => ?_) (by kernel_rfl) (by kernel_rfl) (by kernel_rfl) (by kernel_rfl) (fun d => ?_)) | (with_reducible refine wn_flex rfl (by kernel_rfl) (fun hx => ?_) (fun hx => ?_)) | (with_reducible refine wn_plain (by dsimp only; omega) (by first | assumption | rfl) (by kernel_rfl) (by kernel_rfl)) | (with_reducible refine wn_cplain (by dsimp only; omega) (by first | assumption | rfl) (by kernel_rfl) (by kernel_rfl)) | (with_reducible refine wv_again (by kernel_rfl) rfl ?_)))
end Go.Proofs.YtaknanmlhajmcaaGreatDoorR
namespace Go.Proofs.YtaknanmlhajmcaaGreatDoorR
set_option linter.all false
open Go.RowKit
set_option maxRecDepth 100000
set_option maxHeartbeats 2000000
theorem lay_sCreateTopicsRequestTopicReplicaAssignment : LaysS 75 sch_sCreateTopicsRequestTopicReplicaAssignment := by
  intro w0
  refine zap Tryz.func75 rfl rfl Tryz.ntmps75 (by simp) ?_
  intro a hN hD ha
  refine wp_seq_k fun K hK => ?_; refine zaf ?_; refine zam ?_; simp only [evb, kb, hN, seval]; refine zac ?_; refine hK _ _ ?_; clear hK K
  refine wp_seq_k fun K hK => ?_; refine zaf ?_
  have hq : Chg (fun _ => False) w0 w0 := Chg.refl _ _
  refine za1 (l := zaI (.mk .i32 0 (-1) (-1) (-1) 0 .bool []) (.slice none 0 0)) (by simp only [List.map_toArray, List.map_cons, List.map_nil, evb, kb, hN, seval]; kernel_rfl) ?_
  refine za1 (l := zaI (.mk .list 0 (-1) (-1) (-1) 0 .i32 []) (.slice none 0 0)) (by simp only [List.map_toArray, List.map_cons, List.map_nil, evb, kb, hN, seval]; kernel_rfl) ?_
  refine wl_fields sch_sCreateTopicsRequestTopicReplicaAssignment [zaI (.mk .i32 0 (-1) (-1) (-1) 0 .bool []) (.slice none 0 0), zaI (.mk .list 0 (-1) (-1) (-1) 0 .i32 []) (.slice none 0 0)] rfl (by simp only [List.map_toArray, List.map_cons, List.map_nil, evb, kb, hN, seval]; rfl) (by simp only [List.length_cons, List.length_nil]; omega) hq (.cons (zaO (.mk .i32 0 (-1) (-1) (-1) 0 .bool []) (schS_nil _ _ _ _)) (.cons (zaO (.mk .list 0 (-1) (-1) (-1) 0 .i32 []) (schS_nil _ _ _ _)) (.nil))) ?_
  rintro v wF hcF hkF hsF rfl
  refine zam ?_
  simp only [evb, kb, hN, seval]
  refine zac ?_; refine hK _ _ ?_; clear hK K
  refine wp_ret ⟨by simp [zae, hD], ?_⟩; simp only [evb, kb, hN, seval]
  exact ⟨hsF, hcF⟩
theorem lay_sCreateTopicsRequestTopicConfig : LaysS 76 sch_sCreateTopicsRequestTopicConfig := by
  intro w0
  refine zap Tryz.func76 rfl rfl Tryz.ntmps76 (by simp) ?_
  intro a hN hD ha
  refine wp_seq_k fun K hK => ?_; refine zaf ?_; refine zam ?_; simp only [evb, kb, hN, seval]; refine zac ?_; refine hK _ _ ?_; clear hK K
  refine wp_seq_k fun K hK => ?_; refine zaf ?_
  have hq : Chg (fun _ => False) w0 w0 := Chg.refl _ _
  refine za1 (l := zaI (.mk .text 0 (-1) (-1) (-1) 0 .bool []) (.slice none 0 0)) (by simp only [List.map_toArray, List.map_cons, List.map_nil, evb, kb, hN, seval]; kernel_rfl) ?_
  refine za1 (l := zaI (.mk .text 0 (-1) 0 (-1) 0 .bool []) (.slice none 0 0)) (by simp only [List.map_toArray, List.map_cons, List.map_nil, evb, kb, hN, seval]; kernel_rfl) ?_
  refine wl_fields sch_sCreateTopicsRequestTopicConfig [zaI (.mk .text 0 (-1) (-1) (-1) 0 .bool []) (.slice none 0 0), zaI (.mk .text 0 (-1) 0 (-1) 0 .bool []) (.slice none 0 0)] rfl (by simp only [List.map_toArray, List.map_cons, List.map_nil, evb, kb, hN, seval]; rfl) (by simp only [List.length_cons, List.length_nil]; omega) hq (.cons (zaO (.mk .text 0 (-1) (-1) (-1) 0 .bool []) (schS_nil _ _ _ _)) (.cons (zaO (.mk .text 0 (-1) 0 (-1) 0 .bool []) (schS_nil _ _ _ _)) (.nil))) ?_
  rintro v wF hcF hkF hsF rfl
  refine zam ?_
  simp only [evb, kb, hN, seval]
  refine zac ?_; refine hK _ _ ?_; clear hK K
  refine wp_ret ⟨by simp [zae, hD], ?_⟩; simp only [evb, kb, hN, seval]
  exact ⟨hsF, hcF⟩
theorem lay_sCreateTopicsRequestTopic : LaysS 45 sch_sCreateTopicsRequestTopic := by
  intro w0
  refine zap Tryz.func45 rfl rfl Tryz.ntmps45 (by simp) ?_
  intro a hN hD ha
  refine wp_seq_k fun K hK => ?_; refine zaf ?_; refine zam ?_; simp only [evb, kb, hN, seval]; refine zac ?_; refine hK _ _ ?_; clear hK K
  refine wp_seq_k fun K hK => ?_; refine zaf ?_
  have hq : Chg (fun _ => False) w0 w0 := Chg.refl _ _
  refine za1 (l := zaI (.mk .text 0 (-1) (-1) (-1) 0 .bool []) (.slice none 0 0)) (by simp only [List.map_toArray, List.map_cons, List.map_nil, evb, kb, hN, seval]; kernel_rfl) ?_
  refine za1 (l := zaI (.mk .i32 0 (-1) (-1) (-1) 0 .bool []) (.slice none 0 0)) (by simp only [List.map_toArray, List.map_cons, List.map_nil, evb, kb, hN, seval]; kernel_rfl) ?_
  refine za1 (l := zaI (.mk .i16 0 (-1) (-1) (-1) 0 .bool []) (.slice none 0 0)) (by simp only [List.map_toArray, List.map_cons, List.map_nil, evb, kb, hN, seval]; kernel_rfl) ?_
  refine zay (fun args w => Tryz.call75 args w) (by simp only [List.map_toArray, List.map_nil]; exact lay_sCreateTopicsRequestTopicReplicaAssignment _) ?_
  rintro v1 w1 ⟨hs1, hk1⟩
  replace hs1 := hs1.later (Chg.refl _ _) hq.size
  replace hq := hq.trans hk1 fun _ _ h => h
  obtain ⟨oa1, cap1, rfl, _⟩ := id hs1
  refine za1 (l := zaI (.mk .list 0 (-1) (-1) (-1) 0 .struct sch_sCreateTopicsRequestTopicReplicaAssignment) (.slice oa1 (sch_sCreateTopicsRequestTopicReplicaAssignment).length cap1)) (by simp only [List.map_toArray, List.map_cons, List.map_nil, evb, kb, hN, seval]; kernel_rfl) ?_
  refine zay (fun args w => Tryz.call76 args w) (by simp only [List.map_toArray, List.map_nil]; exact lay_sCreateTopicsRequestTopicConfig _) ?_
  rintro v2 w2 ⟨hs2, hk2⟩
  replace hs2 := hs2.later (Chg.refl _ _) hq.size
  replace hs1 := hs1.later hk2 (Nat.le_refl _)
  replace hq := hq.trans hk2 fun _ _ h => h
  obtain ⟨oa2, cap2, rfl, _⟩ := id hs2
  refine za1 (l := zaI (.mk .list 0 (-1) (-1) (-1) 0 .struct sch_sCreateTopicsRequestTopicConfig) (.slice oa2 (sch_sCreateTopicsRequestTopicConfig).length cap2)) (by simp only [List.map_toArray, List.map_cons, List.map_nil, evb, kb, hN, seval]; kernel_rfl) ?_
  refine wl_fields sch_sCreateTopicsRequestTopic [zaI (.mk .text 0 (-1) (-1) (-1) 0 .bool []) (.slice none 0 0), zaI (.mk .i32 0 (-1) (-1) (-1) 0 .bool []) (.slice none 0 0), zaI (.mk .i16 0 (-1) (-1) (-1) 0 .bool []) (.slice none 0 0), zaI (.mk .list 0 (-1) (-1) (-1) 0 .struct sch_sCreateTopicsRequestTopicReplicaAssignment) (.slice oa1 (sch_sCreateTopicsRequestTopicReplicaAssignment).length cap1), zaI (.mk .list 0 (-1) (-1) (-1) 0 .struct sch_sCreateTopicsRequestTopicConfig) (.slice oa2 (sch_sCreateTopicsRequestTopicConfig).length cap2)] rfl (by simp only [List.map_toArray, List.map_cons, List.map_nil, evb, kb, hN, seval]; rfl) (by simp only [List.length_cons, List.length_nil]; omega) hq (.cons (zaO (.mk .text 0 (-1) (-1) (-1) 0 .bool []) (schS_nil _ _ _ _)) (.cons (zaO (.mk .i32 0 (-1) (-1) (-1) 0 .bool []) (schS_nil _ _ _ _)) (.cons (zaO (.mk .i16 0 (-1) (-1) (-1) 0 .bool []) (schS_nil _ _ _ _)) (.cons (zaO (.mk .list 0 (-1) (-1) (-1) 0 .struct sch_sCreateTopicsRequestTopicReplicaAssignment) hs1) (.cons (zaO (.mk .list 0 (-1) (-1) (-1) 0 .struct sch_sCreateTopicsRequestTopicConfig) hs2) (.nil)))))) ?_
  rintro v wF hcF hkF hsF rfl
  refine zam ?_
  simp only [evb, kb, hN, seval]
  refine zac ?_; refine hK _ _ ?_; clear hK K
  refine wp_ret ⟨by simp [zae, hD], ?_⟩; simp only [evb, kb, hN, seval]
  exact ⟨hsF, hcF⟩
theorem lay_CreateTopicsRequest : LaysM 21 sch_CreateTopicsRequest 5 := by
  intro w
  refine callsR_ofC Tryz.func21 rfl rfl (by kernel_rfl) Tryz.ntmps21 (by simp) ?_
  intro a hN hD ha
  refine wp_seq_k fun K hK => ?_; refine zaf ?_
  refine zbe (z := zaP [.slice none 0 0, .int .i64 0]) (fun w => Tryz.zeroValue32 w) fun w0 hc0 hb0 hs0 => ?_
  refine zac ?_; refine hK _ _ ?_; clear hK K
  refine wp_seq_k fun K hK => ?_; refine zaf ?_
  have hq : Chg (fun _ => False) w0 w0 := Chg.refl _ _
  refine zay (fun args w => Tryz.call45 args w) (by simp only [List.map_toArray, List.map_nil]; exact lay_sCreateTopicsRequestTopic _) ?_
  rintro v1 w1 ⟨hs1, hk1⟩
  replace hs1 := hs1.later (Chg.refl _ _) hq.size
  replace hq := hq.trans hk1 fun _ _ h => h
  obtain ⟨oa1, cap1, rfl, _⟩ := id hs1
  refine za1 (l := zaI (.mk .list 0 (-1) (-1) (-1) 0 .struct sch_sCreateTopicsRequestTopic) (.slice oa1 (sch_sCreateTopicsRequestTopic).length cap1)) (by simp only [List.map_toArray, List.map_cons, List.map_nil, evb, kb, hN, seval]; kernel_rfl) ?_
  refine za1 (l := zaI (.mk .i32 0 (-1) (-1) (-1) 60000 .bool []) (.slice none 0 0)) (by simp only [List.map_toArray, List.map_cons, List.map_nil, evb, kb, hN, seval]; kernel_rfl) ?_
  refine za1 (l := zaI (.mk .bool 1 (-1) (-1) (-1) 0 .bool []) (.slice none 0 0)) (by simp only [List.map_toArray, List.map_cons, List.map_nil, evb, kb, hN, seval]; kernel_rfl) ?_
  refine wl_fields sch_CreateTopicsRequest [zaI (.mk .list 0 (-1) (-1) (-1) 0 .struct sch_sCreateTopicsRequestTopic) (.slice oa1 (sch_sCreateTopicsRequestTopic).length cap1), zaI (.mk .i32 0 (-1) (-1) (-1) 60000 .bool []) (.slice none 0 0), zaI (.mk .bool 1 (-1) (-1) (-1) 0 .bool []) (.slice none 0 0)] rfl (by simp only [List.map_toArray, List.map_cons, List.map_nil, evb, kb, hN, seval]; rfl) (by simp only [List.length_cons, List.length_nil]; omega) hq (.cons (zaO (.mk .list 0 (-1) (-1) (-1) 0 .struct sch_sCreateTopicsRequestTopic) hs1) (.cons (zaO (.mk .i32 0 (-1) (-1) (-1) 60000 .bool []) (schS_nil _ _ _ _)) (.cons (zaO (.mk .bool 1 (-1) (-1) (-1) 0 .bool []) (schS_nil _ _ _ _)) (.nil)))) ?_
  rintro v wF hcF hkF hsF rfl
  refine za1 (l := [.slice (some ⟨w1.heap.size, 0, none⟩) (sch_CreateTopicsRequest).length (sch_CreateTopicsRequest).length, .int .i64 5]) (by simp only [List.map_toArray, List.map_cons, List.map_nil, evb, kb, hN, seval]; kernel_rfl) ?_
  have hbF := hb0.chg hcF (fun h => h)
  refine za8 (b := w.heap.size) (n := 2) (l' := [.slice (some ⟨w1.heap.size, 0, none⟩) (sch_CreateTopicsRequest).length (sch_CreateTopicsRequest).length, .int .i64 5]) (by kernel_rfl) (by simp [evb, kb, hN, sdb]) (by simp [evb, kb, hN, sdb]) hbF rfl (by intro y hy; simp only [List.mem_cons, List.not_mem_nil, or_false] at hy; rcases hy with rfl | rfl <;> rfl) rfl fun wE hbE hcE => ?_
  refine zac ?_; refine hK _ _ ?_; clear hK K
  refine wp_ret ⟨by simp [zae, hD], w.heap.size, _, _, by simp only [evb, kb, hN, seval], hbE, by kernel_rfl, ⟨_, rfl, SchS.stay ⟨fun k hk hg => ⟨hcE.block k hk (by omega), by omega⟩⟩ hsF, ?_⟩⟩
  exact (hc0.trans hcF fun _ _ h => h).trans hcE fun k hk h => by omega
theorem new_CreateTopicsRequest : NewsPtr 43 dd_CreateTopicsRequest :=
  newptr_of zz_CreateTopicsRequest dd_CreateTopicsRequest Tryz.func43 rfl rfl Tryz.ntmps43 (by kernel_rfl) (fun w => Tryz.zeroValue102 w) (fun args w => Tryz.call74 args w) defz_CreateTopicsRequest
theorem max_CreateTopicsRequest : MaxIs 20 7 := by
  intro w
  refine zap Tryz.func20 rfl rfl Tryz.ntmps20 (by simp) ?_
  intro a hN hD ha
  refine wp_seq_k fun K hK => ?_; refine zaf ?_; refine zam ?_; refine zac ?_; refine hK _ _ ?_; clear hK K
  refine wp_seq_k fun K hK => ?_; refine zaf ?_
  refine zay (fun args w => Tryz.call43 args w) (by simp only [List.map_toArray, List.map_nil]; exact new_CreateTopicsRequest w) ?_
  rintro v w1 ⟨rfl, hc, _⟩
  refine zay (fun args w => Tryz.call44 args w) (by simp only [List.map_toArray, List.map_cons, List.map_nil]; simp only [evb, kb, hN, seval]; exact maxver_of Tryz.func44 rfl rfl Tryz.ntmps44 (by kernel_rfl) _ w1) ?_
  rintro _ w2 ⟨rfl, rfl⟩
  (repeat (first | ((with_reducible refine zax ?_ ?_ ?_ ?_); (· exact rfl); (· simp [evb, kb, hN, dyb, sdb] <;> omega); (· kernel_rfl); try simp only [evb, kb, hN, seval, pvb]) | ((with_reducible refine zak ?_ ?_ ?_); rotate_left 1; (· simp [evb, kb, hN, sdb]); rotate_left 1; (· kernel_rfl); try simp only [evb, kb, hN, seval, pvb])))
  refine zac ?_; refine hK _ _ ?_; clear hK K; refine wp_ret ⟨by simp [zae, hD], ?_⟩; simp only [evb, kb, hN, seval]
  exact ⟨by first | rfl | trivial, hc⟩
theorem setv_CreateTopicsRequest : SetsVersion 46 := setver_of Tryz.func46 rfl rfl Tryz.ntmps46 (by kernel_rfl)
theorem from_CreateTopicsRequest : ReadsFrom 47 77 := fun h => readfrom_c Tryz.func47 rfl rfl Tryz.ntmps47 (fun args w => Tryz.call77 args w) h
theorem ag_CreateTopicsRequest : AgC 22 (fun ver => decide (5 ≤ ver)) 7 sch_CreateTopicsRequest := fun ver h0 h1 w G oa bs cap hsrc hlim herr hout =>
  again_of Tryz.func22 rfl rfl Tryz.ntmps22 (fun args w => Tryz.call43 args w) (fun args w => Tryz.call46 args w) (fun args w => Tryz.call47 args w) (fun args w => Tryz.call48 args w) new_CreateTopicsRequest setv_CreateTopicsRequest from_CreateTopicsRequest read_CreateTopicsRequest app_CreateTopicsRequest h0 (by omega) hsrc hlim herr hout
theorem ok_CreateTopicsRequest : SchOK (fun ver => decide (5 ≤ ver)) 7 sch_CreateTopicsRequest := schB_out (by kernel_rfl)
theorem walk_FnCutCreateTopicsRequest {a b : Int} (hn : 0 ≤ a) (hn2 : a < 256) {w : World} {G : Nat → Prop} {v : Tr} {ts : List Value} (hv : TrC w G v ts) (hkv : keyV v) (hb : za2 v ≤ 1048576) (hb0 : 0 ≤ b) (hb1 : b < 65536) (herr : ErrW w) :
    zaB Tryz.prog 6 #[.int .u8 a, zaP ts, .int .u16 b] w fun v w' => v = .bool true ∧ Chg (fun _ => False) w w' :=
  lawCut_of Tryz.func6 rfl rfl (by kernel_rfl) rfl (by kernel_rfl) rfl Tryz.ntmps6 (fun args w => Tryz.call20 args w) (fun args w => Tryz.call21 args w) (fun args w => Tryz.call22 args w) max_CreateTopicsRequest lay_CreateTopicsRequest ag_CreateTopicsRequest (by decide) (fun ver _ => by simp) ok_CreateTopicsRequest hn hn2 hv hkv hb hb0 hb1 herr
end Go.Proofs.YtaknanmlhajmcaaGreatDoorR
namespace Go.Proofs.YtaknanmlhajmcaaGreatDoorR
set_option linter.all false
namespace fnCutCreateTopicsRequest
open Go.ChangeShapes Go.WideShapes Go.ChangeAt Go.RowKit
set_option maxRecDepth 100000
set_option maxHeartbeats 1000000
theorem laid_met (os : Os) : laidMet Tryz.prog Rows.fnCutCreateTopicsRequestUptoRow.laid ((zbn os).forCall (fun _ _ => 0) ⟨#[], #[.int .u8 0, .agg #[.int .i64 0, .slice none 0 0, .bool false, .slice none 0 0, .slice none 0 0], .int .u16 0], []⟩).memory :=
  laidMet_of_run' 8 (by kernel_rfl) (by kernel_rfl)
theorem witness_row (os : Os) {H : Type} (enc : TypeId × Value → H) :
    (Rows.OpenSpec.upto Rows.fnCutCreateTopicsRequestSpec).preRow enc Tryz.prog Tryz.f6 Rows.fnCutCreateTopicsRequestUptoRow.domain false Rows.fnCutCreateTopicsRequestUptoRow.laid ((zbn os).forCall (fun _ _ => 0) ⟨#[], #[.int .u8 0, .agg #[.int .i64 0, .slice none 0 0, .bool false, .slice none 0 0, .slice none 0 0], .int .u16 0], []⟩).memory #[.int .u8 0, .agg #[.int .i64 0, .slice none 0 0, .bool false, .slice none 0 0, .slice none 0 0], .int .u16 0] := by
  have hw : (DataW.whole enc Tryz.prog ((zbn os).forCall (fun _ _ => 0) ⟨#[], #[.int .u8 0, .agg #[.int .i64 0, .slice none 0 0, .bool false, .slice none 0 0, .slice none 0 0], .int .u16 0], []⟩).memory Tryz.f6.params.toList Rows.fnCutCreateTopicsRequestSpec.vars false (#[.int .u8 0, .agg #[.int .i64 0, .slice none 0 0, .bool false, .slice none 0 0, .slice none 0 0], .int .u16 0] : Array Value).toList 8).map (fun x => (decide (Rows.uptoBulkAll (x.1 ++ x.2.1) ≤ 1048576))) = some true := by kernel_rfl
  obtain ⟨⟨x1, x2, x3⟩, hx, hx1⟩ := Option.map_eq_some_iff.1 hw
  exact OpenSpec.preRow_of_cond 8 hx (by kernel_rfl) (fun k hk => by cases hk; exact hx1) (by kernel_rfl) (laid_met os)
theorem lifted (os : Os) (started : os.Started) (H : Type) (enc : TypeId × Value → H) (F : Stop.Interp) :
    ReturnsInHanded {} Tryz.checked os 6 .any ((Rows.OpenSpec.upto Rows.fnCutCreateTopicsRequestSpec).preRow enc Tryz.prog Tryz.f6 Rows.fnCutCreateTopicsRequestUptoRow.domain false Rows.fnCutCreateTopicsRequestUptoRow.laid) (((Rows.OpenSpec.upto Rows.fnCutCreateTopicsRequestSpec).at F).post enc Tryz.prog Tryz.f6 false true false false) := by
  refine returnsInHanded_of_row (C := Tryz.checked) (s := Rows.OpenSpec.upto Rows.fnCutCreateTopicsRequestSpec) own started (by kernel_rfl) Tryz.func6
    (witness_row_atRef (enc := enc) (C := Tryz.checked) false (zbn os) #[.int .u8 0, .agg #[.int .i64 0, .slice none 0 0, .bool false, .slice none 0 0, .slice none 0 0], .int .u16 0] rfl (by kernel_rfl) (by kernel_rfl) (by kernel_rfl) (witness_row os enc)) ?_
  intro W base args ds gs before hval0 hW _ hcond _ hL _ _
  have hval : ∀ (j : Nat) t v, Tryz.f6.params[j]? = some t → args[j]? = some v → Value.okWide Tryz.prog W .any base t v := hval0
  have hW' := hW
  obtain ⟨p, q, hA0, hV, rfl, hfz, hnd⟩ := hW
  have hA : DataW.TrodAll enc Tryz.prog W 0 (fun _ => true) true Tryz.f6.params.toList args.toList ds p := hA0
  rw [Tryz.params6] at hA hval
  obtain ⟨v0, vs0, d0, ds0, p0, q0, hargs, rfl, rfl, h0, r0⟩ := trodAll_cons hA
  obtain ⟨v1, vs1, d1, ds1, p1, q1, rfl, rfl, rfl, h1, r1⟩ := trodAll_cons r0
  obtain ⟨v2, vs2, d2, ds2, p2, q2, rfl, rfl, rfl, h2, r2⟩ := trodAll_cons r1
  obtain ⟨rfl, rfl, rfl⟩ := trodAll_nil r2
  obtain rfl : args = #[v0, v1, v2] := by cases args; simp_all
  obtain ⟨rfl, rfl⟩ := trodVars_none hV
  simp only [List.append_nil] at hW' hcond
  have hbulk := hcond _ rfl
  replace hbulk := of_decide_eq_true hbulk
  simp only [Rows.uptoBulkAll] at hbulk
  have hlt : ∀ x ∈ _, MemPlace.block x < W.heap.size := fun x hx => hW'.lt x hx
  obtain ⟨a0, rfl, rfl, rfl, x0⟩ := open_int Tryz.underlying5 (hval 0 5 v0 rfl rfl) h0
  have y0 : 0 ≤ a0 ∧ a0 < 256 := by have h := x0; simp only [Lit.wf, IntKind.min, IntKind.max, IntKind.signed, IntKind.bits, Bool.and_eq_true, decide_eq_true_eq] at h; simp at h; omega
  obtain ⟨ts, T, rfl, hT, hkey, hbT⟩ := tree_arg (hval 1 26 v1 rfl rfl) h1 (by omega)
  obtain ⟨a2, rfl, rfl, rfl, x2⟩ := open_int Tryz.underlying39 (hval 2 39 v2 rfl rfl) h2
  have y2 : 0 ≤ a2 ∧ a2 < 65536 := by have h := x2; simp only [Lit.wf, IntKind.min, IntKind.max, IntKind.signed, IntKind.bits, Bool.and_eq_true, decide_eq_true_eq] at h; simp at h; omega
  clear hA0 hval0
  refine Calls.mono (walk_FnCutCreateTopicsRequest y0.1 y0.2 hT hkey hbT y2.1 y2.2 (errW_of hL)) fun e W' ⟨v, he, hv, hc⟩ => ?_
  subst he
  subst hv
  exact ⟨_, rfl, _, _, _, [], _, [], hW', trodAll_cons_mk (shut_bool Tryz.underlying4 _) trodAll_mk0, trodAll_cons_mk (shut_int Tryz.underlying5 x0) (trodAll_cons_mk (tree_same h1 hc (fun x hx => hlt x (by simp [hx]))) (trodAll_cons_mk (shut_int Tryz.underlying39 x2) (trodAll_mk0))), rfl, (below_of hc).frame _, fun h => by cases h⟩
theorem c2 : (Rows.fnCutCreateTopicsRequestUptoRow.inPlace == Tryz.prog.inPlace 6) = true := by kernel_rfl
theorem c3 : (Rows.fnCutCreateTopicsRequestUptoRow.unfollowed == Tryz.prog.unfollowed 6) = true := by kernel_rfl
theorem c4 : (Rows.fnCutCreateTopicsRequestUptoRow.recurses == Tryz.prog.recurses 6) = true := by kernel_rfl
theorem c5 : (Rows.fnCutCreateTopicsRequestUptoRow.named == Tryz.prog.varsNamed 6) = true := by kernel_rfl
theorem c7 : (Rows.fnCutCreateTopicsRequestUptoRow.lifted == Tryz.prog.liftsFinal) = true := by
  have h : Rows.fnCutCreateTopicsRequestUptoRow.lifted = Facts.lifted := rfl
  rw [h]; exact Facts.c7
theorem c8 : (Tryz.prog.make == some Rows.fnCutCreateTopicsRequestUptoRow.make) = true := by
  have h : Rows.fnCutCreateTopicsRequestUptoRow.make = Facts.make := rfl
  rw [h]; exact Facts.c8
theorem c9 : (Rows.fnCutCreateTopicsRequestUptoRow.plainKeys == Tryz.prog.plainKeys) = true := by
  have h : Rows.fnCutCreateTopicsRequestUptoRow.plainKeys = Facts.plainKeys := rfl
  rw [h]; exact Facts.c9
theorem c11 : Tryz.prog.funcNamed Rows.fnCutCreateTopicsRequestUptoRow.func = some 6 := by kernel_rfl
theorem closed : joinedFacts Tryz.prog 6 Tryz.f6 (Rows.OpenSpec.upto Rows.fnCutCreateTopicsRequestSpec).bare Rows.fnCutCreateTopicsRequestUptoRow = true := by
  unfold joinedFacts
  simp only [Bool.and_eq_true]
  repeat' (refine And.intro ?_ ?_)
  all_goals first | with_reducible exact Facts.c1 | with_reducible exact Facts.c0 | with_reducible exact c2 | with_reducible exact c3 | with_reducible exact c4 | with_reducible exact c5 | with_reducible exact Facts.c6 | with_reducible exact c7 | with_reducible exact c8 | with_reducible exact c9 | with_reducible exact Facts.c10 | kernel_rfl
theorem over : Rows.FnCutCreateTopicsRequestUptoSaid :=
  OpenClaim.holds_of_cond 6 Tryz.f6 rfl rfl rfl rfl rfl rfl rfl ⟨rfl, rfl, rfl, rfl, rfl⟩ rfl rfl rfl rfl rfl c11 Tryz.func6 closed
    (of_decide_eq_true (by kernel_rfl)) (by unfold Func.isWrapper; first | (rw [if_pos (by decide +kernel)]; kernel_rfl) | (rw [if_neg (by decide +kernel)]; exact ⟨rfl, rfl⟩))
    (fun os started H enc _ F => by rw [OpenClaim.pre_eq_preRow]; exact lifted os started H enc F)
theorem plain (f : FuncId) (fn : Func) (hf : Tryz.pinned.checked.prog.funcNamed "pub-kmsg/laws.FnCutCreateTopicsRequest" = some f) (hfn : Tryz.pinned.checked.prog.funcs[f]? = some fn) :
    false = Tryz.pinned.checked.prog.looks [] ∧ ∀ (j : Nat) t, fn.params[j]? = some t → Tryz.pinned.checked.prog.wantsStandIn t = false := by
  obtain rfl : f = 6 := Option.some.inj ((show Tryz.prog.funcNamed "pub-kmsg/laws.FnCutCreateTopicsRequest" = some 6 by kernel_rfl).symm.trans hf) |>.symm
  obtain rfl : fn = Tryz.f6 := (Option.some.inj (Tryz.func6.symm.trans hfn)).symm
  refine ⟨by kernel_rfl, fun j t ht => ?_⟩
  rw [Tryz.params6] at ht
  have hw0 : Tryz.prog.wantsStandIn 5 = false := by kernel_rfl
  have hw1 : Tryz.prog.wantsStandIn 26 = false := by kernel_rfl
  have hw2 : Tryz.prog.wantsStandIn 39 = false := by kernel_rfl
  have hm := Array.mem_of_getElem? ht
  simp only [List.mem_toArray, List.mem_cons, List.not_mem_nil, or_false] at hm
  rcases hm with rfl | rfl | rfl <;> assumption
end fnCutCreateTopicsRequest
theorem fnCutCreateTopicsRequest_holds : Rows.FnCutCreateTopicsRequestUptoCardSaid :=
  Claim7.holds_tied_plain_at .later [] _ _ _ _ fnCutCreateTopicsRequest.over (fun _ h => by cases h) (by kernel_rfl) (fun _ h => by cases h) fnCutCreateTopicsRequestUpto_row_tie rfl ⟨rfl, rfl⟩ (by kernel_rfl) rfl fnCutCreateTopicsRequest.plain (by kernel_rfl)
#print axioms fnCutCreateTopicsRequest_holds
end Go.Proofs.YtaknanmlhajmcaaGreatDoorR

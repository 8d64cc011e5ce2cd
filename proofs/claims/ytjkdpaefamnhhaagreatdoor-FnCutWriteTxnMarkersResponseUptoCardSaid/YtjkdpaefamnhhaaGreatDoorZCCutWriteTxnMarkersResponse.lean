/-
A WriteTxnMarkersResponse that ends anywhere ahead of its end is an error: for every input of bulk at most 1048576 the law returns true. Conditions: the listed variable holds what the text lays (tied by the card).
-/
import Derived.Test.YtjkdpaefamnhhaaGreatDoorZE
import Derived.Test.YtjkdpaefamnhhaaGreatDoorZW
import Derived.Test.YtjkdpaefamnhhaaGreatDoorZX
import Derived.Test.YtjkdpaefamnhhaaGreatDoorZF
import Derived.Test.YtjkdpaefamnhhaaGreatDoorZP
namespace Go.Proofs.YtjkdpaefamnhhaaGreatDoor
set_option linter.all false
open Go.RowKit
set_option maxRecDepth 100000
set_option maxHeartbeats 2000000
def sch_sWriteTxnMarkersResponseMarkerTopicPartition : List Fld := [.mk .i32 0 (-1) (-1) (-1) 0 .bool [], .mk .i16 0 (-1) (-1) (-1) 0 .bool []]
def sch_sWriteTxnMarkersResponseMarkerTopic : List Fld := [.mk .text 0 (-1) (-1) (-1) 0 .bool [], .mk .list 0 (-1) (-1) (-1) 0 .struct sch_sWriteTxnMarkersResponseMarkerTopicPartition]
def sch_sWriteTxnMarkersResponseMarker : List Fld := [.mk .i64 0 (-1) (-1) (-1) 0 .bool [], .mk .list 0 (-1) (-1) (-1) 0 .struct sch_sWriteTxnMarkersResponseMarkerTopic]
def sch_WriteTxnMarkersResponse : List Fld := [.mk .list 0 (-1) (-1) (-1) 0 .struct sch_sWriteTxnMarkersResponseMarker]
def zz_sWriteTxnMarkersResponseMarkerTopicPartition : List Value := [.int .i32 0, .int .i16 0, .map none]
def dd_sWriteTxnMarkersResponseMarkerTopicPartition : List Value := [.int .i32 0, .int .i16 0, .map none]
theorem elz_sWriteTxnMarkersResponseMarkerTopicPartition : ∀ e, (Tryz.prog).underlying 93 = some (.slice e) → zeroB Tryz.prog e (zaP zz_sWriteTxnMarkersResponseMarkerTopicPartition) := by
  intro e he
  have h : (Tryz.prog).underlying 93 = some (.slice 99) := by kernel_rfl
  rw [h] at he; cases he
  exact fun w => Tryz.zeroValue99 w
theorem eln_sWriteTxnMarkersResponseMarkerTopicPartition : zaS Tryz.prog 99 := (fun args w => Tryz.call99 args w)
theorem eld_sWriteTxnMarkersResponseMarkerTopicPartition : DefC 99 (zaP zz_sWriteTxnMarkersResponseMarkerTopicPartition).cells.toList dd_sWriteTxnMarkersResponseMarkerTopicPartition := by
  intro w b off cs T hb hlen hseg
  refine zbf Tryz.func99 rfl rfl Tryz.ntmps99 (by simp) ?_
  intro a hN hD ha
  refine wp_skip ⟨hD, ?_, Chg.refl _ _⟩
  have e : zaB cs off dd_sWriteTxnMarkersResponseMarkerTopicPartition = cs := splice_same hseg hlen
  rw [e]; exact hb
def zz_sWriteTxnMarkersResponseMarkerTopic : List Value := [.string ⟨#[]⟩, .slice none 0 0, .map none]
def dd_sWriteTxnMarkersResponseMarkerTopic : List Value := [.string ⟨#[]⟩, .slice none 0 0, .map none]
theorem elz_sWriteTxnMarkersResponseMarkerTopic : ∀ e, (Tryz.prog).underlying 88 = some (.slice e) → zeroB Tryz.prog e (zaP zz_sWriteTxnMarkersResponseMarkerTopic) := by
  intro e he
  have h : (Tryz.prog).underlying 88 = some (.slice 95) := by kernel_rfl
  rw [h] at he; cases he
  exact fun w => Tryz.zeroValue95 w
theorem eln_sWriteTxnMarkersResponseMarkerTopic : zaS Tryz.prog 94 := (fun args w => Tryz.call94 args w)
theorem eld_sWriteTxnMarkersResponseMarkerTopic : DefC 94 (zaP zz_sWriteTxnMarkersResponseMarkerTopic).cells.toList dd_sWriteTxnMarkersResponseMarkerTopic := by
  intro w b off cs T hb hlen hseg
  refine zbf Tryz.func94 rfl rfl Tryz.ntmps94 (by simp) ?_
  intro a hN hD ha
  refine wp_skip ⟨hD, ?_, Chg.refl _ _⟩
  have e : zaB cs off dd_sWriteTxnMarkersResponseMarkerTopic = cs := splice_same hseg hlen
  rw [e]; exact hb
def zz_sWriteTxnMarkersResponseMarker : List Value := [.int .i64 0, .slice none 0 0, .map none]
def dd_sWriteTxnMarkersResponseMarker : List Value := [.int .i64 0, .slice none 0 0, .map none]
theorem elz_sWriteTxnMarkersResponseMarker : ∀ e, (Tryz.prog).underlying 83 = some (.slice e) → zeroB Tryz.prog e (zaP zz_sWriteTxnMarkersResponseMarker) := by
  intro e he
  have h : (Tryz.prog).underlying 83 = some (.slice 90) := by kernel_rfl
  rw [h] at he; cases he
  exact fun w => Tryz.zeroValue90 w
theorem eln_sWriteTxnMarkersResponseMarker : zaS Tryz.prog 92 := (fun args w => Tryz.call92 args w)
theorem eld_sWriteTxnMarkersResponseMarker : DefC 92 (zaP zz_sWriteTxnMarkersResponseMarker).cells.toList dd_sWriteTxnMarkersResponseMarker := by
  intro w b off cs T hb hlen hseg
  refine zbf Tryz.func92 rfl rfl Tryz.ntmps92 (by simp) ?_
  intro a hN hD ha
  refine wp_skip ⟨hD, ?_, Chg.refl _ _⟩
  have e : zaB cs off dd_sWriteTxnMarkersResponseMarker = cs := splice_same hseg hlen
  rw [e]; exact hb
def dd_WriteTxnMarkersResponse : List Value := [.slice none 0 0, .map none]
theorem defm_WriteTxnMarkersResponse : DefM 57 dd_WriteTxnMarkersResponse := by
  intro w B v T hb
  refine zbf Tryz.func57 rfl rfl Tryz.ntmps57 (by simp) ?_
  intro a hN hD ha
  exact wp_skip ⟨hD, hb, Chg.refl _ _⟩
theorem read_WriteTxnMarkersResponse : ReadsF 59 true (fun ver => decide (1 ≤ ver)) sch_WriteTxnMarkersResponse dd_WriteTxnMarkersResponse [.bool false] := by
  refine read_flex Tryz.func59 rfl rfl Tryz.ntmps59 (fun args w => Tryz.call57 args w) defm_WriteTxnMarkersResponse (by kernel_rfl) ?_
  intro ver hver
  (repeat' (first | (with_reducible refine rt_tagged rfl rfl ?_) | (with_reducible refine rt_next rfl (by kernel_rfl) ?_ ?_) | (with_reducible refine rt_end rfl ?_) | (with_reducible refine rt_noflex rfl ?_) | (with_reducible refine rt_fin co_en (by kernel_rfl) (by kernel_rfl)) | (with_reducible refine rt_tl (I := 1000) (by kernel_rfl) ?_ ?_) | (with_reducible refine rd_tags (by kernel_rfl) tagOK_all tg_en (by kernel_rfl) (by kernel_rfl)) | (with_reducible refine rd_tagged rfl rfl ?_) | (with_reducible refine rd_noflex rfl ?_) | (with_reducible refine rd_last rfl rfl (by kernel_rfl) ?_) | (with_reducible refine rd_next rfl (by kernel_rfl) (by kernel_rfl) ?_ ?_) | (with_reducible refine rd_end rfl ?_) | (with_reducible refine sf_all rfl (by dsimp only; omega) ?_) | ((with_reducible refine sf_from rfl (by kernel_rfl) (fun hv => ?_)); try dsimp only at hv) | ((with_reducible refine sf_range rfl (by kernel_rfl) (fun hv hv2 => ?_)); try dsimp only at hv hv2) | (with_reducible refine rf_list1 rfl (by kernel_rfl) elz_sWriteTxnMarkersResponseMarkerTopicPartition (by kernel_rfl) ?_ ok_en co_en ?_ (by kernel_rfl)) | (with_reducible refine el_struct1 (by kernel_rfl) eln_sWriteTxnMarkersResponseMarkerTopicPartition eld_sWriteTxnMarkersResponseMarkerTopicPartition (by kernel_rfl) ?_ (by kernel_rfl) (by kernel_rfl) (by kernel_rfl)) | (with_reducible refine rf_list1 rfl (by kernel_rfl) elz_sWriteTxnMarkersResponseMarkerTopic (by kernel_rfl) ?_ ok_en co_en ?_ (by kernel_rfl)) | (with_reducible refine el_struct1 (by kernel_rfl) eln_sWriteTxnMarkersResponseMarkerTopic eld_sWriteTxnMarkersResponseMarkerTopic (by kernel_rfl) ?_ (by kernel_rfl) (by kernel_rfl) (by kernel_rfl)) | (with_reducible refine rf_list1 rfl (by kernel_rfl) elz_sWriteTxnMarkersResponseMarker (by kernel_rfl) ?_ ok_en co_en ?_ (by kernel_rfl)) | (with_reducible refine el_struct1 (by kernel_rfl) eln_sWriteTxnMarkersResponseMarker eld_sWriteTxnMarkersResponseMarker (by kernel_rfl) ?_ (by kernel_rfl) (by kernel_rfl) (by kernel_rfl)) | (with_reducible refine rf_store ?_ rfl (by kernel_rfl) (by kernel_rfl) (by kernel_rfl)) | (with_reducible refine rf_store2 ?_ rfl (by kernel_rfl) (by kernel_rfl) (by kernel_rfl) (by kernel_rfl)) | (with_reducible refine rd_pre ?_ (by kernel_rfl)) | (with_reducible refine rv_safe ?_ (by kernel_rfl)) | (with_reducible refine rv_flex rfl (fun hx => ?_) (fun hx => ?_) (by kernel_rfl)) | (with_reducible refine rv_i16 (by kernel_rfl)) | (with_reducible refine rv_i32 (by kernel_rfl)) | (with_reducible refine rv_i64 (by kernel_rfl)) | (with_reducible refine rv_string rfl (by first | assumption | rfl) (by kernel_rfl)) | (with_reducible refine rv_cstring rfl (by first | assumption | rfl) (by kernel_rfl)) | (with_reducible refine rv_again ?_ (by kernel_rfl)) | (with_reducible refine rv_pre ?_ (by kernel_rfl)) | (with_reducible refine rn_plain (by first | assumption | rfl) (by kernel_rfl)) | (with_reducible refine rn_cplain (by first | assumption | rfl) (by kernel_rfl)) | (with_reducible refine rn_flex rfl (fun hx => ?_) (fun hx => ?_) (by kernel_rfl)) | (with_reducible refine el_pre ?_ (by kernel_rfl)) | (with_reducible refine el_val1 (by kernel_rfl) (rv_elem rfl ?_) (by kernel_rfl) (by kernel_rfl))))
theorem app_WriteTxnMarkersResponse : AppendsTo 31 true (fun ver => decide (1 ≤ ver)) sch_WriteTxnMarkersResponse := by
  refine app_flex Tryz.func31 rfl rfl Tryz.ntmps31 (by kernel_rfl) ?_
  intro ver s hver
  (repeat' (first | with_reducible refine wt_start ?_ | with_reducible refine wp_noflex rfl ?_ | with_reducible refine wr_start ?_ | with_reducible refine wt_tagged rfl rfl ?_ | (with_reducible refine wt_next rfl (by kernel_rfl) (fun d hd => ?_) ?_) | (with_reducible refine wt_fin rfl rfl ?_) | (with_reducible refine wt_end rfl (by kernel_rfl) ?_ ?_) | (with_reducible refine wt_ret (by kernel_rfl)) | with_reducible refine wr_tagged rfl rfl ?_ | (with_reducible refine wr_last rfl rfl (fun d hd => ?_)) | (with_reducible refine wr_next rfl (by kernel_rfl) (fun d hd => ?_) ?_) | (with_reducible refine wr_end rfl ?_) | (with_reducible refine wr_tail rfl (by kernel_rfl) k_uint32 (by kernel_rfl)) | (with_reducible refine wf_all rfl (by dsimp only; omega) ?_) | ((with_reducible refine wf_from rfl (by kernel_rfl) (fun hv => ?_)); try dsimp only at hv) | ((with_reducible refine wf_range rfl (by kernel_rfl) (fun hv hv2 => ?_)); try dsimp only at hv hv2) | (with_reducible refine wf_load rfl hd (by kernel_rfl) (by kernel_rfl) rfl ?_) | (with_reducible refine wf_inner rfl hd (by kernel_rfl) (by kernel_rfl) rfl (fun s => ?_)) | (with_reducible refine wv_i16 (by kernel_rfl)) | (with_reducible refine wv_i32 (by kernel_rfl)) | (with_reducible refine wv_i64 (by kernel_rfl)) | (with_reducible refine wv_flexS rfl (by kernel_rfl) (fun hx => ?_) (fun hx => ?_)) | (with_reducible refine wv_string rfl (by first | assumption | rfl) (by kernel_rfl)) | (with_reducible refine wv_cstring rfl (by first | assumption | rfl) (by kernel_rfl)) | (with_reducible refine wv_listS (fun oa n cap M => ?_) (by kernel_rfl) (by kernel_rfl) (by kernel_rfl) (by kernel_rfl) (fun s => ?_)) | (with_reducible refine wv_listK (fun oa n cap M => ?_) (by kernel_rfl) (by kernel_rfl) (by kernel_rfl) (by kernel_rfl) (fun d => ?_)) | (with_reducible refine wn_flex rfl (by kernel_rfl) (fun hx => ?_) (fun hx => ?_)) | (with_reducible refine wn_plain (by dsimp only; omega) (by first | assumption | rfl) (by kernel_rfl) (by kernel_rfl)) | (with_reducible refine wn_cplain (by dsimp only; omega) (by first | assumption | rfl) (by kernel_rfl) (by kernel_rfl)) | (with_reducible refine wv_again (by kernel_rfl) rfl ?_)))
end Go.Proofs.YtjkdpaefamnhhaaGreatDoor
namespace Go.Proofs.YtjkdpaefamnhhaaGreatDoor
set_option linter.all false
open Go.RowKit
set_option maxRecDepth 100000
set_option maxHeartbeats 2000000
theorem lay_sWriteTxnMarkersResponseMarkerTopicPartition : LaysS 88 sch_sWriteTxnMarkersResponseMarkerTopicPartition := by
  intro w0
  refine zap Tryz.func88 rfl rfl Tryz.ntmps88 (by simp) ?_
  intro a hN hD ha
  refine wp_seq_k fun K hK => ?_; refine zag ?_; refine zam ?_; simp only [evb, kb, hN, seval]; refine zac ?_; refine hK _ _ ?_; clear hK K
  refine wp_seq_k fun K hK => ?_; refine zag ?_
  have hq : Chg (fun _ => False) w0 w0 := Chg.refl _ _
  refine zaY (l := zaF (.mk .i32 0 (-1) (-1) (-1) 0 .bool []) (.slice none 0 0)) (by simp only [List.map_toArray, List.map_cons, List.map_nil, evb, kb, hN, seval]; kernel_rfl) ?_
  refine zaY (l := zaF (.mk .i16 0 (-1) (-1) (-1) 0 .bool []) (.slice none 0 0)) (by simp only [List.map_toArray, List.map_cons, List.map_nil, evb, kb, hN, seval]; kernel_rfl) ?_
  refine wl_fields sch_sWriteTxnMarkersResponseMarkerTopicPartition [zaF (.mk .i32 0 (-1) (-1) (-1) 0 .bool []) (.slice none 0 0), zaF (.mk .i16 0 (-1) (-1) (-1) 0 .bool []) (.slice none 0 0)] rfl (by simp only [List.map_toArray, List.map_cons, List.map_nil, evb, kb, hN, seval]; rfl) (by simp only [List.length_cons, List.length_nil]; omega) hq (.cons (zaO (.mk .i32 0 (-1) (-1) (-1) 0 .bool []) (schS_nil _ _ _ _)) (.cons (zaO (.mk .i16 0 (-1) (-1) (-1) 0 .bool []) (schS_nil _ _ _ _)) (.nil))) ?_
  rintro v wF hcF hkF hsF rfl
  refine zam ?_
  simp only [evb, kb, hN, seval]
  refine zac ?_; refine hK _ _ ?_; clear hK K
  refine wp_ret ⟨by simp [zae, hD], ?_⟩; simp only [evb, kb, hN, seval]
  exact ⟨hsF, hcF⟩
theorem lay_sWriteTxnMarkersResponseMarkerTopic : LaysS 58 sch_sWriteTxnMarkersResponseMarkerTopic := by
  intro w0
  refine zap Tryz.func58 rfl rfl Tryz.ntmps58 (by simp) ?_
  intro a hN hD ha
  refine wp_seq_k fun K hK => ?_; refine zag ?_; refine zam ?_; simp only [evb, kb, hN, seval]; refine zac ?_; refine hK _ _ ?_; clear hK K
  refine wp_seq_k fun K hK => ?_; refine zag ?_
  have hq : Chg (fun _ => False) w0 w0 := Chg.refl _ _
  refine zaY (l := zaF (.mk .text 0 (-1) (-1) (-1) 0 .bool []) (.slice none 0 0)) (by simp only [List.map_toArray, List.map_cons, List.map_nil, evb, kb, hN, seval]; kernel_rfl) ?_
  refine zay (fun args w => Tryz.call88 args w) (by simp only [List.map_toArray, List.map_nil]; exact lay_sWriteTxnMarkersResponseMarkerTopicPartition _) ?_
  rintro v1 w1 ⟨hs1, hk1⟩
  replace hs1 := hs1.later (Chg.refl _ _) hq.size
  replace hq := hq.trans hk1 fun _ _ h => h
  obtain ⟨oa1, cap1, rfl, _⟩ := id hs1
  refine zaY (l := zaF (.mk .list 0 (-1) (-1) (-1) 0 .struct sch_sWriteTxnMarkersResponseMarkerTopicPartition) (.slice oa1 (sch_sWriteTxnMarkersResponseMarkerTopicPartition).length cap1)) (by simp only [List.map_toArray, List.map_cons, List.map_nil, evb, kb, hN, seval]; kernel_rfl) ?_
  refine wl_fields sch_sWriteTxnMarkersResponseMarkerTopic [zaF (.mk .text 0 (-1) (-1) (-1) 0 .bool []) (.slice none 0 0), zaF (.mk .list 0 (-1) (-1) (-1) 0 .struct sch_sWriteTxnMarkersResponseMarkerTopicPartition) (.slice oa1 (sch_sWriteTxnMarkersResponseMarkerTopicPartition).length cap1)] rfl (by simp only [List.map_toArray, List.map_cons, List.map_nil, evb, kb, hN, seval]; rfl) (by simp only [List.length_cons, List.length_nil]; omega) hq (.cons (zaO (.mk .text 0 (-1) (-1) (-1) 0 .bool []) (schS_nil _ _ _ _)) (.cons (zaO (.mk .list 0 (-1) (-1) (-1) 0 .struct sch_sWriteTxnMarkersResponseMarkerTopicPartition) hs1) (.nil))) ?_
  rintro v wF hcF hkF hsF rfl
  refine zam ?_
  simp only [evb, kb, hN, seval]
  refine zac ?_; refine hK _ _ ?_; clear hK K
  refine wp_ret ⟨by simp [zae, hD], ?_⟩; simp only [evb, kb, hN, seval]
  exact ⟨hsF, hcF⟩
theorem lay_sWriteTxnMarkersResponseMarker : LaysS 28 sch_sWriteTxnMarkersResponseMarker := by
  intro w0
  refine zap Tryz.func28 rfl rfl Tryz.ntmps28 (by simp) ?_
  intro a hN hD ha
  refine wp_seq_k fun K hK => ?_; refine zag ?_; refine zam ?_; simp only [evb, kb, hN, seval]; refine zac ?_; refine hK _ _ ?_; clear hK K
  refine wp_seq_k fun K hK => ?_; refine zag ?_
  have hq : Chg (fun _ => False) w0 w0 := Chg.refl _ _
  refine zaY (l := zaF (.mk .i64 0 (-1) (-1) (-1) 0 .bool []) (.slice none 0 0)) (by simp only [List.map_toArray, List.map_cons, List.map_nil, evb, kb, hN, seval]; kernel_rfl) ?_
  refine zay (fun args w => Tryz.call58 args w) (by simp only [List.map_toArray, List.map_nil]; exact lay_sWriteTxnMarkersResponseMarkerTopic _) ?_
  rintro v1 w1 ⟨hs1, hk1⟩
  replace hs1 := hs1.later (Chg.refl _ _) hq.size
  replace hq := hq.trans hk1 fun _ _ h => h
  obtain ⟨oa1, cap1, rfl, _⟩ := id hs1
  refine zaY (l := zaF (.mk .list 0 (-1) (-1) (-1) 0 .struct sch_sWriteTxnMarkersResponseMarkerTopic) (.slice oa1 (sch_sWriteTxnMarkersResponseMarkerTopic).length cap1)) (by simp only [List.map_toArray, List.map_cons, List.map_nil, evb, kb, hN, seval]; kernel_rfl) ?_
  refine wl_fields sch_sWriteTxnMarkersResponseMarker [zaF (.mk .i64 0 (-1) (-1) (-1) 0 .bool []) (.slice none 0 0), zaF (.mk .list 0 (-1) (-1) (-1) 0 .struct sch_sWriteTxnMarkersResponseMarkerTopic) (.slice oa1 (sch_sWriteTxnMarkersResponseMarkerTopic).length cap1)] rfl (by simp only [List.map_toArray, List.map_cons, List.map_nil, evb, kb, hN, seval]; rfl) (by simp only [List.length_cons, List.length_nil]; omega) hq (.cons (zaO (.mk .i64 0 (-1) (-1) (-1) 0 .bool []) (schS_nil _ _ _ _)) (.cons (zaO (.mk .list 0 (-1) (-1) (-1) 0 .struct sch_sWriteTxnMarkersResponseMarkerTopic) hs1) (.nil))) ?_
  rintro v wF hcF hkF hsF rfl
  refine zam ?_
  simp only [evb, kb, hN, seval]
  refine zac ?_; refine hK _ _ ?_; clear hK K
  refine wp_ret ⟨by simp [zae, hD], ?_⟩; simp only [evb, kb, hN, seval]
  exact ⟨hsF, hcF⟩
theorem lay_WriteTxnMarkersResponse : LaysM 14 sch_WriteTxnMarkersResponse 1 := by
  intro w
  refine callsR_ofC Tryz.func14 rfl rfl (by kernel_rfl) Tryz.ntmps14 (by simp) ?_
  intro a hN hD ha
  refine wp_seq_k fun K hK => ?_; refine zag ?_
  refine za7 (z := zaP [.slice none 0 0, .int .i64 0]) (fun w => Tryz.zeroValue32 w) fun w0 hc0 hb0 hs0 => ?_
  refine zac ?_; refine hK _ _ ?_; clear hK K
  refine wp_seq_k fun K hK => ?_; refine zag ?_
  have hq : Chg (fun _ => False) w0 w0 := Chg.refl _ _
  refine zay (fun args w => Tryz.call28 args w) (by simp only [List.map_toArray, List.map_nil]; exact lay_sWriteTxnMarkersResponseMarker _) ?_
  rintro v1 w1 ⟨hs1, hk1⟩
  replace hs1 := hs1.later (Chg.refl _ _) hq.size
  replace hq := hq.trans hk1 fun _ _ h => h
  obtain ⟨oa1, cap1, rfl, _⟩ := id hs1
  refine zaY (l := zaF (.mk .list 0 (-1) (-1) (-1) 0 .struct sch_sWriteTxnMarkersResponseMarker) (.slice oa1 (sch_sWriteTxnMarkersResponseMarker).length cap1)) (by simp only [List.map_toArray, List.map_cons, List.map_nil, evb, kb, hN, seval]; kernel_rfl) ?_
  refine wl_fields sch_WriteTxnMarkersResponse [zaF (.mk .list 0 (-1) (-1) (-1) 0 .struct sch_sWriteTxnMarkersResponseMarker) (.slice oa1 (sch_sWriteTxnMarkersResponseMarker).length cap1)] rfl (by simp only [List.map_toArray, List.map_cons, List.map_nil, evb, kb, hN, seval]; rfl) (by simp only [List.length_cons, List.length_nil]; omega) hq (.cons (zaO (.mk .list 0 (-1) (-1) (-1) 0 .struct sch_sWriteTxnMarkersResponseMarker) hs1) (.nil)) ?_
  rintro v wF hcF hkF hsF rfl
  refine zaY (l := [.slice (some ⟨w1.heap.size, 0, none⟩) (sch_WriteTxnMarkersResponse).length (sch_WriteTxnMarkersResponse).length, .int .i64 1]) (by simp only [List.map_toArray, List.map_cons, List.map_nil, evb, kb, hN, seval]; kernel_rfl) ?_
  have hbF := hb0.chg hcF (fun h => h)
  refine za5 (b := w.heap.size) (n := 2) (l' := [.slice (some ⟨w1.heap.size, 0, none⟩) (sch_WriteTxnMarkersResponse).length (sch_WriteTxnMarkersResponse).length, .int .i64 1]) (by kernel_rfl) (by simp [evb, kb, hN, sdb]) (by simp [evb, kb, hN, sdb]) hbF rfl (by intro y hy; simp only [List.mem_cons, List.not_mem_nil, or_false] at hy; rcases hy with rfl | rfl <;> rfl) rfl fun wE hbE hcE => ?_
  refine zac ?_; refine hK _ _ ?_; clear hK K
  refine wp_ret ⟨by simp [zae, hD], w.heap.size, _, _, by simp only [evb, kb, hN, seval], hbE, by kernel_rfl, ⟨_, rfl, SchS.stay ⟨fun k hk hg => ⟨hcE.block k hk (by omega), by omega⟩⟩ hsF, ?_⟩⟩
  exact (hc0.trans hcF fun _ _ h => h).trans hcE fun k hk h => by omega
theorem new_WriteTxnMarkersResponse : NewsPtr 26 dd_WriteTxnMarkersResponse :=
  newptr_of dd_WriteTxnMarkersResponse dd_WriteTxnMarkersResponse Tryz.func26 rfl rfl Tryz.ntmps26 (by kernel_rfl) (fun w => Tryz.zeroValue85 w) (fun args w => Tryz.call57 args w) defm_WriteTxnMarkersResponse
theorem max_WriteTxnMarkersResponse : MaxIs 13 2 := by
  intro w
  refine zap Tryz.func13 rfl rfl Tryz.ntmps13 (by simp) ?_
  intro a hN hD ha
  refine wp_seq_k fun K hK => ?_; refine zag ?_; refine zam ?_; refine zac ?_; refine hK _ _ ?_; clear hK K
  refine wp_seq_k fun K hK => ?_; refine zag ?_
  refine zay (fun args w => Tryz.call26 args w) (by simp only [List.map_toArray, List.map_nil]; exact new_WriteTxnMarkersResponse w) ?_
  rintro v w1 ⟨rfl, hc, _⟩
  refine zay (fun args w => Tryz.call27 args w) (by simp only [List.map_toArray, List.map_cons, List.map_nil]; simp only [evb, kb, hN, seval]; exact maxver_of Tryz.func27 rfl rfl Tryz.ntmps27 (by kernel_rfl) _ w1) ?_
  rintro _ w2 ⟨rfl, rfl⟩
  (repeat (first | ((with_reducible refine zaz ?_ ?_ ?_ ?_); (· exact rfl); (· simp [evb, kb, hN, dyb, sdb] <;> omega); (· kernel_rfl); try simp only [evb, kb, hN, seval, pvb]) | ((with_reducible refine zak ?_ ?_ ?_); rotate_left 1; (· simp [evb, kb, hN, sdb]); rotate_left 1; (· kernel_rfl); try simp only [evb, kb, hN, seval, pvb])))
  refine zac ?_; refine hK _ _ ?_; clear hK K; refine wp_ret ⟨by simp [zae, hD], ?_⟩; simp only [evb, kb, hN, seval]
  exact ⟨by first | rfl | trivial, hc⟩
theorem setv_WriteTxnMarkersResponse : SetsVersion 29 := setver_of Tryz.func29 rfl rfl Tryz.ntmps29 (by kernel_rfl)
theorem from_WriteTxnMarkersResponse : ReadsFrom 30 59 := fun h => readfrom_c Tryz.func30 rfl rfl Tryz.ntmps30 (fun args w => Tryz.call59 args w) h
theorem ag_WriteTxnMarkersResponse : AgC 15 (fun ver => decide (1 ≤ ver)) 2 sch_WriteTxnMarkersResponse := fun ver h0 h1 w G oa bs cap hsrc hlim herr hout =>
  again_of Tryz.func15 rfl rfl Tryz.ntmps15 (fun args w => Tryz.call26 args w) (fun args w => Tryz.call29 args w) (fun args w => Tryz.call30 args w) (fun args w => Tryz.call31 args w) new_WriteTxnMarkersResponse setv_WriteTxnMarkersResponse from_WriteTxnMarkersResponse read_WriteTxnMarkersResponse app_WriteTxnMarkersResponse h0 (by omega) hsrc hlim herr hout
theorem ok_WriteTxnMarkersResponse : SchOK (fun ver => decide (1 ≤ ver)) 2 sch_WriteTxnMarkersResponse := schB_out (by kernel_rfl)
theorem walk_FnCutWriteTxnMarkersResponse {a b : Int} (hn : 0 ≤ a) (hn2 : a < 256) {w : World} {G : Nat → Prop} {v : Tr} {ts : List Value} (hv : TrC w G v ts) (hkv : keyV v) (hb : za3 v ≤ 1048576) (hb0 : 0 ≤ b) (hb1 : b < 65536) (herr : ErrW w) :
    zaG Tryz.prog 4 #[.int .u8 a, zaP ts, .int .u16 b] w fun v w' => v = .bool true ∧ Chg (fun _ => False) w w' :=
  lawCut_of Tryz.func4 rfl rfl (by kernel_rfl) rfl (by kernel_rfl) rfl Tryz.ntmps4 (fun args w => Tryz.call13 args w) (fun args w => Tryz.call14 args w) (fun args w => Tryz.call15 args w) max_WriteTxnMarkersResponse lay_WriteTxnMarkersResponse ag_WriteTxnMarkersResponse (by decide) (fun ver _ => by simp) ok_WriteTxnMarkersResponse hn hn2 hv hkv hb hb0 hb1 herr
end Go.Proofs.YtjkdpaefamnhhaaGreatDoor
namespace Go.Proofs.YtjkdpaefamnhhaaGreatDoor
set_option linter.all false
namespace fnCutWriteTxnMarkersResponse
open Go.ChangeShapes Go.WideShapes Go.ChangeAt Go.RowKit
set_option maxRecDepth 100000
set_option maxHeartbeats 1000000
theorem laid_met (os : Os) : laidMet Tryz.prog Rows.fnCutWriteTxnMarkersResponseUptoRow.laid ((laidWorld os).forCall (fun _ _ => 0) ⟨#[], #[.int .u8 0, .agg #[.int .i64 0, .slice none 0 0, .bool false, .slice none 0 0, .slice none 0 0], .int .u16 0], []⟩).memory :=
  laidMet_of_run' 8 (by kernel_rfl) (by kernel_rfl)
theorem witness_row (os : Os) {H : Type} (enc : TypeId × Value → H) :
    (Rows.OpenSpec.upto Rows.fnCutWriteTxnMarkersResponseSpec).preRow enc Tryz.prog Tryz.f4 Rows.fnCutWriteTxnMarkersResponseUptoRow.domain false Rows.fnCutWriteTxnMarkersResponseUptoRow.laid ((laidWorld os).forCall (fun _ _ => 0) ⟨#[], #[.int .u8 0, .agg #[.int .i64 0, .slice none 0 0, .bool false, .slice none 0 0, .slice none 0 0], .int .u16 0], []⟩).memory #[.int .u8 0, .agg #[.int .i64 0, .slice none 0 0, .bool false, .slice none 0 0, .slice none 0 0], .int .u16 0] := by
  have hw : (DataW.whole enc Tryz.prog ((laidWorld os).forCall (fun _ _ => 0) ⟨#[], #[.int .u8 0, .agg #[.int .i64 0, .slice none 0 0, .bool false, .slice none 0 0, .slice none 0 0], .int .u16 0], []⟩).memory Tryz.f4.params.toList Rows.fnCutWriteTxnMarkersResponseSpec.vars false (#[.int .u8 0, .agg #[.int .i64 0, .slice none 0 0, .bool false, .slice none 0 0, .slice none 0 0], .int .u16 0] : Array Value).toList 8).map (fun x => (decide (Rows.uptoBulkAll (x.1 ++ x.2.1) ≤ 1048576))) = some true := by kernel_rfl
  obtain ⟨⟨x1, x2, x3⟩, hx, hx1⟩ := Option.map_eq_some_iff.1 hw
  exact OpenSpec.preRow_of_cond 8 hx (by kernel_rfl) (fun k hk => by cases hk; exact hx1) (by kernel_rfl) (laid_met os)
theorem lifted (os : Os) (started : os.Started) (H : Type) (enc : TypeId × Value → H) (F : Stop.Interp) :
    ReturnsInHanded {} Tryz.checked os 4 .any ((Rows.OpenSpec.upto Rows.fnCutWriteTxnMarkersResponseSpec).preRow enc Tryz.prog Tryz.f4 Rows.fnCutWriteTxnMarkersResponseUptoRow.domain false Rows.fnCutWriteTxnMarkersResponseUptoRow.laid) (((Rows.OpenSpec.upto Rows.fnCutWriteTxnMarkersResponseSpec).at F).post enc Tryz.prog Tryz.f4 false true false false) := by
  refine returnsInHanded_of_row (C := Tryz.checked) (s := Rows.OpenSpec.upto Rows.fnCutWriteTxnMarkersResponseSpec) own started (by kernel_rfl) Tryz.func4
    (witness_row_atRef (enc := enc) (C := Tryz.checked) false (laidWorld os) #[.int .u8 0, .agg #[.int .i64 0, .slice none 0 0, .bool false, .slice none 0 0, .slice none 0 0], .int .u16 0] rfl (by kernel_rfl) (by kernel_rfl) (by kernel_rfl) (witness_row os enc)) ?_
  intro W base args ds gs before hval0 hW _ hcond _ hL _ _
  have hval : ∀ (j : Nat) t v, Tryz.f4.params[j]? = some t → args[j]? = some v → Value.okWide Tryz.prog W .any base t v := hval0
  have hW' := hW
  obtain ⟨p, q, hA0, hV, rfl, hfz, hnd⟩ := hW
  have hA : DataW.TrodAll enc Tryz.prog W 0 (fun _ => true) true Tryz.f4.params.toList args.toList ds p := hA0
  rw [Tryz.params4] at hA hval
  obtain ⟨v0, vs0, d0, ds0, p0, q0, hargs, rfl, rfl, h0, r0⟩ := trodAll_cons hA
  obtain ⟨v1, vs1, d1, ds1, p1, q1, rfl, rfl, rfl, h1, r1⟩ := trodAll_cons r0
  obtain ⟨v2, vs2, d2, ds2, p2, q2, rfl, rfl, rfl, h2, r2⟩ := trodAll_cons r1
  obtain ⟨rfl, rfl, rfl⟩ := trodAll_nil r2
  obtain rfl : args = #[v0, v1, v2] := by cases args; simp_all
  obtain ⟨rfl, rfl⟩ := trodVars_none hV
  simp only [List.append_nil] at hW' hcond
  have hbulk := hcond _ rfl
  replace hbulk := of_decide_eq_true hbulk
  simp only [Rows.uptoBulkAll] at hbulk
  have hlt : ∀ x ∈ _, MemPlace.block x < W.heap.size := fun x hx => hW'.lt x hx
  obtain ⟨a0, rfl, rfl, rfl, x0⟩ := open_int Tryz.underlying5 (hval 0 5 v0 rfl rfl) h0
  have y0 : 0 ≤ a0 ∧ a0 < 256 := by have h := x0; simp only [Lit.wf, IntKind.min, IntKind.max, IntKind.signed, IntKind.bits, Bool.and_eq_true, decide_eq_true_eq] at h; simp at h; omega
  obtain ⟨ts, T, rfl, hT, hkey, hbT⟩ := tree_arg (hval 1 26 v1 rfl rfl) h1 (by omega)
  obtain ⟨a2, rfl, rfl, rfl, x2⟩ := open_int Tryz.underlying39 (hval 2 39 v2 rfl rfl) h2
  have y2 : 0 ≤ a2 ∧ a2 < 65536 := by have h := x2; simp only [Lit.wf, IntKind.min, IntKind.max, IntKind.signed, IntKind.bits, Bool.and_eq_true, decide_eq_true_eq] at h; simp at h; omega
  clear hA0 hval0
  refine Calls.mono (walk_FnCutWriteTxnMarkersResponse y0.1 y0.2 hT hkey hbT y2.1 y2.2 (errW_of hL)) fun e W' ⟨v, he, hv, hc⟩ => ?_
  subst he
  subst hv
  exact ⟨_, rfl, _, _, _, [], _, [], hW', trodAll_cons_mk (shut_bool Tryz.underlying4 _) trodAll_mk0, trodAll_cons_mk (shut_int Tryz.underlying5 x0) (trodAll_cons_mk (tree_same h1 hc (fun x hx => hlt x (by simp [hx]))) (trodAll_cons_mk (shut_int Tryz.underlying39 x2) (trodAll_mk0))), rfl, (below_of hc).frame _, fun h => by cases h⟩
theorem c2 : (Rows.fnCutWriteTxnMarkersResponseUptoRow.inPlace == Tryz.prog.inPlace 4) = true := by kernel_rfl
theorem c3 : (Rows.fnCutWriteTxnMarkersResponseUptoRow.unfollowed == Tryz.prog.unfollowed 4) = true := by kernel_rfl
theorem c4 : (Rows.fnCutWriteTxnMarkersResponseUptoRow.recurses == Tryz.prog.recurses 4) = true := by kernel_rfl
theorem c5 : (Rows.fnCutWriteTxnMarkersResponseUptoRow.named == Tryz.prog.varsNamed 4) = true := by kernel_rfl
theorem c7 : (Rows.fnCutWriteTxnMarkersResponseUptoRow.lifted == Tryz.prog.liftsFinal) = true := by
  have h : Rows.fnCutWriteTxnMarkersResponseUptoRow.lifted = Facts.lifted := rfl
  rw [h]; exact Facts.c7
theorem c8 : (Tryz.prog.make == some Rows.fnCutWriteTxnMarkersResponseUptoRow.make) = true := by
  have h : Rows.fnCutWriteTxnMarkersResponseUptoRow.make = Facts.make := rfl
  rw [h]; exact Facts.c8
theorem c9 : (Rows.fnCutWriteTxnMarkersResponseUptoRow.plainKeys == Tryz.prog.plainKeys) = true := by
  have h : Rows.fnCutWriteTxnMarkersResponseUptoRow.plainKeys = Facts.plainKeys := rfl
  rw [h]; exact Facts.c9
theorem c11 : Tryz.prog.funcNamed Rows.fnCutWriteTxnMarkersResponseUptoRow.func = some 4 := by kernel_rfl
theorem closed : joinedFacts Tryz.prog 4 Tryz.f4 (Rows.OpenSpec.upto Rows.fnCutWriteTxnMarkersResponseSpec).bare Rows.fnCutWriteTxnMarkersResponseUptoRow = true := by
  unfold joinedFacts
  simp only [Bool.and_eq_true]
  repeat' (refine And.intro ?_ ?_)
  all_goals first | with_reducible exact Facts.c1 | with_reducible exact Facts.c0 | with_reducible exact c2 | with_reducible exact c3 | with_reducible exact c4 | with_reducible exact c5 | with_reducible exact Facts.c6 | with_reducible exact c7 | with_reducible exact c8 | with_reducible exact c9 | with_reducible exact Facts.c10 | kernel_rfl
theorem over : Rows.FnCutWriteTxnMarkersResponseUptoSaid :=
  OpenClaim.holds_of_cond 4 Tryz.f4 rfl rfl rfl rfl rfl rfl rfl ⟨rfl, rfl, rfl, rfl, rfl⟩ rfl rfl rfl rfl rfl c11 Tryz.func4 closed
    (of_decide_eq_true (by kernel_rfl)) (by unfold Func.isWrapper; first | (rw [if_pos (by decide +kernel)]; kernel_rfl) | (rw [if_neg (by decide +kernel)]; exact ⟨rfl, rfl⟩))
    (fun os started H enc _ F => by rw [OpenClaim.pre_eq_preRow]; exact lifted os started H enc F)
theorem plain (f : FuncId) (fn : Func) (hf : Tryz.pinned.checked.prog.funcNamed "pub-kmsg/laws.FnCutWriteTxnMarkersResponse" = some f) (hfn : Tryz.pinned.checked.prog.funcs[f]? = some fn) :
    false = Tryz.pinned.checked.prog.looks [] ∧ ∀ (j : Nat) t, fn.params[j]? = some t → Tryz.pinned.checked.prog.wantsStandIn t = false := by
  obtain rfl : f = 4 := Option.some.inj ((show Tryz.prog.funcNamed "pub-kmsg/laws.FnCutWriteTxnMarkersResponse" = some 4 by kernel_rfl).symm.trans hf) |>.symm
  obtain rfl : fn = Tryz.f4 := (Option.some.inj (Tryz.func4.symm.trans hfn)).symm
  refine ⟨by kernel_rfl, fun j t ht => ?_⟩
  rw [Tryz.params4] at ht
  have hw0 : Tryz.prog.wantsStandIn 5 = false := by kernel_rfl
  have hw1 : Tryz.prog.wantsStandIn 26 = false := by kernel_rfl
  have hw2 : Tryz.prog.wantsStandIn 39 = false := by kernel_rfl
  have hm := Array.mem_of_getElem? ht
  simp only [List.mem_toArray, List.mem_cons, List.not_mem_nil, or_false] at hm
  rcases hm with rfl | rfl | rfl <;> assumption
end fnCutWriteTxnMarkersResponse
theorem fnCutWriteTxnMarkersResponse_holds : Rows.FnCutWriteTxnMarkersResponseUptoCardSaid :=
  Claim7.holds_tied_plain_at .later [] _ _ _ _ fnCutWriteTxnMarkersResponse.over (fun _ h => by cases h) (by kernel_rfl) (fun _ h => by cases h) fnCutWriteTxnMarkersResponseUpto_row_tie rfl ⟨rfl, rfl⟩ (by kernel_rfl) rfl fnCutWriteTxnMarkersResponse.plain (by kernel_rfl)
#print axioms fnCutWriteTxnMarkersResponse_holds
end Go.Proofs.YtjkdpaefamnhhaaGreatDoor

/-
What a ShareGroupDescribeResponse says, written by the rules of the protocol, is read, and written back byte by byte: for every input of bulk at most 1048576 the law returns true. Conditions: the listed variable holds what the text lays (tied by the card).
-/
import Derived.Test.YtkodgaelpllhgabGreatDoorRZE
import Derived.Test.YtkodgaelpllhgabGreatDoorRZW
import Derived.Test.YtkodgaelpllhgabGreatDoorRZN
import Derived.Test.YtkodgaelpllhgabGreatDoorRZF
import Derived.Test.YtkodgaelpllhgabGreatDoorRZP
namespace Go.Proofs.YtkodgaelpllhgabGreatDoorR
set_option linter.all false
open Go.RowKit
set_option maxRecDepth 100000
set_option maxHeartbeats 2000000
def sch_sShareGroupDescribeResponseGroupMemberAssignmentTopicPartition : List Fld := [.mk .uuid 0 (-1) (-1) (-1) 0 .bool [], .mk .text 0 (-1) (-1) (-1) 0 .bool [], .mk .list 0 (-1) (-1) (-1) 0 .i32 []]
def sch_sShareGroupDescribeResponseGroupMemberAssignment : List Fld := [.mk .list 0 (-1) (-1) (-1) 0 .struct sch_sShareGroupDescribeResponseGroupMemberAssignmentTopicPartition]
def sch_sShareGroupDescribeResponseGroupMember : List Fld := [.mk .text 0 (-1) (-1) (-1) 0 .bool [], .mk .text 0 (-1) 0 (-1) 0 .bool [], .mk .i32 0 (-1) (-1) (-1) 0 .bool [], .mk .text 0 (-1) (-1) (-1) 0 .bool [], .mk .text 0 (-1) (-1) (-1) 0 .bool [], .mk .list 0 (-1) (-1) (-1) 0 .text [], .mk .struct 0 (-1) (-1) (-1) 0 .bool sch_sShareGroupDescribeResponseGroupMemberAssignment]
def sch_sShareGroupDescribeResponseGroup : List Fld := [.mk .i16 0 (-1) (-1) (-1) 0 .bool [], .mk .text 0 (-1) 0 (-1) 0 .bool [], .mk .text 0 (-1) (-1) (-1) 0 .bool [], .mk .text 0 (-1) (-1) (-1) 0 .bool [], .mk .i32 0 (-1) (-1) (-1) 0 .bool [], .mk .i32 0 (-1) (-1) (-1) 0 .bool [], .mk .text 0 (-1) (-1) (-1) 0 .bool [], .mk .list 0 (-1) (-1) (-1) 0 .struct sch_sShareGroupDescribeResponseGroupMember, .mk .i32 0 (-1) (-1) (-1) (-2147483648) .bool []]
def sch_ShareGroupDescribeResponse : List Fld := [.mk .i32 0 (-1) (-1) (-1) 0 .bool [], .mk .list 0 (-1) (-1) (-1) 0 .struct sch_sShareGroupDescribeResponseGroup]
theorem elz_k_TextShareGroupDescribeResponse : ∀ e, (Tryz.prog).underlying 104 = some (.slice e) → zeroB Tryz.prog e (.string ⟨#[]⟩) := by
  intro e he
  have h : (Tryz.prog).underlying 104 = some (.slice 9) := by kernel_rfl
  rw [h] at he; cases he
  exact fun w => Tryz.zeroValue9 w
theorem elz_k_Int32ShareGroupDescribeResponse : ∀ e, (Tryz.prog).underlying 88 = some (.slice e) → zeroB Tryz.prog e (.int .i32 0) := by
  intro e he
  have h : (Tryz.prog).underlying 88 = some (.slice 21) := by kernel_rfl
  rw [h] at he; cases he
  exact fun w => Tryz.zeroValue21 w
def zz_sShareGroupDescribeResponseGroupMemberAssignmentTopicPartition : List Value := [.int .u8 0, .int .u8 0, .int .u8 0, .int .u8 0, .int .u8 0, .int .u8 0, .int .u8 0, .int .u8 0, .int .u8 0, .int .u8 0, .int .u8 0, .int .u8 0, .int .u8 0, .int .u8 0, .int .u8 0, .int .u8 0, .string ⟨#[]⟩, .slice none 0 0, .map none]
def dd_sShareGroupDescribeResponseGroupMemberAssignmentTopicPartition : List Value := [.int .u8 0, .int .u8 0, .int .u8 0, .int .u8 0, .int .u8 0, .int .u8 0, .int .u8 0, .int .u8 0, .int .u8 0, .int .u8 0, .int .u8 0, .int .u8 0, .int .u8 0, .int .u8 0, .int .u8 0, .int .u8 0, .string ⟨#[]⟩, .slice none 0 0, .map none]
theorem elz_sShareGroupDescribeResponseGroupMemberAssignmentTopicPartition : ∀ e, (Tryz.prog).underlying 105 = some (.slice e) → zeroB Tryz.prog e (zaS zz_sShareGroupDescribeResponseGroupMemberAssignmentTopicPartition) := by
  intro e he
  have h : (Tryz.prog).underlying 105 = some (.slice 113) := by kernel_rfl
  rw [h] at he; cases he
  exact fun w => Tryz.zeroValue113 w
theorem eln_sShareGroupDescribeResponseGroupMemberAssignmentTopicPartition : zaY Tryz.prog 96 := (fun args w => Tryz.call96 args w)
theorem eld_sShareGroupDescribeResponseGroupMemberAssignmentTopicPartition : DefC 96 (zaS zz_sShareGroupDescribeResponseGroupMemberAssignmentTopicPartition).cells.toList dd_sShareGroupDescribeResponseGroupMemberAssignmentTopicPartition := by
  intro w b off cs T hb hlen hseg
  refine callsR_of0 Tryz.func96 rfl rfl Tryz.ntmps96 (by simp) ?_
  intro a hN hD ha
  refine wp_skip ⟨hD, ?_, Chg.refl _ _⟩
  have e : zaA cs off dd_sShareGroupDescribeResponseGroupMemberAssignmentTopicPartition = cs := splice_same hseg hlen
  rw [e]; exact hb
theorem eln_sShareGroupDescribeResponseGroupMemberAssignment : zaY Tryz.prog 95 := (fun args w => Tryz.call95 args w)
theorem defi_sShareGroupDescribeResponseGroupMemberAssignment : DefI true 95 sch_sShareGroupDescribeResponseGroupMemberAssignment := by
  refine defI_of fun zc => ?_
  intro w b off cs T hb hlen hseg
  refine callsR_of0 Tryz.func95 rfl rfl Tryz.ntmps95 (by simp) ?_
  intro a hN hD ha
  refine wp_skip ⟨hD, ?_, Chg.refl _ _⟩
  have e : zaA cs off zc = cs := splice_same hseg hlen
  rw [e]; exact hb
def zz_sShareGroupDescribeResponseGroupMember : List Value := [.string ⟨#[]⟩, .pointer none, .int .i32 0, .string ⟨#[]⟩, .string ⟨#[]⟩, .slice none 0 0, .slice none 0 0, .map none, .map none]
def dd_sShareGroupDescribeResponseGroupMember : List Value := [.string ⟨#[]⟩, .pointer none, .int .i32 0, .string ⟨#[]⟩, .string ⟨#[]⟩, .slice none 0 0, .slice none 0 0, .map none, .map none]
theorem elz_sShareGroupDescribeResponseGroupMember : ∀ e, (Tryz.prog).underlying 100 = some (.slice e) → zeroB Tryz.prog e (zaS zz_sShareGroupDescribeResponseGroupMember) := by
  intro e he
  have h : (Tryz.prog).underlying 100 = some (.slice 109) := by kernel_rfl
  rw [h] at he; cases he
  exact fun w => Tryz.zeroValue109 w
theorem eln_sShareGroupDescribeResponseGroupMember : zaY Tryz.prog 94 := (fun args w => Tryz.call94 args w)
theorem eld_sShareGroupDescribeResponseGroupMember : DefC 94 (zaS zz_sShareGroupDescribeResponseGroupMember).cells.toList dd_sShareGroupDescribeResponseGroupMember := by
  intro w b off cs T hb hlen hseg
  refine callsR_of0 Tryz.func94 rfl rfl Tryz.ntmps94 (by simp) ?_
  intro a hN hD ha
  have h0 : get a 0 = .pointer (some ⟨b, off, none⟩) := ha 0 _ rfl
  have hl : off + zz_sShareGroupDescribeResponseGroupMember.length ≤ cs.length := hlen
  have e : zaA cs off zz_sShareGroupDescribeResponseGroupMember = cs := splice_same hseg hlen
  rw [← e] at hb
  refine wp_defv (k := 6) (n := 2) hN hD h0 (by kernel_rfl) fun a0 hN0 hD0 g0 => ?_
  exact ⟨hD0, hb, Chg.refl _ _⟩
def zz_sShareGroupDescribeResponseGroup : List Value := [.int .i16 0, .pointer none, .string ⟨#[]⟩, .string ⟨#[]⟩, .int .i32 0, .int .i32 0, .string ⟨#[]⟩, .slice none 0 0, .int .i32 0, .map none]
def dd_sShareGroupDescribeResponseGroup : List Value := [.int .i16 0, .pointer none, .string ⟨#[]⟩, .string ⟨#[]⟩, .int .i32 0, .int .i32 0, .string ⟨#[]⟩, .slice none 0 0, .int .i32 (-2147483648), .map none]
theorem elz_sShareGroupDescribeResponseGroup : ∀ e, (Tryz.prog).underlying 96 = some (.slice e) → zeroB Tryz.prog e (zaS zz_sShareGroupDescribeResponseGroup) := by
  intro e he
  have h : (Tryz.prog).underlying 96 = some (.slice 102) := by kernel_rfl
  rw [h] at he; cases he
  exact fun w => Tryz.zeroValue102 w
theorem eln_sShareGroupDescribeResponseGroup : zaY Tryz.prog 93 := (fun args w => Tryz.call93 args w)
theorem eld_sShareGroupDescribeResponseGroup : DefC 93 (zaS zz_sShareGroupDescribeResponseGroup).cells.toList dd_sShareGroupDescribeResponseGroup := by
  intro w b off cs T hb hlen hseg
  refine callsR_of0 Tryz.func93 rfl rfl Tryz.ntmps93 (by simp) ?_
  intro a hN hD ha
  have h0 : get a 0 = .pointer (some ⟨b, off, none⟩) := ha 0 _ rfl
  have hl : off + zz_sShareGroupDescribeResponseGroup.length ≤ cs.length := hlen
  have e : zaA cs off zz_sShareGroupDescribeResponseGroup = cs := splice_same hseg hlen
  rw [← e] at hb
  refine wp_def1 (k := 8) (v := .int .i32 (-2147483648)) hN hD h0 hb hl (by kernel_rfl) ⟨rfl, rfl⟩ fun a0 w0 hN0 hD0 g0 hb0 hc0 => ?_
  exact ⟨hD0, hb0, hc0⟩
def dd_ShareGroupDescribeResponse : List Value := [.int .i32 0, .slice none 0 0, .map none]
theorem defm_ShareGroupDescribeResponse : DefM 57 dd_ShareGroupDescribeResponse := by
  intro w B v T hb
  refine callsR_of0 Tryz.func57 rfl rfl Tryz.ntmps57 (by simp) ?_
  intro a hN hD ha
  exact wp_skip ⟨hD, hb, Chg.refl _ _⟩
theorem read_ShareGroupDescribeResponse : ReadsF 59 true (fun ver => decide (0 ≤ ver)) sch_ShareGroupDescribeResponse dd_ShareGroupDescribeResponse [.bool false] := by
  refine read_flex Tryz.func59 rfl rfl Tryz.ntmps59 (fun args w => Tryz.call57 args w) defm_ShareGroupDescribeResponse (by kernel_rfl) ?_
  intro ver hver
  (repeat' (first | (with_reducible refine rt_tagged rfl rfl ?_) | (with_reducible refine rt_next rfl (by kernel_rfl) ?_ ?_) | (with_reducible refine rt_end rfl ?_) | (with_reducible refine rt_noflex rfl ?_) | (with_reducible refine rt_fin co_en (by kernel_rfl) (by kernel_rfl)) | (with_reducible refine rt_tl (I := 1000) (by kernel_rfl) ?_ ?_) | (with_reducible refine rd_tags (by kernel_rfl) tagOK_all tg_en (by kernel_rfl) (by kernel_rfl)) | (with_reducible refine rd_tagged rfl rfl ?_) | (with_reducible refine rd_noflex rfl ?_) | (with_reducible refine rd_last rfl rfl (by kernel_rfl) ?_) | (with_reducible refine rd_next rfl (by kernel_rfl) (by kernel_rfl) ?_ ?_) | (with_reducible refine rd_end rfl ?_) | (with_reducible refine sf_all rfl (by dsimp only; omega) ?_) | ((with_reducible refine sf_from rfl (by kernel_rfl) (fun hv => ?_)); try dsimp only at hv) | ((with_reducible refine sf_range rfl (by kernel_rfl) (fun hv hv2 => ?_)); try dsimp only at hv hv2) | (with_reducible refine rf_inner rfl (by kernel_rfl) eln_sShareGroupDescribeResponseGroupMemberAssignment defi_sShareGroupDescribeResponseGroupMemberAssignment ?_ (by kernel_rfl) (by kernel_rfl) (by kernel_rfl)) | (with_reducible refine rf_list1 rfl (by kernel_rfl) elz_k_TextShareGroupDescribeResponse (by kernel_rfl) ?_ ok_en co_en ?_ (by kernel_rfl)) | (with_reducible refine rf_list1 rfl (by kernel_rfl) elz_k_Int32ShareGroupDescribeResponse (by kernel_rfl) ?_ ok_en co_en ?_ (by kernel_rfl)) | (with_reducible refine rf_list1 rfl (by kernel_rfl) elz_sShareGroupDescribeResponseGroupMemberAssignmentTopicPartition (by kernel_rfl) ?_ ok_en co_en ?_ (by kernel_rfl)) | (with_reducible refine el_struct1 (by kernel_rfl) eln_sShareGroupDescribeResponseGroupMemberAssignmentTopicPartition eld_sShareGroupDescribeResponseGroupMemberAssignmentTopicPartition (by kernel_rfl) ?_ (by kernel_rfl) (by kernel_rfl) (by kernel_rfl)) | (with_reducible refine rf_list1 rfl (by kernel_rfl) elz_sShareGroupDescribeResponseGroupMember (by kernel_rfl) ?_ ok_en co_en ?_ (by kernel_rfl)) | (with_reducible refine el_struct1 (by kernel_rfl) eln_sShareGroupDescribeResponseGroupMember eld_sShareGroupDescribeResponseGroupMember (by kernel_rfl) ?_ (by kernel_rfl) (by kernel_rfl) (by kernel_rfl)) | (with_reducible refine rf_list1 rfl (by kernel_rfl) elz_sShareGroupDescribeResponseGroup (by kernel_rfl) ?_ ok_en co_en ?_ (by kernel_rfl)) | (with_reducible refine el_struct1 (by kernel_rfl) eln_sShareGroupDescribeResponseGroup eld_sShareGroupDescribeResponseGroup (by kernel_rfl) ?_ (by kernel_rfl) (by kernel_rfl) (by kernel_rfl)) | (with_reducible refine rf_store ?_ rfl (by kernel_rfl) (by kernel_rfl) (by kernel_rfl)) | (with_reducible refine rf_store2 ?_ rfl (by kernel_rfl) (by kernel_rfl) (by kernel_rfl) (by kernel_rfl)) | (with_reducible refine rd_pre ?_ (by kernel_rfl)) | (with_reducible refine rv_safe ?_ (by kernel_rfl)) | (with_reducible refine rv_flex rfl (fun hx => ?_) (fun hx => ?_) (by kernel_rfl)) | (with_reducible refine rv_i16 (by kernel_rfl)) | (with_reducible refine rv_i32 (by kernel_rfl)) | (with_reducible refine rv_string rfl (by first | assumption | rfl) (by kernel_rfl)) | (with_reducible refine rv_cstring rfl (by first | assumption | rfl) (by kernel_rfl)) | (with_reducible refine rv_nstring rfl (by first | assumption | rfl) (by dsimp only; omega) (by kernel_rfl)) | (with_reducible refine rv_cnstring rfl (by first | assumption | rfl) (by dsimp only; omega) (by kernel_rfl)) | (with_reducible refine rf_uuid2 rfl (by kernel_rfl) (by kernel_rfl) (by kernel_rfl) (by kernel_rfl) (by kernel_rfl)) | (with_reducible refine rv_again ?_ (by kernel_rfl)) | (with_reducible refine rv_pre ?_ (by kernel_rfl)) | (with_reducible refine rn_plain (by first | assumption | rfl) (by kernel_rfl)) | (with_reducible refine rn_cplain (by first | assumption | rfl) (by kernel_rfl)) | (with_reducible refine rn_flex rfl (fun hx => ?_) (fun hx => ?_) (by kernel_rfl)) | (with_reducible refine el_pre ?_ (by kernel_rfl)) | (with_reducible refine el_val1 (by kernel_rfl) (rv_elem rfl ?_) (by kernel_rfl) (by kernel_rfl))))
theorem app_ShareGroupDescribeResponse : AppendsTo 29 true (fun ver => decide (0 ≤ ver)) sch_ShareGroupDescribeResponse := by
  refine app_flex Tryz.func29 rfl rfl Tryz.ntmps29 (by kernel_rfl) ?_
  intro ver s hver
  (repeat' (first | with_reducible refine wt_start ?_ | with_reducible refine wp_noflex rfl ?_ | with_reducible refine wr_start ?_ | with_reducible refine wt_tagged rfl rfl ?_ | (with_reducible refine wt_next rfl (by kernel_rfl) (fun d hd => ?_) ?_) | (with_reducible refine wt_fin rfl rfl ?_) | (with_reducible refine wt_end rfl (by kernel_rfl) ?_ ?_) | (with_reducible refine wt_ret (by kernel_rfl)) | with_reducible refine wr_tagged rfl rfl ?_ | (with_reducible refine wr_last rfl rfl (fun d hd => ?_)) | (with_reducible refine wr_next rfl (by kernel_rfl) (fun d hd => ?_) ?_) | (with_reducible refine wr_end rfl ?_) | (with_reducible refine wr_tail rfl (by kernel_rfl) k_uint32 (by kernel_rfl)) | (with_reducible refine wf_all rfl (by dsimp only; omega) ?_) | ((with_reducible refine wf_from rfl (by kernel_rfl) (fun hv => ?_)); try dsimp only at hv) | ((with_reducible refine wf_range rfl (by kernel_rfl) (fun hv hv2 => ?_)); try dsimp only at hv hv2) | (with_reducible refine wf_load rfl hd (by kernel_rfl) (by kernel_rfl) rfl ?_) | (with_reducible refine wf_uuid rfl hd (by kernel_rfl) uuidZero (by kernel_rfl)) | (with_reducible refine wf_inner rfl hd (by kernel_rfl) (by kernel_rfl) rfl (fun s => ?_)) | (with_reducible refine wv_i16 (by kernel_rfl)) | (with_reducible refine wv_i32 (by kernel_rfl)) | (with_reducible refine wv_flexS rfl (by kernel_rfl) (fun hx => ?_) (fun hx => ?_)) | (with_reducible refine wv_string rfl (by first | assumption | rfl) (by kernel_rfl)) | (with_reducible refine wv_cstring rfl (by first | assumption | rfl) (by kernel_rfl)) | (with_reducible refine wv_nstring rfl (by dsimp only; omega) (by first | assumption | rfl) (by kernel_rfl)) | (with_reducible refine wv_cnstring rfl (by dsimp only; omega) (by first | assumption | rfl) (by kernel_rfl)) | ((with_reducible refine wv_otext rfl (by kernel_rfl) (by kernel_rfl) (by kernel_rfl) (by kernel_rfl) rfl (fun l => ?_) (fun hv => ?_)); (try dsimp only at hv)) | (with_reducible refine wv_listS (fun oa n cap M => ?_) (by kernel_rfl) (by kernel_rfl) (by kernel_rfl) (by kernel_rfl) (fun s => ?_)) | (with_reducible refine wv_listK (fun oa n cap M => ?_) (by kernel_rfl) (by kernel_rfl) (by kernel_rfl) (by kernel_rfl) (fun d => ?_)) | (with_reducible refine wn_flex rfl (by kernel_rfl) (fun hx => ?_) (fun hx => ?_)) | (with_reducible refine wn_plain (by dsimp only; omega) (by first | assumption | rfl) (by kernel_rfl) (by kernel_rfl)) | (with_reducible refine wn_cplain (by dsimp only; omega) (by first | assumption | rfl) (by kernel_rfl) (by kernel_rfl)) | (with_reducible refine wv_again (by kernel_rfl) rfl ?_)))
end Go.Proofs.YtkodgaelpllhgabGreatDoorR
namespace Go.Proofs.YtkodgaelpllhgabGreatDoorR
set_option linter.all false
open Go.RowKit
set_option maxRecDepth 100000
set_option maxHeartbeats 2000000
theorem lay_sShareGroupDescribeResponseGroupMemberAssignmentTopicPartition : LaysS 106 sch_sShareGroupDescribeResponseGroupMemberAssignmentTopicPartition := by
  intro w0
  refine zar Tryz.func106 rfl rfl Tryz.ntmps106 (by simp) ?_
  intro a hN hD ha
  refine wp_seq_k fun K hK => ?_; refine zah ?_; refine zam ?_; simp only [evb, kb, hN, seval]; refine zae ?_; refine hK _ _ ?_; clear hK K
  refine wp_seq_k fun K hK => ?_; refine zah ?_
  have hq : Chg (fun _ => False) w0 w0 := Chg.refl _ _
  refine za5 (l := zaI (.mk .uuid 0 (-1) (-1) (-1) 0 .bool []) (.slice none 0 0)) (by simp only [List.map_toArray, List.map_cons, List.map_nil, evb, kb, hN, seval]; kernel_rfl) ?_
  refine za5 (l := zaI (.mk .text 0 (-1) (-1) (-1) 0 .bool []) (.slice none 0 0)) (by simp only [List.map_toArray, List.map_cons, List.map_nil, evb, kb, hN, seval]; kernel_rfl) ?_
  refine za5 (l := zaI (.mk .list 0 (-1) (-1) (-1) 0 .i32 []) (.slice none 0 0)) (by simp only [List.map_toArray, List.map_cons, List.map_nil, evb, kb, hN, seval]; kernel_rfl) ?_
  refine wl_fields sch_sShareGroupDescribeResponseGroupMemberAssignmentTopicPartition [zaI (.mk .uuid 0 (-1) (-1) (-1) 0 .bool []) (.slice none 0 0), zaI (.mk .text 0 (-1) (-1) (-1) 0 .bool []) (.slice none 0 0), zaI (.mk .list 0 (-1) (-1) (-1) 0 .i32 []) (.slice none 0 0)] rfl (by simp only [List.map_toArray, List.map_cons, List.map_nil, evb, kb, hN, seval]; rfl) (by simp only [List.length_cons, List.length_nil]; omega) hq (.cons (zaP (.mk .uuid 0 (-1) (-1) (-1) 0 .bool []) (schS_nil _ _ _ _)) (.cons (zaP (.mk .text 0 (-1) (-1) (-1) 0 .bool []) (schS_nil _ _ _ _)) (.cons (zaP (.mk .list 0 (-1) (-1) (-1) 0 .i32 []) (schS_nil _ _ _ _)) (.nil)))) ?_
  rintro v wF hcF hkF hsF rfl
  refine zam ?_
  simp only [evb, kb, hN, seval]
  refine zae ?_; refine hK _ _ ?_; clear hK K
  refine wp_ret ⟨by simp [zag, hD], ?_⟩; simp only [evb, kb, hN, seval]
  exact ⟨hsF, hcF⟩
theorem lay_sShareGroupDescribeResponseGroupMemberAssignment : LaysS 92 sch_sShareGroupDescribeResponseGroupMemberAssignment := by
  intro w0
  refine zar Tryz.func92 rfl rfl Tryz.ntmps92 (by simp) ?_
  intro a hN hD ha
  refine wp_seq_k fun K hK => ?_; refine zah ?_; refine zam ?_; simp only [evb, kb, hN, seval]; refine zae ?_; refine hK _ _ ?_; clear hK K
  refine wp_seq_k fun K hK => ?_; refine zah ?_
  have hq : Chg (fun _ => False) w0 w0 := Chg.refl _ _
  refine zaB (fun args w => Tryz.call106 args w) (by simp only [List.map_toArray, List.map_nil]; exact lay_sShareGroupDescribeResponseGroupMemberAssignmentTopicPartition _) ?_
  rintro v1 w1 ⟨hs1, hk1⟩
  replace hs1 := hs1.later (Chg.refl _ _) hq.size
  replace hq := hq.trans hk1 fun _ _ h => h
  obtain ⟨oa1, cap1, rfl, _⟩ := id hs1
  refine za5 (l := zaI (.mk .list 0 (-1) (-1) (-1) 0 .struct sch_sShareGroupDescribeResponseGroupMemberAssignmentTopicPartition) (.slice oa1 (sch_sShareGroupDescribeResponseGroupMemberAssignmentTopicPartition).length cap1)) (by simp only [List.map_toArray, List.map_cons, List.map_nil, evb, kb, hN, seval]; kernel_rfl) ?_
  refine wl_fields sch_sShareGroupDescribeResponseGroupMemberAssignment [zaI (.mk .list 0 (-1) (-1) (-1) 0 .struct sch_sShareGroupDescribeResponseGroupMemberAssignmentTopicPartition) (.slice oa1 (sch_sShareGroupDescribeResponseGroupMemberAssignmentTopicPartition).length cap1)] rfl (by simp only [List.map_toArray, List.map_cons, List.map_nil, evb, kb, hN, seval]; rfl) (by simp only [List.length_cons, List.length_nil]; omega) hq (.cons (zaP (.mk .list 0 (-1) (-1) (-1) 0 .struct sch_sShareGroupDescribeResponseGroupMemberAssignmentTopicPartition) hs1) (.nil)) ?_
  rintro v wF hcF hkF hsF rfl
  refine zam ?_
  simp only [evb, kb, hN, seval]
  refine zae ?_; refine hK _ _ ?_; clear hK K
  refine wp_ret ⟨by simp [zag, hD], ?_⟩; simp only [evb, kb, hN, seval]
  exact ⟨hsF, hcF⟩
theorem lay_sShareGroupDescribeResponseGroupMember : LaysS 58 sch_sShareGroupDescribeResponseGroupMember := by
  intro w0
  refine zar Tryz.func58 rfl rfl Tryz.ntmps58 (by simp) ?_
  intro a hN hD ha
  refine wp_seq_k fun K hK => ?_; refine zah ?_; refine zam ?_; simp only [evb, kb, hN, seval]; refine zae ?_; refine hK _ _ ?_; clear hK K
  refine wp_seq_k fun K hK => ?_; refine zah ?_
  have hq : Chg (fun _ => False) w0 w0 := Chg.refl _ _
  refine za5 (l := zaI (.mk .text 0 (-1) (-1) (-1) 0 .bool []) (.slice none 0 0)) (by simp only [List.map_toArray, List.map_cons, List.map_nil, evb, kb, hN, seval]; kernel_rfl) ?_
  refine za5 (l := zaI (.mk .text 0 (-1) 0 (-1) 0 .bool []) (.slice none 0 0)) (by simp only [List.map_toArray, List.map_cons, List.map_nil, evb, kb, hN, seval]; kernel_rfl) ?_
  refine za5 (l := zaI (.mk .i32 0 (-1) (-1) (-1) 0 .bool []) (.slice none 0 0)) (by simp only [List.map_toArray, List.map_cons, List.map_nil, evb, kb, hN, seval]; kernel_rfl) ?_
  refine za5 (l := zaI (.mk .text 0 (-1) (-1) (-1) 0 .bool []) (.slice none 0 0)) (by simp only [List.map_toArray, List.map_cons, List.map_nil, evb, kb, hN, seval]; kernel_rfl) ?_
  refine za5 (l := zaI (.mk .text 0 (-1) (-1) (-1) 0 .bool []) (.slice none 0 0)) (by simp only [List.map_toArray, List.map_cons, List.map_nil, evb, kb, hN, seval]; kernel_rfl) ?_
  refine za5 (l := zaI (.mk .list 0 (-1) (-1) (-1) 0 .text []) (.slice none 0 0)) (by simp only [List.map_toArray, List.map_cons, List.map_nil, evb, kb, hN, seval]; kernel_rfl) ?_
  refine zaB (fun args w => Tryz.call92 args w) (by simp only [List.map_toArray, List.map_nil]; exact lay_sShareGroupDescribeResponseGroupMemberAssignment _) ?_
  rintro v1 w1 ⟨hs1, hk1⟩
  replace hs1 := hs1.later (Chg.refl _ _) hq.size
  replace hq := hq.trans hk1 fun _ _ h => h
  obtain ⟨oa1, cap1, rfl, _⟩ := id hs1
  refine za5 (l := zaI (.mk .struct 0 (-1) (-1) (-1) 0 .bool sch_sShareGroupDescribeResponseGroupMemberAssignment) (.slice oa1 (sch_sShareGroupDescribeResponseGroupMemberAssignment).length cap1)) (by simp only [List.map_toArray, List.map_cons, List.map_nil, evb, kb, hN, seval]; kernel_rfl) ?_
  refine wl_fields sch_sShareGroupDescribeResponseGroupMember [zaI (.mk .text 0 (-1) (-1) (-1) 0 .bool []) (.slice none 0 0), zaI (.mk .text 0 (-1) 0 (-1) 0 .bool []) (.slice none 0 0), zaI (.mk .i32 0 (-1) (-1) (-1) 0 .bool []) (.slice none 0 0), zaI (.mk .text 0 (-1) (-1) (-1) 0 .bool []) (.slice none 0 0), zaI (.mk .text 0 (-1) (-1) (-1) 0 .bool []) (.slice none 0 0), zaI (.mk .list 0 (-1) (-1) (-1) 0 .text []) (.slice none 0 0), zaI (.mk .struct 0 (-1) (-1) (-1) 0 .bool sch_sShareGroupDescribeResponseGroupMemberAssignment) (.slice oa1 (sch_sShareGroupDescribeResponseGroupMemberAssignment).length cap1)] rfl (by simp only [List.map_toArray, List.map_cons, List.map_nil, evb, kb, hN, seval]; rfl) (by simp only [List.length_cons, List.length_nil]; omega) hq (.cons (zaP (.mk .text 0 (-1) (-1) (-1) 0 .bool []) (schS_nil _ _ _ _)) (.cons (zaP (.mk .text 0 (-1) 0 (-1) 0 .bool []) (schS_nil _ _ _ _)) (.cons (zaP (.mk .i32 0 (-1) (-1) (-1) 0 .bool []) (schS_nil _ _ _ _)) (.cons (zaP (.mk .text 0 (-1) (-1) (-1) 0 .bool []) (schS_nil _ _ _ _)) (.cons (zaP (.mk .text 0 (-1) (-1) (-1) 0 .bool []) (schS_nil _ _ _ _)) (.cons (zaP (.mk .list 0 (-1) (-1) (-1) 0 .text []) (schS_nil _ _ _ _)) (.cons (zaP (.mk .struct 0 (-1) (-1) (-1) 0 .bool sch_sShareGroupDescribeResponseGroupMemberAssignment) hs1) (.nil)))))))) ?_
  rintro v wF hcF hkF hsF rfl
  refine zam ?_
  simp only [evb, kb, hN, seval]
  refine zae ?_; refine hK _ _ ?_; clear hK K
  refine wp_ret ⟨by simp [zag, hD], ?_⟩; simp only [evb, kb, hN, seval]
  exact ⟨hsF, hcF⟩
theorem lay_sShareGroupDescribeResponseGroup : LaysS 26 sch_sShareGroupDescribeResponseGroup := by
  intro w0
  refine zar Tryz.func26 rfl rfl Tryz.ntmps26 (by simp) ?_
  intro a hN hD ha
  refine wp_seq_k fun K hK => ?_; refine zah ?_; refine zam ?_; simp only [evb, kb, hN, seval]; refine zae ?_; refine hK _ _ ?_; clear hK K
  refine wp_seq_k fun K hK => ?_; refine zah ?_
  have hq : Chg (fun _ => False) w0 w0 := Chg.refl _ _
  refine za5 (l := zaI (.mk .i16 0 (-1) (-1) (-1) 0 .bool []) (.slice none 0 0)) (by simp only [List.map_toArray, List.map_cons, List.map_nil, evb, kb, hN, seval]; kernel_rfl) ?_
  refine za5 (l := zaI (.mk .text 0 (-1) 0 (-1) 0 .bool []) (.slice none 0 0)) (by simp only [List.map_toArray, List.map_cons, List.map_nil, evb, kb, hN, seval]; kernel_rfl) ?_
  refine za5 (l := zaI (.mk .text 0 (-1) (-1) (-1) 0 .bool []) (.slice none 0 0)) (by simp only [List.map_toArray, List.map_cons, List.map_nil, evb, kb, hN, seval]; kernel_rfl) ?_
  refine za5 (l := zaI (.mk .text 0 (-1) (-1) (-1) 0 .bool []) (.slice none 0 0)) (by simp only [List.map_toArray, List.map_cons, List.map_nil, evb, kb, hN, seval]; kernel_rfl) ?_
  refine za5 (l := zaI (.mk .i32 0 (-1) (-1) (-1) 0 .bool []) (.slice none 0 0)) (by simp only [List.map_toArray, List.map_cons, List.map_nil, evb, kb, hN, seval]; kernel_rfl) ?_
  refine za5 (l := zaI (.mk .i32 0 (-1) (-1) (-1) 0 .bool []) (.slice none 0 0)) (by simp only [List.map_toArray, List.map_cons, List.map_nil, evb, kb, hN, seval]; kernel_rfl) ?_
  refine za5 (l := zaI (.mk .text 0 (-1) (-1) (-1) 0 .bool []) (.slice none 0 0)) (by simp only [List.map_toArray, List.map_cons, List.map_nil, evb, kb, hN, seval]; kernel_rfl) ?_
  refine zaB (fun args w => Tryz.call58 args w) (by simp only [List.map_toArray, List.map_nil]; exact lay_sShareGroupDescribeResponseGroupMember _) ?_
  rintro v1 w1 ⟨hs1, hk1⟩
  replace hs1 := hs1.later (Chg.refl _ _) hq.size
  replace hq := hq.trans hk1 fun _ _ h => h
  obtain ⟨oa1, cap1, rfl, _⟩ := id hs1
  refine za5 (l := zaI (.mk .list 0 (-1) (-1) (-1) 0 .struct sch_sShareGroupDescribeResponseGroupMember) (.slice oa1 (sch_sShareGroupDescribeResponseGroupMember).length cap1)) (by simp only [List.map_toArray, List.map_cons, List.map_nil, evb, kb, hN, seval]; kernel_rfl) ?_
  refine za5 (l := zaI (.mk .i32 0 (-1) (-1) (-1) (-2147483648) .bool []) (.slice none 0 0)) (by simp only [List.map_toArray, List.map_cons, List.map_nil, evb, kb, hN, seval]; kernel_rfl) ?_
  refine wl_fields sch_sShareGroupDescribeResponseGroup [zaI (.mk .i16 0 (-1) (-1) (-1) 0 .bool []) (.slice none 0 0), zaI (.mk .text 0 (-1) 0 (-1) 0 .bool []) (.slice none 0 0), zaI (.mk .text 0 (-1) (-1) (-1) 0 .bool []) (.slice none 0 0), zaI (.mk .text 0 (-1) (-1) (-1) 0 .bool []) (.slice none 0 0), zaI (.mk .i32 0 (-1) (-1) (-1) 0 .bool []) (.slice none 0 0), zaI (.mk .i32 0 (-1) (-1) (-1) 0 .bool []) (.slice none 0 0), zaI (.mk .text 0 (-1) (-1) (-1) 0 .bool []) (.slice none 0 0), zaI (.mk .list 0 (-1) (-1) (-1) 0 .struct sch_sShareGroupDescribeResponseGroupMember) (.slice oa1 (sch_sShareGroupDescribeResponseGroupMember).length cap1), zaI (.mk .i32 0 (-1) (-1) (-1) (-2147483648) .bool []) (.slice none 0 0)] rfl (by simp only [List.map_toArray, List.map_cons, List.map_nil, evb, kb, hN, seval]; rfl) (by simp only [List.length_cons, List.length_nil]; omega) hq (.cons (zaP (.mk .i16 0 (-1) (-1) (-1) 0 .bool []) (schS_nil _ _ _ _)) (.cons (zaP (.mk .text 0 (-1) 0 (-1) 0 .bool []) (schS_nil _ _ _ _)) (.cons (zaP (.mk .text 0 (-1) (-1) (-1) 0 .bool []) (schS_nil _ _ _ _)) (.cons (zaP (.mk .text 0 (-1) (-1) (-1) 0 .bool []) (schS_nil _ _ _ _)) (.cons (zaP (.mk .i32 0 (-1) (-1) (-1) 0 .bool []) (schS_nil _ _ _ _)) (.cons (zaP (.mk .i32 0 (-1) (-1) (-1) 0 .bool []) (schS_nil _ _ _ _)) (.cons (zaP (.mk .text 0 (-1) (-1) (-1) 0 .bool []) (schS_nil _ _ _ _)) (.cons (zaP (.mk .list 0 (-1) (-1) (-1) 0 .struct sch_sShareGroupDescribeResponseGroupMember) hs1) (.cons (zaP (.mk .i32 0 (-1) (-1) (-1) (-2147483648) .bool []) (schS_nil _ _ _ _)) (.nil)))))))))) ?_
  rintro v wF hcF hkF hsF rfl
  refine zam ?_
  simp only [evb, kb, hN, seval]
  refine zae ?_; refine hK _ _ ?_; clear hK K
  refine wp_ret ⟨by simp [zag, hD], ?_⟩; simp only [evb, kb, hN, seval]
  exact ⟨hsF, hcF⟩
theorem lay_ShareGroupDescribeResponse : LaysM 13 sch_ShareGroupDescribeResponse 0 := by
  intro w
  refine callsR_ofC Tryz.func13 rfl rfl (by kernel_rfl) Tryz.ntmps13 (by simp) ?_
  intro a hN hD ha
  refine wp_seq_k fun K hK => ?_; refine zah ?_
  refine zbd (z := zaS [.slice none 0 0, .int .i64 0]) (fun w => Tryz.zeroValue32 w) fun w0 hc0 hb0 hs0 => ?_
  refine zae ?_; refine hK _ _ ?_; clear hK K
  refine wp_seq_k fun K hK => ?_; refine zah ?_
  have hq : Chg (fun _ => False) w0 w0 := Chg.refl _ _
  refine za5 (l := zaI (.mk .i32 0 (-1) (-1) (-1) 0 .bool []) (.slice none 0 0)) (by simp only [List.map_toArray, List.map_cons, List.map_nil, evb, kb, hN, seval]; kernel_rfl) ?_
  refine zaB (fun args w => Tryz.call26 args w) (by simp only [List.map_toArray, List.map_nil]; exact lay_sShareGroupDescribeResponseGroup _) ?_
  rintro v1 w1 ⟨hs1, hk1⟩
  replace hs1 := hs1.later (Chg.refl _ _) hq.size
  replace hq := hq.trans hk1 fun _ _ h => h
  obtain ⟨oa1, cap1, rfl, _⟩ := id hs1
  refine za5 (l := zaI (.mk .list 0 (-1) (-1) (-1) 0 .struct sch_sShareGroupDescribeResponseGroup) (.slice oa1 (sch_sShareGroupDescribeResponseGroup).length cap1)) (by simp only [List.map_toArray, List.map_cons, List.map_nil, evb, kb, hN, seval]; kernel_rfl) ?_
  refine wl_fields sch_ShareGroupDescribeResponse [zaI (.mk .i32 0 (-1) (-1) (-1) 0 .bool []) (.slice none 0 0), zaI (.mk .list 0 (-1) (-1) (-1) 0 .struct sch_sShareGroupDescribeResponseGroup) (.slice oa1 (sch_sShareGroupDescribeResponseGroup).length cap1)] rfl (by simp only [List.map_toArray, List.map_cons, List.map_nil, evb, kb, hN, seval]; rfl) (by simp only [List.length_cons, List.length_nil]; omega) hq (.cons (zaP (.mk .i32 0 (-1) (-1) (-1) 0 .bool []) (schS_nil _ _ _ _)) (.cons (zaP (.mk .list 0 (-1) (-1) (-1) 0 .struct sch_sShareGroupDescribeResponseGroup) hs1) (.nil))) ?_
  rintro v wF hcF hkF hsF rfl
  refine za5 (l := [.slice (some ⟨w1.heap.size, 0, none⟩) (sch_ShareGroupDescribeResponse).length (sch_ShareGroupDescribeResponse).length, .int .i64 0]) (by simp only [List.map_toArray, List.map_cons, List.map_nil, evb, kb, hN, seval]; kernel_rfl) ?_
  have hbF := hb0.chg hcF (fun h => h)
  refine zbe (b := w.heap.size) (n := 2) (l' := [.slice (some ⟨w1.heap.size, 0, none⟩) (sch_ShareGroupDescribeResponse).length (sch_ShareGroupDescribeResponse).length, .int .i64 0]) (by kernel_rfl) (by simp [evb, kb, hN, sdb]) (by simp [evb, kb, hN, sdb]) hbF rfl (by intro y hy; simp only [List.mem_cons, List.not_mem_nil, or_false] at hy; rcases hy with rfl | rfl <;> rfl) rfl fun wE hbE hcE => ?_
  refine zae ?_; refine hK _ _ ?_; clear hK K
  refine wp_ret ⟨by simp [zag, hD], w.heap.size, _, _, by simp only [evb, kb, hN, seval], hbE, by kernel_rfl, ⟨_, rfl, SchS.stay ⟨fun k hk hg => ⟨hcE.block k hk (by omega), by omega⟩⟩ hsF, ?_⟩⟩
  exact (hc0.trans hcF fun _ _ h => h).trans hcE fun k hk h => by omega
theorem new_ShareGroupDescribeResponse : NewsPtr 24 dd_ShareGroupDescribeResponse :=
  newptr_of dd_ShareGroupDescribeResponse dd_ShareGroupDescribeResponse Tryz.func24 rfl rfl Tryz.ntmps24 (by kernel_rfl) (fun w => Tryz.zeroValue98 w) (fun args w => Tryz.call57 args w) defm_ShareGroupDescribeResponse
theorem max_ShareGroupDescribeResponse : MaxIs 12 1 := by
  intro w
  refine zar Tryz.func12 rfl rfl Tryz.ntmps12 (by simp) ?_
  intro a hN hD ha
  refine wp_seq_k fun K hK => ?_; refine zah ?_; refine zam ?_; refine zae ?_; refine hK _ _ ?_; clear hK K
  refine wp_seq_k fun K hK => ?_; refine zah ?_
  refine zaB (fun args w => Tryz.call24 args w) (by simp only [List.map_toArray, List.map_nil]; exact new_ShareGroupDescribeResponse w) ?_
  rintro v w1 ⟨rfl, hc, _⟩
  refine zaB (fun args w => Tryz.call25 args w) (by simp only [List.map_toArray, List.map_cons, List.map_nil]; simp only [evb, kb, hN, seval]; exact maxver_of Tryz.func25 rfl rfl Tryz.ntmps25 (by kernel_rfl) _ w1) ?_
  rintro _ w2 ⟨rfl, rfl⟩
  (repeat (first | ((with_reducible refine zay ?_ ?_ ?_ ?_); (· exact rfl); (· simp [evb, kb, hN, dyb, sdb] <;> omega); (· kernel_rfl); try simp only [evb, kb, hN, seval, pvb]) | ((with_reducible refine zak ?_ ?_ ?_); rotate_left 1; (· simp [evb, kb, hN, sdb]); rotate_left 1; (· kernel_rfl); try simp only [evb, kb, hN, seval, pvb])))
  refine zae ?_; refine hK _ _ ?_; clear hK K; refine wp_ret ⟨by simp [zag, hD], ?_⟩; simp only [evb, kb, hN, seval]
  exact ⟨by first | rfl | trivial, hc⟩
theorem setv_ShareGroupDescribeResponse : SetsVersion 27 := setver_of Tryz.func27 rfl rfl Tryz.ntmps27 (by kernel_rfl)
theorem from_ShareGroupDescribeResponse : ReadsFrom 28 59 := fun h => readfrom_c Tryz.func28 rfl rfl Tryz.ntmps28 (fun args w => Tryz.call59 args w) h
theorem ag_ShareGroupDescribeResponse : AgC 14 (fun ver => decide (0 ≤ ver)) 1 sch_ShareGroupDescribeResponse := fun ver h0 h1 w G oa bs cap hsrc hlim herr hout =>
  again_of Tryz.func14 rfl rfl Tryz.ntmps14 (fun args w => Tryz.call24 args w) (fun args w => Tryz.call27 args w) (fun args w => Tryz.call28 args w) (fun args w => Tryz.call29 args w) new_ShareGroupDescribeResponse setv_ShareGroupDescribeResponse from_ShareGroupDescribeResponse read_ShareGroupDescribeResponse app_ShareGroupDescribeResponse h0 (by omega) hsrc hlim herr hout
theorem ok_ShareGroupDescribeResponse : SchOK (fun ver => decide (0 ≤ ver)) 1 sch_ShareGroupDescribeResponse := schB_out (by kernel_rfl)
theorem walk_FnAgainShareGroupDescribeResponse {a : Int} (hn : 0 ≤ a) (hn2 : a < 256) {w : World} {G : Nat → Prop} {v : Tr} {ts : List Value} (hv : TrC w G v ts) (hkv : keyV v) (hb : za7 v ≤ 1048576) (herr : ErrW w) :
    zaF Tryz.prog 4 #[.int .u8 a, zaS ts] w fun v w' => v = .bool true ∧ Chg (fun _ => False) w w' :=
  lawAgain_of Tryz.func4 rfl rfl (by kernel_rfl) rfl Tryz.ntmps4 (fun args w => Tryz.call12 args w) (fun args w => Tryz.call13 args w) (fun args w => Tryz.call14 args w) max_ShareGroupDescribeResponse lay_ShareGroupDescribeResponse ag_ShareGroupDescribeResponse (by decide) (fun ver _ => by simp) ok_ShareGroupDescribeResponse hn hn2 hv hkv hb herr
end Go.Proofs.YtkodgaelpllhgabGreatDoorR
namespace Go.Proofs.YtkodgaelpllhgabGreatDoorR
set_option linter.all false
namespace fnAgainShareGroupDescribeResponse
open Go.ChangeShapes Go.WideShapes Go.ChangeAt Go.RowKit
set_option maxRecDepth 100000
set_option maxHeartbeats 1000000
theorem laid_met (os : Os) : laidMet Tryz.prog Rows.fnAgainShareGroupDescribeResponseUptoRow.laid ((laidWorld os).forCall (fun _ _ => 0) ⟨#[], #[.int .u8 0, .agg #[.int .i64 0, .slice none 0 0, .bool false, .slice none 0 0, .slice none 0 0]], []⟩).memory :=
  laidMet_of_run' 8 (by kernel_rfl) (by kernel_rfl)
theorem witness_row (os : Os) {H : Type} (enc : TypeId × Value → H) :
    (Rows.OpenSpec.upto Rows.fnAgainShareGroupDescribeResponseSpec).preRow enc Tryz.prog Tryz.f4 Rows.fnAgainShareGroupDescribeResponseUptoRow.domain false Rows.fnAgainShareGroupDescribeResponseUptoRow.laid ((laidWorld os).forCall (fun _ _ => 0) ⟨#[], #[.int .u8 0, .agg #[.int .i64 0, .slice none 0 0, .bool false, .slice none 0 0, .slice none 0 0]], []⟩).memory #[.int .u8 0, .agg #[.int .i64 0, .slice none 0 0, .bool false, .slice none 0 0, .slice none 0 0]] := by
  have hw : (DataW.whole enc Tryz.prog ((laidWorld os).forCall (fun _ _ => 0) ⟨#[], #[.int .u8 0, .agg #[.int .i64 0, .slice none 0 0, .bool false, .slice none 0 0, .slice none 0 0]], []⟩).memory Tryz.f4.params.toList Rows.fnAgainShareGroupDescribeResponseSpec.vars false (#[.int .u8 0, .agg #[.int .i64 0, .slice none 0 0, .bool false, .slice none 0 0, .slice none 0 0]] : Array Value).toList 8).map (fun x => (decide (Rows.uptoBulkAll (x.1 ++ x.2.1) ≤ 1048576))) = some true := by kernel_rfl
  obtain ⟨⟨x1, x2, x3⟩, hx, hx1⟩ := Option.map_eq_some_iff.1 hw
  exact OpenSpec.preRow_of_cond 8 hx (by kernel_rfl) (fun k hk => by cases hk; exact hx1) (by kernel_rfl) (laid_met os)
theorem lifted (os : Os) (started : os.Started) (H : Type) (enc : TypeId × Value → H) (F : Stop.Interp) :
    ReturnsInHanded {} Tryz.checked os 4 .any ((Rows.OpenSpec.upto Rows.fnAgainShareGroupDescribeResponseSpec).preRow enc Tryz.prog Tryz.f4 Rows.fnAgainShareGroupDescribeResponseUptoRow.domain false Rows.fnAgainShareGroupDescribeResponseUptoRow.laid) (((Rows.OpenSpec.upto Rows.fnAgainShareGroupDescribeResponseSpec).at F).post enc Tryz.prog Tryz.f4 false true false false) := by
  refine returnsInHanded_of_row (C := Tryz.checked) (s := Rows.OpenSpec.upto Rows.fnAgainShareGroupDescribeResponseSpec) own started (by kernel_rfl) Tryz.func4
    (witness_row_atRef (enc := enc) (C := Tryz.checked) false (laidWorld os) #[.int .u8 0, .agg #[.int .i64 0, .slice none 0 0, .bool false, .slice none 0 0, .slice none 0 0]] rfl (by kernel_rfl) (by kernel_rfl) (by kernel_rfl) (witness_row os enc)) ?_
  intro W base args ds gs before hval0 hW _ hcond _ hL _ _
  have hval : ∀ (j : Nat) t v, Tryz.f4.params[j]? = some t → args[j]? = some v → Value.okWide Tryz.prog W .any base t v := hval0
  have hW' := hW
  obtain ⟨p, q, hA0, hV, rfl, hfz, hnd⟩ := hW
  have hA : DataW.TrodAll enc Tryz.prog W 0 (fun _ => true) true Tryz.f4.params.toList args.toList ds p := hA0
  rw [Tryz.params4] at hA hval
  obtain ⟨v0, vs0, d0, ds0, p0, q0, hargs, rfl, rfl, h0, r0⟩ := trodAll_cons hA
  obtain ⟨v1, vs1, d1, ds1, p1, q1, rfl, rfl, rfl, h1, r1⟩ := trodAll_cons r0
  obtain ⟨rfl, rfl, rfl⟩ := trodAll_nil r1
  obtain rfl : args = #[v0, v1] := by cases args; simp_all
  obtain ⟨rfl, rfl⟩ := trodVars_none hV
  simp only [List.append_nil] at hW' hcond
  have hbulk := hcond _ rfl
  replace hbulk := of_decide_eq_true hbulk
  simp only [Rows.uptoBulkAll] at hbulk
  have hlt : ∀ x ∈ _, MemPlace.block x < W.heap.size := fun x hx => hW'.lt x hx
  obtain ⟨a0, rfl, rfl, rfl, x0⟩ := open_int Tryz.underlying5 (hval 0 5 v0 rfl rfl) h0
  have y0 : 0 ≤ a0 ∧ a0 < 256 := by have h := x0; simp only [Lit.wf, IntKind.min, IntKind.max, IntKind.signed, IntKind.bits, Bool.and_eq_true, decide_eq_true_eq] at h; simp at h; omega
  obtain ⟨ts, T, rfl, hT, hkey, hbT⟩ := tree_arg (hval 1 26 v1 rfl rfl) h1 (by omega)
  clear hA0 hval0
  refine Calls.mono (walk_FnAgainShareGroupDescribeResponse y0.1 y0.2 hT hkey hbT (errW_of hL)) fun e W' ⟨v, he, hv, hc⟩ => ?_
  subst he
  subst hv
  exact ⟨_, rfl, _, _, _, [], _, [], hW', trodAll_cons_mk (shut_bool Tryz.underlying4 _) trodAll_mk0, trodAll_cons_mk (shut_int Tryz.underlying5 x0) (trodAll_cons_mk (tree_same h1 hc (fun x hx => hlt x (by simp [hx]))) (trodAll_mk0)), rfl, (below_of hc).frame _, fun h => by cases h⟩
theorem c2 : (Rows.fnAgainShareGroupDescribeResponseUptoRow.inPlace == Tryz.prog.inPlace 4) = true := by kernel_rfl
theorem c3 : (Rows.fnAgainShareGroupDescribeResponseUptoRow.unfollowed == Tryz.prog.unfollowed 4) = true := by kernel_rfl
theorem c4 : (Rows.fnAgainShareGroupDescribeResponseUptoRow.recurses == Tryz.prog.recurses 4) = true := by kernel_rfl
theorem c5 : (Rows.fnAgainShareGroupDescribeResponseUptoRow.named == Tryz.prog.varsNamed 4) = true := by kernel_rfl
theorem c7 : (Rows.fnAgainShareGroupDescribeResponseUptoRow.lifted == Tryz.prog.liftsFinal) = true := by
  have h : Rows.fnAgainShareGroupDescribeResponseUptoRow.lifted = Facts.lifted := rfl
  rw [h]; exact Facts.c7
theorem c8 : (Tryz.prog.make == some Rows.fnAgainShareGroupDescribeResponseUptoRow.make) = true := by
  have h : Rows.fnAgainShareGroupDescribeResponseUptoRow.make = Facts.make := rfl
  rw [h]; exact Facts.c8
theorem c9 : (Rows.fnAgainShareGroupDescribeResponseUptoRow.plainKeys == Tryz.prog.plainKeys) = true := by
  have h : Rows.fnAgainShareGroupDescribeResponseUptoRow.plainKeys = Facts.plainKeys := rfl
  rw [h]; exact Facts.c9
theorem c11 : Tryz.prog.funcNamed Rows.fnAgainShareGroupDescribeResponseUptoRow.func = some 4 := by kernel_rfl
theorem closed : joinedFacts Tryz.prog 4 Tryz.f4 (Rows.OpenSpec.upto Rows.fnAgainShareGroupDescribeResponseSpec).bare Rows.fnAgainShareGroupDescribeResponseUptoRow = true := by
  unfold joinedFacts
  simp only [Bool.and_eq_true]
  repeat' (refine And.intro ?_ ?_)
  all_goals first | with_reducible exact Facts.c1 | with_reducible exact Facts.c0 | with_reducible exact c2 | with_reducible exact c3 | with_reducible exact c4 | with_reducible exact c5 | with_reducible exact Facts.c6 | with_reducible exact c7 | with_reducible exact c8 | with_reducible exact c9 | with_reducible exact Facts.c10 | kernel_rfl
theorem over : Rows.FnAgainShareGroupDescribeResponseUptoSaid :=
  OpenClaim.holds_of_cond 4 Tryz.f4 rfl rfl rfl rfl rfl rfl rfl ⟨rfl, rfl, rfl, rfl, rfl⟩ rfl rfl rfl rfl rfl c11 Tryz.func4 closed
    (of_decide_eq_true (by kernel_rfl)) (by unfold Func.isWrapper; first | (rw [if_pos (by decide +kernel)]; kernel_rfl) | (rw [if_neg (by decide +kernel)]; exact ⟨rfl, rfl⟩))
    (fun os started H enc _ F => by rw [OpenClaim.pre_eq_preRow]; exact lifted os started H enc F)
theorem plain (f : FuncId) (fn : Func) (hf : Tryz.pinned.checked.prog.funcNamed "pub-kmsg/laws.FnAgainShareGroupDescribeResponse" = some f) (hfn : Tryz.pinned.checked.prog.funcs[f]? = some fn) :
    false = Tryz.pinned.checked.prog.looks [] ∧ ∀ (j : Nat) t, fn.params[j]? = some t → Tryz.pinned.checked.prog.wantsStandIn t = false := by
  obtain rfl : f = 4 := Option.some.inj ((show Tryz.prog.funcNamed "pub-kmsg/laws.FnAgainShareGroupDescribeResponse" = some 4 by kernel_rfl).symm.trans hf) |>.symm
  obtain rfl : fn = Tryz.f4 := (Option.some.inj (Tryz.func4.symm.trans hfn)).symm
  refine ⟨by kernel_rfl, fun j t ht => ?_⟩
  rw [Tryz.params4] at ht
  have hw0 : Tryz.prog.wantsStandIn 5 = false := by kernel_rfl
  have hw1 : Tryz.prog.wantsStandIn 26 = false := by kernel_rfl
  have hm := Array.mem_of_getElem? ht
  simp only [List.mem_toArray, List.mem_cons, List.not_mem_nil, or_false] at hm
  rcases hm with rfl | rfl <;> assumption
end fnAgainShareGroupDescribeResponse
theorem fnAgainShareGroupDescribeResponse_holds : Rows.FnAgainShareGroupDescribeResponseUptoCardSaid :=
  Claim7.holds_tied_plain_at .later [] _ _ _ _ fnAgainShareGroupDescribeResponse.over (fun _ h => by cases h) (by kernel_rfl) (fun _ h => by cases h) fnAgainShareGroupDescribeResponseUpto_row_tie rfl ⟨rfl, rfl⟩ (by kernel_rfl) rfl fnAgainShareGroupDescribeResponse.plain (by kernel_rfl)
#print axioms fnAgainShareGroupDescribeResponse_holds
end Go.Proofs.YtkodgaelpllhgabGreatDoorR

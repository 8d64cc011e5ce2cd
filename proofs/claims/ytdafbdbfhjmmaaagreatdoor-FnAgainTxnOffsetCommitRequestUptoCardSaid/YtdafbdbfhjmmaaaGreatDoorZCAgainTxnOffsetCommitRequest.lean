/-
What a TxnOffsetCommitRequest says, written by the rules of the protocol, is read, and written back byte by byte: for every input of bulk at most 1048576 the law returns true. Conditions: the listed variable holds what the text lays (tied by the card).
-/
import Derived.Test.YtdafbdbfhjmmaaaGreatDoorZE
import Derived.Test.YtdafbdbfhjmmaaaGreatDoorZW
import Derived.Test.YtdafbdbfhjmmaaaGreatDoorZN
import Derived.Test.YtdafbdbfhjmmaaaGreatDoorZF
import Derived.Test.YtdafbdbfhjmmaaaGreatDoorZP
namespace Go.Proofs.YtdafbdbfhjmmaaaGreatDoor
set_option linter.all false
open Go.RowKit
set_option maxRecDepth 100000
set_option maxHeartbeats 2000000
def sch_sTxnOffsetCommitRequestTopicPartition : List Fld := [.mk .i32 0 (-1) (-1) (-1) 0 .bool [], .mk .i64 0 (-1) (-1) (-1) 0 .bool [], .mk .i32 2 (-1) (-1) (-1) (-1) .bool [], .mk .text 0 (-1) 0 (-1) 0 .bool []]
def sch_sTxnOffsetCommitRequestTopic : List Fld := [.mk .text 0 5 (-1) (-1) 0 .bool [], .mk .uuid 6 (-1) (-1) (-1) 0 .bool [], .mk .list 0 (-1) (-1) (-1) 0 .struct sch_sTxnOffsetCommitRequestTopicPartition]
def sch_TxnOffsetCommitRequest : List Fld := [.mk .text 0 (-1) (-1) (-1) 0 .bool [], .mk .text 0 (-1) (-1) (-1) 0 .bool [], .mk .i64 0 (-1) (-1) (-1) 0 .bool [], .mk .i16 0 (-1) (-1) (-1) 0 .bool [], .mk .i32 3 (-1) (-1) (-1) (-1) .bool [], .mk .text 3 (-1) (-1) (-1) 0 .bool [], .mk .text 3 (-1) 3 (-1) 0 .bool [], .mk .list 0 (-1) (-1) (-1) 0 .struct sch_sTxnOffsetCommitRequestTopic]
def zz_sTxnOffsetCommitRequestTopicPartition : List Value := [.int .i32 0, .int .i64 0, .int .i32 0, .pointer none, .map none]
def dd_sTxnOffsetCommitRequestTopicPartition : List Value := [.int .i32 0, .int .i64 0, .int .i32 (-1), .pointer none, .map none]
theorem elz_sTxnOffsetCommitRequestTopicPartition : ∀ e, (Tryz.prog).underlying 131 = some (.slice e) → zeroB Tryz.prog e (zaP zz_sTxnOffsetCommitRequestTopicPartition) := by
  intro e he
  have h : (Tryz.prog).underlying 131 = some (.slice 137) := by kernel_rfl
  rw [h] at he; cases he
  exact fun w => Tryz.zeroValue137 w
theorem eln_sTxnOffsetCommitRequestTopicPartition : zaV Tryz.prog 138 := (fun args w => Tryz.call138 args w)
theorem eld_sTxnOffsetCommitRequestTopicPartition : DefC 138 (zaP zz_sTxnOffsetCommitRequestTopicPartition).cells.toList dd_sTxnOffsetCommitRequestTopicPartition := by
  intro w b off cs T hb hlen hseg
  refine za8 Tryz.func138 rfl rfl Tryz.ntmps138 (by simp) ?_
  intro a hN hD ha
  have h0 : get a 0 = .pointer (some ⟨b, off, none⟩) := ha 0 _ rfl
  have hl : off + zz_sTxnOffsetCommitRequestTopicPartition.length ≤ cs.length := hlen
  have e : zaC cs off zz_sTxnOffsetCommitRequestTopicPartition = cs := splice_same hseg hlen
  rw [← e] at hb
  refine wp_def1 (k := 2) (v := .int .i32 (-1)) hN hD h0 hb hl (by kernel_rfl) ⟨rfl, rfl⟩ fun a0 w0 hN0 hD0 g0 hb0 hc0 => ?_
  exact ⟨hD0, hb0, hc0⟩
def zz_sTxnOffsetCommitRequestTopic : List Value := [.string ⟨#[]⟩, .int .u8 0, .int .u8 0, .int .u8 0, .int .u8 0, .int .u8 0, .int .u8 0, .int .u8 0, .int .u8 0, .int .u8 0, .int .u8 0, .int .u8 0, .int .u8 0, .int .u8 0, .int .u8 0, .int .u8 0, .int .u8 0, .slice none 0 0, .map none]
def dd_sTxnOffsetCommitRequestTopic : List Value := [.string ⟨#[]⟩, .int .u8 0, .int .u8 0, .int .u8 0, .int .u8 0, .int .u8 0, .int .u8 0, .int .u8 0, .int .u8 0, .int .u8 0, .int .u8 0, .int .u8 0, .int .u8 0, .int .u8 0, .int .u8 0, .int .u8 0, .int .u8 0, .slice none 0 0, .map none]
theorem elz_sTxnOffsetCommitRequestTopic : ∀ e, (Tryz.prog).underlying 126 = some (.slice e) → zeroB Tryz.prog e (zaP zz_sTxnOffsetCommitRequestTopic) := by
  intro e he
  have h : (Tryz.prog).underlying 126 = some (.slice 133) := by kernel_rfl
  rw [h] at he; cases he
  exact fun w => Tryz.zeroValue133 w
theorem eln_sTxnOffsetCommitRequestTopic : zaV Tryz.prog 136 := (fun args w => Tryz.call136 args w)
theorem eld_sTxnOffsetCommitRequestTopic : DefC 136 (zaP zz_sTxnOffsetCommitRequestTopic).cells.toList dd_sTxnOffsetCommitRequestTopic := by
  intro w b off cs T hb hlen hseg
  refine za8 Tryz.func136 rfl rfl Tryz.ntmps136 (by simp) ?_
  intro a hN hD ha
  refine wp_skip ⟨hD, ?_, Chg.refl _ _⟩
  have e : zaC cs off dd_sTxnOffsetCommitRequestTopic = cs := splice_same hseg hlen
  rw [e]; exact hb
def dd_TxnOffsetCommitRequest : List Value := [.string ⟨#[]⟩, .string ⟨#[]⟩, .int .i64 0, .int .i16 0, .int .i32 (-1), .string ⟨#[]⟩, .pointer none, .slice none 0 0, .map none]
theorem defm_TxnOffsetCommitRequest : DefM 94 dd_TxnOffsetCommitRequest := by
  intro w B v T hb
  refine za8 Tryz.func94 rfl rfl Tryz.ntmps94 (by simp) ?_
  intro a hN hD ha
  have h0 : get a 0 = .pointer (some ⟨B, 0, none⟩) := ha 0 _ rfl
  refine zaf ?_
  (repeat (first | ((with_reducible refine zaB ?_ ?_ ?_ ?_); (· exact rfl); (· simp [evb, kb, hN, h0, dyb, sdb] <;> omega); (· kernel_rfl); try simp only [evb, kb, hN, seval, pvb, h0]) | ((with_reducible refine zak ?_ ?_ ?_); rotate_left 1; (· simp [evb, kb, hN, h0, sdb]); rotate_left 1; (· kernel_rfl); try simp only [evb, kb, hN, seval, pvb, h0])))
  refine zaX (p := ⟨B, 0, none⟩) (by simp [evb, kb, hN, h0, sdb]) ?_
  refine zaW (b := B) (o := 0) (off := 5) (n := 1) (by kernel_rfl) (by simp [evb, kb, hN, sdb]) ?_
  refine za6 (b := B) (o := 0 + 5) (n := 1) (v := .int .i32 (-1)) (by kernel_rfl) (by simp [evb, kb, hN, sdb]) (by simp [evb, kb, hN, sdb]) hb rfl (by intro y hy; simp only [Value.cells, List.mem_singleton] at hy; subst hy; rfl) (by show _ ≤ 10; decide) fun w0 hb0 hc0 => ?_
  refine zac ⟨by simp [zad, hD], ?_, hc0⟩
  exact hb0
def zz_TxnOffsetCommitRequest : List Value := [.string ⟨#[]⟩, .string ⟨#[]⟩, .int .i64 0, .int .i16 0, .int .i32 0, .string ⟨#[]⟩, .pointer none, .slice none 0 0, .map none]
theorem defz_TxnOffsetCommitRequest : ∀ (w : World) (B : Nat) (v : Value) (T : TypeId), Blk w B (v :: zz_TxnOffsetCommitRequest) T → zaF Tryz.prog 94 #[.pointer (some ⟨B, 0, none⟩)] w fun _ w' => Blk w' B (v :: dd_TxnOffsetCommitRequest) T ∧ Chg (fun k => k = B) w w' := by
  intro w B v T hb
  refine za8 Tryz.func94 rfl rfl Tryz.ntmps94 (by simp) ?_
  intro a hN hD ha
  have h0 : get a 0 = .pointer (some ⟨B, 0, none⟩) := ha 0 _ rfl
  refine zaf ?_
  (repeat (first | ((with_reducible refine zaB ?_ ?_ ?_ ?_); (· exact rfl); (· simp [evb, kb, hN, h0, dyb, sdb] <;> omega); (· kernel_rfl); try simp only [evb, kb, hN, seval, pvb, h0]) | ((with_reducible refine zak ?_ ?_ ?_); rotate_left 1; (· simp [evb, kb, hN, h0, sdb]); rotate_left 1; (· kernel_rfl); try simp only [evb, kb, hN, seval, pvb, h0])))
  refine zaX (p := ⟨B, 0, none⟩) (by simp [evb, kb, hN, h0, sdb]) ?_
  refine zaW (b := B) (o := 0) (off := 5) (n := 1) (by kernel_rfl) (by simp [evb, kb, hN, sdb]) ?_
  refine za6 (b := B) (o := 0 + 5) (n := 1) (v := .int .i32 (-1)) (by kernel_rfl) (by simp [evb, kb, hN, sdb]) (by simp [evb, kb, hN, sdb]) hb rfl (by intro y hy; simp only [Value.cells, List.mem_singleton] at hy; subst hy; rfl) (by show _ ≤ 10; decide) fun w0 hb0 hc0 => ?_
  refine zac ⟨by simp [zad, hD], ?_, hc0⟩
  exact hb0
theorem read_TxnOffsetCommitRequest : ReadsF 96 true (fun ver => decide (3 ≤ ver)) sch_TxnOffsetCommitRequest dd_TxnOffsetCommitRequest [.bool false] := by
  refine read_flex Tryz.func96 rfl rfl Tryz.ntmps96 (fun args w => Tryz.call94 args w) defm_TxnOffsetCommitRequest (by kernel_rfl) ?_
  intro ver hver
  (repeat' (first | (with_reducible refine rt_tagged rfl rfl ?_) | (with_reducible refine rt_next rfl (by kernel_rfl) ?_ ?_) | (with_reducible refine rt_end rfl ?_) | (with_reducible refine rt_noflex rfl ?_) | (with_reducible refine rt_fin co_en (by kernel_rfl) (by kernel_rfl)) | (with_reducible refine rt_tl (I := 1000) (by kernel_rfl) ?_ ?_) | (with_reducible refine rd_tags (by kernel_rfl) tagOK_all tg_en (by kernel_rfl) (by kernel_rfl)) | (with_reducible refine rd_tagged rfl rfl ?_) | (with_reducible refine rd_noflex rfl ?_) | (with_reducible refine rd_last rfl rfl (by kernel_rfl) ?_) | (with_reducible refine rd_next rfl (by kernel_rfl) (by kernel_rfl) ?_ ?_) | (with_reducible refine rd_end rfl ?_) | (with_reducible refine sf_all rfl (by dsimp only; omega) ?_) | ((with_reducible refine sf_from rfl (by kernel_rfl) (fun hv => ?_)); try dsimp only at hv) | ((with_reducible refine sf_range rfl (by kernel_rfl) (fun hv hv2 => ?_)); try dsimp only at hv hv2) | (with_reducible refine rf_list1 rfl (by kernel_rfl) elz_sTxnOffsetCommitRequestTopicPartition (by kernel_rfl) ?_ ok_en co_en ?_ (by kernel_rfl)) | (with_reducible refine el_struct1 (by kernel_rfl) eln_sTxnOffsetCommitRequestTopicPartition eld_sTxnOffsetCommitRequestTopicPartition (by kernel_rfl) ?_ (by kernel_rfl) (by kernel_rfl) (by kernel_rfl)) | (with_reducible refine rf_list1 rfl (by kernel_rfl) elz_sTxnOffsetCommitRequestTopic (by kernel_rfl) ?_ ok_en co_en ?_ (by kernel_rfl)) | (with_reducible refine el_struct1 (by kernel_rfl) eln_sTxnOffsetCommitRequestTopic eld_sTxnOffsetCommitRequestTopic (by kernel_rfl) ?_ (by kernel_rfl) (by kernel_rfl) (by kernel_rfl)) | (with_reducible refine rf_store ?_ rfl (by kernel_rfl) (by kernel_rfl) (by kernel_rfl)) | (with_reducible refine rf_store2 ?_ rfl (by kernel_rfl) (by kernel_rfl) (by kernel_rfl) (by kernel_rfl)) | (with_reducible refine rd_pre ?_ (by kernel_rfl)) | (with_reducible refine rv_safe ?_ (by kernel_rfl)) | (with_reducible refine rv_flex rfl (fun hx => ?_) (fun hx => ?_) (by kernel_rfl)) | (with_reducible refine rv_i16 (by kernel_rfl)) | (with_reducible refine rv_i32 (by kernel_rfl)) | (with_reducible refine rv_i64 (by kernel_rfl)) | (with_reducible refine rv_string rfl (by first | assumption | rfl) (by kernel_rfl)) | (with_reducible refine rv_cstring rfl (by first | assumption | rfl) (by kernel_rfl)) | (with_reducible refine rv_nstring rfl (by first | assumption | rfl) (by dsimp only; omega) (by kernel_rfl)) | (with_reducible refine rv_cnstring rfl (by first | assumption | rfl) (by dsimp only; omega) (by kernel_rfl)) | (with_reducible refine rf_uuid2 rfl (by kernel_rfl) (by kernel_rfl) (by kernel_rfl) (by kernel_rfl) (by kernel_rfl)) | (with_reducible refine rv_again ?_ (by kernel_rfl)) | (with_reducible refine rv_pre ?_ (by kernel_rfl)) | (with_reducible refine rn_plain (by first | assumption | rfl) (by kernel_rfl)) | (with_reducible refine rn_cplain (by first | assumption | rfl) (by kernel_rfl)) | (with_reducible refine rn_flex rfl (fun hx => ?_) (fun hx => ?_) (by kernel_rfl)) | (with_reducible refine el_pre ?_ (by kernel_rfl)) | (with_reducible refine el_val1 (by kernel_rfl) (rv_elem rfl ?_) (by kernel_rfl) (by kernel_rfl))))
theorem app_TxnOffsetCommitRequest : AppendsTo 59 true (fun ver => decide (3 ≤ ver)) sch_TxnOffsetCommitRequest := by
  refine app_flex Tryz.func59 rfl rfl Tryz.ntmps59 (by kernel_rfl) ?_
  intro ver s hver
  (repeat' (first | with_reducible refine wt_start ?_ | with_reducible refine wp_noflex rfl ?_ | with_reducible refine wr_start ?_ | with_reducible refine wt_tagged rfl rfl ?_ | (with_reducible refine wt_next rfl (by kernel_rfl) (fun d hd => ?_) ?_) | (with_reducible refine wt_fin rfl rfl ?_) | (with_reducible refine wt_end rfl (by kernel_rfl) ?_ ?_) | (with_reducible refine wt_ret (by kernel_rfl)) | with_reducible refine wr_tagged rfl rfl ?_ | (with_reducible refine wr_last rfl rfl (fun d hd => ?_)) | (with_reducible refine wr_next rfl (by kernel_rfl) (fun d hd => ?_) ?_) | (with_reducible refine wr_end rfl ?_) | (with_reducible refine wr_tail rfl (by kernel_rfl) k_uint32 (by kernel_rfl)) | (with_reducible refine wf_all rfl (by dsimp only; omega) ?_) | ((with_reducible refine wf_from rfl (by kernel_rfl) (fun hv => ?_)); try dsimp only at hv) | ((with_reducible refine wf_range rfl (by kernel_rfl) (fun hv hv2 => ?_)); try dsimp only at hv hv2) | (with_reducible refine wf_load rfl hd (by kernel_rfl) (by kernel_rfl) rfl ?_) | (with_reducible refine wf_uuid rfl hd (by kernel_rfl) uuidZero (by kernel_rfl)) | (with_reducible refine wf_inner rfl hd (by kernel_rfl) (by kernel_rfl) rfl (fun s => ?_)) | (with_reducible refine wv_i16 (by kernel_rfl)) | (with_reducible refine wv_i32 (by kernel_rfl)) | (with_reducible refine wv_i64 (by kernel_rfl)) | (with_reducible refine wv_flexS rfl (by kernel_rfl) (fun hx => ?_) (fun hx => ?_)) | (with_reducible refine wv_string rfl (by first | assumption | rfl) (by kernel_rfl)) | (with_reducible refine wv_cstring rfl (by first | assumption | rfl) (by kernel_rfl)) | (with_reducible refine wv_nstring rfl (by dsimp only; omega) (by first | assumption | rfl) (by kernel_rfl)) | (with_reducible refine wv_cnstring rfl (by dsimp only; omega) (by first | assumption | rfl) (by kernel_rfl)) | ((with_reducible refine wv_otext rfl (by kernel_rfl) (by kernel_rfl) (by kernel_rfl) (by kernel_rfl) rfl (fun l => ?_) (fun hv => ?_)); (try dsimp only at hv)) | (with_reducible refine wv_listS (fun oa n cap M => ?_) (by kernel_rfl) (by kernel_rfl) (by kernel_rfl) (by kernel_rfl) (fun s => ?_)) | (with_reducible refine wv_listK (fun oa n cap M => ?_) (by kernel_rfl) (by kernel_rfl) (by kernel_rfl) (by kernel_rfl) (fun d => ?_)) | (with_reducible refine wn_flex rfl (by kernel_rfl) (fun hx => ?_) (fun hx => ?_)) | (with_reducible refine wn_plain (by dsimp only; omega) (by first | assumption | rfl) (by kernel_rfl) (by kernel_rfl)) | (with_reducible refine wn_cplain (by dsimp only; omega) (by first | assumption | rfl) (by kernel_rfl) (by kernel_rfl)) | (with_reducible refine wv_again (by kernel_rfl) rfl ?_)))
end Go.Proofs.YtdafbdbfhjmmaaaGreatDoor
namespace Go.Proofs.YtdafbdbfhjmmaaaGreatDoor
set_option linter.all false
open Go.RowKit
set_option maxRecDepth 100000
set_option maxHeartbeats 2000000
theorem lay_sTxnOffsetCommitRequestTopicPartition : LaysS 95 sch_sTxnOffsetCommitRequestTopicPartition := by
  intro w0
  refine zan Tryz.func95 rfl rfl Tryz.ntmps95 (by simp) ?_
  intro a hN hD ha
  refine wp_seq_k fun K hK => ?_; refine zaf ?_; refine zam ?_; simp only [evb, kb, hN, seval]; refine zac ?_; refine hK _ _ ?_; clear hK K
  refine wp_seq_k fun K hK => ?_; refine zaf ?_
  have hq : Chg (fun _ => False) w0 w0 := Chg.refl _ _
  refine zaD (l := zap (.mk .i32 0 (-1) (-1) (-1) 0 .bool []) (.slice none 0 0)) (by simp only [List.map_toArray, List.map_cons, List.map_nil, evb, kb, hN, seval]; kernel_rfl) ?_
  refine zaD (l := zap (.mk .i64 0 (-1) (-1) (-1) 0 .bool []) (.slice none 0 0)) (by simp only [List.map_toArray, List.map_cons, List.map_nil, evb, kb, hN, seval]; kernel_rfl) ?_
  refine zaD (l := zap (.mk .i32 2 (-1) (-1) (-1) (-1) .bool []) (.slice none 0 0)) (by simp only [List.map_toArray, List.map_cons, List.map_nil, evb, kb, hN, seval]; kernel_rfl) ?_
  refine zaD (l := zap (.mk .text 0 (-1) 0 (-1) 0 .bool []) (.slice none 0 0)) (by simp only [List.map_toArray, List.map_cons, List.map_nil, evb, kb, hN, seval]; kernel_rfl) ?_
  refine wl_fields sch_sTxnOffsetCommitRequestTopicPartition [zap (.mk .i32 0 (-1) (-1) (-1) 0 .bool []) (.slice none 0 0), zap (.mk .i64 0 (-1) (-1) (-1) 0 .bool []) (.slice none 0 0), zap (.mk .i32 2 (-1) (-1) (-1) (-1) .bool []) (.slice none 0 0), zap (.mk .text 0 (-1) 0 (-1) 0 .bool []) (.slice none 0 0)] rfl (by simp only [List.map_toArray, List.map_cons, List.map_nil, evb, kb, hN, seval]; rfl) (by simp only [List.length_cons, List.length_nil]; omega) hq (.cons (zau (.mk .i32 0 (-1) (-1) (-1) 0 .bool []) (zaR _ _ _ _)) (.cons (zau (.mk .i64 0 (-1) (-1) (-1) 0 .bool []) (zaR _ _ _ _)) (.cons (zau (.mk .i32 2 (-1) (-1) (-1) (-1) .bool []) (zaR _ _ _ _)) (.cons (zau (.mk .text 0 (-1) 0 (-1) 0 .bool []) (zaR _ _ _ _)) (.nil))))) ?_
  rintro v wF hcF hkF hsF rfl
  refine zam ?_
  simp only [evb, kb, hN, seval]
  refine zac ?_; refine hK _ _ ?_; clear hK K
  refine wp_ret ⟨by simp [zad, hD], ?_⟩; simp only [evb, kb, hN, seval]
  exact ⟨hsF, hcF⟩
theorem lay_sTxnOffsetCommitRequestTopic : LaysS 56 sch_sTxnOffsetCommitRequestTopic := by
  intro w0
  refine zan Tryz.func56 rfl rfl Tryz.ntmps56 (by simp) ?_
  intro a hN hD ha
  refine wp_seq_k fun K hK => ?_; refine zaf ?_; refine zam ?_; simp only [evb, kb, hN, seval]; refine zac ?_; refine hK _ _ ?_; clear hK K
  refine wp_seq_k fun K hK => ?_; refine zaf ?_
  have hq : Chg (fun _ => False) w0 w0 := Chg.refl _ _
  refine zaD (l := zap (.mk .text 0 5 (-1) (-1) 0 .bool []) (.slice none 0 0)) (by simp only [List.map_toArray, List.map_cons, List.map_nil, evb, kb, hN, seval]; kernel_rfl) ?_
  refine zaD (l := zap (.mk .uuid 6 (-1) (-1) (-1) 0 .bool []) (.slice none 0 0)) (by simp only [List.map_toArray, List.map_cons, List.map_nil, evb, kb, hN, seval]; kernel_rfl) ?_
  refine zay (fun args w => Tryz.call95 args w) (by simp only [List.map_toArray, List.map_nil]; exact lay_sTxnOffsetCommitRequestTopicPartition _) ?_
  rintro v1 w1 ⟨hs1, hk1⟩
  replace hs1 := hs1.later (Chg.refl _ _) hq.size
  replace hq := hq.trans hk1 fun _ _ h => h
  obtain ⟨oa1, cap1, rfl, _⟩ := id hs1
  refine zaD (l := zap (.mk .list 0 (-1) (-1) (-1) 0 .struct sch_sTxnOffsetCommitRequestTopicPartition) (.slice oa1 (sch_sTxnOffsetCommitRequestTopicPartition).length cap1)) (by simp only [List.map_toArray, List.map_cons, List.map_nil, evb, kb, hN, seval]; kernel_rfl) ?_
  refine wl_fields sch_sTxnOffsetCommitRequestTopic [zap (.mk .text 0 5 (-1) (-1) 0 .bool []) (.slice none 0 0), zap (.mk .uuid 6 (-1) (-1) (-1) 0 .bool []) (.slice none 0 0), zap (.mk .list 0 (-1) (-1) (-1) 0 .struct sch_sTxnOffsetCommitRequestTopicPartition) (.slice oa1 (sch_sTxnOffsetCommitRequestTopicPartition).length cap1)] rfl (by simp only [List.map_toArray, List.map_cons, List.map_nil, evb, kb, hN, seval]; rfl) (by simp only [List.length_cons, List.length_nil]; omega) hq (.cons (zau (.mk .text 0 5 (-1) (-1) 0 .bool []) (zaR _ _ _ _)) (.cons (zau (.mk .uuid 6 (-1) (-1) (-1) 0 .bool []) (zaR _ _ _ _)) (.cons (zau (.mk .list 0 (-1) (-1) (-1) 0 .struct sch_sTxnOffsetCommitRequestTopicPartition) hs1) (.nil)))) ?_
  rintro v wF hcF hkF hsF rfl
  refine zam ?_
  simp only [evb, kb, hN, seval]
  refine zac ?_; refine hK _ _ ?_; clear hK K
  refine wp_ret ⟨by simp [zad, hD], ?_⟩; simp only [evb, kb, hN, seval]
  exact ⟨hsF, hcF⟩
theorem lay_TxnOffsetCommitRequest : LaysM 25 sch_TxnOffsetCommitRequest 3 := by
  intro w
  refine callsR_ofC Tryz.func25 rfl rfl (by kernel_rfl) Tryz.ntmps25 (by simp) ?_
  intro a hN hD ha
  refine wp_seq_k fun K hK => ?_; refine zaf ?_
  refine za7 (z := zaP [.slice none 0 0, .int .i64 0]) (fun w => Tryz.zeroValue33 w) fun w0 hc0 hb0 hs0 => ?_
  refine zac ?_; refine hK _ _ ?_; clear hK K
  refine wp_seq_k fun K hK => ?_; refine zaf ?_
  have hq : Chg (fun _ => False) w0 w0 := Chg.refl _ _
  refine zaD (l := zap (.mk .text 0 (-1) (-1) (-1) 0 .bool []) (.slice none 0 0)) (by simp only [List.map_toArray, List.map_cons, List.map_nil, evb, kb, hN, seval]; kernel_rfl) ?_
  refine zaD (l := zap (.mk .text 0 (-1) (-1) (-1) 0 .bool []) (.slice none 0 0)) (by simp only [List.map_toArray, List.map_cons, List.map_nil, evb, kb, hN, seval]; kernel_rfl) ?_
  refine zaD (l := zap (.mk .i64 0 (-1) (-1) (-1) 0 .bool []) (.slice none 0 0)) (by simp only [List.map_toArray, List.map_cons, List.map_nil, evb, kb, hN, seval]; kernel_rfl) ?_
  refine zaD (l := zap (.mk .i16 0 (-1) (-1) (-1) 0 .bool []) (.slice none 0 0)) (by simp only [List.map_toArray, List.map_cons, List.map_nil, evb, kb, hN, seval]; kernel_rfl) ?_
  refine zaD (l := zap (.mk .i32 3 (-1) (-1) (-1) (-1) .bool []) (.slice none 0 0)) (by simp only [List.map_toArray, List.map_cons, List.map_nil, evb, kb, hN, seval]; kernel_rfl) ?_
  refine zaD (l := zap (.mk .text 3 (-1) (-1) (-1) 0 .bool []) (.slice none 0 0)) (by simp only [List.map_toArray, List.map_cons, List.map_nil, evb, kb, hN, seval]; kernel_rfl) ?_
  refine zaD (l := zap (.mk .text 3 (-1) 3 (-1) 0 .bool []) (.slice none 0 0)) (by simp only [List.map_toArray, List.map_cons, List.map_nil, evb, kb, hN, seval]; kernel_rfl) ?_
  refine zay (fun args w => Tryz.call56 args w) (by simp only [List.map_toArray, List.map_nil]; exact lay_sTxnOffsetCommitRequestTopic _) ?_
  rintro v1 w1 ⟨hs1, hk1⟩
  replace hs1 := hs1.later (Chg.refl _ _) hq.size
  replace hq := hq.trans hk1 fun _ _ h => h
  obtain ⟨oa1, cap1, rfl, _⟩ := id hs1
  refine zaD (l := zap (.mk .list 0 (-1) (-1) (-1) 0 .struct sch_sTxnOffsetCommitRequestTopic) (.slice oa1 (sch_sTxnOffsetCommitRequestTopic).length cap1)) (by simp only [List.map_toArray, List.map_cons, List.map_nil, evb, kb, hN, seval]; kernel_rfl) ?_
  refine wl_fields sch_TxnOffsetCommitRequest [zap (.mk .text 0 (-1) (-1) (-1) 0 .bool []) (.slice none 0 0), zap (.mk .text 0 (-1) (-1) (-1) 0 .bool []) (.slice none 0 0), zap (.mk .i64 0 (-1) (-1) (-1) 0 .bool []) (.slice none 0 0), zap (.mk .i16 0 (-1) (-1) (-1) 0 .bool []) (.slice none 0 0), zap (.mk .i32 3 (-1) (-1) (-1) (-1) .bool []) (.slice none 0 0), zap (.mk .text 3 (-1) (-1) (-1) 0 .bool []) (.slice none 0 0), zap (.mk .text 3 (-1) 3 (-1) 0 .bool []) (.slice none 0 0), zap (.mk .list 0 (-1) (-1) (-1) 0 .struct sch_sTxnOffsetCommitRequestTopic) (.slice oa1 (sch_sTxnOffsetCommitRequestTopic).length cap1)] rfl (by simp only [List.map_toArray, List.map_cons, List.map_nil, evb, kb, hN, seval]; rfl) (by simp only [List.length_cons, List.length_nil]; omega) hq (.cons (zau (.mk .text 0 (-1) (-1) (-1) 0 .bool []) (zaR _ _ _ _)) (.cons (zau (.mk .text 0 (-1) (-1) (-1) 0 .bool []) (zaR _ _ _ _)) (.cons (zau (.mk .i64 0 (-1) (-1) (-1) 0 .bool []) (zaR _ _ _ _)) (.cons (zau (.mk .i16 0 (-1) (-1) (-1) 0 .bool []) (zaR _ _ _ _)) (.cons (zau (.mk .i32 3 (-1) (-1) (-1) (-1) .bool []) (zaR _ _ _ _)) (.cons (zau (.mk .text 3 (-1) (-1) (-1) 0 .bool []) (zaR _ _ _ _)) (.cons (zau (.mk .text 3 (-1) 3 (-1) 0 .bool []) (zaR _ _ _ _)) (.cons (zau (.mk .list 0 (-1) (-1) (-1) 0 .struct sch_sTxnOffsetCommitRequestTopic) hs1) (.nil))))))))) ?_
  rintro v wF hcF hkF hsF rfl
  refine zaD (l := [.slice (some ⟨w1.heap.size, 0, none⟩) (sch_TxnOffsetCommitRequest).length (sch_TxnOffsetCommitRequest).length, .int .i64 3]) (by simp only [List.map_toArray, List.map_cons, List.map_nil, evb, kb, hN, seval]; kernel_rfl) ?_
  have hbF := hb0.chg hcF (fun h => h)
  refine za4 (b := w.heap.size) (n := 2) (l' := [.slice (some ⟨w1.heap.size, 0, none⟩) (sch_TxnOffsetCommitRequest).length (sch_TxnOffsetCommitRequest).length, .int .i64 3]) (by kernel_rfl) (by simp [evb, kb, hN, sdb]) (by simp [evb, kb, hN, sdb]) hbF rfl (by intro y hy; simp only [List.mem_cons, List.not_mem_nil, or_false] at hy; rcases hy with rfl | rfl <;> rfl) rfl fun wE hbE hcE => ?_
  refine zac ?_; refine hK _ _ ?_; clear hK K
  refine wp_ret ⟨by simp [zad, hD], w.heap.size, _, _, by simp only [evb, kb, hN, seval], hbE, by kernel_rfl, ⟨_, rfl, SchS.stay ⟨fun k hk hg => ⟨hcE.block k hk (by omega), by omega⟩⟩ hsF, ?_⟩⟩
  exact (hc0.trans hcF fun _ _ h => h).trans hcE fun k hk h => by omega
theorem new_TxnOffsetCommitRequest : NewsPtr 54 dd_TxnOffsetCommitRequest :=
  newptr_of zz_TxnOffsetCommitRequest dd_TxnOffsetCommitRequest Tryz.func54 rfl rfl Tryz.ntmps54 (by kernel_rfl) (fun w => Tryz.zeroValue128 w) (fun args w => Tryz.call94 args w) defz_TxnOffsetCommitRequest
theorem max_TxnOffsetCommitRequest : MaxIs 24 6 := by
  intro w
  refine zan Tryz.func24 rfl rfl Tryz.ntmps24 (by simp) ?_
  intro a hN hD ha
  refine wp_seq_k fun K hK => ?_; refine zaf ?_; refine zam ?_; refine zac ?_; refine hK _ _ ?_; clear hK K
  refine wp_seq_k fun K hK => ?_; refine zaf ?_
  refine zay (fun args w => Tryz.call54 args w) (by simp only [List.map_toArray, List.map_nil]; exact new_TxnOffsetCommitRequest w) ?_
  rintro v w1 ⟨rfl, hc, _⟩
  refine zay (fun args w => Tryz.call55 args w) (by simp only [List.map_toArray, List.map_cons, List.map_nil]; simp only [evb, kb, hN, seval]; exact maxver_of Tryz.func55 rfl rfl Tryz.ntmps55 (by kernel_rfl) _ w1) ?_
  rintro _ w2 ⟨rfl, rfl⟩
  (repeat (first | ((with_reducible refine zaB ?_ ?_ ?_ ?_); (· exact rfl); (· simp [evb, kb, hN, dyb, sdb] <;> omega); (· kernel_rfl); try simp only [evb, kb, hN, seval, pvb]) | ((with_reducible refine zak ?_ ?_ ?_); rotate_left 1; (· simp [evb, kb, hN, sdb]); rotate_left 1; (· kernel_rfl); try simp only [evb, kb, hN, seval, pvb])))
  refine zac ?_; refine hK _ _ ?_; clear hK K; refine wp_ret ⟨by simp [zad, hD], ?_⟩; simp only [evb, kb, hN, seval]
  exact ⟨by first | rfl | trivial, hc⟩
theorem setv_TxnOffsetCommitRequest : SetsVersion 57 := setver_of Tryz.func57 rfl rfl Tryz.ntmps57 (by kernel_rfl)
theorem from_TxnOffsetCommitRequest : ReadsFrom 58 96 := fun h => readfrom_c Tryz.func58 rfl rfl Tryz.ntmps58 (fun args w => Tryz.call96 args w) h
theorem ag_TxnOffsetCommitRequest : AgC 26 (fun ver => decide (3 ≤ ver)) 6 sch_TxnOffsetCommitRequest := fun ver h0 h1 w G oa bs cap hsrc hlim herr hout =>
  again_of Tryz.func26 rfl rfl Tryz.ntmps26 (fun args w => Tryz.call54 args w) (fun args w => Tryz.call57 args w) (fun args w => Tryz.call58 args w) (fun args w => Tryz.call59 args w) new_TxnOffsetCommitRequest setv_TxnOffsetCommitRequest from_TxnOffsetCommitRequest read_TxnOffsetCommitRequest app_TxnOffsetCommitRequest h0 (by omega) hsrc hlim herr hout
theorem ok_TxnOffsetCommitRequest : SchOK (fun ver => decide (3 ≤ ver)) 6 sch_TxnOffsetCommitRequest := schB_out (by kernel_rfl)
theorem walk_FnAgainTxnOffsetCommitRequest {a : Int} (hn : 0 ≤ a) (hn2 : a < 256) {w : World} {G : Nat → Prop} {v : Tr} {ts : List Value} (hv : TrC w G v ts) (hkv : keyV v) (hb : za5 v ≤ 1048576) (herr : ErrW w) :
    zaF Tryz.prog 7 #[.int .u8 a, zaP ts] w fun v w' => v = .bool true ∧ Chg (fun _ => False) w w' :=
  lawAgain_of Tryz.func7 rfl rfl (by kernel_rfl) rfl Tryz.ntmps7 (fun args w => Tryz.call24 args w) (fun args w => Tryz.call25 args w) (fun args w => Tryz.call26 args w) max_TxnOffsetCommitRequest lay_TxnOffsetCommitRequest ag_TxnOffsetCommitRequest (by decide) (fun ver _ => by simp) ok_TxnOffsetCommitRequest hn hn2 hv hkv hb herr
end Go.Proofs.YtdafbdbfhjmmaaaGreatDoor
namespace Go.Proofs.YtdafbdbfhjmmaaaGreatDoor
set_option linter.all false
namespace fnAgainTxnOffsetCommitRequest
open Go.ChangeShapes Go.WideShapes Go.ChangeAt Go.RowKit
set_option maxRecDepth 100000
set_option maxHeartbeats 1000000
theorem laid_met (os : Os) : laidMet Tryz.prog Rows.fnAgainTxnOffsetCommitRequestUptoRow.laid ((zbd os).forCall (fun _ _ => 0) ⟨#[], #[.int .u8 0, .agg #[.int .i64 0, .slice none 0 0, .bool false, .slice none 0 0, .slice none 0 0]], []⟩).memory :=
  laidMet_of_run' 8 (by kernel_rfl) (by kernel_rfl)
theorem witness_row (os : Os) {H : Type} (enc : TypeId × Value → H) :
    (Rows.OpenSpec.upto Rows.fnAgainTxnOffsetCommitRequestSpec).preRow enc Tryz.prog Tryz.f7 Rows.fnAgainTxnOffsetCommitRequestUptoRow.domain false Rows.fnAgainTxnOffsetCommitRequestUptoRow.laid ((zbd os).forCall (fun _ _ => 0) ⟨#[], #[.int .u8 0, .agg #[.int .i64 0, .slice none 0 0, .bool false, .slice none 0 0, .slice none 0 0]], []⟩).memory #[.int .u8 0, .agg #[.int .i64 0, .slice none 0 0, .bool false, .slice none 0 0, .slice none 0 0]] := by
  have hw : (DataW.whole enc Tryz.prog ((zbd os).forCall (fun _ _ => 0) ⟨#[], #[.int .u8 0, .agg #[.int .i64 0, .slice none 0 0, .bool false, .slice none 0 0, .slice none 0 0]], []⟩).memory Tryz.f7.params.toList Rows.fnAgainTxnOffsetCommitRequestSpec.vars false (#[.int .u8 0, .agg #[.int .i64 0, .slice none 0 0, .bool false, .slice none 0 0, .slice none 0 0]] : Array Value).toList 8).map (fun x => (decide (Rows.uptoBulkAll (x.1 ++ x.2.1) ≤ 1048576))) = some true := by kernel_rfl
  obtain ⟨⟨x1, x2, x3⟩, hx, hx1⟩ := Option.map_eq_some_iff.1 hw
  exact OpenSpec.preRow_of_cond 8 hx (by kernel_rfl) (fun k hk => by cases hk; exact hx1) (by kernel_rfl) (laid_met os)
theorem lifted (os : Os) (started : os.Started) (H : Type) (enc : TypeId × Value → H) (F : Stop.Interp) :
    ReturnsInHanded {} Tryz.checked os 7 .any ((Rows.OpenSpec.upto Rows.fnAgainTxnOffsetCommitRequestSpec).preRow enc Tryz.prog Tryz.f7 Rows.fnAgainTxnOffsetCommitRequestUptoRow.domain false Rows.fnAgainTxnOffsetCommitRequestUptoRow.laid) (((Rows.OpenSpec.upto Rows.fnAgainTxnOffsetCommitRequestSpec).at F).post enc Tryz.prog Tryz.f7 false true false false) := by
  refine returnsInHanded_of_row (C := Tryz.checked) (s := Rows.OpenSpec.upto Rows.fnAgainTxnOffsetCommitRequestSpec) own started (by kernel_rfl) Tryz.func7
    (witness_row_atRef (enc := enc) (C := Tryz.checked) false (zbd os) #[.int .u8 0, .agg #[.int .i64 0, .slice none 0 0, .bool false, .slice none 0 0, .slice none 0 0]] rfl (by kernel_rfl) (by kernel_rfl) (by kernel_rfl) (witness_row os enc)) ?_
  intro W base args ds gs before hval0 hW _ hcond _ hL _ _
  have hval : ∀ (j : Nat) t v, Tryz.f7.params[j]? = some t → args[j]? = some v → Value.okWide Tryz.prog W .any base t v := hval0
  have hW' := hW
  obtain ⟨p, q, hA0, hV, rfl, hfz, hnd⟩ := hW
  have hA : DataW.TrodAll enc Tryz.prog W 0 (fun _ => true) true Tryz.f7.params.toList args.toList ds p := hA0
  rw [Tryz.params7] at hA hval
  obtain ⟨v0, vs0, d0, ds0, p0, q0, hargs, rfl, rfl, h0, r0⟩ := trodAll_cons hA
  obtain ⟨v1, vs1, d1, ds1, p1, q1, rfl, rfl, rfl, h1, r1⟩ := trodAll_cons r0
  obtain ⟨rfl, rfl, rfl⟩ := trodAll_nil r1
  obtain rfl : args = #[v0, v1] := by cases args; simp_all
  obtain ⟨rfl, rfl⟩ := trodVars_none hV
  simp only [List.append_nil] at hW' hcond
  have hbulk := hcond _ rfl
  replace hbulk := of_decide_eq_true hbulk
  simp only [Rows.uptoBulkAll] at hbulk
  have hlt : ∀ x ∈ _, MemPlace.block x < W.heap.size := fun x hx => hW'.lt x hx
  obtain ⟨a0, rfl, rfl, rfl, x0⟩ := open_int Tryz.underlying5 (hval 0 5 v0 rfl rfl) h0
  have y0 : 0 ≤ a0 ∧ a0 < 256 := by have h := x0; simp only [Lit.wf, IntKind.min, IntKind.max, IntKind.signed, IntKind.bits, Bool.and_eq_true, decide_eq_true_eq] at h; simp at h; omega
  obtain ⟨ts, T, rfl, hT, hkey, hbT⟩ := tree_arg (hval 1 26 v1 rfl rfl) h1 (by omega)
  clear hA0 hval0
  refine Calls.mono (walk_FnAgainTxnOffsetCommitRequest y0.1 y0.2 hT hkey hbT (errW_of hL)) fun e W' ⟨v, he, hv, hc⟩ => ?_
  subst he
  subst hv
  exact ⟨_, rfl, _, _, _, [], _, [], hW', trodAll_cons_mk (shut_bool Tryz.underlying4 _) trodAll_mk0, trodAll_cons_mk (shut_int Tryz.underlying5 x0) (trodAll_cons_mk (tree_same h1 hc (fun x hx => hlt x (by simp [hx]))) (trodAll_mk0)), rfl, (below_of hc).frame _, fun h => by cases h⟩
theorem c2 : (Rows.fnAgainTxnOffsetCommitRequestUptoRow.inPlace == Tryz.prog.inPlace 7) = true := by kernel_rfl
theorem c3 : (Rows.fnAgainTxnOffsetCommitRequestUptoRow.unfollowed == Tryz.prog.unfollowed 7) = true := by kernel_rfl
theorem c4 : (Rows.fnAgainTxnOffsetCommitRequestUptoRow.recurses == Tryz.prog.recurses 7) = true := by kernel_rfl
theorem c5 : (Rows.fnAgainTxnOffsetCommitRequestUptoRow.named == Tryz.prog.varsNamed 7) = true := by kernel_rfl
theorem c7 : (Rows.fnAgainTxnOffsetCommitRequestUptoRow.lifted == Tryz.prog.liftsFinal) = true := by
  have h : Rows.fnAgainTxnOffsetCommitRequestUptoRow.lifted = Facts.lifted := rfl
  rw [h]; exact Facts.c7
theorem c8 : (Tryz.prog.make == some Rows.fnAgainTxnOffsetCommitRequestUptoRow.make) = true := by
  have h : Rows.fnAgainTxnOffsetCommitRequestUptoRow.make = Facts.make := rfl
  rw [h]; exact Facts.c8
theorem c9 : (Rows.fnAgainTxnOffsetCommitRequestUptoRow.plainKeys == Tryz.prog.plainKeys) = true := by
  have h : Rows.fnAgainTxnOffsetCommitRequestUptoRow.plainKeys = Facts.plainKeys := rfl
  rw [h]; exact Facts.c9
theorem c11 : Tryz.prog.funcNamed Rows.fnAgainTxnOffsetCommitRequestUptoRow.func = some 7 := by kernel_rfl
theorem closed : joinedFacts Tryz.prog 7 Tryz.f7 (Rows.OpenSpec.upto Rows.fnAgainTxnOffsetCommitRequestSpec).bare Rows.fnAgainTxnOffsetCommitRequestUptoRow = true := by
  unfold joinedFacts
  simp only [Bool.and_eq_true]
  repeat' (refine And.intro ?_ ?_)
  all_goals first | with_reducible exact Facts.c1 | with_reducible exact Facts.c0 | with_reducible exact c2 | with_reducible exact c3 | with_reducible exact c4 | with_reducible exact c5 | with_reducible exact Facts.c6 | with_reducible exact c7 | with_reducible exact c8 | with_reducible exact c9 | with_reducible exact Facts.c10 | kernel_rfl
theorem over : Rows.FnAgainTxnOffsetCommitRequestUptoSaid :=
  OpenClaim.holds_of_cond 7 Tryz.f7 rfl rfl rfl rfl rfl rfl rfl ⟨rfl, rfl, rfl, rfl, rfl⟩ rfl rfl rfl rfl rfl c11 Tryz.func7 closed
    (of_decide_eq_true (by kernel_rfl)) (by unfold Func.isWrapper; first | (rw [if_pos (by decide +kernel)]; kernel_rfl) | (rw [if_neg (by decide +kernel)]; exact ⟨rfl, rfl⟩))
    (fun os started H enc _ F => by rw [OpenClaim.pre_eq_preRow]; exact lifted os started H enc F)
theorem plain (f : FuncId) (fn : Func) (hf : Tryz.pinned.checked.prog.funcNamed "pub-kmsg/laws.FnAgainTxnOffsetCommitRequest" = some f) (hfn : Tryz.pinned.checked.prog.funcs[f]? = some fn) :
    false = Tryz.pinned.checked.prog.looks [] ∧ ∀ (j : Nat) t, fn.params[j]? = some t → Tryz.pinned.checked.prog.wantsStandIn t = false := by
  obtain rfl : f = 7 := Option.some.inj ((show Tryz.prog.funcNamed "pub-kmsg/laws.FnAgainTxnOffsetCommitRequest" = some 7 by kernel_rfl).symm.trans hf) |>.symm
  obtain rfl : fn = Tryz.f7 := (Option.some.inj (Tryz.func7.symm.trans hfn)).symm
  refine ⟨by kernel_rfl, fun j t ht => ?_⟩
  rw [Tryz.params7] at ht
  have hw0 : Tryz.prog.wantsStandIn 5 = false := by kernel_rfl
  have hw1 : Tryz.prog.wantsStandIn 26 = false := by kernel_rfl
  have hm := Array.mem_of_getElem? ht
  simp only [List.mem_toArray, List.mem_cons, List.not_mem_nil, or_false] at hm
  rcases hm with rfl | rfl <;> assumption
end fnAgainTxnOffsetCommitRequest
theorem fnAgainTxnOffsetCommitRequest_holds : Rows.FnAgainTxnOffsetCommitRequestUptoCardSaid :=
  Claim7.holds_tied_plain_at .later [] _ _ _ _ fnAgainTxnOffsetCommitRequest.over (fun _ h => by cases h) (by kernel_rfl) (fun _ h => by cases h) fnAgainTxnOffsetCommitRequestUpto_row_tie rfl ⟨rfl, rfl⟩ (by kernel_rfl) rfl fnAgainTxnOffsetCommitRequest.plain (by kernel_rfl)
#print axioms fnAgainTxnOffsetCommitRequest_holds
end Go.Proofs.YtdafbdbfhjmmaaaGreatDoor

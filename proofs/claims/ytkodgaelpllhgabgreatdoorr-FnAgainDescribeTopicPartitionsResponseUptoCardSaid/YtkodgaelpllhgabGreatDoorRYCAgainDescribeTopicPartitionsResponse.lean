/-
What a DescribeTopicPartitionsResponse says, written by the rules of the protocol, is read, and written back byte by byte: for every input of bulk at most 1048576 the law returns true. Conditions: the listed variable holds what the text lays (tied by the card).
-/
import Derived.Test.YtkodgaelpllhgabGreatDoorRYE
import Derived.Test.YtkodgaelpllhgabGreatDoorRYW
import Derived.Test.YtkodgaelpllhgabGreatDoorRYN
import Derived.Test.YtkodgaelpllhgabGreatDoorRYF
import Derived.Test.YtkodgaelpllhgabGreatDoorRYP
namespace Go.Proofs.YtkodgaelpllhgabGreatDoorR
set_option linter.all false
open Go.RowKit
set_option maxRecDepth 100000
set_option maxHeartbeats 2000000
def sch_sDescribeTopicPartitionsResponseTopicPartition : List Fld := [.mk .i16 0 (-1) (-1) (-1) 0 .bool [], .mk .i32 0 (-1) (-1) (-1) 0 .bool [], .mk .i32 0 (-1) (-1) (-1) 0 .bool [], .mk .i32 0 (-1) (-1) (-1) (-1) .bool [], .mk .list 0 (-1) (-1) (-1) 0 .i32 [], .mk .list 0 (-1) (-1) (-1) 0 .i32 [], .mk .list 0 (-1) 0 (-1) 0 .i32 [], .mk .list 0 (-1) 0 (-1) 0 .i32 [], .mk .list 0 (-1) (-1) (-1) 0 .i32 []]
def sch_sDescribeTopicPartitionsResponseTopic : List Fld := [.mk .i16 0 (-1) (-1) (-1) 0 .bool [], .mk .text 0 (-1) 0 (-1) 0 .bool [], .mk .uuid 0 (-1) (-1) (-1) 0 .bool [], .mk .bool 0 (-1) (-1) (-1) 0 .bool [], .mk .list 0 (-1) (-1) (-1) 0 .struct sch_sDescribeTopicPartitionsResponseTopicPartition, .mk .i32 0 (-1) (-1) (-1) (-2147483648) .bool []]
def sch_sDescribeTopicPartitionsResponseNextCursor : List Fld := [.mk .text 0 (-1) (-1) (-1) 0 .bool [], .mk .i32 0 (-1) (-1) (-1) 0 .bool []]
def sch_DescribeTopicPartitionsResponse : List Fld := [.mk .i32 0 (-1) (-1) (-1) 0 .bool [], .mk .list 0 (-1) (-1) (-1) 0 .struct sch_sDescribeTopicPartitionsResponseTopic, .mk .struct 0 (-1) 0 (-1) 0 .bool sch_sDescribeTopicPartitionsResponseNextCursor]
theorem elz_k_Int32DescribeTopicPartitionsResponse : ∀ e, (Tryz.prog).underlying 88 = some (.slice e) → zeroB Tryz.prog e (.int .i32 0) := by
  intro e he
  have h : (Tryz.prog).underlying 88 = some (.slice 21) := by kernel_rfl
  rw [h] at he; cases he
  exact fun w => Tryz.zeroValue21 w
def zz_sDescribeTopicPartitionsResponseTopicPartition : List Value := [.int .i16 0, .int .i32 0, .int .i32 0, .int .i32 0, .slice none 0 0, .slice none 0 0, .slice none 0 0, .slice none 0 0, .slice none 0 0, .map none]
def dd_sDescribeTopicPartitionsResponseTopicPartition : List Value := [.int .i16 0, .int .i32 0, .int .i32 0, .int .i32 (-1), .slice none 0 0, .slice none 0 0, .slice none 0 0, .slice none 0 0, .slice none 0 0, .map none]
theorem elz_sDescribeTopicPartitionsResponseTopicPartition : ∀ e, (Tryz.prog).underlying 80 = some (.slice e) → zeroB Tryz.prog e (zaR zz_sDescribeTopicPartitionsResponseTopicPartition) := by
  intro e he
  have h : (Tryz.prog).underlying 80 = some (.slice 90) := by kernel_rfl
  rw [h] at he; cases he
  exact fun w => Tryz.zeroValue90 w
theorem eln_sDescribeTopicPartitionsResponseTopicPartition : zaT Tryz.prog 79 := (fun args w => Tryz.call79 args w)
theorem eld_sDescribeTopicPartitionsResponseTopicPartition : DefC 79 (zaR zz_sDescribeTopicPartitionsResponseTopicPartition).cells.toList dd_sDescribeTopicPartitionsResponseTopicPartition := by
  intro w b off cs T hb hlen hseg
  refine callsR_of0 Tryz.func79 rfl rfl Tryz.ntmps79 (by simp) ?_
  intro a hN hD ha
  have h0 : get a 0 = .pointer (some ⟨b, off, none⟩) := ha 0 _ rfl
  have hl : off + zz_sDescribeTopicPartitionsResponseTopicPartition.length ≤ cs.length := hlen
  have e : zaA cs off zz_sDescribeTopicPartitionsResponseTopicPartition = cs := splice_same hseg hlen
  rw [← e] at hb
  refine wp_def1 (k := 3) (v := .int .i32 (-1)) hN hD h0 hb hl (by kernel_rfl) ⟨rfl, rfl⟩ fun a0 w0 hN0 hD0 g0 hb0 hc0 => ?_
  exact ⟨hD0, hb0, hc0⟩
def zz_sDescribeTopicPartitionsResponseTopic : List Value := [.int .i16 0, .pointer none, .int .u8 0, .int .u8 0, .int .u8 0, .int .u8 0, .int .u8 0, .int .u8 0, .int .u8 0, .int .u8 0, .int .u8 0, .int .u8 0, .int .u8 0, .int .u8 0, .int .u8 0, .int .u8 0, .int .u8 0, .int .u8 0, .bool false, .slice none 0 0, .int .i32 0, .map none]
def dd_sDescribeTopicPartitionsResponseTopic : List Value := [.int .i16 0, .pointer none, .int .u8 0, .int .u8 0, .int .u8 0, .int .u8 0, .int .u8 0, .int .u8 0, .int .u8 0, .int .u8 0, .int .u8 0, .int .u8 0, .int .u8 0, .int .u8 0, .int .u8 0, .int .u8 0, .int .u8 0, .int .u8 0, .bool false, .slice none 0 0, .int .i32 (-2147483648), .map none]
theorem elz_sDescribeTopicPartitionsResponseTopic : ∀ e, (Tryz.prog).underlying 59 = some (.slice e) → zeroB Tryz.prog e (zaR zz_sDescribeTopicPartitionsResponseTopic) := by
  intro e he
  have h : (Tryz.prog).underlying 59 = some (.slice 82) := by kernel_rfl
  rw [h] at he; cases he
  exact fun w => Tryz.zeroValue82 w
theorem eln_sDescribeTopicPartitionsResponseTopic : zaT Tryz.prog 71 := (fun args w => Tryz.call71 args w)
theorem eld_sDescribeTopicPartitionsResponseTopic : DefC 71 (zaR zz_sDescribeTopicPartitionsResponseTopic).cells.toList dd_sDescribeTopicPartitionsResponseTopic := by
  intro w b off cs T hb hlen hseg
  refine callsR_of0 Tryz.func71 rfl rfl Tryz.ntmps71 (by simp) ?_
  intro a hN hD ha
  have h0 : get a 0 = .pointer (some ⟨b, off, none⟩) := ha 0 _ rfl
  have hl : off + zz_sDescribeTopicPartitionsResponseTopic.length ≤ cs.length := hlen
  have e : zaA cs off zz_sDescribeTopicPartitionsResponseTopic = cs := splice_same hseg hlen
  rw [← e] at hb
  refine wp_def1 (k := 20) (v := .int .i32 (-2147483648)) hN hD h0 hb hl (by kernel_rfl) ⟨rfl, rfl⟩ fun a0 w0 hN0 hD0 g0 hb0 hc0 => ?_
  exact ⟨hD0, hb0, hc0⟩
def zz_sDescribeTopicPartitionsResponseNextCursor : List Value := [.string ⟨#[]⟩, .int .i32 0, .map none]
def dd_sDescribeTopicPartitionsResponseNextCursor : List Value := [.string ⟨#[]⟩, .int .i32 0, .map none]
theorem elp_sDescribeTopicPartitionsResponseNextCursor : zeroB Tryz.prog 94 (zaR zz_sDescribeTopicPartitionsResponseNextCursor) := fun w => Tryz.zeroValue94 w
theorem eln_sDescribeTopicPartitionsResponseNextCursor : zaT Tryz.prog 82 := (fun args w => Tryz.call82 args w)
theorem eld_sDescribeTopicPartitionsResponseNextCursor : DefC 82 (zaR zz_sDescribeTopicPartitionsResponseNextCursor).cells.toList dd_sDescribeTopicPartitionsResponseNextCursor := by
  intro w b off cs T hb hlen hseg
  refine callsR_of0 Tryz.func82 rfl rfl Tryz.ntmps82 (by simp) ?_
  intro a hN hD ha
  refine wp_skip ⟨hD, ?_, Chg.refl _ _⟩
  have e : zaA cs off dd_sDescribeTopicPartitionsResponseNextCursor = cs := splice_same hseg hlen
  rw [e]; exact hb
def dd_DescribeTopicPartitionsResponse : List Value := [.int .i32 0, .slice none 0 0, .pointer none, .map none]
theorem defm_DescribeTopicPartitionsResponse : DefM 31 dd_DescribeTopicPartitionsResponse := by
  intro w B v T hb
  refine callsR_of0 Tryz.func31 rfl rfl Tryz.ntmps31 (by simp) ?_
  intro a hN hD ha
  have h0 : get a 0 = .pointer (some ⟨B, 0, none⟩) := ha 0 _ rfl
  exact wp_defv (k := 3) (n := 1) hN hD h0 (by kernel_rfl) fun a0 hN0 hD0 g0 => ⟨hD0, hb, Chg.refl _ _⟩
def zz_DescribeTopicPartitionsResponse : List Value := [.int .i32 0, .slice none 0 0, .pointer none, .map none]
theorem defz_DescribeTopicPartitionsResponse : ∀ (w : World) (B : Nat) (v : Value) (T : TypeId), Blk w B (v :: zz_DescribeTopicPartitionsResponse) T → zaI Tryz.prog 31 #[.pointer (some ⟨B, 0, none⟩)] w fun _ w' => Blk w' B (v :: dd_DescribeTopicPartitionsResponse) T ∧ Chg (fun k => k = B) w w' := by
  intro w B v T hb
  refine callsR_of0 Tryz.func31 rfl rfl Tryz.ntmps31 (by simp) ?_
  intro a hN hD ha
  have h0 : get a 0 = .pointer (some ⟨B, 0, none⟩) := ha 0 _ rfl
  exact wp_defv (k := 3) (n := 1) hN hD h0 (by kernel_rfl) fun a0 hN0 hD0 g0 => ⟨hD0, hb, Chg.refl _ _⟩
theorem read_DescribeTopicPartitionsResponse : ReadsF 41 true (fun ver => decide (0 ≤ ver)) sch_DescribeTopicPartitionsResponse dd_DescribeTopicPartitionsResponse [.bool false] := by
  refine read_flex Tryz.func41 rfl rfl Tryz.ntmps41 (fun args w => Tryz.call31 args w) defm_DescribeTopicPartitionsResponse (by kernel_rfl) ?_
  intro ver hver
  (repeat' (first | (with_reducible refine rt_tagged rfl rfl ?_) | (with_reducible refine rt_next rfl (by kernel_rfl) ?_ ?_) | (with_reducible refine rt_end rfl ?_) | (with_reducible refine rt_noflex rfl ?_) | (with_reducible refine rt_fin co_en (by kernel_rfl) (by kernel_rfl)) | (with_reducible refine rt_tl (I := 1000) (by kernel_rfl) ?_ ?_) | (with_reducible refine rd_tags (by kernel_rfl) tagOK_all tg_en (by kernel_rfl) (by kernel_rfl)) | (with_reducible refine rd_tagged rfl rfl ?_) | (with_reducible refine rd_noflex rfl ?_) | (with_reducible refine rd_last rfl rfl (by kernel_rfl) ?_) | (with_reducible refine rd_next rfl (by kernel_rfl) (by kernel_rfl) ?_ ?_) | (with_reducible refine rd_end rfl ?_) | (with_reducible refine sf_all rfl (by dsimp only; omega) ?_) | ((with_reducible refine sf_from rfl (by kernel_rfl) (fun hv => ?_)); try dsimp only at hv) | ((with_reducible refine sf_range rfl (by kernel_rfl) (fun hv hv2 => ?_)); try dsimp only at hv hv2) | (with_reducible refine rf_ptr rfl (by kernel_rfl) eln_sDescribeTopicPartitionsResponseNextCursor elp_sDescribeTopicPartitionsResponseNextCursor eld_sDescribeTopicPartitionsResponseNextCursor (by kernel_rfl) ?_ (by kernel_rfl) (by kernel_rfl) (by kernel_rfl)) | (with_reducible refine rf_listN rfl (by kernel_rfl) elz_sDescribeTopicPartitionsResponseTopicPartition (by kernel_rfl) ?_ ok_en co_en ?_ (by kernel_rfl)) | (with_reducible refine rf_listN rfl (by kernel_rfl) elz_sDescribeTopicPartitionsResponseTopic (by kernel_rfl) ?_ ok_en co_en ?_ (by kernel_rfl)) | (with_reducible refine rf_listN rfl (by kernel_rfl) elz_k_Int32DescribeTopicPartitionsResponse (by kernel_rfl) ?_ ok_en co_en ?_ (by kernel_rfl)) | (with_reducible refine rf_list1 rfl (by kernel_rfl) elz_k_Int32DescribeTopicPartitionsResponse (by kernel_rfl) ?_ ok_en co_en ?_ (by kernel_rfl)) | (with_reducible refine rf_list1 rfl (by kernel_rfl) elz_sDescribeTopicPartitionsResponseTopicPartition (by kernel_rfl) ?_ ok_en co_en ?_ (by kernel_rfl)) | (with_reducible refine el_struct1 (by kernel_rfl) eln_sDescribeTopicPartitionsResponseTopicPartition eld_sDescribeTopicPartitionsResponseTopicPartition (by kernel_rfl) ?_ (by kernel_rfl) (by kernel_rfl) (by kernel_rfl)) | (with_reducible refine rf_list1 rfl (by kernel_rfl) elz_sDescribeTopicPartitionsResponseTopic (by kernel_rfl) ?_ ok_en co_en ?_ (by kernel_rfl)) | (with_reducible refine el_struct1 (by kernel_rfl) eln_sDescribeTopicPartitionsResponseTopic eld_sDescribeTopicPartitionsResponseTopic (by kernel_rfl) ?_ (by kernel_rfl) (by kernel_rfl) (by kernel_rfl)) | (with_reducible refine rf_store ?_ rfl (by kernel_rfl) (by kernel_rfl) (by kernel_rfl)) | (with_reducible refine rf_store2 ?_ rfl (by kernel_rfl) (by kernel_rfl) (by kernel_rfl) (by kernel_rfl)) | (with_reducible refine rd_pre ?_ (by kernel_rfl)) | (with_reducible refine rv_safe ?_ (by kernel_rfl)) | (with_reducible refine rv_flex rfl (fun hx => ?_) (fun hx => ?_) (by kernel_rfl)) | (with_reducible refine rv_i16 (by kernel_rfl)) | (with_reducible refine rv_i32 (by kernel_rfl)) | (with_reducible refine rv_bool (by kernel_rfl)) | (with_reducible refine rv_string rfl (by first | assumption | rfl) (by kernel_rfl)) | (with_reducible refine rv_cstring rfl (by first | assumption | rfl) (by kernel_rfl)) | (with_reducible refine rv_nstring rfl (by first | assumption | rfl) (by dsimp only; omega) (by kernel_rfl)) | (with_reducible refine rv_cnstring rfl (by first | assumption | rfl) (by dsimp only; omega) (by kernel_rfl)) | (with_reducible refine rf_uuid2 rfl (by kernel_rfl) (by kernel_rfl) (by kernel_rfl) (by kernel_rfl) (by kernel_rfl)) | (with_reducible refine rv_again ?_ (by kernel_rfl)) | (with_reducible refine rv_pre ?_ (by kernel_rfl)) | (with_reducible refine rn_plain (by first | assumption | rfl) (by kernel_rfl)) | (with_reducible refine rn_cplain (by first | assumption | rfl) (by kernel_rfl)) | (with_reducible refine rn_flex rfl (fun hx => ?_) (fun hx => ?_) (by kernel_rfl)) | (with_reducible refine el_pre ?_ (by kernel_rfl)) | (with_reducible refine el_val1 (by kernel_rfl) (rv_elem rfl ?_) (by kernel_rfl) (by kernel_rfl))))
theorem app_DescribeTopicPartitionsResponse : AppendsTo 23 true (fun ver => decide (0 ≤ ver)) sch_DescribeTopicPartitionsResponse := by
  refine app_flex Tryz.func23 rfl rfl Tryz.ntmps23 (by kernel_rfl) ?_
  intro ver s hver
  (repeat' (first | with_reducible refine wt_start ?_ | with_reducible refine wp_noflex rfl ?_ | with_reducible refine wr_start ?_ | with_reducible refine wt_tagged rfl rfl ?_ | (with_reducible refine wt_next rfl (by kernel_rfl) (fun d hd => ?_) ?_) | (with_reducible refine wt_fin rfl rfl ?_) | (with_reducible refine wt_end rfl (by kernel_rfl) ?_ ?_) | (with_reducible refine wt_ret (by kernel_rfl)) | with_reducible refine wr_tagged rfl rfl ?_ | (with_reducible refine wr_last rfl rfl (fun d hd => ?_)) | (with_reducible refine wr_next rfl (by kernel_rfl) (fun d hd => ?_) ?_) | (with_reducible refine wr_end rfl ?_) | (with_reducible refine wr_tail rfl (by kernel_rfl) k_uint32 (by kernel_rfl)) | (with_reducible refine wf_all rfl (by dsimp only; omega) ?_) | ((with_reducible refine wf_from rfl (by kernel_rfl) (fun hv => ?_)); try dsimp only at hv) | ((with_reducible refine wf_range rfl (by kernel_rfl) (fun hv hv2 => ?_)); try dsimp only at hv hv2) | (with_reducible refine wf_ptr rfl hd (by kernel_rfl) (by kernel_rfl) rfl (by kernel_rfl) (fun s => ?_)) | (with_reducible refine wf_load rfl hd (by kernel_rfl) (by kernel_rfl) rfl ?_) | (with_reducible refine wf_uuid rfl hd (by kernel_rfl) uuidZero (by kernel_rfl)) | (with_reducible refine wf_inner rfl hd (by kernel_rfl) (by kernel_rfl) rfl (fun s => ?_)) | (with_reducible refine wv_bool (by kernel_rfl)) | (with_reducible refine wv_i16 (by kernel_rfl)) | (with_reducible refine wv_i32 (by kernel_rfl)) | (with_reducible refine wv_flexS rfl (by kernel_rfl) (fun hx => ?_) (fun hx => ?_)) | (with_reducible refine wv_string rfl (by first | assumption | rfl) (by kernel_rfl)) | (with_reducible refine wv_cstring rfl (by first | assumption | rfl) (by kernel_rfl)) | (with_reducible refine wv_nstring rfl (by dsimp only; omega) (by first | assumption | rfl) (by kernel_rfl)) | (with_reducible refine wv_cnstring rfl (by dsimp only; omega) (by first | assumption | rfl) (by kernel_rfl)) | ((with_reducible refine wv_otext rfl (by kernel_rfl) (by kernel_rfl) (by kernel_rfl) (by kernel_rfl) rfl (fun l => ?_) (fun hv => ?_)); (try dsimp only at hv)) | (with_reducible refine wv_listS (fun oa n cap M => ?_) (by kernel_rfl) (by kernel_rfl) (by kernel_rfl) (by kernel_rfl) (fun s => ?_)) | (with_reducible refine wv_listK (fun oa n cap M => ?_) (by kernel_rfl) (by kernel_rfl) (by kernel_rfl) (by kernel_rfl) (fun d => ?_)) | (with_reducible refine wn_flex rfl (by kernel_rfl) (fun hx => ?_) (fun hx => ?_)) | ((with_reducible refine wn_ver (by kernel_rfl) (fun hv => ?_) (fun hv => ?_)) <;> try dsimp only at hv) | (with_reducible refine wn_plain (by dsimp only; omega) (by first | assumption | rfl) (by kernel_rfl) (by kernel_rfl)) | (with_reducible refine wn_cplain (by dsimp only; omega) (by first | assumption | rfl) (by kernel_rfl) (by kernel_rfl)) | (with_reducible refine wn_null (by decide) (by dsimp only; omega) (by first | assumption | rfl) (by kernel_rfl) (by kernel_rfl)) | (with_reducible refine wn_cnull (by decide) (by dsimp only; omega) (by first | assumption | rfl) (by kernel_rfl) (by kernel_rfl)) | (with_reducible refine wv_again (by kernel_rfl) rfl ?_)))
end Go.Proofs.YtkodgaelpllhgabGreatDoorR
namespace Go.Proofs.YtkodgaelpllhgabGreatDoorR
set_option linter.all false
open Go.RowKit
set_option maxRecDepth 100000
set_option maxHeartbeats 2000000
def schr_sDescribeTopicPartitionsResponseTopicPartition : List Fld := [.mk .i16 0 (-1) (-1) (-1) 0 .bool [], .mk .i32 0 (-1) (-1) (-1) 0 .bool [], .mk .i32 0 (-1) (-1) (-1) 0 .bool [], .mk .i32 0 (-1) (-1) (-1) (-1) .bool [], .mk .list 0 (-1) (-1) (-1) 0 .i32 [], .mk .list 0 (-1) (-1) (-1) 0 .i32 [], .mk .list 0 (-1) (-1) (-1) 0 .i32 [], .mk .list 0 (-1) (-1) (-1) 0 .i32 [], .mk .list 0 (-1) (-1) (-1) 0 .i32 []]
def schr_sDescribeTopicPartitionsResponseTopic : List Fld := [.mk .i16 0 (-1) (-1) (-1) 0 .bool [], .mk .text 0 (-1) 0 (-1) 0 .bool [], .mk .uuid 0 (-1) (-1) (-1) 0 .bool [], .mk .bool 0 (-1) (-1) (-1) 0 .bool [], .mk .list 0 (-1) (-1) (-1) 0 .struct schr_sDescribeTopicPartitionsResponseTopicPartition, .mk .i32 0 (-1) (-1) (-1) (-2147483648) .bool []]
def schr_sDescribeTopicPartitionsResponseNextCursor : List Fld := [.mk .text 0 (-1) (-1) (-1) 0 .bool [], .mk .i32 0 (-1) (-1) (-1) 0 .bool []]
def schr_DescribeTopicPartitionsResponse : List Fld := [.mk .i32 0 (-1) (-1) (-1) 0 .bool [], .mk .list 0 (-1) (-1) (-1) 0 .struct schr_sDescribeTopicPartitionsResponseTopic, .mk .struct 0 (-1) 0 (-1) 0 .bool schr_sDescribeTopicPartitionsResponseNextCursor]
theorem lay_sDescribeTopicPartitionsResponseTopicPartition : LaysS 40 schr_sDescribeTopicPartitionsResponseTopicPartition := by
  intro w0
  refine zar Tryz.func40 rfl rfl Tryz.ntmps40 (by simp) ?_
  intro a hN hD ha
  refine wp_seq_k fun K hK => ?_; refine zah ?_; refine zam ?_; simp only [evb, kb, hN, seval]; refine zae ?_; refine hK _ _ ?_; clear hK K
  refine wp_seq_k fun K hK => ?_; refine zah ?_
  have hq : Chg (fun _ => False) w0 w0 := Chg.refl _ _
  refine zbe (l := zaK (.mk .i16 0 (-1) (-1) (-1) 0 .bool []) (.slice none 0 0)) (by simp only [List.map_toArray, List.map_cons, List.map_nil, evb, kb, hN, seval]; kernel_rfl) ?_
  refine zbe (l := zaK (.mk .i32 0 (-1) (-1) (-1) 0 .bool []) (.slice none 0 0)) (by simp only [List.map_toArray, List.map_cons, List.map_nil, evb, kb, hN, seval]; kernel_rfl) ?_
  refine zbe (l := zaK (.mk .i32 0 (-1) (-1) (-1) 0 .bool []) (.slice none 0 0)) (by simp only [List.map_toArray, List.map_cons, List.map_nil, evb, kb, hN, seval]; kernel_rfl) ?_
  refine zbe (l := zaK (.mk .i32 0 (-1) (-1) (-1) (-1) .bool []) (.slice none 0 0)) (by simp only [List.map_toArray, List.map_cons, List.map_nil, evb, kb, hN, seval]; kernel_rfl) ?_
  refine zbe (l := zaK (.mk .list 0 (-1) (-1) (-1) 0 .i32 []) (.slice none 0 0)) (by simp only [List.map_toArray, List.map_cons, List.map_nil, evb, kb, hN, seval]; kernel_rfl) ?_
  refine zbe (l := zaK (.mk .list 0 (-1) (-1) (-1) 0 .i32 []) (.slice none 0 0)) (by simp only [List.map_toArray, List.map_cons, List.map_nil, evb, kb, hN, seval]; kernel_rfl) ?_
  refine zbe (l := zaK (.mk .list 0 (-1) (-1) (-1) 0 .i32 []) (.slice none 0 0)) (by simp only [List.map_toArray, List.map_cons, List.map_nil, evb, kb, hN, seval]; kernel_rfl) ?_
  refine zbe (l := zaK (.mk .list 0 (-1) (-1) (-1) 0 .i32 []) (.slice none 0 0)) (by simp only [List.map_toArray, List.map_cons, List.map_nil, evb, kb, hN, seval]; kernel_rfl) ?_
  refine zbe (l := zaK (.mk .list 0 (-1) (-1) (-1) 0 .i32 []) (.slice none 0 0)) (by simp only [List.map_toArray, List.map_cons, List.map_nil, evb, kb, hN, seval]; kernel_rfl) ?_
  refine wl_fields schr_sDescribeTopicPartitionsResponseTopicPartition [zaK (.mk .i16 0 (-1) (-1) (-1) 0 .bool []) (.slice none 0 0), zaK (.mk .i32 0 (-1) (-1) (-1) 0 .bool []) (.slice none 0 0), zaK (.mk .i32 0 (-1) (-1) (-1) 0 .bool []) (.slice none 0 0), zaK (.mk .i32 0 (-1) (-1) (-1) (-1) .bool []) (.slice none 0 0), zaK (.mk .list 0 (-1) (-1) (-1) 0 .i32 []) (.slice none 0 0), zaK (.mk .list 0 (-1) (-1) (-1) 0 .i32 []) (.slice none 0 0), zaK (.mk .list 0 (-1) (-1) (-1) 0 .i32 []) (.slice none 0 0), zaK (.mk .list 0 (-1) (-1) (-1) 0 .i32 []) (.slice none 0 0), zaK (.mk .list 0 (-1) (-1) (-1) 0 .i32 []) (.slice none 0 0)] rfl (by simp only [List.map_toArray, List.map_cons, List.map_nil, evb, kb, hN, seval]; rfl) (by simp only [List.length_cons, List.length_nil]; omega) hq (.cons (zaS (.mk .i16 0 (-1) (-1) (-1) 0 .bool []) (schS_nil _ _ _ _)) (.cons (zaS (.mk .i32 0 (-1) (-1) (-1) 0 .bool []) (schS_nil _ _ _ _)) (.cons (zaS (.mk .i32 0 (-1) (-1) (-1) 0 .bool []) (schS_nil _ _ _ _)) (.cons (zaS (.mk .i32 0 (-1) (-1) (-1) (-1) .bool []) (schS_nil _ _ _ _)) (.cons (zaS (.mk .list 0 (-1) (-1) (-1) 0 .i32 []) (schS_nil _ _ _ _)) (.cons (zaS (.mk .list 0 (-1) (-1) (-1) 0 .i32 []) (schS_nil _ _ _ _)) (.cons (zaS (.mk .list 0 (-1) (-1) (-1) 0 .i32 []) (schS_nil _ _ _ _)) (.cons (zaS (.mk .list 0 (-1) (-1) (-1) 0 .i32 []) (schS_nil _ _ _ _)) (.cons (zaS (.mk .list 0 (-1) (-1) (-1) 0 .i32 []) (schS_nil _ _ _ _)) (.nil)))))))))) ?_
  rintro v wF hcF hkF hsF rfl
  refine zam ?_
  simp only [evb, kb, hN, seval]
  refine zae ?_; refine hK _ _ ?_; clear hK K
  refine wp_ret ⟨by simp [zai, hD], ?_⟩; simp only [evb, kb, hN, seval]
  exact ⟨hsF, hcF⟩
theorem lay_sDescribeTopicPartitionsResponseTopic : LaysS 19 schr_sDescribeTopicPartitionsResponseTopic := by
  intro w0
  refine zar Tryz.func19 rfl rfl Tryz.ntmps19 (by simp) ?_
  intro a hN hD ha
  refine wp_seq_k fun K hK => ?_; refine zah ?_; refine zam ?_; simp only [evb, kb, hN, seval]; refine zae ?_; refine hK _ _ ?_; clear hK K
  refine wp_seq_k fun K hK => ?_; refine zah ?_
  have hq : Chg (fun _ => False) w0 w0 := Chg.refl _ _
  refine zbe (l := zaK (.mk .i16 0 (-1) (-1) (-1) 0 .bool []) (.slice none 0 0)) (by simp only [List.map_toArray, List.map_cons, List.map_nil, evb, kb, hN, seval]; kernel_rfl) ?_
  refine zbe (l := zaK (.mk .text 0 (-1) 0 (-1) 0 .bool []) (.slice none 0 0)) (by simp only [List.map_toArray, List.map_cons, List.map_nil, evb, kb, hN, seval]; kernel_rfl) ?_
  refine zbe (l := zaK (.mk .uuid 0 (-1) (-1) (-1) 0 .bool []) (.slice none 0 0)) (by simp only [List.map_toArray, List.map_cons, List.map_nil, evb, kb, hN, seval]; kernel_rfl) ?_
  refine zbe (l := zaK (.mk .bool 0 (-1) (-1) (-1) 0 .bool []) (.slice none 0 0)) (by simp only [List.map_toArray, List.map_cons, List.map_nil, evb, kb, hN, seval]; kernel_rfl) ?_
  refine zaC (fun args w => Tryz.call40 args w) (by simp only [List.map_toArray, List.map_nil]; exact lay_sDescribeTopicPartitionsResponseTopicPartition _) ?_
  rintro v1 w1 ⟨hs1, hk1⟩
  replace hs1 := hs1.later (Chg.refl _ _) hq.size
  replace hq := hq.trans hk1 fun _ _ h => h
  obtain ⟨oa1, cap1, rfl, _⟩ := id hs1
  refine zbe (l := zaK (.mk .list 0 (-1) (-1) (-1) 0 .struct schr_sDescribeTopicPartitionsResponseTopicPartition) (.slice oa1 (schr_sDescribeTopicPartitionsResponseTopicPartition).length cap1)) (by simp only [List.map_toArray, List.map_cons, List.map_nil, evb, kb, hN, seval]; kernel_rfl) ?_
  refine zbe (l := zaK (.mk .i32 0 (-1) (-1) (-1) (-2147483648) .bool []) (.slice none 0 0)) (by simp only [List.map_toArray, List.map_cons, List.map_nil, evb, kb, hN, seval]; kernel_rfl) ?_
  refine wl_fields schr_sDescribeTopicPartitionsResponseTopic [zaK (.mk .i16 0 (-1) (-1) (-1) 0 .bool []) (.slice none 0 0), zaK (.mk .text 0 (-1) 0 (-1) 0 .bool []) (.slice none 0 0), zaK (.mk .uuid 0 (-1) (-1) (-1) 0 .bool []) (.slice none 0 0), zaK (.mk .bool 0 (-1) (-1) (-1) 0 .bool []) (.slice none 0 0), zaK (.mk .list 0 (-1) (-1) (-1) 0 .struct schr_sDescribeTopicPartitionsResponseTopicPartition) (.slice oa1 (schr_sDescribeTopicPartitionsResponseTopicPartition).length cap1), zaK (.mk .i32 0 (-1) (-1) (-1) (-2147483648) .bool []) (.slice none 0 0)] rfl (by simp only [List.map_toArray, List.map_cons, List.map_nil, evb, kb, hN, seval]; rfl) (by simp only [List.length_cons, List.length_nil]; omega) hq (.cons (zaS (.mk .i16 0 (-1) (-1) (-1) 0 .bool []) (schS_nil _ _ _ _)) (.cons (zaS (.mk .text 0 (-1) 0 (-1) 0 .bool []) (schS_nil _ _ _ _)) (.cons (zaS (.mk .uuid 0 (-1) (-1) (-1) 0 .bool []) (schS_nil _ _ _ _)) (.cons (zaS (.mk .bool 0 (-1) (-1) (-1) 0 .bool []) (schS_nil _ _ _ _)) (.cons (zaS (.mk .list 0 (-1) (-1) (-1) 0 .struct schr_sDescribeTopicPartitionsResponseTopicPartition) hs1) (.cons (zaS (.mk .i32 0 (-1) (-1) (-1) (-2147483648) .bool []) (schS_nil _ _ _ _)) (.nil))))))) ?_
  rintro v wF hcF hkF hsF rfl
  refine zam ?_
  simp only [evb, kb, hN, seval]
  refine zae ?_; refine hK _ _ ?_; clear hK K
  refine wp_ret ⟨by simp [zai, hD], ?_⟩; simp only [evb, kb, hN, seval]
  exact ⟨hsF, hcF⟩
theorem lay_sDescribeTopicPartitionsResponseNextCursor : LaysS 20 schr_sDescribeTopicPartitionsResponseNextCursor := by
  intro w0
  refine zar Tryz.func20 rfl rfl Tryz.ntmps20 (by simp) ?_
  intro a hN hD ha
  refine wp_seq_k fun K hK => ?_; refine zah ?_; refine zam ?_; simp only [evb, kb, hN, seval]; refine zae ?_; refine hK _ _ ?_; clear hK K
  refine wp_seq_k fun K hK => ?_; refine zah ?_
  have hq : Chg (fun _ => False) w0 w0 := Chg.refl _ _
  refine zbe (l := zaK (.mk .text 0 (-1) (-1) (-1) 0 .bool []) (.slice none 0 0)) (by simp only [List.map_toArray, List.map_cons, List.map_nil, evb, kb, hN, seval]; kernel_rfl) ?_
  refine zbe (l := zaK (.mk .i32 0 (-1) (-1) (-1) 0 .bool []) (.slice none 0 0)) (by simp only [List.map_toArray, List.map_cons, List.map_nil, evb, kb, hN, seval]; kernel_rfl) ?_
  refine wl_fields schr_sDescribeTopicPartitionsResponseNextCursor [zaK (.mk .text 0 (-1) (-1) (-1) 0 .bool []) (.slice none 0 0), zaK (.mk .i32 0 (-1) (-1) (-1) 0 .bool []) (.slice none 0 0)] rfl (by simp only [List.map_toArray, List.map_cons, List.map_nil, evb, kb, hN, seval]; rfl) (by simp only [List.length_cons, List.length_nil]; omega) hq (.cons (zaS (.mk .text 0 (-1) (-1) (-1) 0 .bool []) (schS_nil _ _ _ _)) (.cons (zaS (.mk .i32 0 (-1) (-1) (-1) 0 .bool []) (schS_nil _ _ _ _)) (.nil))) ?_
  rintro v wF hcF hkF hsF rfl
  refine zam ?_
  simp only [evb, kb, hN, seval]
  refine zae ?_; refine hK _ _ ?_; clear hK K
  refine wp_ret ⟨by simp [zai, hD], ?_⟩; simp only [evb, kb, hN, seval]
  exact ⟨hsF, hcF⟩
theorem lay_DescribeTopicPartitionsResponse : LaysM 8 schr_DescribeTopicPartitionsResponse 0 := by
  intro w
  refine callsR_ofC Tryz.func8 rfl rfl (by kernel_rfl) Tryz.ntmps8 (by simp) ?_
  intro a hN hD ha
  refine wp_seq_k fun K hK => ?_; refine zah ?_
  refine zbb (z := zaR [.slice none 0 0, .int .i64 0]) (fun w => Tryz.zeroValue32 w) fun w0 hc0 hb0 hs0 => ?_
  refine zae ?_; refine hK _ _ ?_; clear hK K
  refine wp_seq_k fun K hK => ?_; refine zah ?_
  have hq : Chg (fun _ => False) w0 w0 := Chg.refl _ _
  refine zbe (l := zaK (.mk .i32 0 (-1) (-1) (-1) 0 .bool []) (.slice none 0 0)) (by simp only [List.map_toArray, List.map_cons, List.map_nil, evb, kb, hN, seval]; kernel_rfl) ?_
  refine zaC (fun args w => Tryz.call19 args w) (by simp only [List.map_toArray, List.map_nil]; exact lay_sDescribeTopicPartitionsResponseTopic _) ?_
  rintro v1 w1 ⟨hs1, hk1⟩
  replace hs1 := hs1.later (Chg.refl _ _) hq.size
  replace hq := hq.trans hk1 fun _ _ h => h
  obtain ⟨oa1, cap1, rfl, _⟩ := id hs1
  refine zbe (l := zaK (.mk .list 0 (-1) (-1) (-1) 0 .struct schr_sDescribeTopicPartitionsResponseTopic) (.slice oa1 (schr_sDescribeTopicPartitionsResponseTopic).length cap1)) (by simp only [List.map_toArray, List.map_cons, List.map_nil, evb, kb, hN, seval]; kernel_rfl) ?_
  refine zaC (fun args w => Tryz.call20 args w) (by simp only [List.map_toArray, List.map_nil]; exact lay_sDescribeTopicPartitionsResponseNextCursor _) ?_
  rintro v2 w2 ⟨hs2, hk2⟩
  replace hs2 := hs2.later (Chg.refl _ _) hq.size
  replace hs1 := hs1.later hk2 (Nat.le_refl _)
  replace hq := hq.trans hk2 fun _ _ h => h
  obtain ⟨oa2, cap2, rfl, _⟩ := id hs2
  refine zbe (l := zaK (.mk .struct 0 (-1) 0 (-1) 0 .bool schr_sDescribeTopicPartitionsResponseNextCursor) (.slice oa2 (schr_sDescribeTopicPartitionsResponseNextCursor).length cap2)) (by simp only [List.map_toArray, List.map_cons, List.map_nil, evb, kb, hN, seval]; kernel_rfl) ?_
  refine wl_fields schr_DescribeTopicPartitionsResponse [zaK (.mk .i32 0 (-1) (-1) (-1) 0 .bool []) (.slice none 0 0), zaK (.mk .list 0 (-1) (-1) (-1) 0 .struct schr_sDescribeTopicPartitionsResponseTopic) (.slice oa1 (schr_sDescribeTopicPartitionsResponseTopic).length cap1), zaK (.mk .struct 0 (-1) 0 (-1) 0 .bool schr_sDescribeTopicPartitionsResponseNextCursor) (.slice oa2 (schr_sDescribeTopicPartitionsResponseNextCursor).length cap2)] rfl (by simp only [List.map_toArray, List.map_cons, List.map_nil, evb, kb, hN, seval]; rfl) (by simp only [List.length_cons, List.length_nil]; omega) hq (.cons (zaS (.mk .i32 0 (-1) (-1) (-1) 0 .bool []) (schS_nil _ _ _ _)) (.cons (zaS (.mk .list 0 (-1) (-1) (-1) 0 .struct schr_sDescribeTopicPartitionsResponseTopic) hs1) (.cons (zaS (.mk .struct 0 (-1) 0 (-1) 0 .bool schr_sDescribeTopicPartitionsResponseNextCursor) hs2) (.nil)))) ?_
  rintro v wF hcF hkF hsF rfl
  refine zbe (l := [.slice (some ⟨w2.heap.size, 0, none⟩) (schr_DescribeTopicPartitionsResponse).length (schr_DescribeTopicPartitionsResponse).length, .int .i64 0]) (by simp only [List.map_toArray, List.map_cons, List.map_nil, evb, kb, hN, seval]; kernel_rfl) ?_
  have hbF := hb0.chg hcF (fun h => h)
  refine zbf (b := w.heap.size) (n := 2) (l' := [.slice (some ⟨w2.heap.size, 0, none⟩) (schr_DescribeTopicPartitionsResponse).length (schr_DescribeTopicPartitionsResponse).length, .int .i64 0]) (by kernel_rfl) (by simp [evb, kb, hN, sdb]) (by simp [evb, kb, hN, sdb]) hbF rfl (by intro y hy; simp only [List.mem_cons, List.not_mem_nil, or_false] at hy; rcases hy with rfl | rfl <;> rfl) rfl fun wE hbE hcE => ?_
  refine zae ?_; refine hK _ _ ?_; clear hK K
  refine wp_ret ⟨by simp [zai, hD], w.heap.size, _, _, by simp only [evb, kb, hN, seval], hbE, by kernel_rfl, ⟨_, rfl, SchS.stay ⟨fun k hk hg => ⟨hcE.block k hk (by omega), by omega⟩⟩ hsF, ?_⟩⟩
  exact (hc0.trans hcF fun _ _ h => h).trans hcE fun k hk h => by omega
theorem new_DescribeTopicPartitionsResponse : NewsPtr 16 dd_DescribeTopicPartitionsResponse :=
  newptr_of zz_DescribeTopicPartitionsResponse dd_DescribeTopicPartitionsResponse Tryz.func16 rfl rfl Tryz.ntmps16 (by kernel_rfl) (fun w => Tryz.zeroValue65 w) (fun args w => Tryz.call31 args w) defz_DescribeTopicPartitionsResponse
theorem max_DescribeTopicPartitionsResponse : MaxIs 6 0 := by
  intro w
  refine zar Tryz.func6 rfl rfl Tryz.ntmps6 (by simp) ?_
  intro a hN hD ha
  refine wp_seq_k fun K hK => ?_; refine zah ?_; refine zam ?_; refine zae ?_; refine hK _ _ ?_; clear hK K
  refine wp_seq_k fun K hK => ?_; refine zah ?_
  refine zaC (fun args w => Tryz.call16 args w) (by simp only [List.map_toArray, List.map_nil]; exact new_DescribeTopicPartitionsResponse w) ?_
  rintro v w1 ⟨rfl, hc, _⟩
  refine zaC (fun args w => Tryz.call17 args w) (by simp only [List.map_toArray, List.map_cons, List.map_nil]; simp only [evb, kb, hN, seval]; exact maxver_of Tryz.func17 rfl rfl Tryz.ntmps17 (by kernel_rfl) _ w1) ?_
  rintro _ w2 ⟨rfl, rfl⟩
  (repeat (first | ((with_reducible refine zax ?_ ?_ ?_ ?_); (· exact rfl); (· simp [evb, kb, hN, dyb, sdb] <;> omega); (· kernel_rfl); try simp only [evb, kb, hN, seval, pvb]) | ((with_reducible refine zak ?_ ?_ ?_); rotate_left 1; (· simp [evb, kb, hN, sdb]); rotate_left 1; (· kernel_rfl); try simp only [evb, kb, hN, seval, pvb])))
  refine zae ?_; refine hK _ _ ?_; clear hK K; refine wp_ret ⟨by simp [zai, hD], ?_⟩; simp only [evb, kb, hN, seval]
  exact ⟨by first | rfl | trivial, hc⟩
theorem setv_DescribeTopicPartitionsResponse : SetsVersion 21 := setver_of Tryz.func21 rfl rfl Tryz.ntmps21 (by kernel_rfl)
theorem from_DescribeTopicPartitionsResponse : ReadsFrom 22 41 := fun h => readfrom_c Tryz.func22 rfl rfl Tryz.ntmps22 (fun args w => Tryz.call41 args w) h
theorem ag_DescribeTopicPartitionsResponse : AgC 10 (fun ver => decide (0 ≤ ver)) 0 sch_DescribeTopicPartitionsResponse := fun ver h0 h1 w G oa bs cap hsrc hlim herr hout =>
  again_of Tryz.func10 rfl rfl Tryz.ntmps10 (fun args w => Tryz.call16 args w) (fun args w => Tryz.call21 args w) (fun args w => Tryz.call22 args w) (fun args w => Tryz.call23 args w) new_DescribeTopicPartitionsResponse setv_DescribeTopicPartitionsResponse from_DescribeTopicPartitionsResponse read_DescribeTopicPartitionsResponse app_DescribeTopicPartitionsResponse h0 (by omega) hsrc hlim herr hout
theorem ok_DescribeTopicPartitionsResponse : SchOK (fun ver => decide (0 ≤ ver)) 0 sch_DescribeTopicPartitionsResponse := schB_out (by kernel_rfl)
theorem okr_DescribeTopicPartitionsResponse : SchOK (fun ver => decide (0 ≤ ver)) 0 schr_DescribeTopicPartitionsResponse := schB_out (by kernel_rfl)
theorem near_DescribeTopicPartitionsResponse : nearL sch_DescribeTopicPartitionsResponse schr_DescribeTopicPartitionsResponse = true := by kernel_rfl
theorem walk_FnAgainDescribeTopicPartitionsResponse {a : Int} (hn : 0 ≤ a) (hn2 : a < 256) {w : World} {G : Nat → Prop} {v : Tr} {ts : List Value} (hv : TrC w G v ts) (hkv : keyV v) (hb : za9 v ≤ 1048576) (herr : ErrW w) :
    zaI Tryz.prog 3 #[.int .u8 a, zaR ts] w fun v w' => v = .bool true ∧ Chg (fun _ => False) w w' :=
  lawAgainN_of Tryz.func3 rfl rfl (by kernel_rfl) rfl Tryz.ntmps3 (fun args w => Tryz.call6 args w) (fun args w => Tryz.call8 args w) (fun args w => Tryz.call10 args w) max_DescribeTopicPartitionsResponse lay_DescribeTopicPartitionsResponse ag_DescribeTopicPartitionsResponse near_DescribeTopicPartitionsResponse ok_DescribeTopicPartitionsResponse (by decide) (fun ver _ => by simp) okr_DescribeTopicPartitionsResponse hn hn2 hv hkv hb herr
end Go.Proofs.YtkodgaelpllhgabGreatDoorR
namespace Go.Proofs.YtkodgaelpllhgabGreatDoorR
set_option linter.all false
namespace fnAgainDescribeTopicPartitionsResponse
open Go.ChangeShapes Go.WideShapes Go.ChangeAt Go.RowKit
set_option maxRecDepth 100000
set_option maxHeartbeats 1000000
theorem laid_met (os : Os) : laidMet Tryz.prog Rows.fnAgainDescribeTopicPartitionsResponseUptoRow.laid ((laidWorld os).forCall (fun _ _ => 0) ⟨#[], #[.int .u8 0, .agg #[.int .i64 0, .slice none 0 0, .bool false, .slice none 0 0, .slice none 0 0]], []⟩).memory :=
  laidMet_of_run' 8 (by kernel_rfl) (by kernel_rfl)
theorem witness_row (os : Os) {H : Type} (enc : TypeId × Value → H) :
    (Rows.OpenSpec.upto Rows.fnAgainDescribeTopicPartitionsResponseSpec).preRow enc Tryz.prog Tryz.f3 Rows.fnAgainDescribeTopicPartitionsResponseUptoRow.domain false Rows.fnAgainDescribeTopicPartitionsResponseUptoRow.laid ((laidWorld os).forCall (fun _ _ => 0) ⟨#[], #[.int .u8 0, .agg #[.int .i64 0, .slice none 0 0, .bool false, .slice none 0 0, .slice none 0 0]], []⟩).memory #[.int .u8 0, .agg #[.int .i64 0, .slice none 0 0, .bool false, .slice none 0 0, .slice none 0 0]] := by
  have hw : (DataW.whole enc Tryz.prog ((laidWorld os).forCall (fun _ _ => 0) ⟨#[], #[.int .u8 0, .agg #[.int .i64 0, .slice none 0 0, .bool false, .slice none 0 0, .slice none 0 0]], []⟩).memory Tryz.f3.params.toList Rows.fnAgainDescribeTopicPartitionsResponseSpec.vars false (#[.int .u8 0, .agg #[.int .i64 0, .slice none 0 0, .bool false, .slice none 0 0, .slice none 0 0]] : Array Value).toList 8).map (fun x => (decide (Rows.uptoBulkAll (x.1 ++ x.2.1) ≤ 1048576))) = some true := by kernel_rfl
  obtain ⟨⟨x1, x2, x3⟩, hx, hx1⟩ := Option.map_eq_some_iff.1 hw
  exact OpenSpec.preRow_of_cond 8 hx (by kernel_rfl) (fun k hk => by cases hk; exact hx1) (by kernel_rfl) (laid_met os)
theorem lifted (os : Os) (started : os.Started) (H : Type) (enc : TypeId × Value → H) (F : Stop.Interp) :
    ReturnsInHanded {} Tryz.checked os 3 .any ((Rows.OpenSpec.upto Rows.fnAgainDescribeTopicPartitionsResponseSpec).preRow enc Tryz.prog Tryz.f3 Rows.fnAgainDescribeTopicPartitionsResponseUptoRow.domain false Rows.fnAgainDescribeTopicPartitionsResponseUptoRow.laid) (((Rows.OpenSpec.upto Rows.fnAgainDescribeTopicPartitionsResponseSpec).at F).post enc Tryz.prog Tryz.f3 false true false false) := by
  refine returnsInHanded_of_row (C := Tryz.checked) (s := Rows.OpenSpec.upto Rows.fnAgainDescribeTopicPartitionsResponseSpec) own started (by kernel_rfl) Tryz.func3
    (witness_row_atRef (enc := enc) (C := Tryz.checked) false (laidWorld os) #[.int .u8 0, .agg #[.int .i64 0, .slice none 0 0, .bool false, .slice none 0 0, .slice none 0 0]] rfl (by kernel_rfl) (by kernel_rfl) (by kernel_rfl) (witness_row os enc)) ?_
  intro W base args ds gs before hval0 hW _ hcond _ hL _ _
  have hval : ∀ (j : Nat) t v, Tryz.f3.params[j]? = some t → args[j]? = some v → Value.okWide Tryz.prog W .any base t v := hval0
  have hW' := hW
  obtain ⟨p, q, hA0, hV, rfl, hfz, hnd⟩ := hW
  have hA : DataW.TrodAll enc Tryz.prog W 0 (fun _ => true) true Tryz.f3.params.toList args.toList ds p := hA0
  rw [Tryz.params3] at hA hval
  obtain ⟨v0, vs0, d0, ds0, p0, q0, hargs, rfl, rfl, h0, r0⟩ := trodAll_cons hA
  obtain ⟨v1, vs1, d1, ds1, p1, q1, rfl, rfl, rfl, h1, r1⟩ := trodAll_cons r0
  obtain ⟨rfl, rfl, rfl⟩ := trodAll_nil r1
  obtain rfl : args = #[v0, v1] := by cases args; simp_all
  obtain ⟨rfl, rfl⟩ := trodVars_none hV
  simp only [List.append_nil] at hW' hcond
  have hbulk := hcond _ rfl
  replace hbulk := of_decide_eq_true hbulk
  simp only [Rows.uptoBulkAll] at hbulk
  have hlt : ∀ x ∈ _, MemPlace.block x < W.heap.size := fun x hx => hW'.lt x hx
  obtain ⟨a0, rfl, rfl, rfl, x0⟩ := open_int Tryz.underlying5 (hval 0 5 v0 rfl rfl) h0
  have y0 : 0 ≤ a0 ∧ a0 < 256 := by have h := x0; simp only [Lit.wf, IntKind.min, IntKind.max, IntKind.signed, IntKind.bits, Bool.and_eq_true, decide_eq_true_eq] at h; simp at h; omega
  obtain ⟨ts, T, rfl, hT, hkey, hbT⟩ := tree_arg (hval 1 26 v1 rfl rfl) h1 (by omega)
  clear hA0 hval0
  refine Calls.mono (walk_FnAgainDescribeTopicPartitionsResponse y0.1 y0.2 hT hkey hbT (errW_of hL)) fun e W' ⟨v, he, hv, hc⟩ => ?_
  subst he
  subst hv
  exact ⟨_, rfl, _, _, _, [], _, [], hW', trodAll_cons_mk (shut_bool Tryz.underlying4 _) trodAll_mk0, trodAll_cons_mk (shut_int Tryz.underlying5 x0) (trodAll_cons_mk (tree_same h1 hc (fun x hx => hlt x (by simp [hx]))) (trodAll_mk0)), rfl, (below_of hc).frame _, fun h => by cases h⟩
theorem c2 : (Rows.fnAgainDescribeTopicPartitionsResponseUptoRow.inPlace == Tryz.prog.inPlace 3) = true := by kernel_rfl
theorem c3 : (Rows.fnAgainDescribeTopicPartitionsResponseUptoRow.unfollowed == Tryz.prog.unfollowed 3) = true := by kernel_rfl
theorem c4 : (Rows.fnAgainDescribeTopicPartitionsResponseUptoRow.recurses == Tryz.prog.recurses 3) = true := by kernel_rfl
theorem c5 : (Rows.fnAgainDescribeTopicPartitionsResponseUptoRow.named == Tryz.prog.varsNamed 3) = true := by kernel_rfl
theorem c7 : (Rows.fnAgainDescribeTopicPartitionsResponseUptoRow.lifted == Tryz.prog.liftsFinal) = true := by
  have h : Rows.fnAgainDescribeTopicPartitionsResponseUptoRow.lifted = Facts.lifted := rfl
  rw [h]; exact Facts.c7
theorem c8 : (Tryz.prog.make == some Rows.fnAgainDescribeTopicPartitionsResponseUptoRow.make) = true := by
  have h : Rows.fnAgainDescribeTopicPartitionsResponseUptoRow.make = Facts.make := rfl
  rw [h]; exact Facts.c8
theorem c9 : (Rows.fnAgainDescribeTopicPartitionsResponseUptoRow.plainKeys == Tryz.prog.plainKeys) = true := by
  have h : Rows.fnAgainDescribeTopicPartitionsResponseUptoRow.plainKeys = Facts.plainKeys := rfl
  rw [h]; exact Facts.c9
theorem c11 : Tryz.prog.funcNamed Rows.fnAgainDescribeTopicPartitionsResponseUptoRow.func = some 3 := by kernel_rfl
theorem closed : joinedFacts Tryz.prog 3 Tryz.f3 (Rows.OpenSpec.upto Rows.fnAgainDescribeTopicPartitionsResponseSpec).bare Rows.fnAgainDescribeTopicPartitionsResponseUptoRow = true := by
  unfold joinedFacts
  simp only [Bool.and_eq_true]
  repeat' (refine And.intro ?_ ?_)
  all_goals first | with_reducible exact Facts.c1 | with_reducible exact Facts.c0 | with_reducible exact c2 | with_reducible exact c3 | with_reducible exact c4 | with_reducible exact c5 | with_reducible exact Facts.c6 | with_reducible exact c7 | with_reducible exact c8 | with_reducible exact c9 | with_reducible exact Facts.c10 | kernel_rfl
theorem over : Rows.FnAgainDescribeTopicPartitionsResponseUptoSaid :=
  OpenClaim.holds_of_cond 3 Tryz.f3 rfl rfl rfl rfl rfl rfl rfl ⟨rfl, rfl, rfl, rfl, rfl⟩ rfl rfl rfl rfl rfl c11 Tryz.func3 closed
    (of_decide_eq_true (by kernel_rfl)) (by unfold Func.isWrapper; first | (rw [if_pos (by decide +kernel)]; kernel_rfl) | (rw [if_neg (by decide +kernel)]; exact ⟨rfl, rfl⟩))
    (fun os started H enc _ F => by rw [OpenClaim.pre_eq_preRow]; exact lifted os started H enc F)
theorem plain (f : FuncId) (fn : Func) (hf : Tryz.pinned.checked.prog.funcNamed "pub-kmsg/laws.FnAgainDescribeTopicPartitionsResponse" = some f) (hfn : Tryz.pinned.checked.prog.funcs[f]? = some fn) :
    false = Tryz.pinned.checked.prog.looks [] ∧ ∀ (j : Nat) t, fn.params[j]? = some t → Tryz.pinned.checked.prog.wantsStandIn t = false := by
  obtain rfl : f = 3 := Option.some.inj ((show Tryz.prog.funcNamed "pub-kmsg/laws.FnAgainDescribeTopicPartitionsResponse" = some 3 by kernel_rfl).symm.trans hf) |>.symm
  obtain rfl : fn = Tryz.f3 := (Option.some.inj (Tryz.func3.symm.trans hfn)).symm
  refine ⟨by kernel_rfl, fun j t ht => ?_⟩
  rw [Tryz.params3] at ht
  have hw0 : Tryz.prog.wantsStandIn 5 = false := by kernel_rfl
  have hw1 : Tryz.prog.wantsStandIn 26 = false := by kernel_rfl
  have hm := Array.mem_of_getElem? ht
  simp only [List.mem_toArray, List.mem_cons, List.not_mem_nil, or_false] at hm
  rcases hm with rfl | rfl <;> assumption
end fnAgainDescribeTopicPartitionsResponse
theorem fnAgainDescribeTopicPartitionsResponse_holds : Rows.FnAgainDescribeTopicPartitionsResponseUptoCardSaid :=
  Claim7.holds_tied_plain_at .later [] _ _ _ _ fnAgainDescribeTopicPartitionsResponse.over (fun _ h => by cases h) (by kernel_rfl) (fun _ h => by cases h) fnAgainDescribeTopicPartitionsResponseUpto_row_tie rfl ⟨rfl, rfl⟩ (by kernel_rfl) rfl fnAgainDescribeTopicPartitionsResponse.plain (by kernel_rfl)
#print axioms fnAgainDescribeTopicPartitionsResponse_holds
end Go.Proofs.YtkodgaelpllhgabGreatDoorR

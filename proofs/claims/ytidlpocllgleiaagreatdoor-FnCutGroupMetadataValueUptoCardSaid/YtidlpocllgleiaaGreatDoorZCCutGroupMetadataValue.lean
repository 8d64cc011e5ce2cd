/-
A GroupMetadataValue that ends anywhere ahead of its end is an error: for every input of bulk at most 1048576 the law returns true. Conditions: the listed variable holds what the text lays (tied by the card).
-/
import Derived.Test.YtidlpocllgleiaaGreatDoorZQ
import Derived.Test.YtidlpocllgleiaaGreatDoorZF
import Derived.Test.YtidlpocllgleiaaGreatDoorZP
namespace Go.Proofs.YtidlpocllgleiaaGreatDoor
set_option linter.all false
open Go.RowKit
set_option maxRecDepth 100000
set_option maxHeartbeats 2000000
def sch_sGroupMetadataValueMember : List Fld := [.mk .text 0 (-1) (-1) (-1) 0 .bool [], .mk .text 3 (-1) 3 (-1) 0 .bool [], .mk .text 0 (-1) (-1) (-1) 0 .bool [], .mk .text 0 (-1) (-1) (-1) 0 .bool [], .mk .i32 1 (-1) (-1) (-1) (-1) .bool [], .mk .i32 0 (-1) (-1) (-1) 0 .bool [], .mk .bytes 0 (-1) (-1) (-1) 0 .bool [], .mk .bytes 0 (-1) (-1) (-1) 0 .bool []]
def sch_GroupMetadataValue : List Fld := [.mk .text 0 (-1) (-1) (-1) 0 .bool [], .mk .i32 0 (-1) (-1) (-1) 0 .bool [], .mk .text 0 (-1) 0 (-1) 0 .bool [], .mk .text 0 (-1) 0 (-1) 0 .bool [], .mk .i64 2 (-1) (-1) (-1) (-1) .bool [], .mk .list 0 (-1) (-1) (-1) 0 .struct sch_sGroupMetadataValueMember]
def zz_sGroupMetadataValueMember : List Value := [.string ⟨#[]⟩, .pointer none, .string ⟨#[]⟩, .string ⟨#[]⟩, .int .i32 0, .int .i32 0, .slice none 0 0, .slice none 0 0, .map none]
def dd_sGroupMetadataValueMember : List Value := [.string ⟨#[]⟩, .pointer none, .string ⟨#[]⟩, .string ⟨#[]⟩, .int .i32 (-1), .int .i32 0, .slice none 0 0, .slice none 0 0, .map none]
theorem elz_sGroupMetadataValueMember : ∀ e, (Tryz.prog).underlying 44 = some (.slice e) → zeroB Tryz.prog e (zaT zz_sGroupMetadataValueMember) := by
  intro e he
  have h : (Tryz.prog).underlying 44 = some (.slice 70) := by kernel_rfl
  rw [h] at he; cases he
  exact fun w => Tryz.zeroValue70 w
theorem eln_sGroupMetadataValueMember : zaZ Tryz.prog 56 := (fun args w => Tryz.call56 args w)
theorem eld_sGroupMetadataValueMember : DefC 56 (zaT zz_sGroupMetadataValueMember).cells.toList dd_sGroupMetadataValueMember := by
  intro w b off cs T hb hlen hseg
  refine callsR_of0 Tryz.func56 rfl rfl Tryz.ntmps56 (by simp) ?_
  intro a hN hD ha
  have h0 : get a 0 = .pointer (some ⟨b, off, none⟩) := ha 0 _ rfl
  have hl : off + zz_sGroupMetadataValueMember.length ≤ cs.length := hlen
  have e : zaA cs off zz_sGroupMetadataValueMember = cs := splice_same hseg hlen
  rw [← e] at hb
  refine wp_def1 (k := 4) (v := .int .i32 (-1)) hN hD h0 hb hl (by kernel_rfl) ⟨rfl, rfl⟩ fun a0 w0 hN0 hD0 g0 hb0 hc0 => ?_
  exact ⟨hD0, hb0, hc0⟩
def dd_GroupMetadataValue : List Value := [.string ⟨#[]⟩, .int .i32 0, .pointer none, .pointer none, .int .i64 (-1), .slice none 0 0, .map none]
theorem defm_GroupMetadataValue : DefM 17 dd_GroupMetadataValue := by
  intro w B v T hb
  refine callsR_of0 Tryz.func17 rfl rfl Tryz.ntmps17 (by simp) ?_
  intro a hN hD ha
  have h0 : get a 0 = .pointer (some ⟨B, 0, none⟩) := ha 0 _ rfl
  refine zaf ?_
  (repeat (first | ((with_reducible refine zay ?_ ?_ ?_ ?_); (· exact rfl); (· simp [evb, kb, hN, h0, dyb, sdb] <;> omega); (· kernel_rfl); try simp only [evb, kb, hN, seval, pvb, h0]) | ((with_reducible refine zak ?_ ?_ ?_); rotate_left 1; (· simp [evb, kb, hN, h0, sdb]); rotate_left 1; (· kernel_rfl); try simp only [evb, kb, hN, seval, pvb, h0])))
  refine zaV (p := ⟨B, 0, none⟩) (by simp [evb, kb, hN, h0, sdb]) ?_
  refine zaU (b := B) (o := 0) (off := 5) (n := 1) (by kernel_rfl) (by simp [evb, kb, hN, sdb]) ?_
  refine za3 (b := B) (o := 0 + 5) (n := 1) (v := .int .i64 (-1)) (by kernel_rfl) (by simp [evb, kb, hN, sdb]) (by simp [evb, kb, hN, sdb]) hb rfl (by intro y hy; simp only [Value.cells, List.mem_singleton] at hy; subst hy; rfl) (by show _ ≤ 8; decide) fun w0 hb0 hc0 => ?_
  refine zac ⟨by simp [zae, hD], ?_, hc0⟩
  exact hb0
def zz_GroupMetadataValue : List Value := [.string ⟨#[]⟩, .int .i32 0, .pointer none, .pointer none, .int .i64 0, .slice none 0 0, .map none]
theorem defz_GroupMetadataValue : ∀ (w : World) (B : Nat) (v : Value) (T : TypeId), Blk w B (v :: zz_GroupMetadataValue) T → zaF Tryz.prog 17 #[.pointer (some ⟨B, 0, none⟩)] w fun _ w' => Blk w' B (v :: dd_GroupMetadataValue) T ∧ Chg (fun k => k = B) w w' := by
  intro w B v T hb
  refine callsR_of0 Tryz.func17 rfl rfl Tryz.ntmps17 (by simp) ?_
  intro a hN hD ha
  have h0 : get a 0 = .pointer (some ⟨B, 0, none⟩) := ha 0 _ rfl
  refine zaf ?_
  (repeat (first | ((with_reducible refine zay ?_ ?_ ?_ ?_); (· exact rfl); (· simp [evb, kb, hN, h0, dyb, sdb] <;> omega); (· kernel_rfl); try simp only [evb, kb, hN, seval, pvb, h0]) | ((with_reducible refine zak ?_ ?_ ?_); rotate_left 1; (· simp [evb, kb, hN, h0, sdb]); rotate_left 1; (· kernel_rfl); try simp only [evb, kb, hN, seval, pvb, h0])))
  refine zaV (p := ⟨B, 0, none⟩) (by simp [evb, kb, hN, h0, sdb]) ?_
  refine zaU (b := B) (o := 0) (off := 5) (n := 1) (by kernel_rfl) (by simp [evb, kb, hN, sdb]) ?_
  refine za3 (b := B) (o := 0 + 5) (n := 1) (v := .int .i64 (-1)) (by kernel_rfl) (by simp [evb, kb, hN, sdb]) (by simp [evb, kb, hN, sdb]) hb rfl (by intro y hy; simp only [Value.cells, List.mem_singleton] at hy; subst hy; rfl) (by show _ ≤ 8; decide) fun w0 hb0 hc0 => ?_
  refine zac ⟨by simp [zae, hD], ?_, hc0⟩
  exact hb0
theorem read_GroupMetadataValue : ReadsKf 18 4 (fun ver => 0 ≤ ver) (verF 0 :: sch_GroupMetadataValue) dd_GroupMetadataValue := by
  refine read_keptF (by omega) (fun _ h => h) Tryz.func18 rfl rfl Tryz.ntmps18 (fun args w => Tryz.call17 args w) defm_GroupMetadataValue (by kernel_rfl) ?_
  intro ver hver
  (repeat' (first | (with_reducible refine rt_tagged rfl rfl ?_) | (with_reducible refine rt_next rfl (by kernel_rfl) ?_ ?_) | (with_reducible refine rt_end rfl ?_) | (with_reducible refine rt_noflex rfl ?_) | (with_reducible refine rt_fin co_en (by kernel_rfl) (by kernel_rfl)) | (with_reducible refine rt_tl (I := 1000) (by kernel_rfl) ?_ ?_) | (with_reducible refine rd_tags (by kernel_rfl) tagOK_all tg_en (by kernel_rfl) (by kernel_rfl)) | (with_reducible refine rd_tagged rfl rfl ?_) | (with_reducible refine rd_noflex rfl ?_) | (with_reducible refine rd_last rfl rfl (by kernel_rfl) ?_) | (with_reducible refine rd_next rfl (by kernel_rfl) (by kernel_rfl) ?_ ?_) | (with_reducible refine rd_end rfl ?_) | (with_reducible refine sf_all rfl (by dsimp only; omega) ?_) | ((with_reducible refine sf_from rfl (by kernel_rfl) (fun hv => ?_)); try dsimp only at hv) | ((with_reducible refine sf_range rfl (by kernel_rfl) (fun hv hv2 => ?_)); try dsimp only at hv hv2) | (with_reducible refine rf_list1 rfl (by kernel_rfl) elz_sGroupMetadataValueMember (by kernel_rfl) ?_ ok_en co_en ?_ (by kernel_rfl)) | (with_reducible refine el_struct1 (by kernel_rfl) eln_sGroupMetadataValueMember eld_sGroupMetadataValueMember (by kernel_rfl) ?_ (by kernel_rfl) (by kernel_rfl) (by kernel_rfl)) | (with_reducible refine rf_store ?_ rfl (by kernel_rfl) (by kernel_rfl) (by kernel_rfl)) | (with_reducible refine rf_store2 ?_ rfl (by kernel_rfl) (by kernel_rfl) (by kernel_rfl) (by kernel_rfl)) | (with_reducible refine rd_pre ?_ (by kernel_rfl)) | (with_reducible refine rv_safe ?_ (by kernel_rfl)) | (with_reducible refine rv_flex rfl (fun hx => ?_) (fun hx => ?_) (by kernel_rfl)) | (with_reducible refine rv_i16 (by kernel_rfl)) | (with_reducible refine rv_i32 (by kernel_rfl)) | (with_reducible refine rv_i64 (by kernel_rfl)) | (with_reducible refine rv_string rfl (by first | assumption | rfl) (by kernel_rfl)) | (with_reducible refine rv_cstring rfl (by first | assumption | rfl) (by kernel_rfl)) | (with_reducible refine rv_bytes (by first | assumption | rfl) (by kernel_rfl)) | (with_reducible refine rv_cbytes (by first | assumption | rfl) (by kernel_rfl)) | (with_reducible refine rv_nstring rfl (by first | assumption | rfl) (by dsimp only; omega) (by kernel_rfl)) | (with_reducible refine rv_cnstring rfl (by first | assumption | rfl) (by dsimp only; omega) (by kernel_rfl)) | (with_reducible refine rv_again ?_ (by kernel_rfl)) | (with_reducible refine rv_pre ?_ (by kernel_rfl)) | (with_reducible refine rn_plain (by first | assumption | rfl) (by kernel_rfl)) | (with_reducible refine rn_cplain (by first | assumption | rfl) (by kernel_rfl)) | (with_reducible refine rn_flex rfl (fun hx => ?_) (fun hx => ?_) (by kernel_rfl)) | (with_reducible refine el_pre ?_ (by kernel_rfl)) | (with_reducible refine el_val1 (by kernel_rfl) (rv_elem rfl ?_) (by kernel_rfl) (by kernel_rfl))))
theorem app_GroupMetadataValue : AppendsKf 14 4 (fun ver => 0 ≤ ver) (verF 0 :: sch_GroupMetadataValue) := by
  refine app_keptF Tryz.func14 rfl rfl Tryz.ntmps14 (by kernel_rfl) ?_
  intro ver s hver
  (repeat' (first | with_reducible refine wt_start ?_ | with_reducible refine wp_noflex rfl ?_ | with_reducible refine wr_start ?_ | with_reducible refine wt_tagged rfl rfl ?_ | (with_reducible refine wt_next rfl (by kernel_rfl) (fun d hd => ?_) ?_) | (with_reducible refine wt_fin rfl rfl ?_) | (with_reducible refine wt_end rfl (by kernel_rfl) ?_ ?_) | (with_reducible refine wt_ret (by kernel_rfl)) | with_reducible refine wr_tagged rfl rfl ?_ | (with_reducible refine wr_last rfl rfl (fun d hd => ?_)) | (with_reducible refine wr_next rfl (by kernel_rfl) (fun d hd => ?_) ?_) | (with_reducible refine wr_end rfl ?_) | (with_reducible refine wr_tail rfl (by kernel_rfl) k_uint32 (by kernel_rfl)) | (with_reducible refine wf_all rfl (by dsimp only; omega) ?_) | ((with_reducible refine wf_from rfl (by kernel_rfl) (fun hv => ?_)); try dsimp only at hv) | ((with_reducible refine wf_range rfl (by kernel_rfl) (fun hv hv2 => ?_)); try dsimp only at hv hv2) | (with_reducible refine wf_load rfl hd (by kernel_rfl) (by kernel_rfl) rfl ?_) | (with_reducible refine wf_inner rfl hd (by kernel_rfl) (by kernel_rfl) rfl (fun s => ?_)) | (with_reducible refine wv_i16 (by kernel_rfl)) | (with_reducible refine wv_i32 (by kernel_rfl)) | (with_reducible refine wv_i64 (by kernel_rfl)) | (with_reducible refine wv_flexS rfl (by kernel_rfl) (fun hx => ?_) (fun hx => ?_)) | (with_reducible refine wv_string rfl (by first | assumption | rfl) (by kernel_rfl)) | (with_reducible refine wv_cstring rfl (by first | assumption | rfl) (by kernel_rfl)) | (with_reducible refine wv_bytes (by first | assumption | rfl) (by kernel_rfl)) | (with_reducible refine wv_cbytes (by first | assumption | rfl) (by kernel_rfl)) | (with_reducible refine wv_nstring rfl (by dsimp only; omega) (by first | assumption | rfl) (by kernel_rfl)) | (with_reducible refine wv_cnstring rfl (by dsimp only; omega) (by first | assumption | rfl) (by kernel_rfl)) | ((with_reducible refine wv_otext rfl (by kernel_rfl) (by kernel_rfl) (by kernel_rfl) (by kernel_rfl) rfl (fun l => ?_) (fun hv => ?_)); (try dsimp only at hv)) | (with_reducible refine wv_listS (fun oa n cap M => ?_) (by kernel_rfl) (by kernel_rfl) (by kernel_rfl) (by kernel_rfl) (fun s => ?_)) | (with_reducible refine wv_listK (fun oa n cap M => ?_) (by kernel_rfl) (by kernel_rfl) (by kernel_rfl) (by kernel_rfl) (fun d => ?_)) | (with_reducible refine wn_flex rfl (by kernel_rfl) (fun hx => ?_) (fun hx => ?_)) | (with_reducible refine wn_plain (by dsimp only; omega) (by first | assumption | rfl) (by kernel_rfl) (by kernel_rfl)) | (with_reducible refine wn_cplain (by dsimp only; omega) (by first | assumption | rfl) (by kernel_rfl) (by kernel_rfl)) | (with_reducible refine wv_again (by kernel_rfl) rfl ?_)))
end Go.Proofs.YtidlpocllgleiaaGreatDoor
namespace Go.Proofs.YtidlpocllgleiaaGreatDoor
set_option linter.all false
open Go.RowKit
set_option maxRecDepth 100000
set_option maxHeartbeats 2000000
theorem lay_sGroupMetadataValueMember : LaysS 11 sch_sGroupMetadataValueMember := by
  intro w0
  refine zar Tryz.func11 rfl rfl Tryz.ntmps11 (by simp) ?_
  intro a hN hD ha
  refine wp_seq_k fun K hK => ?_; refine zaf ?_; refine zan ?_; simp only [evb, kb, hN, seval]; refine zac ?_; refine hK _ _ ?_; clear hK K
  refine wp_seq_k fun K hK => ?_; refine zaf ?_
  have hq : Chg (fun _ => False) w0 w0 := Chg.refl _ _
  refine wl_build (l := zaX (.mk .text 0 (-1) (-1) (-1) 0 .bool []) (.slice none 0 0)) (by simp only [List.map_toArray, List.map_cons, List.map_nil, evb, kb, hN, seval]; kernel_rfl) ?_
  refine wl_build (l := zaX (.mk .text 3 (-1) 3 (-1) 0 .bool []) (.slice none 0 0)) (by simp only [List.map_toArray, List.map_cons, List.map_nil, evb, kb, hN, seval]; kernel_rfl) ?_
  refine wl_build (l := zaX (.mk .text 0 (-1) (-1) (-1) 0 .bool []) (.slice none 0 0)) (by simp only [List.map_toArray, List.map_cons, List.map_nil, evb, kb, hN, seval]; kernel_rfl) ?_
  refine wl_build (l := zaX (.mk .text 0 (-1) (-1) (-1) 0 .bool []) (.slice none 0 0)) (by simp only [List.map_toArray, List.map_cons, List.map_nil, evb, kb, hN, seval]; kernel_rfl) ?_
  refine wl_build (l := zaX (.mk .i32 1 (-1) (-1) (-1) (-1) .bool []) (.slice none 0 0)) (by simp only [List.map_toArray, List.map_cons, List.map_nil, evb, kb, hN, seval]; kernel_rfl) ?_
  refine wl_build (l := zaX (.mk .i32 0 (-1) (-1) (-1) 0 .bool []) (.slice none 0 0)) (by simp only [List.map_toArray, List.map_cons, List.map_nil, evb, kb, hN, seval]; kernel_rfl) ?_
  refine wl_build (l := zaX (.mk .bytes 0 (-1) (-1) (-1) 0 .bool []) (.slice none 0 0)) (by simp only [List.map_toArray, List.map_cons, List.map_nil, evb, kb, hN, seval]; kernel_rfl) ?_
  refine wl_build (l := zaX (.mk .bytes 0 (-1) (-1) (-1) 0 .bool []) (.slice none 0 0)) (by simp only [List.map_toArray, List.map_cons, List.map_nil, evb, kb, hN, seval]; kernel_rfl) ?_
  refine wl_fields sch_sGroupMetadataValueMember [zaX (.mk .text 0 (-1) (-1) (-1) 0 .bool []) (.slice none 0 0), zaX (.mk .text 3 (-1) 3 (-1) 0 .bool []) (.slice none 0 0), zaX (.mk .text 0 (-1) (-1) (-1) 0 .bool []) (.slice none 0 0), zaX (.mk .text 0 (-1) (-1) (-1) 0 .bool []) (.slice none 0 0), zaX (.mk .i32 1 (-1) (-1) (-1) (-1) .bool []) (.slice none 0 0), zaX (.mk .i32 0 (-1) (-1) (-1) 0 .bool []) (.slice none 0 0), zaX (.mk .bytes 0 (-1) (-1) (-1) 0 .bool []) (.slice none 0 0), zaX (.mk .bytes 0 (-1) (-1) (-1) 0 .bool []) (.slice none 0 0)] rfl (by simp only [List.map_toArray, List.map_cons, List.map_nil, evb, kb, hN, seval]; rfl) (by simp only [List.length_cons, List.length_nil]; omega) hq (.cons (zbc (.mk .text 0 (-1) (-1) (-1) 0 .bool []) (schS_nil _ _ _ _)) (.cons (zbc (.mk .text 3 (-1) 3 (-1) 0 .bool []) (schS_nil _ _ _ _)) (.cons (zbc (.mk .text 0 (-1) (-1) (-1) 0 .bool []) (schS_nil _ _ _ _)) (.cons (zbc (.mk .text 0 (-1) (-1) (-1) 0 .bool []) (schS_nil _ _ _ _)) (.cons (zbc (.mk .i32 1 (-1) (-1) (-1) (-1) .bool []) (schS_nil _ _ _ _)) (.cons (zbc (.mk .i32 0 (-1) (-1) (-1) 0 .bool []) (schS_nil _ _ _ _)) (.cons (zbc (.mk .bytes 0 (-1) (-1) (-1) 0 .bool []) (schS_nil _ _ _ _)) (.cons (zbc (.mk .bytes 0 (-1) (-1) (-1) 0 .bool []) (schS_nil _ _ _ _)) (.nil))))))))) ?_
  rintro v wF hcF hkF hsF rfl
  refine zan ?_
  simp only [evb, kb, hN, seval]
  refine zac ?_; refine hK _ _ ?_; clear hK K
  refine wp_ret ⟨by simp [zae, hD], ?_⟩; simp only [evb, kb, hN, seval]
  exact ⟨hsF, hcF⟩
theorem lay_GroupMetadataValue : LaysM 6 sch_GroupMetadataValue 4 := by
  intro w
  refine callsR_ofC Tryz.func6 rfl rfl (by kernel_rfl) Tryz.ntmps6 (by simp) ?_
  intro a hN hD ha
  refine wp_seq_k fun K hK => ?_; refine zaf ?_
  refine zbf (z := zaT [.slice none 0 0, .int .i64 0]) (fun w => Tryz.zeroValue32 w) fun w0 hc0 hb0 hs0 => ?_
  refine zac ?_; refine hK _ _ ?_; clear hK K
  refine wp_seq_k fun K hK => ?_; refine zaf ?_
  have hq : Chg (fun _ => False) w0 w0 := Chg.refl _ _
  refine wl_build (l := zaX (.mk .text 0 (-1) (-1) (-1) 0 .bool []) (.slice none 0 0)) (by simp only [List.map_toArray, List.map_cons, List.map_nil, evb, kb, hN, seval]; kernel_rfl) ?_
  refine wl_build (l := zaX (.mk .i32 0 (-1) (-1) (-1) 0 .bool []) (.slice none 0 0)) (by simp only [List.map_toArray, List.map_cons, List.map_nil, evb, kb, hN, seval]; kernel_rfl) ?_
  refine wl_build (l := zaX (.mk .text 0 (-1) 0 (-1) 0 .bool []) (.slice none 0 0)) (by simp only [List.map_toArray, List.map_cons, List.map_nil, evb, kb, hN, seval]; kernel_rfl) ?_
  refine wl_build (l := zaX (.mk .text 0 (-1) 0 (-1) 0 .bool []) (.slice none 0 0)) (by simp only [List.map_toArray, List.map_cons, List.map_nil, evb, kb, hN, seval]; kernel_rfl) ?_
  refine wl_build (l := zaX (.mk .i64 2 (-1) (-1) (-1) (-1) .bool []) (.slice none 0 0)) (by simp only [List.map_toArray, List.map_cons, List.map_nil, evb, kb, hN, seval]; kernel_rfl) ?_
  refine zaG (fun args w => Tryz.call11 args w) (by simp only [List.map_toArray, List.map_nil]; exact lay_sGroupMetadataValueMember _) ?_
  rintro v1 w1 ⟨hs1, hk1⟩
  replace hs1 := hs1.later (Chg.refl _ _) hq.size
  replace hq := hq.trans hk1 fun _ _ h => h
  obtain ⟨oa1, cap1, rfl, _⟩ := id hs1
  refine wl_build (l := zaX (.mk .list 0 (-1) (-1) (-1) 0 .struct sch_sGroupMetadataValueMember) (.slice oa1 (sch_sGroupMetadataValueMember).length cap1)) (by simp only [List.map_toArray, List.map_cons, List.map_nil, evb, kb, hN, seval]; kernel_rfl) ?_
  refine wl_fields sch_GroupMetadataValue [zaX (.mk .text 0 (-1) (-1) (-1) 0 .bool []) (.slice none 0 0), zaX (.mk .i32 0 (-1) (-1) (-1) 0 .bool []) (.slice none 0 0), zaX (.mk .text 0 (-1) 0 (-1) 0 .bool []) (.slice none 0 0), zaX (.mk .text 0 (-1) 0 (-1) 0 .bool []) (.slice none 0 0), zaX (.mk .i64 2 (-1) (-1) (-1) (-1) .bool []) (.slice none 0 0), zaX (.mk .list 0 (-1) (-1) (-1) 0 .struct sch_sGroupMetadataValueMember) (.slice oa1 (sch_sGroupMetadataValueMember).length cap1)] rfl (by simp only [List.map_toArray, List.map_cons, List.map_nil, evb, kb, hN, seval]; rfl) (by simp only [List.length_cons, List.length_nil]; omega) hq (.cons (zbc (.mk .text 0 (-1) (-1) (-1) 0 .bool []) (schS_nil _ _ _ _)) (.cons (zbc (.mk .i32 0 (-1) (-1) (-1) 0 .bool []) (schS_nil _ _ _ _)) (.cons (zbc (.mk .text 0 (-1) 0 (-1) 0 .bool []) (schS_nil _ _ _ _)) (.cons (zbc (.mk .text 0 (-1) 0 (-1) 0 .bool []) (schS_nil _ _ _ _)) (.cons (zbc (.mk .i64 2 (-1) (-1) (-1) (-1) .bool []) (schS_nil _ _ _ _)) (.cons (zbc (.mk .list 0 (-1) (-1) (-1) 0 .struct sch_sGroupMetadataValueMember) hs1) (.nil))))))) ?_
  rintro v wF hcF hkF hsF rfl
  refine wl_build (l := [.slice (some ⟨w1.heap.size, 0, none⟩) (sch_GroupMetadataValue).length (sch_GroupMetadataValue).length, .int .i64 4]) (by simp only [List.map_toArray, List.map_cons, List.map_nil, evb, kb, hN, seval]; kernel_rfl) ?_
  have hbF := hb0.chg hcF (fun h => h)
  refine zbe (b := w.heap.size) (n := 2) (l' := [.slice (some ⟨w1.heap.size, 0, none⟩) (sch_GroupMetadataValue).length (sch_GroupMetadataValue).length, .int .i64 4]) (by kernel_rfl) (by simp [evb, kb, hN, sdb]) (by simp [evb, kb, hN, sdb]) hbF rfl (by intro y hy; simp only [List.mem_cons, List.not_mem_nil, or_false] at hy; rcases hy with rfl | rfl <;> rfl) rfl fun wE hbE hcE => ?_
  refine zac ?_; refine hK _ _ ?_; clear hK K
  refine wp_ret ⟨by simp [zae, hD], w.heap.size, _, _, by simp only [evb, kb, hN, seval], hbE, by kernel_rfl, ⟨_, rfl, SchS.stay ⟨fun k hk hg => ⟨hcE.block k hk (by omega), by omega⟩⟩ hsF, ?_⟩⟩
  exact (hc0.trans hcF fun _ _ h => h).trans hcE fun k hk h => by omega
theorem zero_GroupMetadataValue : zeroB Tryz.prog 49 (zaT (.int .i16 0 :: zz_GroupMetadataValue)) := fun w => Tryz.zeroValue49 w
theorem new_GroupMetadataValue : NewV 12 (.int .i16 0 :: dd_GroupMetadataValue) := newval_ofF (n := 8) Tryz.func12 rfl rfl Tryz.ntmps12 zero_GroupMetadataValue (fun args w => Tryz.call17 args w) defz_GroupMetadataValue (by kernel_rfl)
theorem from_GroupMetadataValue : ReadsFrom 13 18 := fun h => readfrom_c Tryz.func13 rfl rfl Tryz.ntmps13 (fun args w => Tryz.call18 args w) h
theorem ag_GroupMetadataValue : AgKf 7 4 (fun ver => 0 ≤ ver) (verF 0 :: sch_GroupMetadataValue) :=
  again_keptF (n := 8) (fun _ h => h) (by kernel_rfl) Tryz.func7 rfl rfl Tryz.ntmps7 (fun args w => Tryz.call12 args w) (fun args w => Tryz.call13 args w) (fun args w => Tryz.call14 args w) zero_GroupMetadataValue (by kernel_rfl) new_GroupMetadataValue from_GroupMetadataValue read_GroupMetadataValue app_GroupMetadataValue
theorem ok_GroupMetadataValue : SchOK (fun ver => decide (4 ≤ ver)) 4 sch_GroupMetadataValue := schB_out (by kernel_rfl)
theorem walk_FnCutGroupMetadataValue {a b : Int} (hn : 0 ≤ a) (hn2 : a < 256) {w : World} {G : Nat → Prop} {v : Tr} {ts : List Value} (hv : TrC w G v ts) (hkv : keyV v) (hb : za1 v ≤ 1048576) (hb0 : 0 ≤ b) (hb1 : b < 65536) (herr : ErrW w) :
    zaF Tryz.prog 3 #[.int .u8 a, zaT ts, .int .u16 b] w fun v w' => v = .bool true ∧ Chg (fun _ => False) w w' :=
  lawCutKf_of (k := 4) Tryz.func3 rfl rfl (by kernel_rfl) rfl Tryz.ntmps3 (fun args w => Tryz.call6 args w) (fun args w => Tryz.call7 args w) lay_GroupMetadataValue ag_GroupMetadataValue (by decide) (by kernel_rfl) (by decide) rfl ok_GroupMetadataValue (of_decide_eq_true (by kernel_rfl)) hn hn2 hv hkv hb hb0 hb1 herr
end Go.Proofs.YtidlpocllgleiaaGreatDoor
namespace Go.Proofs.YtidlpocllgleiaaGreatDoor
set_option linter.all false
namespace fnCutGroupMetadataValue
open Go.ChangeShapes Go.WideShapes Go.ChangeAt Go.RowKit
set_option maxRecDepth 100000
set_option maxHeartbeats 1000000
theorem laid_met (os : Os) : laidMet Tryz.prog Rows.fnCutGroupMetadataValueUptoRow.laid ((laidWorld os).forCall (fun _ _ => 0) ⟨#[], #[.int .u8 0, .agg #[.int .i64 0, .slice none 0 0, .bool false, .slice none 0 0, .slice none 0 0], .int .u16 0], []⟩).memory :=
  laidMet_of_run' 8 (by kernel_rfl) (by kernel_rfl)
theorem witness_row (os : Os) {H : Type} (enc : TypeId × Value → H) :
    (Rows.OpenSpec.upto Rows.fnCutGroupMetadataValueSpec).preRow enc Tryz.prog Tryz.f3 Rows.fnCutGroupMetadataValueUptoRow.domain false Rows.fnCutGroupMetadataValueUptoRow.laid ((laidWorld os).forCall (fun _ _ => 0) ⟨#[], #[.int .u8 0, .agg #[.int .i64 0, .slice none 0 0, .bool false, .slice none 0 0, .slice none 0 0], .int .u16 0], []⟩).memory #[.int .u8 0, .agg #[.int .i64 0, .slice none 0 0, .bool false, .slice none 0 0, .slice none 0 0], .int .u16 0] := by
  have hw : (DataW.whole enc Tryz.prog ((laidWorld os).forCall (fun _ _ => 0) ⟨#[], #[.int .u8 0, .agg #[.int .i64 0, .slice none 0 0, .bool false, .slice none 0 0, .slice none 0 0], .int .u16 0], []⟩).memory Tryz.f3.params.toList Rows.fnCutGroupMetadataValueSpec.vars false (#[.int .u8 0, .agg #[.int .i64 0, .slice none 0 0, .bool false, .slice none 0 0, .slice none 0 0], .int .u16 0] : Array Value).toList 8).map (fun x => (decide (Rows.uptoBulkAll (x.1 ++ x.2.1) ≤ 1048576))) = some true := by kernel_rfl
  obtain ⟨⟨x1, x2, x3⟩, hx, hx1⟩ := Option.map_eq_some_iff.1 hw
  exact OpenSpec.preRow_of_cond 8 hx (by kernel_rfl) (fun k hk => by cases hk; exact hx1) (by kernel_rfl) (laid_met os)
theorem lifted (os : Os) (started : os.Started) (H : Type) (enc : TypeId × Value → H) (F : Stop.Interp) :
    ReturnsInHanded {} Tryz.checked os 3 .any ((Rows.OpenSpec.upto Rows.fnCutGroupMetadataValueSpec).preRow enc Tryz.prog Tryz.f3 Rows.fnCutGroupMetadataValueUptoRow.domain false Rows.fnCutGroupMetadataValueUptoRow.laid) (((Rows.OpenSpec.upto Rows.fnCutGroupMetadataValueSpec).at F).post enc Tryz.prog Tryz.f3 false true false false) := by
  refine returnsInHanded_of_row (C := Tryz.checked) (s := Rows.OpenSpec.upto Rows.fnCutGroupMetadataValueSpec) own started (by kernel_rfl) Tryz.func3
    (witness_row_atRef (enc := enc) (C := Tryz.checked) false (laidWorld os) #[.int .u8 0, .agg #[.int .i64 0, .slice none 0 0, .bool false, .slice none 0 0, .slice none 0 0], .int .u16 0] rfl (by kernel_rfl) (by kernel_rfl) (by kernel_rfl) (witness_row os enc)) ?_
  intro W base args ds gs before hval0 hW _ hcond _ hL _ _
  have hval : ∀ (j : Nat) t v, Tryz.f3.params[j]? = some t → args[j]? = some v → Value.okWide Tryz.prog W .any base t v := hval0
  have hW' := hW
  obtain ⟨p, q, hA0, hV, rfl, hfz, hnd⟩ := hW
  have hA : DataW.TrodAll enc Tryz.prog W 0 (fun _ => true) true Tryz.f3.params.toList args.toList ds p := hA0
  rw [Tryz.params3] at hA hval
  obtain ⟨v0, vs0, d0, ds0, p0, q0, hargs, rfl, rfl, h0, r0⟩ := trodAll_cons hA
  obtain ⟨v1, vs1, d1, ds1, p1, q1, rfl, rfl, rfl, h1, r1⟩ := trodAll_cons r0
  obtain ⟨v2, vs2, d2, ds2, p2, q2, rfl, rfl, rfl, h2, r2⟩ := trodAll_cons r1
  obtain ⟨rfl, rfl, rfl⟩ := trodAll_nil r2
  obtain rfl : args = #[v0, v1, v2] := by cases args; simp_all
  obtain ⟨rfl, rfl⟩ := trodVars_none hV
  simp only [List.append_nil] at hW' hcond
  have hbulk := hcond _ rfl
  replace hbulk := of_decide_eq_true hbulk
  simp only [Rows.uptoBulkAll] at hbulk
  have hlt : ∀ x ∈ _, MemPlace.block x < W.heap.size := fun x hx => hW'.lt x hx
  obtain ⟨a0, rfl, rfl, rfl, x0⟩ := open_int Tryz.underlying5 (hval 0 5 v0 rfl rfl) h0
  have y0 : 0 ≤ a0 ∧ a0 < 256 := by have h := x0; simp only [Lit.wf, IntKind.min, IntKind.max, IntKind.signed, IntKind.bits, Bool.and_eq_true, decide_eq_true_eq] at h; simp at h; omega
  obtain ⟨ts, T, rfl, hT, hkey, hbT⟩ := tree_arg (hval 1 26 v1 rfl rfl) h1 (by omega)
  obtain ⟨a2, rfl, rfl, rfl, x2⟩ := open_int Tryz.underlying27 (hval 2 27 v2 rfl rfl) h2
  have y2 : 0 ≤ a2 ∧ a2 < 65536 := by have h := x2; simp only [Lit.wf, IntKind.min, IntKind.max, IntKind.signed, IntKind.bits, Bool.and_eq_true, decide_eq_true_eq] at h; simp at h; omega
  clear hA0 hval0
  refine Calls.mono (walk_FnCutGroupMetadataValue y0.1 y0.2 hT hkey hbT y2.1 y2.2 (errW_of hL)) fun e W' ⟨v, he, hv, hc⟩ => ?_
  subst he
  subst hv
  exact ⟨_, rfl, _, _, _, [], _, [], hW', trodAll_cons_mk (shut_bool Tryz.underlying4 _) trodAll_mk0, trodAll_cons_mk (shut_int Tryz.underlying5 x0) (trodAll_cons_mk (tree_same h1 hc (fun x hx => hlt x (by simp [hx]))) (trodAll_cons_mk (shut_int Tryz.underlying27 x2) (trodAll_mk0))), rfl, (below_of hc).frame _, fun h => by cases h⟩
theorem c2 : (Rows.fnCutGroupMetadataValueUptoRow.inPlace == Tryz.prog.inPlace 3) = true := by kernel_rfl
theorem c3 : (Rows.fnCutGroupMetadataValueUptoRow.unfollowed == Tryz.prog.unfollowed 3) = true := by kernel_rfl
theorem c4 : (Rows.fnCutGroupMetadataValueUptoRow.recurses == Tryz.prog.recurses 3) = true := by kernel_rfl
theorem c5 : (Rows.fnCutGroupMetadataValueUptoRow.named == Tryz.prog.varsNamed 3) = true := by kernel_rfl
theorem c7 : (Rows.fnCutGroupMetadataValueUptoRow.lifted == Tryz.prog.liftsFinal) = true := by
  have h : Rows.fnCutGroupMetadataValueUptoRow.lifted = Facts.lifted := rfl
  rw [h]; exact Facts.c7
theorem c8 : (Tryz.prog.make == some Rows.fnCutGroupMetadataValueUptoRow.make) = true := by
  have h : Rows.fnCutGroupMetadataValueUptoRow.make = Facts.make := rfl
  rw [h]; exact Facts.c8
theorem c9 : (Rows.fnCutGroupMetadataValueUptoRow.plainKeys == Tryz.prog.plainKeys) = true := by
  have h : Rows.fnCutGroupMetadataValueUptoRow.plainKeys = Facts.plainKeys := rfl
  rw [h]; exact Facts.c9
theorem c11 : Tryz.prog.funcNamed Rows.fnCutGroupMetadataValueUptoRow.func = some 3 := by kernel_rfl
theorem closed : joinedFacts Tryz.prog 3 Tryz.f3 (Rows.OpenSpec.upto Rows.fnCutGroupMetadataValueSpec).bare Rows.fnCutGroupMetadataValueUptoRow = true := by
  unfold joinedFacts
  simp only [Bool.and_eq_true]
  repeat' (refine And.intro ?_ ?_)
  all_goals first | with_reducible exact Facts.c1 | with_reducible exact Facts.c0 | with_reducible exact c2 | with_reducible exact c3 | with_reducible exact c4 | with_reducible exact c5 | with_reducible exact Facts.c6 | with_reducible exact c7 | with_reducible exact c8 | with_reducible exact c9 | with_reducible exact Facts.c10 | kernel_rfl
theorem over : Rows.FnCutGroupMetadataValueUptoSaid :=
  OpenClaim.holds_of_cond 3 Tryz.f3 rfl rfl rfl rfl rfl rfl rfl ⟨rfl, rfl, rfl, rfl, rfl⟩ rfl rfl rfl rfl rfl c11 Tryz.func3 closed
    (of_decide_eq_true (by kernel_rfl)) (by unfold Func.isWrapper; first | (rw [if_pos (by decide +kernel)]; kernel_rfl) | (rw [if_neg (by decide +kernel)]; exact ⟨rfl, rfl⟩))
    (fun os started H enc _ F => by rw [OpenClaim.pre_eq_preRow]; exact lifted os started H enc F)
theorem plain (f : FuncId) (fn : Func) (hf : Tryz.pinned.checked.prog.funcNamed "pub-kmsg/laws.FnCutGroupMetadataValue" = some f) (hfn : Tryz.pinned.checked.prog.funcs[f]? = some fn) :
    false = Tryz.pinned.checked.prog.looks [] ∧ ∀ (j : Nat) t, fn.params[j]? = some t → Tryz.pinned.checked.prog.wantsStandIn t = false := by
  obtain rfl : f = 3 := Option.some.inj ((show Tryz.prog.funcNamed "pub-kmsg/laws.FnCutGroupMetadataValue" = some 3 by kernel_rfl).symm.trans hf) |>.symm
  obtain rfl : fn = Tryz.f3 := (Option.some.inj (Tryz.func3.symm.trans hfn)).symm
  refine ⟨by kernel_rfl, fun j t ht => ?_⟩
  rw [Tryz.params3] at ht
  have hw0 : Tryz.prog.wantsStandIn 5 = false := by kernel_rfl
  have hw1 : Tryz.prog.wantsStandIn 26 = false := by kernel_rfl
  have hw2 : Tryz.prog.wantsStandIn 27 = false := by kernel_rfl
  have hm := Array.mem_of_getElem? ht
  simp only [List.mem_toArray, List.mem_cons, List.not_mem_nil, or_false] at hm
  rcases hm with rfl | rfl | rfl <;> assumption
end fnCutGroupMetadataValue
theorem fnCutGroupMetadataValue_holds : Rows.FnCutGroupMetadataValueUptoCardSaid :=
  Claim7.holds_tied_plain_at .later [] _ _ _ _ fnCutGroupMetadataValue.over (fun _ h => by cases h) (by kernel_rfl) (fun _ h => by cases h) fnCutGroupMetadataValueUpto_row_tie rfl ⟨rfl, rfl⟩ (by kernel_rfl) rfl fnCutGroupMetadataValue.plain (by kernel_rfl)
#print axioms fnCutGroupMetadataValue_holds
end Go.Proofs.YtidlpocllgleiaaGreatDoor

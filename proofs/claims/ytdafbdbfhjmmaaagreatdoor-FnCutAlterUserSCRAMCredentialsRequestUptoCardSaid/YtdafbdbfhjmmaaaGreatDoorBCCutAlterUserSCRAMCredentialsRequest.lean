/-
A AlterUserSCRAMCredentialsRequest that ends anywhere ahead of its end is an error: for every input of bulk at most 1048576 the law returns true. Conditions: the listed variable holds what the text lays (tied by the card).
-/
import Derived.Test.YtdafbdbfhjmmaaaGreatDoorBE
import Derived.Test.YtdafbdbfhjmmaaaGreatDoorBW
import Derived.Test.YtdafbdbfhjmmaaaGreatDoorBX
import Derived.Test.YtdafbdbfhjmmaaaGreatDoorBF
import Derived.Test.YtdafbdbfhjmmaaaGreatDoorBP
namespace Go.Proofs.YtdafbdbfhjmmaaaGreatDoor
set_option linter.all false
open Go.RowKit
set_option maxRecDepth 100000
set_option maxHeartbeats 2000000
def sch_sAlterUserSCRAMCredentialsRequestDeletion : List Fld := [.mk .text 0 (-1) (-1) (-1) 0 .bool [], .mk .i8 0 (-1) (-1) (-1) 0 .bool []]
def sch_sAlterUserSCRAMCredentialsRequestUpsertion : List Fld := [.mk .text 0 (-1) (-1) (-1) 0 .bool [], .mk .i8 0 (-1) (-1) (-1) 0 .bool [], .mk .i32 0 (-1) (-1) (-1) 0 .bool [], .mk .bytes 0 (-1) (-1) (-1) 0 .bool [], .mk .bytes 0 (-1) (-1) (-1) 0 .bool []]
def sch_AlterUserSCRAMCredentialsRequest : List Fld := [.mk .list 0 (-1) (-1) (-1) 0 .struct sch_sAlterUserSCRAMCredentialsRequestDeletion, .mk .list 0 (-1) (-1) (-1) 0 .struct sch_sAlterUserSCRAMCredentialsRequestUpsertion]
def zz_sAlterUserSCRAMCredentialsRequestDeletion : List Value := [.string ⟨#[]⟩, .int .i8 0, .map none]
def dd_sAlterUserSCRAMCredentialsRequestDeletion : List Value := [.string ⟨#[]⟩, .int .i8 0, .map none]
theorem elz_sAlterUserSCRAMCredentialsRequestDeletion : ∀ e, (Tryz.prog).underlying 103 = some (.slice e) → zeroB Tryz.prog e (zaT zz_sAlterUserSCRAMCredentialsRequestDeletion) := by
  intro e he
  have h : (Tryz.prog).underlying 103 = some (.slice 110) := by kernel_rfl
  rw [h] at he; cases he
  exact fun w => Tryz.zeroValue110 w
theorem eln_sAlterUserSCRAMCredentialsRequestDeletion : zaV Tryz.prog 129 := (fun args w => Tryz.call129 args w)
theorem eld_sAlterUserSCRAMCredentialsRequestDeletion : DefC 129 (zaT zz_sAlterUserSCRAMCredentialsRequestDeletion).cells.toList dd_sAlterUserSCRAMCredentialsRequestDeletion := by
  intro w b off cs T hb hlen hseg
  refine callsR_of0 Tryz.func129 rfl rfl Tryz.ntmps129 (by simp) ?_
  intro a hN hD ha
  refine wp_skip ⟨hD, ?_, Chg.refl _ _⟩
  have e : zaG cs off dd_sAlterUserSCRAMCredentialsRequestDeletion = cs := splice_same hseg hlen
  rw [e]; exact hb
def zz_sAlterUserSCRAMCredentialsRequestUpsertion : List Value := [.string ⟨#[]⟩, .int .i8 0, .int .i32 0, .slice none 0 0, .slice none 0 0, .map none]
def dd_sAlterUserSCRAMCredentialsRequestUpsertion : List Value := [.string ⟨#[]⟩, .int .i8 0, .int .i32 0, .slice none 0 0, .slice none 0 0, .map none]
theorem elz_sAlterUserSCRAMCredentialsRequestUpsertion : ∀ e, (Tryz.prog).underlying 104 = some (.slice e) → zeroB Tryz.prog e (zaT zz_sAlterUserSCRAMCredentialsRequestUpsertion) := by
  intro e he
  have h : (Tryz.prog).underlying 104 = some (.slice 114) := by kernel_rfl
  rw [h] at he; cases he
  exact fun w => Tryz.zeroValue114 w
theorem eln_sAlterUserSCRAMCredentialsRequestUpsertion : zaV Tryz.prog 131 := (fun args w => Tryz.call131 args w)
theorem eld_sAlterUserSCRAMCredentialsRequestUpsertion : DefC 131 (zaT zz_sAlterUserSCRAMCredentialsRequestUpsertion).cells.toList dd_sAlterUserSCRAMCredentialsRequestUpsertion := by
  intro w b off cs T hb hlen hseg
  refine callsR_of0 Tryz.func131 rfl rfl Tryz.ntmps131 (by simp) ?_
  intro a hN hD ha
  refine wp_skip ⟨hD, ?_, Chg.refl _ _⟩
  have e : zaG cs off dd_sAlterUserSCRAMCredentialsRequestUpsertion = cs := splice_same hseg hlen
  rw [e]; exact hb
def dd_AlterUserSCRAMCredentialsRequest : List Value := [.slice none 0 0, .slice none 0 0, .map none]
theorem defm_AlterUserSCRAMCredentialsRequest : DefM 86 dd_AlterUserSCRAMCredentialsRequest := by
  intro w B v T hb
  refine callsR_of0 Tryz.func86 rfl rfl Tryz.ntmps86 (by simp) ?_
  intro a hN hD ha
  exact wp_skip ⟨hD, hb, Chg.refl _ _⟩
theorem read_AlterUserSCRAMCredentialsRequest : ReadsF 87 true (fun ver => decide (0 ≤ ver)) sch_AlterUserSCRAMCredentialsRequest dd_AlterUserSCRAMCredentialsRequest [.bool false] := by
  refine read_flex Tryz.func87 rfl rfl Tryz.ntmps87 (fun args w => Tryz.call86 args w) defm_AlterUserSCRAMCredentialsRequest (by kernel_rfl) ?_
  intro ver hver
  (repeat' (first | (with_reducible refine rt_tagged rfl rfl ?_) | (with_reducible refine rt_next rfl (by kernel_rfl) ?_ ?_) | (with_reducible refine rt_end rfl ?_) | (with_reducible refine rt_noflex rfl ?_) | (with_reducible refine rt_fin co_en (by kernel_rfl) (by kernel_rfl)) | (with_reducible refine rt_tl (I := 1000) (by kernel_rfl) ?_ ?_) | (with_reducible refine rd_tags (by kernel_rfl) tagOK_all tg_en (by kernel_rfl) (by kernel_rfl)) | (with_reducible refine rd_tagged rfl rfl ?_) | (with_reducible refine rd_noflex rfl ?_) | (with_reducible refine rd_last rfl rfl (by kernel_rfl) ?_) | (with_reducible refine rd_next rfl (by kernel_rfl) (by kernel_rfl) ?_ ?_) | (with_reducible refine rd_end rfl ?_) | (with_reducible refine sf_all rfl (by dsimp only; omega) ?_) | ((with_reducible refine sf_from rfl (by kernel_rfl) (fun hv => ?_)); try dsimp only at hv) | ((with_reducible refine sf_range rfl (by kernel_rfl) (fun hv hv2 => ?_)); try dsimp only at hv hv2) | (with_reducible refine rf_list1 rfl (by kernel_rfl) elz_sAlterUserSCRAMCredentialsRequestDeletion (by kernel_rfl) ?_ ok_en co_en ?_ (by kernel_rfl)) | (with_reducible refine el_struct1 (by kernel_rfl) eln_sAlterUserSCRAMCredentialsRequestDeletion eld_sAlterUserSCRAMCredentialsRequestDeletion (by kernel_rfl) ?_ (by kernel_rfl) (by kernel_rfl) (by kernel_rfl)) | (with_reducible refine rf_list1 rfl (by kernel_rfl) elz_sAlterUserSCRAMCredentialsRequestUpsertion (by kernel_rfl) ?_ ok_en co_en ?_ (by kernel_rfl)) | (with_reducible refine el_struct1 (by kernel_rfl) eln_sAlterUserSCRAMCredentialsRequestUpsertion eld_sAlterUserSCRAMCredentialsRequestUpsertion (by kernel_rfl) ?_ (by kernel_rfl) (by kernel_rfl) (by kernel_rfl)) | (with_reducible refine rf_store ?_ rfl (by kernel_rfl) (by kernel_rfl) (by kernel_rfl)) | (with_reducible refine rf_store2 ?_ rfl (by kernel_rfl) (by kernel_rfl) (by kernel_rfl) (by kernel_rfl)) | (with_reducible refine rd_pre ?_ (by kernel_rfl)) | (with_reducible refine rv_safe ?_ (by kernel_rfl)) | (with_reducible refine rv_flex rfl (fun hx => ?_) (fun hx => ?_) (by kernel_rfl)) | (with_reducible refine rv_i8 (by kernel_rfl)) | (with_reducible refine rv_i32 (by kernel_rfl)) | (with_reducible refine rv_string rfl (by first | assumption | rfl) (by kernel_rfl)) | (with_reducible refine rv_cstring rfl (by first | assumption | rfl) (by kernel_rfl)) | (with_reducible refine rv_bytes (by first | assumption | rfl) (by kernel_rfl)) | (with_reducible refine rv_cbytes (by first | assumption | rfl) (by kernel_rfl)) | (with_reducible refine rv_again ?_ (by kernel_rfl)) | (with_reducible refine rv_pre ?_ (by kernel_rfl)) | (with_reducible refine rn_plain (by first | assumption | rfl) (by kernel_rfl)) | (with_reducible refine rn_cplain (by first | assumption | rfl) (by kernel_rfl)) | (with_reducible refine rn_flex rfl (fun hx => ?_) (fun hx => ?_) (by kernel_rfl)) | (with_reducible refine el_pre ?_ (by kernel_rfl)) | (with_reducible refine el_val1 (by kernel_rfl) (rv_elem rfl ?_) (by kernel_rfl) (by kernel_rfl))))
theorem app_AlterUserSCRAMCredentialsRequest : AppendsTo 47 true (fun ver => decide (0 ≤ ver)) sch_AlterUserSCRAMCredentialsRequest := by
  refine app_flex Tryz.func47 rfl rfl Tryz.ntmps47 (by kernel_rfl) ?_
  intro ver s hver
  (repeat' (first | with_reducible refine wt_start ?_ | with_reducible refine wp_noflex rfl ?_ | with_reducible refine wr_start ?_ | with_reducible refine wt_tagged rfl rfl ?_ | (with_reducible refine wt_next rfl (by kernel_rfl) (fun d hd => ?_) ?_) | (with_reducible refine wt_fin rfl rfl ?_) | (with_reducible refine wt_end rfl (by kernel_rfl) ?_ ?_) | (with_reducible refine wt_ret (by kernel_rfl)) | with_reducible refine wr_tagged rfl rfl ?_ | (with_reducible refine wr_last rfl rfl (fun d hd => ?_)) | (with_reducible refine wr_next rfl (by kernel_rfl) (fun d hd => ?_) ?_) | (with_reducible refine wr_end rfl ?_) | (with_reducible refine wr_tail rfl (by kernel_rfl) k_uint32 (by kernel_rfl)) | (with_reducible refine wf_all rfl (by dsimp only; omega) ?_) | ((with_reducible refine wf_from rfl (by kernel_rfl) (fun hv => ?_)); try dsimp only at hv) | ((with_reducible refine wf_range rfl (by kernel_rfl) (fun hv hv2 => ?_)); try dsimp only at hv hv2) | (with_reducible refine wf_load rfl hd (by kernel_rfl) (by kernel_rfl) rfl ?_) | (with_reducible refine wf_inner rfl hd (by kernel_rfl) (by kernel_rfl) rfl (fun s => ?_)) | (with_reducible refine wv_i8 (by kernel_rfl)) | (with_reducible refine wv_i32 (by kernel_rfl)) | (with_reducible refine wv_flexS rfl (by kernel_rfl) (fun hx => ?_) (fun hx => ?_)) | (with_reducible refine wv_string rfl (by first | assumption | rfl) (by kernel_rfl)) | (with_reducible refine wv_cstring rfl (by first | assumption | rfl) (by kernel_rfl)) | (with_reducible refine wv_bytes (by first | assumption | rfl) (by kernel_rfl)) | (with_reducible refine wv_cbytes (by first | assumption | rfl) (by kernel_rfl)) | (with_reducible refine wv_listS (fun oa n cap M => ?_) (by kernel_rfl) (by kernel_rfl) (by kernel_rfl) (by kernel_rfl) (fun s => ?_)) | (with_reducible refine wv_listK (fun oa n cap M => ?_) (by kernel_rfl) (by kernel_rfl) (by kernel_rfl) (by kernel_rfl) (fun d => ?_)) | (with_reducible refine wn_flex rfl (by kernel_rfl) (fun hx => ?_) (fun hx => ?_)) | (with_reducible refine wn_plain (by dsimp only; omega) (by first | assumption | rfl) (by kernel_rfl) (by kernel_rfl)) | (with_reducible refine wn_cplain (by dsimp only; omega) (by first | assumption | rfl) (by kernel_rfl) (by kernel_rfl)) | (with_reducible refine wv_again (by kernel_rfl) rfl ?_)))
end Go.Proofs.YtdafbdbfhjmmaaaGreatDoor
namespace Go.Proofs.YtdafbdbfhjmmaaaGreatDoor
set_option linter.all false
open Go.RowKit
set_option maxRecDepth 100000
set_option maxHeartbeats 2000000
theorem lay_sAlterUserSCRAMCredentialsRequestDeletion : LaysS 43 sch_sAlterUserSCRAMCredentialsRequestDeletion := by
  intro w0
  refine zas Tryz.func43 rfl rfl Tryz.ntmps43 (by simp) ?_
  intro a hN hD ha
  refine wp_seq_k fun K hK => ?_; refine zaf ?_; refine zan ?_; simp only [evb, kb, hN, seval]; refine zac ?_; refine hK _ _ ?_; clear hK K
  refine wp_seq_k fun K hK => ?_; refine zaf ?_
  have hq : Chg (fun _ => False) w0 w0 := Chg.refl _ _
  refine wl_build (l := zbh (.mk .text 0 (-1) (-1) (-1) 0 .bool []) (.slice none 0 0)) (by simp only [List.map_toArray, List.map_cons, List.map_nil, evb, kb, hN, seval]; kernel_rfl) ?_
  refine wl_build (l := zbh (.mk .i8 0 (-1) (-1) (-1) 0 .bool []) (.slice none 0 0)) (by simp only [List.map_toArray, List.map_cons, List.map_nil, evb, kb, hN, seval]; kernel_rfl) ?_
  refine wl_fields sch_sAlterUserSCRAMCredentialsRequestDeletion [zbh (.mk .text 0 (-1) (-1) (-1) 0 .bool []) (.slice none 0 0), zbh (.mk .i8 0 (-1) (-1) (-1) 0 .bool []) (.slice none 0 0)] rfl (by simp only [List.map_toArray, List.map_cons, List.map_nil, evb, kb, hN, seval]; rfl) (by simp only [List.length_cons, List.length_nil]; omega) hq (.cons (fldCells_is (.mk .text 0 (-1) (-1) (-1) 0 .bool []) (schS_nil _ _ _ _)) (.cons (fldCells_is (.mk .i8 0 (-1) (-1) (-1) 0 .bool []) (schS_nil _ _ _ _)) (.nil))) ?_
  rintro v wF hcF hkF hsF rfl
  refine zan ?_
  simp only [evb, kb, hN, seval]
  refine zac ?_; refine hK _ _ ?_; clear hK K
  refine wp_ret ⟨by simp [zad, hD], ?_⟩; simp only [evb, kb, hN, seval]
  exact ⟨hsF, hcF⟩
theorem lay_sAlterUserSCRAMCredentialsRequestUpsertion : LaysS 44 sch_sAlterUserSCRAMCredentialsRequestUpsertion := by
  intro w0
  refine zas Tryz.func44 rfl rfl Tryz.ntmps44 (by simp) ?_
  intro a hN hD ha
  refine wp_seq_k fun K hK => ?_; refine zaf ?_; refine zan ?_; simp only [evb, kb, hN, seval]; refine zac ?_; refine hK _ _ ?_; clear hK K
  refine wp_seq_k fun K hK => ?_; refine zaf ?_
  have hq : Chg (fun _ => False) w0 w0 := Chg.refl _ _
  refine wl_build (l := zbh (.mk .text 0 (-1) (-1) (-1) 0 .bool []) (.slice none 0 0)) (by simp only [List.map_toArray, List.map_cons, List.map_nil, evb, kb, hN, seval]; kernel_rfl) ?_
  refine wl_build (l := zbh (.mk .i8 0 (-1) (-1) (-1) 0 .bool []) (.slice none 0 0)) (by simp only [List.map_toArray, List.map_cons, List.map_nil, evb, kb, hN, seval]; kernel_rfl) ?_
  refine wl_build (l := zbh (.mk .i32 0 (-1) (-1) (-1) 0 .bool []) (.slice none 0 0)) (by simp only [List.map_toArray, List.map_cons, List.map_nil, evb, kb, hN, seval]; kernel_rfl) ?_
  refine wl_build (l := zbh (.mk .bytes 0 (-1) (-1) (-1) 0 .bool []) (.slice none 0 0)) (by simp only [List.map_toArray, List.map_cons, List.map_nil, evb, kb, hN, seval]; kernel_rfl) ?_
  refine wl_build (l := zbh (.mk .bytes 0 (-1) (-1) (-1) 0 .bool []) (.slice none 0 0)) (by simp only [List.map_toArray, List.map_cons, List.map_nil, evb, kb, hN, seval]; kernel_rfl) ?_
  refine wl_fields sch_sAlterUserSCRAMCredentialsRequestUpsertion [zbh (.mk .text 0 (-1) (-1) (-1) 0 .bool []) (.slice none 0 0), zbh (.mk .i8 0 (-1) (-1) (-1) 0 .bool []) (.slice none 0 0), zbh (.mk .i32 0 (-1) (-1) (-1) 0 .bool []) (.slice none 0 0), zbh (.mk .bytes 0 (-1) (-1) (-1) 0 .bool []) (.slice none 0 0), zbh (.mk .bytes 0 (-1) (-1) (-1) 0 .bool []) (.slice none 0 0)] rfl (by simp only [List.map_toArray, List.map_cons, List.map_nil, evb, kb, hN, seval]; rfl) (by simp only [List.length_cons, List.length_nil]; omega) hq (.cons (fldCells_is (.mk .text 0 (-1) (-1) (-1) 0 .bool []) (schS_nil _ _ _ _)) (.cons (fldCells_is (.mk .i8 0 (-1) (-1) (-1) 0 .bool []) (schS_nil _ _ _ _)) (.cons (fldCells_is (.mk .i32 0 (-1) (-1) (-1) 0 .bool []) (schS_nil _ _ _ _)) (.cons (fldCells_is (.mk .bytes 0 (-1) (-1) (-1) 0 .bool []) (schS_nil _ _ _ _)) (.cons (fldCells_is (.mk .bytes 0 (-1) (-1) (-1) 0 .bool []) (schS_nil _ _ _ _)) (.nil)))))) ?_
  rintro v wF hcF hkF hsF rfl
  refine zan ?_
  simp only [evb, kb, hN, seval]
  refine zac ?_; refine hK _ _ ?_; clear hK K
  refine wp_ret ⟨by simp [zad, hD], ?_⟩; simp only [evb, kb, hN, seval]
  exact ⟨hsF, hcF⟩
theorem lay_AlterUserSCRAMCredentialsRequest : LaysM 19 sch_AlterUserSCRAMCredentialsRequest 0 := by
  intro w
  refine callsR_ofC Tryz.func19 rfl rfl (by kernel_rfl) Tryz.ntmps19 (by simp) ?_
  intro a hN hD ha
  refine wp_seq_k fun K hK => ?_; refine zaf ?_
  refine wl_allocA (z := zaT [.slice none 0 0, .int .i64 0]) (fun w => Tryz.zeroValue33 w) fun w0 hc0 hb0 hs0 => ?_
  refine zac ?_; refine hK _ _ ?_; clear hK K
  refine wp_seq_k fun K hK => ?_; refine zaf ?_
  have hq : Chg (fun _ => False) w0 w0 := Chg.refl _ _
  refine zaA (fun args w => Tryz.call43 args w) (by simp only [List.map_toArray, List.map_nil]; exact lay_sAlterUserSCRAMCredentialsRequestDeletion _) ?_
  rintro v1 w1 ⟨hs1, hk1⟩
  replace hs1 := hs1.later (Chg.refl _ _) hq.size
  replace hq := hq.trans hk1 fun _ _ h => h
  obtain ⟨oa1, cap1, rfl, _⟩ := id hs1
  refine wl_build (l := zbh (.mk .list 0 (-1) (-1) (-1) 0 .struct sch_sAlterUserSCRAMCredentialsRequestDeletion) (.slice oa1 (sch_sAlterUserSCRAMCredentialsRequestDeletion).length cap1)) (by simp only [List.map_toArray, List.map_cons, List.map_nil, evb, kb, hN, seval]; kernel_rfl) ?_
  refine zaA (fun args w => Tryz.call44 args w) (by simp only [List.map_toArray, List.map_nil]; exact lay_sAlterUserSCRAMCredentialsRequestUpsertion _) ?_
  rintro v2 w2 ⟨hs2, hk2⟩
  replace hs2 := hs2.later (Chg.refl _ _) hq.size
  replace hs1 := hs1.later hk2 (Nat.le_refl _)
  replace hq := hq.trans hk2 fun _ _ h => h
  obtain ⟨oa2, cap2, rfl, _⟩ := id hs2
  refine wl_build (l := zbh (.mk .list 0 (-1) (-1) (-1) 0 .struct sch_sAlterUserSCRAMCredentialsRequestUpsertion) (.slice oa2 (sch_sAlterUserSCRAMCredentialsRequestUpsertion).length cap2)) (by simp only [List.map_toArray, List.map_cons, List.map_nil, evb, kb, hN, seval]; kernel_rfl) ?_
  refine wl_fields sch_AlterUserSCRAMCredentialsRequest [zbh (.mk .list 0 (-1) (-1) (-1) 0 .struct sch_sAlterUserSCRAMCredentialsRequestDeletion) (.slice oa1 (sch_sAlterUserSCRAMCredentialsRequestDeletion).length cap1), zbh (.mk .list 0 (-1) (-1) (-1) 0 .struct sch_sAlterUserSCRAMCredentialsRequestUpsertion) (.slice oa2 (sch_sAlterUserSCRAMCredentialsRequestUpsertion).length cap2)] rfl (by simp only [List.map_toArray, List.map_cons, List.map_nil, evb, kb, hN, seval]; rfl) (by simp only [List.length_cons, List.length_nil]; omega) hq (.cons (fldCells_is (.mk .list 0 (-1) (-1) (-1) 0 .struct sch_sAlterUserSCRAMCredentialsRequestDeletion) hs1) (.cons (fldCells_is (.mk .list 0 (-1) (-1) (-1) 0 .struct sch_sAlterUserSCRAMCredentialsRequestUpsertion) hs2) (.nil))) ?_
  rintro v wF hcF hkF hsF rfl
  refine wl_build (l := [.slice (some ⟨w2.heap.size, 0, none⟩) (sch_AlterUserSCRAMCredentialsRequest).length (sch_AlterUserSCRAMCredentialsRequest).length, .int .i64 0]) (by simp only [List.map_toArray, List.map_cons, List.map_nil, evb, kb, hN, seval]; kernel_rfl) ?_
  have hbF := hb0.chg hcF (fun h => h)
  refine zbf (b := w.heap.size) (n := 2) (l' := [.slice (some ⟨w2.heap.size, 0, none⟩) (sch_AlterUserSCRAMCredentialsRequest).length (sch_AlterUserSCRAMCredentialsRequest).length, .int .i64 0]) (by kernel_rfl) (by simp [evb, kb, hN, sdb]) (by simp [evb, kb, hN, sdb]) hbF rfl (by intro y hy; simp only [List.mem_cons, List.not_mem_nil, or_false] at hy; rcases hy with rfl | rfl <;> rfl) rfl fun wE hbE hcE => ?_
  refine zac ?_; refine hK _ _ ?_; clear hK K
  refine wp_ret ⟨by simp [zad, hD], w.heap.size, _, _, by simp only [evb, kb, hN, seval], hbE, by kernel_rfl, ⟨_, rfl, SchS.stay ⟨fun k hk hg => ⟨hcE.block k hk (by omega), by omega⟩⟩ hsF, ?_⟩⟩
  exact (hc0.trans hcF fun _ _ h => h).trans hcE fun k hk h => by omega
theorem new_AlterUserSCRAMCredentialsRequest : NewsPtr 41 dd_AlterUserSCRAMCredentialsRequest :=
  newptr_of dd_AlterUserSCRAMCredentialsRequest dd_AlterUserSCRAMCredentialsRequest Tryz.func41 rfl rfl Tryz.ntmps41 (by kernel_rfl) (fun w => Tryz.zeroValue106 w) (fun args w => Tryz.call86 args w) defm_AlterUserSCRAMCredentialsRequest
theorem max_AlterUserSCRAMCredentialsRequest : MaxIs 18 0 := by
  intro w
  refine zas Tryz.func18 rfl rfl Tryz.ntmps18 (by simp) ?_
  intro a hN hD ha
  refine wp_seq_k fun K hK => ?_; refine zaf ?_; refine zan ?_; refine zac ?_; refine hK _ _ ?_; clear hK K
  refine wp_seq_k fun K hK => ?_; refine zaf ?_
  refine zaA (fun args w => Tryz.call41 args w) (by simp only [List.map_toArray, List.map_nil]; exact new_AlterUserSCRAMCredentialsRequest w) ?_
  rintro v w1 ⟨rfl, hc, _⟩
  refine zaA (fun args w => Tryz.call42 args w) (by simp only [List.map_toArray, List.map_cons, List.map_nil]; simp only [evb, kb, hN, seval]; exact maxver_of Tryz.func42 rfl rfl Tryz.ntmps42 (by kernel_rfl) _ w1) ?_
  rintro _ w2 ⟨rfl, rfl⟩
  (repeat (first | ((with_reducible refine zay ?_ ?_ ?_ ?_); (· exact rfl); (· simp [evb, kb, hN, dyb, sdb] <;> omega); (· kernel_rfl); try simp only [evb, kb, hN, seval, pvb]) | ((with_reducible refine zak ?_ ?_ ?_); rotate_left 1; (· simp [evb, kb, hN, sdb]); rotate_left 1; (· kernel_rfl); try simp only [evb, kb, hN, seval, pvb])))
  refine zac ?_; refine hK _ _ ?_; clear hK K; refine wp_ret ⟨by simp [zad, hD], ?_⟩; simp only [evb, kb, hN, seval]
  exact ⟨by first | rfl | trivial, hc⟩
theorem setv_AlterUserSCRAMCredentialsRequest : SetsVersion 45 := setver_of Tryz.func45 rfl rfl Tryz.ntmps45 (by kernel_rfl)
theorem from_AlterUserSCRAMCredentialsRequest : ReadsFrom 46 87 := fun h => readfrom_c Tryz.func46 rfl rfl Tryz.ntmps46 (fun args w => Tryz.call87 args w) h
theorem ag_AlterUserSCRAMCredentialsRequest : AgC 20 (fun ver => decide (0 ≤ ver)) 0 sch_AlterUserSCRAMCredentialsRequest := fun ver h0 h1 w G oa bs cap hsrc hlim herr hout =>
  again_of Tryz.func20 rfl rfl Tryz.ntmps20 (fun args w => Tryz.call41 args w) (fun args w => Tryz.call45 args w) (fun args w => Tryz.call46 args w) (fun args w => Tryz.call47 args w) new_AlterUserSCRAMCredentialsRequest setv_AlterUserSCRAMCredentialsRequest from_AlterUserSCRAMCredentialsRequest read_AlterUserSCRAMCredentialsRequest app_AlterUserSCRAMCredentialsRequest h0 (by omega) hsrc hlim herr hout
theorem ok_AlterUserSCRAMCredentialsRequest : SchOK (fun ver => decide (0 ≤ ver)) 0 sch_AlterUserSCRAMCredentialsRequest := schB_out (by kernel_rfl)
theorem walk_FnCutAlterUserSCRAMCredentialsRequest {a b : Int} (hn : 0 ≤ a) (hn2 : a < 256) {w : World} {G : Nat → Prop} {v : Tr} {ts : List Value} (hv : TrC w G v ts) (hkv : keyV v) (hb : zaZ v ≤ 1048576) (hb0 : 0 ≤ b) (hb1 : b < 65536) (herr : ErrW w) :
    zaE Tryz.prog 5 #[.int .u8 a, zaT ts, .int .u16 b] w fun v w' => v = .bool true ∧ Chg (fun _ => False) w w' :=
  lawCut_of Tryz.func5 rfl rfl (by kernel_rfl) rfl (by kernel_rfl) rfl Tryz.ntmps5 (fun args w => Tryz.call18 args w) (fun args w => Tryz.call19 args w) (fun args w => Tryz.call20 args w) max_AlterUserSCRAMCredentialsRequest lay_AlterUserSCRAMCredentialsRequest ag_AlterUserSCRAMCredentialsRequest (by decide) (fun ver _ => by simp) ok_AlterUserSCRAMCredentialsRequest hn hn2 hv hkv hb hb0 hb1 herr
end Go.Proofs.YtdafbdbfhjmmaaaGreatDoor
namespace Go.Proofs.YtdafbdbfhjmmaaaGreatDoor
set_option linter.all false
namespace fnCutAlterUserSCRAMCredentialsRequest
open Go.ChangeShapes Go.WideShapes Go.ChangeAt Go.RowKit
set_option maxRecDepth 100000
set_option maxHeartbeats 1000000
theorem laid_met (os : Os) : laidMet Tryz.prog Rows.fnCutAlterUserSCRAMCredentialsRequestUptoRow.laid ((laidWorld os).forCall (fun _ _ => 0) ⟨#[], #[.int .u8 0, .agg #[.int .i64 0, .slice none 0 0, .bool false, .slice none 0 0, .slice none 0 0], .int .u16 0], []⟩).memory :=
  laidMet_of_run' 8 (by kernel_rfl) (by kernel_rfl)
theorem witness_row (os : Os) {H : Type} (enc : TypeId × Value → H) :
    (Rows.OpenSpec.upto Rows.fnCutAlterUserSCRAMCredentialsRequestSpec).preRow enc Tryz.prog Tryz.f5 Rows.fnCutAlterUserSCRAMCredentialsRequestUptoRow.domain false Rows.fnCutAlterUserSCRAMCredentialsRequestUptoRow.laid ((laidWorld os).forCall (fun _ _ => 0) ⟨#[], #[.int .u8 0, .agg #[.int .i64 0, .slice none 0 0, .bool false, .slice none 0 0, .slice none 0 0], .int .u16 0], []⟩).memory #[.int .u8 0, .agg #[.int .i64 0, .slice none 0 0, .bool false, .slice none 0 0, .slice none 0 0], .int .u16 0] := by
  have hw : (DataW.whole enc Tryz.prog ((laidWorld os).forCall (fun _ _ => 0) ⟨#[], #[.int .u8 0, .agg #[.int .i64 0, .slice none 0 0, .bool false, .slice none 0 0, .slice none 0 0], .int .u16 0], []⟩).memory Tryz.f5.params.toList Rows.fnCutAlterUserSCRAMCredentialsRequestSpec.vars false (#[.int .u8 0, .agg #[.int .i64 0, .slice none 0 0, .bool false, .slice none 0 0, .slice none 0 0], .int .u16 0] : Array Value).toList 8).map (fun x => (decide (Rows.uptoBulkAll (x.1 ++ x.2.1) ≤ 1048576))) = some true := by kernel_rfl
  obtain ⟨⟨x1, x2, x3⟩, hx, hx1⟩ := Option.map_eq_some_iff.1 hw
  exact OpenSpec.preRow_of_cond 8 hx (by kernel_rfl) (fun k hk => by cases hk; exact hx1) (by kernel_rfl) (laid_met os)
theorem lifted (os : Os) (started : os.Started) (H : Type) (enc : TypeId × Value → H) (F : Stop.Interp) :
    ReturnsInHanded {} Tryz.checked os 5 .any ((Rows.OpenSpec.upto Rows.fnCutAlterUserSCRAMCredentialsRequestSpec).preRow enc Tryz.prog Tryz.f5 Rows.fnCutAlterUserSCRAMCredentialsRequestUptoRow.domain false Rows.fnCutAlterUserSCRAMCredentialsRequestUptoRow.laid) (((Rows.OpenSpec.upto Rows.fnCutAlterUserSCRAMCredentialsRequestSpec).at F).post enc Tryz.prog Tryz.f5 false true false false) := by
  refine returnsInHanded_of_row (C := Tryz.checked) (s := Rows.OpenSpec.upto Rows.fnCutAlterUserSCRAMCredentialsRequestSpec) own started (by kernel_rfl) Tryz.func5
    (witness_row_atRef (enc := enc) (C := Tryz.checked) false (laidWorld os) #[.int .u8 0, .agg #[.int .i64 0, .slice none 0 0, .bool false, .slice none 0 0, .slice none 0 0], .int .u16 0] rfl (by kernel_rfl) (by kernel_rfl) (by kernel_rfl) (witness_row os enc)) ?_
  intro W base args ds gs before hval0 hW _ hcond _ hL _ _
  have hval : ∀ (j : Nat) t v, Tryz.f5.params[j]? = some t → args[j]? = some v → Value.okWide Tryz.prog W .any base t v := hval0
  have hW' := hW
  obtain ⟨p, q, hA0, hV, rfl, hfz, hnd⟩ := hW
  have hA : DataW.TrodAll enc Tryz.prog W 0 (fun _ => true) true Tryz.f5.params.toList args.toList ds p := hA0
  rw [Tryz.params5] at hA hval
  obtain ⟨v0, vs0, d0, ds0, p0, q0, hargs, rfl, rfl, h0, r0⟩ := trodAll_cons hA
  obtain ⟨v1, vs1, d1, ds1, p1, q1, rfl, rfl, rfl, h1, r1⟩ := trodAll_cons r0
  obtain ⟨v2, vs2, d2, ds2, p2, q2, rfl, rfl, rfl, h2, r2⟩ := trodAll_cons r1
  obtain ⟨rfl, rfl, rfl⟩ := trodAll_nil r2
  obtain rfl : args = #[v0, v1, v2] := by cases args; simp_all
  obtain ⟨rfl, rfl⟩ := trodVars_none hV
  simp only [List.append_nil] at hW' hcond
  have hbulk := hcond _ rfl
  replace hbulk := of_decide_eq_true hbulk
  simp only [Rows.uptoBulkAll] at hbulk
  have hlt : ∀ x ∈ _, MemPlace.block x < W.heap.size := fun x hx => hW'.lt x hx
  obtain ⟨a0, rfl, rfl, rfl, x0⟩ := open_int Tryz.underlying5 (hval 0 5 v0 rfl rfl) h0
  have y0 : 0 ≤ a0 ∧ a0 < 256 := by have h := x0; simp only [Lit.wf, IntKind.min, IntKind.max, IntKind.signed, IntKind.bits, Bool.and_eq_true, decide_eq_true_eq] at h; simp at h; omega
  obtain ⟨ts, T, rfl, hT, hkey, hbT⟩ := tree_arg (hval 1 26 v1 rfl rfl) h1 (by omega)
  obtain ⟨a2, rfl, rfl, rfl, x2⟩ := open_int Tryz.underlying27 (hval 2 27 v2 rfl rfl) h2
  have y2 : 0 ≤ a2 ∧ a2 < 65536 := by have h := x2; simp only [Lit.wf, IntKind.min, IntKind.max, IntKind.signed, IntKind.bits, Bool.and_eq_true, decide_eq_true_eq] at h; simp at h; omega
  clear hA0 hval0
  refine Calls.mono (walk_FnCutAlterUserSCRAMCredentialsRequest y0.1 y0.2 hT hkey hbT y2.1 y2.2 (errW_of hL)) fun e W' ⟨v, he, hv, hc⟩ => ?_
  subst he
  subst hv
  exact ⟨_, rfl, _, _, _, [], _, [], hW', trodAll_cons_mk (shut_bool Tryz.underlying4 _) trodAll_mk0, trodAll_cons_mk (shut_int Tryz.underlying5 x0) (trodAll_cons_mk (tree_same h1 hc (fun x hx => hlt x (by simp [hx]))) (trodAll_cons_mk (shut_int Tryz.underlying27 x2) (trodAll_mk0))), rfl, (below_of hc).frame _, fun h => by cases h⟩
theorem c2 : (Rows.fnCutAlterUserSCRAMCredentialsRequestUptoRow.inPlace == Tryz.prog.inPlace 5) = true := by kernel_rfl
theorem c3 : (Rows.fnCutAlterUserSCRAMCredentialsRequestUptoRow.unfollowed == Tryz.prog.unfollowed 5) = true := by kernel_rfl
theorem c4 : (Rows.fnCutAlterUserSCRAMCredentialsRequestUptoRow.recurses == Tryz.prog.recurses 5) = true := by kernel_rfl
theorem c5 : (Rows.fnCutAlterUserSCRAMCredentialsRequestUptoRow.named == Tryz.prog.varsNamed 5) = true := by kernel_rfl
theorem c7 : (Rows.fnCutAlterUserSCRAMCredentialsRequestUptoRow.lifted == Tryz.prog.liftsFinal) = true := by
  have h : Rows.fnCutAlterUserSCRAMCredentialsRequestUptoRow.lifted = Facts.lifted := rfl
  rw [h]; exact Facts.c7
theorem c8 : (Tryz.prog.make == some Rows.fnCutAlterUserSCRAMCredentialsRequestUptoRow.make) = true := by
  have h : Rows.fnCutAlterUserSCRAMCredentialsRequestUptoRow.make = Facts.make := rfl
  rw [h]; exact Facts.c8
theorem c9 : (Rows.fnCutAlterUserSCRAMCredentialsRequestUptoRow.plainKeys == Tryz.prog.plainKeys) = true := by
  have h : Rows.fnCutAlterUserSCRAMCredentialsRequestUptoRow.plainKeys = Facts.plainKeys := rfl
  rw [h]; exact Facts.c9
theorem c11 : Tryz.prog.funcNamed Rows.fnCutAlterUserSCRAMCredentialsRequestUptoRow.func = some 5 := by kernel_rfl
theorem closed : joinedFacts Tryz.prog 5 Tryz.f5 (Rows.OpenSpec.upto Rows.fnCutAlterUserSCRAMCredentialsRequestSpec).bare Rows.fnCutAlterUserSCRAMCredentialsRequestUptoRow = true := by
  unfold joinedFacts
  simp only [Bool.and_eq_true]
  repeat' (refine And.intro ?_ ?_)
  all_goals first | with_reducible exact Facts.c1 | with_reducible exact Facts.c0 | with_reducible exact c2 | with_reducible exact c3 | with_reducible exact c4 | with_reducible exact c5 | with_reducible exact Facts.c6 | with_reducible exact c7 | with_reducible exact c8 | with_reducible exact c9 | with_reducible exact Facts.c10 | kernel_rfl
theorem over : Rows.FnCutAlterUserSCRAMCredentialsRequestUptoSaid :=
  OpenClaim.holds_of_cond 5 Tryz.f5 rfl rfl rfl rfl rfl rfl rfl ⟨rfl, rfl, rfl, rfl, rfl⟩ rfl rfl rfl rfl rfl c11 Tryz.func5 closed
    (of_decide_eq_true (by kernel_rfl)) (by unfold Func.isWrapper; first | (rw [if_pos (by decide +kernel)]; kernel_rfl) | (rw [if_neg (by decide +kernel)]; exact ⟨rfl, rfl⟩))
    (fun os started H enc _ F => by rw [OpenClaim.pre_eq_preRow]; exact lifted os started H enc F)
theorem plain (f : FuncId) (fn : Func) (hf : Tryz.pinned.checked.prog.funcNamed "pub-kmsg/laws.FnCutAlterUserSCRAMCredentialsRequest" = some f) (hfn : Tryz.pinned.checked.prog.funcs[f]? = some fn) :
    false = Tryz.pinned.checked.prog.looks [] ∧ ∀ (j : Nat) t, fn.params[j]? = some t → Tryz.pinned.checked.prog.wantsStandIn t = false := by
  obtain rfl : f = 5 := Option.some.inj ((show Tryz.prog.funcNamed "pub-kmsg/laws.FnCutAlterUserSCRAMCredentialsRequest" = some 5 by kernel_rfl).symm.trans hf) |>.symm
  obtain rfl : fn = Tryz.f5 := (Option.some.inj (Tryz.func5.symm.trans hfn)).symm
  refine ⟨by kernel_rfl, fun j t ht => ?_⟩
  rw [Tryz.params5] at ht
  have hw0 : Tryz.prog.wantsStandIn 5 = false := by kernel_rfl
  have hw1 : Tryz.prog.wantsStandIn 26 = false := by kernel_rfl
  have hw2 : Tryz.prog.wantsStandIn 27 = false := by kernel_rfl
  have hm := Array.mem_of_getElem? ht
  simp only [List.mem_toArray, List.mem_cons, List.not_mem_nil, or_false] at hm
  rcases hm with rfl | rfl | rfl <;> assumption
end fnCutAlterUserSCRAMCredentialsRequest
theorem fnCutAlterUserSCRAMCredentialsRequest_holds : Rows.FnCutAlterUserSCRAMCredentialsRequestUptoCardSaid :=
  Claim7.holds_tied_plain_at .later [] _ _ _ _ fnCutAlterUserSCRAMCredentialsRequest.over (fun _ h => by cases h) (by kernel_rfl) (fun _ h => by cases h) fnCutAlterUserSCRAMCredentialsRequestUpto_row_tie rfl ⟨rfl, rfl⟩ (by kernel_rfl) rfl fnCutAlterUserSCRAMCredentialsRequest.plain (by kernel_rfl)
#print axioms fnCutAlterUserSCRAMCredentialsRequest_holds
end Go.Proofs.YtdafbdbfhjmmaaaGreatDoor

/-
What a AlterReplicaLogDirsRequest says, written by the rules of the protocol, is read, and written back byte by byte: for every input of bulk at most 1048576 the law returns true. Conditions: the listed variable holds what the text lays (tied by the card).
-/
import Derived.Test.YthdkplbonieejaaGreatDoorZE
import Derived.Test.YthdkplbonieejaaGreatDoorZW
import Derived.Test.YthdkplbonieejaaGreatDoorZN
import Derived.Test.YthdkplbonieejaaGreatDoorZF
import Derived.Test.YthdkplbonieejaaGreatDoorZP
namespace Go.Proofs.YthdkplbonieejaaGreatDoor
set_option linter.all false
open Go.RowKit
set_option maxRecDepth 100000
set_option maxHeartbeats 2000000
def sch_sAlterReplicaLogDirsRequestDirTopic : List Fld := [.mk .text 0 (-1) (-1) (-1) 0 .bool [], .mk .list 0 (-1) (-1) (-1) 0 .i32 []]
def sch_sAlterReplicaLogDirsRequestDir : List Fld := [.mk .text 0 (-1) (-1) (-1) 0 .bool [], .mk .list 0 (-1) (-1) (-1) 0 .struct sch_sAlterReplicaLogDirsRequestDirTopic]
def sch_AlterReplicaLogDirsRequest : List Fld := [.mk .list 0 (-1) (-1) (-1) 0 .struct sch_sAlterReplicaLogDirsRequestDir]
theorem elz_k_Int32AlterReplicaLogDirsRequest : ∀ e, (Tryz.prog).underlying 97 = some (.slice e) → zeroB Tryz.prog e (.int .i32 0) := by
  intro e he
  have h : (Tryz.prog).underlying 97 = some (.slice 21) := by kernel_rfl
  rw [h] at he; cases he
  exact fun w => Tryz.zeroValue21 w
def zz_sAlterReplicaLogDirsRequestDirTopic : List Value := [.string ⟨#[]⟩, .slice none 0 0, .map none]
def dd_sAlterReplicaLogDirsRequestDirTopic : List Value := [.string ⟨#[]⟩, .slice none 0 0, .map none]
theorem elz_sAlterReplicaLogDirsRequestDirTopic : ∀ e, (Tryz.prog).underlying 93 = some (.slice e) → zeroB Tryz.prog e (aggOf zz_sAlterReplicaLogDirsRequestDirTopic) := by
  intro e he
  have h : (Tryz.prog).underlying 93 = some (.slice 99) := by kernel_rfl
  rw [h] at he; cases he
  exact fun w => Tryz.zeroValue99 w
theorem eln_sAlterReplicaLogDirsRequestDirTopic : Enters Tryz.prog 87 := (fun args w => Tryz.call87 args w)
theorem eld_sAlterReplicaLogDirsRequestDirTopic : DefC 87 (aggOf zz_sAlterReplicaLogDirsRequestDirTopic).cells.toList dd_sAlterReplicaLogDirsRequestDirTopic := by
  intro w b off cs T hb hlen hseg
  refine callsR_of0 Tryz.func87 rfl rfl Tryz.ntmps87 (by simp) ?_
  intro a hN hD ha
  refine wp_skip ⟨hD, ?_, Chg.refl _ _⟩
  have e : splice cs off dd_sAlterReplicaLogDirsRequestDirTopic = cs := splice_same hseg hlen
  rw [e]; exact hb
def zz_sAlterReplicaLogDirsRequestDir : List Value := [.string ⟨#[]⟩, .slice none 0 0, .map none]
def dd_sAlterReplicaLogDirsRequestDir : List Value := [.string ⟨#[]⟩, .slice none 0 0, .map none]
theorem elz_sAlterReplicaLogDirsRequestDir : ∀ e, (Tryz.prog).underlying 89 = some (.slice e) → zeroB Tryz.prog e (aggOf zz_sAlterReplicaLogDirsRequestDir) := by
  intro e he
  have h : (Tryz.prog).underlying 89 = some (.slice 95) := by kernel_rfl
  rw [h] at he; cases he
  exact fun w => Tryz.zeroValue95 w
theorem eln_sAlterReplicaLogDirsRequestDir : Enters Tryz.prog 86 := (fun args w => Tryz.call86 args w)
theorem eld_sAlterReplicaLogDirsRequestDir : DefC 86 (aggOf zz_sAlterReplicaLogDirsRequestDir).cells.toList dd_sAlterReplicaLogDirsRequestDir := by
  intro w b off cs T hb hlen hseg
  refine callsR_of0 Tryz.func86 rfl rfl Tryz.ntmps86 (by simp) ?_
  intro a hN hD ha
  refine wp_skip ⟨hD, ?_, Chg.refl _ _⟩
  have e : splice cs off dd_sAlterReplicaLogDirsRequestDir = cs := splice_same hseg hlen
  rw [e]; exact hb
def dd_AlterReplicaLogDirsRequest : List Value := [.slice none 0 0, .map none]
theorem defm_AlterReplicaLogDirsRequest : DefM 60 dd_AlterReplicaLogDirsRequest := by
  intro w B v T hb
  refine callsR_of0 Tryz.func60 rfl rfl Tryz.ntmps60 (by simp) ?_
  intro a hN hD ha
  exact wp_skip ⟨hD, hb, Chg.refl _ _⟩
theorem read_AlterReplicaLogDirsRequest : ReadsF 62 true (fun ver => decide (2 ≤ ver)) sch_AlterReplicaLogDirsRequest dd_AlterReplicaLogDirsRequest [.bool false] := by
  refine read_flex Tryz.func62 rfl rfl Tryz.ntmps62 (fun args w => Tryz.call60 args w) defm_AlterReplicaLogDirsRequest (by kernel_rfl) ?_
  intro ver hver
  (repeat' (first | (with_reducible refine rt_tagged rfl rfl ?_) | (with_reducible refine rt_next rfl (by kernel_rfl) ?_ ?_) | (with_reducible refine rt_end rfl ?_) | (with_reducible refine rt_noflex rfl ?_) | (with_reducible refine rt_fin co_en (by kernel_rfl) (by kernel_rfl)) | (with_reducible refine rt_tl (I := 1000) (by kernel_rfl) ?_ ?_) | (with_reducible refine rd_tags (by kernel_rfl) tagOK_all tg_en (by kernel_rfl) (by kernel_rfl)) | (with_reducible refine rd_tagged rfl rfl ?_) | (with_reducible refine rd_noflex rfl ?_) | (with_reducible refine rd_last rfl rfl (by kernel_rfl) ?_) | (with_reducible refine rd_next rfl (by kernel_rfl) (by kernel_rfl) ?_ ?_) | (with_reducible refine rd_end rfl ?_) | (with_reducible refine sf_all rfl (by dsimp only; omega) ?_) | ((with_reducible refine sf_from rfl (by kernel_rfl) (fun hv => ?_)); try dsimp only at hv) | ((with_reducible refine sf_range rfl (by kernel_rfl) (fun hv hv2 => ?_)); try dsimp only at hv hv2) | (with_reducible refine rf_list1 rfl (by kernel_rfl) elz_k_Int32AlterReplicaLogDirsRequest (by kernel_rfl) ?_ ok_en co_en ?_ (by kernel_rfl)) | (with_reducible refine rf_list1 rfl (by kernel_rfl) elz_sAlterReplicaLogDirsRequestDirTopic (by kernel_rfl) ?_ ok_en co_en ?_ (by kernel_rfl)) | (with_reducible refine el_struct1 (by kernel_rfl) eln_sAlterReplicaLogDirsRequestDirTopic eld_sAlterReplicaLogDirsRequestDirTopic (by kernel_rfl) ?_ (by kernel_rfl) (by kernel_rfl) (by kernel_rfl)) | (with_reducible refine rf_list1 rfl (by kernel_rfl) elz_sAlterReplicaLogDirsRequestDir (by kernel_rfl) ?_ ok_en co_en ?_ (by kernel_rfl)) | (with_reducible refine el_struct1 (by kernel_rfl) eln_sAlterReplicaLogDirsRequestDir eld_sAlterReplicaLogDirsRequestDir (by kernel_rfl) ?_ (by kernel_rfl) (by kernel_rfl) (by kernel_rfl)) | (with_reducible refine rf_store ?_ rfl (by kernel_rfl) (by kernel_rfl) (by kernel_rfl)) | (with_reducible refine rf_store2 ?_ rfl (by kernel_rfl) (by kernel_rfl) (by kernel_rfl) (by kernel_rfl)) | (with_reducible refine rd_pre ?_ (by kernel_rfl)) | (with_reducible refine rv_safe ?_ (by kernel_rfl)) | (with_reducible refine rv_flex rfl (fun hx => ?_) (fun hx => ?_) (by kernel_rfl)) | (with_reducible refine rv_i32 (by kernel_rfl)) | (with_reducible refine rv_string rfl (by first | assumption | rfl) (by kernel_rfl)) | (with_reducible refine rv_cstring rfl (by first | assumption | rfl) (by kernel_rfl)) | (with_reducible refine rv_again ?_ (by kernel_rfl)) | (with_reducible refine rv_pre ?_ (by kernel_rfl)) | (with_reducible refine rn_plain (by first | assumption | rfl) (by kernel_rfl)) | (with_reducible refine rn_cplain (by first | assumption | rfl) (by kernel_rfl)) | (with_reducible refine rn_flex rfl (fun hx => ?_) (fun hx => ?_) (by kernel_rfl)) | (with_reducible refine el_pre ?_ (by kernel_rfl)) | (with_reducible refine el_val1 (by kernel_rfl) (rv_elem rfl ?_) (by kernel_rfl) (by kernel_rfl))))
theorem app_AlterReplicaLogDirsRequest : AppendsTo 37 true (fun ver => decide (2 ≤ ver)) sch_AlterReplicaLogDirsRequest := by
  refine app_flex Tryz.func37 rfl rfl Tryz.ntmps37 (by kernel_rfl) ?_
  intro ver s hver
  (repeat' (first | with_reducible refine wt_start ?_ | with_reducible refine wp_noflex rfl ?_ | with_reducible refine wr_start ?_ | with_reducible refine wt_tagged rfl rfl ?_ | (with_reducible refine wt_next rfl (by kernel_rfl) (fun d hd => ?_) ?_) | (with_reducible refine wt_fin rfl rfl ?_) | (with_reducible refine wt_end rfl (by kernel_rfl) ?_ ?_) | (with_reducible refine wt_ret (by kernel_rfl)) | with_reducible refine wr_tagged rfl rfl ?_ | (with_reducible refine wr_last rfl rfl (fun d hd => ?_)) | (with_reducible refine wr_next rfl (by kernel_rfl) (fun d hd => ?_) ?_) | (with_reducible refine wr_end rfl ?_) | (with_reducible refine wr_tail rfl (by kernel_rfl) k_uint32 (by kernel_rfl)) | (with_reducible refine wf_all rfl (by dsimp only; omega) ?_) | ((with_reducible refine wf_from rfl (by kernel_rfl) (fun hv => ?_)); try dsimp only at hv) | ((with_reducible refine wf_range rfl (by kernel_rfl) (fun hv hv2 => ?_)); try dsimp only at hv hv2) | (with_reducible refine wf_load rfl hd (by kernel_rfl) (by kernel_rfl) rfl ?_) | (with_reducible refine wf_inner rfl hd (by kernel_rfl) (by kernel_rfl) rfl (fun s => ?_)) | (with_reducible refine wv_i32 (by kernel_rfl)) | (with_reducible refine wv_flexS rfl (by kernel_rfl) (fun hx => ?_) (fun hx => ?_)) | (with_reducible refine wv_string rfl (by first | assumption | rfl) (by kernel_rfl)) | (with_reducible refine wv_cstring rfl (by first | assumption | rfl) (by kernel_rfl)) | (with_reducible refine wv_listS (fun oa n cap M => ?_) (by kernel_rfl) (by kernel_rfl) (by kernel_rfl) (by kernel_rfl) (fun s => ?_)) | (with_reducible refine wv_listK (fun oa n cap M => ?_) (by kernel_rfl) (by kernel_rfl) (by kernel_rfl) (by kernel_rfl) (fun d => ?_)) | (with_reducible refine wn_flex rfl (by kernel_rfl) (fun hx => ?_) (fun hx => ?_)) | (with_reducible refine wn_plain (by dsimp only; omega) (by first | assumption | rfl) (by kernel_rfl) (by kernel_rfl)) | (with_reducible refine wn_cplain (by dsimp only; omega) (by first | assumption | rfl) (by kernel_rfl) (by kernel_rfl)) | (with_reducible refine wv_again (by kernel_rfl) rfl ?_)))
end Go.Proofs.YthdkplbonieejaaGreatDoor
namespace Go.Proofs.YthdkplbonieejaaGreatDoor
set_option linter.all false
open Go.RowKit
set_option maxRecDepth 100000
set_option maxHeartbeats 2000000
theorem lay_sAlterReplicaLogDirsRequestDirTopic : LaysS 61 sch_sAlterReplicaLogDirsRequestDirTopic := by
  intro w0
  refine callsR_of Tryz.func61 rfl rfl Tryz.ntmps61 (by simp) ?_
  intro a hN hD ha
  refine wp_seq_k fun K hK => ?_; refine wp_reg ?_; refine wl_assign ?_; simp only [evb, kb, hN, Nat.reduceLT, Nat.reduceEqDiff, reduceIte, Int.reduceToNat, Int.reduceBEq]; refine wl_nil ?_; refine hK _ _ ?_; clear hK K
  refine wp_seq_k fun K hK => ?_; refine wp_reg ?_
  have hq : Chg (fun _ => False) w0 w0 := Chg.refl _ _
  refine wl_build (l := fldCells (.mk .text 0 (-1) (-1) (-1) 0 .bool []) (.slice none 0 0)) (by simp only [List.map_toArray, List.map_cons, List.map_nil, evb, kb, hN, Nat.reduceLT, Nat.reduceEqDiff, reduceIte, Int.reduceToNat, Int.reduceBEq]; kernel_rfl) ?_
  refine wl_build (l := fldCells (.mk .list 0 (-1) (-1) (-1) 0 .i32 []) (.slice none 0 0)) (by simp only [List.map_toArray, List.map_cons, List.map_nil, evb, kb, hN, Nat.reduceLT, Nat.reduceEqDiff, reduceIte, Int.reduceToNat, Int.reduceBEq]; kernel_rfl) ?_
  refine wl_fields sch_sAlterReplicaLogDirsRequestDirTopic [fldCells (.mk .text 0 (-1) (-1) (-1) 0 .bool []) (.slice none 0 0), fldCells (.mk .list 0 (-1) (-1) (-1) 0 .i32 []) (.slice none 0 0)] rfl (by simp only [List.map_toArray, List.map_cons, List.map_nil, evb, kb, hN, Nat.reduceLT, Nat.reduceEqDiff, reduceIte, Int.reduceToNat, Int.reduceBEq]; rfl) (by simp only [List.length_cons, List.length_nil]; omega) hq (.cons (fldCells_is (.mk .text 0 (-1) (-1) (-1) 0 .bool []) (schS_nil _ _ _ _)) (.cons (fldCells_is (.mk .list 0 (-1) (-1) (-1) 0 .i32 []) (schS_nil _ _ _ _)) (.nil))) ?_
  rintro v wF hcF hkF hsF rfl
  refine wl_assign ?_
  simp only [evb, kb, hN, Nat.reduceLT, Nat.reduceEqDiff, reduceIte, Int.reduceToNat, Int.reduceBEq]
  refine wl_nil ?_; refine hK _ _ ?_; clear hK K
  refine wp_ret ⟨by simp [defers_put, hD], ?_⟩; simp only [evb, kb, hN, Nat.reduceLT, Nat.reduceEqDiff, reduceIte, Int.reduceToNat, Int.reduceBEq]
  exact ⟨hsF, hcF⟩
theorem lay_sAlterReplicaLogDirsRequestDir : LaysS 34 sch_sAlterReplicaLogDirsRequestDir := by
  intro w0
  refine callsR_of Tryz.func34 rfl rfl Tryz.ntmps34 (by simp) ?_
  intro a hN hD ha
  refine wp_seq_k fun K hK => ?_; refine wp_reg ?_; refine wl_assign ?_; simp only [evb, kb, hN, Nat.reduceLT, Nat.reduceEqDiff, reduceIte, Int.reduceToNat, Int.reduceBEq]; refine wl_nil ?_; refine hK _ _ ?_; clear hK K
  refine wp_seq_k fun K hK => ?_; refine wp_reg ?_
  have hq : Chg (fun _ => False) w0 w0 := Chg.refl _ _
  refine wl_build (l := fldCells (.mk .text 0 (-1) (-1) (-1) 0 .bool []) (.slice none 0 0)) (by simp only [List.map_toArray, List.map_cons, List.map_nil, evb, kb, hN, Nat.reduceLT, Nat.reduceEqDiff, reduceIte, Int.reduceToNat, Int.reduceBEq]; kernel_rfl) ?_
  refine wl_call (fun args w => Tryz.call61 args w) (by simp only [List.map_toArray, List.map_nil]; exact lay_sAlterReplicaLogDirsRequestDirTopic _) ?_
  rintro v1 w1 ⟨hs1, hk1⟩
  replace hs1 := hs1.later (Chg.refl _ _) hq.size
  replace hq := hq.trans hk1 fun _ _ h => h
  obtain ⟨oa1, cap1, rfl, _⟩ := id hs1
  refine wl_build (l := fldCells (.mk .list 0 (-1) (-1) (-1) 0 .struct sch_sAlterReplicaLogDirsRequestDirTopic) (.slice oa1 (sch_sAlterReplicaLogDirsRequestDirTopic).length cap1)) (by simp only [List.map_toArray, List.map_cons, List.map_nil, evb, kb, hN, Nat.reduceLT, Nat.reduceEqDiff, reduceIte, Int.reduceToNat, Int.reduceBEq]; kernel_rfl) ?_
  refine wl_fields sch_sAlterReplicaLogDirsRequestDir [fldCells (.mk .text 0 (-1) (-1) (-1) 0 .bool []) (.slice none 0 0), fldCells (.mk .list 0 (-1) (-1) (-1) 0 .struct sch_sAlterReplicaLogDirsRequestDirTopic) (.slice oa1 (sch_sAlterReplicaLogDirsRequestDirTopic).length cap1)] rfl (by simp only [List.map_toArray, List.map_cons, List.map_nil, evb, kb, hN, Nat.reduceLT, Nat.reduceEqDiff, reduceIte, Int.reduceToNat, Int.reduceBEq]; rfl) (by simp only [List.length_cons, List.length_nil]; omega) hq (.cons (fldCells_is (.mk .text 0 (-1) (-1) (-1) 0 .bool []) (schS_nil _ _ _ _)) (.cons (fldCells_is (.mk .list 0 (-1) (-1) (-1) 0 .struct sch_sAlterReplicaLogDirsRequestDirTopic) hs1) (.nil))) ?_
  rintro v wF hcF hkF hsF rfl
  refine wl_assign ?_
  simp only [evb, kb, hN, Nat.reduceLT, Nat.reduceEqDiff, reduceIte, Int.reduceToNat, Int.reduceBEq]
  refine wl_nil ?_; refine hK _ _ ?_; clear hK K
  refine wp_ret ⟨by simp [defers_put, hD], ?_⟩; simp only [evb, kb, hN, Nat.reduceLT, Nat.reduceEqDiff, reduceIte, Int.reduceToNat, Int.reduceBEq]
  exact ⟨hsF, hcF⟩
theorem lay_AlterReplicaLogDirsRequest : LaysM 17 sch_AlterReplicaLogDirsRequest 2 := by
  intro w
  refine callsR_ofC Tryz.func17 rfl rfl (by kernel_rfl) Tryz.ntmps17 (by simp) ?_
  intro a hN hD ha
  refine wp_seq_k fun K hK => ?_; refine wp_reg ?_
  refine wl_allocA (z := aggOf [.slice none 0 0, .int .i64 0]) (fun w => Tryz.zeroValue33 w) fun w0 hc0 hb0 hs0 => ?_
  refine wl_nil ?_; refine hK _ _ ?_; clear hK K
  refine wp_seq_k fun K hK => ?_; refine wp_reg ?_
  have hq : Chg (fun _ => False) w0 w0 := Chg.refl _ _
  refine wl_call (fun args w => Tryz.call34 args w) (by simp only [List.map_toArray, List.map_nil]; exact lay_sAlterReplicaLogDirsRequestDir _) ?_
  rintro v1 w1 ⟨hs1, hk1⟩
  replace hs1 := hs1.later (Chg.refl _ _) hq.size
  replace hq := hq.trans hk1 fun _ _ h => h
  obtain ⟨oa1, cap1, rfl, _⟩ := id hs1
  refine wl_build (l := fldCells (.mk .list 0 (-1) (-1) (-1) 0 .struct sch_sAlterReplicaLogDirsRequestDir) (.slice oa1 (sch_sAlterReplicaLogDirsRequestDir).length cap1)) (by simp only [List.map_toArray, List.map_cons, List.map_nil, evb, kb, hN, Nat.reduceLT, Nat.reduceEqDiff, reduceIte, Int.reduceToNat, Int.reduceBEq]; kernel_rfl) ?_
  refine wl_fields sch_AlterReplicaLogDirsRequest [fldCells (.mk .list 0 (-1) (-1) (-1) 0 .struct sch_sAlterReplicaLogDirsRequestDir) (.slice oa1 (sch_sAlterReplicaLogDirsRequestDir).length cap1)] rfl (by simp only [List.map_toArray, List.map_cons, List.map_nil, evb, kb, hN, Nat.reduceLT, Nat.reduceEqDiff, reduceIte, Int.reduceToNat, Int.reduceBEq]; rfl) (by simp only [List.length_cons, List.length_nil]; omega) hq (.cons (fldCells_is (.mk .list 0 (-1) (-1) (-1) 0 .struct sch_sAlterReplicaLogDirsRequestDir) hs1) (.nil)) ?_
  rintro v wF hcF hkF hsF rfl
  refine wl_build (l := [.slice (some ⟨w1.heap.size, 0, none⟩) (sch_AlterReplicaLogDirsRequest).length (sch_AlterReplicaLogDirsRequest).length, .int .i64 2]) (by simp only [List.map_toArray, List.map_cons, List.map_nil, evb, kb, hN, Nat.reduceLT, Nat.reduceEqDiff, reduceIte, Int.reduceToNat, Int.reduceBEq]; kernel_rfl) ?_
  have hbF := hb0.chg hcF (fun h => h)
  refine wl_storeAll (b := w.heap.size) (n := 2) (l' := [.slice (some ⟨w1.heap.size, 0, none⟩) (sch_AlterReplicaLogDirsRequest).length (sch_AlterReplicaLogDirsRequest).length, .int .i64 2]) (by kernel_rfl) (by simp [evb, kb, hN, sdb]) (by simp [evb, kb, hN, sdb]) hbF rfl (by intro y hy; simp only [List.mem_cons, List.not_mem_nil, or_false] at hy; rcases hy with rfl | rfl <;> rfl) rfl fun wE hbE hcE => ?_
  refine wl_nil ?_; refine hK _ _ ?_; clear hK K
  refine wp_ret ⟨by simp [defers_put, hD], w.heap.size, _, _, by simp only [evb, kb, hN, Nat.reduceLT, Nat.reduceEqDiff, reduceIte, Int.reduceToNat, Int.reduceBEq], hbE, by kernel_rfl, ⟨_, rfl, SchS.stay ⟨fun k hk hg => ⟨hcE.block k hk (by omega), by omega⟩⟩ hsF, ?_⟩⟩
  exact (hc0.trans hcF fun _ _ h => h).trans hcE fun k hk h => by omega
theorem new_AlterReplicaLogDirsRequest : NewsPtr 32 dd_AlterReplicaLogDirsRequest :=
  newptr_of dd_AlterReplicaLogDirsRequest dd_AlterReplicaLogDirsRequest Tryz.func32 rfl rfl Tryz.ntmps32 (by kernel_rfl) (fun w => Tryz.zeroValue91 w) (fun args w => Tryz.call60 args w) defm_AlterReplicaLogDirsRequest
theorem max_AlterReplicaLogDirsRequest : MaxIs 16 2 := by
  intro w
  refine callsR_of Tryz.func16 rfl rfl Tryz.ntmps16 (by simp) ?_
  intro a hN hD ha
  refine wp_seq_k fun K hK => ?_; refine wp_reg ?_; refine wl_assign ?_; refine wl_nil ?_; refine hK _ _ ?_; clear hK K
  refine wp_seq_k fun K hK => ?_; refine wp_reg ?_
  refine wl_call (fun args w => Tryz.call32 args w) (by simp only [List.map_toArray, List.map_nil]; exact new_AlterReplicaLogDirsRequest w) ?_
  rintro v w1 ⟨rfl, hc, _⟩
  refine wl_call (fun args w => Tryz.call33 args w) (by simp only [List.map_toArray, List.map_cons, List.map_nil]; simp only [evb, kb, hN, Nat.reduceLT, Nat.reduceEqDiff, reduceIte, Int.reduceToNat, Int.reduceBEq]; exact maxver_of Tryz.func33 rfl rfl Tryz.ntmps33 (by kernel_rfl) _ w1) ?_
  rintro _ w2 ⟨rfl, rfl⟩
  (repeat (first | ((with_reducible refine wl_q ?_ ?_ ?_ ?_); (· exact rfl); (· simp [evb, kb, hN, dyb, sdb] <;> omega); (· kernel_rfl); try simp only [evb, kb, hN, Nat.reduceLT, Nat.reduceEqDiff, reduceIte, Int.reduceToNat, Int.reduceBEq, pvb]) | ((with_reducible refine wl_lenS ?_ ?_ ?_); rotate_left 1; (· simp [evb, kb, hN, sdb]); rotate_left 1; (· kernel_rfl); try simp only [evb, kb, hN, Nat.reduceLT, Nat.reduceEqDiff, reduceIte, Int.reduceToNat, Int.reduceBEq, pvb])))
  refine wl_nil ?_; refine hK _ _ ?_; clear hK K; refine wp_ret ⟨by simp [defers_put, hD], ?_⟩; simp only [evb, kb, hN, Nat.reduceLT, Nat.reduceEqDiff, reduceIte, Int.reduceToNat, Int.reduceBEq]
  exact ⟨by first | rfl | trivial, hc⟩
theorem setv_AlterReplicaLogDirsRequest : SetsVersion 35 := setver_of Tryz.func35 rfl rfl Tryz.ntmps35 (by kernel_rfl)
theorem from_AlterReplicaLogDirsRequest : ReadsFrom 36 62 := fun h => readfrom_c Tryz.func36 rfl rfl Tryz.ntmps36 (fun args w => Tryz.call62 args w) h
theorem ag_AlterReplicaLogDirsRequest : AgC 18 (fun ver => decide (2 ≤ ver)) 2 sch_AlterReplicaLogDirsRequest := fun ver h0 h1 w G oa bs cap hsrc hlim herr hout =>
  again_of Tryz.func18 rfl rfl Tryz.ntmps18 (fun args w => Tryz.call32 args w) (fun args w => Tryz.call35 args w) (fun args w => Tryz.call36 args w) (fun args w => Tryz.call37 args w) new_AlterReplicaLogDirsRequest setv_AlterReplicaLogDirsRequest from_AlterReplicaLogDirsRequest read_AlterReplicaLogDirsRequest app_AlterReplicaLogDirsRequest h0 (by omega) hsrc hlim herr hout
theorem ok_AlterReplicaLogDirsRequest : SchOK (fun ver => decide (2 ≤ ver)) 2 sch_AlterReplicaLogDirsRequest := schB_out (by kernel_rfl)
theorem walk_FnAgainAlterReplicaLogDirsRequest {a : Int} (hn : 0 ≤ a) (hn2 : a < 256) {w : World} {G : Nat → Prop} {v : Tr} {ts : List Value} (hv : TrC w G v ts) (hkv : keyV v) (hb : trBulk v ≤ 1048576) (herr : ErrW w) :
    CallsR Tryz.prog 5 #[.int .u8 a, aggOf ts] w fun v w' => v = .bool true ∧ Chg (fun _ => False) w w' :=
  lawAgain_of Tryz.func5 rfl rfl (by kernel_rfl) rfl Tryz.ntmps5 (fun args w => Tryz.call16 args w) (fun args w => Tryz.call17 args w) (fun args w => Tryz.call18 args w) max_AlterReplicaLogDirsRequest lay_AlterReplicaLogDirsRequest ag_AlterReplicaLogDirsRequest (by decide) (fun ver _ => by simp) ok_AlterReplicaLogDirsRequest hn hn2 hv hkv hb herr
end Go.Proofs.YthdkplbonieejaaGreatDoor
namespace Go.Proofs.YthdkplbonieejaaGreatDoor
set_option linter.all false
namespace fnAgainAlterReplicaLogDirsRequest
open Go.ChangeShapes Go.WideShapes Go.ChangeAt Go.RowKit
set_option maxRecDepth 100000
set_option maxHeartbeats 1000000
theorem laid_met (os : Os) : laidMet Tryz.prog Rows.fnAgainAlterReplicaLogDirsRequestUptoRow.laid ((laidWorld os).forCall (fun _ _ => 0) ⟨#[], #[.int .u8 0, .agg #[.int .i64 0, .slice none 0 0, .bool false, .slice none 0 0, .slice none 0 0]], []⟩).memory :=
  laidMet_of_run' 8 (by kernel_rfl) (by kernel_rfl)
theorem witness_row (os : Os) {H : Type} (enc : TypeId × Value → H) :
    (Rows.OpenSpec.upto Rows.fnAgainAlterReplicaLogDirsRequestSpec).preRow enc Tryz.prog Tryz.f5 Rows.fnAgainAlterReplicaLogDirsRequestUptoRow.domain false Rows.fnAgainAlterReplicaLogDirsRequestUptoRow.laid ((laidWorld os).forCall (fun _ _ => 0) ⟨#[], #[.int .u8 0, .agg #[.int .i64 0, .slice none 0 0, .bool false, .slice none 0 0, .slice none 0 0]], []⟩).memory #[.int .u8 0, .agg #[.int .i64 0, .slice none 0 0, .bool false, .slice none 0 0, .slice none 0 0]] := by
  have hw : (DataW.whole enc Tryz.prog ((laidWorld os).forCall (fun _ _ => 0) ⟨#[], #[.int .u8 0, .agg #[.int .i64 0, .slice none 0 0, .bool false, .slice none 0 0, .slice none 0 0]], []⟩).memory Tryz.f5.params.toList Rows.fnAgainAlterReplicaLogDirsRequestSpec.vars false (#[.int .u8 0, .agg #[.int .i64 0, .slice none 0 0, .bool false, .slice none 0 0, .slice none 0 0]] : Array Value).toList 8).map (fun x => (decide (Rows.uptoBulkAll (x.1 ++ x.2.1) ≤ 1048576))) = some true := by kernel_rfl
  obtain ⟨⟨x1, x2, x3⟩, hx, hx1⟩ := Option.map_eq_some_iff.1 hw
  exact OpenSpec.preRow_of_cond 8 hx (by kernel_rfl) (fun k hk => by cases hk; exact hx1) (by kernel_rfl) (laid_met os)
theorem lifted (os : Os) (started : os.Started) (H : Type) (enc : TypeId × Value → H) (F : Stop.Interp) :
    ReturnsInHanded {} Tryz.checked os 5 .any ((Rows.OpenSpec.upto Rows.fnAgainAlterReplicaLogDirsRequestSpec).preRow enc Tryz.prog Tryz.f5 Rows.fnAgainAlterReplicaLogDirsRequestUptoRow.domain false Rows.fnAgainAlterReplicaLogDirsRequestUptoRow.laid) (((Rows.OpenSpec.upto Rows.fnAgainAlterReplicaLogDirsRequestSpec).at F).post enc Tryz.prog Tryz.f5 false true false false) := by
  refine returnsInHanded_of_row (C := Tryz.checked) (s := Rows.OpenSpec.upto Rows.fnAgainAlterReplicaLogDirsRequestSpec) own started (by kernel_rfl) Tryz.func5
    (witness_row_atRef (enc := enc) (C := Tryz.checked) false (laidWorld os) #[.int .u8 0, .agg #[.int .i64 0, .slice none 0 0, .bool false, .slice none 0 0, .slice none 0 0]] rfl (by kernel_rfl) (by kernel_rfl) (by kernel_rfl) (witness_row os enc)) ?_
  intro W base args ds gs before hval0 hW _ hcond _ hL _ _
  have hval : ∀ (j : Nat) t v, Tryz.f5.params[j]? = some t → args[j]? = some v → Value.okWide Tryz.prog W .any base t v := hval0
  have hW' := hW
  obtain ⟨p, q, hA0, hV, rfl, hfz, hnd⟩ := hW
  have hA : DataW.TrodAll enc Tryz.prog W 0 (fun _ => true) true Tryz.f5.params.toList args.toList ds p := hA0
  rw [Tryz.params5] at hA hval
  obtain ⟨v0, vs0, d0, ds0, p0, q0, hargs, rfl, rfl, h0, r0⟩ := trodAll_cons hA
  obtain ⟨v1, vs1, d1, ds1, p1, q1, rfl, rfl, rfl, h1, r1⟩ := trodAll_cons r0
  obtain ⟨rfl, rfl, rfl⟩ := trodAll_nil r1
  obtain rfl : args = #[v0, v1] := by cases args; simp_all
  obtain ⟨rfl, rfl⟩ := trodVars_none hV
  simp only [List.append_nil] at hW' hcond
  have hbulk := hcond _ rfl
  replace hbulk := of_decide_eq_true hbulk
  simp only [Rows.uptoBulkAll] at hbulk
  have hlt : ∀ x ∈ _, MemPlace.block x < W.heap.size := fun x hx => hW'.lt x hx
  obtain ⟨a0, rfl, rfl, rfl, x0⟩ := open_int Tryz.underlying5 (hval 0 5 v0 rfl rfl) h0
  have y0 : 0 ≤ a0 ∧ a0 < 256 := by have h := x0; simp only [Lit.wf, IntKind.min, IntKind.max, IntKind.signed, IntKind.bits, Bool.and_eq_true, decide_eq_true_eq] at h; simp at h; omega
  obtain ⟨ts, T, rfl, hT, hkey, hbT⟩ := tree_arg (hval 1 26 v1 rfl rfl) h1 (by omega)
  clear hA0 hval0
  refine Calls.mono (walk_FnAgainAlterReplicaLogDirsRequest y0.1 y0.2 hT hkey hbT (errW_of hL)) fun e W' ⟨v, he, hv, hc⟩ => ?_
  subst he
  subst hv
  exact ⟨_, rfl, _, _, _, [], _, [], hW', trodAll_cons_mk (shut_bool Tryz.underlying4 _) trodAll_mk0, trodAll_cons_mk (shut_int Tryz.underlying5 x0) (trodAll_cons_mk (tree_same h1 hc (fun x hx => hlt x (by simp [hx]))) (trodAll_mk0)), rfl, (below_of hc).frame _, fun h => by cases h⟩
theorem c2 : (Rows.fnAgainAlterReplicaLogDirsRequestUptoRow.inPlace == Tryz.prog.inPlace 5) = true := by kernel_rfl
theorem c3 : (Rows.fnAgainAlterReplicaLogDirsRequestUptoRow.unfollowed == Tryz.prog.unfollowed 5) = true := by kernel_rfl
theorem c4 : (Rows.fnAgainAlterReplicaLogDirsRequestUptoRow.recurses == Tryz.prog.recurses 5) = true := by kernel_rfl
theorem c5 : (Rows.fnAgainAlterReplicaLogDirsRequestUptoRow.named == Tryz.prog.varsNamed 5) = true := by kernel_rfl
theorem c7 : (Rows.fnAgainAlterReplicaLogDirsRequestUptoRow.lifted == Tryz.prog.liftsFinal) = true := by
  have h : Rows.fnAgainAlterReplicaLogDirsRequestUptoRow.lifted = Facts.lifted := rfl
  rw [h]; exact Facts.c7
theorem c8 : (Tryz.prog.make == some Rows.fnAgainAlterReplicaLogDirsRequestUptoRow.make) = true := by
  have h : Rows.fnAgainAlterReplicaLogDirsRequestUptoRow.make = Facts.make := rfl
  rw [h]; exact Facts.c8
theorem c9 : (Rows.fnAgainAlterReplicaLogDirsRequestUptoRow.plainKeys == Tryz.prog.plainKeys) = true := by
  have h : Rows.fnAgainAlterReplicaLogDirsRequestUptoRow.plainKeys = Facts.plainKeys := rfl
  rw [h]; exact Facts.c9
theorem c11 : Tryz.prog.funcNamed Rows.fnAgainAlterReplicaLogDirsRequestUptoRow.func = some 5 := by kernel_rfl
theorem closed : joinedFacts Tryz.prog 5 Tryz.f5 (Rows.OpenSpec.upto Rows.fnAgainAlterReplicaLogDirsRequestSpec).bare Rows.fnAgainAlterReplicaLogDirsRequestUptoRow = true := by
  unfold joinedFacts
  simp only [Bool.and_eq_true]
  repeat' (refine And.intro ?_ ?_)
  all_goals first | with_reducible exact Facts.c1 | with_reducible exact Facts.c0 | with_reducible exact c2 | with_reducible exact c3 | with_reducible exact c4 | with_reducible exact c5 | with_reducible exact Facts.c6 | with_reducible exact c7 | with_reducible exact c8 | with_reducible exact c9 | with_reducible exact Facts.c10 | kernel_rfl
theorem over : Rows.FnAgainAlterReplicaLogDirsRequestUptoSaid :=
  OpenClaim.holds_of_cond 5 Tryz.f5 rfl rfl rfl rfl rfl rfl rfl ⟨rfl, rfl, rfl, rfl, rfl⟩ rfl rfl rfl rfl rfl c11 Tryz.func5 closed
    (of_decide_eq_true (by kernel_rfl)) (by unfold Func.isWrapper; first | (rw [if_pos (by decide +kernel)]; kernel_rfl) | (rw [if_neg (by decide +kernel)]; exact ⟨rfl, rfl⟩))
    (fun os started H enc _ F => by rw [OpenClaim.pre_eq_preRow]; exact lifted os started H enc F)
theorem plain (f : FuncId) (fn : Func) (hf : Tryz.pinned.checked.prog.funcNamed "pub-kmsg/laws.FnAgainAlterReplicaLogDirsRequest" = some f) (hfn : Tryz.pinned.checked.prog.funcs[f]? = some fn) :
    false = Tryz.pinned.checked.prog.looks [] ∧ ∀ (j : Nat) t, fn.params[j]? = some t → Tryz.pinned.checked.prog.wantsStandIn t = false := by
  obtain rfl : f = 5 := Option.some.inj ((show Tryz.prog.funcNamed "pub-kmsg/laws.FnAgainAlterReplicaLogDirsRequest" = some 5 by kernel_rfl).symm.trans hf) |>.symm
  obtain rfl : fn = Tryz.f5 := (Option.some.inj (Tryz.func5.symm.trans hfn)).symm
  refine ⟨by kernel_rfl, fun j t ht => ?_⟩
  rw [Tryz.params5] at ht
  have hw0 : Tryz.prog.wantsStandIn 5 = false := by kernel_rfl
  have hw1 : Tryz.prog.wantsStandIn 26 = false := by kernel_rfl
  have hm := Array.mem_of_getElem? ht
  simp only [List.mem_toArray, List.mem_cons, List.not_mem_nil, or_false] at hm
  rcases hm with rfl | rfl <;> assumption
end fnAgainAlterReplicaLogDirsRequest
theorem fnAgainAlterReplicaLogDirsRequest_holds : Rows.FnAgainAlterReplicaLogDirsRequestUptoCardSaid :=
  Claim7.holds_tied_plain_at .later [] _ _ _ _ fnAgainAlterReplicaLogDirsRequest.over (fun _ h => by cases h) (by kernel_rfl) (fun _ h => by cases h) fnAgainAlterReplicaLogDirsRequestUpto_row_tie rfl ⟨rfl, rfl⟩ (by kernel_rfl) rfl fnAgainAlterReplicaLogDirsRequest.plain (by kernel_rfl)
#print axioms fnAgainAlterReplicaLogDirsRequest_holds
end Go.Proofs.YthdkplbonieejaaGreatDoor

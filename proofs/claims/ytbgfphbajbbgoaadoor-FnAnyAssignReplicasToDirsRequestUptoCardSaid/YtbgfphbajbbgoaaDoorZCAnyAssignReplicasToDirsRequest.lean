/-
What is read of any bytes as a AssignReplicasToDirsRequest is written as bytes that are read again, and written as the same: for every input of bulk at most 1048576 the law returns true. Conditions: the listed variable holds what the text lays (tied by the card).
-/
import Derived.Test.YtbgfphbajbbgoaaDoorZE
import Derived.Test.YtbgfphbajbbgoaaDoorZW
import Derived.Test.YtbgfphbajbbgoaaDoorZY
import Derived.Test.YtbgfphbajbbgoaaDoorZF
import Derived.Test.YtbgfphbajbbgoaaDoorZP
namespace Go.Proofs.YtbgfphbajbbgoaaDoor
set_option linter.all false
open Go.RowKit
set_option maxRecDepth 100000
set_option maxHeartbeats 2000000
def sch_sAssignReplicasToDirsRequestDirectoryTopicPartition : List Fld := [.mk .i32 0 (-1) (-1) (-1) 0 .bool []]
def sch_sAssignReplicasToDirsRequestDirectoryTopic : List Fld := [.mk .uuid 0 (-1) (-1) (-1) 0 .bool [], .mk .list 0 (-1) (-1) (-1) 0 .struct sch_sAssignReplicasToDirsRequestDirectoryTopicPartition]
def sch_sAssignReplicasToDirsRequestDirectory : List Fld := [.mk .uuid 0 (-1) (-1) (-1) 0 .bool [], .mk .list 0 (-1) (-1) (-1) 0 .struct sch_sAssignReplicasToDirsRequestDirectoryTopic]
def sch_AssignReplicasToDirsRequest : List Fld := [.mk .i32 0 (-1) (-1) (-1) 0 .bool [], .mk .i64 0 (-1) (-1) (-1) (-1) .bool [], .mk .list 0 (-1) (-1) (-1) 0 .struct sch_sAssignReplicasToDirsRequestDirectory]
def zz_sAssignReplicasToDirsRequestDirectoryTopicPartition : List Value := [.int .i32 0, .map none]
def dd_sAssignReplicasToDirsRequestDirectoryTopicPartition : List Value := [.int .i32 0, .map none]
theorem elz_sAssignReplicasToDirsRequestDirectoryTopicPartition : ∀ e, (Tryd.prog).underlying 100 = some (.slice e) → zeroB Tryd.prog e (aggOf zz_sAssignReplicasToDirsRequestDirectoryTopicPartition) := by
  intro e he
  have h : (Tryd.prog).underlying 100 = some (.slice 105) := by kernel_rfl
  rw [h] at he; cases he
  exact fun w => Tryd.zeroValue105 w
theorem eln_sAssignReplicasToDirsRequestDirectoryTopicPartition : Enters Tryd.prog 105 := (fun args w => Tryd.call105 args w)
theorem eld_sAssignReplicasToDirsRequestDirectoryTopicPartition : DefC 105 (aggOf zz_sAssignReplicasToDirsRequestDirectoryTopicPartition).cells.toList dd_sAssignReplicasToDirsRequestDirectoryTopicPartition := by
  intro w b off cs T hb hlen hseg
  refine callsR_of0 Tryd.func105 rfl rfl Tryd.ntmps105 (by simp) ?_
  intro a hN hD ha
  refine wp_skip ⟨hD, ?_, Chg.refl _ _⟩
  have e : splice cs off dd_sAssignReplicasToDirsRequestDirectoryTopicPartition = cs := splice_same hseg hlen
  rw [e]; exact hb
def zz_sAssignReplicasToDirsRequestDirectoryTopic : List Value := [.int .u8 0, .int .u8 0, .int .u8 0, .int .u8 0, .int .u8 0, .int .u8 0, .int .u8 0, .int .u8 0, .int .u8 0, .int .u8 0, .int .u8 0, .int .u8 0, .int .u8 0, .int .u8 0, .int .u8 0, .int .u8 0, .slice none 0 0, .map none]
def dd_sAssignReplicasToDirsRequestDirectoryTopic : List Value := [.int .u8 0, .int .u8 0, .int .u8 0, .int .u8 0, .int .u8 0, .int .u8 0, .int .u8 0, .int .u8 0, .int .u8 0, .int .u8 0, .int .u8 0, .int .u8 0, .int .u8 0, .int .u8 0, .int .u8 0, .int .u8 0, .slice none 0 0, .map none]
theorem elz_sAssignReplicasToDirsRequestDirectoryTopic : ∀ e, (Tryd.prog).underlying 96 = some (.slice e) → zeroB Tryd.prog e (aggOf zz_sAssignReplicasToDirsRequestDirectoryTopic) := by
  intro e he
  have h : (Tryd.prog).underlying 96 = some (.slice 102) := by kernel_rfl
  rw [h] at he; cases he
  exact fun w => Tryd.zeroValue102 w
theorem eln_sAssignReplicasToDirsRequestDirectoryTopic : Enters Tryd.prog 104 := (fun args w => Tryd.call104 args w)
theorem eld_sAssignReplicasToDirsRequestDirectoryTopic : DefC 104 (aggOf zz_sAssignReplicasToDirsRequestDirectoryTopic).cells.toList dd_sAssignReplicasToDirsRequestDirectoryTopic := by
  intro w b off cs T hb hlen hseg
  refine callsR_of0 Tryd.func104 rfl rfl Tryd.ntmps104 (by simp) ?_
  intro a hN hD ha
  refine wp_skip ⟨hD, ?_, Chg.refl _ _⟩
  have e : splice cs off dd_sAssignReplicasToDirsRequestDirectoryTopic = cs := splice_same hseg hlen
  rw [e]; exact hb
def zz_sAssignReplicasToDirsRequestDirectory : List Value := [.int .u8 0, .int .u8 0, .int .u8 0, .int .u8 0, .int .u8 0, .int .u8 0, .int .u8 0, .int .u8 0, .int .u8 0, .int .u8 0, .int .u8 0, .int .u8 0, .int .u8 0, .int .u8 0, .int .u8 0, .int .u8 0, .slice none 0 0, .map none]
def dd_sAssignReplicasToDirsRequestDirectory : List Value := [.int .u8 0, .int .u8 0, .int .u8 0, .int .u8 0, .int .u8 0, .int .u8 0, .int .u8 0, .int .u8 0, .int .u8 0, .int .u8 0, .int .u8 0, .int .u8 0, .int .u8 0, .int .u8 0, .int .u8 0, .int .u8 0, .slice none 0 0, .map none]
theorem elz_sAssignReplicasToDirsRequestDirectory : ∀ e, (Tryd.prog).underlying 90 = some (.slice e) → zeroB Tryd.prog e (aggOf zz_sAssignReplicasToDirsRequestDirectory) := by
  intro e he
  have h : (Tryd.prog).underlying 90 = some (.slice 98) := by kernel_rfl
  rw [h] at he; cases he
  exact fun w => Tryd.zeroValue98 w
theorem eln_sAssignReplicasToDirsRequestDirectory : Enters Tryd.prog 103 := (fun args w => Tryd.call103 args w)
theorem eld_sAssignReplicasToDirsRequestDirectory : DefC 103 (aggOf zz_sAssignReplicasToDirsRequestDirectory).cells.toList dd_sAssignReplicasToDirsRequestDirectory := by
  intro w b off cs T hb hlen hseg
  refine callsR_of0 Tryd.func103 rfl rfl Tryd.ntmps103 (by simp) ?_
  intro a hN hD ha
  refine wp_skip ⟨hD, ?_, Chg.refl _ _⟩
  have e : splice cs off dd_sAssignReplicasToDirsRequestDirectory = cs := splice_same hseg hlen
  rw [e]; exact hb
def dd_AssignReplicasToDirsRequest : List Value := [.int .i32 0, .int .i64 (-1), .slice none 0 0, .map none]
theorem defm_AssignReplicasToDirsRequest : DefM 73 dd_AssignReplicasToDirsRequest := by
  intro w B v T hb
  refine callsR_of0 Tryd.func73 rfl rfl Tryd.ntmps73 (by simp) ?_
  intro a hN hD ha
  have h0 : get a 0 = .pointer (some ⟨B, 0, none⟩) := ha 0 _ rfl
  refine wp_reg ?_
  (repeat (first | ((with_reducible refine wl_q ?_ ?_ ?_ ?_); (· exact rfl); (· simp [evb, kb, hN, h0, dyb, sdb] <;> omega); (· kernel_rfl); try simp only [evb, kb, hN, Nat.reduceLT, Nat.reduceEqDiff, reduceIte, Int.reduceToNat, Int.reduceBEq, pvb, h0]) | ((with_reducible refine wl_lenS ?_ ?_ ?_); rotate_left 1; (· simp [evb, kb, hN, h0, sdb]); rotate_left 1; (· kernel_rfl); try simp only [evb, kb, hN, Nat.reduceLT, Nat.reduceEqDiff, reduceIte, Int.reduceToNat, Int.reduceBEq, pvb, h0])))
  refine wl_nilCheck (p := ⟨B, 0, none⟩) (by simp [evb, kb, hN, h0, sdb]) ?_
  refine wl_fieldAddr (b := B) (o := 0) (off := 2) (n := 1) (by kernel_rfl) (by simp [evb, kb, hN, sdb]) ?_
  refine wl_store (b := B) (o := 0 + 2) (n := 1) (v := .int .i64 (-1)) (by kernel_rfl) (by simp [evb, kb, hN, sdb]) (by simp [evb, kb, hN, sdb]) hb rfl (by intro y hy; simp only [Value.cells, List.mem_singleton] at hy; subst hy; rfl) (by show _ ≤ 5; decide) fun w0 hb0 hc0 => ?_
  refine wl_nil ⟨by simp [defers_put, hD], ?_, hc0⟩
  exact hb0
def zz_AssignReplicasToDirsRequest : List Value := [.int .i32 0, .int .i64 0, .slice none 0 0, .map none]
theorem defz_AssignReplicasToDirsRequest : ∀ (w : World) (B : Nat) (v : Value) (T : TypeId), Blk w B (v :: zz_AssignReplicasToDirsRequest) T → CallsR Tryd.prog 73 #[.pointer (some ⟨B, 0, none⟩)] w fun _ w' => Blk w' B (v :: dd_AssignReplicasToDirsRequest) T ∧ Chg (fun k => k = B) w w' := by
  intro w B v T hb
  refine callsR_of0 Tryd.func73 rfl rfl Tryd.ntmps73 (by simp) ?_
  intro a hN hD ha
  have h0 : get a 0 = .pointer (some ⟨B, 0, none⟩) := ha 0 _ rfl
  refine wp_reg ?_
  (repeat (first | ((with_reducible refine wl_q ?_ ?_ ?_ ?_); (· exact rfl); (· simp [evb, kb, hN, h0, dyb, sdb] <;> omega); (· kernel_rfl); try simp only [evb, kb, hN, Nat.reduceLT, Nat.reduceEqDiff, reduceIte, Int.reduceToNat, Int.reduceBEq, pvb, h0]) | ((with_reducible refine wl_lenS ?_ ?_ ?_); rotate_left 1; (· simp [evb, kb, hN, h0, sdb]); rotate_left 1; (· kernel_rfl); try simp only [evb, kb, hN, Nat.reduceLT, Nat.reduceEqDiff, reduceIte, Int.reduceToNat, Int.reduceBEq, pvb, h0])))
  refine wl_nilCheck (p := ⟨B, 0, none⟩) (by simp [evb, kb, hN, h0, sdb]) ?_
  refine wl_fieldAddr (b := B) (o := 0) (off := 2) (n := 1) (by kernel_rfl) (by simp [evb, kb, hN, sdb]) ?_
  refine wl_store (b := B) (o := 0 + 2) (n := 1) (v := .int .i64 (-1)) (by kernel_rfl) (by simp [evb, kb, hN, sdb]) (by simp [evb, kb, hN, sdb]) hb rfl (by intro y hy; simp only [Value.cells, List.mem_singleton] at hy; subst hy; rfl) (by show _ ≤ 5; decide) fun w0 hb0 hc0 => ?_
  refine wl_nil ⟨by simp [defers_put, hD], ?_, hc0⟩
  exact hb0
theorem read_AssignReplicasToDirsRequest : ReadsF 74 true (fun ver => decide (0 ≤ ver)) sch_AssignReplicasToDirsRequest dd_AssignReplicasToDirsRequest [.bool false] := by
  refine read_flex Tryd.func74 rfl rfl Tryd.ntmps74 (fun args w => Tryd.call73 args w) defm_AssignReplicasToDirsRequest (by kernel_rfl) ?_
  intro ver hver
  (repeat' (first | (with_reducible refine rt_tagged rfl rfl ?_) | (with_reducible refine rt_next rfl (by kernel_rfl) ?_ ?_) | (with_reducible refine rt_end rfl ?_) | (with_reducible refine rt_noflex rfl ?_) | (with_reducible refine rt_fin co_en (by kernel_rfl) (by kernel_rfl)) | (with_reducible refine rt_tl (I := 1000) (by kernel_rfl) ?_ ?_) | (with_reducible refine rd_tags (by kernel_rfl) tagOK_all tg_en (by kernel_rfl) (by kernel_rfl)) | (with_reducible refine rd_tagged rfl rfl ?_) | (with_reducible refine rd_noflex rfl ?_) | (with_reducible refine rd_last rfl rfl (by kernel_rfl) ?_) | (with_reducible refine rd_next rfl (by kernel_rfl) (by kernel_rfl) ?_ ?_) | (with_reducible refine rd_end rfl ?_) | (with_reducible refine sf_all rfl (by dsimp only; omega) ?_) | ((with_reducible refine sf_from rfl (by kernel_rfl) (fun hv => ?_)); try dsimp only at hv) | ((with_reducible refine sf_range rfl (by kernel_rfl) (fun hv hv2 => ?_)); try dsimp only at hv hv2) | (with_reducible refine rf_list1 rfl (by kernel_rfl) elz_sAssignReplicasToDirsRequestDirectoryTopicPartition (by kernel_rfl) ?_ ok_en co_en ?_ (by kernel_rfl)) | (with_reducible refine el_struct1 (by kernel_rfl) eln_sAssignReplicasToDirsRequestDirectoryTopicPartition eld_sAssignReplicasToDirsRequestDirectoryTopicPartition (by kernel_rfl) ?_ (by kernel_rfl) (by kernel_rfl) (by kernel_rfl)) | (with_reducible refine rf_list1 rfl (by kernel_rfl) elz_sAssignReplicasToDirsRequestDirectoryTopic (by kernel_rfl) ?_ ok_en co_en ?_ (by kernel_rfl)) | (with_reducible refine el_struct1 (by kernel_rfl) eln_sAssignReplicasToDirsRequestDirectoryTopic eld_sAssignReplicasToDirsRequestDirectoryTopic (by kernel_rfl) ?_ (by kernel_rfl) (by kernel_rfl) (by kernel_rfl)) | (with_reducible refine rf_list1 rfl (by kernel_rfl) elz_sAssignReplicasToDirsRequestDirectory (by kernel_rfl) ?_ ok_en co_en ?_ (by kernel_rfl)) | (with_reducible refine el_struct1 (by kernel_rfl) eln_sAssignReplicasToDirsRequestDirectory eld_sAssignReplicasToDirsRequestDirectory (by kernel_rfl) ?_ (by kernel_rfl) (by kernel_rfl) (by kernel_rfl)) | (with_reducible refine rf_store ?_ rfl (by kernel_rfl) (by kernel_rfl) (by kernel_rfl)) | (with_reducible refine rf_store2 ?_ rfl (by kernel_rfl) (by kernel_rfl) (by kernel_rfl) (by kernel_rfl)) | (with_reducible refine rd_pre ?_ (by kernel_rfl)) | (with_reducible refine rv_safe ?_ (by kernel_rfl)) | (with_reducible refine rv_flex rfl (fun hx => ?_) (fun hx => ?_) (by kernel_rfl)) | (with_reducible refine rv_i32 (by kernel_rfl)) | (with_reducible refine rv_i64 (by kernel_rfl)) | (with_reducible refine rf_uuid2 rfl (by kernel_rfl) (by kernel_rfl) (by kernel_rfl) (by kernel_rfl) (by kernel_rfl)) | (with_reducible refine rv_again ?_ (by kernel_rfl)) | (with_reducible refine rv_pre ?_ (by kernel_rfl)) | (with_reducible refine rn_plain (by first | assumption | rfl) (by kernel_rfl)) | (with_reducible refine rn_cplain (by first | assumption | rfl) (by kernel_rfl)) | (with_reducible refine rn_flex rfl (fun hx => ?_) (fun hx => ?_) (by kernel_rfl)) | (with_reducible refine el_pre ?_ (by kernel_rfl)) | (with_reducible refine el_val1 (by kernel_rfl) (rv_elem rfl ?_) (by kernel_rfl) (by kernel_rfl))))
theorem app_AssignReplicasToDirsRequest : AppendsTo 45 true (fun ver => decide (0 ≤ ver)) sch_AssignReplicasToDirsRequest := by
  refine app_flex Tryd.func45 rfl rfl Tryd.ntmps45 (by kernel_rfl) ?_
  intro ver s hver
  (repeat' (first | with_reducible refine wt_start ?_ | with_reducible refine wp_noflex rfl ?_ | with_reducible refine wr_start ?_ | with_reducible refine wt_tagged rfl rfl ?_ | (with_reducible refine wt_next rfl (by kernel_rfl) (fun d hd => ?_) ?_) | (with_reducible refine wt_fin rfl rfl ?_) | (with_reducible refine wt_end rfl (by kernel_rfl) ?_ ?_) | (with_reducible refine wt_ret (by kernel_rfl)) | with_reducible refine wr_tagged rfl rfl ?_ | (with_reducible refine wr_last rfl rfl (fun d hd => ?_)) | (with_reducible refine wr_next rfl (by kernel_rfl) (fun d hd => ?_) ?_) | (with_reducible refine wr_end rfl ?_) | (with_reducible refine wr_tail rfl (by kernel_rfl) k_uint32 (by kernel_rfl)) | (with_reducible refine wf_all rfl (by dsimp only; omega) ?_) | ((with_reducible refine wf_from rfl (by kernel_rfl) (fun hv => ?_)); try dsimp only at hv) | ((with_reducible refine wf_range rfl (by kernel_rfl) (fun hv hv2 => ?_)); try dsimp only at hv hv2) | (with_reducible refine wf_load rfl hd (by kernel_rfl) (by kernel_rfl) rfl ?_) | (with_reducible refine wf_uuid rfl hd (by kernel_rfl) uuidZero (by kernel_rfl)) | (with_reducible refine wf_inner rfl hd (by kernel_rfl) (by kernel_rfl) rfl (fun s => ?_)) | (with_reducible refine wv_i32 (by kernel_rfl)) | (with_reducible refine wv_i64 (by kernel_rfl)) | (with_reducible refine wv_flexS rfl (by kernel_rfl) (fun hx => ?_) (fun hx => ?_)) | (with_reducible refine wv_listS (fun oa n cap M => ?_) (by kernel_rfl) (by kernel_rfl) (by kernel_rfl) (by kernel_rfl) (fun s => ?_)) | (with_reducible refine wv_listK (fun oa n cap M => ?_) (by kernel_rfl) (by kernel_rfl) (by kernel_rfl) (by kernel_rfl) (fun d => ?_)) | (with_reducible refine wn_flex rfl (by kernel_rfl) (fun hx => ?_) (fun hx => ?_)) | (with_reducible refine wn_plain (by dsimp only; omega) (by first | assumption | rfl) (by kernel_rfl) (by kernel_rfl)) | (with_reducible refine wn_cplain (by dsimp only; omega) (by first | assumption | rfl) (by kernel_rfl) (by kernel_rfl)) | (with_reducible refine wv_again (by kernel_rfl) rfl ?_)))
end Go.Proofs.YtbgfphbajbbgoaaDoor
namespace Go.Proofs.YtbgfphbajbbgoaaDoor
set_option linter.all false
open Go.RowKit
set_option maxRecDepth 100000
set_option maxHeartbeats 2000000
theorem new_AssignReplicasToDirsRequest : NewsPtr 41 dd_AssignReplicasToDirsRequest :=
  newptr_of zz_AssignReplicasToDirsRequest dd_AssignReplicasToDirsRequest Tryd.func41 rfl rfl Tryd.ntmps41 (by kernel_rfl) (fun w => Tryd.zeroValue92 w) (fun args w => Tryd.call73 args w) defz_AssignReplicasToDirsRequest
theorem max_AssignReplicasToDirsRequest : MaxIs 20 0 := by
  intro w
  refine callsR_of Tryd.func20 rfl rfl Tryd.ntmps20 (by simp) ?_
  intro a hN hD ha
  refine wp_seq_k fun K hK => ?_; refine wp_reg ?_; refine wl_assign ?_; refine wl_nil ?_; refine hK _ _ ?_; clear hK K
  refine wp_seq_k fun K hK => ?_; refine wp_reg ?_
  refine wl_call (fun args w => Tryd.call41 args w) (by simp only [List.map_toArray, List.map_nil]; exact new_AssignReplicasToDirsRequest w) ?_
  rintro v w1 ⟨rfl, hc, _⟩
  refine wl_call (fun args w => Tryd.call42 args w) (by simp only [List.map_toArray, List.map_cons, List.map_nil]; simp only [evb, kb, hN, Nat.reduceLT, Nat.reduceEqDiff, reduceIte, Int.reduceToNat, Int.reduceBEq]; exact maxver_of Tryd.func42 rfl rfl Tryd.ntmps42 (by kernel_rfl) _ w1) ?_
  rintro _ w2 ⟨rfl, rfl⟩
  (repeat (first | ((with_reducible refine wl_q ?_ ?_ ?_ ?_); (· exact rfl); (· simp [evb, kb, hN, dyb, sdb] <;> omega); (· kernel_rfl); try simp only [evb, kb, hN, Nat.reduceLT, Nat.reduceEqDiff, reduceIte, Int.reduceToNat, Int.reduceBEq, pvb]) | ((with_reducible refine wl_lenS ?_ ?_ ?_); rotate_left 1; (· simp [evb, kb, hN, sdb]); rotate_left 1; (· kernel_rfl); try simp only [evb, kb, hN, Nat.reduceLT, Nat.reduceEqDiff, reduceIte, Int.reduceToNat, Int.reduceBEq, pvb])))
  refine wl_nil ?_; refine hK _ _ ?_; clear hK K; refine wp_ret ⟨by simp [defers_put, hD], ?_⟩; simp only [evb, kb, hN, Nat.reduceLT, Nat.reduceEqDiff, reduceIte, Int.reduceToNat, Int.reduceBEq]
  exact ⟨by first | rfl | trivial, hc⟩
theorem setv_AssignReplicasToDirsRequest : SetsVersion 43 := setver_of Tryd.func43 rfl rfl Tryd.ntmps43 (by kernel_rfl)
theorem from_AssignReplicasToDirsRequest : ReadsFrom 44 74 := fun h => readfrom_c Tryd.func44 rfl rfl Tryd.ntmps44 (fun args w => Tryd.call74 args w) h
theorem ag_AssignReplicasToDirsRequest : AgC 21 (fun ver => decide (0 ≤ ver)) 0 sch_AssignReplicasToDirsRequest := fun ver h0 h1 w G oa bs cap hsrc hlim herr hout =>
  again_of Tryd.func21 rfl rfl Tryd.ntmps21 (fun args w => Tryd.call41 args w) (fun args w => Tryd.call43 args w) (fun args w => Tryd.call44 args w) (fun args w => Tryd.call45 args w) new_AssignReplicasToDirsRequest setv_AssignReplicasToDirsRequest from_AssignReplicasToDirsRequest read_AssignReplicasToDirsRequest app_AssignReplicasToDirsRequest h0 (by omega) hsrc hlim herr hout
theorem any_AssignReplicasToDirsRequest : AnyOK (fun ver => decide (0 ≤ ver)) 0 sch_AssignReplicasToDirsRequest := anyB_out (by kernel_rfl)
theorem walk_FnAnyAssignReplicasToDirsRequest {a : Int} (hn : 0 ≤ a) (hn2 : a < 256) {w : World} {G : Nat → Prop} {oa : Option Addr} {bs : Bs} {cap : Nat} (hbs : BytesAt w G oa bs) (hcap : bs.length ≤ cap) (hlen : bs.length ≤ 1048576) (herr : ErrW w) :
    CallsR Tryd.prog 6 #[.int .u8 a, .slice oa bs.length cap] w fun v w' => v = .bool true ∧ Chg (fun _ => False) w w' :=
  lawAny_of Tryd.func6 rfl rfl Tryd.ntmps6 (fun args w => Tryd.call20 args w) (fun args w => Tryd.call21 args w) max_AssignReplicasToDirsRequest ag_AssignReplicasToDirsRequest (by decide) any_AssignReplicasToDirsRequest hn hn2 hbs hcap hlen herr
end Go.Proofs.YtbgfphbajbbgoaaDoor
namespace Go.Proofs.YtbgfphbajbbgoaaDoor
set_option linter.all false
namespace fnAnyAssignReplicasToDirsRequest
open Go.ChangeShapes Go.WideShapes Go.ChangeAt Go.RowKit
set_option maxRecDepth 100000
set_option maxHeartbeats 1000000
theorem laid_met (os : Os) : laidMet Tryd.prog Rows.fnAnyAssignReplicasToDirsRequestUptoRow.laid ((laidWorld os).forCall (fun _ _ => 0) ⟨#[], #[.int .u8 0, .slice none 0 0], []⟩).memory :=
  laidMet_of_run' 8 (by kernel_rfl) (by kernel_rfl)
theorem witness_row (os : Os) {H : Type} (enc : TypeId × Value → H) :
    (Rows.OpenSpec.upto Rows.fnAnyAssignReplicasToDirsRequestSpec).preRow enc Tryd.prog Tryd.f6 Rows.fnAnyAssignReplicasToDirsRequestUptoRow.domain false Rows.fnAnyAssignReplicasToDirsRequestUptoRow.laid ((laidWorld os).forCall (fun _ _ => 0) ⟨#[], #[.int .u8 0, .slice none 0 0], []⟩).memory #[.int .u8 0, .slice none 0 0] := by
  have hw : (DataW.whole enc Tryd.prog ((laidWorld os).forCall (fun _ _ => 0) ⟨#[], #[.int .u8 0, .slice none 0 0], []⟩).memory Tryd.f6.params.toList Rows.fnAnyAssignReplicasToDirsRequestSpec.vars false (#[.int .u8 0, .slice none 0 0] : Array Value).toList 8).map (fun x => (decide (Rows.uptoBulkAll (x.1 ++ x.2.1) ≤ 1048576))) = some true := by kernel_rfl
  obtain ⟨⟨x1, x2, x3⟩, hx, hx1⟩ := Option.map_eq_some_iff.1 hw
  exact OpenSpec.preRow_of_cond 8 hx (by kernel_rfl) (fun k hk => by cases hk; exact hx1) (by kernel_rfl) (laid_met os)
theorem lifted (os : Os) (started : os.Started) (H : Type) (enc : TypeId × Value → H) (F : Stop.Interp) :
    ReturnsInHanded {} Tryd.checked os 6 .any ((Rows.OpenSpec.upto Rows.fnAnyAssignReplicasToDirsRequestSpec).preRow enc Tryd.prog Tryd.f6 Rows.fnAnyAssignReplicasToDirsRequestUptoRow.domain false Rows.fnAnyAssignReplicasToDirsRequestUptoRow.laid) (((Rows.OpenSpec.upto Rows.fnAnyAssignReplicasToDirsRequestSpec).at F).post enc Tryd.prog Tryd.f6 false true false false) := by
  refine returnsInHanded_of_row (C := Tryd.checked) (s := Rows.OpenSpec.upto Rows.fnAnyAssignReplicasToDirsRequestSpec) own started (by kernel_rfl) Tryd.func6
    (witness_row_atRef (enc := enc) (C := Tryd.checked) false (laidWorld os) #[.int .u8 0, .slice none 0 0] rfl (by kernel_rfl) (by kernel_rfl) (by kernel_rfl) (witness_row os enc)) ?_
  intro W base args ds gs before hval0 hW _ hcond _ hL _ _
  have hval : ∀ (j : Nat) t v, Tryd.f6.params[j]? = some t → args[j]? = some v → Value.okWide Tryd.prog W .any base t v := hval0
  have hW' := hW
  obtain ⟨p, q, hA0, hV, rfl, hfz, hnd⟩ := hW
  have hA : DataW.TrodAll enc Tryd.prog W 0 (fun _ => true) true Tryd.f6.params.toList args.toList ds p := hA0
  rw [Tryd.params6] at hA hval
  obtain ⟨v0, vs0, d0, ds0, p0, q0, hargs, rfl, rfl, h0, r0⟩ := trodAll_cons hA
  obtain ⟨v1, vs1, d1, ds1, p1, q1, rfl, rfl, rfl, h1, r1⟩ := trodAll_cons r0
  obtain ⟨rfl, rfl, rfl⟩ := trodAll_nil r1
  obtain rfl : args = #[v0, v1] := by cases args; simp_all
  obtain ⟨rfl, rfl⟩ := trodVars_none hV
  simp only [List.append_nil] at hW' hcond
  have hbulk := hcond _ rfl
  replace hbulk := of_decide_eq_true hbulk
  simp only [Rows.uptoBulkAll] at hbulk
  have hlt : ∀ x ∈ _, MemPlace.block x < W.heap.size := fun x hx => hW'.lt x hx
  obtain ⟨a0, rfl, rfl, rfl, x0⟩ := open_int Tryd.underlying5 (hval 0 5 v0 rfl rfl) h0
  have y0 : 0 ≤ a0 ∧ a0 < 256 := by have h := x0; simp only [Lit.wf, IntKind.min, IntKind.max, IntKind.signed, IntKind.bits, Bool.and_eq_true, decide_eq_true_eq] at h; simp at h; omega
  obtain ⟨oa, bs, cap, rfl, hbs, hcap, hlen⟩ := bytes_arg (hval 1 22 v1 rfl rfl) h1 (by omega)
  clear hA0 hval0
  refine Calls.mono (walk_FnAnyAssignReplicasToDirsRequest y0.1 y0.2 hbs hcap hlen (errW_of hL)) fun e W' ⟨v, he, hv, hc⟩ => ?_
  subst he
  subst hv
  exact ⟨_, rfl, _, _, _, [], _, [], hW', trodAll_cons_mk (shut_bool Tryd.underlying4 _) trodAll_mk0, trodAll_cons_mk (shut_int Tryd.underlying5 x0) (trodAll_cons_mk (bytes_same h1 hc (fun x hx => hlt x (by simp [hx]))) (trodAll_mk0)), rfl, (below_of hc).frame _, fun h => by cases h⟩
theorem c2 : (Rows.fnAnyAssignReplicasToDirsRequestUptoRow.inPlace == Tryd.prog.inPlace 6) = true := by kernel_rfl
theorem c3 : (Rows.fnAnyAssignReplicasToDirsRequestUptoRow.unfollowed == Tryd.prog.unfollowed 6) = true := by kernel_rfl
theorem c4 : (Rows.fnAnyAssignReplicasToDirsRequestUptoRow.recurses == Tryd.prog.recurses 6) = true := by kernel_rfl
theorem c5 : (Rows.fnAnyAssignReplicasToDirsRequestUptoRow.named == Tryd.prog.varsNamed 6) = true := by kernel_rfl
theorem c7 : (Rows.fnAnyAssignReplicasToDirsRequestUptoRow.lifted == Tryd.prog.liftsFinal) = true := by
  have h : Rows.fnAnyAssignReplicasToDirsRequestUptoRow.lifted = Facts.lifted := rfl
  rw [h]; exact Facts.c7
theorem c8 : (Tryd.prog.make == some Rows.fnAnyAssignReplicasToDirsRequestUptoRow.make) = true := by
  have h : Rows.fnAnyAssignReplicasToDirsRequestUptoRow.make = Facts.make := rfl
  rw [h]; exact Facts.c8
theorem c9 : (Rows.fnAnyAssignReplicasToDirsRequestUptoRow.plainKeys == Tryd.prog.plainKeys) = true := by
  have h : Rows.fnAnyAssignReplicasToDirsRequestUptoRow.plainKeys = Facts.plainKeys := rfl
  rw [h]; exact Facts.c9
theorem c11 : Tryd.prog.funcNamed Rows.fnAnyAssignReplicasToDirsRequestUptoRow.func = some 6 := by kernel_rfl
theorem closed : joinedFacts Tryd.prog 6 Tryd.f6 (Rows.OpenSpec.upto Rows.fnAnyAssignReplicasToDirsRequestSpec).bare Rows.fnAnyAssignReplicasToDirsRequestUptoRow = true := by
  unfold joinedFacts
  simp only [Bool.and_eq_true]
  repeat' (refine And.intro ?_ ?_)
  all_goals first | with_reducible exact Facts.c1 | with_reducible exact Facts.c0 | with_reducible exact c2 | with_reducible exact c3 | with_reducible exact c4 | with_reducible exact c5 | with_reducible exact Facts.c6 | with_reducible exact c7 | with_reducible exact c8 | with_reducible exact c9 | with_reducible exact Facts.c10 | kernel_rfl
theorem over : Rows.FnAnyAssignReplicasToDirsRequestUptoSaid :=
  OpenClaim.holds_of_cond 6 Tryd.f6 rfl rfl rfl rfl rfl rfl rfl ⟨rfl, rfl, rfl, rfl, rfl⟩ rfl rfl rfl rfl rfl c11 Tryd.func6 closed
    (of_decide_eq_true (by kernel_rfl)) (by unfold Func.isWrapper; first | (rw [if_pos (by decide +kernel)]; kernel_rfl) | (rw [if_neg (by decide +kernel)]; exact ⟨rfl, rfl⟩))
    (fun os started H enc _ F => by rw [OpenClaim.pre_eq_preRow]; exact lifted os started H enc F)
theorem plain (f : FuncId) (fn : Func) (hf : Tryd.pinned.checked.prog.funcNamed "pub-kmsg/laws.FnAnyAssignReplicasToDirsRequest" = some f) (hfn : Tryd.pinned.checked.prog.funcs[f]? = some fn) :
    false = Tryd.pinned.checked.prog.looks [] ∧ ∀ (j : Nat) t, fn.params[j]? = some t → Tryd.pinned.checked.prog.wantsStandIn t = false := by
  obtain rfl : f = 6 := Option.some.inj ((show Tryd.prog.funcNamed "pub-kmsg/laws.FnAnyAssignReplicasToDirsRequest" = some 6 by kernel_rfl).symm.trans hf) |>.symm
  obtain rfl : fn = Tryd.f6 := (Option.some.inj (Tryd.func6.symm.trans hfn)).symm
  refine ⟨by kernel_rfl, fun j t ht => ?_⟩
  rw [Tryd.params6] at ht
  have hw0 : Tryd.prog.wantsStandIn 5 = false := by kernel_rfl
  have hw1 : Tryd.prog.wantsStandIn 22 = false := by kernel_rfl
  have hm := Array.mem_of_getElem? ht
  simp only [List.mem_toArray, List.mem_cons, List.not_mem_nil, or_false] at hm
  rcases hm with rfl | rfl <;> assumption
end fnAnyAssignReplicasToDirsRequest
theorem fnAnyAssignReplicasToDirsRequest_holds : Rows.FnAnyAssignReplicasToDirsRequestUptoCardSaid :=
  Claim7.holds_tied_plain_at .later [] _ _ _ _ fnAnyAssignReplicasToDirsRequest.over (fun _ h => by cases h) (by kernel_rfl) (fun _ h => by cases h) fnAnyAssignReplicasToDirsRequestUpto_row_tie rfl ⟨rfl, rfl⟩ (by kernel_rfl) rfl fnAnyAssignReplicasToDirsRequest.plain (by kernel_rfl)
#print axioms fnAnyAssignReplicasToDirsRequest_holds
end Go.Proofs.YtbgfphbajbbgoaaDoor

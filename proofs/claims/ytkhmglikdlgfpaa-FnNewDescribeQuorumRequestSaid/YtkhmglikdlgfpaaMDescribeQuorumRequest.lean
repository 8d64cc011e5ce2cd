/-
A new DescribeQuorumRequest: its schema, what is written of it, what the law returns.
-/
import Derived.Test.YtkhmglikdlgfpaaNewC
namespace Go.Proofs.Ytkhmglikdlgfpaa
set_option linter.all false
open Go.RowKit
set_option maxRecDepth 100000
set_option maxHeartbeats 2000000
def sch_sDescribeQuorumRequestTopicPartition : List Fld := [.mk .i32 0 (-1) (-1) (-1) 0 .bool []]
def sch_sDescribeQuorumRequestTopic : List Fld := [.mk .text 0 (-1) (-1) (-1) 0 .bool [], .mk .list 0 (-1) (-1) (-1) 0 .struct sch_sDescribeQuorumRequestTopicPartition]
def sch_DescribeQuorumRequest : List Fld := [.mk .list 0 (-1) (-1) (-1) 0 .struct sch_sDescribeQuorumRequestTopic]
theorem lay_sDescribeQuorumRequestTopicPartition : LaysS 160 sch_sDescribeQuorumRequestTopicPartition := by
  intro w0
  refine callsR_of Try.func160 rfl rfl Try.ntmps160 (by simp) ?_
  intro a hN hD ha
  refine wp_seq_k fun K hK => ?_; refine wp_reg ?_; refine wl_assign ?_; simp only [evb, kb, hN, Nat.reduceLT, Nat.reduceEqDiff, reduceIte, Int.reduceToNat, Int.reduceBEq]; refine wl_nil ?_; refine hK _ _ ?_; clear hK K
  refine wp_seq_k fun K hK => ?_; refine wp_reg ?_
  have hq : Chg (fun _ => False) w0 w0 := Chg.refl _ _
  refine wl_build (l := fldCells (.mk .i32 0 (-1) (-1) (-1) 0 .bool []) (.slice none 0 0)) (by simp only [List.map_toArray, List.map_cons, List.map_nil, evb, kb, hN, Nat.reduceLT, Nat.reduceEqDiff, reduceIte, Int.reduceToNat, Int.reduceBEq]; kernel_rfl) ?_
  refine wl_fields sch_sDescribeQuorumRequestTopicPartition [fldCells (.mk .i32 0 (-1) (-1) (-1) 0 .bool []) (.slice none 0 0)] rfl (by simp only [List.map_toArray, List.map_cons, List.map_nil, evb, kb, hN, Nat.reduceLT, Nat.reduceEqDiff, reduceIte, Int.reduceToNat, Int.reduceBEq]; rfl) (by simp only [List.length_cons, List.length_nil]; omega) hq (.cons (fldCells_is (.mk .i32 0 (-1) (-1) (-1) 0 .bool []) (schS_nil _ _ _ _)) (.nil)) ?_
  rintro v wF hcF hkF hsF rfl
  refine wl_assign ?_
  simp only [evb, kb, hN, Nat.reduceLT, Nat.reduceEqDiff, reduceIte, Int.reduceToNat, Int.reduceBEq]
  refine wl_nil ?_; refine hK _ _ ?_; clear hK K
  refine wp_ret ⟨by simp [defers_put, hD], ?_⟩; simp only [evb, kb, hN, Nat.reduceLT, Nat.reduceEqDiff, reduceIte, Int.reduceToNat, Int.reduceBEq]
  exact ⟨hsF, hcF⟩
theorem lay_sDescribeQuorumRequestTopic : LaysS 83 sch_sDescribeQuorumRequestTopic := by
  intro w0
  refine callsR_of Try.func83 rfl rfl Try.ntmps83 (by simp) ?_
  intro a hN hD ha
  refine wp_seq_k fun K hK => ?_; refine wp_reg ?_; refine wl_assign ?_; simp only [evb, kb, hN, Nat.reduceLT, Nat.reduceEqDiff, reduceIte, Int.reduceToNat, Int.reduceBEq]; refine wl_nil ?_; refine hK _ _ ?_; clear hK K
  refine wp_seq_k fun K hK => ?_; refine wp_reg ?_
  have hq : Chg (fun _ => False) w0 w0 := Chg.refl _ _
  refine wl_build (l := fldCells (.mk .text 0 (-1) (-1) (-1) 0 .bool []) (.slice none 0 0)) (by simp only [List.map_toArray, List.map_cons, List.map_nil, evb, kb, hN, Nat.reduceLT, Nat.reduceEqDiff, reduceIte, Int.reduceToNat, Int.reduceBEq]; kernel_rfl) ?_
  refine wl_call (fun args w => Try.call160 args w) (by simp only [List.map_toArray, List.map_nil]; exact lay_sDescribeQuorumRequestTopicPartition _) ?_
  rintro v1 w1 ⟨hs1, hk1⟩
  replace hs1 := hs1.later (Chg.refl _ _) hq.size
  replace hq := hq.trans hk1 fun _ _ h => h
  obtain ⟨oa1, cap1, rfl, _⟩ := id hs1
  refine wl_build (l := fldCells (.mk .list 0 (-1) (-1) (-1) 0 .struct sch_sDescribeQuorumRequestTopicPartition) (.slice oa1 (sch_sDescribeQuorumRequestTopicPartition).length cap1)) (by simp only [List.map_toArray, List.map_cons, List.map_nil, evb, kb, hN, Nat.reduceLT, Nat.reduceEqDiff, reduceIte, Int.reduceToNat, Int.reduceBEq]; kernel_rfl) ?_
  refine wl_fields sch_sDescribeQuorumRequestTopic [fldCells (.mk .text 0 (-1) (-1) (-1) 0 .bool []) (.slice none 0 0), fldCells (.mk .list 0 (-1) (-1) (-1) 0 .struct sch_sDescribeQuorumRequestTopicPartition) (.slice oa1 (sch_sDescribeQuorumRequestTopicPartition).length cap1)] rfl (by simp only [List.map_toArray, List.map_cons, List.map_nil, evb, kb, hN, Nat.reduceLT, Nat.reduceEqDiff, reduceIte, Int.reduceToNat, Int.reduceBEq]; rfl) (by simp only [List.length_cons, List.length_nil]; omega) hq (.cons (fldCells_is (.mk .text 0 (-1) (-1) (-1) 0 .bool []) (schS_nil _ _ _ _)) (.cons (fldCells_is (.mk .list 0 (-1) (-1) (-1) 0 .struct sch_sDescribeQuorumRequestTopicPartition) hs1) (.nil))) ?_
  rintro v wF hcF hkF hsF rfl
  refine wl_assign ?_
  simp only [evb, kb, hN, Nat.reduceLT, Nat.reduceEqDiff, reduceIte, Int.reduceToNat, Int.reduceBEq]
  refine wl_nil ?_; refine hK _ _ ?_; clear hK K
  refine wp_ret ⟨by simp [defers_put, hD], ?_⟩; simp only [evb, kb, hN, Nat.reduceLT, Nat.reduceEqDiff, reduceIte, Int.reduceToNat, Int.reduceBEq]
  exact ⟨hsF, hcF⟩
theorem lay_DescribeQuorumRequest : LaysM 34 sch_DescribeQuorumRequest 0 := by
  intro w
  refine callsR_ofC Try.func34 rfl rfl (by kernel_rfl) Try.ntmps34 (by simp) ?_
  intro a hN hD ha
  refine wp_seq_k fun K hK => ?_; refine wp_reg ?_
  refine wl_allocA (z := aggOf [.slice none 0 0, .int .i64 0]) (fun w => Try.zeroValue25 w) fun w0 hc0 hb0 hs0 => ?_
  refine wl_nil ?_; refine hK _ _ ?_; clear hK K
  refine wp_seq_k fun K hK => ?_; refine wp_reg ?_
  have hq : Chg (fun _ => False) w0 w0 := Chg.refl _ _
  refine wl_call (fun args w => Try.call83 args w) (by simp only [List.map_toArray, List.map_nil]; exact lay_sDescribeQuorumRequestTopic _) ?_
  rintro v1 w1 ⟨hs1, hk1⟩
  replace hs1 := hs1.later (Chg.refl _ _) hq.size
  replace hq := hq.trans hk1 fun _ _ h => h
  obtain ⟨oa1, cap1, rfl, _⟩ := id hs1
  refine wl_build (l := fldCells (.mk .list 0 (-1) (-1) (-1) 0 .struct sch_sDescribeQuorumRequestTopic) (.slice oa1 (sch_sDescribeQuorumRequestTopic).length cap1)) (by simp only [List.map_toArray, List.map_cons, List.map_nil, evb, kb, hN, Nat.reduceLT, Nat.reduceEqDiff, reduceIte, Int.reduceToNat, Int.reduceBEq]; kernel_rfl) ?_
  refine wl_fields sch_DescribeQuorumRequest [fldCells (.mk .list 0 (-1) (-1) (-1) 0 .struct sch_sDescribeQuorumRequestTopic) (.slice oa1 (sch_sDescribeQuorumRequestTopic).length cap1)] rfl (by simp only [List.map_toArray, List.map_cons, List.map_nil, evb, kb, hN, Nat.reduceLT, Nat.reduceEqDiff, reduceIte, Int.reduceToNat, Int.reduceBEq]; rfl) (by simp only [List.length_cons, List.length_nil]; omega) hq (.cons (fldCells_is (.mk .list 0 (-1) (-1) (-1) 0 .struct sch_sDescribeQuorumRequestTopic) hs1) (.nil)) ?_
  rintro v wF hcF hkF hsF rfl
  refine wl_build (l := [.slice (some ⟨w1.heap.size, 0, none⟩) (sch_DescribeQuorumRequest).length (sch_DescribeQuorumRequest).length, .int .i64 0]) (by simp only [List.map_toArray, List.map_cons, List.map_nil, evb, kb, hN, Nat.reduceLT, Nat.reduceEqDiff, reduceIte, Int.reduceToNat, Int.reduceBEq]; kernel_rfl) ?_
  have hbF := hb0.chg hcF (fun h => h)
  refine wl_storeAll (b := w.heap.size) (n := 2) (l' := [.slice (some ⟨w1.heap.size, 0, none⟩) (sch_DescribeQuorumRequest).length (sch_DescribeQuorumRequest).length, .int .i64 0]) (by kernel_rfl) (by simp [evb, kb, hN, Nat.reduceLT, Nat.reduceEqDiff, reduceIte, Int.reduceToNat, Int.reduceBEq, sdb]) (by simp [evb, kb, hN, Nat.reduceLT, Nat.reduceEqDiff, reduceIte, Int.reduceToNat, Int.reduceBEq, sdb]) hbF rfl (by intro y hy; simp only [List.mem_cons, List.not_mem_nil, or_false] at hy; rcases hy with rfl | rfl <;> rfl) rfl fun wE hbE hcE => ?_
  refine wl_nil ?_; refine hK _ _ ?_; clear hK K
  refine wp_ret ⟨by simp [defers_put, hD], w.heap.size, _, _, by simp only [evb, kb, hN, Nat.reduceLT, Nat.reduceEqDiff, reduceIte, Int.reduceToNat, Int.reduceBEq], hbE, by kernel_rfl, ⟨_, rfl, SchS.stay ⟨fun k hk hg => ⟨hcE.block k hk (by omega), by omega⟩⟩ hsF, ?_⟩⟩
  exact (hc0.trans hcF fun _ _ h => h).trans hcE fun k hk h => by omega
theorem app_DescribeQuorumRequest : AppendsTo 85 true (fun ver => decide (0 ≤ ver)) sch_DescribeQuorumRequest := by
  refine app_flex Try.func85 rfl rfl Try.ntmps85 (by kernel_rfl) ?_
  intro ver s hver
  (repeat' (first | with_reducible refine wt_start ?_ | with_reducible refine wr_start ?_ | with_reducible refine wt_tagged rfl rfl ?_ | (with_reducible refine wt_next rfl (by kernel_rfl) (fun d hd => ?_) ?_) | (with_reducible refine wt_end rfl (by kernel_rfl) ?_ ?_) | (with_reducible refine wt_fin rfl rfl ?_) | (with_reducible refine wt_ret (by kernel_rfl)) | with_reducible refine wr_tagged rfl rfl ?_ | (with_reducible refine wr_last rfl rfl (fun d hd => ?_)) | (with_reducible refine wr_next rfl (by kernel_rfl) (fun d hd => ?_) ?_) | (with_reducible refine wr_end rfl ?_) | (with_reducible refine wr_tail rfl (by kernel_rfl) k_uint32 (by kernel_rfl)) | (with_reducible refine wf_all rfl (by dsimp only; omega) ?_) | ((with_reducible refine wf_from rfl (by kernel_rfl) (fun hv => ?_)); try dsimp only at hv) | ((with_reducible refine wf_range rfl (by kernel_rfl) (fun hv hv2 => ?_)); try dsimp only at hv hv2) | (with_reducible refine wf_load rfl hd (by kernel_rfl) (by kernel_rfl) rfl ?_) | (with_reducible refine wf_uuid rfl hd (by kernel_rfl) uuidZero (by kernel_rfl)) | (with_reducible refine wf_inner rfl hd (by kernel_rfl) (by kernel_rfl) rfl (fun s => ?_)) | (with_reducible refine wv_bool (by kernel_rfl)) | (with_reducible refine wv_i8 (by kernel_rfl)) | (with_reducible refine wv_i16 (by kernel_rfl)) | (with_reducible refine wv_i32 (by kernel_rfl)) | (with_reducible refine wv_i64 (by kernel_rfl)) | (with_reducible refine wv_u16 (by kernel_rfl)) | (with_reducible refine wv_f64 (by kernel_rfl)) | (with_reducible refine wv_flexS rfl (by kernel_rfl) (fun hx => ?_) (fun hx => ?_)) | (with_reducible refine wv_string rfl hx (by kernel_rfl)) | (with_reducible refine wv_cstring rfl hx (by kernel_rfl)) | (with_reducible refine wv_nstring rfl (by dsimp only; omega) hx (by kernel_rfl)) | (with_reducible refine wv_cnstring rfl (by dsimp only; omega) hx (by kernel_rfl)) | ((with_reducible refine wv_otext rfl (by kernel_rfl) (by kernel_rfl) (by kernel_rfl) (by kernel_rfl) rfl (fun l => ?_) (fun hv => ?_)); (try dsimp only at hv)) | (with_reducible refine wv_listS (fun oa n cap M => ?_) (by kernel_rfl) (by kernel_rfl) (by kernel_rfl) (by kernel_rfl) (fun s => ?_)) | (with_reducible refine wv_listK (fun oa n cap M => ?_) (by kernel_rfl) (by kernel_rfl) (by kernel_rfl) (by kernel_rfl) (fun d => ?_)) | (with_reducible refine wn_flex rfl (by kernel_rfl) (fun hx => ?_) (fun hx => ?_)) | ((with_reducible refine wn_ver (by kernel_rfl) (fun hv => ?_) (fun hv => ?_)) <;> try dsimp only at hv) | (with_reducible refine wn_plain (by dsimp only; omega) hx (by kernel_rfl) (by kernel_rfl)) | (with_reducible refine wn_cplain (by dsimp only; omega) hx (by kernel_rfl) (by kernel_rfl)) | (with_reducible refine wn_null (by decide) (by dsimp only; omega) hx (by kernel_rfl) (by kernel_rfl)) | (with_reducible refine wn_cnull (by decide) (by dsimp only; omega) hx (by kernel_rfl) (by kernel_rfl)) | (with_reducible refine wv_again (by kernel_rfl) rfl ?_)))
def zc_DescribeQuorumRequest : List Value := [.int .i16 0, .slice none 0 0, .map none]
theorem def_DescribeQuorumRequest (w : World) (B : Nat) (hb : Blk w B zc_DescribeQuorumRequest 110) : CallsR Try.prog 159 #[.pointer (some ⟨B, 0, none⟩)] w fun _ w' => Blk w' B zc_DescribeQuorumRequest 110 ∧ Chg (fun k => k = B) w w' := by
  refine callsR_of0 Try.func159 rfl rfl Try.ntmps159 (by simp) ?_
  intro a hN hD ha
  exact wp_skip ⟨hD, hb, Chg.refl _ _⟩
theorem new_DescribeQuorumRequest : NewsPtr 81 true sch_DescribeQuorumRequest := by
  exact newptr_of (z := .agg zc_DescribeQuorumRequest.toArray) zc_DescribeQuorumRequest Try.func81 rfl rfl Try.ntmps81 (by kernel_rfl) (fun w => Try.zeroValue110 w) (fun args w => Try.call159 args w) (fun w B hb => def_DescribeQuorumRequest w B hb) ⟨_, rfl⟩ (by kernel_rfl)
theorem max_DescribeQuorumRequest (w : World) : CallsR Try.prog 33 #[] w fun v w' => v = .int .i64 2 ∧ Chg (fun _ => False) w w' := by
  refine callsR_of Try.func33 rfl rfl Try.ntmps33 (by simp) ?_
  intro a hN hD ha
  refine wp_seq_k fun K hK => ?_; refine wp_reg ?_; refine wl_assign ?_; refine wl_nil ?_; refine hK _ _ ?_; clear hK K
  refine wp_seq_k fun K hK => ?_; refine wp_reg ?_
  refine wl_call (fun args w => Try.call81 args w) (by simp only [List.map_toArray, List.map_nil]; exact new_DescribeQuorumRequest w) ?_
  rintro v w1 ⟨rfl, hc, _⟩
  refine wl_call (fun args w => Try.call82 args w) (by simp only [List.map_toArray, List.map_cons, List.map_nil]; simp only [evb, kb, hN, Nat.reduceLT, Nat.reduceEqDiff, reduceIte, Int.reduceToNat, Int.reduceBEq]; exact maxver_of Try.func82 rfl rfl Try.ntmps82 (by kernel_rfl) _ w1) ?_
  rintro _ w2 ⟨rfl, rfl⟩
  (repeat (first | ((first | (with_reducible refine wl_move ?_) | (with_reducible refine wl_assign ?_) | ((with_reducible refine wl_conv ?_ ?_ ?_ ?_); (· kernel_rfl); (· kernel_rfl)) | (with_reducible refine wl_add ?_ ?_) | (with_reducible refine wl_sub ?_ ?_) | (with_reducible refine wl_lss ?_ ?_) | (with_reducible refine wl_leq ?_ ?_) | (with_reducible refine wl_gtr ?_ ?_) | (with_reducible refine wl_geq ?_ ?_) | (with_reducible refine wl_eql ?_ ?_) | (with_reducible refine wl_neq ?_ ?_) | (with_reducible refine wl_not ?_ ?_) | (with_reducible refine wl_shr ?_ ?_ ?_) | (with_reducible refine wl_and127 ?_ ?_) | (with_reducible refine wl_or128 ?_ ?_ ?_) | ((with_reducible refine wl_len ?_ ?_ ?_); rotate_left 1; (· simp [evb, kb, hN, Nat.reduceLT, Nat.reduceEqDiff, reduceIte, Int.reduceToNat, Int.reduceBEq, sdb]); rotate_left 1; (· kernel_rfl)) | ((with_reducible refine wl_lenS ?_ ?_ ?_); rotate_left 1; (· simp [evb, kb, hN, Nat.reduceLT, Nat.reduceEqDiff, reduceIte, Int.reduceToNat, Int.reduceBEq, sdb]); rotate_left 1; (· kernel_rfl))) <;> (first | (with_reducible refine wl_id ?_; try simp only [evb, kb, hN, Nat.reduceLT, Nat.reduceEqDiff, reduceIte, Int.reduceToNat, Int.reduceBEq]) | (simp [evb, kb, hN, Nat.reduceLT, Nat.reduceEqDiff, reduceIte, Int.reduceToNat, Int.reduceBEq, sdb]; done) | (simp [evb, kb, hN, Nat.reduceLT, Nat.reduceEqDiff, reduceIte, Int.reduceToNat, Int.reduceBEq, sdb]; omega)))))
  refine wl_nil ?_; refine hK _ _ ?_; clear hK K; refine wp_ret ⟨by simp [defers_put, hD], ?_⟩; simp only [evb, kb, hN, Nat.reduceLT, Nat.reduceEqDiff, reduceIte, Int.reduceToNat, Int.reduceBEq]
  exact ⟨by first | rfl | trivial, hc⟩
theorem impl_DescribeQuorumRequest (ver : Int) (h0 : 0 ≤ ver) (h1 : ver ≤ 2) (hlim : (encPart (decide (0 ≤ ver)) ver sch_DescribeQuorumRequest ⟨dfltL sch_DescribeQuorumRequest, []⟩).length ≤ 1048576) (w : World) :
    CallsR Try.prog 35 #[.int .i64 ver] w fun v w' => Octs w v (encPart (decide (0 ≤ ver)) ver sch_DescribeQuorumRequest ⟨dfltL sch_DescribeQuorumRequest, []⟩) w' := by
  refine callsR_of Try.func35 rfl rfl Try.ntmps35 (by simp) ?_
  intro a hN hD ha
  have g0 : get a 0 = .int .i64 ver := ha 0 _ rfl
  refine wp_seq_k fun K hK => ?_; refine wp_reg ?_; refine wl_assign ?_; refine wl_nil ?_; refine hK _ _ ?_; clear hK K
  refine wp_seq_k fun K hK => ?_; refine wp_reg ?_
  refine wl_call (fun args w => Try.call81 args w) (by simp only [List.map_toArray, List.map_nil]; exact new_DescribeQuorumRequest w) ?_
  rintro v w1 ⟨rfl, hc, cs, T, hb, hcs0, hlen, hrep⟩
  (repeat (first | ((first | (with_reducible refine wl_move ?_) | (with_reducible refine wl_assign ?_) | ((with_reducible refine wl_conv ?_ ?_ ?_ ?_); (· kernel_rfl); (· kernel_rfl)) | (with_reducible refine wl_add ?_ ?_) | (with_reducible refine wl_sub ?_ ?_) | (with_reducible refine wl_lss ?_ ?_) | (with_reducible refine wl_leq ?_ ?_) | (with_reducible refine wl_gtr ?_ ?_) | (with_reducible refine wl_geq ?_ ?_) | (with_reducible refine wl_eql ?_ ?_) | (with_reducible refine wl_neq ?_ ?_) | (with_reducible refine wl_not ?_ ?_) | (with_reducible refine wl_shr ?_ ?_ ?_) | (with_reducible refine wl_and127 ?_ ?_) | (with_reducible refine wl_or128 ?_ ?_ ?_) | ((with_reducible refine wl_len ?_ ?_ ?_); rotate_left 1; (· simp [evb, kb, hN, Nat.reduceLT, Nat.reduceEqDiff, reduceIte, Int.reduceToNat, Int.reduceBEq, sdb]); rotate_left 1; (· kernel_rfl)) | ((with_reducible refine wl_lenS ?_ ?_ ?_); rotate_left 1; (· simp [evb, kb, hN, Nat.reduceLT, Nat.reduceEqDiff, reduceIte, Int.reduceToNat, Int.reduceBEq, sdb]); rotate_left 1; (· kernel_rfl))) <;> (first | (with_reducible refine wl_id ?_; try simp only [evb, kb, hN, Nat.reduceLT, Nat.reduceEqDiff, reduceIte, Int.reduceToNat, Int.reduceBEq]) | (simp [evb, kb, hN, Nat.reduceLT, Nat.reduceEqDiff, reduceIte, Int.reduceToNat, Int.reduceBEq, sdb]; done) | (simp [evb, kb, hN, Nat.reduceLT, Nat.reduceEqDiff, reduceIte, Int.reduceToNat, Int.reduceBEq, sdb]; omega)))))
  refine wl_nil ?_; refine hK _ _ ?_; clear hK K
  refine wp_seq_k fun K hK => ?_; refine wp_reg ?_
  (repeat (first | ((first | (with_reducible refine wl_move ?_) | (with_reducible refine wl_assign ?_) | ((with_reducible refine wl_conv ?_ ?_ ?_ ?_); (· kernel_rfl); (· kernel_rfl)) | (with_reducible refine wl_add ?_ ?_) | (with_reducible refine wl_sub ?_ ?_) | (with_reducible refine wl_lss ?_ ?_) | (with_reducible refine wl_leq ?_ ?_) | (with_reducible refine wl_gtr ?_ ?_) | (with_reducible refine wl_geq ?_ ?_) | (with_reducible refine wl_eql ?_ ?_) | (with_reducible refine wl_neq ?_ ?_) | (with_reducible refine wl_not ?_ ?_) | (with_reducible refine wl_shr ?_ ?_ ?_) | (with_reducible refine wl_and127 ?_ ?_) | (with_reducible refine wl_or128 ?_ ?_ ?_) | ((with_reducible refine wl_len ?_ ?_ ?_); rotate_left 1; (· simp [evb, kb, hN, Nat.reduceLT, Nat.reduceEqDiff, reduceIte, Int.reduceToNat, Int.reduceBEq, g0, sdb]); rotate_left 1; (· kernel_rfl)) | ((with_reducible refine wl_lenS ?_ ?_ ?_); rotate_left 1; (· simp [evb, kb, hN, Nat.reduceLT, Nat.reduceEqDiff, reduceIte, Int.reduceToNat, Int.reduceBEq, g0, sdb]); rotate_left 1; (· kernel_rfl))) <;> (first | (with_reducible refine wl_id ?_; try simp only [evb, kb, hN, Nat.reduceLT, Nat.reduceEqDiff, reduceIte, Int.reduceToNat, Int.reduceBEq, g0]) | (simp [evb, kb, hN, Nat.reduceLT, Nat.reduceEqDiff, reduceIte, Int.reduceToNat, Int.reduceBEq, g0, sdb]; done) | (simp [evb, kb, hN, Nat.reduceLT, Nat.reduceEqDiff, reduceIte, Int.reduceToNat, Int.reduceBEq, g0, sdb]; omega)))))
  rw [i16_id ver (by omega)]
  refine wl_call (fun args w => Try.call84 args w) (by simp only [List.map_toArray, List.map_cons, List.map_nil]; simp only [evb, kb, hN, Nat.reduceLT, Nat.reduceEqDiff, reduceIte, Int.reduceToNat, Int.reduceBEq]; exact setver_of Try.func84 rfl rfl Try.ntmps84 (by kernel_rfl) w1 w.heap.size cs T ver hb (by omega)) ?_
  rintro _ w2 ⟨hb2, hc2⟩
  have hcw : Chg (fun _ => False) w w2 := hc.trans hc2 fun n hn h => by omega
  have hs2 := hb2.lt
  refine wl_nil ?_; refine hK _ _ ?_; clear hK K
  refine wp_seq_k fun K hK => ?_; refine wp_reg ?_
  (repeat (first | ((first | (with_reducible refine wl_move ?_) | (with_reducible refine wl_assign ?_) | ((with_reducible refine wl_conv ?_ ?_ ?_ ?_); (· kernel_rfl); (· kernel_rfl)) | (with_reducible refine wl_add ?_ ?_) | (with_reducible refine wl_sub ?_ ?_) | (with_reducible refine wl_lss ?_ ?_) | (with_reducible refine wl_leq ?_ ?_) | (with_reducible refine wl_gtr ?_ ?_) | (with_reducible refine wl_geq ?_ ?_) | (with_reducible refine wl_eql ?_ ?_) | (with_reducible refine wl_neq ?_ ?_) | (with_reducible refine wl_not ?_ ?_) | (with_reducible refine wl_shr ?_ ?_ ?_) | (with_reducible refine wl_and127 ?_ ?_) | (with_reducible refine wl_or128 ?_ ?_ ?_) | ((with_reducible refine wl_len ?_ ?_ ?_); rotate_left 1; (· simp [evb, kb, hN, Nat.reduceLT, Nat.reduceEqDiff, reduceIte, Int.reduceToNat, Int.reduceBEq, sdb]); rotate_left 1; (· kernel_rfl)) | ((with_reducible refine wl_lenS ?_ ?_ ?_); rotate_left 1; (· simp [evb, kb, hN, Nat.reduceLT, Nat.reduceEqDiff, reduceIte, Int.reduceToNat, Int.reduceBEq, sdb]); rotate_left 1; (· kernel_rfl))) <;> (first | (with_reducible refine wl_id ?_; try simp only [evb, kb, hN, Nat.reduceLT, Nat.reduceEqDiff, reduceIte, Int.reduceToNat, Int.reduceBEq]) | (simp [evb, kb, hN, Nat.reduceLT, Nat.reduceEqDiff, reduceIte, Int.reduceToNat, Int.reduceBEq, sdb]; done) | (simp [evb, kb, hN, Nat.reduceLT, Nat.reduceEqDiff, reduceIte, Int.reduceToNat, Int.reduceBEq, sdb]; omega)))))
  have hsp : (splice cs 0 [.int .i16 ver]) = .int .i16 ver :: cs.drop 1 := by simp [splice]
  rw [hsp] at hb2
  refine wl_call (fun args w => Try.call85 args w) (by
    simp only [List.map_toArray, List.map_cons, List.map_nil]; simp only [evb, kb, hN, Nat.reduceLT, Nat.reduceEqDiff, reduceIte, Int.reduceToNat, Int.reduceBEq]
    exact app_DescribeQuorumRequest ⟨dfltL sch_DescribeQuorumRequest, []⟩ ver w.heap.size w2 w2.heap.size (.slice none 0 0) [] h0 ⟨_, _, hb2, rfl⟩ ⟨_, _, hb2, by rw [List.length_cons, List.length_drop]; omega, by
      rw [List.drop_succ_cons, List.drop_zero]; exact repSB_out hrep⟩ hs2 (Nat.le_refl _) (Own.nil _ _ _) (by unfold LIM; simp only [List.length_nil]; omega)) ?_
  intro v3 w3 happ
  (repeat (first | ((first | (with_reducible refine wl_move ?_) | (with_reducible refine wl_assign ?_) | ((with_reducible refine wl_conv ?_ ?_ ?_ ?_); (· kernel_rfl); (· kernel_rfl)) | (with_reducible refine wl_add ?_ ?_) | (with_reducible refine wl_sub ?_ ?_) | (with_reducible refine wl_lss ?_ ?_) | (with_reducible refine wl_leq ?_ ?_) | (with_reducible refine wl_gtr ?_ ?_) | (with_reducible refine wl_geq ?_ ?_) | (with_reducible refine wl_eql ?_ ?_) | (with_reducible refine wl_neq ?_ ?_) | (with_reducible refine wl_not ?_ ?_) | (with_reducible refine wl_shr ?_ ?_ ?_) | (with_reducible refine wl_and127 ?_ ?_) | (with_reducible refine wl_or128 ?_ ?_ ?_) | ((with_reducible refine wl_len ?_ ?_ ?_); rotate_left 1; (· simp [evb, kb, hN, Nat.reduceLT, Nat.reduceEqDiff, reduceIte, Int.reduceToNat, Int.reduceBEq, sdb]); rotate_left 1; (· kernel_rfl)) | ((with_reducible refine wl_lenS ?_ ?_ ?_); rotate_left 1; (· simp [evb, kb, hN, Nat.reduceLT, Nat.reduceEqDiff, reduceIte, Int.reduceToNat, Int.reduceBEq, sdb]); rotate_left 1; (· kernel_rfl))) <;> (first | (with_reducible refine wl_id ?_; try simp only [evb, kb, hN, Nat.reduceLT, Nat.reduceEqDiff, reduceIte, Int.reduceToNat, Int.reduceBEq]) | (simp [evb, kb, hN, Nat.reduceLT, Nat.reduceEqDiff, reduceIte, Int.reduceToNat, Int.reduceBEq, sdb]; done) | (simp [evb, kb, hN, Nat.reduceLT, Nat.reduceEqDiff, reduceIte, Int.reduceToNat, Int.reduceBEq, sdb]; omega)))))
  refine wl_nil ?_; refine hK _ _ ?_; clear hK K; refine wp_ret ⟨by simp [defers_put, hD], ?_⟩; simp only [evb, kb, hN, Nat.reduceLT, Nat.reduceEqDiff, reduceIte, Int.reduceToNat, Int.reduceBEq]
  have ho := Octs.of_app happ
  exact ⟨ho.1.mono hcw.size, hcw.trans ho.2 fun _ _ h => h⟩
theorem plain_DescribeQuorumRequest : newEq sch_DescribeQuorumRequest 0 2 = true := by kernel_rfl
theorem walk_DescribeQuorumRequest (n : Int) (hn : 0 ≤ n) (hn2 : n < 256) (w : World) : CallsR Try.prog 7 #[.int .u8 n] w fun v w' => v = .bool true ∧ Chg (fun _ => False) w w' := by
  refine callsR_of Try.func7 rfl rfl Try.ntmps7 (by simp) ?_
  intro a hN hD ha
  have g0 : get a 0 = .int .u8 n := ha 0 _ rfl
  obtain ⟨ver, hver⟩ : ∃ ver, ver = n % (2 + 1) := ⟨_, rfl⟩
  have hv0 : 0 ≤ ver := by omega
  have hv1 : ver ≤ ((2 : Nat) : Int) := by omega
  have hvc : ∀ w, CallsR Try.prog 21 #[.int .u8 n, .int .i64 2] w fun v w' => v = .int .i64 ver ∧ w' = w := fun w => by
    rw [hver]; exact version_c n 2 hn (by omega) (by omega) hn2 w
  clear hver
  obtain ⟨heq, hlen⟩ := newEq_out plain_DescribeQuorumRequest hv0 hv1
  refine wp_seq_k fun K hK => ?_; refine wp_reg ?_; refine wl_assign ?_; refine wl_nil ?_; refine hK _ _ ?_; clear hK K
  refine wp_seq_k fun K hK => ?_; refine wp_reg ?_
  refine wl_call (fun args w => Try.call33 args w) (by simp only [List.map_toArray, List.map_nil]; exact max_DescribeQuorumRequest w) ?_
  rintro _ w1 ⟨rfl, hc1⟩
  (repeat (first | ((first | (with_reducible refine wl_move ?_) | (with_reducible refine wl_assign ?_) | ((with_reducible refine wl_conv ?_ ?_ ?_ ?_); (· kernel_rfl); (· kernel_rfl)) | (with_reducible refine wl_add ?_ ?_) | (with_reducible refine wl_sub ?_ ?_) | (with_reducible refine wl_lss ?_ ?_) | (with_reducible refine wl_leq ?_ ?_) | (with_reducible refine wl_gtr ?_ ?_) | (with_reducible refine wl_geq ?_ ?_) | (with_reducible refine wl_eql ?_ ?_) | (with_reducible refine wl_neq ?_ ?_) | (with_reducible refine wl_not ?_ ?_) | (with_reducible refine wl_shr ?_ ?_ ?_) | (with_reducible refine wl_and127 ?_ ?_) | (with_reducible refine wl_or128 ?_ ?_ ?_) | ((with_reducible refine wl_len ?_ ?_ ?_); rotate_left 1; (· simp [evb, kb, hN, Nat.reduceLT, Nat.reduceEqDiff, reduceIte, Int.reduceToNat, Int.reduceBEq, sdb]); rotate_left 1; (· kernel_rfl)) | ((with_reducible refine wl_lenS ?_ ?_ ?_); rotate_left 1; (· simp [evb, kb, hN, Nat.reduceLT, Nat.reduceEqDiff, reduceIte, Int.reduceToNat, Int.reduceBEq, sdb]); rotate_left 1; (· kernel_rfl))) <;> (first | (with_reducible refine wl_id ?_; try simp only [evb, kb, hN, Nat.reduceLT, Nat.reduceEqDiff, reduceIte, Int.reduceToNat, Int.reduceBEq]) | (simp [evb, kb, hN, Nat.reduceLT, Nat.reduceEqDiff, reduceIte, Int.reduceToNat, Int.reduceBEq, sdb]; done) | (simp [evb, kb, hN, Nat.reduceLT, Nat.reduceEqDiff, reduceIte, Int.reduceToNat, Int.reduceBEq, sdb]; omega)))))
  refine wl_nil ?_; refine hK _ _ ?_; clear hK K
  refine wp_seq_k fun K0 hK0 => ?_; refine wp_seq_k fun K1 hK1 => ?_; refine wp_reg ?_
  (repeat (first | ((first | (with_reducible refine wl_move ?_) | (with_reducible refine wl_assign ?_) | ((with_reducible refine wl_conv ?_ ?_ ?_ ?_); (· kernel_rfl); (· kernel_rfl)) | (with_reducible refine wl_add ?_ ?_) | (with_reducible refine wl_sub ?_ ?_) | (with_reducible refine wl_lss ?_ ?_) | (with_reducible refine wl_leq ?_ ?_) | (with_reducible refine wl_gtr ?_ ?_) | (with_reducible refine wl_geq ?_ ?_) | (with_reducible refine wl_eql ?_ ?_) | (with_reducible refine wl_neq ?_ ?_) | (with_reducible refine wl_not ?_ ?_) | (with_reducible refine wl_shr ?_ ?_ ?_) | (with_reducible refine wl_and127 ?_ ?_) | (with_reducible refine wl_or128 ?_ ?_ ?_) | ((with_reducible refine wl_len ?_ ?_ ?_); rotate_left 1; (· simp [evb, kb, hN, Nat.reduceLT, Nat.reduceEqDiff, reduceIte, Int.reduceToNat, Int.reduceBEq, sdb]); rotate_left 1; (· kernel_rfl)) | ((with_reducible refine wl_lenS ?_ ?_ ?_); rotate_left 1; (· simp [evb, kb, hN, Nat.reduceLT, Nat.reduceEqDiff, reduceIte, Int.reduceToNat, Int.reduceBEq, sdb]); rotate_left 1; (· kernel_rfl))) <;> (first | (with_reducible refine wl_id ?_; try simp only [evb, kb, hN, Nat.reduceLT, Nat.reduceEqDiff, reduceIte, Int.reduceToNat, Int.reduceBEq]) | (simp [evb, kb, hN, Nat.reduceLT, Nat.reduceEqDiff, reduceIte, Int.reduceToNat, Int.reduceBEq, sdb]; done) | (simp [evb, kb, hN, Nat.reduceLT, Nat.reduceEqDiff, reduceIte, Int.reduceToNat, Int.reduceBEq, sdb]; omega)))))
  refine wl_nil ?_
  refine hK1 _ _ ?_; try clear hK1 K1
  refine wp_cond_false (by simp [evb, kb, hN, Nat.reduceLT, Nat.reduceEqDiff, reduceIte, Int.reduceToNat, Int.reduceBEq, sdb]) ?_
  refine wp_skip ?_
  refine hK0 _ _ ?_; try clear hK0 K0
  refine wp_seq_k fun K hK => ?_; refine wp_reg ?_
  refine wl_call (fun args w => Try.call34 args w) (by simp only [List.map_toArray, List.map_nil]; exact lay_DescribeQuorumRequest w1) ?_
  rintro _ w2 ⟨sv, rfl, hsv, hc2⟩
  refine wl_allocA (z := aggOf [.slice none 0 0, .int .i64 0]) (fun w => Try.zeroValue25 w) fun w3 hc3 hb3 hs3 => ?_
  obtain ⟨oa, cap, rfl, _⟩ := id hsv
  refine wl_storeAll (b := w2.heap.size) (n := 2) (l' := [.slice oa (sch_DescribeQuorumRequest).length cap, .int .i64 0]) (by kernel_rfl) (by simp [evb, kb, hN, Nat.reduceLT, Nat.reduceEqDiff, reduceIte, Int.reduceToNat, Int.reduceBEq, sdb]) (by simp [evb, kb, hN, Nat.reduceLT, Nat.reduceEqDiff, reduceIte, Int.reduceToNat, Int.reduceBEq, sdb]) hb3 rfl (by intro y hy; simp only [List.mem_cons, List.not_mem_nil, or_false] at hy; rcases hy with rfl | rfl <;> rfl) rfl fun w4 hb4 hc4 => ?_
  refine wl_nil ?_; refine hK _ _ ?_; clear hK K
  have hc24 : Chg (fun _ => False) w2 w4 := hc3.trans hc4 fun n hn h => by omega
  have hcw4 : Chg (fun _ => False) w w4 := (hc1.trans hc2 fun _ _ h => h).trans hc24 fun _ _ h => h
  have hsv4 := hsv.stay (Stay.none hc24)
  refine wp_seq_k fun K hK => ?_
  refine wp_sched (fun w' => Chg (fun _ => False) w4 w') [(true, 0), (true, 1), (true, 4), (true, 5), (true, 6), (true, 8), (true, 9), (false, 2), (false, 3), (false, 7), (false, 10), (false, 11), (false, 12), (true, 13)] follows_any (by kernel_rfl) (by kernel_rfl) (Chg.drew _ _) ?_
  refine ws_move rfl ?_
  refine ws_move rfl ?_
  simp only [evb, kb, hN, Nat.reduceLT, Nat.reduceEqDiff, reduceIte, Int.reduceToNat, Int.reduceBEq, g0]
  refine ws_loadAgg (b := w2.heap.size) (o := 0) (n := 2) (by kernel_rfl) (by kernel_rfl) rfl (by simp [evb, kb, hN, Nat.reduceLT, Nat.reduceEqDiff, reduceIte, Int.reduceToNat, Int.reduceBEq, sdb]) (fun w' c => hb4.chg c (fun h => h)) (by simp) ?_
  refine ws_move rfl ?_
  refine ws_move rfl ?_
  simp only [evb, kb, hN, Nat.reduceLT, Nat.reduceEqDiff, reduceIte, Int.reduceToNat, Int.reduceBEq, g0]
  refine ws_fieldAddr (b := w2.heap.size) (o := 0) (off := 0) (n := 1) (by kernel_rfl) rfl (by simp [evb, kb, hN, Nat.reduceLT, Nat.reduceEqDiff, reduceIte, Int.reduceToNat, Int.reduceBEq, sdb]) ?_
  refine ws_load (b := w2.heap.size) (o := 0 + 0) (by kernel_rfl) rfl (by simp [evb, kb, hN, Nat.reduceLT, Nat.reduceEqDiff, reduceIte, Int.reduceToNat, Int.reduceBEq, sdb]) (fun w' c => hb4.chg c (fun h => h)) rfl ?_
  refine ws_call (fun args w => Try.call21 args w) rfl (by simp only [List.map_toArray, List.map_cons, List.map_nil, evb, kb, hN, Nat.reduceLT, Nat.reduceEqDiff, reduceIte, Int.reduceToNat, Int.reduceBEq]; exact hvc _) ?_
  rintro _ _ ⟨rfl, rfl⟩
  refine ⟨Chg.drew _ _, ?_⟩
  have hcd : Chg (fun _ => False) w4 w4.drew := Chg.drew _ _
  refine ws_call (fun args w => Try.call35 args w) rfl (by simp only [List.map_toArray, List.map_cons, List.map_nil, evb, kb, hN, Nat.reduceLT, Nat.reduceEqDiff, reduceIte, Int.reduceToNat, Int.reduceBEq]; exact impl_DescribeQuorumRequest ver hv0 hv1 hlen _) ?_
  rintro v5 w5 ho5
  have hk5 := hcd.trans ho5.2 fun _ _ h => h
  refine ⟨hk5, ?_⟩
  refine ws_call (fun args w => Try.call21 args w) rfl (by simp only [List.map_toArray, List.map_cons, List.map_nil, evb, kb, hN, Nat.reduceLT, Nat.reduceEqDiff, reduceIte, Int.reduceToNat, Int.reduceBEq]; exact hvc _) ?_
  rintro _ _ ⟨rfl, rfl⟩
  refine ⟨hk5, ?_⟩
  refine ws_call (fun args w => Try.call23 args w) rfl (by simp only [List.map_toArray, List.map_cons, List.map_nil, evb, kb, hN, Nat.reduceLT, Nat.reduceEqDiff, reduceIte, Int.reduceToNat, Int.reduceBEq]; exact Default_c sch_DescribeQuorumRequest (by kernel_rfl) (by decide) (hsv4.stay (Stay.none hk5))) ?_
  rintro _ w6 ⟨ts, rfl, hts, hc6⟩
  have hk6 := hk5.trans hc6 fun _ _ h => h
  refine ⟨hk6, ?_⟩
  refine ws_call (fun args w => Try.call22 args w) rfl (by simp only [List.map_toArray, List.map_cons, List.map_nil, evb, kb, hN, Nat.reduceLT, Nat.reduceEqDiff, reduceIte, Int.reduceToNat, Int.reduceBEq]; exact Write_c sch_DescribeQuorumRequest 0 ver (sDef sch_DescribeQuorumRequest) (by kernel_rfl) (by decide) (trok_def (by kernel_rfl) (by decide)) (by rw [← heq]; unfold SLIM; omega) (hsv4.stay (Stay.none hk6)) hts) ?_
  rintro v7 w7 ho7
  have hk7 := hk6.trans ho7.2 fun _ _ h => h
  refine ⟨hk7, ?_⟩
  rw [← heq] at ho7
  have ho57 := ho5.keep (hc6.trans ho7.2 fun _ _ h => h)
  obtain ⟨oa5, cap5, rfl, _, hb5⟩ := ho57.1.bytes
  obtain ⟨oa7, cap7, rfl, _, hb7⟩ := ho7.1.bytes
  refine ws_call (fun args w => Try.call19 args w) rfl (by simp only [List.map_toArray, List.map_cons, List.map_nil, evb, kb, hN, Nat.reduceLT, Nat.reduceEqDiff, reduceIte, Int.reduceToNat, Int.reduceBEq]; exact Same_c _ _ hb5 hb7 (by unfold LIM; omega)) ?_
  rintro _ w8 ⟨rfl, hc8⟩
  have hk8 := hk7.trans hc8 fun _ _ h => h
  refine ⟨hk8, ?_⟩
  refine ws_assign rfl ?_
  simp only [evb, kb, hN, Nat.reduceLT, Nat.reduceEqDiff, reduceIte, Int.reduceToNat, Int.reduceBEq]
  refine ws_nil ?_
  refine hK _ _ ?_
  refine wp_ret ⟨by simp [defers_put, hD], ?_⟩; simp only [evb, kb, hN, Nat.reduceLT, Nat.reduceEqDiff, reduceIte, Int.reduceToNat, Int.reduceBEq]
  exact ⟨by simp, hcw4.trans hk8 fun _ _ h => h⟩
end Go.Proofs.Ytkhmglikdlgfpaa

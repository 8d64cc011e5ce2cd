import Derived.Test.YtgjnllebnkjofaaDoorZ7
/-
What the laws' proofs rest on, part 8.
-/
namespace Go.Proofs.YtgjnllebnkjofaaDoor
set_option linter.all false
open Go.RowKit
set_option maxRecDepth 100000
set_option maxHeartbeats 2000000
theorem lay_sOffsetDeleteResponseTopicPartition : LaysS 49 sch_sOffsetDeleteResponseTopicPartition := by
  intro w0
  refine callsR_of Tryd.func49 rfl rfl Tryd.ntmps49 (by simp) ?_
  intro a hN hD ha
  refine wp_seq_k fun K hK => ?_; refine wp_reg ?_; refine wl_assign ?_; simp only [evb, kb, hN, Nat.reduceLT, Nat.reduceEqDiff, reduceIte, Int.reduceToNat, Int.reduceBEq]; refine wl_nil ?_; refine hK _ _ ?_; clear hK K
  refine wp_seq_k fun K hK => ?_; refine wp_reg ?_
  have hq : Chg (fun _ => False) w0 w0 := Chg.refl _ _
  refine wl_build (l := fldCells (.mk .i32 0 (-1) (-1) (-1) 0 .bool []) (.slice none 0 0)) (by simp only [List.map_toArray, List.map_cons, List.map_nil, evb, kb, hN, Nat.reduceLT, Nat.reduceEqDiff, reduceIte, Int.reduceToNat, Int.reduceBEq]; kernel_rfl) ?_
  refine wl_build (l := fldCells (.mk .i16 0 (-1) (-1) (-1) 0 .bool []) (.slice none 0 0)) (by simp only [List.map_toArray, List.map_cons, List.map_nil, evb, kb, hN, Nat.reduceLT, Nat.reduceEqDiff, reduceIte, Int.reduceToNat, Int.reduceBEq]; kernel_rfl) ?_
  refine wl_fields sch_sOffsetDeleteResponseTopicPartition [fldCells (.mk .i32 0 (-1) (-1) (-1) 0 .bool []) (.slice none 0 0), fldCells (.mk .i16 0 (-1) (-1) (-1) 0 .bool []) (.slice none 0 0)] rfl (by simp only [List.map_toArray, List.map_cons, List.map_nil, evb, kb, hN, Nat.reduceLT, Nat.reduceEqDiff, reduceIte, Int.reduceToNat, Int.reduceBEq]; rfl) (by simp only [List.length_cons, List.length_nil]; omega) hq (.cons (fldCells_is (.mk .i32 0 (-1) (-1) (-1) 0 .bool []) (schS_nil _ _ _ _)) (.cons (fldCells_is (.mk .i16 0 (-1) (-1) (-1) 0 .bool []) (schS_nil _ _ _ _)) (.nil))) ?_
  rintro v wF hcF hkF hsF rfl
  refine wl_assign ?_
  simp only [evb, kb, hN, Nat.reduceLT, Nat.reduceEqDiff, reduceIte, Int.reduceToNat, Int.reduceBEq]
  refine wl_nil ?_; refine hK _ _ ?_; clear hK K
  refine wp_ret ⟨by simp [defers_put, hD], ?_⟩; simp only [evb, kb, hN, Nat.reduceLT, Nat.reduceEqDiff, reduceIte, Int.reduceToNat, Int.reduceBEq]
  exact ⟨hsF, hcF⟩
theorem lay_sOffsetDeleteResponseTopic : LaysS 29 sch_sOffsetDeleteResponseTopic := by
  intro w0
  refine callsR_of Tryd.func29 rfl rfl Tryd.ntmps29 (by simp) ?_
  intro a hN hD ha
  refine wp_seq_k fun K hK => ?_; refine wp_reg ?_; refine wl_assign ?_; simp only [evb, kb, hN, Nat.reduceLT, Nat.reduceEqDiff, reduceIte, Int.reduceToNat, Int.reduceBEq]; refine wl_nil ?_; refine hK _ _ ?_; clear hK K
  refine wp_seq_k fun K hK => ?_; refine wp_reg ?_
  have hq : Chg (fun _ => False) w0 w0 := Chg.refl _ _
  refine wl_build (l := fldCells (.mk .text 0 (-1) (-1) (-1) 0 .bool []) (.slice none 0 0)) (by simp only [List.map_toArray, List.map_cons, List.map_nil, evb, kb, hN, Nat.reduceLT, Nat.reduceEqDiff, reduceIte, Int.reduceToNat, Int.reduceBEq]; kernel_rfl) ?_
  refine wl_call (fun args w => Tryd.call49 args w) (by simp only [List.map_toArray, List.map_nil]; exact lay_sOffsetDeleteResponseTopicPartition _) ?_
  rintro v1 w1 ⟨hs1, hk1⟩
  replace hs1 := hs1.later (Chg.refl _ _) hq.size
  replace hq := hq.trans hk1 fun _ _ h => h
  obtain ⟨oa1, cap1, rfl, _⟩ := id hs1
  refine wl_build (l := fldCells (.mk .list 0 (-1) (-1) (-1) 0 .struct sch_sOffsetDeleteResponseTopicPartition) (.slice oa1 (sch_sOffsetDeleteResponseTopicPartition).length cap1)) (by simp only [List.map_toArray, List.map_cons, List.map_nil, evb, kb, hN, Nat.reduceLT, Nat.reduceEqDiff, reduceIte, Int.reduceToNat, Int.reduceBEq]; kernel_rfl) ?_
  refine wl_fields sch_sOffsetDeleteResponseTopic [fldCells (.mk .text 0 (-1) (-1) (-1) 0 .bool []) (.slice none 0 0), fldCells (.mk .list 0 (-1) (-1) (-1) 0 .struct sch_sOffsetDeleteResponseTopicPartition) (.slice oa1 (sch_sOffsetDeleteResponseTopicPartition).length cap1)] rfl (by simp only [List.map_toArray, List.map_cons, List.map_nil, evb, kb, hN, Nat.reduceLT, Nat.reduceEqDiff, reduceIte, Int.reduceToNat, Int.reduceBEq]; rfl) (by simp only [List.length_cons, List.length_nil]; omega) hq (.cons (fldCells_is (.mk .text 0 (-1) (-1) (-1) 0 .bool []) (schS_nil _ _ _ _)) (.cons (fldCells_is (.mk .list 0 (-1) (-1) (-1) 0 .struct sch_sOffsetDeleteResponseTopicPartition) hs1) (.nil))) ?_
  rintro v wF hcF hkF hsF rfl
  refine wl_assign ?_
  simp only [evb, kb, hN, Nat.reduceLT, Nat.reduceEqDiff, reduceIte, Int.reduceToNat, Int.reduceBEq]
  refine wl_nil ?_; refine hK _ _ ?_; clear hK K
  refine wp_ret ⟨by simp [defers_put, hD], ?_⟩; simp only [evb, kb, hN, Nat.reduceLT, Nat.reduceEqDiff, reduceIte, Int.reduceToNat, Int.reduceBEq]
  exact ⟨hsF, hcF⟩
theorem lay_OffsetDeleteResponse : LaysM 15 sch_OffsetDeleteResponse (-1) := by
  intro w
  refine callsR_ofC Tryd.func15 rfl rfl (by kernel_rfl) Tryd.ntmps15 (by simp) ?_
  intro a hN hD ha
  refine wp_seq_k fun K hK => ?_; refine wp_reg ?_
  refine wl_allocA (z := aggOf [.slice none 0 0, .int .i64 0]) (fun w => Tryd.zeroValue31 w) fun w0 hc0 hb0 hs0 => ?_
  refine wl_nil ?_; refine hK _ _ ?_; clear hK K
  refine wp_seq_k fun K hK => ?_; refine wp_reg ?_
  have hq : Chg (fun _ => False) w0 w0 := Chg.refl _ _
  refine wl_build (l := fldCells (.mk .i16 0 (-1) (-1) (-1) 0 .bool []) (.slice none 0 0)) (by simp only [List.map_toArray, List.map_cons, List.map_nil, evb, kb, hN, Nat.reduceLT, Nat.reduceEqDiff, reduceIte, Int.reduceToNat, Int.reduceBEq]; kernel_rfl) ?_
  refine wl_build (l := fldCells (.mk .i32 0 (-1) (-1) (-1) 0 .bool []) (.slice none 0 0)) (by simp only [List.map_toArray, List.map_cons, List.map_nil, evb, kb, hN, Nat.reduceLT, Nat.reduceEqDiff, reduceIte, Int.reduceToNat, Int.reduceBEq]; kernel_rfl) ?_
  refine wl_call (fun args w => Tryd.call29 args w) (by simp only [List.map_toArray, List.map_nil]; exact lay_sOffsetDeleteResponseTopic _) ?_
  rintro v1 w1 ⟨hs1, hk1⟩
  replace hs1 := hs1.later (Chg.refl _ _) hq.size
  replace hq := hq.trans hk1 fun _ _ h => h
  obtain ⟨oa1, cap1, rfl, _⟩ := id hs1
  refine wl_build (l := fldCells (.mk .list 0 (-1) (-1) (-1) 0 .struct sch_sOffsetDeleteResponseTopic) (.slice oa1 (sch_sOffsetDeleteResponseTopic).length cap1)) (by simp only [List.map_toArray, List.map_cons, List.map_nil, evb, kb, hN, Nat.reduceLT, Nat.reduceEqDiff, reduceIte, Int.reduceToNat, Int.reduceBEq]; kernel_rfl) ?_
  refine wl_fields sch_OffsetDeleteResponse [fldCells (.mk .i16 0 (-1) (-1) (-1) 0 .bool []) (.slice none 0 0), fldCells (.mk .i32 0 (-1) (-1) (-1) 0 .bool []) (.slice none 0 0), fldCells (.mk .list 0 (-1) (-1) (-1) 0 .struct sch_sOffsetDeleteResponseTopic) (.slice oa1 (sch_sOffsetDeleteResponseTopic).length cap1)] rfl (by simp only [List.map_toArray, List.map_cons, List.map_nil, evb, kb, hN, Nat.reduceLT, Nat.reduceEqDiff, reduceIte, Int.reduceToNat, Int.reduceBEq]; rfl) (by simp only [List.length_cons, List.length_nil]; omega) hq (.cons (fldCells_is (.mk .i16 0 (-1) (-1) (-1) 0 .bool []) (schS_nil _ _ _ _)) (.cons (fldCells_is (.mk .i32 0 (-1) (-1) (-1) 0 .bool []) (schS_nil _ _ _ _)) (.cons (fldCells_is (.mk .list 0 (-1) (-1) (-1) 0 .struct sch_sOffsetDeleteResponseTopic) hs1) (.nil)))) ?_
  rintro v wF hcF hkF hsF rfl
  refine wl_build (l := [.slice (some ⟨w1.heap.size, 0, none⟩) (sch_OffsetDeleteResponse).length (sch_OffsetDeleteResponse).length, .int .i64 (-1)]) (by simp only [List.map_toArray, List.map_cons, List.map_nil, evb, kb, hN, Nat.reduceLT, Nat.reduceEqDiff, reduceIte, Int.reduceToNat, Int.reduceBEq]; kernel_rfl) ?_
  have hbF := hb0.chg hcF (fun h => h)
  refine wl_storeAll (b := w.heap.size) (n := 2) (l' := [.slice (some ⟨w1.heap.size, 0, none⟩) (sch_OffsetDeleteResponse).length (sch_OffsetDeleteResponse).length, .int .i64 (-1)]) (by kernel_rfl) (by simp [evb, kb, hN, sdb]) (by simp [evb, kb, hN, sdb]) hbF rfl (by intro y hy; simp only [List.mem_cons, List.not_mem_nil, or_false] at hy; rcases hy with rfl | rfl <;> rfl) rfl fun wE hbE hcE => ?_
  refine wl_nil ?_; refine hK _ _ ?_; clear hK K
  refine wp_ret ⟨by simp [defers_put, hD], w.heap.size, _, _, by simp only [evb, kb, hN, Nat.reduceLT, Nat.reduceEqDiff, reduceIte, Int.reduceToNat, Int.reduceBEq], hbE, by kernel_rfl, ⟨_, rfl, SchS.stay ⟨fun k hk hg => ⟨hcE.block k hk (by omega), by omega⟩⟩ hsF, ?_⟩⟩
  exact (hc0.trans hcF fun _ _ h => h).trans hcE fun k hk h => by omega
theorem new_OffsetDeleteResponse : NewsPtr 26 dd_OffsetDeleteResponse :=
  newptr_of dd_OffsetDeleteResponse dd_OffsetDeleteResponse Tryd.func26 rfl rfl Tryd.ntmps26 (by kernel_rfl) (fun w => Tryd.zeroValue74 w) (fun args w => Tryd.call40 args w) defm_OffsetDeleteResponse
theorem max_OffsetDeleteResponse : MaxIs 13 0 := by
  intro w
  refine callsR_of Tryd.func13 rfl rfl Tryd.ntmps13 (by simp) ?_
  intro a hN hD ha
  refine wp_seq_k fun K hK => ?_; refine wp_reg ?_; refine wl_assign ?_; refine wl_nil ?_; refine hK _ _ ?_; clear hK K
  refine wp_seq_k fun K hK => ?_; refine wp_reg ?_
  refine wl_call (fun args w => Tryd.call26 args w) (by simp only [List.map_toArray, List.map_nil]; exact new_OffsetDeleteResponse w) ?_
  rintro v w1 ⟨rfl, hc, _⟩
  refine wl_call (fun args w => Tryd.call27 args w) (by simp only [List.map_toArray, List.map_cons, List.map_nil]; simp only [evb, kb, hN, Nat.reduceLT, Nat.reduceEqDiff, reduceIte, Int.reduceToNat, Int.reduceBEq]; exact maxver_of Tryd.func27 rfl rfl Tryd.ntmps27 (by kernel_rfl) _ w1) ?_
  rintro _ w2 ⟨rfl, rfl⟩
  (repeat (first | ((first | (with_reducible first | refine wl_move ?_ | refine wl_assign ?_ | refine wl_add ?_ ?_ | refine wl_sub ?_ ?_ | refine wl_lss ?_ ?_ | refine wl_leq ?_ ?_ | refine wl_gtr ?_ ?_ | refine wl_geq ?_ ?_ | refine wl_eql ?_ ?_ | refine wl_neq ?_ ?_ | refine wl_not ?_ ?_ | refine wl_shr ?_ ?_ ?_ | refine wl_and127 ?_ ?_ | refine wl_or128 ?_ ?_ ?_) | ((with_reducible refine wl_conv ?_ ?_ ?_ ?_); (· kernel_rfl); (· kernel_rfl)) | ((with_reducible refine wl_len ?_ ?_ ?_); rotate_left 1; (· simp [evb, kb, hN, sdb]); rotate_left 1; (· kernel_rfl)) | ((with_reducible refine wl_lenS ?_ ?_ ?_); rotate_left 1; (· simp [evb, kb, hN, sdb]); rotate_left 1; (· kernel_rfl))) <;> (first | (with_reducible refine wl_id ?_; try simp only [evb, kb, hN, Nat.reduceLT, Nat.reduceEqDiff, reduceIte, Int.reduceToNat, Int.reduceBEq]) | (simp [evb, kb, hN, sdb] <;> omega)))))
  refine wl_nil ?_; refine hK _ _ ?_; clear hK K; refine wp_ret ⟨by simp [defers_put, hD], ?_⟩; simp only [evb, kb, hN, Nat.reduceLT, Nat.reduceEqDiff, reduceIte, Int.reduceToNat, Int.reduceBEq]
  exact ⟨by first | rfl | trivial, hc⟩
theorem setv_OffsetDeleteResponse : SetsVersion 30 := setver_of Tryd.func30 rfl rfl Tryd.ntmps30 (by kernel_rfl)
theorem from_OffsetDeleteResponse : ReadsFrom 31 50 := fun h => readfrom_c Tryd.func31 rfl rfl Tryd.ntmps31 (fun args w => Tryd.call50 args w) h
theorem ag_OffsetDeleteResponse : AgC 17 (fun _ => false) 0 sch_OffsetDeleteResponse := fun ver h0 h1 w G oa bs cap hsrc hlim herr hout =>
  again_of Tryd.func17 rfl rfl Tryd.ntmps17 (fun args w => Tryd.call26 args w) (fun args w => Tryd.call30 args w) (fun args w => Tryd.call31 args w) (fun args w => Tryd.call32 args w) new_OffsetDeleteResponse setv_OffsetDeleteResponse from_OffsetDeleteResponse read_OffsetDeleteResponse app_OffsetDeleteResponse h0 (by omega) hsrc hlim herr hout
theorem ok_OffsetDeleteResponse : SchOK (fun _ => false) 0 sch_OffsetDeleteResponse := schB_out (by kernel_rfl)
theorem walk_FnAgainOffsetDeleteResponse {a : Int} (hn : 0 ≤ a) (hn2 : a < 256) {w : World} {G : Nat → Prop} {v : Tr} {ts : List Value} (hv : TrC w G v ts) (hkv : keyV v) (hb : trBulk v ≤ 1048576) (herr : ErrW w) :
    CallsR Tryd.prog 5 #[.int .u8 a, aggOf ts] w fun v w' => v = .bool true ∧ Chg (fun _ => False) w w' :=
  lawAgain_of Tryd.func5 rfl rfl (by kernel_rfl) rfl Tryd.ntmps5 (fun args w => Tryd.call13 args w) (fun args w => Tryd.call15 args w) (fun args w => Tryd.call17 args w) max_OffsetDeleteResponse lay_OffsetDeleteResponse ag_OffsetDeleteResponse (by decide) (fun ver _ => by simp) ok_OffsetDeleteResponse hn hn2 hv hkv hb herr
end Go.Proofs.YtgjnllebnkjofaaDoor

/-
A new EndQuorumEpochResponse is written, at every version, as the reference writes its default: for every input the law returns true. No condition.
-/
import Derived.Test.YtiohfpnpnofimaaZH
import Derived.Test.YtiohfpnpnofimaaZF
import Derived.WalkKit
import Derived.ProofKit
import Derived.OpenShut
import Derived.ShutString
import Derived.ChangeOld
import Derived.Below
import Derived.SizedLaws
namespace Go.Proofs.Ytiohfpnpnofimaa
set_option linter.all false
open Go.RowKit
set_option maxRecDepth 100000
set_option maxHeartbeats 2000000
def sch_sEndQuorumEpochResponseTopicPartition : List Fld := [.mk .i32 0 (-1) (-1) (-1) 0 .bool [], .mk .i16 0 (-1) (-1) (-1) 0 .bool [], .mk .i32 0 (-1) (-1) (-1) 0 .bool [], .mk .i32 0 (-1) (-1) (-1) 0 .bool []]
def sch_sEndQuorumEpochResponseTopic : List Fld := [.mk .text 0 (-1) (-1) (-1) 0 .bool [], .mk .list 0 (-1) (-1) (-1) 0 .struct sch_sEndQuorumEpochResponseTopicPartition]
def sch_sEndQuorumEpochResponseNodeEndpoint : List Fld := [.mk .i32 1 (-1) (-1) (-1) 0 .bool [], .mk .text 1 (-1) (-1) (-1) 0 .bool [], .mk .u16 1 (-1) (-1) (-1) 0 .bool []]
def sch_EndQuorumEpochResponse : List Fld := [.mk .i16 0 (-1) (-1) (-1) 0 .bool [], .mk .list 0 (-1) (-1) (-1) 0 .struct sch_sEndQuorumEpochResponseTopic, .mk .list 0 (-1) (-1) 0 0 .struct sch_sEndQuorumEpochResponseNodeEndpoint]
theorem lay_sEndQuorumEpochResponseTopicPartition : LaysS 19 sch_sEndQuorumEpochResponseTopicPartition := by
  intro w0
  refine zaA Try.func19 rfl rfl Try.ntmps19 (by simp) ?_
  intro a hN hD ha
  refine wp_seq_k fun K hK => ?_; refine zai ?_; refine zat ?_; simp only [evb, kb, hN, seval]; refine zag ?_; refine hK _ _ ?_; clear hK K
  refine wp_seq_k fun K hK => ?_; refine zai ?_
  have hq : Chg (fun _ => False) w0 w0 := Chg.refl _ _
  refine wl_build (l := zaL (.mk .i32 0 (-1) (-1) (-1) 0 .bool []) (.slice none 0 0)) (by simp only [List.map_toArray, List.map_cons, List.map_nil, evb, kb, hN, seval]; kernel_rfl) ?_
  refine wl_build (l := zaL (.mk .i16 0 (-1) (-1) (-1) 0 .bool []) (.slice none 0 0)) (by simp only [List.map_toArray, List.map_cons, List.map_nil, evb, kb, hN, seval]; kernel_rfl) ?_
  refine wl_build (l := zaL (.mk .i32 0 (-1) (-1) (-1) 0 .bool []) (.slice none 0 0)) (by simp only [List.map_toArray, List.map_cons, List.map_nil, evb, kb, hN, seval]; kernel_rfl) ?_
  refine wl_build (l := zaL (.mk .i32 0 (-1) (-1) (-1) 0 .bool []) (.slice none 0 0)) (by simp only [List.map_toArray, List.map_cons, List.map_nil, evb, kb, hN, seval]; kernel_rfl) ?_
  refine wl_fields sch_sEndQuorumEpochResponseTopicPartition [zaL (.mk .i32 0 (-1) (-1) (-1) 0 .bool []) (.slice none 0 0), zaL (.mk .i16 0 (-1) (-1) (-1) 0 .bool []) (.slice none 0 0), zaL (.mk .i32 0 (-1) (-1) (-1) 0 .bool []) (.slice none 0 0), zaL (.mk .i32 0 (-1) (-1) (-1) 0 .bool []) (.slice none 0 0)] rfl (by simp only [List.map_toArray, List.map_cons, List.map_nil, evb, kb, hN, seval]; rfl) (by simp only [List.length_cons, List.length_nil]; omega) hq (.cons (zaS (.mk .i32 0 (-1) (-1) (-1) 0 .bool []) (schS_nil _ _ _ _)) (.cons (zaS (.mk .i16 0 (-1) (-1) (-1) 0 .bool []) (schS_nil _ _ _ _)) (.cons (zaS (.mk .i32 0 (-1) (-1) (-1) 0 .bool []) (schS_nil _ _ _ _)) (.cons (zaS (.mk .i32 0 (-1) (-1) (-1) 0 .bool []) (schS_nil _ _ _ _)) (.nil))))) ?_
  rintro v wF hcF hkF hsF rfl
  refine zat ?_
  simp only [evb, kb, hN, seval]
  refine zag ?_; refine hK _ _ ?_; clear hK K
  refine wp_ret ⟨by simp [zaf, hD], ?_⟩; simp only [evb, kb, hN, seval]
  exact ⟨hsF, hcF⟩
theorem lay_sEndQuorumEpochResponseTopic : LaysS 13 sch_sEndQuorumEpochResponseTopic := by
  intro w0
  refine zaA Try.func13 rfl rfl Try.ntmps13 (by simp) ?_
  intro a hN hD ha
  refine wp_seq_k fun K hK => ?_; refine zai ?_; refine zat ?_; simp only [evb, kb, hN, seval]; refine zag ?_; refine hK _ _ ?_; clear hK K
  refine wp_seq_k fun K hK => ?_; refine zai ?_
  have hq : Chg (fun _ => False) w0 w0 := Chg.refl _ _
  refine wl_build (l := zaL (.mk .text 0 (-1) (-1) (-1) 0 .bool []) (.slice none 0 0)) (by simp only [List.map_toArray, List.map_cons, List.map_nil, evb, kb, hN, seval]; kernel_rfl) ?_
  refine zaD (fun args w => Try.call19 args w) (by simp only [List.map_toArray, List.map_nil]; exact lay_sEndQuorumEpochResponseTopicPartition _) ?_
  rintro v1 w1 ⟨hs1, hk1⟩
  replace hs1 := hs1.later (Chg.refl _ _) hq.size
  replace hq := hq.trans hk1 fun _ _ h => h
  obtain ⟨oa1, cap1, rfl, _⟩ := id hs1
  refine wl_build (l := zaL (.mk .list 0 (-1) (-1) (-1) 0 .struct sch_sEndQuorumEpochResponseTopicPartition) (.slice oa1 (sch_sEndQuorumEpochResponseTopicPartition).length cap1)) (by simp only [List.map_toArray, List.map_cons, List.map_nil, evb, kb, hN, seval]; kernel_rfl) ?_
  refine wl_fields sch_sEndQuorumEpochResponseTopic [zaL (.mk .text 0 (-1) (-1) (-1) 0 .bool []) (.slice none 0 0), zaL (.mk .list 0 (-1) (-1) (-1) 0 .struct sch_sEndQuorumEpochResponseTopicPartition) (.slice oa1 (sch_sEndQuorumEpochResponseTopicPartition).length cap1)] rfl (by simp only [List.map_toArray, List.map_cons, List.map_nil, evb, kb, hN, seval]; rfl) (by simp only [List.length_cons, List.length_nil]; omega) hq (.cons (zaS (.mk .text 0 (-1) (-1) (-1) 0 .bool []) (schS_nil _ _ _ _)) (.cons (zaS (.mk .list 0 (-1) (-1) (-1) 0 .struct sch_sEndQuorumEpochResponseTopicPartition) hs1) (.nil))) ?_
  rintro v wF hcF hkF hsF rfl
  refine zat ?_
  simp only [evb, kb, hN, seval]
  refine zag ?_; refine hK _ _ ?_; clear hK K
  refine wp_ret ⟨by simp [zaf, hD], ?_⟩; simp only [evb, kb, hN, seval]
  exact ⟨hsF, hcF⟩
theorem lay_sEndQuorumEpochResponseNodeEndpoint : LaysS 14 sch_sEndQuorumEpochResponseNodeEndpoint := by
  intro w0
  refine zaA Try.func14 rfl rfl Try.ntmps14 (by simp) ?_
  intro a hN hD ha
  refine wp_seq_k fun K hK => ?_; refine zai ?_; refine zat ?_; simp only [evb, kb, hN, seval]; refine zag ?_; refine hK _ _ ?_; clear hK K
  refine wp_seq_k fun K hK => ?_; refine zai ?_
  have hq : Chg (fun _ => False) w0 w0 := Chg.refl _ _
  refine wl_build (l := zaL (.mk .i32 1 (-1) (-1) (-1) 0 .bool []) (.slice none 0 0)) (by simp only [List.map_toArray, List.map_cons, List.map_nil, evb, kb, hN, seval]; kernel_rfl) ?_
  refine wl_build (l := zaL (.mk .text 1 (-1) (-1) (-1) 0 .bool []) (.slice none 0 0)) (by simp only [List.map_toArray, List.map_cons, List.map_nil, evb, kb, hN, seval]; kernel_rfl) ?_
  refine wl_build (l := zaL (.mk .u16 1 (-1) (-1) (-1) 0 .bool []) (.slice none 0 0)) (by simp only [List.map_toArray, List.map_cons, List.map_nil, evb, kb, hN, seval]; kernel_rfl) ?_
  refine wl_fields sch_sEndQuorumEpochResponseNodeEndpoint [zaL (.mk .i32 1 (-1) (-1) (-1) 0 .bool []) (.slice none 0 0), zaL (.mk .text 1 (-1) (-1) (-1) 0 .bool []) (.slice none 0 0), zaL (.mk .u16 1 (-1) (-1) (-1) 0 .bool []) (.slice none 0 0)] rfl (by simp only [List.map_toArray, List.map_cons, List.map_nil, evb, kb, hN, seval]; rfl) (by simp only [List.length_cons, List.length_nil]; omega) hq (.cons (zaS (.mk .i32 1 (-1) (-1) (-1) 0 .bool []) (schS_nil _ _ _ _)) (.cons (zaS (.mk .text 1 (-1) (-1) (-1) 0 .bool []) (schS_nil _ _ _ _)) (.cons (zaS (.mk .u16 1 (-1) (-1) (-1) 0 .bool []) (schS_nil _ _ _ _)) (.nil)))) ?_
  rintro v wF hcF hkF hsF rfl
  refine zat ?_
  simp only [evb, kb, hN, seval]
  refine zag ?_; refine hK _ _ ?_; clear hK K
  refine wp_ret ⟨by simp [zaf, hD], ?_⟩; simp only [evb, kb, hN, seval]
  exact ⟨hsF, hcF⟩
theorem lay_EndQuorumEpochResponse : LaysM 5 sch_EndQuorumEpochResponse 1 := by
  intro w
  refine callsR_ofC Try.func5 rfl rfl (by kernel_rfl) Try.ntmps5 (by simp) ?_
  intro a hN hD ha
  refine wp_seq_k fun K hK => ?_; refine zai ?_
  refine wl_allocA (z := zaO [.slice none 0 0, .int .i64 0]) (fun w => Try.zeroValue25 w) fun w0 hc0 hb0 hs0 => ?_
  refine zag ?_; refine hK _ _ ?_; clear hK K
  refine wp_seq_k fun K hK => ?_; refine zai ?_
  have hq : Chg (fun _ => False) w0 w0 := Chg.refl _ _
  refine wl_build (l := zaL (.mk .i16 0 (-1) (-1) (-1) 0 .bool []) (.slice none 0 0)) (by simp only [List.map_toArray, List.map_cons, List.map_nil, evb, kb, hN, seval]; kernel_rfl) ?_
  refine zaD (fun args w => Try.call13 args w) (by simp only [List.map_toArray, List.map_nil]; exact lay_sEndQuorumEpochResponseTopic _) ?_
  rintro v1 w1 ⟨hs1, hk1⟩
  replace hs1 := hs1.later (Chg.refl _ _) hq.size
  replace hq := hq.trans hk1 fun _ _ h => h
  obtain ⟨oa1, cap1, rfl, _⟩ := id hs1
  refine wl_build (l := zaL (.mk .list 0 (-1) (-1) (-1) 0 .struct sch_sEndQuorumEpochResponseTopic) (.slice oa1 (sch_sEndQuorumEpochResponseTopic).length cap1)) (by simp only [List.map_toArray, List.map_cons, List.map_nil, evb, kb, hN, seval]; kernel_rfl) ?_
  refine zaD (fun args w => Try.call14 args w) (by simp only [List.map_toArray, List.map_nil]; exact lay_sEndQuorumEpochResponseNodeEndpoint _) ?_
  rintro v2 w2 ⟨hs2, hk2⟩
  replace hs2 := hs2.later (Chg.refl _ _) hq.size
  replace hs1 := hs1.later hk2 (Nat.le_refl _)
  replace hq := hq.trans hk2 fun _ _ h => h
  obtain ⟨oa2, cap2, rfl, _⟩ := id hs2
  refine wl_build (l := zaL (.mk .list 0 (-1) (-1) 0 0 .struct sch_sEndQuorumEpochResponseNodeEndpoint) (.slice oa2 (sch_sEndQuorumEpochResponseNodeEndpoint).length cap2)) (by simp only [List.map_toArray, List.map_cons, List.map_nil, evb, kb, hN, seval]; kernel_rfl) ?_
  refine wl_fields sch_EndQuorumEpochResponse [zaL (.mk .i16 0 (-1) (-1) (-1) 0 .bool []) (.slice none 0 0), zaL (.mk .list 0 (-1) (-1) (-1) 0 .struct sch_sEndQuorumEpochResponseTopic) (.slice oa1 (sch_sEndQuorumEpochResponseTopic).length cap1), zaL (.mk .list 0 (-1) (-1) 0 0 .struct sch_sEndQuorumEpochResponseNodeEndpoint) (.slice oa2 (sch_sEndQuorumEpochResponseNodeEndpoint).length cap2)] rfl (by simp only [List.map_toArray, List.map_cons, List.map_nil, evb, kb, hN, seval]; rfl) (by simp only [List.length_cons, List.length_nil]; omega) hq (.cons (zaS (.mk .i16 0 (-1) (-1) (-1) 0 .bool []) (schS_nil _ _ _ _)) (.cons (zaS (.mk .list 0 (-1) (-1) (-1) 0 .struct sch_sEndQuorumEpochResponseTopic) hs1) (.cons (zaS (.mk .list 0 (-1) (-1) 0 0 .struct sch_sEndQuorumEpochResponseNodeEndpoint) hs2) (.nil)))) ?_
  rintro v wF hcF hkF hsF rfl
  refine wl_build (l := [.slice (some ⟨w2.heap.size, 0, none⟩) (sch_EndQuorumEpochResponse).length (sch_EndQuorumEpochResponse).length, .int .i64 1]) (by simp only [List.map_toArray, List.map_cons, List.map_nil, evb, kb, hN, seval]; kernel_rfl) ?_
  have hbF := hb0.chg hcF (fun h => h)
  refine zaT (b := w.heap.size) (n := 2) (l' := [.slice (some ⟨w2.heap.size, 0, none⟩) (sch_EndQuorumEpochResponse).length (sch_EndQuorumEpochResponse).length, .int .i64 1]) (by kernel_rfl) (by simp [evb, kb, hN, sdb]) (by simp [evb, kb, hN, sdb]) hbF rfl (by intro y hy; simp only [List.mem_cons, List.not_mem_nil, or_false] at hy; rcases hy with rfl | rfl <;> rfl) rfl fun wE hbE hcE => ?_
  refine zag ?_; refine hK _ _ ?_; clear hK K
  refine wp_ret ⟨by simp [zaf, hD], w.heap.size, _, _, by simp only [evb, kb, hN, seval], hbE, by kernel_rfl, ⟨_, rfl, SchS.stay ⟨fun k hk hg => ⟨hcE.block k hk (by omega), by omega⟩⟩ hsF, ?_⟩⟩
  exact (hc0.trans hcF fun _ _ h => h).trans hcE fun k hk h => by omega
def Pq (s : S) : Prop := ∃ d0 d1, s.ds = [d0, d1, .arr true []]
theorem pq_none {s : S} (h : Pq s) (fl : Bool) (ver : Int) : encKnown fl ver sch_EndQuorumEpochResponse s.ds = (0, []) := by
  obtain ⟨d0, d1, h⟩ := h
  rw [h]
  simp [encKnown, sch_EndQuorumEpochResponse, Fld.tag, unusualD]
theorem app_EndQuorumEpochResponse : ∀ (s : S), Pq s → ∀ (ver : Int) (B : Nat) (w : World) (base : Nat) (v : Value) (bs : Bs), 0 ≤ ver → (∃ cs T, Blk w B cs T ∧ cs[0]? = some (.int .i16 ver)) → At w (fun g => g < base) true sch_EndQuorumEpochResponse s B 1 → B < base → base ≤ w.heap.size →
    Own eB w base v bs → bs.length + (encPart (decide (1 ≤ ver)) ver sch_EndQuorumEpochResponse s).length ≤ LIM →
    zaG Try.prog 16 #[.pointer (some ⟨B, 0, none⟩), v] w (App eB w base v (bs ++ encPart (decide (1 ≤ ver)) ver sch_EndQuorumEpochResponse s)) := by
  refine app_flexP Try.func16 rfl rfl Try.ntmps16 (by kernel_rfl) ?_
  intro ver s hPq hver
  (repeat' (first | with_reducible refine wt_start ?_ | with_reducible refine wp_noflex rfl ?_ | with_reducible refine wr_start ?_ | with_reducible refine wt_tagged rfl rfl ?_ | (with_reducible refine wt_next rfl (by kernel_rfl) (fun d hd => ?_) ?_) | (with_reducible refine wt_fin rfl rfl ?_) | (with_reducible refine wt_end rfl (by kernel_rfl) ?_ ?_) | (with_reducible refine wt_ret (by kernel_rfl)) | with_reducible refine wr_tagged rfl rfl ?_ | (with_reducible refine wr_last rfl rfl (fun d hd => ?_)) | (with_reducible refine wr_next rfl (by kernel_rfl) (fun d hd => ?_) ?_) | (with_reducible refine wr_end rfl ?_) | (with_reducible refine wr_tail rfl (by kernel_rfl) k_uint32 (by kernel_rfl)) | (with_reducible refine wf_all rfl (by dsimp only; omega) ?_) | ((with_reducible refine wf_from rfl (by kernel_rfl) (fun hv => ?_)); try dsimp only at hv) | ((with_reducible refine wf_range rfl (by kernel_rfl) (fun hv hv2 => ?_)); try dsimp only at hv hv2) | (with_reducible refine wf_load rfl hd (by kernel_rfl) (by kernel_rfl) rfl ?_) | (with_reducible refine wf_inner rfl hd (by kernel_rfl) (by kernel_rfl) rfl (fun s => ?_)) | (with_reducible refine wv_i16 (by kernel_rfl)) | (with_reducible refine wv_i32 (by kernel_rfl)) | (with_reducible refine wv_u16 (by kernel_rfl)) | (with_reducible refine wv_flexS rfl (by kernel_rfl) (fun hx => ?_) (fun hx => ?_)) | (with_reducible refine wv_string rfl (by first | assumption | rfl) (by kernel_rfl)) | (with_reducible refine wv_cstring rfl (by first | assumption | rfl) (by kernel_rfl)) | (with_reducible refine wv_listS (fun oa n cap M => ?_) (by kernel_rfl) (by kernel_rfl) (by kernel_rfl) (by kernel_rfl) (fun s => ?_)) | (with_reducible refine wv_listK (fun oa n cap M => ?_) (by kernel_rfl) (by kernel_rfl) (by kernel_rfl) (by kernel_rfl) (fun d => ?_)) | (with_reducible refine wn_flex rfl (by kernel_rfl) (fun hx => ?_) (fun hx => ?_)) | (with_reducible refine wn_plain (by dsimp only; omega) (by first | assumption | rfl) (by kernel_rfl) (by kernel_rfl)) | (with_reducible refine wn_cplain (by dsimp only; omega) (by first | assumption | rfl) (by kernel_rfl) (by kernel_rfl)) | (with_reducible refine wv_again (by kernel_rfl) rfl ?_)))
  intro a w base v bs hwk hv hown hb hpre hlim
  have e0 : tagsEnc ⟨274, 30, 5, 6, ver, decide (1 ≤ ver), true⟩ sch_EndQuorumEpochResponse s = if decide (1 ≤ ver) = true then encTagsPart 0 [] s.tags else [] := by
    unfold tagsEnc; rw [pq_none hPq]
  rw [e0] at hlim ⊢
  obtain ⟨hN, hD, _, hsf⟩ := hwk
  have h6 : get a 6 = .bool (decide (1 ≤ ver)) := hsf rfl
  have hws : ∀ t, (7 ≤ t ∨ t = 1) → ¬ WS 7 30 30 t := by intro t ht; unfold WS; omega
  obtain ⟨B, p, g1, hat, hB⟩ := hpre
  obtain ⟨mm, cs, Tb, k1, k2, k3, hok⟩ := hat.tags
  obtain ⟨d', cs2, Tb2, j1, j2, j3, j4⟩ := hat.field (i := 2) rfl
  obtain ⟨d0, d1, hds⟩ := hPq
  rw [hds] at j1
  cases (j1 : some (D.arr true []) = some d')
  unfold RepF at j4
  obtain ⟨oa, cap, e1, _, _, _⟩ := j4
  have h0s : (([] : List D).length : Int) = 0 := rfl
  have hz : cs2[p + 1 + 2]? = some (.slice oa 0 cap) := by
    have e1' : (cs2.drop (p + 1 + 2)).take 1 = [.slice oa 0 cap] := e1
    have := congrArg (·[0]?) e1'
    simpa [List.getElem?_take, List.getElem?_drop] using this
  have hc3 : cs[p + 1 + 3]? = some (.map mm) := k2
  have hml : s.tags.length % 4294967296 < 4294967296 := Nat.mod_lt _ (by omega)
  refine wp_seq_k fun K hK => ?_; refine zai ?_; (repeat ((with_reducible refine wl_p ?_ ?_ ?_); (· simp [evb, pvb, rnb, kb, hN, h6, dyb, sdb] <;> omega); (· kernel_rfl); try simp only [evb, pvb, rnb, kb, hN, seval, h6])); refine zag ?_; refine hK _ _ ?_; clear hK K
  by_cases hx : 1 ≤ ver
  case neg =>
    have d1 : decide (1 ≤ ver) = false := decide_eq_false hx
    rw [d1] at hlim ⊢
    refine wp_cond_false (by simp [evb, kb, hN, d1, sdb]) ?_
    refine wp_skip ⟨?_, ?_⟩
    · (repeat (with_reducible refine zaQ.put ?_ (hws _ (by decide)) _)); with_reducible exact zaQ.refl _ _
    · simp only [evb, kb, hN, seval, hv]
      simp only [Bool.false_eq_true, if_false, List.append_nil]
      exact App.refl hown
  have d1 : decide (1 ≤ ver) = true := decide_eq_true hx
  rw [d1, if_pos rfl] at hlim ⊢
  simp only [encTagsPart, Nat.zero_add, List.nil_append, List.length_append] at hlim ⊢
  refine wp_cond_true (by simp [evb, kb, hN, d1, sdb]) ?_
  refine wp_seq_k fun K hK => ?_; refine zai ?_; (repeat ((with_reducible refine wl_p ?_ ?_ ?_); (· simp [evb, pvb, rnb, kb, hN, dyb, sdb] <;> omega); (· kernel_rfl); try simp only [evb, pvb, rnb, kb, hN, seval])); refine zag ?_; refine hK _ _ ?_; clear hK K
  refine wp_seq_k fun K hK => ?_; refine wp_seq_k fun K1 hK1 => ?_; refine zai ?_; (iterate 1 ((with_reducible refine wl_p ?_ ?_ ?_); (· simp [evb, pvb, rnb, kb, hN, g1, dyb, sdb] <;> omega); (· kernel_rfl); try simp only [evb, pvb, rnb, kb, hN, seval, g1]))
  refine wl_nilCheck (p := ⟨B, p, none⟩) (by simp [evb, kb, hN, sdb]) ?_
  refine zaM (b := B) (o := p) (off := 3) (n := 1) (by kernel_rfl) (by simp [evb, kb, hN, sdb]) ?_
  refine zaE (b := B) (o := p + 3) (by kernel_rfl) (by simp [evb, kb, hN, sdb]) j2 (v := .slice oa 0 cap) hz ?_
  (repeat ((with_reducible refine wl_p ?_ ?_ ?_); (· simp [evb, pvb, rnb, kb, hN, dyb, sdb] <;> omega); (· kernel_rfl); try simp only [evb, pvb, rnb, kb, hN, seval]))
  refine zag ?_; refine hK1 _ _ ?_; try clear hK1 K1
  refine wp_cond_false (by simp [evb, kb, hN, sdb]) ?_
  refine wp_skip ?_
  refine hK _ _ ?_
  clear hK K
  refine wp_seq_k fun K hK => ?_; refine zai ?_; (iterate 4 ((with_reducible refine wl_p ?_ ?_ ?_); (· simp [evb, pvb, rnb, kb, hN, hv, g1, dyb, sdb] <;> omega); (· kernel_rfl); try simp only [evb, pvb, rnb, kb, hN, seval, hv, g1]))
  refine wl_nilCheck (p := ⟨B, p, none⟩) (by simp [evb, kb, hN, sdb]) ?_
  refine zaM (b := B) (o := p) (off := 4) (n := 1) (by kernel_rfl) (by simp [evb, kb, hN, sdb]) ?_
  refine zaD (fun args w => Try.call27 args w) (by simp only [List.map_toArray, List.map_cons, List.map_nil, evb, kb, hN, seval]; exact TagsLen_c k1 hc3 k3) ?_
  rintro x w1 ⟨rfl, rfl⟩
  have htg : s.tags = [] := hok
  have htl : s.tags.length = 0 := by rw [htg]; rfl
  rw [htl] at hlim ⊢
  have hi : IntKind.i64.wrap ((0 : Int) + ((0 : Nat) : Int)) = 0 := by decide +kernel
  have hu : IntKind.u32.wrap (0 : Int) = 0 := by decide +kernel
  (repeat ((with_reducible refine wl_p ?_ ?_ ?_); (· simp [evb, pvb, rnb, kb, hN, hi, hu, dyb, sdb] <;> omega); (· kernel_rfl); try simp only [evb, pvb, rnb, kb, hN, seval, hi, hu]))
  refine wl_callApp (fun args w => Try.call26 args w) (AppendUvarint_c 0 (by decide)) (by simp only [List.map_toArray, List.map_cons, List.map_nil, evb, kb, hN, seval]; rfl) hown (by simp at hlim ⊢; omega) hb trivial ?_
  intro v1 w2 happ
  have hc := happ.chgFrom hown
  (repeat ((with_reducible refine wl_p ?_ ?_ ?_); (· simp [evb, pvb, rnb, kb, hN, dyb, sdb] <;> omega); (· kernel_rfl); try simp only [evb, pvb, rnb, kb, hN, seval])); refine zag ?_; refine hK _ _ ?_; clear hK K
  refine wp_seq_k fun K1 hK1 => ?_; refine wp_seq_k fun K hK => ?_; refine zai ?_; (repeat ((with_reducible refine wl_p ?_ ?_ ?_); (· simp [evb, pvb, rnb, kb, hN, dyb, sdb] <;> omega); (· kernel_rfl); try simp only [evb, pvb, rnb, kb, hN, seval])); refine zag ?_; refine hK _ _ ?_; clear hK K
  refine wp_block ?_
  refine wp_loop1 ?_
  refine wp_seq_k fun K hK => ?_; refine zai ?_; (repeat ((with_reducible refine wl_p ?_ ?_ ?_); (· simp [evb, pvb, rnb, kb, hN, dyb, sdb] <;> omega); (· kernel_rfl); try simp only [evb, pvb, rnb, kb, hN, seval])); refine zag ?_; refine hK _ _ ?_; clear hK K
  refine wp_seq_k fun K hK => ?_
  refine wp_cond_false (by simp [evb, kb, hN, sdb]) ?_
  refine wp_exit ?_
  simp only [Exit.then, Exit.inBlock, if_pos]
  refine hK1 _ _ ?_
  refine zai ?_; (iterate 1 ((with_reducible refine wl_p ?_ ?_ ?_); (· simp [evb, pvb, rnb, kb, hN, g1, dyb, sdb] <;> omega); (· kernel_rfl); try simp only [evb, pvb, rnb, kb, hN, seval, g1]))
  refine wl_nilCheck (p := ⟨B, p, none⟩) (by simp [evb, kb, hN, sdb]) ?_
  refine zaM (b := B) (o := p) (off := 4) (n := 1) (by kernel_rfl) (by simp [evb, kb, hN, sdb]) ?_
  (repeat ((with_reducible refine wl_p ?_ ?_ ?_); (· simp [evb, pvb, rnb, kb, hN, dyb, sdb] <;> omega); (· kernel_rfl); try simp only [evb, pvb, rnb, kb, hN, seval]))
  refine zaD (fun args w => Try.call28 args w) (R := App eB w2 base v1 (bs ++ uvar 0 ++ encTagsEach s.tags)) (by
    simp only [List.map_toArray, List.map_cons, List.map_nil, evb, kb, hN, seval]
    exact TagsEach_c hok (k1.chg hc (by omega)) hc3 (k3.stay (Stay.of hc fun n hn _ => by omega)) hB happ.own (by rw [List.length_append]; simp only [Nat.zero_mod] at hlim; omega) (Nat.le_trans hb hc.size)) ?_
  intro v2 w3 happ2
  (repeat ((with_reducible refine wl_p ?_ ?_ ?_); (· simp [evb, pvb, rnb, kb, hN, dyb, sdb] <;> omega); (· kernel_rfl); try simp only [evb, pvb, rnb, kb, hN, seval]))
  refine zag ⟨?_, ?_⟩
  · (repeat (with_reducible refine zaQ.put ?_ (hws _ (by decide)) _)); with_reducible exact zaQ.refl _ _
  · simp only [evb, kb, hN, seval]
    rw [htl, Nat.zero_mod]
    rw [← List.append_assoc]
    exact happ.trans happ2
def zc_EndQuorumEpochResponse : List Value := [.int .i16 0, .int .i16 0, .slice none 0 0, .slice none 0 0, .map none]
theorem def_EndQuorumEpochResponse (w : World) (B : Nat) (hb : Blk w B zc_EndQuorumEpochResponse 54) : zaG Try.prog 18 #[.pointer (some ⟨B, 0, none⟩)] w fun _ w' => Blk w' B zc_EndQuorumEpochResponse 54 ∧ Chg (fun k => k = B) w w' := by
  refine callsR_of0 Try.func18 rfl rfl Try.ntmps18 (by simp) ?_
  intro a hN hD ha
  exact wp_skip ⟨hD, hb, Chg.refl _ _⟩
theorem new_EndQuorumEpochResponse : NewsPtr 11 true sch_EndQuorumEpochResponse := by
  exact newptr_of (z := .agg zc_EndQuorumEpochResponse.toArray) zc_EndQuorumEpochResponse Try.func11 rfl rfl Try.ntmps11 (by kernel_rfl) (fun w => Try.zeroValue54 w) (fun args w => Try.call18 args w) (fun w B hb => def_EndQuorumEpochResponse w B hb) ⟨_, rfl⟩ (by kernel_rfl)
theorem max_EndQuorumEpochResponse (w : World) : zaG Try.prog 4 #[] w fun v w' => v = .int .i64 1 ∧ Chg (fun _ => False) w w' := by
  refine zaA Try.func4 rfl rfl Try.ntmps4 (by simp) ?_
  intro a hN hD ha
  refine wp_seq_k fun K hK => ?_; refine zai ?_; refine zat ?_; refine zag ?_; refine hK _ _ ?_; clear hK K
  refine wp_seq_k fun K hK => ?_; refine zai ?_
  refine zaD (fun args w => Try.call11 args w) (by simp only [List.map_toArray, List.map_nil]; exact new_EndQuorumEpochResponse w) ?_
  rintro v w1 ⟨rfl, hc, _⟩
  refine zaD (fun args w => Try.call12 args w) (by simp only [List.map_toArray, List.map_cons, List.map_nil]; simp only [evb, kb, hN, seval]; exact maxver_of Try.func12 rfl rfl Try.ntmps12 (by kernel_rfl) _ w1) ?_
  rintro _ w2 ⟨rfl, rfl⟩
  (repeat (first | ((with_reducible refine zaw ?_ ?_ ?_ ?_); (· exact rfl); (· simp [evb, kb, hN, dyb, sdb] <;> omega); (· kernel_rfl); try simp only [evb, kb, hN, seval, pvb]) | ((with_reducible refine zad ?_ ?_ ?_); rotate_left 1; (· simp [evb, kb, hN, sdb]); rotate_left 1; (· kernel_rfl); try simp only [evb, kb, hN, seval, pvb])))
  refine zag ?_; refine hK _ _ ?_; clear hK K; refine wp_ret ⟨by simp [zaf, hD], ?_⟩; simp only [evb, kb, hN, seval]
  exact ⟨by first | rfl | trivial, hc⟩
theorem impl_EndQuorumEpochResponse (ver : Int) (h0 : 0 ≤ ver) (h1 : ver ≤ 1) (hlim : (encPart (decide (1 ≤ ver)) ver sch_EndQuorumEpochResponse ⟨dfltL sch_EndQuorumEpochResponse, []⟩).length ≤ 1048576) (w : World) :
    zaG Try.prog 7 #[.int .i64 ver] w fun v w' => Octs w v (encPart (decide (1 ≤ ver)) ver sch_EndQuorumEpochResponse ⟨dfltL sch_EndQuorumEpochResponse, []⟩) w' := by
  refine zaA Try.func7 rfl rfl Try.ntmps7 (by simp) ?_
  intro a hN hD ha
  have g0 : get a 0 = .int .i64 ver := ha 0 _ rfl
  refine wp_seq_k fun K hK => ?_; refine zai ?_; refine zat ?_; refine zag ?_; refine hK _ _ ?_; clear hK K
  refine wp_seq_k fun K hK => ?_; refine zai ?_
  refine zaD (fun args w => Try.call11 args w) (by simp only [List.map_toArray, List.map_nil]; exact new_EndQuorumEpochResponse w) ?_
  rintro v w1 ⟨rfl, hc, cs, T, hb, hcs0, hlen, hrep⟩
  (repeat (first | ((with_reducible refine zaw ?_ ?_ ?_ ?_); (· exact rfl); (· simp [evb, kb, hN, dyb, sdb] <;> omega); (· kernel_rfl); try simp only [evb, kb, hN, seval, pvb]) | ((with_reducible refine zad ?_ ?_ ?_); rotate_left 1; (· simp [evb, kb, hN, sdb]); rotate_left 1; (· kernel_rfl); try simp only [evb, kb, hN, seval, pvb])))
  refine zag ?_; refine hK _ _ ?_; clear hK K
  refine wp_seq_k fun K hK => ?_; refine zai ?_
  (repeat (first | ((with_reducible refine zaw ?_ ?_ ?_ ?_); (· exact rfl); (· simp [evb, kb, hN, g0, dyb, sdb] <;> omega); (· kernel_rfl); try simp only [evb, kb, hN, seval, pvb, g0]) | ((with_reducible refine zad ?_ ?_ ?_); rotate_left 1; (· simp [evb, kb, hN, g0, sdb]); rotate_left 1; (· kernel_rfl); try simp only [evb, kb, hN, seval, pvb, g0])))
  rw [i16_id ver (by omega)]
  refine zaD (fun args w => Try.call15 args w) (by simp only [List.map_toArray, List.map_cons, List.map_nil]; simp only [evb, kb, hN, seval]; exact setver_of Try.func15 rfl rfl Try.ntmps15 (by kernel_rfl) w1 w.heap.size cs T ver hb (by omega)) ?_
  rintro _ w2 ⟨hb2, hc2⟩
  have hcw : Chg (fun _ => False) w w2 := hc.trans hc2 fun n hn h => by omega
  have hs2 := hb2.lt
  refine zag ?_; refine hK _ _ ?_; clear hK K
  refine wp_seq_k fun K hK => ?_; refine zai ?_
  (repeat (first | ((with_reducible refine zaw ?_ ?_ ?_ ?_); (· exact rfl); (· simp [evb, kb, hN, dyb, sdb] <;> omega); (· kernel_rfl); try simp only [evb, kb, hN, seval, pvb]) | ((with_reducible refine zad ?_ ?_ ?_); rotate_left 1; (· simp [evb, kb, hN, sdb]); rotate_left 1; (· kernel_rfl); try simp only [evb, kb, hN, seval, pvb])))
  have hsp : (splice cs 0 [.int .i16 ver]) = .int .i16 ver :: cs.drop 1 := by simp [splice]
  rw [hsp] at hb2
  refine zaD (fun args w => Try.call16 args w) (by
    simp only [List.map_toArray, List.map_cons, List.map_nil]; simp only [evb, kb, hN, seval]
    exact app_EndQuorumEpochResponse ⟨dfltL sch_EndQuorumEpochResponse, []⟩ ⟨_, _, rfl⟩ ver w.heap.size w2 w2.heap.size (.slice none 0 0) [] h0 ⟨_, _, hb2, rfl⟩ ⟨_, _, hb2, by rw [List.length_cons, List.length_drop]; omega, by
      rw [List.drop_succ_cons, List.drop_zero]; exact repSB_out hrep⟩ hs2 (Nat.le_refl _) (Own.nil _ _ _) (by unfold LIM; simp only [List.length_nil]; omega)) ?_
  intro v3 w3 happ
  (repeat (first | ((with_reducible refine zaw ?_ ?_ ?_ ?_); (· exact rfl); (· simp [evb, kb, hN, dyb, sdb] <;> omega); (· kernel_rfl); try simp only [evb, kb, hN, seval, pvb]) | ((with_reducible refine zad ?_ ?_ ?_); rotate_left 1; (· simp [evb, kb, hN, sdb]); rotate_left 1; (· kernel_rfl); try simp only [evb, kb, hN, seval, pvb])))
  refine zag ?_; refine hK _ _ ?_; clear hK K; refine wp_ret ⟨by simp [zaf, hD], ?_⟩; simp only [evb, kb, hN, seval]
  have ho := Octs.of_app happ
  exact ⟨ho.1.mono hcw.size, hcw.trans ho.2 fun _ _ h => h⟩
theorem plain_EndQuorumEpochResponse : newEq sch_EndQuorumEpochResponse 1 1 = true := by kernel_rfl
theorem walk_EndQuorumEpochResponse (n : Int) (hn : 0 ≤ n) (hn2 : n < 256) (w : World) : zaG Try.prog 3 #[.int .u8 n] w fun v w' => v = .bool true ∧ Chg (fun _ => False) w w' := by
  refine zaA Try.func3 rfl rfl Try.ntmps3 (by simp) ?_
  intro a hN hD ha
  have g0 : get a 0 = .int .u8 n := ha 0 _ rfl
  obtain ⟨ver, hver⟩ : ∃ ver, ver = n % (1 + 1) := ⟨_, rfl⟩
  have hv0 : 0 ≤ ver := by omega
  have hv1 : ver ≤ ((1 : Nat) : Int) := by omega
  have hvc : ∀ w, zaG Try.prog 8 #[.int .u8 n, .int .i64 1] w fun v w' => v = .int .i64 ver ∧ w' = w := fun w => by
    rw [hver]; exact version_c n 1 hn (by omega) (by omega) hn2 w
  clear hver
  obtain ⟨heq, hlen⟩ := newEq_out plain_EndQuorumEpochResponse hv0 hv1
  refine wp_seq_k fun K hK => ?_; refine zai ?_; refine zat ?_; refine zag ?_; refine hK _ _ ?_; clear hK K
  refine wp_seq_k fun K hK => ?_; refine zai ?_
  refine zaD (fun args w => Try.call4 args w) (by simp only [List.map_toArray, List.map_nil]; exact max_EndQuorumEpochResponse w) ?_
  rintro _ w1 ⟨rfl, hc1⟩
  (repeat (first | ((with_reducible refine zaw ?_ ?_ ?_ ?_); (· exact rfl); (· simp [evb, kb, hN, dyb, sdb] <;> omega); (· kernel_rfl); try simp only [evb, kb, hN, seval, pvb]) | ((with_reducible refine zad ?_ ?_ ?_); rotate_left 1; (· simp [evb, kb, hN, sdb]); rotate_left 1; (· kernel_rfl); try simp only [evb, kb, hN, seval, pvb])))
  refine zag ?_; refine hK _ _ ?_; clear hK K
  refine wp_seq_k fun K0 hK0 => ?_; refine wp_seq_k fun K1 hK1 => ?_; refine zai ?_
  (repeat (first | ((with_reducible refine zaw ?_ ?_ ?_ ?_); (· exact rfl); (· simp [evb, kb, hN, dyb, sdb] <;> omega); (· kernel_rfl); try simp only [evb, kb, hN, seval, pvb]) | ((with_reducible refine zad ?_ ?_ ?_); rotate_left 1; (· simp [evb, kb, hN, sdb]); rotate_left 1; (· kernel_rfl); try simp only [evb, kb, hN, seval, pvb])))
  refine zag ?_
  refine hK1 _ _ ?_; try clear hK1 K1
  refine wp_cond_false (by simp [evb, kb, hN, sdb]) ?_
  refine wp_skip ?_
  refine hK0 _ _ ?_; try clear hK0 K0
  refine wp_seq_k fun K hK => ?_; refine zai ?_
  refine zaD (fun args w => Try.call5 args w) (by simp only [List.map_toArray, List.map_nil]; exact lay_EndQuorumEpochResponse w1) ?_
  rintro _ w2 ⟨sv, rfl, hsv, hc2⟩
  refine wl_allocA (z := zaO [.slice none 0 0, .int .i64 0]) (fun w => Try.zeroValue25 w) fun w3 hc3 hb3 hs3 => ?_
  obtain ⟨oa, cap, rfl, _⟩ := id hsv
  refine zaT (b := w2.heap.size) (n := 2) (l' := [.slice oa (sch_EndQuorumEpochResponse).length cap, .int .i64 1]) (by kernel_rfl) (by simp [evb, kb, hN, sdb]) (by simp [evb, kb, hN, sdb]) hb3 rfl (by intro y hy; simp only [List.mem_cons, List.not_mem_nil, or_false] at hy; rcases hy with rfl | rfl <;> rfl) rfl fun w4 hb4 hc4 => ?_
  refine zag ?_; refine hK _ _ ?_; clear hK K
  have hc24 : Chg (fun _ => False) w2 w4 := hc3.trans hc4 fun n hn h => by omega
  have hcw4 : Chg (fun _ => False) w w4 := (hc1.trans hc2 fun _ _ h => h).trans hc24 fun _ _ h => h
  have hsv4 := hsv.stay (Stay.none hc24)
  refine wp_seq_k fun K hK => ?_
  refine wp_sched (fun w' => Chg (fun _ => False) w4 w') [(true, 0), (true, 1), (true, 4), (true, 5), (true, 6), (true, 8), (true, 9), (false, 2), (false, 3), (false, 7), (false, 10), (false, 11), (false, 12), (true, 13)] follows_any (by kernel_rfl) (by kernel_rfl) (Chg.drew _ _) ?_
  refine zaN rfl ?_
  refine zaN rfl ?_
  simp only [evb, kb, hN, seval, g0]
  refine ws_loadAgg (b := w2.heap.size) (o := 0) (n := 2) (by kernel_rfl) (by kernel_rfl) rfl (by simp [evb, kb, hN, sdb]) (fun w' c => hb4.chg c (fun h => h)) (by simp) ?_
  refine zaN rfl ?_
  refine zaN rfl ?_
  simp only [evb, kb, hN, seval, g0]
  refine zaP (b := w2.heap.size) (o := 0) (off := 0) (n := 1) (by kernel_rfl) rfl (by simp [evb, kb, hN, sdb]) ?_
  refine ws_load (b := w2.heap.size) (o := 0 + 0) (by kernel_rfl) rfl (by simp [evb, kb, hN, sdb]) (fun w' c => hb4.chg c (fun h => h)) rfl ?_
  refine ws_call (fun args w => Try.call8 args w) rfl (by simp only [List.map_toArray, List.map_cons, List.map_nil, evb, kb, hN, seval]; exact hvc _) ?_
  rintro _ _ ⟨rfl, rfl⟩
  refine ⟨Chg.drew _ _, ?_⟩
  have hcd : Chg (fun _ => False) w4 w4.drew := Chg.drew _ _
  refine ws_call (fun args w => Try.call7 args w) rfl (by simp only [List.map_toArray, List.map_cons, List.map_nil, evb, kb, hN, seval]; exact impl_EndQuorumEpochResponse ver hv0 hv1 hlen _) ?_
  rintro v5 w5 ho5
  have hk5 := hcd.trans ho5.2 fun _ _ h => h
  refine ⟨hk5, ?_⟩
  refine ws_call (fun args w => Try.call8 args w) rfl (by simp only [List.map_toArray, List.map_cons, List.map_nil, evb, kb, hN, seval]; exact hvc _) ?_
  rintro _ _ ⟨rfl, rfl⟩
  refine ⟨hk5, ?_⟩
  refine ws_call (fun args w => Try.call10 args w) rfl (by simp only [List.map_toArray, List.map_cons, List.map_nil, evb, kb, hN, seval]; exact Default_c sch_EndQuorumEpochResponse (by kernel_rfl) (by decide) (hsv4.stay (Stay.none hk5))) ?_
  rintro _ w6 ⟨ts, rfl, hts, hc6⟩
  have hk6 := hk5.trans hc6 fun _ _ h => h
  refine ⟨hk6, ?_⟩
  refine ws_call (fun args w => Try.call9 args w) rfl (by simp only [List.map_toArray, List.map_cons, List.map_nil, evb, kb, hN, seval]; exact Write_c sch_EndQuorumEpochResponse 1 ver (sDef sch_EndQuorumEpochResponse) (by kernel_rfl) (by decide) (trok_def (by kernel_rfl) (by decide)) (by rw [← heq]; unfold SLIM; omega) (hsv4.stay (Stay.none hk6)) hts) ?_
  rintro v7 w7 ho7
  have hk7 := hk6.trans ho7.2 fun _ _ h => h
  refine ⟨hk7, ?_⟩
  rw [← heq] at ho7
  have ho57 := ho5.keep (hc6.trans ho7.2 fun _ _ h => h)
  obtain ⟨oa5, cap5, rfl, _, hb5⟩ := ho57.1.bytes
  obtain ⟨oa7, cap7, rfl, _, hb7⟩ := ho7.1.bytes
  refine ws_call (fun args w => Try.call6 args w) rfl (by simp only [List.map_toArray, List.map_cons, List.map_nil, evb, kb, hN, seval]; exact Same_c _ _ hb5 hb7 (by unfold LIM; omega)) ?_
  rintro _ w8 ⟨rfl, hc8⟩
  have hk8 := hk7.trans hc8 fun _ _ h => h
  refine ⟨hk8, ?_⟩
  refine ws_assign rfl ?_
  simp only [evb, kb, hN, seval]
  refine ws_nil ?_
  refine hK _ _ ?_
  refine wp_ret ⟨by simp [zaf, hD], ?_⟩; simp only [evb, kb, hN, seval]
  exact ⟨by simp, hcw4.trans hk8 fun _ _ h => h⟩
end Go.Proofs.Ytiohfpnpnofimaa
namespace Go.Proofs.Ytiohfpnpnofimaa
set_option linter.all false
namespace fnNewEndQuorumEpochResponse
open Go.ChangeShapes Go.WideShapes Go.ChangeAt Go.RowKit
theorem own : ownKnob Try.prog.godebug = none := by kernel_rfl
set_option maxRecDepth 100000 in
theorem lifted (os : Os) (started : os.Started) (H : Type) (enc : TypeId × Value → H) :
    ReturnsInHanded {} Try.checked os 3 .any (Rows.fnNewEndQuorumEpochResponseSpec.pre6 enc Try.prog Try.f3 Rows.fnNewEndQuorumEpochResponseRow.domain false) (Rows.fnNewEndQuorumEpochResponseSpec.post enc Try.prog Try.f3 false true false false) := by
  refine returnsInHanded_of_change_sized (C := Try.checked) own started (by kernel_rfl) Try.func3
    (ChangeSpec.witness6 (enc := enc) (C := Try.checked) false ⟨#[], #[.int .u8 0], []⟩ 8 (by kernel_rfl) (by kernel_rfl) (by kernel_rfl) (by kernel_rfl)) ?_
  intro W base args ds gs before hval0 hW hcnd hsz0 _
  have hval : ∀ (j : Nat) t v, Try.f3.params[j]? = some t → args[j]? = some v → Value.okWide Try.prog W .any base t v := hval0
  have hW' := hW
  obtain ⟨p, q, hA0, hV, rfl, hfz, hnd⟩ := hW
  have hA : DataW.TrodAll enc Try.prog W 0 (fun _ => true) true Try.f3.params.toList args.toList ds p := hA0
  rw [Try.params3] at hA hval
  obtain ⟨v0, vs0, d0, ds0, p0, q0, hargs, rfl, rfl, h0, r0⟩ := trodAll_cons hA
  obtain ⟨rfl, rfl, rfl⟩ := trodAll_nil r0
  obtain rfl : args = #[v0] := by cases args; simp_all
  obtain ⟨rfl, rfl⟩ := trodVars_none hV
  obtain ⟨a0, rfl, rfl, rfl, w0⟩ := open_int Try.underlying5 (hval 0 5 v0 rfl rfl) h0
  clear hA0 hval0 hsz0
  simp only [List.append_nil] at hW'
  have hr : 0 ≤ a0 ∧ a0 < 256 := by have h := w0; simp only [Lit.wf, IntKind.min, IntKind.max, IntKind.signed, IntKind.bits, Bool.and_eq_true, decide_eq_true_eq] at h; simp at h; omega
  refine Calls.mono (walk_EndQuorumEpochResponse a0 hr.1 hr.2 W) fun e W' ⟨v, he, hv, hc⟩ => ?_
  subst he
  subst hv
  exact ⟨_, rfl, _, _, _, [], _, [], hW', trodAll_cons_mk (shut_bool Try.underlying4 _) trodAll_mk0, trodAll_cons_mk (shut_int Try.underlying5 w0) trodAll_mk0, rfl, (below_of hc).frame _, fun h => by cases h⟩
theorem c2 : (Rows.fnNewEndQuorumEpochResponseRow.inPlace == Try.prog.inPlace 3) = true := by kernel_rfl
theorem c3 : (Rows.fnNewEndQuorumEpochResponseRow.unfollowed == Try.prog.unfollowed 3) = true := by kernel_rfl
theorem c4 : (Rows.fnNewEndQuorumEpochResponseRow.recurses == Try.prog.recurses 3) = true := by kernel_rfl
theorem c5 : (Rows.fnNewEndQuorumEpochResponseRow.named == Try.prog.varsNamed 3) = true := by kernel_rfl
theorem c7 : (Rows.fnNewEndQuorumEpochResponseRow.lifted == Try.prog.liftsFinal) = true := by
  have h : Rows.fnNewEndQuorumEpochResponseRow.lifted = Facts.lifted := rfl
  rw [h]; exact Facts.c7
theorem c8 : (Try.prog.make == some Rows.fnNewEndQuorumEpochResponseRow.make) = true := by
  have h : Rows.fnNewEndQuorumEpochResponseRow.make = Facts.make := rfl
  rw [h]; exact Facts.c8
theorem c9 : (Rows.fnNewEndQuorumEpochResponseRow.plainKeys == Try.prog.plainKeys) = true := by
  have h : Rows.fnNewEndQuorumEpochResponseRow.plainKeys = Facts.plainKeys := rfl
  rw [h]; exact Facts.c9
theorem c11 : Try.prog.funcNamed Rows.fnNewEndQuorumEpochResponseRow.func = some 3 := by kernel_rfl
theorem closed : joinedFacts Try.prog 3 Try.f3 Rows.fnNewEndQuorumEpochResponseSpec Rows.fnNewEndQuorumEpochResponseRow = true := by
  unfold joinedFacts
  simp only [Bool.and_eq_true]
  repeat' (refine And.intro ?_ ?_)
  all_goals first | with_reducible exact Facts.c1 | with_reducible exact Facts.c0 | with_reducible exact c2 | with_reducible exact c3 | with_reducible exact c4 | with_reducible exact c5 | with_reducible exact Facts.c6 | with_reducible exact c7 | with_reducible exact c8 | with_reducible exact c9 | with_reducible exact Facts.c10 | kernel_rfl
theorem over : Rows.fnNewEndQuorumEpochResponseRow.holds Try.pinned (OpenSpec.ofChange Rows.fnNewEndQuorumEpochResponseSpec) :=
  OpenClaim.holds_of_wide 3 Try.f3 rfl rfl rfl rfl rfl rfl rfl ⟨rfl, rfl, rfl, rfl, rfl⟩ rfl rfl rfl rfl rfl c11 Try.func3 closed
    (of_decide_eq_true (by kernel_rfl)) (by unfold Func.isWrapper; first | (rw [if_pos (by decide +kernel)]; kernel_rfl) | (rw [if_neg (by decide +kernel)]; exact ⟨rfl, rfl⟩))
    (fun os started H enc _ => lifted os started H enc)
end fnNewEndQuorumEpochResponse
theorem fnNewEndQuorumEpochResponse_holds : Rows.FnNewEndQuorumEpochResponseSaid := fnNewEndQuorumEpochResponse.over
#print axioms fnNewEndQuorumEpochResponse_holds
end Go.Proofs.Ytiohfpnpnofimaa

/-
What a VoteResponse says, written by the rules of the protocol, is read, and written back byte by byte: for every input of bulk at most 1048576 the law returns true. Conditions: the listed variable holds what the text lays (tied by the card).
-/
import Derived.Test.YtnjjfpgpookjlaaGreatDoorZE
import Derived.Test.YtnjjfpgpookjlaaGreatDoorZM
import Derived.Test.YtnjjfpgpookjlaaGreatDoorZW
import Derived.Test.YtnjjfpgpookjlaaGreatDoorZ1
import Derived.Test.YtnjjfpgpookjlaaGreatDoorZB
import Derived.Test.YtnjjfpgpookjlaaGreatDoorZ2
import Derived.Test.YtnjjfpgpookjlaaGreatDoorZF
import Derived.Test.YtnjjfpgpookjlaaGreatDoorZP
namespace Go.Proofs.YtnjjfpgpookjlaaGreatDoor
set_option linter.all false
set_option maxRecDepth 100000
open Go.RowKit
open Go.ChangeShapes Go.WideShapes Go.ChangeAt Go.RowKit
set_option maxHeartbeats 2000000
def sch_sVoteResponseTopicPartition : List Fld := [.mk .i32 0 (-1) (-1) (-1) 0 .bool [], .mk .i16 0 (-1) (-1) (-1) 0 .bool [], .mk .i32 0 (-1) (-1) (-1) 0 .bool [], .mk .i32 0 (-1) (-1) (-1) 0 .bool [], .mk .bool 0 (-1) (-1) (-1) 0 .bool []]
def sch_sVoteResponseTopic : List Fld := [.mk .text 0 (-1) (-1) (-1) 0 .bool [], .mk .list 0 (-1) (-1) (-1) 0 .struct sch_sVoteResponseTopicPartition]
def sch_sVoteResponseNodeEndpoint : List Fld := [.mk .i32 1 (-1) (-1) (-1) 0 .bool [], .mk .text 1 (-1) (-1) (-1) 0 .bool [], .mk .u16 1 (-1) (-1) (-1) 0 .bool []]
def sch_VoteResponse : List Fld := [.mk .i16 0 (-1) (-1) (-1) 0 .bool [], .mk .list 0 (-1) (-1) (-1) 0 .struct sch_sVoteResponseTopic, .mk .list 0 (-1) (-1) 0 0 .struct sch_sVoteResponseNodeEndpoint]
def zz_sVoteResponseTopicPartition : List Value := [.int .i32 0, .int .i16 0, .int .i32 0, .int .i32 0, .bool false, .map none]
def dd_sVoteResponseTopicPartition : List Value := [.int .i32 0, .int .i16 0, .int .i32 0, .int .i32 0, .bool false, .map none]
theorem elz_sVoteResponseTopicPartition : ∀ e, (Tryz.prog).underlying 80 = some (.slice e) → zeroB Tryz.prog e (zaZ zz_sVoteResponseTopicPartition) := by
 intro e he
 have h : (Tryz.prog).underlying 80 = some (.slice 86) := by kernel_rfl
 rw [h] at he; cases he
 exact fun w => Tryz.zeroValue86 w
theorem eln_sVoteResponseTopicPartition : zaY Tryz.prog 76 := (fun args w => Tryz.call76 args w)
theorem eld_sVoteResponseTopicPartition : DefC 76 (zaZ zz_sVoteResponseTopicPartition).cells.toList dd_sVoteResponseTopicPartition := by
 intro w b off cs T hb hlen hseg
 refine callsR_of0 Tryz.func76 rfl rfl Tryz.ntmps76 (by simp) ?_
 intro a hN hD ha
 refine wp_skip ⟨hD, ?_, Chg.refl _ _⟩
 have e : zaE cs off dd_sVoteResponseTopicPartition = cs := splice_same hseg hlen
 rw [e]; exact hb
def zz_sVoteResponseTopic : List Value := [.string ⟨#[]⟩, .slice none 0 0, .map none]
def dd_sVoteResponseTopic : List Value := [.string ⟨#[]⟩, .slice none 0 0, .map none]
theorem elz_sVoteResponseTopic : ∀ e, (Tryz.prog).underlying 61 = some (.slice e) → zeroB Tryz.prog e (zaZ zz_sVoteResponseTopic) := by
 intro e he
 have h : (Tryz.prog).underlying 61 = some (.slice 82) := by kernel_rfl
 rw [h] at he; cases he
 exact fun w => Tryz.zeroValue82 w
theorem eln_sVoteResponseTopic : zaY Tryz.prog 71 := (fun args w => Tryz.call71 args w)
theorem eld_sVoteResponseTopic : DefC 71 (zaZ zz_sVoteResponseTopic).cells.toList dd_sVoteResponseTopic := by
 intro w b off cs T hb hlen hseg
 refine callsR_of0 Tryz.func71 rfl rfl Tryz.ntmps71 (by simp) ?_
 intro a hN hD ha
 refine wp_skip ⟨hD, ?_, Chg.refl _ _⟩
 have e : zaE cs off dd_sVoteResponseTopic = cs := splice_same hseg hlen
 rw [e]; exact hb
def zz_sVoteResponseNodeEndpoint : List Value := [.int .i32 0, .string ⟨#[]⟩, .int .u16 0, .map none]
def dd_sVoteResponseNodeEndpoint : List Value := [.int .i32 0, .string ⟨#[]⟩, .int .u16 0, .map none]
theorem elz_sVoteResponseNodeEndpoint : ∀ e, (Tryz.prog).underlying 62 = some (.slice e) → zeroB Tryz.prog e (zaZ zz_sVoteResponseNodeEndpoint) := by
 intro e he
 have h : (Tryz.prog).underlying 62 = some (.slice 93) := by kernel_rfl
 rw [h] at he; cases he
 exact fun w => Tryz.zeroValue93 w
theorem eln_sVoteResponseNodeEndpoint : zaY Tryz.prog 83 := (fun args w => Tryz.call83 args w)
theorem eld_sVoteResponseNodeEndpoint : DefC 83 (zaZ zz_sVoteResponseNodeEndpoint).cells.toList dd_sVoteResponseNodeEndpoint := by
 intro w b off cs T hb hlen hseg
 refine callsR_of0 Tryz.func83 rfl rfl Tryz.ntmps83 (by simp) ?_
 intro a hN hD ha
 refine wp_skip ⟨hD, ?_, Chg.refl _ _⟩
 have e : zaE cs off dd_sVoteResponseNodeEndpoint = cs := splice_same hseg hlen
 rw [e]; exact hb
def dd_VoteResponse : List Value := [.int .i16 0, .slice none 0 0, .slice none 0 0, .map none]
theorem defm_VoteResponse : DefM 31 dd_VoteResponse := by
 intro w B v T hb
 refine callsR_of0 Tryz.func31 rfl rfl Tryz.ntmps31 (by simp) ?_
 intro a hN hD ha
 exact wp_skip ⟨hD, hb, Chg.refl _ _⟩
theorem read_VoteResponse : ReadsFc 41 true (fun ver => decide (0 ≤ ver)) sch_VoteResponse dd_VoteResponse [.bool false] := by
 refine read_flexKc Tryz.func41 rfl rfl Tryz.ntmps41 (fun args w => Tryz.call31 args w) defm_VoteResponse (by kernel_rfl) ?_
 intro ver hver
 (repeat' (first | (with_reducible refine rtxc_lastK rfl rfl rfl ?_) | (with_reducible refine rtxc_tagged rfl rfl ?_) | (with_reducible refine rtxc_next rfl (by kernel_rfl) ?_ ?_) | (with_reducible refine rtxc_tl (I := 1000) (by kernel_rfl) ?_ ?_) | (with_reducible refine rt_tagged rfl rfl ?_) | (with_reducible refine rt_next rfl (by kernel_rfl) ?_ ?_) | (with_reducible refine rt_end rfl ?_) | (with_reducible refine rt_noflex rfl ?_) | (with_reducible refine rt_fin co_en (by kernel_rfl) (by kernel_rfl)) | (with_reducible refine rt_tl (I := 1000) (by kernel_rfl) ?_ ?_) | (with_reducible refine rd_tags (by kernel_rfl) tagOK_all tg_en (by kernel_rfl) (by kernel_rfl)) | (with_reducible refine rd_tagged rfl rfl ?_) | (with_reducible refine rd_noflex rfl ?_) | (with_reducible refine rd_last rfl rfl (by kernel_rfl) ?_) | (with_reducible refine rd_next rfl (by kernel_rfl) (by kernel_rfl) ?_ ?_) | (with_reducible refine rd_end rfl ?_) | (with_reducible refine sf_all rfl (by dsimp only; omega) ?_) | ((with_reducible refine sf_from rfl (by kernel_rfl) (fun hv => ?_)); try dsimp only at hv) | ((with_reducible refine sf_range rfl (by kernel_rfl) (fun hv hv2 => ?_)); try dsimp only at hv hv2) | (with_reducible refine rf_list1 rfl (by kernel_rfl) elz_sVoteResponseTopicPartition (by kernel_rfl) ?_ ok_en co_en ?_ (by kernel_rfl)) | (with_reducible refine el_struct1 (by kernel_rfl) eln_sVoteResponseTopicPartition eld_sVoteResponseTopicPartition (by kernel_rfl) ?_ (by kernel_rfl) (by kernel_rfl) (by kernel_rfl)) | (with_reducible refine rf_list1 rfl (by kernel_rfl) elz_sVoteResponseTopic (by kernel_rfl) ?_ ok_en co_en ?_ (by kernel_rfl)) | (with_reducible refine el_struct1 (by kernel_rfl) eln_sVoteResponseTopic eld_sVoteResponseTopic (by kernel_rfl) ?_ (by kernel_rfl) (by kernel_rfl) (by kernel_rfl)) | (with_reducible refine rf_list1 rfl (by kernel_rfl) elz_sVoteResponseNodeEndpoint (by kernel_rfl) ?_ ok_en co_en ?_ (by kernel_rfl)) | (with_reducible refine el_struct1 (by kernel_rfl) eln_sVoteResponseNodeEndpoint eld_sVoteResponseNodeEndpoint (by kernel_rfl) ?_ (by kernel_rfl) (by kernel_rfl) (by kernel_rfl)) | (with_reducible refine rf_store ?_ rfl (by kernel_rfl) (by kernel_rfl) (by kernel_rfl)) | (with_reducible refine rf_store2 ?_ rfl (by kernel_rfl) (by kernel_rfl) (by kernel_rfl) (by kernel_rfl)) | (with_reducible refine rd_pre ?_ (by kernel_rfl)) | (with_reducible refine rv_safe ?_ (by kernel_rfl)) | (with_reducible refine rv_flex rfl (fun hx => ?_) (fun hx => ?_) (by kernel_rfl)) | (with_reducible refine rv_i16 (by kernel_rfl)) | (with_reducible refine rv_i32 (by kernel_rfl)) | (with_reducible refine rv_u16 (by kernel_rfl)) | (with_reducible refine rv_bool (by kernel_rfl)) | (with_reducible refine rv_string rfl (by first | assumption | rfl) (by kernel_rfl)) | (with_reducible refine rv_cstring rfl (by first | assumption | rfl) (by kernel_rfl)) | (with_reducible refine rv_again ?_ (by kernel_rfl)) | (with_reducible refine rv_pre ?_ (by kernel_rfl)) | (with_reducible refine rn_plain (by first | assumption | rfl) (by kernel_rfl)) | (with_reducible refine rn_cplain (by first | assumption | rfl) (by kernel_rfl)) | (with_reducible refine rn_flex rfl (fun hx => ?_) (fun hx => ?_) (by kernel_rfl)) | (with_reducible refine el_pre ?_ (by kernel_rfl)) | (with_reducible refine el_val1 (by kernel_rfl) (rv_elem rfl ?_) (by kernel_rfl) (by kernel_rfl))))
 ·show RkCc ⟨268, ver, decide (0 ≤ ver), true, 7, none⟩ 11 10 1 sch_VoteResponse 1000 (zbe sch_VoteResponse 2) (tlK ⟨268, ver, decide (0 ≤ ver), true, 7, none⟩ sch_VoteResponse) (tlS (decide (0 ≤ ver)) ver sch_VoteResponse) _
  intro a w O R B p st s hB hP hfr hok
  have hN : a.tmps.size = 268 := hB.ok.1
  have hD : a.defers = [] := hB.ok.2.1
  have g2 : get a 2 = .bool false := hB.ok.2.2.1
  have g8 : get a 8 = .int .i16 ver := hB.ok.2.2.2.1
  have g9 : get a 9 = .bool (decide (0 ≤ ver)) := hB.ok.2.2.2.2 rfl
  have gS : get a 10 = .pointer (some ⟨B, p, none⟩) := hP.pt
  have g7 : get a 7 = .pointer (some ⟨R, 0, none⟩) := hB.rd
  have oR := hB.oR
  have oB := hP.oB
  have ne := hP.ne
  refine qsr fun K0 hK0 => ?_; (repeat ((with_reducible refine zaJ ?_ ?_ ?_); (· simp [qef, hN, g9] <;> omega); (· kernel_rfl); try simp only [qec, hN, seval, g9])); refine zaa ?_; refine hK0 _ _ ?_; try clear hK0 K0
  rcases Bool.eq_false_or_eq_true (decide (0 ≤ ver)) with hx | hx
  rotate_left
  ·refine wp_cond_false (by simp [qed, hN, hx]) ?_
   exact wp_skip (rk_off hx rfl rfl tagOK_all ((zar.refl _ _).put (by decide) _) hB hP (by decide))
  refine wp_cond_true (by simp [qed, hN, hx]) ?_
  have hki := KI.start hB hP
  refine qsr fun K0 hK0 => ?_; (repeat ((with_reducible refine zaJ ?_ ?_ ?_); (· simp [qef, hN, g7] <;> omega); (· kernel_rfl); try simp only [qec, hN, seval, g7]))
  refine wl_rd (fun args w => Tryz.call80 args w) Uvarint_m (by simp only [List.map_toArray, List.map_cons, List.map_nil]; simp only [qec, hN, seval, g7]) hki.rd (fun h => h (.inl oR)) (hki.new hB) ?_
  intro v1 w1 hr1
  obtain ⟨n, ⟨rfl, hn⟩, e1⟩ := hr1.val
  have hk1 := hki.read oR ne hr1 less_uvar
  have htot := tot_start (E := ⟨268, ver, decide (0 ≤ ver), true, 7, none⟩) (fs := sch_VoteResponse) (s := s) hx (by decide) e1
  have hst : ((((st.bind zaG).map (·.2)).bind (rTagS (zaU (decide (0 ≤ ver)) ver sch_VoteResponse 0) n false ⟨s.ds, []⟩)).isSome = true) := by rw [← totS_start (E := ⟨268, ver, decide (0 ≤ ver), true, 7, none⟩) (fs := sch_VoteResponse) (s := s) hx e1]; exact hok
  clear hki hr1 e1
  (repeat ((with_reducible refine zaJ ?_ ?_ ?_); (· simp [qef, hN] <;> omega); (· kernel_rfl); try simp only [qec, hN, seval]))
  refine zaa ?_; refine hK0 _ _ ?_; try clear hK0 K0
  refine wp_block ?_
  refine wp_loop (fun a' w' => ∃ (j : Nat) (m : Option Nat) (tg : za5) (sc : Option Bs) (ds : List D) (seen : Bool), get a' 30 = .int .u32 j ∧ j < 4294967296 ∧ zar (RS 11) a a' ∧ KI ⟨268, ver, decide (0 ≤ ver), true, 7, none⟩ 1 sch_VoteResponse w O R B p st w' m tg sc ds ∧
   st.bind (tlK ⟨268, ver, decide (0 ≤ ver), true, 7, none⟩ sch_VoteResponse s) = sc.bind (rTagged (zaU (decide (0 ≤ ver)) ver sch_VoteResponse 0) j ⟨ds, tg⟩) ∧ (sc.bind (rTagS (zaU (decide (0 ≤ ver)) ver sch_VoteResponse 0) j seen ⟨ds, tg⟩)).isSome = true ∧ (seen = false → ds[2]? = some (dfltF (.mk .list 0 (-1) (-1) 0 0 .struct sch_sVoteResponseNodeEndpoint)))) (fun a' _ => (intOf (get a' 30)).toNat) ⟨n, none, [], _, _, false, by simp only [qec, hN, seval], hn, (by (repeat (first | (with_reducible refine zar.put0 ?_ _) | ((with_reducible refine zar.put ?_ ?_ _); rotate_left; (· decide)))); with_reducible first | exact zar.refl _ _ | assumption), hk1, htot, hst, fun _ => hfr 2 _ (Nat.le_refl _) rfl⟩ ?_
  clear hk1 htot hst hn n
  rintro a4 w4 ⟨j, m, tg, sc, ds, seen, gj, hj, hk4, hki, htot, hst, hfn⟩
  have hN0 := hN
  replace hN := hk4.size.trans hN
  replace hD := hk4.defers.trans hD
  replace g2 := (hk4.slot 2 (by decide)).trans g2
  replace g7 := (hk4.slot 7 (by decide)).trans g7
  replace g8 := (hk4.slot 8 (by decide)).trans g8
  replace g9 := (hk4.slot 9 (by decide)).trans g9
  replace gS := (hk4.slot 10 (by decide)).trans gS
  refine qsk fun K hK => ?_; refine qsr fun K0 hK0 => ?_; (repeat ((with_reducible refine zaJ ?_ ?_ ?_); (· simp [qef, hN, gj] <;> omega); (· kernel_rfl); try simp only [qec, hN, seval, gj])); refine zaa ?_; refine hK0 _ _ ?_; try clear hK0 K0
  by_cases hz : j = 0
  ·subst hz
   have d1 : decide ((0 : Int) < ((0 : Nat) : Int)) = false := rfl
   refine wp_cond_false (by simp only [qec, hN, seval] <;> rfl) ?_
   refine wp_exit ?_
   simp only [Exit.then, Exit.inBlock, if_pos]
   obtain ⟨f1, f2⟩ := hki.fin rfl tagOK_all rfl
   refine ⟨(by (repeat (first | (with_reducible refine zar.put0 ?_ _) | ((with_reducible refine zar.put ?_ ?_ _); rotate_left; (· decide)))); with_reducible first | exact zar.refl _ _ | assumption), hki.chg, hki.rest, sc, ⟨ds, tg⟩, f1, f2, ?_, hki.len, fun j hj => ?_⟩
   ·unfold Stp
    rw [htot]
    cases sc with
    | none => rfl
    | some bs => exact ⟨rfl, rfl⟩
   ·have l1 := f2.len
    have l2 := hP.at_.len
    have l3 : (sch_VoteResponse).length ≤ 1000 := by decide
    rw [List.getElem?_eq_none (by omega), List.getElem?_eq_none (by omega)]
  have d1 : decide ((0 : Int) < (j : Int)) = true := decide_eq_true (by omega)
  refine wp_cond_true (by simp only [qec, hN, seval, d1]) ?_
  refine wp_skip (hK _ _ ?_)
  clear hK K
  obtain ⟨j, rfl⟩ : ∃ i, j = i + 1 := ⟨j - 1, by omega⟩
  have e32 : IntKind.u32.wrap (((j + 1 : Nat) : Int) - 1) = ((j : Nat) : Int) := by
   have : ((j + 1 : Nat) : Int) - 1 = ((j : Nat) : Int) := by omega
   rw [this]; exact wrapU rfl (by show _ < 4294967296; omega)
  refine qsk fun K hK => ?_
  have gj4 := gj
  have dec : ∀ a5 w5, a5.tmps.size = 268 → get a5 30 = .int .u32 ((j + 1 : Nat) : Int) → zar (RS 11) a a5 → (∃ m' tg' sc' ds' seen', KI ⟨268, ver, decide (0 ≤ ver), true, 7, none⟩ 1 sch_VoteResponse w O R B p st w5 m' tg' sc' ds' ∧
    st.bind (tlK ⟨268, ver, decide (0 ≤ ver), true, 7, none⟩ sch_VoteResponse s) = sc'.bind (rTagged (zaU (decide (0 ≤ ver)) ver sch_VoteResponse 0) j ⟨ds', tg'⟩) ∧ (sc'.bind (rTagS (zaU (decide (0 ≤ ver)) ver sch_VoteResponse 0) j seen' ⟨ds', tg'⟩)).isSome = true ∧ (seen' = false → ds'[2]? = some (dfltF (.mk .list 0 (-1) (-1) 0 0 .struct sch_sVoteResponseNodeEndpoint)))) → K a5 w5 := by
   clear hN hD g2 g7 g8 g9 gS hki htot hst hfn gj hk4
   intro a5 w5 hN gj hk5 ⟨m', tg', sc', ds', seen', q1, q2, q3, q4⟩
   refine hK _ _ ?_
   clear hK K
   refine zax ?_; (repeat ((with_reducible refine zaJ ?_ ?_ ?_); (· simp [qef, hN, gj, e32] <;> omega); (· kernel_rfl); try simp only [qec, hN, seval, gj, e32]))
   refine zaa ⟨⟨j, m', tg', sc', ds', seen', by simp only [qec, hN, seval], by omega, (by (repeat (first | (with_reducible refine zar.put0 ?_ _) | ((with_reducible refine zar.put ?_ ?_ _); rotate_left; (· decide)))); with_reducible first | exact zar.refl _ _ | assumption), q1, q2, q3, q4⟩, ?_⟩
   simp only [qec, hN, seval, gj4]
   simp only [intOf]
   omega
  refine wp_block ?_
  refine qsr fun K0 hK0 => ?_; (repeat ((with_reducible refine zaJ ?_ ?_ ?_); (· simp [qef, hN, g7] <;> omega); (· kernel_rfl); try simp only [qec, hN, seval, g7]))
  refine wl_rd (fun args w => Tryz.call80 args w) Uvarint_m (by simp only [List.map_toArray, List.map_cons, List.map_nil]; simp only [qec, hN, seval, g7]) hki.rd (fun h => h (.inl oR)) (hki.new hB) ?_
  intro v5 w5 hr5
  obtain ⟨x1, ⟨rfl, hx1⟩, e1⟩ := hr5.val
  have hk5 := hki.read oR ne hr5 less_uvar
  clear hr5 hki
  (repeat ((with_reducible refine zaJ ?_ ?_ ?_); (· simp [qef, hN] <;> omega); (· kernel_rfl); try simp only [qec, hN, seval]))
  refine zaa ?_; refine hK0 _ _ ?_; try clear hK0 K0
  refine qsr fun K0 hK0 => ?_; (repeat ((with_reducible refine zaJ ?_ ?_ ?_); (· simp [qef, hN] <;> omega); (· kernel_rfl); try simp only [qec, hN, seval])); refine zaa ?_; refine hK0 _ _ ?_; try clear hK0 K0
  refine wp_block ?_
  refine qsr fun K0 hK0 => ?_; (repeat ((with_reducible refine zaJ ?_ ?_ ?_); (· simp [qef, hN] <;> omega); (· kernel_rfl); try simp only [qec, hN, seval])); refine zaa ?_; refine hK0 _ _ ?_; try clear hK0 K0
  have hkn := kn0B_out (fs := sch_VoteResponse) (i := 2) (f := (.mk .list 0 (-1) (-1) 0 0 .struct sch_sVoteResponseNodeEndpoint)) rfl (by decide) (decide (0 ≤ ver)) ver
  by_cases hx0 : x1 = 0
  ·obtain rfl : seen = false := by
    cases seen with
    | false => rfl
    | true => rw [totS_seen hkn e1 hx0] at hst; cases hst
   have d2 : ((x1 : Int) == 0) = true := by simp [hx0]
   refine wp_cond_true (by simp only [qec, hN, seval, d2]) ?_
   refine qsr fun K0 hK0 => ?_; (repeat ((with_reducible refine zaJ ?_ ?_ ?_); (· simp [qef, hN, g7] <;> omega); (· kernel_rfl); try simp only [qec, hN, seval, g7]))
   refine wl_rd (fun args w => Tryz.call80 args w) Uvarint_m (by simp only [List.map_toArray, List.map_cons, List.map_nil]; simp only [qec, hN, seval, g7]) hk5.rd (fun h => h (.inl oR)) (hk5.new hB) ?_
   intro v6 w6 hr6
   obtain ⟨x2, ⟨rfl, hx2⟩, e2⟩ := hr6.val
   have hk6 := hk5.read oR ne hr6 less_uvar
   clear hr6 hk5
   (repeat ((with_reducible refine zaJ ?_ ?_ ?_); (· simp [qef, hN, g7, i64_sm (x2 : Int) (by omega)] <;> omega); (· kernel_rfl); try simp only [qec, hN, seval, g7, i64_sm (x2 : Int) (by omega)]))
   refine zaz (fun args w => Tryz.call82 args w) (by simp only [List.map_toArray, List.map_cons, List.map_nil]; simp only [qec, hN, seval, g7]; exact Span_cL x2 hk6.rd (fun h => h (.inl oR)) (hk6.new hB)) ?_
   intro v7 w7 hr7
   obtain ⟨l, ⟨⟨oa, cap, rfl, hcap, hbl⟩, hll⟩, e3⟩ := hr7.val
   have hk7 := hk6.read oR ne hr7 (less_span _)
   have hlR : l.length ≤ RLIM := Nat.le_trans hll (Nat.le_trans hk6.len hB.lim)
   clear hr7 hk6 hll
   refine wl_build (l := [.slice oa l.length cap, .bool false]) (by simp only [qea, List.map_toArray, List.map_cons, List.map_nil, hN, seval]; kernel_rfl) ?_
   refine wl_allocA (z := zaZ [.slice none 0 0, .bool false]) (fun w => Tryz.zeroValue121 w) fun w8 hc8 hb8 hs8 => ?_
   refine zbh (b := w7.heap.size) (n := 2) (l' := [.slice oa l.length cap, .bool false]) (by kernel_rfl) (by simp [qed, hN]) (by simp [qed, hN]) hb8 rfl (by intro y hy; simp only [List.mem_cons, List.not_mem_nil, or_false] at hy; rcases hy with rfl | rfl <;> rfl) rfl fun w9 hb9 hc9 => ?_
   refine zaa ?_; refine hK0 _ _ ?_; try clear hK0 K0
   have hc79 : Chg (fun _ => False) w7 w9 := hc8.trans hc9 fun n hn h => by omega
   clear hc8 hb8 hs8 hc9
   have htot2 := htot.trans (tot_case (tg := tg) (ds := ds) (j := j) hkn e1 e2 e3 hx0)
   have hst2 := hst
   rw [totS_case (tg := tg) (ds := ds) (j := j) hkn e1 e2 e3 hx0] at hst2
   refine wp_gen fun a9 ha9 => ?_
   have hN9 : a9.tmps.size = 268 := by rw [ha9]; simp only [zag]; exact hN
   have hD9 : a9.defers = [] := by rw [ha9]; simp only [zab]; exact hD
   have q2 : get a9 2 = .bool false := by rw [ha9]; simp only [qec, hN, seval, g2]
   have q7 : get a9 7 = .pointer (some ⟨R, 0, none⟩) := by rw [ha9]; simp only [qec, hN, seval, g7]
   have q8 : get a9 8 = .int .i16 ver := by rw [ha9]; simp only [qec, hN, seval, g8]
   have q9 : get a9 9 = .bool (decide (0 ≤ ver)) := by rw [ha9]; simp only [qec, hN, seval, g9]
   have qS : get a9 10 = .pointer (some ⟨B, p, none⟩) := by rw [ha9]; simp only [qec, hN, seval, gS]
   have qX : get a9 32 = .pointer (some ⟨w7.heap.size, 0, none⟩) := by rw [ha9]; simp only [qec, hN, seval]
   have qC : get a9 30 = .int .u32 ((j + 1 : Nat) : Int) := by rw [ha9]; simp only [qec, hN, seval, gj]
   have qk : zar (RS 11) a a9 := by rw [ha9]; (repeat (first | (with_reducible refine zar.put0 ?_ _) | ((with_reducible refine zar.put ?_ ?_ _); rotate_left; (· decide)))); exact hk4
   clear ha9 hN hD g2 g7 g8 g9 gS gj hk4
   have hRB := hk7.inRB (X := 32) (E := ⟨268, ver, decide (0 ≤ ver), true, 7, none⟩) hB oB hc79 hb9 hcap hbl hlR ⟨hN9, hD9, q2, q8, fun _ => q9⟩ qX
   have hRP := hk7.inRP (sS := 10) (X := 32) (E := ⟨268, ver, decide (0 ≤ ver), true, 7, none⟩) oB hc79 qS
   refine it_list (mB := 37) (E := ⟨268, ver, decide (0 ≤ ver), true, 32, some (.map m)⟩) (m := 33) (sS := 10) (k0 := 1) (fs := sch_VoteResponse) (i := 2) rfl (by kernel_rfl) ⟨_, elz_sVoteResponseNodeEndpoint, by kernel_rfl, ?el⟩ ok_en co_en ?cl (by kernel_rfl) a9 w9 _ _ B p (some l) ⟨ds, []⟩ _ hRB hRP (fresh_last rfl rfl (hfn rfl)) ?_ ?_
   case el =>
    (repeat' (first | (with_reducible refine rtx_tagged rfl rfl ?_) | (with_reducible refine rtx_next rfl (by kernel_rfl) ?_ ?_) | (with_reducible refine rtx_end rfl ?_) | (with_reducible refine rtx_tl (I := 1000) (by kernel_rfl) ?_ ?_) | (with_reducible refine rdx_tagged rfl rfl ?_) | (with_reducible refine rdx_next rfl (by kernel_rfl) (by kernel_rfl) ?_ ?_) | (with_reducible refine rdx_end rfl ?_) | (with_reducible refine it_pre ?_ (by kernel_rfl)) | (with_reducible refine it_store ?_ rfl (by kernel_rfl) (by kernel_rfl) (by kernel_rfl)) | (with_reducible refine rt_tagged rfl rfl ?_) | (with_reducible refine rt_next rfl (by kernel_rfl) ?_ ?_) | (with_reducible refine rt_end rfl ?_) | (with_reducible refine rt_noflex rfl ?_) | (with_reducible refine rt_fin co_en (by kernel_rfl) (by kernel_rfl)) | (with_reducible refine rt_tl (I := 1000) (by kernel_rfl) ?_ ?_) | (with_reducible refine rd_tags (by kernel_rfl) tagOK_all tg_en (by kernel_rfl) (by kernel_rfl)) | (with_reducible refine rd_tagged rfl rfl ?_) | (with_reducible refine rd_noflex rfl ?_) | (with_reducible refine rd_last rfl rfl (by kernel_rfl) ?_) | (with_reducible refine rd_next rfl (by kernel_rfl) (by kernel_rfl) ?_ ?_) | (with_reducible refine rd_end rfl ?_) | (with_reducible refine sf_all rfl (by dsimp only; omega) ?_) | ((with_reducible refine sf_from rfl (by kernel_rfl) (fun hv => ?_)); try dsimp only at hv) | ((with_reducible refine sf_range rfl (by kernel_rfl) (fun hv hv2 => ?_)); try dsimp only at hv hv2) | (with_reducible refine rf_list1 rfl (by kernel_rfl) elz_sVoteResponseTopicPartition (by kernel_rfl) ?_ ok_en co_en ?_ (by kernel_rfl)) | (with_reducible refine el_struct1 (by kernel_rfl) eln_sVoteResponseTopicPartition eld_sVoteResponseTopicPartition (by kernel_rfl) ?_ (by kernel_rfl) (by kernel_rfl) (by kernel_rfl)) | (with_reducible refine rf_list1 rfl (by kernel_rfl) elz_sVoteResponseTopic (by kernel_rfl) ?_ ok_en co_en ?_ (by kernel_rfl)) | (with_reducible refine el_struct1 (by kernel_rfl) eln_sVoteResponseTopic eld_sVoteResponseTopic (by kernel_rfl) ?_ (by kernel_rfl) (by kernel_rfl) (by kernel_rfl)) | (with_reducible refine rf_list1 rfl (by kernel_rfl) elz_sVoteResponseNodeEndpoint (by kernel_rfl) ?_ ok_en co_en ?_ (by kernel_rfl)) | (with_reducible refine el_struct1 (by kernel_rfl) eln_sVoteResponseNodeEndpoint eld_sVoteResponseNodeEndpoint (by kernel_rfl) ?_ (by kernel_rfl) (by kernel_rfl) (by kernel_rfl)) | (with_reducible refine rf_store ?_ rfl (by kernel_rfl) (by kernel_rfl) (by kernel_rfl)) | (with_reducible refine rf_store2 ?_ rfl (by kernel_rfl) (by kernel_rfl) (by kernel_rfl) (by kernel_rfl)) | (with_reducible refine rd_pre ?_ (by kernel_rfl)) | (with_reducible refine rv_safe ?_ (by kernel_rfl)) | (with_reducible refine rv_flex rfl (fun hx => ?_) (fun hx => ?_) (by kernel_rfl)) | (with_reducible refine rv_i16 (by kernel_rfl)) | (with_reducible refine rv_i32 (by kernel_rfl)) | (with_reducible refine rv_u16 (by kernel_rfl)) | (with_reducible refine rv_bool (by kernel_rfl)) | (with_reducible refine rv_string rfl (by first | assumption | rfl) (by kernel_rfl)) | (with_reducible refine rv_cstring rfl (by first | assumption | rfl) (by kernel_rfl)) | (with_reducible refine rv_again ?_ (by kernel_rfl)) | (with_reducible refine rv_pre ?_ (by kernel_rfl)) | (with_reducible refine rn_plain (by first | assumption | rfl) (by kernel_rfl)) | (with_reducible refine rn_cplain (by first | assumption | rfl) (by kernel_rfl)) | (with_reducible refine rn_flex rfl (fun hx => ?_) (fun hx => ?_) (by kernel_rfl)) | (with_reducible refine el_pre ?_ (by kernel_rfl)) | (with_reducible refine el_val1 (by kernel_rfl) (rv_elem rfl ?_) (by kernel_rfl) (by kernel_rfl))))
   case cl =>
    (repeat' (first | (with_reducible refine rtx_tagged rfl rfl ?_) | (with_reducible refine rtx_next rfl (by kernel_rfl) ?_ ?_) | (with_reducible refine rtx_end rfl ?_) | (with_reducible refine rtx_tl (I := 1000) (by kernel_rfl) ?_ ?_) | (with_reducible refine rdx_tagged rfl rfl ?_) | (with_reducible refine rdx_next rfl (by kernel_rfl) (by kernel_rfl) ?_ ?_) | (with_reducible refine rdx_end rfl ?_) | (with_reducible refine it_pre ?_ (by kernel_rfl)) | (with_reducible refine it_store ?_ rfl (by kernel_rfl) (by kernel_rfl) (by kernel_rfl)) | (with_reducible refine rt_tagged rfl rfl ?_) | (with_reducible refine rt_next rfl (by kernel_rfl) ?_ ?_) | (with_reducible refine rt_end rfl ?_) | (with_reducible refine rt_noflex rfl ?_) | (with_reducible refine rt_fin co_en (by kernel_rfl) (by kernel_rfl)) | (with_reducible refine rt_tl (I := 1000) (by kernel_rfl) ?_ ?_) | (with_reducible refine rd_tags (by kernel_rfl) tagOK_all tg_en (by kernel_rfl) (by kernel_rfl)) | (with_reducible refine rd_tagged rfl rfl ?_) | (with_reducible refine rd_noflex rfl ?_) | (with_reducible refine rd_last rfl rfl (by kernel_rfl) ?_) | (with_reducible refine rd_next rfl (by kernel_rfl) (by kernel_rfl) ?_ ?_) | (with_reducible refine rd_end rfl ?_) | (with_reducible refine sf_all rfl (by dsimp only; omega) ?_) | ((with_reducible refine sf_from rfl (by kernel_rfl) (fun hv => ?_)); try dsimp only at hv) | ((with_reducible refine sf_range rfl (by kernel_rfl) (fun hv hv2 => ?_)); try dsimp only at hv hv2) | (with_reducible refine rf_list1 rfl (by kernel_rfl) elz_sVoteResponseTopicPartition (by kernel_rfl) ?_ ok_en co_en ?_ (by kernel_rfl)) | (with_reducible refine el_struct1 (by kernel_rfl) eln_sVoteResponseTopicPartition eld_sVoteResponseTopicPartition (by kernel_rfl) ?_ (by kernel_rfl) (by kernel_rfl) (by kernel_rfl)) | (with_reducible refine rf_list1 rfl (by kernel_rfl) elz_sVoteResponseTopic (by kernel_rfl) ?_ ok_en co_en ?_ (by kernel_rfl)) | (with_reducible refine el_struct1 (by kernel_rfl) eln_sVoteResponseTopic eld_sVoteResponseTopic (by kernel_rfl) ?_ (by kernel_rfl) (by kernel_rfl) (by kernel_rfl)) | (with_reducible refine rf_list1 rfl (by kernel_rfl) elz_sVoteResponseNodeEndpoint (by kernel_rfl) ?_ ok_en co_en ?_ (by kernel_rfl)) | (with_reducible refine el_struct1 (by kernel_rfl) eln_sVoteResponseNodeEndpoint eld_sVoteResponseNodeEndpoint (by kernel_rfl) ?_ (by kernel_rfl) (by kernel_rfl) (by kernel_rfl)) | (with_reducible refine rf_store ?_ rfl (by kernel_rfl) (by kernel_rfl) (by kernel_rfl)) | (with_reducible refine rf_store2 ?_ rfl (by kernel_rfl) (by kernel_rfl) (by kernel_rfl) (by kernel_rfl)) | (with_reducible refine rd_pre ?_ (by kernel_rfl)) | (with_reducible refine rv_safe ?_ (by kernel_rfl)) | (with_reducible refine rv_flex rfl (fun hx => ?_) (fun hx => ?_) (by kernel_rfl)) | (with_reducible refine rv_i16 (by kernel_rfl)) | (with_reducible refine rv_i32 (by kernel_rfl)) | (with_reducible refine rv_u16 (by kernel_rfl)) | (with_reducible refine rv_bool (by kernel_rfl)) | (with_reducible refine rv_string rfl (by first | assumption | rfl) (by kernel_rfl)) | (with_reducible refine rv_cstring rfl (by first | assumption | rfl) (by kernel_rfl)) | (with_reducible refine rv_again ?_ (by kernel_rfl)) | (with_reducible refine rv_pre ?_ (by kernel_rfl)) | (with_reducible refine rn_plain (by first | assumption | rfl) (by kernel_rfl)) | (with_reducible refine rn_cplain (by first | assumption | rfl) (by kernel_rfl)) | (with_reducible refine rn_flex rfl (fun hx => ?_) (fun hx => ?_) (by kernel_rfl)) | (with_reducible refine el_pre ?_ (by kernel_rfl)) | (with_reducible refine el_val1 (by kernel_rfl) (rv_elem rfl ?_) (by kernel_rfl) (by kernel_rfl))))
   ·rintro a10 w10 ⟨hkk, hcc, hrr, st2, s2, hs2, ha2, hstp, hl2, _⟩
    have hk10 := hk7.inner oB oR ne hc79 hcc hrr ha2
    have q10 : get a10 32 = .pointer (some ⟨w7.heap.size, 0, none⟩) := (hkk.slot 32 (by decide)).trans qX
    have qC' := (hkk.slot 30 (by decide)).trans qC
    have hN10 : a10.tmps.size = 268 := hkk.size.trans hN9
    have hD10 := hkk.defers.trans hD9
    have qk10 : zar (RS 11) a a10 := qk.trans (hkk.mono fun t ht => ⟨by have := ht.1; omega, ht.2⟩)
    have herr : ErrW w10 := hB.err.chg hk10.chg (by rintro (e | e); exact hB.oE (e ▸ oR); exact hB.oE (e ▸ oB))
    have hN := hN10
    clear hkk hRB hRP
    refine qsr fun K0 hK0 => ?_; (repeat ((with_reducible refine zaJ ?_ ?_ ?_); (· simp [qef, hN, q10] <;> omega); (· kernel_rfl); try simp only [qec, hN, seval, q10]))
    refine zaz (fun args w => Tryz.call70 args w) (by simp only [List.map_toArray, List.map_cons, List.map_nil]; simp only [qec, hN, seval, q10]; exact Complete_c hs2 herr) ?_
    rintro v11 _ ⟨rfl, c1, c2⟩
    (repeat ((with_reducible refine zaJ ?_ ?_ ?_); (· simp [qef, hN] <;> omega); (· kernel_rfl); try simp only [qec, hN, seval]))
    refine zaa ?_; refine hK0 _ _ ?_; try clear hK0 K0
    cases st2 with
    | none =>
     obtain ⟨ti, vi, rfl⟩ := c1 rfl
     refine qsr fun K0 hK0 => ?_; (repeat ((with_reducible refine zaJ ?_ ?_ ?_); (· simp [qef, hN] <;> omega); (· kernel_rfl); try simp only [qec, hN, seval]))
     refine wl_neqNil1 (ti := ti) (v := vi) (by kernel_rfl) (by simp only [qec, hN, seval]) ?_
     refine zaa ?_; refine hK0 _ _ ?_; try clear hK0 K0
     refine wp_cond_true (by simp only [qec, hN, seval]) ?_
     refine qsr fun K0 hK0 => ?_; (repeat ((with_reducible refine zaJ ?_ ?_ ?_); (· simp [qef, hN] <;> omega); (· kernel_rfl); try simp only [qec, hN, seval])); refine zaa ?_; refine hK0 _ _ ?_; try clear hK0 K0
     refine wp_ret ⟨by simp only [zab]; exact hD10, ⟨ti, vi, by simp only [qec, hN, seval]⟩, ?_, hk10.chg.mono fun k _ h => by rcases h with rfl | rfl; exact oR; exact oB⟩
     rw [htot2]
     unfold Stp at hstp
     cases hd : decF (decide (0 ≤ ver)) ver (.mk .list 0 (-1) (-1) 0 0 .struct sch_sVoteResponseNodeEndpoint) l with
     | none => rfl
     | some y =>
      rw [Option.bind_some] at hstp
      unfold zbj at hstp
      rw [hd] at hstp
      exact absurd hstp.1 (by simp)
    | some r2 =>
     have hv := c2 (by simp)
     subst hv
     refine qsr fun K0 hK0 => ?_; (repeat ((with_reducible refine zaJ ?_ ?_ ?_); (· simp [qef, hN] <;> omega); (· kernel_rfl); try simp only [qec, hN, seval]))
     refine wl_neqNil0 (by kernel_rfl) (by simp only [qec, hN, seval]) ?_
     refine zaa ?_; refine hK0 _ _ ?_; try clear hK0 K0
     refine wp_cond_false (by simp only [qec, hN, seval]) ?_
     refine wp_skip ?_
     simp only [Exit.then, Exit.inBlock]
     refine dec _ _ (by simp only [zag]; exact hN10) (by simp only [qec, hN, seval, qC']) (by (repeat (first | (with_reducible refine zar.put0 ?_ _) | ((with_reducible refine zar.put ?_ ?_ _); rotate_left; (· decide)))); with_reducible first | exact zar.refl _ _ | assumption) ⟨m, tg, _, s2.ds, true, hk10, ?_, ?_, fun e => by cases e⟩
     ·rw [htot2]
      unfold Stp at hstp
      cases hd : decF (decide (0 ≤ ver)) ver (.mk .list 0 (-1) (-1) 0 0 .struct sch_sVoteResponseNodeEndpoint) l with
      | none =>
       rw [Option.bind_some] at hstp
       unfold zbj at hstp
       rw [hd] at hstp
       cases hstp
      | some y =>
       rw [Option.bind_some] at hstp
       unfold zbj at hstp
       rw [hd] at hstp
       have hs3 : s2.ds = ds.set 2 y.1 := by rw [hstp.2]
       rw [hs3]; rfl
     ·refine Eq.trans (congrArg Option.isSome ?_) hst2
      unfold Stp at hstp
      cases hd : decF (decide (0 ≤ ver)) ver (.mk .list 0 (-1) (-1) 0 0 .struct sch_sVoteResponseNodeEndpoint) l with
      | none =>
       rw [Option.bind_some] at hstp
       unfold zbj at hstp
       rw [hd] at hstp
       cases hstp
      | some y =>
       rw [Option.bind_some] at hstp
       unfold zbj at hstp
       rw [hd] at hstp
       have hs3 : s2.ds = ds.set 2 y.1 := by rw [hstp.2]
       rw [hs3]; rfl
   ·rintro a10 w10 ⟨f1, f2, f3, f4⟩
    refine ⟨f1, f2, ?_, hk7.failed oB oR hc79 f4⟩
    rw [htot2]
    cases hd : decF (decide (0 ≤ ver)) ver (.mk .list 0 (-1) (-1) 0 0 .struct sch_sVoteResponseNodeEndpoint) l with
    | none => rfl
    | some y =>
     rw [Option.bind_some] at f3
     unfold zbj at f3
     rw [hd] at f3
     cases f3
  ·have d2 : ((x1 : Int) == 0) = false := by simp; omega
   refine wp_cond_false (by simp only [qec, hN, seval, d2]) ?_
   obtain ⟨cs, Tb, hbc, hcell⟩ := hk5.cell rfl
   refine wp_sched (fun _ => True) [(true, 0), (true, 1), (true, 2), (true, 3), (false, 4), (true, 5), (false, 6), (false, 7)] zaR (by kernel_rfl) (by kernel_rfl) trivial ?_
   have hk5d : KI ⟨268, ver, decide (0 ≤ ver), true, 7, none⟩ 1 sch_VoteResponse w O R B p st w5.drew m tg _ ds := ⟨hk5.chg.trans (Chg.drew (fun _ => False) _) fun _ _ h => h.elim, hk5.rest.trans (Rest.of rfl), hk5.rd.stay (zbl.of (Chg.drew (fun _ => False) _) fun _ _ _ h => h) rfl, hk5.at_.goK rfl rfl rfl rfl (zbl.of (Chg.drew (fun _ => False) _) fun _ _ _ h => h) rfl, hk5.tg.stay (zbl.of (Chg.drew (fun _ => False) _) fun _ _ _ h => h), hk5.mr, hk5.len⟩
   refine zbf rfl ?_
   simp only [qea, hN, seval, gS]
   refine ws_float (.pointer (some ⟨B, p, none⟩)) rfl (fun w _ => by simp only [qea, execOp, hN, seval]; rfl) ?_
   refine zbp (b := B) (o := p) (off := 1 + lsz true sch_VoteResponse) (n := 1) (by kernel_rfl) rfl (by simp [qed, hN]) ?_
   refine zbf rfl ?_
   simp only [qea, hN, seval]
   refine ws_call (fun args w => Tryz.call80 args w) rfl (by simp only [qea, List.map_toArray, List.map_cons, List.map_nil, hN, seval, g7]; exact Uvarint_m _ _ R _ hk5d.rd (fun h => h (.inl oR)) (hk5d.new hB)) ?_
   intro v6 w6 hr6
   obtain ⟨x2, ⟨rfl, hx2⟩, e2⟩ := hr6.val
   have hk6 := hk5d.read oR ne hr6 less_uvar
   refine ⟨trivial, ?_⟩
   refine ws_float (.int .i64 x2) rfl (fun w _ => (run_pure (fun _ => rfl) (by simp [qee, hN, seval, isI]) (by kernel_rfl)).trans (by have := i64_sm (x2 : Int) (by omega); simp [qeb, hN, seval, cvt, this]; try rfl)) ?_
   refine ws_call (fun args w => Tryz.call82 args w) rfl (by simp only [qea, List.map_toArray, List.map_cons, List.map_nil, hN, seval, g7]; exact Span_cL x2 hk6.rd (fun h => h (.inl oR)) (hk6.new hB)) ?_
   intro v7 w7 hr7
   obtain ⟨l, ⟨⟨oa, cap, rfl, hcap, hbl⟩, hll⟩, e3⟩ := hr7.val
   have hk7 := hk6.read oR ne hr7 (less_span _)
   refine ⟨trivial, ?_⟩
   obtain ⟨cs7, Tb7, hbc7, hcell7⟩ := hk7.cell rfl
   refine ws_call (fun args w => Tryz.call81 args w) rfl (by
    simp only [qea, List.map_toArray, List.map_cons, List.map_nil, hN, seval]
    exact Set_c (cap := cap) hbc7 hcell7 hk7.tg hx1 (hbl.stay ⟨fun k _ h => ⟨rfl, fun e => h (.inl e)⟩⟩) (fun h => h oB) (fun k hk => fun e => hk7.new hB k hk (.inl e))) ?_
   rintro _ w8 ⟨m8, hb8, ht8, hc8, hm8⟩
   have hk8 := hk7.set rfl oB oR ne hbc7 hb8 ht8 hc8 hm8
   refine ⟨trivial, ws_nil ?_⟩
   simp only [Exit.then, Exit.inBlock]
   refine dec _ _ (by simp only [zag]; exact hN) (by simp only [qec, hN, seval, gj]) (by (repeat (first | (with_reducible refine zar.put0 ?_ _) | ((with_reducible refine zar.put ?_ ?_ _); rotate_left; (· decide)))); with_reducible first | exact zar.refl _ _ | assumption) ⟨m8, _, _, ds, seen, hk8, ?_, ?_, hfn⟩
   ·exact htot.trans (tot_dflt hkn e1 e2 e3 hx0)
   ·rw [← totS_dflt hkn e1 e2 e3 hx0]; exact hst
set_option maxHeartbeats 4000000
theorem app_VoteResponse : AppendsTo 23 true (fun ver => decide (0 ≤ ver)) sch_VoteResponse := by
 refine app_flex Tryz.func23 rfl rfl Tryz.ntmps23 (by kernel_rfl) ?_
 intro ver s hver
 (repeat' (first | with_reducible refine wt_start ?_ | with_reducible refine wp_noflex rfl ?_ | with_reducible refine wr_start ?_ | with_reducible refine wt_tagged rfl rfl ?_ | (with_reducible refine wt_next rfl (by kernel_rfl) (fun d hd => ?_) ?_) | (with_reducible refine wt_fin rfl rfl ?_) | (with_reducible refine wt_end rfl (by kernel_rfl) ?_ ?_) | (with_reducible refine wt_ret (by kernel_rfl)) | with_reducible refine wr_tagged rfl rfl ?_ | (with_reducible refine wr_last rfl rfl (fun d hd => ?_)) | (with_reducible refine wr_next rfl (by kernel_rfl) (fun d hd => ?_) ?_) | (with_reducible refine wr_end rfl ?_) | (with_reducible refine wr_tail rfl (by kernel_rfl) k_uint32 (by kernel_rfl)) | (with_reducible refine wf_all rfl (by dsimp only; omega) ?_) | ((with_reducible refine wf_from rfl (by kernel_rfl) (fun hv => ?_)); try dsimp only at hv) | ((with_reducible refine wf_range rfl (by kernel_rfl) (fun hv hv2 => ?_)); try dsimp only at hv hv2) | (with_reducible refine wf_ptr rfl hd (by kernel_rfl) (by kernel_rfl) rfl (by kernel_rfl) (fun s => ?_)) | (with_reducible refine wf_load rfl hd (by kernel_rfl) (by kernel_rfl) rfl ?_) | (with_reducible refine wf_uuid rfl hd (by kernel_rfl) uuidZero (by kernel_rfl)) | (with_reducible refine wf_inner rfl hd (by kernel_rfl) (by kernel_rfl) rfl (fun s => ?_)) | (with_reducible refine wv_bool (by kernel_rfl)) | (with_reducible refine wv_i16 (by kernel_rfl)) | (with_reducible refine wv_i32 (by kernel_rfl)) | (with_reducible refine wv_i64 (by kernel_rfl)) | (with_reducible refine wv_u16 (by kernel_rfl)) | (with_reducible refine wv_flexS rfl (by kernel_rfl) (fun hx => ?_) (fun hx => ?_)) | (with_reducible refine wv_string rfl (by first | assumption | rfl) (by kernel_rfl)) | (with_reducible refine wv_cstring rfl (by first | assumption | rfl) (by kernel_rfl)) | (with_reducible refine wv_nstring rfl (by dsimp only; omega) (by first | assumption | rfl) (by kernel_rfl)) | (with_reducible refine wv_cnstring rfl (by dsimp only; omega) (by first | assumption | rfl) (by kernel_rfl)) | ((with_reducible refine wv_otext rfl (by kernel_rfl) (by kernel_rfl) (by kernel_rfl) (by kernel_rfl) rfl (fun l => ?_) (fun hv => ?_)); (try dsimp only at hv)) | (with_reducible refine wv_listS (fun oa n cap M => ?_) (by kernel_rfl) (by kernel_rfl) (by kernel_rfl) (by kernel_rfl) (fun s => ?_)) | (with_reducible refine wv_listK (fun oa n cap M => ?_) (by kernel_rfl) (by kernel_rfl) (by kernel_rfl) (by kernel_rfl) (fun d => ?_)) | (with_reducible refine wn_flex rfl (by kernel_rfl) (fun hx => ?_) (fun hx => ?_)) | ((with_reducible refine wn_ver (by kernel_rfl) (fun hv => ?_) (fun hv => ?_)) <;> try dsimp only at hv) | (with_reducible refine wn_plain (by dsimp only; omega) (by first | assumption | rfl) (by kernel_rfl) (by kernel_rfl)) | (with_reducible refine wn_cplain (by dsimp only; omega) (by first | assumption | rfl) (by kernel_rfl) (by kernel_rfl)) | (with_reducible refine wv_again (by kernel_rfl) rfl ?_)))
 ·refine wk_tags (te := 20) (i := 2) rfl rfl (by decide) (by kernel_rfl) (by decide) (fun d hd => ?_) (fun n hn => ?_) (fun d hd => ?_) ?_
  ·exact tk_list rfl hd (by kernel_rfl) rfl (by kernel_rfl) (by kernel_rfl)
  ·exact wk_len rfl (by kernel_rfl) rfl (by kernel_rfl) (by kernel_rfl) (by kernel_rfl) (by kernel_rfl) (by decide)
  ·refine wk_loop (by kernel_rfl) (by kernel_rfl) (fun hn => ?_) (by kernel_rfl) (by kernel_rfl) (by decide) (by decide)
   refine bk_isList rfl hd fun nil l hdl => ?_
   subst hdl
   refine bk_scope2 (la := 25) rfl hd (by kernel_rfl) rfl (by kernel_rfl) (by kernel_rfl) (by kernel_rfl) (by decide) (encF_listS l nil) ?_ ?_ ?_
   ·refine wv_listS1 fun oa n cap M => ?_
    (repeat' (first | with_reducible refine wt_start ?_ | with_reducible refine wp_noflex rfl ?_ | with_reducible refine wr_start ?_ | with_reducible refine wt_tagged rfl rfl ?_ | (with_reducible refine wt_next rfl (by kernel_rfl) (fun d hd => ?_) ?_) | (with_reducible refine wt_fin rfl rfl ?_) | (with_reducible refine wt_end rfl (by kernel_rfl) ?_ ?_) | (with_reducible refine wt_ret (by kernel_rfl)) | with_reducible refine wr_tagged rfl rfl ?_ | (with_reducible refine wr_last rfl rfl (fun d hd => ?_)) | (with_reducible refine wr_next rfl (by kernel_rfl) (fun d hd => ?_) ?_) | (with_reducible refine wr_end rfl ?_) | (with_reducible refine wr_tail rfl (by kernel_rfl) k_uint32 (by kernel_rfl)) | (with_reducible refine wf_all rfl (by dsimp only; omega) ?_) | ((with_reducible refine wf_from rfl (by kernel_rfl) (fun hv => ?_)); try dsimp only at hv) | ((with_reducible refine wf_range rfl (by kernel_rfl) (fun hv hv2 => ?_)); try dsimp only at hv hv2) | (with_reducible refine wf_ptr rfl hd (by kernel_rfl) (by kernel_rfl) rfl (by kernel_rfl) (fun s => ?_)) | (with_reducible refine wf_load rfl hd (by kernel_rfl) (by kernel_rfl) rfl ?_) | (with_reducible refine wf_uuid rfl hd (by kernel_rfl) uuidZero (by kernel_rfl)) | (with_reducible refine wf_inner rfl hd (by kernel_rfl) (by kernel_rfl) rfl (fun s => ?_)) | (with_reducible refine wv_bool (by kernel_rfl)) | (with_reducible refine wv_i16 (by kernel_rfl)) | (with_reducible refine wv_i32 (by kernel_rfl)) | (with_reducible refine wv_i64 (by kernel_rfl)) | (with_reducible refine wv_u16 (by kernel_rfl)) | (with_reducible refine wv_flexS rfl (by kernel_rfl) (fun hx => ?_) (fun hx => ?_)) | (with_reducible refine wv_string rfl (by first | assumption | rfl) (by kernel_rfl)) | (with_reducible refine wv_cstring rfl (by first | assumption | rfl) (by kernel_rfl)) | (with_reducible refine wv_nstring rfl (by dsimp only; omega) (by first | assumption | rfl) (by kernel_rfl)) | (with_reducible refine wv_cnstring rfl (by dsimp only; omega) (by first | assumption | rfl) (by kernel_rfl)) | ((with_reducible refine wv_otext rfl (by kernel_rfl) (by kernel_rfl) (by kernel_rfl) (by kernel_rfl) rfl (fun l => ?_) (fun hv => ?_)); (try dsimp only at hv)) | (with_reducible refine wv_listS (fun oa n cap M => ?_) (by kernel_rfl) (by kernel_rfl) (by kernel_rfl) (by kernel_rfl) (fun s => ?_)) | (with_reducible refine wv_listK (fun oa n cap M => ?_) (by kernel_rfl) (by kernel_rfl) (by kernel_rfl) (by kernel_rfl) (fun d => ?_)) | (with_reducible refine wn_flex rfl (by kernel_rfl) (fun hx => ?_) (fun hx => ?_)) | ((with_reducible refine wn_ver (by kernel_rfl) (fun hv => ?_) (fun hv => ?_)) <;> try dsimp only at hv) | (with_reducible refine wn_plain (by dsimp only; omega) (by first | assumption | rfl) (by kernel_rfl) (by kernel_rfl)) | (with_reducible refine wn_cplain (by dsimp only; omega) (by first | assumption | rfl) (by kernel_rfl) (by kernel_rfl)) | (with_reducible refine wv_again (by kernel_rfl) rfl ?_)))
   ·refine wv_listS2 (by kernel_rfl) (by kernel_rfl) (by kernel_rfl) (by kernel_rfl) (fun s => ?_)
    (repeat' (first | with_reducible refine wt_start ?_ | with_reducible refine wp_noflex rfl ?_ | with_reducible refine wr_start ?_ | with_reducible refine wt_tagged rfl rfl ?_ | (with_reducible refine wt_next rfl (by kernel_rfl) (fun d hd => ?_) ?_) | (with_reducible refine wt_fin rfl rfl ?_) | (with_reducible refine wt_end rfl (by kernel_rfl) ?_ ?_) | (with_reducible refine wt_ret (by kernel_rfl)) | with_reducible refine wr_tagged rfl rfl ?_ | (with_reducible refine wr_last rfl rfl (fun d hd => ?_)) | (with_reducible refine wr_next rfl (by kernel_rfl) (fun d hd => ?_) ?_) | (with_reducible refine wr_end rfl ?_) | (with_reducible refine wr_tail rfl (by kernel_rfl) k_uint32 (by kernel_rfl)) | (with_reducible refine wf_all rfl (by dsimp only; omega) ?_) | ((with_reducible refine wf_from rfl (by kernel_rfl) (fun hv => ?_)); try dsimp only at hv) | ((with_reducible refine wf_range rfl (by kernel_rfl) (fun hv hv2 => ?_)); try dsimp only at hv hv2) | (with_reducible refine wf_ptr rfl hd (by kernel_rfl) (by kernel_rfl) rfl (by kernel_rfl) (fun s => ?_)) | (with_reducible refine wf_load rfl hd (by kernel_rfl) (by kernel_rfl) rfl ?_) | (with_reducible refine wf_uuid rfl hd (by kernel_rfl) uuidZero (by kernel_rfl)) | (with_reducible refine wf_inner rfl hd (by kernel_rfl) (by kernel_rfl) rfl (fun s => ?_)) | (with_reducible refine wv_bool (by kernel_rfl)) | (with_reducible refine wv_i16 (by kernel_rfl)) | (with_reducible refine wv_i32 (by kernel_rfl)) | (with_reducible refine wv_i64 (by kernel_rfl)) | (with_reducible refine wv_u16 (by kernel_rfl)) | (with_reducible refine wv_flexS rfl (by kernel_rfl) (fun hx => ?_) (fun hx => ?_)) | (with_reducible refine wv_string rfl (by first | assumption | rfl) (by kernel_rfl)) | (with_reducible refine wv_cstring rfl (by first | assumption | rfl) (by kernel_rfl)) | (with_reducible refine wv_nstring rfl (by dsimp only; omega) (by first | assumption | rfl) (by kernel_rfl)) | (with_reducible refine wv_cnstring rfl (by dsimp only; omega) (by first | assumption | rfl) (by kernel_rfl)) | ((with_reducible refine wv_otext rfl (by kernel_rfl) (by kernel_rfl) (by kernel_rfl) (by kernel_rfl) rfl (fun l => ?_) (fun hv => ?_)); (try dsimp only at hv)) | (with_reducible refine wv_listS (fun oa n cap M => ?_) (by kernel_rfl) (by kernel_rfl) (by kernel_rfl) (by kernel_rfl) (fun s => ?_)) | (with_reducible refine wv_listK (fun oa n cap M => ?_) (by kernel_rfl) (by kernel_rfl) (by kernel_rfl) (by kernel_rfl) (fun d => ?_)) | (with_reducible refine wn_flex rfl (by kernel_rfl) (fun hx => ?_) (fun hx => ?_)) | ((with_reducible refine wn_ver (by kernel_rfl) (fun hv => ?_) (fun hv => ?_)) <;> try dsimp only at hv) | (with_reducible refine wn_plain (by dsimp only; omega) (by first | assumption | rfl) (by kernel_rfl) (by kernel_rfl)) | (with_reducible refine wn_cplain (by dsimp only; omega) (by first | assumption | rfl) (by kernel_rfl) (by kernel_rfl)) | (with_reducible refine wv_again (by kernel_rfl) rfl ?_)))
   ·intro a w base v bs l hN h1 hown hb gla hl1 hl2
    replace hN : a.tmps.size = 282 := hN
    obtain ⟨r1, r2, r3, r4, r5, r6⟩ := rz_vals hown
    refine wp_ord (fun k => v.ownBlock = some k) zaR (by kernel_rfl) ?_
    (repeat (first | (refine wf_p rfl rfl ?_ ?_ ?_ ?_; (· first | exact rdX_no | (refine ⟨?_⟩; simp [rxb]; done)); (· simp [qef, hN, seval, h1, gla, r1, r2, r3, r4, fo] <;> omega); (· kernel_rfl); try simp only [qec, hN, seval, h1, gla, r1, r2, r3, r4, fo]) | (refine wf_pg rfl rfl rfl ?_ rfl ?_ ?_ ?_ ?_; (· simp [qec, hN, seval, h1, gla, r1, r2, r3, r4, fo]; done); (· first | exact rdX_no | (refine ⟨?_⟩; simp [rxb]; done)); (· simp [qef, hN, seval, h1, gla, r1, r2, r3, r4, fo] <;> omega); (· kernel_rfl); try simp only [qec, hN, seval, h1, gla, r1, r2, r3, r4, fo]) | (refine wf_gno rfl rfl rfl ?_ ?_; (· simp [qec, hN, seval, h1, gla, r1, r2, r3, r4, fo]; done); try simp only [qec, hN, seval, h1, gla, r1, r2, r3, r4, fo]) | (refine wf_gnoU rfl rfl rfl ?_ ?_; (· simp [qec, hN, seval, h1, gla, r1, r2, r3, r4, fo]; done); try simp only [qec, hN, seval, h1, gla, r1, r2, r3, r4, fo])))
    refine wf_call (fun args w => Tryz.call49 args w) rfl (by simp only [List.map_toArray, List.map_cons, List.map_nil]; simp only [qec, hN, seval, cvt, u32_mod]; exact zbc (l.length % 4294967296) (Nat.mod_lt _ (by omega)) _ base _ bs (r5.chg (Chg.drew (fun _ => False) _) fun _ _ h => h) hl2 hb trivial) ?_
    intro v2 w2 ha
    have hc : Chg (fun k => v.ownBlock = some k) w w2 := ((Chg.drew (fun _ => False) _).mono fun _ _ h => h.elim).trans (ha.chg.mono fun k _ h => by rwa [r6] at h) fun _ _ h => h
    refine ⟨hc, ?_⟩
    (repeat (first | (refine wf_p rfl rfl ?_ ?_ ?_ ?_; (· first | exact rdX_no | (refine ⟨?_⟩; simp [rxb]; done)); (· simp [qef, hN, seval] <;> omega); (· kernel_rfl); try simp only [qec, hN, seval]) | (refine wf_pg rfl rfl rfl ?_ rfl ?_ ?_ ?_ ?_; (· simp [qec, hN, seval]; done); (· first | exact rdX_no | (refine ⟨?_⟩; simp [rxb]; done)); (· simp [qef, hN, seval] <;> omega); (· kernel_rfl); try simp only [qec, hN, seval]) | (refine wf_gno rfl rfl rfl ?_ ?_; (· simp [qec, hN, seval]; done); try simp only [qec, hN, seval]) | (refine wf_gnoU rfl rfl rfl ?_ ?_; (· simp [qec, hN, seval]; done); try simp only [qec, hN, seval])))
    refine wf_nil (by decide) ⟨?_, ?_⟩
    ·(repeat (first | (with_reducible refine zar.put0 ?_ _) | ((with_reducible refine zar.put ?_ ?_ _); rotate_left; (· decide)))); exact zar.refl _ _
    ·simp only [qec, hN, seval]
     refine ⟨ha.own, hc, ?_⟩
     rcases ha.blk with h | ⟨g, g1, g2⟩
     ·exact .inl (h.trans r6)
     ·exact .inr ⟨g, g1, g2⟩
  ·exact wk_each rfl (by kernel_rfl) rfl (by kernel_rfl)
set_option maxHeartbeats 2000000
theorem lay_sVoteResponseTopicPartition : LaysS 40 sch_sVoteResponseTopicPartition := by
 intro w0
 refine zaq Tryz.func40 rfl rfl Tryz.ntmps40 (by simp) ?_
 intro a hN hD ha
 refine qsr fun K hK => ?_; refine zah ?_; simp only [qea, hN, seval]; refine zaa (hK _ _ ?_); clear hK K
 refine qsr fun K hK => ?_
 have hq : Chg (fun _ => False) w0 w0 := Chg.refl _ _
 refine wl_build (l := za3 (.mk .i32 0 (-1) (-1) (-1) 0 .bool []) (.slice none 0 0)) (by simp only [qea, List.map_toArray, List.map_cons, List.map_nil, hN, seval]; kernel_rfl) ?_
 refine wl_build (l := za3 (.mk .i16 0 (-1) (-1) (-1) 0 .bool []) (.slice none 0 0)) (by simp only [qea, List.map_toArray, List.map_cons, List.map_nil, hN, seval]; kernel_rfl) ?_
 refine wl_build (l := za3 (.mk .i32 0 (-1) (-1) (-1) 0 .bool []) (.slice none 0 0)) (by simp only [qea, List.map_toArray, List.map_cons, List.map_nil, hN, seval]; kernel_rfl) ?_
 refine wl_build (l := za3 (.mk .i32 0 (-1) (-1) (-1) 0 .bool []) (.slice none 0 0)) (by simp only [qea, List.map_toArray, List.map_cons, List.map_nil, hN, seval]; kernel_rfl) ?_
 refine wl_build (l := za3 (.mk .bool 0 (-1) (-1) (-1) 0 .bool []) (.slice none 0 0)) (by simp only [qea, List.map_toArray, List.map_cons, List.map_nil, hN, seval]; kernel_rfl) ?_
 refine wl_fields sch_sVoteResponseTopicPartition [za3 (.mk .i32 0 (-1) (-1) (-1) 0 .bool []) (.slice none 0 0), za3 (.mk .i16 0 (-1) (-1) (-1) 0 .bool []) (.slice none 0 0), za3 (.mk .i32 0 (-1) (-1) (-1) 0 .bool []) (.slice none 0 0), za3 (.mk .i32 0 (-1) (-1) (-1) 0 .bool []) (.slice none 0 0), za3 (.mk .bool 0 (-1) (-1) (-1) 0 .bool []) (.slice none 0 0)] rfl (by simp only [qea, List.map_toArray, List.map_cons, List.map_nil, hN, seval]; rfl) (by simp only [List.length_cons, List.length_nil]; omega) hq (.cons (zbg (.mk .i32 0 (-1) (-1) (-1) 0 .bool []) (schS_nil _ _ _ _)) (.cons (zbg (.mk .i16 0 (-1) (-1) (-1) 0 .bool []) (schS_nil _ _ _ _)) (.cons (zbg (.mk .i32 0 (-1) (-1) (-1) 0 .bool []) (schS_nil _ _ _ _)) (.cons (zbg (.mk .i32 0 (-1) (-1) (-1) 0 .bool []) (schS_nil _ _ _ _)) (.cons (zbg (.mk .bool 0 (-1) (-1) (-1) 0 .bool []) (schS_nil _ _ _ _)) (.nil)))))) ?_
 rintro v wF hcF hkF hsF rfl
 refine zah ?_
 simp only [qea, hN, seval]
 refine zaa (hK _ _ ?_); clear hK K
 refine wp_ret ⟨by simp [zab, hD], ?_⟩; simp only [qea, hN, seval]
 exact ⟨hsF, hcF⟩
theorem lay_sVoteResponseTopic : LaysS 19 sch_sVoteResponseTopic := by
 intro w0
 refine zaq Tryz.func19 rfl rfl Tryz.ntmps19 (by simp) ?_
 intro a hN hD ha
 refine qsr fun K hK => ?_; refine zah ?_; simp only [qea, hN, seval]; refine zaa (hK _ _ ?_); clear hK K
 refine qsr fun K hK => ?_
 have hq : Chg (fun _ => False) w0 w0 := Chg.refl _ _
 refine wl_build (l := za3 (.mk .text 0 (-1) (-1) (-1) 0 .bool []) (.slice none 0 0)) (by simp only [qea, List.map_toArray, List.map_cons, List.map_nil, hN, seval]; kernel_rfl) ?_
 refine zaz (fun args w => Tryz.call40 args w) (by simp only [List.map_toArray, List.map_nil]; exact lay_sVoteResponseTopicPartition _) ?_
 rintro v1 w1 ⟨hs1, hk1⟩
 replace hs1 := hs1.later (Chg.refl _ _) hq.size
 replace hq := hq.trans hk1 fun _ _ h => h
 obtain ⟨oa1, cap1, rfl, _⟩ := id hs1
 refine wl_build (l := za3 (.mk .list 0 (-1) (-1) (-1) 0 .struct sch_sVoteResponseTopicPartition) (.slice oa1 (sch_sVoteResponseTopicPartition).length cap1)) (by simp only [qea, List.map_toArray, List.map_cons, List.map_nil, hN, seval]; kernel_rfl) ?_
 refine wl_fields sch_sVoteResponseTopic [za3 (.mk .text 0 (-1) (-1) (-1) 0 .bool []) (.slice none 0 0), za3 (.mk .list 0 (-1) (-1) (-1) 0 .struct sch_sVoteResponseTopicPartition) (.slice oa1 (sch_sVoteResponseTopicPartition).length cap1)] rfl (by simp only [qea, List.map_toArray, List.map_cons, List.map_nil, hN, seval]; rfl) (by simp only [List.length_cons, List.length_nil]; omega) hq (.cons (zbg (.mk .text 0 (-1) (-1) (-1) 0 .bool []) (schS_nil _ _ _ _)) (.cons (zbg (.mk .list 0 (-1) (-1) (-1) 0 .struct sch_sVoteResponseTopicPartition) hs1) (.nil))) ?_
 rintro v wF hcF hkF hsF rfl
 refine zah ?_
 simp only [qea, hN, seval]
 refine zaa (hK _ _ ?_); clear hK K
 refine wp_ret ⟨by simp [zab, hD], ?_⟩; simp only [qea, hN, seval]
 exact ⟨hsF, hcF⟩
theorem lay_sVoteResponseNodeEndpoint : LaysS 20 sch_sVoteResponseNodeEndpoint := by
 intro w0
 refine zaq Tryz.func20 rfl rfl Tryz.ntmps20 (by simp) ?_
 intro a hN hD ha
 refine qsr fun K hK => ?_; refine zah ?_; simp only [qea, hN, seval]; refine zaa (hK _ _ ?_); clear hK K
 refine qsr fun K hK => ?_
 have hq : Chg (fun _ => False) w0 w0 := Chg.refl _ _
 refine wl_build (l := za3 (.mk .i32 1 (-1) (-1) (-1) 0 .bool []) (.slice none 0 0)) (by simp only [qea, List.map_toArray, List.map_cons, List.map_nil, hN, seval]; kernel_rfl) ?_
 refine wl_build (l := za3 (.mk .text 1 (-1) (-1) (-1) 0 .bool []) (.slice none 0 0)) (by simp only [qea, List.map_toArray, List.map_cons, List.map_nil, hN, seval]; kernel_rfl) ?_
 refine wl_build (l := za3 (.mk .u16 1 (-1) (-1) (-1) 0 .bool []) (.slice none 0 0)) (by simp only [qea, List.map_toArray, List.map_cons, List.map_nil, hN, seval]; kernel_rfl) ?_
 refine wl_fields sch_sVoteResponseNodeEndpoint [za3 (.mk .i32 1 (-1) (-1) (-1) 0 .bool []) (.slice none 0 0), za3 (.mk .text 1 (-1) (-1) (-1) 0 .bool []) (.slice none 0 0), za3 (.mk .u16 1 (-1) (-1) (-1) 0 .bool []) (.slice none 0 0)] rfl (by simp only [qea, List.map_toArray, List.map_cons, List.map_nil, hN, seval]; rfl) (by simp only [List.length_cons, List.length_nil]; omega) hq (.cons (zbg (.mk .i32 1 (-1) (-1) (-1) 0 .bool []) (schS_nil _ _ _ _)) (.cons (zbg (.mk .text 1 (-1) (-1) (-1) 0 .bool []) (schS_nil _ _ _ _)) (.cons (zbg (.mk .u16 1 (-1) (-1) (-1) 0 .bool []) (schS_nil _ _ _ _)) (.nil)))) ?_
 rintro v wF hcF hkF hsF rfl
 refine zah ?_
 simp only [qea, hN, seval]
 refine zaa (hK _ _ ?_); clear hK K
 refine wp_ret ⟨by simp [zab, hD], ?_⟩; simp only [qea, hN, seval]
 exact ⟨hsF, hcF⟩
theorem lay_VoteResponse : LaysM 8 sch_VoteResponse 0 := by
 intro w
 refine callsR_ofC Tryz.func8 rfl rfl (by kernel_rfl) Tryz.ntmps8 (by simp) ?_
 intro a hN hD ha
 refine qsr fun K hK => ?_
 refine wl_allocA (z := zaZ [.slice none 0 0, .int .i64 0]) (fun w => Tryz.zeroValue32 w) fun w0 hc0 hb0 hs0 => ?_
 refine zaa (hK _ _ ?_); clear hK K
 refine qsr fun K hK => ?_
 have hq : Chg (fun _ => False) w0 w0 := Chg.refl _ _
 refine wl_build (l := za3 (.mk .i16 0 (-1) (-1) (-1) 0 .bool []) (.slice none 0 0)) (by simp only [qea, List.map_toArray, List.map_cons, List.map_nil, hN, seval]; kernel_rfl) ?_
 refine zaz (fun args w => Tryz.call19 args w) (by simp only [List.map_toArray, List.map_nil]; exact lay_sVoteResponseTopic _) ?_
 rintro v1 w1 ⟨hs1, hk1⟩
 replace hs1 := hs1.later (Chg.refl _ _) hq.size
 replace hq := hq.trans hk1 fun _ _ h => h
 obtain ⟨oa1, cap1, rfl, _⟩ := id hs1
 refine wl_build (l := za3 (.mk .list 0 (-1) (-1) (-1) 0 .struct sch_sVoteResponseTopic) (.slice oa1 (sch_sVoteResponseTopic).length cap1)) (by simp only [qea, List.map_toArray, List.map_cons, List.map_nil, hN, seval]; kernel_rfl) ?_
 refine zaz (fun args w => Tryz.call20 args w) (by simp only [List.map_toArray, List.map_nil]; exact lay_sVoteResponseNodeEndpoint _) ?_
 rintro v2 w2 ⟨hs2, hk2⟩
 replace hs2 := hs2.later (Chg.refl _ _) hq.size
 replace hs1 := hs1.later hk2 (Nat.le_refl _)
 replace hq := hq.trans hk2 fun _ _ h => h
 obtain ⟨oa2, cap2, rfl, _⟩ := id hs2
 refine wl_build (l := za3 (.mk .list 0 (-1) (-1) 0 0 .struct sch_sVoteResponseNodeEndpoint) (.slice oa2 (sch_sVoteResponseNodeEndpoint).length cap2)) (by simp only [qea, List.map_toArray, List.map_cons, List.map_nil, hN, seval]; kernel_rfl) ?_
 refine wl_fields sch_VoteResponse [za3 (.mk .i16 0 (-1) (-1) (-1) 0 .bool []) (.slice none 0 0), za3 (.mk .list 0 (-1) (-1) (-1) 0 .struct sch_sVoteResponseTopic) (.slice oa1 (sch_sVoteResponseTopic).length cap1), za3 (.mk .list 0 (-1) (-1) 0 0 .struct sch_sVoteResponseNodeEndpoint) (.slice oa2 (sch_sVoteResponseNodeEndpoint).length cap2)] rfl (by simp only [qea, List.map_toArray, List.map_cons, List.map_nil, hN, seval]; rfl) (by simp only [List.length_cons, List.length_nil]; omega) hq (.cons (zbg (.mk .i16 0 (-1) (-1) (-1) 0 .bool []) (schS_nil _ _ _ _)) (.cons (zbg (.mk .list 0 (-1) (-1) (-1) 0 .struct sch_sVoteResponseTopic) hs1) (.cons (zbg (.mk .list 0 (-1) (-1) 0 0 .struct sch_sVoteResponseNodeEndpoint) hs2) (.nil)))) ?_
 rintro v wF hcF hkF hsF rfl
 refine wl_build (l := [.slice (some ⟨w2.heap.size, 0, none⟩) (sch_VoteResponse).length (sch_VoteResponse).length, .int .i64 0]) (by simp only [qea, List.map_toArray, List.map_cons, List.map_nil, hN, seval]; kernel_rfl) ?_
 have hbF := hb0.chg hcF (fun h => h)
 refine zbh (b := w.heap.size) (n := 2) (l' := [.slice (some ⟨w2.heap.size, 0, none⟩) (sch_VoteResponse).length (sch_VoteResponse).length, .int .i64 0]) (by kernel_rfl) (by simp [qed, hN]) (by simp [qed, hN]) hbF rfl (by intro y hy; simp only [List.mem_cons, List.not_mem_nil, or_false] at hy; rcases hy with rfl | rfl <;> rfl) rfl fun wE hbE hcE => ?_
 refine zaa (hK _ _ ?_); clear hK K
 refine wp_ret ⟨by simp [zab, hD], w.heap.size, _, _, by simp only [qea, hN, seval], hbE, by kernel_rfl, ⟨_, rfl, SchS.stay ⟨fun k hk hg => ⟨hcE.block k hk (by omega), by omega⟩⟩ hsF, ?_⟩⟩
 exact (hc0.trans hcF fun _ _ h => h).trans hcE fun k hk h => by omega
theorem new_VoteResponse : NewsPtr 16 dd_VoteResponse :=
 newptr_of dd_VoteResponse dd_VoteResponse Tryz.func16 rfl rfl Tryz.ntmps16 (by kernel_rfl) (fun w => Tryz.zeroValue67 w) (fun args w => Tryz.call31 args w) defm_VoteResponse
theorem max_VoteResponse : MaxIs 6 2 := by
 intro w
 refine zaq Tryz.func6 rfl rfl Tryz.ntmps6 (by simp) ?_
 intro a hN hD ha
 refine qsr fun K hK => ?_; refine zah ?_; refine zaa (hK _ _ ?_); clear hK K
 refine qsr fun K hK => ?_
 refine zaz (fun args w => Tryz.call16 args w) (by simp only [List.map_toArray, List.map_nil]; exact new_VoteResponse w) ?_
 rintro v w1 ⟨rfl, hc, _⟩
 refine zaz (fun args w => Tryz.call17 args w) (by simp only [List.map_toArray, List.map_cons, List.map_nil]; simp only [qea, hN, seval]; exact maxver_of Tryz.func17 rfl rfl Tryz.ntmps17 (by kernel_rfl) _ w1) ?_
 rintro _ w2 ⟨rfl, rfl⟩
 (repeat ((first | ((with_reducible refine zaw ?_ ?_ ?_ ?_); (· rfl); (· simp [qee, hN] <;> omega); (· kernel_rfl)) | ((with_reducible refine qlS ?_ ?_ ?_); (· simp [qed, hN]); (· kernel_rfl))); try simp only [qeb, hN, seval]))
 refine zaa (hK _ _ ?_); clear hK K; refine wp_ret ⟨by simp [zab, hD], ?_⟩; simp only [qea, hN, seval]
 exact ⟨by first | rfl | trivial, hc⟩
theorem setv_VoteResponse : SetsVersion 21 := setver_of Tryz.func21 rfl rfl Tryz.ntmps21 (by kernel_rfl)
theorem from_VoteResponse : ReadsFrom 22 41 := fun h => readfrom_c Tryz.func22 rfl rfl Tryz.ntmps22 (fun args w => Tryz.call41 args w) h
theorem ag_VoteResponse : AgCc 10 (fun ver => decide (0 ≤ ver)) 2 sch_VoteResponse := fun ver h0 h1 w G oa bs cap hsrc hlim herr hokS hout =>
 again_ofc Tryz.func10 rfl rfl Tryz.ntmps10 (fun args w => Tryz.call16 args w) (fun args w => Tryz.call21 args w) (fun args w => Tryz.call22 args w) (fun args w => Tryz.call23 args w) new_VoteResponse setv_VoteResponse from_VoteResponse read_VoteResponse app_VoteResponse h0 (by omega) hsrc hlim herr hokS hout
theorem ok_VoteResponse : SchOK (fun ver => decide (0 ≤ ver)) 2 sch_VoteResponse := schB_out (by kernel_rfl)
theorem walk_FnAgainVoteResponse {a : Int} (hn : 0 ≤ a) (hn2 : a < 256) {w : World} {G : Nat → Prop} {v : Tr} {ts : List Value} (hv : TrC w G v ts) (hkv : keyV v) (hb : za8 v ≤ 1048576) (herr : ErrW w) :
  zaF Tryz.prog 3 #[.int .u8 a, zaZ ts] w fun v w' => v = .bool true ∧ Chg (fun _ => False) w w' :=
 lawAgain_ofc Tryz.func3 rfl rfl (by kernel_rfl) rfl Tryz.ntmps3 (fun args w => Tryz.call6 args w) (fun args w => Tryz.call8 args w) (fun args w => Tryz.call10 args w) max_VoteResponse lay_VoteResponse ag_VoteResponse (by decide) (fun ver _ => by simp) ok_VoteResponse hn hn2 hv hkv hb herr
namespace fnAgainVoteResponse
set_option maxHeartbeats 1000000
theorem laid_met (os : Os) : laidMet Tryz.prog Rows.fnAgainVoteResponseUptoRow.laid ((laidWorld os).forCall (fun _ _ => 0) ⟨#[], #[.int .u8 0, .agg #[.int .i64 0, .slice none 0 0, .bool false, .slice none 0 0, .slice none 0 0]], []⟩).memory :=
 laidMet_of_run' 8 (by kernel_rfl) (by kernel_rfl)
theorem witness_row (os : Os) {H : Type} (enc : TypeId × Value → H) :
  (Rows.OpenSpec.upto Rows.fnAgainVoteResponseSpec).preRow enc Tryz.prog Tryz.f3 Rows.fnAgainVoteResponseUptoRow.domain false Rows.fnAgainVoteResponseUptoRow.laid ((laidWorld os).forCall (fun _ _ => 0) ⟨#[], #[.int .u8 0, .agg #[.int .i64 0, .slice none 0 0, .bool false, .slice none 0 0, .slice none 0 0]], []⟩).memory #[.int .u8 0, .agg #[.int .i64 0, .slice none 0 0, .bool false, .slice none 0 0, .slice none 0 0]] := by
 have hw : (DataW.whole enc Tryz.prog ((laidWorld os).forCall (fun _ _ => 0) ⟨#[], #[.int .u8 0, .agg #[.int .i64 0, .slice none 0 0, .bool false, .slice none 0 0, .slice none 0 0]], []⟩).memory Tryz.f3.params.toList Rows.fnAgainVoteResponseSpec.vars false (#[.int .u8 0, .agg #[.int .i64 0, .slice none 0 0, .bool false, .slice none 0 0, .slice none 0 0]] : Array Value).toList 8).map (fun x => (decide (Rows.uptoBulkAll (x.1 ++ x.2.1) ≤ 1048576))) = some true := by kernel_rfl
 obtain ⟨⟨x1, x2, x3⟩, hx, hx1⟩ := Option.map_eq_some_iff.1 hw
 exact OpenSpec.preRow_of_cond 8 hx (by kernel_rfl) (fun k hk => by cases hk; exact hx1) (by kernel_rfl) (laid_met os)
theorem lifted (os : Os) (started : os.Started) (H : Type) (enc : TypeId × Value → H) (F : Stop.Interp) :
  ReturnsInHanded {} Tryz.checked os 3 .any ((Rows.OpenSpec.upto Rows.fnAgainVoteResponseSpec).preRow enc Tryz.prog Tryz.f3 Rows.fnAgainVoteResponseUptoRow.domain false Rows.fnAgainVoteResponseUptoRow.laid) (((Rows.OpenSpec.upto Rows.fnAgainVoteResponseSpec).at F).post enc Tryz.prog Tryz.f3 false true false false) := by
 refine returnsInHanded_of_row (C := Tryz.checked) (s := Rows.OpenSpec.upto Rows.fnAgainVoteResponseSpec) own started (by kernel_rfl) Tryz.func3
  (witness_row_atRef (enc := enc) (C := Tryz.checked) false (laidWorld os) #[.int .u8 0, .agg #[.int .i64 0, .slice none 0 0, .bool false, .slice none 0 0, .slice none 0 0]] rfl (by kernel_rfl) (by kernel_rfl) (by kernel_rfl) (witness_row os enc)) ?_
 intro W base args ds gs before hval0 hW _ hcond _ hL _ _
 have hval : ∀ (j : Nat) t v, Tryz.f3.params[j]? = some t → args[j]? = some v → Value.okWide Tryz.prog W .any base t v := hval0
 have hW' := hW
 obtain ⟨p, q, hA0, hV, rfl, hfz, hnd⟩ := hW
 have hA : DataW.TrodAll enc Tryz.prog W 0 (fun _ => true) true Tryz.f3.params.toList args.toList ds p := hA0
 rw [Tryz.params3] at hA hval
 obtain ⟨v0, vs0, d0, ds0, p0, q0, hargs, rfl, rfl, h0, r0⟩ := trodAll_cons hA
 obtain ⟨v1, vs1, d1, ds1, p1, q1, rfl, rfl, rfl, h1, r1⟩ := trodAll_cons r0
 obtain ⟨rfl, rfl, rfl⟩ := trodAll_nil r1
 obtain rfl : args = #[v0, v1] := by cases args; simp_all
 obtain ⟨rfl, rfl⟩ := trodVars_none hV
 simp only [List.append_nil] at hW' hcond
 have hbulk := hcond _ rfl
 replace hbulk := of_decide_eq_true hbulk
 simp only [Rows.uptoBulkAll] at hbulk
 have hlt : ∀ x ∈ _, MemPlace.block x < W.heap.size := fun x hx => hW'.lt x hx
 obtain ⟨a0, rfl, rfl, rfl, x0⟩ := open_int Tryz.underlying5 (hval 0 5 v0 rfl rfl) h0
 have y0 : 0 ≤ a0 ∧ a0 < 256 := by have h := x0; simp only [Lit.wf, IntKind.min, IntKind.max, IntKind.signed, IntKind.bits, Bool.and_eq_true, decide_eq_true_eq] at h; simp at h; omega
 obtain ⟨ts, T, rfl, hT, hkey, hbT⟩ := tree_arg (hval 1 26 v1 rfl rfl) h1 (by omega)
 clear hA0 hval0
 refine Calls.mono (walk_FnAgainVoteResponse y0.1 y0.2 hT hkey hbT (errW_of hL)) fun e W' ⟨v, he, hv, hc⟩ => ?_
 subst he
 subst hv
 exact ⟨_, rfl, _, _, _, [], _, [], hW', trodAll_cons_mk (shut_bool Tryz.underlying4 _) trodAll_mk0, trodAll_cons_mk (shut_int Tryz.underlying5 x0) (trodAll_cons_mk (tree_same h1 hc (fun x hx => hlt x (by simp [hx]))) (trodAll_mk0)), rfl, (below_of hc).frame _, fun h => by cases h⟩
theorem c2 : (Rows.fnAgainVoteResponseUptoRow.inPlace == Tryz.prog.inPlace 3) = true := by kernel_rfl
theorem c3 : (Rows.fnAgainVoteResponseUptoRow.unfollowed == Tryz.prog.unfollowed 3) = true := by kernel_rfl
theorem c4 : (Rows.fnAgainVoteResponseUptoRow.recurses == Tryz.prog.recurses 3) = true := by kernel_rfl
theorem c5 : (Rows.fnAgainVoteResponseUptoRow.named == Tryz.prog.varsNamed 3) = true := by kernel_rfl
theorem c7 : (Rows.fnAgainVoteResponseUptoRow.lifted == Tryz.prog.liftsFinal) = true := by
 have h : Rows.fnAgainVoteResponseUptoRow.lifted = Facts.lifted := rfl
 rw [h]; exact Facts.c7
theorem c8 : (Tryz.prog.make == some Rows.fnAgainVoteResponseUptoRow.make) = true := by
 have h : Rows.fnAgainVoteResponseUptoRow.make = Facts.make := rfl
 rw [h]; exact Facts.c8
theorem c9 : (Rows.fnAgainVoteResponseUptoRow.plainKeys == Tryz.prog.plainKeys) = true := by
 have h : Rows.fnAgainVoteResponseUptoRow.plainKeys = Facts.plainKeys := rfl
 rw [h]; exact Facts.c9
theorem c11 : Tryz.prog.funcNamed Rows.fnAgainVoteResponseUptoRow.func = some 3 := by kernel_rfl
theorem closed : joinedFacts Tryz.prog 3 Tryz.f3 (Rows.OpenSpec.upto Rows.fnAgainVoteResponseSpec).bare Rows.fnAgainVoteResponseUptoRow = true := by
 unfold joinedFacts
 simp only [Bool.and_eq_true]
 repeat' (refine And.intro ?_ ?_)
 all_goals first | with_reducible exact Facts.c1 | with_reducible exact Facts.c0 | with_reducible exact c2 | with_reducible exact c3 | with_reducible exact c4 | with_reducible exact c5 | with_reducible exact Facts.c6 | with_reducible exact c7 | with_reducible exact c8 | with_reducible exact c9 | with_reducible exact Facts.c10 | kernel_rfl
theorem over : Rows.FnAgainVoteResponseUptoSaid :=
 OpenClaim.holds_of_cond 3 Tryz.f3 rfl rfl rfl rfl rfl rfl rfl ⟨rfl, rfl, rfl, rfl, rfl⟩ rfl rfl rfl rfl rfl c11 Tryz.func3 closed
  (of_decide_eq_true (by kernel_rfl)) (by unfold Func.isWrapper; first | (rw [if_pos (by decide +kernel)]; kernel_rfl) | (rw [if_neg (by decide +kernel)]; exact ⟨rfl, rfl⟩))
  (fun os started H enc _ F => by rw [OpenClaim.pre_eq_preRow]; exact lifted os started H enc F)
theorem plain (f : FuncId) (fn : Func) (hf : Tryz.pinned.checked.prog.funcNamed "pub-kmsg/laws.FnAgainVoteResponse" = some f) (hfn : Tryz.pinned.checked.prog.funcs[f]? = some fn) :
  false = Tryz.pinned.checked.prog.looks [] ∧ ∀ (j : Nat) t, fn.params[j]? = some t → Tryz.pinned.checked.prog.wantsStandIn t = false := by
 obtain rfl : f = 3 := Option.some.inj ((show Tryz.prog.funcNamed "pub-kmsg/laws.FnAgainVoteResponse" = some 3 by kernel_rfl).symm.trans hf) |>.symm
 obtain rfl : fn = Tryz.f3 := (Option.some.inj (Tryz.func3.symm.trans hfn)).symm
 refine ⟨by kernel_rfl, fun j t ht => ?_⟩
 rw [Tryz.params3] at ht
 have hw0 : Tryz.prog.wantsStandIn 5 = false := by kernel_rfl
 have hw1 : Tryz.prog.wantsStandIn 26 = false := by kernel_rfl
 have hm := Array.mem_of_getElem? ht
 simp only [List.mem_toArray, List.mem_cons, List.not_mem_nil, or_false] at hm
 rcases hm with rfl | rfl <;> assumption
end fnAgainVoteResponse
theorem fnAgainVoteResponse_holds : Rows.FnAgainVoteResponseUptoCardSaid :=
 Claim7.holds_tied_plain_at .later [] _ _ _ _ fnAgainVoteResponse.over (fun _ h => by cases h) (by kernel_rfl) (fun _ h => by cases h) fnAgainVoteResponseUpto_row_tie rfl ⟨rfl, rfl⟩ (by kernel_rfl) rfl fnAgainVoteResponse.plain (by kernel_rfl)
#print axioms fnAgainVoteResponse_holds
end Go.Proofs.YtnjjfpgpookjlaaGreatDoor

/-
What is read of any bytes as a EndQuorumEpochResponse is written as bytes that are read again, and written as the same: for every input of bulk at most 1048576 the law returns true. Conditions: the listed variable holds what the text lays (tied by the card).
-/
import Derived.Test.YtojpodeljpfgaabDoorZE
import Derived.Test.YtojpodeljpfgaabDoorZM
import Derived.Test.YtojpodeljpfgaabDoorZW
import Derived.Test.YtojpodeljpfgaabDoorZ1
import Derived.Test.YtojpodeljpfgaabDoorZB
import Derived.Test.YtojpodeljpfgaabDoorZY
import Derived.Test.YtojpodeljpfgaabDoorZF
import Derived.Test.YtojpodeljpfgaabDoorZP
namespace Go.Proofs.YtojpodeljpfgaabDoor
set_option linter.all false
open Go.RowKit
set_option maxRecDepth 100000
set_option maxHeartbeats 2000000
def sch_sEndQuorumEpochResponseTopicPartition : List Fld := [.mk .i32 0 (-1) (-1) (-1) 0 .bool [], .mk .i16 0 (-1) (-1) (-1) 0 .bool [], .mk .i32 0 (-1) (-1) (-1) 0 .bool [], .mk .i32 0 (-1) (-1) (-1) 0 .bool []]
def sch_sEndQuorumEpochResponseTopic : List Fld := [.mk .text 0 (-1) (-1) (-1) 0 .bool [], .mk .list 0 (-1) (-1) (-1) 0 .struct sch_sEndQuorumEpochResponseTopicPartition]
def sch_sEndQuorumEpochResponseNodeEndpoint : List Fld := [.mk .i32 1 (-1) (-1) (-1) 0 .bool [], .mk .text 1 (-1) (-1) (-1) 0 .bool [], .mk .u16 1 (-1) (-1) (-1) 0 .bool []]
def sch_EndQuorumEpochResponse : List Fld := [.mk .i16 0 (-1) (-1) (-1) 0 .bool [], .mk .list 0 (-1) (-1) (-1) 0 .struct sch_sEndQuorumEpochResponseTopic, .mk .list 0 (-1) (-1) 0 0 .struct sch_sEndQuorumEpochResponseNodeEndpoint]
def zz_sEndQuorumEpochResponseTopicPartition : List Value := [.int .i32 0, .int .i16 0, .int .i32 0, .int .i32 0, .map none]
def dd_sEndQuorumEpochResponseTopicPartition : List Value := [.int .i32 0, .int .i16 0, .int .i32 0, .int .i32 0, .map none]
theorem elz_sEndQuorumEpochResponseTopicPartition : ∀ e, (Tryd.prog).underlying 49 = some (.slice e) → zeroB Tryd.prog e (aggOf zz_sEndQuorumEpochResponseTopicPartition) := by
  intro e he
  have h : (Tryd.prog).underlying 49 = some (.slice 55) := by kernel_rfl
  rw [h] at he; cases he
  exact fun w => Tryd.zeroValue55 w
theorem eln_sEndQuorumEpochResponseTopicPartition : zaK Tryd.prog 35 := (fun args w => Tryd.call35 args w)
theorem eld_sEndQuorumEpochResponseTopicPartition : DefC 35 (aggOf zz_sEndQuorumEpochResponseTopicPartition).cells.toList dd_sEndQuorumEpochResponseTopicPartition := by
  intro w b off cs T hb hlen hseg
  refine callsR_of0 Tryd.func35 rfl rfl Tryd.ntmps35 (by simp) ?_
  intro a hN hD ha
  refine wp_skip ⟨hD, ?_, Chg.refl _ _⟩
  have e : zas cs off dd_sEndQuorumEpochResponseTopicPartition = cs := splice_same hseg hlen
  rw [e]; exact hb
def zz_sEndQuorumEpochResponseTopic : List Value := [.string ⟨#[]⟩, .slice none 0 0, .map none]
def dd_sEndQuorumEpochResponseTopic : List Value := [.string ⟨#[]⟩, .slice none 0 0, .map none]
theorem elz_sEndQuorumEpochResponseTopic : ∀ e, (Tryd.prog).underlying 38 = some (.slice e) → zeroB Tryd.prog e (aggOf zz_sEndQuorumEpochResponseTopic) := by
  intro e he
  have h : (Tryd.prog).underlying 38 = some (.slice 51) := by kernel_rfl
  rw [h] at he; cases he
  exact fun w => Tryd.zeroValue51 w
theorem eln_sEndQuorumEpochResponseTopic : zaK Tryd.prog 30 := (fun args w => Tryd.call30 args w)
theorem eld_sEndQuorumEpochResponseTopic : DefC 30 (aggOf zz_sEndQuorumEpochResponseTopic).cells.toList dd_sEndQuorumEpochResponseTopic := by
  intro w b off cs T hb hlen hseg
  refine callsR_of0 Tryd.func30 rfl rfl Tryd.ntmps30 (by simp) ?_
  intro a hN hD ha
  refine wp_skip ⟨hD, ?_, Chg.refl _ _⟩
  have e : zas cs off dd_sEndQuorumEpochResponseTopic = cs := splice_same hseg hlen
  rw [e]; exact hb
def zz_sEndQuorumEpochResponseNodeEndpoint : List Value := [.int .i32 0, .string ⟨#[]⟩, .int .u16 0, .map none]
def dd_sEndQuorumEpochResponseNodeEndpoint : List Value := [.int .i32 0, .string ⟨#[]⟩, .int .u16 0, .map none]
theorem elz_sEndQuorumEpochResponseNodeEndpoint : ∀ e, (Tryd.prog).underlying 39 = some (.slice e) → zeroB Tryd.prog e (aggOf zz_sEndQuorumEpochResponseNodeEndpoint) := by
  intro e he
  have h : (Tryd.prog).underlying 39 = some (.slice 63) := by kernel_rfl
  rw [h] at he; cases he
  exact fun w => Tryd.zeroValue63 w
theorem eln_sEndQuorumEpochResponseNodeEndpoint : zaK Tryd.prog 41 := (fun args w => Tryd.call41 args w)
theorem eld_sEndQuorumEpochResponseNodeEndpoint : DefC 41 (aggOf zz_sEndQuorumEpochResponseNodeEndpoint).cells.toList dd_sEndQuorumEpochResponseNodeEndpoint := by
  intro w b off cs T hb hlen hseg
  refine callsR_of0 Tryd.func41 rfl rfl Tryd.ntmps41 (by simp) ?_
  intro a hN hD ha
  refine wp_skip ⟨hD, ?_, Chg.refl _ _⟩
  have e : zas cs off dd_sEndQuorumEpochResponseNodeEndpoint = cs := splice_same hseg hlen
  rw [e]; exact hb
def dd_EndQuorumEpochResponse : List Value := [.int .i16 0, .slice none 0 0, .slice none 0 0, .map none]
theorem defm_EndQuorumEpochResponse : DefM 13 dd_EndQuorumEpochResponse := by
  intro w B v T hb
  refine callsR_of0 Tryd.func13 rfl rfl Tryd.ntmps13 (by simp) ?_
  intro a hN hD ha
  exact wp_skip ⟨hD, hb, Chg.refl _ _⟩
theorem read_EndQuorumEpochResponse : ReadsFo 14 (fun ver => decide (1 ≤ ver)) sch_EndQuorumEpochResponse dd_EndQuorumEpochResponse [.bool false] := by
  refine read_flexKo Tryd.func14 rfl rfl Tryd.ntmps14 (fun args w => Tryd.call13 args w) defm_EndQuorumEpochResponse (by kernel_rfl) ?_
  intro ver hver
  (repeat' (first | (with_reducible refine rtxo_lastK rfl rfl rfl ?_) | (with_reducible refine rtx_next rfl (by kernel_rfl) ?_ ?_) | (with_reducible refine rtxo_tl (I := 1000) (by kernel_rfl) ?_ ?_) | (with_reducible refine rt_tagged rfl rfl ?_) | (with_reducible refine rt_next rfl (by kernel_rfl) ?_ ?_) | (with_reducible refine rt_end rfl ?_) | (with_reducible refine rt_noflex rfl ?_) | (with_reducible refine rt_fin co_en (by kernel_rfl) (by kernel_rfl)) | (with_reducible refine rt_tl (I := 1000) (by kernel_rfl) ?_ ?_) | (with_reducible refine rd_tags (by kernel_rfl) tagOK_all tg_en (by kernel_rfl) (by kernel_rfl)) | (with_reducible refine rd_tagged rfl rfl ?_) | (with_reducible refine rd_noflex rfl ?_) | (with_reducible refine rd_last rfl rfl (by kernel_rfl) ?_) | (with_reducible refine rd_next rfl (by kernel_rfl) (by kernel_rfl) ?_ ?_) | (with_reducible refine rd_end rfl ?_) | (with_reducible refine sf_all rfl (by dsimp only; omega) ?_) | ((with_reducible refine sf_from rfl (by kernel_rfl) (fun hv => ?_)); try dsimp only at hv) | ((with_reducible refine sf_range rfl (by kernel_rfl) (fun hv hv2 => ?_)); try dsimp only at hv hv2) | (with_reducible refine rf_list1 rfl (by kernel_rfl) elz_sEndQuorumEpochResponseTopicPartition (by kernel_rfl) ?_ ok_en co_en ?_ (by kernel_rfl)) | (with_reducible refine el_struct1 (by kernel_rfl) eln_sEndQuorumEpochResponseTopicPartition eld_sEndQuorumEpochResponseTopicPartition (by kernel_rfl) ?_ (by kernel_rfl) (by kernel_rfl) (by kernel_rfl)) | (with_reducible refine rf_list1 rfl (by kernel_rfl) elz_sEndQuorumEpochResponseTopic (by kernel_rfl) ?_ ok_en co_en ?_ (by kernel_rfl)) | (with_reducible refine el_struct1 (by kernel_rfl) eln_sEndQuorumEpochResponseTopic eld_sEndQuorumEpochResponseTopic (by kernel_rfl) ?_ (by kernel_rfl) (by kernel_rfl) (by kernel_rfl)) | (with_reducible refine rf_list1 rfl (by kernel_rfl) elz_sEndQuorumEpochResponseNodeEndpoint (by kernel_rfl) ?_ ok_en co_en ?_ (by kernel_rfl)) | (with_reducible refine el_struct1 (by kernel_rfl) eln_sEndQuorumEpochResponseNodeEndpoint eld_sEndQuorumEpochResponseNodeEndpoint (by kernel_rfl) ?_ (by kernel_rfl) (by kernel_rfl) (by kernel_rfl)) | (with_reducible refine rf_store ?_ rfl (by kernel_rfl) (by kernel_rfl) (by kernel_rfl)) | (with_reducible refine rf_store2 ?_ rfl (by kernel_rfl) (by kernel_rfl) (by kernel_rfl) (by kernel_rfl)) | (with_reducible refine rd_pre ?_ (by kernel_rfl)) | (with_reducible refine rv_safe ?_ (by kernel_rfl)) | (with_reducible refine rv_flex rfl (fun hx => ?_) (fun hx => ?_) (by kernel_rfl)) | (with_reducible refine rv_i16 (by kernel_rfl)) | (with_reducible refine rv_i32 (by kernel_rfl)) | (with_reducible refine rv_u16 (by kernel_rfl)) | (with_reducible refine rv_string rfl (by first | assumption | rfl) (by kernel_rfl)) | (with_reducible refine rv_cstring rfl (by first | assumption | rfl) (by kernel_rfl)) | (with_reducible refine rv_again ?_ (by kernel_rfl)) | (with_reducible refine rv_pre ?_ (by kernel_rfl)) | (with_reducible refine rn_plain (by first | assumption | rfl) (by kernel_rfl)) | (with_reducible refine rn_cplain (by first | assumption | rfl) (by kernel_rfl)) | (with_reducible refine rn_flex rfl (fun hx => ?_) (fun hx => ?_) (by kernel_rfl)) | (with_reducible refine el_pre ?_ (by kernel_rfl)) | (with_reducible refine el_val1 (by kernel_rfl) (rv_elem rfl ?_) (by kernel_rfl) (by kernel_rfl))))
  · show RkC ⟨262, ver, decide (1 ≤ ver), true, 7, none⟩ 11 10 1 sch_EndQuorumEpochResponse 1000 (Fresh sch_EndQuorumEpochResponse 2) (tlO (decide (1 ≤ ver)) ver sch_EndQuorumEpochResponse) _
    intro a w O R B p st s hB hP hfr
    have hF : LF sch_EndQuorumEpochResponse 2 (.mk .list 0 (-1) (-1) 0 0 .struct sch_sEndQuorumEpochResponseNodeEndpoint) := ⟨rfl, rfl, rfl⟩
    have hN : a.tmps.size = 262 := hB.ok.1
    have hD : a.defers = [] := hB.ok.2.1
    have g2 : get a 2 = .bool false := hB.ok.2.2.1
    have g8 : get a 8 = .int .i16 ver := hB.ok.2.2.2.1
    have g9 : get a 9 = .bool (decide (1 ≤ ver)) := hB.ok.2.2.2.2 rfl
    have gS : get a 10 = .pointer (some ⟨B, p, none⟩) := hP.pt
    have g7 : get a 7 = .pointer (some ⟨R, 0, none⟩) := hB.rd
    have oR := hB.oR
    have oB := hP.oB
    have ne := hP.ne
    refine wp_seq_k fun K0 hK0 => ?_; refine zai ?_; (repeat ((with_reducible refine zaw ?_ ?_ ?_); (· simp [evb, pvb, rnb, kb, hN, g9, dyb, sdb] <;> omega); (· kernel_rfl); try simp only [evb, pvb, rnb, kb, hN, seval, g9])); refine zah ?_; refine hK0 _ _ ?_; try clear hK0 K0
    rcases Bool.eq_false_or_eq_true (decide (1 ≤ ver)) with hx | hx
    rotate_left
    · refine wp_cond_false (by simp [evb, kb, hN, hx, sdb]) ?_
      exact wp_skip (rk_offO hx rfl rfl tagOK_all ((zam.refl _ _).put (by decide) _) hB hP (by decide))
    refine wp_cond_true (by simp [evb, kb, hN, hx, sdb]) ?_
    have hki := KL.start (E := ⟨262, ver, decide (1 ≤ ver), true, 7, none⟩) (sz := (ssz true sch_sEndQuorumEpochResponseNodeEndpoint)) rfl hF hB hP hfr
    refine wp_seq_k fun K0 hK0 => ?_; refine zai ?_; (repeat ((with_reducible refine zaw ?_ ?_ ?_); (· simp [evb, pvb, rnb, kb, hN, g7, dyb, sdb] <;> omega); (· kernel_rfl); try simp only [evb, pvb, rnb, kb, hN, seval, g7]))
    refine wl_rd (fun args w => Tryd.call38 args w) Uvarint_m (by simp only [List.map_toArray, List.map_cons, List.map_nil]; simp only [evb, pvb, rnb, kb, hN, seval, g7]) hki.rd (fun h => h (.inl (.inl oR))) (hki.new hB) ?_
    intro v1 w1 hr1
    obtain ⟨n, ⟨rfl, hn⟩, e1⟩ := hr1.val
    have hk1 := hki.read oR ne hr1 less_uvar
    have htot := tot_startO (E := ⟨262, ver, decide (1 ≤ ver), true, 7, none⟩) (fs := sch_EndQuorumEpochResponse) (s := s) hx e1
    clear hki hr1 e1
    (repeat ((with_reducible refine zaw ?_ ?_ ?_); (· simp [evb, pvb, rnb, kb, hN, dyb, sdb] <;> omega); (· kernel_rfl); try simp only [evb, pvb, rnb, kb, hN, seval]))
    refine zah ?_; refine hK0 _ _ ?_; try clear hK0 K0
    refine wp_block ?_
    refine wp_loop (fun a' w' => ∃ (j : Nat) (m : Option Nat) (tg : za0) (sc : Option Bs) (oa : Option Addr) (c0 : Nat) (ds : List D), get a' 29 = .int .u32 j ∧ j < 4294967296 ∧ zam (RS 11) a a' ∧ KL 1 sch_EndQuorumEpochResponse 2 (.mk .list 0 (-1) (-1) 0 0 .struct sch_sEndQuorumEpochResponseNodeEndpoint) (ssz true sch_sEndQuorumEpochResponseNodeEndpoint) w O R B p st w' m tg sc oa c0 ds ∧
      st.bind (tlO (decide (1 ≤ ver)) ver sch_EndQuorumEpochResponse s) = sc.bind (rTagO (zax (decide (1 ≤ ver)) ver sch_EndQuorumEpochResponse 0) j ⟨ds, tg⟩)) (fun a' _ => (intOf (get a' 29)).toNat) ⟨n, none, [], _, none, 0, _, by simp only [evb, pvb, rnb, kb, hN, seval], hn, (by (repeat (first | (with_reducible refine zam.put0 ?_ _) | ((with_reducible refine zam.put ?_ ?_ _); rotate_left; (· decide)))); with_reducible first | exact zam.refl _ _ | assumption), hk1, htot⟩ ?_
    clear hk1 htot hn n
    rintro a4 w4 ⟨j, m, tg, sc, ol, c0, ds, gj, hj, hk4, hki, htot⟩
    have hN0 := hN
    replace hN := hk4.size.trans hN
    replace hD := hk4.defers.trans hD
    replace g2 := (hk4.slot 2 (by decide)).trans g2
    replace g7 := (hk4.slot 7 (by decide)).trans g7
    replace g8 := (hk4.slot 8 (by decide)).trans g8
    replace g9 := (hk4.slot 9 (by decide)).trans g9
    replace gS := (hk4.slot 10 (by decide)).trans gS
    refine wp_seq_k fun K hK => ?_; refine wp_seq_k fun K0 hK0 => ?_; refine zai ?_; (repeat ((with_reducible refine zaw ?_ ?_ ?_); (· simp [evb, pvb, rnb, kb, hN, gj, dyb, sdb] <;> omega); (· kernel_rfl); try simp only [evb, pvb, rnb, kb, hN, seval, gj])); refine zah ?_; refine hK0 _ _ ?_; try clear hK0 K0
    by_cases hz : j = 0
    · subst hz
      have d1 : decide ((0 : Int) < ((0 : Nat) : Int)) = false := rfl
      refine wp_cond_false (by simp only [evb, pvb, rnb, kb, hN, seval] <;> rfl) ?_
      refine wp_exit ?_
      simp only [Exit.then, Exit.inBlock, if_pos]
      obtain ⟨f1, f2⟩ := hki.fin (E := ⟨262, ver, decide (1 ≤ ver), true, 7, none⟩) hF rfl tagOK_all rfl
      refine ⟨(by (repeat (first | (with_reducible refine zam.put0 ?_ _) | ((with_reducible refine zam.put ?_ ?_ _); rotate_left; (· decide)))); with_reducible first | exact zam.refl _ _ | assumption), hki.chg, hki.rest, sc, ⟨ds, tg⟩, f1, f2, ?_, hki.len, fun j hj => ?_⟩
      · unfold Stp
        rw [htot]
        cases sc with
        | none => rfl
        | some bs => exact ⟨rfl, rfl⟩
      · have l1 := f2.len
        have l2 := hP.at_.len
        have l3 : (sch_EndQuorumEpochResponse).length ≤ 1000 := by decide
        rw [List.getElem?_eq_none (by omega), List.getElem?_eq_none (by omega)]
    have d1 : decide ((0 : Int) < (j : Int)) = true := decide_eq_true (by omega)
    refine wp_cond_true (by simp only [evb, pvb, rnb, kb, hN, seval, d1]) ?_
    refine wp_skip (hK _ _ ?_)
    clear hK K
    obtain ⟨j, rfl⟩ : ∃ i, j = i + 1 := ⟨j - 1, by omega⟩
    have e32 : IntKind.u32.wrap (((j + 1 : Nat) : Int) - 1) = ((j : Nat) : Int) := by
      have : ((j + 1 : Nat) : Int) - 1 = ((j : Nat) : Int) := by omega
      rw [this]; exact wrapU rfl (by show _ < 4294967296; omega)
    refine wp_seq_k fun K hK => ?_
    have gj4 := gj
    have dec : ∀ a5 w5, a5.tmps.size = 262 → get a5 29 = .int .u32 ((j + 1 : Nat) : Int) → zam (RS 11) a a5 → (∃ m' tg' sc' oa' c' ds', KL 1 sch_EndQuorumEpochResponse 2 (.mk .list 0 (-1) (-1) 0 0 .struct sch_sEndQuorumEpochResponseNodeEndpoint) (ssz true sch_sEndQuorumEpochResponseNodeEndpoint) w O R B p st w5 m' tg' sc' oa' c' ds' ∧
        st.bind (tlO (decide (1 ≤ ver)) ver sch_EndQuorumEpochResponse s) = sc'.bind (rTagO (zax (decide (1 ≤ ver)) ver sch_EndQuorumEpochResponse 0) j ⟨ds', tg'⟩)) → K a5 w5 := by
      clear hN hD g2 g7 g8 g9 gS hki htot gj hk4
      intro a5 w5 hN gj hk5 ⟨m', tg', sc', oa', c', ds', q1, q2⟩
      refine hK _ _ ?_
      clear hK K
      refine zai ?_; (repeat ((with_reducible refine zaw ?_ ?_ ?_); (· simp [evb, pvb, rnb, kb, hN, gj, e32, dyb, sdb] <;> omega); (· kernel_rfl); try simp only [evb, pvb, rnb, kb, hN, seval, gj, e32]))
      refine zah ⟨⟨j, m', tg', sc', oa', c', ds', by simp only [evb, pvb, rnb, kb, hN, seval], by omega, (by (repeat (first | (with_reducible refine zam.put0 ?_ _) | ((with_reducible refine zam.put ?_ ?_ _); rotate_left; (· decide)))); with_reducible first | exact zam.refl _ _ | assumption), q1, q2⟩, ?_⟩
      simp only [evb, pvb, rnb, kb, hN, seval, gj4]
      simp only [intOf]
      omega
    refine wp_block ?_
    refine wp_seq_k fun K0 hK0 => ?_; refine zai ?_; (repeat ((with_reducible refine zaw ?_ ?_ ?_); (· simp [evb, pvb, rnb, kb, hN, g7, dyb, sdb] <;> omega); (· kernel_rfl); try simp only [evb, pvb, rnb, kb, hN, seval, g7]))
    refine wl_rd (fun args w => Tryd.call38 args w) Uvarint_m (by simp only [List.map_toArray, List.map_cons, List.map_nil]; simp only [evb, pvb, rnb, kb, hN, seval, g7]) hki.rd (fun h => h (.inl (.inl oR))) (hki.new hB) ?_
    intro v5 w5 hr5
    obtain ⟨x1, ⟨rfl, hx1⟩, e1⟩ := hr5.val
    have hk5 := hki.read oR ne hr5 less_uvar
    clear hr5 hki
    (repeat ((with_reducible refine zaw ?_ ?_ ?_); (· simp [evb, pvb, rnb, kb, hN, dyb, sdb] <;> omega); (· kernel_rfl); try simp only [evb, pvb, rnb, kb, hN, seval]))
    refine zah ?_; refine hK0 _ _ ?_; try clear hK0 K0
    refine wp_seq_k fun K0 hK0 => ?_; refine zai ?_; (repeat ((with_reducible refine zaw ?_ ?_ ?_); (· simp [evb, pvb, rnb, kb, hN, dyb, sdb] <;> omega); (· kernel_rfl); try simp only [evb, pvb, rnb, kb, hN, seval])); refine zah ?_; refine hK0 _ _ ?_; try clear hK0 K0
    refine wp_block ?_
    refine wp_seq_k fun K0 hK0 => ?_; refine zai ?_; (repeat ((with_reducible refine zaw ?_ ?_ ?_); (· simp [evb, pvb, rnb, kb, hN, dyb, sdb] <;> omega); (· kernel_rfl); try simp only [evb, pvb, rnb, kb, hN, seval])); refine zah ?_; refine hK0 _ _ ?_; try clear hK0 K0
    have hkn := kn0B_out (fs := sch_EndQuorumEpochResponse) (i := 2) (f := (.mk .list 0 (-1) (-1) 0 0 .struct sch_sEndQuorumEpochResponseNodeEndpoint)) rfl (by decide) (decide (1 ≤ ver)) ver
    by_cases hx0 : x1 = 0
    · have d2 : ((x1 : Int) == 0) = true := by simp [hx0]
      refine wp_cond_true (by simp only [evb, pvb, rnb, kb, hN, seval, d2]) ?_
      refine wp_seq_k fun K0 hK0 => ?_; refine zai ?_; (repeat ((with_reducible refine zaw ?_ ?_ ?_); (· simp [evb, pvb, rnb, kb, hN, g7, dyb, sdb] <;> omega); (· kernel_rfl); try simp only [evb, pvb, rnb, kb, hN, seval, g7]))
      refine wl_rd (fun args w => Tryd.call38 args w) Uvarint_m (by simp only [List.map_toArray, List.map_cons, List.map_nil]; simp only [evb, pvb, rnb, kb, hN, seval, g7]) hk5.rd (fun h => h (.inl (.inl oR))) (hk5.new hB) ?_
      intro v6 w6 hr6
      obtain ⟨x2, ⟨rfl, hx2⟩, e2⟩ := hr6.val
      have hk6 := hk5.read oR ne hr6 less_uvar
      clear hr6 hk5
      (repeat ((with_reducible refine zaw ?_ ?_ ?_); (· simp [evb, pvb, rnb, kb, hN, g7, i64_sm (x2 : Int) (by omega), dyb, sdb] <;> omega); (· kernel_rfl); try simp only [evb, pvb, rnb, kb, hN, seval, g7, i64_sm (x2 : Int) (by omega)]))
      refine zaH (fun args w => Tryd.call40 args w) (by simp only [List.map_toArray, List.map_cons, List.map_nil]; simp only [evb, pvb, rnb, kb, hN, seval, g7]; exact Span_cL x2 hk6.rd (fun h => h (.inl (.inl oR))) (hk6.new hB)) ?_
      intro v7 w7 hr7
      obtain ⟨l, ⟨⟨oa, cap, rfl, hcap, hbl⟩, hll⟩, e3⟩ := hr7.val
      have hk7 := hk6.read oR ne hr7 (less_span _)
      have hlR : l.length ≤ RLIM := Nat.le_trans hll (Nat.le_trans hk6.len hB.lim)
      clear hr7 hk6 hll
      refine wl_build (l := [.slice oa l.length cap, .bool false]) (by simp only [List.map_toArray, List.map_cons, List.map_nil, evb, kb, hN, seval]; kernel_rfl) ?_
      refine wl_allocA (z := aggOf [.slice none 0 0, .bool false]) (fun w => Tryd.zeroValue66 w) fun w8 hc8 hb8 hs8 => ?_
      refine wl_storeAll (b := w7.heap.size) (n := 2) (l' := [.slice oa l.length cap, .bool false]) (by kernel_rfl) (by simp [evb, kb, hN, sdb]) (by simp [evb, kb, hN, sdb]) hb8 rfl (by intro y hy; simp only [List.mem_cons, List.not_mem_nil, or_false] at hy; rcases hy with rfl | rfl <;> rfl) rfl fun w9 hb9 hc9 => ?_
      refine zah ?_; refine hK0 _ _ ?_; try clear hK0 K0
      have hc79 : Chg (fun _ => False) w7 w9 := hc8.trans hc9 fun n hn h => by omega
      clear hc8 hb8 hs8 hc9
      have htot2 := htot.trans (tot_caseO (tg := tg) (ds := ds) (j := j) hkn e1 e2 e3 hx0)
      refine wp_gen fun a9 ha9 => ?_
      have hN9 : a9.tmps.size = 262 := by rw [ha9]; simp only [zae]; exact hN
      have hD9 : a9.defers = [] := by rw [ha9]; simp only [zaj]; exact hD
      have q2 : get a9 2 = .bool false := by rw [ha9]; simp only [evb, pvb, rnb, kb, hN, seval, g2]
      have q7 : get a9 7 = .pointer (some ⟨R, 0, none⟩) := by rw [ha9]; simp only [evb, pvb, rnb, kb, hN, seval, g7]
      have q8 : get a9 8 = .int .i16 ver := by rw [ha9]; simp only [evb, pvb, rnb, kb, hN, seval, g8]
      have q9 : get a9 9 = .bool (decide (1 ≤ ver)) := by rw [ha9]; simp only [evb, pvb, rnb, kb, hN, seval, g9]
      have qS : get a9 10 = .pointer (some ⟨B, p, none⟩) := by rw [ha9]; simp only [evb, pvb, rnb, kb, hN, seval, gS]
      have qX : get a9 31 = .pointer (some ⟨w7.heap.size, 0, none⟩) := by rw [ha9]; simp only [evb, pvb, rnb, kb, hN, seval]
      have qC : get a9 29 = .int .u32 ((j + 1 : Nat) : Int) := by rw [ha9]; simp only [evb, pvb, rnb, kb, hN, seval, gj]
      have qk : zam (RS 11) a a9 := by rw [ha9]; (repeat (first | (with_reducible refine zam.put0 ?_ _) | ((with_reducible refine zam.put ?_ ?_ _); rotate_left; (· decide)))); exact hk4
      clear ha9 hN hD g2 g7 g8 g9 gS gj hk4
      have hRB := hk7.inRB (X := 31) (E := ⟨262, ver, decide (1 ≤ ver), true, 7, none⟩) (jk := none) hB oB hc79 hb9 hcap hbl hlR ⟨hN9, hD9, q2, q8, fun _ => q9⟩ qX
      obtain ⟨cs9, Tb9, n9, hB9, hB7, hcell9⟩ := hk7.cellL hc79
      have hne9 : w7.heap.size ≠ B := by have := hB7.lt; omega
      refine it_listO (mB := 36) (E := ⟨262, ver, decide (1 ≤ ver), true, 31, none⟩) (m := 32) (sS := 10) (k0 := 1) (fs := sch_EndQuorumEpochResponse) (i := 2) rfl (by kernel_rfl) ⟨_, elz_sEndQuorumEpochResponseNodeEndpoint, by kernel_rfl, by kernel_rfl, ?el⟩ ok_en co_en ?cl (by kernel_rfl) a9 w9 _ _ B p (some l) cs9 Tb9 ol n9 c0 _ hRB qS (.inl (.inl (.inl oB))) hne9 hB9 hcell9 (hk7.hold hc79) ?_ ?_
      case el =>
        (repeat' (first | (with_reducible refine rtx_tagged rfl rfl ?_) | (with_reducible refine rtx_next rfl (by kernel_rfl) ?_ ?_) | (with_reducible refine rtx_end rfl ?_) | (with_reducible refine rtx_tl (I := 1000) (by kernel_rfl) ?_ ?_) | (with_reducible refine rdx_tagged rfl rfl ?_) | (with_reducible refine rdx_next rfl (by kernel_rfl) (by kernel_rfl) ?_ ?_) | (with_reducible refine rdx_end rfl ?_) | (with_reducible refine it_pre ?_ (by kernel_rfl)) | (with_reducible refine it_store ?_ rfl (by kernel_rfl) (by kernel_rfl) (by kernel_rfl)) | (with_reducible refine rt_tagged rfl rfl ?_) | (with_reducible refine rt_next rfl (by kernel_rfl) ?_ ?_) | (with_reducible refine rt_end rfl ?_) | (with_reducible refine rt_noflex rfl ?_) | (with_reducible refine rt_fin co_en (by kernel_rfl) (by kernel_rfl)) | (with_reducible refine rt_tl (I := 1000) (by kernel_rfl) ?_ ?_) | (with_reducible refine rd_tags (by kernel_rfl) tagOK_all tg_en (by kernel_rfl) (by kernel_rfl)) | (with_reducible refine rd_tagged rfl rfl ?_) | (with_reducible refine rd_noflex rfl ?_) | (with_reducible refine rd_last rfl rfl (by kernel_rfl) ?_) | (with_reducible refine rd_next rfl (by kernel_rfl) (by kernel_rfl) ?_ ?_) | (with_reducible refine rd_end rfl ?_) | (with_reducible refine sf_all rfl (by dsimp only; omega) ?_) | ((with_reducible refine sf_from rfl (by kernel_rfl) (fun hv => ?_)); try dsimp only at hv) | ((with_reducible refine sf_range rfl (by kernel_rfl) (fun hv hv2 => ?_)); try dsimp only at hv hv2) | (with_reducible refine rf_list1 rfl (by kernel_rfl) elz_sEndQuorumEpochResponseTopicPartition (by kernel_rfl) ?_ ok_en co_en ?_ (by kernel_rfl)) | (with_reducible refine el_struct1 (by kernel_rfl) eln_sEndQuorumEpochResponseTopicPartition eld_sEndQuorumEpochResponseTopicPartition (by kernel_rfl) ?_ (by kernel_rfl) (by kernel_rfl) (by kernel_rfl)) | (with_reducible refine rf_list1 rfl (by kernel_rfl) elz_sEndQuorumEpochResponseTopic (by kernel_rfl) ?_ ok_en co_en ?_ (by kernel_rfl)) | (with_reducible refine el_struct1 (by kernel_rfl) eln_sEndQuorumEpochResponseTopic eld_sEndQuorumEpochResponseTopic (by kernel_rfl) ?_ (by kernel_rfl) (by kernel_rfl) (by kernel_rfl)) | (with_reducible refine rf_list1 rfl (by kernel_rfl) elz_sEndQuorumEpochResponseNodeEndpoint (by kernel_rfl) ?_ ok_en co_en ?_ (by kernel_rfl)) | (with_reducible refine el_struct1 (by kernel_rfl) eln_sEndQuorumEpochResponseNodeEndpoint eld_sEndQuorumEpochResponseNodeEndpoint (by kernel_rfl) ?_ (by kernel_rfl) (by kernel_rfl) (by kernel_rfl)) | (with_reducible refine rf_store ?_ rfl (by kernel_rfl) (by kernel_rfl) (by kernel_rfl)) | (with_reducible refine rf_store2 ?_ rfl (by kernel_rfl) (by kernel_rfl) (by kernel_rfl) (by kernel_rfl)) | (with_reducible refine rd_pre ?_ (by kernel_rfl)) | (with_reducible refine rv_safe ?_ (by kernel_rfl)) | (with_reducible refine rv_flex rfl (fun hx => ?_) (fun hx => ?_) (by kernel_rfl)) | (with_reducible refine rv_i16 (by kernel_rfl)) | (with_reducible refine rv_i32 (by kernel_rfl)) | (with_reducible refine rv_u16 (by kernel_rfl)) | (with_reducible refine rv_string rfl (by first | assumption | rfl) (by kernel_rfl)) | (with_reducible refine rv_cstring rfl (by first | assumption | rfl) (by kernel_rfl)) | (with_reducible refine rv_again ?_ (by kernel_rfl)) | (with_reducible refine rv_pre ?_ (by kernel_rfl)) | (with_reducible refine rn_plain (by first | assumption | rfl) (by kernel_rfl)) | (with_reducible refine rn_cplain (by first | assumption | rfl) (by kernel_rfl)) | (with_reducible refine rn_flex rfl (fun hx => ?_) (fun hx => ?_) (by kernel_rfl)) | (with_reducible refine el_pre ?_ (by kernel_rfl)) | (with_reducible refine el_val1 (by kernel_rfl) (rv_elem rfl ?_) (by kernel_rfl) (by kernel_rfl))))
      case cl =>
        (repeat' (first | (with_reducible refine rtx_tagged rfl rfl ?_) | (with_reducible refine rtx_next rfl (by kernel_rfl) ?_ ?_) | (with_reducible refine rtx_end rfl ?_) | (with_reducible refine rtx_tl (I := 1000) (by kernel_rfl) ?_ ?_) | (with_reducible refine rdx_tagged rfl rfl ?_) | (with_reducible refine rdx_next rfl (by kernel_rfl) (by kernel_rfl) ?_ ?_) | (with_reducible refine rdx_end rfl ?_) | (with_reducible refine it_pre ?_ (by kernel_rfl)) | (with_reducible refine it_store ?_ rfl (by kernel_rfl) (by kernel_rfl) (by kernel_rfl)) | (with_reducible refine rt_tagged rfl rfl ?_) | (with_reducible refine rt_next rfl (by kernel_rfl) ?_ ?_) | (with_reducible refine rt_end rfl ?_) | (with_reducible refine rt_noflex rfl ?_) | (with_reducible refine rt_fin co_en (by kernel_rfl) (by kernel_rfl)) | (with_reducible refine rt_tl (I := 1000) (by kernel_rfl) ?_ ?_) | (with_reducible refine rd_tags (by kernel_rfl) tagOK_all tg_en (by kernel_rfl) (by kernel_rfl)) | (with_reducible refine rd_tagged rfl rfl ?_) | (with_reducible refine rd_noflex rfl ?_) | (with_reducible refine rd_last rfl rfl (by kernel_rfl) ?_) | (with_reducible refine rd_next rfl (by kernel_rfl) (by kernel_rfl) ?_ ?_) | (with_reducible refine rd_end rfl ?_) | (with_reducible refine sf_all rfl (by dsimp only; omega) ?_) | ((with_reducible refine sf_from rfl (by kernel_rfl) (fun hv => ?_)); try dsimp only at hv) | ((with_reducible refine sf_range rfl (by kernel_rfl) (fun hv hv2 => ?_)); try dsimp only at hv hv2) | (with_reducible refine rf_list1 rfl (by kernel_rfl) elz_sEndQuorumEpochResponseTopicPartition (by kernel_rfl) ?_ ok_en co_en ?_ (by kernel_rfl)) | (with_reducible refine el_struct1 (by kernel_rfl) eln_sEndQuorumEpochResponseTopicPartition eld_sEndQuorumEpochResponseTopicPartition (by kernel_rfl) ?_ (by kernel_rfl) (by kernel_rfl) (by kernel_rfl)) | (with_reducible refine rf_list1 rfl (by kernel_rfl) elz_sEndQuorumEpochResponseTopic (by kernel_rfl) ?_ ok_en co_en ?_ (by kernel_rfl)) | (with_reducible refine el_struct1 (by kernel_rfl) eln_sEndQuorumEpochResponseTopic eld_sEndQuorumEpochResponseTopic (by kernel_rfl) ?_ (by kernel_rfl) (by kernel_rfl) (by kernel_rfl)) | (with_reducible refine rf_list1 rfl (by kernel_rfl) elz_sEndQuorumEpochResponseNodeEndpoint (by kernel_rfl) ?_ ok_en co_en ?_ (by kernel_rfl)) | (with_reducible refine el_struct1 (by kernel_rfl) eln_sEndQuorumEpochResponseNodeEndpoint eld_sEndQuorumEpochResponseNodeEndpoint (by kernel_rfl) ?_ (by kernel_rfl) (by kernel_rfl) (by kernel_rfl)) | (with_reducible refine rf_store ?_ rfl (by kernel_rfl) (by kernel_rfl) (by kernel_rfl)) | (with_reducible refine rf_store2 ?_ rfl (by kernel_rfl) (by kernel_rfl) (by kernel_rfl) (by kernel_rfl)) | (with_reducible refine rd_pre ?_ (by kernel_rfl)) | (with_reducible refine rv_safe ?_ (by kernel_rfl)) | (with_reducible refine rv_flex rfl (fun hx => ?_) (fun hx => ?_) (by kernel_rfl)) | (with_reducible refine rv_i16 (by kernel_rfl)) | (with_reducible refine rv_i32 (by kernel_rfl)) | (with_reducible refine rv_u16 (by kernel_rfl)) | (with_reducible refine rv_string rfl (by first | assumption | rfl) (by kernel_rfl)) | (with_reducible refine rv_cstring rfl (by first | assumption | rfl) (by kernel_rfl)) | (with_reducible refine rv_again ?_ (by kernel_rfl)) | (with_reducible refine rv_pre ?_ (by kernel_rfl)) | (with_reducible refine rn_plain (by first | assumption | rfl) (by kernel_rfl)) | (with_reducible refine rn_cplain (by first | assumption | rfl) (by kernel_rfl)) | (with_reducible refine rn_flex rfl (fun hx => ?_) (fun hx => ?_) (by kernel_rfl)) | (with_reducible refine el_pre ?_ (by kernel_rfl)) | (with_reducible refine el_val1 (by kernel_rfl) (rv_elem rfl ?_) (by kernel_rfl) (by kernel_rfl))))
      · rintro a10 w10 hq9
        have hq := hq9
        obtain ⟨ol', c', d9, hk10, hd9⟩ := hk7.inner hF oB oR ne hc79 hB7 hq9
        obtain ⟨hkk, hcc, hs2, hl2, _⟩ := hq
        change RdS w10 _ _ (((some l : Option Bs).bind (decF (decide (1 ≤ ver)) ver (.mk .list 0 (-1) (-1) 0 0 .struct sch_sEndQuorumEpochResponseNodeEndpoint))).map (·.2)) at hs2
        obtain ⟨st2, hst2⟩ : ∃ st2, st2 = (((some l : Option Bs).bind (decF (decide (1 ≤ ver)) ver (.mk .list 0 (-1) (-1) 0 0 .struct sch_sEndQuorumEpochResponseNodeEndpoint))).map (·.2)) := ⟨_, rfl⟩
        rw [← hst2] at hs2
        have q10 : get a10 31 = .pointer (some ⟨w7.heap.size, 0, none⟩) := (hkk.slot 31 (by decide)).trans qX
        have qC' := (hkk.slot 29 (by decide)).trans qC
        have hN10 : a10.tmps.size = 262 := hkk.size.trans hN9
        have hD10 := hkk.defers.trans hD9
        have qk10 : zam (RS 11) a a10 := qk.trans (hkk.mono fun t ht => ⟨by have := ht.1; omega, ht.2⟩)
        have herr : ErrW w10 := hB.err.chg hk10.chg (by rintro (e | e); exact hB.oE (e ▸ oR); exact hB.oE (e ▸ oB))
        have hN := hN10
        clear hkk hRB
        refine wp_seq_k fun K0 hK0 => ?_; refine zai ?_; (repeat ((with_reducible refine zaw ?_ ?_ ?_); (· simp [evb, pvb, rnb, kb, hN, q10, dyb, sdb] <;> omega); (· kernel_rfl); try simp only [evb, pvb, rnb, kb, hN, seval, q10]))
        refine zaH (fun args w => Tryd.call29 args w) (by simp only [List.map_toArray, List.map_cons, List.map_nil]; simp only [evb, pvb, rnb, kb, hN, seval, q10]; exact Complete_c hs2 herr) ?_
        rintro v11 _ ⟨rfl, c1, c2⟩
        (repeat ((with_reducible refine zaw ?_ ?_ ?_); (· simp [evb, pvb, rnb, kb, hN, dyb, sdb] <;> omega); (· kernel_rfl); try simp only [evb, pvb, rnb, kb, hN, seval]))
        refine zah ?_; refine hK0 _ _ ?_; try clear hK0 K0
        cases st2 with
        | none =>
          obtain ⟨ti, vi, rfl⟩ := c1 rfl
          refine wp_seq_k fun K0 hK0 => ?_; refine zai ?_; (repeat ((with_reducible refine zaw ?_ ?_ ?_); (· simp [evb, pvb, rnb, kb, hN, dyb, sdb] <;> omega); (· kernel_rfl); try simp only [evb, pvb, rnb, kb, hN, seval]))
          refine wl_neqNil1 (ti := ti) (v := vi) (by kernel_rfl) (by simp only [evb, pvb, rnb, kb, hN, seval]) ?_
          refine zah ?_; refine hK0 _ _ ?_; try clear hK0 K0
          refine wp_cond_true (by simp only [evb, pvb, rnb, kb, hN, seval]) ?_
          refine wp_seq_k fun K0 hK0 => ?_; refine zai ?_; (repeat ((with_reducible refine zaw ?_ ?_ ?_); (· simp [evb, pvb, rnb, kb, hN, dyb, sdb] <;> omega); (· kernel_rfl); try simp only [evb, pvb, rnb, kb, hN, seval])); refine zah ?_; refine hK0 _ _ ?_; try clear hK0 K0
          refine wp_ret ⟨by simp only [zaj]; exact hD10, ⟨ti, vi, by simp only [evb, pvb, rnb, kb, hN, seval]⟩, ?_, hk10.chg.mono fun k _ h => by rcases h with rfl | rfl; exact oR; exact oB⟩
          rw [htot2]
          cases hd : decF (decide (1 ≤ ver)) ver (.mk .list 0 (-1) (-1) 0 0 .struct sch_sEndQuorumEpochResponseNodeEndpoint) l with
          | none => rfl
          | some y =>
            rw [Option.bind_some, hd] at hst2
            cases hst2
        | some r2 =>
          have hv := c2 (by simp)
          subst hv
          refine wp_seq_k fun K0 hK0 => ?_; refine zai ?_; (repeat ((with_reducible refine zaw ?_ ?_ ?_); (· simp [evb, pvb, rnb, kb, hN, dyb, sdb] <;> omega); (· kernel_rfl); try simp only [evb, pvb, rnb, kb, hN, seval]))
          refine wl_neqNil0 (by kernel_rfl) (by simp only [evb, pvb, rnb, kb, hN, seval]) ?_
          refine zah ?_; refine hK0 _ _ ?_; try clear hK0 K0
          refine wp_cond_false (by simp only [evb, pvb, rnb, kb, hN, seval]) ?_
          refine wp_skip ?_
          simp only [Exit.then, Exit.inBlock]
          refine dec _ _ (by simp only [zae]; exact hN10) (by simp only [evb, pvb, rnb, kb, hN, seval, qC']) (by (repeat (first | (with_reducible refine zam.put0 ?_ _) | ((with_reducible refine zam.put ?_ ?_ _); rotate_left; (· decide)))); with_reducible first | exact zam.refl _ _ | assumption) ⟨m, tg, _, ol', c', _, hk10, ?_⟩
          rw [htot2]
          cases hd : decF (decide (1 ≤ ver)) ver (.mk .list 0 (-1) (-1) 0 0 .struct sch_sEndQuorumEpochResponseNodeEndpoint) l with
          | none =>
            rw [Option.bind_some, hd] at hst2
            cases hst2
          | some y =>
            rw [← hd9 y hd]; rfl
      · rintro a10 w10 ⟨f1, f2, f3, f4⟩
        refine ⟨f1, f2, ?_, hk7.failed oB oR hc79 f4⟩
        rw [htot2]
        have f3' : decF (decide (1 ≤ ver)) ver (.mk .list 0 (-1) (-1) 0 0 .struct sch_sEndQuorumEpochResponseNodeEndpoint) l = none := f3
        cases hd : decF (decide (1 ≤ ver)) ver (.mk .list 0 (-1) (-1) 0 0 .struct sch_sEndQuorumEpochResponseNodeEndpoint) l with
        | none => rfl
        | some y => rw [hd] at f3'; cases f3'
    · have d2 : ((x1 : Int) == 0) = false := by simp; omega
      refine wp_cond_false (by simp only [evb, pvb, rnb, kb, hN, seval, d2]) ?_
      obtain ⟨cs, Tb, hbc, hcell⟩ := hk5.cell
      refine wp_sched (fun _ => True) [(true, 0), (true, 1), (true, 2), (true, 3), (false, 4), (true, 5), (false, 6), (false, 7)] follows_any (by kernel_rfl) (by kernel_rfl) trivial ?_
      have hk5d := hk5.drew oR ne
      refine ws_move rfl ?_
      simp only [evb, kb, hN, seval, gS]
      refine ws_float (.pointer (some ⟨B, p, none⟩)) rfl (fun w _ => by simp only [execOp, evb, kb, hN, seval]; rfl) ?_
      refine ws_fieldAddr (b := B) (o := p) (off := 1 + lsz true sch_EndQuorumEpochResponse) (n := 1) (by kernel_rfl) rfl (by simp [evb, kb, hN, sdb]) ?_
      refine ws_move rfl ?_
      simp only [evb, kb, hN, seval]
      refine ws_call (fun args w => Tryd.call38 args w) rfl (by simp only [List.map_toArray, List.map_cons, List.map_nil, evb, kb, hN, seval, g7]; exact Uvarint_m _ _ R _ hk5d.rd (fun h => h (.inl (.inl oR))) (hk5d.new hB)) ?_
      intro v6 w6 hr6
      obtain ⟨x2, ⟨rfl, hx2⟩, e2⟩ := hr6.val
      have hk6 := hk5d.read oR ne hr6 less_uvar
      refine ⟨trivial, ?_⟩
      refine ws_float (.int .i64 x2) rfl (fun w _ => (run_pure (fun _ => rfl) (by simp [dyb, evb, kb, hN, seval, sdb, isI]) (by kernel_rfl)).trans (by have := i64_sm (x2 : Int) (by omega); simp [pvb, evb, kb, hN, seval, cvt, this]; try rfl)) ?_
      refine ws_call (fun args w => Tryd.call40 args w) rfl (by simp only [List.map_toArray, List.map_cons, List.map_nil, evb, kb, hN, seval, g7]; exact Span_cL x2 hk6.rd (fun h => h (.inl (.inl oR))) (hk6.new hB)) ?_
      intro v7 w7 hr7
      obtain ⟨l, ⟨⟨oa, cap, rfl, hcap, hbl⟩, hll⟩, e3⟩ := hr7.val
      have hk7 := hk6.read oR ne hr7 (less_span _)
      refine ⟨trivial, ?_⟩
      obtain ⟨cs7, Tb7, hbc7, hcell7⟩ := hk7.cell
      refine ws_call (fun args w => Tryd.call39 args w) rfl (by
        simp only [List.map_toArray, List.map_cons, List.map_nil, evb, kb, hN, seval]
        exact Set_c (cap := cap) hbc7 hcell7 hk7.tg hx1 (hbl.stay ⟨fun k _ h => ⟨rfl, fun e => h (e.elim (fun e => .inl (.inl e)) .inr)⟩⟩) (fun h => h (.inl oB)) (fun k hk => fun e => hk7.new hB k hk (e.elim (fun e => .inl (.inl e)) .inr))) ?_
      rintro _ w8 ⟨m8, hb8, ht8, hc8, hm8⟩
      have hk8 := hk7.set hF oB oR ne hbc7 hb8 ht8 hc8 hm8
      refine ⟨trivial, ws_nil ?_⟩
      simp only [Exit.then, Exit.inBlock]
      refine dec _ _ (by simp only [zae]; exact hN) (by simp only [evb, pvb, rnb, kb, hN, seval, gj]) (by (repeat (first | (with_reducible refine zam.put0 ?_ _) | ((with_reducible refine zam.put ?_ ?_ _); rotate_left; (· decide)))); with_reducible first | exact zam.refl _ _ | assumption) ⟨m8, _, _, ol, c0, ds, hk8, ?_⟩
      exact htot.trans (tot_dfltO hkn e1 e2 e3 hx0)
end Go.Proofs.YtojpodeljpfgaabDoor
namespace Go.Proofs.YtojpodeljpfgaabDoor
set_option linter.all false
open Go.RowKit
set_option maxRecDepth 100000
set_option maxHeartbeats 4000000
theorem app_EndQuorumEpochResponse : AppendsTo 12 true (fun ver => decide (1 ≤ ver)) sch_EndQuorumEpochResponse := by
  refine app_flex Tryd.func12 rfl rfl Tryd.ntmps12 (by kernel_rfl) ?_
  intro ver s hver
  (repeat' (first | with_reducible refine wt_start ?_ | with_reducible refine wp_noflex rfl ?_ | with_reducible refine wr_start ?_ | with_reducible refine wt_tagged rfl rfl ?_ | (with_reducible refine wt_next rfl (by kernel_rfl) (fun d hd => ?_) ?_) | (with_reducible refine wt_fin rfl rfl ?_) | (with_reducible refine wt_end rfl (by kernel_rfl) ?_ ?_) | (with_reducible refine wt_ret (by kernel_rfl)) | with_reducible refine wr_tagged rfl rfl ?_ | (with_reducible refine wr_last rfl rfl (fun d hd => ?_)) | (with_reducible refine wr_next rfl (by kernel_rfl) (fun d hd => ?_) ?_) | (with_reducible refine wr_end rfl ?_) | (with_reducible refine wr_tail rfl (by kernel_rfl) k_uint32 (by kernel_rfl)) | (with_reducible refine wf_all rfl (by dsimp only; omega) ?_) | ((with_reducible refine wf_from rfl (by kernel_rfl) (fun hv => ?_)); try dsimp only at hv) | ((with_reducible refine wf_range rfl (by kernel_rfl) (fun hv hv2 => ?_)); try dsimp only at hv hv2) | (with_reducible refine wf_ptr rfl hd (by kernel_rfl) (by kernel_rfl) rfl (by kernel_rfl) (fun s => ?_)) | (with_reducible refine wf_load rfl hd (by kernel_rfl) (by kernel_rfl) rfl ?_) | (with_reducible refine wf_inner rfl hd (by kernel_rfl) (by kernel_rfl) rfl (fun s => ?_)) | (with_reducible refine wv_i16 (by kernel_rfl)) | (with_reducible refine wv_i32 (by kernel_rfl)) | (with_reducible refine wv_u16 (by kernel_rfl)) | (with_reducible refine wv_flexS rfl (by kernel_rfl) (fun hx => ?_) (fun hx => ?_)) | (with_reducible refine wv_string rfl (by first | assumption | rfl) (by kernel_rfl)) | (with_reducible refine wv_cstring rfl (by first | assumption | rfl) (by kernel_rfl)) | ((with_reducible refine wv_otext rfl (by kernel_rfl) (by kernel_rfl) (by kernel_rfl) (by kernel_rfl) rfl (fun l => ?_) (fun hv => ?_)); (try dsimp only at hv)) | (with_reducible refine wv_listS (fun oa n cap M => ?_) (by kernel_rfl) (by kernel_rfl) (by kernel_rfl) (by kernel_rfl) (fun s => ?_)) | (with_reducible refine wv_listK (fun oa n cap M => ?_) (by kernel_rfl) (by kernel_rfl) (by kernel_rfl) (by kernel_rfl) (fun d => ?_)) | (with_reducible refine wn_flex rfl (by kernel_rfl) (fun hx => ?_) (fun hx => ?_)) | ((with_reducible refine wn_ver (by kernel_rfl) (fun hv => ?_) (fun hv => ?_)) <;> try dsimp only at hv) | (with_reducible refine wn_plain (by dsimp only; omega) (by first | assumption | rfl) (by kernel_rfl) (by kernel_rfl)) | (with_reducible refine wn_cplain (by dsimp only; omega) (by first | assumption | rfl) (by kernel_rfl) (by kernel_rfl)) | (with_reducible refine wv_again (by kernel_rfl) rfl ?_)))
  · refine wk_tags (te := 19) (i := 2) rfl rfl (by decide) (by kernel_rfl) (by decide) (fun d hd => ?_) (fun n hn => ?_) (fun d hd => ?_) ?_
    · exact tk_list rfl hd (by kernel_rfl) rfl (by kernel_rfl) (by kernel_rfl)
    · exact wk_len rfl (by kernel_rfl) rfl (by kernel_rfl) (by kernel_rfl) (by kernel_rfl) (by kernel_rfl) (by decide)
    · refine wk_loop (by kernel_rfl) (by kernel_rfl) (fun hn => ?_) (by kernel_rfl) (by kernel_rfl) (by decide) (by decide)
      refine bk_isList rfl hd fun nil l hdl => ?_
      subst hdl
      refine bk_scope2 (la := 24) rfl hd (by kernel_rfl) rfl (by kernel_rfl) (by kernel_rfl) (by kernel_rfl) (by decide) (encF_listS l nil) ?_ ?_ ?_
      · refine wv_listS1 fun oa n cap M => ?_
        (repeat' (first | with_reducible refine wt_start ?_ | with_reducible refine wp_noflex rfl ?_ | with_reducible refine wr_start ?_ | with_reducible refine wt_tagged rfl rfl ?_ | (with_reducible refine wt_next rfl (by kernel_rfl) (fun d hd => ?_) ?_) | (with_reducible refine wt_fin rfl rfl ?_) | (with_reducible refine wt_end rfl (by kernel_rfl) ?_ ?_) | (with_reducible refine wt_ret (by kernel_rfl)) | with_reducible refine wr_tagged rfl rfl ?_ | (with_reducible refine wr_last rfl rfl (fun d hd => ?_)) | (with_reducible refine wr_next rfl (by kernel_rfl) (fun d hd => ?_) ?_) | (with_reducible refine wr_end rfl ?_) | (with_reducible refine wr_tail rfl (by kernel_rfl) k_uint32 (by kernel_rfl)) | (with_reducible refine wf_all rfl (by dsimp only; omega) ?_) | ((with_reducible refine wf_from rfl (by kernel_rfl) (fun hv => ?_)); try dsimp only at hv) | ((with_reducible refine wf_range rfl (by kernel_rfl) (fun hv hv2 => ?_)); try dsimp only at hv hv2) | (with_reducible refine wf_ptr rfl hd (by kernel_rfl) (by kernel_rfl) rfl (by kernel_rfl) (fun s => ?_)) | (with_reducible refine wf_load rfl hd (by kernel_rfl) (by kernel_rfl) rfl ?_) | (with_reducible refine wf_inner rfl hd (by kernel_rfl) (by kernel_rfl) rfl (fun s => ?_)) | (with_reducible refine wv_i16 (by kernel_rfl)) | (with_reducible refine wv_i32 (by kernel_rfl)) | (with_reducible refine wv_u16 (by kernel_rfl)) | (with_reducible refine wv_flexS rfl (by kernel_rfl) (fun hx => ?_) (fun hx => ?_)) | (with_reducible refine wv_string rfl (by first | assumption | rfl) (by kernel_rfl)) | (with_reducible refine wv_cstring rfl (by first | assumption | rfl) (by kernel_rfl)) | ((with_reducible refine wv_otext rfl (by kernel_rfl) (by kernel_rfl) (by kernel_rfl) (by kernel_rfl) rfl (fun l => ?_) (fun hv => ?_)); (try dsimp only at hv)) | (with_reducible refine wv_listS (fun oa n cap M => ?_) (by kernel_rfl) (by kernel_rfl) (by kernel_rfl) (by kernel_rfl) (fun s => ?_)) | (with_reducible refine wv_listK (fun oa n cap M => ?_) (by kernel_rfl) (by kernel_rfl) (by kernel_rfl) (by kernel_rfl) (fun d => ?_)) | (with_reducible refine wn_flex rfl (by kernel_rfl) (fun hx => ?_) (fun hx => ?_)) | ((with_reducible refine wn_ver (by kernel_rfl) (fun hv => ?_) (fun hv => ?_)) <;> try dsimp only at hv) | (with_reducible refine wn_plain (by dsimp only; omega) (by first | assumption | rfl) (by kernel_rfl) (by kernel_rfl)) | (with_reducible refine wn_cplain (by dsimp only; omega) (by first | assumption | rfl) (by kernel_rfl) (by kernel_rfl)) | (with_reducible refine wv_again (by kernel_rfl) rfl ?_)))
      · refine wv_listS2 (by kernel_rfl) (by kernel_rfl) (by kernel_rfl) (by kernel_rfl) (fun s => ?_)
        (repeat' (first | with_reducible refine wt_start ?_ | with_reducible refine wp_noflex rfl ?_ | with_reducible refine wr_start ?_ | with_reducible refine wt_tagged rfl rfl ?_ | (with_reducible refine wt_next rfl (by kernel_rfl) (fun d hd => ?_) ?_) | (with_reducible refine wt_fin rfl rfl ?_) | (with_reducible refine wt_end rfl (by kernel_rfl) ?_ ?_) | (with_reducible refine wt_ret (by kernel_rfl)) | with_reducible refine wr_tagged rfl rfl ?_ | (with_reducible refine wr_last rfl rfl (fun d hd => ?_)) | (with_reducible refine wr_next rfl (by kernel_rfl) (fun d hd => ?_) ?_) | (with_reducible refine wr_end rfl ?_) | (with_reducible refine wr_tail rfl (by kernel_rfl) k_uint32 (by kernel_rfl)) | (with_reducible refine wf_all rfl (by dsimp only; omega) ?_) | ((with_reducible refine wf_from rfl (by kernel_rfl) (fun hv => ?_)); try dsimp only at hv) | ((with_reducible refine wf_range rfl (by kernel_rfl) (fun hv hv2 => ?_)); try dsimp only at hv hv2) | (with_reducible refine wf_ptr rfl hd (by kernel_rfl) (by kernel_rfl) rfl (by kernel_rfl) (fun s => ?_)) | (with_reducible refine wf_load rfl hd (by kernel_rfl) (by kernel_rfl) rfl ?_) | (with_reducible refine wf_inner rfl hd (by kernel_rfl) (by kernel_rfl) rfl (fun s => ?_)) | (with_reducible refine wv_i16 (by kernel_rfl)) | (with_reducible refine wv_i32 (by kernel_rfl)) | (with_reducible refine wv_u16 (by kernel_rfl)) | (with_reducible refine wv_flexS rfl (by kernel_rfl) (fun hx => ?_) (fun hx => ?_)) | (with_reducible refine wv_string rfl (by first | assumption | rfl) (by kernel_rfl)) | (with_reducible refine wv_cstring rfl (by first | assumption | rfl) (by kernel_rfl)) | ((with_reducible refine wv_otext rfl (by kernel_rfl) (by kernel_rfl) (by kernel_rfl) (by kernel_rfl) rfl (fun l => ?_) (fun hv => ?_)); (try dsimp only at hv)) | (with_reducible refine wv_listS (fun oa n cap M => ?_) (by kernel_rfl) (by kernel_rfl) (by kernel_rfl) (by kernel_rfl) (fun s => ?_)) | (with_reducible refine wv_listK (fun oa n cap M => ?_) (by kernel_rfl) (by kernel_rfl) (by kernel_rfl) (by kernel_rfl) (fun d => ?_)) | (with_reducible refine wn_flex rfl (by kernel_rfl) (fun hx => ?_) (fun hx => ?_)) | ((with_reducible refine wn_ver (by kernel_rfl) (fun hv => ?_) (fun hv => ?_)) <;> try dsimp only at hv) | (with_reducible refine wn_plain (by dsimp only; omega) (by first | assumption | rfl) (by kernel_rfl) (by kernel_rfl)) | (with_reducible refine wn_cplain (by dsimp only; omega) (by first | assumption | rfl) (by kernel_rfl) (by kernel_rfl)) | (with_reducible refine wv_again (by kernel_rfl) rfl ?_)))
      · intro a w base v bs l hN h1 hown hb gla hl1 hl2
        replace hN : a.tmps.size = 274 := hN
        obtain ⟨r1, r2, r3, r4, r5, r6⟩ := rz_vals hown
        refine wp_ord (fun k => v.ownBlock = some k) follows_any (by kernel_rfl) ?_
        (repeat (first | (refine wf_p rfl rfl ?_ ?_ ?_ ?_; (· first | exact rdX_no | (refine ⟨?_⟩; simp [rxb]; done)); (· simp [evb, pvb, rnb, kb, hN, seval, h1, gla, r1, r2, r3, r4, fo, dyb, sdb] <;> omega); (· kernel_rfl); try simp only [evb, pvb, rnb, kb, hN, seval, h1, gla, r1, r2, r3, r4, fo]) | (refine wf_pg rfl rfl rfl ?_ rfl ?_ ?_ ?_ ?_; (· simp [evb, pvb, rnb, kb, hN, seval, h1, gla, r1, r2, r3, r4, fo]; done); (· first | exact rdX_no | (refine ⟨?_⟩; simp [rxb]; done)); (· simp [evb, pvb, rnb, kb, hN, seval, h1, gla, r1, r2, r3, r4, fo, dyb, sdb] <;> omega); (· kernel_rfl); try simp only [evb, pvb, rnb, kb, hN, seval, h1, gla, r1, r2, r3, r4, fo]) | (refine wf_gno rfl rfl rfl ?_ ?_; (· simp [evb, pvb, rnb, kb, hN, seval, h1, gla, r1, r2, r3, r4, fo]; done); try simp only [evb, pvb, rnb, kb, hN, seval, h1, gla, r1, r2, r3, r4, fo]) | (refine wf_gnoU rfl rfl rfl ?_ ?_; (· simp [evb, pvb, rnb, kb, hN, seval, h1, gla, r1, r2, r3, r4, fo]; done); try simp only [evb, pvb, rnb, kb, hN, seval, h1, gla, r1, r2, r3, r4, fo])))
        refine wf_call (fun args w => Tryd.call21 args w) rfl (by simp only [List.map_toArray, List.map_cons, List.map_nil]; simp only [evb, pvb, rnb, kb, hN, seval, cvt, u32_mod]; exact zaU (l.length % 4294967296) (Nat.mod_lt _ (by omega)) _ base _ bs (r5.chg (Chg.drew (fun _ => False) _) fun _ _ h => h) hl2 hb trivial) ?_
        intro v2 w2 ha
        have hc : Chg (fun k => v.ownBlock = some k) w w2 := ((Chg.drew (fun _ => False) _).mono fun _ _ h => h.elim).trans (ha.chg.mono fun k _ h => by rwa [r6] at h) fun _ _ h => h
        refine ⟨hc, ?_⟩
        (repeat (first | (refine wf_p rfl rfl ?_ ?_ ?_ ?_; (· first | exact rdX_no | (refine ⟨?_⟩; simp [rxb]; done)); (· simp [evb, pvb, rnb, kb, hN, seval, dyb, sdb] <;> omega); (· kernel_rfl); try simp only [evb, pvb, rnb, kb, hN, seval]) | (refine wf_pg rfl rfl rfl ?_ rfl ?_ ?_ ?_ ?_; (· simp [evb, pvb, rnb, kb, hN, seval]; done); (· first | exact rdX_no | (refine ⟨?_⟩; simp [rxb]; done)); (· simp [evb, pvb, rnb, kb, hN, seval, dyb, sdb] <;> omega); (· kernel_rfl); try simp only [evb, pvb, rnb, kb, hN, seval]) | (refine wf_gno rfl rfl rfl ?_ ?_; (· simp [evb, pvb, rnb, kb, hN, seval]; done); try simp only [evb, pvb, rnb, kb, hN, seval]) | (refine wf_gnoU rfl rfl rfl ?_ ?_; (· simp [evb, pvb, rnb, kb, hN, seval]; done); try simp only [evb, pvb, rnb, kb, hN, seval])))
        refine wf_nil (by decide) ⟨?_, ?_⟩
        · (repeat (first | (with_reducible refine zam.put0 ?_ _) | ((with_reducible refine zam.put ?_ ?_ _); rotate_left; (· decide)))); exact zam.refl _ _
        · simp only [evb, pvb, rnb, kb, hN, seval]
          refine ⟨ha.own, hc, ?_⟩
          rcases ha.blk with h | ⟨g, g1, g2⟩
          · exact .inl (h.trans r6)
          · exact .inr ⟨g, g1, g2⟩
    · exact wk_each rfl (by kernel_rfl) rfl (by kernel_rfl)
end Go.Proofs.YtojpodeljpfgaabDoor
namespace Go.Proofs.YtojpodeljpfgaabDoor
set_option linter.all false
open Go.RowKit
set_option maxRecDepth 100000
set_option maxHeartbeats 2000000
theorem new_EndQuorumEpochResponse : NewsPtr 8 dd_EndQuorumEpochResponse :=
  newptr_of dd_EndQuorumEpochResponse dd_EndQuorumEpochResponse Tryd.func8 rfl rfl Tryd.ntmps8 (by kernel_rfl) (fun w => Tryd.zeroValue44 w) (fun args w => Tryd.call13 args w) defm_EndQuorumEpochResponse
theorem max_EndQuorumEpochResponse : MaxIs 4 1 := by
  intro w
  refine zat Tryd.func4 rfl rfl Tryd.ntmps4 (by simp) ?_
  intro a hN hD ha
  refine wp_seq_k fun K hK => ?_; refine zai ?_; refine zak ?_; refine zah ?_; refine hK _ _ ?_; clear hK K
  refine wp_seq_k fun K hK => ?_; refine zai ?_
  refine zaH (fun args w => Tryd.call8 args w) (by simp only [List.map_toArray, List.map_nil]; exact new_EndQuorumEpochResponse w) ?_
  rintro v w1 ⟨rfl, hc, _⟩
  refine zaH (fun args w => Tryd.call9 args w) (by simp only [List.map_toArray, List.map_cons, List.map_nil]; simp only [evb, kb, hN, seval]; exact maxver_of Tryd.func9 rfl rfl Tryd.ntmps9 (by kernel_rfl) _ w1) ?_
  rintro _ w2 ⟨rfl, rfl⟩
  (repeat (first | ((with_reducible refine wl_q ?_ ?_ ?_ ?_); (· exact rfl); (· simp [evb, kb, hN, dyb, sdb] <;> omega); (· kernel_rfl); try simp only [evb, kb, hN, seval, pvb]) | ((with_reducible refine zap ?_ ?_ ?_); rotate_left 1; (· simp [evb, kb, hN, sdb]); rotate_left 1; (· kernel_rfl); try simp only [evb, kb, hN, seval, pvb])))
  refine zah ?_; refine hK _ _ ?_; clear hK K; refine wp_ret ⟨by simp [zaj, hD], ?_⟩; simp only [evb, kb, hN, seval]
  exact ⟨by first | rfl | trivial, hc⟩
theorem setv_EndQuorumEpochResponse : SetsVersion 10 := setver_of Tryd.func10 rfl rfl Tryd.ntmps10 (by kernel_rfl)
theorem from_EndQuorumEpochResponse : ReadsFrom 11 14 := fun h => readfrom_c Tryd.func11 rfl rfl Tryd.ntmps11 (fun args w => Tryd.call14 args w) h
theorem ag_EndQuorumEpochResponse : AgCo 5 (fun ver => decide (1 ≤ ver)) 1 sch_EndQuorumEpochResponse := fun ver h0 h1 w G oa bs cap hsrc hlim herr hout =>
  again_ofo Tryd.func5 rfl rfl Tryd.ntmps5 (fun args w => Tryd.call8 args w) (fun args w => Tryd.call10 args w) (fun args w => Tryd.call11 args w) (fun args w => Tryd.call12 args w) new_EndQuorumEpochResponse setv_EndQuorumEpochResponse from_EndQuorumEpochResponse read_EndQuorumEpochResponse app_EndQuorumEpochResponse h0 (by omega) hsrc hlim herr hout
def gs_EndQuorumEpochResponse : List Fld := [.mk .i16 0 (-1) (-1) (-1) 0 .bool [], .mk .list 0 (-1) (-1) (-1) 0 .struct sch_sEndQuorumEpochResponseTopic, .mk .list 0 (-1) (-1) 0 0 .bool []]
theorem su_EndQuorumEpochResponse : sameU sch_EndQuorumEpochResponse gs_EndQuorumEpochResponse := sameU_cons (.inl rfl) (sameU_cons (.inl rfl) (sameU_cons (.inr ⟨by decide, by decide, by simp [dfltF]⟩) sameU_nil))
theorem any_EndQuorumEpochResponse : AnyLawO (fun ver => decide (1 ≤ ver)) 1 sch_EndQuorumEpochResponse := anyO_of (gs := gs_EndQuorumEpochResponse) rfl su_EndQuorumEpochResponse (by kernel_rfl)
theorem walk_FnAnyEndQuorumEpochResponse {a : Int} (hn : 0 ≤ a) (hn2 : a < 256) {w : World} {G : Nat → Prop} {oa : Option Addr} {bs : Bs} {cap : Nat} (hbs : zaq w G oa bs) (hcap : bs.length ≤ cap) (hlen : bs.length ≤ 1048576) (herr : ErrW w) :
    zaD Tryd.prog 3 #[.int .u8 a, .slice oa bs.length cap] w fun v w' => v = .bool true ∧ Chg (fun _ => False) w w' :=
  lawAny_ofo Tryd.func3 rfl rfl Tryd.ntmps3 (fun args w => Tryd.call4 args w) (fun args w => Tryd.call5 args w) max_EndQuorumEpochResponse ag_EndQuorumEpochResponse (by decide) any_EndQuorumEpochResponse hn hn2 hbs hcap hlen herr
end Go.Proofs.YtojpodeljpfgaabDoor
namespace Go.Proofs.YtojpodeljpfgaabDoor
set_option linter.all false
namespace fnAnyEndQuorumEpochResponse
open Go.ChangeShapes Go.WideShapes Go.ChangeAt Go.RowKit
set_option maxRecDepth 100000
set_option maxHeartbeats 1000000
theorem laid_met (os : Os) : laidMet Tryd.prog Rows.fnAnyEndQuorumEpochResponseUptoRow.laid ((laidWorld os).forCall (fun _ _ => 0) ⟨#[], #[.int .u8 0, .slice none 0 0], []⟩).memory :=
  laidMet_of_run' 8 (by kernel_rfl) (by kernel_rfl)
theorem witness_row (os : Os) {H : Type} (enc : TypeId × Value → H) :
    (Rows.OpenSpec.upto Rows.fnAnyEndQuorumEpochResponseSpec).preRow enc Tryd.prog Tryd.f3 Rows.fnAnyEndQuorumEpochResponseUptoRow.domain false Rows.fnAnyEndQuorumEpochResponseUptoRow.laid ((laidWorld os).forCall (fun _ _ => 0) ⟨#[], #[.int .u8 0, .slice none 0 0], []⟩).memory #[.int .u8 0, .slice none 0 0] := by
  have hw : (DataW.whole enc Tryd.prog ((laidWorld os).forCall (fun _ _ => 0) ⟨#[], #[.int .u8 0, .slice none 0 0], []⟩).memory Tryd.f3.params.toList Rows.fnAnyEndQuorumEpochResponseSpec.vars false (#[.int .u8 0, .slice none 0 0] : Array Value).toList 8).map (fun x => (decide (Rows.uptoBulkAll (x.1 ++ x.2.1) ≤ 1048576))) = some true := by kernel_rfl
  obtain ⟨⟨x1, x2, x3⟩, hx, hx1⟩ := Option.map_eq_some_iff.1 hw
  exact OpenSpec.preRow_of_cond 8 hx (by kernel_rfl) (fun k hk => by cases hk; exact hx1) (by kernel_rfl) (laid_met os)
theorem lifted (os : Os) (started : os.Started) (H : Type) (enc : TypeId × Value → H) (F : Stop.Interp) :
    ReturnsInHanded {} Tryd.checked os 3 .any ((Rows.OpenSpec.upto Rows.fnAnyEndQuorumEpochResponseSpec).preRow enc Tryd.prog Tryd.f3 Rows.fnAnyEndQuorumEpochResponseUptoRow.domain false Rows.fnAnyEndQuorumEpochResponseUptoRow.laid) (((Rows.OpenSpec.upto Rows.fnAnyEndQuorumEpochResponseSpec).at F).post enc Tryd.prog Tryd.f3 false true false false) := by
  refine returnsInHanded_of_row (C := Tryd.checked) (s := Rows.OpenSpec.upto Rows.fnAnyEndQuorumEpochResponseSpec) own started (by kernel_rfl) Tryd.func3
    (witness_row_atRef (enc := enc) (C := Tryd.checked) false (laidWorld os) #[.int .u8 0, .slice none 0 0] rfl (by kernel_rfl) (by kernel_rfl) (by kernel_rfl) (witness_row os enc)) ?_
  intro W base args ds gs before hval0 hW _ hcond _ hL _ _
  have hval : ∀ (j : Nat) t v, Tryd.f3.params[j]? = some t → args[j]? = some v → Value.okWide Tryd.prog W .any base t v := hval0
  have hW' := hW
  obtain ⟨p, q, hA0, hV, rfl, hfz, hnd⟩ := hW
  have hA : DataW.TrodAll enc Tryd.prog W 0 (fun _ => true) true Tryd.f3.params.toList args.toList ds p := hA0
  rw [Tryd.params3] at hA hval
  obtain ⟨v0, vs0, d0, ds0, p0, q0, hargs, rfl, rfl, h0, r0⟩ := trodAll_cons hA
  obtain ⟨v1, vs1, d1, ds1, p1, q1, rfl, rfl, rfl, h1, r1⟩ := trodAll_cons r0
  obtain ⟨rfl, rfl, rfl⟩ := trodAll_nil r1
  obtain rfl : args = #[v0, v1] := by cases args; simp_all
  obtain ⟨rfl, rfl⟩ := trodVars_none hV
  simp only [List.append_nil] at hW' hcond
  have hbulk := hcond _ rfl
  replace hbulk := of_decide_eq_true hbulk
  simp only [Rows.uptoBulkAll] at hbulk
  have hlt : ∀ x ∈ _, MemPlace.block x < W.heap.size := fun x hx => hW'.lt x hx
  obtain ⟨a0, rfl, rfl, rfl, x0⟩ := open_int Tryd.underlying5 (hval 0 5 v0 rfl rfl) h0
  have y0 : 0 ≤ a0 ∧ a0 < 256 := by have h := x0; simp only [Lit.wf, IntKind.min, IntKind.max, IntKind.signed, IntKind.bits, Bool.and_eq_true, decide_eq_true_eq] at h; simp at h; omega
  obtain ⟨oa, bs, cap, rfl, hbs, hcap, hlen⟩ := bytes_arg (hval 1 22 v1 rfl rfl) h1 (by omega)
  clear hA0 hval0
  refine Calls.mono (walk_FnAnyEndQuorumEpochResponse y0.1 y0.2 hbs hcap hlen (errW_of hL)) fun e W' ⟨v, he, hv, hc⟩ => ?_
  subst he
  subst hv
  exact ⟨_, rfl, _, _, _, [], _, [], hW', trodAll_cons_mk (shut_bool Tryd.underlying4 _) trodAll_mk0, trodAll_cons_mk (shut_int Tryd.underlying5 x0) (trodAll_cons_mk (bytes_same h1 hc (fun x hx => hlt x (by simp [hx]))) (trodAll_mk0)), rfl, (below_of hc).frame _, fun h => by cases h⟩
theorem c2 : (Rows.fnAnyEndQuorumEpochResponseUptoRow.inPlace == Tryd.prog.inPlace 3) = true := by kernel_rfl
theorem c3 : (Rows.fnAnyEndQuorumEpochResponseUptoRow.unfollowed == Tryd.prog.unfollowed 3) = true := by kernel_rfl
theorem c4 : (Rows.fnAnyEndQuorumEpochResponseUptoRow.recurses == Tryd.prog.recurses 3) = true := by kernel_rfl
theorem c5 : (Rows.fnAnyEndQuorumEpochResponseUptoRow.named == Tryd.prog.varsNamed 3) = true := by kernel_rfl
theorem c7 : (Rows.fnAnyEndQuorumEpochResponseUptoRow.lifted == Tryd.prog.liftsFinal) = true := by
  have h : Rows.fnAnyEndQuorumEpochResponseUptoRow.lifted = Facts.lifted := rfl
  rw [h]; exact Facts.c7
theorem c8 : (Tryd.prog.make == some Rows.fnAnyEndQuorumEpochResponseUptoRow.make) = true := by
  have h : Rows.fnAnyEndQuorumEpochResponseUptoRow.make = Facts.make := rfl
  rw [h]; exact Facts.c8
theorem c9 : (Rows.fnAnyEndQuorumEpochResponseUptoRow.plainKeys == Tryd.prog.plainKeys) = true := by
  have h : Rows.fnAnyEndQuorumEpochResponseUptoRow.plainKeys = Facts.plainKeys := rfl
  rw [h]; exact Facts.c9
theorem c11 : Tryd.prog.funcNamed Rows.fnAnyEndQuorumEpochResponseUptoRow.func = some 3 := by kernel_rfl
theorem closed : joinedFacts Tryd.prog 3 Tryd.f3 (Rows.OpenSpec.upto Rows.fnAnyEndQuorumEpochResponseSpec).bare Rows.fnAnyEndQuorumEpochResponseUptoRow = true := by
  unfold joinedFacts
  simp only [Bool.and_eq_true]
  repeat' (refine And.intro ?_ ?_)
  all_goals first | with_reducible exact Facts.c1 | with_reducible exact Facts.c0 | with_reducible exact c2 | with_reducible exact c3 | with_reducible exact c4 | with_reducible exact c5 | with_reducible exact Facts.c6 | with_reducible exact c7 | with_reducible exact c8 | with_reducible exact c9 | with_reducible exact Facts.c10 | kernel_rfl
theorem over : Rows.FnAnyEndQuorumEpochResponseUptoSaid :=
  OpenClaim.holds_of_cond 3 Tryd.f3 rfl rfl rfl rfl rfl rfl rfl ⟨rfl, rfl, rfl, rfl, rfl⟩ rfl rfl rfl rfl rfl c11 Tryd.func3 closed
    (of_decide_eq_true (by kernel_rfl)) (by unfold Func.isWrapper; first | (rw [if_pos (by decide +kernel)]; kernel_rfl) | (rw [if_neg (by decide +kernel)]; exact ⟨rfl, rfl⟩))
    (fun os started H enc _ F => by rw [OpenClaim.pre_eq_preRow]; exact lifted os started H enc F)
theorem plain (f : FuncId) (fn : Func) (hf : Tryd.pinned.checked.prog.funcNamed "pub-kmsg/laws.FnAnyEndQuorumEpochResponse" = some f) (hfn : Tryd.pinned.checked.prog.funcs[f]? = some fn) :
    false = Tryd.pinned.checked.prog.looks [] ∧ ∀ (j : Nat) t, fn.params[j]? = some t → Tryd.pinned.checked.prog.wantsStandIn t = false := by
  obtain rfl : f = 3 := Option.some.inj ((show Tryd.prog.funcNamed "pub-kmsg/laws.FnAnyEndQuorumEpochResponse" = some 3 by kernel_rfl).symm.trans hf) |>.symm
  obtain rfl : fn = Tryd.f3 := (Option.some.inj (Tryd.func3.symm.trans hfn)).symm
  refine ⟨by kernel_rfl, fun j t ht => ?_⟩
  rw [Tryd.params3] at ht
  have hw0 : Tryd.prog.wantsStandIn 5 = false := by kernel_rfl
  have hw1 : Tryd.prog.wantsStandIn 22 = false := by kernel_rfl
  have hm := Array.mem_of_getElem? ht
  simp only [List.mem_toArray, List.mem_cons, List.not_mem_nil, or_false] at hm
  rcases hm with rfl | rfl <;> assumption
end fnAnyEndQuorumEpochResponse
theorem fnAnyEndQuorumEpochResponse_holds : Rows.FnAnyEndQuorumEpochResponseUptoCardSaid :=
  Claim7.holds_tied_plain_at .later [] _ _ _ _ fnAnyEndQuorumEpochResponse.over (fun _ h => by cases h) (by kernel_rfl) (fun _ h => by cases h) fnAnyEndQuorumEpochResponseUpto_row_tie rfl ⟨rfl, rfl⟩ (by kernel_rfl) rfl fnAnyEndQuorumEpochResponse.plain (by kernel_rfl)
#print axioms fnAnyEndQuorumEpochResponse_holds
end Go.Proofs.YtojpodeljpfgaabDoor

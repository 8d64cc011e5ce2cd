/-
What is read of any bytes as a DescribeClientQuotasResponse is written as bytes that are read again, and written as the same: for every input of bulk at most 1048576 the law returns true. Conditions: the listed variable holds what the text lays (tied by the card).
-/
import Derived.Test.YtkodgaelpllhgaaDoorZE
import Derived.Test.YtkodgaelpllhgaaDoorZW
import Derived.Test.YtkodgaelpllhgaaDoorZY
import Derived.Test.YtkodgaelpllhgaaDoorZF
import Derived.Test.YtkodgaelpllhgaaDoorZP
namespace Go.Proofs.YtkodgaelpllhgaaDoor
set_option linter.all false
open Go.RowKit
set_option maxRecDepth 100000
set_option maxHeartbeats 2000000
def sch_sDescribeClientQuotasResponseEntryEntity : List Fld := [.mk .text 0 (-1) (-1) (-1) 0 .bool [], .mk .text 0 (-1) 0 (-1) 0 .bool []]
def sch_sDescribeClientQuotasResponseEntryValue : List Fld := [.mk .text 0 (-1) (-1) (-1) 0 .bool [], .mk .f64 0 (-1) (-1) (-1) 0 .bool []]
def sch_sDescribeClientQuotasResponseEntry : List Fld := [.mk .list 0 (-1) (-1) (-1) 0 .struct sch_sDescribeClientQuotasResponseEntryEntity, .mk .list 0 (-1) (-1) (-1) 0 .struct sch_sDescribeClientQuotasResponseEntryValue]
def sch_DescribeClientQuotasResponse : List Fld := [.mk .i32 0 (-1) (-1) (-1) 0 .bool [], .mk .i16 0 (-1) (-1) (-1) 0 .bool [], .mk .text 0 (-1) 0 (-1) 0 .bool [], .mk .list 0 (-1) 0 (-1) 0 .struct sch_sDescribeClientQuotasResponseEntry]
def zz_sDescribeClientQuotasResponseEntryEntity : List Value := [.string ⟨#[]⟩, .pointer none, .map none]
def dd_sDescribeClientQuotasResponseEntryEntity : List Value := [.string ⟨#[]⟩, .pointer none, .map none]
theorem elz_sDescribeClientQuotasResponseEntryEntity : ∀ e, (Tryd.prog).underlying 66 = some (.slice e) → zeroB Tryd.prog e (aggOf zz_sDescribeClientQuotasResponseEntryEntity) := by
  intro e he
  have h : (Tryd.prog).underlying 66 = some (.slice 72) := by kernel_rfl
  rw [h] at he; cases he
  exact fun w => Tryd.zeroValue72 w
theorem eln_sDescribeClientQuotasResponseEntryEntity : zaC Tryd.prog 63 := (fun args w => Tryd.call63 args w)
theorem eld_sDescribeClientQuotasResponseEntryEntity : DefC 63 (aggOf zz_sDescribeClientQuotasResponseEntryEntity).cells.toList dd_sDescribeClientQuotasResponseEntryEntity := by
  intro w b off cs T hb hlen hseg
  refine callsR_of0 Tryd.func63 rfl rfl Tryd.ntmps63 (by simp) ?_
  intro a hN hD ha
  refine wp_skip ⟨hD, ?_, Chg.refl _ _⟩
  have e : zat cs off dd_sDescribeClientQuotasResponseEntryEntity = cs := splice_same hseg hlen
  rw [e]; exact hb
def zz_sDescribeClientQuotasResponseEntryValue : List Value := [.string ⟨#[]⟩, .float .f64 0, .map none]
def dd_sDescribeClientQuotasResponseEntryValue : List Value := [.string ⟨#[]⟩, .float .f64 0, .map none]
theorem elz_sDescribeClientQuotasResponseEntryValue : ∀ e, (Tryd.prog).underlying 67 = some (.slice e) → zeroB Tryd.prog e (aggOf zz_sDescribeClientQuotasResponseEntryValue) := by
  intro e he
  have h : (Tryd.prog).underlying 67 = some (.slice 76) := by kernel_rfl
  rw [h] at he; cases he
  exact fun w => Tryd.zeroValue76 w
theorem eln_sDescribeClientQuotasResponseEntryValue : zaC Tryd.prog 64 := (fun args w => Tryd.call64 args w)
theorem eld_sDescribeClientQuotasResponseEntryValue : DefC 64 (aggOf zz_sDescribeClientQuotasResponseEntryValue).cells.toList dd_sDescribeClientQuotasResponseEntryValue := by
  intro w b off cs T hb hlen hseg
  refine callsR_of0 Tryd.func64 rfl rfl Tryd.ntmps64 (by simp) ?_
  intro a hN hD ha
  refine wp_skip ⟨hD, ?_, Chg.refl _ _⟩
  have e : zat cs off dd_sDescribeClientQuotasResponseEntryValue = cs := splice_same hseg hlen
  rw [e]; exact hb
def zz_sDescribeClientQuotasResponseEntry : List Value := [.slice none 0 0, .slice none 0 0, .map none]
def dd_sDescribeClientQuotasResponseEntry : List Value := [.slice none 0 0, .slice none 0 0, .map none]
theorem elz_sDescribeClientQuotasResponseEntry : ∀ e, (Tryd.prog).underlying 60 = some (.slice e) → zeroB Tryd.prog e (aggOf zz_sDescribeClientQuotasResponseEntry) := by
  intro e he
  have h : (Tryd.prog).underlying 60 = some (.slice 69) := by kernel_rfl
  rw [h] at he; cases he
  exact fun w => Tryd.zeroValue69 w
theorem eln_sDescribeClientQuotasResponseEntry : zaC Tryd.prog 62 := (fun args w => Tryd.call62 args w)
theorem eld_sDescribeClientQuotasResponseEntry : DefC 62 (aggOf zz_sDescribeClientQuotasResponseEntry).cells.toList dd_sDescribeClientQuotasResponseEntry := by
  intro w b off cs T hb hlen hseg
  refine callsR_of0 Tryd.func62 rfl rfl Tryd.ntmps62 (by simp) ?_
  intro a hN hD ha
  refine wp_skip ⟨hD, ?_, Chg.refl _ _⟩
  have e : zat cs off dd_sDescribeClientQuotasResponseEntry = cs := splice_same hseg hlen
  rw [e]; exact hb
def dd_DescribeClientQuotasResponse : List Value := [.int .i32 0, .int .i16 0, .pointer none, .slice none 0 0, .map none]
theorem defm_DescribeClientQuotasResponse : DefM 36 dd_DescribeClientQuotasResponse := by
  intro w B v T hb
  refine callsR_of0 Tryd.func36 rfl rfl Tryd.ntmps36 (by simp) ?_
  intro a hN hD ha
  exact wp_skip ⟨hD, hb, Chg.refl _ _⟩
theorem read_DescribeClientQuotasResponse : ReadsF 37 true (fun ver => decide (1 ≤ ver)) sch_DescribeClientQuotasResponse dd_DescribeClientQuotasResponse [.bool false] := by
  refine read_flex Tryd.func37 rfl rfl Tryd.ntmps37 (fun args w => Tryd.call36 args w) defm_DescribeClientQuotasResponse (by kernel_rfl) ?_
  intro ver hver
  (repeat' (first | (with_reducible refine rt_tagged rfl rfl ?_) | (with_reducible refine rt_next rfl (by kernel_rfl) ?_ ?_) | (with_reducible refine rt_end rfl ?_) | (with_reducible refine rt_noflex rfl ?_) | (with_reducible refine rt_fin co_en (by kernel_rfl) (by kernel_rfl)) | (with_reducible refine rt_tl (I := 1000) (by kernel_rfl) ?_ ?_) | (with_reducible refine rd_tags (by kernel_rfl) tagOK_all tg_en (by kernel_rfl) (by kernel_rfl)) | (with_reducible refine rd_tagged rfl rfl ?_) | (with_reducible refine rd_noflex rfl ?_) | (with_reducible refine rd_last rfl rfl (by kernel_rfl) ?_) | (with_reducible refine rd_next rfl (by kernel_rfl) (by kernel_rfl) ?_ ?_) | (with_reducible refine rd_end rfl ?_) | (with_reducible refine sf_all rfl (by dsimp only; omega) ?_) | ((with_reducible refine sf_from rfl (by kernel_rfl) (fun hv => ?_)); try dsimp only at hv) | ((with_reducible refine sf_range rfl (by kernel_rfl) (fun hv hv2 => ?_)); try dsimp only at hv hv2) | (with_reducible refine rf_listN rfl (by kernel_rfl) elz_sDescribeClientQuotasResponseEntryEntity (by kernel_rfl) ?_ ok_en co_en ?_ (by kernel_rfl)) | (with_reducible refine rf_listN rfl (by kernel_rfl) elz_sDescribeClientQuotasResponseEntryValue (by kernel_rfl) ?_ ok_en co_en ?_ (by kernel_rfl)) | (with_reducible refine rf_listN rfl (by kernel_rfl) elz_sDescribeClientQuotasResponseEntry (by kernel_rfl) ?_ ok_en co_en ?_ (by kernel_rfl)) | (with_reducible refine rf_list1 rfl (by kernel_rfl) elz_sDescribeClientQuotasResponseEntryEntity (by kernel_rfl) ?_ ok_en co_en ?_ (by kernel_rfl)) | (with_reducible refine el_struct1 (by kernel_rfl) eln_sDescribeClientQuotasResponseEntryEntity eld_sDescribeClientQuotasResponseEntryEntity (by kernel_rfl) ?_ (by kernel_rfl) (by kernel_rfl) (by kernel_rfl)) | (with_reducible refine rf_list1 rfl (by kernel_rfl) elz_sDescribeClientQuotasResponseEntryValue (by kernel_rfl) ?_ ok_en co_en ?_ (by kernel_rfl)) | (with_reducible refine el_struct1 (by kernel_rfl) eln_sDescribeClientQuotasResponseEntryValue eld_sDescribeClientQuotasResponseEntryValue (by kernel_rfl) ?_ (by kernel_rfl) (by kernel_rfl) (by kernel_rfl)) | (with_reducible refine rf_list1 rfl (by kernel_rfl) elz_sDescribeClientQuotasResponseEntry (by kernel_rfl) ?_ ok_en co_en ?_ (by kernel_rfl)) | (with_reducible refine el_struct1 (by kernel_rfl) eln_sDescribeClientQuotasResponseEntry eld_sDescribeClientQuotasResponseEntry (by kernel_rfl) ?_ (by kernel_rfl) (by kernel_rfl) (by kernel_rfl)) | (with_reducible refine rf_store ?_ rfl (by kernel_rfl) (by kernel_rfl) (by kernel_rfl)) | (with_reducible refine rf_store2 ?_ rfl (by kernel_rfl) (by kernel_rfl) (by kernel_rfl) (by kernel_rfl)) | (with_reducible refine rd_pre ?_ (by kernel_rfl)) | (with_reducible refine rv_safe ?_ (by kernel_rfl)) | (with_reducible refine rv_flex rfl (fun hx => ?_) (fun hx => ?_) (by kernel_rfl)) | (with_reducible refine rv_i16 (by kernel_rfl)) | (with_reducible refine rv_i32 (by kernel_rfl)) | (with_reducible refine rv_string rfl (by first | assumption | rfl) (by kernel_rfl)) | (with_reducible refine rv_cstring rfl (by first | assumption | rfl) (by kernel_rfl)) | (with_reducible refine rv_nstring rfl (by first | assumption | rfl) (by dsimp only; omega) (by kernel_rfl)) | (with_reducible refine rv_cnstring rfl (by first | assumption | rfl) (by dsimp only; omega) (by kernel_rfl)) | (with_reducible refine rv_f64 (by kernel_rfl)) | (with_reducible refine rv_again ?_ (by kernel_rfl)) | (with_reducible refine rv_pre ?_ (by kernel_rfl)) | (with_reducible refine rn_plain (by first | assumption | rfl) (by kernel_rfl)) | (with_reducible refine rn_cplain (by first | assumption | rfl) (by kernel_rfl)) | (with_reducible refine rn_flex rfl (fun hx => ?_) (fun hx => ?_) (by kernel_rfl)) | (with_reducible refine el_pre ?_ (by kernel_rfl)) | (with_reducible refine el_val1 (by kernel_rfl) (rv_elem rfl ?_) (by kernel_rfl) (by kernel_rfl))))
theorem app_DescribeClientQuotasResponse : AppendsTo 20 true (fun ver => decide (1 ≤ ver)) sch_DescribeClientQuotasResponse := by
  refine app_flex Tryd.func20 rfl rfl Tryd.ntmps20 (by kernel_rfl) ?_
  intro ver s hver
  (repeat' (first | with_reducible refine wt_start ?_ | with_reducible refine wp_noflex rfl ?_ | with_reducible refine wr_start ?_ | with_reducible refine wt_tagged rfl rfl ?_ | (with_reducible refine wt_next rfl (by kernel_rfl) (fun d hd => ?_) ?_) | (with_reducible refine wt_fin rfl rfl ?_) | (with_reducible refine wt_end rfl (by kernel_rfl) ?_ ?_) | (with_reducible refine wt_ret (by kernel_rfl)) | with_reducible refine wr_tagged rfl rfl ?_ | (with_reducible refine wr_last rfl rfl (fun d hd => ?_)) | (with_reducible refine wr_next rfl (by kernel_rfl) (fun d hd => ?_) ?_) | (with_reducible refine wr_end rfl ?_) | (with_reducible refine wr_tail rfl (by kernel_rfl) k_uint32 (by kernel_rfl)) | (with_reducible refine wf_all rfl (by dsimp only; omega) ?_) | ((with_reducible refine wf_from rfl (by kernel_rfl) (fun hv => ?_)); try dsimp only at hv) | ((with_reducible refine wf_range rfl (by kernel_rfl) (fun hv hv2 => ?_)); try dsimp only at hv hv2) | (with_reducible refine wf_load rfl hd (by kernel_rfl) (by kernel_rfl) rfl ?_) | (with_reducible refine wf_inner rfl hd (by kernel_rfl) (by kernel_rfl) rfl (fun s => ?_)) | (with_reducible refine wv_i16 (by kernel_rfl)) | (with_reducible refine wv_i32 (by kernel_rfl)) | (with_reducible refine wv_f64 (by kernel_rfl)) | (with_reducible refine wv_flexS rfl (by kernel_rfl) (fun hx => ?_) (fun hx => ?_)) | (with_reducible refine wv_string rfl (by first | assumption | rfl) (by kernel_rfl)) | (with_reducible refine wv_cstring rfl (by first | assumption | rfl) (by kernel_rfl)) | (with_reducible refine wv_nstring rfl (by dsimp only; omega) (by first | assumption | rfl) (by kernel_rfl)) | (with_reducible refine wv_cnstring rfl (by dsimp only; omega) (by first | assumption | rfl) (by kernel_rfl)) | ((with_reducible refine wv_otext rfl (by kernel_rfl) (by kernel_rfl) (by kernel_rfl) (by kernel_rfl) rfl (fun l => ?_) (fun hv => ?_)); (try dsimp only at hv)) | (with_reducible refine wv_listS (fun oa n cap M => ?_) (by kernel_rfl) (by kernel_rfl) (by kernel_rfl) (by kernel_rfl) (fun s => ?_)) | (with_reducible refine wv_listK (fun oa n cap M => ?_) (by kernel_rfl) (by kernel_rfl) (by kernel_rfl) (by kernel_rfl) (fun d => ?_)) | (with_reducible refine wn_flex rfl (by kernel_rfl) (fun hx => ?_) (fun hx => ?_)) | ((with_reducible refine wn_ver (by kernel_rfl) (fun hv => ?_) (fun hv => ?_)) <;> try dsimp only at hv) | (with_reducible refine wn_plain (by dsimp only; omega) (by first | assumption | rfl) (by kernel_rfl) (by kernel_rfl)) | (with_reducible refine wn_cplain (by dsimp only; omega) (by first | assumption | rfl) (by kernel_rfl) (by kernel_rfl)) | (with_reducible refine wn_null (by decide) (by dsimp only; omega) (by first | assumption | rfl) (by kernel_rfl) (by kernel_rfl)) | (with_reducible refine wn_cnull (by decide) (by dsimp only; omega) (by first | assumption | rfl) (by kernel_rfl) (by kernel_rfl)) | (with_reducible refine wv_again (by kernel_rfl) rfl ?_)))
end Go.Proofs.YtkodgaelpllhgaaDoor
namespace Go.Proofs.YtkodgaelpllhgaaDoor
set_option linter.all false
open Go.RowKit
set_option maxRecDepth 100000
set_option maxHeartbeats 2000000
theorem new_DescribeClientQuotasResponse : NewsPtr 16 dd_DescribeClientQuotasResponse :=
  newptr_of dd_DescribeClientQuotasResponse dd_DescribeClientQuotasResponse Tryd.func16 rfl rfl Tryd.ntmps16 (by kernel_rfl) (fun w => Tryd.zeroValue62 w) (fun args w => Tryd.call36 args w) defm_DescribeClientQuotasResponse
theorem max_DescribeClientQuotasResponse : MaxIs 9 1 := by
  intro w
  refine zap Tryd.func9 rfl rfl Tryd.ntmps9 (by simp) ?_
  intro a hN hD ha
  refine wp_seq_k fun K hK => ?_; refine zah ?_; refine zal ?_; refine zag ?_; refine hK _ _ ?_; clear hK K
  refine wp_seq_k fun K hK => ?_; refine zah ?_
  refine zaF (fun args w => Tryd.call16 args w) (by simp only [List.map_toArray, List.map_nil]; exact new_DescribeClientQuotasResponse w) ?_
  rintro v w1 ⟨rfl, hc, _⟩
  refine zaF (fun args w => Tryd.call17 args w) (by simp only [List.map_toArray, List.map_cons, List.map_nil]; simp only [evb, kb, hN, seval]; exact maxver_of Tryd.func17 rfl rfl Tryd.ntmps17 (by kernel_rfl) _ w1) ?_
  rintro _ w2 ⟨rfl, rfl⟩
  (repeat (first | ((with_reducible refine zaO ?_ ?_ ?_ ?_); (· exact rfl); (· simp [evb, kb, hN, dyb, sdb] <;> omega); (· kernel_rfl); try simp only [evb, kb, hN, seval, pvb]) | ((with_reducible refine zak ?_ ?_ ?_); rotate_left 1; (· simp [evb, kb, hN, sdb]); rotate_left 1; (· kernel_rfl); try simp only [evb, kb, hN, seval, pvb])))
  refine zag ?_; refine hK _ _ ?_; clear hK K; refine wp_ret ⟨by simp [zaj, hD], ?_⟩; simp only [evb, kb, hN, seval]
  exact ⟨by first | rfl | trivial, hc⟩
theorem setv_DescribeClientQuotasResponse : SetsVersion 18 := setver_of Tryd.func18 rfl rfl Tryd.ntmps18 (by kernel_rfl)
theorem from_DescribeClientQuotasResponse : ReadsFrom 19 37 := fun h => readfrom_c Tryd.func19 rfl rfl Tryd.ntmps19 (fun args w => Tryd.call37 args w) h
theorem ag_DescribeClientQuotasResponse : AgC 10 (fun ver => decide (1 ≤ ver)) 1 sch_DescribeClientQuotasResponse := fun ver h0 h1 w G oa bs cap hsrc hlim herr hout =>
  again_of Tryd.func10 rfl rfl Tryd.ntmps10 (fun args w => Tryd.call16 args w) (fun args w => Tryd.call18 args w) (fun args w => Tryd.call19 args w) (fun args w => Tryd.call20 args w) new_DescribeClientQuotasResponse setv_DescribeClientQuotasResponse from_DescribeClientQuotasResponse read_DescribeClientQuotasResponse app_DescribeClientQuotasResponse h0 (by omega) hsrc hlim herr hout
theorem any_DescribeClientQuotasResponse : AnyOK (fun ver => decide (1 ≤ ver)) 1 sch_DescribeClientQuotasResponse := anyB_out (by kernel_rfl)
theorem walk_FnAnyDescribeClientQuotasResponse {a : Int} (hn : 0 ≤ a) (hn2 : a < 256) {w : World} {G : Nat → Prop} {oa : Option Addr} {bs : Bs} {cap : Nat} (hbs : zaq w G oa bs) (hcap : bs.length ≤ cap) (hlen : bs.length ≤ 1048576) (herr : ErrW w) :
    zaz Tryd.prog 4 #[.int .u8 a, .slice oa bs.length cap] w fun v w' => v = .bool true ∧ Chg (fun _ => False) w w' :=
  lawAny_of Tryd.func4 rfl rfl Tryd.ntmps4 (fun args w => Tryd.call9 args w) (fun args w => Tryd.call10 args w) max_DescribeClientQuotasResponse ag_DescribeClientQuotasResponse (by decide) any_DescribeClientQuotasResponse hn hn2 hbs hcap hlen herr
end Go.Proofs.YtkodgaelpllhgaaDoor
namespace Go.Proofs.YtkodgaelpllhgaaDoor
set_option linter.all false
namespace fnAnyDescribeClientQuotasResponse
open Go.ChangeShapes Go.WideShapes Go.ChangeAt Go.RowKit
set_option maxRecDepth 100000
set_option maxHeartbeats 1000000
theorem laid_met (os : Os) : laidMet Tryd.prog Rows.fnAnyDescribeClientQuotasResponseUptoRow.laid ((laidWorld os).forCall (fun _ _ => 0) ⟨#[], #[.int .u8 0, .slice none 0 0], []⟩).memory :=
  laidMet_of_run' 8 (by kernel_rfl) (by kernel_rfl)
theorem witness_row (os : Os) {H : Type} (enc : TypeId × Value → H) :
    (Rows.OpenSpec.upto Rows.fnAnyDescribeClientQuotasResponseSpec).preRow enc Tryd.prog Tryd.f4 Rows.fnAnyDescribeClientQuotasResponseUptoRow.domain false Rows.fnAnyDescribeClientQuotasResponseUptoRow.laid ((laidWorld os).forCall (fun _ _ => 0) ⟨#[], #[.int .u8 0, .slice none 0 0], []⟩).memory #[.int .u8 0, .slice none 0 0] := by
  have hw : (DataW.whole enc Tryd.prog ((laidWorld os).forCall (fun _ _ => 0) ⟨#[], #[.int .u8 0, .slice none 0 0], []⟩).memory Tryd.f4.params.toList Rows.fnAnyDescribeClientQuotasResponseSpec.vars false (#[.int .u8 0, .slice none 0 0] : Array Value).toList 8).map (fun x => (decide (Rows.uptoBulkAll (x.1 ++ x.2.1) ≤ 1048576))) = some true := by kernel_rfl
  obtain ⟨⟨x1, x2, x3⟩, hx, hx1⟩ := Option.map_eq_some_iff.1 hw
  exact OpenSpec.preRow_of_cond 8 hx (by kernel_rfl) (fun k hk => by cases hk; exact hx1) (by kernel_rfl) (laid_met os)
theorem lifted (os : Os) (started : os.Started) (H : Type) (enc : TypeId × Value → H) (F : Stop.Interp) :
    ReturnsInHanded {} Tryd.checked os 4 .any ((Rows.OpenSpec.upto Rows.fnAnyDescribeClientQuotasResponseSpec).preRow enc Tryd.prog Tryd.f4 Rows.fnAnyDescribeClientQuotasResponseUptoRow.domain false Rows.fnAnyDescribeClientQuotasResponseUptoRow.laid) (((Rows.OpenSpec.upto Rows.fnAnyDescribeClientQuotasResponseSpec).at F).post enc Tryd.prog Tryd.f4 false true false false) := by
  refine returnsInHanded_of_row (C := Tryd.checked) (s := Rows.OpenSpec.upto Rows.fnAnyDescribeClientQuotasResponseSpec) own started (by kernel_rfl) Tryd.func4
    (witness_row_atRef (enc := enc) (C := Tryd.checked) false (laidWorld os) #[.int .u8 0, .slice none 0 0] rfl (by kernel_rfl) (by kernel_rfl) (by kernel_rfl) (witness_row os enc)) ?_
  intro W base args ds gs before hval0 hW _ hcond _ hL _ _
  have hval : ∀ (j : Nat) t v, Tryd.f4.params[j]? = some t → args[j]? = some v → Value.okWide Tryd.prog W .any base t v := hval0
  have hW' := hW
  obtain ⟨p, q, hA0, hV, rfl, hfz, hnd⟩ := hW
  have hA : DataW.TrodAll enc Tryd.prog W 0 (fun _ => true) true Tryd.f4.params.toList args.toList ds p := hA0
  rw [Tryd.params4] at hA hval
  obtain ⟨v0, vs0, d0, ds0, p0, q0, hargs, rfl, rfl, h0, r0⟩ := trodAll_cons hA
  obtain ⟨v1, vs1, d1, ds1, p1, q1, rfl, rfl, rfl, h1, r1⟩ := trodAll_cons r0
  obtain ⟨rfl, rfl, rfl⟩ := trodAll_nil r1
  obtain rfl : args = #[v0, v1] := by cases args; simp_all
  obtain ⟨rfl, rfl⟩ := trodVars_none hV
  simp only [List.append_nil] at hW' hcond
  have hbulk := hcond _ rfl
  replace hbulk := of_decide_eq_true hbulk
  simp only [Rows.uptoBulkAll] at hbulk
  have hlt : ∀ x ∈ _, MemPlace.block x < W.heap.size := fun x hx => hW'.lt x hx
  obtain ⟨a0, rfl, rfl, rfl, x0⟩ := open_int Tryd.underlying5 (hval 0 5 v0 rfl rfl) h0
  have y0 : 0 ≤ a0 ∧ a0 < 256 := by have h := x0; simp only [Lit.wf, IntKind.min, IntKind.max, IntKind.signed, IntKind.bits, Bool.and_eq_true, decide_eq_true_eq] at h; simp at h; omega
  obtain ⟨oa, bs, cap, rfl, hbs, hcap, hlen⟩ := bytes_arg (hval 1 22 v1 rfl rfl) h1 (by omega)
  clear hA0 hval0
  refine Calls.mono (walk_FnAnyDescribeClientQuotasResponse y0.1 y0.2 hbs hcap hlen (errW_of hL)) fun e W' ⟨v, he, hv, hc⟩ => ?_
  subst he
  subst hv
  exact ⟨_, rfl, _, _, _, [], _, [], hW', trodAll_cons_mk (shut_bool Tryd.underlying4 _) trodAll_mk0, trodAll_cons_mk (shut_int Tryd.underlying5 x0) (trodAll_cons_mk (bytes_same h1 hc (fun x hx => hlt x (by simp [hx]))) (trodAll_mk0)), rfl, (below_of hc).frame _, fun h => by cases h⟩
theorem c2 : (Rows.fnAnyDescribeClientQuotasResponseUptoRow.inPlace == Tryd.prog.inPlace 4) = true := by kernel_rfl
theorem c3 : (Rows.fnAnyDescribeClientQuotasResponseUptoRow.unfollowed == Tryd.prog.unfollowed 4) = true := by kernel_rfl
theorem c4 : (Rows.fnAnyDescribeClientQuotasResponseUptoRow.recurses == Tryd.prog.recurses 4) = true := by kernel_rfl
theorem c5 : (Rows.fnAnyDescribeClientQuotasResponseUptoRow.named == Tryd.prog.varsNamed 4) = true := by kernel_rfl
theorem c7 : (Rows.fnAnyDescribeClientQuotasResponseUptoRow.lifted == Tryd.prog.liftsFinal) = true := by
  have h : Rows.fnAnyDescribeClientQuotasResponseUptoRow.lifted = Facts.lifted := rfl
  rw [h]; exact Facts.c7
theorem c8 : (Tryd.prog.make == some Rows.fnAnyDescribeClientQuotasResponseUptoRow.make) = true := by
  have h : Rows.fnAnyDescribeClientQuotasResponseUptoRow.make = Facts.make := rfl
  rw [h]; exact Facts.c8
theorem c9 : (Rows.fnAnyDescribeClientQuotasResponseUptoRow.plainKeys == Tryd.prog.plainKeys) = true := by
  have h : Rows.fnAnyDescribeClientQuotasResponseUptoRow.plainKeys = Facts.plainKeys := rfl
  rw [h]; exact Facts.c9
theorem c11 : Tryd.prog.funcNamed Rows.fnAnyDescribeClientQuotasResponseUptoRow.func = some 4 := by kernel_rfl
theorem closed : joinedFacts Tryd.prog 4 Tryd.f4 (Rows.OpenSpec.upto Rows.fnAnyDescribeClientQuotasResponseSpec).bare Rows.fnAnyDescribeClientQuotasResponseUptoRow = true := by
  unfold joinedFacts
  simp only [Bool.and_eq_true]
  repeat' (refine And.intro ?_ ?_)
  all_goals first | with_reducible exact Facts.c1 | with_reducible exact Facts.c0 | with_reducible exact c2 | with_reducible exact c3 | with_reducible exact c4 | with_reducible exact c5 | with_reducible exact Facts.c6 | with_reducible exact c7 | with_reducible exact c8 | with_reducible exact c9 | with_reducible exact Facts.c10 | kernel_rfl
theorem over : Rows.FnAnyDescribeClientQuotasResponseUptoSaid :=
  OpenClaim.holds_of_cond 4 Tryd.f4 rfl rfl rfl rfl rfl rfl rfl ⟨rfl, rfl, rfl, rfl, rfl⟩ rfl rfl rfl rfl rfl c11 Tryd.func4 closed
    (of_decide_eq_true (by kernel_rfl)) (by unfold Func.isWrapper; first | (rw [if_pos (by decide +kernel)]; kernel_rfl) | (rw [if_neg (by decide +kernel)]; exact ⟨rfl, rfl⟩))
    (fun os started H enc _ F => by rw [OpenClaim.pre_eq_preRow]; exact lifted os started H enc F)
theorem plain (f : FuncId) (fn : Func) (hf : Tryd.pinned.checked.prog.funcNamed "pub-kmsg/laws.FnAnyDescribeClientQuotasResponse" = some f) (hfn : Tryd.pinned.checked.prog.funcs[f]? = some fn) :
    false = Tryd.pinned.checked.prog.looks [] ∧ ∀ (j : Nat) t, fn.params[j]? = some t → Tryd.pinned.checked.prog.wantsStandIn t = false := by
  obtain rfl : f = 4 := Option.some.inj ((show Tryd.prog.funcNamed "pub-kmsg/laws.FnAnyDescribeClientQuotasResponse" = some 4 by kernel_rfl).symm.trans hf) |>.symm
  obtain rfl : fn = Tryd.f4 := (Option.some.inj (Tryd.func4.symm.trans hfn)).symm
  refine ⟨by kernel_rfl, fun j t ht => ?_⟩
  rw [Tryd.params4] at ht
  have hw0 : Tryd.prog.wantsStandIn 5 = false := by kernel_rfl
  have hw1 : Tryd.prog.wantsStandIn 22 = false := by kernel_rfl
  have hm := Array.mem_of_getElem? ht
  simp only [List.mem_toArray, List.mem_cons, List.not_mem_nil, or_false] at hm
  rcases hm with rfl | rfl <;> assumption
end fnAnyDescribeClientQuotasResponse
theorem fnAnyDescribeClientQuotasResponse_holds : Rows.FnAnyDescribeClientQuotasResponseUptoCardSaid :=
  Claim7.holds_tied_plain_at .later [] _ _ _ _ fnAnyDescribeClientQuotasResponse.over (fun _ h => by cases h) (by kernel_rfl) (fun _ h => by cases h) fnAnyDescribeClientQuotasResponseUpto_row_tie rfl ⟨rfl, rfl⟩ (by kernel_rfl) rfl fnAnyDescribeClientQuotasResponse.plain (by kernel_rfl)
#print axioms fnAnyDescribeClientQuotasResponse_holds
end Go.Proofs.YtkodgaelpllhgaaDoor

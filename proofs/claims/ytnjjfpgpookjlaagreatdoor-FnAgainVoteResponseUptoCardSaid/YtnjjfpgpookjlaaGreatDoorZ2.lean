import Derived.Test.YtnjjfpgpookjlaaGreatDoorZL
import Derived.Test.YtnjjfpgpookjlaaGreatDoorZE
import Derived.Test.YtnjjfpgpookjlaaGreatDoorZN
/-
What the proofs of the laws rest on, part Z2.
-/
namespace Go.Proofs.YtnjjfpgpookjlaaGreatDoor
set_option linter.all false
set_option maxRecDepth 10000
open Go.RowKit
set_option linter.all false
theorem rTagS_unknown (known : Nat → Option (Nat × (Bs → Option D))) : ∀ (t : za5) (seen : Bool) (s : S) (r : Bs), (∀ x ∈ t, (x.1 < 4294967296 ∧ x.2.length ≤ 32767) ∧ known x.1 = none) → ((s.tags ++ t).map (·.1)).Nodup →
  rTagS known t.length seen s (t.flatMap encTag ++ r) = some (⟨s.ds, s.tags ++ t⟩, r)
 | [], seen, s, r, _, _ => by simp [rTagS, Sem.id]
 | x :: t, seen, s, r, h, hn => by
  have hx := h x (by simp)
  have hnew : ∀ y ∈ s.tags, y.1 ≠ x.1 := by
   intro y hy e
   rw [List.map_append, List.map_cons, List.nodup_append] at hn
   exact hn.2.2 y.1 (List.mem_map_of_mem hy) x.1 (by simp) e
  have ih := rTagS_unknown known t seen ⟨s.ds, s.tags ++ [x]⟩ r (fun y hy => h y (by simp [hy])) (by
   show ((s.tags ++ [x] ++ t).map (·.1)).Nodup
   rw [List.append_assoc]; exact hn)
  have e2 : x.2.length % 4294967296 = x.2.length := Nat.mod_eq_of_lt (by omega)
  simp only [List.length_cons, List.flatMap_cons, rTagS]
  have e : encTag x ++ t.flatMap encTag ++ r = zbo x.1 ++ (zbo x.2.length ++ (x.2 ++ (t.flatMap encTag ++ r))) := by
   unfold encTag; rw [e2]; simp only [List.append_assoc]
  rw [e, za0 _ hx.1.1, Option.bind_some, za0 _ (by omega), Option.bind_some, rSpan_app, Option.bind_some, hx.2]
  dsimp only
  rw [tagSet_new s.tags x.1 x.2 hnew]
  rw [ih, List.append_assoc]
  rfl
theorem okS_enc (flex : Bool) (ver : Int) (fs : List Fld) (ds : List D) (t : za5) (H : ∀ f ∈ fs, FEnc flex ver f) (hg : goodL flex ver fs = true) (ok : okLD flex fs ds) (okt : okT flex fs t) (hl : (partE flex ver fs ds t).length ≤ 2147483648) :
  OkS flex ver fs (partE flex ver fs ds t) := by
 obtain ⟨r, hr⟩ : ∃ r : Bs, r = [] := ⟨_, rfl⟩
 rw [show partE flex ver fs ds t = partE flex ver fs ds t ++ r by rw [hr, List.append_nil]]
 unfold partE at hl ⊢
 rw [List.length_append] at hl
 cases flex with
 | false =>
  rw [if_neg (by simp), List.append_nil]
  unfold OkS
  rw [decL_enc false ver fs ds r H ok (by omega)]
  rfl
 | true =>
  obtain ⟨hw, hunk⟩ := okT_true okt
  have hs := hw.sort
  have htl := hw.2.2
  rw [if_pos rfl] at hl ⊢
  rw [List.append_assoc]
  unfold OkS
  rw [decL_enc true ver fs ds _ H ok (by omega), Option.bind_some]
  refine (congrArg Option.isSome (?_ : _ = some ((⟨nrmL true ver fs ds, zaO t⟩ : S), r))).trans rfl
  unfold tlS
  rw [if_pos rfl]
  unfold za9 at hl ⊢
  unfold zaW at hl ⊢
  have hkn : ∀ x ∈ zaO t, (x.1 < 4294967296 ∧ x.2.length ≤ 32767) ∧ zaU true ver fs 0 x.1 = none := fun x hx =>
   ⟨hs.1 x hx, decKnown_none true ver fs 0 x.1 (hunk x ((mem_tagSort t x).1 hx))⟩
  rcases known_cases ver fs ds ok hg with ⟨k1, k2⟩ | ⟨j, f, d, k1, k2, k3, k4, k5, k6, k7, k8⟩
  ·rw [k1, k2]
   have e : (0 + t.length) % 4294967296 = t.length := by rw [Nat.zero_add]; exact Nat.mod_eq_of_lt (by omega)
   dsimp only
   rw [e, List.nil_append, List.append_assoc, za0 _ (by omega), Option.bind_some]
   have h1 := rTagS_unknown (zaU true ver fs 0) (zaO t) false ⟨nrmU true ver fs ds, []⟩ r hkn (by simpa using hs.2.1)
   rw [tagSort_len] at h1
   exact h1
  ·rw [k6] at hl ⊢
   rw [k7]
   dsimp only at hl ⊢
   simp only [List.length_append] at hl
   have e : (1 + t.length) % 4294967296 = t.length + 1 := by rw [Nat.add_comm]; exact Nat.mod_eq_of_lt (by omega)
   have e2 : (zbq true ver f d).length % 4294967296 = (zbq true ver f d).length := Nat.mod_eq_of_lt (by omega)
   rw [e, e2]
   have htag : f.tag.toNat < 4294967296 := by omega
   have hH := H f (List.mem_of_getElem? k1) d [] k5 (by omega)
   rw [List.append_nil] at hH
   have h1 := rTagS_unknown (zaU true ver fs 0) (zaO t) true ⟨(nrmU true ver fs ds).set j (nrmF true ver f d), []⟩ r hkn (by simpa using hs.2.1)
   rw [tagSort_len] at h1
   have e3 : zbo (t.length + 1) ++ ((zbo f.tag.toNat ++ (zbo (zbq true ver f d).length ++ zbq true ver f d)) ++ (zaO t).flatMap encTag) ++ r =
     zbo (t.length + 1) ++ (zbo f.tag.toNat ++ (zbo (zbq true ver f d).length ++ (zbq true ver f d ++ ((zaO t).flatMap encTag ++ r)))) := by simp only [List.append_assoc]
   rw [e3, za0 _ (by omega), Option.bind_some]
   dsimp only
   rw [rTagS]
   dsimp only
   rw [za0 _ htag, Option.bind_some, za0 _ (by omega), Option.bind_some, rSpan_app, Option.bind_some]
   dsimp only
   rw [k8 0, Nat.zero_add]
   dsimp only
   rw [hH]
   exact h1
theorem tree_okS {flex : Bool} {ver : Int} {fs : List Fld} {v : Tr} (hg : goodL flex ver fs = true) (hp : plainL fs = true) (hk : keyV v) (hl : (sPart flex ver fs v).length ≤ 2147483648) (hv : 0 ≤ ver := by omega) :
  OkS flex ver fs (sPart flex ver fs v) := by
 unfold plainL at hp
 rw [Bool.and_eq_true] at hp
 obtain ⟨hp, ht⟩ := hp
 have e : encPart flex ver fs ⟨dtL flex ver fs v 0, dtT flex fs v.t⟩ = sPart flex ver fs v := dpart_same hv ht hk (dtL_enc hv hp hk 0) fun hx k f hf h0 hs => by
  refine ⟨dtL_encF hv hp hk k hf, ?_⟩
  have h1 := sT_ge (flex := flex) (ver := ver) fs v 0 k f hf h0 (by rw [Nat.zero_add]; exact hs)
  rw [Nat.zero_add] at h1
  have h2 : (sT flex ver fs 0 v 0).2.length ≤ (sPart flex ver fs v).length := by
   unfold sPart
   rw [sum_known (tag01 ht), hx, if_pos rfl]
   unfold sTags
   simp only [List.length_append]; omega
  omega
 have ok := dtL_ok (flex := flex) (ver := ver) hp hk 0
 have okt : okT flex fs (dtT flex fs v.t) := dtT_okT (tag01 ht) hk.parts.1
 rw [← e]
 exact okS_enc flex ver fs _ _ (fenc_L flex ver hg) hg ok okt (by
  have e2 : partE flex ver fs (dtL flex ver fs v 0) (dtT flex fs v.t) = encPart flex ver fs ⟨dtL flex ver fs v 0, dtT flex fs v.t⟩ := rfl
  rw [e2, e]; exact hl)
set_option maxHeartbeats 2000000
def AgCc (fn : FuncId) (flx : Int → Bool) (k : Nat) (fs : List Fld) : Prop := ∀ (ver : Int), 0 ≤ ver → ver ≤ k → ∀ (w : World) (G : Nat → Prop) (oa : Option Addr) (bs : Bs) (cap : Nat), zav w G oa bs → bs.length ≤ RLIM → ErrW w → OkS (flx ver) ver fs bs →
 (∀ s r, decPart (flx ver) ver fs bs = some (s, r) → (encPart (flx ver) ver fs s).length ≤ LIM) → zaF Tryz.prog fn #[.int .i64 ver, .slice oa bs.length cap] w (AgP (flx ver) ver fs bs w)
section
variable {y0 y1 y2 y3 y4 y5 y6 y7 y8 y9 y10 y11 y12 y13 y14 y15 y16 y17 y18 : TypeId} {q0 q1 q2 q3 q4 q5 q6 q7 q8 q9 q10 q11 q12 q13 q14 q15 q16 q17 q18 : String} {e0 e1 e2 e3 e4 e5 e6 e7 e8 e9 e10 e11 e12 e13 e14 e15 e16 e17 e18 : Array Edge} {r0 r1 r2 r3 r4 r5 : Nat}
variable {us us1 us2 us3 us4 : Array TypeId}
theorem again_ofc {fn fp fv fr frr fa : FuncId} {func : Func} {fl : Bool} {flx : Int → Bool} {fs : List Fld} {dc : List Value}
  (hfn : (Tryz.prog).funcs[fn]? = some func)
  (hbody : func.body = some (.seq (.region r0 #[⟨some 4, .assign (.const (.slice none 0 0)), y0, q0, e0, none⟩, ⟨some 5, .assign (.const (.bool false)), y1, q1, e1, none⟩] false)
   (.seq (.region r1 #[⟨some 7, .call { callee := .value (.func fp), args := #[], argTypes := us }, y2, q2, e2, none⟩, ⟨some 6, .assign (.tmp 7), y3, q3, e3, none⟩] false)
   (.seq (.region r2 #[⟨some 8, .move (.tmp 6), y4, q4, e4, none⟩, ⟨some 9, .move (.tmp 0), y5, q5, e5, none⟩, ⟨some 10, .convert 3 42 (.tmp 9), y6, q6, e6, none⟩, ⟨some 11, .call { callee := .value (.func fv), args := #[.tmp 8, .tmp 10], argTypes := us1 }, y7, q7, e7, none⟩] false)
   (.seq (.seq (.region r3 #[⟨some 12, .move (.tmp 6), y8, q8, e8, none⟩, ⟨some 13, .move (.tmp 1), y9, q9, e9, none⟩, ⟨some 14, .call { callee := .builtin .append, args := #[.const (.slice none 0 0), .tmp 13], argTypes := #[22, 22] }, y10, q10, e10, none⟩, ⟨some 15, .call { callee := .value (.func fr), args := #[.tmp 12, .tmp 14], argTypes := us3 }, y11, q11, e11, none⟩, ⟨some 16, .binOp .neq 52 (.tmp 15) (.const .nilIface) 52, y12, q12, e12, none⟩] false)
    (.cond (.tmp 16) (.seq (.region r4 #[⟨some 4, .assign (.const (.slice none 0 0)), y13, q13, e13, none⟩, ⟨some 5, .assign (.const (.bool false)), y14, q14, e14, none⟩] false) .ret) .skip))
   (.seq (.region r5 #[⟨some 17, .move (.tmp 6), y15, q15, e15, none⟩, ⟨some 18, .call { callee := .value (.func fa), args := #[.tmp 17, .const (.slice none 0 0)], argTypes := us4 }, y16, q16, e16, none⟩, ⟨some 4, .assign (.tmp 18), y17, q17, e17, none⟩, ⟨some 5, .assign (.const (.bool true)), y18, q18, e18, none⟩] false) .ret))))))
  (hres : func.results = #[.tmp 4, .tmp 5]) (hNf : func.ntmps = 19) (ep : zaY Tryz.prog fp) (ev : zaY Tryz.prog fv) (er : zaY Tryz.prog fr) (ea : zaY Tryz.prog fa)
  (hp : NewsPtr fp dc) (hv : SetsVersion fv) (hf : ReadsFrom fr frr) (hr : ReadsFc frr fl flx fs dc [.bool false]) (ha : AppendsTo fa fl flx fs)
  {ver : Int} (h0 : 0 ≤ ver) (h1 : ver ≤ 32767) {w : World} {G : Nat → Prop} {oa : Option Addr} {bs : Bs} {cap : Nat} (hsrc : zav w G oa bs) (hlim : bs.length ≤ RLIM) (herr : ErrW w) (hokS : OkS (flx ver) ver fs bs)
  (hout : ∀ s r, decPart (flx ver) ver fs bs = some (s, r) → (encPart (flx ver) ver fs s).length ≤ LIM) :
  zaF Tryz.prog fn #[.int .i64 ver, .slice oa bs.length cap] w (AgP (flx ver) ver fs bs w) := by
 refine callsR_of2 hfn hbody hres hNf (by simp) ?_
 intro a hN hD hargs
 have g0 : get a 0 = .int .i64 ver := hargs 0 _ rfl
 have g1 : get a 1 = .slice oa bs.length cap := hargs 1 _ rfl
 refine qsr fun K hK => ?_; (repeat ((with_reducible refine zaJ ?_ ?_ ?_); (· simp [qef, hN] <;> omega); (· kernel_rfl); try simp only [qec, hN, seval])); refine zaa (hK _ _ ?_); clear hK K
 refine qsr fun K hK => ?_
 refine zaz ep (by simp only [List.map_toArray, List.map_nil]; exact hp w) ?_
 rintro v w1 ⟨rfl, hc1, n, T, hb1⟩
 have hE1 := herr.chg hc1 (fun h => h)
 have hgE := gE_lt herr
 (repeat ((with_reducible refine zaJ ?_ ?_ ?_); (· simp [qef, hN] <;> omega); (· kernel_rfl); try simp only [qec, hN, seval])); refine zaa (hK _ _ ?_); clear hK K
 refine qsr fun K hK => ?_; (repeat ((with_reducible refine zaJ ?_ ?_ ?_); (· simp [qef, hN, g0] <;> omega); (· kernel_rfl); try simp only [qec, hN, seval, g0]))
 have hi : IntKind.i16.wrap ver = ver := i16_id ver (by omega)
 refine zaz (R := fun _ w' => Blk w' w.heap.size (zaE (.int .i16 n :: dc) 0 [.int .i16 ver]) T ∧ Chg (fun k => k = w.heap.size) w1 w') ev (by
  simp only [qea, List.map_toArray, List.map_cons, List.map_nil, hN, seval, g0, hi, cvt]
  exact hv w1 w.heap.size _ T ver hb1 (by simp)) ?_
 rintro v w2 ⟨hb2, hc2⟩
 have hc12 : Chg (fun _ => False) w w2 := hc1.trans hc2 fun n hn h => by omega
 have hE2 := hE1.chg hc2 (fun h => by omega)
 have e2 : zaE (.int .i16 n :: dc) 0 [.int .i16 ver] = .int .i16 ver :: dc := by simp [zaE]
 rw [e2] at hb2
 refine zaa (hK _ _ ?_); clear hK K
 refine qsk fun K hK => ?_; refine qsr fun K0 hK0 => ?_; (repeat ((with_reducible refine zaJ ?_ ?_ ?_); (· simp [qef, hN, g1] <;> omega); (· kernel_rfl); try simp only [qec, hN, seval, g1]))
 have hs2 := hb2.lt
 refine wl_append (t := 22) (e := 5) (base := w2.heap.size) (v := .slice none 0 0) (bs := []) (bs' := bs) (oa := oa) (c := cap) bT (by simp only [qea, hN, seval]) (by simp only [qea, hN, seval, g1]) (Own.nil _ _ _) (hsrc.chg hc12 fun _ _ _ h => h) (by unfold LIM; unfold RLIM at hlim; simp only [List.length_nil]; omega) (Nat.le_refl _) ?_
 intro v3 w3 happ
 have hc3 : Chg (fun _ => False) w2 w3 := happ.chg.mono fun n hn hk => by simp [Value.ownBlock] at hk
 obtain ⟨oa3, cap3, rfl, hcap3, hbs3⟩ := happ.own.bytes
 have hE3 := hE2.chg hc3 (fun h => h)
 have hb3 := hb2.chg hc3 (fun h => h)
 have hc13 : Chg (fun _ => False) w w3 := hc12.trans hc3 fun _ _ h => h
 have hs3 := hc3.size
 have hown := happ.own
 rw [List.nil_append] at hcap3 hbs3 hown ⊢
 have hne : ∀ g, Value.ownBlock (.slice oa3 bs.length cap3) = some g → g ≠ w.heap.size := by
  intro g hg
  rcases hown.2 with ⟨h, _⟩ | ⟨g', c', cur, h, hbg, _⟩
  ·rw [h] at hg; simp [Value.ownBlock] at hg
  ·rw [h] at hg; simp [Value.ownBlock] at hg; omega
 refine zaz (R := ReadP w3 fl (flx ver) ver fs w.heap.size bs) er (by
  simp only [qea, List.map_toArray, List.map_cons, List.map_nil, hN, seval]
  exact hf (hr ver w3 w.heap.size T oa3 bs cap3 h0 hokS hb3 (hbs3.mono fun g hg _ => hne g hg) hcap3 hlim (by omega) hE3)) ?_
 rintro v4 w4 ⟨hc4, hq⟩
 have hc14 : Chg (fun _ => False) w w4 := hc13.trans hc4 fun n hn h => by omega
 rcases hq with ⟨hd, t, x, rfl⟩ | ⟨s, r, hd, rfl, hat, cs, T4, hb4, hcs⟩
 ·refine wl_neqNil1 (ti := t) (v := x) (by kernel_rfl) (by simp only [qea, hN, seval]) ?_
  refine zaa ?_
  refine hK0 _ _ ?_; try clear hK0 K0
  refine wp_cond_true (by simp [qed, hN]) ?_
  refine qsr fun K hK => ?_; (repeat ((with_reducible refine zaJ ?_ ?_ ?_); (· simp [qef, hN] <;> omega); (· kernel_rfl); try simp only [qec, hN, seval])); refine zaa (hK _ _ ?_); clear hK K; refine wp_ret ⟨by simp [zab, hD], ?_⟩; simp only [qea, hN, seval]
  exact ⟨hc14, .inl ⟨hd, by simp [qea, hN, seval]⟩⟩
 ·refine wl_neqNil0 (by kernel_rfl) (by simp only [qea, hN, seval]) ?_
  refine zaa ?_
  refine hK0 _ _ ?_; try clear hK0 K0
  refine wp_cond_false (by simp [qed, hN]) ?_
  refine wp_skip ?_
  refine hK _ _ ?_
  clear hK K
  refine qsr fun K hK => ?_; (repeat ((with_reducible refine zaJ ?_ ?_ ?_); (· simp [qef, hN] <;> omega); (· kernel_rfl); try simp only [qec, hN, seval]))
  have hB4 := hb4.lt
  refine zaz (R := App eB w4 w4.heap.size (.slice none 0 0) ([] ++ encPart (flx ver) ver fs s)) ea (by
   simp only [qea, List.map_toArray, List.map_cons, List.map_nil, hN, seval]
   exact ha s ver w.heap.size w4 w4.heap.size (.slice none 0 0) [] h0 ⟨cs, T4, hb4, hcs⟩ (hat.stay (zbl.sub fun k hk _ => hk) rfl) hB4 (Nat.le_refl _) (Own.nil _ _ _) (by have := hout s r hd; simpa using this)) ?_
  intro v5 w5 happ5
  (repeat ((with_reducible refine zaJ ?_ ?_ ?_); (· simp [qef, hN] <;> omega); (· kernel_rfl); try simp only [qec, hN, seval])); refine zaa (hK _ _ ?_); clear hK K; refine wp_ret ⟨by simp [zab, hD], ?_⟩; simp only [qea, hN, seval]
  have hc5 : Chg (fun _ => False) w4 w5 := happ5.chg.mono fun n hn hk => by simp [Value.ownBlock] at hk
  refine ⟨hc14.trans hc5 fun _ _ h => h, .inr ⟨s, r, v5, hd, by simp [qea, hN, seval], ?_⟩⟩
  have := happ5.own
  rw [List.nil_append] at this
  exact this.mono hc14.size
end
section
variable {y0 y1 y2 y3 y4 y5 y6 y7 y8 y9 y10 y11 y12 y13 y14 y15 y16 y17 y18 y19 y20 y21 y22 y23 y24 y25 y26 y27 y28 y29 y30 y31 : TypeId} {q0 q1 q2 q3 q4 q5 q6 q7 q8 q9 q10 q11 q12 q13 q14 q15 q16 q17 q18 q19 q20 q21 q22 q23 q24 q25 q26 q27 q28 q29 q30 q31 : String} {e0 e1 e2 e3 e4 e5 e6 e7 e8 e9 e10 e11 e12 e13 e14 e15 e16 e17 e18 e19 e20 e21 e22 e23 e24 e25 e26 e27 e28 e29 e30 e31 : Array Edge} {r0 r1 r2 r3 r4 r5 : Nat}
variable {us us1 us2 us3 us4 us5 us6 us7 us8 : Array TypeId} {r6 r7 r8 : Nat} {z1 z2 z3 : TypeId} {p1 p2 p3 : String} {j1 j2 j3 : Array Edge}
theorem lawAgain_ofc {fn fM fL fA : FuncId} {func : Func} {flx : Int → Bool} {c : Int} {k : Nat} {fs : List Fld} {L6 : List Oper}
  (hfn : (Tryz.prog).funcs[fn]? = some func)
  (hbody : func.body = some (.seq (.region r0 #[⟨some 3, .box 26 (.tmp 1), y0, q0, e0, none⟩, ⟨some 4, .assign (.const (.bool false)), y1, q1, e1, none⟩] false)
   (.seq (.seq (.region r1 #[⟨some 9, .load 26 (.tmp 3), y2, q2, e2, none⟩, ⟨some 10, .call { callee := .value (.func 5), args := #[.tmp 9], argTypes := us }, y3, q3, e3, none⟩, ⟨some 11, .unOp .not 4 (.tmp 10), y4, q4, e4, none⟩] false)
    (.cond (.tmp 11) (.seq (.region r2 #[⟨some 4, .assign (.const (.bool true)), y5, q5, e5, none⟩] false) .ret) .skip))
   (.seq (.region r3 #[⟨some 12, .call { callee := .value (.func fM), args := #[], argTypes := us1 }, y6, q6, e6, none⟩, ⟨some 5, .assign (.tmp 12), y7, q7, e7, none⟩] false)
   (.seq (.seq (.region r4 #[⟨some 13, .move (.tmp 5), y8, q8, e8, none⟩, ⟨some 14, .binOp .lss 3 (.tmp 13) (.const (.int .i64 0)) 3, y9, q9, e9, none⟩] false)
    (.cond (.tmp 14) (.seq (.region r5 #[⟨some 4, .assign (.const (.bool false)), y10, q10, e10, none⟩] false) .ret) .skip))
   (.seq (.region r6 L6.toArray true)
   (.seq (.region r7 #[⟨some 22, .move (.tmp 0), y11, q11, e11, none⟩, ⟨some 23, .move (.tmp 5), y12, q12, e12, none⟩, ⟨some 24, .call { callee := .value (.func 9), args := #[.tmp 22, .tmp 23], argTypes := us5 }, y13, q13, e13, none⟩, ⟨some 25, .move (.tmp 6), y14, q14, e14, none⟩, ⟨some 26, .call { callee := .value (.func fA), args := #[.tmp 24, .tmp 25], argTypes := us6 }, y15, q15, e15, none⟩,
     ⟨some 21, .move (.tmp 26), y16, q16, e16, none⟩, ⟨some 27, .extract (.tmp 21) 0, y17, q17, e17, none⟩, ⟨some 28, .extract (.tmp 21) 1, y18, q18, e18, none⟩, ⟨some 7, .assign (.tmp 27), y19, q19, e19, none⟩, ⟨some 8, .assign (.tmp 28), y20, q20, e20, none⟩] false)
   (.seq (.region r8 #[⟨some 29, .move (.tmp 8), y21, q21, e21, none⟩, ⟨some 30, .move (.tmp 29), y22, q22, e22, none⟩, ⟨some 31, .move (.tmp 7), z1, p1, j1, some (1, true)⟩, ⟨some 32, .move (.tmp 6), z2, p2, j2, some (1, true)⟩,
     ⟨some 33, .call { callee := .value (.func 11), args := #[.tmp 31, .tmp 32], argTypes := us7 }, z3, p3, j3, some (1, true)⟩, ⟨some 34, .pick (.tmp 30) (.tmp 33) (.const (.bool false)), y23, q23, e23, none⟩, ⟨some 4, .assign (.tmp 34), y24, q24, e24, none⟩] false) .ret))))))))
  (hL6 : L6 = [⟨some 15, .call { callee := .value (.func fL), args := #[], argTypes := us2 }, y25, q25, e25, none⟩, ⟨some 16, .move (.tmp 0), y26, q26, e26, none⟩, ⟨some 17, .move (.tmp 5), y27, q27, e27, none⟩, ⟨some 18, .call { callee := .value (.func 9), args := #[.tmp 16, .tmp 17], argTypes := us3 }, y28, q28, e28, none⟩, ⟨some 19, .load 26 (.tmp 3), y29, q29, e29, none⟩,
     ⟨some 20, .call { callee := .value (.func 7), args := #[.tmp 15, .tmp 18, .tmp 19], argTypes := us4 }, y30, q30, e30, none⟩, ⟨some 6, .assign (.tmp 20), y31, q31, e31, none⟩])
  (hS6 : (decide (7 ≤ L6.length) && schedB .any L6.toArray [(true, 1), (true, 2), (true, 4), (false, 0), (false, 3), (false, 5), (true, 6)] (Array.replicate L6.length false)) = true)
  (hres : func.results = #[.tmp 4]) (hNf : func.ntmps = 35) (eM : zaY Tryz.prog fM) (eL : zaY Tryz.prog fL) (eA : zaY Tryz.prog fA)
  (hM : MaxIs fM k) (hL : LaysM fL fs c) (hA : AgCc fA flx k fs) (hk : k < 256) (hfx : ∀ ver : Int, 0 ≤ ver → (decide (0 ≤ c) && decide (c ≤ ver)) = flx ver) (hsch : SchOK flx k fs)
  {n : Int} (hn : 0 ≤ n) (hn2 : n < 256) {w : World} {G : Nat → Prop} {v : Tr} {ts : List Value} (hv : TrC w G v ts) (hkv : keyV v) (hb : za8 v ≤ 1048576) (herr : ErrW w) :
  zaF Tryz.prog fn #[.int .u8 n, zaZ ts] w fun v w' => v = .bool true ∧ Chg (fun _ => False) w w' := by
 subst hL6
 refine zaq hfn hbody hres hNf (by simp) ?_
 intro a hN hD ha
 have g0 : get a 0 = .int .u8 n := ha 0 _ rfl
 have g1 : get a 1 = zaZ ts := ha 1 _ rfl
 obtain ⟨ver, hver⟩ : ∃ ver, ver = n % ((k : Int) + 1) := ⟨_, rfl⟩
 have hv0 : 0 ≤ ver := by rw [hver]; exact Int.emod_nonneg _ (by omega)
 have hv1 : ver ≤ k := by have := Int.emod_lt_of_pos n (show (0 : Int) < (k : Int) + 1 by omega); omega
 have hvc : ∀ w, zaF Tryz.prog 9 #[.int .u8 n, .int .i64 (k : Int)] w fun v w' => v = .int .i64 ver ∧ w' = w := fun w => by
  rw [hver]; exact version_c n k hn (by omega) (by omega) hn2 w
 clear hver
 have hlen5 := hv.len
 have hone := hv.one
 have hlv := trLen_bulk v
 refine qsr fun K hK => ?_
 refine wl_boxA (l := ts) (by simp [qed, hN, g1]) fun w1 hc1 hb1 hs1 => ?_
 (repeat ((with_reducible refine zaJ ?_ ?_ ?_); (· simp [qef, hN] <;> omega); (· kernel_rfl); try simp only [qec, hN, seval])); refine zaa (hK _ _ ?_); clear hK K
 refine qsk fun K hK => ?_; refine qsr fun K0 hK0 => ?_
 refine za7 (b := w.heap.size) (o := 0) (n := 5) (by kernel_rfl) (by kernel_rfl) (by simp [qed, hN]) hb1 (by omega) ?_
 have e5 : (ts.drop 0).take 5 = ts := by rw [List.drop_zero, ← hlen5, List.take_length]
 rw [e5]
 refine zaz (fun args w => Tryz.call5 args w) (by simp only [qea, List.map_toArray, List.map_cons, List.map_nil, hN, seval]; exact fits2_c v (by omega) (hv.stay (zbl.none hc1))) ?_
 rintro _ w2 ⟨⟨bb, rfl⟩, hc2⟩
 have hcw2 : Chg (fun _ => False) w w2 := hc1.trans hc2 fun _ _ h => h
 (repeat ((with_reducible refine zaJ ?_ ?_ ?_); (· simp [qef, hN] <;> omega); (· kernel_rfl); try simp only [qec, hN, seval]))
 refine zaa ?_
 refine hK0 _ _ ?_; try clear hK0 K0
 cases bb
 ·refine wp_cond_true (by simp [qed, hN]) ?_
  refine qsr fun K hK => ?_; (repeat ((with_reducible refine zaJ ?_ ?_ ?_); (· simp [qef, hN] <;> omega); (· kernel_rfl); try simp only [qec, hN, seval])); refine zaa (hK _ _ ?_); clear hK K; refine wp_ret ⟨by simp [zab, hD], ?_⟩; simp only [qea, hN, seval]
  exact ⟨by simp [qea, hN, seval], hcw2⟩
 refine wp_cond_false (by simp [qed, hN]) ?_
 refine wp_skip ?_
 refine hK _ _ ?_
 clear hK K
 have hb2 := hb1.chg hc2 (fun h => h)
 refine qsr fun K hK => ?_
 refine zaz eM (by simp only [List.map_toArray, List.map_nil]; exact hM w2) ?_
 rintro _ w3 ⟨rfl, hc3⟩
 have hcw3 : Chg (fun _ => False) w w3 := hcw2.trans hc3 fun _ _ h => h
 have hb3 := hb2.chg hc3 (fun h => h)
 (repeat ((with_reducible refine zaJ ?_ ?_ ?_); (· simp [qef, hN] <;> omega); (· kernel_rfl); try simp only [qec, hN, seval])); refine zaa (hK _ _ ?_); clear hK K
 refine qsk fun K hK => ?_; refine qsr fun K0 hK0 => ?_
 (repeat ((with_reducible refine zaJ ?_ ?_ ?_); (· simp [qef, hN] <;> omega); (· kernel_rfl); try simp only [qec, hN, seval]))
 refine zaa ?_
 refine hK0 _ _ ?_; try clear hK0 K0
 refine wp_cond_false (by simp [qed, hN]) ?_
 refine wp_skip ?_
 refine hK _ _ ?_
 clear hK K
 have hbound : (sPart (flx ver) ver fs v).length ≤ 1073741824 := by
  have h1 := sPart_le (flex := flx ver) (ver := ver) (v := v) hsch.plain
  have h2 : (kL fs + 6) * za8 v ≤ 1024 * 1048576 := Nat.mul_le_mul hsch.room hb
  omega
 obtain ⟨s, hdec, henc⟩ := tree_law (hsch.good ver hv0 hv1) hsch.plain hkv (by omega : (sPart (flx ver) ver fs v).length ≤ 2147483648)
 refine qsk fun K hK => ?_
 refine wp_sched (fun w' => Chg (fun _ => False) w3 w') [(true, 1), (true, 2), (true, 4), (false, 0), (false, 3), (false, 5), (true, 6)] zaR (by kernel_rfl) hS6 (Chg.drew _ _) ?_
 refine zbf rfl ?_
 refine zbf rfl ?_
 simp only [qea, hN, seval, g0]
 refine ws_loadAgg (b := w.heap.size) (o := 0) (n := 5) (by kernel_rfl) (by kernel_rfl) rfl (by simp [qed, hN]) (fun w' c => hb3.chg c (fun h => h)) (by omega) ?_
 rw [e5]
 refine ws_call eL rfl (by simp only [qea, List.map_toArray, List.map_cons, List.map_nil, hN, seval]; exact hL _) ?_
 rintro _ w4 ⟨sv, rfl, hsv, hc4⟩
 have hk4 : Chg (fun _ => False) w3 w4 := (Chg.drew _ _).trans hc4 fun _ _ h => h
 refine ⟨hk4, ?_⟩
 refine ws_call (fun args w => Tryz.call9 args w) rfl (by simp only [qea, List.map_toArray, List.map_cons, List.map_nil, hN, seval]; exact hvc _) ?_
 rintro _ w4' ⟨rfl, e⟩
 replace e := e.symm
 subst e
 refine ⟨hk4, ?_⟩
 have hcw4 : Chg (fun _ => False) w w4 := hcw3.trans hk4 fun _ _ h => h
 refine ws_call (fun args w => Tryz.call7 args w) rfl (by simp only [qea, List.map_toArray, List.map_cons, List.map_nil, hN, seval]; exact Write_c fs c ver v hsch.ok hsch.len (trok_bulk (by unfold LIM; omega)) (by rw [hfx ver hv0]; unfold SLIM; omega) hsv (hv.stay (zbl.none hcw4))) ?_
 rw [hfx ver hv0]
 rintro v5 w5 ho5
 have hk5 := hk4.trans ho5.2 fun _ _ h => h
 refine ⟨hk5, ?_⟩
 refine ws_assign rfl ?_
 simp only [qea, hN, seval]
 refine ws_nil ?_
 refine hK _ _ ?_
 clear hK K
 have hcw5 : Chg (fun _ => False) w w5 := hcw3.trans hk5 fun _ _ h => h
 have hE5 := herr.chg hcw5 (fun h => h)
 obtain ⟨oa5, cap5, rfl, _, hb5⟩ := ho5.1.bytes
 refine qsr fun K hK => ?_; (repeat ((with_reducible refine zaJ ?_ ?_ ?_); (· simp [qef, hN, g0] <;> omega); (· kernel_rfl); try simp only [qec, hN, seval, g0]))
 refine zaz (fun args w => Tryz.call9 args w) (by simp only [qea, List.map_toArray, List.map_cons, List.map_nil, hN, seval]; exact hvc _) ?_
 rintro _ w5' ⟨rfl, e⟩
 replace e := e.symm
 subst e
 (repeat ((with_reducible refine zaJ ?_ ?_ ?_); (· simp [qef, hN] <;> omega); (· kernel_rfl); try simp only [qec, hN, seval]))
 refine zaz eA (by simp only [qea, List.map_toArray, List.map_cons, List.map_nil, hN, seval]; exact hA ver hv0 hv1 _ _ oa5 _ cap5 hb5 (by unfold RLIM; omega) hE5 (tree_okS (hsch.good ver hv0 hv1) hsch.plain hkv (by omega) hv0) (fun s' r' h => by
  rw [hdec] at h
  simp only [Option.some.injEq, Prod.mk.injEq] at h
  obtain ⟨rfl, _⟩ := h
  rw [henc]; unfold LIM; omega)) ?_
 rintro v6 w6 ⟨hc6, hq⟩
 rcases hq with ⟨h, _⟩ | ⟨s', r', out, h, rfl, hown⟩
 ·rw [hdec] at h; cases h
 rw [hdec] at h
 simp only [Option.some.injEq, Prod.mk.injEq] at h
 obtain ⟨rfl, rfl⟩ := h
 rw [henc] at hown
 obtain ⟨oa6, cap6, rfl, _, hb6⟩ := hown.bytes
 (repeat ((with_reducible refine zaJ ?_ ?_ ?_); (· simp [qef, hN, exV, exOK] <;> omega); (· kernel_rfl); try simp only [qec, hN, seval, exV, exOK])); refine zaa (hK _ _ ?_); clear hK K
 refine qsr fun K hK => ?_; (repeat (first | ((with_reducible refine zaJ ?_ ?_ ?_); (· simp [qef, hN, seval] <;> omega); (· kernel_rfl); try simp only [qec, hN, seval]) | ((with_reducible apply zak); (· exact rfl); (· exact rfl); (· simp [qec, hN, seval]; done); try simp only [qec, hN, seval]) | ((with_reducible apply zas); (· exact rfl); (· exact rfl); (· simp [qec, hN, seval]; done); try simp only [qec, hN, seval]) | ((with_reducible apply zat); (· exact rfl); (· exact rfl); (· simp [qec, hN, seval]; done); try simp only [qec, hN, seval])))
 refine zaz (fun args w => Tryz.call11 args w) (by simp only [qea, List.map_toArray, List.map_cons, List.map_nil, hN, seval]; exact Same_c _ _ hb6 (hb5.chg hc6 fun _ _ _ h => h) (by unfold LIM; omega)) ?_
 rintro _ w7 ⟨rfl, hc7⟩
 (repeat ((with_reducible refine zaJ ?_ ?_ ?_); (· simp [qef, hN, pickV] <;> omega); (· kernel_rfl); try simp only [qec, hN, seval, pickV])); refine zaa (hK _ _ ?_); clear hK K; refine wp_ret ⟨by simp [zab, hD], ?_⟩; simp only [qea, hN, seval]
 exact ⟨by simp, (hcw5.trans hc6 fun _ _ h => h).trans hc7 fun _ _ h => h⟩
end
end Go.Proofs.YtnjjfpgpookjlaaGreatDoor

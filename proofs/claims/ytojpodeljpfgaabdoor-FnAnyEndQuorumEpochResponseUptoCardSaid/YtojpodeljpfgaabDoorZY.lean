import Derived.Test.YtojpodeljpfgaabDoorZM
import Derived.Test.YtojpodeljpfgaabDoorZS
import Derived.Test.YtojpodeljpfgaabDoorZL
import Derived.Test.YtojpodeljpfgaabDoorZE
/-
What the proofs of the laws rest on, part ZY.
-/
namespace Go.Proofs.YtojpodeljpfgaabDoor
set_option linter.all false
open Go.RowKit
set_option maxRecDepth 10000
set_option maxHeartbeats 2000000
section
variable {y0 y1 y2 y3 y4 y5 y6 y7 y8 y9 y10 y11 y12 y13 y14 y15 y16 y17 y18 y19 y20 y21 y22 y23 y24 y25 y26 y27 y28 y29 y30 y31 y32 y33 y34 y35 y36 y37 y38 y39 : TypeId} {q0 q1 q2 q3 q4 q5 q6 q7 q8 q9 q10 q11 q12 q13 q14 q15 q16 q17 q18 q19 q20 q21 q22 q23 q24 q25 q26 q27 q28 q29 q30 q31 q32 q33 q34 q35 q36 q37 q38 q39 : String} {e0 e1 e2 e3 e4 e5 e6 e7 e8 e9 e10 e11 e12 e13 e14 e15 e16 e17 e18 e19 e20 e21 e22 e23 e24 e25 e26 e27 e28 e29 e30 e31 e32 e33 e34 e35 e36 e37 e38 e39 : Array Edge} {r0 r1 r2 r3 r4 r5 : Nat}
variable {y40 y41 y42 y43 y44 y45 y46 y47 y48 y49 y50 y51 y52 y53 y54 y55 y56 y57 y58 y59 : TypeId} {q40 q41 q42 q43 q44 q45 q46 q47 q48 q49 q50 q51 q52 q53 q54 q55 q56 q57 q58 q59 : String} {e40 e41 e42 e43 e44 e45 e46 e47 e48 e49 e50 e51 e52 e53 e54 e55 e56 e57 e58 e59 : Array Edge}
variable {us us1 us2 us3 us4 us5 us6 us7 us8 : Array TypeId} {r6 r7 r8 r9 r10 r11 r12 : Nat} {z1 z2 z3 : TypeId} {p1 p2 p3 : String} {j1 j2 j3 : Array Edge}
end
end Go.Proofs.YtojpodeljpfgaabDoor
namespace Go.Proofs.YtojpodeljpfgaabDoor
set_option linter.all false
open Go.RowKit
set_option maxRecDepth 10000
set_option maxHeartbeats 2000000
def nearD (f : Fld) (d d0 : D) : Prop := d = d0 ∨ (0 ≤ f.tag ∧ ∃ b b0, d = .arr b [] ∧ d0 = .arr b0 [])
def nearDs : List Fld → List D → List D → Prop
  | f :: r, d :: ds, d0 :: ds0 => nearD f d d0 ∧ nearDs r ds ds0
  | _, ds, ds0 => ds = ds0
theorem nearDs_refl : ∀ (fs : List Fld) (ds : List D), nearDs fs ds ds
  | [], ds => by unfold nearDs; cases ds <;> rfl
  | f :: r, [] => by unfold nearDs; rfl
  | f :: r, d :: ds => by unfold nearDs; exact ⟨.inl rfl, nearDs_refl r ds⟩
theorem nearDs_encL {flex : Bool} {ver : Int} : ∀ {fs : List Fld} {ds ds0 : List D}, nearDs fs ds ds0 → encL flex ver fs ds = encL flex ver fs ds0 ∧ zao flex ver fs ds = zao flex ver fs ds0
  | [], ds, ds0, h => by
    have : ds = ds0 := by unfold nearDs at h; cases ds <;> cases ds0 <;> first | exact h | rfl
    rw [this]; exact ⟨rfl, rfl⟩
  | f :: r, [], ds0, h => by
    have : [] = ds0 := by unfold nearDs at h; exact h
    rw [← this]; exact ⟨rfl, rfl⟩
  | f :: r, d :: ds, [], h => by
    unfold nearDs at h; cases h
  | f :: r, d :: ds, d0 :: ds0, h => by
    unfold nearDs at h
    obtain ⟨h1, h2⟩ := h
    obtain ⟨e1, e2⟩ := nearDs_encL (flex := flex) (ver := ver) h2
    rcases h1 with rfl | ⟨ht, b, b0, rfl, rfl⟩
    · constructor
      · rw [encL, encL, e1]
      · rw [zao, zao, e2]
    · have hn : ¬ f.tag < 0 := by omega
      constructor
      · rw [encL, encL, e1]
        simp [hn]
      · rw [zao, zao, e2]
        simp [zaF]
theorem near_enc {flex : Bool} {ver : Int} {fs : List Fld} {s s0 : S} (h : nearDs fs s.ds s0.ds) (ht : s.tags = s0.tags) : zay flex ver fs s = zay flex ver fs s0 := by
  obtain ⟨e1, e2⟩ := nearDs_encL (flex := flex) (ver := ver) h
  unfold zay
  rw [e1, e2, ht]
theorem nearDs_set {d d0 : D} : ∀ {fs : List Fld} {ds ds0 : List D} {j : Nat} {f : Fld}, fs[j]? = some f → nearDs fs ds ds0 → nearD f d d0 → nearDs fs (ds.set j d) (ds0.set j d0)
  | [], ds, ds0, j, f, h, _, _ => by simp at h
  | g :: r, [], ds0, j, f, h, h1, h2 => by
    have : [] = ds0 := by unfold nearDs at h1; exact h1
    rw [← this]; simp only [List.set_nil]; unfold nearDs; rfl
  | g :: r, x :: ds, [], j, f, h, h1, h2 => by unfold nearDs at h1; cases h1
  | g :: r, x :: ds, x0 :: ds0, 0, f, h, h1, h2 => by
    simp only [List.getElem?_cons_zero, Option.some.injEq] at h
    subst h
    unfold nearDs at h1
    simp only [List.set_cons_zero]
    unfold nearDs
    exact ⟨h2, h1.2⟩
  | g :: r, x :: ds, x0 :: ds0, j + 1, f, h, h1, h2 => by
    simp only [List.getElem?_cons_succ] at h
    unfold nearDs at h1
    simp only [List.set_cons_succ]
    unfold nearDs
    exact ⟨h1.1, nearDs_set h h1.2 h2⟩
theorem fixO_near {f : Fld} (ht : 0 ≤ f.tag) (old d : D) : nearD f (fixO old d) d := by
  unfold fixO
  split
  · exact .inr ⟨ht, _, _, rfl, rfl⟩
  · exact .inl rfl
theorem decKnown_tag {flex : Bool} {ver : Int} : ∀ {fs : List Fld} {i k j : Nat} {g : Bs → Option D}, zax flex ver fs i k = some (j, g) → ∃ f, i ≤ j ∧ fs[j - i]? = some f ∧ 0 ≤ f.tag
  | [], i, k, j, g, h => by unfold zax at h; cases h
  | f :: r, i, k, j, g, h => by
    unfold zax at h
    split at h
    · rename_i hk
      simp only [Option.some.injEq, Prod.mk.injEq] at h
      obtain ⟨rfl, _⟩ := h
      exact ⟨f, Nat.le_refl _, by rw [Nat.sub_self]; rfl, by omega⟩
    · obtain ⟨f', h1, h2, h3⟩ := decKnown_tag h
      refine ⟨f', by omega, ?_, h3⟩
      rw [show j - i = (j - (i + 1)) + 1 by omega]
      simpa using h2
def nearR (fs : List Fld) : Option (S × Bs) → Option (S × Bs) → Prop
  | none, none => True
  | some x, some y => nearDs fs x.1.ds y.1.ds ∧ x.1.tags = y.1.tags ∧ x.2 = y.2
  | _, _ => False
theorem near_tags {flex : Bool} {ver : Int} {fs : List Fld} : ∀ (n : Nat) (s s0 : S) (bs : Bs), nearDs fs s.ds s0.ds → s.tags = s0.tags → nearR fs (rTagO (zax flex ver fs 0) n s bs) (rTagged (zax flex ver fs 0) n s0 bs)
  | 0, s, s0, bs, h, ht => ⟨h, ht, rfl⟩
  | n + 1, s, s0, bs, h, ht => by
    rw [rTagO, rTagged]
    dsimp only
    cases a1 : zav bs with
    | none => trivial
    | some y1 =>
      simp only [Option.bind_some]
      cases a2 : zav y1.2 with
      | none => trivial
      | some y2 =>
        simp only [Option.bind_some]
        cases a3 : rSpan (y2.1 : Int) y2.2 with
        | none => trivial
        | some y3 =>
          simp only [Option.bind_some]
          cases hk : zax flex ver fs 0 y1.1 with
          | none => exact near_tags n _ _ _ h (by rw [ht])
          | some x =>
            obtain ⟨j, g⟩ := x
            obtain ⟨f, _, hf, htg⟩ := decKnown_tag hk
            rw [Nat.sub_zero] at hf
            dsimp only
            cases g y3.1 with
            | none => trivial
            | some d =>
              simp only [Option.bind_some]
              exact near_tags n _ _ _ (nearDs_set hf h (fixO_near htg _ _)) ht
theorem near_part {flex : Bool} {ver : Int} {fs : List Fld} (ha : anyTag fs = true) (bs : Bs) : nearR fs (decPartO flex ver fs bs) (decPart flex ver fs bs) := by
  unfold decPartO decPart partOf tlO semTagged
  cases decL flex ver fs bs with
  | none => trivial
  | some x =>
    simp only [Option.bind_some]
    cases flex with
    | false => exact ⟨nearDs_refl _ _, rfl, rfl⟩
    | true =>
      rw [if_pos rfl, if_pos rfl, if_pos ha]
      cases a1 : zav x.2 with
      | none => trivial
      | some y1 => exact near_tags _ _ _ _ (nearDs_refl _ _) rfl
theorem any_lawO {flex : Bool} {ver : Int} {fs : List Fld} {bs r : Bs} {s : S} (ha : anyTag fs = true) (hg : goodL flex ver fs = true) (hd : dfBL fs = true) (hb : bs.length ≤ 32767) (h : decPartO flex ver fs bs = some (s, r)) :
    ∃ s', decPartO flex ver fs (zay flex ver fs s) = some (s', []) ∧ zay flex ver fs s' = zay flex ver fs s ∧ (zay flex ver fs s).length ≤ bs.length := by
  have h1 := near_part (flex := flex) (ver := ver) ha bs
  rw [h] at h1
  cases h2 : decPart flex ver fs bs with
  | none => rw [h2] at h1; exact h1.elim
  | some y =>
    rw [h2] at h1
    obtain ⟨q1, q2, q3⟩ := h1
    obtain ⟨s0', k1, k2, k3⟩ := any_law (s := y.1) (r := y.2) hg hd hb h2
    have e := near_enc (flex := flex) (ver := ver) q1 q2
    dsimp only at e
    rw [e]
    have h3 := near_part (flex := flex) (ver := ver) ha (zay flex ver fs y.1)
    rw [k1] at h3
    cases h4 : decPartO flex ver fs (zay flex ver fs y.1) with
    | none => rw [h4] at h3; exact h3.elim
    | some z =>
      rw [h4] at h3
      obtain ⟨p1, p2, p3⟩ := h3
      refine ⟨z.1, ?_, (near_enc p1 p2).trans k2, k3⟩
      rw [show z = (z.1, z.2) from rfl, p3]
def sameU : List Fld → List Fld → Prop
  | [], [] => True
  | f :: r, g :: q => (f = g ∨ (0 ≤ f.tag ∧ 0 ≤ g.tag ∧ dfltF f = dfltF g)) ∧ sameU r q
  | _, _ => False
theorem sameU_nil : sameU [] [] := by unfold sameU; trivial
theorem sameU_cons {f g : Fld} {r q : List Fld} (h : f = g ∨ (0 ≤ f.tag ∧ 0 ≤ g.tag ∧ dfltF f = dfltF g)) (h2 : sameU r q) : sameU (f :: r) (g :: q) := by unfold sameU; exact ⟨h, h2⟩
theorem sameU_dec {ver : Int} : ∀ {fs gs : List Fld} (bs : Bs), sameU fs gs → decL false ver fs bs = decL false ver gs bs
  | [], [], _, _ => rfl
  | [], g :: q, _, h => by unfold sameU at h; exact h.elim
  | f :: r, [], _, h => by unfold sameU at h; exact h.elim
  | f :: r, g :: q, bs, h => by
    unfold sameU at h
    obtain ⟨h1, h2⟩ := h
    rcases h1 with rfl | ⟨ht, ht2, hd⟩
    · rw [decL, decL]
      split
      · congr 1
        funext x
        rw [sameU_dec x.2 h2]
      · rw [sameU_dec bs h2]
    · rw [decL, decL, if_neg (by simp; omega), if_neg (by simp; omega), hd, sameU_dec bs h2]
theorem sameU_enc {ver : Int} : ∀ {fs gs : List Fld} (ds : List D), sameU fs gs → encL false ver fs ds = encL false ver gs ds
  | [], [], _, _ => rfl
  | [], g :: q, _, h => by unfold sameU at h; exact h.elim
  | f :: r, [], _, h => by unfold sameU at h; exact h.elim
  | f :: r, g :: q, [], h => by rw [encL, encL] <;> intros <;> simp_all
  | f :: r, g :: q, d :: ds, h => by
    unfold sameU at h
    obtain ⟨h1, h2⟩ := h
    rcases h1 with rfl | ⟨ht, ht2, hd⟩
    · rw [encL, encL, sameU_enc ds h2]
    · rw [encL, encL, if_neg (by simp; omega), if_neg (by simp; omega), sameU_enc ds h2]
theorem any_lawU {ver : Int} {fs gs : List Fld} {bs r : Bs} {s : S} (hs : sameU fs gs) (hg : goodL false ver gs = true) (hd : dfBL gs = true) (hb : bs.length ≤ 32767) (h : decPartO false ver fs bs = some (s, r)) :
    ∃ s', decPartO false ver fs (zay false ver fs s) = some (s', []) ∧ zay false ver fs s' = zay false ver fs s ∧ (zay false ver fs s).length ≤ bs.length := by
  have e1 : ∀ bs, decPartO false ver fs bs = decPart false ver gs bs := fun bs => by
    unfold decPartO decPart partOf tlO
    rw [sameU_dec bs hs]; rfl
  have e2 : ∀ s, zay false ver fs s = zay false ver gs s := fun s => by
    unfold zay
    rw [sameU_enc s.ds hs]; rfl
  rw [e1] at h
  obtain ⟨s', h1, h2, h3⟩ := any_law hg hd hb h
  exact ⟨s', by rw [e1, e2]; exact h1, by rw [e2, e2]; exact h2, by rw [e2]; exact h3⟩
def AnyLawO (flx : Int → Bool) (k : Nat) (fs : List Fld) : Prop := ∀ (ver : Int) (bs : Bs) (s : S) (r : Bs), 0 ≤ ver → ver ≤ k → bs.length ≤ 32767 → decPartO (flx ver) ver fs bs = some (s, r) →
  ∃ s', decPartO (flx ver) ver fs (zay (flx ver) ver fs s) = some (s', []) ∧ zay (flx ver) ver fs s' = zay (flx ver) ver fs s ∧ (zay (flx ver) ver fs s).length ≤ bs.length
theorem anyO_of {flx : Int → Bool} {k : Nat} {fs gs : List Fld} (ha : anyTag fs = true) (hs : sameU fs gs) (hB : (dfBL fs && dfBL gs && (List.range (k + 1)).all fun v => if flx v then goodL true v fs else goodL false v gs) = true) : AnyLawO flx k fs := by
  simp only [Bool.and_eq_true, List.all_eq_true, List.mem_range] at hB
  intro ver bs s r h0 h1 hb h
  have hg := hB.2 ver.toNat (by omega)
  rw [Int.toNat_of_nonneg h0] at hg
  cases hf : flx ver with
  | false =>
    rw [hf] at hg h
    exact any_lawU hs (by simpa using hg) hB.1.2 hb h
  | true =>
    rw [hf] at hg h
    exact any_lawO ha (by simpa using hg) hB.1.1 hb h
def AgPo (flex : Bool) (ver : Int) (fs : List Fld) (bs : Bs) (w : World) (v : Value) (w' : World) : Prop := Chg (fun _ => False) w w' ∧
  ((decPartO flex ver fs bs = none ∧ v = .tuple #[.slice none 0 0, .bool false]) ∨ ∃ s r out, decPartO flex ver fs bs = some (s, r) ∧ v = .tuple #[out, .bool true] ∧ Own eB w' w.heap.size out (zay flex ver fs s))
def AgCo (fn : FuncId) (flx : Int → Bool) (k : Nat) (fs : List Fld) : Prop := ∀ (ver : Int), 0 ≤ ver → ver ≤ k → ∀ (w : World) (G : Nat → Prop) (oa : Option Addr) (bs : Bs) (cap : Nat), zaq w G oa bs → bs.length ≤ RLIM → ErrW w →
  (∀ s r, decPartO (flx ver) ver fs bs = some (s, r) → (zay (flx ver) ver fs s).length ≤ LIM) → zaD Tryd.prog fn #[.int .i64 ver, .slice oa bs.length cap] w (AgPo (flx ver) ver fs bs w)
section
variable {y0 y1 y2 y3 y4 y5 y6 y7 y8 y9 y10 y11 y12 y13 y14 y15 y16 y17 y18 y19 y20 y21 y22 y23 y24 y25 y26 y27 y28 y29 y30 y31 y32 y33 y34 y35 y36 y37 y38 y39 : TypeId} {q0 q1 q2 q3 q4 q5 q6 q7 q8 q9 q10 q11 q12 q13 q14 q15 q16 q17 q18 q19 q20 q21 q22 q23 q24 q25 q26 q27 q28 q29 q30 q31 q32 q33 q34 q35 q36 q37 q38 q39 : String} {e0 e1 e2 e3 e4 e5 e6 e7 e8 e9 e10 e11 e12 e13 e14 e15 e16 e17 e18 e19 e20 e21 e22 e23 e24 e25 e26 e27 e28 e29 e30 e31 e32 e33 e34 e35 e36 e37 e38 e39 : Array Edge} {r0 r1 r2 r3 r4 r5 : Nat}
variable {us us1 us2 us3 us4 : Array TypeId}
theorem again_ofo {fn fp fv fr frr fa : FuncId} {func : Func} {flx : Int → Bool} {fs : List Fld} {dc : List Value}
    (hfn : (Tryd.prog).funcs[fn]? = some func)
    (hbody : func.body = some (.seq (.region r0 #[⟨some 4, .assign (.const (.slice none 0 0)), y0, q0, e0, none⟩, ⟨some 5, .assign (.const (.bool false)), y1, q1, e1, none⟩] false)
      (.seq (.region r1 #[⟨some 7, .call { callee := .value (.func fp), args := #[], argTypes := us }, y2, q2, e2, none⟩, ⟨some 6, .assign (.tmp 7), y3, q3, e3, none⟩] false)
      (.seq (.region r2 #[⟨some 8, .move (.tmp 6), y4, q4, e4, none⟩, ⟨some 9, .move (.tmp 0), y5, q5, e5, none⟩, ⟨some 10, .convert 3 29 (.tmp 9), y6, q6, e6, none⟩, ⟨some 11, .call { callee := .value (.func fv), args := #[.tmp 8, .tmp 10], argTypes := us1 }, y7, q7, e7, none⟩] false)
      (.seq (.seq (.region r3 #[⟨some 12, .move (.tmp 6), y8, q8, e8, none⟩, ⟨some 13, .move (.tmp 1), y9, q9, e9, none⟩, ⟨some 14, .call { callee := .builtin .append, args := #[.const (.slice none 0 0), .tmp 13], argTypes := #[22, 22] }, y10, q10, e10, none⟩, ⟨some 15, .call { callee := .value (.func fr), args := #[.tmp 12, .tmp 14], argTypes := us3 }, y11, q11, e11, none⟩, ⟨some 16, .binOp .neq 35 (.tmp 15) (.const .nilIface) 35, y12, q12, e12, none⟩] false)
        (.cond (.tmp 16) (.seq (.region r4 #[⟨some 4, .assign (.const (.slice none 0 0)), y13, q13, e13, none⟩, ⟨some 5, .assign (.const (.bool false)), y14, q14, e14, none⟩] false) .ret) .skip))
      (.seq (.region r5 #[⟨some 17, .move (.tmp 6), y15, q15, e15, none⟩, ⟨some 18, .call { callee := .value (.func fa), args := #[.tmp 17, .const (.slice none 0 0)], argTypes := us4 }, y16, q16, e16, none⟩, ⟨some 4, .assign (.tmp 18), y17, q17, e17, none⟩, ⟨some 5, .assign (.const (.bool true)), y18, q18, e18, none⟩] false) .ret))))))
    (hres : func.results = #[.tmp 4, .tmp 5]) (hNf : func.ntmps = 19) (ep : zaK Tryd.prog fp) (ev : zaK Tryd.prog fv) (er : zaK Tryd.prog fr) (ea : zaK Tryd.prog fa)
    (hp : NewsPtr fp dc) (hv : SetsVersion fv) (hf : ReadsFrom fr frr) (hr : ReadsFo frr flx fs dc [.bool false]) (ha : AppendsTo fa true flx fs)
    {ver : Int} (h0 : 0 ≤ ver) (h1 : ver ≤ 32767) {w : World} {G : Nat → Prop} {oa : Option Addr} {bs : Bs} {cap : Nat} (hsrc : zaq w G oa bs) (hlim : bs.length ≤ RLIM) (herr : ErrW w)
    (hout : ∀ s r, decPartO (flx ver) ver fs bs = some (s, r) → (zay (flx ver) ver fs s).length ≤ LIM) :
    zaD Tryd.prog fn #[.int .i64 ver, .slice oa bs.length cap] w (AgPo (flx ver) ver fs bs w) := by
  refine callsR_of2 hfn hbody hres hNf (by simp) ?_
  intro a hN hD hargs
  have g0 : get a 0 = .int .i64 ver := hargs 0 _ rfl
  have g1 : get a 1 = .slice oa bs.length cap := hargs 1 _ rfl
  refine wp_seq_k fun K hK => ?_; refine zai ?_; (repeat ((with_reducible refine zaw ?_ ?_ ?_); (· simp [evb, pvb, rnb, kb, hN, dyb, sdb] <;> omega); (· kernel_rfl); try simp only [evb, pvb, rnb, kb, hN, seval])); refine zah ?_; refine hK _ _ ?_; clear hK K
  refine wp_seq_k fun K hK => ?_; refine zai ?_
  refine zaH ep (by simp only [List.map_toArray, List.map_nil]; exact hp w) ?_
  rintro v w1 ⟨rfl, hc1, n, T, hb1⟩
  have hE1 := herr.chg hc1 (fun h => h)
  have hgE := gE_lt herr
  (repeat ((with_reducible refine zaw ?_ ?_ ?_); (· simp [evb, pvb, rnb, kb, hN, dyb, sdb] <;> omega); (· kernel_rfl); try simp only [evb, pvb, rnb, kb, hN, seval])); refine zah ?_; refine hK _ _ ?_; clear hK K
  refine wp_seq_k fun K hK => ?_; refine zai ?_; (repeat ((with_reducible refine zaw ?_ ?_ ?_); (· simp [evb, pvb, rnb, kb, hN, g0, dyb, sdb] <;> omega); (· kernel_rfl); try simp only [evb, pvb, rnb, kb, hN, seval, g0]))
  have hi : IntKind.i16.wrap ver = ver := i16_id ver (by omega)
  refine zaH (R := fun _ w' => Blk w' w.heap.size (zas (.int .i16 n :: dc) 0 [.int .i16 ver]) T ∧ Chg (fun k => k = w.heap.size) w1 w') ev (by
    simp only [List.map_toArray, List.map_cons, List.map_nil, evb, kb, hN, seval, g0, hi, cvt]
    exact hv w1 w.heap.size _ T ver hb1 (by simp)) ?_
  rintro v w2 ⟨hb2, hc2⟩
  have hc12 : Chg (fun _ => False) w w2 := hc1.trans hc2 fun n hn h => by omega
  have hE2 := hE1.chg hc2 (fun h => by omega)
  have e2 : zas (.int .i16 n :: dc) 0 [.int .i16 ver] = .int .i16 ver :: dc := by simp [zas]
  rw [e2] at hb2
  refine zah ?_; refine hK _ _ ?_; clear hK K
  refine wp_seq_k fun K hK => ?_; refine wp_seq_k fun K0 hK0 => ?_; refine zai ?_; (repeat ((with_reducible refine zaw ?_ ?_ ?_); (· simp [evb, pvb, rnb, kb, hN, g1, dyb, sdb] <;> omega); (· kernel_rfl); try simp only [evb, pvb, rnb, kb, hN, seval, g1]))
  have hs2 := hb2.lt
  refine wl_append (t := 22) (e := 5) (base := w2.heap.size) (v := .slice none 0 0) (bs := []) (bs' := bs) (oa := oa) (c := cap) bT (by simp only [evb, kb, hN, seval]) (by simp only [evb, kb, hN, seval, g1]) (Own.nil _ _ _) (hsrc.chg hc12 fun _ _ _ h => h) (by unfold LIM; unfold RLIM at hlim; simp only [List.length_nil]; omega) (Nat.le_refl _) ?_
  intro v3 w3 happ
  have hc3 : Chg (fun _ => False) w2 w3 := happ.chg.mono fun n hn hk => by simp [Value.ownBlock] at hk
  obtain ⟨oa3, cap3, rfl, hcap3, hbs3⟩ := happ.own.bytes
  have hE3 := hE2.chg hc3 (fun h => h)
  have hb3 := hb2.chg hc3 (fun h => h)
  have hc13 : Chg (fun _ => False) w w3 := hc12.trans hc3 fun _ _ h => h
  have hs3 := hc3.size
  have hown := happ.own
  rw [List.nil_append] at hcap3 hbs3 hown ⊢
  have hne : ∀ g, Value.ownBlock (.slice oa3 bs.length cap3) = some g → g ≠ w.heap.size := by
    intro g hg
    rcases hown.2 with ⟨h, _⟩ | ⟨g', c', cur, h, hbg, _⟩
    · rw [h] at hg; simp [Value.ownBlock] at hg
    · rw [h] at hg; simp [Value.ownBlock] at hg; omega
  refine zaH (R := ReadPO w3 (flx ver) ver fs w.heap.size bs) er (by
    simp only [List.map_toArray, List.map_cons, List.map_nil, evb, kb, hN, seval]
    exact hf (hr ver w3 w.heap.size T oa3 bs cap3 h0 hb3 (hbs3.mono fun g hg _ => hne g hg) hcap3 hlim (by omega) hE3)) ?_
  rintro v4 w4 ⟨hc4, hq⟩
  have hc14 : Chg (fun _ => False) w w4 := hc13.trans hc4 fun n hn h => by omega
  rcases hq with ⟨hd, t, x, rfl⟩ | ⟨s, r, hd, rfl, hat, cs, T4, hb4, hcs⟩
  · refine wl_neqNil1 (ti := t) (v := x) (by kernel_rfl) (by simp only [evb, kb, hN, seval]) ?_
    refine zah ?_
    refine hK0 _ _ ?_; try clear hK0 K0
    refine wp_cond_true (by simp [evb, kb, hN, sdb]) ?_
    refine wp_seq_k fun K hK => ?_; refine zai ?_; (repeat ((with_reducible refine zaw ?_ ?_ ?_); (· simp [evb, pvb, rnb, kb, hN, dyb, sdb] <;> omega); (· kernel_rfl); try simp only [evb, pvb, rnb, kb, hN, seval])); refine zah ?_; refine hK _ _ ?_; clear hK K; refine wp_ret ⟨by simp [zaj, hD], ?_⟩; simp only [evb, kb, hN, seval]
    exact ⟨hc14, .inl ⟨hd, by simp [evb, kb, hN, seval]⟩⟩
  · refine wl_neqNil0 (by kernel_rfl) (by simp only [evb, kb, hN, seval]) ?_
    refine zah ?_
    refine hK0 _ _ ?_; try clear hK0 K0
    refine wp_cond_false (by simp [evb, kb, hN, sdb]) ?_
    refine wp_skip ?_
    refine hK _ _ ?_
    clear hK K
    refine wp_seq_k fun K hK => ?_; refine zai ?_; (repeat ((with_reducible refine zaw ?_ ?_ ?_); (· simp [evb, pvb, rnb, kb, hN, dyb, sdb] <;> omega); (· kernel_rfl); try simp only [evb, pvb, rnb, kb, hN, seval]))
    have hB4 := hb4.lt
    refine zaH (R := App eB w4 w4.heap.size (.slice none 0 0) ([] ++ zay (flx ver) ver fs s)) ea (by
      simp only [List.map_toArray, List.map_cons, List.map_nil, evb, kb, hN, seval]
      exact ha s ver w.heap.size w4 w4.heap.size (.slice none 0 0) [] h0 ⟨cs, T4, hb4, hcs⟩ (hat.stay (Stay.sub fun k hk _ => hk) rfl) hB4 (Nat.le_refl _) (Own.nil _ _ _) (by have := hout s r hd; simpa using this)) ?_
    intro v5 w5 happ5
    (repeat ((with_reducible refine zaw ?_ ?_ ?_); (· simp [evb, pvb, rnb, kb, hN, dyb, sdb] <;> omega); (· kernel_rfl); try simp only [evb, pvb, rnb, kb, hN, seval])); refine zah ?_; refine hK _ _ ?_; clear hK K; refine wp_ret ⟨by simp [zaj, hD], ?_⟩; simp only [evb, kb, hN, seval]
    have hc5 : Chg (fun _ => False) w4 w5 := happ5.chg.mono fun n hn hk => by simp [Value.ownBlock] at hk
    refine ⟨hc14.trans hc5 fun _ _ h => h, .inr ⟨s, r, v5, hd, by simp [evb, kb, hN, seval], ?_⟩⟩
    have := happ5.own
    rw [List.nil_append] at this
    exact this.mono hc14.size
end
section
variable {y0 y1 y2 y3 y4 y5 y6 y7 y8 y9 y10 y11 y12 y13 y14 y15 y16 y17 y18 y19 y20 y21 y22 y23 y24 y25 y26 y27 y28 y29 y30 y31 y32 y33 y34 y35 y36 y37 y38 y39 : TypeId} {q0 q1 q2 q3 q4 q5 q6 q7 q8 q9 q10 q11 q12 q13 q14 q15 q16 q17 q18 q19 q20 q21 q22 q23 q24 q25 q26 q27 q28 q29 q30 q31 q32 q33 q34 q35 q36 q37 q38 q39 : String} {e0 e1 e2 e3 e4 e5 e6 e7 e8 e9 e10 e11 e12 e13 e14 e15 e16 e17 e18 e19 e20 e21 e22 e23 e24 e25 e26 e27 e28 e29 e30 e31 e32 e33 e34 e35 e36 e37 e38 e39 : Array Edge} {r0 r1 r2 r3 r4 r5 : Nat}
variable {y40 y41 y42 y43 y44 y45 y46 y47 y48 y49 y50 y51 y52 y53 y54 y55 y56 y57 y58 y59 : TypeId} {q40 q41 q42 q43 q44 q45 q46 q47 q48 q49 q50 q51 q52 q53 q54 q55 q56 q57 q58 q59 : String} {e40 e41 e42 e43 e44 e45 e46 e47 e48 e49 e50 e51 e52 e53 e54 e55 e56 e57 e58 e59 : Array Edge}
variable {us us1 us2 us3 us4 us5 us6 us7 us8 : Array TypeId} {r6 r7 r8 r9 r10 r11 r12 : Nat} {z1 z2 z3 : TypeId} {p1 p2 p3 : String} {j1 j2 j3 : Array Edge}
theorem lawAny_ofo {fn fM fA : FuncId} {func : Func} {flx : Int → Bool} {k : Nat} {fs : List Fld}
    (hfn : (Tryd.prog).funcs[fn]? = some func)
    (hbody : func.body = some (.seq (.region r0 #[⟨some 4, .assign (.const (.bool false)), y0, q0, e0, none⟩] false)
     (.seq (.seq (.region r1 #[⟨some 10, .move (.tmp 1), y1, q1, e1, none⟩, ⟨some 11, .call { callee := .builtin .len, args := #[.tmp 10], argTypes := #[22] }, y2, q2, e2, none⟩, ⟨some 12, .binOp .gtr 3 (.tmp 11) (.const (.int .i64 2147483647)) 3, y3, q3, e3, none⟩] false)
        (.cond (.tmp 12) (.seq (.region r2 #[⟨some 4, .assign (.const (.bool true)), y4, q4, e4, none⟩] false) .ret) .skip))
      (.seq (.region r3 #[⟨some 13, .call { callee := .value (.func fM), args := #[], argTypes := us1 }, y5, q5, e5, none⟩, ⟨some 5, .assign (.tmp 13), y6, q6, e6, none⟩] false)
      (.seq (.seq (.region r4 #[⟨some 14, .move (.tmp 5), y7, q7, e7, none⟩, ⟨some 15, .binOp .lss 3 (.tmp 14) (.const (.int .i64 0)) 3, y8, q8, e8, none⟩] false)
        (.cond (.tmp 15) (.seq (.region r5 #[⟨some 4, .assign (.const (.bool false)), y9, q9, e9, none⟩] false) .ret) .skip))
      (.seq (.seq (.region r6 #[⟨some 16, .move (.tmp 1), y10, q10, e10, none⟩, ⟨some 17, .call { callee := .builtin .len, args := #[.tmp 16], argTypes := #[22] }, y11, q11, e11, none⟩, ⟨some 18, .binOp .gtr 3 (.tmp 17) (.const (.int .i64 1000)) 3, y12, q12, e12, none⟩] false)
        (.cond (.tmp 18) (.seq (.region r7 #[⟨some 4, .assign (.const (.bool true)), y13, q13, e13, none⟩] false) .ret) .skip))
      (.seq (.region r8 #[⟨some 20, .move (.tmp 0), y14, q14, e14, none⟩, ⟨some 21, .move (.tmp 5), y15, q15, e15, none⟩, ⟨some 22, .call { callee := .value (.func 6), args := #[.tmp 20, .tmp 21], argTypes := us3 }, y16, q16, e16, none⟩, ⟨some 23, .move (.tmp 1), y17, q17, e17, none⟩, ⟨some 24, .call { callee := .value (.func fA), args := #[.tmp 22, .tmp 23], argTypes := us4 }, y18, q18, e18, none⟩,
          ⟨some 19, .move (.tmp 24), y19, q19, e19, none⟩, ⟨some 25, .extract (.tmp 19) 0, y20, q20, e20, none⟩, ⟨some 26, .extract (.tmp 19) 1, y21, q21, e21, none⟩, ⟨some 6, .assign (.tmp 25), y22, q22, e22, none⟩, ⟨some 7, .assign (.tmp 26), y23, q23, e23, none⟩] false)
      (.seq (.seq (.region r9 #[⟨some 27, .move (.tmp 7), y24, q24, e24, none⟩, ⟨some 28, .unOp .not 4 (.tmp 27), y25, q25, e25, none⟩] false)
        (.cond (.tmp 28) (.seq (.region r10 #[⟨some 4, .assign (.const (.bool true)), y26, q26, e26, none⟩] false) .ret) .skip))
      (.seq (.region r11 #[⟨some 30, .move (.tmp 0), y27, q27, e27, none⟩, ⟨some 31, .move (.tmp 5), y28, q28, e28, none⟩, ⟨some 32, .call { callee := .value (.func 6), args := #[.tmp 30, .tmp 31], argTypes := us5 }, y29, q29, e29, none⟩, ⟨some 33, .move (.tmp 6), y30, q30, e30, none⟩, ⟨some 34, .call { callee := .value (.func fA), args := #[.tmp 32, .tmp 33], argTypes := us6 }, y31, q31, e31, none⟩,
          ⟨some 29, .move (.tmp 34), y32, q32, e32, none⟩, ⟨some 35, .extract (.tmp 29) 0, y33, q33, e33, none⟩, ⟨some 36, .extract (.tmp 29) 1, y34, q34, e34, none⟩, ⟨some 8, .assign (.tmp 35), y35, q35, e35, none⟩, ⟨some 9, .assign (.tmp 36), y36, q36, e36, none⟩] false)
      (.seq (.region r12 #[⟨some 37, .move (.tmp 9), y37, q37, e37, none⟩, ⟨some 38, .move (.tmp 37), y38, q38, e38, none⟩, ⟨some 39, .move (.tmp 6), z1, p1, j1, some (1, true)⟩, ⟨some 40, .move (.tmp 8), z2, p2, j2, some (1, true)⟩,
          ⟨some 41, .call { callee := .value (.func 7), args := #[.tmp 39, .tmp 40], argTypes := us7 }, z3, p3, j3, some (1, true)⟩, ⟨some 42, .pick (.tmp 38) (.tmp 41) (.const (.bool false)), y39, q39, e39, none⟩, ⟨some 4, .assign (.tmp 42), y40, q40, e40, none⟩] false) .ret))))))))))
    (hres : func.results = #[.tmp 4]) (hNf : func.ntmps = 43) (eM : zaK Tryd.prog fM) (eA : zaK Tryd.prog fA)
    (hM : MaxIs fM k) (hA : AgCo fA flx k fs) (hk : k < 256) (hok : AnyLawO flx k fs)
    {n : Int} (hn : 0 ≤ n) (hn2 : n < 256) {w : World} {G : Nat → Prop} {oa : Option Addr} {bs : Bs} {cap : Nat} (hbs : zaq w G oa bs) (_hcap : bs.length ≤ cap) (_hlen : bs.length ≤ 1048576) (herr : ErrW w) :
    zaD Tryd.prog fn #[.int .u8 n, .slice oa bs.length cap] w fun v w' => v = .bool true ∧ Chg (fun _ => False) w w' := by
  refine zat hfn hbody hres hNf (by simp) ?_
  intro a hN hD ha
  have g0 : get a 0 = .int .u8 n := ha 0 _ rfl
  have g1 : get a 1 = .slice oa bs.length cap := ha 1 _ rfl
  obtain ⟨ver, hver⟩ : ∃ ver, ver = n % ((k : Int) + 1) := ⟨_, rfl⟩
  have hv0 : 0 ≤ ver := by rw [hver]; exact Int.emod_nonneg _ (by omega)
  have hv1 : ver ≤ k := by have := Int.emod_lt_of_pos n (show (0 : Int) < (k : Int) + 1 by omega); omega
  have hvc : ∀ w, zaD Tryd.prog 6 #[.int .u8 n, .int .i64 (k : Int)] w fun v w' => v = .int .i64 ver ∧ w' = w := fun w => by
    rw [hver]; exact version_c n k hn (by omega) (by omega) hn2 w
  clear hver
  refine wp_seq_k fun K hK => ?_; refine zai ?_; (repeat ((with_reducible refine zaw ?_ ?_ ?_); (· simp [evb, pvb, rnb, kb, hN, dyb, sdb] <;> omega); (· kernel_rfl); try simp only [evb, pvb, rnb, kb, hN, seval])); refine zah ?_; refine hK _ _ ?_; clear hK K
  refine wp_seq_k fun K hK => ?_; refine wp_seq_k fun K0 hK0 => ?_; refine zai ?_; (repeat ((with_reducible refine zaw ?_ ?_ ?_); (· simp [evb, pvb, rnb, kb, hN, g1, dyb, sdb] <;> omega); (· kernel_rfl); try simp only [evb, pvb, rnb, kb, hN, seval, g1]))
  refine zah ?_
  refine hK0 _ _ ?_; try clear hK0 K0
  refine wp_cond_false (by simp [evb, kb, hN, sdb]; omega) ?_
  refine wp_skip ?_
  refine hK _ _ ?_
  clear hK K
  refine wp_seq_k fun K hK => ?_; refine zai ?_
  refine zaH eM (by simp only [List.map_toArray, List.map_nil]; exact hM w) ?_
  rintro _ w1 ⟨rfl, hc1⟩
  (repeat ((with_reducible refine zaw ?_ ?_ ?_); (· simp [evb, pvb, rnb, kb, hN, dyb, sdb] <;> omega); (· kernel_rfl); try simp only [evb, pvb, rnb, kb, hN, seval])); refine zah ?_; refine hK _ _ ?_; clear hK K
  refine wp_seq_k fun K hK => ?_; refine wp_seq_k fun K0 hK0 => ?_; refine zai ?_; (repeat ((with_reducible refine zaw ?_ ?_ ?_); (· simp [evb, pvb, rnb, kb, hN, dyb, sdb] <;> omega); (· kernel_rfl); try simp only [evb, pvb, rnb, kb, hN, seval]))
  refine zah ?_
  refine hK0 _ _ ?_; try clear hK0 K0
  refine wp_cond_false (by simp [evb, kb, hN, sdb]) ?_
  refine wp_skip ?_
  refine hK _ _ ?_
  clear hK K
  refine wp_seq_k fun K hK => ?_; refine wp_seq_k fun K0 hK0 => ?_; refine zai ?_; (repeat ((with_reducible refine zaw ?_ ?_ ?_); (· simp [evb, pvb, rnb, kb, hN, g1, dyb, sdb] <;> omega); (· kernel_rfl); try simp only [evb, pvb, rnb, kb, hN, seval, g1]))
  refine zah ?_
  refine hK0 _ _ ?_; try clear hK0 K0
  by_cases h1000 : bs.length ≤ 1000
  case neg =>
    refine wp_cond_true (by simp [evb, kb, hN, sdb]; omega) ?_
    refine wp_seq_k fun K hK => ?_; refine zai ?_; (repeat ((with_reducible refine zaw ?_ ?_ ?_); (· simp [evb, pvb, rnb, kb, hN, dyb, sdb] <;> omega); (· kernel_rfl); try simp only [evb, pvb, rnb, kb, hN, seval])); refine zah ?_; refine hK _ _ ?_; clear hK K; refine wp_ret ⟨by simp [zaj, hD], ?_⟩; simp only [evb, kb, hN, seval]
    exact ⟨by simp, hc1⟩
  refine wp_cond_false (by simp [evb, kb, hN, sdb]; omega) ?_
  refine wp_skip ?_
  refine hK _ _ ?_
  clear hK K
  have hE1 := herr.chg hc1 (fun h => h)
  have hb1 : zaq w1 G oa bs := hbs.chg hc1 fun _ _ _ h => h
  have hlaw := fun s r h => hok ver bs s r hv0 hv1 (by omega) h
  refine wp_seq_k fun K hK => ?_; refine zai ?_; (repeat ((with_reducible refine zaw ?_ ?_ ?_); (· simp [evb, pvb, rnb, kb, hN, g0, dyb, sdb] <;> omega); (· kernel_rfl); try simp only [evb, pvb, rnb, kb, hN, seval, g0]))
  refine zaH (fun args w => Tryd.call6 args w) (by simp only [List.map_toArray, List.map_cons, List.map_nil, evb, kb, hN, seval]; exact hvc _) ?_
  rintro _ w1' ⟨rfl, e⟩
  replace e := e.symm
  subst e
  (repeat ((with_reducible refine zaw ?_ ?_ ?_); (· simp [evb, pvb, rnb, kb, hN, g1, dyb, sdb] <;> omega); (· kernel_rfl); try simp only [evb, pvb, rnb, kb, hN, seval, g1]))
  refine zaH eA (by simp only [List.map_toArray, List.map_cons, List.map_nil, evb, kb, hN, seval]; exact hA ver hv0 hv1 _ _ oa bs cap hb1 (by unfold RLIM; omega) hE1 (fun s r h => by
    obtain ⟨_, _, _, h3⟩ := hlaw s r h
    unfold LIM; omega)) ?_
  rintro v2 w2 ⟨hc2, hq⟩
  have hcw2 : Chg (fun _ => False) w w2 := hc1.trans hc2 fun _ _ h => h
  rcases hq with ⟨_, rfl⟩ | ⟨s, r, out, hdec, rfl, hown⟩
  · (repeat ((with_reducible refine zaw ?_ ?_ ?_); (· simp [evb, pvb, rnb, kb, hN, exV, exOK, dyb, sdb] <;> omega); (· kernel_rfl); try simp only [evb, pvb, rnb, kb, hN, seval, exV, exOK])); refine zah ?_; refine hK _ _ ?_; clear hK K
    refine wp_seq_k fun K hK => ?_; refine wp_seq_k fun K0 hK0 => ?_; refine zai ?_; (repeat ((with_reducible refine zaw ?_ ?_ ?_); (· simp [evb, pvb, rnb, kb, hN, dyb, sdb] <;> omega); (· kernel_rfl); try simp only [evb, pvb, rnb, kb, hN, seval]))
    refine zah ?_
    refine hK0 _ _ ?_; try clear hK0 K0
    refine wp_cond_true (by simp [evb, kb, hN, sdb]) ?_
    refine wp_seq_k fun K hK => ?_; refine zai ?_; (repeat ((with_reducible refine zaw ?_ ?_ ?_); (· simp [evb, pvb, rnb, kb, hN, dyb, sdb] <;> omega); (· kernel_rfl); try simp only [evb, pvb, rnb, kb, hN, seval])); refine zah ?_; refine hK _ _ ?_; clear hK K; refine wp_ret ⟨by simp [zaj, hD], ?_⟩; simp only [evb, kb, hN, seval]
    exact ⟨by simp, hcw2⟩
  obtain ⟨s', hd2, he2, hl2⟩ := hlaw s r hdec
  generalize zay (flx ver) ver fs s = en at hown hd2 he2 hl2
  obtain ⟨oa2, cap2, rfl, hcap2, hb2⟩ := hown.bytes
  have hE2 := hE1.chg hc2 (fun h => h)
  (repeat ((with_reducible refine zaw ?_ ?_ ?_); (· simp [evb, pvb, rnb, kb, hN, exV, exOK, dyb, sdb] <;> omega); (· kernel_rfl); try simp only [evb, pvb, rnb, kb, hN, seval, exV, exOK])); refine zah ?_; refine hK _ _ ?_; clear hK K
  refine wp_seq_k fun K hK => ?_; refine wp_seq_k fun K0 hK0 => ?_; refine zai ?_; (repeat ((with_reducible refine zaw ?_ ?_ ?_); (· simp [evb, pvb, rnb, kb, hN, dyb, sdb] <;> omega); (· kernel_rfl); try simp only [evb, pvb, rnb, kb, hN, seval]))
  refine zah ?_
  refine hK0 _ _ ?_; try clear hK0 K0
  refine wp_cond_false (by simp [evb, kb, hN, sdb]) ?_
  refine wp_skip ?_
  refine hK _ _ ?_
  clear hK K
  refine wp_seq_k fun K hK => ?_; refine zai ?_; (repeat ((with_reducible refine zaw ?_ ?_ ?_); (· simp [evb, pvb, rnb, kb, hN, g0, dyb, sdb] <;> omega); (· kernel_rfl); try simp only [evb, pvb, rnb, kb, hN, seval, g0]))
  refine zaH (fun args w => Tryd.call6 args w) (by simp only [List.map_toArray, List.map_cons, List.map_nil, evb, kb, hN, seval]; exact hvc _) ?_
  rintro _ w2' ⟨rfl, e⟩
  replace e := e.symm
  subst e
  (repeat ((with_reducible refine zaw ?_ ?_ ?_); (· simp [evb, pvb, rnb, kb, hN, dyb, sdb] <;> omega); (· kernel_rfl); try simp only [evb, pvb, rnb, kb, hN, seval]))
  refine zaH eA (by simp only [List.map_toArray, List.map_cons, List.map_nil, evb, kb, hN, seval]; exact hA ver hv0 hv1 _ _ oa2 en cap2 hb2 (by unfold RLIM; omega) hE2 (fun s2 r2 h => by
    rw [hd2] at h
    simp only [Option.some.injEq, Prod.mk.injEq] at h
    obtain ⟨rfl, _⟩ := h
    rw [he2]; unfold LIM; omega)) ?_
  rintro v3 w3 ⟨hc3, hq⟩
  rcases hq with ⟨h, _⟩ | ⟨s2, r2, out2, h, rfl, hown3⟩
  · rw [hd2] at h; cases h
  rw [hd2] at h
  simp only [Option.some.injEq, Prod.mk.injEq] at h
  obtain ⟨rfl, rfl⟩ := h
  rw [he2] at hown3
  obtain ⟨oa3, cap3, rfl, _, hb3⟩ := hown3.bytes
  (repeat ((with_reducible refine zaw ?_ ?_ ?_); (· simp [evb, pvb, rnb, kb, hN, exV, exOK, dyb, sdb] <;> omega); (· kernel_rfl); try simp only [evb, pvb, rnb, kb, hN, seval, exV, exOK])); refine zah ?_; refine hK _ _ ?_; clear hK K
  refine wp_seq_k fun K hK => ?_; refine zai ?_; (repeat (first | ((with_reducible refine zaw ?_ ?_ ?_); (· simp [evb, pvb, rnb, kb, hN, seval, dyb, sdb] <;> omega); (· kernel_rfl); try simp only [evb, pvb, rnb, kb, hN, seval]) | ((with_reducible apply wl_gyesB); (· exact rfl); (· exact rfl); (· simp [evb, pvb, rnb, kb, hN, seval]; done); try simp only [evb, pvb, rnb, kb, hN, seval]) | ((with_reducible apply wl_gnoB); (· exact rfl); (· exact rfl); (· simp [evb, pvb, rnb, kb, hN, seval]; done); try simp only [evb, pvb, rnb, kb, hN, seval]) | ((with_reducible apply wl_gnoU); (· exact rfl); (· exact rfl); (· simp [evb, pvb, rnb, kb, hN, seval]; done); try simp only [evb, pvb, rnb, kb, hN, seval])))
  refine zaH (fun args w => Tryd.call7 args w) (by simp only [List.map_toArray, List.map_cons, List.map_nil, evb, kb, hN, seval]; exact Same_c _ _ (hb2.chg hc3 fun _ _ _ h => h) hb3 (by unfold LIM; omega)) ?_
  rintro _ w4 ⟨rfl, hc4⟩
  (repeat ((with_reducible refine zaw ?_ ?_ ?_); (· simp [evb, pvb, rnb, kb, hN, pickV, dyb, sdb] <;> omega); (· kernel_rfl); try simp only [evb, pvb, rnb, kb, hN, seval, pickV])); refine zah ?_; refine hK _ _ ?_; clear hK K; refine wp_ret ⟨by simp [zaj, hD], ?_⟩; simp only [evb, kb, hN, seval]
  exact ⟨by simp, (hcw2.trans hc3 fun _ _ h => h).trans hc4 fun _ _ h => h⟩
end
end Go.Proofs.YtojpodeljpfgaabDoor

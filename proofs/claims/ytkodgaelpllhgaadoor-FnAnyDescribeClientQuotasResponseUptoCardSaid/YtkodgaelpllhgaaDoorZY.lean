import Derived.Test.YtkodgaelpllhgaaDoorZM
import Derived.Test.YtkodgaelpllhgaaDoorZS
import Derived.Test.YtkodgaelpllhgaaDoorZL
/-
What the proofs of the laws rest on, part ZY.
-/
namespace Go.Proofs.YtkodgaelpllhgaaDoor
set_option linter.all false
open Go.RowKit
set_option maxRecDepth 10000
set_option maxHeartbeats 2000000
def anyB (flx : Int → Bool) (k : Nat) (fs : List Fld) : Bool := dfBL fs && (List.range (k + 1)).all fun v => goodL (flx v) v fs
structure AnyOK (flx : Int → Bool) (k : Nat) (fs : List Fld) : Prop where
  df : dfBL fs = true
  good : ∀ ver : Int, 0 ≤ ver → ver ≤ k → goodL (flx ver) ver fs = true
theorem anyB_out {flx : Int → Bool} {k : Nat} {fs : List Fld} (h : anyB flx k fs = true) : AnyOK flx k fs := by
  unfold anyB at h
  simp only [Bool.and_eq_true, List.all_eq_true, List.mem_range] at h
  refine ⟨h.1, fun ver h0 hk => ?_⟩
  have := h.2 ver.toNat (by omega)
  rwa [Int.toNat_of_nonneg h0] at this
section
variable {y0 y1 y2 y3 y4 y5 y6 y7 y8 y9 y10 y11 y12 y13 y14 y15 y16 y17 y18 y19 y20 y21 y22 y23 y24 y25 y26 y27 y28 y29 y30 y31 y32 y33 y34 y35 y36 y37 y38 y39 : TypeId} {q0 q1 q2 q3 q4 q5 q6 q7 q8 q9 q10 q11 q12 q13 q14 q15 q16 q17 q18 q19 q20 q21 q22 q23 q24 q25 q26 q27 q28 q29 q30 q31 q32 q33 q34 q35 q36 q37 q38 q39 : String} {e0 e1 e2 e3 e4 e5 e6 e7 e8 e9 e10 e11 e12 e13 e14 e15 e16 e17 e18 e19 e20 e21 e22 e23 e24 e25 e26 e27 e28 e29 e30 e31 e32 e33 e34 e35 e36 e37 e38 e39 : Array Edge} {r0 r1 r2 r3 r4 r5 : Nat}
variable {y40 y41 y42 y43 y44 y45 y46 y47 y48 y49 y50 y51 y52 y53 y54 y55 y56 y57 y58 y59 : TypeId} {q40 q41 q42 q43 q44 q45 q46 q47 q48 q49 q50 q51 q52 q53 q54 q55 q56 q57 q58 q59 : String} {e40 e41 e42 e43 e44 e45 e46 e47 e48 e49 e50 e51 e52 e53 e54 e55 e56 e57 e58 e59 : Array Edge}
variable {us us1 us2 us3 us4 us5 us6 us7 us8 : Array TypeId} {r6 r7 r8 r9 r10 r11 r12 : Nat} {z1 z2 z3 : TypeId} {p1 p2 p3 : String} {j1 j2 j3 : Array Edge}
theorem lawAny_of {fn fM fA : FuncId} {func : Func} {flx : Int → Bool} {k : Nat} {fs : List Fld}
    (hfn : (Tryd.prog).funcs[fn]? = some func)
    (hbody : func.body = some (.seq (.region r0 #[⟨some 4, .assign (.const (.bool false)), y0, q0, e0, none⟩] false)
     (.seq (.seq (.region r1 #[⟨some 10, .move (.tmp 1), y1, q1, e1, none⟩, ⟨some 11, .call { callee := .builtin .len, args := #[.tmp 10], argTypes := #[22] }, y2, q2, e2, none⟩, ⟨some 12, .binOp .gtr 3 (.tmp 11) (.const (.int .i64 2147483647)) 3, y3, q3, e3, none⟩] false)
        (.cond (.tmp 12) (.seq (.region r2 #[⟨some 4, .assign (.const (.bool true)), y4, q4, e4, none⟩] false) .ret) .skip))
      (.seq (.region r3 #[⟨some 13, .call { callee := .value (.func fM), args := #[], argTypes := us1 }, y5, q5, e5, none⟩, ⟨some 5, .assign (.tmp 13), y6, q6, e6, none⟩] false)
      (.seq (.seq (.region r4 #[⟨some 14, .move (.tmp 5), y7, q7, e7, none⟩, ⟨some 15, .binOp .lss 3 (.tmp 14) (.const (.int .i64 0)) 3, y8, q8, e8, none⟩] false)
        (.cond (.tmp 15) (.seq (.region r5 #[⟨some 4, .assign (.const (.bool false)), y9, q9, e9, none⟩] false) .ret) .skip))
      (.seq (.seq (.region r6 #[⟨some 16, .move (.tmp 1), y10, q10, e10, none⟩, ⟨some 17, .call { callee := .builtin .len, args := #[.tmp 16], argTypes := #[22] }, y11, q11, e11, none⟩, ⟨some 18, .binOp .gtr 3 (.tmp 17) (.const (.int .i64 1000)) 3, y12, q12, e12, none⟩] false)
        (.cond (.tmp 18) (.seq (.region r7 #[⟨some 4, .assign (.const (.bool true)), y13, q13, e13, none⟩] false) .ret) .skip))
      (.seq (.region r8 #[⟨some 20, .move (.tmp 0), y14, q14, e14, none⟩, ⟨some 21, .move (.tmp 5), y15, q15, e15, none⟩, ⟨some 22, .call { callee := .value (.func 7), args := #[.tmp 20, .tmp 21], argTypes := us3 }, y16, q16, e16, none⟩, ⟨some 23, .move (.tmp 1), y17, q17, e17, none⟩, ⟨some 24, .call { callee := .value (.func fA), args := #[.tmp 22, .tmp 23], argTypes := us4 }, y18, q18, e18, none⟩,
          ⟨some 19, .move (.tmp 24), y19, q19, e19, none⟩, ⟨some 25, .extract (.tmp 19) 0, y20, q20, e20, none⟩, ⟨some 26, .extract (.tmp 19) 1, y21, q21, e21, none⟩, ⟨some 6, .assign (.tmp 25), y22, q22, e22, none⟩, ⟨some 7, .assign (.tmp 26), y23, q23, e23, none⟩] false)
      (.seq (.seq (.region r9 #[⟨some 27, .move (.tmp 7), y24, q24, e24, none⟩, ⟨some 28, .unOp .not 4 (.tmp 27), y25, q25, e25, none⟩] false)
        (.cond (.tmp 28) (.seq (.region r10 #[⟨some 4, .assign (.const (.bool true)), y26, q26, e26, none⟩] false) .ret) .skip))
      (.seq (.region r11 #[⟨some 30, .move (.tmp 0), y27, q27, e27, none⟩, ⟨some 31, .move (.tmp 5), y28, q28, e28, none⟩, ⟨some 32, .call { callee := .value (.func 7), args := #[.tmp 30, .tmp 31], argTypes := us5 }, y29, q29, e29, none⟩, ⟨some 33, .move (.tmp 6), y30, q30, e30, none⟩, ⟨some 34, .call { callee := .value (.func fA), args := #[.tmp 32, .tmp 33], argTypes := us6 }, y31, q31, e31, none⟩,
          ⟨some 29, .move (.tmp 34), y32, q32, e32, none⟩, ⟨some 35, .extract (.tmp 29) 0, y33, q33, e33, none⟩, ⟨some 36, .extract (.tmp 29) 1, y34, q34, e34, none⟩, ⟨some 8, .assign (.tmp 35), y35, q35, e35, none⟩, ⟨some 9, .assign (.tmp 36), y36, q36, e36, none⟩] false)
      (.seq (.region r12 #[⟨some 37, .move (.tmp 9), y37, q37, e37, none⟩, ⟨some 38, .move (.tmp 37), y38, q38, e38, none⟩, ⟨some 39, .move (.tmp 6), z1, p1, j1, some (1, true)⟩, ⟨some 40, .move (.tmp 8), z2, p2, j2, some (1, true)⟩,
          ⟨some 41, .call { callee := .value (.func 8), args := #[.tmp 39, .tmp 40], argTypes := us7 }, z3, p3, j3, some (1, true)⟩, ⟨some 42, .pick (.tmp 38) (.tmp 41) (.const (.bool false)), y39, q39, e39, none⟩, ⟨some 4, .assign (.tmp 42), y40, q40, e40, none⟩] false) .ret))))))))))
    (hres : func.results = #[.tmp 4]) (hNf : func.ntmps = 43) (eM : zaC Tryd.prog fM) (eA : zaC Tryd.prog fA)
    (hM : MaxIs fM k) (hA : AgC fA flx k fs) (hk : k < 256) (hok : AnyOK flx k fs)
    {n : Int} (hn : 0 ≤ n) (hn2 : n < 256) {w : World} {G : Nat → Prop} {oa : Option Addr} {bs : Bs} {cap : Nat} (hbs : zaq w G oa bs) (_hcap : bs.length ≤ cap) (_hlen : bs.length ≤ 1048576) (herr : ErrW w) :
    zaz Tryd.prog fn #[.int .u8 n, .slice oa bs.length cap] w fun v w' => v = .bool true ∧ Chg (fun _ => False) w w' := by
  refine zap hfn hbody hres hNf (by simp) ?_
  intro a hN hD ha
  have g0 : get a 0 = .int .u8 n := ha 0 _ rfl
  have g1 : get a 1 = .slice oa bs.length cap := ha 1 _ rfl
  obtain ⟨ver, hver⟩ : ∃ ver, ver = n % ((k : Int) + 1) := ⟨_, rfl⟩
  have hv0 : 0 ≤ ver := by rw [hver]; exact Int.emod_nonneg _ (by omega)
  have hv1 : ver ≤ k := by have := Int.emod_lt_of_pos n (show (0 : Int) < (k : Int) + 1 by omega); omega
  have hvc : ∀ w, zaz Tryd.prog 7 #[.int .u8 n, .int .i64 (k : Int)] w fun v w' => v = .int .i64 ver ∧ w' = w := fun w => by
    rw [hver]; exact version_c n k hn (by omega) (by omega) hn2 w
  clear hver
  refine wp_seq_k fun K hK => ?_; refine zah ?_; (repeat ((with_reducible refine zav ?_ ?_ ?_); (· simp [evb, pvb, rnb, kb, hN, dyb, sdb] <;> omega); (· kernel_rfl); try simp only [evb, pvb, rnb, kb, hN, seval])); refine zag ?_; refine hK _ _ ?_; clear hK K
  refine wp_seq_k fun K hK => ?_; refine wp_seq_k fun K0 hK0 => ?_; refine zah ?_; (repeat ((with_reducible refine zav ?_ ?_ ?_); (· simp [evb, pvb, rnb, kb, hN, g1, dyb, sdb] <;> omega); (· kernel_rfl); try simp only [evb, pvb, rnb, kb, hN, seval, g1]))
  refine zag ?_
  refine hK0 _ _ ?_; try clear hK0 K0
  refine wp_cond_false (by simp [evb, kb, hN, sdb]; omega) ?_
  refine wp_skip ?_
  refine hK _ _ ?_
  clear hK K
  refine wp_seq_k fun K hK => ?_; refine zah ?_
  refine zaF eM (by simp only [List.map_toArray, List.map_nil]; exact hM w) ?_
  rintro _ w1 ⟨rfl, hc1⟩
  (repeat ((with_reducible refine zav ?_ ?_ ?_); (· simp [evb, pvb, rnb, kb, hN, dyb, sdb] <;> omega); (· kernel_rfl); try simp only [evb, pvb, rnb, kb, hN, seval])); refine zag ?_; refine hK _ _ ?_; clear hK K
  refine wp_seq_k fun K hK => ?_; refine wp_seq_k fun K0 hK0 => ?_; refine zah ?_; (repeat ((with_reducible refine zav ?_ ?_ ?_); (· simp [evb, pvb, rnb, kb, hN, dyb, sdb] <;> omega); (· kernel_rfl); try simp only [evb, pvb, rnb, kb, hN, seval]))
  refine zag ?_
  refine hK0 _ _ ?_; try clear hK0 K0
  refine wp_cond_false (by simp [evb, kb, hN, sdb]) ?_
  refine wp_skip ?_
  refine hK _ _ ?_
  clear hK K
  refine wp_seq_k fun K hK => ?_; refine wp_seq_k fun K0 hK0 => ?_; refine zah ?_; (repeat ((with_reducible refine zav ?_ ?_ ?_); (· simp [evb, pvb, rnb, kb, hN, g1, dyb, sdb] <;> omega); (· kernel_rfl); try simp only [evb, pvb, rnb, kb, hN, seval, g1]))
  refine zag ?_
  refine hK0 _ _ ?_; try clear hK0 K0
  by_cases h1000 : bs.length ≤ 1000
  case neg =>
    refine wp_cond_true (by simp [evb, kb, hN, sdb]; omega) ?_
    refine wp_seq_k fun K hK => ?_; refine zah ?_; (repeat ((with_reducible refine zav ?_ ?_ ?_); (· simp [evb, pvb, rnb, kb, hN, dyb, sdb] <;> omega); (· kernel_rfl); try simp only [evb, pvb, rnb, kb, hN, seval])); refine zag ?_; refine hK _ _ ?_; clear hK K; refine wp_ret ⟨by simp [zaj, hD], ?_⟩; simp only [evb, kb, hN, seval]
    exact ⟨by simp, hc1⟩
  refine wp_cond_false (by simp [evb, kb, hN, sdb]; omega) ?_
  refine wp_skip ?_
  refine hK _ _ ?_
  clear hK K
  have hE1 := herr.chg hc1 (fun h => h)
  have hb1 : zaq w1 G oa bs := hbs.chg hc1 fun _ _ _ h => h
  have hlaw := fun s r h => any_law (s := s) (r := r) (hok.good ver hv0 hv1) hok.df (by omega : bs.length ≤ 32767) h
  refine wp_seq_k fun K hK => ?_; refine zah ?_; (repeat ((with_reducible refine zav ?_ ?_ ?_); (· simp [evb, pvb, rnb, kb, hN, g0, dyb, sdb] <;> omega); (· kernel_rfl); try simp only [evb, pvb, rnb, kb, hN, seval, g0]))
  refine zaF (fun args w => Tryd.call7 args w) (by simp only [List.map_toArray, List.map_cons, List.map_nil, evb, kb, hN, seval]; exact hvc _) ?_
  rintro _ w1' ⟨rfl, e⟩
  replace e := e.symm
  subst e
  (repeat ((with_reducible refine zav ?_ ?_ ?_); (· simp [evb, pvb, rnb, kb, hN, g1, dyb, sdb] <;> omega); (· kernel_rfl); try simp only [evb, pvb, rnb, kb, hN, seval, g1]))
  refine zaF eA (by simp only [List.map_toArray, List.map_cons, List.map_nil, evb, kb, hN, seval]; exact hA ver hv0 hv1 _ _ oa bs cap hb1 (by unfold RLIM; omega) hE1 (fun s r h => by
    obtain ⟨_, _, _, h3⟩ := hlaw s r h
    unfold LIM; omega)) ?_
  rintro v2 w2 ⟨hc2, hq⟩
  have hcw2 : Chg (fun _ => False) w w2 := hc1.trans hc2 fun _ _ h => h
  rcases hq with ⟨_, rfl⟩ | ⟨s, r, out, hdec, rfl, hown⟩
  · (repeat ((with_reducible refine zav ?_ ?_ ?_); (· simp [evb, pvb, rnb, kb, hN, exV, exOK, dyb, sdb] <;> omega); (· kernel_rfl); try simp only [evb, pvb, rnb, kb, hN, seval, exV, exOK])); refine zag ?_; refine hK _ _ ?_; clear hK K
    refine wp_seq_k fun K hK => ?_; refine wp_seq_k fun K0 hK0 => ?_; refine zah ?_; (repeat ((with_reducible refine zav ?_ ?_ ?_); (· simp [evb, pvb, rnb, kb, hN, dyb, sdb] <;> omega); (· kernel_rfl); try simp only [evb, pvb, rnb, kb, hN, seval]))
    refine zag ?_
    refine hK0 _ _ ?_; try clear hK0 K0
    refine wp_cond_true (by simp [evb, kb, hN, sdb]) ?_
    refine wp_seq_k fun K hK => ?_; refine zah ?_; (repeat ((with_reducible refine zav ?_ ?_ ?_); (· simp [evb, pvb, rnb, kb, hN, dyb, sdb] <;> omega); (· kernel_rfl); try simp only [evb, pvb, rnb, kb, hN, seval])); refine zag ?_; refine hK _ _ ?_; clear hK K; refine wp_ret ⟨by simp [zaj, hD], ?_⟩; simp only [evb, kb, hN, seval]
    exact ⟨by simp, hcw2⟩
  obtain ⟨s', hd2, he2, hl2⟩ := hlaw s r hdec
  generalize encPart (flx ver) ver fs s = en at hown hd2 he2 hl2
  obtain ⟨oa2, cap2, rfl, hcap2, hb2⟩ := hown.bytes
  have hE2 := hE1.chg hc2 (fun h => h)
  (repeat ((with_reducible refine zav ?_ ?_ ?_); (· simp [evb, pvb, rnb, kb, hN, exV, exOK, dyb, sdb] <;> omega); (· kernel_rfl); try simp only [evb, pvb, rnb, kb, hN, seval, exV, exOK])); refine zag ?_; refine hK _ _ ?_; clear hK K
  refine wp_seq_k fun K hK => ?_; refine wp_seq_k fun K0 hK0 => ?_; refine zah ?_; (repeat ((with_reducible refine zav ?_ ?_ ?_); (· simp [evb, pvb, rnb, kb, hN, dyb, sdb] <;> omega); (· kernel_rfl); try simp only [evb, pvb, rnb, kb, hN, seval]))
  refine zag ?_
  refine hK0 _ _ ?_; try clear hK0 K0
  refine wp_cond_false (by simp [evb, kb, hN, sdb]) ?_
  refine wp_skip ?_
  refine hK _ _ ?_
  clear hK K
  refine wp_seq_k fun K hK => ?_; refine zah ?_; (repeat ((with_reducible refine zav ?_ ?_ ?_); (· simp [evb, pvb, rnb, kb, hN, g0, dyb, sdb] <;> omega); (· kernel_rfl); try simp only [evb, pvb, rnb, kb, hN, seval, g0]))
  refine zaF (fun args w => Tryd.call7 args w) (by simp only [List.map_toArray, List.map_cons, List.map_nil, evb, kb, hN, seval]; exact hvc _) ?_
  rintro _ w2' ⟨rfl, e⟩
  replace e := e.symm
  subst e
  (repeat ((with_reducible refine zav ?_ ?_ ?_); (· simp [evb, pvb, rnb, kb, hN, dyb, sdb] <;> omega); (· kernel_rfl); try simp only [evb, pvb, rnb, kb, hN, seval]))
  refine zaF eA (by simp only [List.map_toArray, List.map_cons, List.map_nil, evb, kb, hN, seval]; exact hA ver hv0 hv1 _ _ oa2 en cap2 hb2 (by unfold RLIM; omega) hE2 (fun s2 r2 h => by
    rw [hd2] at h
    simp only [Option.some.injEq, Prod.mk.injEq] at h
    obtain ⟨rfl, _⟩ := h
    rw [he2]; unfold LIM; omega)) ?_
  rintro v3 w3 ⟨hc3, hq⟩
  rcases hq with ⟨h, _⟩ | ⟨s2, r2, out2, h, rfl, hown3⟩
  · rw [hd2] at h; cases h
  rw [hd2] at h
  simp only [Option.some.injEq, Prod.mk.injEq] at h
  obtain ⟨rfl, rfl⟩ := h
  rw [he2] at hown3
  obtain ⟨oa3, cap3, rfl, _, hb3⟩ := hown3.bytes
  (repeat ((with_reducible refine zav ?_ ?_ ?_); (· simp [evb, pvb, rnb, kb, hN, exV, exOK, dyb, sdb] <;> omega); (· kernel_rfl); try simp only [evb, pvb, rnb, kb, hN, seval, exV, exOK])); refine zag ?_; refine hK _ _ ?_; clear hK K
  refine wp_seq_k fun K hK => ?_; refine zah ?_; (repeat (first | ((with_reducible refine zav ?_ ?_ ?_); (· simp [evb, pvb, rnb, kb, hN, seval, dyb, sdb] <;> omega); (· kernel_rfl); try simp only [evb, pvb, rnb, kb, hN, seval]) | ((with_reducible apply wl_gyesB); (· exact rfl); (· exact rfl); (· simp [evb, pvb, rnb, kb, hN, seval]; done); try simp only [evb, pvb, rnb, kb, hN, seval]) | ((with_reducible apply wl_gnoB); (· exact rfl); (· exact rfl); (· simp [evb, pvb, rnb, kb, hN, seval]; done); try simp only [evb, pvb, rnb, kb, hN, seval]) | ((with_reducible apply wl_gnoU); (· exact rfl); (· exact rfl); (· simp [evb, pvb, rnb, kb, hN, seval]; done); try simp only [evb, pvb, rnb, kb, hN, seval])))
  refine zaF (fun args w => Tryd.call8 args w) (by simp only [List.map_toArray, List.map_cons, List.map_nil, evb, kb, hN, seval]; exact Same_c _ _ (hb2.chg hc3 fun _ _ _ h => h) hb3 (by unfold LIM; omega)) ?_
  rintro _ w4 ⟨rfl, hc4⟩
  (repeat ((with_reducible refine zav ?_ ?_ ?_); (· simp [evb, pvb, rnb, kb, hN, pickV, dyb, sdb] <;> omega); (· kernel_rfl); try simp only [evb, pvb, rnb, kb, hN, seval, pickV])); refine zag ?_; refine hK _ _ ?_; clear hK K; refine wp_ret ⟨by simp [zaj, hD], ?_⟩; simp only [evb, kb, hN, seval]
  exact ⟨by simp, (hcw2.trans hc3 fun _ _ h => h).trans hc4 fun _ _ h => h⟩
end
end Go.Proofs.YtkodgaelpllhgaaDoor

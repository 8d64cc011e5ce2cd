import Derived.Test.YtnjjfpgpookjlaaGreatDoorZN
import Derived.Test.YtnjjfpgpookjlaaGreatDoorZL
/-
What the proofs of the laws rest on, part ZX.
-/
namespace Go.Proofs.YtnjjfpgpookjlaaGreatDoor
set_option linter.all false
open Go.RowKit
set_option maxRecDepth 10000
set_option maxHeartbeats 2000000
section
variable {P : Program} {ops : Array Oper} {S : World → Prop} {Q : Act → World → Prop} {a : Act} {w w0 : World} {r : List (Bool × Nat)} {d : Option Nat} {ty : TypeId} {pos : String} {af : Array Edge} {i : Nat}
theorem ws_p {o : Op} {X : Nat → Prop} (hS : ∀ w, S w → Chg X w0 w) (hi : ops[i]? = some ⟨d, o, ty, pos, af, none⟩) (hx : RdX X a.eval o) (hd : dyn w0 a.eval o = true) (hc : opB P o = true) (h : zaM P ops S Q r (a.put d (pv P w0 a.eval o)) w) :
  zaM P ops S Q ((true, i) :: r) a w := zby _ hi (fun w' hw => wf_run hx.out hd hc w' (hS w' hw)) h
end
section
variable {y0 y1 y2 y3 y4 y5 y6 y7 y8 y9 y10 y11 y12 y13 y14 y15 y16 y17 y18 y19 y20 y21 y22 y23 y24 y25 y26 y27 y28 y29 y30 y31 y32 y33 y34 y35 y36 y37 y38 y39 : TypeId} {q0 q1 q2 q3 q4 q5 q6 q7 q8 q9 q10 q11 q12 q13 q14 q15 q16 q17 q18 q19 q20 q21 q22 q23 q24 q25 q26 q27 q28 q29 q30 q31 q32 q33 q34 q35 q36 q37 q38 q39 : String} {e0 e1 e2 e3 e4 e5 e6 e7 e8 e9 e10 e11 e12 e13 e14 e15 e16 e17 e18 e19 e20 e21 e22 e23 e24 e25 e26 e27 e28 e29 e30 e31 e32 e33 e34 e35 e36 e37 e38 e39 : Array Edge} {r0 r1 r2 r3 r4 r5 : Nat}
variable {y40 y41 y42 y43 y44 y45 y46 y47 y48 y49 y50 y51 y52 y53 y54 y55 y56 y57 y58 y59 : TypeId} {q40 q41 q42 q43 q44 q45 q46 q47 q48 q49 q50 q51 q52 q53 q54 q55 q56 q57 q58 q59 : String} {e40 e41 e42 e43 e44 e45 e46 e47 e48 e49 e50 e51 e52 e53 e54 e55 e56 e57 e58 e59 : Array Edge}
variable {us us1 us2 us3 us4 us5 us6 us7 us8 us9 : Array TypeId} {r6 r7 r8 r9 r10 r11 : Nat} {z1 z2 z3 : TypeId} {p1 p2 p3 : String} {j1 j2 j3 : Array Edge}
theorem lawCut_of {fn fM fL fA : FuncId} {func : Func} {flx : Int → Bool} {c : Int} {k : Nat} {fs : List Fld} {L6 L10 : List Oper}
  (hfn : (Tryz.prog).funcs[fn]? = some func)
  (hbody : func.body = some (.seq (.region r0 #[⟨some 4, .box 26 (.tmp 1), y0, q0, e0, none⟩, ⟨some 6, .assign (.const (.bool false)), y1, q1, e1, none⟩] false)
   (.seq (.seq (.region r1 #[⟨some 13, .load 26 (.tmp 4), y2, q2, e2, none⟩, ⟨some 14, .call { callee := .value (.func 5), args := #[.tmp 13], argTypes := us }, y3, q3, e3, none⟩, ⟨some 15, .unOp .not 4 (.tmp 14), y4, q4, e4, none⟩] false)
    (.cond (.tmp 15) (.seq (.region r2 #[⟨some 6, .assign (.const (.bool true)), y5, q5, e5, none⟩] false) .ret) .skip))
   (.seq (.region r3 #[⟨some 16, .call { callee := .value (.func fM), args := #[], argTypes := us1 }, y6, q6, e6, none⟩, ⟨some 7, .assign (.tmp 16), y7, q7, e7, none⟩] false)
   (.seq (.seq (.region r4 #[⟨some 17, .move (.tmp 7), y8, q8, e8, none⟩, ⟨some 18, .binOp .lss 3 (.tmp 17) (.const (.int .i64 0)) 3, y9, q9, e9, none⟩] false)
    (.cond (.tmp 18) (.seq (.region r5 #[⟨some 6, .assign (.const (.bool false)), y10, q10, e10, none⟩] false) .ret) .skip))
   (.seq (.region r6 L6.toArray true)
   (.seq (.region r7 #[⟨some 26, .move (.tmp 0), y11, q11, e11, none⟩, ⟨some 27, .move (.tmp 7), y12, q12, e12, none⟩, ⟨some 28, .call { callee := .value (.func 9), args := #[.tmp 26, .tmp 27], argTypes := us5 }, y13, q13, e13, none⟩, ⟨some 29, .move (.tmp 8), y14, q14, e14, none⟩, ⟨some 30, .call { callee := .value (.func fA), args := #[.tmp 28, .tmp 29], argTypes := us6 }, y15, q15, e15, none⟩,
     ⟨some 25, .move (.tmp 30), y16, q16, e16, none⟩, ⟨some 31, .extract (.tmp 25) 0, y17, q17, e17, none⟩, ⟨some 32, .extract (.tmp 25) 1, y18, q18, e18, none⟩, ⟨some 9, .assign (.tmp 31), y19, q19, e19, none⟩, ⟨some 10, .assign (.tmp 32), y20, q20, e20, none⟩] false)
   (.seq (.seq (.region r8 #[⟨some 33, .move (.tmp 8), y21, q21, e21, none⟩, ⟨some 34, .call { callee := .builtin .len, args := #[.tmp 33], argTypes := #[22] }, y22, q22, e22, none⟩, ⟨some 35, .binOp .eql 3 (.tmp 34) (.const (.int .i64 0)) 3, y23, q23, e23, none⟩] false)
    (.cond (.tmp 35) (.seq (.region r9 #[⟨some 36, .move (.tmp 10), y24, q24, e24, none⟩, ⟨some 6, .assign (.tmp 36), y25, q25, e25, none⟩] false) .ret) .skip))
   (.seq (.region r10 L10.toArray true)
   (.seq (.region r11 #[⟨some 51, .move (.tmp 10), y26, q26, e26, none⟩, ⟨some 52, .move (.tmp 51), y27, q27, e27, none⟩, ⟨some 53, .move (.tmp 12), z1, p1, j1, some (1, true)⟩, ⟨some 54, .unOp .not 4 (.tmp 53), z2, p2, j2, some (1, true)⟩,
     ⟨some 55, .pick (.tmp 52) (.tmp 54) (.const (.bool false)), y28, q28, e28, none⟩, ⟨some 6, .assign (.tmp 55), y29, q29, e29, none⟩] false) .ret))))))))))
  (hL6 : L6 = [⟨some 19, .call { callee := .value (.func fL), args := #[], argTypes := us2 }, y30, q30, e30, none⟩, ⟨some 20, .move (.tmp 0), y31, q31, e31, none⟩, ⟨some 21, .move (.tmp 7), y32, q32, e32, none⟩, ⟨some 22, .call { callee := .value (.func 9), args := #[.tmp 20, .tmp 21], argTypes := us3 }, y33, q33, e33, none⟩, ⟨some 23, .load 26 (.tmp 4), y34, q34, e34, none⟩,
     ⟨some 24, .call { callee := .value (.func 7), args := #[.tmp 19, .tmp 22, .tmp 23], argTypes := us4 }, y35, q35, e35, none⟩, ⟨some 8, .assign (.tmp 24), y36, q36, e36, none⟩])
  (hS6 : (decide (7 ≤ L6.length) && schedB .any L6.toArray [(true, 1), (true, 2), (true, 4), (false, 0), (false, 3), (false, 5), (true, 6)] (Array.replicate L6.length false)) = true)
  (hL10 : L10 = [⟨some 38, .move (.tmp 0), y37, q37, e37, none⟩, ⟨some 39, .move (.tmp 7), y38, q38, e38, none⟩, ⟨some 40, .call { callee := .value (.func 9), args := #[.tmp 38, .tmp 39], argTypes := us7 }, y39, q39, e39, none⟩, ⟨some 41, .move (.tmp 8), y40, q40, e40, none⟩, ⟨some 42, .move (.tmp 2), y41, q41, e41, none⟩, ⟨some 43, .convert 39 3 (.tmp 42), y42, q42, e42, none⟩, ⟨some 44, .move (.tmp 8), y43, q43, e43, none⟩,
     ⟨some 45, .call { callee := .builtin .len, args := #[.tmp 44], argTypes := #[22] }, y44, q44, e44, none⟩, ⟨some 46, .binOp .rem 3 (.tmp 43) (.tmp 45) 3, y45, q45, e45, none⟩, ⟨some 47, .slice 22 (.tmp 41) none (some (.tmp 46)) none, y46, q46, e46, none⟩, ⟨some 48, .call { callee := .value (.func fA), args := #[.tmp 40, .tmp 47], argTypes := us8 }, y47, q47, e47, none⟩,
     ⟨some 37, .move (.tmp 48), y48, q48, e48, none⟩, ⟨some 49, .extract (.tmp 37) 0, y49, q49, e49, none⟩, ⟨some 50, .extract (.tmp 37) 1, y50, q50, e50, none⟩, ⟨some 11, .assign (.tmp 49), y51, q51, e51, none⟩, ⟨some 12, .assign (.tmp 50), y52, q52, e52, none⟩])
  (hS10 : (decide (16 ≤ L10.length) && schedB .any L10.toArray [(true, 0), (true, 1), (true, 3), (true, 4), (true, 5), (true, 6), (true, 7), (true, 8), (true, 9), (false, 2), (false, 10), (true, 11), (true, 12), (true, 13), (true, 14), (true, 15)] (Array.replicate L10.length false)) = true)
  (hres : func.results = #[.tmp 6]) (hNf : func.ntmps = 56) (eM : zaZ Tryz.prog fM) (eL : zaZ Tryz.prog fL) (eA : zaZ Tryz.prog fA)
  (hM : MaxIs fM k) (hL : LaysM fL fs c) (hA : AgC fA flx k fs) (hk : k < 256) (hfx : ∀ ver : Int, 0 ≤ ver → (decide (0 ≤ c) && decide (c ≤ ver)) = flx ver) (hsch : SchOK flx k fs)
  {n at_ : Int} (hn : 0 ≤ n) (hn2 : n < 256) {w : World} {G : Nat → Prop} {v : Tr} {ts : List Value} (hv : TrC w G v ts) (hkv : keyV v) (hb : zbd v ≤ 1048576) (ha0 : 0 ≤ at_) (ha1 : at_ < 65536) (herr : ErrW w) :
  zaE Tryz.prog fn #[.int .u8 n, zaV ts, .int .u16 at_] w fun v w' => v = .bool true ∧ Chg (fun _ => False) w w' := by
 subst hL6 hL10
 refine zar hfn hbody hres hNf (by simp) ?_
 intro a hN hD ha
 have g0 : get a 0 = .int .u8 n := ha 0 _ rfl
 have g1 : get a 1 = zaV ts := ha 1 _ rfl
 have g2 : get a 2 = .int .u16 at_ := ha 2 _ rfl
 obtain ⟨ver, hver⟩ : ∃ ver, ver = n % ((k : Int) + 1) := ⟨_, rfl⟩
 have hv0 : 0 ≤ ver := by rw [hver]; exact Int.emod_nonneg _ (by omega)
 have hv1 : ver ≤ k := by have := Int.emod_lt_of_pos n (show (0 : Int) < (k : Int) + 1 by omega); omega
 have hvc : ∀ w, zaE Tryz.prog 9 #[.int .u8 n, .int .i64 (k : Int)] w fun v w' => v = .int .i64 ver ∧ w' = w := fun w => by
  rw [hver]; exact version_c n k hn (by omega) (by omega) hn2 w
 clear hver
 have hlen5 := hv.len
 have hone := hv.one
 have hlv := trLen_bulk v
 refine qsr fun K hK => ?_
 refine wl_boxA (l := ts) (by simp [qed, hN, g1]) fun w1 hc1 hb1 hs1 => ?_
 (repeat ((with_reducible refine zaJ ?_ ?_ ?_); (· simp [qef, hN] <;> omega); (· kernel_rfl); try simp only [qec, hN, seval])); refine zaa (hK _ _ ?_); clear hK K
 refine qsk fun K hK => ?_; refine qsr fun K0 hK0 => ?_
 refine zaT (b := w.heap.size) (o := 0) (n := 5) (by kernel_rfl) (by kernel_rfl) (by simp [qed, hN]) hb1 (by omega) ?_
 have e5 : (ts.drop 0).take 5 = ts := by rw [List.drop_zero, ← hlen5, List.take_length]
 rw [e5]
 refine zaz (fun args w => Tryz.call5 args w) (by simp only [qea, List.map_toArray, List.map_cons, List.map_nil, hN, seval]; exact fits2_c v (by omega) (hv.stay (zbk.none hc1))) ?_
 rintro _ w2 ⟨⟨bb, rfl⟩, hc2⟩
 have hcw2 : Chg (fun _ => False) w w2 := hc1.trans hc2 fun _ _ h => h
 (repeat ((with_reducible refine zaJ ?_ ?_ ?_); (· simp [qef, hN] <;> omega); (· kernel_rfl); try simp only [qec, hN, seval]))
 refine zaa ?_
 refine hK0 _ _ ?_; try clear hK0 K0
 cases bb
 ·refine wp_cond_true (by simp [qed, hN]) ?_
  refine qsr fun K hK => ?_; (repeat ((with_reducible refine zaJ ?_ ?_ ?_); (· simp [qef, hN] <;> omega); (· kernel_rfl); try simp only [qec, hN, seval])); refine zaa (hK _ _ ?_); clear hK K; refine wp_ret ⟨by simp [zab, hD], ?_⟩; simp only [qea, hN, seval]
  exact ⟨by simp [qea, hN, seval], hcw2⟩
 refine wp_cond_false (by simp [qed, hN]) ?_
 refine wp_skip ?_
 refine hK _ _ ?_
 clear hK K
 have hb2 := hb1.chg hc2 (fun h => h)
 refine qsr fun K hK => ?_
 refine zaz eM (by simp only [List.map_toArray, List.map_nil]; exact hM w2) ?_
 rintro _ w3 ⟨rfl, hc3⟩
 have hcw3 : Chg (fun _ => False) w w3 := hcw2.trans hc3 fun _ _ h => h
 have hb3 := hb2.chg hc3 (fun h => h)
 (repeat ((with_reducible refine zaJ ?_ ?_ ?_); (· simp [qef, hN] <;> omega); (· kernel_rfl); try simp only [qec, hN, seval])); refine zaa (hK _ _ ?_); clear hK K
 refine qsk fun K hK => ?_; refine qsr fun K0 hK0 => ?_
 (repeat ((with_reducible refine zaJ ?_ ?_ ?_); (· simp [qef, hN] <;> omega); (· kernel_rfl); try simp only [qec, hN, seval]))
 refine zaa ?_
 refine hK0 _ _ ?_; try clear hK0 K0
 refine wp_cond_false (by simp [qed, hN]) ?_
 refine wp_skip ?_
 refine hK _ _ ?_
 clear hK K
 have hbound : (sPart (flx ver) ver fs v).length ≤ 1073741824 := by
  have h1 := sPart_le (flex := flx ver) (ver := ver) (v := v) hsch.plain
  have h2 : (kL fs + 6) * zbd v ≤ 1024 * 1048576 := Nat.mul_le_mul hsch.room hb
  omega
 obtain ⟨s, hdec, henc⟩ := tree_law (hsch.good ver hv0 hv1) hsch.plain hkv (by omega : (sPart (flx ver) ver fs v).length ≤ 2147483648)
 refine qsk fun K hK => ?_
 refine wp_sched (fun w' => Chg (fun _ => False) w3 w') [(true, 1), (true, 2), (true, 4), (false, 0), (false, 3), (false, 5), (true, 6)] zaN (by kernel_rfl) hS6 (Chg.drew _ _) ?_
 refine za4 rfl ?_
 refine za4 rfl ?_
 simp only [qea, hN, seval, g0]
 refine ws_loadAgg (b := w.heap.size) (o := 0) (n := 5) (by kernel_rfl) (by kernel_rfl) rfl (by simp [qed, hN]) (fun w' c => hb3.chg c (fun h => h)) (by omega) ?_
 rw [e5]
 refine zbp eL rfl (by simp only [qea, List.map_toArray, List.map_cons, List.map_nil, hN, seval]; exact hL _) ?_
 rintro _ w4 ⟨sv, rfl, hsv, hc4⟩
 have hk4 : Chg (fun _ => False) w3 w4 := (Chg.drew _ _).trans hc4 fun _ _ h => h
 refine ⟨hk4, ?_⟩
 refine zbp (fun args w => Tryz.call9 args w) rfl (by simp only [qea, List.map_toArray, List.map_cons, List.map_nil, hN, seval]; exact hvc _) ?_
 rintro _ w4' ⟨rfl, e⟩
 replace e := e.symm
 subst e
 refine ⟨hk4, ?_⟩
 have hcw4 : Chg (fun _ => False) w w4 := hcw3.trans hk4 fun _ _ h => h
 refine zbp (fun args w => Tryz.call7 args w) rfl (by simp only [qea, List.map_toArray, List.map_cons, List.map_nil, hN, seval]; exact Write_c fs c ver v hsch.ok hsch.len (trok_bulk (by unfold LIM; omega)) (by rw [hfx ver hv0]; unfold SLIM; omega) hsv (hv.stay (zbk.none hcw4))) ?_
 rw [hfx ver hv0]
 rintro v5 w5 ho5
 have hk5 := hk4.trans ho5.2 fun _ _ h => h
 refine ⟨hk5, ?_⟩
 refine ws_assign rfl ?_
 simp only [qea, hN, seval]
 refine ws_nil ?_
 refine hK _ _ ?_
 clear hK K
 have hcw5 : Chg (fun _ => False) w w5 := hcw3.trans hk5 fun _ _ h => h
 have hE5 := herr.chg hcw5 (fun h => h)
 obtain ⟨oa5, cap5, rfl, hcap5, hb5⟩ := ho5.1.bytes
 refine qsr fun K hK => ?_; (repeat ((with_reducible refine zaJ ?_ ?_ ?_); (· simp [qef, hN, g0] <;> omega); (· kernel_rfl); try simp only [qec, hN, seval, g0]))
 refine zaz (fun args w => Tryz.call9 args w) (by simp only [qea, List.map_toArray, List.map_cons, List.map_nil, hN, seval]; exact hvc _) ?_
 rintro _ w5' ⟨rfl, e⟩
 replace e := e.symm
 subst e
 (repeat ((with_reducible refine zaJ ?_ ?_ ?_); (· simp [qef, hN] <;> omega); (· kernel_rfl); try simp only [qec, hN, seval]))
 refine zaz eA (by simp only [qea, List.map_toArray, List.map_cons, List.map_nil, hN, seval]; exact hA ver hv0 hv1 _ _ oa5 _ cap5 hb5 (by unfold RLIM; omega) hE5 (fun s' r' h => by
  rw [hdec] at h
  simp only [Option.some.injEq, Prod.mk.injEq] at h
  obtain ⟨rfl, _⟩ := h
  rw [henc]; unfold LIM; omega)) ?_
 rintro v6 w6 ⟨hc6, hq⟩
 rcases hq with ⟨h, _⟩ | ⟨s', r', out, h, rfl, hown⟩
 ·rw [hdec] at h; cases h
 rw [hdec] at h
 simp only [Option.some.injEq, Prod.mk.injEq] at h
 obtain ⟨rfl, rfl⟩ := h
 rw [henc] at hown
 obtain ⟨oa6, cap6, rfl, _, hb6⟩ := hown.bytes
 (repeat ((with_reducible refine zaJ ?_ ?_ ?_); (· simp [qef, hN, exV, exOK] <;> omega); (· kernel_rfl); try simp only [qec, hN, seval, exV, exOK])); refine zaa (hK _ _ ?_); clear hK K
 have hcw6 : Chg (fun _ => False) w w6 := hcw5.trans hc6 fun _ _ h => h
 have hE6 := hE5.chg hc6 (fun h => h)
 clear hown hb6
 generalize hbsq : sPart (flx ver) ver fs v = bs at hdec hb5 hbound ho5 hcap5 ⊢
 have hb56 : zav w6 (fun k => (Value.slice oa5 bs.length cap5).ownBlock = some k) oa5 bs := hb5.chg hc6 fun _ _ _ h => h
 refine qsk fun K hK => ?_; refine qsr fun K0 hK0 => ?_
 (repeat ((with_reducible refine zaJ ?_ ?_ ?_); (· simp [qef, hN] <;> omega); (· kernel_rfl); try simp only [qec, hN, seval]))
 refine zaa ?_
 refine hK0 _ _ ?_; try clear hK0 K0
 by_cases hz : bs.length = 0
 ·refine wp_cond_true (by simp [qed, hN, hz]) ?_
  refine qsr fun K hK => ?_; (repeat ((with_reducible refine zaJ ?_ ?_ ?_); (· simp [qef, hN] <;> omega); (· kernel_rfl); try simp only [qec, hN, seval])); refine zaa (hK _ _ ?_); clear hK K; refine wp_ret ⟨by simp [zab, hD], ?_⟩; simp only [qea, hN, seval]
  exact ⟨by simp, hcw6⟩
 have hz' : ¬ ((bs.length : Int) = 0) := by omega
 have hz2 : ¬ bs = [] := fun e => hz (by rw [e]; rfl)
 refine wp_cond_false (by simp [qed, hN, hz2]) ?_
 refine wp_skip ?_
 refine hK _ _ ?_
 clear hK K
 obtain ⟨j, hj⟩ : ∃ j : Nat, (j : Int) = at_ % (bs.length : Int) := ⟨(at_ % (bs.length : Int)).toNat, Int.toNat_of_nonneg (Int.emod_nonneg _ hz')⟩
 have hjl : j < bs.length := by have := Int.emod_lt_of_pos at_ (show (0 : Int) < (bs.length : Int) by omega); omega
 have hcut := cut_law hdec hjl
 have hlen' : (bs.take j).length = j := by rw [List.length_take]; omega
 have hSX : ∀ w', Chg (fun _ => False) w6 w' → Chg (fun _ => False) w6 w' := fun _ h => h
 refine qsk fun K hK => ?_
 refine wp_sched (fun w' => Chg (fun _ => False) w6 w') [(true, 0), (true, 1), (true, 3), (true, 4), (true, 5), (true, 6), (true, 7), (true, 8), (true, 9), (false, 2), (false, 10), (true, 11), (true, 12), (true, 13), (true, 14), (true, 15)] zaN (by kernel_rfl) hS10 (Chg.drew _ _) ?_
 refine za4 rfl ?_
 refine za4 rfl ?_
 refine za4 rfl ?_
 refine za4 rfl ?_
 try simp only [qec, hN, seval, g0, g2]
 refine ws_p hSX rfl zbf (by simp [qef, hN]) (by kernel_rfl) ?_
 try simp only [qec, hN, seval]
 refine za4 rfl ?_
 try simp only [qec, hN, seval]
 refine ws_p hSX rfl zbf (by simp [qef, hN]) (by kernel_rfl) ?_
 try simp only [qec, hN, seval]
 have hw64 : IntKind.i64.wrap at_ = at_ := zbl at_ (by omega)
 refine zby (.int .i64 j) rfl (fun w' _ => by
  simp only [execOp, eqGuard, evb, hN, Nat.reduceLT, Nat.reduceEqDiff, reduceIte, hw64]
  simp [binOp, Op.intDiv, hz2]
  rw [Int.tmod_eq_emod_of_nonneg ha0, hj]) ?_
 try simp only [qec, hN, seval]
 refine zby (.slice oa5 j cap5) rfl (fun w' _ => by
  have := run_sliceTo (P := Tryz.prog) (t := 22) (e := 1) (n := j) (len := bs.length) (cap := cap5) (k := .i64) (oa := oa5) (w := w') (by kernel_rfl) (by omega)
  simp only [execOp, Option.map_some, Option.map_none, evb, hN, Nat.reduceLT, Nat.reduceEqDiff, reduceIte, this, Sem.run_bind]; rfl) ?_
 try simp only [qec, hN, seval]
 refine zbp (fun args w => Tryz.call9 args w) rfl (by simp only [qea, List.map_toArray, List.map_cons, List.map_nil, hN, seval]; exact hvc _) ?_
 rintro _ w7 ⟨rfl, e⟩
 replace e : w7 = w6.drew := e
 subst e
 refine ⟨Chg.drew _ _, ?_⟩
 have hbt : zav w6.drew (fun k => (Value.slice oa5 bs.length cap5).ownBlock = some k) oa5 (bs.take j) := (hb56.take j).chg (Chg.drew (fun _ => False) _) fun _ _ _ h => h
 refine zbp eA rfl (by
  simp only [qea, List.map_toArray, List.map_cons, List.map_nil, hN, seval]
  have := hA ver hv0 hv1 w6.drew _ oa5 (bs.take j) cap5 hbt (by unfold RLIM; omega) (hE6.chg (Chg.drew (fun _ => False) _) (fun h => h)) (fun s' r' h => by rw [hcut] at h; cases h)
  rw [hlen'] at this
  exact this) ?_
 rintro v8 w8 ⟨hc8, hq⟩
 rcases hq with ⟨_, rfl⟩ | ⟨s', r', out', h, _⟩
 ·have hc68 : Chg (fun _ => False) w6 w8 := (Chg.drew (fun _ => False) w6).trans hc8 fun _ _ h => h
  refine ⟨hc68, ?_⟩
  refine za4 rfl ?_
  try simp only [qec, hN, seval]
  refine ws_p hSX rfl zbf (by simp [qef, hN, exOK]) (by kernel_rfl) ?_
  try simp only [qec, hN, seval, exV]
  refine ws_p hSX rfl zbf (by simp [qef, hN, exOK]) (by kernel_rfl) ?_
  try simp only [qec, hN, seval, exV]
  refine ws_assign rfl ?_
  refine ws_assign rfl ?_
  try simp only [qec, hN, seval]
  refine ws_nil ?_
  refine hK _ _ ?_
  clear hK K
  refine qsr fun K hK => ?_; (repeat (first | ((with_reducible refine zaJ ?_ ?_ ?_); (· simp [qef, hN, seval] <;> omega); (· kernel_rfl); try simp only [qec, hN, seval]) | ((with_reducible apply zal); (· exact rfl); (· exact rfl); (· simp [qec, hN, seval]; done); try simp only [qec, hN, seval]) | ((with_reducible apply zas); (· exact rfl); (· exact rfl); (· simp [qec, hN, seval]; done); try simp only [qec, hN, seval]) | ((with_reducible apply zat); (· exact rfl); (· exact rfl); (· simp [qec, hN, seval]; done); try simp only [qec, hN, seval])))
  (repeat ((with_reducible refine zaJ ?_ ?_ ?_); (· simp [qef, hN, pickV] <;> omega); (· kernel_rfl); try simp only [qec, hN, seval, pickV])); refine zaa (hK _ _ ?_); clear hK K; refine wp_ret ⟨by simp [zab, hD], ?_⟩; simp only [qea, hN, seval]
  exact ⟨by simp [pickV, notV], hcw6.trans hc68 fun _ _ h => h⟩
 ·rw [hcut] at h; cases h
end
end Go.Proofs.YtnjjfpgpookjlaaGreatDoor

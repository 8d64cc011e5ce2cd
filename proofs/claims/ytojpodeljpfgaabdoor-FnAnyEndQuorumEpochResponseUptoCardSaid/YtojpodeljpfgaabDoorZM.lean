import Derived.Test.YtojpodeljpfgaabDoorZD
import Derived.Test.YtojpodeljpfgaabDoorZW
/-
What the proofs of the laws rest on, part ZM.
-/
namespace Go.Proofs.YtojpodeljpfgaabDoor
set_option linter.all false
open Go.RowKit
set_option maxRecDepth 10000
set_option maxHeartbeats 1000000
section
variable {y0 y1 y2 y3 y4 y5 y6 y7 y8 y9 y10 y11 y12 y13 y14 y15 y16 y17 y18 y19 y20 y21 y22 y23 y24 y25 y26 y27 y28 y29 y30 y31 y32 y33 y34 y35 y36 y37 y38 y39 : TypeId} {q0 q1 q2 q3 q4 q5 q6 q7 q8 q9 q10 q11 q12 q13 q14 q15 q16 q17 q18 q19 q20 q21 q22 q23 q24 q25 q26 q27 q28 q29 q30 q31 q32 q33 q34 q35 q36 q37 q38 q39 : String} {e0 e1 e2 e3 e4 e5 e6 e7 e8 e9 e10 e11 e12 e13 e14 e15 e16 e17 e18 e19 e20 e21 e22 e23 e24 e25 e26 e27 e28 e29 e30 e31 e32 e33 e34 e35 e36 e37 e38 e39 : Array Edge} {r0 r1 r2 r3 r4 r5 : Nat}
variable {us : Array TypeId}
theorem readfrom_c {fn fr : FuncId} {func : Func} (hfn : (Tryd.prog).funcs[fn]? = some func)
    (hbody : func.body = some (.seq (.region r0 #[⟨some 4, .assign (.const .nilIface), y0, q0, e0, none⟩] false) (.seq (.region r1 #[⟨some 5, .move (.tmp 0), y1, q1, e1, none⟩, ⟨some 6, .move (.tmp 1), y2, q2, e2, none⟩, ⟨some 7, .call { callee := .value (.func fr), args := #[.tmp 5, .tmp 6, .const (.bool false)], argTypes := us }, y3, q3, e3, none⟩, ⟨some 4, .assign (.tmp 7), y4, q4, e4, none⟩] false) .ret)))
    (hres : func.results = #[.tmp 4]) (hNf : func.ntmps = 8) (hen : zaK Tryd.prog fr) {x y : Value} {w : World} {R : Value → World → Prop} (h : zaD Tryd.prog fr #[x, y, .bool false] w R) : zaD Tryd.prog fn #[x, y] w R := by
  refine zat hfn hbody hres hNf (by simp) ?_
  intro a hN hD ha
  have h0 : get a 0 = x := ha 0 _ rfl
  have h1 : get a 1 = y := ha 1 _ rfl
  refine wp_seq_k fun K hK => ?_; refine zai ?_; (repeat ((with_reducible refine zaw ?_ ?_ ?_); (· simp [evb, pvb, rnb, kb, hN, dyb, sdb] <;> omega); (· kernel_rfl); try simp only [evb, pvb, rnb, kb, hN, seval])); refine zah ?_; refine hK _ _ ?_; clear hK K
  refine wp_seq_k fun K hK => ?_; refine zai ?_; (repeat ((with_reducible refine zaw ?_ ?_ ?_); (· simp [evb, pvb, rnb, kb, hN, h0, h1, dyb, sdb] <;> omega); (· kernel_rfl); try simp only [evb, pvb, rnb, kb, hN, seval, h0, h1]))
  refine zaH hen (by simp only [List.map_toArray, List.map_cons, List.map_nil, evb, hN, Nat.reduceLT, Nat.reduceEqDiff, reduceIte]; exact h) ?_
  intro v w1 hr
  (repeat ((with_reducible refine zaw ?_ ?_ ?_); (· simp [evb, pvb, rnb, kb, hN, dyb, sdb] <;> omega); (· kernel_rfl); try simp only [evb, pvb, rnb, kb, hN, seval])); refine zah ?_; refine hK _ _ ?_; clear hK K
  refine wp_ret ⟨by simp [zaj, hD], ?_⟩
  have e : ∀ {b : Value}, b = v → R b w1 := fun e => by rw [e]; exact hr
  exact e (by simp only [evb, pvb, rnb, kb, hN, seval])
end
end Go.Proofs.YtojpodeljpfgaabDoor
namespace Go.Proofs.YtojpodeljpfgaabDoor
set_option linter.all false
open Go.RowKit
section
variable {P : Program} {ops : Array Oper} {Q : Exit → Act → World → Prop} {a : Act} {w : World} {rest : List Oper} {d : Option Nat} {ty : TypeId} {pos : String} {af : Array Edge} {x : Operand} {t u : TypeId}
def ifaceB (P : Program) (t : Nat) : Bool := match P.underlying t with | some (.interface _) => true | _ => false
theorem ifaceB_out {t : Nat} (h : ifaceB P t = true) : ∃ ms, P.underlying t = some (.interface ms) := by
  unfold ifaceB at h
  split at h
  · rename_i ms hm; exact ⟨ms, hm⟩
  · cases h
theorem eq_nil0 (n : Nat) (t : TypeId) (w : World) (ht : ifaceB P t = true) : (Op.equalIn (n + 1) t .nilIface .nilIface).run P w = .ok true w := by
  obtain ⟨ms, hm⟩ := ifaceB_out ht
  simp [Op.equalIn, underlying, hm]
theorem eq_nil1 (n : Nat) (t ti : TypeId) (v : Value) (w : World) (ht : ifaceB P t = true) : (Op.equalIn (n + 1) t (.iface ti v) .nilIface).run P w = .ok false w := by
  obtain ⟨ms, hm⟩ := ifaceB_out ht
  simp [Op.equalIn, underlying, hm]
theorem depth_succ : ∃ n, Op.maxDepth = n + 1 := ⟨9999, rfl⟩
theorem wl_neqNil0 (ht : ifaceB P t = true) (hx : a.eval x = .nilIface) (h : WL P ops Q rest (a.put d (.bool false)) w) : WL P ops Q (⟨d, .binOp .neq t x (.const .nilIface) u, ty, pos, af, none⟩ :: rest) a w := by
  refine zaA rfl (v := .bool false) (w' := w) ?_ h
  obtain ⟨n, hn⟩ := depth_succ
  simp [execOp, eqGuard, binOp, hx, zaf, Op.equal, hn, eq_nil0 n t w ht]
theorem wl_neqNil1 {ti : TypeId} {v : Value} (ht : ifaceB P t = true) (hx : a.eval x = .iface ti v) (h : WL P ops Q rest (a.put d (.bool true)) w) : WL P ops Q (⟨d, .binOp .neq t x (.const .nilIface) u, ty, pos, af, none⟩ :: rest) a w := by
  refine zaA rfl (v := .bool true) (w' := w) ?_ h
  obtain ⟨n, hn⟩ := depth_succ
  simp [execOp, eqGuard, binOp, hx, zaf, Op.equal, hn, eq_nil1 n t ti v w ht]
end
end Go.Proofs.YtojpodeljpfgaabDoor
namespace Go.Proofs.YtojpodeljpfgaabDoor
set_option linter.all false
open Go.RowKit
set_option maxRecDepth 10000
set_option maxHeartbeats 1000000
section
variable {P : Program} {ops : Array Oper} {Q : Exit → Act → World → Prop} {a : Act} {w : World} {rest : List Oper} {d : Option Nat} {ty : TypeId} {pos : String} {af : Array Edge}
theorem wl_rem {t u : TypeId} {x y : Operand} {j : IntKind} {m n : Int} (hx : a.eval x = .int j m) (hy : a.eval y = .int j n) (hn : n ≠ 0)
    (h : WL P ops Q rest (a.put d (.int j (m.tmod n))) w) : WL P ops Q (⟨d, .binOp .rem t x y u, ty, pos, af, none⟩ :: rest) a w :=
  zaA rfl (by simp [execOp, eqGuard, binOp, hx, hy, Op.intDiv, hn]) h
end
theorem i16_id (n : Int) (h : -32768 ≤ n ∧ n ≤ 32767) : IntKind.i16.wrap n = n := by simp [IntKind.wrap, IntKind.bits, IntKind.signed]; split <;> omega
theorem version_c (n most : Int) (hn : 0 ≤ n) (hm : 0 ≤ most) (hm2 : most < 32768) (hn2 : n < 256) (w : World) : zaD Tryd.prog 6 #[.int .u8 n, .int .i64 most] w fun v w' => v = .int .i64 (n % (most + 1)) ∧ w' = w := by
  refine zat Tryd.func6 rfl rfl Tryd.ntmps6 (by simp) ?_
  intro a hN hD ha
  have h0 : get a 0 = .int .u8 n := ha 0 _ rfl
  have h1 : get a 1 = .int .i64 most := ha 1 _ rfl
  refine wp_seq_k fun K hK => ?_; refine zai ?_; (repeat (first | ((with_reducible refine wl_q ?_ ?_ ?_ ?_); (· exact rfl); (· simp [evb, kb, hN, dyb, sdb] <;> omega); (· kernel_rfl); try simp only [evb, kb, hN, seval, pvb]) | ((with_reducible refine zap ?_ ?_ ?_); rotate_left 1; (· simp [evb, kb, hN, sdb]); rotate_left 1; (· kernel_rfl); try simp only [evb, kb, hN, seval, pvb]))); refine zah ?_; refine hK _ _ ?_; clear hK K
  refine wp_seq_k fun K hK => ?_; refine zai ?_; (repeat (first | ((with_reducible refine wl_q ?_ ?_ ?_ ?_); (· exact rfl); (· simp [evb, kb, hN, h0, h1, dyb, sdb] <;> omega); (· kernel_rfl); try simp only [evb, kb, hN, seval, pvb, h0, h1]) | ((with_reducible refine zap ?_ ?_ ?_); rotate_left 1; (· simp [evb, kb, hN, h0, h1, sdb]); rotate_left 1; (· kernel_rfl); try simp only [evb, kb, hN, seval, pvb, h0, h1])))
  rw [i64_id n (by omega), i64_id (most + 1) (by omega)]
  refine wl_rem (j := .i64) (m := n) (n := most + 1) (by simp only [evb, kb, hN, seval]) (by simp only [evb, kb, hN, seval]) (by omega) ?_
  rw [Int.tmod_eq_emod_of_nonneg hn]
  (repeat (first | ((with_reducible refine wl_q ?_ ?_ ?_ ?_); (· exact rfl); (· simp [evb, kb, hN, dyb, sdb] <;> omega); (· kernel_rfl); try simp only [evb, kb, hN, seval, pvb]) | ((with_reducible refine zap ?_ ?_ ?_); rotate_left 1; (· simp [evb, kb, hN, sdb]); rotate_left 1; (· kernel_rfl); try simp only [evb, kb, hN, seval, pvb]))); refine zah ?_; refine hK _ _ ?_; clear hK K; refine wp_ret ⟨by simp [zaj, hD], ?_⟩; simp only [evb, kb, hN, seval]
  exact ⟨by first | rfl | trivial, by first | rfl | trivial⟩
def DefF (fn : FuncId) (zc dc : List Value) : Prop := ∀ (w : World) (B : Nat) (v : Value) (T : TypeId), Blk w B (v :: zc) T → zaD Tryd.prog fn #[.pointer (some ⟨B, 0, none⟩)] w fun _ w' => Blk w' B (v :: dc) T ∧ Chg (fun k => k = B) w w'
def NewsPtr (fn : FuncId) (dc : List Value) : Prop := ∀ w : World, zaD Tryd.prog fn #[] w fun v w' => v = .pointer (some ⟨w.heap.size, 0, none⟩) ∧ Chg (fun _ => False) w w' ∧ ∃ n T, Blk w' w.heap.size (.int .i16 n :: dc) T
theorem newptr_of {fn fd : FuncId} {func : Func} {T ty1 ty2 ty3 ty0 r t1 t2 N : Nat} {r0 r1 r2 r3 : Nat} {q0 q1 q2 q3 : String} {e0 e1 e2 e3 : Array Edge} {us : Array TypeId} {n : Int} (zc dc : List Value)
    (hfn : (Tryd.prog).funcs[fn]? = some func)
    (hbody : func.body = some (.seq (.region r0 #[⟨some r, .assign (.const (.pointer none)), ty0, q0, e0, none⟩] false) (.seq (.region r1 #[⟨some t1, .alloc T, ty1, q1, e1, none⟩] false)
      (.seq (.region r2 #[⟨some t2, .call { callee := .value (.func fd), args := #[.tmp t1], argTypes := us }, ty2, q2, e2, none⟩] false) (.seq (.region r3 #[⟨some r, .assign (.tmp t1), ty3, q3, e3, none⟩] false) .ret)))))
    (hres : func.results = #[.tmp r]) (hN : func.ntmps = N) (hlt : (decide (r < N) && decide (t1 < N) && decide (t1 ≠ t2)) = true) (hz : zeroB Tryd.prog T (aggOf (.int .i16 n :: zc))) (hen : zaK Tryd.prog fd)
    (hdef : DefF fd zc dc) : NewsPtr fn dc := by
  intro w
  simp only [Bool.and_eq_true, decide_eq_true_eq] at hlt
  obtain ⟨⟨l1, l2⟩, l3⟩ := hlt
  refine zat hfn hbody hres hN (by simp) ?_
  intro a hN hD ha
  refine wp_seq_k fun K hK => ?_
  refine zai ?_
  refine zak ?_
  refine zah (hK _ _ ?_)
  clear hK K
  refine wp_seq_k fun K hK => ?_
  refine zai ?_
  refine wl_allocA hz fun w1 hc hb hs => ?_
  refine zah (hK _ _ ?_)
  clear hK K
  refine wp_seq_k fun K hK => ?_
  refine zai ?_
  refine zaH hen (by simp only [List.map_toArray, List.map_cons, List.map_nil, zac, zae, hN, zaa, l2]; exact hdef w1 _ (.int .i16 n) T hb) ?_
  rintro v w2 ⟨hb2, hc2⟩
  refine zah (hK _ _ ?_)
  clear hK K
  refine wp_seq_k fun K hK => ?_
  refine zai ?_
  refine zak ?_
  refine zah (hK _ _ ?_)
  refine wp_ret ⟨by simp [zaj, hD], ?_⟩
  simp only [zac, zae, hN, zaa, l1, l2, zad l3]
  exact ⟨by first | rfl | trivial, hc.trans hc2 fun n hn h => by omega, n, T, hb2⟩
def SetsVersion (fn : FuncId) : Prop := ∀ (w : World) (B : Nat) (cs : List Value) (T : TypeId) (ver : Int), Blk w B cs T → 1 ≤ cs.length →
  zaD Tryd.prog fn #[.pointer (some ⟨B, 0, none⟩), .int .i16 ver] w fun _ w' => Blk w' B (zas cs 0 [.int .i16 ver]) T ∧ Chg (fun k => k = B) w w'
theorem setver_of {fn : FuncId} {func : Func} {T t4 t5 t6 t7 ty N r0 : Nat} {y0 y1 y2 y3 y4 : TypeId} {q0 q1 q2 q3 q4 : String} {e0 e1 e2 e3 e4 : Array Edge}
    (hfn : (Tryd.prog).funcs[fn]? = some func)
    (hbody : func.body = some (.region r0 #[⟨some t4, .move (.tmp 0), y0, q0, e0, none⟩, ⟨some t5, .move (.tmp 1), y1, q1, e1, none⟩, ⟨some t6, .nilCheck (.tmp t4), y2, q2, e2, none⟩, ⟨some t7, .fieldAddr T (.tmp t6) 0, y3, q3, e3, none⟩, ⟨none, .store ty (.tmp t7) (.tmp t5), y4, q4, e4, none⟩] false))
    (hres : func.results = #[]) (hN : func.ntmps = N) (hB : (zaR Tryd.prog T 0 0 1 && sizeB Tryd.prog ty 1 && decide ([0, 1, t4, t5, t6, t7].Nodup) && [1, t4, t5, t6, t7].all (fun t => decide (t < N))) = true) : SetsVersion fn := by
  intro w B cs Tb ver hb hlen
  simp only [Bool.and_eq_true, decide_eq_true_eq, List.all_eq_true] at hB
  obtain ⟨⟨⟨b1, b2⟩, hnd⟩, hlt⟩ := hB
  simp only [List.nodup_cons, List.mem_cons, List.not_mem_nil, or_false, not_or, List.nodup_nil, and_true, not_false_eq_true, forall_eq_or_imp, forall_eq] at hnd hlt
  refine callsR_of0 hfn hbody hres hN (by simp; omega) ?_
  intro a hN hD ha
  have h0 : get a 0 = .pointer (some ⟨B, 0, none⟩) := ha 0 _ rfl
  have h1 : get a 1 = .int .i16 ver := ha 1 _ rfl
  refine zai ?_
  refine zal ?_
  refine zal ?_
  simp only [zac, zaf, zaa, zab, zad, ne_eq, zae, hN, hnd, hlt, not_false_eq_true, h0, h1]
  refine zaI (p := ⟨B, 0, none⟩) (by simp only [zac, zaf, zaa, zab, zad, ne_eq, zae, hN, hnd, hlt, not_false_eq_true, h0]) ?_
  refine zaE (b := B) (o := 0) b1 (by simp only [zac, zaf, zaa, zab, zad, ne_eq, zae, hN, hnd, hlt, not_false_eq_true, h0]) ?_
  refine zaX (b := B) (o := 0 + 0) (n := 1) (v := .int .i16 ver) b2 (by simp only [zac, zaf, zaa, zab, zad, ne_eq, zae, hN, hnd, hlt, not_false_eq_true, h0]) (by simp only [zac, zaf, zaa, zab, zad, ne_eq, zae, hN, hnd, hlt, not_false_eq_true, h0]) hb rfl (by intro y hy; simp only [Value.cells, List.mem_singleton] at hy; subst hy; rfl) (by omega) fun w1 hb1 hc1 => ?_
  refine zah ⟨by simp [zaj, hD], hb1, hc1⟩
theorem maxver_of {fn : FuncId} {func : Func} {r N r0 r1 : Nat} {y0 y1 : TypeId} {q0 q1 : String} {e0 e1 : Array Edge} {k m : Int}
    (hfn : (Tryd.prog).funcs[fn]? = some func)
    (hbody : func.body = some (.seq (.region r0 #[⟨some r, .assign (.const (.int .i16 k)), y0, q0, e0, none⟩] false) (.seq (.region r1 #[⟨some r, .assign (.const (.int .i16 m)), y1, q1, e1, none⟩] false) .ret)))
    (hres : func.results = #[.tmp r]) (hN : func.ntmps = N) (hlt : (decide (r < N) && decide (1 ≤ N)) = true) (x : Value) (w : World) : zaD Tryd.prog fn #[x] w fun v w' => v = .int .i16 m ∧ w' = w := by
  simp only [Bool.and_eq_true, decide_eq_true_eq] at hlt
  refine zat hfn hbody hres hN (by simpa using hlt.2) ?_
  intro a hN hD ha
  refine wp_seq_k fun K hK => ?_
  refine zai ?_
  refine zak ?_
  refine zah (hK _ _ ?_)
  clear hK K
  refine wp_seq_k fun K hK => ?_
  refine zai ?_
  refine zak ?_
  refine zah (hK _ _ ?_)
  refine wp_ret ⟨by simp [zaj, hD], ?_, rfl⟩
  simp only [zaf, zae, hN, zaa, hlt.1]
section
variable {y0 y1 y2 y3 y4 y5 y6 y7 y8 y9 y10 y11 y12 y13 y14 y15 y16 y17 y18 y19 y20 y21 y22 y23 y24 y25 y26 y27 y28 y29 y30 y31 y32 y33 y34 y35 y36 y37 y38 y39 : TypeId} {q0 q1 q2 q3 q4 q5 q6 q7 q8 q9 q10 q11 q12 q13 q14 q15 q16 q17 q18 q19 q20 q21 q22 q23 q24 q25 q26 q27 q28 q29 q30 q31 q32 q33 q34 q35 q36 q37 q38 q39 : String} {e0 e1 e2 e3 e4 e5 e6 e7 e8 e9 e10 e11 e12 e13 e14 e15 e16 e17 e18 e19 e20 e21 e22 e23 e24 e25 e26 e27 e28 e29 e30 e31 e32 e33 e34 e35 e36 e37 e38 e39 : Array Edge} {r0 r1 r2 r3 r4 r5 : Nat}
variable {us us1 us2 us3 us4 : Array TypeId}
def ReadsFrom (fn fr : FuncId) : Prop := ∀ {x y : Value} {w : World} {R : Value → World → Prop}, zaD Tryd.prog fr #[x, y, .bool false] w R → zaD Tryd.prog fn #[x, y] w R
end
def MaxIs (fn : FuncId) (k : Nat) : Prop := ∀ w : World, zaD Tryd.prog fn #[] w fun v w' => v = .int .i64 k ∧ Chg (fun _ => False) w w'
end Go.Proofs.YtojpodeljpfgaabDoor

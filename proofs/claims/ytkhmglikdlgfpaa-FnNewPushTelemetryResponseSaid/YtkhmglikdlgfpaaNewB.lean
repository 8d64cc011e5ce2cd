import Derived.Test.YtkhmglikdlgfpaaNewA
import Derived.Test.YtkhmglikdlgfpaaSpecL
/-
New messages: the functions around them.
-/
namespace Go.Proofs.Ytkhmglikdlgfpaa
set_option linter.all false
open Go.RowKit
set_option maxRecDepth 10000
set_option maxHeartbeats 1000000

section
variable {P : Program} {ops : Array Oper} {Q : Exit → Act → World → Prop} {a : Act} {w : World} {rest : List Oper} {d : Option Nat} {ty : TypeId} {pos : String} {af : Array Edge}
theorem wl_rem {t u : TypeId} {x y : Operand} {j : IntKind} {m n : Int} (hx : a.eval x = .int j m) (hy : a.eval y = .int j n) (hn : n ≠ 0)
    (h : WL P ops Q rest (a.put d (.int j (m.tmod n))) w) : WL P ops Q (⟨d, .binOp .rem t x y u, ty, pos, af, none⟩ :: rest) a w :=
  wl_val rfl (by simp [execOp, eqGuard, binOp, hx, hy, Op.intDiv, hn]) h
end

theorem i16_id (n : Int) (h : -32768 ≤ n ∧ n ≤ 32767) : IntKind.i16.wrap n = n := by simp [IntKind.wrap, IntKind.bits, IntKind.signed]; split <;> omega

theorem version_c (n most : Int) (hn : 0 ≤ n) (hm : 0 ≤ most) (hm2 : most < 32768) (hn2 : n < 256) (w : World) : CallsR Try.prog 21 #[.int .u8 n, .int .i64 most] w fun v w' => v = .int .i64 (n % (most + 1)) ∧ w' = w := by
  refine callsR_of Try.func21 rfl rfl Try.ntmps21 (by simp) ?_
  intro a hN hD ha
  have h0 : get a 0 = .int .u8 n := ha 0 _ rfl
  have h1 : get a 1 = .int .i64 most := ha 1 _ rfl
  refine wp_seq_k fun K hK => ?_; refine wp_reg ?_; (repeat (first | ((first | (with_reducible refine wl_move ?_) | (with_reducible refine wl_assign ?_) | ((with_reducible refine wl_conv ?_ ?_ ?_ ?_); (· kernel_rfl); (· kernel_rfl)) | (with_reducible refine wl_add ?_ ?_) | (with_reducible refine wl_sub ?_ ?_) | (with_reducible refine wl_lss ?_ ?_) | (with_reducible refine wl_leq ?_ ?_) | (with_reducible refine wl_gtr ?_ ?_) | (with_reducible refine wl_geq ?_ ?_) | (with_reducible refine wl_eql ?_ ?_) | (with_reducible refine wl_neq ?_ ?_) | (with_reducible refine wl_not ?_ ?_) | (with_reducible refine wl_shr ?_ ?_ ?_) | (with_reducible refine wl_and127 ?_ ?_) | (with_reducible refine wl_or128 ?_ ?_ ?_) | ((with_reducible refine wl_len ?_ ?_ ?_); rotate_left 1; (· simp [evb, kb, hN, Nat.reduceLT, Nat.reduceEqDiff, reduceIte, Int.reduceToNat, Int.reduceBEq, sdb]); rotate_left 1; (· kernel_rfl)) | ((with_reducible refine wl_lenS ?_ ?_ ?_); rotate_left 1; (· simp [evb, kb, hN, Nat.reduceLT, Nat.reduceEqDiff, reduceIte, Int.reduceToNat, Int.reduceBEq, sdb]); rotate_left 1; (· kernel_rfl))) <;> (first | (with_reducible refine wl_id ?_; try simp only [evb, kb, hN, Nat.reduceLT, Nat.reduceEqDiff, reduceIte, Int.reduceToNat, Int.reduceBEq]) | (simp [evb, kb, hN, Nat.reduceLT, Nat.reduceEqDiff, reduceIte, Int.reduceToNat, Int.reduceBEq, sdb]; done) | (simp [evb, kb, hN, Nat.reduceLT, Nat.reduceEqDiff, reduceIte, Int.reduceToNat, Int.reduceBEq, sdb]; omega))))); refine wl_nil ?_; refine hK _ _ ?_; clear hK K
  refine wp_seq_k fun K hK => ?_; refine wp_reg ?_; (repeat (first | ((first | (with_reducible refine wl_move ?_) | (with_reducible refine wl_assign ?_) | ((with_reducible refine wl_conv ?_ ?_ ?_ ?_); (· kernel_rfl); (· kernel_rfl)) | (with_reducible refine wl_add ?_ ?_) | (with_reducible refine wl_sub ?_ ?_) | (with_reducible refine wl_lss ?_ ?_) | (with_reducible refine wl_leq ?_ ?_) | (with_reducible refine wl_gtr ?_ ?_) | (with_reducible refine wl_geq ?_ ?_) | (with_reducible refine wl_eql ?_ ?_) | (with_reducible refine wl_neq ?_ ?_) | (with_reducible refine wl_not ?_ ?_) | (with_reducible refine wl_shr ?_ ?_ ?_) | (with_reducible refine wl_and127 ?_ ?_) | (with_reducible refine wl_or128 ?_ ?_ ?_) | ((with_reducible refine wl_len ?_ ?_ ?_); rotate_left 1; (· simp [evb, kb, hN, Nat.reduceLT, Nat.reduceEqDiff, reduceIte, Int.reduceToNat, Int.reduceBEq, h0, h1, sdb]); rotate_left 1; (· kernel_rfl)) | ((with_reducible refine wl_lenS ?_ ?_ ?_); rotate_left 1; (· simp [evb, kb, hN, Nat.reduceLT, Nat.reduceEqDiff, reduceIte, Int.reduceToNat, Int.reduceBEq, h0, h1, sdb]); rotate_left 1; (· kernel_rfl))) <;> (first | (with_reducible refine wl_id ?_; try simp only [evb, kb, hN, Nat.reduceLT, Nat.reduceEqDiff, reduceIte, Int.reduceToNat, Int.reduceBEq, h0, h1]) | (simp [evb, kb, hN, Nat.reduceLT, Nat.reduceEqDiff, reduceIte, Int.reduceToNat, Int.reduceBEq, h0, h1, sdb]; done) | (simp [evb, kb, hN, Nat.reduceLT, Nat.reduceEqDiff, reduceIte, Int.reduceToNat, Int.reduceBEq, h0, h1, sdb]; omega)))))
  rw [i64_id n (by omega), i64_id (most + 1) (by omega)]
  refine wl_rem (j := .i64) (m := n) (n := most + 1) (by simp only [evb, kb, hN, Nat.reduceLT, Nat.reduceEqDiff, reduceIte, Int.reduceToNat, Int.reduceBEq]) (by simp only [evb, kb, hN, Nat.reduceLT, Nat.reduceEqDiff, reduceIte, Int.reduceToNat, Int.reduceBEq]) (by omega) ?_
  rw [Int.tmod_eq_emod_of_nonneg hn]
  (repeat (first | ((first | (with_reducible refine wl_move ?_) | (with_reducible refine wl_assign ?_) | ((with_reducible refine wl_conv ?_ ?_ ?_ ?_); (· kernel_rfl); (· kernel_rfl)) | (with_reducible refine wl_add ?_ ?_) | (with_reducible refine wl_sub ?_ ?_) | (with_reducible refine wl_lss ?_ ?_) | (with_reducible refine wl_leq ?_ ?_) | (with_reducible refine wl_gtr ?_ ?_) | (with_reducible refine wl_geq ?_ ?_) | (with_reducible refine wl_eql ?_ ?_) | (with_reducible refine wl_neq ?_ ?_) | (with_reducible refine wl_not ?_ ?_) | (with_reducible refine wl_shr ?_ ?_ ?_) | (with_reducible refine wl_and127 ?_ ?_) | (with_reducible refine wl_or128 ?_ ?_ ?_) | ((with_reducible refine wl_len ?_ ?_ ?_); rotate_left 1; (· simp [evb, kb, hN, Nat.reduceLT, Nat.reduceEqDiff, reduceIte, Int.reduceToNat, Int.reduceBEq, sdb]); rotate_left 1; (· kernel_rfl)) | ((with_reducible refine wl_lenS ?_ ?_ ?_); rotate_left 1; (· simp [evb, kb, hN, Nat.reduceLT, Nat.reduceEqDiff, reduceIte, Int.reduceToNat, Int.reduceBEq, sdb]); rotate_left 1; (· kernel_rfl))) <;> (first | (with_reducible refine wl_id ?_; try simp only [evb, kb, hN, Nat.reduceLT, Nat.reduceEqDiff, reduceIte, Int.reduceToNat, Int.reduceBEq]) | (simp [evb, kb, hN, Nat.reduceLT, Nat.reduceEqDiff, reduceIte, Int.reduceToNat, Int.reduceBEq, sdb]; done) | (simp [evb, kb, hN, Nat.reduceLT, Nat.reduceEqDiff, reduceIte, Int.reduceToNat, Int.reduceBEq, sdb]; omega))))); refine wl_nil ?_; refine hK _ _ ?_; clear hK K; refine wp_ret ⟨by simp [defers_put, hD], ?_⟩; simp only [evb, kb, hN, Nat.reduceLT, Nat.reduceEqDiff, reduceIte, Int.reduceToNat, Int.reduceBEq]
  exact ⟨by first | rfl | trivial, by first | rfl | trivial⟩

/-- What NewPtr of a message does. -/
def NewsPtr (fn : FuncId) (fl : Bool) (fs : List Fld) : Prop := ∀ w : World, CallsR Try.prog fn #[] w fun v w' => v = .pointer (some ⟨w.heap.size, 0, none⟩) ∧ Chg (fun _ => False) w w' ∧
  ∃ cs T, Blk w' w.heap.size cs T ∧ (∃ n, cs[0]? = some (.int .i16 n)) ∧ 1 + ssz fl fs ≤ cs.length ∧ repSB fl fs (dfltL fs) ((cs.drop 1).take (ssz fl fs)) = true

theorem newptr_of {fn fd : FuncId} {func : Func} {T ty1 ty2 ty3 ty0 r t1 t2 N : Nat} {r0 r1 r2 r3 : Nat} {q0 q1 q2 q3 : String} {e0 e1 e2 e3 : Array Edge} {us : Array TypeId} {fl : Bool} {fs : List Fld} {z : Value} (cs : List Value)
    (hfn : (Try.prog).funcs[fn]? = some func)
    (hbody : func.body = some (.seq (.region r0 #[⟨some r, .assign (.const (.pointer none)), ty0, q0, e0, none⟩] false) (.seq (.region r1 #[⟨some t1, .alloc T, ty1, q1, e1, none⟩] false)
      (.seq (.region r2 #[⟨some t2, .call { callee := .value (.func fd), args := #[.tmp t1], argTypes := us }, ty2, q2, e2, none⟩] false) (.seq (.region r3 #[⟨some r, .assign (.tmp t1), ty3, q3, e3, none⟩] false) .ret)))))
    (hres : func.results = #[.tmp r]) (hN : func.ntmps = N) (hlt : (decide (r < N) && decide (t1 < N) && decide (t1 ≠ t2)) = true) (hz : zeroB Try.prog T z) (hen : Enters Try.prog fd)
    (hdef : ∀ w B, Blk w B z.cells.toList T → CallsR Try.prog fd #[.pointer (some ⟨B, 0, none⟩)] w fun _ w' => Blk w' B cs T ∧ Chg (fun k => k = B) w w')
    (hc0 : ∃ n, cs[0]? = some (.int .i16 n)) (hlen : (decide (1 + ssz fl fs ≤ cs.length) && repSB fl fs (dfltL fs) ((cs.drop 1).take (ssz fl fs))) = true) : NewsPtr fn fl fs := by
  intro w
  simp only [Bool.and_eq_true, decide_eq_true_eq] at hlt hlen
  obtain ⟨⟨l1, l2⟩, l3⟩ := hlt
  refine callsR_of hfn hbody hres hN (by simp) ?_
  intro a hN hD ha
  refine wp_seq_k fun K hK => ?_
  refine wp_reg ?_
  refine wl_assign ?_
  refine wl_nil (hK _ _ ?_)
  clear hK K
  refine wp_seq_k fun K hK => ?_
  refine wp_reg ?_
  refine wl_allocA hz fun w1 hc hb hs => ?_
  refine wl_nil (hK _ _ ?_)
  clear hK K
  refine wp_seq_k fun K hK => ?_
  refine wp_reg ?_
  refine wl_call hen (by simp only [List.map_toArray, List.map_cons, List.map_nil, eval_tmp, size_put, hN, get_put_self, l2]; exact hdef w1 _ hb) ?_
  rintro v w2 ⟨hb2, hc2⟩
  refine wl_nil (hK _ _ ?_)
  clear hK K
  refine wp_seq_k fun K hK => ?_
  refine wp_reg ?_
  refine wl_assign ?_
  refine wl_nil (hK _ _ ?_)
  refine wp_ret ⟨by simp [defers_put, hD], ?_⟩
  simp only [eval_tmp, size_put, hN, get_put_self, l1, l2, get_put_ne' l3]
  exact ⟨by first | rfl | trivial, hc.trans hc2 fun n hn h => by omega, cs, T, hb2, hc0, hlen.1, hlen.2⟩

/-- SetVersion. -/
def SetsVersion (fn : FuncId) : Prop := ∀ (w : World) (B : Nat) (cs : List Value) (T : TypeId) (ver : Int), Blk w B cs T → 1 ≤ cs.length →
  CallsR Try.prog fn #[.pointer (some ⟨B, 0, none⟩), .int .i16 ver] w fun _ w' => Blk w' B (splice cs 0 [.int .i16 ver]) T ∧ Chg (fun k => k = B) w w'
theorem setver_of {fn : FuncId} {func : Func} {T t4 t5 t6 t7 ty N r0 : Nat} {y0 y1 y2 y3 y4 : TypeId} {q0 q1 q2 q3 q4 : String} {e0 e1 e2 e3 e4 : Array Edge}
    (hfn : (Try.prog).funcs[fn]? = some func)
    (hbody : func.body = some (.region r0 #[⟨some t4, .move (.tmp 0), y0, q0, e0, none⟩, ⟨some t5, .move (.tmp 1), y1, q1, e1, none⟩, ⟨some t6, .nilCheck (.tmp t4), y2, q2, e2, none⟩, ⟨some t7, .fieldAddr T (.tmp t6) 0, y3, q3, e3, none⟩, ⟨none, .store ty (.tmp t7) (.tmp t5), y4, q4, e4, none⟩] false))
    (hres : func.results = #[]) (hN : func.ntmps = N) (hB : (fieldB Try.prog T 0 0 1 && sizeB Try.prog ty 1 && decide ([0, 1, t4, t5, t6, t7].Nodup) && [1, t4, t5, t6, t7].all (fun t => decide (t < N))) = true) : SetsVersion fn := by
  intro w B cs Tb ver hb hlen
  simp only [Bool.and_eq_true, decide_eq_true_eq, List.all_eq_true] at hB
  obtain ⟨⟨⟨b1, b2⟩, hnd⟩, hlt⟩ := hB
  simp only [List.nodup_cons, List.mem_cons, List.not_mem_nil, or_false, not_or, List.nodup_nil, and_true, not_false_eq_true, forall_eq_or_imp, forall_eq] at hnd hlt
  refine callsR_of0 hfn hbody hres hN (by simp; omega) ?_
  intro a hN hD ha
  have h0 : get a 0 = .pointer (some ⟨B, 0, none⟩) := ha 0 _ rfl
  have h1 : get a 1 = .int .i16 ver := ha 1 _ rfl
  refine wp_reg ?_
  refine wl_move ?_
  refine wl_move ?_
  simp only [eval_tmp, eval_const, get_put_self, get_put_ne, get_put_ne', ne_eq, size_put, hN, hnd, hlt, not_false_eq_true, h0, h1]
  refine wl_nilCheck (p := ⟨B, 0, none⟩) (by simp only [eval_tmp, eval_const, get_put_self, get_put_ne, get_put_ne', ne_eq, size_put, hN, hnd, hlt, not_false_eq_true, h0]) ?_
  refine wl_fieldAddr (b := B) (o := 0) b1 (by simp only [eval_tmp, eval_const, get_put_self, get_put_ne, get_put_ne', ne_eq, size_put, hN, hnd, hlt, not_false_eq_true, h0]) ?_
  refine wl_store (b := B) (o := 0 + 0) (n := 1) (v := .int .i16 ver) b2 (by simp only [eval_tmp, eval_const, get_put_self, get_put_ne, get_put_ne', ne_eq, size_put, hN, hnd, hlt, not_false_eq_true, h0]) (by simp only [eval_tmp, eval_const, get_put_self, get_put_ne, get_put_ne', ne_eq, size_put, hN, hnd, hlt, not_false_eq_true, h0]) hb rfl (by intro y hy; simp only [Value.cells, List.mem_singleton] at hy; subst hy; rfl) (by omega) fun w1 hb1 hc1 => ?_
  refine wl_nil ⟨by simp [defers_put, hD], hb1, hc1⟩

/-- MaxVersion. -/
theorem maxver_of {fn : FuncId} {func : Func} {r N r0 r1 : Nat} {y0 y1 : TypeId} {q0 q1 : String} {e0 e1 : Array Edge} {k m : Int}
    (hfn : (Try.prog).funcs[fn]? = some func)
    (hbody : func.body = some (.seq (.region r0 #[⟨some r, .assign (.const (.int .i16 k)), y0, q0, e0, none⟩] false) (.seq (.region r1 #[⟨some r, .assign (.const (.int .i16 m)), y1, q1, e1, none⟩] false) .ret)))
    (hres : func.results = #[.tmp r]) (hN : func.ntmps = N) (hlt : (decide (r < N) && decide (1 ≤ N)) = true) (x : Value) (w : World) : CallsR Try.prog fn #[x] w fun v w' => v = .int .i16 m ∧ w' = w := by
  simp only [Bool.and_eq_true, decide_eq_true_eq] at hlt
  refine callsR_of hfn hbody hres hN (by simpa using hlt.2) ?_
  intro a hN hD ha
  refine wp_seq_k fun K hK => ?_
  refine wp_reg ?_
  refine wl_assign ?_
  refine wl_nil (hK _ _ ?_)
  clear hK K
  refine wp_seq_k fun K hK => ?_
  refine wp_reg ?_
  refine wl_assign ?_
  refine wl_nil (hK _ _ ?_)
  refine wp_ret ⟨by simp [defers_put, hD], ?_, rfl⟩
  simp only [eval_const, size_put, hN, get_put_self, hlt.1]

/-- The reading of the law: the world has at most new blocks. -/
theorem below_of {w w' : World} (h : Chg (fun _ => False) w w') : Below w.heap.size w w' := (h.mono fun _ _ h => h.elim : Chg (fun k => w.heap.size ≤ k) w w').below (Nat.le_refl _)

end Go.Proofs.Ytkhmglikdlgfpaa

import Derived.Test.YtkhmglikdlgfpaaOps
import Derived.OrdersHeld
/-
A region that draws its order: one walk through a schedule in which the operations that only look come first, and each other one comes when nothing else may.
-/
namespace Go.Proofs.Ytkhmglikdlgfpaa
set_option linter.all false
open Go.RowKit

/-- Is this a schedule: (true, i): number i may be taken first; (false, i): only number i may come up. -/
def schedB (md : Region.Mode) (ops : Array Oper) : List (Bool × Nat) → Array Bool → Bool
  | [], listed => (Region.ready md ops listed).isEmpty
  | (true, i) :: r, listed => Region.free md ops listed i && (Region.ready md ops listed).contains i && schedB md ops r (listed.setIfInBounds i true)
  | (false, i) :: r, listed => (Region.ready md ops listed == [i]) && schedB md ops r (listed.setIfInBounds i true)

def OneQ (K : Act → World → Prop) : Exit → Act → World → Prop
  | .normal, a, w => K a w
  | _, _, _ => False

def wpSched (P : Program) (ops : Array Oper) (S : World → Prop) (Q : Act → World → Prop) : List (Bool × Nat) → Act → World → Prop
  | [], a, w => Q a w
  | (f, i) :: r, a, w => ∃ o, ops[i]? = some o ∧
    if f = true then ∃ v, YieldsIf P ops S o v a ∧ wpSched P ops S Q r (a.put o.dst v) w
    else WL P ops (OneQ fun a' w' => S w' ∧ wpSched P ops S Q r a' w') [o] a w

section
variable {P : Program} {ops : Array Oper} {S : World → Prop} {Q : Act → World → Prop}

theorem wpOp_of_one {i : Nat} {o : Oper} {K : Act → World → Prop} {Q' : Exit → Act → World → Prop} {a : Act} {w : World} (hi : ops[i]? = some o) (h : WL P ops (OneQ K) [o] a w) : wpOp P ops Q' i K a w := by
  unfold wpOp
  simp only [hi]
  replace h := h.out
  unfold wpList at h
  split
  · rename_i hw
    rw [if_pos hw] at h
    rcases h with h | ⟨_, _, _, h⟩
    · refine .inl ?_
      unfold Oper.wp at *
      generalize (execOp a.eval o).run P w = r at *
      cases r with
      | ok n w' =>
        cases n <;> simp only [Oper.upon] at h ⊢ <;> try exact h
        case enter f args =>
          refine Calls.mono h fun e w'' he => ?_
          cases e with
          | returned u => exact he
          | panicked c => exact he.elim
          | outgrown => obtain ⟨_, _, h⟩ := he; exact h.elim
      | halt x w' =>
        cases x <;> simp only [Oper.upon] at h ⊢ <;> exact h.elim
    · exact h.elim
  · rename_i hw
    rw [if_neg hw] at h
    exact h

theorem sched_sound {md : Region.Mode} (hs : Region.noSelect ops = true) : ∀ (l : List (Bool × Nat)) (fuel : Nat) (listed : Array Bool) (a : Act) (w : World), l.length ≤ fuel → schedB md ops l listed = true → S w → wpSched P ops S Q l a w →
    wpAnyH P md ops (OneQ Q) S fuel listed a w
  | [], fuel, listed, a, w, _, hB, _, h => by
    simp only [schedB, List.isEmpty_iff] at hB
    exact wpAnyH_done hB h fuel
  | (f, i) :: r, 0, listed, a, w, hl, _, _, _ => by simp at hl
  | (f, i) :: r, fuel + 1, listed, a, w, hl, hB, hS, h => by
    have hl' : r.length ≤ fuel := by simpa using hl
    obtain ⟨o, ho, h⟩ := h
    cases f with
    | true =>
      simp only [schedB, Bool.and_eq_true] at hB
      rw [if_pos rfl] at h
      obtain ⟨v, hy, h⟩ := h
      exact wpAnyH_take ho hs hB.1.1 hB.1.2 (fun _ _ _ h => h) hy hS (sched_sound hs r fuel _ _ _ hl' hB.2 hS h)
    | false =>
      simp only [schedB, Bool.and_eq_true, beq_iff_eq] at hB
      rw [if_neg (by simp)] at h
      refine wpAnyH_all hB.1 (by simp) fun j hj => ?_
      have : j = i := by simpa using hj
      subst this
      refine wpOp_mono ?_ (wpOp_of_one ho h)
      rintro a' w' ⟨h1, h2⟩
      exact ⟨h1, sched_sound hs r fuel _ _ _ hl' hB.2 h1 h2⟩

/-- A region that draws its order, by a schedule. -/
theorem wp_sched {id : Nat} {Q : Exit → Act → World → Prop} {a : Act} {w : World} {l : List Oper} (S : World → Prop) (s : List (Bool × Nat)) (hm : P.follows .mixedOrders = true)
    (hs : Region.noSelect l.toArray = true) (hB : (decide (s.length ≤ l.length) && schedB .any l.toArray s (Array.replicate l.length false)) = true) (hS : S w.drew)
    (h : wpSched P l.toArray S (Q .normal) s a w.drew) : (Code.region id l.toArray true).wp P Q a w := by
  simp only [Bool.and_eq_true, decide_eq_true_eq] at hB
  refine wp_mono (wp_region_held (Q := OneQ (Q .normal)) (S := S) hm (sched_sound hs s _ _ a _ (by simpa using hB.1) (by simpa using hB.2) hS h)) ?_
  intro e a' w' hq
  cases e <;> first | exact hq | exact hq.elim

variable {a : Act} {w : World} {r : List (Bool × Nat)} {d : Option Nat} {i : Nat} {ty : TypeId} {pos : String} {af : Array Edge}

theorem ws_nil (h : Q a w) : wpSched P ops S Q [] a w := h
theorem ws_float {op : Op} (v : Value) (hi : ops[i]? = some ⟨d, op, ty, pos, af, none⟩) (hr : ∀ w, S w → (execOp a.eval ⟨d, op, ty, pos, af, none⟩).run P w = .ok (.value v) w)
    (h : wpSched P ops S Q r (a.put d v) w) : wpSched P ops S Q ((true, i) :: r) a w :=
  ⟨_, hi, by rw [if_pos rfl]; exact ⟨v, .inl ⟨rfl, hr⟩, h⟩⟩
theorem ws_gyes {op : Op} {g : Nat × Bool} (v : Value) (hi : ops[i]? = some ⟨d, op, ty, pos, af, some g⟩) (hw : yielded ops a.tmps g.1 = some g.2) (hr : ∀ w, S w → (execOp a.eval ⟨d, op, ty, pos, af, none⟩).run P w = .ok (.value v) w)
    (h : wpSched P ops S Q r (a.put d v) w) : wpSched P ops S Q ((true, i) :: r) a w :=
  ⟨_, hi, by rw [if_pos rfl]; exact ⟨v, .inl ⟨by simp [Region.wanted, hw], hr⟩, h⟩⟩
theorem ws_gno {op : Op} {g : Nat × Bool} {f : Bool} (hi : ops[i]? = some ⟨d, op, ty, pos, af, some g⟩) (hw : yielded ops a.tmps g.1 ≠ some g.2) (hS : S w)
    (h : wpSched P ops S Q r (a.put d undef) w) : wpSched P ops S Q ((f, i) :: r) a w := by
  have e2 : ¬ (Region.wanted ⟨d, op, ty, pos, af, some g⟩ (yielded ops a.tmps) = true) := by simp [Region.wanted]; exact hw
  refine ⟨_, hi, ?_⟩
  cases f with
  | true => rw [if_pos rfl]; exact ⟨undef, .inr ⟨by simpa using e2, rfl⟩, h⟩
  | false =>
    rw [if_neg (by simp)]
    refine ⟨?_⟩
    unfold wpList
    rw [if_neg e2]
    exact ⟨hS, h⟩
/-- Any other operation: as in a region without a draw; behind it S is shown anew. -/
theorem ws_step {o : Oper} (hi : ops[i]? = some o) (h : ∀ K : Act → World → Prop, (∀ a w, S w → wpSched P ops S Q r a w → K a w) → WL P ops (OneQ K) [o] a w) : wpSched P ops S Q ((false, i) :: r) a w :=
  ⟨o, hi, by rw [if_neg (by simp)]; exact h _ fun _ _ h1 h2 => ⟨h1, h2⟩⟩

theorem ws_move {x : Operand} (hi : ops[i]? = some ⟨d, .move x, ty, pos, af, none⟩) (h : wpSched P ops S Q r (a.put d (a.eval x)) w) : wpSched P ops S Q ((true, i) :: r) a w := ws_float _ hi (fun _ _ => rfl) h
theorem ws_assign {x : Operand} (hi : ops[i]? = some ⟨d, .assign x, ty, pos, af, none⟩) (h : wpSched P ops S Q r (a.put d (a.eval x)) w) : wpSched P ops S Q ((true, i) :: r) a w := ws_float _ hi (fun _ _ => rfl) h
theorem ws_fieldAddr {x : Operand} {T j off n b o : Nat} (hf : fieldB P T j off n = true) (hi : ops[i]? = some ⟨d, .fieldAddr T x j, ty, pos, af, none⟩) (hx : a.eval x = .pointer (some ⟨b, o, none⟩))
    (h : wpSched P ops S Q r (a.put d (.pointer (some ⟨b, o + off, none⟩))) w) : wpSched P ops S Q ((true, i) :: r) a w :=
  ws_float _ hi (fun w _ => by simp only [execOp, Sem.run_bind, hx, run_fieldAt hf]; rfl) h
theorem ws_load {x : Operand} {t b o : Nat} {l : List Value} {T : TypeId} {v : Value} (ht : scalB P t = true) (hi : ops[i]? = some ⟨d, .load t x, ty, pos, af, none⟩) (hx : a.eval x = .pointer (some ⟨b, o, none⟩))
    (hb : ∀ w, S w → Blk w b l T) (hv : l[o]? = some v) (h : wpSched P ops S Q r (a.put d v) w) : wpSched P ops S Q ((true, i) :: r) a w :=
  ws_float _ hi (fun w hS => by simp only [execOp, Sem.run_bind, hx, run_loadAt ht (hb w hS) hv]; rfl) h
theorem ws_loadAgg {x : Operand} {t b o n : Nat} {l : List Value} {T : TypeId} (ht : aggB P t = true) (hs : sizeB P t n = true) (hi : ops[i]? = some ⟨d, .load t x, ty, pos, af, none⟩) (hx : a.eval x = .pointer (some ⟨b, o, none⟩))
    (hb : ∀ w, S w → Blk w b l T) (hn : o + n ≤ l.length) (h : wpSched P ops S Q r (a.put d (.agg ((l.drop o).take n).toArray)) w) : wpSched P ops S Q ((true, i) :: r) a w :=
  ws_float _ hi (fun w hS => by simp only [execOp, Sem.run_bind, hx, run_loadAt_agg ht hs (hb w hS) hn]; rfl) h
theorem ws_indexAddr {x y : Operand} {T n b o len cap : Nat} {k : IntKind} {j : Nat} (hT : sliceB P T n = true) (hi : ops[i]? = some ⟨d, .indexAddr T x y, ty, pos, af, none⟩) (hx : a.eval x = .slice (some ⟨b, o, none⟩) len cap) (hy : a.eval y = .int k j) (hj : j < len)
    (h : wpSched P ops S Q r (a.put d (.pointer (some ⟨b, o + j * n, none⟩))) w) : wpSched P ops S Q ((true, i) :: r) a w :=
  ws_float _ hi (fun w _ => by simp only [execOp, Sem.run_bind, hx, hy, run_indexAt hT hj]; rfl) h
theorem ws_neq {x y : Operand} {t u : TypeId} (hi : ops[i]? = some ⟨d, .binOp .neq t x y u, ty, pos, af, none⟩) (hk : sameK (a.eval x) (a.eval y) = true)
    (h : wpSched P ops S Q r (a.put d (cmp2 (fun x y => x != y) (a.eval x) (a.eval y))) w) : wpSched P ops S Q ((true, i) :: r) a w := by
  cases hx : a.eval x <;> cases hy : a.eval y <;> rw [hx, hy] at hk h <;> try (cases hk; done)
  all_goals (simp [sameK] at hk; subst hk; refine ws_float _ hi (fun w _ => ?_) h; simp [execOp, eqGuard, binOp, hx, hy, Op.intCmp, cmp2])
theorem ws_not {x : Operand} {t : TypeId} (hi : ops[i]? = some ⟨d, .unOp .not t x, ty, pos, af, none⟩) (hx : isB (a.eval x) = true)
    (h : wpSched P ops S Q r (a.put d (notV (a.eval x))) w) : wpSched P ops S Q ((true, i) :: r) a w := by
  cases hv : a.eval x <;> rw [hv] at hx h <;> try (cases hx; done)
  refine ws_float _ hi (fun w _ => ?_) h; simp [execOp, hv, Op.unary, notV]
theorem ws_eql {x y : Operand} {t u : TypeId} (hi : ops[i]? = some ⟨d, .binOp .eql t x y u, ty, pos, af, none⟩) (hk : sameK (a.eval x) (a.eval y) = true)
    (h : wpSched P ops S Q r (a.put d (cmp2 (fun x y => x == y) (a.eval x) (a.eval y))) w) : wpSched P ops S Q ((true, i) :: r) a w := by
  cases hx : a.eval x <;> cases hy : a.eval y <;> rw [hx, hy] at hk h <;> try (cases hk; done)
  all_goals (simp [sameK] at hk; subst hk; refine ws_float _ hi (fun w _ => ?_) h; simp [execOp, eqGuard, binOp, hx, hy, Op.intCmp, cmp2])
theorem ws_lss {x y : Operand} {t u : TypeId} (hi : ops[i]? = some ⟨d, .binOp .lss t x y u, ty, pos, af, none⟩) (hk : sameK (a.eval x) (a.eval y) = true)
    (h : wpSched P ops S Q r (a.put d (cmp2 (fun x y => decide (x < y)) (a.eval x) (a.eval y))) w) : wpSched P ops S Q ((true, i) :: r) a w := by
  cases hx : a.eval x <;> cases hy : a.eval y <;> rw [hx, hy] at hk h <;> try (cases hk; done)
  all_goals (simp [sameK] at hk; subst hk; refine ws_float _ hi (fun w _ => ?_) h; simp [execOp, eqGuard, binOp, hx, hy, Op.intCmp, cmp2])
theorem ws_pick {c x y : Operand} {b : Bool} (hi : ops[i]? = some ⟨d, .pick c x y, ty, pos, af, none⟩) (hc : a.eval c = .bool b)
    (h : wpSched P ops S Q r (a.put d (if b then a.eval x else a.eval y)) w) : wpSched P ops S Q ((true, i) :: r) a w :=
  ws_float _ hi (fun w _ => by cases b <;> simp [execOp, hc, asBool]) h
/-- Operations under a guard that holds. -/
theorem ws_moveG {x : Operand} {g : Nat × Bool} {o : Oper} {t : Nat} (hi : ops[i]? = some ⟨d, .move x, ty, pos, af, some g⟩) (ho : ops[g.1]? = some o) (hd : o.dst = some t) (hv : get a t = .bool g.2)
    (h : wpSched P ops S Q r (a.put d (a.eval x)) w) : wpSched P ops S Q ((true, i) :: r) a w := ws_gyes _ hi (yielded_get ho hd hv) (fun _ _ => rfl) h
theorem ws_loadAggG {x : Operand} {t b o n : Nat} {l : List Value} {T : TypeId} {g : Nat × Bool} {oo : Oper} {tt : Nat} (ht : aggB P t = true) (hs : sizeB P t n = true) (hi : ops[i]? = some ⟨d, .load t x, ty, pos, af, some g⟩) (ho : ops[g.1]? = some oo) (hd : oo.dst = some tt) (hv : get a tt = .bool g.2)
    (hx : a.eval x = .pointer (some ⟨b, o, none⟩)) (hb : ∀ w, S w → Blk w b l T) (hn : o + n ≤ l.length) (h : wpSched P ops S Q r (a.put d (.agg ((l.drop o).take n).toArray)) w) : wpSched P ops S Q ((true, i) :: r) a w :=
  ws_gyes _ hi (yielded_get ho hd hv) (fun w hS => by simp only [execOp, Sem.run_bind, hx, run_loadAt_agg ht hs (hb w hS) hn]; rfl) h
theorem ws_loadG {x : Operand} {t b o : Nat} {l : List Value} {T : TypeId} {v : Value} {g : Nat × Bool} {oo : Oper} {tt : Nat} (ht : scalB P t = true) (hi : ops[i]? = some ⟨d, .load t x, ty, pos, af, some g⟩) (ho : ops[g.1]? = some oo) (hd : oo.dst = some tt) (hv : get a tt = .bool g.2)
    (hx : a.eval x = .pointer (some ⟨b, o, none⟩)) (hb : ∀ w, S w → Blk w b l T) (hvv : l[o]? = some v) (h : wpSched P ops S Q r (a.put d v) w) : wpSched P ops S Q ((true, i) :: r) a w :=
  ws_gyes _ hi (yielded_get ho hd hv) (fun w hS => by simp only [execOp, Sem.run_bind, hx, run_loadAt ht (hb w hS) hvv]; rfl) h
theorem ws_notG {x : Operand} {t : TypeId} {g : Nat × Bool} {o : Oper} {tt : Nat} {b : Bool} (hi : ops[i]? = some ⟨d, .unOp .not t x, ty, pos, af, some g⟩) (ho : ops[g.1]? = some o) (hd : o.dst = some tt) (hv : get a tt = .bool g.2) (hx : a.eval x = .bool b)
    (h : wpSched P ops S Q r (a.put d (.bool !b)) w) : wpSched P ops S Q ((true, i) :: r) a w :=
  ws_gyes _ hi (yielded_get ho hd hv) (fun w _ => by simp [execOp, hx, Op.unary]) h
theorem ws_gnoB {op : Op} {g : Nat × Bool} {f : Bool} {o : Oper} {t : Nat} (hi : ops[i]? = some ⟨d, op, ty, pos, af, some g⟩) (ho : ops[g.1]? = some o) (hd : o.dst = some t) (hv : get a t = .bool (!g.2)) (hS : S w)
    (h : wpSched P ops S Q r (a.put d undef) w) : wpSched P ops S Q ((f, i) :: r) a w := ws_gno hi (by rw [yielded_get ho hd hv]; cases g.2 <;> simp) hS h
theorem ws_callG {f : FuncId} {xs : Array Operand} {ts : Array TypeId} {R : Value → World → Prop} {g : Nat × Bool} {o : Oper} {t : Nat} (hf : Enters P f) (hi : ops[i]? = some ⟨d, .call { callee := .value (.func f), args := xs, argTypes := ts }, ty, pos, af, some g⟩)
    (ho : ops[g.1]? = some o) (hd : o.dst = some t) (hv : get a t = .bool g.2) (hc : CallsR P f (xs.map a.eval) w R) (h : ∀ v w', R v w' → S w' ∧ wpSched P ops S Q r (a.put d v) w') : wpSched P ops S Q ((false, i) :: r) a w :=
  ws_step hi fun K hK => wl_gyes (yielded_get ho hd hv) (wl_call hf hc fun v w' hr => wl_nil (hK _ _ (h v w' hr).1 (h v w' hr).2))
/-- A call. -/
theorem ws_call {f : FuncId} {xs : Array Operand} {ts : Array TypeId} {R : Value → World → Prop} (hf : Enters P f) (hi : ops[i]? = some ⟨d, .call { callee := .value (.func f), args := xs, argTypes := ts }, ty, pos, af, none⟩)
    (hc : CallsR P f (xs.map a.eval) w R) (h : ∀ v w', R v w' → S w' ∧ wpSched P ops S Q r (a.put d v) w') : wpSched P ops S Q ((false, i) :: r) a w :=
  ws_step hi fun K hK => wl_call hf hc fun v w' hr => wl_nil (hK _ _ (h v w' hr).1 (h v w' hr).2)
end

end Go.Proofs.Ytkhmglikdlgfpaa

import Derived.Laws.OwnMore
import Derived.Below
import Derived.Tactics
import Derived.KernelRfl
/-
The ground of the walks over the generated messages: slots of a frame, blocks of cells, what an operation does to both. Generic over the program.
-/
namespace Go.Proofs.Ytkhmglikdlgfpaa
set_option linter.all false
open Go.RowKit

/-! ### Slots -/

def get (a : Act) (t : Nat) : Value := a.tmps.getD t undef

theorem eval_tmp (a : Act) (t : Nat) : a.eval (.tmp t) = get a t := rfl
theorem eval_const (a : Act) (v : Value) : a.eval (.const v) = v := rfl
theorem eval_func (a : Act) (f : Nat) : a.eval (.func f) = .func (.func f) #[] #[] := rfl
theorem eval_global (a : Act) (g : Nat) : a.eval (.global g) = .pointer (some ⟨g, 0, none⟩) := rfl

theorem get_put_self {a : Act} {t : Nat} {v : Value} (h : t < a.tmps.size) : get (a.put (some t) v) t = v := by
  simp [get, Act.put, h]
theorem get_put_ne {a : Act} {t u : Nat} {v : Value} (h : u ≠ t) : get (a.put (some u) v) t = get a t := by
  simp [get, Act.put, Array.getElem?_setIfInBounds, h]
theorem get_put_ne' {a : Act} {t u : Nat} {v : Value} (h : t ≠ u) : get (a.put (some u) v) t = get a t := get_put_ne (Ne.symm h)
theorem put_none (a : Act) (v : Value) : a.put none v = a := rfl
theorem size_put (a : Act) (d : Option Nat) (v : Value) : (a.put d v).tmps.size = a.tmps.size := by
  cases d <;> simp [Act.put]
theorem defers_put (a : Act) (d : Option Nat) (v : Value) : (a.put d v).defers = a.defers := by
  cases d <;> rfl

/-- The slots of S are as they were. -/
structure Keeps (S : Nat → Prop) (a a' : Act) : Prop where
  size : a'.tmps.size = a.tmps.size
  defers : a'.defers = a.defers
  slot : ∀ t, S t → get a' t = get a t

theorem Keeps.refl (S : Nat → Prop) (a : Act) : Keeps S a a := ⟨rfl, rfl, fun _ _ => rfl⟩
theorem Keeps.trans {S : Nat → Prop} {a b c : Act} (h : Keeps S a b) (k : Keeps S b c) : Keeps S a c :=
  ⟨k.size.trans h.size, k.defers.trans h.defers, fun t ht => (k.slot t ht).trans (h.slot t ht)⟩
theorem Keeps.mono {S S' : Nat → Prop} {a b : Act} (h : Keeps S a b) (hn : ∀ t, S' t → S t) : Keeps S' a b :=
  ⟨h.size, h.defers, fun t ht => h.slot t (hn t ht)⟩
theorem Keeps.put {S : Nat → Prop} {a b : Act} (h : Keeps S a b) {d : Nat} (hd : ¬ S d) (v : Value) : Keeps S a (b.put (some d) v) :=
  ⟨(size_put _ _ _).trans h.size, (defers_put _ _ _).trans h.defers, fun t ht => (get_put_ne (show d ≠ t from fun e => by subst e; exact hd ht)).trans (h.slot t ht)⟩

/-! ### The world -/

/-- Only blocks of X, and new ones, may have turned. -/
structure Chg (X : Nat → Prop) (w w' : World) : Prop where
  os : w'.os = w.os
  tape : w'.tape = w.tape
  output : w'.output = w.output
  size : w.heap.size ≤ w'.heap.size
  block : ∀ k, k < w.heap.size → ¬ X k → w'.heap[k]? = w.heap[k]?

theorem Chg.refl (X : Nat → Prop) (w : World) : Chg X w w := ⟨rfl, rfl, rfl, Nat.le_refl _, fun _ _ _ => rfl⟩
theorem Chg.trans {X Y : Nat → Prop} {a b c : World} (h : Chg X a b) (k : Chg Y b c) (hy : ∀ n, n < a.heap.size → Y n → X n) : Chg X a c :=
  ⟨k.os.trans h.os, k.tape.trans h.tape, k.output.trans h.output, Nat.le_trans h.size k.size,
    fun n hn hx => (k.block n (Nat.lt_of_lt_of_le hn h.size) (fun y => hx (hy n hn y))).trans (h.block n hn hx)⟩
theorem Chg.mono {X Y : Nat → Prop} {a b : World} (h : Chg X a b) (hy : ∀ n, n < a.heap.size → X n → Y n) : Chg Y a b :=
  ⟨h.os, h.tape, h.output, h.size, fun n hn hx => h.block n hn (fun y => hx (hy n hn y))⟩
theorem Chg.drew (X : Nat → Prop) (w : World) : Chg X w w.drew := ⟨rfl, rfl, rfl, Nat.le_refl _, fun _ _ _ => rfl⟩
theorem Chg.alloc (X : Nat → Prop) (w : World) (o : Obj) : Chg X w (w.alloc o) :=
  ⟨rfl, rfl, rfl, by simp, fun k hk _ => Below.heap_alloc w o k hk⟩
theorem Chg.setRow {X : Nat → Prop} (w : World) (g : Nat) (cs : Array Value) (hg : g < w.heap.size → X g) : Chg X w (w.setRow g cs) :=
  ⟨rfl, rfl, rfl, by simp, fun k hk hx => setRow_other w g k cs (fun e => hx (e ▸ hg (e ▸ hk)))⟩
theorem Chg.setCell {X : Nat → Prop} (w : World) (p : Addr) (v : Value) (hg : p.block < w.heap.size → X p.block) : Chg X w (w.setCell p v) :=
  ⟨rfl, rfl, rfl, by simp, fun k hk hx => Below.heap_setCell w p v k (fun e => hx (e ▸ hg (e ▸ hk)))⟩
theorem Chg.below {B : Nat} {w w' : World} (h : Chg (fun k => B ≤ k) w w') (hB : B ≤ w.heap.size) : Below B w w' :=
  ⟨h.os, h.tape, h.output, h.size, fun k hk => h.block k (by omega) (by omega)⟩
theorem Chg.ofBelow {B : Nat} {w w' : World} (h : Below B w w') : Chg (fun k => B ≤ k) w w' :=
  ⟨h.os, h.tape, h.output, h.size, fun k _ hx => h.block k (by omega)⟩
theorem Chg.ofGrown {w w' : World} {row : Option Nat} (h : w.grownBy w' row) : Chg (fun k => some k = row) w w' :=
  ⟨h.os, h.tape, h.output, h.size, fun k hk hx => h.block k hk hx⟩

/-- Block k holds the cells l. -/
def Blk (w : World) (k : Nat) (l : List Value) (t : TypeId) : Prop := w.heap[k]? = some (.cells l.toArray t (0, 0))

theorem Blk.lt {w : World} {k : Nat} {l : List Value} {t : TypeId} (h : Blk w k l t) : k < w.heap.size :=
  (Array.getElem?_eq_some_iff.1 h).1
theorem Blk.cell {w : World} {k : Nat} {l : List Value} {t : TypeId} (h : Blk w k l t) (i : Nat) : w.cell? ⟨k, i, none⟩ = l[i]? := by
  rw [cell_of_row w k i _ t (0, 0) h]; simp
theorem Blk.free {w : World} {k : Nat} {l : List Value} {t : TypeId} (h : Blk w k l t) (i : Nat) : w.frozen? ⟨k, i, none⟩ = false :=
  frozen_of_row w k i _ t h
theorem Blk.chg {X : Nat → Prop} {w w' : World} {k : Nat} {l : List Value} {t : TypeId} (h : Blk w k l t) (c : Chg X w w') (hx : ¬ X k) : Blk w' k l t :=
  (c.block k h.lt hx).trans h
theorem Blk.inj {w : World} {k : Nat} {l l' : List Value} {t t' : TypeId} (h : Blk w k l t) (h' : Blk w k l' t') : l = l' ∧ t = t' := by
  unfold Blk at h h'; rw [h] at h'; simp at h'; exact ⟨h'.1, h'.2⟩
theorem Blk.new (w : World) (l : List Value) (t : TypeId) : Blk (w.alloc (.cells l.toArray t)) w.heap.size l t := heap_alloc_new w _
theorem Blk.newA (w : World) (c : Array Value) (t : TypeId) : Blk (w.alloc (.cells c t)) w.heap.size c.toList t := by
  unfold Blk; rw [heap_alloc_new]
theorem Blk.setRow {w : World} {k : Nat} {l : List Value} {t : TypeId} (h : Blk w k l t) (c : Array Value) : Blk (w.setRow k c) k c.toList t := by
  unfold Blk; rw [setRow_heap w k _ _ t _ h]

/-- The cells l with vs from place i on. -/
def splice (l : List Value) (i : Nat) (vs : List Value) : List Value := l.take i ++ vs ++ l.drop (i + vs.length)

theorem splice_length {l : List Value} {i : Nat} {vs : List Value} (h : i + vs.length ≤ l.length) : (splice l i vs).length = l.length := by
  simp [splice]; omega
theorem splice_below {l : List Value} {i j : Nat} {vs : List Value} (h : i + vs.length ≤ l.length) (hj : j < i) : (splice l i vs)[j]? = l[j]? := by
  unfold splice
  rw [List.append_assoc, List.getElem?_append_left (by simp; omega), List.getElem?_take_of_lt hj]
theorem splice_above {l : List Value} {i j : Nat} {vs : List Value} (h : i + vs.length ≤ l.length) (hj : i + vs.length ≤ j) : (splice l i vs)[j]? = l[j]? := by
  unfold splice
  rw [List.getElem?_append_right (by simp; omega), List.getElem?_drop]
  congr 1; simp; omega
theorem splice_seg {l : List Value} {i : Nat} {vs : List Value} (h : i + vs.length ≤ l.length) : ((splice l i vs).drop i).take vs.length = vs := by
  unfold splice
  have e : (l.take i).length = i := by simp; omega
  rw [List.append_assoc, List.drop_append_of_le_length (by omega), List.drop_of_length_le (by omega)]
  simp

/-- A run of cells that j reads behind place i. -/
theorem seg_get {l : List Value} {i n j : Nat} (hj : j < n) : ((l.drop i).take n)[j]? = l[i + j]? := by
  rw [List.getElem?_take_of_lt hj, List.getElem?_drop]

/-! ### Facts on types, as tests -/

def sizeB (P : Program) (t n : Nat) : Bool := match P.info? t with | some i => i.size == n | none => false
def scalB (P : Program) (t : Nat) : Bool := match P.underlying t with | some (.struct _) | some (.array _ _) | none => false | some _ => true
def aggB (P : Program) (t : Nat) : Bool := match P.underlying t with | some (.struct _) | some (.array _ _) => true | _ => false
def fieldB (P : Program) (T i off n : Nat) : Bool := match P.underlying T with
  | some (.struct fs) => (match fs[i]? with | some f => f.offset == off && sizeB P f.type n && decide (0 < n) | none => false)
  | _ => false

theorem sizeB_run {P : Program} {t n : Nat} (h : sizeB P t n = true) (w : World) : (sizeOf t).run P w = .ok n w := by
  unfold sizeB at h
  cases hi : P.info? t with
  | none => rw [hi] at h; cases h
  | some i => rw [hi] at h; simp at h; simp [sizeOf, typeInfo, hi, h]
theorem scalB_run {P : Program} {t : Nat} (h : scalB P t = true) (w : World) : (isAgg t).run P w = .ok false w := by
  unfold scalB at h
  cases hi : P.underlying t with
  | none => rw [hi] at h; cases h
  | some d => rw [hi] at h; cases d <;> simp [isAgg, underlying, hi] at h ⊢
theorem aggB_run {P : Program} {t : Nat} (h : aggB P t = true) (w : World) : (isAgg t).run P w = .ok true w := by
  unfold aggB at h
  cases hi : P.underlying t with
  | none => rw [hi] at h; cases h
  | some d => rw [hi] at h; cases d <;> simp [isAgg, underlying, hi] at h ⊢

theorem add_lit (b o n : Nat) : (⟨b, o, none⟩ : Addr).add n = ⟨b, o + n, none⟩ := by
  unfold Addr.add; split <;> simp_all

/-! ### A list of operations, one by one -/

/-- What wpList says; nothing looks into it. -/
structure WL (P : Program) (ops : Array Oper) (Q : Exit → Act → World → Prop) (l : List Oper) (a : Act) (w : World) : Prop where
  out : wpList P ops Q l a w

section
variable {P : Program} {ops : Array Oper} {Q : Exit → Act → World → Prop} {a : Act} {w : World} {rest : List Oper}

theorem wl_val {o : Oper} {v : Value} {w' : World} (hg : o.guard = none) (hr : (execOp a.eval o).run P w = .ok (.value v) w')
    (h : WL P ops Q rest (a.put o.dst v) w') : WL P ops Q (o :: rest) a w :=
  ⟨wpList_plain hg fun K hK => by unfold Oper.wp; rw [hr]; exact hK _ _ h.out⟩
theorem wl_skip {o : Oper} {w' : World} (hg : o.guard = none) (hr : (execOp a.eval o).run P w = .ok .skip w')
    (h : WL P ops Q rest (a.put o.dst undef) w') : WL P ops Q (o :: rest) a w :=
  ⟨wpList_plain hg fun K hK => by unfold Oper.wp; rw [hr]; exact hK _ _ h.out⟩

theorem wl_move {d : Option Nat} {x : Operand} {t : TypeId} {pos : String} {af : Array Edge}
    (h : WL P ops Q rest (a.put d (a.eval x)) w) : WL P ops Q (⟨d, .move x, t, pos, af, none⟩ :: rest) a w :=
  wl_val rfl rfl h
theorem wl_assign {d : Option Nat} {x : Operand} {t : TypeId} {pos : String} {af : Array Edge}
    (h : WL P ops Q rest (a.put d (a.eval x)) w) : WL P ops Q (⟨d, .assign x, t, pos, af, none⟩ :: rest) a w :=
  wl_val rfl rfl h
theorem wl_nilCheck {d : Option Nat} {x : Operand} {t : TypeId} {pos : String} {af : Array Edge} {p : Addr} (hx : a.eval x = .pointer (some p))
    (h : WL P ops Q rest (a.put d (.pointer (some p))) w) : WL P ops Q (⟨d, .nilCheck x, t, pos, af, none⟩ :: rest) a w :=
  wl_val rfl (by simp [execOp, hx]) h

theorem run_fieldAt {T i off n b o : Nat} (hf : fieldB P T i off n = true) : (Instr.fieldAt T (.pointer (some ⟨b, o, none⟩)) i).run P w = .ok (.pointer (some ⟨b, o + off, none⟩)) w := by
  unfold fieldB at hf
  split at hf
  · rename_i fs hu
    split at hf
    · rename_i f hi
      simp at hf
      obtain ⟨⟨h1, h2⟩, h3⟩ := hf
      have hs := sizeB_run h2 w
      simp [Instr.fieldAt, underlying, hu, hi, Instr.sureAddr, fieldPlace, hs, show n ≠ 0 by omega, add_lit, h1]
    · cases hf
  · cases hf

theorem wl_fieldAddr {d : Option Nat} {x : Operand} {t : TypeId} {pos : String} {af : Array Edge} {T i off n b o : Nat}
    (hf : fieldB P T i off n = true) (hx : a.eval x = .pointer (some ⟨b, o, none⟩))
    (h : WL P ops Q rest (a.put d (.pointer (some ⟨b, o + off, none⟩))) w) : WL P ops Q (⟨d, .fieldAddr T x i, t, pos, af, none⟩ :: rest) a w :=
  wl_val rfl (by simp only [execOp, Sem.run_bind, hx, run_fieldAt hf]; rfl) h

theorem run_loadAt {t b o : Nat} {l : List Value} {T : TypeId} {v : Value} (ht : scalB P t = true) (hb : Blk w b l T) (hv : l[o]? = some v) :
    (Instr.loadAt t (.pointer (some ⟨b, o, none⟩))).run P w = .ok v w := by
  simp [Instr.loadAt, Instr.sureAddr, loadVar, scalB_run ht, hb.cell, hv]
theorem wl_load {d : Option Nat} {x : Operand} {ty : TypeId} {pos : String} {af : Array Edge} {t b o : Nat} {l : List Value} {T : TypeId} {v : Value}
    (ht : scalB P t = true) (hx : a.eval x = .pointer (some ⟨b, o, none⟩)) (hb : Blk w b l T) (hv : l[o]? = some v)
    (h : WL P ops Q rest (a.put d v) w) : WL P ops Q (⟨d, .load t x, ty, pos, af, none⟩ :: rest) a w :=
  wl_val rfl (by simp only [execOp, Sem.run_bind, hx, run_loadAt ht hb hv]; rfl) h

theorem run_loadAt_agg {t b o n : Nat} {l : List Value} {T : TypeId} (ht : aggB P t = true) (hs : sizeB P t n = true) (hb : Blk w b l T) (hn : o + n ≤ l.length) :
    (Instr.loadAt t (.pointer (some ⟨b, o, none⟩))).run P w = .ok (.agg ((l.drop o).take n).toArray) w := by
  have hl : ((l.drop o).take n).length = n := by simp; omega
  have hc := run_loadCells_list (P := P) (w := w) ⟨b, o, none⟩ ((l.drop o).take n) (by
    intro j v hj
    have hjn : j < n := by
      have := (List.getElem?_eq_some_iff.1 hj).1; omega
    rw [add_lit, hb.cell, ← seg_get hjn]; exact hj)
  rw [hl] at hc
  simp [Instr.loadAt, Instr.sureAddr, loadVar, aggB_run ht, sizeB_run hs, hc]
theorem wl_loadAgg {d : Option Nat} {x : Operand} {ty : TypeId} {pos : String} {af : Array Edge} {t b o n : Nat} {l : List Value} {T : TypeId}
    (ht : aggB P t = true) (hs : sizeB P t n = true) (hx : a.eval x = .pointer (some ⟨b, o, none⟩)) (hb : Blk w b l T) (hn : o + n ≤ l.length)
    (h : WL P ops Q rest (a.put d (.agg ((l.drop o).take n).toArray)) w) : WL P ops Q (⟨d, .load t x, ty, pos, af, none⟩ :: rest) a w :=
  wl_val rfl (by simp only [execOp, Sem.run_bind, hx, run_loadAt_agg ht hs hb hn]; rfl) h

/-- A store of a value of whatever size: the block behind it, and nothing else turns. -/
theorem run_storeAt {t b o n : Nat} {l : List Value} {T : TypeId} {v : Value} (hs : sizeB P t n = true) (hb : Blk w b l T) (hv : v.cells.size = n) (h1 : ∀ x ∈ v.cells.toList, x.oneCell' = true) (hn : o + n ≤ l.length) :
    ∃ w', (Instr.storeAt t (.pointer (some ⟨b, o, none⟩)) v).run P w = .ok () w' ∧ Blk w' b (splice l o v.cells.toList) T ∧ Chg (fun k => k = b) w w' := by
  have hst := run_storeCells_at (P := P) b o T v.cells.toList 0 l.toArray w hb (by simp; omega) h1
  refine ⟨_, ?_, hb.setRow _, Chg.setRow w b _ fun _ => rfl⟩
  · simp [Instr.storeAt, Instr.sureAddr, storeVar, sizeB_run hs, hv, hst]
theorem wl_store {d : Option Nat} {x y : Operand} {ty : TypeId} {pos : String} {af : Array Edge} {t b o n : Nat} {l : List Value} {T : TypeId} {v : Value}
    (hs : sizeB P t n = true) (hx : a.eval x = .pointer (some ⟨b, o, none⟩)) (hy : a.eval y = v) (hb : Blk w b l T) (hv : v.cells.size = n) (h1 : ∀ x ∈ v.cells.toList, x.oneCell' = true) (hn : o + n ≤ l.length)
    (h : ∀ w', Blk w' b (splice l o v.cells.toList) T → Chg (fun k => k = b) w w' → WL P ops Q rest (a.put d undef) w') :
    WL P ops Q (⟨d, .store t x y, ty, pos, af, none⟩ :: rest) a w := by
  obtain ⟨w', hr, h2, h3⟩ := run_storeAt (P := P) hs hb hv h1 hn
  exact wl_skip rfl (by simp only [execOp, Sem.run_bind, hx, hy, hr]; rfl) (h w' h2 h3)
end

/-! ### Calls -/

/-- Function f is called by entering its body. -/
def Enters (P : Program) (f : FuncId) : Prop := ∀ args w, (callFunc f args).run P w = .ok (.enter f args) w

/-- A call that returns, with what is said of the value and the world. -/
def CallsR (P : Program) (f : FuncId) (args : Array Value) (w : World) (R : Value → World → Prop) : Prop :=
  Calls P f args w fun e w' => ∃ v, e = .returned v ∧ R v w'

theorem CallsR.mono {P : Program} {f : FuncId} {args : Array Value} {w : World} {R R' : Value → World → Prop} (h : CallsR P f args w R) (k : ∀ v w', R v w' → R' v w') : CallsR P f args w R' :=
  Calls.mono h fun _ _ ⟨v, e, r⟩ => ⟨v, e, k v _ r⟩

theorem wl_enter {P : Program} {ops : Array Oper} {Q : Exit → Act → World → Prop} {a : Act} {w : World} {rest : List Oper} {o : Oper} {f : FuncId} {args : Array Value} {R : Value → World → Prop}
    (hg : o.guard = none) (hr : (execOp a.eval o).run P w = .ok (.enter f args) w) (hc : CallsR P f args w R)
    (h : ∀ v w', R v w' → WL P ops Q rest (a.put o.dst v) w') : WL P ops Q (o :: rest) a w :=
  ⟨wpList_plain hg fun K hK => by
    unfold Oper.wp
    rw [hr, Oper.upon_enter]
    refine Calls.mono hc ?_
    rintro e w' ⟨v, rfl, r⟩
    exact hK _ _ (h v w' r).out⟩

theorem run_call {P : Program} {ρ : Operand → Value} {w : World} {d : Option Nat} {f : FuncId} {xs : Array Operand} {ts : Array TypeId} {ty : TypeId} {pos : String} {af : Array Edge} {g : Option (Nat × Bool)}
    (hf : Enters P f) (hρ : ρ (.func f) = .func (.func f) #[] #[]) :
    (execOp ρ ⟨d, .call { callee := .value (.func f), args := xs, argTypes := ts }, ty, pos, af, g⟩).run P w = .ok (.enter f (xs.map ρ)) w := by
  simp [execOp, resolve, hρ, Deferred.ofValue, invoke, hf (xs.map ρ) w]

theorem wl_call {P : Program} {ops : Array Oper} {Q : Exit → Act → World → Prop} {a : Act} {w : World} {rest : List Oper} {d : Option Nat} {f : FuncId} {xs : Array Operand} {ts : Array TypeId} {ty : TypeId} {pos : String} {af : Array Edge} {R : Value → World → Prop}
    (hf : Enters P f) (hc : CallsR P f (xs.map a.eval) w R) (h : ∀ v w', R v w' → WL P ops Q rest (a.put d v) w') :
    WL P ops Q (⟨d, .call { callee := .value (.func f), args := xs, argTypes := ts }, ty, pos, af, none⟩ :: rest) a w :=
  wl_enter rfl (run_call hf rfl) hc h

/-! ### Code -/

/-- The end of a function with one result. -/
def Fin (r : Nat) (R : Value → World → Prop) : Exit → Act → World → Prop
  | .normal, a, w | .ret, a, w => a.defers = [] ∧ R (get a r) w
  | _, _, _ => False
def Fin2 (r s : Nat) (R : Value → World → Prop) : Exit → Act → World → Prop
  | .normal, a, w | .ret, a, w => a.defers = [] ∧ R (.tuple #[get a r, get a s]) w
  | _, _, _ => False
def Fin0 (R : Value → World → Prop) : Exit → Act → World → Prop
  | .normal, a, w | .ret, a, w => a.defers = [] ∧ R (.tuple #[]) w
  | _, _, _ => False

/-- A function's frame at its beginning. -/
def Start (fn : Func) (args : Array Value) : Act := { tmps := args ++ Array.replicate (fn.ntmps - args.size) undef, defers := [] }

theorem start_size {fn : Func} {args : Array Value} {n : Nat} (hn : fn.ntmps = n) (h : args.size ≤ n) : (Start fn args).tmps.size = n := by
  simp [Start]; omega
theorem start_get {fn : Func} {args : Array Value} {i : Nat} {v : Value} (h : args[i]? = some v) : get (Start fn args) i = v := by
  have hi := (Array.getElem?_eq_some_iff.1 h).1
  simp [get, Start, Array.getElem?_append_left hi, h]

theorem callsR_of {P : Program} {f : FuncId} {fn : Func} {c : Code} {args : Array Value} {w : World} {R : Value → World → Prop} {r n : Nat}
    (hf : P.funcs[f]? = some fn) (hb : fn.body = some c) (hr : fn.results = #[.tmp r]) (hn : fn.ntmps = n) (hs : args.size ≤ n)
    (h : ∀ a : Act, a.tmps.size = n → a.defers = [] → (∀ i v, args[i]? = some v → get a i = v) → c.wp P (Fin r R) a w) : CallsR P f args w R := by
  refine calls_of_wp hf hb ?_
  refine wp_mono (h (Start fn args) (start_size hn hs) rfl fun i v => start_get) ?_
  intro e a w' hq
  cases e <;> simp only [Fin] at hq
  · exact ⟨hq.1, _, results_tmp hr _ _ _, _, rfl, hq.2⟩
  · exact ⟨hq.1, _, results_tmp hr _ _ _, _, rfl, hq.2⟩
theorem callsR_of2 {P : Program} {f : FuncId} {fn : Func} {c : Code} {args : Array Value} {w : World} {R : Value → World → Prop} {r s n : Nat}
    (hf : P.funcs[f]? = some fn) (hb : fn.body = some c) (hr : fn.results = #[.tmp r, .tmp s]) (hn : fn.ntmps = n) (hs : args.size ≤ n)
    (h : ∀ a : Act, a.tmps.size = n → a.defers = [] → (∀ i v, args[i]? = some v → get a i = v) → c.wp P (Fin2 r s R) a w) : CallsR P f args w R := by
  refine calls_of_wp hf hb ?_
  refine wp_mono (h (Start fn args) (start_size hn hs) rfl fun i v => start_get) ?_
  intro e a w' hq
  cases e <;> simp only [Fin2] at hq
  · exact ⟨hq.1, _, results_tmp2 hr _ _ _, _, rfl, hq.2⟩
  · exact ⟨hq.1, _, results_tmp2 hr _ _ _, _, rfl, hq.2⟩
theorem callsR_of0 {P : Program} {f : FuncId} {fn : Func} {c : Code} {args : Array Value} {w : World} {R : Value → World → Prop} {n : Nat}
    (hf : P.funcs[f]? = some fn) (hb : fn.body = some c) (hr : fn.results = #[]) (hn : fn.ntmps = n) (hs : args.size ≤ n)
    (h : ∀ a : Act, a.tmps.size = n → a.defers = [] → (∀ i v, args[i]? = some v → get a i = v) → c.wp P (Fin0 R) a w) : CallsR P f args w R := by
  refine calls_of_wp hf hb ?_
  refine wp_mono (h (Start fn args) (start_size hn hs) rfl fun i v => start_get) ?_
  intro e a w' hq
  cases e <;> simp only [Fin0] at hq
  · exact ⟨hq.1, _, results_none hr _ _ _, _, rfl, hq.2⟩
  · exact ⟨hq.1, _, results_none hr _ _ _, _, rfl, hq.2⟩

theorem get_put {a : Act} {d t : Nat} {v : Value} (h : d < a.tmps.size) : get (a.put (some d) v) t = if d = t then v else get a t := by
  split
  · rename_i e; subst e; exact get_put_self h
  · exact get_put_ne ‹_›

theorem wp_reg {P : Program} {id : Nat} {l : List Oper} {Q : Exit → Act → World → Prop} {a : Act} {w : World} (h : WL P l.toArray Q l a w) : (Code.region id l.toArray false).wp P Q a w := wp_region_lit h.out

theorem wp_cut {P : Program} {x y : Code} {Q : Exit → Act → World → Prop} {a : Act} {w : World} (M : Act → World → Prop) (hx : x.wp P (Exit.then M Q) a w) (hy : ∀ a w, M a w → y.wp P Q a w) : (Code.seq x y).wp P Q a w := by
  refine wp_seq (wp_mono hx ?_)
  intro e a w h
  cases e <;> first | exact hy _ _ h | exact h

theorem wl_nil {P : Program} {ops : Array Oper} {Q : Exit → Act → World → Prop} {a : Act} {w : World} (h : Q .normal a w) : WL P ops Q [] a w := ⟨h⟩

end Go.Proofs.Ytkhmglikdlgfpaa

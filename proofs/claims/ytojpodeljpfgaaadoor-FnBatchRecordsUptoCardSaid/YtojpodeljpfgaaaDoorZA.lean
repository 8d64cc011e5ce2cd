import Derived.Laws.OwnMore
import Derived.Below
import Derived.Tactics
import Derived.KernelRfl
import Derived.OrdersHeld
import Derived.Test.YtojpodeljpfgaaaDoorProg
import Derived.Laws.Small
import Derived.Laws.Rows
import Derived.Laws.Tables
import Derived.Lib.AppendStr
/-
What the proofs of the laws rest on, part ZA.
-/
namespace Go.Proofs.YtojpodeljpfgaaaDoor
set_option linter.all false
open Go.RowKit
def get (a : Act) (t : Nat) : Value := a.tmps.getD t undef
theorem eval_tmp (a : Act) (t : Nat) : a.eval (.tmp t) = get a t := rfl
theorem eval_const (a : Act) (v : Value) : a.eval (.const v) = v := rfl
theorem eval_func (a : Act) (f : Nat) : a.eval (.func f) = .func (.func f) #[] #[] := rfl
theorem eval_global (a : Act) (g : Nat) : a.eval (.global g) = .pointer (some ⟨g, 0, none⟩) := rfl
theorem get_put_self {a : Act} {t : Nat} {v : Value} (h : t < a.tmps.size) : get (a.put (some t) v) t = v := by
  simp [get, Act.put, h]
theorem zaq {a : Act} {t u : Nat} {v : Value} (h : u ≠ t) : get (a.put (some u) v) t = get a t := by
  simp [get, Act.put, Array.getElem?_setIfInBounds, h]
theorem put_none (a : Act) (v : Value) : a.put none v = a := rfl
theorem zaf (a : Act) (d : Option Nat) (v : Value) : (a.put d v).tmps.size = a.tmps.size := by
  cases d <;> simp [Act.put]
theorem zab (a : Act) (d : Option Nat) (v : Value) : (a.put d v).defers = a.defers := by
  cases d <;> rfl
structure Keeps (S : Nat → Prop) (a a' : Act) : Prop where
  size : a'.tmps.size = a.tmps.size
  defers : a'.defers = a.defers
  slot : ∀ t, S t → get a' t = get a t
theorem Keeps.refl (S : Nat → Prop) (a : Act) : Keeps S a a := ⟨rfl, rfl, fun _ _ => rfl⟩
theorem Keeps.trans {S : Nat → Prop} {a b c : Act} (h : Keeps S a b) (k : Keeps S b c) : Keeps S a c :=
  ⟨k.size.trans h.size, k.defers.trans h.defers, fun t ht => (k.slot t ht).trans (h.slot t ht)⟩
theorem Keeps.mono {S S' : Nat → Prop} {a b : Act} (h : Keeps S a b) (hn : ∀ t, S' t → S t) : Keeps S' a b :=
  ⟨h.size, h.defers, fun t ht => h.slot t (hn t ht)⟩
theorem Keeps.put {S : Nat → Prop} {a b : Act} (h : Keeps S a b) {d : Nat} (hd : ¬ S d) (v : Value) : Keeps S a (b.put (some d) v) :=
  ⟨(zaf _ _ _).trans h.size, (zab _ _ _).trans h.defers, fun t ht => (zaq (show d ≠ t from fun e => by subst e; exact hd ht)).trans (h.slot t ht)⟩
structure Chg (X : Nat → Prop) (w w' : World) : Prop where
  os : w'.os = w.os
  tape : w'.tape = w.tape
  output : w'.output = w.output
  size : w.heap.size ≤ w'.heap.size
  block : ∀ k, k < w.heap.size → ¬ X k → w'.heap[k]? = w.heap[k]?
theorem Chg.refl (X : Nat → Prop) (w : World) : Chg X w w := ⟨rfl, rfl, rfl, Nat.le_refl _, fun _ _ _ => rfl⟩
theorem Chg.trans {X Y : Nat → Prop} {a b c : World} (h : Chg X a b) (k : Chg Y b c) (hy : ∀ n, n < a.heap.size → Y n → X n) : Chg X a c :=
  ⟨k.os.trans h.os, k.tape.trans h.tape, k.output.trans h.output, Nat.le_trans h.size k.size,
    fun n hn hx => (k.block n (Nat.lt_of_lt_of_le hn h.size) (fun y => hx (hy n hn y))).trans (h.block n hn hx)⟩
theorem Chg.mono {X Y : Nat → Prop} {a b : World} (h : Chg X a b) (hy : ∀ n, n < a.heap.size → X n → Y n) : Chg Y a b :=
  ⟨h.os, h.tape, h.output, h.size, fun n hn hx => h.block n hn (fun y => hx (hy n hn y))⟩
theorem Chg.drew (X : Nat → Prop) (w : World) : Chg X w w.drew := ⟨rfl, rfl, rfl, Nat.le_refl _, fun _ _ _ => rfl⟩
theorem Chg.alloc (X : Nat → Prop) (w : World) (o : Obj) : Chg X w (w.alloc o) :=
  ⟨rfl, rfl, rfl, by simp, fun k hk _ => Below.heap_alloc w o k hk⟩
theorem Chg.setRow {X : Nat → Prop} (w : World) (g : Nat) (cs : Array Value) (hg : g < w.heap.size → X g) : Chg X w (w.setRow g cs) :=
  ⟨rfl, rfl, rfl, by simp, fun k hk hx => setRow_other w g k cs (fun e => hx (e ▸ hg (e ▸ hk)))⟩
theorem Chg.below {B : Nat} {w w' : World} (h : Chg (fun k => B ≤ k) w w') (hB : B ≤ w.heap.size) : Below B w w' :=
  ⟨h.os, h.tape, h.output, h.size, fun k hk => h.block k (by omega) (by omega)⟩
theorem Chg.ofGrown {w w' : World} {row : Option Nat} (h : w.grownBy w' row) : Chg (fun k => some k = row) w w' :=
  ⟨h.os, h.tape, h.output, h.size, fun k hk hx => h.block k hk hx⟩
def Blk (w : World) (k : Nat) (l : List Value) (t : TypeId) : Prop := w.heap[k]? = some (.cells l.toArray t (0, 0))
theorem Blk.lt {w : World} {k : Nat} {l : List Value} {t : TypeId} (h : Blk w k l t) : k < w.heap.size :=
  (Array.getElem?_eq_some_iff.1 h).1
theorem Blk.cell {w : World} {k : Nat} {l : List Value} {t : TypeId} (h : Blk w k l t) (i : Nat) : w.cell? ⟨k, i, none⟩ = l[i]? := by
  rw [cell_of_row w k i _ t (0, 0) h]; simp
theorem Blk.free {w : World} {k : Nat} {l : List Value} {t : TypeId} (h : Blk w k l t) (i : Nat) : w.frozen? ⟨k, i, none⟩ = false :=
  frozen_of_row w k i _ t h
theorem Blk.chg {X : Nat → Prop} {w w' : World} {k : Nat} {l : List Value} {t : TypeId} (h : Blk w k l t) (c : Chg X w w') (hx : ¬ X k) : Blk w' k l t :=
  (c.block k h.lt hx).trans h
theorem Blk.inj {w : World} {k : Nat} {l l' : List Value} {t t' : TypeId} (h : Blk w k l t) (h' : Blk w k l' t') : l = l' ∧ t = t' := by
  unfold Blk at h h'; rw [h] at h'; simp at h'; exact ⟨h'.1, h'.2⟩
theorem Blk.new (w : World) (l : List Value) (t : TypeId) : Blk (w.alloc (.cells l.toArray t)) w.heap.size l t := heap_alloc_new w _
theorem Blk.newA (w : World) (c : Array Value) (t : TypeId) : Blk (w.alloc (.cells c t)) w.heap.size c.toList t := by
  unfold Blk; rw [heap_alloc_new]
theorem Blk.setRow {w : World} {k : Nat} {l : List Value} {t : TypeId} (h : Blk w k l t) (c : Array Value) : Blk (w.setRow k c) k c.toList t := by
  unfold Blk; rw [setRow_heap w k _ _ t _ h]
def Rbk (w : World) (k : Nat) (l : List Value) (t : TypeId) : Prop := ∃ fz, w.heap[k]? = some (.cells l.toArray t fz)
theorem Blk.r {w : World} {k : Nat} {l : List Value} {t : TypeId} (h : Blk w k l t) : Rbk w k l t := ⟨_, h⟩
theorem Rbk.lt {w : World} {k : Nat} {l : List Value} {t : TypeId} (h : Rbk w k l t) : k < w.heap.size := by
  obtain ⟨fz, h⟩ := h; exact (Array.getElem?_eq_some_iff.1 h).1
theorem Rbk.cell {w : World} {k : Nat} {l : List Value} {t : TypeId} (h : Rbk w k l t) (i : Nat) : w.cell? ⟨k, i, none⟩ = l[i]? := by
  obtain ⟨fz, h⟩ := h
  rw [cell_of_row w k i _ t fz h]; simp
theorem Rbk.chg {X : Nat → Prop} {w w' : World} {k : Nat} {l : List Value} {t : TypeId} (h : Rbk w k l t) (c : Chg X w w') (hx : ¬ X k) : Rbk w' k l t := by
  have hl := h.lt
  obtain ⟨fz, h⟩ := h
  exact ⟨fz, (c.block k hl hx).trans h⟩
theorem Rbk.inj {w : World} {k : Nat} {l l' : List Value} {t t' : TypeId} (h : Rbk w k l t) (h' : Rbk w k l' t') : l = l' ∧ t = t' := by
  obtain ⟨fz, h⟩ := h
  obtain ⟨fz', h'⟩ := h'
  rw [h] at h'; simp at h'; exact ⟨h'.1, h'.2.1⟩
def zaM (l : List Value) (i : Nat) (vs : List Value) : List Value := l.take i ++ vs ++ l.drop (i + vs.length)
theorem splice_length {l : List Value} {i : Nat} {vs : List Value} (h : i + vs.length ≤ l.length) : (zaM l i vs).length = l.length := by
  simp [zaM]; omega
theorem seg_get {l : List Value} {i n j : Nat} (hj : j < n) : ((l.drop i).take n)[j]? = l[i + j]? := by
  rw [List.getElem?_take_of_lt hj, List.getElem?_drop]
def sizeB (P : Program) (t n : Nat) : Bool := match P.info? t with | some i => i.size == n | none => false
def scalB (P : Program) (t : Nat) : Bool := match P.underlying t with | some (.struct _) | some (.array _ _) | none => false | some _ => true
def aggB (P : Program) (t : Nat) : Bool := match P.underlying t with | some (.struct _) | some (.array _ _) => true | _ => false
def fieldB (P : Program) (T i off n : Nat) : Bool := match P.underlying T with
  | some (.struct fs) => (match fs[i]? with | some f => f.offset == off && sizeB P f.type n && decide (0 < n) | none => false)
  | _ => false
theorem sizeB_run {P : Program} {t n : Nat} (h : sizeB P t n = true) (w : World) : (sizeOf t).run P w = .ok n w := by
  unfold sizeB at h
  cases hi : P.info? t with
  | none => rw [hi] at h; cases h
  | some i => rw [hi] at h; simp at h; simp [sizeOf, typeInfo, hi, h]
theorem scalB_run {P : Program} {t : Nat} (h : scalB P t = true) (w : World) : (isAgg t).run P w = .ok false w := by
  unfold scalB at h
  cases hi : P.underlying t with
  | none => rw [hi] at h; cases h
  | some d => rw [hi] at h; cases d <;> simp [isAgg, underlying, hi] at h ⊢
theorem aggB_run {P : Program} {t : Nat} (h : aggB P t = true) (w : World) : (isAgg t).run P w = .ok true w := by
  unfold aggB at h
  cases hi : P.underlying t with
  | none => rw [hi] at h; cases h
  | some d => rw [hi] at h; cases d <;> simp [isAgg, underlying, hi] at h ⊢
theorem add_lit (b o n : Nat) : (⟨b, o, none⟩ : Addr).add n = ⟨b, o + n, none⟩ := by
  unfold Addr.add; split <;> simp_all
structure WL (P : Program) (ops : Array Oper) (Q : Exit → Act → World → Prop) (l : List Oper) (a : Act) (w : World) : Prop where
  out : wpList P ops Q l a w
section
variable {P : Program} {ops : Array Oper} {Q : Exit → Act → World → Prop} {a : Act} {w : World} {rest : List Oper}
theorem zaK {o : Oper} {v : Value} {w' : World} (hg : o.guard = none) (hr : (execOp a.eval o).run P w = .ok (.value v) w')
    (h : WL P ops Q rest (a.put o.dst v) w') : WL P ops Q (o :: rest) a w :=
  ⟨wpList_plain hg fun K hK => by unfold Oper.wp; rw [hr]; exact hK _ _ h.out⟩
theorem wl_skip {o : Oper} {w' : World} (hg : o.guard = none) (hr : (execOp a.eval o).run P w = .ok .skip w')
    (h : WL P ops Q rest (a.put o.dst undef) w') : WL P ops Q (o :: rest) a w :=
  ⟨wpList_plain hg fun K hK => by unfold Oper.wp; rw [hr]; exact hK _ _ h.out⟩
theorem wl_move {d : Option Nat} {x : Operand} {t : TypeId} {pos : String} {af : Array Edge}
    (h : WL P ops Q rest (a.put d (a.eval x)) w) : WL P ops Q (⟨d, .move x, t, pos, af, none⟩ :: rest) a w :=
  zaK rfl rfl h
theorem zaF {d : Option Nat} {x : Operand} {t : TypeId} {pos : String} {af : Array Edge}
    (h : WL P ops Q rest (a.put d (a.eval x)) w) : WL P ops Q (⟨d, .assign x, t, pos, af, none⟩ :: rest) a w :=
  zaK rfl rfl h
theorem wl_nilCheck {d : Option Nat} {x : Operand} {t : TypeId} {pos : String} {af : Array Edge} {p : Addr} (hx : a.eval x = .pointer (some p))
    (h : WL P ops Q rest (a.put d (.pointer (some p))) w) : WL P ops Q (⟨d, .nilCheck x, t, pos, af, none⟩ :: rest) a w :=
  zaK rfl (by simp [execOp, hx]) h
theorem run_fieldAt {T i off n b o : Nat} (hf : fieldB P T i off n = true) : (Instr.fieldAt T (.pointer (some ⟨b, o, none⟩)) i).run P w = .ok (.pointer (some ⟨b, o + off, none⟩)) w := by
  unfold fieldB at hf
  split at hf
  · rename_i fs hu
    split at hf
    · rename_i f hi
      simp at hf
      obtain ⟨⟨h1, h2⟩, h3⟩ := hf
      have hs := sizeB_run h2 w
      simp [Instr.fieldAt, underlying, hu, hi, Instr.sureAddr, fieldPlace, hs, show n ≠ 0 by omega, add_lit, h1]
    · cases hf
  · cases hf
theorem wl_fieldAddr {d : Option Nat} {x : Operand} {t : TypeId} {pos : String} {af : Array Edge} {T i off n b o : Nat}
    (hf : fieldB P T i off n = true) (hx : a.eval x = .pointer (some ⟨b, o, none⟩))
    (h : WL P ops Q rest (a.put d (.pointer (some ⟨b, o + off, none⟩))) w) : WL P ops Q (⟨d, .fieldAddr T x i, t, pos, af, none⟩ :: rest) a w :=
  zaK rfl (by simp only [execOp, Sem.run_bind, hx, run_fieldAt hf]; rfl) h
theorem run_loadAt {t b o : Nat} {l : List Value} {T : TypeId} {v : Value} (ht : scalB P t = true) (hb : Blk w b l T) (hv : l[o]? = some v) :
    (Instr.loadAt t (.pointer (some ⟨b, o, none⟩))).run P w = .ok v w := by
  simp [Instr.loadAt, Instr.sureAddr, loadVar, scalB_run ht, hb.cell, hv]
theorem run_loadAt_agg {t b o n : Nat} {l : List Value} {T : TypeId} (ht : aggB P t = true) (hs : sizeB P t n = true) (hb : Blk w b l T) (hn : o + n ≤ l.length) :
    (Instr.loadAt t (.pointer (some ⟨b, o, none⟩))).run P w = .ok (.agg ((l.drop o).take n).toArray) w := by
  have hl : ((l.drop o).take n).length = n := by simp; omega
  have hc := run_loadCells_list (P := P) (w := w) ⟨b, o, none⟩ ((l.drop o).take n) (by
    intro j v hj
    have hjn : j < n := by
      have := (List.getElem?_eq_some_iff.1 hj).1; omega
    rw [add_lit, hb.cell, ← seg_get hjn]; exact hj)
  rw [hl] at hc
  simp [Instr.loadAt, Instr.sureAddr, loadVar, aggB_run ht, sizeB_run hs, hc]
theorem zay {d : Option Nat} {x : Operand} {ty : TypeId} {pos : String} {af : Array Edge} {t b o n : Nat} {l : List Value} {T : TypeId}
    (ht : aggB P t = true) (hs : sizeB P t n = true) (hx : a.eval x = .pointer (some ⟨b, o, none⟩)) (hb : Blk w b l T) (hn : o + n ≤ l.length)
    (h : WL P ops Q rest (a.put d (.agg ((l.drop o).take n).toArray)) w) : WL P ops Q (⟨d, .load t x, ty, pos, af, none⟩ :: rest) a w :=
  zaK rfl (by simp only [execOp, Sem.run_bind, hx, run_loadAt_agg ht hs hb hn]; rfl) h
theorem run_storeAt {t b o n : Nat} {l : List Value} {T : TypeId} {v : Value} (hs : sizeB P t n = true) (hb : Blk w b l T) (hv : v.cells.size = n) (h1 : ∀ x ∈ v.cells.toList, x.oneCell' = true) (hn : o + n ≤ l.length) :
    ∃ w', (Instr.storeAt t (.pointer (some ⟨b, o, none⟩)) v).run P w = .ok () w' ∧ Blk w' b (zaM l o v.cells.toList) T ∧ Chg (fun k => k = b) w w' := by
  have hst := run_storeCells_at (P := P) b o T v.cells.toList 0 l.toArray w hb (by simp; omega) h1
  refine ⟨_, ?_, hb.setRow _, Chg.setRow w b _ fun _ => rfl⟩
  · simp [Instr.storeAt, Instr.sureAddr, storeVar, sizeB_run hs, hv, hst]
theorem run_loadAt_r {t b o : Nat} {l : List Value} {T : TypeId} {v : Value} (ht : scalB P t = true) (hb : Rbk w b l T) (hv : l[o]? = some v) :
    (Instr.loadAt t (.pointer (some ⟨b, o, none⟩))).run P w = .ok v w := by
  simp [Instr.loadAt, Instr.sureAddr, loadVar, scalB_run ht, hb.cell, hv]
theorem run_loadAgg_r {t b o n : Nat} {l : List Value} {T : TypeId} (ht : aggB P t = true) (hs : sizeB P t n = true) (hb : Rbk w b l T) (hn : o + n ≤ l.length) :
    (Instr.loadAt t (.pointer (some ⟨b, o, none⟩))).run P w = .ok (.agg ((l.drop o).take n).toArray) w := by
  have hl : ((l.drop o).take n).length = n := by simp; omega
  have hc := run_loadCells_list (P := P) (w := w) ⟨b, o, none⟩ ((l.drop o).take n) (by
    intro j v hj
    have hjn : j < n := by
      have := (List.getElem?_eq_some_iff.1 hj).1; omega
    rw [add_lit, hb.cell, ← seg_get hjn]; exact hj)
  rw [hl] at hc
  simp [Instr.loadAt, Instr.sureAddr, loadVar, aggB_run ht, sizeB_run hs, hc]
theorem wl_loadAgg_r {d : Option Nat} {x : Operand} {ty : TypeId} {pos : String} {af : Array Edge} {t b o n : Nat} {l : List Value} {T : TypeId}
    (ht : aggB P t = true) (hs : sizeB P t n = true) (hx : a.eval x = .pointer (some ⟨b, o, none⟩)) (hb : Rbk w b l T) (hn : o + n ≤ l.length)
    (h : WL P ops Q rest (a.put d (.agg ((l.drop o).take n).toArray)) w) : WL P ops Q (⟨d, .load t x, ty, pos, af, none⟩ :: rest) a w :=
  zaK rfl (by simp only [execOp, Sem.run_bind, hx, run_loadAgg_r ht hs hb hn]; rfl) h
theorem zap {d : Option Nat} {x y : Operand} {ty : TypeId} {pos : String} {af : Array Edge} {t b o n : Nat} {l : List Value} {T : TypeId} {v : Value}
    (hs : sizeB P t n = true) (hx : a.eval x = .pointer (some ⟨b, o, none⟩)) (hy : a.eval y = v) (hb : Blk w b l T) (hv : v.cells.size = n) (h1 : ∀ x ∈ v.cells.toList, x.oneCell' = true) (hn : o + n ≤ l.length)
    (h : ∀ w', Blk w' b (zaM l o v.cells.toList) T → Chg (fun k => k = b) w w' → WL P ops Q rest (a.put d undef) w') :
    WL P ops Q (⟨d, .store t x y, ty, pos, af, none⟩ :: rest) a w := by
  obtain ⟨w', hr, h2, h3⟩ := run_storeAt (P := P) hs hb hv h1 hn
  exact wl_skip rfl (by simp only [execOp, Sem.run_bind, hx, hy, hr]; rfl) (h w' h2 h3)
end
def Enters (P : Program) (f : FuncId) : Prop := ∀ args w, (callFunc f args).run P w = .ok (.enter f args) w
def zan (P : Program) (f : FuncId) (args : Array Value) (w : World) (R : Value → World → Prop) : Prop :=
  Calls P f args w fun e w' => ∃ v, e = .returned v ∧ R v w'
theorem zan.mono {P : Program} {f : FuncId} {args : Array Value} {w : World} {R R' : Value → World → Prop} (h : zan P f args w R) (k : ∀ v w', R v w' → R' v w') : zan P f args w R' :=
  Calls.mono h fun _ _ ⟨v, e, r⟩ => ⟨v, e, k v _ r⟩
theorem wl_enter {P : Program} {ops : Array Oper} {Q : Exit → Act → World → Prop} {a : Act} {w : World} {rest : List Oper} {o : Oper} {f : FuncId} {args : Array Value} {R : Value → World → Prop}
    (hg : o.guard = none) (hr : (execOp a.eval o).run P w = .ok (.enter f args) w) (hc : zan P f args w R)
    (h : ∀ v w', R v w' → WL P ops Q rest (a.put o.dst v) w') : WL P ops Q (o :: rest) a w :=
  ⟨wpList_plain hg fun K hK => by
    unfold Oper.wp
    rw [hr, Oper.upon_enter]
    refine Calls.mono hc ?_
    rintro e w' ⟨v, rfl, r⟩
    exact hK _ _ (h v w' r).out⟩
theorem run_call {P : Program} {ρ : Operand → Value} {w : World} {d : Option Nat} {f : FuncId} {xs : Array Operand} {ts : Array TypeId} {ty : TypeId} {pos : String} {af : Array Edge} {g : Option (Nat × Bool)}
    (hf : Enters P f) (hρ : ρ (.func f) = .func (.func f) #[] #[]) :
    (execOp ρ ⟨d, .call { callee := .value (.func f), args := xs, argTypes := ts }, ty, pos, af, g⟩).run P w = .ok (.enter f (xs.map ρ)) w := by
  simp [execOp, resolve, hρ, Deferred.ofValue, invoke, hf (xs.map ρ) w]
theorem zak {P : Program} {ops : Array Oper} {Q : Exit → Act → World → Prop} {a : Act} {w : World} {rest : List Oper} {d : Option Nat} {f : FuncId} {xs : Array Operand} {ts : Array TypeId} {ty : TypeId} {pos : String} {af : Array Edge} {R : Value → World → Prop}
    (hf : Enters P f) (hc : zan P f (xs.map a.eval) w R) (h : ∀ v w', R v w' → WL P ops Q rest (a.put d v) w') :
    WL P ops Q (⟨d, .call { callee := .value (.func f), args := xs, argTypes := ts }, ty, pos, af, none⟩ :: rest) a w :=
  wl_enter rfl (run_call hf rfl) hc h
def Fin (r : Nat) (R : Value → World → Prop) : Exit → Act → World → Prop
  | .normal, a, w | .ret, a, w => a.defers = [] ∧ R (get a r) w
  | _, _, _ => False
def Fin2 (r s : Nat) (R : Value → World → Prop) : Exit → Act → World → Prop
  | .normal, a, w | .ret, a, w => a.defers = [] ∧ R (.tuple #[get a r, get a s]) w
  | _, _, _ => False
def Fin0 (R : Value → World → Prop) : Exit → Act → World → Prop
  | .normal, a, w | .ret, a, w => a.defers = [] ∧ R (.tuple #[]) w
  | _, _, _ => False
def Start (fn : Func) (args : Array Value) : Act := { tmps := args ++ Array.replicate (fn.ntmps - args.size) undef, defers := [] }
theorem start_size {fn : Func} {args : Array Value} {n : Nat} (hn : fn.ntmps = n) (h : args.size ≤ n) : (Start fn args).tmps.size = n := by
  simp [Start]; omega
theorem start_get {fn : Func} {args : Array Value} {i : Nat} {v : Value} (h : args[i]? = some v) : get (Start fn args) i = v := by
  have hi := (Array.getElem?_eq_some_iff.1 h).1
  simp [get, Start, Array.getElem?_append_left hi, h]
theorem zaj {P : Program} {f : FuncId} {fn : Func} {c : Code} {args : Array Value} {w : World} {R : Value → World → Prop} {r n : Nat}
    (hf : P.funcs[f]? = some fn) (hb : fn.body = some c) (hr : fn.results = #[.tmp r]) (hn : fn.ntmps = n) (hs : args.size ≤ n)
    (h : ∀ a : Act, a.tmps.size = n → a.defers = [] → (∀ i v, args[i]? = some v → get a i = v) → c.wp P (Fin r R) a w) : zan P f args w R := by
  refine calls_of_wp hf hb ?_
  refine wp_mono (h (Start fn args) (start_size hn hs) rfl fun i v => start_get) ?_
  intro e a w' hq
  cases e <;> simp only [Fin] at hq
  · exact ⟨hq.1, _, results_tmp hr _ _ _, _, rfl, hq.2⟩
  · exact ⟨hq.1, _, results_tmp hr _ _ _, _, rfl, hq.2⟩
theorem callsR_of2 {P : Program} {f : FuncId} {fn : Func} {c : Code} {args : Array Value} {w : World} {R : Value → World → Prop} {r s n : Nat}
    (hf : P.funcs[f]? = some fn) (hb : fn.body = some c) (hr : fn.results = #[.tmp r, .tmp s]) (hn : fn.ntmps = n) (hs : args.size ≤ n)
    (h : ∀ a : Act, a.tmps.size = n → a.defers = [] → (∀ i v, args[i]? = some v → get a i = v) → c.wp P (Fin2 r s R) a w) : zan P f args w R := by
  refine calls_of_wp hf hb ?_
  refine wp_mono (h (Start fn args) (start_size hn hs) rfl fun i v => start_get) ?_
  intro e a w' hq
  cases e <;> simp only [Fin2] at hq
  · exact ⟨hq.1, _, results_tmp2 hr _ _ _, _, rfl, hq.2⟩
  · exact ⟨hq.1, _, results_tmp2 hr _ _ _, _, rfl, hq.2⟩
theorem callsR_of0 {P : Program} {f : FuncId} {fn : Func} {c : Code} {args : Array Value} {w : World} {R : Value → World → Prop} {n : Nat}
    (hf : P.funcs[f]? = some fn) (hb : fn.body = some c) (hr : fn.results = #[]) (hn : fn.ntmps = n) (hs : args.size ≤ n)
    (h : ∀ a : Act, a.tmps.size = n → a.defers = [] → (∀ i v, args[i]? = some v → get a i = v) → c.wp P (Fin0 R) a w) : zan P f args w R := by
  refine calls_of_wp hf hb ?_
  refine wp_mono (h (Start fn args) (start_size hn hs) rfl fun i v => start_get) ?_
  intro e a w' hq
  cases e <;> simp only [Fin0] at hq
  · exact ⟨hq.1, _, results_none hr _ _ _, _, rfl, hq.2⟩
  · exact ⟨hq.1, _, results_none hr _ _ _, _, rfl, hq.2⟩
theorem get_put {a : Act} {d t : Nat} {v : Value} (h : d < a.tmps.size) : get (a.put (some d) v) t = if d = t then v else get a t := by
  split
  · rename_i e; subst e; exact get_put_self h
  · exact zaq ‹_›
theorem zac {P : Program} {id : Nat} {l : List Oper} {Q : Exit → Act → World → Prop} {a : Act} {w : World} (h : WL P l.toArray Q l a w) : (Code.region id l.toArray false).wp P Q a w := wp_region_lit h.out
theorem wp_cut {P : Program} {x y : Code} {Q : Exit → Act → World → Prop} {a : Act} {w : World} (M : Act → World → Prop) (hx : x.wp P (Exit.then M Q) a w) (hy : ∀ a w, M a w → y.wp P Q a w) : (Code.seq x y).wp P Q a w := by
  refine wp_seq (wp_mono hx ?_)
  intro e a w h
  cases e <;> first | exact hy _ _ h | exact h
theorem zaa {P : Program} {ops : Array Oper} {Q : Exit → Act → World → Prop} {a : Act} {w : World} (h : Q .normal a w) : WL P ops Q [] a w := ⟨h⟩
end Go.Proofs.YtojpodeljpfgaaaDoor
namespace Go.Proofs.YtojpodeljpfgaaaDoor
set_option linter.all false
open Go.RowKit
def isI : Value → Bool | .int _ _ => true | _ => false
def cvt (k : IntKind) : Value → Value | .int _ n => .int k (k.wrap n) | v => v
def add2 : Value → Value → Value | .int k x, .int _ y => .int k (k.wrap (x + y)) | v, _ => v
def sub2 : Value → Value → Value | .int k x, .int _ y => .int k (k.wrap (x - y)) | v, _ => v
def cmp2 (f : Int → Int → Bool) : Value → Value → Value | .int _ x, .int _ y => .bool (f x y) | v, _ => v
def sameK : Value → Value → Bool | .int j _, .int k _ => decide (j = k) | _, _ => false
def shrV (c : Nat) : Value → Value | .int k x => .int k (x / (2 ^ min c k.bits)) | v => v
def notV : Value → Value | .bool b => .bool !b | v => v
def isB : Value → Bool | .bool _ => true | _ => false
def lenV : Value → Value | .slice _ n _ => .int .i64 n | .string s => .int .i64 s.size | v => v
def isLen : Value → Bool | .slice _ _ _ => true | .string _ => true | _ => false
def isS : Value → Bool | .slice _ _ _ => true | _ => false
def isStr : Value → Bool | .string _ => true | _ => false
def someB (P : Program) (t : Nat) : Bool := (P.underlying t).isSome
def strB (P : Program) (t : Nat) : Bool := match P.underlying t with | some .string => true | _ => false
def sliceB (P : Program) (t n : Nat) : Bool := match P.underlying t with | some (.slice e) => sizeB P e n | _ => false
theorem strB_eq {P : Program} {t : Nat} (h : strB P t = true) : P.underlying t = some .string := by
  unfold strB at h; split at h
  · assumption
  · cases h
theorem sliceB_eq {P : Program} {t n : Nat} (h : sliceB P t n = true) : ∃ e, P.underlying t = some (.slice e) ∧ sizeB P e n = true := by
  unfold sliceB at h; split at h
  · rename_i e he; exact ⟨e, he, h⟩
  · cases h
section
variable {P : Program} {ops : Array Oper} {Q : Exit → Act → World → Prop} {a : Act} {w : World} {rest : List Oper}
variable {d : Option Nat} {ty : TypeId} {pos : String} {af : Array Edge}
def kindOf (P : Program) (t : Nat) : IntKind := match P.underlying t with | some (.int k) => k | _ => .i64
def isIntT (P : Program) (t : Nat) : Bool := match P.underlying t with | some (.int _) => true | _ => false
theorem isIntT_eq {P : Program} {t : Nat} (h : isIntT P t = true) : P.underlying t = some (.int (kindOf P t)) := by
  unfold isIntT at h; split at h
  · rename_i k hk; unfold kindOf; rw [hk]
  · cases h
theorem wl_add {t u : TypeId} {x y : Operand} (hk : sameK (a.eval x) (a.eval y) = true)
    (h : WL P ops Q rest (a.put d (add2 (a.eval x) (a.eval y))) w) : WL P ops Q (⟨d, .binOp .add t x y u, ty, pos, af, none⟩ :: rest) a w := by
  cases hx : a.eval x <;> cases hy : a.eval y <;> rw [hx, hy] at hk h <;> try (cases hk; done)
  all_goals (simp [sameK] at hk; subst hk; refine zaK rfl ?_ h; simp [execOp, eqGuard, binOp, hx, hy, Op.intArith, add2])
theorem wl_lss {t u : TypeId} {x y : Operand} (hk : sameK (a.eval x) (a.eval y) = true)
    (h : WL P ops Q rest (a.put d (cmp2 (fun x y => decide (x < y)) (a.eval x) (a.eval y))) w) : WL P ops Q (⟨d, .binOp .lss t x y u, ty, pos, af, none⟩ :: rest) a w := by
  cases hx : a.eval x <;> cases hy : a.eval y <;> rw [hx, hy] at hk h <;> try (cases hk; done)
  all_goals (simp [sameK] at hk; subst hk; refine zaK rfl ?_ h; simp [execOp, eqGuard, binOp, hx, hy, Op.intCmp, cmp2])
theorem zai {t u : TypeId} {x : Operand} {j : IntKind} {c : Int} (hx : isI (a.eval x) = true) (h0 : decide (0 ≤ c) = true)
    (h : WL P ops Q rest (a.put d (shrV c.toNat (a.eval x))) w) : WL P ops Q (⟨d, .binOp .shr t x (.const (.int j c)) u, ty, pos, af, none⟩ :: rest) a w := by
  cases hv : a.eval x with
  | int k n =>
    rw [hv] at h
    refine zaK rfl ?_ h
    have h0' : ¬ (c < 0) := by have := of_decide_eq_true h0; omega
    simp [execOp, eqGuard, binOp, hv, eval_const, Op.shift, shrV, h0']
    rw [Int.fdiv_eq_ediv_of_nonneg _ (by exact Int.le_of_lt (Int.pow_pos (by decide)))]
  | _ => rw [hv] at hx; cases hx
theorem run_equalIn_nilS (d : Nat) {t e : TypeId} (he : P.underlying t = some (.slice e)) (oa : Option Addr) (i j k m : Nat) : (Op.equalIn (d + 1) t (.slice oa i j) (.slice none k m)).run P w = .ok oa.isNone w := by
  cases oa <;> simp [Op.equalIn, underlying, he]
theorem run_equal_nilS {t e : TypeId} (he : P.underlying t = some (.slice e)) (oa : Option Addr) (i j k m : Nat) : (Op.equal t (.slice oa i j) (.slice none k m)).run P w = .ok oa.isNone w := run_equalIn_nilS 9999 he oa i j k m
def slB (P : Program) (t : Nat) : Bool := match P.underlying t with | some (.slice _) => true | _ => false
theorem sliceB.any {t n : Nat} (h : sliceB P t n = true) : slB P t = true := by
  obtain ⟨e, he, _⟩ := sliceB_eq h
  simp [slB, he]
theorem slB_eq {t : Nat} (h : slB P t = true) : ∃ e, P.underlying t = some (.slice e) := by
  unfold slB at h; split at h
  · exact ⟨_, ‹_›⟩
  · cases h
def isNilS : Value → Value | .slice oa _ _ => .bool oa.isNone | v => v
theorem wl_eqlNilS {t u : TypeId} {x : Operand} {k m : Nat} (ht : slB P t = true) (hx : isS (a.eval x) = true)
    (h : WL P ops Q rest (a.put d (isNilS (a.eval x))) w) : WL P ops Q (⟨d, .binOp .eql t x (.const (.slice none k m)) u, ty, pos, af, none⟩ :: rest) a w := by
  obtain ⟨e, he⟩ := slB_eq ht
  cases hv : a.eval x with
  | slice oa i j =>
    rw [hv] at h
    refine zaK rfl ?_ h
    simp [execOp, eqGuard, binOp, hv, eval_const, run_equal_nilS he, isNilS]
  | _ => rw [hv] at hx; cases hx
theorem zag {t : TypeId} {x : Operand} (ht : strB P t = true) (hx : isStr (a.eval x) = true)
    (h : WL P ops Q rest (a.put d (lenV (a.eval x))) w) :
    WL P ops Q (⟨d, .call { callee := .builtin .len, args := #[x], argTypes := #[t] }, ty, pos, af, none⟩ :: rest) a w := by
  cases hv : a.eval x with
  | string s => rw [hv] at h; refine zaK rfl ?_ h; simp [execOp, resolve, invoke, builtin, hv, Builtin.len_, underlying, strB_eq ht, lenV, goInt]
  | _ => rw [hv] at hx; cases hx
def and127 : Value → Value | .int k x => .int k (x % 128) | v => v
def or128 : Value → Value | .int k x => .int k (x + 128) | v => v
def orOK : Value → Prop | .int k x => 0 ≤ x ∧ x < 128 ∧ k.signed = false | _ => False
theorem toNat_ofInt (n : Nat) (x : Int) : ((BitVec.ofInt n x).toNat : Int) = x % 2 ^ n := by
  rw [BitVec.toNat_ofInt]
  have h : (0 : Int) < 2 ^ n := Int.pow_pos (by decide)
  have h2 := Int.emod_nonneg x (show (2 ^ n : Int) ≠ 0 by omega)
  have e : ((2 ^ n : Nat) : Int) = 2 ^ n := by simp
  rw [e]
  exact Int.toNat_of_nonneg h2
theorem zad {t u : TypeId} {x : Operand} {j : IntKind} (hk : sameK (a.eval x) (.int j 127) = true)
    (h : WL P ops Q rest (a.put d (and127 (a.eval x))) w) : WL P ops Q (⟨d, .binOp .and t x (.const (.int j 127)) u, ty, pos, af, none⟩ :: rest) a w := by
  cases hv : a.eval x with
  | int k n =>
    rw [hv] at hk h
    simp [sameK] at hk; subst hk
    refine zaK rfl ?_ h
    have e : ((BitVec.ofInt k.bits n &&& BitVec.ofInt k.bits 127).toNat : Int) = n % 128 := by
      have h1 := toNat_ofInt k.bits n
      have h2 : (BitVec.ofInt k.bits 127).toNat = 2 ^ 7 - 1 := by cases k <;> rfl
      rw [BitVec.toNat_and, h2, Nat.and_two_pow_sub_one_eq_mod]
      have : ((2 : Int) ^ k.bits) % 128 = 0 := by cases k <;> rfl
      have hd : (128 : Int) ∣ 2 ^ k.bits := Int.dvd_of_emod_eq_zero this
      rw [Int.natCast_emod, h1]
      exact Int.emod_emod_of_dvd n hd
    have e2 : k.wrap (n % 128) = n % 128 := by
      have a1 : 0 ≤ n % 128 := by omega
      have a2 : n % 128 < 128 := by omega
      generalize n % 128 = m at a1 a2
      cases k <;> simp [IntKind.wrap, IntKind.bits, IntKind.signed] <;> omega
    simp only [execOp, eqGuard, binOp, hv, eval_const, Op.intBits, and127]
    simp [-BitVec.toNat_and, -BitVec.toNat_ofInt, -BitVec.ofInt_ofNat, e, e2]
  | _ => rw [hv] at hk; cases hk
theorem zae {t u : TypeId} {x : Operand} {j : IntKind} (hk : sameK (a.eval x) (.int j 128) = true) (ho : orOK (a.eval x))
    (h : WL P ops Q rest (a.put d (or128 (a.eval x))) w) : WL P ops Q (⟨d, .binOp .or t x (.const (.int j 128)) u, ty, pos, af, none⟩ :: rest) a w := by
  cases hv : a.eval x with
  | int k n =>
    rw [hv] at hk h ho
    simp [sameK] at hk; subst hk
    obtain ⟨a1, a2, a3⟩ := ho
    refine zaK rfl ?_ h
    have hb : (8 : Nat) ≤ k.bits := by cases k <;> decide
    have e : ((BitVec.ofInt k.bits n ||| BitVec.ofInt k.bits 128).toNat : Int) = n + 128 := by
      have h1 := toNat_ofInt k.bits n
      have hn : n % 2 ^ k.bits = n := by
        refine Int.emod_eq_of_lt a1 (Int.lt_of_lt_of_le a2 ?_)
        cases k <;> decide
      rw [hn] at h1
      have h2 : (BitVec.ofInt k.bits 128).toNat = 2 ^ 7 := by cases k <;> first | rfl | (simp [IntKind.signed] at a3)
      rw [BitVec.toNat_or, h2, Nat.or_comm]
      have := Nat.two_pow_add_eq_or_of_lt (i := 7) (b := (BitVec.ofInt k.bits n).toNat) (by omega) 1
      rw [Nat.mul_one] at this
      rw [← this]
      omega
    have e2 : k.wrap (n + 128) = n + 128 := by
      cases k <;> simp [IntKind.signed] at a3 <;> simp [IntKind.wrap, IntKind.bits, IntKind.signed] <;> omega
    simp only [execOp, eqGuard, binOp, hv, eval_const, Op.intBits, or128]
    simp [-BitVec.toNat_or, -BitVec.toNat_ofInt, -BitVec.ofInt_ofNat, e, e2]
  | _ => rw [hv] at hk; cases hk
theorem wl_indexC {t : TypeId} {s : ByteArray} {y : Operand} {k : IntKind} {i m : Nat} (tab : Nat → Nat) (ht : strB P t = true) (hy : a.eval y = .int k i) (hi : i < m)
    (hb : ∀ j, j < m → (s[j]?).map (·.toNat) = some (tab j)) (h : WL P ops Q rest (a.put d (.int .u8 (tab i))) w) :
    WL P ops Q (⟨d, .index t (.const (.string s)) y, ty, pos, af, none⟩ :: rest) a w := by
  have := hb i hi
  cases hs : s[i]? with
  | none => rw [hs] at this; cases this
  | some b =>
    rw [hs] at this
    simp at this
    rw [← this] at h
    refine zaK rfl ?_ h
    simp [execOp, Instr.index, hy, eval_const, asIntOf, underlying, strB_eq ht, hs]
theorem wl_pick {c x y : Operand} {b : Bool} (hc : a.eval c = .bool b) (h : WL P ops Q rest (a.put d (if b then a.eval x else a.eval y)) w) :
    WL P ops Q (⟨d, .pick c x y, ty, pos, af, none⟩ :: rest) a w :=
  zaK rfl (by simp [execOp, hc, asBool]) h
theorem wl_gyes {o : Op} {g : Nat × Bool} (hw : yielded ops a.tmps g.1 = some g.2) (h : WL P ops Q (⟨d, o, ty, pos, af, none⟩ :: rest) a w) :
    WL P ops Q (⟨d, o, ty, pos, af, some g⟩ :: rest) a w := by
  obtain ⟨h⟩ := h
  refine ⟨?_⟩
  unfold wpList at h ⊢
  have e1 : Region.wanted ⟨d, o, ty, pos, af, none⟩ (yielded ops a.tmps) = true := rfl
  have e2 : Region.wanted ⟨d, o, ty, pos, af, some g⟩ (yielded ops a.tmps) = true := by simp [Region.wanted, hw]
  rw [if_pos e1] at h
  rw [if_pos e2]
  exact h
theorem wl_gno {o : Op} {g : Nat × Bool} (hw : yielded ops a.tmps g.1 ≠ some g.2) (h : WL P ops Q rest (a.put d undef) w) :
    WL P ops Q (⟨d, o, ty, pos, af, some g⟩ :: rest) a w := by
  refine ⟨?_⟩
  unfold wpList
  have e2 : ¬ (Region.wanted ⟨d, o, ty, pos, af, some g⟩ (yielded ops a.tmps) = true) := by simp [Region.wanted]; exact hw
  rw [if_neg e2]
  exact h.out
theorem yielded_get {j t : Nat} {o : Oper} {b : Bool} (ho : ops[j]? = some o) (hd : o.dst = some t) (hv : get a t = .bool b) : yielded ops a.tmps j = some b := by
  unfold get at hv
  have : a.tmps[t]? = some (.bool b) := by
    rw [Array.getD_eq_getD_getElem?] at hv
    cases h : a.tmps[t]? with
    | none => rw [h] at hv; cases hv
    | some x => rw [h] at hv; simp at hv; rw [hv]
  simp [yielded, ho, hd, this]
theorem zau {op : Op} {g : Nat × Bool} {o : Oper} {t : Nat} (hi : ops[g.1]? = some o) (hd : o.dst = some t) (hv : get a t = .bool g.2) (h : WL P ops Q (⟨d, op, ty, pos, af, none⟩ :: rest) a w) :
    WL P ops Q (⟨d, op, ty, pos, af, some g⟩ :: rest) a w := wl_gyes (yielded_get hi hd hv) h
theorem zaD {op : Op} {g : Nat × Bool} {o : Oper} {t : Nat} (hi : ops[g.1]? = some o) (hd : o.dst = some t) (hv : get a t = .bool (!g.2)) (h : WL P ops Q rest (a.put d undef) w) :
    WL P ops Q (⟨d, op, ty, pos, af, some g⟩ :: rest) a w := wl_gno (by rw [yielded_get hi hd hv]; cases g.2 <;> simp) h
theorem yielded_undef {j t : Nat} {o : Oper} (ho : ops[j]? = some o) (hd : o.dst = some t) (hv : get a t = undef) : yielded ops a.tmps j = none := by
  unfold get at hv
  rw [Array.getD_eq_getD_getElem?] at hv
  cases h : a.tmps[t]? with
  | none => simp [yielded, ho, hd, h]
  | some x => rw [h] at hv; simp at hv; subst hv; simp [yielded, ho, hd, h, undef]
theorem zaE {op : Op} {g : Nat × Bool} {o : Oper} {t : Nat} (hi : ops[g.1]? = some o) (hd : o.dst = some t) (hv : get a t = undef) (h : WL P ops Q rest (a.put d undef) w) :
    WL P ops Q (⟨d, op, ty, pos, af, some g⟩ :: rest) a w := wl_gno (by rw [yielded_undef hi hd hv]; simp) h
theorem wl_pickT {c x y : Operand} (hc : a.eval c = .bool true) (h : WL P ops Q rest (a.put d (a.eval x)) w) : WL P ops Q (⟨d, .pick c x y, ty, pos, af, none⟩ :: rest) a w := wl_pick hc h
theorem wl_pickF {c x y : Operand} (hc : a.eval c = .bool false) (h : WL P ops Q rest (a.put d (a.eval y)) w) : WL P ops Q (⟨d, .pick c x y, ty, pos, af, none⟩ :: rest) a w := wl_pick hc h
theorem wl_box {t : TypeId} {x : Operand} (h : WL P ops Q rest (a.put d (.pointer (some ⟨w.heap.size, 0, none⟩))) (w.alloc (.cells (a.eval x).cells t))) :
    WL P ops Q (⟨d, .box t x, ty, pos, af, none⟩ :: rest) a w :=
  zaK rfl (by simp [execOp, Instr.box, newVar, newRow]) h
def zeroB (P : Program) (t : Nat) (z : Value) : Prop := ∀ w, (zeroValue t).run P w = .ok z w
theorem zeroB_run {t : Nat} {z : Value} (h : zeroB P t z) : (zeroValue t).run P w = .ok z w := h w
theorem wl_alloc {t : TypeId} {z : Value} (hz : zeroB P t z) (h : WL P ops Q rest (a.put d (.pointer (some ⟨w.heap.size, 0, none⟩))) (w.alloc (.cells z.cells t))) :
    WL P ops Q (⟨d, .alloc t, ty, pos, af, none⟩ :: rest) a w :=
  zaK rfl (by simp [execOp, Instr.alloc, newVar, newRow, zeroB_run hz]) h
theorem run_indexAt {T n b o len cap : Nat} {k : IntKind} {i : Nat} (hT : sliceB P T n = true) (hi : i < len) :
    (Instr.indexAt T (.slice (some ⟨b, o, none⟩) len cap) (.int k i)).run P w = .ok (.pointer (some ⟨b, o + i * n, none⟩)) w := by
  obtain ⟨e, he, hs⟩ := sliceB_eq hT
  have h1 := sizeB_run (P := P) hs w
  simp [Instr.indexAt, asIntOf, underlying, he, h1, hi, add_lit]
theorem wl_indexAddr {T n b o len cap : Nat} {k : IntKind} {i : Nat} {x y : Operand} (hT : sliceB P T n = true) (hx : a.eval x = .slice (some ⟨b, o, none⟩) len cap) (hy : a.eval y = .int k i) (hi : i < len)
    (h : WL P ops Q rest (a.put d (.pointer (some ⟨b, o + i * n, none⟩))) w) : WL P ops Q (⟨d, .indexAddr T x y, ty, pos, af, none⟩ :: rest) a w :=
  zaK rfl (by simp only [execOp, Sem.run_bind, hx, hy, run_indexAt hT hi]; rfl) h
end
def byteV (u : UInt8) : Value := .int .u8 u.toNat
theorem byteV_one (bs : List UInt8) : ∀ v ∈ bs.map byteV, v.oneCell' = true := by
  intro v hv; obtain ⟨u, _, rfl⟩ := List.mem_map.1 hv; rfl
structure ByteSl (P : Program) (t e : TypeId) : Prop where
  ht : P.underlying t = some (.slice e)
  he : P.underlying e = some (.int .u8)
  hi : ∃ i, P.info? e = some i ∧ i.size = 1 ∧ i.bytes = 1 ∧ i.zero = some (.int .u8 0)
theorem ByteSl.sl {P : Program} {t e : TypeId} (h : ByteSl P t e) : sliceB P t 1 = true := by
  obtain ⟨i, h1, h2, _⟩ := h.hi
  simp [sliceB, h.ht, sizeB, h1, h2]
def zam (w : World) (G : Nat → Prop) (oa : Option Addr) (bs : List UInt8) : Prop :=
  bs = [] ∨ ∃ b o l T, oa = some ⟨b, o, none⟩ ∧ G b ∧ Rbk w b l T ∧ (l.drop o).take bs.length = bs.map byteV
theorem zam.nil (w : World) (G : Nat → Prop) (oa : Option Addr) : zam w G oa [] := .inl rfl
theorem zam.chg {w w' : World} {G X : Nat → Prop} {oa : Option Addr} {bs : List UInt8} (h : zam w G oa bs) (c : Chg X w w') (hx : ∀ g, G g → g < w.heap.size → ¬ X g) : zam w' G oa bs := by
  rcases h with h | ⟨b, o, l, T, h1, h2, h3, h4⟩
  · exact .inl h
  · exact .inr ⟨b, o, l, T, h1, h2, h3.chg c (hx b h2 h3.lt), h4⟩
theorem zam.mono {w : World} {G H : Nat → Prop} {oa : Option Addr} {bs : List UInt8} (h : zam w G oa bs) (hg : ∀ g, G g → g < w.heap.size → H g) : zam w H oa bs := by
  rcases h with h | ⟨b, o, l, T, h1, h2, h3, h4⟩
  · exact .inl h
  · exact .inr ⟨b, o, l, T, h1, hg b h2 h3.lt, h3, h4⟩
theorem zam.cells {w : World} {G : Nat → Prop} {a : Addr} {bs : List UInt8} (h : zam w G (some a) bs) : ∀ j u, (bs.map byteV)[j]? = some u → w.cell? (a.add j) = some u := by
  intro j u hj
  rcases h with rfl | ⟨b, o, l, T, h1, h2, h3, h4⟩
  · simp at hj
  · simp at h1; subst h1
    have hjn : j < bs.length := by have := (List.getElem?_eq_some_iff.1 hj).1; simpa using this
    rw [add_lit, h3.cell, ← seg_get hjn, h4]; exact hj
theorem zam.drop {w : World} {G : Nat → Prop} {b o : Nat} {bs : List UInt8} (h : zam w G (some ⟨b, o, none⟩) bs) (n : Nat) : zam w G (some ⟨b, o + n, none⟩) (bs.drop n) := by
  rcases h with rfl | ⟨b', o', l, T, h1, h2, h3, h4⟩
  · left; simp
  · simp at h1; obtain ⟨rfl, rfl⟩ := h1
    refine .inr ⟨b, o + n, l, T, rfl, h2, h3, ?_⟩
    have := congrArg (List.drop n) h4
    rw [List.drop_take, List.drop_drop, ← List.map_drop] at this
    rw [List.length_drop]; exact this
theorem zam.take {w : World} {G : Nat → Prop} {oa : Option Addr} {bs : List UInt8} (h : zam w G oa bs) (n : Nat) : zam w G oa (bs.take n) := by
  rcases h with rfl | ⟨b', o', l, T, h1, h2, h3, h4⟩
  · left; simp
  · refine .inr ⟨b', o', l, T, h1, h2, h3, ?_⟩
    rw [List.length_take, ← List.take_take, h4, List.map_take]
def Own (e : TypeId) (w : World) (base : Nat) (v : Value) (bs : List UInt8) : Prop := w.ownsRow base e 1 v bs.length (bs.map byteV)
theorem Own.nil (e : TypeId) (w : World) (base : Nat) : Own e w base (.slice none 0 0) [] := World.ownsRow_nil w base e 1
theorem Own.chg {e : TypeId} {w w' : World} {base : Nat} {v : Value} {bs : List UInt8} {X : Nat → Prop} (h : Own e w base v bs) (c : Chg X w w') (hx : ∀ k, v.ownBlock = some k → ¬ X k) : Own e w' base v bs := by
  refine ⟨h.1, ?_⟩
  rcases h.2 with hn | ⟨g, cap, cur, rfl, hb, hg, rest⟩
  · exact .inl hn
  · exact .inr ⟨g, cap, cur, rfl, hb, (c.block g (Array.getElem?_eq_some_iff.1 hg).1 (hx g rfl)).trans hg, rest⟩
theorem Own.isS {e : TypeId} {w : World} {base : Nat} {v : Value} {bs : List UInt8} (h : Own e w base v bs) : isS v = true := by
  rcases h.2 with ⟨rfl, _⟩ | ⟨g, cap, cur, rfl, _⟩ <;> rfl
theorem Own.lenV {e : TypeId} {w : World} {base : Nat} {v : Value} {bs : List UInt8} (h : Own e w base v bs) : lenV v = .int .i64 bs.length := by
  rcases h.2 with ⟨rfl, h0⟩ | ⟨g, cap, cur, rfl, _⟩
  · simp only [Go.Proofs.YtojpodeljpfgaaaDoor.lenV, h0]
  · rfl
theorem Own.lt {e : TypeId} {w : World} {base : Nat} {v : Value} {bs : List UInt8} (h : Own e w base v bs) : ∀ k, v.ownBlock = some k → base ≤ k ∧ k < w.heap.size := World.ownsRow.lt h
theorem Own.mono {e : TypeId} {w : World} {base base' : Nat} {v : Value} {bs : List UInt8} (h : Own e w base v bs) (hb : base' ≤ base) : Own e w base' v bs := by
  refine ⟨h.1, ?_⟩
  rcases h.2 with hn | ⟨g, cap, cur, rfl, hbg, rest⟩
  · exact .inl hn
  · exact .inr ⟨g, cap, cur, rfl, by omega, rest⟩
theorem Own.bytes {e : TypeId} {w : World} {base : Nat} {v : Value} {bs : List UInt8} (h : Own e w base v bs) :
    ∃ oa cap, v = .slice oa bs.length cap ∧ bs.length ≤ cap ∧ zam w (fun k => v.ownBlock = some k) oa bs := by
  rcases h.2 with ⟨rfl, h0⟩ | ⟨g, cap, cur, rfl, _, hg, hn, _, hcs, ht⟩
  · have : bs = [] := List.eq_nil_of_length_eq_zero h0
    subst this
    exact ⟨none, 0, rfl, Nat.le_refl _, .inl rfl⟩
  · exact ⟨some ⟨g, 0, none⟩, cap, rfl, hn, .inr ⟨g, 0, cur.toList, e, rfl, rfl, ⟨_, by simpa using hg⟩, by simpa using ht⟩⟩
structure App (e : TypeId) (w : World) (base : Nat) (v : Value) (bs : List UInt8) (v' : Value) (w' : World) : Prop where
  own : Own e w' base v' bs
  chg : Chg (fun k => v.ownBlock = some k) w w'
  blk : v'.ownBlock = v.ownBlock ∨ ∃ k, v'.ownBlock = some k ∧ w.heap.size ≤ k
def LIM : Nat := 1099511627776
theorem run_appendBytes {P : Program} {t e : TypeId} (hT : ByteSl P t e) (ty : TypeId) {w : World} {base : Nat} {v : Value} {bs bs' : List UInt8} {G : Nat → Prop} {oa : Option Addr} {c : Nat}
    (hown : Own e w base v bs) (hsrc : zam w G oa bs') (hl : bs.length + bs'.length ≤ LIM) (hb : base ≤ w.heap.size) :
    ∃ v' w', (Builtin.append_ #[t, t] ty #[v, .slice oa bs'.length c]).run P w = .ok v' w' ∧ App e w base v (bs ++ bs') v' w' := by
  obtain ⟨i, hi, h1, h2, h3⟩ := hT.hi
  unfold LIM at hl
  cases oa with
  | none =>
    have hbs : bs' = [] := by
      rcases hsrc with h | ⟨b, o, l, T, h, _⟩
      · exact h
      · cases h
    subst hbs
    refine ⟨v, w, ?_, by simpa using hown, Chg.refl _ _, .inl rfl⟩
    have hcap : ∃ oa' n' c', v = .slice oa' n' c' ∧ n' ≤ c' := by
      rcases hown.2 with ⟨rfl, h0⟩ | ⟨g, cap, cur, rfl, _, _, hn, _⟩
      · exact ⟨_, _, _, rfl, Nat.le_refl _⟩
      · exact ⟨_, _, _, rfl, hn⟩
    obtain ⟨oa', n', c', rfl, hn'⟩ := hcap
    cases oa' <;> simp [Builtin.append_, underlying, hT.ht, sizeOf, typeInfo, hi, Builtin.lenOf, hn', Builtin.firstCells, storeCells]
  | some a =>
    obtain ⟨v', w', hr, ho, hg, hnil⟩ := run_append_own (P := P) w base t ty e i (.int .u8 0) 1 1 hT.ht hi h3 h1 h2 rfl (by omega) v bs.length (bs.map byteV) hown a bs'.length c (bs'.map byteV) (by simp) hsrc.cells (byteV_one bs') (by unfold maxLen; omega) (by omega) hb
    refine ⟨v', w', hr, ?_, ?_, ?_⟩
    · unfold Own; rw [List.length_append, List.map_append]; exact ho
    · exact (Chg.ofGrown hg).mono fun k _ hk => hk.symm
    · rcases hown.2 with ⟨rfl, h0⟩ | ⟨g, cap, cur, rfl, hbg, hgg, hnc, hcm, hcs, ht⟩
      · have hbs : bs = [] := List.eq_nil_of_length_eq_zero h0
        subst hbs
        obtain ⟨v2, w2, hr2, ho2, _, _⟩ := run_append_own (P := P) w w.heap.size t ty e i (.int .u8 0) 1 1 hT.ht hi h3 h1 h2 rfl (by omega) (.slice none 0 0) 0 [] (World.ownsRow_nil w _ e 1) a bs'.length c (bs'.map byteV) (by simp) hsrc.cells (byteV_one bs') (by unfold maxLen; omega) (by omega) (Nat.le_refl _)
        rw [hr] at hr2
        simp only [Result.ok.injEq] at hr2
        obtain ⟨rfl, rfl⟩ := hr2
        rcases ho2.2 with ⟨rfl, _⟩ | ⟨g, cap, cur, rfl, hb', _⟩
        · left; rfl
        · right; exact ⟨g, rfl, hb'⟩
      · by_cases hroom : bs.length + bs'.length ≤ cap
        · have hr2 := run_append_room (P := P) w t ty e i hT.ht hi g bs.length cap cur hgg a bs'.length c (bs'.map byteV) (by simp [h1]) hsrc.cells (byteV_one bs') hroom (by simp [h1]; omega)
          rw [hr] at hr2
          simp only [Result.ok.injEq] at hr2
          obtain ⟨rfl, _⟩ := hr2
          left; rfl
        · have holds : ∀ j u, (bs.map byteV)[j]? = some u → w.cell? ((⟨g, 0, none⟩ : Addr).add j) = some u := World.ownsRow.cells (g := g) hown rfl
          have hr2 := run_append_grow (P := P) w t ty e i (.int .u8 0) hT.ht hi h3 ⟨g, 0, none⟩ bs.length cap (bs.map byteV) (by simp [h1]) holds a bs'.length c (bs'.map byteV) (by simp [h1]) hsrc.cells (by omega) (by omega) (by rw [h2]; exact growslice_fits (by omega) (by omega))
          rw [hr] at hr2
          simp only [Result.ok.injEq] at hr2
          obtain ⟨rfl, _⟩ := hr2
          right; exact ⟨_, rfl, Nat.le_refl _⟩
theorem wl_append {P : Program} {ops : Array Oper} {Q : Exit → Act → World → Prop} {a : Act} {w : World} {rest : List Oper} {d : Option Nat} {ty : TypeId} {pos : String} {af : Array Edge}
    {t e : TypeId} (hT : ByteSl P t e) {x y : Operand} {base : Nat} {v : Value} {bs bs' : List UInt8} {G : Nat → Prop} {oa : Option Addr} {c : Nat}
    (hx : a.eval x = v) (hy : a.eval y = .slice oa bs'.length c) (hown : Own e w base v bs) (hsrc : zam w G oa bs') (hl : bs.length + bs'.length ≤ LIM) (hb : base ≤ w.heap.size)
    (h : ∀ v' w', App e w base v (bs ++ bs') v' w' → WL P ops Q rest (a.put d v') w') :
    WL P ops Q (⟨d, .call { callee := .builtin .append, args := #[x, y], argTypes := #[t, t] }, ty, pos, af, none⟩ :: rest) a w := by
  obtain ⟨v', w', hr, ha⟩ := run_appendBytes (c := c) hT ty hown hsrc hl hb
  exact zaK rfl (by simp [execOp, resolve, invoke, builtin, hx, hy, hr]) (h v' w' ha)
theorem App.chgFrom {e : TypeId} {w w' : World} {base : Nat} {v v' : Value} {bs bs' : List UInt8} (h : App e w base v bs' v' w') (ho : Own e w base v bs) : Chg (fun k => base ≤ k) w w' :=
  h.chg.mono fun k _ hk => (ho.lt k hk).1
theorem wl_bytesLit {P : Program} {ops : Array Oper} {Q : Exit → Act → World → Prop} {a : Act} {w : World} {rest : List Oper} {d : Option Nat} {ty : TypeId} {pos : String} {af : Array Edge}
    {t e : TypeId} {n : Nat} {parts : Array (Nat × Operand)} {bs : List UInt8}
    (hr : (Instr.buildSlice t n (parts.map fun (i, x) => (i, a.eval x))).run P w = .ok (.slice (some ⟨w.heap.size, 0, none⟩) bs.length bs.length) (w.alloc (.cells (bs.map byteV).toArray e)))
    (h : ∀ w', Chg (fun _ => False) w w' → zam w' (fun g => g = w.heap.size) (some ⟨w.heap.size, 0, none⟩) bs → WL P ops Q rest (a.put d (.slice (some ⟨w.heap.size, 0, none⟩) bs.length bs.length)) w') :
    WL P ops Q (⟨d, .buildSlice t n parts, ty, pos, af, none⟩ :: rest) a w :=
  zaK rfl (by simp only [execOp, Sem.run_bind, hr]; rfl) (h _ (Chg.alloc _ _ _) (.inr ⟨_, 0, _, e, rfl, rfl, (Blk.new _ _ _).r, by simp [← List.map_take]⟩))
theorem set_splice {l : List Value} {i : Nat} {v : Value} (h : i < l.length) : l.set i v = zaM l i [v] := by
  unfold zaM
  rw [List.set_eq_take_append_cons_drop, if_pos h]
  simp
theorem splice_splice {l : List Value} {i : Nat} {xs ys : List Value} (h : i + xs.length + ys.length ≤ l.length) : zaM (zaM l i xs) (i + xs.length) ys = zaM l i (xs ++ ys) := by
  unfold zaM
  have e1 : (l.take i ++ xs).length = i + xs.length := by simp; omega
  rw [List.take_append_of_le_length (by omega), List.take_of_length_le (by omega)]
  rw [List.drop_append, List.drop_of_length_le (by omega), e1]
  simp only [List.nil_append, List.drop_drop, List.length_append, List.append_assoc]
  congr 4
  omega
theorem foldl_set : ∀ (l : List Value) (off j : Nat) (cs : Array Value), off + j + l.length ≤ cs.size →
    (l.zipIdx j).foldl (fun (cs : Array Value) (x : Value × Nat) => cs.setIfInBounds (off + x.2) x.1) cs = (zaM cs.toList (off + j) l).toArray
  | [], off, j, cs, _ => by simp [zaM]
  | v :: r, off, j, cs, h => by
    simp only [List.length_cons] at h
    simp only [List.zipIdx_cons, List.foldl_cons]
    rw [foldl_set r off (j + 1) (cs.setIfInBounds (off + j) v) (by simp; omega)]
    rw [Array.toList_setIfInBounds, set_splice (by simp; omega), ← Nat.add_assoc]
    exact congrArg List.toArray (splice_splice (xs := [v]) (by simp; omega))
theorem flat_len {sz : Nat} : ∀ (xs : List Value), (∀ v ∈ xs, v.cells.size = sz) → (xs.flatMap (·.cells.toList)).length = xs.length * sz
  | [], _ => by simp
  | v :: r, h => by
    have hv : v.cells.size = sz := h v List.mem_cons_self
    have ih := flat_len r fun x hx => h x (List.mem_cons_of_mem _ hx)
    rw [List.flatMap_cons, List.length_append, ih, List.length_cons, Nat.add_mul, Array.length_toList, hv]; omega
theorem fill_all (sz : Nat) : ∀ (xs : List Value) (k : Nat) (cs : Array Value), (∀ v ∈ xs, v.cells.size = sz) → (k + xs.length) * sz ≤ cs.size →
    Instr.fill (fun i => some (i * sz, sz)) cs ((xs.zipIdx k).map fun x => (x.2, x.1)) = some (zaM cs.toList (k * sz) (xs.flatMap (·.cells.toList))).toArray
  | [], k, cs, _, _ => by simp [Instr.fill, zaM]
  | v :: r, k, cs, h, hs => by
    have hv : v.cells.size = sz := h v (by simp)
    simp only [List.length_cons] at hs
    have e : (k + (r.length + 1)) * sz = k * sz + sz + r.length * sz := by rw [Nat.add_mul, Nat.add_mul]; omega
    have hk : k * sz + sz ≤ cs.size := by omega
    simp only [List.zipIdx_cons, List.map_cons, Instr.fill]
    rw [if_neg (by simp [hv]; omega)]
    have hf : v.cells.zipIdx.foldl (fun (cs : Array Value) (x : Value × Nat) => cs.setIfInBounds (k * sz + x.2) x.1) cs = (zaM cs.toList (k * sz) v.cells.toList).toArray := by
      have := foldl_set v.cells.toList (k * sz) 0 cs (by simp [hv]; omega)
      rw [Nat.add_zero] at this
      rw [← this, ← Array.foldl_toList, Array.toList_zipIdx]
    rw [hf]
    have hl : (zaM cs.toList (k * sz) v.cells.toList).length = cs.size := by rw [splice_length (by simp [hv]; omega)]; simp
    have hr : ∀ x ∈ r, x.cells.size = sz := fun x hx => h x (List.mem_cons_of_mem _ hx)
    have e3 : (k + 1 + r.length) * sz = k * sz + sz + r.length * sz := by rw [Nat.add_mul, Nat.add_mul]; omega
    rw [fill_all sz r (k + 1) _ hr (by simp only [List.size_toArray, hl]; omega)]
    have e2 : (k + 1) * sz = k * sz + v.cells.toList.length := by simp [hv, Nat.add_mul]
    simp only [List.flatMap_cons]
    rw [e2, splice_splice]
    rw [flat_len r hr]; simp [hv]; omega
theorem run_buildSlice {P : Program} {w : World} {t e sz : Nat} {z : Value} (ht : P.underlying t = some (.slice e)) (hs : sizeB P e sz = true) (hz : ∀ w, (zeroValue e).run P w = .ok z w) (xs : List Value)
    (h1 : ∀ v ∈ xs, v.cells.size = sz) (hn : xs.length * sz ≤ 16777216) (h0 : 0 < sz) :
    (Instr.buildSlice t xs.length (xs.zipIdx.map fun x => (x.2, x.1)).toArray).run P w = .ok (.slice (some ⟨w.heap.size, 0, none⟩) xs.length xs.length) (w.alloc (.cells (xs.flatMap (·.cells.toList)).toArray e)) := by
  have hl := flat_len xs h1
  have key : ∀ cs : Array Value, cs.size = xs.length * sz → Instr.fill (fun i => some (i * sz, sz)) cs (xs.zipIdx.map fun x => (x.2, x.1)) = some (xs.flatMap (·.cells.toList)).toArray := by
    intro cs hcs
    rw [fill_all sz xs 0 cs h1 (by simp [hcs])]
    congr 2
    unfold zaM
    simp only [Nat.zero_mul, List.take_zero, List.nil_append, Nat.zero_add]
    rw [List.drop_of_length_le (by simp [hl, hcs])]
    simp
  have hs' := sizeB_run (P := P) hs
  by_cases hx : xs.length * sz = 0
  · have k := key ((Array.range (xs.length * sz)).map fun x => (#[] : Array Value)[x % 0]!) (by simp)
    have k' : Instr.fill (fun i => some (i * sz, sz)) #[] (xs.zipIdx.map fun x => (x.2, x.1)) = some (xs.flatMap (·.cells.toList)).toArray := key #[] (by simp [hx])
    have hxs : xs = [] := by
      rcases xs with _ | ⟨x, r⟩
      · rfl
      · simp only [List.length_cons, Nat.add_mul] at hx; omega
    subst hxs
    have ea : (Array.map (fun _ : Nat => (default : Value)) (Array.range 0)) = #[] := by simp
    simp [Instr.buildSlice, underlying, ht, hs', Instr.fill, newRow]
    rw [show (Array.map (fun _ : Nat => (default : Value)) (Array.range 0)) = #[] from by simp [Array.range]]
  · simp only [Instr.buildSlice, Sem.run_bind, underlying, run_program, Result.andThen_ok, ht, Sem.run_pure, hs', if_neg (show ¬ (xs.length * sz > 2 ^ 24) by omega), if_neg hx, hz]
    rw [key _ (by simp)]
    simp [newRow]
theorem evb : (∀ h : Decidable True, @decide True h = true) ∧ (∀ h : Decidable False, @decide False h = false) ∧ ((!true) = false) ∧ ((!false) = true) ∧
    (∀ (a : Act) (t : Nat), a.eval (.tmp t) = get a t) ∧ (∀ (a : Act) (v : Value), a.eval (.const v) = v) ∧ (∀ (a : Act) (f : Nat), a.eval (.func f) = .func (.func f) #[] #[]) ∧ (∀ (a : Act) (g : Nat), a.eval (.global g) = .pointer (some ⟨g, 0, none⟩)) ∧
    (∀ {a : Act} {d t : Nat} {v : Value}, d < a.tmps.size → get (a.put (some d) v) t = if d = t then v else get a t) ∧ (∀ (a : Act) (d : Option Nat) (v : Value), (a.put d v).tmps.size = a.tmps.size) ∧ (∀ (a : Act) (v : Value), a.put none v = a) ∧
    (∀ (k j : IntKind) (n : Int), cvt k (.int j n) = .int k (k.wrap n)) ∧ (∀ (k j : IntKind) (x y : Int), add2 (.int k x) (.int j y) = .int k (k.wrap (x + y))) ∧ (∀ (k j : IntKind) (x y : Int), sub2 (.int k x) (.int j y) = .int k (k.wrap (x - y))) ∧
    (∀ (f : Int → Int → Bool) (k j : IntKind) (x y : Int), cmp2 f (.int k x) (.int j y) = .bool (f x y)) ∧ (∀ (c : Nat) (k : IntKind) (x : Int), shrV c (.int k x) = .int k (x / (2 ^ min c k.bits))) ∧ (∀ b : Bool, notV (.bool b) = .bool !b) ∧
    (∀ (oa : Option Addr) (n c : Nat), lenV (.slice oa n c) = .int .i64 n) ∧ (∀ s : ByteArray, lenV (.string s) = .int .i64 s.size) ∧ (∀ (k : IntKind) (x : Int), and127 (.int k x) = .int k (x % 128)) ∧ (∀ (k : IntKind) (x : Int), or128 (.int k x) = .int k (x + 128)) :=
  ⟨fun h => by cases h with | isTrue _ => rfl | isFalse n => exact absurd trivial n, fun h => by cases h with | isTrue p => exact p.elim | isFalse _ => rfl, rfl, rfl, eval_tmp, eval_const, eval_func, eval_global, get_put, zaf, put_none, fun _ _ _ => rfl, fun _ _ _ _ => rfl, fun _ _ _ _ => rfl, fun _ _ _ _ _ => rfl, fun _ _ _ => rfl, fun _ => rfl, fun _ _ _ => rfl, fun _ => rfl, fun _ _ => rfl, fun _ _ => rfl⟩
theorem sdb : (∀ (k : IntKind) (n : Int), isI (.int k n) = true) ∧ (∀ (j k : IntKind) (x y : Int), sameK (.int j x) (.int k y) = decide (j = k)) ∧ (∀ b : Bool, isB (.bool b) = true) ∧ (∀ (oa : Option Addr) (n c : Nat), isLen (.slice oa n c) = true) ∧ (∀ s : ByteArray, isLen (.string s) = true) ∧
    (∀ (oa : Option Addr) (n c : Nat), isS (.slice oa n c) = true) ∧ (∀ s : ByteArray, isStr (.string s) = true) ∧ (∀ (k : IntKind) (x : Int), orOK (.int k x) = (0 ≤ x ∧ x < 128 ∧ k.signed = false)) ∧
    IntKind.u8.signed = false ∧ IntKind.u16.signed = false ∧ IntKind.u32.signed = false ∧ IntKind.u64.signed = false :=
  ⟨fun _ _ => rfl, fun _ _ _ _ => rfl, fun _ => rfl, fun _ _ _ => rfl, fun _ => rfl, fun _ _ _ => rfl, fun _ => rfl, fun _ _ => rfl, rfl, rfl, rfl, rfl⟩
theorem zal {P : Program} {ops : Array Oper} {Q : Exit → Act → World → Prop} {a : Act} {w : World} {l : List Oper} (h : WL P ops Q l a w) : WL P ops Q l a w := h
end Go.Proofs.YtojpodeljpfgaaaDoor
namespace Go.Proofs.YtojpodeljpfgaaaDoor
set_option linter.all false
abbrev Bs := List UInt8
inductive K where
  | bool | i8 | i16 | i32 | i64 | u16 | f64 | uuid | text | bytes | struct | list
  deriving DecidableEq, Repr, Inhabited
inductive Fld where
  | mk (kind : K) (from_ to null tag dflt : Int) (of : K) (sub : List Fld)
  deriving Inhabited
namespace Fld
def kind : Fld → K | mk k _ _ _ _ _ _ _ => k
def from_ : Fld → Int | mk _ x _ _ _ _ _ _ => x
def to : Fld → Int | mk _ _ x _ _ _ _ _ => x
def null : Fld → Int | mk _ _ _ x _ _ _ _ => x
def tag : Fld → Int | mk _ _ _ _ x _ _ _ => x
def dflt : Fld → Int | mk _ _ _ _ _ x _ _ => x
def of : Fld → K | mk _ _ _ _ _ _ x _ => x
def sub : Fld → List Fld | mk _ _ _ _ _ _ _ x => x
end Fld
abbrev Tags := List (Nat × Bs)
inductive D where
  | int (n : Int) | bool (b : Bool) | f64 (bits : Nat) | uuid (l : Bs) | str (l : Bs) | nstr (o : Option Bs) | bytes (l : Bs)
  | arr (nil : Bool) (l : List D) | pnil | ptr (d : D) | struct (ds : List D) (tags : Tags)
  deriving Inhabited
def byte (n : Int) : UInt8 := UInt8.ofNat (n % 256).toNat
def be : Nat → Int → Bs
  | 0, _ => []
  | k + 1, n => byte (n / 256 ^ k) :: be k n
def unbe : Bs → Nat
  | [] => 0
  | b :: r => b.toNat * 256 ^ r.length + unbe r
def sgn (k : Nat) (n : Nat) : Int := if 2 * (n : Int) < 256 ^ k then n else (n : Int) - 256 ^ k
def wrap32i (n : Int) : Int := (n + 2147483648) % 4294967296 - 2147483648
def zat : Nat → Nat → Bs
  | 0, n => [UInt8.ofNat n]
  | k + 1, n => if n < 128 then [UInt8.ofNat n] else UInt8.ofNat (n % 128 + 128) :: zat k (n / 128)
def uvar (n : Nat) : Bs := zat 4 n
def take? (k : Nat) (bs : Bs) : Option (Bs × Bs) := if k ≤ bs.length then some (bs.take k, bs.drop k) else none
def rU (k : Nat) (bs : Bs) : Option (Nat × Bs) := (take? k bs).map fun x => (unbe x.1, x.2)
def rS (k : Nat) (bs : Bs) : Option (Int × Bs) := (take? k bs).map fun x => (sgn k (unbe x.1), x.2)
def rUvar : Bs → Option (Nat × Bs)
  | [] => none
  | b0 :: r0 => if b0.toNat < 128 then some (b0.toNat, r0) else
    match r0 with
    | [] => none
    | b1 :: r1 => if b1.toNat < 128 then some (b0.toNat % 128 + b1.toNat * 128, r1) else
      match r1 with
      | [] => none
      | b2 :: r2 => if b2.toNat < 128 then some (b0.toNat % 128 + b1.toNat % 128 * 128 + b2.toNat * 16384, r2) else
        match r2 with
        | [] => none
        | b3 :: r3 => if b3.toNat < 128 then some (b0.toNat % 128 + b1.toNat % 128 * 128 + b2.toNat % 128 * 16384 + b3.toNat * 2097152, r3) else
          match r3 with
          | [] => none
          | b4 :: r4 => if b4.toNat ≤ 15 then some (b0.toNat % 128 + b1.toNat % 128 * 128 + b2.toNat % 128 * 16384 + b3.toNat % 128 * 2097152 + b4.toNat * 268435456, r4) else none
def rSpan (l : Int) (bs : Bs) : Option (Bs × Bs) := if 0 ≤ l then take? l.toNat bs else none
structure S where
  ds : List D
  tags : Tags
  deriving Inhabited
abbrev Sem := S → Bs → Option (S × Bs)
def Sem.seq (f g : Sem) : Sem := fun s bs => (f s bs).bind fun x => g x.1 x.2
def Sem.id : Sem := fun s bs => some (s, bs)
def S.d (s : S) : D := .struct s.ds s.tags
end Go.Proofs.YtojpodeljpfgaaaDoor
namespace Go.Proofs.YtojpodeljpfgaaaDoor
set_option linter.all false
def tagOK (_ : Tags) : Prop := True
end Go.Proofs.YtojpodeljpfgaaaDoor
namespace Go.Proofs.YtojpodeljpfgaaaDoor
set_option linter.all false
open Go.RowKit
def ksz : K → Nat
  | .uuid => 16
  | _ => 1
mutual
def fsz (fl : Bool) : Fld → Nat
  | .mk k _ _ null _ _ _ sub => match k with
    | .struct => if null < 0 then lsz fl sub + (if fl then 1 else 0) else 1
    | k => ksz k
def lsz (fl : Bool) : List Fld → Nat
  | [] => 0
  | f :: r => fsz fl f + lsz fl r
end
def ssz (fl : Bool) (fs : List Fld) : Nat := lsz fl fs + (if fl then 1 else 0)
def RepK (w : World) (G : Nat → Prop) : K → D → List Value → Prop
  | .bool, .bool b, vs => vs = [.bool b]
  | .i8, .int n, vs => vs = [.int .i8 n]
  | .i16, .int n, vs => vs = [.int .i16 n]
  | .i32, .int n, vs => vs = [.int .i32 n]
  | .i64, .int n, vs => vs = [.int .i64 n]
  | .u16, .int n, vs => vs = [.int .u16 n]
  | .f64, .f64 n, vs => vs = [.float .f64 n]
  | .uuid, .uuid l, vs => l.length = 16 ∧ vs = l.map byteV
  | .text, .str l, vs => vs = [.string ⟨l.toArray⟩]
  | .bytes, .bytes l, vs => ∃ oa cap, vs = [.slice oa l.length cap] ∧ zam w G oa l
  | _, _, _ => False
def RepE (w : World) (G : Nat → Prop) (e : MapEntry) (x : Nat × Bs) : Prop :=
  e.key = .int .u32 x.1 ∧ x.1 < 4294967296 ∧ ∃ oa cap, e.val = .slice oa x.2.length cap ∧ zam w G oa x.2
inductive All2 {α β : Type} (R : α → β → Prop) : List α → List β → Prop
  | nil : All2 R [] []
  | cons {a b l m} : R a b → All2 R l m → All2 R (a :: l) (b :: m)
theorem All2.imp {α β : Type} {R R' : α → β → Prop} (h : ∀ a b, R a b → R' a b) : ∀ {l m}, All2 R l m → All2 R' l m
  | _, _, .nil => .nil
  | _, _, .cons x y => .cons (h _ _ x) (y.imp h)
theorem All2.length {α β : Type} {R : α → β → Prop} : ∀ {l m}, All2 R l m → l.length = m.length
  | _, _, .nil => rfl
  | _, _, .cons _ y => by simp [y.length]
def TagsAt (w : World) (G : Nat → Prop) (m : Option Nat) (t : Tags) : Prop :=
  (m = none ∧ t = []) ∨ ∃ r es clock, m = some r ∧ G r ∧ w.heap[r]? = some (.map es clock) ∧ All2 (RepE w G) es.toList t ∧ (t.map (·.1)).Nodup ∧
    (es.toList.map (·.born)).Nodup ∧ ∀ e ∈ es.toList, e.born < clock
def RepT (w : World) (G : Nat → Prop) (fl : Bool) (t : Tags) (vs : List Value) : Prop :=
  if fl then ∃ m, vs = [.map m] ∧ TagsAt w G m t ∧ tagOK t else vs = [] ∧ t = []
mutual
def RepF (w : World) (G : Nat → Prop) (fl : Bool) : Fld → D → List Value → Prop
  | .mk k _ _ null _ _ of sub => fun d vs => match k with
    | .list => match d with
      | .arr nil l => ∃ oa cap, vs = [.slice oa l.length cap] ∧ (nil = oa.isNone ∧ (oa = none → cap = 0)) ∧ l.length ≤ 1073741824 ∧ (l = [] ∨ ∃ b cs T, oa = some ⟨b, 0, none⟩ ∧ G b ∧ Blk w b cs T ∧
          match of with
          | .struct => l.length * ssz fl sub ≤ cs.length ∧ ∀ i x, l[i]? = some x → ∃ s : S, x = s.d ∧ ∃ v1 v2, ((cs.drop (i * ssz fl sub)).take (ssz fl sub)) = v1 ++ v2 ∧ RepL w G fl sub s.ds v1 ∧ RepT w G fl s.tags v2
          | k => l.length * ksz k ≤ cs.length ∧ ∀ i x, l[i]? = some x → RepK w G k x ((cs.drop (i * ksz k)).take (ksz k)))
      | _ => False
    | .struct =>
      if null < 0 then ∃ s : S, d = s.d ∧ ∃ v1 v2, vs = v1 ++ v2 ∧ RepL w G fl sub s.ds v1 ∧ RepT w G fl s.tags v2
      else match d with
        | .pnil => vs = [.pointer none]
        | .ptr x => ∃ s : S, x = s.d ∧ ∃ b cs T, vs = [.pointer (some ⟨b, 0, none⟩)] ∧ G b ∧ Blk w b cs T ∧ ∃ v1 v2, cs = v1 ++ v2 ∧ RepL w G fl sub s.ds v1 ∧ RepT w G fl s.tags v2
        | _ => False
    | .text => if null < 0 then RepK w G .text d vs else match d with
      | .nstr none => vs = [.pointer none]
      | .nstr (some l) => ∃ b cs T, vs = [.pointer (some ⟨b, 0, none⟩)] ∧ G b ∧ Blk w b cs T ∧ cs[0]? = some (.string ⟨l.toArray⟩)
      | _ => False
    | k => RepK w G k d vs
def RepL (w : World) (G : Nat → Prop) (fl : Bool) : List Fld → List D → List Value → Prop
  | [], ds, vs => ds = [] ∧ vs = []
  | f :: r, ds, vs => ∃ d ds' v vs', ds = d :: ds' ∧ vs = v ++ vs' ∧ v.length = fsz fl f ∧ RepF w G fl f d v ∧ RepL w G fl r ds' vs'
end
def RepS (w : World) (G : Nat → Prop) (fl : Bool) (fs : List Fld) (s : S) (vs : List Value) : Prop :=
  ∃ v1 v2, vs = v1 ++ v2 ∧ RepL w G fl fs s.ds v1 ∧ RepT w G fl s.tags v2
structure Stay (w w' : World) (G G' : Nat → Prop) : Prop where
  heap : ∀ k, k < w.heap.size → G k → w'.heap[k]? = w.heap[k]? ∧ G' k
theorem Stay.of {w w' : World} {G X : Nat → Prop} (c : Chg X w w') (hx : ∀ k, G k → k < w.heap.size → ¬ X k) : Stay w w' G G :=
  ⟨fun k hk hg => ⟨c.block k hk (hx k hg hk), hg⟩⟩
theorem Stay.sub {w : World} {G G' : Nat → Prop} (h : ∀ k, k < w.heap.size → G k → G' k) : Stay w w G G' := ⟨fun k hk hg => ⟨rfl, h k hk hg⟩⟩
section
variable {w w' : World} {G G' : Nat → Prop} (st : Stay w w' G G')
include st
theorem Rbk.stay {k : Nat} {l : List Value} {T : TypeId} (h : Rbk w k l T) (hg : G k) : Rbk w' k l T := by
  have hl := h.lt
  obtain ⟨fz, h⟩ := h
  exact ⟨fz, (st.heap k hl hg).1.trans h⟩
theorem Blk.stay {k : Nat} {l : List Value} {T : TypeId} (h : Blk w k l T) (hg : G k) : Blk w' k l T := (st.heap k h.lt hg).1.trans h
theorem zam.stay {oa : Option Addr} {bs : Bs} (h : zam w G oa bs) : zam w' G' oa bs := by
  rcases h with h | ⟨b, o, l, T, h1, h2, h3, h4⟩
  · exact .inl h
  · exact .inr ⟨b, o, l, T, h1, (st.heap b h3.lt h2).2, h3.stay st h2, h4⟩
theorem RepK.stay {k : K} {d : D} {vs : List Value} (h : RepK w G k d vs) : RepK w' G' k d vs := by
  cases k <;> cases d <;> try exact h
  obtain ⟨oa, cap, h1, h2⟩ := h
  exact ⟨oa, cap, h1, h2.stay st⟩
theorem TagsAt.stay {m : Option Nat} {t : Tags} (h : TagsAt w G m t) : TagsAt w' G' m t := by
  rcases h with h | ⟨r, es, clock, h1, h2, h3, h4, h5⟩
  · exact .inl h
  · have hr := st.heap r (Array.getElem?_eq_some_iff.1 h3).1 h2
    refine .inr ⟨r, es, clock, h1, hr.2, hr.1.trans h3, h4.imp ?_, h5⟩
    rintro e x ⟨e1, e2, oa, cap, e3, e4⟩
    exact ⟨e1, e2, oa, cap, e3, e4.stay st⟩
theorem RepT.stay {fl : Bool} {t : Tags} {vs : List Value} (h : RepT w G fl t vs) : RepT w' G' fl t vs := by
  unfold RepT at h ⊢
  split
  · rename_i e; rw [if_pos e] at h; obtain ⟨m, h1, h2, h3⟩ := h; exact ⟨m, h1, h2.stay st, h3⟩
  · rename_i e; rw [if_neg e] at h; exact h
end
mutual
theorem RepF.stay {w w' : World} {G G' : Nat → Prop} (st : Stay w w' G G') {fl : Bool} : ∀ {f : Fld} {d : D} {vs : List Value}, RepF w G fl f d vs → RepF w' G' fl f d vs
  | .mk k a b null c e of sub, d, vs, h => by
    cases k <;> try (unfold RepF at h ⊢; exact h.stay st)
    · 
      unfold RepF at h ⊢
      dsimp only at h ⊢
      split
      · rename_i hn; rw [if_pos hn] at h; exact h.stay st
      · rename_i hn
        rw [if_neg hn] at h
        split at h
        · exact h
        · obtain ⟨b, cs, T, h1, h2, h3, h4⟩ := h
          exact ⟨b, cs, T, h1, (st.heap b h3.lt h2).2, h3.stay st h2, h4⟩
        · exact h.elim
    · 
      unfold RepF at h ⊢
      dsimp only at h ⊢
      split
      · rename_i hn
        rw [if_pos hn] at h
        obtain ⟨s, h1, v1, v2, h2, h3, h4⟩ := h
        exact ⟨s, h1, v1, v2, h2, RepL.stay st h3, h4.stay st⟩
      · rename_i hn
        rw [if_neg hn] at h
        split at h
        · exact h
        · obtain ⟨s, h1, b, cs, T, h2, h3, h4, v1, v2, h5, h6, h7⟩ := h
          exact ⟨s, h1, b, cs, T, h2, (st.heap b h4.lt h3).2, h4.stay st h3, v1, v2, h5, RepL.stay st h6, h7.stay st⟩
        · exact h.elim
    · 
      unfold RepF at h ⊢
      dsimp only at h ⊢
      split at h
      · obtain ⟨oa, cap, h1, h2, h2', h3⟩ := h
        refine ⟨oa, cap, h1, h2, h2', ?_⟩
        rcases h3 with h3 | ⟨b, cs, T, h4, h5, h6, h7⟩
        · exact .inl h3
        · refine .inr ⟨b, cs, T, h4, (st.heap b h6.lt h5).2, h6.stay st h5, ?_⟩
          cases of <;> try (exact ⟨h7.1, fun i x hx => (h7.2 i x hx).stay st⟩)
          refine ⟨h7.1, fun i x hx => ?_⟩
          obtain ⟨s, k1, v1, v2, k2, k3, k4⟩ := h7.2 i x hx
          exact ⟨s, k1, v1, v2, k2, RepL.stay st k3, k4.stay st⟩
      · exact h.elim
theorem RepL.stay {w w' : World} {G G' : Nat → Prop} (st : Stay w w' G G') {fl : Bool} : ∀ {fs : List Fld} {ds : List D} {vs : List Value}, RepL w G fl fs ds vs → RepL w' G' fl fs ds vs
  | [], ds, vs, h => by unfold RepL at h ⊢; exact h
  | f :: r, ds, vs, h => by
    unfold RepL at h ⊢
    obtain ⟨d, ds', v, vs', h1, h2, h3, h4, h5⟩ := h
    exact ⟨d, ds', v, vs', h1, h2, h3, RepF.stay st h4, RepL.stay st h5⟩
end
theorem RepS.stay {w w' : World} {G G' : Nat → Prop} (st : Stay w w' G G') {fl : Bool} {fs : List Fld} {s : S} {vs : List Value} (h : RepS w G fl fs s vs) : RepS w' G' fl fs s vs := by
  obtain ⟨v1, v2, h1, h2, h3⟩ := h
  exact ⟨v1, v2, h1, RepL.stay st h2, h3.stay st⟩
theorem RepL.len {w : World} {G : Nat → Prop} {fl : Bool} : ∀ {fs : List Fld} {ds : List D} {vs : List Value}, RepL w G fl fs ds vs → vs.length = lsz fl fs ∧ ds.length = fs.length
  | [], ds, vs, h => by unfold RepL at h; obtain ⟨rfl, rfl⟩ := h; simp [lsz]
  | f :: r, ds, vs, h => by
    unfold RepL at h
    obtain ⟨d, ds', v, vs', rfl, rfl, h3, h4, h5⟩ := h
    have := h5.len
    simp [lsz, h3, this]
theorem RepT.len {w : World} {G : Nat → Prop} {fl : Bool} {t : Tags} {vs : List Value} (h : RepT w G fl t vs) : vs.length = if fl then 1 else 0 := by
  unfold RepT at h
  split at h
  · rename_i e; obtain ⟨m, rfl, _⟩ := h; simp [e]
  · rename_i e; obtain ⟨rfl, _⟩ := h; simp [e]
theorem RepS.len {w : World} {G : Nat → Prop} {fl : Bool} {fs : List Fld} {s : S} {vs : List Value} (h : RepS w G fl fs s vs) : vs.length = ssz fl fs ∧ s.ds.length = fs.length := by
  obtain ⟨v1, v2, rfl, h1, h2⟩ := h
  simp [ssz, h1.len, h2.len]
def foff (fl : Bool) (fs : List Fld) (i : Nat) : Nat := lsz fl (fs.take i)
theorem RepL.get {w : World} {G : Nat → Prop} {fl : Bool} : ∀ {fs : List Fld} {ds : List D} {vs : List Value} {i : Nat} {f : Fld}, RepL w G fl fs ds vs → fs[i]? = some f →
    ∃ d, ds[i]? = some d ∧ RepF w G fl f d ((vs.drop (foff fl fs i)).take (fsz fl f)) ∧ foff fl fs i + fsz fl f ≤ vs.length
  | [], ds, vs, i, f, _, hf => by simp at hf
  | g :: r, ds, vs, i, f, h, hf => by
    unfold RepL at h
    obtain ⟨d, ds', v, vs', rfl, rfl, h3, h4, h5⟩ := h
    cases i with
    | zero =>
      simp at hf; subst hf
      refine ⟨d, rfl, ?_, ?_⟩
      · simp only [foff, List.take_zero, lsz, List.drop_zero]
        rw [List.take_append_of_le_length (by omega), List.take_of_length_le (by omega)]
        exact h4
      · simp [foff, lsz, h3]
    | succ i =>
      obtain ⟨d', k1, k2, k3⟩ := h5.get (i := i) (f := f) (by simpa using hf)
      have e : foff fl (g :: r) (i + 1) = v.length + foff fl r i := by simp [foff, lsz, h3]
      refine ⟨d', by simpa using k1, ?_, ?_⟩
      · rw [e, List.drop_append, List.drop_of_length_le (by omega)]
        simpa using k2
      · rw [e, List.length_append]; omega
theorem RepL.set {w : World} {G : Nat → Prop} {fl : Bool} : ∀ {fs : List Fld} {ds : List D} {vs : List Value} {i : Nat} {f : Fld} {d : D} {v : List Value}, RepL w G fl fs ds vs → fs[i]? = some f →
    RepF w G fl f d v → v.length = fsz fl f → RepL w G fl fs (ds.set i d) (zaM vs (foff fl fs i) v)
  | [], ds, vs, i, f, d, v, _, hf, _, _ => by simp at hf
  | g :: r, ds, vs, i, f, d, v, h, hf, hr, hl => by
    unfold RepL at h
    obtain ⟨d0, ds', v0, vs', rfl, rfl, h3, h4, h5⟩ := h
    cases i with
    | zero =>
      simp at hf; subst hf
      unfold RepL
      refine ⟨d, ds', v, vs', rfl, ?_, hl, hr, h5⟩
      simp only [foff, List.take_zero, lsz, zaM, List.nil_append, Nat.zero_add]
      rw [List.drop_append_of_le_length (by omega), List.drop_of_length_le (by omega)]
      simp
    | succ i =>
      have ih := h5.set (i := i) (d := d) (by simpa using hf) hr hl
      have e : foff fl (g :: r) (i + 1) = v0.length + foff fl r i := by simp [foff, lsz, h3]
      unfold RepL
      refine ⟨d0, ds'.set i d, v0, zaM vs' (foff fl r i) v, rfl, ?_, h3, h4, ih⟩
      simp only [zaM, e]
      rw [List.take_append, List.take_of_length_le (by omega), List.drop_append, List.drop_of_length_le (by omega)]
      simp
      congr 1; omega
def At (w : World) (G : Nat → Prop) (fl : Bool) (fs : List Fld) (s : S) (B o : Nat) : Prop :=
  ∃ cs T, Blk w B cs T ∧ o + ssz fl fs ≤ cs.length ∧ RepS w G fl fs s ((cs.drop o).take (ssz fl fs))
theorem At.stay {w w' : World} {G G' : Nat → Prop} (st : Stay w w' G G') {fl : Bool} {fs : List Fld} {s : S} {B o : Nat} (h : At w G fl fs s B o) (hB : w'.heap[B]? = w.heap[B]?) : At w' G' fl fs s B o := by
  obtain ⟨cs, T, h1, h2, h3⟩ := h
  exact ⟨cs, T, hB.trans h1, h2, h3.stay st⟩
theorem At.tags {w : World} {G : Nat → Prop} {fs : List Fld} {s : S} {B o : Nat} (h : At w G true fs s B o) :
    ∃ m cs T, Blk w B cs T ∧ cs[o + lsz true fs]? = some (.map m) ∧ TagsAt w G m s.tags ∧ tagOK s.tags := by
  obtain ⟨cs, T, h1, h2, v1, v2, h3, h4, h5⟩ := h
  unfold RepT at h5
  rw [if_pos rfl] at h5
  obtain ⟨m, rfl, h6⟩ := h5
  refine ⟨m, cs, T, h1, ?_, h6⟩
  have l1 := h4.len.1
  have hs : ssz true fs = lsz true fs + 1 := rfl
  rw [← seg_get (n := ssz true fs) (by omega), h3, List.getElem?_append_right (by omega), l1]
  simp
end Go.Proofs.YtojpodeljpfgaaaDoor
namespace Go.Proofs.YtojpodeljpfgaaaDoor
set_option linter.all false
open Go.RowKit
def schedB (md : Region.Mode) (ops : Array Oper) : List (Bool × Nat) → Array Bool → Bool
  | [], listed => (Region.ready md ops listed).isEmpty
  | (true, i) :: r, listed => Region.free md ops listed i && (Region.ready md ops listed).contains i && schedB md ops r (listed.setIfInBounds i true)
  | (false, i) :: r, listed => (Region.ready md ops listed == [i]) && schedB md ops r (listed.setIfInBounds i true)
def OneQ (K : Act → World → Prop) : Exit → Act → World → Prop
  | .normal, a, w => K a w
  | _, _, _ => False
def zao (P : Program) (ops : Array Oper) (S : World → Prop) (Q : Act → World → Prop) : List (Bool × Nat) → Act → World → Prop
  | [], a, w => Q a w
  | (f, i) :: r, a, w => ∃ o, ops[i]? = some o ∧
    if f = true then ∃ v, YieldsIf P ops S o v a ∧ zao P ops S Q r (a.put o.dst v) w
    else WL P ops (OneQ fun a' w' => S w' ∧ zao P ops S Q r a' w') [o] a w
section
variable {P : Program} {ops : Array Oper} {S : World → Prop} {Q : Act → World → Prop}
theorem wpOp_of_one {i : Nat} {o : Oper} {K : Act → World → Prop} {Q' : Exit → Act → World → Prop} {a : Act} {w : World} (hi : ops[i]? = some o) (h : WL P ops (OneQ K) [o] a w) : wpOp P ops Q' i K a w := by
  unfold wpOp
  simp only [hi]
  replace h := h.out
  unfold wpList at h
  split
  · rename_i hw
    rw [if_pos hw] at h
    rcases h with h | ⟨_, _, _, h⟩
    · refine .inl ?_
      unfold Oper.wp at *
      generalize (execOp a.eval o).run P w = r at *
      cases r with
      | ok n w' =>
        cases n <;> simp only [Oper.upon] at h ⊢ <;> try exact h
        case enter f args =>
          refine Calls.mono h fun e w'' he => ?_
          cases e with
          | returned u => exact he
          | panicked c => exact he.elim
          | outgrown => obtain ⟨_, _, h⟩ := he; exact h.elim
      | halt x w' =>
        cases x <;> simp only [Oper.upon] at h ⊢ <;> exact h.elim
    · exact h.elim
  · rename_i hw
    rw [if_neg hw] at h
    exact h
theorem sched_sound {md : Region.Mode} (hs : Region.noSelect ops = true) : ∀ (l : List (Bool × Nat)) (fuel : Nat) (listed : Array Bool) (a : Act) (w : World), l.length ≤ fuel → schedB md ops l listed = true → S w → zao P ops S Q l a w →
    wpAnyH P md ops (OneQ Q) S fuel listed a w
  | [], fuel, listed, a, w, _, hB, _, h => by
    simp only [schedB, List.isEmpty_iff] at hB
    exact wpAnyH_done hB h fuel
  | (f, i) :: r, 0, listed, a, w, hl, _, _, _ => by simp at hl
  | (f, i) :: r, fuel + 1, listed, a, w, hl, hB, hS, h => by
    have hl' : r.length ≤ fuel := by simpa using hl
    obtain ⟨o, ho, h⟩ := h
    cases f with
    | true =>
      simp only [schedB, Bool.and_eq_true] at hB
      rw [if_pos rfl] at h
      obtain ⟨v, hy, h⟩ := h
      exact wpAnyH_take ho hs hB.1.1 hB.1.2 (fun _ _ _ h => h) hy hS (sched_sound hs r fuel _ _ _ hl' hB.2 hS h)
    | false =>
      simp only [schedB, Bool.and_eq_true, beq_iff_eq] at hB
      rw [if_neg (by simp)] at h
      refine wpAnyH_all hB.1 (by simp) fun j hj => ?_
      have : j = i := by simpa using hj
      subst this
      refine wpOp_mono ?_ (wpOp_of_one ho h)
      rintro a' w' ⟨h1, h2⟩
      exact ⟨h1, sched_sound hs r fuel _ _ _ hl' hB.2 h1 h2⟩
theorem wp_sched {id : Nat} {Q : Exit → Act → World → Prop} {a : Act} {w : World} {l : List Oper} (S : World → Prop) (s : List (Bool × Nat)) (hm : P.follows .mixedOrders = true)
    (hs : Region.noSelect l.toArray = true) (hB : (decide (s.length ≤ l.length) && schedB .any l.toArray s (Array.replicate l.length false)) = true) (hS : S w.drew)
    (h : zao P l.toArray S (Q .normal) s a w.drew) : (Code.region id l.toArray true).wp P Q a w := by
  simp only [Bool.and_eq_true, decide_eq_true_eq] at hB
  refine wp_mono (wp_region_held (Q := OneQ (Q .normal)) (S := S) hm (sched_sound hs s _ _ a _ (by simpa using hB.1) (by simpa using hB.2) hS h)) ?_
  intro e a' w' hq
  cases e <;> first | exact hq | exact hq.elim
variable {a : Act} {w : World} {r : List (Bool × Nat)} {d : Option Nat} {i : Nat} {ty : TypeId} {pos : String} {af : Array Edge}
theorem ws_nil (h : Q a w) : zao P ops S Q [] a w := h
theorem ws_float {op : Op} (v : Value) (hi : ops[i]? = some ⟨d, op, ty, pos, af, none⟩) (hr : ∀ w, S w → (execOp a.eval ⟨d, op, ty, pos, af, none⟩).run P w = .ok (.value v) w)
    (h : zao P ops S Q r (a.put d v) w) : zao P ops S Q ((true, i) :: r) a w :=
  ⟨_, hi, by rw [if_pos rfl]; exact ⟨v, .inl ⟨rfl, hr⟩, h⟩⟩
theorem ws_gyes {op : Op} {g : Nat × Bool} (v : Value) (hi : ops[i]? = some ⟨d, op, ty, pos, af, some g⟩) (hw : yielded ops a.tmps g.1 = some g.2) (hr : ∀ w, S w → (execOp a.eval ⟨d, op, ty, pos, af, none⟩).run P w = .ok (.value v) w)
    (h : zao P ops S Q r (a.put d v) w) : zao P ops S Q ((true, i) :: r) a w :=
  ⟨_, hi, by rw [if_pos rfl]; exact ⟨v, .inl ⟨by simp [Region.wanted, hw], hr⟩, h⟩⟩
theorem ws_gno {op : Op} {g : Nat × Bool} {f : Bool} (hi : ops[i]? = some ⟨d, op, ty, pos, af, some g⟩) (hw : yielded ops a.tmps g.1 ≠ some g.2) (hS : S w)
    (h : zao P ops S Q r (a.put d undef) w) : zao P ops S Q ((f, i) :: r) a w := by
  have e2 : ¬ (Region.wanted ⟨d, op, ty, pos, af, some g⟩ (yielded ops a.tmps) = true) := by simp [Region.wanted]; exact hw
  refine ⟨_, hi, ?_⟩
  cases f with
  | true => rw [if_pos rfl]; exact ⟨undef, .inr ⟨by simpa using e2, rfl⟩, h⟩
  | false =>
    rw [if_neg (by simp)]
    refine ⟨?_⟩
    unfold wpList
    rw [if_neg e2]
    exact ⟨hS, h⟩
theorem ws_step {o : Oper} (hi : ops[i]? = some o) (h : ∀ K : Act → World → Prop, (∀ a w, S w → zao P ops S Q r a w → K a w) → WL P ops (OneQ K) [o] a w) : zao P ops S Q ((false, i) :: r) a w :=
  ⟨o, hi, by rw [if_neg (by simp)]; exact h _ fun _ _ h1 h2 => ⟨h1, h2⟩⟩
theorem ws_move {x : Operand} (hi : ops[i]? = some ⟨d, .move x, ty, pos, af, none⟩) (h : zao P ops S Q r (a.put d (a.eval x)) w) : zao P ops S Q ((true, i) :: r) a w := ws_float _ hi (fun _ _ => rfl) h
theorem ws_load {x : Operand} {t b o : Nat} {l : List Value} {T : TypeId} {v : Value} (ht : scalB P t = true) (hi : ops[i]? = some ⟨d, .load t x, ty, pos, af, none⟩) (hx : a.eval x = .pointer (some ⟨b, o, none⟩))
    (hb : ∀ w, S w → Blk w b l T) (hv : l[o]? = some v) (h : zao P ops S Q r (a.put d v) w) : zao P ops S Q ((true, i) :: r) a w :=
  ws_float _ hi (fun w hS => by simp only [execOp, Sem.run_bind, hx, run_loadAt ht (hb w hS) hv]; rfl) h
theorem ws_loadAgg {x : Operand} {t b o n : Nat} {l : List Value} {T : TypeId} (ht : aggB P t = true) (hs : sizeB P t n = true) (hi : ops[i]? = some ⟨d, .load t x, ty, pos, af, none⟩) (hx : a.eval x = .pointer (some ⟨b, o, none⟩))
    (hb : ∀ w, S w → Blk w b l T) (hn : o + n ≤ l.length) (h : zao P ops S Q r (a.put d (.agg ((l.drop o).take n).toArray)) w) : zao P ops S Q ((true, i) :: r) a w :=
  ws_float _ hi (fun w hS => by simp only [execOp, Sem.run_bind, hx, run_loadAt_agg ht hs (hb w hS) hn]; rfl) h
theorem ws_load_r {x : Operand} {t b o : Nat} {l : List Value} {T : TypeId} {v : Value} (ht : scalB P t = true) (hi : ops[i]? = some ⟨d, .load t x, ty, pos, af, none⟩) (hx : a.eval x = .pointer (some ⟨b, o, none⟩))
    (hb : ∀ w, S w → Rbk w b l T) (hv : l[o]? = some v) (h : zao P ops S Q r (a.put d v) w) : zao P ops S Q ((true, i) :: r) a w :=
  ws_float _ hi (fun w hS => by simp only [execOp, Sem.run_bind, hx, run_loadAt_r ht (hb w hS) hv]; rfl) h
theorem ws_indexAddr {x y : Operand} {T n b o len cap : Nat} {k : IntKind} {j : Nat} (hT : sliceB P T n = true) (hi : ops[i]? = some ⟨d, .indexAddr T x y, ty, pos, af, none⟩) (hx : a.eval x = .slice (some ⟨b, o, none⟩) len cap) (hy : a.eval y = .int k j) (hj : j < len)
    (h : zao P ops S Q r (a.put d (.pointer (some ⟨b, o + j * n, none⟩))) w) : zao P ops S Q ((true, i) :: r) a w :=
  ws_float _ hi (fun w _ => by simp only [execOp, Sem.run_bind, hx, hy, run_indexAt hT hj]; rfl) h
theorem ws_neq {x y : Operand} {t u : TypeId} (hi : ops[i]? = some ⟨d, .binOp .neq t x y u, ty, pos, af, none⟩) (hk : sameK (a.eval x) (a.eval y) = true)
    (h : zao P ops S Q r (a.put d (cmp2 (fun x y => x != y) (a.eval x) (a.eval y))) w) : zao P ops S Q ((true, i) :: r) a w := by
  cases hx : a.eval x <;> cases hy : a.eval y <;> rw [hx, hy] at hk h <;> try (cases hk; done)
  all_goals (simp [sameK] at hk; subst hk; refine ws_float _ hi (fun w _ => ?_) h; simp [execOp, eqGuard, binOp, hx, hy, Op.intCmp, cmp2])
theorem ws_loadAggG {x : Operand} {t b o n : Nat} {l : List Value} {T : TypeId} {g : Nat × Bool} {oo : Oper} {tt : Nat} (ht : aggB P t = true) (hs : sizeB P t n = true) (hi : ops[i]? = some ⟨d, .load t x, ty, pos, af, some g⟩) (ho : ops[g.1]? = some oo) (hd : oo.dst = some tt) (hv : get a tt = .bool g.2)
    (hx : a.eval x = .pointer (some ⟨b, o, none⟩)) (hb : ∀ w, S w → Blk w b l T) (hn : o + n ≤ l.length) (h : zao P ops S Q r (a.put d (.agg ((l.drop o).take n).toArray)) w) : zao P ops S Q ((true, i) :: r) a w :=
  ws_gyes _ hi (yielded_get ho hd hv) (fun w hS => by simp only [execOp, Sem.run_bind, hx, run_loadAt_agg ht hs (hb w hS) hn]; rfl) h
theorem ws_gnoB {op : Op} {g : Nat × Bool} {f : Bool} {o : Oper} {t : Nat} (hi : ops[i]? = some ⟨d, op, ty, pos, af, some g⟩) (ho : ops[g.1]? = some o) (hd : o.dst = some t) (hv : get a t = .bool (!g.2)) (hS : S w)
    (h : zao P ops S Q r (a.put d undef) w) : zao P ops S Q ((f, i) :: r) a w := ws_gno hi (by rw [yielded_get ho hd hv]; cases g.2 <;> simp) hS h
theorem ws_callG {f : FuncId} {xs : Array Operand} {ts : Array TypeId} {R : Value → World → Prop} {g : Nat × Bool} {o : Oper} {t : Nat} (hf : Enters P f) (hi : ops[i]? = some ⟨d, .call { callee := .value (.func f), args := xs, argTypes := ts }, ty, pos, af, some g⟩)
    (ho : ops[g.1]? = some o) (hd : o.dst = some t) (hv : get a t = .bool g.2) (hc : zan P f (xs.map a.eval) w R) (h : ∀ v w', R v w' → S w' ∧ zao P ops S Q r (a.put d v) w') : zao P ops S Q ((false, i) :: r) a w :=
  ws_step hi fun K hK => wl_gyes (yielded_get ho hd hv) (zak hf hc fun v w' hr => zaa (hK _ _ (h v w' hr).1 (h v w' hr).2))
theorem ws_call {f : FuncId} {xs : Array Operand} {ts : Array TypeId} {R : Value → World → Prop} (hf : Enters P f) (hi : ops[i]? = some ⟨d, .call { callee := .value (.func f), args := xs, argTypes := ts }, ty, pos, af, none⟩)
    (hc : zan P f (xs.map a.eval) w R) (h : ∀ v w', R v w' → S w' ∧ zao P ops S Q r (a.put d v) w') : zao P ops S Q ((false, i) :: r) a w :=
  ws_step hi fun K hK => zak hf hc fun v w' hr => zaa (hK _ _ (h v w' hr).1 (h v w' hr).2)
end
end Go.Proofs.YtojpodeljpfgaaaDoor
namespace Go.Proofs.YtojpodeljpfgaaaDoor
set_option linter.all false
open Go.RowKit
def pickV : Value → Value → Value → Value | .bool true, x, _ => x | .bool false, _, y => y | v, _, _ => v
def isPt : Value → Bool | .pointer (some _) => true | _ => false
def fOff (P : Program) (T i : Nat) : Nat := match P.underlying T with | some (.struct fs) => (match fs[i]? with | some f => f.offset | none => 0) | _ => 0
def fSz (P : Program) (T i : Nat) : Nat := match P.underlying T with | some (.struct fs) => (match fs[i]? with | some f => (match P.info? f.type with | some j => j.size | none => 0) | none => 0) | _ => 0
def eSz (P : Program) (T : Nat) : Nat := match P.underlying T with | some (.slice e) => (match P.info? e with | some j => j.size | none => 0) | _ => 0
def ptrAdd : Value → Nat → Value | .pointer (some ⟨b, o, none⟩), n => .pointer (some ⟨b, o + n, none⟩) | v, _ => v
def isPl : Value → Bool | .pointer (some ⟨_, _, none⟩) => true | _ => false
def ldV (w : World) : Value → Value | .pointer (some p) => (w.cell? p).getD undef | v => v
def ldOK (w : World) : Value → Bool | .pointer (some p) => (w.cell? p).isSome | _ => false
def ixOK : Value → Value → Bool | .slice (some ⟨_, _, none⟩) n _, .int _ i => decide (0 ≤ i) && decide (i < n) | _, _ => false
def ixV : Value → Value → Nat → Value | .slice (some ⟨b, o, none⟩) _ _, .int _ i, s => .pointer (some ⟨b, o + i.toNat * s, none⟩) | v, _, _ => v
def mul2 : Value → Value → Value | .int k x, .int _ y => .int k (k.wrap (x * y)) | v, _ => v
def andV : Value → Value → Value | .int k x, .int _ y => .int k (k.wrap (BitVec.ofInt k.bits x &&& BitVec.ofInt k.bits y).toNat) | v, _ => v
def optI (d : Nat) : Option Value → Nat | some (.int _ i) => i.toNat | _ => d
def optOK (lo hi : Nat) : Option Value → Bool | some (.int _ i) => decide ((lo : Int) ≤ i) && decide (i ≤ hi) | none => true | _ => false
def slcV (s : Nat) (lo hi mx : Option Value) : Value → Value
  | .slice oa n c => .slice (if optI c mx = optI 0 lo then oa else oa.map (·.add (optI 0 lo * s))) (optI n hi - optI 0 lo) (optI c mx - optI 0 lo)
  | v => v
def slcOK (lo hi mx : Option Value) : Value → Bool
  | .slice _ n c => (mx.isNone || hi.isSome) && optOK 0 c mx && optOK 0 (optI c mx) hi && optOK 0 (optI n hi) lo
  | _ => false
def orI (k : IntKind) (x y : Int) : Int := k.wrap (BitVec.ofInt k.bits x ||| BitVec.ofInt k.bits y).toNat
def shlI (k : IntKind) (c : Nat) (x : Int) : Int := k.wrap (x * 2 ^ min c k.bits)
def shlV (c : Nat) : Value → Value | .int k x => .int k (shlI k c x) | v => v
def orV : Value → Value → Value | .int k x, .int _ y => .int k (orI k x y) | v, _ => v
def exV : Value → Nat → Value | .tuple vs, i => (vs[i]?).getD undef | v, _ => v
def exOK : Value → Nat → Bool | .tuple vs, i => (vs[i]?).isSome | _, _ => false
def opB (P : Program) : Op → Bool
  | .convert s t _ => someB P s && isIntT P t
  | .fieldAddr T _ i => fieldB P T i (fOff P T i) (fSz P T i)
  | .load t _ => scalB P t
  | .indexAddr T _ _ | .slice T _ _ _ _ => sliceB P T (eSz P T)
  | .call { callee := .builtin .len, args := ⟨[_]⟩, argTypes := ⟨[t]⟩, .. } => slB P t
  | _ => true
def dyn (w : World) (ρ : Operand → Value) : Op → Bool
  | .move _ | .assign _ => true
  | .convert _ _ x => isI (ρ x)
  | .binOp o _ x y _ => match o with
    | .add | .sub | .mul | .lss | .leq | .gtr | .geq | .eql | .neq | .or | .and => sameK (ρ x) (ρ y)
    | .shr | .shl => match y with | .const (.int _ c) => isI (ρ x) && decide (0 ≤ c) | _ => false
    | _ => false
  | .unOp .not _ x => isB (ρ x)
  | .pick c _ _ => isB (ρ c)
  | .nilCheck x => isPt (ρ x)
  | .fieldAddr _ x _ => isPl (ρ x)
  | .load _ x => ldOK w (ρ x)
  | .indexAddr _ x y => ixOK (ρ x) (ρ y)
  | .extract x i => exOK (ρ x) i
  | .slice _ x lo hi mx => slcOK (lo.map ρ) (hi.map ρ) (mx.map ρ) (ρ x)
  | .call { callee := .builtin .len, args := ⟨[x]⟩, argTypes := ⟨[_]⟩, .. } => isS (ρ x)
  | _ => false
def pv (P : Program) (w : World) (ρ : Operand → Value) : Op → Value
  | .move x | .assign x => ρ x
  | .convert _ t x => cvt (kindOf P t) (ρ x)
  | .binOp o _ x y _ => match o with
    | .add => add2 (ρ x) (ρ y)
    | .sub => sub2 (ρ x) (ρ y)
    | .mul => mul2 (ρ x) (ρ y)
    | .lss => cmp2 (fun x y => decide (x < y)) (ρ x) (ρ y)
    | .leq => cmp2 (fun x y => decide (x ≤ y)) (ρ x) (ρ y)
    | .gtr => cmp2 (fun x y => decide (y < x)) (ρ x) (ρ y)
    | .geq => cmp2 (fun x y => decide (y ≤ x)) (ρ x) (ρ y)
    | .eql => cmp2 (fun x y => x == y) (ρ x) (ρ y)
    | .neq => cmp2 (fun x y => x != y) (ρ x) (ρ y)
    | .or => orV (ρ x) (ρ y)
    | .and => andV (ρ x) (ρ y)
    | .shr => match y with | .const (.int _ c) => shrV c.toNat (ρ x) | _ => undef
    | .shl => match y with | .const (.int _ c) => shlV c.toNat (ρ x) | _ => undef
    | _ => undef
  | .unOp _ _ x => notV (ρ x)
  | .pick c x y => pickV (ρ c) (ρ x) (ρ y)
  | .nilCheck x => ρ x
  | .fieldAddr T x i => ptrAdd (ρ x) (fOff P T i)
  | .load _ x => ldV w (ρ x)
  | .indexAddr T x y => ixV (ρ x) (ρ y) (eSz P T)
  | .extract x i => exV (ρ x) i
  | .slice T x lo hi mx => slcV (eSz P T) (lo.map ρ) (hi.map ρ) (mx.map ρ) (ρ x)
  | .call { callee := .builtin .len, args := ⟨[x]⟩, .. } => lenV (ρ x)
  | _ => undef
theorem run_slc {P : Program} {w : World} {T s n c : Nat} {oa : Option Addr} {lo hi mx : Option Value} (hT : sliceB P T s = true) (h : slcOK lo hi mx (.slice oa n c) = true) :
    (Instr.sliceAt T (.slice oa n c) lo hi mx).run P w = .ok (slcV s lo hi mx (.slice oa n c)) w := by
  obtain ⟨e, he, hs⟩ := sliceB_eq hT
  have h1 := sizeB_run (P := P) hs w
  have hb : ∀ (k : IntKind) (i : Int) (lo y : Nat) (code : BoundsCode), (decide ((lo : Int) ≤ i) && decide (i ≤ y)) = true → (Instr.sliceBound (.int k i) y code).run P w = .ok i.toNat w := by
    intro k i lo y code hh
    simp only [Bool.and_eq_true, decide_eq_true_eq] at hh
    have h0 : 0 ≤ i := by omega
    simp [Instr.sliceBound, asIntOf, h0, hh.2]
  unfold slcOK at h
  simp only [Bool.and_eq_true, Bool.or_eq_true] at h
  obtain ⟨⟨⟨g0, g1⟩, g2⟩, g3⟩ := h
  have ho : ∀ (a b : Nat) (v : Value), optOK a b (some v) = true → ∃ k i, v = .int k i ∧ (decide ((a : Int) ≤ i) && decide (i ≤ b)) = true := by
    intro a b v h
    cases v <;> first | exact ⟨_, _, rfl, h⟩ | cases h
  have key : (Instr.sliceBounds true n c lo hi mx).run P w = .ok (optI 0 lo, optI n hi, optI c mx) w := by
    rcases mx with _ | v <;> rcases hi with _ | u <;> rcases lo with _ | x <;> first | (simp at g0; done) | skip
    all_goals (try (obtain ⟨k1, i1, rfl, f1⟩ := ho _ _ _ g1))
    all_goals (try (obtain ⟨k2, i2, rfl, f2⟩ := ho _ _ _ g2))
    all_goals (try (obtain ⟨k3, i3, rfl, f3⟩ := ho _ _ _ g3))
    all_goals (unfold Instr.sliceBounds; dsimp only [optI] at *)
    all_goals (repeat (first | rw [Sem.run_bind] | rw [hb _ _ _ _ _ f1] | rw [hb _ _ _ _ _ f2] | rw [hb _ _ _ _ _ f3] | rw [Result.andThen_ok] | rw [Sem.run_pure]))
  have e1 : (Instr.sliceAt T (.slice oa n c) lo hi mx).run P w = (Instr.slice T (.slice oa n c) lo hi mx).run P w := by
    simp [Instr.sliceAt, underlying, he]
  rw [e1]
  simp only [Instr.slice, Sem.run_bind, underlying, run_program, Result.andThen_ok, he, Sem.run_pure, key, h1]
  rfl
theorem run_pure {P : Program} {w : World} {ρ : Operand → Value} {d : Option Nat} {o : Op} {ty : TypeId} {pos : String} {af : Array Edge} (hρ : ∀ v, ρ (.const v) = v) (hd : dyn w ρ o = true) (hc : opB P o = true) :
    (execOp ρ ⟨d, o, ty, pos, af, none⟩).run P w = .ok (.value (pv P w ρ o)) w := by
  unfold dyn at hd
  split at hd
  · rfl
  · rfl
  · rename_i s t x
    unfold opB at hc
    simp only [Bool.and_eq_true] at hc
    cases hv : ρ x with
    | int j n =>
      have hs := hc.1
      unfold someB at hs
      cases hu : P.underlying s with
      | none => rw [hu] at hs; cases hs
      | some u => cases u <;> simp [execOp, convert, underlying, hu, isIntT_eq hc.2, hv, Conv.intToInt, cvt, pv]
    | _ => rw [hv] at hd; cases hd
  · rename_i op t x y u
    split at hd
    all_goals first
      | (cases hx : ρ x <;> cases hy : ρ y <;> rw [hx, hy] at hd <;> try (cases hd; done)
         simp [sameK] at hd; subst hd; simp [execOp, eqGuard, binOp, hx, hy, Op.intArith, Op.intCmp, Op.intBits, add2, sub2, mul2, cmp2, orV, orI, andV, pv]; done)
      | (split at hd
         · rename_i j c
           simp only [Bool.and_eq_true, decide_eq_true_eq] at hd
           cases hx : ρ x with
           | int k n =>
             have h0' : ¬ (c < 0) := by omega
             simp [execOp, eqGuard, binOp, hx, hρ, Op.shift, shrV, shlV, shlI, h0', pv]
             try (rw [Int.fdiv_eq_ediv_of_nonneg _ (by exact Int.le_of_lt (Int.pow_pos (by decide)))])
           | _ => rw [hx] at hd; cases hd.1
         · cases hd)
      | cases hd
  · rename_i t x
    cases hv : ρ x with
    | bool b => simp [execOp, hv, Op.unary, notV, pv]
    | _ => rw [hv] at hd; cases hd
  · rename_i c x y
    cases hv : ρ c with
    | bool b => cases b <;> simp [execOp, hv, asBool, pv, pickV]
    | _ => rw [hv] at hd; cases hd
  · rename_i x
    unfold isPt at hd
    split at hd
    · rename_i p hv; simp [execOp, hv, pv]
    · cases hd
  · rename_i T x i
    unfold isPl at hd
    split at hd
    · rename_i b o hv
      unfold opB at hc
      simp only [execOp, Sem.run_bind, hv, run_fieldAt hc]
      simp [pv, hv, ptrAdd]
    · cases hd
  · rename_i t x
    unfold ldOK at hd
    split at hd
    · rename_i p hv
      obtain ⟨v, hc'⟩ := Option.isSome_iff_exists.1 hd
      unfold opB at hc
      simp [execOp, Instr.loadAt, Instr.sureAddr, loadVar, scalB_run hc, hv, hc', pv, ldV]
    · cases hd
  · rename_i T x y
    unfold ixOK at hd
    split at hd
    · rename_i b o n c k i hv hy
      simp only [Bool.and_eq_true, decide_eq_true_eq] at hd
      unfold opB at hc
      have e : Value.int k i = .int k (i.toNat : Int) := by rw [Int.toNat_of_nonneg hd.1]
      have hlt : i.toNat < n := by omega
      simp only [execOp, Sem.run_bind, hv, hy, e, run_indexAt hc hlt]
      simp [pv, hv, hy, ixV]
    · cases hd
  · rename_i x i
    unfold exOK at hd
    split at hd
    · rename_i vs hv
      obtain ⟨u, hu⟩ := Option.isSome_iff_exists.1 hd
      simp [execOp, Instr.extract, hv, hu, pv, exV]
    · cases hd
  · rename_i T x lo hi mx
    cases hv : ρ x with
    | slice oa n c =>
      rw [hv] at hd
      unfold opB at hc
      simp only [execOp, Sem.run_bind, hv, run_slc hc hd]
      simp [pv, hv]
    | _ => rw [hv] at hd; cases hd
  · rename_i x t
    unfold opB at hc
    obtain ⟨e, he⟩ := slB_eq hc
    cases hv : ρ x with
    | slice b n c => simp [execOp, resolve, invoke, builtin, hv, Builtin.len_, underlying, he, lenV, goInt, pv]
    | _ => rw [hv] at hd; cases hd
  · cases hd
theorem zah {P : Program} {ops : Array Oper} {Q : Exit → Act → World → Prop} {a : Act} {w : World} {rest : List Oper} {d : Option Nat} {o : Op} {ty : TypeId} {pos : String} {af : Array Edge}
    (hd : dyn w a.eval o = true) (hc : opB P o = true) (h : WL P ops Q rest (a.put d (pv P w a.eval o)) w) : WL P ops Q (⟨d, o, ty, pos, af, none⟩ :: rest) a w :=
  zaK rfl (run_pure (fun _ => rfl) hd hc) h
def quietB : Op → Bool
  | .move _ | .assign _ | .convert _ _ _ | .unOp .not _ _ => true
  | .binOp o _ _ _ _ => (match o with | .add | .sub | .lss | .leq | .gtr | .geq | .eql | .neq => true | _ => false)
  | .call { callee := .builtin .len, args := ⟨[_]⟩, argTypes := ⟨[_]⟩, .. } => true
  | _ => false
theorem zav {P : Program} {ops : Array Oper} {Q : Exit → Act → World → Prop} {a : Act} {w : World} {rest : List Oper} {d : Option Nat} {o : Op} {ty : TypeId} {pos : String} {af : Array Edge}
    (_hq : quietB o = true) (hd : dyn w a.eval o = true) (hc : opB P o = true) (h : WL P ops Q rest (a.put d (pv P w a.eval o)) w) : WL P ops Q (⟨d, o, ty, pos, af, none⟩ :: rest) a w := zah hd hc h
theorem Blk.ld {w : World} {k : Nat} {l : List Value} {t : TypeId} (h : Blk w k l t) {i : Nat} {v : Value} (hv : l[i]? = some v) : ldV w (.pointer (some ⟨k, i, none⟩)) = v ∧ ldOK w (.pointer (some ⟨k, i, none⟩)) = true := by
  have e : w.cell? ⟨k, i, none⟩ = some v := (h.cell i).trans hv
  exact ⟨by show (w.cell? ⟨k, i, none⟩).getD undef = v; rw [e]; rfl, by show (w.cell? ⟨k, i, none⟩).isSome = true; rw [e]; rfl⟩
theorem Rbk.ld {w : World} {k : Nat} {l : List Value} {t : TypeId} (h : Rbk w k l t) {i : Nat} {v : Value} (hv : l[i]? = some v) : ldV w (.pointer (some ⟨k, i, none⟩)) = v ∧ ldOK w (.pointer (some ⟨k, i, none⟩)) = true := by
  have e : w.cell? ⟨k, i, none⟩ = some v := (h.cell i).trans hv
  exact ⟨by show (w.cell? ⟨k, i, none⟩).getD undef = v; rw [e]; rfl, by show (w.cell? ⟨k, i, none⟩).isSome = true; rw [e]; rfl⟩
theorem pvb (P : Program) (w : World) (ρ : Operand → Value) : (∀ x, pv P w ρ (.move x) = ρ x) ∧ (∀ x, pv P w ρ (.assign x) = ρ x) ∧ (∀ s t x, pv P w ρ (.convert s t x) = cvt (kindOf P t) (ρ x)) ∧
    (∀ t x y u, pv P w ρ (.binOp .add t x y u) = add2 (ρ x) (ρ y)) ∧ (∀ t x y u, pv P w ρ (.binOp .sub t x y u) = sub2 (ρ x) (ρ y)) ∧ (∀ t x y u, pv P w ρ (.binOp .mul t x y u) = mul2 (ρ x) (ρ y)) ∧
    (∀ t x y u, pv P w ρ (.binOp .lss t x y u) = cmp2 (fun x y => decide (x < y)) (ρ x) (ρ y)) ∧ (∀ t x y u, pv P w ρ (.binOp .leq t x y u) = cmp2 (fun x y => decide (x ≤ y)) (ρ x) (ρ y)) ∧
    (∀ t x y u, pv P w ρ (.binOp .gtr t x y u) = cmp2 (fun x y => decide (y < x)) (ρ x) (ρ y)) ∧ (∀ t x y u, pv P w ρ (.binOp .geq t x y u) = cmp2 (fun x y => decide (y ≤ x)) (ρ x) (ρ y)) ∧
    (∀ t x y u, pv P w ρ (.binOp .eql t x y u) = cmp2 (fun x y => x == y) (ρ x) (ρ y)) ∧ (∀ t x y u, pv P w ρ (.binOp .neq t x y u) = cmp2 (fun x y => x != y) (ρ x) (ρ y)) ∧
    (∀ t x y u, pv P w ρ (.binOp .or t x y u) = orV (ρ x) (ρ y)) ∧ (∀ t x y u, pv P w ρ (.binOp .and t x y u) = andV (ρ x) (ρ y)) ∧
    (∀ t x k c u, pv P w ρ (.binOp .shr t x (.const (.int k c)) u) = shrV c.toNat (ρ x)) ∧ (∀ t x k c u, pv P w ρ (.binOp .shl t x (.const (.int k c)) u) = shlV c.toNat (ρ x)) ∧
    (∀ t x, pv P w ρ (.unOp .not t x) = notV (ρ x)) ∧ (∀ c x y, pv P w ρ (.pick c x y) = pickV (ρ c) (ρ x) (ρ y)) ∧ (∀ x, pv P w ρ (.nilCheck x) = ρ x) ∧ (∀ T x i, pv P w ρ (.fieldAddr T x i) = ptrAdd (ρ x) (fOff P T i)) ∧
    (∀ t x, pv P w ρ (.load t x) = ldV w (ρ x)) ∧ (∀ T x y, pv P w ρ (.indexAddr T x y) = ixV (ρ x) (ρ y) (eSz P T)) ∧
    (∀ x t, pv P w ρ (.call { callee := .builtin .len, args := #[x], argTypes := #[t] }) = lenV (ρ x)) ∧
    (∀ x i, pv P w ρ (.extract x i) = exV (ρ x) i) ∧ (∀ T x lo, pv P w ρ (.slice T x (some lo) none none) = slcV (eSz P T) (some (ρ lo)) none none (ρ x)) ∧ (∀ T x hi, pv P w ρ (.slice T x none (some hi) none) = slcV (eSz P T) none (some (ρ hi)) none (ρ x)) ∧
    (∀ T x hi mx, pv P w ρ (.slice T x none (some hi) (some mx)) = slcV (eSz P T) none (some (ρ hi)) (some (ρ mx)) (ρ x)) := by
  refine ⟨?_, ?_, ?_, ?_, ?_, ?_, ?_, ?_, ?_, ?_, ?_, ?_, ?_, ?_, ?_, ?_, ?_, ?_, ?_, ?_, ?_, ?_, ?_, ?_, ?_, ?_, ?_⟩ <;> intros <;> rfl
theorem dyb (w : World) (ρ : Operand → Value) : (∀ x, dyn w ρ (.move x) = true) ∧ (∀ x, dyn w ρ (.assign x) = true) ∧ (∀ s t x, dyn w ρ (.convert s t x) = isI (ρ x)) ∧
    (∀ t x y u, dyn w ρ (.binOp .add t x y u) = sameK (ρ x) (ρ y)) ∧ (∀ t x y u, dyn w ρ (.binOp .sub t x y u) = sameK (ρ x) (ρ y)) ∧ (∀ t x y u, dyn w ρ (.binOp .mul t x y u) = sameK (ρ x) (ρ y)) ∧
    (∀ t x y u, dyn w ρ (.binOp .lss t x y u) = sameK (ρ x) (ρ y)) ∧ (∀ t x y u, dyn w ρ (.binOp .leq t x y u) = sameK (ρ x) (ρ y)) ∧ (∀ t x y u, dyn w ρ (.binOp .gtr t x y u) = sameK (ρ x) (ρ y)) ∧
    (∀ t x y u, dyn w ρ (.binOp .geq t x y u) = sameK (ρ x) (ρ y)) ∧ (∀ t x y u, dyn w ρ (.binOp .eql t x y u) = sameK (ρ x) (ρ y)) ∧ (∀ t x y u, dyn w ρ (.binOp .neq t x y u) = sameK (ρ x) (ρ y)) ∧
    (∀ t x y u, dyn w ρ (.binOp .or t x y u) = sameK (ρ x) (ρ y)) ∧ (∀ t x y u, dyn w ρ (.binOp .and t x y u) = sameK (ρ x) (ρ y)) ∧
    (∀ t x k c u, dyn w ρ (.binOp .shr t x (.const (.int k c)) u) = (isI (ρ x) && decide (0 ≤ c))) ∧ (∀ t x k c u, dyn w ρ (.binOp .shl t x (.const (.int k c)) u) = (isI (ρ x) && decide (0 ≤ c))) ∧
    (∀ t x, dyn w ρ (.unOp .not t x) = isB (ρ x)) ∧ (∀ c x y, dyn w ρ (.pick c x y) = isB (ρ c)) ∧ (∀ x, dyn w ρ (.nilCheck x) = isPt (ρ x)) ∧ (∀ T x i, dyn w ρ (.fieldAddr T x i) = isPl (ρ x)) ∧
    (∀ t x, dyn w ρ (.load t x) = ldOK w (ρ x)) ∧ (∀ T x y, dyn w ρ (.indexAddr T x y) = ixOK (ρ x) (ρ y)) ∧
    (∀ x t, dyn w ρ (.call { callee := .builtin .len, args := #[x], argTypes := #[t] }) = isS (ρ x)) ∧
    (∀ x i, dyn w ρ (.extract x i) = exOK (ρ x) i) ∧ (∀ T x lo, dyn w ρ (.slice T x (some lo) none none) = slcOK (some (ρ lo)) none none (ρ x)) ∧ (∀ T x hi, dyn w ρ (.slice T x none (some hi) none) = slcOK none (some (ρ hi)) none (ρ x)) ∧
    (∀ T x hi mx, dyn w ρ (.slice T x none (some hi) (some mx)) = slcOK none (some (ρ hi)) (some (ρ mx)) (ρ x)) := by
  refine ⟨?_, ?_, ?_, ?_, ?_, ?_, ?_, ?_, ?_, ?_, ?_, ?_, ?_, ?_, ?_, ?_, ?_, ?_, ?_, ?_, ?_, ?_, ?_, ?_, ?_, ?_, ?_⟩ <;> intros <;> rfl
theorem rnb : (∀ p : Addr, isPt (.pointer (some p)) = true) ∧ (∀ b o : Nat, isPl (.pointer (some ⟨b, o, none⟩)) = true) ∧ (∀ b o n : Nat, ptrAdd (.pointer (some ⟨b, o, none⟩)) n = .pointer (some ⟨b, o + n, none⟩)) ∧ (∀ n : Nat, n + 0 = n) ∧ (∀ n : Nat, 0 + n = n) ∧
    (∀ x y : Value, pickV (.bool true) x y = x) ∧ (∀ x y : Value, pickV (.bool false) x y = y) ∧
    (∀ (b o n c s : Nat) (k : IntKind) (i : Int), ixV (.slice (some ⟨b, o, none⟩) n c) (.int k i) s = .pointer (some ⟨b, o + i.toNat * s, none⟩)) ∧
    (∀ (b o n c : Nat) (k : IntKind) (i : Int), ixOK (.slice (some ⟨b, o, none⟩) n c) (.int k i) = (decide (0 ≤ i) && decide (i < n))) ∧ (∀ n : Nat, n * 1 = n) ∧ (∀ n : Nat, 0 * n = 0) ∧ (∀ x y : Value, exV (.tuple #[x, y]) 0 = x) ∧ (∀ x y : Value, exV (.tuple #[x, y]) 1 = y) ∧ (∀ x y : Value, exOK (.tuple #[x, y]) 0 = true) ∧ (∀ x y : Value, exOK (.tuple #[x, y]) 1 = true) ∧
    (∀ (k j : IntKind) (x y : Int), orV (.int k x) (.int j y) = .int k (orI k x y)) ∧ (∀ (c : Nat) (k : IntKind) (x : Int), shlV c (.int k x) = .int k (shlI k c x)) ∧
    (∀ (s n c : Nat) (oa : Option Addr) (k : IntKind) (i : Int), slcV s (some (.int k i)) none none (.slice oa n c) = .slice (if c = i.toNat then oa else oa.map (·.add (i.toNat * s))) (n - i.toNat) (c - i.toNat)) ∧
    (∀ (s n c : Nat) (oa : Option Addr) (k : IntKind) (i : Int), slcV s none (some (.int k i)) none (.slice oa n c) = .slice oa i.toNat c) ∧
    (∀ (s n c : Nat) (oa : Option Addr) (k j : IntKind) (i m : Int), slcV s none (some (.int k i)) (some (.int j m)) (.slice oa n c) = .slice oa i.toNat m.toNat) ∧
    (∀ (n c : Nat) (oa : Option Addr) (k : IntKind) (i : Int), slcOK (some (.int k i)) none none (.slice oa n c) = (decide (0 ≤ i) && decide (i ≤ n))) ∧
    (∀ (n c : Nat) (oa : Option Addr) (k : IntKind) (i : Int), slcOK none (some (.int k i)) none (.slice oa n c) = (decide (0 ≤ i) && decide (i ≤ c))) ∧
    (∀ (n c : Nat) (oa : Option Addr) (k j : IntKind) (i m : Int), slcOK none (some (.int k i)) (some (.int j m)) (.slice oa n c) = (decide (0 ≤ m) && decide (m ≤ c) && (decide (0 ≤ i) && decide (i ≤ (m.toNat : Int))))) :=
  ⟨fun _ => rfl, fun _ _ => rfl, fun _ _ _ => rfl, fun _ => rfl, Nat.zero_add, fun _ _ => rfl, fun _ _ => rfl, fun _ _ _ _ _ _ _ => rfl, fun _ _ _ _ _ _ => rfl, Nat.mul_one, Nat.zero_mul, fun _ _ => rfl, fun _ _ => rfl, fun _ _ => rfl, fun _ _ => rfl, fun _ _ _ _ => rfl, fun _ _ _ => rfl,
    fun _ _ _ _ _ _ => rfl, fun s n c oa k i => by simp [slcV, optI]; intro _; cases oa <;> simp [Addr.add], fun s n c oa k j i m => by simp [slcV, optI]; intro _; cases oa <;> simp [Addr.add],
    fun n c oa k i => by simp [slcOK, optI, optOK] <;> rfl, fun n c oa k i => by simp [slcOK, optI, optOK] <;> rfl, fun n c oa k j i m => by simp [slcOK, optI, optOK]⟩
def looks : Op → Bool
  | .call { callee := .builtin .len, .. } => true
  | .call _ => false
  | _ => true
def inOrd (l : List Oper) : List (Bool × Nat) := (l.zipIdx).map fun x => (looks x.1.op, x.2)
inductive WF (P : Program) (ops : Array Oper) (X : Nat → Prop) (w0 : World) (Q : Act → World → Prop) : Nat → Act → World → Prop
  | nil {i : Nat} {a : Act} {w : World} : ops.size ≤ i → Q a w → WF P ops X w0 Q i a w
  | look {i : Nat} {o : Oper} {v : Value} {a : Act} {w : World} : ops[i]? = some o → o.guard = none → looks o.op = true → (∀ w', Chg X w0 w' → (execOp a.eval o).run P w' = .ok (.value v) w') →
      WF P ops X w0 Q (i + 1) (a.put o.dst v) w → WF P ops X w0 Q i a w
  | call {i : Nat} {o : Oper} {f : FuncId} {args : Array Value} {R : Value → World → Prop} {a : Act} {w : World} : ops[i]? = some o → o.guard = none → looks o.op = false → (execOp a.eval o).run P w = .ok (.enter f args) w → zan P f args w R →
      (∀ v w', R v w' → Chg X w0 w') → (∀ v w', R v w' → WF P ops X w0 Q (i + 1) (a.put o.dst v) w') → WF P ops X w0 Q i a w
  | step {i : Nat} {o : Oper} {v : Value} {a : Act} {w w' : World} : ops[i]? = some o → o.guard = none → looks o.op = false → (execOp a.eval o).run P w = .ok (.value v) w' → Chg X w0 w' →
      WF P ops X w0 Q (i + 1) (a.put o.dst v) w' → WF P ops X w0 Q i a w
  | gyes {i : Nat} {d : Option Nat} {op : Op} {ty : TypeId} {pos : String} {af : Array Edge} {g : Nat × Bool} {v : Value} {a : Act} {w : World} : ops[i]? = some ⟨d, op, ty, pos, af, some g⟩ → yielded ops a.tmps g.1 = some g.2 → looks op = true →
      (∀ w', Chg X w0 w' → (execOp a.eval ⟨d, op, ty, pos, af, none⟩).run P w' = .ok (.value v) w') → WF P ops X w0 Q (i + 1) (a.put d v) w → WF P ops X w0 Q i a w
  | gno {i : Nat} {d : Option Nat} {op : Op} {ty : TypeId} {pos : String} {af : Array Edge} {g : Nat × Bool} {a : Act} {w : World} : ops[i]? = some ⟨d, op, ty, pos, af, some g⟩ → yielded ops a.tmps g.1 ≠ some g.2 →
      WF P ops X w0 Q (i + 1) (a.put d undef) w → WF P ops X w0 Q i a w
  | gcall {i : Nat} {d : Option Nat} {op : Op} {ty : TypeId} {pos : String} {af : Array Edge} {g : Nat × Bool} {f : FuncId} {args : Array Value} {R : Value → World → Prop} {a : Act} {w : World} : ops[i]? = some ⟨d, op, ty, pos, af, some g⟩ → yielded ops a.tmps g.1 = some g.2 → looks op = false →
      (execOp a.eval ⟨d, op, ty, pos, af, none⟩).run P w = .ok (.enter f args) w → zan P f args w R → (∀ v w', R v w' → Chg X w0 w') → (∀ v w', R v w' → WF P ops X w0 Q (i + 1) (a.put d v) w') → WF P ops X w0 Q i a w
theorem inOrd_drop {l : List Oper} {i : Nat} {o : Oper} (h : l.toArray[i]? = some o) : (inOrd l).drop i = (looks o.op, i) :: (inOrd l).drop (i + 1) := by
  have h' : l[i]? = some o := by simpa using h
  obtain ⟨hi, he⟩ := List.getElem?_eq_some_iff.1 h'
  have hl : i < (inOrd l).length := by simpa [inOrd] using hi
  rw [List.drop_eq_getElem_cons hl]
  congr 1
  simp [inOrd, he]
theorem WF.sound {P : Program} {l : List Oper} {X : Nat → Prop} {w0 : World} {Q : Act → World → Prop} {i : Nat} {a : Act} {w : World} (h : WF P l.toArray X w0 Q i a w) (hS : Chg X w0 w) :
    zao P l.toArray (fun w' => Chg X w0 w') Q ((inOrd l).drop i) a w := by
  induction h with
  | nil h1 h2 =>
    rw [List.drop_of_length_le (by simpa [inOrd] using h1)]
    exact h2
  | @look i o v a w h1 h2 h3 h4 _ ih =>
    rw [inOrd_drop h1, h3]
    obtain ⟨d, op, ty, pos, af, g⟩ := o
    dsimp only at h2
    subst h2
    exact ws_float _ h1 h4 (ih hS)
  | @call i o f args R a w h1 h2 h3 h4 h5 h6 _ ih =>
    rw [inOrd_drop h1, h3]
    exact ws_step h1 fun K hK => wl_enter h2 h4 h5 fun v w' hr => zaa (hK _ _ (h6 v w' hr) (ih v w' hr (h6 v w' hr)))
  | @step i o v a w w' h1 h2 h3 h4 h5 _ ih =>
    rw [inOrd_drop h1, h3]
    exact ws_step h1 fun K hK => zaK h2 h4 (zaa (hK _ _ h5 (ih h5)))
  | @gyes i d op ty pos af g v a w h1 h2 h3 h4 _ ih =>
    rw [inOrd_drop h1, h3]
    exact ws_gyes _ h1 h2 h4 (ih hS)
  | @gno i d op ty pos af g a w h1 h2 _ ih =>
    rw [inOrd_drop h1]
    exact ws_gno h1 h2 hS (ih hS)
  | @gcall i d op ty pos af g f args R a w h1 h2 h3 h4 h5 h6 _ ih =>
    rw [inOrd_drop h1, h3]
    exact ws_step h1 fun K hK => wl_gyes h2 (wl_enter rfl h4 h5 fun v w' hr => zaa (hK _ _ (h6 v w' hr) (ih v w' hr (h6 v w' hr))))
theorem wp_ord {P : Program} {l : List Oper} {id : Nat} {Q : Exit → Act → World → Prop} {a : Act} {w : World} (X : Nat → Prop) (hm : P.follows .mixedOrders = true)
    (hB : (Region.noSelect l.toArray && (decide ((inOrd l).length ≤ l.length) && schedB .any l.toArray (inOrd l) (Array.replicate l.length false))) = true)
    (h : WF P l.toArray X w (Q .normal) 0 a w.drew) : (Code.region id l.toArray true).wp P Q a w := by
  rw [Bool.and_eq_true] at hB
  exact wp_sched (fun w' => Chg X w w') (inOrd l) hm hB.1 hB.2 (Chg.drew _ _) (by have := h.sound (Chg.drew _ _); rwa [List.drop_zero] at this)
section
variable {P : Program} {ops : Array Oper} {X : Nat → Prop} {w0 : World} {Q : Act → World → Prop} {i : Nat} {a : Act} {w : World} {d : Option Nat} {ty : TypeId} {pos : String} {af : Array Edge}
def rdX (X : Nat → Prop) (ρ : Operand → Value) : Op → Prop
  | .load _ x => match ρ x with | .pointer (some p) => ¬ X p.block | _ => True
  | _ => True
structure RdX (X : Nat → Prop) (ρ : Operand → Value) (o : Op) : Prop where
  out : rdX X ρ o
theorem call_w (P : Program) (w w' : World) (ρ : Operand → Value) (c : Call) : dyn w' ρ (.call c) = dyn w ρ (.call c) ∧ pv P w' ρ (.call c) = pv P w ρ (.call c) := by
  obtain ⟨k, ⟨xs⟩, ⟨ts⟩⟩ := c
  cases k with
  | builtin b => cases b <;> rcases xs with _ | ⟨x, _ | ⟨y, xs⟩⟩ <;> rcases ts with _ | ⟨t, _ | ⟨u, ts⟩⟩ <;> exact ⟨rfl, rfl⟩
  | _ => rcases xs with _ | ⟨x, _ | ⟨y, xs⟩⟩ <;> rcases ts with _ | ⟨t, _ | ⟨u, ts⟩⟩ <;> exact ⟨rfl, rfl⟩
theorem wf_run {o : Op} (hx : rdX X a.eval o) (hd : dyn w0 a.eval o = true) (hc : opB P o = true) (w' : World) (c : Chg X w0 w') : (execOp a.eval ⟨d, o, ty, pos, af, none⟩).run P w' = .ok (.value (pv P w0 a.eval o)) w' := by
  have key : dyn w' a.eval o = dyn w0 a.eval o ∧ pv P w' a.eval o = pv P w0 a.eval o := by
    cases o <;> first | exact ⟨rfl, rfl⟩ | exact call_w P w0 w' a.eval _ | (rename_i u _ _; cases u <;> exact ⟨rfl, rfl⟩) | skip
    rename_i t x
    have hd' : ldOK w0 (a.eval x) = true := hd
    show ldOK w' (a.eval x) = ldOK w0 (a.eval x) ∧ ldV w' (a.eval x) = ldV w0 (a.eval x)
    unfold ldOK at hd'
    unfold rdX at hx
    dsimp only at hx
    split at hd'
    · rename_i p hv
      rw [hv] at hx
      have e : w'.cell? p = w0.cell? p := by
        have hlt : p.block < w0.heap.size := by
          have h1 : (w0.heap[p.block]?).isSome = true := by
            cases hh : w0.heap[p.block]? with
            | none => simp [World.cell?, hh] at hd'
            | some _ => rfl
          obtain ⟨o, ho⟩ := Option.isSome_iff_exists.1 h1
          exact (Array.getElem?_eq_some_iff.1 ho).1
        unfold World.cell?
        rw [c.block p.block hlt hx]
      rw [hv]
      simp only [ldOK, ldV, e, and_self]
    · cases hd'
  rw [← key.2]
  exact run_pure (fun _ => rfl) (key.1.trans hd) hc
theorem wf_p {o : Op} (hi : ops[i]? = some ⟨d, o, ty, pos, af, none⟩) (hl : looks o = true) (hx : RdX X a.eval o) (hd : dyn w0 a.eval o = true) (hc : opB P o = true)
    (h : WF P ops X w0 Q (i + 1) (a.put d (pv P w0 a.eval o)) w) : WF P ops X w0 Q i a w := WF.look hi rfl hl (fun w' c => wf_run hx.out hd hc w' c) h
theorem wf_pg {o : Op} {g : Nat × Bool} {og : Oper} {t : Nat} (hi : ops[i]? = some ⟨d, o, ty, pos, af, some g⟩) (ho : ops[g.1]? = some og) (ht : og.dst = some t) (hv : get a t = .bool g.2) (hl : looks o = true) (hx : RdX X a.eval o) (hd : dyn w0 a.eval o = true) (hc : opB P o = true)
    (h : WF P ops X w0 Q (i + 1) (a.put d (pv P w0 a.eval o)) w) : WF P ops X w0 Q i a w := WF.gyes hi (yielded_get ho ht hv) hl (fun w' c => wf_run hx.out hd hc w' c) h
theorem wf_gno {o : Op} {g : Nat × Bool} {og : Oper} {t : Nat} (hi : ops[i]? = some ⟨d, o, ty, pos, af, some g⟩) (ho : ops[g.1]? = some og) (ht : og.dst = some t) (hv : get a t = .bool (!g.2))
    (h : WF P ops X w0 Q (i + 1) (a.put d undef) w) : WF P ops X w0 Q i a w := WF.gno hi (by rw [yielded_get ho ht hv]; cases g.2 <;> simp) h
theorem wf_gnoU {o : Op} {g : Nat × Bool} {og : Oper} {t : Nat} (hi : ops[i]? = some ⟨d, o, ty, pos, af, some g⟩) (ho : ops[g.1]? = some og) (ht : og.dst = some t) (hv : get a t = undef)
    (h : WF P ops X w0 Q (i + 1) (a.put d undef) w) : WF P ops X w0 Q i a w := WF.gno hi (by rw [yielded_undef ho ht hv]; simp) h
theorem wf_call {f : FuncId} {xs : Array Operand} {ts : Array TypeId} {R : Value → World → Prop} (hf : Enters P f) (hi : ops[i]? = some ⟨d, .call { callee := .value (.func f), args := xs, argTypes := ts }, ty, pos, af, none⟩)
    (hc : zan P f (xs.map a.eval) w R) (h : ∀ v w', R v w' → Chg X w0 w' ∧ WF P ops X w0 Q (i + 1) (a.put d v) w') : WF P ops X w0 Q i a w :=
  WF.call hi rfl rfl (run_call hf rfl) hc (fun v w' hr => (h v w' hr).1) fun v w' hr => (h v w' hr).2
def noB (P : Program) (t : Nat) : Bool := aggB P t && sizeB P t 0
theorem run_load0 {w : World} {t : Nat} {p : Addr} (h : noB P t = true) : (Instr.loadAt t (.pointer (some p))).run P w = .ok (.agg #[]) w := by
  unfold noB at h
  rw [Bool.and_eq_true] at h
  have hc := run_loadCells_list (P := P) (w := w) p [] (fun j v hj => by simp at hj)
  simp at hc
  simp [Instr.loadAt, Instr.sureAddr, loadVar, aggB_run h.1, sizeB_run h.2, hc]
theorem wf_load0 {t : TypeId} {g : Nat} (hi : ops[i]? = some ⟨d, .load t (.global g), ty, pos, af, none⟩) (h0 : noB P t = true) (h : WF P ops X w0 Q (i + 1) (a.put d (.agg #[])) w) : WF P ops X w0 Q i a w :=
  WF.look hi rfl rfl (fun w' _ => by simp only [execOp, Sem.run_bind, eval_global, run_load0 h0]; rfl) h
theorem wf_nil (hi : ops.size ≤ i) (h : Q a w) : WF P ops X w0 Q i a w := WF.nil hi h
end
theorem rxb (X : Nat → Prop) (ρ : Operand → Value) : (∀ x, rdX X ρ (.move x) = True) ∧ (∀ x, rdX X ρ (.assign x) = True) ∧ (∀ s t x, rdX X ρ (.convert s t x) = True) ∧ (∀ o t x y u, rdX X ρ (.binOp o t x y u) = True) ∧
    (∀ o t x, rdX X ρ (.unOp o t x) = True) ∧ (∀ x, rdX X ρ (.nilCheck x) = True) ∧ (∀ T x i, rdX X ρ (.fieldAddr T x i) = True) ∧ (∀ T x y, rdX X ρ (.indexAddr T x y) = True) ∧ (∀ c, rdX X ρ (.call c) = True) ∧ (∀ x i, rdX X ρ (.extract x i) = True) ∧ (∀ T x a b c, rdX X ρ (.slice T x a b c) = True) := by
  refine ⟨?_, ?_, ?_, ?_, ?_, ?_, ?_, ?_, ?_, ?_, ?_⟩ <;> intros <;> rfl
theorem rdX_no {ρ : Operand → Value} {o : Op} : RdX (fun _ => False) ρ o := by
  refine ⟨?_⟩
  unfold rdX
  split
  · split
    · exact fun h => h
    · trivial
  · trivial
end Go.Proofs.YtojpodeljpfgaaaDoor
namespace Go.Proofs.YtojpodeljpfgaaaDoor
set_option linter.all false
open Go.RowKit
set_option maxRecDepth 10000
theorem zaz : (Tryd.prog).follows .mixedOrders = true := by kernel_rfl
def zax (l : List Value) : Value := .agg l.toArray
theorem aggOf_cells (l : List Value) : (zax l).cells.toList = l := rfl
def FinC (r : Nat) (ty : TypeId) (R : Value → World → Prop) : Exit → Act → World → Prop
  | .normal, a, w | .ret, a, w => a.defers = [] ∧ ∃ g cs T, get a r = .pointer (some ⟨g, 0, none⟩) ∧ Blk w g cs T ∧ sizeB Tryd.prog ty cs.length = true ∧ R (.agg cs.toArray) w
  | _, _, _ => False
theorem results_cellB {fn : Func} {p : Tmp} {ty : TypeId} (h : fn.results = #[.cell p ty]) (a : Act) (w : World) {g : Nat} {cs : List Value} {T : TypeId} (hp : get a p = .pointer (some ⟨g, 0, none⟩)) (hb : Blk w g cs T)
    (hu : aggB Tryd.prog ty = true) (hi : sizeB Tryd.prog ty cs.length = true) : (results fn a.tmps).run Tryd.prog w = .ok (.agg cs.toArray) w := by
  unfold aggB at hu
  unfold sizeB at hi
  cases hd : (Tryd.prog).underlying ty with
  | none => rw [hd] at hu; cases hu
  | some d =>
    rw [hd] at hu
    cases hj : (Tryd.prog).info? ty with
    | none => rw [hj] at hi; cases hi
    | some i =>
      rw [hj] at hi
      simp at hi
      refine results_cell_row h a.tmps w g T cs.toArray (0, 0) d hp hb hd ?_ (by rw [hj]; simp [hi])
      cases d <;> first | rfl | cases hu
theorem callsR_ofC {f : FuncId} {fn : Func} {c : Code} {args : Array Value} {w : World} {R : Value → World → Prop} {r n : Nat} {ty : TypeId}
    (hf : (Tryd.prog).funcs[f]? = some fn) (hb : fn.body = some c) (hr : fn.results = #[.cell r ty]) (hu : aggB Tryd.prog ty = true) (hn : fn.ntmps = n) (hs : args.size ≤ n)
    (h : ∀ a : Act, a.tmps.size = n → a.defers = [] → (∀ i v, args[i]? = some v → get a i = v) → c.wp Tryd.prog (FinC r ty R) a w) : zan Tryd.prog f args w R := by
  refine calls_of_wp hf hb ?_
  refine wp_mono (h (Start fn args) (start_size hn hs) rfl fun i v => start_get) ?_
  intro e a w' hq
  cases e <;> simp only [FinC] at hq
  · obtain ⟨h1, g, cs, T, h2, h3, h4, h5⟩ := hq
    exact ⟨h1, _, results_cellB hr a w' h2 h3 hu h4, _, rfl, h5⟩
  · obtain ⟨h1, g, cs, T, h2, h3, h4, h5⟩ := hq
    exact ⟨h1, _, results_cellB hr a w' h2 h3 hu h4, _, rfl, h5⟩
section
variable {P : Program} {ops : Array Oper} {Q : Exit → Act → World → Prop} {a : Act} {w : World} {rest : List Oper} {d : Option Nat} {ty : TypeId} {pos : String} {af : Array Edge}
theorem zaQ {t : TypeId} {x : Operand} {l : List Value} (hx : a.eval x = zax l)
    (h : ∀ w', Chg (fun _ => False) w w' → Blk w' w.heap.size l t → w'.heap.size = w.heap.size + 1 → WL P ops Q rest (a.put d (.pointer (some ⟨w.heap.size, 0, none⟩))) w') : WL P ops Q (⟨d, .box t x, ty, pos, af, none⟩ :: rest) a w := by
  refine wl_box ?_
  rw [hx]
  exact h _ (Chg.alloc _ _ _) (Blk.newA _ _ _) (by simp)
theorem zaH {t : TypeId} {z : Value} (hz : zeroB P t z) 
    (h : ∀ w', Chg (fun _ => False) w w' → Blk w' w.heap.size z.cells.toList t → w'.heap.size = w.heap.size + 1 → WL P ops Q rest (a.put d (.pointer (some ⟨w.heap.size, 0, none⟩))) w') : WL P ops Q (⟨d, .alloc t, ty, pos, af, none⟩ :: rest) a w := by
  refine wl_alloc hz ?_
  exact h _ (Chg.alloc _ _ _) (Blk.newA _ _ _) (by simp)
theorem zaA {x y : Operand} {t b n : Nat} {l l' : List Value} {T : TypeId} (hs : sizeB P t n = true) (hx : a.eval x = .pointer (some ⟨b, 0, none⟩)) (hy : a.eval y = zax l') (hb : Blk w b l T)
    (hv : l'.length = n) (h1 : ∀ x ∈ l', x.oneCell' = true) (hn : l.length = n)
    (h : ∀ w', Blk w' b l' T → Chg (fun k => k = b) w w' → WL P ops Q rest (a.put d undef) w') : WL P ops Q (⟨d, .store t x y, ty, pos, af, none⟩ :: rest) a w := by
  refine zap (o := 0) hs hx hy hb hv h1 (by omega) fun w' hb' hc => h w' ?_ hc
  have : zaM l 0 (zax l').cells.toList = l' := by
    rw [aggOf_cells]; simp [zaM]; omega
  rwa [this] at hb'
theorem wl_build {t : TypeId} {parts : Array (Nat × Operand)} {l : List Value} (hb : P.built t ((parts.map fun (i, x) => (i, a.eval x)).toList) = some l.toArray)
    (h : WL P ops Q rest (a.put d (zax l)) w) : WL P ops Q (⟨d, .build t parts, ty, pos, af, none⟩ :: rest) a w :=
  zaK rfl (by simp only [execOp, Sem.run_bind, run_build w t _ _ hb]; rfl) h
theorem wl_shrV {t u : TypeId} {x y : Operand} {j : IntKind} {c : Nat} (hx : isI (a.eval x) = true) (hy : a.eval y = .int j c)
    (h : WL P ops Q rest (a.put d (shrV c (a.eval x))) w) : WL P ops Q (⟨d, .binOp .shr t x y u, ty, pos, af, none⟩ :: rest) a w := by
  cases hv : a.eval x with
  | int k n =>
    rw [hv] at h
    refine zaK rfl ?_ h
    have h0' : ¬ ((c : Int) < 0) := by omega
    simp [execOp, eqGuard, binOp, hv, hy, Op.shift, shrV, h0']
    rw [Int.fdiv_eq_ediv_of_nonneg _ (by exact Int.le_of_lt (Int.pow_pos (by decide)))]
  | _ => rw [hv] at hx; cases hx
def min2 : Value → Value → Value | .int k x, .int _ y => .int k (if y < x then y else x) | v, _ => v
def max2 : Value → Value → Value | .int k x, .int _ y => .int k (if y > x then y else x) | v, _ => v
theorem wl_min {ts : Array TypeId} {x y : Operand} (hx : isI (a.eval x) = true) (hy : isI (a.eval y) = true)
    (h : WL P ops Q rest (a.put d (min2 (a.eval x) (a.eval y))) w) : WL P ops Q (⟨d, .call { callee := .builtin .min, args := #[x, y], argTypes := ts }, ty, pos, af, none⟩ :: rest) a w := by
  cases hv : a.eval x <;> rw [hv] at hx <;> try cases hx
  cases hu : a.eval y <;> rw [hu] at hy <;> try cases hy
  rw [hv, hu] at h
  exact zaK rfl (by simp [execOp, resolve, invoke, builtin, hv, hu, run_min_int2]; rfl) h
theorem wl_max {ts : Array TypeId} {x y : Operand} (hx : isI (a.eval x) = true) (hy : isI (a.eval y) = true)
    (h : WL P ops Q rest (a.put d (max2 (a.eval x) (a.eval y))) w) : WL P ops Q (⟨d, .call { callee := .builtin .max, args := #[x, y], argTypes := ts }, ty, pos, af, none⟩ :: rest) a w := by
  cases hv : a.eval x <;> rw [hv] at hx <;> try cases hx
  cases hu : a.eval y <;> rw [hu] at hy <;> try cases hy
  rw [hv, hu] at h
  exact zaK rfl (by simp [execOp, resolve, invoke, builtin, hv, hu, run_max_int2]; rfl) h
theorem wl_mul {t u : TypeId} {x y : Operand} (hk : sameK (a.eval x) (a.eval y) = true)
    (h : WL P ops Q rest (a.put d (mul2 (a.eval x) (a.eval y))) w) : WL P ops Q (⟨d, .binOp .mul t x y u, ty, pos, af, none⟩ :: rest) a w := by
  cases hv : a.eval x <;> cases hu : a.eval y <;> simp [hv, hu, sameK] at hk
  subst hk; rw [hv, hu] at h; exact zaK rfl (by simp [execOp, eqGuard, binOp, hv, hu, Op.intArith, mul2]) h
end
theorem bigb : (∀ (k j : IntKind) (x y : Int), min2 (.int k x) (.int j y) = .int k (if y < x then y else x)) ∧ (∀ (k j : IntKind) (x y : Int), max2 (.int k x) (.int j y) = .int k (if y > x then y else x)) ∧ (∀ (k j : IntKind) (x y : Int), mul2 (.int k x) (.int j y) = .int k (k.wrap (x * y))) :=
  ⟨fun _ _ _ _ => rfl, fun _ _ _ _ => rfl, fun _ _ _ _ => rfl⟩
end Go.Proofs.YtojpodeljpfgaaaDoor
namespace Go.Proofs.YtojpodeljpfgaaaDoor
set_option linter.all false
theorem kb : kindOf Tryd.prog 5 = .u8 ∧ kindOf Tryd.prog 98 = .u16 ∧ kindOf Tryd.prog 87 = .u32 ∧ kindOf Tryd.prog 65 = .u64 ∧ kindOf Tryd.prog 22 = .i8 ∧ kindOf Tryd.prog 23 = .i16 ∧ kindOf Tryd.prog 21 = .i32 ∧ kindOf Tryd.prog 2 = .i64 ∧ kindOf Tryd.prog 3 = .i64 := ⟨by kernel_rfl, by kernel_rfl, by kernel_rfl, by kernel_rfl, by kernel_rfl, by kernel_rfl, by kernel_rfl, by kernel_rfl, by kernel_rfl⟩
end Go.Proofs.YtojpodeljpfgaaaDoor
namespace Go.Proofs.YtojpodeljpfgaaaDoor
set_option linter.all false
open Go.RowKit Go.Lib
set_option maxRecDepth 10000
def byteTB (P : Program) (t e : Nat) : Bool :=
  (match P.underlying t with | some (.slice x) => x == e | _ => false) && (match P.underlying e with | some (.int k) => decide (k = .u8) | _ => false) &&
  (match P.info? e with | some i => i.size == 1 && i.bytes == 1 && (match i.zero with | some (.int k n) => decide (k = .u8) && n == 0 | _ => false) | none => false)
theorem ByteSl.of {P : Program} {t e : Nat} (h : byteTB P t e = true) : ByteSl P t e := by
  unfold byteTB at h
  simp only [Bool.and_eq_true] at h
  obtain ⟨⟨h1, h2⟩, h3⟩ := h
  refine ⟨?_, ?_, ?_⟩
  · split at h1
    · rename_i x hx; rw [hx]; simp at h1; rw [h1]
    · cases h1
  · split at h2
    · rename_i k hk; rw [hk]; simp at h2; rw [h2]
    · cases h2
  · split at h3
    · rename_i i hi
      simp only [Bool.and_eq_true, beq_iff_eq] at h3
      obtain ⟨⟨h4, h5⟩, h6⟩ := h3
      refine ⟨i, hi, h4, h5, ?_⟩
      split at h6
      · rename_i k n hz; simp at h6; rw [hz, h6.1, h6.2]
      · cases h6
    · cases h3
theorem bT : ByteSl Tryd.prog 24 5 := ByteSl.of (by kernel_rfl)
abbrev eB : TypeId := 5
def AppC (f : FuncId) (args : List Value) (enc : Bs) (pre : World → Prop) : Prop :=
  ∀ (w : World) (base : Nat) (v : Value) (bs : Bs), Own eB w base v bs → bs.length + enc.length ≤ LIM → base ≤ w.heap.size → pre w →
    zan Tryd.prog f (v :: args).toArray w (App eB w base v (bs ++ enc))
theorem flat_ones : ∀ (l : List Value), (∀ v ∈ l, v.cells = #[v]) → l.flatMap (fun v => v.cells.toList) = l
  | [], _ => rfl
  | v :: r, h => by rw [List.flatMap_cons, h v List.mem_cons_self, flat_ones r fun x hx => h x (List.mem_cons_of_mem _ hx)]; rfl
theorem run_lit {w : World} (bs : Bs) (h : bs.length ≤ 16777216) :
    (Instr.buildSlice 24 bs.length ((bs.map byteV).zipIdx.map fun x => (x.2, x.1)).toArray).run Tryd.prog w = .ok (.slice (some ⟨w.heap.size, 0, none⟩) bs.length bs.length) (w.alloc (.cells (bs.map byteV).toArray eB)) := by
  have h1 : ∀ v ∈ bs.map byteV, v.cells = #[v] := by intro v hv; obtain ⟨u, _, rfl⟩ := List.mem_map.1 hv; rfl
  have := run_buildSlice (P := Tryd.prog) (w := w) (t := 24) (e := eB) (sz := 1) bT.ht (by kernel_rfl) (fun w => Tryd.zeroValue5 w) (bs.map byteV) (fun v hv => by rw [h1 v hv]; rfl) (by simpa using h) (by omega)
  rw [List.length_map] at this
  rw [this]
  congr 3
  clear this h
  exact congrArg List.toArray (flat_ones _ h1)
theorem wrap_u8 (n : Int) : IntKind.u8.wrap n = n % 256 := IntKind.wrap_u8 n
theorem bv (n : Int) : Value.int .u8 (IntKind.u8.wrap n) = byteV (byte n) := by
  rw [wrap_u8]
  unfold byteV byte
  congr 1
  simp [UInt8.toNat_ofNat']
  omega
theorem wl_appLit {ops : Array Oper} {Q : Exit → Act → World → Prop} {a : Act} {w : World} {rest : List Oper} {d1 d2 : Nat} {ty1 ty2 : TypeId} {pos1 pos2 : String} {af1 af2 : Array Edge}
    {n : Nat} {parts : Array (Nat × Operand)} {base : Nat} {v : Value} {bs : Bs} {x : Operand} (vs : Bs)
    (hp : (parts.map fun y => (y.1, a.eval y.2)) = ((vs.map byteV).zipIdx.map fun y => (y.2, y.1)).toArray) (hn : n = vs.length) (h8 : vs.length ≤ 8)
    (hx : (a.put (some d1) (.slice (some ⟨w.heap.size, 0, none⟩) n n)).eval x = v) (hd : d1 < a.tmps.size)
    (hown : Own eB w base v bs) (hl : bs.length + vs.length ≤ LIM) (hb : base ≤ w.heap.size)
    (h : ∀ v' w', App eB w base v (bs ++ vs) v' w' → WL Tryd.prog ops Q rest ((a.put (some d1) (.slice (some ⟨w.heap.size, 0, none⟩) n n)).put (some d2) v') w') :
    WL Tryd.prog ops Q (⟨some d1, .buildSlice 24 n parts, ty1, pos1, af1, none⟩ :: ⟨some d2, .call { callee := .builtin .append, args := #[x, .tmp d1], argTypes := #[24, 24] }, ty2, pos2, af2, none⟩ :: rest) a w := by
  subst hn
  have hr := run_lit (w := w) vs (by omega)
  rw [← hp] at hr
  refine wl_bytesLit (e := eB) (bs := vs) hr ?_
  intro w1 hc hbt
  have how : Own eB w1 base v bs := hown.chg hc (fun _ _ h => h)
  refine wl_append bT hx (by rw [eval_tmp, get_put_self hd]) how hbt hl (Nat.le_trans hb hc.size) ?_
  intro v' w2 happ
  refine h v' w2 ⟨happ.own, (hc.mono (Y := fun k => v.ownBlock = some k) fun _ _ h => h.elim).trans happ.chg fun _ _ h => h, ?_⟩
  rcases happ.blk with h | ⟨k, h1, h2⟩
  · exact .inl h
  · exact .inr ⟨k, h1, Nat.le_trans hc.size h2⟩
theorem zar {ops : Array Oper} {Q : Exit → Act → World → Prop} {a : Act} {w : World} {rest : List Oper} {d : Option Nat} {ty : TypeId} {pos : String} {af : Array Edge} {ts : Array TypeId}
    {f : FuncId} {xs : Array Operand} {args : List Value} {enc : Bs} {pre : World → Prop} {base : Nat} {v : Value} {bs : Bs}
    (hf : Enters Tryd.prog f) (hc : AppC f args enc pre) (hx : xs.map a.eval = (v :: args).toArray) (hown : Own eB w base v bs) (hl : bs.length + enc.length ≤ LIM) (hb : base ≤ w.heap.size) (hpre : pre w)
    (h : ∀ v' w', App eB w base v (bs ++ enc) v' w' → WL Tryd.prog ops Q rest (a.put d v') w') :
    WL Tryd.prog ops Q (⟨d, .call { callee := .value (.func f), args := xs, argTypes := ts }, ty, pos, af, none⟩ :: rest) a w :=
  zak hf (by rw [hx]; exact hc w base v bs hown hl hb hpre) h
theorem App.trans {w w1 w2 : World} {base : Nat} {v v1 v2 : Value} {bs bs1 : Bs} (h : App eB w base v bs v1 w1) (k : App eB w1 base v1 bs1 v2 w2) : App eB w base v bs1 v2 w2 := by
  refine ⟨k.own, h.chg.trans k.chg ?_, ?_⟩
  · intro n hn hk
    rcases h.blk with e | ⟨m, e, hm⟩
    · rw [← e]; exact hk
    · rw [e] at hk; simp at hk; omega
  · rcases k.blk with e | ⟨m, e, hm⟩
    · rcases h.blk with e' | ⟨m', e', hm'⟩
      · left; rw [e, e']
      · right; exact ⟨m', by rw [e, e'], hm'⟩
    · right; exact ⟨m, e, Nat.le_trans h.chg.size hm⟩
theorem run_appendStr {P : Program} {t u e : TypeId} (hT : ByteSl P t e) (hu : P.underlying u = some .string) (ty : TypeId) {w : World} {base : Nat} {v : Value} {bs bs' : List UInt8}
    (hown : Own e w base v bs) (hl : bs.length + bs'.length ≤ LIM) (hb : base ≤ w.heap.size) :
    ∃ v' w', (Builtin.append_ #[t, u] ty #[v, .string ⟨bs'.toArray⟩]).run P w = .ok v' w' ∧ App e w base v (bs ++ bs') v' w' := by
  obtain ⟨i, hi, h1, h2, h3⟩ := hT.hi
  unfold LIM at hl
  have hsz : (⟨bs'.toArray⟩ : ByteArray).size = bs'.length := by simp [ByteArray.size]
  have hsc : strCells ⟨bs'.toArray⟩ = bs'.map byteV := by simp [strCells, byteV]
  have main := fun (base : Nat) (hown : Own e w base v bs) (hb : base ≤ w.heap.size) => run_append_own_string (P := P) w base t u ty e i hT.ht hu hi h3 h1 h2 v bs.length (bs.map byteV) hown ⟨bs'.toArray⟩ (by rw [hsz]; unfold maxLen; omega) (by rw [hsz]; omega) hb
  obtain ⟨v', w', hr, ho, hg, hnil⟩ := main base hown hb
  rw [hsz, hsc] at ho
  refine ⟨v', w', hr, ?_, (Chg.ofGrown hg).mono fun k _ hk => hk.symm, ?_⟩
  · unfold Own; rw [List.length_append, List.map_append]; exact ho
  · rcases hown.2 with ⟨rfl, h0⟩ | ⟨g, cap, cur, rfl, hbg, hgg, hnc, hcm, hcs, ht⟩
    · have hbs : bs = [] := List.eq_nil_of_length_eq_zero h0
      subst hbs
      obtain ⟨v2, w2, hr2, ho2, _, _⟩ := main w.heap.size (Own.nil e w _) (Nat.le_refl _)
      rw [hr] at hr2
      simp only [Result.ok.injEq] at hr2
      obtain ⟨rfl, rfl⟩ := hr2
      rcases ho2.2 with ⟨rfl, _⟩ | ⟨g, cap, cur, rfl, hb', _⟩
      · left; rfl
      · right; exact ⟨g, rfl, hb'⟩
    · by_cases hroom : bs.length + bs'.length ≤ cap
      · have hr2 := run_append_room_string (P := P) w t u ty e i hT.ht hu hi h1 g bs.length cap cur hgg ⟨bs'.toArray⟩ (by rw [hsz]; exact hroom) (by rw [hsz]; omega)
        rw [hr] at hr2
        simp only [Result.ok.injEq] at hr2
        obtain ⟨rfl, _⟩ := hr2
        left; rfl
      · have holds : ∀ j u, (bs.map byteV)[j]? = some u → w.cell? ((⟨g, 0, none⟩ : Addr).add j) = some u := World.ownsRow.cells (g := g) hown rfl
        have hr2 := run_append_grow_string (P := P) w t u ty e i (.int .u8 0) hT.ht hu hi h3 ⟨g, 0, none⟩ bs.length cap (bs.map byteV) (by simp [h1]) holds ⟨bs'.toArray⟩ (by rw [hsz]; omega) (by rw [hsz]; omega) (by rw [h2, hsz]; exact growslice_fits (by omega) (by omega))
        rw [hr] at hr2
        simp only [Result.ok.injEq] at hr2
        obtain ⟨rfl, _⟩ := hr2
        right; exact ⟨_, rfl, Nat.le_refl _⟩
theorem wl_appendStr {P : Program} {ops : Array Oper} {Q : Exit → Act → World → Prop} {a : Act} {w : World} {rest : List Oper} {d : Option Nat} {ty : TypeId} {pos : String} {af : Array Edge}
    {t u e : TypeId} (hT : ByteSl P t e) (hu : strB P u = true) {x y : Operand} {base : Nat} {v : Value} {bs : Bs} (bs' : Bs)
    (hx : a.eval x = v) (hy : a.eval y = .string ⟨bs'.toArray⟩) (hown : Own e w base v bs) (hl : bs.length + bs'.length ≤ LIM) (hb : base ≤ w.heap.size)
    (h : ∀ v' w', App e w base v (bs ++ bs') v' w' → WL P ops Q rest (a.put d v') w') :
    WL P ops Q (⟨d, .call { callee := .builtin .append, args := #[x, y], argTypes := #[t, u] }, ty, pos, af, none⟩ :: rest) a w := by
  obtain ⟨v', w', hr, ha⟩ := run_appendStr (bs' := bs') hT (strB_eq hu) ty hown hl hb
  exact zaK rfl (by simp [execOp, resolve, invoke, builtin, hx, hy, hr]) (h v' w' ha)
theorem zas : ∀ (k : Nat) (n : Int), (be k n).length = k
  | 0, _ => rfl
  | k + 1, n => by simp [be, zas k n]
theorem byte_congr {a b : Int} (h : a % 256 = b % 256) : byte a = byte b := by unfold byte; rw [h]
theorem be_congr : ∀ (k : Nat) (a b : Int), a % 256 ^ k = b % 256 ^ k → be k a = be k b
  | 0, _, _, _ => rfl
  | k + 1, a, b, h => by
    have hp : (0 : Int) < 256 ^ k := Int.pow_pos (by decide)
    have hd : (256 ^ (k + 1) : Int) ∣ a - b := Int.dvd_of_emod_eq_zero (Int.emod_eq_emod_iff_emod_sub_eq_zero.1 h)
    obtain ⟨c, hc⟩ := hd
    have e : a = b + 256 ^ k * (256 * c) := by rw [← Int.mul_assoc, ← Int.pow_succ]; rw [Nat.succ_eq_add_one]; omega
    simp only [be]
    rw [be_congr k a b (by rw [e, Int.add_mul_emod_self_left])]
    congr 1
    apply byte_congr
    rw [e, Int.add_mul_ediv_left _ _ (by omega), Int.add_mul_emod_self_left]
theorem be_u16 (n : Int) : be 2 (IntKind.u16.wrap n) = be 2 n := be_congr 2 _ _ (by simp [IntKind.wrap, IntKind.bits, IntKind.signed])
theorem be_u32 (n : Int) : be 4 (IntKind.u32.wrap n) = be 4 n := be_congr 4 _ _ (by simp [IntKind.wrap, IntKind.bits, IntKind.signed])
theorem be_u64 (n : Int) : be 8 (IntKind.u64.wrap n) = be 8 n := be_congr 8 _ _ (by simp [IntKind.wrap, IntKind.bits, IntKind.signed])
theorem AppendInt8_c (n : Int) : AppC 32 [.int .i8 n] (be 1 n) (fun _ => True) := by
  intro w base v bs hown hlim hb hpre
  refine zaj Tryd.func32 rfl rfl Tryd.ntmps32 (by simp) ?_
  intro a hN hD ha
  have h0 : get a 0 = v := ha 0 _ rfl
  have h1 : get a 1 = .int .i8 n := ha 1 _ rfl
  refine wp_seq_k fun K hK => ?_; refine zac ?_; refine zaF ?_; refine zaa ?_; refine hK _ _ ?_; clear hK K
  refine wp_seq_k fun K hK => ?_; refine zac ?_; (repeat (first | ((with_reducible refine zav ?_ ?_ ?_ ?_); (· exact rfl); (· simp [evb, kb, hN, h0, h1, dyb, sdb] <;> omega); (· kernel_rfl); try simp only [evb, kb, hN, seval, pvb, h0, h1]) | ((with_reducible refine zag ?_ ?_ ?_); rotate_left 1; (· simp [evb, kb, hN, h0, h1, sdb]); rotate_left 1; (· kernel_rfl); try simp only [evb, kb, hN, seval, pvb, h0, h1]) | ((with_reducible first | refine zai ?_ ?_ ?_ | refine zad ?_ ?_ | refine zae ?_ ?_ ?_) <;> (first | (with_reducible refine zal ?_; try simp only [evb, kb, hN, seval, pvb, h0, h1]) | (simp [evb, kb, hN, h0, h1, sdb] <;> omega)))))
  refine wl_appLit (be 1 n) (by simp [evb, kb, hN, seval, h0, h1, bv, be, IntKind.bits, List.zipIdx]) rfl (by simp [be]) (by simp [evb, kb, hN, h0, h1, sdb]) (by simp [zaf, hN]) hown hlim hb ?_
  intro v' w' happ
  (repeat (first | ((with_reducible refine zav ?_ ?_ ?_ ?_); (· exact rfl); (· simp [evb, kb, hN, dyb, sdb] <;> omega); (· kernel_rfl); try simp only [evb, kb, hN, seval, pvb]) | ((with_reducible refine zag ?_ ?_ ?_); rotate_left 1; (· simp [evb, kb, hN, sdb]); rotate_left 1; (· kernel_rfl); try simp only [evb, kb, hN, seval, pvb]) | ((with_reducible first | refine zai ?_ ?_ ?_ | refine zad ?_ ?_ | refine zae ?_ ?_ ?_) <;> (first | (with_reducible refine zal ?_; try simp only [evb, kb, hN, seval, pvb]) | (simp [evb, kb, hN, sdb] <;> omega))))); refine zaa ?_; refine hK _ _ ?_; clear hK K; refine wp_ret ⟨by simp [zab, hD], ?_⟩; simp only [evb, kb, hN, seval]
  exact happ
theorem AppendUint16_c (n : Int) : AppC 56 [.int .u16 n] (be 2 n) (fun _ => True) := by
  intro w base v bs hown hlim hb hpre
  refine zaj Tryd.func56 rfl rfl Tryd.ntmps56 (by simp) ?_
  intro a hN hD ha
  have h0 : get a 0 = v := ha 0 _ rfl
  have h1 : get a 1 = .int .u16 n := ha 1 _ rfl
  refine wp_seq_k fun K hK => ?_; refine zac ?_; refine zaF ?_; refine zaa ?_; refine hK _ _ ?_; clear hK K
  refine wp_seq_k fun K hK => ?_; refine zac ?_; (repeat (first | ((with_reducible refine zav ?_ ?_ ?_ ?_); (· exact rfl); (· simp [evb, kb, hN, h0, h1, dyb, sdb] <;> omega); (· kernel_rfl); try simp only [evb, kb, hN, seval, pvb, h0, h1]) | ((with_reducible refine zag ?_ ?_ ?_); rotate_left 1; (· simp [evb, kb, hN, h0, h1, sdb]); rotate_left 1; (· kernel_rfl); try simp only [evb, kb, hN, seval, pvb, h0, h1]) | ((with_reducible first | refine zai ?_ ?_ ?_ | refine zad ?_ ?_ | refine zae ?_ ?_ ?_) <;> (first | (with_reducible refine zal ?_; try simp only [evb, kb, hN, seval, pvb, h0, h1]) | (simp [evb, kb, hN, h0, h1, sdb] <;> omega)))))
  refine wl_appLit (be 2 n) (by simp [evb, kb, hN, seval, h0, h1, bv, be, IntKind.bits, List.zipIdx]) rfl (by simp [be]) (by simp [evb, kb, hN, h0, h1, sdb]) (by simp [zaf, hN]) hown hlim hb ?_
  intro v' w' happ
  (repeat (first | ((with_reducible refine zav ?_ ?_ ?_ ?_); (· exact rfl); (· simp [evb, kb, hN, dyb, sdb] <;> omega); (· kernel_rfl); try simp only [evb, kb, hN, seval, pvb]) | ((with_reducible refine zag ?_ ?_ ?_); rotate_left 1; (· simp [evb, kb, hN, sdb]); rotate_left 1; (· kernel_rfl); try simp only [evb, kb, hN, seval, pvb]) | ((with_reducible first | refine zai ?_ ?_ ?_ | refine zad ?_ ?_ | refine zae ?_ ?_ ?_) <;> (first | (with_reducible refine zal ?_; try simp only [evb, kb, hN, seval, pvb]) | (simp [evb, kb, hN, sdb] <;> omega))))); refine zaa ?_; refine hK _ _ ?_; clear hK K; refine wp_ret ⟨by simp [zab, hD], ?_⟩; simp only [evb, kb, hN, seval]
  exact happ
theorem AppendUint32_c (n : Int) : AppC 55 [.int .u32 n] (be 4 n) (fun _ => True) := by
  intro w base v bs hown hlim hb hpre
  refine zaj Tryd.func55 rfl rfl Tryd.ntmps55 (by simp) ?_
  intro a hN hD ha
  have h0 : get a 0 = v := ha 0 _ rfl
  have h1 : get a 1 = .int .u32 n := ha 1 _ rfl
  refine wp_seq_k fun K hK => ?_; refine zac ?_; refine zaF ?_; refine zaa ?_; refine hK _ _ ?_; clear hK K
  refine wp_seq_k fun K hK => ?_; refine zac ?_; (repeat (first | ((with_reducible refine zav ?_ ?_ ?_ ?_); (· exact rfl); (· simp [evb, kb, hN, h0, h1, dyb, sdb] <;> omega); (· kernel_rfl); try simp only [evb, kb, hN, seval, pvb, h0, h1]) | ((with_reducible refine zag ?_ ?_ ?_); rotate_left 1; (· simp [evb, kb, hN, h0, h1, sdb]); rotate_left 1; (· kernel_rfl); try simp only [evb, kb, hN, seval, pvb, h0, h1]) | ((with_reducible first | refine zai ?_ ?_ ?_ | refine zad ?_ ?_ | refine zae ?_ ?_ ?_) <;> (first | (with_reducible refine zal ?_; try simp only [evb, kb, hN, seval, pvb, h0, h1]) | (simp [evb, kb, hN, h0, h1, sdb] <;> omega)))))
  refine wl_appLit (be 4 n) (by simp [evb, kb, hN, seval, h0, h1, bv, be, IntKind.bits, List.zipIdx]) rfl (by simp [be]) (by simp [evb, kb, hN, h0, h1, sdb]) (by simp [zaf, hN]) hown hlim hb ?_
  intro v' w' happ
  (repeat (first | ((with_reducible refine zav ?_ ?_ ?_ ?_); (· exact rfl); (· simp [evb, kb, hN, dyb, sdb] <;> omega); (· kernel_rfl); try simp only [evb, kb, hN, seval, pvb]) | ((with_reducible refine zag ?_ ?_ ?_); rotate_left 1; (· simp [evb, kb, hN, sdb]); rotate_left 1; (· kernel_rfl); try simp only [evb, kb, hN, seval, pvb]) | ((with_reducible first | refine zai ?_ ?_ ?_ | refine zad ?_ ?_ | refine zae ?_ ?_ ?_) <;> (first | (with_reducible refine zal ?_; try simp only [evb, kb, hN, seval, pvb]) | (simp [evb, kb, hN, sdb] <;> omega))))); refine zaa ?_; refine hK _ _ ?_; clear hK K; refine wp_ret ⟨by simp [zab, hD], ?_⟩; simp only [evb, kb, hN, seval]
  exact happ
theorem appendUint64_c (n : Int) : AppC 54 [.int .u64 n] (be 8 n) (fun _ => True) := by
  intro w base v bs hown hlim hb hpre
  refine zaj Tryd.func54 rfl rfl Tryd.ntmps54 (by simp) ?_
  intro a hN hD ha
  have h0 : get a 0 = v := ha 0 _ rfl
  have h1 : get a 1 = .int .u64 n := ha 1 _ rfl
  refine wp_seq_k fun K hK => ?_; refine zac ?_; refine zaF ?_; refine zaa ?_; refine hK _ _ ?_; clear hK K
  refine wp_seq_k fun K hK => ?_; refine zac ?_; (repeat (first | ((with_reducible refine zav ?_ ?_ ?_ ?_); (· exact rfl); (· simp [evb, kb, hN, h0, h1, dyb, sdb] <;> omega); (· kernel_rfl); try simp only [evb, kb, hN, seval, pvb, h0, h1]) | ((with_reducible refine zag ?_ ?_ ?_); rotate_left 1; (· simp [evb, kb, hN, h0, h1, sdb]); rotate_left 1; (· kernel_rfl); try simp only [evb, kb, hN, seval, pvb, h0, h1]) | ((with_reducible first | refine zai ?_ ?_ ?_ | refine zad ?_ ?_ | refine zae ?_ ?_ ?_) <;> (first | (with_reducible refine zal ?_; try simp only [evb, kb, hN, seval, pvb, h0, h1]) | (simp [evb, kb, hN, h0, h1, sdb] <;> omega)))))
  refine wl_appLit (be 8 n) (by simp [evb, kb, hN, seval, h0, h1, bv, be, IntKind.bits, List.zipIdx]) rfl (by simp [be]) (by simp [evb, kb, hN, h0, h1, sdb]) (by simp [zaf, hN]) hown hlim hb ?_
  intro v' w' happ
  (repeat (first | ((with_reducible refine zav ?_ ?_ ?_ ?_); (· exact rfl); (· simp [evb, kb, hN, dyb, sdb] <;> omega); (· kernel_rfl); try simp only [evb, kb, hN, seval, pvb]) | ((with_reducible refine zag ?_ ?_ ?_); rotate_left 1; (· simp [evb, kb, hN, sdb]); rotate_left 1; (· kernel_rfl); try simp only [evb, kb, hN, seval, pvb]) | ((with_reducible first | refine zai ?_ ?_ ?_ | refine zad ?_ ?_ | refine zae ?_ ?_ ?_) <;> (first | (with_reducible refine zal ?_; try simp only [evb, kb, hN, seval, pvb]) | (simp [evb, kb, hN, sdb] <;> omega))))); refine zaa ?_; refine hK _ _ ?_; clear hK K; refine wp_ret ⟨by simp [zab, hD], ?_⟩; simp only [evb, kb, hN, seval]
  exact happ
theorem AppendInt16_c (n : Int) : AppC 39 [.int .i16 n] (be 2 n) (fun _ => True) := by
  intro w base v bs hown hlim hb hpre
  refine zaj Tryd.func39 rfl rfl Tryd.ntmps39 (by simp) ?_
  intro a hN hD ha
  have h0 : get a 0 = v := ha 0 _ rfl
  have h1 : get a 1 = .int .i16 n := ha 1 _ rfl
  refine wp_seq_k fun K hK => ?_; refine zac ?_; refine zaF ?_; refine zaa ?_; refine hK _ _ ?_; clear hK K
  refine wp_seq_k fun K hK => ?_; refine zac ?_; (repeat (first | ((with_reducible refine zav ?_ ?_ ?_ ?_); (· exact rfl); (· simp [evb, kb, hN, h0, h1, dyb, sdb] <;> omega); (· kernel_rfl); try simp only [evb, kb, hN, seval, pvb, h0, h1]) | ((with_reducible refine zag ?_ ?_ ?_); rotate_left 1; (· simp [evb, kb, hN, h0, h1, sdb]); rotate_left 1; (· kernel_rfl); try simp only [evb, kb, hN, seval, pvb, h0, h1]) | ((with_reducible first | refine zai ?_ ?_ ?_ | refine zad ?_ ?_ | refine zae ?_ ?_ ?_) <;> (first | (with_reducible refine zal ?_; try simp only [evb, kb, hN, seval, pvb, h0, h1]) | (simp [evb, kb, hN, h0, h1, sdb] <;> omega)))))
  refine zar (fun args w => Tryd.call56 args w) (AppendUint16_c (IntKind.u16.wrap n)) (by simp [evb, kb, hN, seval, h0, h1]) hown (by rw [be_u16]; exact hlim) hb trivial ?_
  intro v' w' happ
  rw [be_u16] at happ
  (repeat (first | ((with_reducible refine zav ?_ ?_ ?_ ?_); (· exact rfl); (· simp [evb, kb, hN, dyb, sdb] <;> omega); (· kernel_rfl); try simp only [evb, kb, hN, seval, pvb]) | ((with_reducible refine zag ?_ ?_ ?_); rotate_left 1; (· simp [evb, kb, hN, sdb]); rotate_left 1; (· kernel_rfl); try simp only [evb, kb, hN, seval, pvb]) | ((with_reducible first | refine zai ?_ ?_ ?_ | refine zad ?_ ?_ | refine zae ?_ ?_ ?_) <;> (first | (with_reducible refine zal ?_; try simp only [evb, kb, hN, seval, pvb]) | (simp [evb, kb, hN, sdb] <;> omega))))); refine zaa ?_; refine hK _ _ ?_; clear hK K; refine wp_ret ⟨by simp [zab, hD], ?_⟩; simp only [evb, kb, hN, seval]
  exact happ
theorem AppendInt32_c (n : Int) : AppC 38 [.int .i32 n] (be 4 n) (fun _ => True) := by
  intro w base v bs hown hlim hb hpre
  refine zaj Tryd.func38 rfl rfl Tryd.ntmps38 (by simp) ?_
  intro a hN hD ha
  have h0 : get a 0 = v := ha 0 _ rfl
  have h1 : get a 1 = .int .i32 n := ha 1 _ rfl
  refine wp_seq_k fun K hK => ?_; refine zac ?_; refine zaF ?_; refine zaa ?_; refine hK _ _ ?_; clear hK K
  refine wp_seq_k fun K hK => ?_; refine zac ?_; (repeat (first | ((with_reducible refine zav ?_ ?_ ?_ ?_); (· exact rfl); (· simp [evb, kb, hN, h0, h1, dyb, sdb] <;> omega); (· kernel_rfl); try simp only [evb, kb, hN, seval, pvb, h0, h1]) | ((with_reducible refine zag ?_ ?_ ?_); rotate_left 1; (· simp [evb, kb, hN, h0, h1, sdb]); rotate_left 1; (· kernel_rfl); try simp only [evb, kb, hN, seval, pvb, h0, h1]) | ((with_reducible first | refine zai ?_ ?_ ?_ | refine zad ?_ ?_ | refine zae ?_ ?_ ?_) <;> (first | (with_reducible refine zal ?_; try simp only [evb, kb, hN, seval, pvb, h0, h1]) | (simp [evb, kb, hN, h0, h1, sdb] <;> omega)))))
  refine zar (fun args w => Tryd.call55 args w) (AppendUint32_c (IntKind.u32.wrap n)) (by simp [evb, kb, hN, seval, h0, h1]) hown (by rw [be_u32]; exact hlim) hb trivial ?_
  intro v' w' happ
  rw [be_u32] at happ
  (repeat (first | ((with_reducible refine zav ?_ ?_ ?_ ?_); (· exact rfl); (· simp [evb, kb, hN, dyb, sdb] <;> omega); (· kernel_rfl); try simp only [evb, kb, hN, seval, pvb]) | ((with_reducible refine zag ?_ ?_ ?_); rotate_left 1; (· simp [evb, kb, hN, sdb]); rotate_left 1; (· kernel_rfl); try simp only [evb, kb, hN, seval, pvb]) | ((with_reducible first | refine zai ?_ ?_ ?_ | refine zad ?_ ?_ | refine zae ?_ ?_ ?_) <;> (first | (with_reducible refine zal ?_; try simp only [evb, kb, hN, seval, pvb]) | (simp [evb, kb, hN, sdb] <;> omega))))); refine zaa ?_; refine hK _ _ ?_; clear hK K; refine wp_ret ⟨by simp [zab, hD], ?_⟩; simp only [evb, kb, hN, seval]
  exact happ
theorem AppendInt64_c (n : Int) : AppC 37 [.int .i64 n] (be 8 n) (fun _ => True) := by
  intro w base v bs hown hlim hb hpre
  refine zaj Tryd.func37 rfl rfl Tryd.ntmps37 (by simp) ?_
  intro a hN hD ha
  have h0 : get a 0 = v := ha 0 _ rfl
  have h1 : get a 1 = .int .i64 n := ha 1 _ rfl
  refine wp_seq_k fun K hK => ?_; refine zac ?_; refine zaF ?_; refine zaa ?_; refine hK _ _ ?_; clear hK K
  refine wp_seq_k fun K hK => ?_; refine zac ?_; (repeat (first | ((with_reducible refine zav ?_ ?_ ?_ ?_); (· exact rfl); (· simp [evb, kb, hN, h0, h1, dyb, sdb] <;> omega); (· kernel_rfl); try simp only [evb, kb, hN, seval, pvb, h0, h1]) | ((with_reducible refine zag ?_ ?_ ?_); rotate_left 1; (· simp [evb, kb, hN, h0, h1, sdb]); rotate_left 1; (· kernel_rfl); try simp only [evb, kb, hN, seval, pvb, h0, h1]) | ((with_reducible first | refine zai ?_ ?_ ?_ | refine zad ?_ ?_ | refine zae ?_ ?_ ?_) <;> (first | (with_reducible refine zal ?_; try simp only [evb, kb, hN, seval, pvb, h0, h1]) | (simp [evb, kb, hN, h0, h1, sdb] <;> omega)))))
  refine zar (fun args w => Tryd.call54 args w) (appendUint64_c (IntKind.u64.wrap n)) (by simp [evb, kb, hN, seval, h0, h1]) hown (by rw [be_u64]; exact hlim) hb trivial ?_
  intro v' w' happ
  rw [be_u64] at happ
  (repeat (first | ((with_reducible refine zav ?_ ?_ ?_ ?_); (· exact rfl); (· simp [evb, kb, hN, dyb, sdb] <;> omega); (· kernel_rfl); try simp only [evb, kb, hN, seval, pvb]) | ((with_reducible refine zag ?_ ?_ ?_); rotate_left 1; (· simp [evb, kb, hN, sdb]); rotate_left 1; (· kernel_rfl); try simp only [evb, kb, hN, seval, pvb]) | ((with_reducible first | refine zai ?_ ?_ ?_ | refine zad ?_ ?_ | refine zae ?_ ?_ ?_) <;> (first | (with_reducible refine zal ?_; try simp only [evb, kb, hN, seval, pvb]) | (simp [evb, kb, hN, sdb] <;> omega))))); refine zaa ?_; refine hK _ _ ?_; clear hK K; refine wp_ret ⟨by simp [zab, hD], ?_⟩; simp only [evb, kb, hN, seval]
  exact happ
end Go.Proofs.YtojpodeljpfgaaaDoor
namespace Go.Proofs.YtojpodeljpfgaaaDoor
set_option linter.all false
inductive Tr where
  | mk (n : Int) (b : Bs) (nil : Bool) (l : List Tr) (t : Tags)
  deriving Inhabited
namespace Tr
def n : Tr → Int | mk x _ _ _ _ => x
def b : Tr → Bs | mk _ x _ _ _ => x
def nil : Tr → Bool | mk _ _ x _ _ => x
def l : Tr → List Tr | mk _ _ _ x _ => x
def t : Tr → Tags | mk _ _ _ _ x => x
def zero : Tr := mk 0 [] false [] []
end Tr
end Go.Proofs.YtojpodeljpfgaaaDoor
namespace Go.Proofs.YtojpodeljpfgaaaDoor
set_option linter.all false
open Go.RowKit
structure AppR (e : TypeId) (sz : Nat) (w : World) (base : Nat) (v : Value) (n : Nat) (xs : List Value) (v' : Value) (w' : World) : Prop where
  own : w'.ownsRow base e sz v' n xs
  chg : Chg (fun k => v.ownBlock = some k) w w'
  blk : v'.ownBlock = v.ownBlock ∨ ∃ k, v'.ownBlock = some k ∧ w.heap.size ≤ k
def rowB (P : Program) (t e sz bytes : Nat) : Bool :=
  (match P.underlying t with | some (.slice x) => x == e | _ => false) &&
  (match P.info? e with | some i => i.size == sz && i.bytes == bytes && (match i.zero with | some z => z.cells.size == sz | none => false) | none => false)
theorem rowB_out {P : Program} {t e sz bytes : Nat} (h : rowB P t e sz bytes = true) : P.underlying t = some (.slice e) ∧ ∃ i z, P.info? e = some i ∧ i.zero = some z ∧ i.size = sz ∧ i.bytes = bytes ∧ z.cells.size = sz := by
  unfold rowB at h
  simp only [Bool.and_eq_true] at h
  obtain ⟨h1, h2⟩ := h
  constructor
  · split at h1
    · rename_i x hx; rw [hx]; simp at h1; rw [h1]
    · cases h1
  · split at h2
    · rename_i i hi
      simp only [Bool.and_eq_true, beq_iff_eq] at h2
      obtain ⟨⟨h3, h4⟩, h5⟩ := h2
      split at h5
      · rename_i z hz
        simp at h5
        exact ⟨i, z, hi, hz, h3, h4, h5⟩
      · cases h5
    · cases h2
theorem ownsRow_chg {e : TypeId} {sz : Nat} {w w' : World} {base : Nat} {v : Value} {n : Nat} {xs : List Value} {X : Nat → Prop} (h : w.ownsRow base e sz v n xs) (c : Chg X w w') (hx : ∀ k, v.ownBlock = some k → ¬ X k) : w'.ownsRow base e sz v n xs := by
  refine ⟨h.1, ?_⟩
  rcases h.2 with hn | ⟨g, cap, cur, rfl, hb, hg, rest⟩
  · exact .inl hn
  · exact .inr ⟨g, cap, cur, rfl, hb, (c.block g (Array.getElem?_eq_some_iff.1 hg).1 (hx g rfl)).trans hg, rest⟩
theorem ownsRow_slice {e : TypeId} {sz : Nat} {w : World} {base : Nat} {v : Value} {n : Nat} {xs : List Value} (h : w.ownsRow base e sz v n xs) : ∃ oa cap, v = .slice oa n cap ∧ n ≤ cap ∧
    (n = 0 ∨ ∃ g cs, oa = some ⟨g, 0, none⟩ ∧ base ≤ g ∧ Blk w g cs e ∧ cs.take (n * sz) = xs ∧ v.ownBlock = some g) := by
  rcases h.2 with ⟨rfl, h0⟩ | ⟨g, cap, cur, rfl, hb, hg, hn, _, hcs, ht⟩
  · subst h0; exact ⟨none, 0, rfl, Nat.le_refl _, .inl rfl⟩
  · exact ⟨some ⟨g, 0, none⟩, cap, rfl, hn, .inr ⟨g, cur.toList, rfl, hb, by unfold Blk; simpa using hg, ht, rfl⟩⟩
theorem run_appendRow {P : Program} {t e sz bytes : Nat} (hT : rowB P t e sz bytes = true) (h0 : 0 < sz) (ty : TypeId) {w : World} {base : Nat} {v : Value} {n : Nat} {xs : List Value} (hown : w.ownsRow base e sz v n xs)
    (a : Addr) (m c : Nat) (news : List Value) (hl : news.length = m * sz) (hnews : ∀ j u, news[j]? = some u → w.cell? (a.add j) = some u) (h1 : ∀ u ∈ news, u.oneCell' = true)
    (hlim : n + m ≤ 4611686018427387904) (hbytes : (n + m) * bytes ≤ 140737488355328) (hb : base ≤ w.heap.size) :
    ∃ v' w', (Builtin.append_ #[t, t] ty #[v, .slice (some a) m c]).run P w = .ok v' w' ∧ AppR e sz w base v (n + m) (xs ++ news) v' w' := by
  obtain ⟨ht, i, z, hi, hz, s1, s2, s3⟩ := rowB_out hT
  have hml : n + m ≤ maxLen := by unfold maxLen; omega
  obtain ⟨v', w', hr, ho, hg, hnil⟩ := run_append_own (P := P) w base t ty e i z sz bytes ht hi hz s1 s2 s3 h0 v n xs hown a m c news hl hnews h1 hml hbytes hb
  refine ⟨v', w', hr, ho, (Chg.ofGrown hg).mono fun k _ hk => hk.symm, ?_⟩
  rcases hown.2 with ⟨rfl, hn0⟩ | ⟨g, cap, cur, rfl, hbg, hgg, hnc, hcm, hcs, htk⟩
  · subst hn0
    have hx : xs = [] := List.eq_nil_of_length_eq_zero (by rw [hown.1]; simp)
    subst hx
    obtain ⟨v2, w2, hr2, ho2, _, _⟩ := run_append_own (P := P) w w.heap.size t ty e i z sz bytes ht hi hz s1 s2 s3 h0 (.slice none 0 0) 0 [] (World.ownsRow_nil w _ e sz) a m c news hl hnews h1 (by omega) hbytes (Nat.le_refl _)
    rw [hr] at hr2
    simp only [Result.ok.injEq] at hr2
    obtain ⟨rfl, rfl⟩ := hr2
    rcases ho2.2 with ⟨rfl, _⟩ | ⟨g, cap, cur, rfl, hb', _⟩
    · left; rfl
    · right; exact ⟨g, rfl, hb'⟩
  · by_cases hroom : n + m ≤ cap
    · have hr2 := run_append_room (P := P) w t ty e i ht hi g n cap cur hgg a m c news (by rw [s1]; exact hl) hnews h1 hroom (by rw [s1, hl, hcs, ← Nat.add_mul]; exact Nat.mul_le_mul_right _ hroom)
      rw [hr] at hr2
      simp only [Result.ok.injEq] at hr2
      obtain ⟨rfl, _⟩ := hr2
      left; rfl
    · have holds : ∀ j u, xs[j]? = some u → w.cell? ((⟨g, 0, none⟩ : Addr).add j) = some u := World.ownsRow.cells (g := g) hown rfl
      have hr2 := run_append_grow (P := P) w t ty e i z ht hi hz ⟨g, 0, none⟩ n cap xs (by rw [s1]; exact hown.1) holds a m c news (by rw [s1]; exact hl) hnews (by omega) (by omega) (by rw [s2]; exact growslice_fits (by omega) hbytes)
      rw [hr] at hr2
      simp only [Result.ok.injEq] at hr2
      obtain ⟨rfl, _⟩ := hr2
      right; exact ⟨_, rfl, Nat.le_refl _⟩
end Go.Proofs.YtojpodeljpfgaaaDoor

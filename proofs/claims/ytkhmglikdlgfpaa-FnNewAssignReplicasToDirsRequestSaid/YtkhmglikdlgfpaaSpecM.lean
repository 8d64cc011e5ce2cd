import Derived.Test.YtkhmglikdlgfpaaKbinA
import Derived.Test.YtkhmglikdlgfpaaMem
import Derived.Test.YtkhmglikdlgfpaaSpecP
import Derived.Test.YtkhmglikdlgfpaaSched
import Derived.Laws.Small
import Derived.Laws.Rows
import Derived.Laws.Tables
/-
The reference's schemas and trees in memory; its small functions.
-/
namespace Go.Proofs.Ytkhmglikdlgfpaa
set_option linter.all false
open Go.RowKit
set_option maxRecDepth 10000

/-! ### Memory -/

def kV (k : K) : Value := .int .i64 (kNum k)

mutual
/-- A field of a schema: eight cells. -/
def SchF (w : World) (G : Nat → Prop) : Fld → List Value → Prop
  | .mk k fr to nl tg df of sub, vs => ∃ oa cap, vs = [kV k, .int .i64 fr, .int .i64 to, .int .i64 nl, .int .i64 tg, .int .i64 df, kV of, .slice oa sub.length cap] ∧
      (sub = [] ∨ ∃ b cs T, oa = some ⟨b, 0, none⟩ ∧ G b ∧ Blk w b cs T ∧ SchL w G sub cs)
def SchL (w : World) (G : Nat → Prop) : List Fld → List Value → Prop
  | [], _ => True
  | f :: r, vs => SchF w G f (vs.take 8) ∧ SchL w G r (vs.drop 8)
end
/-- A slice of fields. (Its block begins with it.) -/
def SchS (w : World) (G : Nat → Prop) (fs : List Fld) (v : Value) : Prop :=
  ∃ oa cap, v = .slice oa fs.length cap ∧ (fs = [] ∨ ∃ b cs T, oa = some ⟨b, 0, none⟩ ∧ G b ∧ Blk w b cs T ∧ SchL w G fs cs)

/-- A tag of a tree: two cells. -/
def TgC (w : World) (G : Nat → Prop) (x : Nat × Bs) (vs : List Value) : Prop :=
  ∃ ob cb, vs = [.int .u32 x.1, .slice ob x.2.length cb] ∧ x.1 < 4294967296 ∧ x.2.length ≤ cb ∧ BytesAt w G ob x.2
def TgL (w : World) (G : Nat → Prop) : Tags → List Value → Prop
  | [], _ => True
  | x :: r, vs => TgC w G x (vs.take 2) ∧ TgL w G r (vs.drop 2)
def TgS (w : World) (G : Nat → Prop) (t : Tags) (v : Value) : Prop :=
  ∃ oa cap, v = .slice oa t.length cap ∧ t.length ≤ cap ∧ (t = [] ∨ ∃ b o cs T, oa = some ⟨b, o, none⟩ ∧ G b ∧ Blk w b cs T ∧ TgL w G t (cs.drop o))

mutual
/-- A tree: five cells. -/
def TrC (w : World) (G : Nat → Prop) : Tr → List Value → Prop
  | .mk n b nil l t, vs => ∃ ob cb ol cl vt, vs = [.int .i64 n, .slice ob b.length cb, .bool nil, .slice ol l.length cl, vt] ∧ IntKind.i64.wrap n = n ∧ b.length ≤ cb ∧ l.length ≤ cl ∧
      BytesAt w G ob b ∧ (l = [] ∨ ∃ g o cs T, ol = some ⟨g, o, none⟩ ∧ G g ∧ Blk w g cs T ∧ TrL w G l (cs.drop o)) ∧ TgS w G t vt
def TrL (w : World) (G : Nat → Prop) : List Tr → List Value → Prop
  | [], _ => True
  | x :: r, vs => TrC w G x (vs.take 5) ∧ TrL w G r (vs.drop 5)
end
def TrS (w : World) (G : Nat → Prop) (l : List Tr) (v : Value) : Prop :=
  ∃ ol cl, v = .slice ol l.length cl ∧ l.length ≤ cl ∧ (l = [] ∨ ∃ g o cs T, ol = some ⟨g, o, none⟩ ∧ G g ∧ Blk w g cs T ∧ TrL w G l (cs.drop o))

section
variable {w w' : World} {G G' : Nat → Prop} (st : Stay w w' G G')
include st
theorem TgL.stay : ∀ {t : Tags} {vs : List Value}, TgL w G t vs → TgL w' G' t vs
  | [], _, _ => trivial
  | x :: r, vs, ⟨⟨ob, cb, h1, h2, h3, h4⟩, h5⟩ => ⟨⟨ob, cb, h1, h2, h3, h4.stay st⟩, TgL.stay h5⟩
theorem TgS.stay {t : Tags} {v : Value} (h : TgS w G t v) : TgS w' G' t v := by
  obtain ⟨oa, cap, h1, h2, h3⟩ := h
  refine ⟨oa, cap, h1, h2, ?_⟩
  rcases h3 with h3 | ⟨b, o, cs, T, h4, h5, h6, h7⟩
  · exact .inl h3
  · exact .inr ⟨b, o, cs, T, h4, (st.heap b h6.lt h5).2, h6.stay st h5, h7.stay st⟩
end
mutual
theorem SchF.stay {w w' : World} {G G' : Nat → Prop} (st : Stay w w' G G') : ∀ {f : Fld} {vs : List Value}, SchF w G f vs → SchF w' G' f vs
  | .mk k fr to nl tg df of sub, vs, h => by
    unfold SchF at h ⊢
    obtain ⟨oa, cap, h1, h2⟩ := h
    refine ⟨oa, cap, h1, ?_⟩
    rcases h2 with h2 | ⟨b, cs, T, h4, h5, h6, h7⟩
    · exact .inl h2
    · exact .inr ⟨b, cs, T, h4, (st.heap b h6.lt h5).2, h6.stay st h5, SchL.stay st h7⟩
theorem SchL.stay {w w' : World} {G G' : Nat → Prop} (st : Stay w w' G G') : ∀ {fs : List Fld} {vs : List Value}, SchL w G fs vs → SchL w' G' fs vs
  | [], _, _ => by unfold SchL; trivial
  | f :: r, vs, h => by unfold SchL at h ⊢; exact ⟨SchF.stay st h.1, SchL.stay st h.2⟩
end
mutual
theorem TrC.stay {w w' : World} {G G' : Nat → Prop} (st : Stay w w' G G') : ∀ {v : Tr} {vs : List Value}, TrC w G v vs → TrC w' G' v vs
  | .mk n b nil l t, vs, h => by
    unfold TrC at h ⊢
    obtain ⟨ob, cb, ol, cl, vt, h1, h0, h2, h3, h4, h5, h6⟩ := h
    refine ⟨ob, cb, ol, cl, vt, h1, h0, h2, h3, h4.stay st, ?_, h6.stay st⟩
    rcases h5 with h5 | ⟨g, o, cs, T, k4, k5, k6, k7⟩
    · exact .inl h5
    · exact .inr ⟨g, o, cs, T, k4, (st.heap g k6.lt k5).2, k6.stay st k5, TrL.stay st k7⟩
theorem TrL.stay {w w' : World} {G G' : Nat → Prop} (st : Stay w w' G G') : ∀ {l : List Tr} {vs : List Value}, TrL w G l vs → TrL w' G' l vs
  | [], _, _ => by unfold TrL; trivial
  | f :: r, vs, h => by unfold TrL at h ⊢; exact ⟨TrC.stay st h.1, TrL.stay st h.2⟩
end
theorem SchS.stay {w w' : World} {G G' : Nat → Prop} (st : Stay w w' G G') {fs : List Fld} {v : Value} (h : SchS w G fs v) : SchS w' G' fs v := by
  obtain ⟨oa, cap, h1, h2⟩ := h
  refine ⟨oa, cap, h1, ?_⟩
  rcases h2 with h2 | ⟨b, cs, T, h4, h5, h6, h7⟩
  · exact .inl h2
  · exact .inr ⟨b, cs, T, h4, (st.heap b h6.lt h5).2, h6.stay st h5, h7.stay st⟩
theorem TrS.stay {w w' : World} {G G' : Nat → Prop} (st : Stay w w' G G') {l : List Tr} {v : Value} (h : TrS w G l v) : TrS w' G' l v := by
  obtain ⟨oa, cap, h1, h0, h2⟩ := h
  refine ⟨oa, cap, h1, h0, ?_⟩
  rcases h2 with h2 | ⟨b, o, cs, T, h4, h5, h6, h7⟩
  · exact .inl h2
  · exact .inr ⟨b, o, cs, T, h4, (st.heap b h6.lt h5).2, h6.stay st h5, h7.stay st⟩

theorem TrC.len {w : World} {G : Nat → Prop} {v : Tr} {vs : List Value} (h : TrC w G v vs) : vs.length = 5 := by
  cases v; unfold TrC at h; obtain ⟨_, _, _, _, _, rfl, _⟩ := h; rfl
theorem SchF.len {w : World} {G : Nat → Prop} {f : Fld} {vs : List Value} (h : SchF w G f vs) : vs.length = 8 := by
  cases f; unfold SchF at h; obtain ⟨_, _, rfl, _⟩ := h; rfl

/-- Field i of a list of fields. -/
theorem SchL.get {w : World} {G : Nat → Prop} : ∀ {fs : List Fld} {vs : List Value} {i : Nat} {f : Fld}, SchL w G fs vs → fs[i]? = some f → SchF w G f ((vs.drop (i * 8)).take 8) ∧ i * 8 + 8 ≤ vs.length
  | [], _, i, f, _, hf => by simp at hf
  | g :: r, vs, i, f, h, hf => by
    unfold SchL at h
    cases i with
    | zero =>
      simp at hf; subst hf
      have := h.1.len
      rw [List.length_take] at this
      exact ⟨by simpa using h.1, by omega⟩
    | succ i =>
      have := SchL.get h.2 (by simpa using hf : r[i]? = some f)
      rw [List.drop_drop, List.length_drop] at this
      have e : (i + 1) * 8 = 8 + i * 8 := by omega
      rw [e]
      exact ⟨this.1, by omega⟩
theorem TrL.get {w : World} {G : Nat → Prop} : ∀ {l : List Tr} {vs : List Value} {i : Nat} {x : Tr}, TrL w G l vs → l[i]? = some x → TrC w G x ((vs.drop (i * 5)).take 5) ∧ i * 5 + 5 ≤ vs.length
  | [], _, i, f, _, hf => by simp at hf
  | g :: r, vs, i, f, h, hf => by
    unfold TrL at h
    cases i with
    | zero =>
      simp at hf; subst hf
      have := h.1.len
      rw [List.length_take] at this
      exact ⟨by simpa using h.1, by omega⟩
    | succ i =>
      have := TrL.get h.2 (by simpa using hf : r[i]? = some f)
      rw [List.drop_drop, List.length_drop] at this
      have e : (i + 1) * 5 = 5 + i * 5 := by omega
      rw [e]
      exact ⟨this.1, by omega⟩
theorem TrL.take {w : World} {G : Nat → Prop} : ∀ {l : List Tr} {vs : List Value} (n : Nat), TrL w G l vs → TrL w G (l.take n) vs
  | [], _, n, _ => by simp [TrL]
  | x :: r, vs, 0, _ => by simp [TrL]
  | x :: r, vs, n + 1, h => by
    unfold TrL at h
    rw [List.take_succ_cons]
    unfold TrL
    exact ⟨h.1, TrL.take n h.2⟩
theorem TgL.take {w : World} {G : Nat → Prop} : ∀ {l : Tags} {vs : List Value} (n : Nat), TgL w G l vs → TgL w G (l.take n) vs
  | [], _, n, _ => by simp [TgL]
  | x :: r, vs, 0, _ => by simp [TgL]
  | x :: r, vs, n + 1, h => ⟨h.1, TgL.take n h.2⟩
theorem TgL.get {w : World} {G : Nat → Prop} : ∀ {l : Tags} {vs : List Value} {i : Nat} {x : Nat × Bs}, TgL w G l vs → l[i]? = some x → TgC w G x ((vs.drop (i * 2)).take 2) ∧ i * 2 + 2 ≤ vs.length
  | [], _, i, f, _, hf => by simp at hf
  | g :: r, vs, i, f, h, hf => by
    cases i with
    | zero =>
      simp at hf; subst hf
      obtain ⟨ob, cb, h1, _⟩ := h.1
      have := congrArg List.length h1
      simp only [List.length_take, List.length_cons, List.length_nil] at this
      exact ⟨by simpa using h.1, by omega⟩
    | succ i =>
      have := TgL.get h.2 (by simpa using hf : r[i]? = some f)
      rw [List.drop_drop, List.length_drop] at this
      have e : (i + 1) * 2 = 2 + i * 2 := by omega
      rw [e]
      exact ⟨this.1, by omega⟩

theorem SchF.cells {w : World} {G : Nat → Prop} {f : Fld} {cs : List Value} (h : SchF w G f cs) :
    cs.length = 8 ∧ cs[0]? = some (kV f.kind) ∧ cs[1]? = some (.int .i64 f.from_) ∧ cs[2]? = some (.int .i64 f.to) ∧ cs[3]? = some (.int .i64 f.null) ∧ cs[4]? = some (.int .i64 f.tag) ∧ cs[5]? = some (.int .i64 f.dflt) ∧
      cs[6]? = some (kV f.of) ∧ ∃ v, cs[7]? = some v ∧ SchS w G f.sub v := by
  cases f
  unfold SchF at h
  obtain ⟨oa, cap, rfl, h2⟩ := h
  exact ⟨rfl, rfl, rfl, rfl, rfl, rfl, rfl, rfl, _, rfl, oa, cap, rfl, h2⟩
theorem TrC.cells {w : World} {G : Nat → Prop} {v : Tr} {cs : List Value} (h : TrC w G v cs) :
    cs.length = 5 ∧ cs[0]? = some (.int .i64 v.n) ∧ IntKind.i64.wrap v.n = v.n ∧ (∃ ob cb, cs[1]? = some (.slice ob v.b.length cb) ∧ v.b.length ≤ cb ∧ BytesAt w G ob v.b) ∧ cs[2]? = some (.bool v.nil) ∧
      (∃ x, cs[3]? = some x ∧ TrS w G v.l x) ∧ ∃ x, cs[4]? = some x ∧ TgS w G v.t x := by
  cases v
  unfold TrC at h
  obtain ⟨ob, cb, ol, cl, vt, rfl, h0, h2, h3, h4, h5, h6⟩ := h
  exact ⟨rfl, rfl, h0, ⟨ob, cb, rfl, h2, h4⟩, rfl, ⟨_, rfl, ol, cl, rfl, h3, h5⟩, _, rfl, h6⟩

def aggOf (l : List Value) : Value := .agg l.toArray
theorem aggOf_cells (l : List Value) : (aggOf l).cells.toList = l := rfl

/-! ### A result that lies in memory -/

def FinC (r : Nat) (ty : TypeId) (R : Value → World → Prop) : Exit → Act → World → Prop
  | .normal, a, w | .ret, a, w => a.defers = [] ∧ ∃ g cs T, get a r = .pointer (some ⟨g, 0, none⟩) ∧ Blk w g cs T ∧ sizeB Try.prog ty cs.length = true ∧ R (.agg cs.toArray) w
  | _, _, _ => False

theorem results_cellB {fn : Func} {p : Tmp} {ty : TypeId} (h : fn.results = #[.cell p ty]) (a : Act) (w : World) {g : Nat} {cs : List Value} {T : TypeId} (hp : get a p = .pointer (some ⟨g, 0, none⟩)) (hb : Blk w g cs T)
    (hu : aggB Try.prog ty = true) (hi : sizeB Try.prog ty cs.length = true) : (results fn a.tmps).run Try.prog w = .ok (.agg cs.toArray) w := by
  unfold aggB at hu
  unfold sizeB at hi
  cases hd : (Try.prog).underlying ty with
  | none => rw [hd] at hu; cases hu
  | some d =>
    rw [hd] at hu
    cases hj : (Try.prog).info? ty with
    | none => rw [hj] at hi; cases hi
    | some i =>
      rw [hj] at hi
      simp at hi
      refine results_cell_row h a.tmps w g T cs.toArray (0, 0) d hp hb hd ?_ (by rw [hj]; simp [hi])
      cases d <;> first | rfl | cases hu

theorem callsR_ofC {f : FuncId} {fn : Func} {c : Code} {args : Array Value} {w : World} {R : Value → World → Prop} {r n : Nat} {ty : TypeId}
    (hf : (Try.prog).funcs[f]? = some fn) (hb : fn.body = some c) (hr : fn.results = #[.cell r ty]) (hu : aggB Try.prog ty = true) (hn : fn.ntmps = n) (hs : args.size ≤ n)
    (h : ∀ a : Act, a.tmps.size = n → a.defers = [] → (∀ i v, args[i]? = some v → get a i = v) → c.wp Try.prog (FinC r ty R) a w) : CallsR Try.prog f args w R := by
  refine calls_of_wp hf hb ?_
  refine wp_mono (h (Start fn args) (start_size hn hs) rfl fun i v => start_get) ?_
  intro e a w' hq
  cases e <;> simp only [FinC] at hq
  · obtain ⟨h1, g, cs, T, h2, h3, h4, h5⟩ := hq
    exact ⟨h1, _, results_cellB hr a w' h2 h3 hu h4, _, rfl, h5⟩
  · obtain ⟨h1, g, cs, T, h2, h3, h4, h5⟩ := hq
    exact ⟨h1, _, results_cellB hr a w' h2 h3 hu h4, _, rfl, h5⟩

/-! ### More operations -/

section
variable {P : Program} {ops : Array Oper} {Q : Exit → Act → World → Prop} {a : Act} {w : World} {rest : List Oper} {d : Option Nat} {ty : TypeId} {pos : String} {af : Array Edge}

theorem wl_boxA {t : TypeId} {x : Operand} {l : List Value} (hx : a.eval x = aggOf l)
    (h : ∀ w', Chg (fun _ => False) w w' → Blk w' w.heap.size l t → w'.heap.size = w.heap.size + 1 → WL P ops Q rest (a.put d (.pointer (some ⟨w.heap.size, 0, none⟩))) w') : WL P ops Q (⟨d, .box t x, ty, pos, af, none⟩ :: rest) a w := by
  refine wl_box ?_
  rw [hx]
  exact h _ (Chg.alloc _ _ _) (Blk.newA _ _ _) (by simp)
theorem wl_allocA {t : TypeId} {z : Value} (hz : zeroB P t z) 
    (h : ∀ w', Chg (fun _ => False) w w' → Blk w' w.heap.size z.cells.toList t → w'.heap.size = w.heap.size + 1 → WL P ops Q rest (a.put d (.pointer (some ⟨w.heap.size, 0, none⟩))) w') : WL P ops Q (⟨d, .alloc t, ty, pos, af, none⟩ :: rest) a w := by
  refine wl_alloc hz ?_
  exact h _ (Chg.alloc _ _ _) (Blk.newA _ _ _) (by simp)
/-- A whole variable is set. -/
theorem wl_storeAll {x y : Operand} {t b n : Nat} {l l' : List Value} {T : TypeId} (hs : sizeB P t n = true) (hx : a.eval x = .pointer (some ⟨b, 0, none⟩)) (hy : a.eval y = aggOf l') (hb : Blk w b l T)
    (hv : l'.length = n) (h1 : ∀ x ∈ l', x.oneCell' = true) (hn : l.length = n)
    (h : ∀ w', Blk w' b l' T → Chg (fun k => k = b) w w' → WL P ops Q rest (a.put d undef) w') : WL P ops Q (⟨d, .store t x y, ty, pos, af, none⟩ :: rest) a w := by
  refine wl_store (o := 0) hs hx hy hb hv h1 (by omega) fun w' hb' hc => h w' ?_ hc
  have : splice l 0 (aggOf l').cells.toList = l' := by
    rw [aggOf_cells]; simp [splice]; omega
  rwa [this] at hb'
theorem wl_build {t : TypeId} {parts : Array (Nat × Operand)} {l : List Value} (hb : P.built t ((parts.map fun (i, x) => (i, a.eval x)).toList) = some l.toArray)
    (h : WL P ops Q rest (a.put d (aggOf l)) w) : WL P ops Q (⟨d, .build t parts, ty, pos, af, none⟩ :: rest) a w :=
  wl_val rfl (by simp only [execOp, Sem.run_bind, run_build w t _ _ hb]; rfl) h
theorem wl_shrV {t u : TypeId} {x y : Operand} {j : IntKind} {c : Nat} (hx : isI (a.eval x) = true) (hy : a.eval y = .int j c)
    (h : WL P ops Q rest (a.put d (shrV c (a.eval x))) w) : WL P ops Q (⟨d, .binOp .shr t x y u, ty, pos, af, none⟩ :: rest) a w := by
  cases hv : a.eval x with
  | int k n =>
    rw [hv] at h
    refine wl_val rfl ?_ h
    have h0' : ¬ ((c : Int) < 0) := by omega
    simp [execOp, eqGuard, binOp, hv, hy, Op.shift, shrV, h0']
    rw [Int.fdiv_eq_ediv_of_nonneg _ (by exact Int.le_of_lt (Int.pow_pos (by decide)))]
  | _ => rw [hv] at hx; cases hx
def and1 : Value → Value | .int k x => .int k (x % 2) | v => v
theorem wl_and1 {t u : TypeId} {x : Operand} {j : IntKind} (hk : sameK (a.eval x) (.int j 1) = true)
    (h : WL P ops Q rest (a.put d (and1 (a.eval x))) w) : WL P ops Q (⟨d, .binOp .and t x (.const (.int j 1)) u, ty, pos, af, none⟩ :: rest) a w := by
  cases hv : a.eval x with
  | int k n =>
    rw [hv] at hk h
    simp [sameK] at hk; subst hk
    refine wl_val rfl ?_ h
    have e : ((BitVec.ofInt k.bits n &&& BitVec.ofInt k.bits 1).toNat : Int) = n % 2 := by
      have h1 := toNat_ofInt k.bits n
      have h2 : (BitVec.ofInt k.bits 1).toNat = 2 ^ 1 - 1 := by cases k <;> rfl
      rw [BitVec.toNat_and, h2, Nat.and_two_pow_sub_one_eq_mod]
      have : ((2 : Int) ^ k.bits) % 2 = 0 := by cases k <;> rfl
      have hd : (2 : Int) ∣ 2 ^ k.bits := Int.dvd_of_emod_eq_zero this
      rw [Int.natCast_emod, h1]
      exact Int.emod_emod_of_dvd n hd
    have e2 : k.wrap (n % 2) = n % 2 := by
      have a1 : 0 ≤ n % 2 := by omega
      have a2 : n % 2 < 2 := by omega
      generalize n % 2 = m at a1 a2
      cases k <;> simp [IntKind.wrap, IntKind.bits, IntKind.signed] <;> omega
    simp only [execOp, eqGuard, binOp, hv, eval_const, Op.intBits, and1]
    simp [-BitVec.toNat_and, -BitVec.toNat_ofInt, -BitVec.ofInt_ofNat, e, e2]
  | _ => rw [hv] at hk; cases hk
theorem run_sliceTo {t e n len cap : Nat} {k : IntKind} {oa : Option Addr} (ht : sliceB P t e = true) (hn : n ≤ cap) : (Instr.sliceAt t (.slice oa len cap) none (some (.int k n)) none).run P w = .ok (.slice oa n cap) w := by
  obtain ⟨el, he, hs⟩ := sliceB_eq ht
  have h1 := sizeB_run (P := P) hs w
  have h3 : (n : Int) ≤ cap := by omega
  have h4 : oa.map (fun x => Addr.add x 0) = oa := by cases oa <;> simp [Addr.add]
  simp [Instr.sliceAt, Instr.slice, underlying, he, Instr.sliceBounds, h1, Instr.sliceBound, h3, h4, asIntOf]
  intro hx; omega
theorem wl_sliceTo {t e n len cap : Nat} {k : IntKind} {oa : Option Addr} {x y : Operand} (ht : sliceB P t e = true) (hx : a.eval x = .slice oa len cap) (hy : a.eval y = .int k n) (hn : n ≤ cap)
    (h : WL P ops Q rest (a.put d (.slice oa n cap)) w) : WL P ops Q (⟨d, .slice t x none (some y) none, ty, pos, af, none⟩ :: rest) a w :=
  wl_val rfl (by simp [execOp, hx, hy, run_sliceTo ht hn]) h

/-- The variable at block b, cell i. -/
theorem wl_fieldAt {x : Operand} {T i off n b : Nat} (hf : fieldB P T i off n = true) (hx : a.eval x = .pointer (some ⟨b, 0, none⟩))
    (h : WL P ops Q rest (a.put d (.pointer (some ⟨b, off, none⟩))) w) : WL P ops Q (⟨d, .fieldAddr T x i, ty, pos, af, none⟩ :: rest) a w :=
  wl_fieldAddr (b := b) (o := 0) hf hx (by rw [Nat.zero_add]; exact h)
def min2 : Value → Value → Value | .int k x, .int _ y => .int k (if y < x then y else x) | v, _ => v
def max2 : Value → Value → Value | .int k x, .int _ y => .int k (if y > x then y else x) | v, _ => v
theorem wl_min {ts : Array TypeId} {x y : Operand} (hx : isI (a.eval x) = true) (hy : isI (a.eval y) = true)
    (h : WL P ops Q rest (a.put d (min2 (a.eval x) (a.eval y))) w) : WL P ops Q (⟨d, .call { callee := .builtin .min, args := #[x, y], argTypes := ts }, ty, pos, af, none⟩ :: rest) a w := by
  cases hv : a.eval x <;> rw [hv] at hx <;> try cases hx
  cases hu : a.eval y <;> rw [hu] at hy <;> try cases hy
  rw [hv, hu] at h
  exact wl_val rfl (by simp [execOp, resolve, invoke, builtin, hv, hu, run_min_int2]; rfl) h
theorem wl_max {ts : Array TypeId} {x y : Operand} (hx : isI (a.eval x) = true) (hy : isI (a.eval y) = true)
    (h : WL P ops Q rest (a.put d (max2 (a.eval x) (a.eval y))) w) : WL P ops Q (⟨d, .call { callee := .builtin .max, args := #[x, y], argTypes := ts }, ty, pos, af, none⟩ :: rest) a w := by
  cases hv : a.eval x <;> rw [hv] at hx <;> try cases hx
  cases hu : a.eval y <;> rw [hu] at hy <;> try cases hy
  rw [hv, hu] at h
  exact wl_val rfl (by simp [execOp, resolve, invoke, builtin, hv, hu, run_max_int2]; rfl) h
def mul2 : Value → Value → Value | .int k x, .int _ y => .int k (k.wrap (x * y)) | v, _ => v
theorem wl_mul {t u : TypeId} {x y : Operand} (hk : sameK (a.eval x) (a.eval y) = true)
    (h : WL P ops Q rest (a.put d (mul2 (a.eval x) (a.eval y))) w) : WL P ops Q (⟨d, .binOp .mul t x y u, ty, pos, af, none⟩ :: rest) a w := by
  cases hv : a.eval x <;> cases hu : a.eval y <;> simp [hv, hu, sameK] at hk
  subst hk; rw [hv, hu] at h; exact wl_val rfl (by simp [execOp, eqGuard, binOp, hv, hu, Op.intArith, mul2]) h
end

theorem bigb : (∀ (k j : IntKind) (x y : Int), min2 (.int k x) (.int j y) = .int k (if y < x then y else x)) ∧ (∀ (k j : IntKind) (x y : Int), max2 (.int k x) (.int j y) = .int k (if y > x then y else x)) ∧ (∀ (k j : IntKind) (x y : Int), mul2 (.int k x) (.int j y) = .int k (k.wrap (x * y))) :=
  ⟨fun _ _ _ _ => rfl, fun _ _ _ _ => rfl, fun _ _ _ _ => rfl⟩
end Go.Proofs.Ytkhmglikdlgfpaa

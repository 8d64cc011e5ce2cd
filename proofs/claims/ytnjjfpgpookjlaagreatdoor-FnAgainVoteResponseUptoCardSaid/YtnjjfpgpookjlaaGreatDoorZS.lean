import Derived.Test.YtnjjfpgpookjlaaGreatDoorZA
import Derived.Test.YtnjjfpgpookjlaaGreatDoorZK
import Derived.Deep.AppendLies
/-
What the proofs of the laws rest on, part ZS.
-/
namespace Go.Proofs.YtnjjfpgpookjlaaGreatDoor
set_option linter.all false
set_option maxRecDepth 10000
open Go.RowKit
set_option maxRecDepth 10000
def kV (k : K) : Value := .int .i64 (zaI k)
mutual
def SchF (w : World) (G : Nat → Prop) : Fld → List Value → Prop
 | .mk k fr to nl tg df of sub, vs => ∃ oa cap, vs = [kV k, .int .i64 fr, .int .i64 to, .int .i64 nl, .int .i64 tg, .int .i64 df, kV of, .slice oa sub.length cap] ∧
   (sub = [] ∨ ∃ b cs T, oa = some ⟨b, 0, none⟩ ∧ G b ∧ Blk w b cs T ∧ SchL w G sub cs)
def SchL (w : World) (G : Nat → Prop) : List Fld → List Value → Prop
 | [], _ => True
 | f :: r, vs => SchF w G f (vs.take 8) ∧ SchL w G r (vs.drop 8)
end
def SchS (w : World) (G : Nat → Prop) (fs : List Fld) (v : Value) : Prop :=
 ∃ oa cap, v = .slice oa fs.length cap ∧ (fs = [] ∨ ∃ b cs T, oa = some ⟨b, 0, none⟩ ∧ G b ∧ Blk w b cs T ∧ SchL w G fs cs)
def TgC (w : World) (G : Nat → Prop) (x : Nat × Bs) (vs : List Value) : Prop :=
 ∃ ob cb, vs = [.int .u32 x.1, .slice ob x.2.length cb] ∧ x.1 < 4294967296 ∧ x.2.length ≤ cb ∧ zav w G ob x.2
def TgL (w : World) (G : Nat → Prop) : za5 → List Value → Prop
 | [], _ => True
 | x :: r, vs => TgC w G x (vs.take 2) ∧ TgL w G r (vs.drop 2)
def TgS (w : World) (G : Nat → Prop) (t : za5) (v : Value) : Prop :=
 ∃ oa cap, v = .slice oa t.length cap ∧ t.length ≤ cap ∧ (t = [] ∨ ∃ b o cs T, oa = some ⟨b, o, none⟩ ∧ G b ∧ Rbk w b cs T ∧ TgL w G t (cs.drop o))
mutual
def TrC (w : World) (G : Nat → Prop) : Tr → List Value → Prop
 | .mk n b nil l t, vs => ∃ ob cb ol cl vt, vs = [.int .i64 n, .slice ob b.length cb, .bool nil, .slice ol l.length cl, vt] ∧ IntKind.i64.wrap n = n ∧ b.length ≤ cb ∧ l.length ≤ cl ∧
   zav w G ob b ∧ (l = [] ∨ ∃ g o cs T, ol = some ⟨g, o, none⟩ ∧ G g ∧ Rbk w g cs T ∧ TrL w G l (cs.drop o)) ∧ TgS w G t vt
def TrL (w : World) (G : Nat → Prop) : List Tr → List Value → Prop
 | [], _ => True
 | x :: r, vs => TrC w G x (vs.take 5) ∧ TrL w G r (vs.drop 5)
end
def TrS (w : World) (G : Nat → Prop) (l : List Tr) (v : Value) : Prop :=
 ∃ ol cl, v = .slice ol l.length cl ∧ l.length ≤ cl ∧ (l = [] ∨ ∃ g o cs T, ol = some ⟨g, o, none⟩ ∧ G g ∧ Rbk w g cs T ∧ TrL w G l (cs.drop o))
section
variable {w w' : World} {G G' : Nat → Prop} (st : zbl w w' G G')
include st
theorem TgL.stay : ∀ {t : za5} {vs : List Value}, TgL w G t vs → TgL w' G' t vs
 | [], _, _ => trivial
 | x :: r, vs, ⟨⟨ob, cb, h1, h2, h3, h4⟩, h5⟩ => ⟨⟨ob, cb, h1, h2, h3, h4.stay st⟩, TgL.stay h5⟩
theorem TgS.stay {t : za5} {v : Value} (h : TgS w G t v) : TgS w' G' t v := by
 obtain ⟨oa, cap, h1, h2, h3⟩ := h
 refine ⟨oa, cap, h1, h2, ?_⟩
 rcases h3 with h3 | ⟨b, o, cs, T, h4, h5, h6, h7⟩
 ·exact .inl h3
 ·exact .inr ⟨b, o, cs, T, h4, (st.heap b h6.lt h5).2, h6.stay st h5, h7.stay st⟩
end
mutual
theorem SchF.stay {w w' : World} {G G' : Nat → Prop} (st : zbl w w' G G') : ∀ {f : Fld} {vs : List Value}, SchF w G f vs → SchF w' G' f vs
 | .mk k fr to nl tg df of sub, vs, h => by
  unfold SchF at h ⊢
  obtain ⟨oa, cap, h1, h2⟩ := h
  refine ⟨oa, cap, h1, ?_⟩
  rcases h2 with h2 | ⟨b, cs, T, h4, h5, h6, h7⟩
  ·exact .inl h2
  ·exact .inr ⟨b, cs, T, h4, (st.heap b h6.lt h5).2, h6.stay st h5, SchL.stay st h7⟩
theorem SchL.stay {w w' : World} {G G' : Nat → Prop} (st : zbl w w' G G') : ∀ {fs : List Fld} {vs : List Value}, SchL w G fs vs → SchL w' G' fs vs
 | [], _, _ => by unfold SchL; trivial
 | f :: r, vs, h => by unfold SchL at h ⊢; exact ⟨SchF.stay st h.1, SchL.stay st h.2⟩
end
mutual
theorem TrC.stay {w w' : World} {G G' : Nat → Prop} (st : zbl w w' G G') : ∀ {v : Tr} {vs : List Value}, TrC w G v vs → TrC w' G' v vs
 | .mk n b nil l t, vs, h => by
  unfold TrC at h ⊢
  obtain ⟨ob, cb, ol, cl, vt, h1, h0, h2, h3, h4, h5, h6⟩ := h
  refine ⟨ob, cb, ol, cl, vt, h1, h0, h2, h3, h4.stay st, ?_, h6.stay st⟩
  rcases h5 with h5 | ⟨g, o, cs, T, k4, k5, k6, k7⟩
  ·exact .inl h5
  ·exact .inr ⟨g, o, cs, T, k4, (st.heap g k6.lt k5).2, k6.stay st k5, TrL.stay st k7⟩
theorem TrL.stay {w w' : World} {G G' : Nat → Prop} (st : zbl w w' G G') : ∀ {l : List Tr} {vs : List Value}, TrL w G l vs → TrL w' G' l vs
 | [], _, _ => by unfold TrL; trivial
 | f :: r, vs, h => by unfold TrL at h ⊢; exact ⟨TrC.stay st h.1, TrL.stay st h.2⟩
end
theorem SchS.stay {w w' : World} {G G' : Nat → Prop} (st : zbl w w' G G') {fs : List Fld} {v : Value} (h : SchS w G fs v) : SchS w' G' fs v := by
 obtain ⟨oa, cap, h1, h2⟩ := h
 refine ⟨oa, cap, h1, ?_⟩
 rcases h2 with h2 | ⟨b, cs, T, h4, h5, h6, h7⟩
 ·exact .inl h2
 ·exact .inr ⟨b, cs, T, h4, (st.heap b h6.lt h5).2, h6.stay st h5, h7.stay st⟩
theorem TrS.stay {w w' : World} {G G' : Nat → Prop} (st : zbl w w' G G') {l : List Tr} {v : Value} (h : TrS w G l v) : TrS w' G' l v := by
 obtain ⟨oa, cap, h1, h0, h2⟩ := h
 refine ⟨oa, cap, h1, h0, ?_⟩
 rcases h2 with h2 | ⟨b, o, cs, T, h4, h5, h6, h7⟩
 ·exact .inl h2
 ·exact .inr ⟨b, o, cs, T, h4, (st.heap b h6.lt h5).2, h6.stay st h5, h7.stay st⟩
theorem TrC.len {w : World} {G : Nat → Prop} {v : Tr} {vs : List Value} (h : TrC w G v vs) : vs.length = 5 := by
 cases v; unfold TrC at h; obtain ⟨_, _, _, _, _, rfl, _⟩ := h; rfl
theorem SchF.len {w : World} {G : Nat → Prop} {f : Fld} {vs : List Value} (h : SchF w G f vs) : vs.length = 8 := by
 cases f; unfold SchF at h; obtain ⟨_, _, rfl, _⟩ := h; rfl
theorem SchL.get {w : World} {G : Nat → Prop} : ∀ {fs : List Fld} {vs : List Value} {i : Nat} {f : Fld}, SchL w G fs vs → fs[i]? = some f → SchF w G f ((vs.drop (i * 8)).take 8) ∧ i * 8 + 8 ≤ vs.length
 | [], _, i, f, _, hf => by simp at hf
 | g :: r, vs, i, f, h, hf => by
  unfold SchL at h
  cases i with
  | zero =>
   simp at hf; subst hf
   have := h.1.len
   rw [List.length_take] at this
   exact ⟨by simpa using h.1, by omega⟩
  | succ i =>
   have := SchL.get h.2 (by simpa using hf : r[i]? = some f)
   rw [List.drop_drop, List.length_drop] at this
   have e : (i + 1) * 8 = 8 + i * 8 := by omega
   rw [e]
   exact ⟨this.1, by omega⟩
theorem TrL.get {w : World} {G : Nat → Prop} : ∀ {l : List Tr} {vs : List Value} {i : Nat} {x : Tr}, TrL w G l vs → l[i]? = some x → TrC w G x ((vs.drop (i * 5)).take 5) ∧ i * 5 + 5 ≤ vs.length
 | [], _, i, f, _, hf => by simp at hf
 | g :: r, vs, i, f, h, hf => by
  unfold TrL at h
  cases i with
  | zero =>
   simp at hf; subst hf
   have := h.1.len
   rw [List.length_take] at this
   exact ⟨by simpa using h.1, by omega⟩
  | succ i =>
   have := TrL.get h.2 (by simpa using hf : r[i]? = some f)
   rw [List.drop_drop, List.length_drop] at this
   have e : (i + 1) * 5 = 5 + i * 5 := by omega
   rw [e]
   exact ⟨this.1, by omega⟩
theorem TrL.take {w : World} {G : Nat → Prop} : ∀ {l : List Tr} {vs : List Value} (n : Nat), TrL w G l vs → TrL w G (l.take n) vs
 | [], _, n, _ => by simp [TrL]
 | x :: r, vs, 0, _ => by simp [TrL]
 | x :: r, vs, n + 1, h => by
  unfold TrL at h
  rw [List.take_succ_cons]
  unfold TrL
  exact ⟨h.1, TrL.take n h.2⟩
theorem TgL.take {w : World} {G : Nat → Prop} : ∀ {l : za5} {vs : List Value} (n : Nat), TgL w G l vs → TgL w G (l.take n) vs
 | [], _, n, _ => by simp [TgL]
 | x :: r, vs, 0, _ => by simp [TgL]
 | x :: r, vs, n + 1, h => ⟨h.1, TgL.take n h.2⟩
theorem TgL.get {w : World} {G : Nat → Prop} : ∀ {l : za5} {vs : List Value} {i : Nat} {x : Nat × Bs}, TgL w G l vs → l[i]? = some x → TgC w G x ((vs.drop (i * 2)).take 2) ∧ i * 2 + 2 ≤ vs.length
 | [], _, i, f, _, hf => by simp at hf
 | g :: r, vs, i, f, h, hf => by
  cases i with
  | zero =>
   simp at hf; subst hf
   obtain ⟨ob, cb, h1, _⟩ := h.1
   have := congrArg List.length h1
   simp only [List.length_take, List.length_cons, List.length_nil] at this
   exact ⟨by simpa using h.1, by omega⟩
  | succ i =>
   have := TgL.get h.2 (by simpa using hf : r[i]? = some f)
   rw [List.drop_drop, List.length_drop] at this
   have e : (i + 1) * 2 = 2 + i * 2 := by omega
   rw [e]
   exact ⟨this.1, by omega⟩
theorem SchF.cells {w : World} {G : Nat → Prop} {f : Fld} {cs : List Value} (h : SchF w G f cs) :
  cs.length = 8 ∧ cs[0]? = some (kV f.kind) ∧ cs[1]? = some (.int .i64 f.from_) ∧ cs[2]? = some (.int .i64 f.to) ∧ cs[3]? = some (.int .i64 f.null) ∧ cs[4]? = some (.int .i64 f.tag) ∧ cs[5]? = some (.int .i64 f.dflt) ∧
   cs[6]? = some (kV f.of) ∧ ∃ v, cs[7]? = some v ∧ SchS w G f.sub v := by
 cases f
 unfold SchF at h
 obtain ⟨oa, cap, rfl, h2⟩ := h
 exact ⟨rfl, rfl, rfl, rfl, rfl, rfl, rfl, rfl, _, rfl, oa, cap, rfl, h2⟩
theorem TrC.cells {w : World} {G : Nat → Prop} {v : Tr} {cs : List Value} (h : TrC w G v cs) :
  cs.length = 5 ∧ cs[0]? = some (.int .i64 v.n) ∧ IntKind.i64.wrap v.n = v.n ∧ (∃ ob cb, cs[1]? = some (.slice ob v.b.length cb) ∧ v.b.length ≤ cb ∧ zav w G ob v.b) ∧ cs[2]? = some (.bool v.nil) ∧
   (∃ x, cs[3]? = some x ∧ TrS w G v.l x) ∧ ∃ x, cs[4]? = some x ∧ TgS w G v.t x := by
 cases v
 unfold TrC at h
 obtain ⟨ob, cb, ol, cl, vt, rfl, h0, h2, h3, h4, h5, h6⟩ := h
 exact ⟨rfl, rfl, h0, ⟨ob, cb, rfl, h2, h4⟩, rfl, ⟨_, rfl, ol, cl, rfl, h3, h5⟩, _, rfl, h6⟩
set_option maxHeartbeats 1000000
theorem zbl.none {w w' : World} {G : Nat → Prop} (c : Chg (fun _ => False) w w') : zbl w w' G G := zbl.of c fun _ _ _ h => h
theorem has_c (f : Fld) (ver : Int) {w : World} {G : Nat → Prop} {cs : List Value} (hf : SchF w G f cs) :
  zaF Tryz.prog 32 #[zaZ cs, .int .i64 ver] w fun v w' => v = .bool (f.has ver) ∧ Chg (fun _ => False) w w' := by
 obtain ⟨_, c0, c1, c2, c3, c4, c5, c6, _⟩ := hf.cells
 refine zaq Tryz.func32 rfl rfl Tryz.ntmps32 (by simp) ?_
 intro a hN hD ha
 have h0 : get a 0 = zaZ _ := ha 0 _ rfl
 have h1 : get a 1 = .int .i64 ver := ha 1 _ rfl
 refine qsr fun K hK => ?_
 refine wl_boxA (by rw [zaf]; exact h0) fun w1 hc hb _ => ?_
 (repeat ((first | ((with_reducible refine zaw ?_ ?_ ?_ ?_); (· rfl); (· simp [qee, hN, h1] <;> omega); (· kernel_rfl)) | ((with_reducible refine qlS ?_ ?_ ?_); (· simp [qed, hN, h1]); (· kernel_rfl))); try simp only [qeb, hN, seval, h1]))
 refine zaa (hK _ _ ?_); clear hK K
 refine qsr fun K hK => ?_
 with_reducible refine zay (b := w.heap.size) (off := 1) (n := 1) ?_ ?_ ?_; (· kernel_rfl); (· simp [qed, hN])
 with_reducible refine zaK (b := w.heap.size) (o := 1) ?_ ?_ hb c1 ?_; (· kernel_rfl); (· simp [qed, hN])
 by_cases g1 : f.from_ ≤ ver
 ·by_cases g2 : f.to < 0
  ·(repeat (first | ((with_reducible refine zaw ?_ ?_ ?_ ?_); (· exact rfl); (· simp [qee, hN, h1, g1, zac] <;> omega); (· kernel_rfl); try simp only [qeb, hN, seval, h1, g1, zac]) | ((with_reducible refine qlS ?_ ?_ ?_); (· simp [qed, hN, h1, g1, zac]); (· kernel_rfl); try simp only [qeb, hN, seval, h1, g1, zac]) | ((with_reducible first | refine zaC ?_ ?_ ?_ | refine zaB ?_ ?_ ?_ | refine zaD ?_ ?_) <;> (first | (with_reducible refine zau ?_; try simp only [qeb, hN, seval, h1, g1, zac]) | (simp [qed, hN, h1, g1, zac] <;> omega))) | ((with_reducible refine zao ?_ ?_); (· simp [qed, hN, h1, g1, zac]); try simp only [qeb, hN, seval, h1, g1, zac]) | ((with_reducible refine zan ?_ ?_); (· simp [qed, hN, h1, g1, zac]); try simp only [qeb, hN, seval, h1, g1, zac]) | ((with_reducible apply zak); (· exact rfl); (· exact rfl); (· simp [qed, hN, h1, g1, zac]); try simp only [qeb, hN, seval, h1, g1, zac]) | ((with_reducible apply zas); (· exact rfl); (· exact rfl); (· simp [qed, hN, h1, g1, zac]); try simp only [qeb, hN, seval, h1, g1, zac]) | ((with_reducible apply zat); (· exact rfl); (· exact rfl); (· simp [qed, hN, h1, g1, zac]); try simp only [qeb, hN, seval, h1, g1, zac])))
   with_reducible refine zay (b := w.heap.size) (off := 2) (n := 1) ?_ ?_ ?_; (· kernel_rfl); (· simp [qed, hN])
   (repeat (first | ((with_reducible refine zaw ?_ ?_ ?_ ?_); (· exact rfl); (· simp [qee, hN, h1, g1, zac] <;> omega); (· kernel_rfl); try simp only [qeb, hN, seval, h1, g1, zac]) | ((with_reducible refine qlS ?_ ?_ ?_); (· simp [qed, hN, h1, g1, zac]); (· kernel_rfl); try simp only [qeb, hN, seval, h1, g1, zac]) | ((with_reducible first | refine zaC ?_ ?_ ?_ | refine zaB ?_ ?_ ?_ | refine zaD ?_ ?_) <;> (first | (with_reducible refine zau ?_; try simp only [qeb, hN, seval, h1, g1, zac]) | (simp [qed, hN, h1, g1, zac] <;> omega))) | ((with_reducible refine zao ?_ ?_); (· simp [qed, hN, h1, g1, zac]); try simp only [qeb, hN, seval, h1, g1, zac]) | ((with_reducible refine zan ?_ ?_); (· simp [qed, hN, h1, g1, zac]); try simp only [qeb, hN, seval, h1, g1, zac]) | ((with_reducible apply zak); (· exact rfl); (· exact rfl); (· simp [qed, hN, h1, g1, zac]); try simp only [qeb, hN, seval, h1, g1, zac]) | ((with_reducible apply zas); (· exact rfl); (· exact rfl); (· simp [qed, hN, h1, g1, zac]); try simp only [qeb, hN, seval, h1, g1, zac]) | ((with_reducible apply zat); (· exact rfl); (· exact rfl); (· simp [qed, hN, h1, g1, zac]); try simp only [qeb, hN, seval, h1, g1, zac])))
   with_reducible refine zaK (b := w.heap.size) (o := 2) ?_ ?_ hb c2 ?_; (· kernel_rfl); (· simp [qed, hN])
   (repeat (first | ((with_reducible refine zaw ?_ ?_ ?_ ?_); (· exact rfl); (· simp [qee, hN, h1, g1, g2, zac] <;> omega); (· kernel_rfl); try simp only [qeb, hN, seval, h1, g1, g2, zac]) | ((with_reducible refine qlS ?_ ?_ ?_); (· simp [qed, hN, h1, g1, g2, zac]); (· kernel_rfl); try simp only [qeb, hN, seval, h1, g1, g2, zac]) | ((with_reducible first | refine zaC ?_ ?_ ?_ | refine zaB ?_ ?_ ?_ | refine zaD ?_ ?_) <;> (first | (with_reducible refine zau ?_; try simp only [qeb, hN, seval, h1, g1, g2, zac]) | (simp [qed, hN, h1, g1, g2, zac] <;> omega))) | ((with_reducible refine zao ?_ ?_); (· simp [qed, hN, h1, g1, g2, zac]); try simp only [qeb, hN, seval, h1, g1, g2, zac]) | ((with_reducible refine zan ?_ ?_); (· simp [qed, hN, h1, g1, g2, zac]); try simp only [qeb, hN, seval, h1, g1, g2, zac]) | ((with_reducible apply zak); (· exact rfl); (· exact rfl); (· simp [qed, hN, h1, g1, g2, zac]); try simp only [qeb, hN, seval, h1, g1, g2, zac]) | ((with_reducible apply zas); (· exact rfl); (· exact rfl); (· simp [qed, hN, h1, g1, g2, zac]); try simp only [qeb, hN, seval, h1, g1, g2, zac]) | ((with_reducible apply zat); (· exact rfl); (· exact rfl); (· simp [qed, hN, h1, g1, g2, zac]); try simp only [qeb, hN, seval, h1, g1, g2, zac])))
   refine zaa (hK _ _ ?_); clear hK K
   refine wp_ret ⟨by simp [zab, hD], ?_⟩; simp only [qea, hN, seval]
   exact ⟨by simp [Fld.has, g1, g2], hc⟩
  ·(repeat (first | ((with_reducible refine zaw ?_ ?_ ?_ ?_); (· exact rfl); (· simp [qee, hN, h1, g1, zac] <;> omega); (· kernel_rfl); try simp only [qeb, hN, seval, h1, g1, zac]) | ((with_reducible refine qlS ?_ ?_ ?_); (· simp [qed, hN, h1, g1, zac]); (· kernel_rfl); try simp only [qeb, hN, seval, h1, g1, zac]) | ((with_reducible first | refine zaC ?_ ?_ ?_ | refine zaB ?_ ?_ ?_ | refine zaD ?_ ?_) <;> (first | (with_reducible refine zau ?_; try simp only [qeb, hN, seval, h1, g1, zac]) | (simp [qed, hN, h1, g1, zac] <;> omega))) | ((with_reducible refine zao ?_ ?_); (· simp [qed, hN, h1, g1, zac]); try simp only [qeb, hN, seval, h1, g1, zac]) | ((with_reducible refine zan ?_ ?_); (· simp [qed, hN, h1, g1, zac]); try simp only [qeb, hN, seval, h1, g1, zac]) | ((with_reducible apply zak); (· exact rfl); (· exact rfl); (· simp [qed, hN, h1, g1, zac]); try simp only [qeb, hN, seval, h1, g1, zac]) | ((with_reducible apply zas); (· exact rfl); (· exact rfl); (· simp [qed, hN, h1, g1, zac]); try simp only [qeb, hN, seval, h1, g1, zac]) | ((with_reducible apply zat); (· exact rfl); (· exact rfl); (· simp [qed, hN, h1, g1, zac]); try simp only [qeb, hN, seval, h1, g1, zac])))
   with_reducible refine zay (b := w.heap.size) (off := 2) (n := 1) ?_ ?_ ?_; (· kernel_rfl); (· simp [qed, hN])
   (repeat (first | ((with_reducible refine zaw ?_ ?_ ?_ ?_); (· exact rfl); (· simp [qee, hN, h1, g1, zac] <;> omega); (· kernel_rfl); try simp only [qeb, hN, seval, h1, g1, zac]) | ((with_reducible refine qlS ?_ ?_ ?_); (· simp [qed, hN, h1, g1, zac]); (· kernel_rfl); try simp only [qeb, hN, seval, h1, g1, zac]) | ((with_reducible first | refine zaC ?_ ?_ ?_ | refine zaB ?_ ?_ ?_ | refine zaD ?_ ?_) <;> (first | (with_reducible refine zau ?_; try simp only [qeb, hN, seval, h1, g1, zac]) | (simp [qed, hN, h1, g1, zac] <;> omega))) | ((with_reducible refine zao ?_ ?_); (· simp [qed, hN, h1, g1, zac]); try simp only [qeb, hN, seval, h1, g1, zac]) | ((with_reducible refine zan ?_ ?_); (· simp [qed, hN, h1, g1, zac]); try simp only [qeb, hN, seval, h1, g1, zac]) | ((with_reducible apply zak); (· exact rfl); (· exact rfl); (· simp [qed, hN, h1, g1, zac]); try simp only [qeb, hN, seval, h1, g1, zac]) | ((with_reducible apply zas); (· exact rfl); (· exact rfl); (· simp [qed, hN, h1, g1, zac]); try simp only [qeb, hN, seval, h1, g1, zac]) | ((with_reducible apply zat); (· exact rfl); (· exact rfl); (· simp [qed, hN, h1, g1, zac]); try simp only [qeb, hN, seval, h1, g1, zac])))
   with_reducible refine zaK (b := w.heap.size) (o := 2) ?_ ?_ hb c2 ?_; (· kernel_rfl); (· simp [qed, hN])
   (repeat (first | ((with_reducible refine zaw ?_ ?_ ?_ ?_); (· exact rfl); (· simp [qee, hN, h1, g1, g2, zac] <;> omega); (· kernel_rfl); try simp only [qeb, hN, seval, h1, g1, g2, zac]) | ((with_reducible refine qlS ?_ ?_ ?_); (· simp [qed, hN, h1, g1, g2, zac]); (· kernel_rfl); try simp only [qeb, hN, seval, h1, g1, g2, zac]) | ((with_reducible first | refine zaC ?_ ?_ ?_ | refine zaB ?_ ?_ ?_ | refine zaD ?_ ?_) <;> (first | (with_reducible refine zau ?_; try simp only [qeb, hN, seval, h1, g1, g2, zac]) | (simp [qed, hN, h1, g1, g2, zac] <;> omega))) | ((with_reducible refine zao ?_ ?_); (· simp [qed, hN, h1, g1, g2, zac]); try simp only [qeb, hN, seval, h1, g1, g2, zac]) | ((with_reducible refine zan ?_ ?_); (· simp [qed, hN, h1, g1, g2, zac]); try simp only [qeb, hN, seval, h1, g1, g2, zac]) | ((with_reducible apply zak); (· exact rfl); (· exact rfl); (· simp [qed, hN, h1, g1, g2, zac]); try simp only [qeb, hN, seval, h1, g1, g2, zac]) | ((with_reducible apply zas); (· exact rfl); (· exact rfl); (· simp [qed, hN, h1, g1, g2, zac]); try simp only [qeb, hN, seval, h1, g1, g2, zac]) | ((with_reducible apply zat); (· exact rfl); (· exact rfl); (· simp [qed, hN, h1, g1, g2, zac]); try simp only [qeb, hN, seval, h1, g1, g2, zac])))
   with_reducible refine zay (b := w.heap.size) (off := 2) (n := 1) ?_ ?_ ?_; (· kernel_rfl); (· simp [qed, hN])
   (repeat (first | ((with_reducible refine zaw ?_ ?_ ?_ ?_); (· exact rfl); (· simp [qee, hN, h1, g1, g2, zac] <;> omega); (· kernel_rfl); try simp only [qeb, hN, seval, h1, g1, g2, zac]) | ((with_reducible refine qlS ?_ ?_ ?_); (· simp [qed, hN, h1, g1, g2, zac]); (· kernel_rfl); try simp only [qeb, hN, seval, h1, g1, g2, zac]) | ((with_reducible first | refine zaC ?_ ?_ ?_ | refine zaB ?_ ?_ ?_ | refine zaD ?_ ?_) <;> (first | (with_reducible refine zau ?_; try simp only [qeb, hN, seval, h1, g1, g2, zac]) | (simp [qed, hN, h1, g1, g2, zac] <;> omega))) | ((with_reducible refine zao ?_ ?_); (· simp [qed, hN, h1, g1, g2, zac]); try simp only [qeb, hN, seval, h1, g1, g2, zac]) | ((with_reducible refine zan ?_ ?_); (· simp [qed, hN, h1, g1, g2, zac]); try simp only [qeb, hN, seval, h1, g1, g2, zac]) | ((with_reducible apply zak); (· exact rfl); (· exact rfl); (· simp [qed, hN, h1, g1, g2, zac]); try simp only [qeb, hN, seval, h1, g1, g2, zac]) | ((with_reducible apply zas); (· exact rfl); (· exact rfl); (· simp [qed, hN, h1, g1, g2, zac]); try simp only [qeb, hN, seval, h1, g1, g2, zac]) | ((with_reducible apply zat); (· exact rfl); (· exact rfl); (· simp [qed, hN, h1, g1, g2, zac]); try simp only [qeb, hN, seval, h1, g1, g2, zac])))
   with_reducible refine zaK (b := w.heap.size) (o := 2) ?_ ?_ hb c2 ?_; (· kernel_rfl); (· simp [qed, hN])
   (repeat (first | ((with_reducible refine zaw ?_ ?_ ?_ ?_); (· exact rfl); (· simp [qee, hN, h1, g1, g2, zac] <;> omega); (· kernel_rfl); try simp only [qeb, hN, seval, h1, g1, g2, zac]) | ((with_reducible refine qlS ?_ ?_ ?_); (· simp [qed, hN, h1, g1, g2, zac]); (· kernel_rfl); try simp only [qeb, hN, seval, h1, g1, g2, zac]) | ((with_reducible first | refine zaC ?_ ?_ ?_ | refine zaB ?_ ?_ ?_ | refine zaD ?_ ?_) <;> (first | (with_reducible refine zau ?_; try simp only [qeb, hN, seval, h1, g1, g2, zac]) | (simp [qed, hN, h1, g1, g2, zac] <;> omega))) | ((with_reducible refine zao ?_ ?_); (· simp [qed, hN, h1, g1, g2, zac]); try simp only [qeb, hN, seval, h1, g1, g2, zac]) | ((with_reducible refine zan ?_ ?_); (· simp [qed, hN, h1, g1, g2, zac]); try simp only [qeb, hN, seval, h1, g1, g2, zac]) | ((with_reducible apply zak); (· exact rfl); (· exact rfl); (· simp [qed, hN, h1, g1, g2, zac]); try simp only [qeb, hN, seval, h1, g1, g2, zac]) | ((with_reducible apply zas); (· exact rfl); (· exact rfl); (· simp [qed, hN, h1, g1, g2, zac]); try simp only [qeb, hN, seval, h1, g1, g2, zac]) | ((with_reducible apply zat); (· exact rfl); (· exact rfl); (· simp [qed, hN, h1, g1, g2, zac]); try simp only [qeb, hN, seval, h1, g1, g2, zac])))
   refine zaa (hK _ _ ?_); clear hK K
   refine wp_ret ⟨by simp [zab, hD], ?_⟩; simp only [qea, hN, seval]
   exact ⟨by simp [Fld.has, g1, g2], hc⟩
 ·(repeat (first | ((with_reducible refine zaw ?_ ?_ ?_ ?_); (· exact rfl); (· simp [qee, hN, h1, g1, zac] <;> omega); (· kernel_rfl); try simp only [qeb, hN, seval, h1, g1, zac]) | ((with_reducible refine qlS ?_ ?_ ?_); (· simp [qed, hN, h1, g1, zac]); (· kernel_rfl); try simp only [qeb, hN, seval, h1, g1, zac]) | ((with_reducible first | refine zaC ?_ ?_ ?_ | refine zaB ?_ ?_ ?_ | refine zaD ?_ ?_) <;> (first | (with_reducible refine zau ?_; try simp only [qeb, hN, seval, h1, g1, zac]) | (simp [qed, hN, h1, g1, zac] <;> omega))) | ((with_reducible refine zao ?_ ?_); (· simp [qed, hN, h1, g1, zac]); try simp only [qeb, hN, seval, h1, g1, zac]) | ((with_reducible refine zan ?_ ?_); (· simp [qed, hN, h1, g1, zac]); try simp only [qeb, hN, seval, h1, g1, zac]) | ((with_reducible apply zak); (· exact rfl); (· exact rfl); (· simp [qed, hN, h1, g1, zac]); try simp only [qeb, hN, seval, h1, g1, zac]) | ((with_reducible apply zas); (· exact rfl); (· exact rfl); (· simp [qed, hN, h1, g1, zac]); try simp only [qeb, hN, seval, h1, g1, zac]) | ((with_reducible apply zat); (· exact rfl); (· exact rfl); (· simp [qed, hN, h1, g1, zac]); try simp only [qeb, hN, seval, h1, g1, zac])))
  refine zaa (hK _ _ ?_); clear hK K
  refine wp_ret ⟨by simp [zab, hD], ?_⟩; simp only [qea, hN, seval]
  exact ⟨by simp [Fld.has, g1], hc⟩
theorem null_c (f : Fld) (ver : Int) (v : Tr) {w : World} {G G' : Nat → Prop} {cs ts : List Value} (hf : SchF w G f cs) (hv : TrC w G' v ts) :
  zaF Tryz.prog 60 #[zaZ cs, .int .i64 ver, zaZ ts] w fun r w' => r = .bool (za1 f.null ver v) ∧ Chg (fun _ => False) w w' := by
 obtain ⟨_, c0, c1, c2, c3, c4, c5, c6, _⟩ := hf.cells
 obtain ⟨_, _, _, _, t2, _⟩ := hv.cells
 refine zaq Tryz.func60 rfl rfl Tryz.ntmps60 (by simp) ?_
 intro a hN hD ha
 have h0 : get a 0 = zaZ cs := ha 0 _ rfl
 have h1 : get a 1 = .int .i64 ver := ha 1 _ rfl
 have h2 : get a 2 = zaZ ts := ha 2 _ rfl
 refine qsr fun K hK => ?_
 refine wl_boxA (by rw [zaf]; exact h0) fun w1 hc hb hs => ?_
 refine wl_boxA (l := ts) (by simp [qed, hN, h2]) fun w2 hc2 hb2 hs2 => ?_
 replace hb := hb.chg hc2 (fun h => h)
 replace hc := hc.trans hc2 (fun _ _ h => h)
 rw [hs] at hb2 ⊢
 (repeat (first | ((with_reducible refine zaw ?_ ?_ ?_ ?_); (· exact rfl); (· simp [qee, hN, h1, zac] <;> omega); (· kernel_rfl); try simp only [qeb, hN, seval, h1, zac]) | ((with_reducible refine qlS ?_ ?_ ?_); (· simp [qed, hN, h1, zac]); (· kernel_rfl); try simp only [qeb, hN, seval, h1, zac]) | ((with_reducible first | refine zaC ?_ ?_ ?_ | refine zaB ?_ ?_ ?_ | refine zaD ?_ ?_) <;> (first | (with_reducible refine zau ?_; try simp only [qeb, hN, seval, h1, zac]) | (simp [qed, hN, h1, zac] <;> omega))) | ((with_reducible refine zao ?_ ?_); (· simp [qed, hN, h1, zac]); try simp only [qeb, hN, seval, h1, zac]) | ((with_reducible refine zan ?_ ?_); (· simp [qed, hN, h1, zac]); try simp only [qeb, hN, seval, h1, zac]) | ((with_reducible apply zak); (· exact rfl); (· exact rfl); (· simp [qed, hN, h1, zac]); try simp only [qeb, hN, seval, h1, zac]) | ((with_reducible apply zas); (· exact rfl); (· exact rfl); (· simp [qed, hN, h1, zac]); try simp only [qeb, hN, seval, h1, zac]) | ((with_reducible apply zat); (· exact rfl); (· exact rfl); (· simp [qed, hN, h1, zac]); try simp only [qeb, hN, seval, h1, zac])))
 refine zaa (hK _ _ ?_); clear hK K
 refine qsr fun K hK => ?_
 with_reducible refine zay (b := w.heap.size + 1) (off := 2) (n := 1) ?_ ?_ ?_; (· kernel_rfl); (· simp [qed, hN])
 with_reducible refine zaK (b := w.heap.size + 1) (o := 2) ?_ ?_ hb2 t2 ?_; (· kernel_rfl); (· simp [qed, hN])
 cases hn : v.nil
 ·(repeat (first | ((with_reducible refine zaw ?_ ?_ ?_ ?_); (· exact rfl); (· simp [qee, hN, h1, hn, zac] <;> omega); (· kernel_rfl); try simp only [qeb, hN, seval, h1, hn, zac]) | ((with_reducible refine qlS ?_ ?_ ?_); (· simp [qed, hN, h1, hn, zac]); (· kernel_rfl); try simp only [qeb, hN, seval, h1, hn, zac]) | ((with_reducible first | refine zaC ?_ ?_ ?_ | refine zaB ?_ ?_ ?_ | refine zaD ?_ ?_) <;> (first | (with_reducible refine zau ?_; try simp only [qeb, hN, seval, h1, hn, zac]) | (simp [qed, hN, h1, hn, zac] <;> omega))) | ((with_reducible refine zao ?_ ?_); (· simp [qed, hN, h1, hn, zac]); try simp only [qeb, hN, seval, h1, hn, zac]) | ((with_reducible refine zan ?_ ?_); (· simp [qed, hN, h1, hn, zac]); try simp only [qeb, hN, seval, h1, hn, zac]) | ((with_reducible apply zak); (· exact rfl); (· exact rfl); (· simp [qed, hN, h1, hn, zac]); try simp only [qeb, hN, seval, h1, hn, zac]) | ((with_reducible apply zas); (· exact rfl); (· exact rfl); (· simp [qed, hN, h1, hn, zac]); try simp only [qeb, hN, seval, h1, hn, zac]) | ((with_reducible apply zat); (· exact rfl); (· exact rfl); (· simp [qed, hN, h1, hn, zac]); try simp only [qeb, hN, seval, h1, hn, zac])))
  refine zaa (hK _ _ ?_); clear hK K
  refine wp_ret ⟨by simp [zab, hD], ?_⟩; simp only [qea, hN, seval]
  exact ⟨by simp [za1, hn], hc⟩
 ·(repeat (first | ((with_reducible refine zaw ?_ ?_ ?_ ?_); (· exact rfl); (· simp [qee, hN, h1, hn, zac] <;> omega); (· kernel_rfl); try simp only [qeb, hN, seval, h1, hn, zac]) | ((with_reducible refine qlS ?_ ?_ ?_); (· simp [qed, hN, h1, hn, zac]); (· kernel_rfl); try simp only [qeb, hN, seval, h1, hn, zac]) | ((with_reducible first | refine zaC ?_ ?_ ?_ | refine zaB ?_ ?_ ?_ | refine zaD ?_ ?_) <;> (first | (with_reducible refine zau ?_; try simp only [qeb, hN, seval, h1, hn, zac]) | (simp [qed, hN, h1, hn, zac] <;> omega))) | ((with_reducible refine zao ?_ ?_); (· simp [qed, hN, h1, hn, zac]); try simp only [qeb, hN, seval, h1, hn, zac]) | ((with_reducible refine zan ?_ ?_); (· simp [qed, hN, h1, hn, zac]); try simp only [qeb, hN, seval, h1, hn, zac]) | ((with_reducible apply zak); (· exact rfl); (· exact rfl); (· simp [qed, hN, h1, hn, zac]); try simp only [qeb, hN, seval, h1, hn, zac]) | ((with_reducible apply zas); (· exact rfl); (· exact rfl); (· simp [qed, hN, h1, hn, zac]); try simp only [qeb, hN, seval, h1, hn, zac]) | ((with_reducible apply zat); (· exact rfl); (· exact rfl); (· simp [qed, hN, h1, hn, zac]); try simp only [qeb, hN, seval, h1, hn, zac])))
  with_reducible refine zay (b := w.heap.size) (off := 3) (n := 1) ?_ ?_ ?_; (· kernel_rfl); (· simp [qed, hN])
  (repeat (first | ((with_reducible refine zaw ?_ ?_ ?_ ?_); (· exact rfl); (· simp [qee, hN, h1, hn, zac] <;> omega); (· kernel_rfl); try simp only [qeb, hN, seval, h1, hn, zac]) | ((with_reducible refine qlS ?_ ?_ ?_); (· simp [qed, hN, h1, hn, zac]); (· kernel_rfl); try simp only [qeb, hN, seval, h1, hn, zac]) | ((with_reducible first | refine zaC ?_ ?_ ?_ | refine zaB ?_ ?_ ?_ | refine zaD ?_ ?_) <;> (first | (with_reducible refine zau ?_; try simp only [qeb, hN, seval, h1, hn, zac]) | (simp [qed, hN, h1, hn, zac] <;> omega))) | ((with_reducible refine zao ?_ ?_); (· simp [qed, hN, h1, hn, zac]); try simp only [qeb, hN, seval, h1, hn, zac]) | ((with_reducible refine zan ?_ ?_); (· simp [qed, hN, h1, hn, zac]); try simp only [qeb, hN, seval, h1, hn, zac]) | ((with_reducible apply zak); (· exact rfl); (· exact rfl); (· simp [qed, hN, h1, hn, zac]); try simp only [qeb, hN, seval, h1, hn, zac]) | ((with_reducible apply zas); (· exact rfl); (· exact rfl); (· simp [qed, hN, h1, hn, zac]); try simp only [qeb, hN, seval, h1, hn, zac]) | ((with_reducible apply zat); (· exact rfl); (· exact rfl); (· simp [qed, hN, h1, hn, zac]); try simp only [qeb, hN, seval, h1, hn, zac])))
  with_reducible refine zaK (b := w.heap.size) (o := 3) ?_ ?_ hb c3 ?_; (· kernel_rfl); (· simp [qed, hN])
  by_cases g1 : 0 ≤ f.null
  ·(repeat (first | ((with_reducible refine zaw ?_ ?_ ?_ ?_); (· exact rfl); (· simp [qee, hN, h1, g1, zac] <;> omega); (· kernel_rfl); try simp only [qeb, hN, seval, h1, g1, zac]) | ((with_reducible refine qlS ?_ ?_ ?_); (· simp [qed, hN, h1, g1, zac]); (· kernel_rfl); try simp only [qeb, hN, seval, h1, g1, zac]) | ((with_reducible first | refine zaC ?_ ?_ ?_ | refine zaB ?_ ?_ ?_ | refine zaD ?_ ?_) <;> (first | (with_reducible refine zau ?_; try simp only [qeb, hN, seval, h1, g1, zac]) | (simp [qed, hN, h1, g1, zac] <;> omega))) | ((with_reducible refine zao ?_ ?_); (· simp [qed, hN, h1, g1, zac]); try simp only [qeb, hN, seval, h1, g1, zac]) | ((with_reducible refine zan ?_ ?_); (· simp [qed, hN, h1, g1, zac]); try simp only [qeb, hN, seval, h1, g1, zac]) | ((with_reducible apply zak); (· exact rfl); (· exact rfl); (· simp [qed, hN, h1, g1, zac]); try simp only [qeb, hN, seval, h1, g1, zac]) | ((with_reducible apply zas); (· exact rfl); (· exact rfl); (· simp [qed, hN, h1, g1, zac]); try simp only [qeb, hN, seval, h1, g1, zac]) | ((with_reducible apply zat); (· exact rfl); (· exact rfl); (· simp [qed, hN, h1, g1, zac]); try simp only [qeb, hN, seval, h1, g1, zac])))
   with_reducible refine zay (b := w.heap.size) (off := 3) (n := 1) ?_ ?_ ?_; (· kernel_rfl); (· simp [qed, hN])
   (repeat (first | ((with_reducible refine zaw ?_ ?_ ?_ ?_); (· exact rfl); (· simp [qee, hN, h1, g1, zac] <;> omega); (· kernel_rfl); try simp only [qeb, hN, seval, h1, g1, zac]) | ((with_reducible refine qlS ?_ ?_ ?_); (· simp [qed, hN, h1, g1, zac]); (· kernel_rfl); try simp only [qeb, hN, seval, h1, g1, zac]) | ((with_reducible first | refine zaC ?_ ?_ ?_ | refine zaB ?_ ?_ ?_ | refine zaD ?_ ?_) <;> (first | (with_reducible refine zau ?_; try simp only [qeb, hN, seval, h1, g1, zac]) | (simp [qed, hN, h1, g1, zac] <;> omega))) | ((with_reducible refine zao ?_ ?_); (· simp [qed, hN, h1, g1, zac]); try simp only [qeb, hN, seval, h1, g1, zac]) | ((with_reducible refine zan ?_ ?_); (· simp [qed, hN, h1, g1, zac]); try simp only [qeb, hN, seval, h1, g1, zac]) | ((with_reducible apply zak); (· exact rfl); (· exact rfl); (· simp [qed, hN, h1, g1, zac]); try simp only [qeb, hN, seval, h1, g1, zac]) | ((with_reducible apply zas); (· exact rfl); (· exact rfl); (· simp [qed, hN, h1, g1, zac]); try simp only [qeb, hN, seval, h1, g1, zac]) | ((with_reducible apply zat); (· exact rfl); (· exact rfl); (· simp [qed, hN, h1, g1, zac]); try simp only [qeb, hN, seval, h1, g1, zac])))
   with_reducible refine zaK (b := w.heap.size) (o := 3) ?_ ?_ hb c3 ?_; (· kernel_rfl); (· simp [qed, hN])
   by_cases g2 : f.null ≤ ver
   ·(repeat (first | ((with_reducible refine zaw ?_ ?_ ?_ ?_); (· exact rfl); (· simp [qee, hN, h1, g1, g2, zac] <;> omega); (· kernel_rfl); try simp only [qeb, hN, seval, h1, g1, g2, zac]) | ((with_reducible refine qlS ?_ ?_ ?_); (· simp [qed, hN, h1, g1, g2, zac]); (· kernel_rfl); try simp only [qeb, hN, seval, h1, g1, g2, zac]) | ((with_reducible first | refine zaC ?_ ?_ ?_ | refine zaB ?_ ?_ ?_ | refine zaD ?_ ?_) <;> (first | (with_reducible refine zau ?_; try simp only [qeb, hN, seval, h1, g1, g2, zac]) | (simp [qed, hN, h1, g1, g2, zac] <;> omega))) | ((with_reducible refine zao ?_ ?_); (· simp [qed, hN, h1, g1, g2, zac]); try simp only [qeb, hN, seval, h1, g1, g2, zac]) | ((with_reducible refine zan ?_ ?_); (· simp [qed, hN, h1, g1, g2, zac]); try simp only [qeb, hN, seval, h1, g1, g2, zac]) | ((with_reducible apply zak); (· exact rfl); (· exact rfl); (· simp [qed, hN, h1, g1, g2, zac]); try simp only [qeb, hN, seval, h1, g1, g2, zac]) | ((with_reducible apply zas); (· exact rfl); (· exact rfl); (· simp [qed, hN, h1, g1, g2, zac]); try simp only [qeb, hN, seval, h1, g1, g2, zac]) | ((with_reducible apply zat); (· exact rfl); (· exact rfl); (· simp [qed, hN, h1, g1, g2, zac]); try simp only [qeb, hN, seval, h1, g1, g2, zac])))
    refine zaa (hK _ _ ?_); clear hK K
    refine wp_ret ⟨by simp [zab, hD], ?_⟩; simp only [qea, hN, seval]
    exact ⟨by simp [za1, hn, g1, g2], hc⟩
   ·(repeat (first | ((with_reducible refine zaw ?_ ?_ ?_ ?_); (· exact rfl); (· simp [qee, hN, h1, g1, g2, zac] <;> omega); (· kernel_rfl); try simp only [qeb, hN, seval, h1, g1, g2, zac]) | ((with_reducible refine qlS ?_ ?_ ?_); (· simp [qed, hN, h1, g1, g2, zac]); (· kernel_rfl); try simp only [qeb, hN, seval, h1, g1, g2, zac]) | ((with_reducible first | refine zaC ?_ ?_ ?_ | refine zaB ?_ ?_ ?_ | refine zaD ?_ ?_) <;> (first | (with_reducible refine zau ?_; try simp only [qeb, hN, seval, h1, g1, g2, zac]) | (simp [qed, hN, h1, g1, g2, zac] <;> omega))) | ((with_reducible refine zao ?_ ?_); (· simp [qed, hN, h1, g1, g2, zac]); try simp only [qeb, hN, seval, h1, g1, g2, zac]) | ((with_reducible refine zan ?_ ?_); (· simp [qed, hN, h1, g1, g2, zac]); try simp only [qeb, hN, seval, h1, g1, g2, zac]) | ((with_reducible apply zak); (· exact rfl); (· exact rfl); (· simp [qed, hN, h1, g1, g2, zac]); try simp only [qeb, hN, seval, h1, g1, g2, zac]) | ((with_reducible apply zas); (· exact rfl); (· exact rfl); (· simp [qed, hN, h1, g1, g2, zac]); try simp only [qeb, hN, seval, h1, g1, g2, zac]) | ((with_reducible apply zat); (· exact rfl); (· exact rfl); (· simp [qed, hN, h1, g1, g2, zac]); try simp only [qeb, hN, seval, h1, g1, g2, zac])))
    refine zaa (hK _ _ ?_); clear hK K
    refine wp_ret ⟨by simp [zab, hD], ?_⟩; simp only [qea, hN, seval]
    exact ⟨by simp [za1, hn, g1, g2], hc⟩
  ·(repeat (first | ((with_reducible refine zaw ?_ ?_ ?_ ?_); (· exact rfl); (· simp [qee, hN, h1, g1, zac] <;> omega); (· kernel_rfl); try simp only [qeb, hN, seval, h1, g1, zac]) | ((with_reducible refine qlS ?_ ?_ ?_); (· simp [qed, hN, h1, g1, zac]); (· kernel_rfl); try simp only [qeb, hN, seval, h1, g1, zac]) | ((with_reducible first | refine zaC ?_ ?_ ?_ | refine zaB ?_ ?_ ?_ | refine zaD ?_ ?_) <;> (first | (with_reducible refine zau ?_; try simp only [qeb, hN, seval, h1, g1, zac]) | (simp [qed, hN, h1, g1, zac] <;> omega))) | ((with_reducible refine zao ?_ ?_); (· simp [qed, hN, h1, g1, zac]); try simp only [qeb, hN, seval, h1, g1, zac]) | ((with_reducible refine zan ?_ ?_); (· simp [qed, hN, h1, g1, zac]); try simp only [qeb, hN, seval, h1, g1, zac]) | ((with_reducible apply zak); (· exact rfl); (· exact rfl); (· simp [qed, hN, h1, g1, zac]); try simp only [qeb, hN, seval, h1, g1, zac]) | ((with_reducible apply zas); (· exact rfl); (· exact rfl); (· simp [qed, hN, h1, g1, zac]); try simp only [qeb, hN, seval, h1, g1, zac]) | ((with_reducible apply zat); (· exact rfl); (· exact rfl); (· simp [qed, hN, h1, g1, zac]); try simp only [qeb, hN, seval, h1, g1, zac])))
   refine zaa (hK _ _ ?_); clear hK K
   refine wp_ret ⟨by simp [zab, hD], ?_⟩; simp only [qea, hN, seval]
   exact ⟨by simp [za1, hn, g1], hc⟩
set_option maxHeartbeats 1000000
def zTree : List Value := [.int .i64 0, .slice none 0 0, .bool false, .slice none 0 0, .slice none 0 0]
def zTag : List Value := [.int .u32 0, .slice none 0 0]
theorem zTree_is (w : World) (G : Nat → Prop) : TrC w G .zero zTree := by
 unfold Tr.zero TrC
 exact ⟨none, 0, none, 0, _, rfl, by decide, Nat.le_refl _, Nat.le_refl _, .inl rfl, .inl rfl, none, 0, rfl, Nat.le_refl _, .inl rfl⟩
theorem TrC.one {w : World} {G : Nat → Prop} {v : Tr} {cs : List Value} (h : TrC w G v cs) : ∀ x ∈ cs, x.oneCell' = true := by
 cases v
 unfold TrC at h
 obtain ⟨ob, cb, ol, cl, vt, rfl, _, _, _, _, _, ot, ct, rfl, _⟩ := h
 intro x hx
 simp only [List.mem_cons, List.not_mem_nil, or_false] at hx
 rcases hx with rfl | rfl | rfl | rfl | rfl <;> rfl
theorem SchF.one {w : World} {G : Nat → Prop} {f : Fld} {cs : List Value} (h : SchF w G f cs) : ∀ x ∈ cs, x.oneCell' = true := by
 cases f
 unfold SchF at h
 obtain ⟨oa, cap, rfl, _⟩ := h
 intro x hx
 simp only [List.mem_cons, List.not_mem_nil, or_false] at hx
 rcases hx with rfl | rfl | rfl | rfl | rfl | rfl | rfl | rfl <;> rfl
theorem at_c (v : Tr) (i : Nat) {w : World} {G : Nat → Prop} {ts : List Value} (hv : TrC w G v ts) :
  zaF Tryz.prog 34 #[zaZ ts, .int .i64 i] w fun r w' => (∃ rs, r = zaZ rs ∧ TrC w' G (v.th i) rs) ∧ Chg (fun _ => False) w w' := by
 obtain ⟨tl, t0, _, _, t2, ⟨x, t3, ol, cl, rfl, hcl, hl⟩, _⟩ := hv.cells
 refine callsR_ofC Tryz.func34 rfl rfl (by kernel_rfl) Tryz.ntmps34 (by simp) ?_
 intro a hN hD ha
 have h0 : get a 0 = zaZ ts := ha 0 _ rfl
 have h1 : get a 1 = .int .i64 i := ha 1 _ rfl
 refine qsr fun K hK => ?_
 refine wl_boxA (by rw [zaf]; exact h0) fun w1 hc hb hs => ?_
 refine wl_allocA (z := zaZ zTree) (fun w => Tryz.zeroValue26 w) fun w2 hc2 hb2 hs2 => ?_
 replace hb := hb.chg hc2 (fun h => h)
 replace hc := hc.trans hc2 (fun _ _ h => h)
 rw [hs] at hb2 ⊢
 refine zaa (hK _ _ ?_); clear hK K
 refine qsk fun K hK => ?_; refine qsr fun K hK => ?_
 (repeat (first | ((with_reducible refine zaw ?_ ?_ ?_ ?_); (· exact rfl); (· simp [qee, hN, h1, zac] <;> omega); (· kernel_rfl); try simp only [qeb, hN, seval, h1, zac]) | ((with_reducible refine qlS ?_ ?_ ?_); (· simp [qed, hN, h1, zac]); (· kernel_rfl); try simp only [qeb, hN, seval, h1, zac]) | ((with_reducible first | refine zaC ?_ ?_ ?_ | refine zaB ?_ ?_ ?_ | refine zaD ?_ ?_) <;> (first | (with_reducible refine zau ?_; try simp only [qeb, hN, seval, h1, zac]) | (simp [qed, hN, h1, zac] <;> omega))) | ((with_reducible refine zao ?_ ?_); (· simp [qed, hN, h1, zac]); try simp only [qeb, hN, seval, h1, zac]) | ((with_reducible refine zan ?_ ?_); (· simp [qed, hN, h1, zac]); try simp only [qeb, hN, seval, h1, zac]) | ((with_reducible apply zak); (· exact rfl); (· exact rfl); (· simp [qed, hN, h1, zac]); try simp only [qeb, hN, seval, h1, zac]) | ((with_reducible apply zas); (· exact rfl); (· exact rfl); (· simp [qed, hN, h1, zac]); try simp only [qeb, hN, seval, h1, zac]) | ((with_reducible apply zat); (· exact rfl); (· exact rfl); (· simp [qed, hN, h1, zac]); try simp only [qeb, hN, seval, h1, zac])))
 with_reducible refine zay (b := w.heap.size) (off := 3) (n := 1) ?_ ?_ ?_; (· kernel_rfl); (· simp [qed, hN])
 with_reducible refine zaK (b := w.heap.size) (o := 3) ?_ ?_ hb t3 ?_; (· kernel_rfl); (· simp [qed, hN])
 (repeat (first | ((with_reducible refine zaw ?_ ?_ ?_ ?_); (· exact rfl); (· simp [qee, hN, h1, zac] <;> omega); (· kernel_rfl); try simp only [qeb, hN, seval, h1, zac]) | ((with_reducible refine qlS ?_ ?_ ?_); (· simp [qed, hN, h1, zac]); (· kernel_rfl); try simp only [qeb, hN, seval, h1, zac]) | ((with_reducible first | refine zaC ?_ ?_ ?_ | refine zaB ?_ ?_ ?_ | refine zaD ?_ ?_) <;> (first | (with_reducible refine zau ?_; try simp only [qeb, hN, seval, h1, zac]) | (simp [qed, hN, h1, zac] <;> omega))) | ((with_reducible refine zao ?_ ?_); (· simp [qed, hN, h1, zac]); try simp only [qeb, hN, seval, h1, zac]) | ((with_reducible refine zan ?_ ?_); (· simp [qed, hN, h1, zac]); try simp only [qeb, hN, seval, h1, zac]) | ((with_reducible apply zak); (· exact rfl); (· exact rfl); (· simp [qed, hN, h1, zac]); try simp only [qeb, hN, seval, h1, zac]) | ((with_reducible apply zas); (· exact rfl); (· exact rfl); (· simp [qed, hN, h1, zac]); try simp only [qeb, hN, seval, h1, zac]) | ((with_reducible apply zat); (· exact rfl); (· exact rfl); (· simp [qed, hN, h1, zac]); try simp only [qeb, hN, seval, h1, zac])))
 by_cases hi : (i : Int) < (v.l.length : Int)
 ·have hi' : i < v.l.length := by omega
  simp only [hi, decide_true]
  refine zaa (hK _ _ ?_)
  refine wp_cond_true (by simp [qed, hN]) ?_
  clear hK K
  refine qsr fun K hK => ?_
  rcases hl with hl | ⟨g, o, cs, T, rfl, hg, hbg, hcs⟩
  ·rw [hl] at hi'; cases hi'
  have hx : v.l[i]? = some v.l[i] := by simp [hi']
  obtain ⟨hxc, hxl⟩ := hcs.get hx
  rw [List.drop_drop] at hxc
  rw [List.length_drop] at hxl
  have hbg2 := hbg.chg hc (fun h => h)
  with_reducible refine zay (b := w.heap.size) (off := 3) (n := 1) ?_ ?_ ?_; (· kernel_rfl); (· simp [qed, hN])
  with_reducible refine zaK (b := w.heap.size) (o := 3) ?_ ?_ hb t3 ?_; (· kernel_rfl); (· simp [qed, hN])
  (repeat (first | ((with_reducible refine zaw ?_ ?_ ?_ ?_); (· exact rfl); (· simp [qee, hN, h1, zac] <;> omega); (· kernel_rfl); try simp only [qeb, hN, seval, h1, zac]) | ((with_reducible refine qlS ?_ ?_ ?_); (· simp [qed, hN, h1, zac]); (· kernel_rfl); try simp only [qeb, hN, seval, h1, zac]) | ((with_reducible first | refine zaC ?_ ?_ ?_ | refine zaB ?_ ?_ ?_ | refine zaD ?_ ?_) <;> (first | (with_reducible refine zau ?_; try simp only [qeb, hN, seval, h1, zac]) | (simp [qed, hN, h1, zac] <;> omega))) | ((with_reducible refine zao ?_ ?_); (· simp [qed, hN, h1, zac]); try simp only [qeb, hN, seval, h1, zac]) | ((with_reducible refine zan ?_ ?_); (· simp [qed, hN, h1, zac]); try simp only [qeb, hN, seval, h1, zac]) | ((with_reducible apply zak); (· exact rfl); (· exact rfl); (· simp [qed, hN, h1, zac]); try simp only [qeb, hN, seval, h1, zac]) | ((with_reducible apply zas); (· exact rfl); (· exact rfl); (· simp [qed, hN, h1, zac]); try simp only [qeb, hN, seval, h1, zac]) | ((with_reducible apply zat); (· exact rfl); (· exact rfl); (· simp [qed, hN, h1, zac]); try simp only [qeb, hN, seval, h1, zac])))
  refine zaT (b := g) (o := o) (k := .i64) (i := i) (n := 5) (len := v.l.length) (cap := cl) (by kernel_rfl) (by simp [qed, hN]) (by simp [qed, hN, h1]) hi' ?_
  refine wl_loadAgg_r (b := g) (o := o + i * 5) (n := 5) (by kernel_rfl) (by kernel_rfl) (by simp [qed, hN]) hbg2 (by omega) ?_
  have hlen := hxc.len
  refine zbh (b := w.heap.size + 1) (n := 5) (l' := ((cs.drop (o + i * 5)).take 5)) (by kernel_rfl) (by simp [qed, hN]) (by simp [qed, hN]; rfl) hb2 hlen hxc.one rfl fun w3 hb3 hc3 => ?_
  refine zaa (hK _ _ ?_); clear hK K
  have hc4 : Chg (fun _ => False) w w3 := hc.trans hc3 (fun n hn h => by omega)
  refine wp_ret ⟨by simp [zab, hD], w.heap.size + 1, _, _, by simp only [qea, hN, seval], hb3, by rw [hlen]; kernel_rfl, ⟨_, rfl, ?_⟩, hc4⟩
  unfold Tr.th
  rw [hx]
  exact hxc.stay (zbl.none hc4)
 ·simp only [hi, decide_false]
  refine zaa (hK _ _ ?_)
  refine wp_cond_false (by simp [qed, hN]) ?_
  refine wp_skip ?_
  clear hK K
  rename_i K hK
  refine hK _ _ ?_
  clear hK K
  refine qsr fun K hK => ?_
  refine wl_build (l := zTree) (by kernel_rfl) ?_
  refine zbh (b := w.heap.size + 1) (n := 5) (l' := zTree) (by kernel_rfl) (by simp [qed, hN]) (by simp [qed, hN]) hb2 rfl (zTree_is w G).one rfl fun w3 hb3 hc3 => ?_
  refine zaa (hK _ _ ?_); clear hK K
  have hc4 : Chg (fun _ => False) w w3 := hc.trans hc3 (fun n hn h => by omega)
  refine wp_ret ⟨by simp [zab, hD], w.heap.size + 1, _, _, by simp only [qea, hN, seval], hb3, by kernel_rfl, ⟨_, rfl, ?_⟩, hc4⟩
  unfold Tr.th
  rw [List.getElem?_eq_none (by omega)]
  exact zTree_is _ _
set_option maxHeartbeats 1000000
def Octs (w : World) (v : Value) (l : Bs) (w' : World) : Prop := Own eB w' w.heap.size v l ∧ Chg (fun _ => False) w w'
theorem chg_own {w w' : World} (h : Chg (fun k => w.heap.size ≤ k) w w') : Chg (fun _ => False) w w' := h.mono fun _ hn hk => by omega
theorem things_c (l : List Tr) {w : World} {G : Nat → Prop} {v : Value} (hv : TrS w G l v) :
  zaF Tryz.prog 61 #[v] w fun r w' => TrS w G (l.take zbu) r ∧ w' = w := by
 obtain ⟨ol, cl, rfl, hcl, hl⟩ := hv
 refine zaq Tryz.func61 rfl rfl Tryz.ntmps61 (by simp) ?_
 intro a hN hD ha
 have h0 : get a 0 = .slice ol l.length cl := ha 0 _ rfl
 refine qsr fun K hK => ?_; (repeat ((first | ((with_reducible refine zaw ?_ ?_ ?_ ?_); (· rfl); (· simp [qee, hN] <;> omega); (· kernel_rfl)) | ((with_reducible refine qlS ?_ ?_ ?_); (· simp [qed, hN]); (· kernel_rfl))); try simp only [qeb, hN, seval])); refine zaa (hK _ _ ?_); clear hK K
 refine qsr fun K hK => ?_; (repeat (first | ((with_reducible refine zaw ?_ ?_ ?_ ?_); (· exact rfl); (· simp [qee, hN, h0, zac] <;> omega); (· kernel_rfl); try simp only [qeb, hN, seval, h0, zac]) | ((with_reducible refine qlS ?_ ?_ ?_); (· simp [qed, hN, h0, zac]); (· kernel_rfl); try simp only [qeb, hN, seval, h0, zac]) | ((with_reducible first | refine zaC ?_ ?_ ?_ | refine zaB ?_ ?_ ?_ | refine zaD ?_ ?_) <;> (first | (with_reducible refine zau ?_; try simp only [qeb, hN, seval, h0, zac]) | (simp [qed, hN, h0, zac] <;> omega))) | ((with_reducible refine zao ?_ ?_); (· simp [qed, hN, h0, zac]); try simp only [qeb, hN, seval, h0, zac]) | ((with_reducible refine zan ?_ ?_); (· simp [qed, hN, h0, zac]); try simp only [qeb, hN, seval, h0, zac]) | ((with_reducible apply zak); (· exact rfl); (· exact rfl); (· simp [qed, hN, h0, zac]); try simp only [qeb, hN, seval, h0, zac]) | ((with_reducible apply zas); (· exact rfl); (· exact rfl); (· simp [qed, hN, h0, zac]); try simp only [qeb, hN, seval, h0, zac]) | ((with_reducible apply zat); (· exact rfl); (· exact rfl); (· simp [qed, hN, h0, zac]); try simp only [qeb, hN, seval, h0, zac])))
 have e : (if (32767 : Int) < (l.length : Int) then (32767 : Int) else (l.length : Int)) = ((l.take zbu).length : Int) := by
  simp only [List.length_take, zbu]; split <;> omega
 rw [e]
 have hle : (l.take zbu).length ≤ cl := by simp only [List.length_take]; omega
 refine wl_sliceTo (e := 5) (oa := ol) (len := l.length) (n := (l.take zbu).length) (k := .i64) (cap := cl) (by kernel_rfl) (by simp [qed, hN, h0]) (by simp [qed, hN]) hle ?_
 (repeat (first | ((with_reducible refine zaw ?_ ?_ ?_ ?_); (· exact rfl); (· simp [qee, hN, zac] <;> omega); (· kernel_rfl); try simp only [qeb, hN, seval, zac]) | ((with_reducible refine qlS ?_ ?_ ?_); (· simp [qed, hN, zac]); (· kernel_rfl); try simp only [qeb, hN, seval, zac]) | ((with_reducible first | refine zaC ?_ ?_ ?_ | refine zaB ?_ ?_ ?_ | refine zaD ?_ ?_) <;> (first | (with_reducible refine zau ?_; try simp only [qeb, hN, seval, zac]) | (simp [qed, hN, zac] <;> omega))) | ((with_reducible refine zao ?_ ?_); (· simp [qed, hN, zac]); try simp only [qeb, hN, seval, zac]) | ((with_reducible refine zan ?_ ?_); (· simp [qed, hN, zac]); try simp only [qeb, hN, seval, zac]) | ((with_reducible apply zak); (· exact rfl); (· exact rfl); (· simp [qed, hN, zac]); try simp only [qeb, hN, seval, zac]) | ((with_reducible apply zas); (· exact rfl); (· exact rfl); (· simp [qed, hN, zac]); try simp only [qeb, hN, seval, zac]) | ((with_reducible apply zat); (· exact rfl); (· exact rfl); (· simp [qed, hN, zac]); try simp only [qeb, hN, seval, zac])))
 refine zaa (hK _ _ ?_); clear hK K
 refine wp_ret ⟨by simp [zab, hD], ?_⟩; simp only [qea, hN, seval]
 refine ⟨⟨ol, cl, rfl, hle, ?_⟩, trivial⟩
 rcases hl with rfl | ⟨g, o, cs, T, h1, h2, h3, h4⟩
 ·exact .inl (by simp)
 ·exact .inr ⟨g, o, cs, T, h1, h2, h3, h4.take _⟩
theorem whole_c (l : Bs) {w : World} {ob : Option Addr} {cb : Nat} (hcb : l.length ≤ cb) :
  zaF Tryz.prog 39 #[.slice ob l.length cb] w fun r w' => r = .slice ob (l.take zbu).length cb ∧ w' = w := by
 refine zaq Tryz.func39 rfl rfl Tryz.ntmps39 (by simp) ?_
 intro a hN hD ha
 have h0 : get a 0 = .slice ob l.length cb := ha 0 _ rfl
 refine qsr fun K hK => ?_; (repeat ((first | ((with_reducible refine zaw ?_ ?_ ?_ ?_); (· rfl); (· simp [qee, hN] <;> omega); (· kernel_rfl)) | ((with_reducible refine qlS ?_ ?_ ?_); (· simp [qed, hN]); (· kernel_rfl))); try simp only [qeb, hN, seval])); refine zaa (hK _ _ ?_); clear hK K
 refine qsr fun K hK => ?_; (repeat (first | ((with_reducible refine zaw ?_ ?_ ?_ ?_); (· exact rfl); (· simp [qee, hN, h0, zac] <;> omega); (· kernel_rfl); try simp only [qeb, hN, seval, h0, zac]) | ((with_reducible refine qlS ?_ ?_ ?_); (· simp [qed, hN, h0, zac]); (· kernel_rfl); try simp only [qeb, hN, seval, h0, zac]) | ((with_reducible first | refine zaC ?_ ?_ ?_ | refine zaB ?_ ?_ ?_ | refine zaD ?_ ?_) <;> (first | (with_reducible refine zau ?_; try simp only [qeb, hN, seval, h0, zac]) | (simp [qed, hN, h0, zac] <;> omega))) | ((with_reducible refine zao ?_ ?_); (· simp [qed, hN, h0, zac]); try simp only [qeb, hN, seval, h0, zac]) | ((with_reducible refine zan ?_ ?_); (· simp [qed, hN, h0, zac]); try simp only [qeb, hN, seval, h0, zac]) | ((with_reducible apply zak); (· exact rfl); (· exact rfl); (· simp [qed, hN, h0, zac]); try simp only [qeb, hN, seval, h0, zac]) | ((with_reducible apply zas); (· exact rfl); (· exact rfl); (· simp [qed, hN, h0, zac]); try simp only [qeb, hN, seval, h0, zac]) | ((with_reducible apply zat); (· exact rfl); (· exact rfl); (· simp [qed, hN, h0, zac]); try simp only [qeb, hN, seval, h0, zac])))
 have e : (if (32767 : Int) < (l.length : Int) then (32767 : Int) else (l.length : Int)) = ((l.take zbu).length : Int) := by
  simp only [List.length_take, zbu]; split <;> omega
 rw [e]
 have hle : (l.take zbu).length ≤ cb := by simp only [List.length_take]; omega
 refine wl_sliceTo (e := 1) (oa := ob) (len := l.length) (n := (l.take zbu).length) (k := .i64) (cap := cb) (by kernel_rfl) (by simp [qed, hN, h0]) (by simp [qed, hN]) hle ?_
 (repeat (first | ((with_reducible refine zaw ?_ ?_ ?_ ?_); (· exact rfl); (· simp [qee, hN, zac] <;> omega); (· kernel_rfl); try simp only [qeb, hN, seval, zac]) | ((with_reducible refine qlS ?_ ?_ ?_); (· simp [qed, hN, zac]); (· kernel_rfl); try simp only [qeb, hN, seval, zac]) | ((with_reducible first | refine zaC ?_ ?_ ?_ | refine zaB ?_ ?_ ?_ | refine zaD ?_ ?_) <;> (first | (with_reducible refine zau ?_; try simp only [qeb, hN, seval, zac]) | (simp [qed, hN, zac] <;> omega))) | ((with_reducible refine zao ?_ ?_); (· simp [qed, hN, zac]); try simp only [qeb, hN, seval, zac]) | ((with_reducible refine zan ?_ ?_); (· simp [qed, hN, zac]); try simp only [qeb, hN, seval, zac]) | ((with_reducible apply zak); (· exact rfl); (· exact rfl); (· simp [qed, hN, zac]); try simp only [qeb, hN, seval, zac]) | ((with_reducible apply zas); (· exact rfl); (· exact rfl); (· simp [qed, hN, zac]); try simp only [qeb, hN, seval, zac]) | ((with_reducible apply zat); (· exact rfl); (· exact rfl); (· simp [qed, hN, zac]); try simp only [qeb, hN, seval, zac])))
 refine zaa (hK _ _ ?_); clear hK K
 refine wp_ret ⟨by simp [zab, hD], ?_⟩; simp only [qea, hN, seval]
 exact ⟨trivial, trivial⟩
theorem be_step (k : Nat) (n : Int) : be (k + 1) n = byte (n / 256 ^ k) :: be k n := rfl
theorem Fixed_c (n : Int) (wd : Nat) (hw : wd ≤ 8) {w : World} : zaF Tryz.prog 64 #[.int .i64 n, .int .i64 wd] w fun v w' => Octs w v (be wd n) w' := by
 refine zaq Tryz.func64 rfl rfl Tryz.ntmps64 (by simp) ?_
 intro a hN hD ha
 have h0 : get a 0 = .int .i64 n := ha 0 _ rfl
 have h1 : get a 1 = .int .i64 wd := ha 1 _ rfl
 refine qsr fun K hK => ?_; (repeat ((first | ((with_reducible refine zaw ?_ ?_ ?_ ?_); (· rfl); (· simp [qee, hN] <;> omega); (· kernel_rfl)) | ((with_reducible refine qlS ?_ ?_ ?_); (· simp [qed, hN]); (· kernel_rfl))); try simp only [qeb, hN, seval])); refine zaa (hK _ _ ?_); clear hK K
 refine qsr fun K hK => ?_; (repeat ((first | ((with_reducible refine zaw ?_ ?_ ?_ ?_); (· rfl); (· simp [qee, hN] <;> omega); (· kernel_rfl)) | ((with_reducible refine qlS ?_ ?_ ?_); (· simp [qed, hN]); (· kernel_rfl))); try simp only [qeb, hN, seval])); refine zaa (hK _ _ ?_); clear hK K
 refine qsk fun K0 hK0 => ?_; refine qsr fun K hK => ?_; (repeat ((first | ((with_reducible refine zaw ?_ ?_ ?_ ?_); (· rfl); (· simp [qee, hN, h1] <;> omega); (· kernel_rfl)) | ((with_reducible refine qlS ?_ ?_ ?_); (· simp [qed, hN, h1]); (· kernel_rfl))); try simp only [qeb, hN, seval, h1]))
 rw [zbi ((wd : Int) - 1) (by omega)]
 refine zaa (hK _ _ ?_); clear hK K
 refine wp_block ?_
 refine wp_loop (fun a' w' => ∃ (j : Nat) (bs : Bs), j ≤ wd ∧ a'.tmps.size = 22 ∧ a'.defers = [] ∧ get a' 0 = .int .i64 n ∧ get a' 6 = .int .i64 ((j : Int) - 1) ∧ Own eB w' w.heap.size (get a' 5) bs ∧ bs ++ be j n = be wd n ∧ bs.length ≤ 8 ∧ Chg (fun k => w.heap.size ≤ k) w w')
  (fun a' _ => (intOf (get a' 6) + 1).toNat) ?_ ?_
 ·exact ⟨wd, [], Nat.le_refl _, by simp only [qea, hN, seval], by simp [zab, hD], by simp only [qea, hN, seval, h0], by simp only [qea, hN, seval], by simp only [qea, hN, seval]; exact Own.nil _ _ _, by simp, by simp, Chg.refl _ _⟩
 clear hN hD
 rintro a1 w1 ⟨j, bs, hj, hN, hD, g0, g6, hown, hbe, hbl, hchg⟩
 refine qsk fun K1 hK1 => ?_; refine qsr fun K2 hK2 => ?_; (repeat ((first | ((with_reducible refine zaw ?_ ?_ ?_ ?_); (· rfl); (· simp [qee, hN, g6] <;> omega); (· kernel_rfl)) | ((with_reducible refine qlS ?_ ?_ ?_); (· simp [qed, hN, g6]); (· kernel_rfl))); try simp only [qeb, hN, seval, g6]))
 cases j with
 | zero =>
  have e1 : decide ((0 : Int) ≤ ((0 : Nat) : Int) - 1) = false := rfl
  rw [e1]
  refine zaa ?_
  refine hK2 _ _ ?_; try clear hK2 K2
  refine wp_cond_false (by simp [qed, hN]) ?_
  refine wp_exit ?_
  simp only [Exit.then, Exit.inBlock, if_pos]
  refine hK0 _ _ ?_; try clear hK0 K0
  refine qsr fun K hK => ?_; (repeat ((first | ((with_reducible refine zaw ?_ ?_ ?_ ?_); (· rfl); (· simp [qee, hN] <;> omega); (· kernel_rfl)) | ((with_reducible refine qlS ?_ ?_ ?_); (· simp [qed, hN]); (· kernel_rfl))); try simp only [qeb, hN, seval])); refine zaa (hK _ _ ?_); clear hK K
  refine wp_ret ⟨by simp [zab, hD], ?_⟩; simp only [qea, hN, seval]
  simp only [be, List.append_nil] at hbe
  rw [hbe] at hown
  exact ⟨hown, chg_own hchg⟩
 | succ j =>
  have e1 : decide ((0 : Int) ≤ ((j + 1 : Nat) : Int) - 1) = true := decide_eq_true (by omega)
  rw [e1]
  refine zaa ?_
  refine hK2 _ _ ?_; try clear hK2 K2
  refine wp_cond_true (by simp [qed, hN]) ?_
  refine wp_skip ?_
  refine hK1 _ _ ?_; try clear hK1 K1
  refine qsk fun K1 hK1 => ?_
  refine wp_block ?_
  refine zax ?_
  (repeat (first | ((with_reducible refine zaw ?_ ?_ ?_ ?_); (· exact rfl); (· simp [qee, hN, g0, g6, zac] <;> omega); (· kernel_rfl); try simp only [qeb, hN, seval, g0, g6, zac]) | ((with_reducible refine qlS ?_ ?_ ?_); (· simp [qed, hN, g0, g6, zac]); (· kernel_rfl); try simp only [qeb, hN, seval, g0, g6, zac]) | ((with_reducible first | refine zaC ?_ ?_ ?_ | refine zaB ?_ ?_ ?_ | refine zaD ?_ ?_) <;> (first | (with_reducible refine zau ?_; try simp only [qeb, hN, seval, g0, g6, zac]) | (simp [qed, hN, g0, g6, zac] <;> omega))) | ((with_reducible refine zao ?_ ?_); (· simp [qed, hN, g0, g6, zac]); try simp only [qeb, hN, seval, g0, g6, zac]) | ((with_reducible refine zan ?_ ?_); (· simp [qed, hN, g0, g6, zac]); try simp only [qeb, hN, seval, g0, g6, zac]) | ((with_reducible apply zak); (· exact rfl); (· exact rfl); (· simp [qed, hN, g0, g6, zac]); try simp only [qeb, hN, seval, g0, g6, zac]) | ((with_reducible apply zas); (· exact rfl); (· exact rfl); (· simp [qed, hN, g0, g6, zac]); try simp only [qeb, hN, seval, g0, g6, zac]) | ((with_reducible apply zat); (· exact rfl); (· exact rfl); (· simp [qed, hN, g0, g6, zac]); try simp only [qeb, hN, seval, g0, g6, zac])))
  have e2 : IntKind.i64.wrap (8 * (((j + 1 : Nat) : Int) - 1)) = ((8 * j : Nat) : Int) := by
   rw [zbi _ (by omega)]; omega
  rw [e2]
  refine wl_shrV (c := 8 * j) (j := .i64) (by simp [qed, hN]) (by simp [qed, hN]) ?_
  (repeat (first | ((with_reducible refine zaw ?_ ?_ ?_ ?_); (· exact rfl); (· simp [qee, hN, g0, g6, zac] <;> omega); (· kernel_rfl); try simp only [qeb, hN, seval, g0, g6, zac]) | ((with_reducible refine qlS ?_ ?_ ?_); (· simp [qed, hN, g0, g6, zac]); (· kernel_rfl); try simp only [qeb, hN, seval, g0, g6, zac]) | ((with_reducible first | refine zaC ?_ ?_ ?_ | refine zaB ?_ ?_ ?_ | refine zaD ?_ ?_) <;> (first | (with_reducible refine zau ?_; try simp only [qeb, hN, seval, g0, g6, zac]) | (simp [qed, hN, g0, g6, zac] <;> omega))) | ((with_reducible refine zao ?_ ?_); (· simp [qed, hN, g0, g6, zac]); try simp only [qeb, hN, seval, g0, g6, zac]) | ((with_reducible refine zan ?_ ?_); (· simp [qed, hN, g0, g6, zac]); try simp only [qeb, hN, seval, g0, g6, zac]) | ((with_reducible apply zak); (· exact rfl); (· exact rfl); (· simp [qed, hN, g0, g6, zac]); try simp only [qeb, hN, seval, g0, g6, zac]) | ((with_reducible apply zas); (· exact rfl); (· exact rfl); (· simp [qed, hN, g0, g6, zac]); try simp only [qeb, hN, seval, g0, g6, zac]) | ((with_reducible apply zat); (· exact rfl); (· exact rfl); (· simp [qed, hN, g0, g6, zac]); try simp only [qeb, hN, seval, g0, g6, zac])))
  have e3 : n / 2 ^ (min (8 * j) (IntKind.i64.bits)) = n / 256 ^ j := by
   rw [Nat.min_eq_left (by simp [IntKind.bits]; omega), Int.pow_mul]; rfl
  rw [e3, bv]
  rw [be_step] at hbe
  refine wl_appLit [byte (n / 256 ^ j)] (by simp [qed, hN]) rfl (by simp) (x := .tmp 13) (v := get a1 5) (by simp [qed, hN]) (by simp [qed, hN]) hown (by simp [LIM]; omega) hchg.size ?_
  intro v' w2 happ
  refine zah ?_
  simp only [qea, hN, seval]
  refine zaa ?_
  simp only [Exit.then, Exit.inBlock]
  refine hK1 _ _ ?_; try clear hK1 K1
  refine zax ?_
  (repeat ((first | ((with_reducible refine zaw ?_ ?_ ?_ ?_); (· rfl); (· simp [qee, hN, g6] <;> omega); (· kernel_rfl)) | ((with_reducible refine qlS ?_ ?_ ?_); (· simp [qed, hN, g6]); (· kernel_rfl))); try simp only [qeb, hN, seval, g6]))
  rw [zbi (((j + 1 : Nat) : Int) - 1 - 1) (by omega)]
  refine zaa ?_
  have hc2 := happ.chgFrom hown
  refine ⟨⟨j, bs ++ [byte (n / 256 ^ j)], by omega, by simp only [qea, hN, seval], by simp [zab, hD], by simp only [qea, hN, seval, g0], by simp only [qea, hN, seval]; congr 1; omega, by simp only [qea, hN, seval]; exact happ.own, ?_, ?_, hchg.trans hc2 fun _ _ h => h⟩, ?_⟩
  ·simpa using hbe
  ·have := congrArg List.length hbe
   simp only [be_length, List.length_append, List.length_cons] at this
   simp; omega
  ·simp only [qea, hN, seval, g6, intOf]
   omega
set_option maxHeartbeats 1000000
theorem wl_lit {ops : Array Oper} {Q : Exit → Act → World → Prop} {a : Act} {w : World} {rest : List Oper} {d : Option Nat} {ty : TypeId} {pos : String} {af : Array Edge}
  {n : Nat} {parts : Array (Nat × Operand)} (vs : Bs)
  (hp : (parts.map fun y => (y.1, a.eval y.2)) = ((vs.map zaQ).zipIdx.map fun y => (y.2, y.1)).toArray) (hn : n = vs.length) (h8 : vs.length ≤ 8)
  (h : ∀ v' w', Own eB w' w.heap.size v' vs → Chg (fun _ => False) w w' → WL Tryz.prog ops Q rest (a.put d v') w') :
  WL Tryz.prog ops Q (⟨d, .buildSlice 22 n parts, ty, pos, af, none⟩ :: rest) a w := by
 subst hn
 have hr := run_lit (w := w) vs (by omega)
 rw [← hp] at hr
 refine zaL rfl (by simp only [execOp, Sem.run_bind, hr]; rfl) (h _ _ ⟨by simp, .inr ⟨w.heap.size, vs.length, (vs.map zaQ).toArray, rfl, Nat.le_refl _, heap_alloc_new w _, Nat.le_refl _, by unfold maxLen; omega, by simp, by simp [← List.map_take]⟩⟩ (Chg.alloc _ _ _))
theorem Uvarint_c (n : Nat) (hn : n < 4294967296) {w : World} : zaF Tryz.prog 37 #[.int .u64 n] w fun v w' => Octs w v (zbo n) w' := by
 refine zaq Tryz.func37 rfl rfl Tryz.ntmps37 (by simp) ?_
 intro a hN hD ha
 have h0 : get a 0 = .int .u64 n := ha 0 _ rfl
 refine qsr fun K hK => ?_; (repeat (first | ((with_reducible refine zaw ?_ ?_ ?_ ?_); (· exact rfl); (· simp [qee, hN] <;> omega); (· kernel_rfl); try simp only [qeb, hN, seval]) | ((with_reducible refine qlS ?_ ?_ ?_); (· simp [qed, hN]); (· kernel_rfl); try simp only [qeb, hN, seval]) | ((with_reducible first | refine zaA ?_ ?_ ?_ | refine zaj ?_ ?_ | refine zam ?_ ?_ ?_) <;> (first | (with_reducible refine zau ?_; try simp only [qeb, hN, seval]) | (simp [qed, hN] <;> omega))))); refine zaa (hK _ _ ?_); clear hK K
 refine qsr fun K hK => ?_; (repeat (first | ((with_reducible refine zaw ?_ ?_ ?_ ?_); (· exact rfl); (· simp [qee, hN] <;> omega); (· kernel_rfl); try simp only [qeb, hN, seval]) | ((with_reducible refine qlS ?_ ?_ ?_); (· simp [qed, hN]); (· kernel_rfl); try simp only [qeb, hN, seval]) | ((with_reducible first | refine zaA ?_ ?_ ?_ | refine zaj ?_ ?_ | refine zam ?_ ?_ ?_) <;> (first | (with_reducible refine zau ?_; try simp only [qeb, hN, seval]) | (simp [qed, hN] <;> omega))))); refine zaa (hK _ _ ?_); clear hK K
 refine qsk fun K0 hK0 => ?_
 refine wp_block ?_
 refine wp_loop (fun a' w' => ∃ (k m : Nat) (bs : Bs), m < 16 * 128 ^ k ∧ k ≤ 4 ∧ a'.tmps.size = 20 ∧ a'.defers = [] ∧ get a' 0 = .int .u64 m ∧ Own eB w' w.heap.size (get a' 3) bs ∧ bs ++ za2 k m = zbo n ∧ bs.length + k ≤ 4 ∧ Chg (fun k => w.heap.size ≤ k) w w')
  (fun a' _ => (intOf (get a' 0)).toNat) ?_ ?_
 ·exact ⟨4, n, [], by omega, Nat.le_refl _, by simp only [qea, hN, seval], by simp [zab, hD], by simp only [qea, hN, seval, h0], by simp only [qea, hN, seval]; exact Own.nil _ _ _, rfl, by simp, Chg.refl _ _⟩
 clear hN hD
 rintro a1 w1 ⟨k, m, bs, hm, hk, hN, hD, g0, hown, hbe, hbl, hchg⟩
 have hm64 : m < 18446744073709551616 := by
  have : 128 ^ k ≤ 128 ^ 4 := Nat.pow_le_pow_right (by omega) hk
  omega
 refine qsk fun K1 hK1 => ?_; refine qsr fun K2 hK2 => ?_; (repeat (first | ((with_reducible refine zaw ?_ ?_ ?_ ?_); (· exact rfl); (· simp [qee, hN, g0] <;> omega); (· kernel_rfl); try simp only [qeb, hN, seval, g0]) | ((with_reducible refine qlS ?_ ?_ ?_); (· simp [qed, hN, g0]); (· kernel_rfl); try simp only [qeb, hN, seval, g0]) | ((with_reducible first | refine zaA ?_ ?_ ?_ | refine zaj ?_ ?_ | refine zam ?_ ?_ ?_) <;> (first | (with_reducible refine zau ?_; try simp only [qeb, hN, seval, g0]) | (simp [qed, hN, g0] <;> omega)))))
 by_cases hlt : m ≤ 127
 ·have e1 : decide ((127 : Int) < (m : Int)) = false := decide_eq_false (by omega)
  rw [e1]
  refine zaa ?_
  refine hK2 _ _ ?_; try clear hK2 K2
  refine wp_cond_false (by simp [qed, hN]) ?_
  refine wp_exit ?_
  simp only [Exit.then, Exit.inBlock, if_pos]
  refine hK0 _ _ ?_; try clear hK0 K0
  refine qsr fun K hK => ?_; (repeat (first | ((with_reducible refine zaw ?_ ?_ ?_ ?_); (· exact rfl); (· simp [qee, hN, g0] <;> omega); (· kernel_rfl); try simp only [qeb, hN, seval, g0]) | ((with_reducible refine qlS ?_ ?_ ?_); (· simp [qed, hN, g0]); (· kernel_rfl); try simp only [qeb, hN, seval, g0]) | ((with_reducible first | refine zaA ?_ ?_ ?_ | refine zaj ?_ ?_ | refine zam ?_ ?_ ?_) <;> (first | (with_reducible refine zau ?_; try simp only [qeb, hN, seval, g0]) | (simp [qed, hN, g0] <;> omega)))))
  rw [bv]
  have hb : za2 k m = [byte m] := by
   have e : UInt8.ofNat m = byte m := by
    unfold byte; congr 1; omega
   cases k with
   | zero => simp [za2, e]
   | succ k => simp only [za2]; rw [if_pos (by omega), e]
  refine wl_appLit [byte m] (by simp [qed, hN]) rfl (by simp) (x := .tmp 15) (v := get a1 3) (by simp [qed, hN]) (by simp [qed, hN]) hown (by simp [LIM]; omega) hchg.size ?_
  intro v' w2 happ
  refine zah ?_
  simp only [qea, hN, seval]
  refine zaa (hK _ _ ?_); clear hK K
  refine wp_ret ⟨by simp [zab, hD], ?_⟩; simp only [qea, hN, seval]
  rw [hb] at hbe
  rw [← hbe]
  exact ⟨happ.own, chg_own (hchg.trans (happ.chgFrom hown) fun _ _ h => h)⟩
 ·have e1 : decide ((127 : Int) < (m : Int)) = true := decide_eq_true (by omega)
  rw [e1]
  refine zaa ?_
  refine hK2 _ _ ?_; try clear hK2 K2
  refine wp_cond_true (by simp [qed, hN]) ?_
  refine wp_skip ?_
  refine hK1 _ _ ?_; try clear hK1 K1
  cases k with
  | zero => omega
  | succ k =>
  refine wp_block ?_
  refine qsr fun K3 hK3 => ?_
  (repeat (first | ((with_reducible refine zaw ?_ ?_ ?_ ?_); (· exact rfl); (· simp [qee, hN, g0] <;> omega); (· kernel_rfl); try simp only [qeb, hN, seval, g0]) | ((with_reducible refine qlS ?_ ?_ ?_); (· simp [qed, hN, g0]); (· kernel_rfl); try simp only [qeb, hN, seval, g0]) | ((with_reducible first | refine zaA ?_ ?_ ?_ | refine zaj ?_ ?_ | refine zam ?_ ?_ ?_) <;> (first | (with_reducible refine zau ?_; try simp only [qeb, hN, seval, g0]) | (simp [qed, hN, g0] <;> omega)))))
  have e2 : IntKind.u8.wrap ((m : Int) % 128) = (m : Int) % 128 := by
   rw [wrap_u8]; omega
  rw [e2]
  (repeat (first | ((with_reducible refine zaw ?_ ?_ ?_ ?_); (· exact rfl); (· simp [qee, hN, g0] <;> omega); (· kernel_rfl); try simp only [qeb, hN, seval, g0]) | ((with_reducible refine qlS ?_ ?_ ?_); (· simp [qed, hN, g0]); (· kernel_rfl); try simp only [qeb, hN, seval, g0]) | ((with_reducible first | refine zaA ?_ ?_ ?_ | refine zaj ?_ ?_ | refine zam ?_ ?_ ?_) <;> (first | (with_reducible refine zau ?_; try simp only [qeb, hN, seval, g0]) | (simp [qed, hN, g0] <;> omega)))))
  have e5 : Value.int .u8 ((m : Int) % 128 + 128) = zaQ (byte ((m : Int) % 128 + 128)) := by
   rw [← byteV_byte]; congr 1; omega
  rw [e5]
  have hb : za2 (k + 1) m = byte ((m : Int) % 128 + 128) :: za2 k (m / 128) := by
   have e : UInt8.ofNat (m % 128 + 128) = byte ((m : Int) % 128 + 128) := by
    unfold byte; congr 1; omega
   simp only [za2]; rw [if_neg (by omega), e]
  rw [hb] at hbe
  refine wl_appLit [byte ((m : Int) % 128 + 128)] (by simp [qed, hN]) rfl (by simp) (x := .tmp 6) (v := get a1 3) (by simp [qed, hN]) (by simp [qed, hN]) hown (by simp [LIM]; omega) hchg.size ?_
  intro v' w2 happ
  refine zah ?_
  simp only [qea, hN, seval]
  refine zaa ?_
  refine hK3 _ _ ?_; try clear hK3 K3
  refine zax ?_
  (repeat (first | ((with_reducible refine zaw ?_ ?_ ?_ ?_); (· exact rfl); (· simp [qee, hN, g0] <;> omega); (· kernel_rfl); try simp only [qeb, hN, seval, g0]) | ((with_reducible refine qlS ?_ ?_ ?_); (· simp [qed, hN, g0]); (· kernel_rfl); try simp only [qeb, hN, seval, g0]) | ((with_reducible first | refine zaA ?_ ?_ ?_ | refine zaj ?_ ?_ | refine zam ?_ ?_ ?_) <;> (first | (with_reducible refine zau ?_; try simp only [qeb, hN, seval, g0]) | (simp [qed, hN, g0] <;> omega)))))
  refine zaa ?_
  simp only [Exit.inBlock, Exit.then]
  have e4 : (m : Int) / 2 ^ (min 7 IntKind.u64.bits) = ((m / 128 : Nat) : Int) := by
   simp [IntKind.bits]
  refine ⟨⟨k, m / 128, bs ++ [byte ((m : Int) % 128 + 128)], ?_, by omega, by simp only [qea, hN, seval], by simp [zab, hD], ?_, by simp only [qea, hN, seval]; exact happ.own, by simpa using hbe, by simp; omega, hchg.trans (happ.chgFrom hown) fun _ _ h => h⟩, ?_⟩
  ·have : 128 ^ (k + 1) = 128 * 128 ^ k := by rw [Nat.pow_succ]; omega
   omega
  ·simp only [qea, hN, seval, g0]
   rw [← e4]
  ·simp only [qea, hN, seval, g0, intOf]
   have : (m : Int) / 2 ^ (min 7 IntKind.u64.bits) = (m : Int) / 128 := rfl
   omega
theorem wrap_u64 {n : Nat} (h : n < 18446744073709551616) : IntKind.u64.wrap (n : Int) = n := by
 have e : IntKind.u64.wrap (n : Int) = (n : Int) % 18446744073709551616 := by simp [IntKind.wrap, IntKind.bits, IntKind.signed]
 rw [e]; omega
theorem counted_c (flex nul : Bool) (n wd : Nat) (hn : n < 4294967295) (hw : wd ≤ 8) {w : World} :
  zaF Tryz.prog 62 #[.bool flex, .bool nul, .int .i64 n, .int .i64 wd] w fun v w' => Octs w v (sCount flex nul n wd) w' := by
 refine zaq Tryz.func62 rfl rfl Tryz.ntmps62 (by simp) ?_
 intro a hN hD ha
 have h0 : get a 0 = .bool flex := ha 0 _ rfl
 have h1 : get a 1 = .bool nul := ha 1 _ rfl
 have h2 : get a 2 = .int .i64 n := ha 2 _ rfl
 have h3 : get a 3 = .int .i64 wd := ha 3 _ rfl
 refine qsr fun K hK => ?_; (repeat (first | ((with_reducible refine zaw ?_ ?_ ?_ ?_); (· exact rfl); (· simp [qee, hN] <;> omega); (· kernel_rfl); try simp only [qeb, hN, seval]) | ((with_reducible refine qlS ?_ ?_ ?_); (· simp [qed, hN]); (· kernel_rfl); try simp only [qeb, hN, seval]) | ((with_reducible first | refine zaA ?_ ?_ ?_ | refine zaj ?_ ?_ | refine zam ?_ ?_ ?_) <;> (first | (with_reducible refine zau ?_; try simp only [qeb, hN, seval]) | (simp [qed, hN] <;> omega))))); refine zaa (hK _ _ ?_); clear hK K
 refine qsk fun K0 hK0 => ?_
 refine wp_block ?_
 refine qsr fun K hK => ?_
 cases flex with
 | true =>
  cases nul with
  | true =>
   (repeat (first | ((with_reducible refine zaw ?_ ?_ ?_ ?_); (· exact rfl); (· simp [qee, hN, h0, h1, zac] <;> omega); (· kernel_rfl); try simp only [qeb, hN, seval, h0, h1, zac]) | ((with_reducible refine qlS ?_ ?_ ?_); (· simp [qed, hN, h0, h1, zac]); (· kernel_rfl); try simp only [qeb, hN, seval, h0, h1, zac]) | ((with_reducible first | refine zaA ?_ ?_ ?_ | refine zaj ?_ ?_ | refine zam ?_ ?_ ?_ | refine zaC ?_ ?_ ?_ | refine zaB ?_ ?_ ?_ | refine zaD ?_ ?_) <;> (first | (with_reducible refine zau ?_; try simp only [qeb, hN, seval, h0, h1, zac]) | (simp [qed, hN, h0, h1, zac] <;> omega))) | ((with_reducible refine zao ?_ ?_); (· simp [qed, hN, h0, h1, zac]); try simp only [qeb, hN, seval, h0, h1, zac]) | ((with_reducible refine zan ?_ ?_); (· simp [qed, hN, h0, h1, zac]); try simp only [qeb, hN, seval, h0, h1, zac]) | ((with_reducible apply zak); (· exact rfl); (· exact rfl); (· simp [qed, hN, h0, h1, zac]); try simp only [qeb, hN, seval, h0, h1, zac]) | ((with_reducible apply zas); (· exact rfl); (· exact rfl); (· simp [qed, hN, h0, h1, zac]); try simp only [qeb, hN, seval, h0, h1, zac]) | ((with_reducible apply zat); (· exact rfl); (· exact rfl); (· simp [qed, hN, h0, h1, zac]); try simp only [qeb, hN, seval, h0, h1, zac])))
   refine zaa (hK _ _ ?_); clear hK K
   refine wp_cond_true (by simp [qed, hN]) ?_
   refine qsr fun K hK => ?_
   refine wl_lit [0] (by simp [qed, hN]; rfl) rfl (by simp) ?_
   intro v w1 hown hc
   refine zah ?_
   simp only [qea, hN, seval]
   refine zaa (hK _ _ ?_); clear hK K
   refine wp_ret ⟨by simp [zab, hD], ?_⟩; simp only [qea, hN, seval]
   exact ⟨hown, hc⟩
  | false =>
   (repeat (first | ((with_reducible refine zaw ?_ ?_ ?_ ?_); (· exact rfl); (· simp [qee, hN, h0, h1, zac] <;> omega); (· kernel_rfl); try simp only [qeb, hN, seval, h0, h1, zac]) | ((with_reducible refine qlS ?_ ?_ ?_); (· simp [qed, hN, h0, h1, zac]); (· kernel_rfl); try simp only [qeb, hN, seval, h0, h1, zac]) | ((with_reducible first | refine zaA ?_ ?_ ?_ | refine zaj ?_ ?_ | refine zam ?_ ?_ ?_ | refine zaC ?_ ?_ ?_ | refine zaB ?_ ?_ ?_ | refine zaD ?_ ?_) <;> (first | (with_reducible refine zau ?_; try simp only [qeb, hN, seval, h0, h1, zac]) | (simp [qed, hN, h0, h1, zac] <;> omega))) | ((with_reducible refine zao ?_ ?_); (· simp [qed, hN, h0, h1, zac]); try simp only [qeb, hN, seval, h0, h1, zac]) | ((with_reducible refine zan ?_ ?_); (· simp [qed, hN, h0, h1, zac]); try simp only [qeb, hN, seval, h0, h1, zac]) | ((with_reducible apply zak); (· exact rfl); (· exact rfl); (· simp [qed, hN, h0, h1, zac]); try simp only [qeb, hN, seval, h0, h1, zac]) | ((with_reducible apply zas); (· exact rfl); (· exact rfl); (· simp [qed, hN, h0, h1, zac]); try simp only [qeb, hN, seval, h0, h1, zac]) | ((with_reducible apply zat); (· exact rfl); (· exact rfl); (· simp [qed, hN, h0, h1, zac]); try simp only [qeb, hN, seval, h0, h1, zac])))
   refine zaa (hK _ _ ?_); clear hK K
   refine wp_cond_false (by simp [qed, hN]) ?_
   refine qsr fun K hK => ?_
   (repeat (first | ((with_reducible refine zaw ?_ ?_ ?_ ?_); (· exact rfl); (· simp [qee, hN, h0, h1, zac] <;> omega); (· kernel_rfl); try simp only [qeb, hN, seval, h0, h1, zac]) | ((with_reducible refine qlS ?_ ?_ ?_); (· simp [qed, hN, h0, h1, zac]); (· kernel_rfl); try simp only [qeb, hN, seval, h0, h1, zac]) | ((with_reducible first | refine zaA ?_ ?_ ?_ | refine zaj ?_ ?_ | refine zam ?_ ?_ ?_ | refine zaC ?_ ?_ ?_ | refine zaB ?_ ?_ ?_ | refine zaD ?_ ?_) <;> (first | (with_reducible refine zau ?_; try simp only [qeb, hN, seval, h0, h1, zac]) | (simp [qed, hN, h0, h1, zac] <;> omega))) | ((with_reducible refine zao ?_ ?_); (· simp [qed, hN, h0, h1, zac]); try simp only [qeb, hN, seval, h0, h1, zac]) | ((with_reducible refine zan ?_ ?_); (· simp [qed, hN, h0, h1, zac]); try simp only [qeb, hN, seval, h0, h1, zac]) | ((with_reducible apply zak); (· exact rfl); (· exact rfl); (· simp [qed, hN, h0, h1, zac]); try simp only [qeb, hN, seval, h0, h1, zac]) | ((with_reducible apply zas); (· exact rfl); (· exact rfl); (· simp [qed, hN, h0, h1, zac]); try simp only [qeb, hN, seval, h0, h1, zac]) | ((with_reducible apply zat); (· exact rfl); (· exact rfl); (· simp [qed, hN, h0, h1, zac]); try simp only [qeb, hN, seval, h0, h1, zac])))
   refine zaa (hK _ _ ?_); clear hK K
   refine wp_cond_true (by simp [qed, hN]) ?_
   refine qsr fun K hK => ?_
   (repeat (first | ((with_reducible refine zaw ?_ ?_ ?_ ?_); (· exact rfl); (· simp [qee, hN, h2] <;> omega); (· kernel_rfl); try simp only [qeb, hN, seval, h2]) | ((with_reducible refine qlS ?_ ?_ ?_); (· simp [qed, hN, h2]); (· kernel_rfl); try simp only [qeb, hN, seval, h2]) | ((with_reducible first | refine zaA ?_ ?_ ?_ | refine zaj ?_ ?_ | refine zam ?_ ?_ ?_) <;> (first | (with_reducible refine zau ?_; try simp only [qeb, hN, seval, h2]) | (simp [qed, hN, h2] <;> omega)))))
   have e1 : IntKind.u64.wrap (IntKind.u64.wrap (n : Int) + 1) = ((n + 1 : Nat) : Int) := by
    rw [wrap_u64 (n := n) (by omega)]
    exact wrap_u64 (n := n + 1) (by omega)
   rw [e1]
   refine zaz (fun args w => Tryz.call37 args w) (by simp [qea, hN, seval]; exact Uvarint_c (n + 1) (by omega)) ?_
   intro v w' hv
   refine zah ?_
   simp only [qea, hN, seval]
   refine zaa (hK _ _ ?_); clear hK K
   refine wp_ret ⟨by simp [zab, hD], ?_⟩; simp only [qea, hN, seval]
   exact hv
 | false =>
  (repeat (first | ((with_reducible refine zaw ?_ ?_ ?_ ?_); (· exact rfl); (· simp [qee, hN, h0, h1, zac] <;> omega); (· kernel_rfl); try simp only [qeb, hN, seval, h0, h1, zac]) | ((with_reducible refine qlS ?_ ?_ ?_); (· simp [qed, hN, h0, h1, zac]); (· kernel_rfl); try simp only [qeb, hN, seval, h0, h1, zac]) | ((with_reducible first | refine zaA ?_ ?_ ?_ | refine zaj ?_ ?_ | refine zam ?_ ?_ ?_ | refine zaC ?_ ?_ ?_ | refine zaB ?_ ?_ ?_ | refine zaD ?_ ?_) <;> (first | (with_reducible refine zau ?_; try simp only [qeb, hN, seval, h0, h1, zac]) | (simp [qed, hN, h0, h1, zac] <;> omega))) | ((with_reducible refine zao ?_ ?_); (· simp [qed, hN, h0, h1, zac]); try simp only [qeb, hN, seval, h0, h1, zac]) | ((with_reducible refine zan ?_ ?_); (· simp [qed, hN, h0, h1, zac]); try simp only [qeb, hN, seval, h0, h1, zac]) | ((with_reducible apply zak); (· exact rfl); (· exact rfl); (· simp [qed, hN, h0, h1, zac]); try simp only [qeb, hN, seval, h0, h1, zac]) | ((with_reducible apply zas); (· exact rfl); (· exact rfl); (· simp [qed, hN, h0, h1, zac]); try simp only [qeb, hN, seval, h0, h1, zac]) | ((with_reducible apply zat); (· exact rfl); (· exact rfl); (· simp [qed, hN, h0, h1, zac]); try simp only [qeb, hN, seval, h0, h1, zac])))
  refine zaa (hK _ _ ?_); clear hK K
  refine wp_cond_false (by simp [qed, hN]) ?_
  refine qsr fun K hK => ?_
  (repeat (first | ((with_reducible refine zaw ?_ ?_ ?_ ?_); (· exact rfl); (· simp [qee, hN, h0, h1, zac] <;> omega); (· kernel_rfl); try simp only [qeb, hN, seval, h0, h1, zac]) | ((with_reducible refine qlS ?_ ?_ ?_); (· simp [qed, hN, h0, h1, zac]); (· kernel_rfl); try simp only [qeb, hN, seval, h0, h1, zac]) | ((with_reducible first | refine zaA ?_ ?_ ?_ | refine zaj ?_ ?_ | refine zam ?_ ?_ ?_ | refine zaC ?_ ?_ ?_ | refine zaB ?_ ?_ ?_ | refine zaD ?_ ?_) <;> (first | (with_reducible refine zau ?_; try simp only [qeb, hN, seval, h0, h1, zac]) | (simp [qed, hN, h0, h1, zac] <;> omega))) | ((with_reducible refine zao ?_ ?_); (· simp [qed, hN, h0, h1, zac]); try simp only [qeb, hN, seval, h0, h1, zac]) | ((with_reducible refine zan ?_ ?_); (· simp [qed, hN, h0, h1, zac]); try simp only [qeb, hN, seval, h0, h1, zac]) | ((with_reducible apply zak); (· exact rfl); (· exact rfl); (· simp [qed, hN, h0, h1, zac]); try simp only [qeb, hN, seval, h0, h1, zac]) | ((with_reducible apply zas); (· exact rfl); (· exact rfl); (· simp [qed, hN, h0, h1, zac]); try simp only [qeb, hN, seval, h0, h1, zac]) | ((with_reducible apply zat); (· exact rfl); (· exact rfl); (· simp [qed, hN, h0, h1, zac]); try simp only [qeb, hN, seval, h0, h1, zac])))
  refine zaa (hK _ _ ?_); clear hK K
  refine wp_cond_false (by simp [qed, hN]) ?_
  refine qsr fun K hK => ?_
  (repeat (first | ((with_reducible refine zaw ?_ ?_ ?_ ?_); (· exact rfl); (· simp [qee, hN, h1] <;> omega); (· kernel_rfl); try simp only [qeb, hN, seval, h1]) | ((with_reducible refine qlS ?_ ?_ ?_); (· simp [qed, hN, h1]); (· kernel_rfl); try simp only [qeb, hN, seval, h1]) | ((with_reducible first | refine zaA ?_ ?_ ?_ | refine zaj ?_ ?_ | refine zam ?_ ?_ ?_) <;> (first | (with_reducible refine zau ?_; try simp only [qeb, hN, seval, h1]) | (simp [qed, hN, h1] <;> omega)))))
  refine zaa ?_
  cases nul with
  | true =>
   refine hK _ _ ?_
   refine wp_cond_true (by simp [qed, hN]) ?_
   clear hK K
   refine qsr fun K hK => ?_
   (repeat (first | ((with_reducible refine zaw ?_ ?_ ?_ ?_); (· exact rfl); (· simp [qee, hN, h3] <;> omega); (· kernel_rfl); try simp only [qeb, hN, seval, h3]) | ((with_reducible refine qlS ?_ ?_ ?_); (· simp [qed, hN, h3]); (· kernel_rfl); try simp only [qeb, hN, seval, h3]) | ((with_reducible first | refine zaA ?_ ?_ ?_ | refine zaj ?_ ?_ | refine zam ?_ ?_ ?_) <;> (first | (with_reducible refine zau ?_; try simp only [qeb, hN, seval, h3]) | (simp [qed, hN, h3] <;> omega)))))
   refine zaz (fun args w => Tryz.call64 args w) (by simp [qea, hN, seval, h3]; exact Fixed_c (-1) wd hw) ?_
   intro v w' hv
   refine zah ?_
   simp only [qea, hN, seval]
   refine zaa (hK _ _ ?_); clear hK K
   refine wp_ret ⟨by simp [zab, hD], ?_⟩; simp only [qea, hN, seval]
   exact hv
  | false =>
   refine hK _ _ ?_
   refine wp_cond_false (by simp [qed, hN]) ?_
   refine wp_skip ?_
   simp only [Exit.then, Exit.inBlock]
   clear hK K
   refine hK0 _ _ ?_; try clear hK0 K0
   refine qsr fun K hK => ?_
   (repeat (first | ((with_reducible refine zaw ?_ ?_ ?_ ?_); (· exact rfl); (· simp [qee, hN, h2, h3] <;> omega); (· kernel_rfl); try simp only [qeb, hN, seval, h2, h3]) | ((with_reducible refine qlS ?_ ?_ ?_); (· simp [qed, hN, h2, h3]); (· kernel_rfl); try simp only [qeb, hN, seval, h2, h3]) | ((with_reducible first | refine zaA ?_ ?_ ?_ | refine zaj ?_ ?_ | refine zam ?_ ?_ ?_) <;> (first | (with_reducible refine zau ?_; try simp only [qeb, hN, seval, h2, h3]) | (simp [qed, hN, h2, h3] <;> omega)))))
   refine zaz (fun args w => Tryz.call64 args w) (by simp [qea, hN, seval, h2, h3]; exact Fixed_c n wd hw) ?_
   intro v w' hv
   refine zah ?_
   simp only [qea, hN, seval]
   refine zaa (hK _ _ ?_); clear hK K
   refine wp_ret ⟨by simp [zab, hD], ?_⟩; simp only [qea, hN, seval]
   exact hv
theorem width_c (k : K) (h : k ≠ .bool ∧ k ≠ .uuid ∧ k ≠ .text ∧ k ≠ .bytes ∧ k ≠ .struct ∧ k ≠ .list) {w : World} :
  zaF Tryz.prog 65 #[kV k] w fun v w' => v = .int .i64 (kWid k) ∧ w' = w := by
 refine zaq Tryz.func65 rfl rfl Tryz.ntmps65 (by simp) ?_
 intro a hN hD ha
 have h0 : get a 0 = kV k := ha 0 _ rfl
 unfold kV at h0
 cases k <;> simp only [ne_eq, not_true, false_and, and_false, not_false_eq_true, reduceCtorEq, and_self] at h <;> simp only [zaI, kWid] at h0 ⊢
 all_goals
  (repeat (first | (with_reducible refine wp_seq_k (fun K hK => ?_)) | (with_reducible refine wp_block ?_) | ((with_reducible refine zax ?_); (repeat (first | ((with_reducible refine zaw ?_ ?_ ?_ ?_); (· exact rfl); (· simp [qee, hN, h0, zac] <;> omega); (· kernel_rfl); try simp only [qeb, hN, seval, h0, zac]) | ((with_reducible refine qlS ?_ ?_ ?_); (· simp [qed, hN, h0, zac]); (· kernel_rfl); try simp only [qeb, hN, seval, h0, zac]) | ((with_reducible first | refine zaA ?_ ?_ ?_ | refine zaj ?_ ?_ | refine zam ?_ ?_ ?_ | refine zaC ?_ ?_ ?_ | refine zaB ?_ ?_ ?_ | refine zaD ?_ ?_) <;> (first | (with_reducible refine zau ?_; try simp only [qeb, hN, seval, h0, zac]) | (simp [qed, hN, h0, zac] <;> omega))) | ((with_reducible refine zao ?_ ?_); (· simp [qed, hN, h0, zac]); try simp only [qeb, hN, seval, h0, zac]) | ((with_reducible refine zan ?_ ?_); (· simp [qed, hN, h0, zac]); try simp only [qeb, hN, seval, h0, zac]) | ((with_reducible apply zak); (· exact rfl); (· exact rfl); (· simp [qed, hN, h0, zac]); try simp only [qeb, hN, seval, h0, zac]) | ((with_reducible apply zas); (· exact rfl); (· exact rfl); (· simp [qed, hN, h0, zac]); try simp only [qeb, hN, seval, h0, zac]) | ((with_reducible apply zat); (· exact rfl); (· exact rfl); (· simp [qed, hN, h0, zac]); try simp only [qeb, hN, seval, h0, zac]))); (refine zaa ?_)) | ((with_reducible refine wp_cond_true ?_ ?_); (· simp [qed, hN, h0])) | ((with_reducible refine wp_cond_false ?_ ?_); (· simp [qed, hN, h0])) | (with_reducible refine wp_skip ?_) | (refine hK _ _ ?_; clear hK K)))
  refine wp_ret ⟨by simp [zab, hD], ?_⟩; simp only [qea, hN, seval]
  refine ⟨?_, ?_⟩ <;> first | rfl | trivial
set_option maxHeartbeats 1000000
theorem zav.row {w : World} {G : Nat → Prop} {oa : Option Addr} {l : Bs} (h : zav w G oa l) {i : Nat} (hi : i < l.length) :
  ∃ b o cs T, oa = some ⟨b, o, none⟩ ∧ G b ∧ Rbk w b cs T ∧ cs[o + i]? = some (zaQ l[i]) := by
 rcases h with rfl | ⟨b, o, cs, T, h1, h2, h3, h4⟩
 ·cases hi
 ·refine ⟨b, o, cs, T, h1, h2, h3, ?_⟩
  rw [← seg_get hi, h4]
  simp [hi]
theorem byteV_inj {u v : UInt8} : (u.toNat : Int) = (v.toNat : Int) ↔ u = v := by
 constructor
 ·intro h
  exact UInt8.toNat_inj.1 (by omega)
 ·rintro rfl; rfl
theorem Same_c (l1 l2 : Bs) {w : World} {G1 G2 : Nat → Prop} {o1 o2 : Option Addr} {c1 c2 : Nat} (h1 : zav w G1 o1 l1) (h2 : zav w G2 o2 l2) (hlim : l1.length ≤ LIM) :
  zaF Tryz.prog 11 #[.slice o1 l1.length c1, .slice o2 l2.length c2] w fun v w' => v = .bool (decide (l1 = l2)) ∧ Chg (fun _ => False) w w' := by
 refine zaq Tryz.func11 rfl rfl Tryz.ntmps11 (by simp) ?_
 intro a hN hD ha
 have h0 : get a 0 = .slice o1 l1.length c1 := ha 0 _ rfl
 have hh1 : get a 1 = .slice o2 l2.length c2 := ha 1 _ rfl
 refine qsr fun K hK => ?_; (repeat ((first | ((with_reducible refine zaw ?_ ?_ ?_ ?_); (· rfl); (· simp [qee, hN] <;> omega); (· kernel_rfl)) | ((with_reducible refine qlS ?_ ?_ ?_); (· simp [qed, hN]); (· kernel_rfl))); try simp only [qeb, hN, seval])); refine zaa (hK _ _ ?_); clear hK K
 refine qsk fun K0 hK0 => ?_; refine qsr fun K1 hK1 => ?_
 (repeat ((first | ((with_reducible refine zaw ?_ ?_ ?_ ?_); (· rfl); (· simp [qee, hN, h0, hh1] <;> omega); (· kernel_rfl)) | ((with_reducible refine qlS ?_ ?_ ?_); (· simp [qed, hN, h0, hh1]); (· kernel_rfl))); try simp only [qeb, hN, seval, h0, hh1]))
 by_cases hlen : l1.length = l2.length
 case neg =>
  have hl : ¬ ((l1.length : Int) = (l2.length : Int)) := by omega
  refine zaa ?_
  refine hK1 _ _ ?_; try clear hK1 K1
  refine wp_cond_true (by simp [qed, hN, hl]) ?_
  (repeat (first | (with_reducible refine wp_seq_k (fun K hK => ?_)) | (with_reducible refine wp_block ?_) | ((with_reducible refine zax ?_); (repeat (first | ((with_reducible refine zaw ?_ ?_ ?_ ?_); (· exact rfl); (· simp [qee, hN, zac] <;> omega); (· kernel_rfl); try simp only [qeb, hN, seval, zac]) | ((with_reducible refine qlS ?_ ?_ ?_); (· simp [qed, hN, zac]); (· kernel_rfl); try simp only [qeb, hN, seval, zac]) | ((with_reducible first | refine zaC ?_ ?_ ?_ | refine zaB ?_ ?_ ?_ | refine zaD ?_ ?_) <;> (first | (with_reducible refine zau ?_; try simp only [qeb, hN, seval, zac]) | (simp [qed, hN, zac] <;> omega))) | ((with_reducible refine zao ?_ ?_); (· simp [qed, hN, zac]); try simp only [qeb, hN, seval, zac]) | ((with_reducible refine zan ?_ ?_); (· simp [qed, hN, zac]); try simp only [qeb, hN, seval, zac]) | ((with_reducible apply zak); (· exact rfl); (· exact rfl); (· simp [qed, hN, zac]); try simp only [qeb, hN, seval, zac]) | ((with_reducible apply zas); (· exact rfl); (· exact rfl); (· simp [qed, hN, zac]); try simp only [qeb, hN, seval, zac]) | ((with_reducible apply zat); (· exact rfl); (· exact rfl); (· simp [qed, hN, zac]); try simp only [qeb, hN, seval, zac]))); (refine zaa ?_)) | ((with_reducible refine wp_cond_true ?_ ?_); (· simp [qed, hN])) | ((with_reducible refine wp_cond_false ?_ ?_); (· simp [qed, hN])) | (with_reducible refine wp_skip ?_) | (refine hK _ _ ?_; clear hK K)))
  refine wp_ret ⟨by simp [zab, hD], ?_⟩; simp only [qea, hN, seval]
  refine ⟨?_, Chg.refl _ _⟩
  rw [decide_eq_false (fun h => hlen (by rw [h]))]
 have hl : (l1.length : Int) = (l2.length : Int) := by omega
 refine zaa ?_
 refine hK1 _ _ ?_; try clear hK1 K1
 refine wp_cond_false (by simp [qed, hN, hl]) ?_
 refine wp_skip ?_
 refine hK0 _ _ ?_; try clear hK0 K0
 refine qsk fun K0 hK0 => ?_; refine qsr fun K1 hK1 => ?_
 (repeat ((first | ((with_reducible refine zaw ?_ ?_ ?_ ?_); (· rfl); (· simp [qee, hN, h0] <;> omega); (· kernel_rfl)) | ((with_reducible refine qlS ?_ ?_ ?_); (· simp [qed, hN, h0]); (· kernel_rfl))); try simp only [qeb, hN, seval, h0]))
 refine zaa ?_
 refine hK1 _ _ ?_; try clear hK1 K1
 refine wp_block ?_
 refine wp_loop (fun a' w' => ∃ i : Nat, i ≤ l1.length ∧ a'.tmps.size = 26 ∧ a'.defers = [] ∧ get a' 0 = .slice o1 l1.length c1 ∧ get a' 1 = .slice o2 l2.length c2 ∧ get a' 12 = .int .i64 l1.length ∧ get a' 13 = .int .i64 i ∧ l1.take i = l2.take i ∧ Chg (fun _ => False) w w')
  (fun a' _ => l1.length - (intOf (get a' 13)).toNat) ?_ ?_
 ·exact ⟨0, by omega, by simp only [qea, hN, seval], by simp [zab, hD], by simp only [qea, hN, seval, h0], by simp only [qea, hN, seval, hh1], by simp only [qea, hN, seval], by simp only [qea, hN, seval] <;> rfl, by simp, Chg.refl _ _⟩
 clear hN hD h0 hh1
 rintro a1 w1 ⟨i, hi, hN, hD, h0, hh1, g12, g13, htk, hc⟩
 refine qsr fun K2 hK2 => ?_; (repeat ((first | ((with_reducible refine zaw ?_ ?_ ?_ ?_); (· rfl); (· simp [qee, hN, g12, g13] <;> omega); (· kernel_rfl)) | ((with_reducible refine qlS ?_ ?_ ?_); (· simp [qed, hN, g12, g13]); (· kernel_rfl))); try simp only [qeb, hN, seval, g12, g13]))
 by_cases hlt : i < l1.length
 case neg =>
  have e : i = l1.length := by omega
  subst e
  have e1 : decide ((l1.length : Int) < (l1.length : Int)) = false := decide_eq_false (by omega)
  rw [e1]
  refine zaa ?_
  refine hK2 _ _ ?_; try clear hK2 K2
  refine qsk fun K3 hK3 => ?_
  refine wp_cond_false (by simp [qed, hN]) ?_
  refine wp_exit ?_
  simp only [Exit.then, Exit.inBlock, if_pos]
  refine hK0 _ _ ?_; try clear hK0 K0
  (repeat (first | (with_reducible refine wp_seq_k (fun K hK => ?_)) | (with_reducible refine wp_block ?_) | ((with_reducible refine zax ?_); (repeat (first | ((with_reducible refine zaw ?_ ?_ ?_ ?_); (· exact rfl); (· simp [qee, hN, zac] <;> omega); (· kernel_rfl); try simp only [qeb, hN, seval, zac]) | ((with_reducible refine qlS ?_ ?_ ?_); (· simp [qed, hN, zac]); (· kernel_rfl); try simp only [qeb, hN, seval, zac]) | ((with_reducible first | refine zaC ?_ ?_ ?_ | refine zaB ?_ ?_ ?_ | refine zaD ?_ ?_) <;> (first | (with_reducible refine zau ?_; try simp only [qeb, hN, seval, zac]) | (simp [qed, hN, zac] <;> omega))) | ((with_reducible refine zao ?_ ?_); (· simp [qed, hN, zac]); try simp only [qeb, hN, seval, zac]) | ((with_reducible refine zan ?_ ?_); (· simp [qed, hN, zac]); try simp only [qeb, hN, seval, zac]) | ((with_reducible apply zak); (· exact rfl); (· exact rfl); (· simp [qed, hN, zac]); try simp only [qeb, hN, seval, zac]) | ((with_reducible apply zas); (· exact rfl); (· exact rfl); (· simp [qed, hN, zac]); try simp only [qeb, hN, seval, zac]) | ((with_reducible apply zat); (· exact rfl); (· exact rfl); (· simp [qed, hN, zac]); try simp only [qeb, hN, seval, zac]))); (refine zaa ?_)) | ((with_reducible refine wp_cond_true ?_ ?_); (· simp [qed, hN])) | ((with_reducible refine wp_cond_false ?_ ?_); (· simp [qed, hN])) | (with_reducible refine wp_skip ?_) | (refine hK _ _ ?_; clear hK K)))
  refine wp_ret ⟨by simp [zab, hD], ?_⟩; simp only [qea, hN, seval]
  refine ⟨?_, hc⟩
  rw [List.take_length, hlen, List.take_length] at htk
  rw [decide_eq_true htk]
 have e1 : decide ((i : Int) < (l1.length : Int)) = true := decide_eq_true (by omega)
 rw [e1]
 refine zaa ?_
 refine hK2 _ _ ?_; try clear hK2 K2
 refine qsk fun K3 hK3 => ?_
 refine wp_cond_true (by simp [qed, hN]) ?_
 refine wp_skip ?_
 refine hK3 _ _ ?_; try clear hK3 K3
 refine qsk fun K4 hK4 => ?_
 refine wp_block ?_
 refine qsr fun K5 hK5 => ?_; (repeat ((first | ((with_reducible refine zaw ?_ ?_ ?_ ?_); (· rfl); (· simp [qee, hN, g13] <;> omega); (· kernel_rfl)) | ((with_reducible refine qlS ?_ ?_ ?_); (· simp [qed, hN, g13]); (· kernel_rfl))); try simp only [qeb, hN, seval, g13]))
 refine zaa ?_
 refine hK5 _ _ ?_; try clear hK5 K5
 refine qsk fun K6 hK6 => ?_
 obtain ⟨b1, p1, cs1, T1, rfl, _, hb1, hv1⟩ := h1.row hlt
 obtain ⟨b2, p2, cs2, T2, rfl, _, hb2, hv2⟩ := h2.row (by omega : i < l2.length)
 refine wp_sched (fun w' => Chg (fun _ => False) w w') [(true, 0), (true, 1), (true, 2), (true, 3), (true, 4), (true, 5), (true, 6), (true, 7), (true, 8)] zaR (by kernel_rfl) (by kernel_rfl) (hc.trans (Chg.drew _ _) fun _ _ h => h) ?_
 refine zbf rfl ?_
 refine zbf rfl ?_
 simp only [qea, hN, seval, h0]
 refine ws_indexAddr (b := b1) (o := p1) (k := .i64) (j := i) (n := 1) (len := l1.length) (cap := c1) (by kernel_rfl) rfl (by simp [qed, hN]) (by simp [qed, hN]) hlt ?_
 refine ws_load_r (b := b1) (o := p1 + i * 1) (by kernel_rfl) rfl (by simp [qed, hN]) (fun w' hw => hb1.chg hw (fun h => h)) (by rw [Nat.mul_one]; exact hv1) ?_
 refine zbf rfl ?_
 refine zbf rfl ?_
 simp only [qea, hN, seval, hh1]
 refine ws_indexAddr (b := b2) (o := p2) (k := .i64) (j := i) (n := 1) (len := l2.length) (cap := c2) (by kernel_rfl) rfl (by simp [qed, hN]) (by simp [qed, hN]) (by omega) ?_
 refine ws_load_r (b := b2) (o := p2 + i * 1) (by kernel_rfl) rfl (by simp [qed, hN]) (fun w' hw => hb2.chg hw (fun h => h)) (by rw [Nat.mul_one]; exact hv2) ?_
 refine ws_neq rfl (by simp [qed, hN, zaQ]) ?_
 simp only [qea, hN, seval, zaQ]
 refine ws_nil ?_
 refine hK6 _ _ ?_; try clear hK6 K6
 have hc2 : Chg (fun _ => False) w w1.drew := hc.trans (Chg.drew _ _) fun _ _ h => h
 by_cases hq : l1[i] = l2[i]
 case neg =>
  have e2 : (((l1[i].toNat : Nat) : Int) != ((l2[i].toNat : Nat) : Int)) = true := by
   have : ¬ ((l1[i].toNat : Int) = (l2[i].toNat : Int)) := fun h => hq (byteV_inj.1 h)
   simpa using this
  refine wp_cond_true (by simp [qed, hN, e2]) ?_
  (repeat (first | (with_reducible refine wp_seq_k (fun K hK => ?_)) | (with_reducible refine wp_block ?_) | ((with_reducible refine zax ?_); (repeat (first | ((with_reducible refine zaw ?_ ?_ ?_ ?_); (· exact rfl); (· simp [qee, hN, zac] <;> omega); (· kernel_rfl); try simp only [qeb, hN, seval, zac]) | ((with_reducible refine qlS ?_ ?_ ?_); (· simp [qed, hN, zac]); (· kernel_rfl); try simp only [qeb, hN, seval, zac]) | ((with_reducible first | refine zaC ?_ ?_ ?_ | refine zaB ?_ ?_ ?_ | refine zaD ?_ ?_) <;> (first | (with_reducible refine zau ?_; try simp only [qeb, hN, seval, zac]) | (simp [qed, hN, zac] <;> omega))) | ((with_reducible refine zao ?_ ?_); (· simp [qed, hN, zac]); try simp only [qeb, hN, seval, zac]) | ((with_reducible refine zan ?_ ?_); (· simp [qed, hN, zac]); try simp only [qeb, hN, seval, zac]) | ((with_reducible apply zak); (· exact rfl); (· exact rfl); (· simp [qed, hN, zac]); try simp only [qeb, hN, seval, zac]) | ((with_reducible apply zas); (· exact rfl); (· exact rfl); (· simp [qed, hN, zac]); try simp only [qeb, hN, seval, zac]) | ((with_reducible apply zat); (· exact rfl); (· exact rfl); (· simp [qed, hN, zac]); try simp only [qeb, hN, seval, zac]))); (refine zaa ?_)) | ((with_reducible refine wp_cond_true ?_ ?_); (· simp [qed, hN])) | ((with_reducible refine wp_cond_false ?_ ?_); (· simp [qed, hN])) | (with_reducible refine wp_skip ?_) | (refine hK _ _ ?_; clear hK K)))
  refine wp_ret ⟨by simp [zab, hD], ?_⟩; simp only [qea, hN, seval]
  refine ⟨?_, hc2⟩
  rw [decide_eq_false]
  intro h
  subst h
  exact hq rfl
 have e2 : (((l1[i].toNat : Nat) : Int) != ((l2[i].toNat : Nat) : Int)) = false := by rw [hq]; simp
 refine wp_cond_false (by simp [qed, hN, e2]) ?_
 refine wp_skip ?_
 simp only [Exit.then, Exit.inBlock]
 refine hK4 _ _ ?_; try clear hK4 K4
 refine zax ?_
 (repeat ((first | ((with_reducible refine zaw ?_ ?_ ?_ ?_); (· rfl); (· simp [qee, hN, g13] <;> omega); (· kernel_rfl)) | ((with_reducible refine qlS ?_ ?_ ?_); (· simp [qed, hN, g13]); (· kernel_rfl))); try simp only [qeb, hN, seval, g13]))
 rw [zbi ((i : Int) + 1) (by unfold LIM at hlim; omega)]
 refine zaa ⟨⟨i + 1, by omega, by simp only [qea, hN, seval], by simp [zab, hD], by simp only [qea, hN, seval, h0], by simp only [qea, hN, seval, hh1], by simp only [qea, hN, seval, g12], by simp only [qea, hN, seval] <;> rfl, ?_, hc2⟩, ?_⟩
 ·rw [List.take_add_one, List.take_add_one, htk]
  have a1 : l1[i]? = some l1[i] := by simp [hlt]
  have a2 : l2[i]? = some l2[i] := by simp
  rw [a1, a2, hq]
 ·simp only [qea, hN, seval, g13, intOf]
  omega

set_option maxHeartbeats 1000000
theorem sKnown_step (fs : List Fld) (i m : Nat) (f : Fld) (h : fs[i]? = some f) : zbn (fs.drop i) m = zbn (fs.drop (i + 1)) (if 0 ≤ f.tag then max m (f.tag.toNat + 1) else m) := by
 have hi := (List.getElem?_eq_some_iff.1 h).1
 rw [List.drop_eq_getElem_cons hi]
 have : fs[i] = f := (List.getElem?_eq_some_iff.1 h).2
 rw [this]
 rfl
def TagsSmall (fs : List Fld) : Prop := ∀ f ∈ fs, f.tag < 1073741824
def zFld : List Value := [.int .i64 0, .int .i64 0, .int .i64 0, .int .i64 0, .int .i64 0, .int .i64 0, .int .i64 0, .slice none 0 0]
theorem SchS.get {w : World} {G : Nat → Prop} {fs : List Fld} {oa : Option Addr} {n cap i : Nat} {f : Fld} (h : SchS w G fs (.slice oa n cap)) (hf : fs[i]? = some f) :
  ∃ b cs T, oa = some ⟨b, 0, none⟩ ∧ n = fs.length ∧ G b ∧ Blk w b cs T ∧ SchF w G f ((cs.drop (i * 8)).take 8) ∧ i * 8 + 8 ≤ cs.length := by
 obtain ⟨oa', cap', h1, h2⟩ := h
 simp at h1
 obtain ⟨rfl, rfl, rfl⟩ := h1
 rcases h2 with rfl | ⟨b, cs, T, h3, h4, h5, h6⟩
 ·simp at hf
 ·obtain ⟨k1, k2⟩ := h6.get hf
  exact ⟨b, cs, T, h3, rfl, h4, h5, k1, k2⟩
theorem known_c (fs : List Fld) (hlen : fs.length ≤ 1073741824) (hsm : TagsSmall fs) {w : World} {G : Nat → Prop} {oa : Option Addr} {cap : Nat} (hv : SchS w G fs (.slice oa fs.length cap)) :
  zaF Tryz.prog 35 #[.slice oa fs.length cap] w fun r w' => r = .int .u32 (zbn fs 0) ∧ zbn fs 0 ≤ 1073741824 ∧ Chg (fun _ => False) w w' := by
 refine zaq Tryz.func35 rfl rfl Tryz.ntmps35 (by simp) ?_
 intro a hN hD ha
 have h0 : get a 0 = .slice oa fs.length cap := ha 0 _ rfl
 refine qsr fun K hK => ?_; (repeat ((first | ((with_reducible refine zaw ?_ ?_ ?_ ?_); (· rfl); (· simp [qee, hN] <;> omega); (· kernel_rfl)) | ((with_reducible refine qlS ?_ ?_ ?_); (· simp [qed, hN]); (· kernel_rfl))); try simp only [qeb, hN, seval])); refine zaa (hK _ _ ?_); clear hK K
 refine qsr fun K hK => ?_; (repeat ((first | ((with_reducible refine zaw ?_ ?_ ?_ ?_); (· rfl); (· simp [qee, hN] <;> omega); (· kernel_rfl)) | ((with_reducible refine qlS ?_ ?_ ?_); (· simp [qed, hN]); (· kernel_rfl))); try simp only [qeb, hN, seval])); refine zaa (hK _ _ ?_); clear hK K
 refine qsk fun K0 hK0 => ?_; refine qsr fun K hK => ?_
 (repeat ((first | ((with_reducible refine zaw ?_ ?_ ?_ ?_); (· rfl); (· simp [qee, hN, h0] <;> omega); (· kernel_rfl)) | ((with_reducible refine qlS ?_ ?_ ?_); (· simp [qed, hN, h0]); (· kernel_rfl))); try simp only [qeb, hN, seval, h0]))
 refine zaa (hK _ _ ?_); clear hK K
 refine wp_range (n := fs.length) (fun i a' w' => ∃ m : Nat, a'.tmps.size = 23 ∧ a'.defers = [] ∧ get a' 6 = .slice oa fs.length cap ∧ get a' 3 = .int .u32 m ∧ m ≤ 1073741824 ∧ zbn (fs.drop i) m = zbn fs 0 ∧ Chg (fun k => w.heap.size ≤ k) w w') 23 (by omega)
  (by simp only [qea, hN, seval]) (by simp only [qea, hN, seval]) ⟨0, by simp only [qea, hN, seval], by simp [zab, hD], by simp only [qea, hN, seval, h0], (by simp only [qea, hN, seval]; try rfl), by omega, rfl, Chg.refl _ _⟩ ?_ ?_ (by decide) ?_ ?_
 ·rintro i a w ⟨m, h, _⟩; exact h
 ·rintro i a w t v ht ⟨m, k1, k2, k3, k4, k5⟩
  rcases ht with rfl | rfl | rfl <;> exact ⟨m, by rw [zag]; exact k1, by rw [zab]; exact k2, by rw [zae (by decide)]; exact k3, by rw [zae (by decide)]; exact k4, k5⟩
 ·clear hN hD
  rintro i a1 w1 hi ⟨m, hN, hD, g6, g3, hm, hk, hc⟩ g7 g8
  have hf : fs[i]? = some fs[i] := by simp [hi]
  obtain ⟨b, cs, T, rfl, _, hG, hb, hfc, hl⟩ := hv.get hf
  generalize hff : fs[i] = f at hf hfc
  have hmem : f ∈ fs := by rw [← hff]; exact List.getElem_mem hi
  have ht := hsm f hmem
  obtain ⟨_, c0, c1, c2, c3, c4, c5, c6, _⟩ := hfc.cells
  have hb1 := hb.chg hc (by have := hb.lt; omega)
  refine qsr fun K hK => ?_
  refine zaT (b := b) (o := 0) (k := .i64) (i := i) (n := 8) (len := fs.length) (cap := cap) (by kernel_rfl) (by simp [qed, hN, g6]) (by simp [qed, hN, g8]) hi ?_
  refine za7 (b := b) (o := 0 + i * 8) (n := 8) (by kernel_rfl) (by kernel_rfl) (by simp [qed, hN]) hb1 (by omega) ?_
  rw [Nat.zero_add]
  refine wl_allocA (z := zaZ zFld) (fun w => Tryz.zeroValue48 w) fun w2 hc2 hb2 hs2 => ?_
  refine zbh (b := w1.heap.size) (n := 8) (l' := ((cs.drop (i * 8)).take 8)) (by kernel_rfl) (by simp [qed, hN]) (by simp [qed, hN]; rfl) hb2 hfc.len hfc.one rfl fun w3 hb3 hc3 => ?_
  have hc4 : Chg (fun k => w.heap.size ≤ k) w w3 := (hc.trans hc2 fun _ _ h => h.elim).trans hc3 fun n hn h => by have := hc.size; omega
  refine zaa (hK _ _ ?_); clear hK K
  refine qsr fun K hK => ?_
  with_reducible refine zay (b := w1.heap.size) (off := 4) (n := 1) ?_ ?_ ?_; (· kernel_rfl); (· simp [qed, hN])
  with_reducible refine zaK (b := w1.heap.size) (o := 4) ?_ ?_ hb3 c4 ?_; (· kernel_rfl); (· simp [qed, hN])
  (repeat ((first | ((with_reducible refine zaw ?_ ?_ ?_ ?_); (· rfl); (· simp [qee, hN] <;> omega); (· kernel_rfl)) | ((with_reducible refine qlS ?_ ?_ ?_); (· simp [qed, hN]); (· kernel_rfl))); try simp only [qeb, hN, seval]))
  have hstep := sKnown_step fs i m f hf
  by_cases hneg : 0 ≤ f.tag
  ·rw [if_pos hneg] at hstep
   refine zaa (hK _ _ ?_)
   refine wp_cond_true (by simp [qed, hN, hneg]) ?_
   clear hK K
   refine zax ?_
   (repeat ((first | ((with_reducible refine zaw ?_ ?_ ?_ ?_); (· rfl); (· simp [qee, hN, g3] <;> omega); (· kernel_rfl)) | ((with_reducible refine qlS ?_ ?_ ?_); (· simp [qed, hN, g3]); (· kernel_rfl))); try simp only [qeb, hN, seval, g3]))
   with_reducible refine zay (b := w1.heap.size) (off := 4) (n := 1) ?_ ?_ ?_; (· kernel_rfl); (· simp [qed, hN])
   with_reducible refine zaK (b := w1.heap.size) (o := 4) ?_ ?_ hb3 c4 ?_; (· kernel_rfl); (· simp [qed, hN])
   (repeat ((first | ((with_reducible refine zaw ?_ ?_ ?_ ?_); (· rfl); (· simp [qee, hN] <;> omega); (· kernel_rfl)) | ((with_reducible refine qlS ?_ ?_ ?_); (· simp [qed, hN]); (· kernel_rfl))); try simp only [qeb, hN, seval]))
   have e1 : IntKind.u32.wrap (IntKind.u32.wrap f.tag + 1) = ((f.tag.toNat + 1 : Nat) : Int) := by
    rw [IntKind.wrap_u32, IntKind.wrap_u32]; omega
   rw [e1]
   (repeat (first | ((with_reducible refine zaw ?_ ?_ ?_ ?_); (· exact rfl); (· simp [qee, hN, g3, zac] <;> omega); (· kernel_rfl); try simp only [qeb, hN, seval, g3, zac]) | ((with_reducible refine qlS ?_ ?_ ?_); (· simp [qed, hN, g3, zac]); (· kernel_rfl); try simp only [qeb, hN, seval, g3, zac]) | ((with_reducible first | refine zaC ?_ ?_ ?_ | refine zaB ?_ ?_ ?_ | refine zaD ?_ ?_) <;> (first | (with_reducible refine zau ?_; try simp only [qeb, hN, seval, g3, zac]) | (simp [qed, hN, g3, zac] <;> omega))) | ((with_reducible refine zao ?_ ?_); (· simp [qed, hN, g3, zac]); try simp only [qeb, hN, seval, g3, zac]) | ((with_reducible refine zan ?_ ?_); (· simp [qed, hN, g3, zac]); try simp only [qeb, hN, seval, g3, zac]) | ((with_reducible apply zak); (· exact rfl); (· exact rfl); (· simp [qed, hN, g3, zac]); try simp only [qeb, hN, seval, g3, zac]) | ((with_reducible apply zas); (· exact rfl); (· exact rfl); (· simp [qed, hN, g3, zac]); try simp only [qeb, hN, seval, g3, zac]) | ((with_reducible apply zat); (· exact rfl); (· exact rfl); (· simp [qed, hN, g3, zac]); try simp only [qeb, hN, seval, g3, zac])))
   have e2 : (if ((f.tag.toNat + 1 : Nat) : Int) > (m : Int) then ((f.tag.toNat + 1 : Nat) : Int) else (m : Int)) = ((max m (f.tag.toNat + 1) : Nat) : Int) := by
    split <;> omega
   rw [e2]
   refine zaa ⟨⟨max m (f.tag.toNat + 1), by simp only [qea, hN, seval], by simp [zab, hD], by simp only [qea, hN, seval, g6], by simp only [qea, hN, seval], by omega, by rw [← hstep]; exact hk, hc4⟩, by simp only [qea, hN, seval, g7], by simp only [qea, hN, seval, g8]⟩
  ·rw [if_neg hneg] at hstep
   refine zaa (hK _ _ ?_)
   refine wp_cond_false (by simp [qed, hN, hneg]) ?_
   refine wp_skip ⟨⟨m, by simp only [qea, hN, seval], by simp [zab, hD], by simp only [qea, hN, seval, g6], by simp only [qea, hN, seval, g3], hm, by rw [← hstep]; exact hk, hc4⟩, by simp only [qea, hN, seval, g7], by simp only [qea, hN, seval, g8]⟩
 ·clear hN hD
  rintro a1 w1 ⟨m, hN, hD, g6, g3, hm, hk, hc⟩
  refine hK0 _ _ ?_; try clear hK0 K0
  (repeat (first | (with_reducible refine wp_seq_k (fun K hK => ?_)) | (with_reducible refine wp_block ?_) | ((with_reducible refine zax ?_); (repeat (first | ((with_reducible refine zaw ?_ ?_ ?_ ?_); (· exact rfl); (· simp [qee, hN, g3, zac] <;> omega); (· kernel_rfl); try simp only [qeb, hN, seval, g3, zac]) | ((with_reducible refine qlS ?_ ?_ ?_); (· simp [qed, hN, g3, zac]); (· kernel_rfl); try simp only [qeb, hN, seval, g3, zac]) | ((with_reducible first | refine zaC ?_ ?_ ?_ | refine zaB ?_ ?_ ?_ | refine zaD ?_ ?_) <;> (first | (with_reducible refine zau ?_; try simp only [qeb, hN, seval, g3, zac]) | (simp [qed, hN, g3, zac] <;> omega))) | ((with_reducible refine zao ?_ ?_); (· simp [qed, hN, g3, zac]); try simp only [qeb, hN, seval, g3, zac]) | ((with_reducible refine zan ?_ ?_); (· simp [qed, hN, g3, zac]); try simp only [qeb, hN, seval, g3, zac]) | ((with_reducible apply zak); (· exact rfl); (· exact rfl); (· simp [qed, hN, g3, zac]); try simp only [qeb, hN, seval, g3, zac]) | ((with_reducible apply zas); (· exact rfl); (· exact rfl); (· simp [qed, hN, g3, zac]); try simp only [qeb, hN, seval, g3, zac]) | ((with_reducible apply zat); (· exact rfl); (· exact rfl); (· simp [qed, hN, g3, zac]); try simp only [qeb, hN, seval, g3, zac]))); (refine zaa ?_)) | ((with_reducible refine wp_cond_true ?_ ?_); (· simp [qed, hN, g3])) | ((with_reducible refine wp_cond_false ?_ ?_); (· simp [qed, hN, g3])) | (with_reducible refine wp_skip ?_) | (refine hK _ _ ?_; clear hK K)))
  refine wp_ret ⟨by simp [zab, hD], ?_⟩; simp only [qea, hN, seval]
  rw [List.drop_length] at hk
  simp only [zbn] at hk
  rw [← hk]
  exact ⟨by simp only [qea, hN, seval, g3], hm, chg_own hc⟩
set_option maxRecDepth 10000
def appB (P : Program) (t e size : Nat) : Bool := match P.underlying t with
 | some (.slice e') => e' == e && (match P.info? e with | some i => i.size == size && decide (0 < size) && decide (i.bytes ≤ 1024) && (match i.zero with | some z => z.cells.size == size | none => false) | none => false)
 | _ => false
theorem appB_out {P : Program} {t e size : Nat} (h : appB P t e size = true) : P.underlying t = some (.slice e) ∧ ∃ i z, P.info? e = some i ∧ i.zero = some z ∧ i.size = size ∧ i.bytes ≤ 1024 ∧ z.cells.size = size ∧ 0 < size := by
 unfold appB at h
 split at h
 ·rename_i e' he
  simp only [Bool.and_eq_true, beq_iff_eq] at h
  obtain ⟨rfl, h⟩ := h
  refine ⟨he, ?_⟩
  split at h
  ·rename_i i hi
   simp only [Bool.and_eq_true, beq_iff_eq, decide_eq_true_eq] at h
   obtain ⟨⟨⟨h1, h2⟩, h3⟩, h4⟩ := h
   split at h4
   ·rename_i z hz
    exact ⟨i, z, hi, hz, h1, h3, by simpa using h4, h2⟩
   ·cases h4
  ·cases h
 ·cases h
section
variable {P : Program} {ops : Array Oper} {Q : Exit → Act → World → Prop} {a : Act} {w : World} {rest : List Oper} {d : Option Nat} {ty : TypeId} {pos : String} {af : Array Edge}
theorem wl_appRow {t e size : Nat} (hB : appB P t e size = true) {x y : Operand} {base n m c b : Nat} {v : Value} {xs news : List Value} {T : TypeId} (hx : a.eval x = v) (hown : w.ownsRow base e size v n xs) (hy : a.eval y = .slice (some ⟨b, 0, none⟩) m c)
  (hb : Blk w b news T) (hl : news.length = m * size) (h1 : ∀ u ∈ news, u.oneCell' = true) (hm : 0 < m) (hn : n + m ≤ 1073741824) (hbase : base ≤ w.heap.size)
  (h : ∀ g cap w', w'.ownsRow base e size (.slice (some ⟨g, 0, none⟩) (n + m) cap) (n + m) (xs ++ news) → Chg (fun k => v.ownBlock = some k) w w' → (v.ownBlock = some g ∨ w.heap.size ≤ g) → g < w'.heap.size → WL P ops Q rest (a.put d (.slice (some ⟨g, 0, none⟩) (n + m) cap)) w') :
  WL P ops Q (⟨d, .call { callee := .builtin .append, args := #[x, y], argTypes := #[t, t] }, ty, pos, af, none⟩ :: rest) a w := by
 obtain ⟨ht, i, z, hi, hz, hs, hby, hzs, h0⟩ := appB_out hB
 have hcell : ∀ j u, news[j]? = some u → w.cell? ((⟨b, 0, none⟩ : Addr).add j) = some u := by
  intro j u hu
  have := hb.ld (i := j) hu
  have h2 := this.2
  have h1 := this.1
  simp only [ldV, ldOK] at h1 h2
  simp only [add_lit, Nat.zero_add]
  obtain ⟨c0, hc0⟩ := Option.isSome_iff_exists.1 h2
  rw [hc0] at h1 ⊢
  simpa using h1
 have hbytes : (n + m) * i.bytes ≤ 140737488355328 := by
  have := Nat.mul_le_mul hn hby
  omega
 obtain ⟨g, cap, w', hr, k1, k2, k3, k4⟩ := run_append_lies (P := P) w t ty base e i z size i.bytes ht hi hz hs rfl hzs h0 v n xs hown ⟨b, 0, none⟩ m c news hl hcell h1 hm (by unfold maxLen; omega) hbytes hbase w.heap.size rfl
 refine zaL rfl (by simp [execOp, resolve, invoke, builtin, hx, hy, hr]) (h g cap w' k1 ((Chg.ofGrown k2).mono fun k _ hk => hk.symm) ?_ k4)
 rcases k3 with k3 | k3
 ·exact .inl k3
 ·exact .inr (Nat.le_of_eq k3.symm)
theorem wl_lit1 {t e sz : Nat} {z : Value} {x : Operand} {l : List Value} (ht : P.underlying t = some (.slice e)) (hs : sizeB P e sz = true) (hz : zeroB P e z) (hx : a.eval x = zaZ l) (hl : l.length = sz) (hn : sz ≤ 16777216) (h0 : 0 < sz)
  (h : ∀ w', Chg (fun _ => False) w w' → Blk w' w.heap.size l e → w'.heap.size = w.heap.size + 1 → WL P ops Q rest (a.put d (.slice (some ⟨w.heap.size, 0, none⟩) 1 1)) w') :
  WL P ops Q (⟨d, .buildSlice t 1 #[(0, x)], ty, pos, af, none⟩ :: rest) a w := by
 have hc : (zaZ l).cells.toList = l := by simp [zaZ, Value.cells]
 have hr := run_buildSlice (P := P) (w := w) ht hs hz [zaZ l] (fun v hv => by simp only [List.mem_singleton] at hv; subst hv; rw [← Array.length_toList, hc]; exact hl) (by simpa using hn) h0
 have e1 : ([zaZ l].zipIdx.map fun y => (y.2, y.1)).toArray = #[(0, zaZ l)] := rfl
 have e2 : ([zaZ l].flatMap fun v => v.cells.toList) = l := by simp [hc]
 rw [e1, e2] at hr
 simp only [List.length_singleton] at hr
 refine zaL rfl (v := .slice (some ⟨w.heap.size, 0, none⟩) 1 1) (w' := w.alloc (.cells l.toArray e)) (by simp [execOp, hx, hr]) (h _ (Chg.alloc _ _ _) (Blk.new w l e) ?_)
 show (w.heap.push _).size = _
 rw [Array.size_push]
end
end Go.Proofs.YtnjjfpgpookjlaaGreatDoor

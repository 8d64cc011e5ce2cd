import Derived.Test.YtiohfpnpnofimaaZA
import Derived.Test.YtiohfpnpnofimaaZK
/-
What the proofs of the laws rest on, part ZS.
-/
namespace Go.Proofs.Ytiohfpnpnofimaa
set_option linter.all false
open Go.RowKit
set_option maxRecDepth 10000
def kV (k : K) : Value := .int .i64 (zaC k)
mutual
def SchF (w : World) (G : Nat → Prop) : Fld → List Value → Prop
  | .mk k fr to nl tg df of sub, vs => ∃ oa cap, vs = [kV k, .int .i64 fr, .int .i64 to, .int .i64 nl, .int .i64 tg, .int .i64 df, kV of, .slice oa sub.length cap] ∧
      (sub = [] ∨ ∃ b cs T, oa = some ⟨b, 0, none⟩ ∧ G b ∧ Blk w b cs T ∧ SchL w G sub cs)
def SchL (w : World) (G : Nat → Prop) : List Fld → List Value → Prop
  | [], _ => True
  | f :: r, vs => SchF w G f (vs.take 8) ∧ SchL w G r (vs.drop 8)
end
def SchS (w : World) (G : Nat → Prop) (fs : List Fld) (v : Value) : Prop :=
  ∃ oa cap, v = .slice oa fs.length cap ∧ (fs = [] ∨ ∃ b cs T, oa = some ⟨b, 0, none⟩ ∧ G b ∧ Blk w b cs T ∧ SchL w G fs cs)
def TgC (w : World) (G : Nat → Prop) (x : Nat × Bs) (vs : List Value) : Prop :=
  ∃ ob cb, vs = [.int .u32 x.1, .slice ob x.2.length cb] ∧ x.1 < 4294967296 ∧ x.2.length ≤ cb ∧ zaH w G ob x.2
def TgL (w : World) (G : Nat → Prop) : Tags → List Value → Prop
  | [], _ => True
  | x :: r, vs => TgC w G x (vs.take 2) ∧ TgL w G r (vs.drop 2)
def TgS (w : World) (G : Nat → Prop) (t : Tags) (v : Value) : Prop :=
  ∃ oa cap, v = .slice oa t.length cap ∧ t.length ≤ cap ∧ (t = [] ∨ ∃ b o cs T, oa = some ⟨b, o, none⟩ ∧ G b ∧ Rbk w b cs T ∧ TgL w G t (cs.drop o))
mutual
def TrC (w : World) (G : Nat → Prop) : Tr → List Value → Prop
  | .mk n b nil l t, vs => ∃ ob cb ol cl vt, vs = [.int .i64 n, .slice ob b.length cb, .bool nil, .slice ol l.length cl, vt] ∧ IntKind.i64.wrap n = n ∧ b.length ≤ cb ∧ l.length ≤ cl ∧
      zaH w G ob b ∧ (l = [] ∨ ∃ g o cs T, ol = some ⟨g, o, none⟩ ∧ G g ∧ Rbk w g cs T ∧ TrL w G l (cs.drop o)) ∧ TgS w G t vt
def TrL (w : World) (G : Nat → Prop) : List Tr → List Value → Prop
  | [], _ => True
  | x :: r, vs => TrC w G x (vs.take 5) ∧ TrL w G r (vs.drop 5)
end
def TrS (w : World) (G : Nat → Prop) (l : List Tr) (v : Value) : Prop :=
  ∃ ol cl, v = .slice ol l.length cl ∧ l.length ≤ cl ∧ (l = [] ∨ ∃ g o cs T, ol = some ⟨g, o, none⟩ ∧ G g ∧ Rbk w g cs T ∧ TrL w G l (cs.drop o))
section
variable {w w' : World} {G G' : Nat → Prop} (st : Stay w w' G G')
include st
theorem TgL.stay : ∀ {t : Tags} {vs : List Value}, TgL w G t vs → TgL w' G' t vs
  | [], _, _ => trivial
  | x :: r, vs, ⟨⟨ob, cb, h1, h2, h3, h4⟩, h5⟩ => ⟨⟨ob, cb, h1, h2, h3, h4.stay st⟩, TgL.stay h5⟩
theorem TgS.stay {t : Tags} {v : Value} (h : TgS w G t v) : TgS w' G' t v := by
  obtain ⟨oa, cap, h1, h2, h3⟩ := h
  refine ⟨oa, cap, h1, h2, ?_⟩
  rcases h3 with h3 | ⟨b, o, cs, T, h4, h5, h6, h7⟩
  · exact .inl h3
  · exact .inr ⟨b, o, cs, T, h4, (st.heap b h6.lt h5).2, h6.stay st h5, h7.stay st⟩
end
mutual
theorem SchF.stay {w w' : World} {G G' : Nat → Prop} (st : Stay w w' G G') : ∀ {f : Fld} {vs : List Value}, SchF w G f vs → SchF w' G' f vs
  | .mk k fr to nl tg df of sub, vs, h => by
    unfold SchF at h ⊢
    obtain ⟨oa, cap, h1, h2⟩ := h
    refine ⟨oa, cap, h1, ?_⟩
    rcases h2 with h2 | ⟨b, cs, T, h4, h5, h6, h7⟩
    · exact .inl h2
    · exact .inr ⟨b, cs, T, h4, (st.heap b h6.lt h5).2, h6.stay st h5, SchL.stay st h7⟩
theorem SchL.stay {w w' : World} {G G' : Nat → Prop} (st : Stay w w' G G') : ∀ {fs : List Fld} {vs : List Value}, SchL w G fs vs → SchL w' G' fs vs
  | [], _, _ => by unfold SchL; trivial
  | f :: r, vs, h => by unfold SchL at h ⊢; exact ⟨SchF.stay st h.1, SchL.stay st h.2⟩
end
mutual
theorem TrC.stay {w w' : World} {G G' : Nat → Prop} (st : Stay w w' G G') : ∀ {v : Tr} {vs : List Value}, TrC w G v vs → TrC w' G' v vs
  | .mk n b nil l t, vs, h => by
    unfold TrC at h ⊢
    obtain ⟨ob, cb, ol, cl, vt, h1, h0, h2, h3, h4, h5, h6⟩ := h
    refine ⟨ob, cb, ol, cl, vt, h1, h0, h2, h3, h4.stay st, ?_, h6.stay st⟩
    rcases h5 with h5 | ⟨g, o, cs, T, k4, k5, k6, k7⟩
    · exact .inl h5
    · exact .inr ⟨g, o, cs, T, k4, (st.heap g k6.lt k5).2, k6.stay st k5, TrL.stay st k7⟩
theorem TrL.stay {w w' : World} {G G' : Nat → Prop} (st : Stay w w' G G') : ∀ {l : List Tr} {vs : List Value}, TrL w G l vs → TrL w' G' l vs
  | [], _, _ => by unfold TrL; trivial
  | f :: r, vs, h => by unfold TrL at h ⊢; exact ⟨TrC.stay st h.1, TrL.stay st h.2⟩
end
theorem SchS.stay {w w' : World} {G G' : Nat → Prop} (st : Stay w w' G G') {fs : List Fld} {v : Value} (h : SchS w G fs v) : SchS w' G' fs v := by
  obtain ⟨oa, cap, h1, h2⟩ := h
  refine ⟨oa, cap, h1, ?_⟩
  rcases h2 with h2 | ⟨b, cs, T, h4, h5, h6, h7⟩
  · exact .inl h2
  · exact .inr ⟨b, cs, T, h4, (st.heap b h6.lt h5).2, h6.stay st h5, h7.stay st⟩
theorem TrS.stay {w w' : World} {G G' : Nat → Prop} (st : Stay w w' G G') {l : List Tr} {v : Value} (h : TrS w G l v) : TrS w' G' l v := by
  obtain ⟨oa, cap, h1, h0, h2⟩ := h
  refine ⟨oa, cap, h1, h0, ?_⟩
  rcases h2 with h2 | ⟨b, o, cs, T, h4, h5, h6, h7⟩
  · exact .inl h2
  · exact .inr ⟨b, o, cs, T, h4, (st.heap b h6.lt h5).2, h6.stay st h5, h7.stay st⟩
theorem TrC.len {w : World} {G : Nat → Prop} {v : Tr} {vs : List Value} (h : TrC w G v vs) : vs.length = 5 := by
  cases v; unfold TrC at h; obtain ⟨_, _, _, _, _, rfl, _⟩ := h; rfl
theorem SchF.len {w : World} {G : Nat → Prop} {f : Fld} {vs : List Value} (h : SchF w G f vs) : vs.length = 8 := by
  cases f; unfold SchF at h; obtain ⟨_, _, rfl, _⟩ := h; rfl
theorem SchL.get {w : World} {G : Nat → Prop} : ∀ {fs : List Fld} {vs : List Value} {i : Nat} {f : Fld}, SchL w G fs vs → fs[i]? = some f → SchF w G f ((vs.drop (i * 8)).take 8) ∧ i * 8 + 8 ≤ vs.length
  | [], _, i, f, _, hf => by simp at hf
  | g :: r, vs, i, f, h, hf => by
    unfold SchL at h
    cases i with
    | zero =>
      simp at hf; subst hf
      have := h.1.len
      rw [List.length_take] at this
      exact ⟨by simpa using h.1, by omega⟩
    | succ i =>
      have := SchL.get h.2 (by simpa using hf : r[i]? = some f)
      rw [List.drop_drop, List.length_drop] at this
      have e : (i + 1) * 8 = 8 + i * 8 := by omega
      rw [e]
      exact ⟨this.1, by omega⟩
theorem TrL.get {w : World} {G : Nat → Prop} : ∀ {l : List Tr} {vs : List Value} {i : Nat} {x : Tr}, TrL w G l vs → l[i]? = some x → TrC w G x ((vs.drop (i * 5)).take 5) ∧ i * 5 + 5 ≤ vs.length
  | [], _, i, f, _, hf => by simp at hf
  | g :: r, vs, i, f, h, hf => by
    unfold TrL at h
    cases i with
    | zero =>
      simp at hf; subst hf
      have := h.1.len
      rw [List.length_take] at this
      exact ⟨by simpa using h.1, by omega⟩
    | succ i =>
      have := TrL.get h.2 (by simpa using hf : r[i]? = some f)
      rw [List.drop_drop, List.length_drop] at this
      have e : (i + 1) * 5 = 5 + i * 5 := by omega
      rw [e]
      exact ⟨this.1, by omega⟩
theorem TrL.take {w : World} {G : Nat → Prop} : ∀ {l : List Tr} {vs : List Value} (n : Nat), TrL w G l vs → TrL w G (l.take n) vs
  | [], _, n, _ => by simp [TrL]
  | x :: r, vs, 0, _ => by simp [TrL]
  | x :: r, vs, n + 1, h => by
    unfold TrL at h
    rw [List.take_succ_cons]
    unfold TrL
    exact ⟨h.1, TrL.take n h.2⟩
theorem TgL.take {w : World} {G : Nat → Prop} : ∀ {l : Tags} {vs : List Value} (n : Nat), TgL w G l vs → TgL w G (l.take n) vs
  | [], _, n, _ => by simp [TgL]
  | x :: r, vs, 0, _ => by simp [TgL]
  | x :: r, vs, n + 1, h => ⟨h.1, TgL.take n h.2⟩
theorem TgL.get {w : World} {G : Nat → Prop} : ∀ {l : Tags} {vs : List Value} {i : Nat} {x : Nat × Bs}, TgL w G l vs → l[i]? = some x → TgC w G x ((vs.drop (i * 2)).take 2) ∧ i * 2 + 2 ≤ vs.length
  | [], _, i, f, _, hf => by simp at hf
  | g :: r, vs, i, f, h, hf => by
    cases i with
    | zero =>
      simp at hf; subst hf
      obtain ⟨ob, cb, h1, _⟩ := h.1
      have := congrArg List.length h1
      simp only [List.length_take, List.length_cons, List.length_nil] at this
      exact ⟨by simpa using h.1, by omega⟩
    | succ i =>
      have := TgL.get h.2 (by simpa using hf : r[i]? = some f)
      rw [List.drop_drop, List.length_drop] at this
      have e : (i + 1) * 2 = 2 + i * 2 := by omega
      rw [e]
      exact ⟨this.1, by omega⟩
theorem SchF.cells {w : World} {G : Nat → Prop} {f : Fld} {cs : List Value} (h : SchF w G f cs) :
    cs.length = 8 ∧ cs[0]? = some (kV f.kind) ∧ cs[1]? = some (.int .i64 f.from_) ∧ cs[2]? = some (.int .i64 f.to) ∧ cs[3]? = some (.int .i64 f.null) ∧ cs[4]? = some (.int .i64 f.tag) ∧ cs[5]? = some (.int .i64 f.dflt) ∧
      cs[6]? = some (kV f.of) ∧ ∃ v, cs[7]? = some v ∧ SchS w G f.sub v := by
  cases f
  unfold SchF at h
  obtain ⟨oa, cap, rfl, h2⟩ := h
  exact ⟨rfl, rfl, rfl, rfl, rfl, rfl, rfl, rfl, _, rfl, oa, cap, rfl, h2⟩
theorem TrC.cells {w : World} {G : Nat → Prop} {v : Tr} {cs : List Value} (h : TrC w G v cs) :
    cs.length = 5 ∧ cs[0]? = some (.int .i64 v.n) ∧ IntKind.i64.wrap v.n = v.n ∧ (∃ ob cb, cs[1]? = some (.slice ob v.b.length cb) ∧ v.b.length ≤ cb ∧ zaH w G ob v.b) ∧ cs[2]? = some (.bool v.nil) ∧
      (∃ x, cs[3]? = some x ∧ TrS w G v.l x) ∧ ∃ x, cs[4]? = some x ∧ TgS w G v.t x := by
  cases v
  unfold TrC at h
  obtain ⟨ob, cb, ol, cl, vt, rfl, h0, h2, h3, h4, h5, h6⟩ := h
  exact ⟨rfl, rfl, h0, ⟨ob, cb, rfl, h2, h4⟩, rfl, ⟨_, rfl, ol, cl, rfl, h3, h5⟩, _, rfl, h6⟩
end Go.Proofs.Ytiohfpnpnofimaa
namespace Go.Proofs.Ytiohfpnpnofimaa
set_option linter.all false
open Go.RowKit
set_option maxRecDepth 10000
set_option maxHeartbeats 1000000
theorem Stay.none {w w' : World} {G : Nat → Prop} (c : Chg (fun _ => False) w w') : Stay w w' G G := Stay.of c fun _ _ _ h => h
theorem has_c (f : Fld) (ver : Int) {w : World} {G : Nat → Prop} {cs : List Value} (hf : SchF w G f cs) :
    zaG Try.prog 30 #[zaO cs, .int .i64 ver] w fun v w' => v = .bool (f.has ver) ∧ Chg (fun _ => False) w w' := by
  obtain ⟨_, c0, c1, c2, c3, c4, c5, c6, _⟩ := hf.cells
  refine zaA Try.func30 rfl rfl Try.ntmps30 (by simp) ?_
  intro a hN hD ha
  have h0 : get a 0 = zaO _ := ha 0 _ rfl
  have h1 : get a 1 = .int .i64 ver := ha 1 _ rfl
  refine wp_seq_k fun K hK => ?_; refine zai ?_
  refine wl_boxA (by rw [zaj]; exact h0) fun w1 hc hb _ => ?_
  (repeat (first | ((with_reducible refine zaw ?_ ?_ ?_ ?_); (· exact rfl); (· simp [evb, kb, hN, h1, dyb, sdb] <;> omega); (· kernel_rfl); try simp only [evb, kb, hN, seval, pvb, h1]) | ((with_reducible refine zad ?_ ?_ ?_); rotate_left 1; (· simp [evb, kb, hN, h1, sdb]); rotate_left 1; (· kernel_rfl); try simp only [evb, kb, hN, seval, pvb, h1])))
  refine zag ?_; refine hK _ _ ?_; clear hK K
  refine wp_seq_k fun K hK => ?_; refine zai ?_
  with_reducible refine zau (b := w.heap.size) (off := 1) (n := 1) ?_ ?_ ?_; (· kernel_rfl); (· simp [evb, kb, hN, sdb])
  with_reducible refine zaE (b := w.heap.size) (o := 1) ?_ ?_ hb c1 ?_; (· kernel_rfl); (· simp [evb, kb, hN, sdb])
  by_cases g1 : f.from_ ≤ ver
  · by_cases g2 : f.to < 0
    · (repeat (first | ((with_reducible refine zaw ?_ ?_ ?_ ?_); (· exact rfl); (· simp [evb, kb, hN, h1, g1, zaa, dyb, sdb] <;> omega); (· kernel_rfl); try simp only [evb, kb, hN, seval, pvb, h1, g1, zaa]) | ((with_reducible refine zad ?_ ?_ ?_); rotate_left 1; (· simp [evb, kb, hN, h1, g1, zaa, sdb]); rotate_left 1; (· kernel_rfl); try simp only [evb, kb, hN, seval, pvb, h1, g1, zaa]) | ((with_reducible first | refine zay ?_ ?_ ?_ | refine zax ?_ ?_ ?_ | refine zaz ?_ ?_) <;> (first | (with_reducible refine zav ?_; try simp only [evb, kb, hN, seval, pvb, h1, g1, zaa]) | (simp [evb, kb, hN, h1, g1, zaa, sdb] <;> omega))) | ((with_reducible refine zap ?_ ?_); (· simp [evb, kb, hN, h1, g1, zaa, sdb]); try simp only [evb, kb, hN, seval, pvb, h1, g1, zaa]) | ((with_reducible refine zao ?_ ?_); (· simp [evb, kb, hN, h1, g1, zaa, sdb]); try simp only [evb, kb, hN, seval, pvb, h1, g1, zaa]) | ((with_reducible apply zan); (· exact rfl); (· exact rfl); (· simp [evb, kb, hN, h1, g1, zaa, sdb]); try simp only [evb, kb, hN, seval, pvb, h1, g1, zaa]) | ((with_reducible apply zar); (· exact rfl); (· exact rfl); (· simp [evb, kb, hN, h1, g1, zaa, sdb]); try simp only [evb, kb, hN, seval, pvb, h1, g1, zaa]) | ((with_reducible apply zas); (· exact rfl); (· exact rfl); (· simp [evb, kb, hN, h1, g1, zaa, sdb]); try simp only [evb, kb, hN, seval, pvb, h1, g1, zaa])))
      with_reducible refine zau (b := w.heap.size) (off := 2) (n := 1) ?_ ?_ ?_; (· kernel_rfl); (· simp [evb, kb, hN, sdb])
      (repeat (first | ((with_reducible refine zaw ?_ ?_ ?_ ?_); (· exact rfl); (· simp [evb, kb, hN, h1, g1, zaa, dyb, sdb] <;> omega); (· kernel_rfl); try simp only [evb, kb, hN, seval, pvb, h1, g1, zaa]) | ((with_reducible refine zad ?_ ?_ ?_); rotate_left 1; (· simp [evb, kb, hN, h1, g1, zaa, sdb]); rotate_left 1; (· kernel_rfl); try simp only [evb, kb, hN, seval, pvb, h1, g1, zaa]) | ((with_reducible first | refine zay ?_ ?_ ?_ | refine zax ?_ ?_ ?_ | refine zaz ?_ ?_) <;> (first | (with_reducible refine zav ?_; try simp only [evb, kb, hN, seval, pvb, h1, g1, zaa]) | (simp [evb, kb, hN, h1, g1, zaa, sdb] <;> omega))) | ((with_reducible refine zap ?_ ?_); (· simp [evb, kb, hN, h1, g1, zaa, sdb]); try simp only [evb, kb, hN, seval, pvb, h1, g1, zaa]) | ((with_reducible refine zao ?_ ?_); (· simp [evb, kb, hN, h1, g1, zaa, sdb]); try simp only [evb, kb, hN, seval, pvb, h1, g1, zaa]) | ((with_reducible apply zan); (· exact rfl); (· exact rfl); (· simp [evb, kb, hN, h1, g1, zaa, sdb]); try simp only [evb, kb, hN, seval, pvb, h1, g1, zaa]) | ((with_reducible apply zar); (· exact rfl); (· exact rfl); (· simp [evb, kb, hN, h1, g1, zaa, sdb]); try simp only [evb, kb, hN, seval, pvb, h1, g1, zaa]) | ((with_reducible apply zas); (· exact rfl); (· exact rfl); (· simp [evb, kb, hN, h1, g1, zaa, sdb]); try simp only [evb, kb, hN, seval, pvb, h1, g1, zaa])))
      with_reducible refine zaE (b := w.heap.size) (o := 2) ?_ ?_ hb c2 ?_; (· kernel_rfl); (· simp [evb, kb, hN, sdb])
      (repeat (first | ((with_reducible refine zaw ?_ ?_ ?_ ?_); (· exact rfl); (· simp [evb, kb, hN, h1, g1, g2, zaa, dyb, sdb] <;> omega); (· kernel_rfl); try simp only [evb, kb, hN, seval, pvb, h1, g1, g2, zaa]) | ((with_reducible refine zad ?_ ?_ ?_); rotate_left 1; (· simp [evb, kb, hN, h1, g1, g2, zaa, sdb]); rotate_left 1; (· kernel_rfl); try simp only [evb, kb, hN, seval, pvb, h1, g1, g2, zaa]) | ((with_reducible first | refine zay ?_ ?_ ?_ | refine zax ?_ ?_ ?_ | refine zaz ?_ ?_) <;> (first | (with_reducible refine zav ?_; try simp only [evb, kb, hN, seval, pvb, h1, g1, g2, zaa]) | (simp [evb, kb, hN, h1, g1, g2, zaa, sdb] <;> omega))) | ((with_reducible refine zap ?_ ?_); (· simp [evb, kb, hN, h1, g1, g2, zaa, sdb]); try simp only [evb, kb, hN, seval, pvb, h1, g1, g2, zaa]) | ((with_reducible refine zao ?_ ?_); (· simp [evb, kb, hN, h1, g1, g2, zaa, sdb]); try simp only [evb, kb, hN, seval, pvb, h1, g1, g2, zaa]) | ((with_reducible apply zan); (· exact rfl); (· exact rfl); (· simp [evb, kb, hN, h1, g1, g2, zaa, sdb]); try simp only [evb, kb, hN, seval, pvb, h1, g1, g2, zaa]) | ((with_reducible apply zar); (· exact rfl); (· exact rfl); (· simp [evb, kb, hN, h1, g1, g2, zaa, sdb]); try simp only [evb, kb, hN, seval, pvb, h1, g1, g2, zaa]) | ((with_reducible apply zas); (· exact rfl); (· exact rfl); (· simp [evb, kb, hN, h1, g1, g2, zaa, sdb]); try simp only [evb, kb, hN, seval, pvb, h1, g1, g2, zaa])))
      refine zag ?_; refine hK _ _ ?_; clear hK K
      refine wp_ret ⟨by simp [zaf, hD], ?_⟩; simp only [evb, kb, hN, seval]
      exact ⟨by simp [Fld.has, g1, g2], hc⟩
    · (repeat (first | ((with_reducible refine zaw ?_ ?_ ?_ ?_); (· exact rfl); (· simp [evb, kb, hN, h1, g1, zaa, dyb, sdb] <;> omega); (· kernel_rfl); try simp only [evb, kb, hN, seval, pvb, h1, g1, zaa]) | ((with_reducible refine zad ?_ ?_ ?_); rotate_left 1; (· simp [evb, kb, hN, h1, g1, zaa, sdb]); rotate_left 1; (· kernel_rfl); try simp only [evb, kb, hN, seval, pvb, h1, g1, zaa]) | ((with_reducible first | refine zay ?_ ?_ ?_ | refine zax ?_ ?_ ?_ | refine zaz ?_ ?_) <;> (first | (with_reducible refine zav ?_; try simp only [evb, kb, hN, seval, pvb, h1, g1, zaa]) | (simp [evb, kb, hN, h1, g1, zaa, sdb] <;> omega))) | ((with_reducible refine zap ?_ ?_); (· simp [evb, kb, hN, h1, g1, zaa, sdb]); try simp only [evb, kb, hN, seval, pvb, h1, g1, zaa]) | ((with_reducible refine zao ?_ ?_); (· simp [evb, kb, hN, h1, g1, zaa, sdb]); try simp only [evb, kb, hN, seval, pvb, h1, g1, zaa]) | ((with_reducible apply zan); (· exact rfl); (· exact rfl); (· simp [evb, kb, hN, h1, g1, zaa, sdb]); try simp only [evb, kb, hN, seval, pvb, h1, g1, zaa]) | ((with_reducible apply zar); (· exact rfl); (· exact rfl); (· simp [evb, kb, hN, h1, g1, zaa, sdb]); try simp only [evb, kb, hN, seval, pvb, h1, g1, zaa]) | ((with_reducible apply zas); (· exact rfl); (· exact rfl); (· simp [evb, kb, hN, h1, g1, zaa, sdb]); try simp only [evb, kb, hN, seval, pvb, h1, g1, zaa])))
      with_reducible refine zau (b := w.heap.size) (off := 2) (n := 1) ?_ ?_ ?_; (· kernel_rfl); (· simp [evb, kb, hN, sdb])
      (repeat (first | ((with_reducible refine zaw ?_ ?_ ?_ ?_); (· exact rfl); (· simp [evb, kb, hN, h1, g1, zaa, dyb, sdb] <;> omega); (· kernel_rfl); try simp only [evb, kb, hN, seval, pvb, h1, g1, zaa]) | ((with_reducible refine zad ?_ ?_ ?_); rotate_left 1; (· simp [evb, kb, hN, h1, g1, zaa, sdb]); rotate_left 1; (· kernel_rfl); try simp only [evb, kb, hN, seval, pvb, h1, g1, zaa]) | ((with_reducible first | refine zay ?_ ?_ ?_ | refine zax ?_ ?_ ?_ | refine zaz ?_ ?_) <;> (first | (with_reducible refine zav ?_; try simp only [evb, kb, hN, seval, pvb, h1, g1, zaa]) | (simp [evb, kb, hN, h1, g1, zaa, sdb] <;> omega))) | ((with_reducible refine zap ?_ ?_); (· simp [evb, kb, hN, h1, g1, zaa, sdb]); try simp only [evb, kb, hN, seval, pvb, h1, g1, zaa]) | ((with_reducible refine zao ?_ ?_); (· simp [evb, kb, hN, h1, g1, zaa, sdb]); try simp only [evb, kb, hN, seval, pvb, h1, g1, zaa]) | ((with_reducible apply zan); (· exact rfl); (· exact rfl); (· simp [evb, kb, hN, h1, g1, zaa, sdb]); try simp only [evb, kb, hN, seval, pvb, h1, g1, zaa]) | ((with_reducible apply zar); (· exact rfl); (· exact rfl); (· simp [evb, kb, hN, h1, g1, zaa, sdb]); try simp only [evb, kb, hN, seval, pvb, h1, g1, zaa]) | ((with_reducible apply zas); (· exact rfl); (· exact rfl); (· simp [evb, kb, hN, h1, g1, zaa, sdb]); try simp only [evb, kb, hN, seval, pvb, h1, g1, zaa])))
      with_reducible refine zaE (b := w.heap.size) (o := 2) ?_ ?_ hb c2 ?_; (· kernel_rfl); (· simp [evb, kb, hN, sdb])
      (repeat (first | ((with_reducible refine zaw ?_ ?_ ?_ ?_); (· exact rfl); (· simp [evb, kb, hN, h1, g1, g2, zaa, dyb, sdb] <;> omega); (· kernel_rfl); try simp only [evb, kb, hN, seval, pvb, h1, g1, g2, zaa]) | ((with_reducible refine zad ?_ ?_ ?_); rotate_left 1; (· simp [evb, kb, hN, h1, g1, g2, zaa, sdb]); rotate_left 1; (· kernel_rfl); try simp only [evb, kb, hN, seval, pvb, h1, g1, g2, zaa]) | ((with_reducible first | refine zay ?_ ?_ ?_ | refine zax ?_ ?_ ?_ | refine zaz ?_ ?_) <;> (first | (with_reducible refine zav ?_; try simp only [evb, kb, hN, seval, pvb, h1, g1, g2, zaa]) | (simp [evb, kb, hN, h1, g1, g2, zaa, sdb] <;> omega))) | ((with_reducible refine zap ?_ ?_); (· simp [evb, kb, hN, h1, g1, g2, zaa, sdb]); try simp only [evb, kb, hN, seval, pvb, h1, g1, g2, zaa]) | ((with_reducible refine zao ?_ ?_); (· simp [evb, kb, hN, h1, g1, g2, zaa, sdb]); try simp only [evb, kb, hN, seval, pvb, h1, g1, g2, zaa]) | ((with_reducible apply zan); (· exact rfl); (· exact rfl); (· simp [evb, kb, hN, h1, g1, g2, zaa, sdb]); try simp only [evb, kb, hN, seval, pvb, h1, g1, g2, zaa]) | ((with_reducible apply zar); (· exact rfl); (· exact rfl); (· simp [evb, kb, hN, h1, g1, g2, zaa, sdb]); try simp only [evb, kb, hN, seval, pvb, h1, g1, g2, zaa]) | ((with_reducible apply zas); (· exact rfl); (· exact rfl); (· simp [evb, kb, hN, h1, g1, g2, zaa, sdb]); try simp only [evb, kb, hN, seval, pvb, h1, g1, g2, zaa])))
      with_reducible refine zau (b := w.heap.size) (off := 2) (n := 1) ?_ ?_ ?_; (· kernel_rfl); (· simp [evb, kb, hN, sdb])
      (repeat (first | ((with_reducible refine zaw ?_ ?_ ?_ ?_); (· exact rfl); (· simp [evb, kb, hN, h1, g1, g2, zaa, dyb, sdb] <;> omega); (· kernel_rfl); try simp only [evb, kb, hN, seval, pvb, h1, g1, g2, zaa]) | ((with_reducible refine zad ?_ ?_ ?_); rotate_left 1; (· simp [evb, kb, hN, h1, g1, g2, zaa, sdb]); rotate_left 1; (· kernel_rfl); try simp only [evb, kb, hN, seval, pvb, h1, g1, g2, zaa]) | ((with_reducible first | refine zay ?_ ?_ ?_ | refine zax ?_ ?_ ?_ | refine zaz ?_ ?_) <;> (first | (with_reducible refine zav ?_; try simp only [evb, kb, hN, seval, pvb, h1, g1, g2, zaa]) | (simp [evb, kb, hN, h1, g1, g2, zaa, sdb] <;> omega))) | ((with_reducible refine zap ?_ ?_); (· simp [evb, kb, hN, h1, g1, g2, zaa, sdb]); try simp only [evb, kb, hN, seval, pvb, h1, g1, g2, zaa]) | ((with_reducible refine zao ?_ ?_); (· simp [evb, kb, hN, h1, g1, g2, zaa, sdb]); try simp only [evb, kb, hN, seval, pvb, h1, g1, g2, zaa]) | ((with_reducible apply zan); (· exact rfl); (· exact rfl); (· simp [evb, kb, hN, h1, g1, g2, zaa, sdb]); try simp only [evb, kb, hN, seval, pvb, h1, g1, g2, zaa]) | ((with_reducible apply zar); (· exact rfl); (· exact rfl); (· simp [evb, kb, hN, h1, g1, g2, zaa, sdb]); try simp only [evb, kb, hN, seval, pvb, h1, g1, g2, zaa]) | ((with_reducible apply zas); (· exact rfl); (· exact rfl); (· simp [evb, kb, hN, h1, g1, g2, zaa, sdb]); try simp only [evb, kb, hN, seval, pvb, h1, g1, g2, zaa])))
      with_reducible refine zaE (b := w.heap.size) (o := 2) ?_ ?_ hb c2 ?_; (· kernel_rfl); (· simp [evb, kb, hN, sdb])
      (repeat (first | ((with_reducible refine zaw ?_ ?_ ?_ ?_); (· exact rfl); (· simp [evb, kb, hN, h1, g1, g2, zaa, dyb, sdb] <;> omega); (· kernel_rfl); try simp only [evb, kb, hN, seval, pvb, h1, g1, g2, zaa]) | ((with_reducible refine zad ?_ ?_ ?_); rotate_left 1; (· simp [evb, kb, hN, h1, g1, g2, zaa, sdb]); rotate_left 1; (· kernel_rfl); try simp only [evb, kb, hN, seval, pvb, h1, g1, g2, zaa]) | ((with_reducible first | refine zay ?_ ?_ ?_ | refine zax ?_ ?_ ?_ | refine zaz ?_ ?_) <;> (first | (with_reducible refine zav ?_; try simp only [evb, kb, hN, seval, pvb, h1, g1, g2, zaa]) | (simp [evb, kb, hN, h1, g1, g2, zaa, sdb] <;> omega))) | ((with_reducible refine zap ?_ ?_); (· simp [evb, kb, hN, h1, g1, g2, zaa, sdb]); try simp only [evb, kb, hN, seval, pvb, h1, g1, g2, zaa]) | ((with_reducible refine zao ?_ ?_); (· simp [evb, kb, hN, h1, g1, g2, zaa, sdb]); try simp only [evb, kb, hN, seval, pvb, h1, g1, g2, zaa]) | ((with_reducible apply zan); (· exact rfl); (· exact rfl); (· simp [evb, kb, hN, h1, g1, g2, zaa, sdb]); try simp only [evb, kb, hN, seval, pvb, h1, g1, g2, zaa]) | ((with_reducible apply zar); (· exact rfl); (· exact rfl); (· simp [evb, kb, hN, h1, g1, g2, zaa, sdb]); try simp only [evb, kb, hN, seval, pvb, h1, g1, g2, zaa]) | ((with_reducible apply zas); (· exact rfl); (· exact rfl); (· simp [evb, kb, hN, h1, g1, g2, zaa, sdb]); try simp only [evb, kb, hN, seval, pvb, h1, g1, g2, zaa])))
      refine zag ?_; refine hK _ _ ?_; clear hK K
      refine wp_ret ⟨by simp [zaf, hD], ?_⟩; simp only [evb, kb, hN, seval]
      exact ⟨by simp [Fld.has, g1, g2], hc⟩
  · (repeat (first | ((with_reducible refine zaw ?_ ?_ ?_ ?_); (· exact rfl); (· simp [evb, kb, hN, h1, g1, zaa, dyb, sdb] <;> omega); (· kernel_rfl); try simp only [evb, kb, hN, seval, pvb, h1, g1, zaa]) | ((with_reducible refine zad ?_ ?_ ?_); rotate_left 1; (· simp [evb, kb, hN, h1, g1, zaa, sdb]); rotate_left 1; (· kernel_rfl); try simp only [evb, kb, hN, seval, pvb, h1, g1, zaa]) | ((with_reducible first | refine zay ?_ ?_ ?_ | refine zax ?_ ?_ ?_ | refine zaz ?_ ?_) <;> (first | (with_reducible refine zav ?_; try simp only [evb, kb, hN, seval, pvb, h1, g1, zaa]) | (simp [evb, kb, hN, h1, g1, zaa, sdb] <;> omega))) | ((with_reducible refine zap ?_ ?_); (· simp [evb, kb, hN, h1, g1, zaa, sdb]); try simp only [evb, kb, hN, seval, pvb, h1, g1, zaa]) | ((with_reducible refine zao ?_ ?_); (· simp [evb, kb, hN, h1, g1, zaa, sdb]); try simp only [evb, kb, hN, seval, pvb, h1, g1, zaa]) | ((with_reducible apply zan); (· exact rfl); (· exact rfl); (· simp [evb, kb, hN, h1, g1, zaa, sdb]); try simp only [evb, kb, hN, seval, pvb, h1, g1, zaa]) | ((with_reducible apply zar); (· exact rfl); (· exact rfl); (· simp [evb, kb, hN, h1, g1, zaa, sdb]); try simp only [evb, kb, hN, seval, pvb, h1, g1, zaa]) | ((with_reducible apply zas); (· exact rfl); (· exact rfl); (· simp [evb, kb, hN, h1, g1, zaa, sdb]); try simp only [evb, kb, hN, seval, pvb, h1, g1, zaa])))
    refine zag ?_; refine hK _ _ ?_; clear hK K
    refine wp_ret ⟨by simp [zaf, hD], ?_⟩; simp only [evb, kb, hN, seval]
    exact ⟨by simp [Fld.has, g1], hc⟩
theorem null_c (f : Fld) (ver : Int) (v : Tr) {w : World} {G G' : Nat → Prop} {cs ts : List Value} (hf : SchF w G f cs) (hv : TrC w G' v ts) :
    zaG Try.prog 42 #[zaO cs, .int .i64 ver, zaO ts] w fun r w' => r = .bool (sNull f.null ver v) ∧ Chg (fun _ => False) w w' := by
  obtain ⟨_, c0, c1, c2, c3, c4, c5, c6, _⟩ := hf.cells
  obtain ⟨_, _, _, _, t2, _⟩ := hv.cells
  refine zaA Try.func42 rfl rfl Try.ntmps42 (by simp) ?_
  intro a hN hD ha
  have h0 : get a 0 = zaO cs := ha 0 _ rfl
  have h1 : get a 1 = .int .i64 ver := ha 1 _ rfl
  have h2 : get a 2 = zaO ts := ha 2 _ rfl
  refine wp_seq_k fun K hK => ?_; refine zai ?_
  refine wl_boxA (by rw [zaj]; exact h0) fun w1 hc hb hs => ?_
  refine wl_boxA (l := ts) (by simp [evb, kb, hN, h2, sdb]) fun w2 hc2 hb2 hs2 => ?_
  replace hb := hb.chg hc2 (fun h => h)
  replace hc := hc.trans hc2 (fun _ _ h => h)
  rw [hs] at hb2 ⊢
  (repeat (first | ((with_reducible refine zaw ?_ ?_ ?_ ?_); (· exact rfl); (· simp [evb, kb, hN, h1, zaa, dyb, sdb] <;> omega); (· kernel_rfl); try simp only [evb, kb, hN, seval, pvb, h1, zaa]) | ((with_reducible refine zad ?_ ?_ ?_); rotate_left 1; (· simp [evb, kb, hN, h1, zaa, sdb]); rotate_left 1; (· kernel_rfl); try simp only [evb, kb, hN, seval, pvb, h1, zaa]) | ((with_reducible first | refine zay ?_ ?_ ?_ | refine zax ?_ ?_ ?_ | refine zaz ?_ ?_) <;> (first | (with_reducible refine zav ?_; try simp only [evb, kb, hN, seval, pvb, h1, zaa]) | (simp [evb, kb, hN, h1, zaa, sdb] <;> omega))) | ((with_reducible refine zap ?_ ?_); (· simp [evb, kb, hN, h1, zaa, sdb]); try simp only [evb, kb, hN, seval, pvb, h1, zaa]) | ((with_reducible refine zao ?_ ?_); (· simp [evb, kb, hN, h1, zaa, sdb]); try simp only [evb, kb, hN, seval, pvb, h1, zaa]) | ((with_reducible apply zan); (· exact rfl); (· exact rfl); (· simp [evb, kb, hN, h1, zaa, sdb]); try simp only [evb, kb, hN, seval, pvb, h1, zaa]) | ((with_reducible apply zar); (· exact rfl); (· exact rfl); (· simp [evb, kb, hN, h1, zaa, sdb]); try simp only [evb, kb, hN, seval, pvb, h1, zaa]) | ((with_reducible apply zas); (· exact rfl); (· exact rfl); (· simp [evb, kb, hN, h1, zaa, sdb]); try simp only [evb, kb, hN, seval, pvb, h1, zaa])))
  refine zag ?_; refine hK _ _ ?_; clear hK K
  refine wp_seq_k fun K hK => ?_; refine zai ?_
  with_reducible refine zau (b := w.heap.size + 1) (off := 2) (n := 1) ?_ ?_ ?_; (· kernel_rfl); (· simp [evb, kb, hN, sdb])
  with_reducible refine zaE (b := w.heap.size + 1) (o := 2) ?_ ?_ hb2 t2 ?_; (· kernel_rfl); (· simp [evb, kb, hN, sdb])
  cases hn : v.nil
  · (repeat (first | ((with_reducible refine zaw ?_ ?_ ?_ ?_); (· exact rfl); (· simp [evb, kb, hN, h1, hn, zaa, dyb, sdb] <;> omega); (· kernel_rfl); try simp only [evb, kb, hN, seval, pvb, h1, hn, zaa]) | ((with_reducible refine zad ?_ ?_ ?_); rotate_left 1; (· simp [evb, kb, hN, h1, hn, zaa, sdb]); rotate_left 1; (· kernel_rfl); try simp only [evb, kb, hN, seval, pvb, h1, hn, zaa]) | ((with_reducible first | refine zay ?_ ?_ ?_ | refine zax ?_ ?_ ?_ | refine zaz ?_ ?_) <;> (first | (with_reducible refine zav ?_; try simp only [evb, kb, hN, seval, pvb, h1, hn, zaa]) | (simp [evb, kb, hN, h1, hn, zaa, sdb] <;> omega))) | ((with_reducible refine zap ?_ ?_); (· simp [evb, kb, hN, h1, hn, zaa, sdb]); try simp only [evb, kb, hN, seval, pvb, h1, hn, zaa]) | ((with_reducible refine zao ?_ ?_); (· simp [evb, kb, hN, h1, hn, zaa, sdb]); try simp only [evb, kb, hN, seval, pvb, h1, hn, zaa]) | ((with_reducible apply zan); (· exact rfl); (· exact rfl); (· simp [evb, kb, hN, h1, hn, zaa, sdb]); try simp only [evb, kb, hN, seval, pvb, h1, hn, zaa]) | ((with_reducible apply zar); (· exact rfl); (· exact rfl); (· simp [evb, kb, hN, h1, hn, zaa, sdb]); try simp only [evb, kb, hN, seval, pvb, h1, hn, zaa]) | ((with_reducible apply zas); (· exact rfl); (· exact rfl); (· simp [evb, kb, hN, h1, hn, zaa, sdb]); try simp only [evb, kb, hN, seval, pvb, h1, hn, zaa])))
    refine zag ?_; refine hK _ _ ?_; clear hK K
    refine wp_ret ⟨by simp [zaf, hD], ?_⟩; simp only [evb, kb, hN, seval]
    exact ⟨by simp [sNull, hn], hc⟩
  · (repeat (first | ((with_reducible refine zaw ?_ ?_ ?_ ?_); (· exact rfl); (· simp [evb, kb, hN, h1, hn, zaa, dyb, sdb] <;> omega); (· kernel_rfl); try simp only [evb, kb, hN, seval, pvb, h1, hn, zaa]) | ((with_reducible refine zad ?_ ?_ ?_); rotate_left 1; (· simp [evb, kb, hN, h1, hn, zaa, sdb]); rotate_left 1; (· kernel_rfl); try simp only [evb, kb, hN, seval, pvb, h1, hn, zaa]) | ((with_reducible first | refine zay ?_ ?_ ?_ | refine zax ?_ ?_ ?_ | refine zaz ?_ ?_) <;> (first | (with_reducible refine zav ?_; try simp only [evb, kb, hN, seval, pvb, h1, hn, zaa]) | (simp [evb, kb, hN, h1, hn, zaa, sdb] <;> omega))) | ((with_reducible refine zap ?_ ?_); (· simp [evb, kb, hN, h1, hn, zaa, sdb]); try simp only [evb, kb, hN, seval, pvb, h1, hn, zaa]) | ((with_reducible refine zao ?_ ?_); (· simp [evb, kb, hN, h1, hn, zaa, sdb]); try simp only [evb, kb, hN, seval, pvb, h1, hn, zaa]) | ((with_reducible apply zan); (· exact rfl); (· exact rfl); (· simp [evb, kb, hN, h1, hn, zaa, sdb]); try simp only [evb, kb, hN, seval, pvb, h1, hn, zaa]) | ((with_reducible apply zar); (· exact rfl); (· exact rfl); (· simp [evb, kb, hN, h1, hn, zaa, sdb]); try simp only [evb, kb, hN, seval, pvb, h1, hn, zaa]) | ((with_reducible apply zas); (· exact rfl); (· exact rfl); (· simp [evb, kb, hN, h1, hn, zaa, sdb]); try simp only [evb, kb, hN, seval, pvb, h1, hn, zaa])))
    with_reducible refine zau (b := w.heap.size) (off := 3) (n := 1) ?_ ?_ ?_; (· kernel_rfl); (· simp [evb, kb, hN, sdb])
    (repeat (first | ((with_reducible refine zaw ?_ ?_ ?_ ?_); (· exact rfl); (· simp [evb, kb, hN, h1, hn, zaa, dyb, sdb] <;> omega); (· kernel_rfl); try simp only [evb, kb, hN, seval, pvb, h1, hn, zaa]) | ((with_reducible refine zad ?_ ?_ ?_); rotate_left 1; (· simp [evb, kb, hN, h1, hn, zaa, sdb]); rotate_left 1; (· kernel_rfl); try simp only [evb, kb, hN, seval, pvb, h1, hn, zaa]) | ((with_reducible first | refine zay ?_ ?_ ?_ | refine zax ?_ ?_ ?_ | refine zaz ?_ ?_) <;> (first | (with_reducible refine zav ?_; try simp only [evb, kb, hN, seval, pvb, h1, hn, zaa]) | (simp [evb, kb, hN, h1, hn, zaa, sdb] <;> omega))) | ((with_reducible refine zap ?_ ?_); (· simp [evb, kb, hN, h1, hn, zaa, sdb]); try simp only [evb, kb, hN, seval, pvb, h1, hn, zaa]) | ((with_reducible refine zao ?_ ?_); (· simp [evb, kb, hN, h1, hn, zaa, sdb]); try simp only [evb, kb, hN, seval, pvb, h1, hn, zaa]) | ((with_reducible apply zan); (· exact rfl); (· exact rfl); (· simp [evb, kb, hN, h1, hn, zaa, sdb]); try simp only [evb, kb, hN, seval, pvb, h1, hn, zaa]) | ((with_reducible apply zar); (· exact rfl); (· exact rfl); (· simp [evb, kb, hN, h1, hn, zaa, sdb]); try simp only [evb, kb, hN, seval, pvb, h1, hn, zaa]) | ((with_reducible apply zas); (· exact rfl); (· exact rfl); (· simp [evb, kb, hN, h1, hn, zaa, sdb]); try simp only [evb, kb, hN, seval, pvb, h1, hn, zaa])))
    with_reducible refine zaE (b := w.heap.size) (o := 3) ?_ ?_ hb c3 ?_; (· kernel_rfl); (· simp [evb, kb, hN, sdb])
    by_cases g1 : 0 ≤ f.null
    · (repeat (first | ((with_reducible refine zaw ?_ ?_ ?_ ?_); (· exact rfl); (· simp [evb, kb, hN, h1, g1, zaa, dyb, sdb] <;> omega); (· kernel_rfl); try simp only [evb, kb, hN, seval, pvb, h1, g1, zaa]) | ((with_reducible refine zad ?_ ?_ ?_); rotate_left 1; (· simp [evb, kb, hN, h1, g1, zaa, sdb]); rotate_left 1; (· kernel_rfl); try simp only [evb, kb, hN, seval, pvb, h1, g1, zaa]) | ((with_reducible first | refine zay ?_ ?_ ?_ | refine zax ?_ ?_ ?_ | refine zaz ?_ ?_) <;> (first | (with_reducible refine zav ?_; try simp only [evb, kb, hN, seval, pvb, h1, g1, zaa]) | (simp [evb, kb, hN, h1, g1, zaa, sdb] <;> omega))) | ((with_reducible refine zap ?_ ?_); (· simp [evb, kb, hN, h1, g1, zaa, sdb]); try simp only [evb, kb, hN, seval, pvb, h1, g1, zaa]) | ((with_reducible refine zao ?_ ?_); (· simp [evb, kb, hN, h1, g1, zaa, sdb]); try simp only [evb, kb, hN, seval, pvb, h1, g1, zaa]) | ((with_reducible apply zan); (· exact rfl); (· exact rfl); (· simp [evb, kb, hN, h1, g1, zaa, sdb]); try simp only [evb, kb, hN, seval, pvb, h1, g1, zaa]) | ((with_reducible apply zar); (· exact rfl); (· exact rfl); (· simp [evb, kb, hN, h1, g1, zaa, sdb]); try simp only [evb, kb, hN, seval, pvb, h1, g1, zaa]) | ((with_reducible apply zas); (· exact rfl); (· exact rfl); (· simp [evb, kb, hN, h1, g1, zaa, sdb]); try simp only [evb, kb, hN, seval, pvb, h1, g1, zaa])))
      with_reducible refine zau (b := w.heap.size) (off := 3) (n := 1) ?_ ?_ ?_; (· kernel_rfl); (· simp [evb, kb, hN, sdb])
      (repeat (first | ((with_reducible refine zaw ?_ ?_ ?_ ?_); (· exact rfl); (· simp [evb, kb, hN, h1, g1, zaa, dyb, sdb] <;> omega); (· kernel_rfl); try simp only [evb, kb, hN, seval, pvb, h1, g1, zaa]) | ((with_reducible refine zad ?_ ?_ ?_); rotate_left 1; (· simp [evb, kb, hN, h1, g1, zaa, sdb]); rotate_left 1; (· kernel_rfl); try simp only [evb, kb, hN, seval, pvb, h1, g1, zaa]) | ((with_reducible first | refine zay ?_ ?_ ?_ | refine zax ?_ ?_ ?_ | refine zaz ?_ ?_) <;> (first | (with_reducible refine zav ?_; try simp only [evb, kb, hN, seval, pvb, h1, g1, zaa]) | (simp [evb, kb, hN, h1, g1, zaa, sdb] <;> omega))) | ((with_reducible refine zap ?_ ?_); (· simp [evb, kb, hN, h1, g1, zaa, sdb]); try simp only [evb, kb, hN, seval, pvb, h1, g1, zaa]) | ((with_reducible refine zao ?_ ?_); (· simp [evb, kb, hN, h1, g1, zaa, sdb]); try simp only [evb, kb, hN, seval, pvb, h1, g1, zaa]) | ((with_reducible apply zan); (· exact rfl); (· exact rfl); (· simp [evb, kb, hN, h1, g1, zaa, sdb]); try simp only [evb, kb, hN, seval, pvb, h1, g1, zaa]) | ((with_reducible apply zar); (· exact rfl); (· exact rfl); (· simp [evb, kb, hN, h1, g1, zaa, sdb]); try simp only [evb, kb, hN, seval, pvb, h1, g1, zaa]) | ((with_reducible apply zas); (· exact rfl); (· exact rfl); (· simp [evb, kb, hN, h1, g1, zaa, sdb]); try simp only [evb, kb, hN, seval, pvb, h1, g1, zaa])))
      with_reducible refine zaE (b := w.heap.size) (o := 3) ?_ ?_ hb c3 ?_; (· kernel_rfl); (· simp [evb, kb, hN, sdb])
      by_cases g2 : f.null ≤ ver
      · (repeat (first | ((with_reducible refine zaw ?_ ?_ ?_ ?_); (· exact rfl); (· simp [evb, kb, hN, h1, g1, g2, zaa, dyb, sdb] <;> omega); (· kernel_rfl); try simp only [evb, kb, hN, seval, pvb, h1, g1, g2, zaa]) | ((with_reducible refine zad ?_ ?_ ?_); rotate_left 1; (· simp [evb, kb, hN, h1, g1, g2, zaa, sdb]); rotate_left 1; (· kernel_rfl); try simp only [evb, kb, hN, seval, pvb, h1, g1, g2, zaa]) | ((with_reducible first | refine zay ?_ ?_ ?_ | refine zax ?_ ?_ ?_ | refine zaz ?_ ?_) <;> (first | (with_reducible refine zav ?_; try simp only [evb, kb, hN, seval, pvb, h1, g1, g2, zaa]) | (simp [evb, kb, hN, h1, g1, g2, zaa, sdb] <;> omega))) | ((with_reducible refine zap ?_ ?_); (· simp [evb, kb, hN, h1, g1, g2, zaa, sdb]); try simp only [evb, kb, hN, seval, pvb, h1, g1, g2, zaa]) | ((with_reducible refine zao ?_ ?_); (· simp [evb, kb, hN, h1, g1, g2, zaa, sdb]); try simp only [evb, kb, hN, seval, pvb, h1, g1, g2, zaa]) | ((with_reducible apply zan); (· exact rfl); (· exact rfl); (· simp [evb, kb, hN, h1, g1, g2, zaa, sdb]); try simp only [evb, kb, hN, seval, pvb, h1, g1, g2, zaa]) | ((with_reducible apply zar); (· exact rfl); (· exact rfl); (· simp [evb, kb, hN, h1, g1, g2, zaa, sdb]); try simp only [evb, kb, hN, seval, pvb, h1, g1, g2, zaa]) | ((with_reducible apply zas); (· exact rfl); (· exact rfl); (· simp [evb, kb, hN, h1, g1, g2, zaa, sdb]); try simp only [evb, kb, hN, seval, pvb, h1, g1, g2, zaa])))
        refine zag ?_; refine hK _ _ ?_; clear hK K
        refine wp_ret ⟨by simp [zaf, hD], ?_⟩; simp only [evb, kb, hN, seval]
        exact ⟨by simp [sNull, hn, g1, g2], hc⟩
      · (repeat (first | ((with_reducible refine zaw ?_ ?_ ?_ ?_); (· exact rfl); (· simp [evb, kb, hN, h1, g1, g2, zaa, dyb, sdb] <;> omega); (· kernel_rfl); try simp only [evb, kb, hN, seval, pvb, h1, g1, g2, zaa]) | ((with_reducible refine zad ?_ ?_ ?_); rotate_left 1; (· simp [evb, kb, hN, h1, g1, g2, zaa, sdb]); rotate_left 1; (· kernel_rfl); try simp only [evb, kb, hN, seval, pvb, h1, g1, g2, zaa]) | ((with_reducible first | refine zay ?_ ?_ ?_ | refine zax ?_ ?_ ?_ | refine zaz ?_ ?_) <;> (first | (with_reducible refine zav ?_; try simp only [evb, kb, hN, seval, pvb, h1, g1, g2, zaa]) | (simp [evb, kb, hN, h1, g1, g2, zaa, sdb] <;> omega))) | ((with_reducible refine zap ?_ ?_); (· simp [evb, kb, hN, h1, g1, g2, zaa, sdb]); try simp only [evb, kb, hN, seval, pvb, h1, g1, g2, zaa]) | ((with_reducible refine zao ?_ ?_); (· simp [evb, kb, hN, h1, g1, g2, zaa, sdb]); try simp only [evb, kb, hN, seval, pvb, h1, g1, g2, zaa]) | ((with_reducible apply zan); (· exact rfl); (· exact rfl); (· simp [evb, kb, hN, h1, g1, g2, zaa, sdb]); try simp only [evb, kb, hN, seval, pvb, h1, g1, g2, zaa]) | ((with_reducible apply zar); (· exact rfl); (· exact rfl); (· simp [evb, kb, hN, h1, g1, g2, zaa, sdb]); try simp only [evb, kb, hN, seval, pvb, h1, g1, g2, zaa]) | ((with_reducible apply zas); (· exact rfl); (· exact rfl); (· simp [evb, kb, hN, h1, g1, g2, zaa, sdb]); try simp only [evb, kb, hN, seval, pvb, h1, g1, g2, zaa])))
        refine zag ?_; refine hK _ _ ?_; clear hK K
        refine wp_ret ⟨by simp [zaf, hD], ?_⟩; simp only [evb, kb, hN, seval]
        exact ⟨by simp [sNull, hn, g1, g2], hc⟩
    · (repeat (first | ((with_reducible refine zaw ?_ ?_ ?_ ?_); (· exact rfl); (· simp [evb, kb, hN, h1, g1, zaa, dyb, sdb] <;> omega); (· kernel_rfl); try simp only [evb, kb, hN, seval, pvb, h1, g1, zaa]) | ((with_reducible refine zad ?_ ?_ ?_); rotate_left 1; (· simp [evb, kb, hN, h1, g1, zaa, sdb]); rotate_left 1; (· kernel_rfl); try simp only [evb, kb, hN, seval, pvb, h1, g1, zaa]) | ((with_reducible first | refine zay ?_ ?_ ?_ | refine zax ?_ ?_ ?_ | refine zaz ?_ ?_) <;> (first | (with_reducible refine zav ?_; try simp only [evb, kb, hN, seval, pvb, h1, g1, zaa]) | (simp [evb, kb, hN, h1, g1, zaa, sdb] <;> omega))) | ((with_reducible refine zap ?_ ?_); (· simp [evb, kb, hN, h1, g1, zaa, sdb]); try simp only [evb, kb, hN, seval, pvb, h1, g1, zaa]) | ((with_reducible refine zao ?_ ?_); (· simp [evb, kb, hN, h1, g1, zaa, sdb]); try simp only [evb, kb, hN, seval, pvb, h1, g1, zaa]) | ((with_reducible apply zan); (· exact rfl); (· exact rfl); (· simp [evb, kb, hN, h1, g1, zaa, sdb]); try simp only [evb, kb, hN, seval, pvb, h1, g1, zaa]) | ((with_reducible apply zar); (· exact rfl); (· exact rfl); (· simp [evb, kb, hN, h1, g1, zaa, sdb]); try simp only [evb, kb, hN, seval, pvb, h1, g1, zaa]) | ((with_reducible apply zas); (· exact rfl); (· exact rfl); (· simp [evb, kb, hN, h1, g1, zaa, sdb]); try simp only [evb, kb, hN, seval, pvb, h1, g1, zaa])))
      refine zag ?_; refine hK _ _ ?_; clear hK K
      refine wp_ret ⟨by simp [zaf, hD], ?_⟩; simp only [evb, kb, hN, seval]
      exact ⟨by simp [sNull, hn, g1], hc⟩
end Go.Proofs.Ytiohfpnpnofimaa
namespace Go.Proofs.Ytiohfpnpnofimaa
set_option linter.all false
open Go.RowKit
set_option maxRecDepth 10000
set_option maxHeartbeats 1000000
def zTree : List Value := [.int .i64 0, .slice none 0 0, .bool false, .slice none 0 0, .slice none 0 0]
def zTag : List Value := [.int .u32 0, .slice none 0 0]
theorem zTree_is (w : World) (G : Nat → Prop) : TrC w G .zero zTree := by
  unfold Tr.zero TrC
  exact ⟨none, 0, none, 0, _, rfl, by decide, Nat.le_refl _, Nat.le_refl _, .inl rfl, .inl rfl, none, 0, rfl, Nat.le_refl _, .inl rfl⟩
theorem TrC.one {w : World} {G : Nat → Prop} {v : Tr} {cs : List Value} (h : TrC w G v cs) : ∀ x ∈ cs, x.oneCell' = true := by
  cases v
  unfold TrC at h
  obtain ⟨ob, cb, ol, cl, vt, rfl, _, _, _, _, _, ot, ct, rfl, _⟩ := h
  intro x hx
  simp only [List.mem_cons, List.not_mem_nil, or_false] at hx
  rcases hx with rfl | rfl | rfl | rfl | rfl <;> rfl
theorem SchF.one {w : World} {G : Nat → Prop} {f : Fld} {cs : List Value} (h : SchF w G f cs) : ∀ x ∈ cs, x.oneCell' = true := by
  cases f
  unfold SchF at h
  obtain ⟨oa, cap, rfl, _⟩ := h
  intro x hx
  simp only [List.mem_cons, List.not_mem_nil, or_false] at hx
  rcases hx with rfl | rfl | rfl | rfl | rfl | rfl | rfl | rfl <;> rfl
theorem at_c (v : Tr) (i : Nat) {w : World} {G : Nat → Prop} {ts : List Value} (hv : TrC w G v ts) :
    zaG Try.prog 32 #[zaO ts, .int .i64 i] w fun r w' => (∃ rs, r = zaO rs ∧ TrC w' G (v.th i) rs) ∧ Chg (fun _ => False) w w' := by
  obtain ⟨tl, t0, _, _, t2, ⟨x, t3, ol, cl, rfl, hcl, hl⟩, _⟩ := hv.cells
  refine callsR_ofC Try.func32 rfl rfl (by kernel_rfl) Try.ntmps32 (by simp) ?_
  intro a hN hD ha
  have h0 : get a 0 = zaO ts := ha 0 _ rfl
  have h1 : get a 1 = .int .i64 i := ha 1 _ rfl
  refine wp_seq_k fun K hK => ?_; refine zai ?_
  refine wl_boxA (by rw [zaj]; exact h0) fun w1 hc hb hs => ?_
  refine wl_allocA (z := zaO zTree) (fun w => Try.zeroValue35 w) fun w2 hc2 hb2 hs2 => ?_
  replace hb := hb.chg hc2 (fun h => h)
  replace hc := hc.trans hc2 (fun _ _ h => h)
  rw [hs] at hb2 ⊢
  refine zag ?_; refine hK _ _ ?_; clear hK K
  refine wp_seq_k fun K hK => ?_; refine wp_seq_k fun K hK => ?_; refine zai ?_
  (repeat (first | ((with_reducible refine zaw ?_ ?_ ?_ ?_); (· exact rfl); (· simp [evb, kb, hN, h1, zaa, dyb, sdb] <;> omega); (· kernel_rfl); try simp only [evb, kb, hN, seval, pvb, h1, zaa]) | ((with_reducible refine zad ?_ ?_ ?_); rotate_left 1; (· simp [evb, kb, hN, h1, zaa, sdb]); rotate_left 1; (· kernel_rfl); try simp only [evb, kb, hN, seval, pvb, h1, zaa]) | ((with_reducible first | refine zay ?_ ?_ ?_ | refine zax ?_ ?_ ?_ | refine zaz ?_ ?_) <;> (first | (with_reducible refine zav ?_; try simp only [evb, kb, hN, seval, pvb, h1, zaa]) | (simp [evb, kb, hN, h1, zaa, sdb] <;> omega))) | ((with_reducible refine zap ?_ ?_); (· simp [evb, kb, hN, h1, zaa, sdb]); try simp only [evb, kb, hN, seval, pvb, h1, zaa]) | ((with_reducible refine zao ?_ ?_); (· simp [evb, kb, hN, h1, zaa, sdb]); try simp only [evb, kb, hN, seval, pvb, h1, zaa]) | ((with_reducible apply zan); (· exact rfl); (· exact rfl); (· simp [evb, kb, hN, h1, zaa, sdb]); try simp only [evb, kb, hN, seval, pvb, h1, zaa]) | ((with_reducible apply zar); (· exact rfl); (· exact rfl); (· simp [evb, kb, hN, h1, zaa, sdb]); try simp only [evb, kb, hN, seval, pvb, h1, zaa]) | ((with_reducible apply zas); (· exact rfl); (· exact rfl); (· simp [evb, kb, hN, h1, zaa, sdb]); try simp only [evb, kb, hN, seval, pvb, h1, zaa])))
  with_reducible refine zau (b := w.heap.size) (off := 3) (n := 1) ?_ ?_ ?_; (· kernel_rfl); (· simp [evb, kb, hN, sdb])
  with_reducible refine zaE (b := w.heap.size) (o := 3) ?_ ?_ hb t3 ?_; (· kernel_rfl); (· simp [evb, kb, hN, sdb])
  (repeat (first | ((with_reducible refine zaw ?_ ?_ ?_ ?_); (· exact rfl); (· simp [evb, kb, hN, h1, zaa, dyb, sdb] <;> omega); (· kernel_rfl); try simp only [evb, kb, hN, seval, pvb, h1, zaa]) | ((with_reducible refine zad ?_ ?_ ?_); rotate_left 1; (· simp [evb, kb, hN, h1, zaa, sdb]); rotate_left 1; (· kernel_rfl); try simp only [evb, kb, hN, seval, pvb, h1, zaa]) | ((with_reducible first | refine zay ?_ ?_ ?_ | refine zax ?_ ?_ ?_ | refine zaz ?_ ?_) <;> (first | (with_reducible refine zav ?_; try simp only [evb, kb, hN, seval, pvb, h1, zaa]) | (simp [evb, kb, hN, h1, zaa, sdb] <;> omega))) | ((with_reducible refine zap ?_ ?_); (· simp [evb, kb, hN, h1, zaa, sdb]); try simp only [evb, kb, hN, seval, pvb, h1, zaa]) | ((with_reducible refine zao ?_ ?_); (· simp [evb, kb, hN, h1, zaa, sdb]); try simp only [evb, kb, hN, seval, pvb, h1, zaa]) | ((with_reducible apply zan); (· exact rfl); (· exact rfl); (· simp [evb, kb, hN, h1, zaa, sdb]); try simp only [evb, kb, hN, seval, pvb, h1, zaa]) | ((with_reducible apply zar); (· exact rfl); (· exact rfl); (· simp [evb, kb, hN, h1, zaa, sdb]); try simp only [evb, kb, hN, seval, pvb, h1, zaa]) | ((with_reducible apply zas); (· exact rfl); (· exact rfl); (· simp [evb, kb, hN, h1, zaa, sdb]); try simp only [evb, kb, hN, seval, pvb, h1, zaa])))
  by_cases hi : (i : Int) < (v.l.length : Int)
  · have hi' : i < v.l.length := by omega
    simp only [hi, decide_true]
    refine zag (hK _ _ ?_)
    refine wp_cond_true (by simp [evb, kb, hN, sdb]) ?_
    clear hK K
    refine wp_seq_k fun K hK => ?_; refine zai ?_
    rcases hl with hl | ⟨g, o, cs, T, rfl, hg, hbg, hcs⟩
    · rw [hl] at hi'; cases hi'
    have hx : v.l[i]? = some v.l[i] := by simp [hi']
    obtain ⟨hxc, hxl⟩ := hcs.get hx
    rw [List.drop_drop] at hxc
    rw [List.length_drop] at hxl
    have hbg2 := hbg.chg hc (fun h => h)
    with_reducible refine zau (b := w.heap.size) (off := 3) (n := 1) ?_ ?_ ?_; (· kernel_rfl); (· simp [evb, kb, hN, sdb])
    with_reducible refine zaE (b := w.heap.size) (o := 3) ?_ ?_ hb t3 ?_; (· kernel_rfl); (· simp [evb, kb, hN, sdb])
    (repeat (first | ((with_reducible refine zaw ?_ ?_ ?_ ?_); (· exact rfl); (· simp [evb, kb, hN, h1, zaa, dyb, sdb] <;> omega); (· kernel_rfl); try simp only [evb, kb, hN, seval, pvb, h1, zaa]) | ((with_reducible refine zad ?_ ?_ ?_); rotate_left 1; (· simp [evb, kb, hN, h1, zaa, sdb]); rotate_left 1; (· kernel_rfl); try simp only [evb, kb, hN, seval, pvb, h1, zaa]) | ((with_reducible first | refine zay ?_ ?_ ?_ | refine zax ?_ ?_ ?_ | refine zaz ?_ ?_) <;> (first | (with_reducible refine zav ?_; try simp only [evb, kb, hN, seval, pvb, h1, zaa]) | (simp [evb, kb, hN, h1, zaa, sdb] <;> omega))) | ((with_reducible refine zap ?_ ?_); (· simp [evb, kb, hN, h1, zaa, sdb]); try simp only [evb, kb, hN, seval, pvb, h1, zaa]) | ((with_reducible refine zao ?_ ?_); (· simp [evb, kb, hN, h1, zaa, sdb]); try simp only [evb, kb, hN, seval, pvb, h1, zaa]) | ((with_reducible apply zan); (· exact rfl); (· exact rfl); (· simp [evb, kb, hN, h1, zaa, sdb]); try simp only [evb, kb, hN, seval, pvb, h1, zaa]) | ((with_reducible apply zar); (· exact rfl); (· exact rfl); (· simp [evb, kb, hN, h1, zaa, sdb]); try simp only [evb, kb, hN, seval, pvb, h1, zaa]) | ((with_reducible apply zas); (· exact rfl); (· exact rfl); (· simp [evb, kb, hN, h1, zaa, sdb]); try simp only [evb, kb, hN, seval, pvb, h1, zaa])))
    refine wl_indexAddr (b := g) (o := o) (k := .i64) (i := i) (n := 5) (len := v.l.length) (cap := cl) (by kernel_rfl) (by simp [evb, kb, hN, sdb]) (by simp [evb, kb, hN, h1, sdb]) hi' ?_
    refine wl_loadAgg_r (b := g) (o := o + i * 5) (n := 5) (by kernel_rfl) (by kernel_rfl) (by simp [evb, kb, hN, sdb]) hbg2 (by omega) ?_
    have hlen := hxc.len
    refine zaT (b := w.heap.size + 1) (n := 5) (l' := ((cs.drop (o + i * 5)).take 5)) (by kernel_rfl) (by simp [evb, kb, hN, sdb]) (by simp [evb, kb, hN, sdb]; rfl) hb2 hlen hxc.one rfl fun w3 hb3 hc3 => ?_
    refine zag ?_; refine hK _ _ ?_; clear hK K
    have hc4 : Chg (fun _ => False) w w3 := hc.trans hc3 (fun n hn h => by omega)
    refine wp_ret ⟨by simp [zaf, hD], w.heap.size + 1, _, _, by simp only [evb, kb, hN, seval], hb3, by rw [hlen]; kernel_rfl, ⟨_, rfl, ?_⟩, hc4⟩
    unfold Tr.th
    rw [hx]
    exact hxc.stay (Stay.none hc4)
  · simp only [hi, decide_false]
    refine zag (hK _ _ ?_)
    refine wp_cond_false (by simp [evb, kb, hN, sdb]) ?_
    refine wp_skip ?_
    clear hK K
    rename_i K hK
    refine hK _ _ ?_
    clear hK K
    refine wp_seq_k fun K hK => ?_; refine zai ?_
    refine wl_build (l := zTree) (by kernel_rfl) ?_
    refine zaT (b := w.heap.size + 1) (n := 5) (l' := zTree) (by kernel_rfl) (by simp [evb, kb, hN, sdb]) (by simp [evb, kb, hN, sdb]) hb2 rfl (zTree_is w G).one rfl fun w3 hb3 hc3 => ?_
    refine zag ?_; refine hK _ _ ?_; clear hK K
    have hc4 : Chg (fun _ => False) w w3 := hc.trans hc3 (fun n hn h => by omega)
    refine wp_ret ⟨by simp [zaf, hD], w.heap.size + 1, _, _, by simp only [evb, kb, hN, seval], hb3, by kernel_rfl, ⟨_, rfl, ?_⟩, hc4⟩
    unfold Tr.th
    rw [List.getElem?_eq_none (by omega)]
    exact zTree_is _ _
end Go.Proofs.Ytiohfpnpnofimaa
namespace Go.Proofs.Ytiohfpnpnofimaa
set_option linter.all false
open Go.RowKit
set_option maxRecDepth 10000
set_option maxHeartbeats 1000000
def Octs (w : World) (v : Value) (l : Bs) (w' : World) : Prop := Own eB w' w.heap.size v l ∧ Chg (fun _ => False) w w'
theorem chg_own {w w' : World} (h : Chg (fun k => w.heap.size ≤ k) w w') : Chg (fun _ => False) w w' := h.mono fun _ hn hk => by omega
theorem things_c (l : List Tr) {w : World} {G : Nat → Prop} {v : Value} (hv : TrS w G l v) :
    zaG Try.prog 43 #[v] w fun r w' => TrS w G (l.take MOST) r ∧ w' = w := by
  obtain ⟨ol, cl, rfl, hcl, hl⟩ := hv
  refine zaA Try.func43 rfl rfl Try.ntmps43 (by simp) ?_
  intro a hN hD ha
  have h0 : get a 0 = .slice ol l.length cl := ha 0 _ rfl
  refine wp_seq_k fun K hK => ?_; refine zai ?_; (repeat (first | ((with_reducible refine zaw ?_ ?_ ?_ ?_); (· exact rfl); (· simp [evb, kb, hN, dyb, sdb] <;> omega); (· kernel_rfl); try simp only [evb, kb, hN, seval, pvb]) | ((with_reducible refine zad ?_ ?_ ?_); rotate_left 1; (· simp [evb, kb, hN, sdb]); rotate_left 1; (· kernel_rfl); try simp only [evb, kb, hN, seval, pvb]))); refine zag ?_; refine hK _ _ ?_; clear hK K
  refine wp_seq_k fun K hK => ?_; refine zai ?_; (repeat (first | ((with_reducible refine zaw ?_ ?_ ?_ ?_); (· exact rfl); (· simp [evb, kb, hN, h0, zaa, dyb, sdb] <;> omega); (· kernel_rfl); try simp only [evb, kb, hN, seval, pvb, h0, zaa]) | ((with_reducible refine zad ?_ ?_ ?_); rotate_left 1; (· simp [evb, kb, hN, h0, zaa, sdb]); rotate_left 1; (· kernel_rfl); try simp only [evb, kb, hN, seval, pvb, h0, zaa]) | ((with_reducible first | refine zay ?_ ?_ ?_ | refine zax ?_ ?_ ?_ | refine zaz ?_ ?_) <;> (first | (with_reducible refine zav ?_; try simp only [evb, kb, hN, seval, pvb, h0, zaa]) | (simp [evb, kb, hN, h0, zaa, sdb] <;> omega))) | ((with_reducible refine zap ?_ ?_); (· simp [evb, kb, hN, h0, zaa, sdb]); try simp only [evb, kb, hN, seval, pvb, h0, zaa]) | ((with_reducible refine zao ?_ ?_); (· simp [evb, kb, hN, h0, zaa, sdb]); try simp only [evb, kb, hN, seval, pvb, h0, zaa]) | ((with_reducible apply zan); (· exact rfl); (· exact rfl); (· simp [evb, kb, hN, h0, zaa, sdb]); try simp only [evb, kb, hN, seval, pvb, h0, zaa]) | ((with_reducible apply zar); (· exact rfl); (· exact rfl); (· simp [evb, kb, hN, h0, zaa, sdb]); try simp only [evb, kb, hN, seval, pvb, h0, zaa]) | ((with_reducible apply zas); (· exact rfl); (· exact rfl); (· simp [evb, kb, hN, h0, zaa, sdb]); try simp only [evb, kb, hN, seval, pvb, h0, zaa])))
  have e : (if (32767 : Int) < (l.length : Int) then (32767 : Int) else (l.length : Int)) = ((l.take MOST).length : Int) := by
    simp only [List.length_take, MOST]; split <;> omega
  rw [e]
  have hle : (l.take MOST).length ≤ cl := by simp only [List.length_take]; omega
  refine wl_sliceTo (e := 5) (oa := ol) (len := l.length) (n := (l.take MOST).length) (k := .i64) (cap := cl) (by kernel_rfl) (by simp [evb, kb, hN, h0, sdb]) (by simp [evb, kb, hN, sdb]) hle ?_
  (repeat (first | ((with_reducible refine zaw ?_ ?_ ?_ ?_); (· exact rfl); (· simp [evb, kb, hN, zaa, dyb, sdb] <;> omega); (· kernel_rfl); try simp only [evb, kb, hN, seval, pvb, zaa]) | ((with_reducible refine zad ?_ ?_ ?_); rotate_left 1; (· simp [evb, kb, hN, zaa, sdb]); rotate_left 1; (· kernel_rfl); try simp only [evb, kb, hN, seval, pvb, zaa]) | ((with_reducible first | refine zay ?_ ?_ ?_ | refine zax ?_ ?_ ?_ | refine zaz ?_ ?_) <;> (first | (with_reducible refine zav ?_; try simp only [evb, kb, hN, seval, pvb, zaa]) | (simp [evb, kb, hN, zaa, sdb] <;> omega))) | ((with_reducible refine zap ?_ ?_); (· simp [evb, kb, hN, zaa, sdb]); try simp only [evb, kb, hN, seval, pvb, zaa]) | ((with_reducible refine zao ?_ ?_); (· simp [evb, kb, hN, zaa, sdb]); try simp only [evb, kb, hN, seval, pvb, zaa]) | ((with_reducible apply zan); (· exact rfl); (· exact rfl); (· simp [evb, kb, hN, zaa, sdb]); try simp only [evb, kb, hN, seval, pvb, zaa]) | ((with_reducible apply zar); (· exact rfl); (· exact rfl); (· simp [evb, kb, hN, zaa, sdb]); try simp only [evb, kb, hN, seval, pvb, zaa]) | ((with_reducible apply zas); (· exact rfl); (· exact rfl); (· simp [evb, kb, hN, zaa, sdb]); try simp only [evb, kb, hN, seval, pvb, zaa])))
  refine zag ?_; refine hK _ _ ?_; clear hK K
  refine wp_ret ⟨by simp [zaf, hD], ?_⟩; simp only [evb, kb, hN, seval]
  refine ⟨⟨ol, cl, rfl, hle, ?_⟩, trivial⟩
  rcases hl with rfl | ⟨g, o, cs, T, h1, h2, h3, h4⟩
  · exact .inl (by simp)
  · exact .inr ⟨g, o, cs, T, h1, h2, h3, h4.take _⟩
theorem whole_c (l : Bs) {w : World} {ob : Option Addr} {cb : Nat} (hcb : l.length ≤ cb) :
    zaG Try.prog 37 #[.slice ob l.length cb] w fun r w' => r = .slice ob (l.take MOST).length cb ∧ w' = w := by
  refine zaA Try.func37 rfl rfl Try.ntmps37 (by simp) ?_
  intro a hN hD ha
  have h0 : get a 0 = .slice ob l.length cb := ha 0 _ rfl
  refine wp_seq_k fun K hK => ?_; refine zai ?_; (repeat (first | ((with_reducible refine zaw ?_ ?_ ?_ ?_); (· exact rfl); (· simp [evb, kb, hN, dyb, sdb] <;> omega); (· kernel_rfl); try simp only [evb, kb, hN, seval, pvb]) | ((with_reducible refine zad ?_ ?_ ?_); rotate_left 1; (· simp [evb, kb, hN, sdb]); rotate_left 1; (· kernel_rfl); try simp only [evb, kb, hN, seval, pvb]))); refine zag ?_; refine hK _ _ ?_; clear hK K
  refine wp_seq_k fun K hK => ?_; refine zai ?_; (repeat (first | ((with_reducible refine zaw ?_ ?_ ?_ ?_); (· exact rfl); (· simp [evb, kb, hN, h0, zaa, dyb, sdb] <;> omega); (· kernel_rfl); try simp only [evb, kb, hN, seval, pvb, h0, zaa]) | ((with_reducible refine zad ?_ ?_ ?_); rotate_left 1; (· simp [evb, kb, hN, h0, zaa, sdb]); rotate_left 1; (· kernel_rfl); try simp only [evb, kb, hN, seval, pvb, h0, zaa]) | ((with_reducible first | refine zay ?_ ?_ ?_ | refine zax ?_ ?_ ?_ | refine zaz ?_ ?_) <;> (first | (with_reducible refine zav ?_; try simp only [evb, kb, hN, seval, pvb, h0, zaa]) | (simp [evb, kb, hN, h0, zaa, sdb] <;> omega))) | ((with_reducible refine zap ?_ ?_); (· simp [evb, kb, hN, h0, zaa, sdb]); try simp only [evb, kb, hN, seval, pvb, h0, zaa]) | ((with_reducible refine zao ?_ ?_); (· simp [evb, kb, hN, h0, zaa, sdb]); try simp only [evb, kb, hN, seval, pvb, h0, zaa]) | ((with_reducible apply zan); (· exact rfl); (· exact rfl); (· simp [evb, kb, hN, h0, zaa, sdb]); try simp only [evb, kb, hN, seval, pvb, h0, zaa]) | ((with_reducible apply zar); (· exact rfl); (· exact rfl); (· simp [evb, kb, hN, h0, zaa, sdb]); try simp only [evb, kb, hN, seval, pvb, h0, zaa]) | ((with_reducible apply zas); (· exact rfl); (· exact rfl); (· simp [evb, kb, hN, h0, zaa, sdb]); try simp only [evb, kb, hN, seval, pvb, h0, zaa])))
  have e : (if (32767 : Int) < (l.length : Int) then (32767 : Int) else (l.length : Int)) = ((l.take MOST).length : Int) := by
    simp only [List.length_take, MOST]; split <;> omega
  rw [e]
  have hle : (l.take MOST).length ≤ cb := by simp only [List.length_take]; omega
  refine wl_sliceTo (e := 1) (oa := ob) (len := l.length) (n := (l.take MOST).length) (k := .i64) (cap := cb) (by kernel_rfl) (by simp [evb, kb, hN, h0, sdb]) (by simp [evb, kb, hN, sdb]) hle ?_
  (repeat (first | ((with_reducible refine zaw ?_ ?_ ?_ ?_); (· exact rfl); (· simp [evb, kb, hN, zaa, dyb, sdb] <;> omega); (· kernel_rfl); try simp only [evb, kb, hN, seval, pvb, zaa]) | ((with_reducible refine zad ?_ ?_ ?_); rotate_left 1; (· simp [evb, kb, hN, zaa, sdb]); rotate_left 1; (· kernel_rfl); try simp only [evb, kb, hN, seval, pvb, zaa]) | ((with_reducible first | refine zay ?_ ?_ ?_ | refine zax ?_ ?_ ?_ | refine zaz ?_ ?_) <;> (first | (with_reducible refine zav ?_; try simp only [evb, kb, hN, seval, pvb, zaa]) | (simp [evb, kb, hN, zaa, sdb] <;> omega))) | ((with_reducible refine zap ?_ ?_); (· simp [evb, kb, hN, zaa, sdb]); try simp only [evb, kb, hN, seval, pvb, zaa]) | ((with_reducible refine zao ?_ ?_); (· simp [evb, kb, hN, zaa, sdb]); try simp only [evb, kb, hN, seval, pvb, zaa]) | ((with_reducible apply zan); (· exact rfl); (· exact rfl); (· simp [evb, kb, hN, zaa, sdb]); try simp only [evb, kb, hN, seval, pvb, zaa]) | ((with_reducible apply zar); (· exact rfl); (· exact rfl); (· simp [evb, kb, hN, zaa, sdb]); try simp only [evb, kb, hN, seval, pvb, zaa]) | ((with_reducible apply zas); (· exact rfl); (· exact rfl); (· simp [evb, kb, hN, zaa, sdb]); try simp only [evb, kb, hN, seval, pvb, zaa])))
  refine zag ?_; refine hK _ _ ?_; clear hK K
  refine wp_ret ⟨by simp [zaf, hD], ?_⟩; simp only [evb, kb, hN, seval]
  exact ⟨trivial, trivial⟩
theorem be_step (k : Nat) (n : Int) : be (k + 1) n = byte (n / 256 ^ k) :: be k n := rfl
theorem Fixed_c (n : Int) (wd : Nat) (hw : wd ≤ 8) {w : World} : zaG Try.prog 46 #[.int .i64 n, .int .i64 wd] w fun v w' => Octs w v (be wd n) w' := by
  refine zaA Try.func46 rfl rfl Try.ntmps46 (by simp) ?_
  intro a hN hD ha
  have h0 : get a 0 = .int .i64 n := ha 0 _ rfl
  have h1 : get a 1 = .int .i64 wd := ha 1 _ rfl
  refine wp_seq_k fun K hK => ?_; refine zai ?_; (repeat (first | ((with_reducible refine zaw ?_ ?_ ?_ ?_); (· exact rfl); (· simp [evb, kb, hN, dyb, sdb] <;> omega); (· kernel_rfl); try simp only [evb, kb, hN, seval, pvb]) | ((with_reducible refine zad ?_ ?_ ?_); rotate_left 1; (· simp [evb, kb, hN, sdb]); rotate_left 1; (· kernel_rfl); try simp only [evb, kb, hN, seval, pvb]))); refine zag ?_; refine hK _ _ ?_; clear hK K
  refine wp_seq_k fun K hK => ?_; refine zai ?_; (repeat (first | ((with_reducible refine zaw ?_ ?_ ?_ ?_); (· exact rfl); (· simp [evb, kb, hN, dyb, sdb] <;> omega); (· kernel_rfl); try simp only [evb, kb, hN, seval, pvb]) | ((with_reducible refine zad ?_ ?_ ?_); rotate_left 1; (· simp [evb, kb, hN, sdb]); rotate_left 1; (· kernel_rfl); try simp only [evb, kb, hN, seval, pvb]))); refine zag ?_; refine hK _ _ ?_; clear hK K
  refine wp_seq_k fun K0 hK0 => ?_; refine wp_seq_k fun K hK => ?_; refine zai ?_; (repeat (first | ((with_reducible refine zaw ?_ ?_ ?_ ?_); (· exact rfl); (· simp [evb, kb, hN, h1, dyb, sdb] <;> omega); (· kernel_rfl); try simp only [evb, kb, hN, seval, pvb, h1]) | ((with_reducible refine zad ?_ ?_ ?_); rotate_left 1; (· simp [evb, kb, hN, h1, sdb]); rotate_left 1; (· kernel_rfl); try simp only [evb, kb, hN, seval, pvb, h1])))
  rw [i64_id ((wd : Int) - 1) (by omega)]
  refine zag ?_; refine hK _ _ ?_; clear hK K
  refine wp_block ?_
  refine wp_loop (fun a' w' => ∃ (j : Nat) (bs : Bs), j ≤ wd ∧ a'.tmps.size = 22 ∧ a'.defers = [] ∧ get a' 0 = .int .i64 n ∧ get a' 6 = .int .i64 ((j : Int) - 1) ∧ Own eB w' w.heap.size (get a' 5) bs ∧ bs ++ be j n = be wd n ∧ bs.length ≤ 8 ∧ Chg (fun k => w.heap.size ≤ k) w w')
    (fun a' _ => (intOf (get a' 6) + 1).toNat) ?_ ?_
  · exact ⟨wd, [], Nat.le_refl _, by simp only [evb, kb, hN, seval], by simp [zaf, hD], by simp only [evb, kb, hN, seval, h0], by simp only [evb, kb, hN, seval], by simp only [evb, kb, hN, seval]; exact Own.nil _ _ _, by simp, by simp, Chg.refl _ _⟩
  clear hN hD
  rintro a1 w1 ⟨j, bs, hj, hN, hD, g0, g6, hown, hbe, hbl, hchg⟩
  refine wp_seq_k fun K1 hK1 => ?_; refine wp_seq_k fun K2 hK2 => ?_; refine zai ?_; (repeat (first | ((with_reducible refine zaw ?_ ?_ ?_ ?_); (· exact rfl); (· simp [evb, kb, hN, g6, dyb, sdb] <;> omega); (· kernel_rfl); try simp only [evb, kb, hN, seval, pvb, g6]) | ((with_reducible refine zad ?_ ?_ ?_); rotate_left 1; (· simp [evb, kb, hN, g6, sdb]); rotate_left 1; (· kernel_rfl); try simp only [evb, kb, hN, seval, pvb, g6])))
  cases j with
  | zero =>
    have e1 : decide ((0 : Int) ≤ ((0 : Nat) : Int) - 1) = false := rfl
    rw [e1]
    refine zag ?_
    refine hK2 _ _ ?_; try clear hK2 K2
    refine wp_cond_false (by simp [evb, kb, hN, sdb]) ?_
    refine wp_exit ?_
    simp only [Exit.then, Exit.inBlock, if_pos]
    refine hK0 _ _ ?_; try clear hK0 K0
    refine wp_seq_k fun K hK => ?_; refine zai ?_; (repeat (first | ((with_reducible refine zaw ?_ ?_ ?_ ?_); (· exact rfl); (· simp [evb, kb, hN, dyb, sdb] <;> omega); (· kernel_rfl); try simp only [evb, kb, hN, seval, pvb]) | ((with_reducible refine zad ?_ ?_ ?_); rotate_left 1; (· simp [evb, kb, hN, sdb]); rotate_left 1; (· kernel_rfl); try simp only [evb, kb, hN, seval, pvb]))); refine zag ?_; refine hK _ _ ?_; clear hK K
    refine wp_ret ⟨by simp [zaf, hD], ?_⟩; simp only [evb, kb, hN, seval]
    simp only [be, List.append_nil] at hbe
    rw [hbe] at hown
    exact ⟨hown, chg_own hchg⟩
  | succ j =>
    have e1 : decide ((0 : Int) ≤ ((j + 1 : Nat) : Int) - 1) = true := decide_eq_true (by omega)
    rw [e1]
    refine zag ?_
    refine hK2 _ _ ?_; try clear hK2 K2
    refine wp_cond_true (by simp [evb, kb, hN, sdb]) ?_
    refine wp_skip ?_
    refine hK1 _ _ ?_; try clear hK1 K1
    refine wp_seq_k fun K1 hK1 => ?_
    refine wp_block ?_
    refine zai ?_
    (repeat (first | ((with_reducible refine zaw ?_ ?_ ?_ ?_); (· exact rfl); (· simp [evb, kb, hN, g0, g6, zaa, dyb, sdb] <;> omega); (· kernel_rfl); try simp only [evb, kb, hN, seval, pvb, g0, g6, zaa]) | ((with_reducible refine zad ?_ ?_ ?_); rotate_left 1; (· simp [evb, kb, hN, g0, g6, zaa, sdb]); rotate_left 1; (· kernel_rfl); try simp only [evb, kb, hN, seval, pvb, g0, g6, zaa]) | ((with_reducible first | refine zay ?_ ?_ ?_ | refine zax ?_ ?_ ?_ | refine zaz ?_ ?_) <;> (first | (with_reducible refine zav ?_; try simp only [evb, kb, hN, seval, pvb, g0, g6, zaa]) | (simp [evb, kb, hN, g0, g6, zaa, sdb] <;> omega))) | ((with_reducible refine zap ?_ ?_); (· simp [evb, kb, hN, g0, g6, zaa, sdb]); try simp only [evb, kb, hN, seval, pvb, g0, g6, zaa]) | ((with_reducible refine zao ?_ ?_); (· simp [evb, kb, hN, g0, g6, zaa, sdb]); try simp only [evb, kb, hN, seval, pvb, g0, g6, zaa]) | ((with_reducible apply zan); (· exact rfl); (· exact rfl); (· simp [evb, kb, hN, g0, g6, zaa, sdb]); try simp only [evb, kb, hN, seval, pvb, g0, g6, zaa]) | ((with_reducible apply zar); (· exact rfl); (· exact rfl); (· simp [evb, kb, hN, g0, g6, zaa, sdb]); try simp only [evb, kb, hN, seval, pvb, g0, g6, zaa]) | ((with_reducible apply zas); (· exact rfl); (· exact rfl); (· simp [evb, kb, hN, g0, g6, zaa, sdb]); try simp only [evb, kb, hN, seval, pvb, g0, g6, zaa])))
    have e2 : IntKind.i64.wrap (8 * (((j + 1 : Nat) : Int) - 1)) = ((8 * j : Nat) : Int) := by
      rw [i64_id _ (by omega)]; omega
    rw [e2]
    refine wl_shrV (c := 8 * j) (j := .i64) (by simp [evb, kb, hN, sdb]) (by simp [evb, kb, hN, sdb]) ?_
    (repeat (first | ((with_reducible refine zaw ?_ ?_ ?_ ?_); (· exact rfl); (· simp [evb, kb, hN, g0, g6, zaa, dyb, sdb] <;> omega); (· kernel_rfl); try simp only [evb, kb, hN, seval, pvb, g0, g6, zaa]) | ((with_reducible refine zad ?_ ?_ ?_); rotate_left 1; (· simp [evb, kb, hN, g0, g6, zaa, sdb]); rotate_left 1; (· kernel_rfl); try simp only [evb, kb, hN, seval, pvb, g0, g6, zaa]) | ((with_reducible first | refine zay ?_ ?_ ?_ | refine zax ?_ ?_ ?_ | refine zaz ?_ ?_) <;> (first | (with_reducible refine zav ?_; try simp only [evb, kb, hN, seval, pvb, g0, g6, zaa]) | (simp [evb, kb, hN, g0, g6, zaa, sdb] <;> omega))) | ((with_reducible refine zap ?_ ?_); (· simp [evb, kb, hN, g0, g6, zaa, sdb]); try simp only [evb, kb, hN, seval, pvb, g0, g6, zaa]) | ((with_reducible refine zao ?_ ?_); (· simp [evb, kb, hN, g0, g6, zaa, sdb]); try simp only [evb, kb, hN, seval, pvb, g0, g6, zaa]) | ((with_reducible apply zan); (· exact rfl); (· exact rfl); (· simp [evb, kb, hN, g0, g6, zaa, sdb]); try simp only [evb, kb, hN, seval, pvb, g0, g6, zaa]) | ((with_reducible apply zar); (· exact rfl); (· exact rfl); (· simp [evb, kb, hN, g0, g6, zaa, sdb]); try simp only [evb, kb, hN, seval, pvb, g0, g6, zaa]) | ((with_reducible apply zas); (· exact rfl); (· exact rfl); (· simp [evb, kb, hN, g0, g6, zaa, sdb]); try simp only [evb, kb, hN, seval, pvb, g0, g6, zaa])))
    have e3 : n / 2 ^ (min (8 * j) (IntKind.i64.bits)) = n / 256 ^ j := by
      rw [Nat.min_eq_left (by simp [IntKind.bits]; omega), Int.pow_mul]; rfl
    rw [e3, bv]
    rw [be_step] at hbe
    refine wl_appLit [byte (n / 256 ^ j)] (by simp [evb, kb, hN, sdb]) rfl (by simp) (x := .tmp 13) (v := get a1 5) (by simp [evb, kb, hN, sdb]) (by simp [evb, kb, hN, sdb]) hown (by simp [LIM]; omega) hchg.size ?_
    intro v' w2 happ
    refine zat ?_
    simp only [evb, kb, hN, seval]
    refine zag ?_
    simp only [Exit.then, Exit.inBlock]
    refine hK1 _ _ ?_; try clear hK1 K1
    refine zai ?_
    (repeat (first | ((with_reducible refine zaw ?_ ?_ ?_ ?_); (· exact rfl); (· simp [evb, kb, hN, g6, dyb, sdb] <;> omega); (· kernel_rfl); try simp only [evb, kb, hN, seval, pvb, g6]) | ((with_reducible refine zad ?_ ?_ ?_); rotate_left 1; (· simp [evb, kb, hN, g6, sdb]); rotate_left 1; (· kernel_rfl); try simp only [evb, kb, hN, seval, pvb, g6])))
    rw [i64_id (((j + 1 : Nat) : Int) - 1 - 1) (by omega)]
    refine zag ?_
    have hc2 := happ.chgFrom hown
    refine ⟨⟨j, bs ++ [byte (n / 256 ^ j)], by omega, by simp only [evb, kb, hN, seval], by simp [zaf, hD], by simp only [evb, kb, hN, seval, g0], by simp only [evb, kb, hN, seval]; congr 1; omega, by simp only [evb, kb, hN, seval]; exact happ.own, ?_, ?_, hchg.trans hc2 fun _ _ h => h⟩, ?_⟩
    · simpa using hbe
    · have := congrArg List.length hbe
      simp only [be_length, List.length_append, List.length_cons] at this
      simp; omega
    · simp only [evb, kb, hN, seval, g6, intOf]
      omega
end Go.Proofs.Ytiohfpnpnofimaa
namespace Go.Proofs.Ytiohfpnpnofimaa
set_option linter.all false
open Go.RowKit
set_option maxRecDepth 10000
set_option maxHeartbeats 1000000
theorem wl_lit {ops : Array Oper} {Q : Exit → Act → World → Prop} {a : Act} {w : World} {rest : List Oper} {d : Option Nat} {ty : TypeId} {pos : String} {af : Array Edge}
    {n : Nat} {parts : Array (Nat × Operand)} (vs : Bs)
    (hp : (parts.map fun y => (y.1, a.eval y.2)) = ((vs.map zaI).zipIdx.map fun y => (y.2, y.1)).toArray) (hn : n = vs.length) (h8 : vs.length ≤ 8)
    (h : ∀ v' w', Own eB w' w.heap.size v' vs → Chg (fun _ => False) w w' → WL Try.prog ops Q rest (a.put d v') w') :
    WL Try.prog ops Q (⟨d, .buildSlice 28 n parts, ty, pos, af, none⟩ :: rest) a w := by
  subst hn
  have hr := run_lit (w := w) vs (by omega)
  rw [← hp] at hr
  refine zaK rfl (by simp only [execOp, Sem.run_bind, hr]; rfl) (h _ _ ⟨by simp, .inr ⟨w.heap.size, vs.length, (vs.map zaI).toArray, rfl, Nat.le_refl _, heap_alloc_new w _, Nat.le_refl _, by unfold maxLen; omega, by simp, by simp [← List.map_take]⟩⟩ (Chg.alloc _ _ _))
theorem Uvarint_c (n : Nat) (hn : n < 4294967296) {w : World} : zaG Try.prog 35 #[.int .u64 n] w fun v w' => Octs w v (uvar n) w' := by
  refine zaA Try.func35 rfl rfl Try.ntmps35 (by simp) ?_
  intro a hN hD ha
  have h0 : get a 0 = .int .u64 n := ha 0 _ rfl
  refine wp_seq_k fun K hK => ?_; refine zai ?_; (repeat (first | ((with_reducible refine zaw ?_ ?_ ?_ ?_); (· exact rfl); (· simp [evb, kb, hN, dyb, sdb] <;> omega); (· kernel_rfl); try simp only [evb, kb, hN, seval, pvb]) | ((with_reducible refine zad ?_ ?_ ?_); rotate_left 1; (· simp [evb, kb, hN, sdb]); rotate_left 1; (· kernel_rfl); try simp only [evb, kb, hN, seval, pvb]) | ((with_reducible first | refine zaB ?_ ?_ ?_ | refine zam ?_ ?_ | refine zaq ?_ ?_ ?_) <;> (first | (with_reducible refine zav ?_; try simp only [evb, kb, hN, seval, pvb]) | (simp [evb, kb, hN, sdb] <;> omega))))); refine zag ?_; refine hK _ _ ?_; clear hK K
  refine wp_seq_k fun K hK => ?_; refine zai ?_; (repeat (first | ((with_reducible refine zaw ?_ ?_ ?_ ?_); (· exact rfl); (· simp [evb, kb, hN, dyb, sdb] <;> omega); (· kernel_rfl); try simp only [evb, kb, hN, seval, pvb]) | ((with_reducible refine zad ?_ ?_ ?_); rotate_left 1; (· simp [evb, kb, hN, sdb]); rotate_left 1; (· kernel_rfl); try simp only [evb, kb, hN, seval, pvb]) | ((with_reducible first | refine zaB ?_ ?_ ?_ | refine zam ?_ ?_ | refine zaq ?_ ?_ ?_) <;> (first | (with_reducible refine zav ?_; try simp only [evb, kb, hN, seval, pvb]) | (simp [evb, kb, hN, sdb] <;> omega))))); refine zag ?_; refine hK _ _ ?_; clear hK K
  refine wp_seq_k fun K0 hK0 => ?_
  refine wp_block ?_
  refine wp_loop (fun a' w' => ∃ (k m : Nat) (bs : Bs), m < 16 * 128 ^ k ∧ k ≤ 4 ∧ a'.tmps.size = 20 ∧ a'.defers = [] ∧ get a' 0 = .int .u64 m ∧ Own eB w' w.heap.size (get a' 3) bs ∧ bs ++ uvarAux k m = uvar n ∧ bs.length + k ≤ 4 ∧ Chg (fun k => w.heap.size ≤ k) w w')
    (fun a' _ => (intOf (get a' 0)).toNat) ?_ ?_
  · exact ⟨4, n, [], by omega, Nat.le_refl _, by simp only [evb, kb, hN, seval], by simp [zaf, hD], by simp only [evb, kb, hN, seval, h0], by simp only [evb, kb, hN, seval]; exact Own.nil _ _ _, rfl, by simp, Chg.refl _ _⟩
  clear hN hD
  rintro a1 w1 ⟨k, m, bs, hm, hk, hN, hD, g0, hown, hbe, hbl, hchg⟩
  have hm64 : m < 18446744073709551616 := by
    have : 128 ^ k ≤ 128 ^ 4 := Nat.pow_le_pow_right (by omega) hk
    omega
  refine wp_seq_k fun K1 hK1 => ?_; refine wp_seq_k fun K2 hK2 => ?_; refine zai ?_; (repeat (first | ((with_reducible refine zaw ?_ ?_ ?_ ?_); (· exact rfl); (· simp [evb, kb, hN, g0, dyb, sdb] <;> omega); (· kernel_rfl); try simp only [evb, kb, hN, seval, pvb, g0]) | ((with_reducible refine zad ?_ ?_ ?_); rotate_left 1; (· simp [evb, kb, hN, g0, sdb]); rotate_left 1; (· kernel_rfl); try simp only [evb, kb, hN, seval, pvb, g0]) | ((with_reducible first | refine zaB ?_ ?_ ?_ | refine zam ?_ ?_ | refine zaq ?_ ?_ ?_) <;> (first | (with_reducible refine zav ?_; try simp only [evb, kb, hN, seval, pvb, g0]) | (simp [evb, kb, hN, g0, sdb] <;> omega)))))
  by_cases hlt : m ≤ 127
  · have e1 : decide ((127 : Int) < (m : Int)) = false := decide_eq_false (by omega)
    rw [e1]
    refine zag ?_
    refine hK2 _ _ ?_; try clear hK2 K2
    refine wp_cond_false (by simp [evb, kb, hN, sdb]) ?_
    refine wp_exit ?_
    simp only [Exit.then, Exit.inBlock, if_pos]
    refine hK0 _ _ ?_; try clear hK0 K0
    refine wp_seq_k fun K hK => ?_; refine zai ?_; (repeat (first | ((with_reducible refine zaw ?_ ?_ ?_ ?_); (· exact rfl); (· simp [evb, kb, hN, g0, dyb, sdb] <;> omega); (· kernel_rfl); try simp only [evb, kb, hN, seval, pvb, g0]) | ((with_reducible refine zad ?_ ?_ ?_); rotate_left 1; (· simp [evb, kb, hN, g0, sdb]); rotate_left 1; (· kernel_rfl); try simp only [evb, kb, hN, seval, pvb, g0]) | ((with_reducible first | refine zaB ?_ ?_ ?_ | refine zam ?_ ?_ | refine zaq ?_ ?_ ?_) <;> (first | (with_reducible refine zav ?_; try simp only [evb, kb, hN, seval, pvb, g0]) | (simp [evb, kb, hN, g0, sdb] <;> omega)))))
    rw [bv]
    have hb : uvarAux k m = [byte m] := by
      have e : UInt8.ofNat m = byte m := by
        unfold byte; congr 1; omega
      cases k with
      | zero => simp [uvarAux, e]
      | succ k => simp only [uvarAux]; rw [if_pos (by omega), e]
    refine wl_appLit [byte m] (by simp [evb, kb, hN, sdb]) rfl (by simp) (x := .tmp 15) (v := get a1 3) (by simp [evb, kb, hN, sdb]) (by simp [evb, kb, hN, sdb]) hown (by simp [LIM]; omega) hchg.size ?_
    intro v' w2 happ
    refine zat ?_
    simp only [evb, kb, hN, seval]
    refine zag ?_; refine hK _ _ ?_; clear hK K
    refine wp_ret ⟨by simp [zaf, hD], ?_⟩; simp only [evb, kb, hN, seval]
    rw [hb] at hbe
    rw [← hbe]
    exact ⟨happ.own, chg_own (hchg.trans (happ.chgFrom hown) fun _ _ h => h)⟩
  · have e1 : decide ((127 : Int) < (m : Int)) = true := decide_eq_true (by omega)
    rw [e1]
    refine zag ?_
    refine hK2 _ _ ?_; try clear hK2 K2
    refine wp_cond_true (by simp [evb, kb, hN, sdb]) ?_
    refine wp_skip ?_
    refine hK1 _ _ ?_; try clear hK1 K1
    cases k with
    | zero => omega
    | succ k =>
    refine wp_block ?_
    refine wp_seq_k fun K3 hK3 => ?_; refine zai ?_
    (repeat (first | ((with_reducible refine zaw ?_ ?_ ?_ ?_); (· exact rfl); (· simp [evb, kb, hN, g0, dyb, sdb] <;> omega); (· kernel_rfl); try simp only [evb, kb, hN, seval, pvb, g0]) | ((with_reducible refine zad ?_ ?_ ?_); rotate_left 1; (· simp [evb, kb, hN, g0, sdb]); rotate_left 1; (· kernel_rfl); try simp only [evb, kb, hN, seval, pvb, g0]) | ((with_reducible first | refine zaB ?_ ?_ ?_ | refine zam ?_ ?_ | refine zaq ?_ ?_ ?_) <;> (first | (with_reducible refine zav ?_; try simp only [evb, kb, hN, seval, pvb, g0]) | (simp [evb, kb, hN, g0, sdb] <;> omega)))))
    have e2 : IntKind.u8.wrap ((m : Int) % 128) = (m : Int) % 128 := by
      rw [wrap_u8]; omega
    rw [e2]
    (repeat (first | ((with_reducible refine zaw ?_ ?_ ?_ ?_); (· exact rfl); (· simp [evb, kb, hN, g0, dyb, sdb] <;> omega); (· kernel_rfl); try simp only [evb, kb, hN, seval, pvb, g0]) | ((with_reducible refine zad ?_ ?_ ?_); rotate_left 1; (· simp [evb, kb, hN, g0, sdb]); rotate_left 1; (· kernel_rfl); try simp only [evb, kb, hN, seval, pvb, g0]) | ((with_reducible first | refine zaB ?_ ?_ ?_ | refine zam ?_ ?_ | refine zaq ?_ ?_ ?_) <;> (first | (with_reducible refine zav ?_; try simp only [evb, kb, hN, seval, pvb, g0]) | (simp [evb, kb, hN, g0, sdb] <;> omega)))))
    have e5 : Value.int .u8 ((m : Int) % 128 + 128) = zaI (byte ((m : Int) % 128 + 128)) := by
      rw [← byteV_byte]; congr 1; omega
    rw [e5]
    have hb : uvarAux (k + 1) m = byte ((m : Int) % 128 + 128) :: uvarAux k (m / 128) := by
      have e : UInt8.ofNat (m % 128 + 128) = byte ((m : Int) % 128 + 128) := by
        unfold byte; congr 1; omega
      simp only [uvarAux]; rw [if_neg (by omega), e]
    rw [hb] at hbe
    refine wl_appLit [byte ((m : Int) % 128 + 128)] (by simp [evb, kb, hN, sdb]) rfl (by simp) (x := .tmp 6) (v := get a1 3) (by simp [evb, kb, hN, sdb]) (by simp [evb, kb, hN, sdb]) hown (by simp [LIM]; omega) hchg.size ?_
    intro v' w2 happ
    refine zat ?_
    simp only [evb, kb, hN, seval]
    refine zag ?_
    refine hK3 _ _ ?_; try clear hK3 K3
    refine zai ?_
    (repeat (first | ((with_reducible refine zaw ?_ ?_ ?_ ?_); (· exact rfl); (· simp [evb, kb, hN, g0, dyb, sdb] <;> omega); (· kernel_rfl); try simp only [evb, kb, hN, seval, pvb, g0]) | ((with_reducible refine zad ?_ ?_ ?_); rotate_left 1; (· simp [evb, kb, hN, g0, sdb]); rotate_left 1; (· kernel_rfl); try simp only [evb, kb, hN, seval, pvb, g0]) | ((with_reducible first | refine zaB ?_ ?_ ?_ | refine zam ?_ ?_ | refine zaq ?_ ?_ ?_) <;> (first | (with_reducible refine zav ?_; try simp only [evb, kb, hN, seval, pvb, g0]) | (simp [evb, kb, hN, g0, sdb] <;> omega)))))
    refine zag ?_
    simp only [Exit.inBlock, Exit.then]
    have e4 : (m : Int) / 2 ^ (min 7 IntKind.u64.bits) = ((m / 128 : Nat) : Int) := by
      simp [IntKind.bits]
    refine ⟨⟨k, m / 128, bs ++ [byte ((m : Int) % 128 + 128)], ?_, by omega, by simp only [evb, kb, hN, seval], by simp [zaf, hD], ?_, by simp only [evb, kb, hN, seval]; exact happ.own, by simpa using hbe, by simp; omega, hchg.trans (happ.chgFrom hown) fun _ _ h => h⟩, ?_⟩
    · have : 128 ^ (k + 1) = 128 * 128 ^ k := by rw [Nat.pow_succ]; omega
      omega
    · simp only [evb, kb, hN, seval, g0]
      rw [← e4]
    · simp only [evb, kb, hN, seval, g0, intOf]
      have : (m : Int) / 2 ^ (min 7 IntKind.u64.bits) = (m : Int) / 128 := rfl
      omega
theorem wrap_u64 {n : Nat} (h : n < 18446744073709551616) : IntKind.u64.wrap (n : Int) = n := by
  have e : IntKind.u64.wrap (n : Int) = (n : Int) % 18446744073709551616 := by simp [IntKind.wrap, IntKind.bits, IntKind.signed]
  rw [e]; omega
theorem counted_c (flex nul : Bool) (n wd : Nat) (hn : n < 4294967295) (hw : wd ≤ 8) {w : World} :
    zaG Try.prog 44 #[.bool flex, .bool nul, .int .i64 n, .int .i64 wd] w fun v w' => Octs w v (sCount flex nul n wd) w' := by
  refine zaA Try.func44 rfl rfl Try.ntmps44 (by simp) ?_
  intro a hN hD ha
  have h0 : get a 0 = .bool flex := ha 0 _ rfl
  have h1 : get a 1 = .bool nul := ha 1 _ rfl
  have h2 : get a 2 = .int .i64 n := ha 2 _ rfl
  have h3 : get a 3 = .int .i64 wd := ha 3 _ rfl
  refine wp_seq_k fun K hK => ?_; refine zai ?_; (repeat (first | ((with_reducible refine zaw ?_ ?_ ?_ ?_); (· exact rfl); (· simp [evb, kb, hN, dyb, sdb] <;> omega); (· kernel_rfl); try simp only [evb, kb, hN, seval, pvb]) | ((with_reducible refine zad ?_ ?_ ?_); rotate_left 1; (· simp [evb, kb, hN, sdb]); rotate_left 1; (· kernel_rfl); try simp only [evb, kb, hN, seval, pvb]) | ((with_reducible first | refine zaB ?_ ?_ ?_ | refine zam ?_ ?_ | refine zaq ?_ ?_ ?_) <;> (first | (with_reducible refine zav ?_; try simp only [evb, kb, hN, seval, pvb]) | (simp [evb, kb, hN, sdb] <;> omega))))); refine zag ?_; refine hK _ _ ?_; clear hK K
  refine wp_seq_k fun K0 hK0 => ?_
  refine wp_block ?_
  refine wp_seq_k fun K hK => ?_; refine zai ?_
  cases flex with
  | true =>
    cases nul with
    | true =>
      (repeat (first | ((with_reducible refine zaw ?_ ?_ ?_ ?_); (· exact rfl); (· simp [evb, kb, hN, h0, h1, zaa, dyb, sdb] <;> omega); (· kernel_rfl); try simp only [evb, kb, hN, seval, pvb, h0, h1, zaa]) | ((with_reducible refine zad ?_ ?_ ?_); rotate_left 1; (· simp [evb, kb, hN, h0, h1, zaa, sdb]); rotate_left 1; (· kernel_rfl); try simp only [evb, kb, hN, seval, pvb, h0, h1, zaa]) | ((with_reducible first | refine zaB ?_ ?_ ?_ | refine zam ?_ ?_ | refine zaq ?_ ?_ ?_ | refine zay ?_ ?_ ?_ | refine zax ?_ ?_ ?_ | refine zaz ?_ ?_) <;> (first | (with_reducible refine zav ?_; try simp only [evb, kb, hN, seval, pvb, h0, h1, zaa]) | (simp [evb, kb, hN, h0, h1, zaa, sdb] <;> omega))) | ((with_reducible refine zap ?_ ?_); (· simp [evb, kb, hN, h0, h1, zaa, sdb]); try simp only [evb, kb, hN, seval, pvb, h0, h1, zaa]) | ((with_reducible refine zao ?_ ?_); (· simp [evb, kb, hN, h0, h1, zaa, sdb]); try simp only [evb, kb, hN, seval, pvb, h0, h1, zaa]) | ((with_reducible apply zan); (· exact rfl); (· exact rfl); (· simp [evb, kb, hN, h0, h1, zaa, sdb]); try simp only [evb, kb, hN, seval, pvb, h0, h1, zaa]) | ((with_reducible apply zar); (· exact rfl); (· exact rfl); (· simp [evb, kb, hN, h0, h1, zaa, sdb]); try simp only [evb, kb, hN, seval, pvb, h0, h1, zaa]) | ((with_reducible apply zas); (· exact rfl); (· exact rfl); (· simp [evb, kb, hN, h0, h1, zaa, sdb]); try simp only [evb, kb, hN, seval, pvb, h0, h1, zaa])))
      refine zag ?_; refine hK _ _ ?_; clear hK K
      refine wp_cond_true (by simp [evb, kb, hN, sdb]) ?_
      refine wp_seq_k fun K hK => ?_; refine zai ?_
      refine wl_lit [0] (by simp [evb, kb, hN, sdb]; rfl) rfl (by simp) ?_
      intro v w1 hown hc
      refine zat ?_
      simp only [evb, kb, hN, seval]
      refine zag ?_; refine hK _ _ ?_; clear hK K
      refine wp_ret ⟨by simp [zaf, hD], ?_⟩; simp only [evb, kb, hN, seval]
      exact ⟨hown, hc⟩
    | false =>
      (repeat (first | ((with_reducible refine zaw ?_ ?_ ?_ ?_); (· exact rfl); (· simp [evb, kb, hN, h0, h1, zaa, dyb, sdb] <;> omega); (· kernel_rfl); try simp only [evb, kb, hN, seval, pvb, h0, h1, zaa]) | ((with_reducible refine zad ?_ ?_ ?_); rotate_left 1; (· simp [evb, kb, hN, h0, h1, zaa, sdb]); rotate_left 1; (· kernel_rfl); try simp only [evb, kb, hN, seval, pvb, h0, h1, zaa]) | ((with_reducible first | refine zaB ?_ ?_ ?_ | refine zam ?_ ?_ | refine zaq ?_ ?_ ?_ | refine zay ?_ ?_ ?_ | refine zax ?_ ?_ ?_ | refine zaz ?_ ?_) <;> (first | (with_reducible refine zav ?_; try simp only [evb, kb, hN, seval, pvb, h0, h1, zaa]) | (simp [evb, kb, hN, h0, h1, zaa, sdb] <;> omega))) | ((with_reducible refine zap ?_ ?_); (· simp [evb, kb, hN, h0, h1, zaa, sdb]); try simp only [evb, kb, hN, seval, pvb, h0, h1, zaa]) | ((with_reducible refine zao ?_ ?_); (· simp [evb, kb, hN, h0, h1, zaa, sdb]); try simp only [evb, kb, hN, seval, pvb, h0, h1, zaa]) | ((with_reducible apply zan); (· exact rfl); (· exact rfl); (· simp [evb, kb, hN, h0, h1, zaa, sdb]); try simp only [evb, kb, hN, seval, pvb, h0, h1, zaa]) | ((with_reducible apply zar); (· exact rfl); (· exact rfl); (· simp [evb, kb, hN, h0, h1, zaa, sdb]); try simp only [evb, kb, hN, seval, pvb, h0, h1, zaa]) | ((with_reducible apply zas); (· exact rfl); (· exact rfl); (· simp [evb, kb, hN, h0, h1, zaa, sdb]); try simp only [evb, kb, hN, seval, pvb, h0, h1, zaa])))
      refine zag ?_; refine hK _ _ ?_; clear hK K
      refine wp_cond_false (by simp [evb, kb, hN, sdb]) ?_
      refine wp_seq_k fun K hK => ?_; refine zai ?_
      (repeat (first | ((with_reducible refine zaw ?_ ?_ ?_ ?_); (· exact rfl); (· simp [evb, kb, hN, h0, h1, zaa, dyb, sdb] <;> omega); (· kernel_rfl); try simp only [evb, kb, hN, seval, pvb, h0, h1, zaa]) | ((with_reducible refine zad ?_ ?_ ?_); rotate_left 1; (· simp [evb, kb, hN, h0, h1, zaa, sdb]); rotate_left 1; (· kernel_rfl); try simp only [evb, kb, hN, seval, pvb, h0, h1, zaa]) | ((with_reducible first | refine zaB ?_ ?_ ?_ | refine zam ?_ ?_ | refine zaq ?_ ?_ ?_ | refine zay ?_ ?_ ?_ | refine zax ?_ ?_ ?_ | refine zaz ?_ ?_) <;> (first | (with_reducible refine zav ?_; try simp only [evb, kb, hN, seval, pvb, h0, h1, zaa]) | (simp [evb, kb, hN, h0, h1, zaa, sdb] <;> omega))) | ((with_reducible refine zap ?_ ?_); (· simp [evb, kb, hN, h0, h1, zaa, sdb]); try simp only [evb, kb, hN, seval, pvb, h0, h1, zaa]) | ((with_reducible refine zao ?_ ?_); (· simp [evb, kb, hN, h0, h1, zaa, sdb]); try simp only [evb, kb, hN, seval, pvb, h0, h1, zaa]) | ((with_reducible apply zan); (· exact rfl); (· exact rfl); (· simp [evb, kb, hN, h0, h1, zaa, sdb]); try simp only [evb, kb, hN, seval, pvb, h0, h1, zaa]) | ((with_reducible apply zar); (· exact rfl); (· exact rfl); (· simp [evb, kb, hN, h0, h1, zaa, sdb]); try simp only [evb, kb, hN, seval, pvb, h0, h1, zaa]) | ((with_reducible apply zas); (· exact rfl); (· exact rfl); (· simp [evb, kb, hN, h0, h1, zaa, sdb]); try simp only [evb, kb, hN, seval, pvb, h0, h1, zaa])))
      refine zag ?_; refine hK _ _ ?_; clear hK K
      refine wp_cond_true (by simp [evb, kb, hN, sdb]) ?_
      refine wp_seq_k fun K hK => ?_; refine zai ?_
      (repeat (first | ((with_reducible refine zaw ?_ ?_ ?_ ?_); (· exact rfl); (· simp [evb, kb, hN, h2, dyb, sdb] <;> omega); (· kernel_rfl); try simp only [evb, kb, hN, seval, pvb, h2]) | ((with_reducible refine zad ?_ ?_ ?_); rotate_left 1; (· simp [evb, kb, hN, h2, sdb]); rotate_left 1; (· kernel_rfl); try simp only [evb, kb, hN, seval, pvb, h2]) | ((with_reducible first | refine zaB ?_ ?_ ?_ | refine zam ?_ ?_ | refine zaq ?_ ?_ ?_) <;> (first | (with_reducible refine zav ?_; try simp only [evb, kb, hN, seval, pvb, h2]) | (simp [evb, kb, hN, h2, sdb] <;> omega)))))
      have e1 : IntKind.u64.wrap (IntKind.u64.wrap (n : Int) + 1) = ((n + 1 : Nat) : Int) := by
        rw [wrap_u64 (n := n) (by omega)]
        exact wrap_u64 (n := n + 1) (by omega)
      rw [e1]
      refine zaD (fun args w => Try.call35 args w) (by simp [evb, kb, hN, seval]; exact Uvarint_c (n + 1) (by omega)) ?_
      intro v w' hv
      refine zat ?_
      simp only [evb, kb, hN, seval]
      refine zag ?_; refine hK _ _ ?_; clear hK K
      refine wp_ret ⟨by simp [zaf, hD], ?_⟩; simp only [evb, kb, hN, seval]
      exact hv
  | false =>
    (repeat (first | ((with_reducible refine zaw ?_ ?_ ?_ ?_); (· exact rfl); (· simp [evb, kb, hN, h0, h1, zaa, dyb, sdb] <;> omega); (· kernel_rfl); try simp only [evb, kb, hN, seval, pvb, h0, h1, zaa]) | ((with_reducible refine zad ?_ ?_ ?_); rotate_left 1; (· simp [evb, kb, hN, h0, h1, zaa, sdb]); rotate_left 1; (· kernel_rfl); try simp only [evb, kb, hN, seval, pvb, h0, h1, zaa]) | ((with_reducible first | refine zaB ?_ ?_ ?_ | refine zam ?_ ?_ | refine zaq ?_ ?_ ?_ | refine zay ?_ ?_ ?_ | refine zax ?_ ?_ ?_ | refine zaz ?_ ?_) <;> (first | (with_reducible refine zav ?_; try simp only [evb, kb, hN, seval, pvb, h0, h1, zaa]) | (simp [evb, kb, hN, h0, h1, zaa, sdb] <;> omega))) | ((with_reducible refine zap ?_ ?_); (· simp [evb, kb, hN, h0, h1, zaa, sdb]); try simp only [evb, kb, hN, seval, pvb, h0, h1, zaa]) | ((with_reducible refine zao ?_ ?_); (· simp [evb, kb, hN, h0, h1, zaa, sdb]); try simp only [evb, kb, hN, seval, pvb, h0, h1, zaa]) | ((with_reducible apply zan); (· exact rfl); (· exact rfl); (· simp [evb, kb, hN, h0, h1, zaa, sdb]); try simp only [evb, kb, hN, seval, pvb, h0, h1, zaa]) | ((with_reducible apply zar); (· exact rfl); (· exact rfl); (· simp [evb, kb, hN, h0, h1, zaa, sdb]); try simp only [evb, kb, hN, seval, pvb, h0, h1, zaa]) | ((with_reducible apply zas); (· exact rfl); (· exact rfl); (· simp [evb, kb, hN, h0, h1, zaa, sdb]); try simp only [evb, kb, hN, seval, pvb, h0, h1, zaa])))
    refine zag ?_; refine hK _ _ ?_; clear hK K
    refine wp_cond_false (by simp [evb, kb, hN, sdb]) ?_
    refine wp_seq_k fun K hK => ?_; refine zai ?_
    (repeat (first | ((with_reducible refine zaw ?_ ?_ ?_ ?_); (· exact rfl); (· simp [evb, kb, hN, h0, h1, zaa, dyb, sdb] <;> omega); (· kernel_rfl); try simp only [evb, kb, hN, seval, pvb, h0, h1, zaa]) | ((with_reducible refine zad ?_ ?_ ?_); rotate_left 1; (· simp [evb, kb, hN, h0, h1, zaa, sdb]); rotate_left 1; (· kernel_rfl); try simp only [evb, kb, hN, seval, pvb, h0, h1, zaa]) | ((with_reducible first | refine zaB ?_ ?_ ?_ | refine zam ?_ ?_ | refine zaq ?_ ?_ ?_ | refine zay ?_ ?_ ?_ | refine zax ?_ ?_ ?_ | refine zaz ?_ ?_) <;> (first | (with_reducible refine zav ?_; try simp only [evb, kb, hN, seval, pvb, h0, h1, zaa]) | (simp [evb, kb, hN, h0, h1, zaa, sdb] <;> omega))) | ((with_reducible refine zap ?_ ?_); (· simp [evb, kb, hN, h0, h1, zaa, sdb]); try simp only [evb, kb, hN, seval, pvb, h0, h1, zaa]) | ((with_reducible refine zao ?_ ?_); (· simp [evb, kb, hN, h0, h1, zaa, sdb]); try simp only [evb, kb, hN, seval, pvb, h0, h1, zaa]) | ((with_reducible apply zan); (· exact rfl); (· exact rfl); (· simp [evb, kb, hN, h0, h1, zaa, sdb]); try simp only [evb, kb, hN, seval, pvb, h0, h1, zaa]) | ((with_reducible apply zar); (· exact rfl); (· exact rfl); (· simp [evb, kb, hN, h0, h1, zaa, sdb]); try simp only [evb, kb, hN, seval, pvb, h0, h1, zaa]) | ((with_reducible apply zas); (· exact rfl); (· exact rfl); (· simp [evb, kb, hN, h0, h1, zaa, sdb]); try simp only [evb, kb, hN, seval, pvb, h0, h1, zaa])))
    refine zag ?_; refine hK _ _ ?_; clear hK K
    refine wp_cond_false (by simp [evb, kb, hN, sdb]) ?_
    refine wp_seq_k fun K hK => ?_; refine zai ?_
    (repeat (first | ((with_reducible refine zaw ?_ ?_ ?_ ?_); (· exact rfl); (· simp [evb, kb, hN, h1, dyb, sdb] <;> omega); (· kernel_rfl); try simp only [evb, kb, hN, seval, pvb, h1]) | ((with_reducible refine zad ?_ ?_ ?_); rotate_left 1; (· simp [evb, kb, hN, h1, sdb]); rotate_left 1; (· kernel_rfl); try simp only [evb, kb, hN, seval, pvb, h1]) | ((with_reducible first | refine zaB ?_ ?_ ?_ | refine zam ?_ ?_ | refine zaq ?_ ?_ ?_) <;> (first | (with_reducible refine zav ?_; try simp only [evb, kb, hN, seval, pvb, h1]) | (simp [evb, kb, hN, h1, sdb] <;> omega)))))
    refine zag ?_
    cases nul with
    | true =>
      refine hK _ _ ?_
      refine wp_cond_true (by simp [evb, kb, hN, sdb]) ?_
      clear hK K
      refine wp_seq_k fun K hK => ?_; refine zai ?_
      (repeat (first | ((with_reducible refine zaw ?_ ?_ ?_ ?_); (· exact rfl); (· simp [evb, kb, hN, h3, dyb, sdb] <;> omega); (· kernel_rfl); try simp only [evb, kb, hN, seval, pvb, h3]) | ((with_reducible refine zad ?_ ?_ ?_); rotate_left 1; (· simp [evb, kb, hN, h3, sdb]); rotate_left 1; (· kernel_rfl); try simp only [evb, kb, hN, seval, pvb, h3]) | ((with_reducible first | refine zaB ?_ ?_ ?_ | refine zam ?_ ?_ | refine zaq ?_ ?_ ?_) <;> (first | (with_reducible refine zav ?_; try simp only [evb, kb, hN, seval, pvb, h3]) | (simp [evb, kb, hN, h3, sdb] <;> omega)))))
      refine zaD (fun args w => Try.call46 args w) (by simp [evb, kb, hN, seval, h3]; exact Fixed_c (-1) wd hw) ?_
      intro v w' hv
      refine zat ?_
      simp only [evb, kb, hN, seval]
      refine zag ?_; refine hK _ _ ?_; clear hK K
      refine wp_ret ⟨by simp [zaf, hD], ?_⟩; simp only [evb, kb, hN, seval]
      exact hv
    | false =>
      refine hK _ _ ?_
      refine wp_cond_false (by simp [evb, kb, hN, sdb]) ?_
      refine wp_skip ?_
      simp only [Exit.then, Exit.inBlock]
      clear hK K
      refine hK0 _ _ ?_; try clear hK0 K0
      refine wp_seq_k fun K hK => ?_; refine zai ?_
      (repeat (first | ((with_reducible refine zaw ?_ ?_ ?_ ?_); (· exact rfl); (· simp [evb, kb, hN, h2, h3, dyb, sdb] <;> omega); (· kernel_rfl); try simp only [evb, kb, hN, seval, pvb, h2, h3]) | ((with_reducible refine zad ?_ ?_ ?_); rotate_left 1; (· simp [evb, kb, hN, h2, h3, sdb]); rotate_left 1; (· kernel_rfl); try simp only [evb, kb, hN, seval, pvb, h2, h3]) | ((with_reducible first | refine zaB ?_ ?_ ?_ | refine zam ?_ ?_ | refine zaq ?_ ?_ ?_) <;> (first | (with_reducible refine zav ?_; try simp only [evb, kb, hN, seval, pvb, h2, h3]) | (simp [evb, kb, hN, h2, h3, sdb] <;> omega)))))
      refine zaD (fun args w => Try.call46 args w) (by simp [evb, kb, hN, seval, h2, h3]; exact Fixed_c n wd hw) ?_
      intro v w' hv
      refine zat ?_
      simp only [evb, kb, hN, seval]
      refine zag ?_; refine hK _ _ ?_; clear hK K
      refine wp_ret ⟨by simp [zaf, hD], ?_⟩; simp only [evb, kb, hN, seval]
      exact hv
theorem width_c (k : K) (h : k ≠ .bool ∧ k ≠ .uuid ∧ k ≠ .text ∧ k ≠ .bytes ∧ k ≠ .struct ∧ k ≠ .list) {w : World} :
    zaG Try.prog 47 #[kV k] w fun v w' => v = .int .i64 (kWid k) ∧ w' = w := by
  refine zaA Try.func47 rfl rfl Try.ntmps47 (by simp) ?_
  intro a hN hD ha
  have h0 : get a 0 = kV k := ha 0 _ rfl
  unfold kV at h0
  cases k <;> simp only [ne_eq, not_true, false_and, and_false, not_false_eq_true, reduceCtorEq, and_self] at h <;> simp only [zaC, kWid] at h0 ⊢
  all_goals
    (repeat (first | (with_reducible refine wp_seq_k (fun K hK => ?_)) | (with_reducible refine wp_block ?_) | ((with_reducible refine zai ?_); (repeat (first | ((with_reducible refine zaw ?_ ?_ ?_ ?_); (· exact rfl); (· simp [evb, kb, hN, h0, zaa, dyb, sdb] <;> omega); (· kernel_rfl); try simp only [evb, kb, hN, seval, pvb, h0, zaa]) | ((with_reducible refine zad ?_ ?_ ?_); rotate_left 1; (· simp [evb, kb, hN, h0, zaa, sdb]); rotate_left 1; (· kernel_rfl); try simp only [evb, kb, hN, seval, pvb, h0, zaa]) | ((with_reducible first | refine zaB ?_ ?_ ?_ | refine zam ?_ ?_ | refine zaq ?_ ?_ ?_ | refine zay ?_ ?_ ?_ | refine zax ?_ ?_ ?_ | refine zaz ?_ ?_) <;> (first | (with_reducible refine zav ?_; try simp only [evb, kb, hN, seval, pvb, h0, zaa]) | (simp [evb, kb, hN, h0, zaa, sdb] <;> omega))) | ((with_reducible refine zap ?_ ?_); (· simp [evb, kb, hN, h0, zaa, sdb]); try simp only [evb, kb, hN, seval, pvb, h0, zaa]) | ((with_reducible refine zao ?_ ?_); (· simp [evb, kb, hN, h0, zaa, sdb]); try simp only [evb, kb, hN, seval, pvb, h0, zaa]) | ((with_reducible apply zan); (· exact rfl); (· exact rfl); (· simp [evb, kb, hN, h0, zaa, sdb]); try simp only [evb, kb, hN, seval, pvb, h0, zaa]) | ((with_reducible apply zar); (· exact rfl); (· exact rfl); (· simp [evb, kb, hN, h0, zaa, sdb]); try simp only [evb, kb, hN, seval, pvb, h0, zaa]) | ((with_reducible apply zas); (· exact rfl); (· exact rfl); (· simp [evb, kb, hN, h0, zaa, sdb]); try simp only [evb, kb, hN, seval, pvb, h0, zaa]))); (refine zag ?_)) | ((with_reducible refine wp_cond_true ?_ ?_); (· simp [evb, kb, hN, h0, sdb])) | ((with_reducible refine wp_cond_false ?_ ?_); (· simp [evb, kb, hN, h0, sdb])) | (with_reducible refine wp_skip ?_) | (refine hK _ _ ?_; clear hK K)))
    refine wp_ret ⟨by simp [zaf, hD], ?_⟩; simp only [evb, kb, hN, seval]
    refine ⟨?_, ?_⟩ <;> first | rfl | trivial
end Go.Proofs.Ytiohfpnpnofimaa
namespace Go.Proofs.Ytiohfpnpnofimaa
set_option linter.all false
open Go.RowKit
set_option maxRecDepth 10000
set_option maxHeartbeats 1000000
theorem zaH.row {w : World} {G : Nat → Prop} {oa : Option Addr} {l : Bs} (h : zaH w G oa l) {i : Nat} (hi : i < l.length) :
    ∃ b o cs T, oa = some ⟨b, o, none⟩ ∧ G b ∧ Rbk w b cs T ∧ cs[o + i]? = some (zaI l[i]) := by
  rcases h with rfl | ⟨b, o, cs, T, h1, h2, h3, h4⟩
  · cases hi
  · refine ⟨b, o, cs, T, h1, h2, h3, ?_⟩
    rw [← seg_get hi, h4]
    simp [hi]
theorem byteV_inj {u v : UInt8} : (u.toNat : Int) = (v.toNat : Int) ↔ u = v := by
  constructor
  · intro h
    exact UInt8.toNat_inj.1 (by omega)
  · rintro rfl; rfl
theorem Same_c (l1 l2 : Bs) {w : World} {G1 G2 : Nat → Prop} {o1 o2 : Option Addr} {c1 c2 : Nat} (h1 : zaH w G1 o1 l1) (h2 : zaH w G2 o2 l2) (hlim : l1.length ≤ LIM) :
    zaG Try.prog 6 #[.slice o1 l1.length c1, .slice o2 l2.length c2] w fun v w' => v = .bool (decide (l1 = l2)) ∧ Chg (fun _ => False) w w' := by
  refine zaA Try.func6 rfl rfl Try.ntmps6 (by simp) ?_
  intro a hN hD ha
  have h0 : get a 0 = .slice o1 l1.length c1 := ha 0 _ rfl
  have hh1 : get a 1 = .slice o2 l2.length c2 := ha 1 _ rfl
  refine wp_seq_k fun K hK => ?_; refine zai ?_; (repeat (first | ((with_reducible refine zaw ?_ ?_ ?_ ?_); (· exact rfl); (· simp [evb, kb, hN, dyb, sdb] <;> omega); (· kernel_rfl); try simp only [evb, kb, hN, seval, pvb]) | ((with_reducible refine zad ?_ ?_ ?_); rotate_left 1; (· simp [evb, kb, hN, sdb]); rotate_left 1; (· kernel_rfl); try simp only [evb, kb, hN, seval, pvb]))); refine zag ?_; refine hK _ _ ?_; clear hK K
  refine wp_seq_k fun K0 hK0 => ?_; refine wp_seq_k fun K1 hK1 => ?_; refine zai ?_
  (repeat (first | ((with_reducible refine zaw ?_ ?_ ?_ ?_); (· exact rfl); (· simp [evb, kb, hN, h0, hh1, dyb, sdb] <;> omega); (· kernel_rfl); try simp only [evb, kb, hN, seval, pvb, h0, hh1]) | ((with_reducible refine zad ?_ ?_ ?_); rotate_left 1; (· simp [evb, kb, hN, h0, hh1, sdb]); rotate_left 1; (· kernel_rfl); try simp only [evb, kb, hN, seval, pvb, h0, hh1])))
  by_cases hlen : l1.length = l2.length
  case neg =>
    have hl : ¬ ((l1.length : Int) = (l2.length : Int)) := by omega
    refine zag ?_
    refine hK1 _ _ ?_; try clear hK1 K1
    refine wp_cond_true (by simp [evb, kb, hN, hl, sdb]) ?_
    (repeat (first | (with_reducible refine wp_seq_k (fun K hK => ?_)) | (with_reducible refine wp_block ?_) | ((with_reducible refine zai ?_); (repeat (first | ((with_reducible refine zaw ?_ ?_ ?_ ?_); (· exact rfl); (· simp [evb, kb, hN, zaa, dyb, sdb] <;> omega); (· kernel_rfl); try simp only [evb, kb, hN, seval, pvb, zaa]) | ((with_reducible refine zad ?_ ?_ ?_); rotate_left 1; (· simp [evb, kb, hN, zaa, sdb]); rotate_left 1; (· kernel_rfl); try simp only [evb, kb, hN, seval, pvb, zaa]) | ((with_reducible first | refine zay ?_ ?_ ?_ | refine zax ?_ ?_ ?_ | refine zaz ?_ ?_) <;> (first | (with_reducible refine zav ?_; try simp only [evb, kb, hN, seval, pvb, zaa]) | (simp [evb, kb, hN, zaa, sdb] <;> omega))) | ((with_reducible refine zap ?_ ?_); (· simp [evb, kb, hN, zaa, sdb]); try simp only [evb, kb, hN, seval, pvb, zaa]) | ((with_reducible refine zao ?_ ?_); (· simp [evb, kb, hN, zaa, sdb]); try simp only [evb, kb, hN, seval, pvb, zaa]) | ((with_reducible apply zan); (· exact rfl); (· exact rfl); (· simp [evb, kb, hN, zaa, sdb]); try simp only [evb, kb, hN, seval, pvb, zaa]) | ((with_reducible apply zar); (· exact rfl); (· exact rfl); (· simp [evb, kb, hN, zaa, sdb]); try simp only [evb, kb, hN, seval, pvb, zaa]) | ((with_reducible apply zas); (· exact rfl); (· exact rfl); (· simp [evb, kb, hN, zaa, sdb]); try simp only [evb, kb, hN, seval, pvb, zaa]))); (refine zag ?_)) | ((with_reducible refine wp_cond_true ?_ ?_); (· simp [evb, kb, hN, sdb])) | ((with_reducible refine wp_cond_false ?_ ?_); (· simp [evb, kb, hN, sdb])) | (with_reducible refine wp_skip ?_) | (refine hK _ _ ?_; clear hK K)))
    refine wp_ret ⟨by simp [zaf, hD], ?_⟩; simp only [evb, kb, hN, seval]
    refine ⟨?_, Chg.refl _ _⟩
    rw [decide_eq_false (fun h => hlen (by rw [h]))]
  have hl : (l1.length : Int) = (l2.length : Int) := by omega
  refine zag ?_
  refine hK1 _ _ ?_; try clear hK1 K1
  refine wp_cond_false (by simp [evb, kb, hN, hl, sdb]) ?_
  refine wp_skip ?_
  refine hK0 _ _ ?_; try clear hK0 K0
  refine wp_seq_k fun K0 hK0 => ?_; refine wp_seq_k fun K1 hK1 => ?_; refine zai ?_
  (repeat (first | ((with_reducible refine zaw ?_ ?_ ?_ ?_); (· exact rfl); (· simp [evb, kb, hN, h0, dyb, sdb] <;> omega); (· kernel_rfl); try simp only [evb, kb, hN, seval, pvb, h0]) | ((with_reducible refine zad ?_ ?_ ?_); rotate_left 1; (· simp [evb, kb, hN, h0, sdb]); rotate_left 1; (· kernel_rfl); try simp only [evb, kb, hN, seval, pvb, h0])))
  refine zag ?_
  refine hK1 _ _ ?_; try clear hK1 K1
  refine wp_block ?_
  refine wp_loop (fun a' w' => ∃ i : Nat, i ≤ l1.length ∧ a'.tmps.size = 26 ∧ a'.defers = [] ∧ get a' 0 = .slice o1 l1.length c1 ∧ get a' 1 = .slice o2 l2.length c2 ∧ get a' 12 = .int .i64 l1.length ∧ get a' 13 = .int .i64 i ∧ l1.take i = l2.take i ∧ Chg (fun _ => False) w w')
    (fun a' _ => l1.length - (intOf (get a' 13)).toNat) ?_ ?_
  · exact ⟨0, by omega, by simp only [evb, kb, hN, seval], by simp [zaf, hD], by simp only [evb, kb, hN, seval, h0], by simp only [evb, kb, hN, seval, hh1], by simp only [evb, kb, hN, seval], by simp only [evb, kb, hN, seval] <;> rfl, by simp, Chg.refl _ _⟩
  clear hN hD h0 hh1
  rintro a1 w1 ⟨i, hi, hN, hD, h0, hh1, g12, g13, htk, hc⟩
  refine wp_seq_k fun K2 hK2 => ?_; refine zai ?_; (repeat (first | ((with_reducible refine zaw ?_ ?_ ?_ ?_); (· exact rfl); (· simp [evb, kb, hN, g12, g13, dyb, sdb] <;> omega); (· kernel_rfl); try simp only [evb, kb, hN, seval, pvb, g12, g13]) | ((with_reducible refine zad ?_ ?_ ?_); rotate_left 1; (· simp [evb, kb, hN, g12, g13, sdb]); rotate_left 1; (· kernel_rfl); try simp only [evb, kb, hN, seval, pvb, g12, g13])))
  by_cases hlt : i < l1.length
  case neg =>
    have e : i = l1.length := by omega
    subst e
    have e1 : decide ((l1.length : Int) < (l1.length : Int)) = false := decide_eq_false (by omega)
    rw [e1]
    refine zag ?_
    refine hK2 _ _ ?_; try clear hK2 K2
    refine wp_seq_k fun K3 hK3 => ?_
    refine wp_cond_false (by simp [evb, kb, hN, sdb]) ?_
    refine wp_exit ?_
    simp only [Exit.then, Exit.inBlock, if_pos]
    refine hK0 _ _ ?_; try clear hK0 K0
    (repeat (first | (with_reducible refine wp_seq_k (fun K hK => ?_)) | (with_reducible refine wp_block ?_) | ((with_reducible refine zai ?_); (repeat (first | ((with_reducible refine zaw ?_ ?_ ?_ ?_); (· exact rfl); (· simp [evb, kb, hN, zaa, dyb, sdb] <;> omega); (· kernel_rfl); try simp only [evb, kb, hN, seval, pvb, zaa]) | ((with_reducible refine zad ?_ ?_ ?_); rotate_left 1; (· simp [evb, kb, hN, zaa, sdb]); rotate_left 1; (· kernel_rfl); try simp only [evb, kb, hN, seval, pvb, zaa]) | ((with_reducible first | refine zay ?_ ?_ ?_ | refine zax ?_ ?_ ?_ | refine zaz ?_ ?_) <;> (first | (with_reducible refine zav ?_; try simp only [evb, kb, hN, seval, pvb, zaa]) | (simp [evb, kb, hN, zaa, sdb] <;> omega))) | ((with_reducible refine zap ?_ ?_); (· simp [evb, kb, hN, zaa, sdb]); try simp only [evb, kb, hN, seval, pvb, zaa]) | ((with_reducible refine zao ?_ ?_); (· simp [evb, kb, hN, zaa, sdb]); try simp only [evb, kb, hN, seval, pvb, zaa]) | ((with_reducible apply zan); (· exact rfl); (· exact rfl); (· simp [evb, kb, hN, zaa, sdb]); try simp only [evb, kb, hN, seval, pvb, zaa]) | ((with_reducible apply zar); (· exact rfl); (· exact rfl); (· simp [evb, kb, hN, zaa, sdb]); try simp only [evb, kb, hN, seval, pvb, zaa]) | ((with_reducible apply zas); (· exact rfl); (· exact rfl); (· simp [evb, kb, hN, zaa, sdb]); try simp only [evb, kb, hN, seval, pvb, zaa]))); (refine zag ?_)) | ((with_reducible refine wp_cond_true ?_ ?_); (· simp [evb, kb, hN, sdb])) | ((with_reducible refine wp_cond_false ?_ ?_); (· simp [evb, kb, hN, sdb])) | (with_reducible refine wp_skip ?_) | (refine hK _ _ ?_; clear hK K)))
    refine wp_ret ⟨by simp [zaf, hD], ?_⟩; simp only [evb, kb, hN, seval]
    refine ⟨?_, hc⟩
    rw [List.take_length, hlen, List.take_length] at htk
    rw [decide_eq_true htk]
  have e1 : decide ((i : Int) < (l1.length : Int)) = true := decide_eq_true (by omega)
  rw [e1]
  refine zag ?_
  refine hK2 _ _ ?_; try clear hK2 K2
  refine wp_seq_k fun K3 hK3 => ?_
  refine wp_cond_true (by simp [evb, kb, hN, sdb]) ?_
  refine wp_skip ?_
  refine hK3 _ _ ?_; try clear hK3 K3
  refine wp_seq_k fun K4 hK4 => ?_
  refine wp_block ?_
  refine wp_seq_k fun K5 hK5 => ?_; refine zai ?_; (repeat (first | ((with_reducible refine zaw ?_ ?_ ?_ ?_); (· exact rfl); (· simp [evb, kb, hN, g13, dyb, sdb] <;> omega); (· kernel_rfl); try simp only [evb, kb, hN, seval, pvb, g13]) | ((with_reducible refine zad ?_ ?_ ?_); rotate_left 1; (· simp [evb, kb, hN, g13, sdb]); rotate_left 1; (· kernel_rfl); try simp only [evb, kb, hN, seval, pvb, g13])))
  refine zag ?_
  refine hK5 _ _ ?_; try clear hK5 K5
  refine wp_seq_k fun K6 hK6 => ?_
  obtain ⟨b1, p1, cs1, T1, rfl, _, hb1, hv1⟩ := h1.row hlt
  obtain ⟨b2, p2, cs2, T2, rfl, _, hb2, hv2⟩ := h2.row (by omega : i < l2.length)
  refine wp_sched (fun w' => Chg (fun _ => False) w w') [(true, 0), (true, 1), (true, 2), (true, 3), (true, 4), (true, 5), (true, 6), (true, 7), (true, 8)] follows_any (by kernel_rfl) (by kernel_rfl) (hc.trans (Chg.drew _ _) fun _ _ h => h) ?_
  refine zaN rfl ?_
  refine zaN rfl ?_
  simp only [evb, kb, hN, seval, h0]
  refine ws_indexAddr (b := b1) (o := p1) (k := .i64) (j := i) (n := 1) (len := l1.length) (cap := c1) (by kernel_rfl) rfl (by simp [evb, kb, hN, sdb]) (by simp [evb, kb, hN, sdb]) hlt ?_
  refine ws_load_r (b := b1) (o := p1 + i * 1) (by kernel_rfl) rfl (by simp [evb, kb, hN, sdb]) (fun w' hw => hb1.chg hw (fun h => h)) (by rw [Nat.mul_one]; exact hv1) ?_
  refine zaN rfl ?_
  refine zaN rfl ?_
  simp only [evb, kb, hN, seval, hh1]
  refine ws_indexAddr (b := b2) (o := p2) (k := .i64) (j := i) (n := 1) (len := l2.length) (cap := c2) (by kernel_rfl) rfl (by simp [evb, kb, hN, sdb]) (by simp [evb, kb, hN, sdb]) (by omega) ?_
  refine ws_load_r (b := b2) (o := p2 + i * 1) (by kernel_rfl) rfl (by simp [evb, kb, hN, sdb]) (fun w' hw => hb2.chg hw (fun h => h)) (by rw [Nat.mul_one]; exact hv2) ?_
  refine ws_neq rfl (by simp [evb, kb, hN, zaI, sdb]) ?_
  simp only [evb, kb, hN, seval, zaI]
  refine ws_nil ?_
  refine hK6 _ _ ?_; try clear hK6 K6
  have hc2 : Chg (fun _ => False) w w1.drew := hc.trans (Chg.drew _ _) fun _ _ h => h
  by_cases hq : l1[i] = l2[i]
  case neg =>
    have e2 : (((l1[i].toNat : Nat) : Int) != ((l2[i].toNat : Nat) : Int)) = true := by
      have : ¬ ((l1[i].toNat : Int) = (l2[i].toNat : Int)) := fun h => hq (byteV_inj.1 h)
      simpa using this
    refine wp_cond_true (by simp [evb, kb, hN, e2, sdb]) ?_
    (repeat (first | (with_reducible refine wp_seq_k (fun K hK => ?_)) | (with_reducible refine wp_block ?_) | ((with_reducible refine zai ?_); (repeat (first | ((with_reducible refine zaw ?_ ?_ ?_ ?_); (· exact rfl); (· simp [evb, kb, hN, zaa, dyb, sdb] <;> omega); (· kernel_rfl); try simp only [evb, kb, hN, seval, pvb, zaa]) | ((with_reducible refine zad ?_ ?_ ?_); rotate_left 1; (· simp [evb, kb, hN, zaa, sdb]); rotate_left 1; (· kernel_rfl); try simp only [evb, kb, hN, seval, pvb, zaa]) | ((with_reducible first | refine zay ?_ ?_ ?_ | refine zax ?_ ?_ ?_ | refine zaz ?_ ?_) <;> (first | (with_reducible refine zav ?_; try simp only [evb, kb, hN, seval, pvb, zaa]) | (simp [evb, kb, hN, zaa, sdb] <;> omega))) | ((with_reducible refine zap ?_ ?_); (· simp [evb, kb, hN, zaa, sdb]); try simp only [evb, kb, hN, seval, pvb, zaa]) | ((with_reducible refine zao ?_ ?_); (· simp [evb, kb, hN, zaa, sdb]); try simp only [evb, kb, hN, seval, pvb, zaa]) | ((with_reducible apply zan); (· exact rfl); (· exact rfl); (· simp [evb, kb, hN, zaa, sdb]); try simp only [evb, kb, hN, seval, pvb, zaa]) | ((with_reducible apply zar); (· exact rfl); (· exact rfl); (· simp [evb, kb, hN, zaa, sdb]); try simp only [evb, kb, hN, seval, pvb, zaa]) | ((with_reducible apply zas); (· exact rfl); (· exact rfl); (· simp [evb, kb, hN, zaa, sdb]); try simp only [evb, kb, hN, seval, pvb, zaa]))); (refine zag ?_)) | ((with_reducible refine wp_cond_true ?_ ?_); (· simp [evb, kb, hN, sdb])) | ((with_reducible refine wp_cond_false ?_ ?_); (· simp [evb, kb, hN, sdb])) | (with_reducible refine wp_skip ?_) | (refine hK _ _ ?_; clear hK K)))
    refine wp_ret ⟨by simp [zaf, hD], ?_⟩; simp only [evb, kb, hN, seval]
    refine ⟨?_, hc2⟩
    rw [decide_eq_false]
    intro h
    subst h
    exact hq rfl
  have e2 : (((l1[i].toNat : Nat) : Int) != ((l2[i].toNat : Nat) : Int)) = false := by rw [hq]; simp
  refine wp_cond_false (by simp [evb, kb, hN, e2, sdb]) ?_
  refine wp_skip ?_
  simp only [Exit.then, Exit.inBlock]
  refine hK4 _ _ ?_; try clear hK4 K4
  refine zai ?_
  (repeat (first | ((with_reducible refine zaw ?_ ?_ ?_ ?_); (· exact rfl); (· simp [evb, kb, hN, g13, dyb, sdb] <;> omega); (· kernel_rfl); try simp only [evb, kb, hN, seval, pvb, g13]) | ((with_reducible refine zad ?_ ?_ ?_); rotate_left 1; (· simp [evb, kb, hN, g13, sdb]); rotate_left 1; (· kernel_rfl); try simp only [evb, kb, hN, seval, pvb, g13])))
  rw [i64_id ((i : Int) + 1) (by unfold LIM at hlim; omega)]
  refine zag ⟨⟨i + 1, by omega, by simp only [evb, kb, hN, seval], by simp [zaf, hD], by simp only [evb, kb, hN, seval, h0], by simp only [evb, kb, hN, seval, hh1], by simp only [evb, kb, hN, seval, g12], by simp only [evb, kb, hN, seval] <;> rfl, ?_, hc2⟩, ?_⟩
  · rw [List.take_add_one, List.take_add_one, htk]
    have a1 : l1[i]? = some l1[i] := by simp [hlt]
    have a2 : l2[i]? = some l2[i] := by simp
    rw [a1, a2, hq]
  · simp only [evb, kb, hN, seval, g13, intOf]
    omega
end Go.Proofs.Ytiohfpnpnofimaa
namespace Go.Proofs.Ytiohfpnpnofimaa
set_option linter.all false
end Go.Proofs.Ytiohfpnpnofimaa
namespace Go.Proofs.Ytiohfpnpnofimaa
set_option linter.all false
open Go.RowKit
set_option maxRecDepth 10000
set_option maxHeartbeats 1000000
theorem sKnown_step (fs : List Fld) (i m : Nat) (f : Fld) (h : fs[i]? = some f) : sKnown (fs.drop i) m = sKnown (fs.drop (i + 1)) (if 0 ≤ f.tag then max m (f.tag.toNat + 1) else m) := by
  have hi := (List.getElem?_eq_some_iff.1 h).1
  rw [List.drop_eq_getElem_cons hi]
  have : fs[i] = f := (List.getElem?_eq_some_iff.1 h).2
  rw [this]
  rfl
def TagsSmall (fs : List Fld) : Prop := ∀ f ∈ fs, f.tag < 1073741824
def zFld : List Value := [.int .i64 0, .int .i64 0, .int .i64 0, .int .i64 0, .int .i64 0, .int .i64 0, .int .i64 0, .slice none 0 0]
theorem SchS.get {w : World} {G : Nat → Prop} {fs : List Fld} {oa : Option Addr} {n cap i : Nat} {f : Fld} (h : SchS w G fs (.slice oa n cap)) (hf : fs[i]? = some f) :
    ∃ b cs T, oa = some ⟨b, 0, none⟩ ∧ n = fs.length ∧ G b ∧ Blk w b cs T ∧ SchF w G f ((cs.drop (i * 8)).take 8) ∧ i * 8 + 8 ≤ cs.length := by
  obtain ⟨oa', cap', h1, h2⟩ := h
  simp at h1
  obtain ⟨rfl, rfl, rfl⟩ := h1
  rcases h2 with rfl | ⟨b, cs, T, h3, h4, h5, h6⟩
  · simp at hf
  · obtain ⟨k1, k2⟩ := h6.get hf
    exact ⟨b, cs, T, h3, rfl, h4, h5, k1, k2⟩
theorem known_c (fs : List Fld) (hlen : fs.length ≤ 1073741824) (hsm : TagsSmall fs) {w : World} {G : Nat → Prop} {oa : Option Addr} {cap : Nat} (hv : SchS w G fs (.slice oa fs.length cap)) :
    zaG Try.prog 33 #[.slice oa fs.length cap] w fun r w' => r = .int .u32 (sKnown fs 0) ∧ sKnown fs 0 ≤ 1073741824 ∧ Chg (fun _ => False) w w' := by
  refine zaA Try.func33 rfl rfl Try.ntmps33 (by simp) ?_
  intro a hN hD ha
  have h0 : get a 0 = .slice oa fs.length cap := ha 0 _ rfl
  refine wp_seq_k fun K hK => ?_; refine zai ?_; (repeat (first | ((with_reducible refine zaw ?_ ?_ ?_ ?_); (· exact rfl); (· simp [evb, kb, hN, dyb, sdb] <;> omega); (· kernel_rfl); try simp only [evb, kb, hN, seval, pvb]) | ((with_reducible refine zad ?_ ?_ ?_); rotate_left 1; (· simp [evb, kb, hN, sdb]); rotate_left 1; (· kernel_rfl); try simp only [evb, kb, hN, seval, pvb]))); refine zag ?_; refine hK _ _ ?_; clear hK K
  refine wp_seq_k fun K hK => ?_; refine zai ?_; (repeat (first | ((with_reducible refine zaw ?_ ?_ ?_ ?_); (· exact rfl); (· simp [evb, kb, hN, dyb, sdb] <;> omega); (· kernel_rfl); try simp only [evb, kb, hN, seval, pvb]) | ((with_reducible refine zad ?_ ?_ ?_); rotate_left 1; (· simp [evb, kb, hN, sdb]); rotate_left 1; (· kernel_rfl); try simp only [evb, kb, hN, seval, pvb]))); refine zag ?_; refine hK _ _ ?_; clear hK K
  refine wp_seq_k fun K0 hK0 => ?_; refine wp_seq_k fun K hK => ?_; refine zai ?_
  (repeat (first | ((with_reducible refine zaw ?_ ?_ ?_ ?_); (· exact rfl); (· simp [evb, kb, hN, h0, dyb, sdb] <;> omega); (· kernel_rfl); try simp only [evb, kb, hN, seval, pvb, h0]) | ((with_reducible refine zad ?_ ?_ ?_); rotate_left 1; (· simp [evb, kb, hN, h0, sdb]); rotate_left 1; (· kernel_rfl); try simp only [evb, kb, hN, seval, pvb, h0])))
  refine zag ?_; refine hK _ _ ?_; clear hK K
  refine wp_range (n := fs.length) (fun i a' w' => ∃ m : Nat, a'.tmps.size = 23 ∧ a'.defers = [] ∧ get a' 6 = .slice oa fs.length cap ∧ get a' 3 = .int .u32 m ∧ m ≤ 1073741824 ∧ sKnown (fs.drop i) m = sKnown fs 0 ∧ Chg (fun k => w.heap.size ≤ k) w w') 23 (by omega)
    (by simp only [evb, kb, hN, seval]) (by simp only [evb, kb, hN, seval]) ⟨0, by simp only [evb, kb, hN, seval], by simp [zaf, hD], by simp only [evb, kb, hN, seval, h0], (by simp only [evb, kb, hN, seval]; try rfl), by omega, rfl, Chg.refl _ _⟩ ?_ ?_ (by decide) ?_ ?_
  · rintro i a w ⟨m, h, _⟩; exact h
  · rintro i a w t v ht ⟨m, k1, k2, k3, k4, k5⟩
    rcases ht with rfl | rfl | rfl <;> exact ⟨m, by rw [zak]; exact k1, by rw [zaf]; exact k2, by rw [zab (by decide)]; exact k3, by rw [zab (by decide)]; exact k4, k5⟩
  · clear hN hD
    rintro i a1 w1 hi ⟨m, hN, hD, g6, g3, hm, hk, hc⟩ g7 g8
    have hf : fs[i]? = some fs[i] := by simp [hi]
    obtain ⟨b, cs, T, rfl, _, hG, hb, hfc, hl⟩ := hv.get hf
    generalize hff : fs[i] = f at hf hfc
    have hmem : f ∈ fs := by rw [← hff]; exact List.getElem_mem hi
    have ht := hsm f hmem
    obtain ⟨_, c0, c1, c2, c3, c4, c5, c6, _⟩ := hfc.cells
    have hb1 := hb.chg hc (by have := hb.lt; omega)
    refine wp_seq_k fun K hK => ?_; refine zai ?_
    refine wl_indexAddr (b := b) (o := 0) (k := .i64) (i := i) (n := 8) (len := fs.length) (cap := cap) (by kernel_rfl) (by simp [evb, kb, hN, g6, sdb]) (by simp [evb, kb, hN, g8, sdb]) hi ?_
    refine zaR (b := b) (o := 0 + i * 8) (n := 8) (by kernel_rfl) (by kernel_rfl) (by simp [evb, kb, hN, sdb]) hb1 (by omega) ?_
    rw [Nat.zero_add]
    refine wl_allocA (z := zaO zFld) (fun w => Try.zeroValue43 w) fun w2 hc2 hb2 hs2 => ?_
    refine zaT (b := w1.heap.size) (n := 8) (l' := ((cs.drop (i * 8)).take 8)) (by kernel_rfl) (by simp [evb, kb, hN, sdb]) (by simp [evb, kb, hN, sdb]; rfl) hb2 hfc.len hfc.one rfl fun w3 hb3 hc3 => ?_
    have hc4 : Chg (fun k => w.heap.size ≤ k) w w3 := (hc.trans hc2 fun _ _ h => h.elim).trans hc3 fun n hn h => by have := hc.size; omega
    refine zag ?_; refine hK _ _ ?_; clear hK K
    refine wp_seq_k fun K hK => ?_; refine zai ?_
    with_reducible refine zau (b := w1.heap.size) (off := 4) (n := 1) ?_ ?_ ?_; (· kernel_rfl); (· simp [evb, kb, hN, sdb])
    with_reducible refine zaE (b := w1.heap.size) (o := 4) ?_ ?_ hb3 c4 ?_; (· kernel_rfl); (· simp [evb, kb, hN, sdb])
    (repeat (first | ((with_reducible refine zaw ?_ ?_ ?_ ?_); (· exact rfl); (· simp [evb, kb, hN, dyb, sdb] <;> omega); (· kernel_rfl); try simp only [evb, kb, hN, seval, pvb]) | ((with_reducible refine zad ?_ ?_ ?_); rotate_left 1; (· simp [evb, kb, hN, sdb]); rotate_left 1; (· kernel_rfl); try simp only [evb, kb, hN, seval, pvb])))
    have hstep := sKnown_step fs i m f hf
    by_cases hneg : 0 ≤ f.tag
    · rw [if_pos hneg] at hstep
      refine zag (hK _ _ ?_)
      refine wp_cond_true (by simp [evb, kb, hN, hneg, sdb]) ?_
      clear hK K
      refine zai ?_
      (repeat (first | ((with_reducible refine zaw ?_ ?_ ?_ ?_); (· exact rfl); (· simp [evb, kb, hN, g3, dyb, sdb] <;> omega); (· kernel_rfl); try simp only [evb, kb, hN, seval, pvb, g3]) | ((with_reducible refine zad ?_ ?_ ?_); rotate_left 1; (· simp [evb, kb, hN, g3, sdb]); rotate_left 1; (· kernel_rfl); try simp only [evb, kb, hN, seval, pvb, g3])))
      with_reducible refine zau (b := w1.heap.size) (off := 4) (n := 1) ?_ ?_ ?_; (· kernel_rfl); (· simp [evb, kb, hN, sdb])
      with_reducible refine zaE (b := w1.heap.size) (o := 4) ?_ ?_ hb3 c4 ?_; (· kernel_rfl); (· simp [evb, kb, hN, sdb])
      (repeat (first | ((with_reducible refine zaw ?_ ?_ ?_ ?_); (· exact rfl); (· simp [evb, kb, hN, dyb, sdb] <;> omega); (· kernel_rfl); try simp only [evb, kb, hN, seval, pvb]) | ((with_reducible refine zad ?_ ?_ ?_); rotate_left 1; (· simp [evb, kb, hN, sdb]); rotate_left 1; (· kernel_rfl); try simp only [evb, kb, hN, seval, pvb])))
      have e1 : IntKind.u32.wrap (IntKind.u32.wrap f.tag + 1) = ((f.tag.toNat + 1 : Nat) : Int) := by
        rw [IntKind.wrap_u32, IntKind.wrap_u32]; omega
      rw [e1]
      (repeat (first | ((with_reducible refine zaw ?_ ?_ ?_ ?_); (· exact rfl); (· simp [evb, kb, hN, g3, zaa, dyb, sdb] <;> omega); (· kernel_rfl); try simp only [evb, kb, hN, seval, pvb, g3, zaa]) | ((with_reducible refine zad ?_ ?_ ?_); rotate_left 1; (· simp [evb, kb, hN, g3, zaa, sdb]); rotate_left 1; (· kernel_rfl); try simp only [evb, kb, hN, seval, pvb, g3, zaa]) | ((with_reducible first | refine zay ?_ ?_ ?_ | refine zax ?_ ?_ ?_ | refine zaz ?_ ?_) <;> (first | (with_reducible refine zav ?_; try simp only [evb, kb, hN, seval, pvb, g3, zaa]) | (simp [evb, kb, hN, g3, zaa, sdb] <;> omega))) | ((with_reducible refine zap ?_ ?_); (· simp [evb, kb, hN, g3, zaa, sdb]); try simp only [evb, kb, hN, seval, pvb, g3, zaa]) | ((with_reducible refine zao ?_ ?_); (· simp [evb, kb, hN, g3, zaa, sdb]); try simp only [evb, kb, hN, seval, pvb, g3, zaa]) | ((with_reducible apply zan); (· exact rfl); (· exact rfl); (· simp [evb, kb, hN, g3, zaa, sdb]); try simp only [evb, kb, hN, seval, pvb, g3, zaa]) | ((with_reducible apply zar); (· exact rfl); (· exact rfl); (· simp [evb, kb, hN, g3, zaa, sdb]); try simp only [evb, kb, hN, seval, pvb, g3, zaa]) | ((with_reducible apply zas); (· exact rfl); (· exact rfl); (· simp [evb, kb, hN, g3, zaa, sdb]); try simp only [evb, kb, hN, seval, pvb, g3, zaa])))
      have e2 : (if ((f.tag.toNat + 1 : Nat) : Int) > (m : Int) then ((f.tag.toNat + 1 : Nat) : Int) else (m : Int)) = ((max m (f.tag.toNat + 1) : Nat) : Int) := by
        split <;> omega
      rw [e2]
      refine zag ⟨⟨max m (f.tag.toNat + 1), by simp only [evb, kb, hN, seval], by simp [zaf, hD], by simp only [evb, kb, hN, seval, g6], by simp only [evb, kb, hN, seval], by omega, by rw [← hstep]; exact hk, hc4⟩, by simp only [evb, kb, hN, seval, g7], by simp only [evb, kb, hN, seval, g8]⟩
    · rw [if_neg hneg] at hstep
      refine zag (hK _ _ ?_)
      refine wp_cond_false (by simp [evb, kb, hN, hneg, sdb]) ?_
      refine wp_skip ⟨⟨m, by simp only [evb, kb, hN, seval], by simp [zaf, hD], by simp only [evb, kb, hN, seval, g6], by simp only [evb, kb, hN, seval, g3], hm, by rw [← hstep]; exact hk, hc4⟩, by simp only [evb, kb, hN, seval, g7], by simp only [evb, kb, hN, seval, g8]⟩
  · clear hN hD
    rintro a1 w1 ⟨m, hN, hD, g6, g3, hm, hk, hc⟩
    refine hK0 _ _ ?_; try clear hK0 K0
    (repeat (first | (with_reducible refine wp_seq_k (fun K hK => ?_)) | (with_reducible refine wp_block ?_) | ((with_reducible refine zai ?_); (repeat (first | ((with_reducible refine zaw ?_ ?_ ?_ ?_); (· exact rfl); (· simp [evb, kb, hN, g3, zaa, dyb, sdb] <;> omega); (· kernel_rfl); try simp only [evb, kb, hN, seval, pvb, g3, zaa]) | ((with_reducible refine zad ?_ ?_ ?_); rotate_left 1; (· simp [evb, kb, hN, g3, zaa, sdb]); rotate_left 1; (· kernel_rfl); try simp only [evb, kb, hN, seval, pvb, g3, zaa]) | ((with_reducible first | refine zay ?_ ?_ ?_ | refine zax ?_ ?_ ?_ | refine zaz ?_ ?_) <;> (first | (with_reducible refine zav ?_; try simp only [evb, kb, hN, seval, pvb, g3, zaa]) | (simp [evb, kb, hN, g3, zaa, sdb] <;> omega))) | ((with_reducible refine zap ?_ ?_); (· simp [evb, kb, hN, g3, zaa, sdb]); try simp only [evb, kb, hN, seval, pvb, g3, zaa]) | ((with_reducible refine zao ?_ ?_); (· simp [evb, kb, hN, g3, zaa, sdb]); try simp only [evb, kb, hN, seval, pvb, g3, zaa]) | ((with_reducible apply zan); (· exact rfl); (· exact rfl); (· simp [evb, kb, hN, g3, zaa, sdb]); try simp only [evb, kb, hN, seval, pvb, g3, zaa]) | ((with_reducible apply zar); (· exact rfl); (· exact rfl); (· simp [evb, kb, hN, g3, zaa, sdb]); try simp only [evb, kb, hN, seval, pvb, g3, zaa]) | ((with_reducible apply zas); (· exact rfl); (· exact rfl); (· simp [evb, kb, hN, g3, zaa, sdb]); try simp only [evb, kb, hN, seval, pvb, g3, zaa]))); (refine zag ?_)) | ((with_reducible refine wp_cond_true ?_ ?_); (· simp [evb, kb, hN, g3, sdb])) | ((with_reducible refine wp_cond_false ?_ ?_); (· simp [evb, kb, hN, g3, sdb])) | (with_reducible refine wp_skip ?_) | (refine hK _ _ ?_; clear hK K)))
    refine wp_ret ⟨by simp [zaf, hD], ?_⟩; simp only [evb, kb, hN, seval]
    rw [List.drop_length] at hk
    simp only [sKnown] at hk
    rw [← hk]
    exact ⟨by simp only [evb, kb, hN, seval, g3], hm, chg_own hc⟩
end Go.Proofs.Ytiohfpnpnofimaa

import Derived.Test.YtbgfphbajbbgoaaDoorZA
import Derived.Test.YtbgfphbajbbgoaaDoorZK
import Derived.Deep.AppendLies
/-
What the proofs of the laws rest on, part ZS.
-/
namespace Go.Proofs.YtbgfphbajbbgoaaDoor
set_option linter.all false
open Go.RowKit
set_option maxRecDepth 10000
def kV (k : K) : Value := .int .i64 (kNum k)
mutual
def SchF (w : World) (G : Nat → Prop) : Fld → List Value → Prop
  | .mk k fr to nl tg df of sub, vs => ∃ oa cap, vs = [kV k, .int .i64 fr, .int .i64 to, .int .i64 nl, .int .i64 tg, .int .i64 df, kV of, .slice oa sub.length cap] ∧
      (sub = [] ∨ ∃ b cs T, oa = some ⟨b, 0, none⟩ ∧ G b ∧ Blk w b cs T ∧ SchL w G sub cs)
def SchL (w : World) (G : Nat → Prop) : List Fld → List Value → Prop
  | [], _ => True
  | f :: r, vs => SchF w G f (vs.take 8) ∧ SchL w G r (vs.drop 8)
end
def SchS (w : World) (G : Nat → Prop) (fs : List Fld) (v : Value) : Prop :=
  ∃ oa cap, v = .slice oa fs.length cap ∧ (fs = [] ∨ ∃ b cs T, oa = some ⟨b, 0, none⟩ ∧ G b ∧ Blk w b cs T ∧ SchL w G fs cs)
def TgC (w : World) (G : Nat → Prop) (x : Nat × Bs) (vs : List Value) : Prop :=
  ∃ ob cb, vs = [.int .u32 x.1, .slice ob x.2.length cb] ∧ x.1 < 4294967296 ∧ x.2.length ≤ cb ∧ BytesAt w G ob x.2
def TgL (w : World) (G : Nat → Prop) : Tags → List Value → Prop
  | [], _ => True
  | x :: r, vs => TgC w G x (vs.take 2) ∧ TgL w G r (vs.drop 2)
def TgS (w : World) (G : Nat → Prop) (t : Tags) (v : Value) : Prop :=
  ∃ oa cap, v = .slice oa t.length cap ∧ t.length ≤ cap ∧ (t = [] ∨ ∃ b o cs T, oa = some ⟨b, o, none⟩ ∧ G b ∧ Rbk w b cs T ∧ TgL w G t (cs.drop o))
mutual
def TrC (w : World) (G : Nat → Prop) : Tr → List Value → Prop
  | .mk n b nil l t, vs => ∃ ob cb ol cl vt, vs = [.int .i64 n, .slice ob b.length cb, .bool nil, .slice ol l.length cl, vt] ∧ IntKind.i64.wrap n = n ∧ b.length ≤ cb ∧ l.length ≤ cl ∧
      BytesAt w G ob b ∧ (l = [] ∨ ∃ g o cs T, ol = some ⟨g, o, none⟩ ∧ G g ∧ Rbk w g cs T ∧ TrL w G l (cs.drop o)) ∧ TgS w G t vt
def TrL (w : World) (G : Nat → Prop) : List Tr → List Value → Prop
  | [], _ => True
  | x :: r, vs => TrC w G x (vs.take 5) ∧ TrL w G r (vs.drop 5)
end
def TrS (w : World) (G : Nat → Prop) (l : List Tr) (v : Value) : Prop :=
  ∃ ol cl, v = .slice ol l.length cl ∧ l.length ≤ cl ∧ (l = [] ∨ ∃ g o cs T, ol = some ⟨g, o, none⟩ ∧ G g ∧ Rbk w g cs T ∧ TrL w G l (cs.drop o))
section
variable {w w' : World} {G G' : Nat → Prop} (st : Stay w w' G G')
include st
theorem TgL.stay : ∀ {t : Tags} {vs : List Value}, TgL w G t vs → TgL w' G' t vs
  | [], _, _ => trivial
  | x :: r, vs, ⟨⟨ob, cb, h1, h2, h3, h4⟩, h5⟩ => ⟨⟨ob, cb, h1, h2, h3, h4.stay st⟩, TgL.stay h5⟩
theorem TgS.stay {t : Tags} {v : Value} (h : TgS w G t v) : TgS w' G' t v := by
  obtain ⟨oa, cap, h1, h2, h3⟩ := h
  refine ⟨oa, cap, h1, h2, ?_⟩
  rcases h3 with h3 | ⟨b, o, cs, T, h4, h5, h6, h7⟩
  · exact .inl h3
  · exact .inr ⟨b, o, cs, T, h4, (st.heap b h6.lt h5).2, h6.stay st h5, h7.stay st⟩
end
mutual
theorem SchF.stay {w w' : World} {G G' : Nat → Prop} (st : Stay w w' G G') : ∀ {f : Fld} {vs : List Value}, SchF w G f vs → SchF w' G' f vs
  | .mk k fr to nl tg df of sub, vs, h => by
    unfold SchF at h ⊢
    obtain ⟨oa, cap, h1, h2⟩ := h
    refine ⟨oa, cap, h1, ?_⟩
    rcases h2 with h2 | ⟨b, cs, T, h4, h5, h6, h7⟩
    · exact .inl h2
    · exact .inr ⟨b, cs, T, h4, (st.heap b h6.lt h5).2, h6.stay st h5, SchL.stay st h7⟩
theorem SchL.stay {w w' : World} {G G' : Nat → Prop} (st : Stay w w' G G') : ∀ {fs : List Fld} {vs : List Value}, SchL w G fs vs → SchL w' G' fs vs
  | [], _, _ => by unfold SchL; trivial
  | f :: r, vs, h => by unfold SchL at h ⊢; exact ⟨SchF.stay st h.1, SchL.stay st h.2⟩
end
mutual
theorem TrC.stay {w w' : World} {G G' : Nat → Prop} (st : Stay w w' G G') : ∀ {v : Tr} {vs : List Value}, TrC w G v vs → TrC w' G' v vs
  | .mk n b nil l t, vs, h => by
    unfold TrC at h ⊢
    obtain ⟨ob, cb, ol, cl, vt, h1, h0, h2, h3, h4, h5, h6⟩ := h
    refine ⟨ob, cb, ol, cl, vt, h1, h0, h2, h3, h4.stay st, ?_, h6.stay st⟩
    rcases h5 with h5 | ⟨g, o, cs, T, k4, k5, k6, k7⟩
    · exact .inl h5
    · exact .inr ⟨g, o, cs, T, k4, (st.heap g k6.lt k5).2, k6.stay st k5, TrL.stay st k7⟩
theorem TrL.stay {w w' : World} {G G' : Nat → Prop} (st : Stay w w' G G') : ∀ {l : List Tr} {vs : List Value}, TrL w G l vs → TrL w' G' l vs
  | [], _, _ => by unfold TrL; trivial
  | f :: r, vs, h => by unfold TrL at h ⊢; exact ⟨TrC.stay st h.1, TrL.stay st h.2⟩
end
theorem SchS.stay {w w' : World} {G G' : Nat → Prop} (st : Stay w w' G G') {fs : List Fld} {v : Value} (h : SchS w G fs v) : SchS w' G' fs v := by
  obtain ⟨oa, cap, h1, h2⟩ := h
  refine ⟨oa, cap, h1, ?_⟩
  rcases h2 with h2 | ⟨b, cs, T, h4, h5, h6, h7⟩
  · exact .inl h2
  · exact .inr ⟨b, cs, T, h4, (st.heap b h6.lt h5).2, h6.stay st h5, h7.stay st⟩
theorem TrS.stay {w w' : World} {G G' : Nat → Prop} (st : Stay w w' G G') {l : List Tr} {v : Value} (h : TrS w G l v) : TrS w' G' l v := by
  obtain ⟨oa, cap, h1, h0, h2⟩ := h
  refine ⟨oa, cap, h1, h0, ?_⟩
  rcases h2 with h2 | ⟨b, o, cs, T, h4, h5, h6, h7⟩
  · exact .inl h2
  · exact .inr ⟨b, o, cs, T, h4, (st.heap b h6.lt h5).2, h6.stay st h5, h7.stay st⟩
theorem TrC.len {w : World} {G : Nat → Prop} {v : Tr} {vs : List Value} (h : TrC w G v vs) : vs.length = 5 := by
  cases v; unfold TrC at h; obtain ⟨_, _, _, _, _, rfl, _⟩ := h; rfl
theorem SchF.len {w : World} {G : Nat → Prop} {f : Fld} {vs : List Value} (h : SchF w G f vs) : vs.length = 8 := by
  cases f; unfold SchF at h; obtain ⟨_, _, rfl, _⟩ := h; rfl
theorem SchL.get {w : World} {G : Nat → Prop} : ∀ {fs : List Fld} {vs : List Value} {i : Nat} {f : Fld}, SchL w G fs vs → fs[i]? = some f → SchF w G f ((vs.drop (i * 8)).take 8) ∧ i * 8 + 8 ≤ vs.length
  | [], _, i, f, _, hf => by simp at hf
  | g :: r, vs, i, f, h, hf => by
    unfold SchL at h
    cases i with
    | zero =>
      simp at hf; subst hf
      have := h.1.len
      rw [List.length_take] at this
      exact ⟨by simpa using h.1, by omega⟩
    | succ i =>
      have := SchL.get h.2 (by simpa using hf : r[i]? = some f)
      rw [List.drop_drop, List.length_drop] at this
      have e : (i + 1) * 8 = 8 + i * 8 := by omega
      rw [e]
      exact ⟨this.1, by omega⟩
theorem TrL.get {w : World} {G : Nat → Prop} : ∀ {l : List Tr} {vs : List Value} {i : Nat} {x : Tr}, TrL w G l vs → l[i]? = some x → TrC w G x ((vs.drop (i * 5)).take 5) ∧ i * 5 + 5 ≤ vs.length
  | [], _, i, f, _, hf => by simp at hf
  | g :: r, vs, i, f, h, hf => by
    unfold TrL at h
    cases i with
    | zero =>
      simp at hf; subst hf
      have := h.1.len
      rw [List.length_take] at this
      exact ⟨by simpa using h.1, by omega⟩
    | succ i =>
      have := TrL.get h.2 (by simpa using hf : r[i]? = some f)
      rw [List.drop_drop, List.length_drop] at this
      have e : (i + 1) * 5 = 5 + i * 5 := by omega
      rw [e]
      exact ⟨this.1, by omega⟩
theorem TrL.take {w : World} {G : Nat → Prop} : ∀ {l : List Tr} {vs : List Value} (n : Nat), TrL w G l vs → TrL w G (l.take n) vs
  | [], _, n, _ => by simp [TrL]
  | x :: r, vs, 0, _ => by simp [TrL]
  | x :: r, vs, n + 1, h => by
    unfold TrL at h
    rw [List.take_succ_cons]
    unfold TrL
    exact ⟨h.1, TrL.take n h.2⟩
theorem TgL.take {w : World} {G : Nat → Prop} : ∀ {l : Tags} {vs : List Value} (n : Nat), TgL w G l vs → TgL w G (l.take n) vs
  | [], _, n, _ => by simp [TgL]
  | x :: r, vs, 0, _ => by simp [TgL]
  | x :: r, vs, n + 1, h => ⟨h.1, TgL.take n h.2⟩
theorem TgL.get {w : World} {G : Nat → Prop} : ∀ {l : Tags} {vs : List Value} {i : Nat} {x : Nat × Bs}, TgL w G l vs → l[i]? = some x → TgC w G x ((vs.drop (i * 2)).take 2) ∧ i * 2 + 2 ≤ vs.length
  | [], _, i, f, _, hf => by simp at hf
  | g :: r, vs, i, f, h, hf => by
    cases i with
    | zero =>
      simp at hf; subst hf
      obtain ⟨ob, cb, h1, _⟩ := h.1
      have := congrArg List.length h1
      simp only [List.length_take, List.length_cons, List.length_nil] at this
      exact ⟨by simpa using h.1, by omega⟩
    | succ i =>
      have := TgL.get h.2 (by simpa using hf : r[i]? = some f)
      rw [List.drop_drop, List.length_drop] at this
      have e : (i + 1) * 2 = 2 + i * 2 := by omega
      rw [e]
      exact ⟨this.1, by omega⟩
theorem SchF.cells {w : World} {G : Nat → Prop} {f : Fld} {cs : List Value} (h : SchF w G f cs) :
    cs.length = 8 ∧ cs[0]? = some (kV f.kind) ∧ cs[1]? = some (.int .i64 f.from_) ∧ cs[2]? = some (.int .i64 f.to) ∧ cs[3]? = some (.int .i64 f.null) ∧ cs[4]? = some (.int .i64 f.tag) ∧ cs[5]? = some (.int .i64 f.dflt) ∧
      cs[6]? = some (kV f.of) ∧ ∃ v, cs[7]? = some v ∧ SchS w G f.sub v := by
  cases f
  unfold SchF at h
  obtain ⟨oa, cap, rfl, h2⟩ := h
  exact ⟨rfl, rfl, rfl, rfl, rfl, rfl, rfl, rfl, _, rfl, oa, cap, rfl, h2⟩
theorem TrC.cells {w : World} {G : Nat → Prop} {v : Tr} {cs : List Value} (h : TrC w G v cs) :
    cs.length = 5 ∧ cs[0]? = some (.int .i64 v.n) ∧ IntKind.i64.wrap v.n = v.n ∧ (∃ ob cb, cs[1]? = some (.slice ob v.b.length cb) ∧ v.b.length ≤ cb ∧ BytesAt w G ob v.b) ∧ cs[2]? = some (.bool v.nil) ∧
      (∃ x, cs[3]? = some x ∧ TrS w G v.l x) ∧ ∃ x, cs[4]? = some x ∧ TgS w G v.t x := by
  cases v
  unfold TrC at h
  obtain ⟨ob, cb, ol, cl, vt, rfl, h0, h2, h3, h4, h5, h6⟩ := h
  exact ⟨rfl, rfl, h0, ⟨ob, cb, rfl, h2, h4⟩, rfl, ⟨_, rfl, ol, cl, rfl, h3, h5⟩, _, rfl, h6⟩
end Go.Proofs.YtbgfphbajbbgoaaDoor
namespace Go.Proofs.YtbgfphbajbbgoaaDoor
set_option linter.all false
open Go.RowKit
set_option maxRecDepth 10000
set_option maxHeartbeats 1000000
theorem Stay.none {w w' : World} {G : Nat → Prop} (c : Chg (fun _ => False) w w') : Stay w w' G G := Stay.of c fun _ _ _ h => h
end Go.Proofs.YtbgfphbajbbgoaaDoor
namespace Go.Proofs.YtbgfphbajbbgoaaDoor
set_option linter.all false
open Go.RowKit
set_option maxRecDepth 10000
set_option maxHeartbeats 1000000
theorem TrC.one {w : World} {G : Nat → Prop} {v : Tr} {cs : List Value} (h : TrC w G v cs) : ∀ x ∈ cs, x.oneCell' = true := by
  cases v
  unfold TrC at h
  obtain ⟨ob, cb, ol, cl, vt, rfl, _, _, _, _, _, ot, ct, rfl, _⟩ := h
  intro x hx
  simp only [List.mem_cons, List.not_mem_nil, or_false] at hx
  rcases hx with rfl | rfl | rfl | rfl | rfl <;> rfl
theorem SchF.one {w : World} {G : Nat → Prop} {f : Fld} {cs : List Value} (h : SchF w G f cs) : ∀ x ∈ cs, x.oneCell' = true := by
  cases f
  unfold SchF at h
  obtain ⟨oa, cap, rfl, _⟩ := h
  intro x hx
  simp only [List.mem_cons, List.not_mem_nil, or_false] at hx
  rcases hx with rfl | rfl | rfl | rfl | rfl | rfl | rfl | rfl <;> rfl
end Go.Proofs.YtbgfphbajbbgoaaDoor
namespace Go.Proofs.YtbgfphbajbbgoaaDoor
set_option linter.all false
open Go.RowKit
set_option maxRecDepth 10000
set_option maxHeartbeats 1000000
def Octs (w : World) (v : Value) (l : Bs) (w' : World) : Prop := Own eB w' w.heap.size v l ∧ Chg (fun _ => False) w w'
end Go.Proofs.YtbgfphbajbbgoaaDoor
namespace Go.Proofs.YtbgfphbajbbgoaaDoor
set_option linter.all false
open Go.RowKit
set_option maxRecDepth 10000
set_option maxHeartbeats 1000000
end Go.Proofs.YtbgfphbajbbgoaaDoor
namespace Go.Proofs.YtbgfphbajbbgoaaDoor
set_option linter.all false
open Go.RowKit
set_option maxRecDepth 10000
set_option maxHeartbeats 1000000
theorem BytesAt.row {w : World} {G : Nat → Prop} {oa : Option Addr} {l : Bs} (h : BytesAt w G oa l) {i : Nat} (hi : i < l.length) :
    ∃ b o cs T, oa = some ⟨b, o, none⟩ ∧ G b ∧ Rbk w b cs T ∧ cs[o + i]? = some (byteV l[i]) := by
  rcases h with rfl | ⟨b, o, cs, T, h1, h2, h3, h4⟩
  · cases hi
  · refine ⟨b, o, cs, T, h1, h2, h3, ?_⟩
    rw [← seg_get hi, h4]
    simp [hi]
theorem byteV_inj {u v : UInt8} : (u.toNat : Int) = (v.toNat : Int) ↔ u = v := by
  constructor
  · intro h
    exact UInt8.toNat_inj.1 (by omega)
  · rintro rfl; rfl
theorem Same_c (l1 l2 : Bs) {w : World} {G1 G2 : Nat → Prop} {o1 o2 : Option Addr} {c1 c2 : Nat} (h1 : BytesAt w G1 o1 l1) (h2 : BytesAt w G2 o2 l2) (hlim : l1.length ≤ LIM) :
    CallsR Tryd.prog 11 #[.slice o1 l1.length c1, .slice o2 l2.length c2] w fun v w' => v = .bool (decide (l1 = l2)) ∧ Chg (fun _ => False) w w' := by
  refine callsR_of Tryd.func11 rfl rfl Tryd.ntmps11 (by simp) ?_
  intro a hN hD ha
  have h0 : get a 0 = .slice o1 l1.length c1 := ha 0 _ rfl
  have hh1 : get a 1 = .slice o2 l2.length c2 := ha 1 _ rfl
  refine wp_seq_k fun K hK => ?_; refine wp_reg ?_; (repeat (first | ((with_reducible refine wl_q ?_ ?_ ?_ ?_); (· exact rfl); (· simp [evb, kb, hN, dyb, sdb] <;> omega); (· kernel_rfl); try simp only [evb, kb, hN, Nat.reduceLT, Nat.reduceEqDiff, reduceIte, Int.reduceToNat, Int.reduceBEq, pvb]) | ((with_reducible refine wl_lenS ?_ ?_ ?_); rotate_left 1; (· simp [evb, kb, hN, sdb]); rotate_left 1; (· kernel_rfl); try simp only [evb, kb, hN, Nat.reduceLT, Nat.reduceEqDiff, reduceIte, Int.reduceToNat, Int.reduceBEq, pvb]))); refine wl_nil ?_; refine hK _ _ ?_; clear hK K
  refine wp_seq_k fun K0 hK0 => ?_; refine wp_seq_k fun K1 hK1 => ?_; refine wp_reg ?_
  (repeat (first | ((with_reducible refine wl_q ?_ ?_ ?_ ?_); (· exact rfl); (· simp [evb, kb, hN, h0, hh1, dyb, sdb] <;> omega); (· kernel_rfl); try simp only [evb, kb, hN, Nat.reduceLT, Nat.reduceEqDiff, reduceIte, Int.reduceToNat, Int.reduceBEq, pvb, h0, hh1]) | ((with_reducible refine wl_lenS ?_ ?_ ?_); rotate_left 1; (· simp [evb, kb, hN, h0, hh1, sdb]); rotate_left 1; (· kernel_rfl); try simp only [evb, kb, hN, Nat.reduceLT, Nat.reduceEqDiff, reduceIte, Int.reduceToNat, Int.reduceBEq, pvb, h0, hh1])))
  by_cases hlen : l1.length = l2.length
  case neg =>
    have hl : ¬ ((l1.length : Int) = (l2.length : Int)) := by omega
    refine wl_nil ?_
    refine hK1 _ _ ?_; try clear hK1 K1
    refine wp_cond_true (by simp [evb, kb, hN, hl, sdb]) ?_
    (repeat (first | (with_reducible refine wp_seq_k (fun K hK => ?_)) | (with_reducible refine wp_block ?_) | ((with_reducible refine wp_reg ?_); (repeat (first | ((with_reducible refine wl_q ?_ ?_ ?_ ?_); (· exact rfl); (· simp [evb, kb, hN, bigb, dyb, sdb] <;> omega); (· kernel_rfl); try simp only [evb, kb, hN, Nat.reduceLT, Nat.reduceEqDiff, reduceIte, Int.reduceToNat, Int.reduceBEq, pvb, bigb]) | ((with_reducible refine wl_lenS ?_ ?_ ?_); rotate_left 1; (· simp [evb, kb, hN, bigb, sdb]); rotate_left 1; (· kernel_rfl); try simp only [evb, kb, hN, Nat.reduceLT, Nat.reduceEqDiff, reduceIte, Int.reduceToNat, Int.reduceBEq, pvb, bigb]) | ((with_reducible first | refine wl_min ?_ ?_ ?_ | refine wl_max ?_ ?_ ?_ | refine wl_mul ?_ ?_) <;> (first | (with_reducible refine wl_id ?_; try simp only [evb, kb, hN, Nat.reduceLT, Nat.reduceEqDiff, reduceIte, Int.reduceToNat, Int.reduceBEq, pvb, bigb]) | (simp [evb, kb, hN, bigb, sdb] <;> omega))) | ((with_reducible refine wl_pickT ?_ ?_); (· simp [evb, kb, hN, bigb, sdb]); try simp only [evb, kb, hN, Nat.reduceLT, Nat.reduceEqDiff, reduceIte, Int.reduceToNat, Int.reduceBEq, pvb, bigb]) | ((with_reducible refine wl_pickF ?_ ?_); (· simp [evb, kb, hN, bigb, sdb]); try simp only [evb, kb, hN, Nat.reduceLT, Nat.reduceEqDiff, reduceIte, Int.reduceToNat, Int.reduceBEq, pvb, bigb]) | ((with_reducible apply wl_gyesB); (· exact rfl); (· exact rfl); (· simp [evb, kb, hN, bigb, sdb]); try simp only [evb, kb, hN, Nat.reduceLT, Nat.reduceEqDiff, reduceIte, Int.reduceToNat, Int.reduceBEq, pvb, bigb]) | ((with_reducible apply wl_gnoB); (· exact rfl); (· exact rfl); (· simp [evb, kb, hN, bigb, sdb]); try simp only [evb, kb, hN, Nat.reduceLT, Nat.reduceEqDiff, reduceIte, Int.reduceToNat, Int.reduceBEq, pvb, bigb]) | ((with_reducible apply wl_gnoU); (· exact rfl); (· exact rfl); (· simp [evb, kb, hN, bigb, sdb]); try simp only [evb, kb, hN, Nat.reduceLT, Nat.reduceEqDiff, reduceIte, Int.reduceToNat, Int.reduceBEq, pvb, bigb]))); (refine wl_nil ?_)) | ((with_reducible refine wp_cond_true ?_ ?_); (· simp [evb, kb, hN, sdb])) | ((with_reducible refine wp_cond_false ?_ ?_); (· simp [evb, kb, hN, sdb])) | (with_reducible refine wp_skip ?_) | (refine hK _ _ ?_; clear hK K)))
    refine wp_ret ⟨by simp [defers_put, hD], ?_⟩; simp only [evb, kb, hN, Nat.reduceLT, Nat.reduceEqDiff, reduceIte, Int.reduceToNat, Int.reduceBEq]
    refine ⟨?_, Chg.refl _ _⟩
    rw [decide_eq_false (fun h => hlen (by rw [h]))]
  have hl : (l1.length : Int) = (l2.length : Int) := by omega
  refine wl_nil ?_
  refine hK1 _ _ ?_; try clear hK1 K1
  refine wp_cond_false (by simp [evb, kb, hN, hl, sdb]) ?_
  refine wp_skip ?_
  refine hK0 _ _ ?_; try clear hK0 K0
  refine wp_seq_k fun K0 hK0 => ?_; refine wp_seq_k fun K1 hK1 => ?_; refine wp_reg ?_
  (repeat (first | ((with_reducible refine wl_q ?_ ?_ ?_ ?_); (· exact rfl); (· simp [evb, kb, hN, h0, dyb, sdb] <;> omega); (· kernel_rfl); try simp only [evb, kb, hN, Nat.reduceLT, Nat.reduceEqDiff, reduceIte, Int.reduceToNat, Int.reduceBEq, pvb, h0]) | ((with_reducible refine wl_lenS ?_ ?_ ?_); rotate_left 1; (· simp [evb, kb, hN, h0, sdb]); rotate_left 1; (· kernel_rfl); try simp only [evb, kb, hN, Nat.reduceLT, Nat.reduceEqDiff, reduceIte, Int.reduceToNat, Int.reduceBEq, pvb, h0])))
  refine wl_nil ?_
  refine hK1 _ _ ?_; try clear hK1 K1
  refine wp_block ?_
  refine wp_loop (fun a' w' => ∃ i : Nat, i ≤ l1.length ∧ a'.tmps.size = 26 ∧ a'.defers = [] ∧ get a' 0 = .slice o1 l1.length c1 ∧ get a' 1 = .slice o2 l2.length c2 ∧ get a' 12 = .int .i64 l1.length ∧ get a' 13 = .int .i64 i ∧ l1.take i = l2.take i ∧ Chg (fun _ => False) w w')
    (fun a' _ => l1.length - (intOf (get a' 13)).toNat) ?_ ?_
  · exact ⟨0, by omega, by simp only [evb, kb, hN, Nat.reduceLT, Nat.reduceEqDiff, reduceIte, Int.reduceToNat, Int.reduceBEq], by simp [defers_put, hD], by simp only [evb, kb, hN, Nat.reduceLT, Nat.reduceEqDiff, reduceIte, Int.reduceToNat, Int.reduceBEq, h0], by simp only [evb, kb, hN, Nat.reduceLT, Nat.reduceEqDiff, reduceIte, Int.reduceToNat, Int.reduceBEq, hh1], by simp only [evb, kb, hN, Nat.reduceLT, Nat.reduceEqDiff, reduceIte, Int.reduceToNat, Int.reduceBEq], by simp only [evb, kb, hN, Nat.reduceLT, Nat.reduceEqDiff, reduceIte, Int.reduceToNat, Int.reduceBEq]; rfl, by simp, Chg.refl _ _⟩
  clear hN hD h0 hh1
  rintro a1 w1 ⟨i, hi, hN, hD, h0, hh1, g12, g13, htk, hc⟩
  refine wp_seq_k fun K2 hK2 => ?_; refine wp_reg ?_; (repeat (first | ((with_reducible refine wl_q ?_ ?_ ?_ ?_); (· exact rfl); (· simp [evb, kb, hN, g12, g13, dyb, sdb] <;> omega); (· kernel_rfl); try simp only [evb, kb, hN, Nat.reduceLT, Nat.reduceEqDiff, reduceIte, Int.reduceToNat, Int.reduceBEq, pvb, g12, g13]) | ((with_reducible refine wl_lenS ?_ ?_ ?_); rotate_left 1; (· simp [evb, kb, hN, g12, g13, sdb]); rotate_left 1; (· kernel_rfl); try simp only [evb, kb, hN, Nat.reduceLT, Nat.reduceEqDiff, reduceIte, Int.reduceToNat, Int.reduceBEq, pvb, g12, g13])))
  by_cases hlt : i < l1.length
  case neg =>
    have e : i = l1.length := by omega
    subst e
    have e1 : decide ((l1.length : Int) < (l1.length : Int)) = false := decide_eq_false (by omega)
    rw [e1]
    refine wl_nil ?_
    refine hK2 _ _ ?_; try clear hK2 K2
    refine wp_seq_k fun K3 hK3 => ?_
    refine wp_cond_false (by simp [evb, kb, hN, sdb]) ?_
    refine wp_exit ?_
    simp only [Exit.then, Exit.inBlock, if_pos]
    refine hK0 _ _ ?_; try clear hK0 K0
    (repeat (first | (with_reducible refine wp_seq_k (fun K hK => ?_)) | (with_reducible refine wp_block ?_) | ((with_reducible refine wp_reg ?_); (repeat (first | ((with_reducible refine wl_q ?_ ?_ ?_ ?_); (· exact rfl); (· simp [evb, kb, hN, bigb, dyb, sdb] <;> omega); (· kernel_rfl); try simp only [evb, kb, hN, Nat.reduceLT, Nat.reduceEqDiff, reduceIte, Int.reduceToNat, Int.reduceBEq, pvb, bigb]) | ((with_reducible refine wl_lenS ?_ ?_ ?_); rotate_left 1; (· simp [evb, kb, hN, bigb, sdb]); rotate_left 1; (· kernel_rfl); try simp only [evb, kb, hN, Nat.reduceLT, Nat.reduceEqDiff, reduceIte, Int.reduceToNat, Int.reduceBEq, pvb, bigb]) | ((with_reducible first | refine wl_min ?_ ?_ ?_ | refine wl_max ?_ ?_ ?_ | refine wl_mul ?_ ?_) <;> (first | (with_reducible refine wl_id ?_; try simp only [evb, kb, hN, Nat.reduceLT, Nat.reduceEqDiff, reduceIte, Int.reduceToNat, Int.reduceBEq, pvb, bigb]) | (simp [evb, kb, hN, bigb, sdb] <;> omega))) | ((with_reducible refine wl_pickT ?_ ?_); (· simp [evb, kb, hN, bigb, sdb]); try simp only [evb, kb, hN, Nat.reduceLT, Nat.reduceEqDiff, reduceIte, Int.reduceToNat, Int.reduceBEq, pvb, bigb]) | ((with_reducible refine wl_pickF ?_ ?_); (· simp [evb, kb, hN, bigb, sdb]); try simp only [evb, kb, hN, Nat.reduceLT, Nat.reduceEqDiff, reduceIte, Int.reduceToNat, Int.reduceBEq, pvb, bigb]) | ((with_reducible apply wl_gyesB); (· exact rfl); (· exact rfl); (· simp [evb, kb, hN, bigb, sdb]); try simp only [evb, kb, hN, Nat.reduceLT, Nat.reduceEqDiff, reduceIte, Int.reduceToNat, Int.reduceBEq, pvb, bigb]) | ((with_reducible apply wl_gnoB); (· exact rfl); (· exact rfl); (· simp [evb, kb, hN, bigb, sdb]); try simp only [evb, kb, hN, Nat.reduceLT, Nat.reduceEqDiff, reduceIte, Int.reduceToNat, Int.reduceBEq, pvb, bigb]) | ((with_reducible apply wl_gnoU); (· exact rfl); (· exact rfl); (· simp [evb, kb, hN, bigb, sdb]); try simp only [evb, kb, hN, Nat.reduceLT, Nat.reduceEqDiff, reduceIte, Int.reduceToNat, Int.reduceBEq, pvb, bigb]))); (refine wl_nil ?_)) | ((with_reducible refine wp_cond_true ?_ ?_); (· simp [evb, kb, hN, sdb])) | ((with_reducible refine wp_cond_false ?_ ?_); (· simp [evb, kb, hN, sdb])) | (with_reducible refine wp_skip ?_) | (refine hK _ _ ?_; clear hK K)))
    refine wp_ret ⟨by simp [defers_put, hD], ?_⟩; simp only [evb, kb, hN, Nat.reduceLT, Nat.reduceEqDiff, reduceIte, Int.reduceToNat, Int.reduceBEq]
    refine ⟨?_, hc⟩
    rw [List.take_length, hlen, List.take_length] at htk
    rw [decide_eq_true htk]
  have e1 : decide ((i : Int) < (l1.length : Int)) = true := decide_eq_true (by omega)
  rw [e1]
  refine wl_nil ?_
  refine hK2 _ _ ?_; try clear hK2 K2
  refine wp_seq_k fun K3 hK3 => ?_
  refine wp_cond_true (by simp [evb, kb, hN, sdb]) ?_
  refine wp_skip ?_
  refine hK3 _ _ ?_; try clear hK3 K3
  refine wp_seq_k fun K4 hK4 => ?_
  refine wp_block ?_
  refine wp_seq_k fun K5 hK5 => ?_; refine wp_reg ?_; (repeat (first | ((with_reducible refine wl_q ?_ ?_ ?_ ?_); (· exact rfl); (· simp [evb, kb, hN, g13, dyb, sdb] <;> omega); (· kernel_rfl); try simp only [evb, kb, hN, Nat.reduceLT, Nat.reduceEqDiff, reduceIte, Int.reduceToNat, Int.reduceBEq, pvb, g13]) | ((with_reducible refine wl_lenS ?_ ?_ ?_); rotate_left 1; (· simp [evb, kb, hN, g13, sdb]); rotate_left 1; (· kernel_rfl); try simp only [evb, kb, hN, Nat.reduceLT, Nat.reduceEqDiff, reduceIte, Int.reduceToNat, Int.reduceBEq, pvb, g13])))
  refine wl_nil ?_
  refine hK5 _ _ ?_; try clear hK5 K5
  refine wp_seq_k fun K6 hK6 => ?_
  obtain ⟨b1, p1, cs1, T1, rfl, _, hb1, hv1⟩ := h1.row hlt
  obtain ⟨b2, p2, cs2, T2, rfl, _, hb2, hv2⟩ := h2.row (by omega : i < l2.length)
  refine wp_sched (fun w' => Chg (fun _ => False) w w') [(true, 0), (true, 1), (true, 2), (true, 3), (true, 4), (true, 5), (true, 6), (true, 7), (true, 8)] follows_any (by kernel_rfl) (by kernel_rfl) (hc.trans (Chg.drew _ _) fun _ _ h => h) ?_
  refine ws_move rfl ?_
  refine ws_move rfl ?_
  simp only [evb, kb, hN, Nat.reduceLT, Nat.reduceEqDiff, reduceIte, Int.reduceToNat, Int.reduceBEq, h0]
  refine ws_indexAddr (b := b1) (o := p1) (k := .i64) (j := i) (n := 1) (len := l1.length) (cap := c1) (by kernel_rfl) rfl (by simp [evb, kb, hN, sdb]) (by simp [evb, kb, hN, sdb]) hlt ?_
  refine ws_load_r (b := b1) (o := p1 + i * 1) (by kernel_rfl) rfl (by simp [evb, kb, hN, sdb]) (fun w' hw => hb1.chg hw (fun h => h)) (by rw [Nat.mul_one]; exact hv1) ?_
  refine ws_move rfl ?_
  refine ws_move rfl ?_
  simp only [evb, kb, hN, Nat.reduceLT, Nat.reduceEqDiff, reduceIte, Int.reduceToNat, Int.reduceBEq, hh1]
  refine ws_indexAddr (b := b2) (o := p2) (k := .i64) (j := i) (n := 1) (len := l2.length) (cap := c2) (by kernel_rfl) rfl (by simp [evb, kb, hN, sdb]) (by simp [evb, kb, hN, sdb]) (by omega) ?_
  refine ws_load_r (b := b2) (o := p2 + i * 1) (by kernel_rfl) rfl (by simp [evb, kb, hN, sdb]) (fun w' hw => hb2.chg hw (fun h => h)) (by rw [Nat.mul_one]; exact hv2) ?_
  refine ws_neq rfl (by simp [evb, kb, hN, byteV, sdb]) ?_
  simp only [evb, kb, hN, Nat.reduceLT, Nat.reduceEqDiff, reduceIte, Int.reduceToNat, Int.reduceBEq, byteV]
  refine ws_nil ?_
  refine hK6 _ _ ?_; try clear hK6 K6
  have hc2 : Chg (fun _ => False) w w1.drew := hc.trans (Chg.drew _ _) fun _ _ h => h
  by_cases hq : l1[i] = l2[i]
  case neg =>
    have e2 : (((l1[i].toNat : Nat) : Int) != ((l2[i].toNat : Nat) : Int)) = true := by
      have : ¬ ((l1[i].toNat : Int) = (l2[i].toNat : Int)) := fun h => hq (byteV_inj.1 h)
      simpa using this
    refine wp_cond_true (by simp [evb, kb, hN, e2, sdb]) ?_
    (repeat (first | (with_reducible refine wp_seq_k (fun K hK => ?_)) | (with_reducible refine wp_block ?_) | ((with_reducible refine wp_reg ?_); (repeat (first | ((with_reducible refine wl_q ?_ ?_ ?_ ?_); (· exact rfl); (· simp [evb, kb, hN, bigb, dyb, sdb] <;> omega); (· kernel_rfl); try simp only [evb, kb, hN, Nat.reduceLT, Nat.reduceEqDiff, reduceIte, Int.reduceToNat, Int.reduceBEq, pvb, bigb]) | ((with_reducible refine wl_lenS ?_ ?_ ?_); rotate_left 1; (· simp [evb, kb, hN, bigb, sdb]); rotate_left 1; (· kernel_rfl); try simp only [evb, kb, hN, Nat.reduceLT, Nat.reduceEqDiff, reduceIte, Int.reduceToNat, Int.reduceBEq, pvb, bigb]) | ((with_reducible first | refine wl_min ?_ ?_ ?_ | refine wl_max ?_ ?_ ?_ | refine wl_mul ?_ ?_) <;> (first | (with_reducible refine wl_id ?_; try simp only [evb, kb, hN, Nat.reduceLT, Nat.reduceEqDiff, reduceIte, Int.reduceToNat, Int.reduceBEq, pvb, bigb]) | (simp [evb, kb, hN, bigb, sdb] <;> omega))) | ((with_reducible refine wl_pickT ?_ ?_); (· simp [evb, kb, hN, bigb, sdb]); try simp only [evb, kb, hN, Nat.reduceLT, Nat.reduceEqDiff, reduceIte, Int.reduceToNat, Int.reduceBEq, pvb, bigb]) | ((with_reducible refine wl_pickF ?_ ?_); (· simp [evb, kb, hN, bigb, sdb]); try simp only [evb, kb, hN, Nat.reduceLT, Nat.reduceEqDiff, reduceIte, Int.reduceToNat, Int.reduceBEq, pvb, bigb]) | ((with_reducible apply wl_gyesB); (· exact rfl); (· exact rfl); (· simp [evb, kb, hN, bigb, sdb]); try simp only [evb, kb, hN, Nat.reduceLT, Nat.reduceEqDiff, reduceIte, Int.reduceToNat, Int.reduceBEq, pvb, bigb]) | ((with_reducible apply wl_gnoB); (· exact rfl); (· exact rfl); (· simp [evb, kb, hN, bigb, sdb]); try simp only [evb, kb, hN, Nat.reduceLT, Nat.reduceEqDiff, reduceIte, Int.reduceToNat, Int.reduceBEq, pvb, bigb]) | ((with_reducible apply wl_gnoU); (· exact rfl); (· exact rfl); (· simp [evb, kb, hN, bigb, sdb]); try simp only [evb, kb, hN, Nat.reduceLT, Nat.reduceEqDiff, reduceIte, Int.reduceToNat, Int.reduceBEq, pvb, bigb]))); (refine wl_nil ?_)) | ((with_reducible refine wp_cond_true ?_ ?_); (· simp [evb, kb, hN, sdb])) | ((with_reducible refine wp_cond_false ?_ ?_); (· simp [evb, kb, hN, sdb])) | (with_reducible refine wp_skip ?_) | (refine hK _ _ ?_; clear hK K)))
    refine wp_ret ⟨by simp [defers_put, hD], ?_⟩; simp only [evb, kb, hN, Nat.reduceLT, Nat.reduceEqDiff, reduceIte, Int.reduceToNat, Int.reduceBEq]
    refine ⟨?_, hc2⟩
    rw [decide_eq_false]
    intro h
    subst h
    exact hq rfl
  have e2 : (((l1[i].toNat : Nat) : Int) != ((l2[i].toNat : Nat) : Int)) = false := by rw [hq]; simp
  refine wp_cond_false (by simp [evb, kb, hN, e2, sdb]) ?_
  refine wp_skip ?_
  simp only [Exit.then, Exit.inBlock]
  refine hK4 _ _ ?_; try clear hK4 K4
  refine wp_reg ?_
  (repeat (first | ((with_reducible refine wl_q ?_ ?_ ?_ ?_); (· exact rfl); (· simp [evb, kb, hN, g13, dyb, sdb] <;> omega); (· kernel_rfl); try simp only [evb, kb, hN, Nat.reduceLT, Nat.reduceEqDiff, reduceIte, Int.reduceToNat, Int.reduceBEq, pvb, g13]) | ((with_reducible refine wl_lenS ?_ ?_ ?_); rotate_left 1; (· simp [evb, kb, hN, g13, sdb]); rotate_left 1; (· kernel_rfl); try simp only [evb, kb, hN, Nat.reduceLT, Nat.reduceEqDiff, reduceIte, Int.reduceToNat, Int.reduceBEq, pvb, g13])))
  rw [i64_id ((i : Int) + 1) (by unfold LIM at hlim; omega)]
  refine wl_nil ⟨⟨i + 1, by omega, by simp only [evb, kb, hN, Nat.reduceLT, Nat.reduceEqDiff, reduceIte, Int.reduceToNat, Int.reduceBEq], by simp [defers_put, hD], by simp only [evb, kb, hN, Nat.reduceLT, Nat.reduceEqDiff, reduceIte, Int.reduceToNat, Int.reduceBEq, h0], by simp only [evb, kb, hN, Nat.reduceLT, Nat.reduceEqDiff, reduceIte, Int.reduceToNat, Int.reduceBEq, hh1], by simp only [evb, kb, hN, Nat.reduceLT, Nat.reduceEqDiff, reduceIte, Int.reduceToNat, Int.reduceBEq, g12], by simp only [evb, kb, hN, Nat.reduceLT, Nat.reduceEqDiff, reduceIte, Int.reduceToNat, Int.reduceBEq]; rfl, ?_, hc2⟩, ?_⟩
  · rw [List.take_add_one, List.take_add_one, htk]
    have a1 : l1[i]? = some l1[i] := by simp [hlt]
    have a2 : l2[i]? = some l2[i] := by simp
    rw [a1, a2, hq]
  · simp only [evb, kb, hN, Nat.reduceLT, Nat.reduceEqDiff, reduceIte, Int.reduceToNat, Int.reduceBEq, g13, intOf]
    omega
end Go.Proofs.YtbgfphbajbbgoaaDoor
namespace Go.Proofs.YtbgfphbajbbgoaaDoor
set_option linter.all false
end Go.Proofs.YtbgfphbajbbgoaaDoor
namespace Go.Proofs.YtbgfphbajbbgoaaDoor
set_option linter.all false
open Go.RowKit
set_option maxRecDepth 10000
set_option maxHeartbeats 1000000
theorem SchS.get {w : World} {G : Nat → Prop} {fs : List Fld} {oa : Option Addr} {n cap i : Nat} {f : Fld} (h : SchS w G fs (.slice oa n cap)) (hf : fs[i]? = some f) :
    ∃ b cs T, oa = some ⟨b, 0, none⟩ ∧ n = fs.length ∧ G b ∧ Blk w b cs T ∧ SchF w G f ((cs.drop (i * 8)).take 8) ∧ i * 8 + 8 ≤ cs.length := by
  obtain ⟨oa', cap', h1, h2⟩ := h
  simp at h1
  obtain ⟨rfl, rfl, rfl⟩ := h1
  rcases h2 with rfl | ⟨b, cs, T, h3, h4, h5, h6⟩
  · simp at hf
  · obtain ⟨k1, k2⟩ := h6.get hf
    exact ⟨b, cs, T, h3, rfl, h4, h5, k1, k2⟩
end Go.Proofs.YtbgfphbajbbgoaaDoor
namespace Go.Proofs.YtbgfphbajbbgoaaDoor
set_option linter.all false
open Go.RowKit
set_option maxRecDepth 10000
section
variable {P : Program} {ops : Array Oper} {Q : Exit → Act → World → Prop} {a : Act} {w : World} {rest : List Oper} {d : Option Nat} {ty : TypeId} {pos : String} {af : Array Edge}
end
end Go.Proofs.YtbgfphbajbbgoaaDoor

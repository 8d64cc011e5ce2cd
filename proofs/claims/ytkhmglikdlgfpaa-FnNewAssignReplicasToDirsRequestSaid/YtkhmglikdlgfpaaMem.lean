import Derived.Test.YtkhmglikdlgfpaaOps
import Derived.Test.YtkhmglikdlgfpaaTagK
/-
How what a message says lies in memory. Generic over the program.
-/
namespace Go.Proofs.Ytkhmglikdlgfpaa
set_option linter.all false
open Go.RowKit

/-- How many cells a value of a kind takes. -/
def ksz : K → Nat
  | .uuid => 16
  | _ => 1
mutual
def fsz (fl : Bool) : Fld → Nat
  | .mk k _ _ null _ _ _ sub => match k with
    | .struct => if null < 0 then lsz fl sub + (if fl then 1 else 0) else 1
    | k => ksz k
def lsz (fl : Bool) : List Fld → Nat
  | [] => 0
  | f :: r => fsz fl f + lsz fl r
end
/-- The cells of a part: its fields, and its unknown tags where its message has them. -/
def ssz (fl : Bool) (fs : List Fld) : Nat := lsz fl fs + (if fl then 1 else 0)

/-- A value of a kind, as cells. -/
def RepK (w : World) (G : Nat → Prop) : K → D → List Value → Prop
  | .bool, .bool b, vs => vs = [.bool b]
  | .i8, .int n, vs => vs = [.int .i8 n]
  | .i16, .int n, vs => vs = [.int .i16 n]
  | .i32, .int n, vs => vs = [.int .i32 n]
  | .i64, .int n, vs => vs = [.int .i64 n]
  | .u16, .int n, vs => vs = [.int .u16 n]
  | .f64, .f64 n, vs => vs = [.float .f64 n]
  | .uuid, .uuid l, vs => l.length = 16 ∧ vs = l.map byteV
  | .text, .str l, vs => vs = [.string ⟨l.toArray⟩]
  | .bytes, .bytes l, vs => ∃ oa cap, vs = [.slice oa l.length cap] ∧ BytesAt w G oa l
  | _, _, _ => False

/-- An entry of a map of tags. -/
def RepE (w : World) (G : Nat → Prop) (e : MapEntry) (x : Nat × Bs) : Prop :=
  e.key = .int .u32 x.1 ∧ x.1 < 4294967296 ∧ ∃ oa cap, e.val = .slice oa x.2.length cap ∧ BytesAt w G oa x.2

inductive All2 {α β : Type} (R : α → β → Prop) : List α → List β → Prop
  | nil : All2 R [] []
  | cons {a b l m} : R a b → All2 R l m → All2 R (a :: l) (b :: m)

theorem All2.imp {α β : Type} {R R' : α → β → Prop} (h : ∀ a b, R a b → R' a b) : ∀ {l m}, All2 R l m → All2 R' l m
  | _, _, .nil => .nil
  | _, _, .cons x y => .cons (h _ _ x) (y.imp h)
theorem All2.length {α β : Type} {R : α → β → Prop} : ∀ {l m}, All2 R l m → l.length = m.length
  | _, _, .nil => rfl
  | _, _, .cons _ y => by simp [y.length]

/-- Unknown tags: a map's block. -/
def TagsAt (w : World) (G : Nat → Prop) (m : Option Nat) (t : Tags) : Prop :=
  (m = none ∧ t = []) ∨ ∃ r es clock, m = some r ∧ G r ∧ w.heap[r]? = some (.map es clock) ∧ All2 (RepE w G) es.toList t ∧ (t.map (·.1)).Nodup ∧
    (es.toList.map (·.born)).Nodup ∧ ∀ e ∈ es.toList, e.born < clock

def RepT (w : World) (G : Nat → Prop) (fl : Bool) (t : Tags) (vs : List Value) : Prop :=
  if fl then ∃ m, vs = [.map m] ∧ TagsAt w G m t ∧ tagOK t else vs = [] ∧ t = []

mutual
/-- A field, as cells. -/
def RepF (w : World) (G : Nat → Prop) (fl : Bool) : Fld → D → List Value → Prop
  | .mk k _ _ null _ _ of sub => fun d vs => match k with
    | .list => match d with
      | .arr nil l => ∃ oa cap, vs = [.slice oa l.length cap] ∧ nil = oa.isNone ∧ l.length ≤ 1073741824 ∧ (l = [] ∨ ∃ b cs T, oa = some ⟨b, 0, none⟩ ∧ G b ∧ Blk w b cs T ∧
          match of with
          | .struct => l.length * ssz fl sub ≤ cs.length ∧ ∀ i x, l[i]? = some x → ∃ s : S, x = s.d ∧ ∃ v1 v2, ((cs.drop (i * ssz fl sub)).take (ssz fl sub)) = v1 ++ v2 ∧ RepL w G fl sub s.ds v1 ∧ RepT w G fl s.tags v2
          | k => l.length * ksz k ≤ cs.length ∧ ∀ i x, l[i]? = some x → RepK w G k x ((cs.drop (i * ksz k)).take (ksz k)))
      | _ => False
    | .struct =>
      if null < 0 then ∃ s : S, d = s.d ∧ ∃ v1 v2, vs = v1 ++ v2 ∧ RepL w G fl sub s.ds v1 ∧ RepT w G fl s.tags v2
      else match d with
        | .pnil => vs = [.pointer none]
        | .ptr x => ∃ s : S, x = s.d ∧ ∃ b cs T, vs = [.pointer (some ⟨b, 0, none⟩)] ∧ G b ∧ Blk w b cs T ∧ ∃ v1 v2, cs = v1 ++ v2 ∧ RepL w G fl sub s.ds v1 ∧ RepT w G fl s.tags v2
        | _ => False
    | .text => if null < 0 then RepK w G .text d vs else match d with
      | .nstr none => vs = [.pointer none]
      | .nstr (some l) => ∃ b cs T, vs = [.pointer (some ⟨b, 0, none⟩)] ∧ G b ∧ Blk w b cs T ∧ cs[0]? = some (.string ⟨l.toArray⟩)
      | _ => False
    | k => RepK w G k d vs
def RepL (w : World) (G : Nat → Prop) (fl : Bool) : List Fld → List D → List Value → Prop
  | [], ds, vs => ds = [] ∧ vs = []
  | f :: r, ds, vs => ∃ d ds' v vs', ds = d :: ds' ∧ vs = v ++ vs' ∧ v.length = fsz fl f ∧ RepF w G fl f d v ∧ RepL w G fl r ds' vs'
end

/-- A part, as cells. -/
def RepS (w : World) (G : Nat → Prop) (fl : Bool) (fs : List Fld) (s : S) (vs : List Value) : Prop :=
  ∃ v1 v2, vs = v1 ++ v2 ∧ RepL w G fl fs s.ds v1 ∧ RepT w G fl s.tags v2

/-! ### What turns elsewhere does not matter -/

/-- From one world to another, and from one set of blocks to another, where the old blocks stay. -/
structure Stay (w w' : World) (G G' : Nat → Prop) : Prop where
  heap : ∀ k, k < w.heap.size → G k → w'.heap[k]? = w.heap[k]? ∧ G' k

theorem Stay.of {w w' : World} {G X : Nat → Prop} (c : Chg X w w') (hx : ∀ k, G k → k < w.heap.size → ¬ X k) : Stay w w' G G :=
  ⟨fun k hk hg => ⟨c.block k hk (hx k hg hk), hg⟩⟩
theorem Stay.sub {w : World} {G G' : Nat → Prop} (h : ∀ k, k < w.heap.size → G k → G' k) : Stay w w G G' := ⟨fun k hk hg => ⟨rfl, h k hk hg⟩⟩

section
variable {w w' : World} {G G' : Nat → Prop} (st : Stay w w' G G')
include st

theorem Blk.stay {k : Nat} {l : List Value} {T : TypeId} (h : Blk w k l T) (hg : G k) : Blk w' k l T := (st.heap k h.lt hg).1.trans h
theorem BytesAt.stay {oa : Option Addr} {bs : Bs} (h : BytesAt w G oa bs) : BytesAt w' G' oa bs := by
  rcases h with h | ⟨b, o, l, T, h1, h2, h3, h4⟩
  · exact .inl h
  · exact .inr ⟨b, o, l, T, h1, (st.heap b h3.lt h2).2, h3.stay st h2, h4⟩
theorem RepK.stay {k : K} {d : D} {vs : List Value} (h : RepK w G k d vs) : RepK w' G' k d vs := by
  cases k <;> cases d <;> try exact h
  obtain ⟨oa, cap, h1, h2⟩ := h
  exact ⟨oa, cap, h1, h2.stay st⟩
theorem TagsAt.stay {m : Option Nat} {t : Tags} (h : TagsAt w G m t) : TagsAt w' G' m t := by
  rcases h with h | ⟨r, es, clock, h1, h2, h3, h4, h5⟩
  · exact .inl h
  · have hr := st.heap r (Array.getElem?_eq_some_iff.1 h3).1 h2
    refine .inr ⟨r, es, clock, h1, hr.2, hr.1.trans h3, h4.imp ?_, h5⟩
    rintro e x ⟨e1, e2, oa, cap, e3, e4⟩
    exact ⟨e1, e2, oa, cap, e3, e4.stay st⟩
theorem RepT.stay {fl : Bool} {t : Tags} {vs : List Value} (h : RepT w G fl t vs) : RepT w' G' fl t vs := by
  unfold RepT at h ⊢
  split
  · rename_i e; rw [if_pos e] at h; obtain ⟨m, h1, h2, h3⟩ := h; exact ⟨m, h1, h2.stay st, h3⟩
  · rename_i e; rw [if_neg e] at h; exact h
end

mutual
theorem RepF.stay {w w' : World} {G G' : Nat → Prop} (st : Stay w w' G G') {fl : Bool} : ∀ {f : Fld} {d : D} {vs : List Value}, RepF w G fl f d vs → RepF w' G' fl f d vs
  | .mk k a b null c e of sub, d, vs, h => by
    cases k <;> try (unfold RepF at h ⊢; exact h.stay st)
    · -- text
      unfold RepF at h ⊢
      dsimp only at h ⊢
      split
      · rename_i hn; rw [if_pos hn] at h; exact h.stay st
      · rename_i hn
        rw [if_neg hn] at h
        split at h
        · exact h
        · obtain ⟨b, cs, T, h1, h2, h3, h4⟩ := h
          exact ⟨b, cs, T, h1, (st.heap b h3.lt h2).2, h3.stay st h2, h4⟩
        · exact h.elim
    · -- struct
      unfold RepF at h ⊢
      dsimp only at h ⊢
      split
      · rename_i hn
        rw [if_pos hn] at h
        obtain ⟨s, h1, v1, v2, h2, h3, h4⟩ := h
        exact ⟨s, h1, v1, v2, h2, RepL.stay st h3, h4.stay st⟩
      · rename_i hn
        rw [if_neg hn] at h
        split at h
        · exact h
        · obtain ⟨s, h1, b, cs, T, h2, h3, h4, v1, v2, h5, h6, h7⟩ := h
          exact ⟨s, h1, b, cs, T, h2, (st.heap b h4.lt h3).2, h4.stay st h3, v1, v2, h5, RepL.stay st h6, h7.stay st⟩
        · exact h.elim
    · -- list
      unfold RepF at h ⊢
      dsimp only at h ⊢
      split at h
      · obtain ⟨oa, cap, h1, h2, h2', h3⟩ := h
        refine ⟨oa, cap, h1, h2, h2', ?_⟩
        rcases h3 with h3 | ⟨b, cs, T, h4, h5, h6, h7⟩
        · exact .inl h3
        · refine .inr ⟨b, cs, T, h4, (st.heap b h6.lt h5).2, h6.stay st h5, ?_⟩
          cases of <;> try (exact ⟨h7.1, fun i x hx => (h7.2 i x hx).stay st⟩)
          refine ⟨h7.1, fun i x hx => ?_⟩
          obtain ⟨s, k1, v1, v2, k2, k3, k4⟩ := h7.2 i x hx
          exact ⟨s, k1, v1, v2, k2, RepL.stay st k3, k4.stay st⟩
      · exact h.elim
theorem RepL.stay {w w' : World} {G G' : Nat → Prop} (st : Stay w w' G G') {fl : Bool} : ∀ {fs : List Fld} {ds : List D} {vs : List Value}, RepL w G fl fs ds vs → RepL w' G' fl fs ds vs
  | [], ds, vs, h => by unfold RepL at h ⊢; exact h
  | f :: r, ds, vs, h => by
    unfold RepL at h ⊢
    obtain ⟨d, ds', v, vs', h1, h2, h3, h4, h5⟩ := h
    exact ⟨d, ds', v, vs', h1, h2, h3, RepF.stay st h4, RepL.stay st h5⟩
end

theorem RepS.stay {w w' : World} {G G' : Nat → Prop} (st : Stay w w' G G') {fl : Bool} {fs : List Fld} {s : S} {vs : List Value} (h : RepS w G fl fs s vs) : RepS w' G' fl fs s vs := by
  obtain ⟨v1, v2, h1, h2, h3⟩ := h
  exact ⟨v1, v2, h1, RepL.stay st h2, h3.stay st⟩

/-! ### The fields of a part, one by one -/

theorem RepL.len {w : World} {G : Nat → Prop} {fl : Bool} : ∀ {fs : List Fld} {ds : List D} {vs : List Value}, RepL w G fl fs ds vs → vs.length = lsz fl fs ∧ ds.length = fs.length
  | [], ds, vs, h => by unfold RepL at h; obtain ⟨rfl, rfl⟩ := h; simp [lsz]
  | f :: r, ds, vs, h => by
    unfold RepL at h
    obtain ⟨d, ds', v, vs', rfl, rfl, h3, h4, h5⟩ := h
    have := h5.len
    simp [lsz, h3, this]
theorem RepT.len {w : World} {G : Nat → Prop} {fl : Bool} {t : Tags} {vs : List Value} (h : RepT w G fl t vs) : vs.length = if fl then 1 else 0 := by
  unfold RepT at h
  split at h
  · rename_i e; obtain ⟨m, rfl, _⟩ := h; simp [e]
  · rename_i e; obtain ⟨rfl, _⟩ := h; simp [e]
theorem RepS.len {w : World} {G : Nat → Prop} {fl : Bool} {fs : List Fld} {s : S} {vs : List Value} (h : RepS w G fl fs s vs) : vs.length = ssz fl fs ∧ s.ds.length = fs.length := by
  obtain ⟨v1, v2, rfl, h1, h2⟩ := h
  simp [ssz, h1.len, h2.len]

/-- Where field i begins. -/
def foff (fl : Bool) (fs : List Fld) (i : Nat) : Nat := lsz fl (fs.take i)

theorem RepL.get {w : World} {G : Nat → Prop} {fl : Bool} : ∀ {fs : List Fld} {ds : List D} {vs : List Value} {i : Nat} {f : Fld}, RepL w G fl fs ds vs → fs[i]? = some f →
    ∃ d, ds[i]? = some d ∧ RepF w G fl f d ((vs.drop (foff fl fs i)).take (fsz fl f)) ∧ foff fl fs i + fsz fl f ≤ vs.length
  | [], ds, vs, i, f, _, hf => by simp at hf
  | g :: r, ds, vs, i, f, h, hf => by
    unfold RepL at h
    obtain ⟨d, ds', v, vs', rfl, rfl, h3, h4, h5⟩ := h
    cases i with
    | zero =>
      simp at hf; subst hf
      refine ⟨d, rfl, ?_, ?_⟩
      · simp only [foff, List.take_zero, lsz, List.drop_zero]
        rw [List.take_append_of_le_length (by omega), List.take_of_length_le (by omega)]
        exact h4
      · simp [foff, lsz, h3]
    | succ i =>
      obtain ⟨d', k1, k2, k3⟩ := h5.get (i := i) (f := f) (by simpa using hf)
      have e : foff fl (g :: r) (i + 1) = v.length + foff fl r i := by simp [foff, lsz, h3]
      refine ⟨d', by simpa using k1, ?_, ?_⟩
      · rw [e, List.drop_append, List.drop_of_length_le (by omega)]
        simpa using k2
      · rw [e, List.length_append]; omega

theorem RepL.set {w : World} {G : Nat → Prop} {fl : Bool} : ∀ {fs : List Fld} {ds : List D} {vs : List Value} {i : Nat} {f : Fld} {d : D} {v : List Value}, RepL w G fl fs ds vs → fs[i]? = some f →
    RepF w G fl f d v → v.length = fsz fl f → RepL w G fl fs (ds.set i d) (splice vs (foff fl fs i) v)
  | [], ds, vs, i, f, d, v, _, hf, _, _ => by simp at hf
  | g :: r, ds, vs, i, f, d, v, h, hf, hr, hl => by
    unfold RepL at h
    obtain ⟨d0, ds', v0, vs', rfl, rfl, h3, h4, h5⟩ := h
    cases i with
    | zero =>
      simp at hf; subst hf
      unfold RepL
      refine ⟨d, ds', v, vs', rfl, ?_, hl, hr, h5⟩
      simp only [foff, List.take_zero, lsz, splice, List.nil_append, Nat.zero_add]
      rw [List.drop_append_of_le_length (by omega), List.drop_of_length_le (by omega)]
      simp
    | succ i =>
      have ih := h5.set (i := i) (d := d) (by simpa using hf) hr hl
      have e : foff fl (g :: r) (i + 1) = v0.length + foff fl r i := by simp [foff, lsz, h3]
      unfold RepL
      refine ⟨d0, ds'.set i d, v0, splice vs' (foff fl r i) v, rfl, ?_, h3, h4, ih⟩
      simp only [splice, e]
      rw [List.take_append, List.take_of_length_le (by omega), List.drop_append, List.drop_of_length_le (by omega)]
      simp
      congr 1; omega

/-- The part at a place of a block. -/
def At (w : World) (G : Nat → Prop) (fl : Bool) (fs : List Fld) (s : S) (B o : Nat) : Prop :=
  ∃ cs T, Blk w B cs T ∧ o + ssz fl fs ≤ cs.length ∧ RepS w G fl fs s ((cs.drop o).take (ssz fl fs))

theorem At.stay {w w' : World} {G G' : Nat → Prop} (st : Stay w w' G G') {fl : Bool} {fs : List Fld} {s : S} {B o : Nat} (h : At w G fl fs s B o) (hB : w'.heap[B]? = w.heap[B]?) : At w' G' fl fs s B o := by
  obtain ⟨cs, T, h1, h2, h3⟩ := h
  exact ⟨cs, T, hB.trans h1, h2, h3.stay st⟩

/-- A field of the part at a place. -/
theorem At.field {w : World} {G : Nat → Prop} {fl : Bool} {fs : List Fld} {s : S} {B o i : Nat} {f : Fld} (h : At w G fl fs s B o) (hf : fs[i]? = some f) :
    ∃ d cs T, s.ds[i]? = some d ∧ Blk w B cs T ∧ o + foff fl fs i + fsz fl f ≤ cs.length ∧ RepF w G fl f d ((cs.drop (o + foff fl fs i)).take (fsz fl f)) := by
  obtain ⟨cs, T, h1, h2, v1, v2, h3, h4, h5⟩ := h
  obtain ⟨d, k1, k2, k3⟩ := h4.get hf
  have l1 := h4.len.1
  have l3 : ((cs.drop o).take (ssz fl fs)).length = v1.length + v2.length := by rw [h3]; simp
  rw [List.length_take, List.length_drop] at l3
  refine ⟨d, cs, T, k1, h1, by omega, ?_⟩
  have e : (v1.drop (foff fl fs i)).take (fsz fl f) = (cs.drop (o + foff fl fs i)).take (fsz fl f) := by
    have : v1 = (cs.drop o).take v1.length := by
      have h6 := congrArg (List.take v1.length) h3
      rw [List.take_left', List.take_take, Nat.min_eq_left (by omega)] at h6
      · exact h6.symm
      · rfl
    rw [this, List.drop_take, List.drop_drop, List.take_take, Nat.min_eq_left (by omega)]
  rw [← e]; exact k2
/-- The unknown tags of the part at a place. -/
theorem At.tags {w : World} {G : Nat → Prop} {fs : List Fld} {s : S} {B o : Nat} (h : At w G true fs s B o) :
    ∃ m cs T, Blk w B cs T ∧ cs[o + lsz true fs]? = some (.map m) ∧ TagsAt w G m s.tags ∧ tagOK s.tags := by
  obtain ⟨cs, T, h1, h2, v1, v2, h3, h4, h5⟩ := h
  unfold RepT at h5
  rw [if_pos rfl] at h5
  obtain ⟨m, rfl, h6⟩ := h5
  refine ⟨m, cs, T, h1, ?_, h6⟩
  have l1 := h4.len.1
  have hs : ssz true fs = lsz true fs + 1 := rfl
  rw [← seg_get (n := ssz true fs) (by omega), h3, List.getElem?_append_right (by omega), l1]
  simp

end Go.Proofs.Ytkhmglikdlgfpaa

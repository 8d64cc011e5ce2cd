import Derived.Test.YtbbocmkcciemdaaZA
import Derived.Laws.IdiomStrings
import Derived.ScopeJumps
/-
What the proofs of the laws rest on, part ZB.
-/
namespace Go.Proofs.Ytbbocmkcciemdaa
set_option linter.all false
open Go.RowKit
set_option maxRecDepth 10000
set_option maxHeartbeats 1000000
abbrev tR : TypeId := 48
theorem fo : fOff Try.prog tR 0 = 0 ∧ fOff Try.prog tR 1 = 1 ∧ eSz Try.prog 24 = 1 := ⟨by kernel_rfl, by kernel_rfl, by kernel_rfl⟩
def RdS (w : World) (G : Nat → Prop) (R : Nat) : Option Bs → Prop
  | some bs => ∃ oa cap, Blk w R [.slice oa bs.length cap, .bool false] tR ∧ bs.length ≤ cap ∧ zad w G oa bs
  | none => Blk w R [.slice none 0 0, .bool true] tR
theorem RdS.blk {w : World} {G : Nat → Prop} {R : Nat} {st : Option Bs} (h : RdS w G R st) :
    ∃ oa cap, Blk w R [.slice oa (st.getD []).length cap, .bool st.isNone] tR ∧ (st.getD []).length ≤ cap ∧ zad w G oa (st.getD []) := by
  cases st with
  | none => exact ⟨none, 0, h, Nat.le_refl _, .inl rfl⟩
  | some bs => exact h
theorem RdS.stay {w w' : World} {G G' : Nat → Prop} {R : Nat} {st : Option Bs} (h : RdS w G R st) (st' : Stay w w' G G') (hR : w'.heap[R]? = w.heap[R]?) : RdS w' G' R st := by
  cases st with
  | none => exact hR.trans h
  | some bs =>
    obtain ⟨oa, cap, h1, h2, h3⟩ := h
    exact ⟨oa, cap, hR.trans h1, h2, h3.stay st'⟩
theorem RdS.lt {w : World} {G : Nat → Prop} {R : Nat} {st : Option Bs} (h : RdS w G R st) : R < w.heap.size := by
  obtain ⟨_, _, h, _⟩ := h.blk; exact h.lt
structure Reads {α : Type} (w : World) (G : Nat → Prop) (R : Nat) (st : Option Bs) (sem : Bs → Option (α × Bs)) (out : World → World → (Nat → Prop) → α → Value → Prop) (v : Value) (w' : World) : Prop where
  chg : Chg (fun k => k = R) w w'
  rd : RdS w' G R ((st.bind sem).map (·.2))
  val : ∃ x, out w w' G x v ∧ ∀ y, st.bind sem = some y → x = y.1
def RdF (f : FuncId) (args : List Value) {α : Type} (sem : Bs → Option (α × Bs)) (out : World → World → (Nat → Prop) → α → Value → Prop) : Prop :=
  ∀ (w : World) (G : Nat → Prop) (R : Nat) (st : Option Bs), RdS w G R st → ¬ G R → (∀ k, w.heap.size ≤ k → G k) →
    zao Try.prog f (.pointer (some ⟨R, 0, none⟩) :: args).toArray w (Reads w G R st sem out)
def outB (_ w' : World) (G : Nat → Prop) (x : Bs) (v : Value) : Prop := ∃ oa cap, v = .slice oa x.length cap ∧ x.length ≤ cap ∧ zad w' G oa x
theorem bind_none {α : Type} {st : Option Bs} {sem : Bs → Option (α × Bs)} (h : ∀ bs, st = some bs → sem bs = none) : st.bind sem = none := by
  cases st with
  | none => rfl
  | some bs => exact h bs rfl
section
variable {y0 y1 y2 y3 y4 y5 y6 y7 y8 y9 y10 y11 y12 y13 y14 y15 y16 y17 y18 y19 y20 y21 y22 y23 y24 y25 y26 y27 y28 y29 y30 y31 y32 y33 y34 y35 y36 y37 y38 y39 : TypeId} {q0 q1 q2 q3 q4 q5 q6 q7 q8 q9 q10 q11 q12 q13 q14 q15 q16 q17 q18 q19 q20 q21 q22 q23 q24 q25 q26 q27 q28 q29 q30 q31 q32 q33 q34 q35 q36 q37 q38 q39 : String} {e0 e1 e2 e3 e4 e5 e6 e7 e8 e9 e10 e11 e12 e13 e14 e15 e16 e17 e18 e19 e20 e21 e22 e23 e24 e25 e26 e27 e28 e29 e30 e31 e32 e33 e34 e35 e36 e37 e38 e39 : Array Edge} {r0 r1 r2 r3 r4 r5 : Nat}
variable {P : Program} {a : Act} {w : World} {Q : Exit → Act → World → Prop} {R N : Nat} {t1 t2 t3 t4 t5 t6 t7 t8 r : Nat} {z x0 x1 : Value} {T tb ts : TypeId}
theorem rd_fail (hN : a.tmps.size = N) (h0 : get a 0 = .pointer (some ⟨R, 0, none⟩)) (hb : Blk w R [x0, x1] tR)
    (hc : (fieldB Try.prog T 1 1 1 && fieldB Try.prog T 0 0 1 && sizeB Try.prog tb 1 && sizeB Try.prog ts 1 && decide ([t1, t2, t3, t4, t5, t6, 0].Nodup) && [0, t1, t2, t3, t4, t5, t6, r].all (fun t => decide (t < N))) = true)
    (h : ∀ a' w', a'.defers = a.defers → get a' r = z → Blk w' R [.slice none 0 0, .bool true] tR → Chg (fun k => k = R) w w' → Q .ret a' w') :
    (Code.seq (.region r0 #[⟨some t1, .move (.tmp 0), y0, q0, e0, none⟩, ⟨some t2, .nilCheck (.tmp t1), y1, q1, e1, none⟩, ⟨some t3, .fieldAddr T (.tmp t2) 1, y2, q2, e2, none⟩, ⟨none, .store tb (.tmp t3) (.const (.bool true)), y3, q3, e3, none⟩] false)
      (.seq (.region r1 #[⟨some t4, .move (.tmp 0), y4, q4, e4, none⟩, ⟨some t5, .nilCheck (.tmp t4), y5, q5, e5, none⟩, ⟨some t6, .fieldAddr T (.tmp t5) 0, y6, q6, e6, none⟩, ⟨none, .store ts (.tmp t6) (.const (.slice none 0 0)), y7, q7, e7, none⟩] false)
        (.seq (.region r2 #[⟨some r, .assign (.const z), y8, q8, e8, none⟩] false) .ret))).wp Try.prog Q a w := by
  simp only [Bool.and_eq_true, decide_eq_true_eq, List.all_eq_true] at hc
  obtain ⟨⟨⟨⟨⟨c1, c2⟩, c3⟩, c4⟩, hnd⟩, hlt⟩ := hc
  simp only [List.nodup_cons, List.mem_cons, List.not_mem_nil, or_false, not_or, List.nodup_nil, and_true, not_false_eq_true, forall_eq_or_imp, forall_eq] at hnd hlt
  refine wp_seq_k fun K hK => ?_; refine zac ?_
  refine wl_move ?_
  refine wl_nilCheck (p := ⟨R, 0, none⟩) (by simp only [evb, hN, hlt, if_true, h0]) ?_
  refine wl_fieldAddr (b := R) (o := 0) c1 (by simp only [evb, hN, hlt, if_true]) ?_
  refine wl_store (b := R) (o := 0 + 1) (n := 1) (v := .bool true) c3 (by simp only [evb, hN, hlt, if_true]) rfl hb rfl (by intro y hy; simp only [Value.cells, List.mem_singleton] at hy; subst hy; rfl) (by simp) fun w1 hb1 hc1 => ?_
  refine zab ?_; refine hK _ _ ?_; clear hK K
  have e1 : zan [x0, x1] (0 + 1) (Value.bool true).cells.toList = [x0, .bool true] := rfl
  rw [e1] at hb1
  refine wp_seq_k fun K hK => ?_; refine zac ?_
  refine wl_move ?_
  refine wl_nilCheck (p := ⟨R, 0, none⟩) (by simp only [evb, hN, hlt, if_true, hnd, if_false, h0]) ?_
  refine wl_fieldAddr (b := R) (o := 0) c2 (by simp only [evb, hN, hlt, if_true]) ?_
  refine wl_store (b := R) (o := 0 + 0) (n := 1) (v := .slice none 0 0) c4 (by simp only [evb, hN, hlt, if_true]) rfl hb1 rfl (by intro y hy; simp only [Value.cells, List.mem_singleton] at hy; subst hy; rfl) (by simp) fun w2 hb2 hc2 => ?_
  refine zab ?_; refine hK _ _ ?_; clear hK K
  have e2 : zan [x0, .bool true] (0 + 0) (Value.slice none 0 0).cells.toList = [.slice none 0 0, .bool true] := rfl
  rw [e2] at hb2
  refine wp_seq_k fun K hK => ?_; refine zac ?_
  refine wl_assign ?_
  refine zab ?_; refine hK _ _ ?_; clear hK K
  refine wp_ret (h _ _ (by simp only [zaa]) (by simp only [evb, hN, hlt, if_true]) hb2 (hc1.trans hc2 fun _ _ h => h))
theorem bytes_rest {G : Nat → Prop} {oa : Option Addr} {bs : Bs} {cap i : Nat} (h : zad w G oa bs) (hc : bs.length ≤ cap) : zad w G (if cap = i then oa else oa.map (·.add (i * 1))) (bs.drop i) := by
  by_cases hi : cap = i
  · left; exact List.drop_of_length_le (by omega)
  · rw [if_neg hi]
    rcases h with rfl | ⟨b, o, l, T, h1, h2, h3, h4⟩
    · left; simp
    · subst h1
      simp only [Option.map_some, Nat.mul_one, add_lit]
      exact zad.drop (.inr ⟨b, o, l, T, rfl, h2, h3, h4⟩) i
end
theorem Reads.fail {α : Type} {w w' : World} {G : Nat → Prop} {R : Nat} {st : Option Bs} {sem : Bs → Option (α × Bs)} {out : World → World → (Nat → Prop) → α → Value → Prop} {v : Value} (x : α)
    (hc : Chg (fun k => k = R) w w') (hb : Blk w' R [.slice none 0 0, .bool true] tR) (hs : ∀ bs, st = some bs → sem bs = none) (hv : out w w' G x v) : Reads w G R st sem out v w' :=
  ⟨hc, by rw [bind_none hs]; exact hb, x, hv, fun y h => by rw [bind_none hs] at h; cases h⟩
theorem Reads.done {α : Type} {w w' : World} {G : Nat → Prop} {R : Nat} {bs r : Bs} {oa : Option Addr} {cap : Nat} {sem : Bs → Option (α × Bs)} {out : World → World → (Nat → Prop) → α → Value → Prop} {v : Value} {x : α}
    (hs : sem bs = some (x, r)) (hc : Chg (fun k => k = R) w w') (hb : Blk w' R [.slice oa r.length cap, .bool false] tR) (hl : r.length ≤ cap) (ha : zad w' G oa r) (hv : out w w' G x v) : Reads w G R (some bs) sem out v w' := by
  refine ⟨hc, ?_, x, hv, fun y h => ?_⟩
  · rw [Option.bind_some, hs]; exact ⟨oa, cap, hb, hl, ha⟩
  · rw [Option.bind_some, hs] at h; cases h; rfl
theorem zad.at_ {w : World} {G : Nat → Prop} {oa : Option Addr} {bs : Bs} (h : zad w G oa bs) (h0 : bs ≠ []) : ∃ b o, oa = some ⟨b, o, none⟩ ∧ ∀ i (x : UInt8), bs[i]? = some x →
    ldV w (.pointer (some ⟨b, o + i, none⟩)) = .int .u8 x.toNat ∧ ldOK w (.pointer (some ⟨b, o + i, none⟩)) = true := by
  rcases h with h | ⟨b, o, l, T, h1, h2, h3, h4⟩
  · exact absurd h h0
  · refine ⟨b, o, h1, fun i x hx => h3.ld ?_⟩
    have hi : i < bs.length := (List.getElem?_eq_some_iff.1 hx).1
    rw [← seg_get hi, h4, List.getElem?_map, hx]; rfl
theorem wrapU {k : IntKind} (hk : k.signed = false) {n : Nat} (h : n < 2 ^ k.bits) : k.wrap (n : Int) = n := by
  cases k <;> simp [IntKind.signed] at hk <;> simp only [IntKind.bits] at h <;> simp [IntKind.wrap, IntKind.bits, IntKind.signed] <;> omega
theorem u32_u8 (x : UInt8) : IntKind.u32.wrap (x.toNat : Int) = x.toNat := wrapU rfl (by have := x.toNat_lt; show _ < 4294967296; omega)
theorem orI_add {k : IntKind} (hk : k.signed = false) {x y j : Nat} (hx : x < 2 ^ j) (h : 2 ^ j * y + x < 2 ^ k.bits) : orI k (x : Int) ((2 ^ j * y : Nat) : Int) = ((2 ^ j * y + x : Nat) : Int) := by
  unfold orI
  have h1 : x < 2 ^ k.bits := by omega
  have h2 : 2 ^ j * y < 2 ^ k.bits := by omega
  have e1 : (BitVec.ofInt k.bits (x : Int)).toNat = x := by
    have := toNat_ofInt k.bits (x : Int)
    rw [Int.emod_eq_of_lt (by omega) (by exact_mod_cast h1)] at this
    exact_mod_cast this
  have e2 : (BitVec.ofInt k.bits ((2 ^ j * y : Nat) : Int)).toNat = 2 ^ j * y := by
    have := toNat_ofInt k.bits ((2 ^ j * y : Nat) : Int)
    rw [Int.emod_eq_of_lt (by omega) (by exact_mod_cast h2)] at this
    exact_mod_cast this
  rw [BitVec.toNat_or, e1, e2, Nat.or_comm, ← Nat.two_pow_add_eq_or_of_lt hx y]
  exact wrapU hk h
theorem shlI_mul {k : IntKind} (hk : k.signed = false) {c y : Nat} (hc : c ≤ k.bits) (h : 2 ^ c * y < 2 ^ k.bits) : shlI k c (y : Int) = ((2 ^ c * y : Nat) : Int) := by
  unfold shlI
  rw [Nat.min_eq_left hc, Int.mul_comm]
  have e : (2 : Int) ^ c * (y : Int) = ((2 ^ c * y : Nat) : Int) := by push_cast; rfl
  rw [e]
  exact wrapU hk h
end Go.Proofs.Ytbbocmkcciemdaa
namespace Go.Proofs.Ytbbocmkcciemdaa
set_option linter.all false
open Go.RowKit
set_option maxRecDepth 10000
set_option maxHeartbeats 1000000
end Go.Proofs.Ytbbocmkcciemdaa
namespace Go.Proofs.Ytbbocmkcciemdaa
set_option linter.all false
open Go.RowKit
set_option maxRecDepth 10000
set_option maxHeartbeats 1000000
section
variable {a : Act} {w : World} {Q : Exit → Act → World → Prop} {ops : Array Oper} {rest : List Oper} {d : Option Nat} {ty : TypeId} {pos : String} {af : Array Edge} {ts : Array TypeId}
end
theorem Reads.two {α β : Type} {w w1 w2 w3 : World} {G : Nat → Prop} {R : Nat} {st : Option Bs} {s1 : Bs → Option (α × Bs)} {o1 : World → World → (Nat → Prop) → α → Value → Prop} {v1 v2 v : Value} {s2 : α → Bs → Option (β × Bs)} {o2 o : World → World → (Nat → Prop) → β → Value → Prop} {x : α} {y : β}
    (h1 : Reads w G R st s1 o1 v1 w1) (hx : ∀ y, st.bind s1 = some y → x = y.1) (h2 : Reads w1 G R ((st.bind s1).map (·.2)) (s2 x) o2 v2 w2) (hy : ∀ z, ((st.bind s1).map (·.2)).bind (s2 x) = some z → y = z.1)
    (hc : Chg (fun k => w2.heap.size ≤ k) w2 w3) (ho : o w w3 G y v) : Reads w G R st (fun bs => (s1 bs).bind fun y => s2 y.1 y.2) o v w3 := by
  have e : st.bind (fun bs => (s1 bs).bind fun y => s2 y.1 y.2) = ((st.bind s1).map (·.2)).bind (s2 x) := by
    cases st with
    | none => rfl
    | some bs =>
      simp only [Option.bind_some]
      cases h : s1 bs with
      | none => rfl
      | some y =>
        simp only [Option.bind_some, Option.map_some]
        rw [hx y h]
  have hlt := h2.rd.lt
  have c12 : Chg (fun k => k = R) w w2 := h1.chg.trans h2.chg fun _ _ h => h
  refine ⟨c12.trans hc fun n hn hk => ?_, by rw [e]; exact h2.rd.stay (Stay.of hc fun k _ hk => by omega) (hc.block R hlt (by omega)), y, ho, fun z hz => hy z (by rw [← e]; exact hz)⟩
  have := c12.size
  omega
theorem Reads.map {α β : Type} {w w' : World} {G : Nat → Prop} {R : Nat} {st : Option Bs} {sem : Bs → Option (α × Bs)} {o1 : World → World → (Nat → Prop) → α → Value → Prop} {v v' : Value} (g : α → β) {o2 : World → World → (Nat → Prop) → β → Value → Prop}
    (h : Reads w G R st sem o1 v w') (ho : ∀ x, o1 w w' G x v → o2 w w' G (g x) v') : Reads w G R st (fun bs => (sem bs).map fun x => (g x.1, x.2)) o2 v' w' := by
  have e : st.bind (fun bs => (sem bs).map fun x => (g x.1, x.2)) = (st.bind sem).map fun x => (g x.1, x.2) := by
    cases st <;> rfl
  refine ⟨h.chg, ?_, ?_⟩
  · rw [e, Option.map_map]; exact h.rd
  · obtain ⟨x, k1, k2⟩ := h.val
    refine ⟨g x, ho x k1, fun y hy => ?_⟩
    rw [e] at hy
    cases hb : st.bind sem with
    | none => rw [hb] at hy; cases hy
    | some z =>
      rw [hb] at hy
      simp only [Option.map_some, Option.some.injEq] at hy
      rw [← hy, k2 z hb]
theorem Reads.sem {α : Type} {w w' : World} {G : Nat → Prop} {R : Nat} {st : Option Bs} {s1 s2 : Bs → Option (α × Bs)} {o : World → World → (Nat → Prop) → α → Value → Prop} {v : Value} (h : Reads w G R st s1 o v w') (e : ∀ bs, s1 bs = s2 bs) : Reads w G R st s2 o v w' := by
  have : s1 = s2 := funext e
  rw [← this]; exact h
theorem Span_c (l : Int) : RdF 74 [.int .i64 l] (rSpan l) outB := by
  intro w G R st hS hR hf
  obtain ⟨oa, cap, hb, hcap, hat⟩ := hS.blk
  have l0 := hb.ld (i := 0) rfl
  refine zar Try.func74 rfl rfl Try.ntmps74 (by simp) ?_
  intro a hN hD ha
  have h0 : get a 0 = .pointer (some ⟨R, 0, none⟩) := ha 0 _ rfl
  have h1 : get a 1 = .int .i64 l := ha 1 _ rfl
  refine wp_seq_k fun K hK => ?_; refine zac ?_; (repeat ((with_reducible refine zaj ?_ ?_ ?_); (· simp [evb, pvb, rnb, kb, hN, dyb, sdb] <;> omega); (· kernel_rfl); try simp only [evb, pvb, rnb, kb, hN, seval])); refine zab ?_; refine hK _ _ ?_; clear hK K
  have fail : (((st.getD []).length : Int) < l ∨ l < 0) → ∀ bs, st = some bs → rSpan l bs = none := by
    rintro h bs rfl
    change (bs.length : Int) < l ∨ _ at h
    unfold rSpan take?
    split
    · rw [if_neg (by omega)]
    · rfl
  by_cases hlt : ((st.getD []).length : Int) < l ∨ l < 0
  · refine wp_seq_k fun K hK => ?_; refine wp_seq_k fun K0 hK0 => ?_
    by_cases g1 : ((st.getD []).length : Int) < l
    · have d1 : decide (((st.getD []).length : Int) < l) = true := decide_eq_true g1
      refine zac ?_; (repeat (first | ((with_reducible refine zaj ?_ ?_ ?_); (· simp [evb, pvb, rnb, kb, hN, seval, h0, h1, l0, fo, d1, dyb, sdb] <;> omega); (· kernel_rfl); try simp only [evb, pvb, rnb, kb, hN, seval, h0, h1, l0, fo, d1]) | ((with_reducible apply wl_gyesB); (· exact rfl); (· exact rfl); (· simp [evb, pvb, rnb, kb, hN, seval, h0, h1, l0, fo, d1]; done); try simp only [evb, pvb, rnb, kb, hN, seval, h0, h1, l0, fo, d1]) | ((with_reducible apply wl_gnoB); (· exact rfl); (· exact rfl); (· simp [evb, pvb, rnb, kb, hN, seval, h0, h1, l0, fo, d1]; done); try simp only [evb, pvb, rnb, kb, hN, seval, h0, h1, l0, fo, d1]) | ((with_reducible apply wl_gnoU); (· exact rfl); (· exact rfl); (· simp [evb, pvb, rnb, kb, hN, seval, h0, h1, l0, fo, d1]; done); try simp only [evb, pvb, rnb, kb, hN, seval, h0, h1, l0, fo, d1]))); refine zab ?_; refine hK0 _ _ ?_; try clear hK0 K0
      refine wp_cond_true (by simp only [evb, pvb, rnb, kb, hN, seval]) ?_
      refine rd_fail (by simp only [zai]; exact hN) (by simp only [evb, pvb, rnb, kb, hN, seval, h0]) hb (by kernel_rfl) fun a' w' k1 k2 k3 k4 => ⟨by rw [k1]; simp only [zaa, hD], Reads.fail [] k4 k3 (fail hlt) ⟨none, 0, k2, Nat.le_refl _, .inl rfl⟩⟩
    · have d1 : decide (((st.getD []).length : Int) < l) = false := decide_eq_false g1
      have d2 : decide (l < 0) = true := decide_eq_true (by omega)
      refine zac ?_; (repeat (first | ((with_reducible refine zaj ?_ ?_ ?_); (· simp [evb, pvb, rnb, kb, hN, seval, h0, h1, l0, fo, d1, d2, dyb, sdb] <;> omega); (· kernel_rfl); try simp only [evb, pvb, rnb, kb, hN, seval, h0, h1, l0, fo, d1, d2]) | ((with_reducible apply wl_gyesB); (· exact rfl); (· exact rfl); (· simp [evb, pvb, rnb, kb, hN, seval, h0, h1, l0, fo, d1, d2]; done); try simp only [evb, pvb, rnb, kb, hN, seval, h0, h1, l0, fo, d1, d2]) | ((with_reducible apply wl_gnoB); (· exact rfl); (· exact rfl); (· simp [evb, pvb, rnb, kb, hN, seval, h0, h1, l0, fo, d1, d2]; done); try simp only [evb, pvb, rnb, kb, hN, seval, h0, h1, l0, fo, d1, d2]) | ((with_reducible apply wl_gnoU); (· exact rfl); (· exact rfl); (· simp [evb, pvb, rnb, kb, hN, seval, h0, h1, l0, fo, d1, d2]; done); try simp only [evb, pvb, rnb, kb, hN, seval, h0, h1, l0, fo, d1, d2]))); refine zab ?_; refine hK0 _ _ ?_; try clear hK0 K0
      refine wp_cond_true (by simp only [evb, pvb, rnb, kb, hN, seval]) ?_
      refine rd_fail (by simp only [zai]; exact hN) (by simp only [evb, pvb, rnb, kb, hN, seval, h0]) hb (by kernel_rfl) fun a' w' k1 k2 k3 k4 => ⟨by rw [k1]; simp only [zaa, hD], Reads.fail [] k4 k3 (fail hlt) ⟨none, 0, k2, Nat.le_refl _, .inl rfl⟩⟩
  · have d1 : decide (((st.getD []).length : Int) < l) = false := decide_eq_false (by omega)
    have d2 : decide (l < 0) = false := decide_eq_false (by omega)
    have d3 : decide (0 ≤ l) = true := decide_eq_true (by omega)
    have d4 : decide (l ≤ (cap : Int)) = true := decide_eq_true (by omega)
    have d5 : decide (l ≤ (l.toNat : Int)) = true := decide_eq_true (by omega)
    have d6 : decide (l ≤ ((st.getD []).length : Int)) = true := decide_eq_true (by omega)
    refine wp_seq_k fun K hK => ?_; refine wp_seq_k fun K0 hK0 => ?_; refine zac ?_; (repeat (first | ((with_reducible refine zaj ?_ ?_ ?_); (· simp [evb, pvb, rnb, kb, hN, seval, h0, h1, l0, fo, d1, d2, dyb, sdb] <;> omega); (· kernel_rfl); try simp only [evb, pvb, rnb, kb, hN, seval, h0, h1, l0, fo, d1, d2]) | ((with_reducible apply wl_gyesB); (· exact rfl); (· exact rfl); (· simp [evb, pvb, rnb, kb, hN, seval, h0, h1, l0, fo, d1, d2]; done); try simp only [evb, pvb, rnb, kb, hN, seval, h0, h1, l0, fo, d1, d2]) | ((with_reducible apply wl_gnoB); (· exact rfl); (· exact rfl); (· simp [evb, pvb, rnb, kb, hN, seval, h0, h1, l0, fo, d1, d2]; done); try simp only [evb, pvb, rnb, kb, hN, seval, h0, h1, l0, fo, d1, d2]) | ((with_reducible apply wl_gnoU); (· exact rfl); (· exact rfl); (· simp [evb, pvb, rnb, kb, hN, seval, h0, h1, l0, fo, d1, d2]; done); try simp only [evb, pvb, rnb, kb, hN, seval, h0, h1, l0, fo, d1, d2]))); refine zab ?_; refine hK0 _ _ ?_; try clear hK0 K0
    refine wp_cond_false (by simp only [evb, pvb, rnb, kb, hN, seval]) ?_
    refine wp_skip ?_
    refine hK _ _ ?_
    clear hK K
    refine wp_seq_k fun K hK => ?_; refine zac ?_; (repeat ((with_reducible refine zaj ?_ ?_ ?_); (· simp [evb, pvb, rnb, kb, hN, h0, h1, l0, fo, d3, d4, d5, dyb, sdb] <;> omega); (· kernel_rfl); try simp only [evb, pvb, rnb, kb, hN, seval, h0, h1, l0, fo, d3, d4, d5])); refine zab ?_; refine hK _ _ ?_; clear hK K
    refine wp_seq_k fun K hK => ?_; refine zac ?_; (repeat ((with_reducible refine zaj ?_ ?_ ?_); (· simp [evb, pvb, rnb, kb, hN, h0, h1, l0, fo, d3, d6, dyb, sdb] <;> omega); (· kernel_rfl); try simp only [evb, pvb, rnb, kb, hN, seval, h0, h1, l0, fo, d3, d6]))
    refine wl_store (b := R) (o := 0) (n := 1) (v := .slice (if cap = l.toNat then oa else oa.map (·.add (l.toNat * 1))) ((st.getD []).length - l.toNat) (cap - l.toNat)) (by kernel_rfl) (by simp only [evb, pvb, rnb, kb, hN, seval]) (by simp only [evb, pvb, rnb, kb, hN, seval]; try rfl) hb rfl (by intro y hy; simp only [Value.cells, List.mem_singleton] at hy; subst hy; rfl) (by simp) fun w2 hb2 hc2 => ?_
    refine zab ?_; refine hK _ _ ?_; clear hK K
    refine wp_seq_k fun K hK => ?_; refine zac ?_; (repeat ((with_reducible refine zaj ?_ ?_ ?_); (· simp [evb, pvb, rnb, kb, hN, h0, dyb, sdb] <;> omega); (· kernel_rfl); try simp only [evb, pvb, rnb, kb, hN, seval, h0])); refine zab ?_; refine hK _ _ ?_; clear hK K
    refine wp_ret ⟨by simp [zaa, hD], ?_⟩; simp only [evb, kb, hN, seval]
    have hx : ∀ g, G g → g < w.heap.size → ¬ g = R := fun g hg _ e => hR (e ▸ hg)
    cases st with
    | none =>
      have hl0 : l = 0 := by change ¬ (((0 : Nat) : Int) < l ∨ l < 0) at hlt; omega
      subst hl0
      refine ⟨hc2, ?_, [], ⟨oa, 0, rfl, Nat.le_refl _, .inl rfl⟩, fun y h => by cases h⟩
      have e : (none : Option Bs).bind (rSpan 0) = none := rfl
      rw [e]
      have ho : oa = none ∧ cap = 0 := by
        have := hS.blk
        have h3 : Blk w R [.slice none 0 0, .bool true] tR := hS
        have := (hb.inj h3).1
        simp at this
        exact ⟨this.1, this.2⟩
      obtain ⟨rfl, rfl⟩ := ho
      exact hb2
    | some bs =>
      change ¬ ((bs.length : Int) < l ∨ l < 0) at hlt
      change bs.length ≤ cap at hcap
      change zad w G oa bs at hat
      have hat3 := ((bytes_rest (i := l.toNat) hat hcap).chg hc2 hx)
      have hb3 : Blk w2 R [.slice (if cap = l.toNat then oa else oa.map (·.add (l.toNat * 1))) (bs.drop l.toNat).length (cap - l.toNat), .bool false] tR := by rw [List.length_drop]; exact hb2
      have e : (bs.take l.toNat).length = l.toNat := by rw [List.length_take]; omega
      refine Reads.done (x := bs.take l.toNat) (by unfold rSpan take?; rw [if_pos (by omega), if_pos (by omega)]) hc2 hb3 (by rw [List.length_drop]; omega) hat3 ⟨oa, l.toNat, by rw [e], by rw [e]; exact Nat.le_refl _, (hat.take _).chg hc2 hx⟩
end Go.Proofs.Ytbbocmkcciemdaa
namespace Go.Proofs.Ytbbocmkcciemdaa
set_option linter.all false
open Go.RowKit
set_option maxRecDepth 10000
set_option maxHeartbeats 8000000
def uvR (bs : Bs) (x : Nat) (m : Int) : Prop := match rUvar bs with
  | some (y, r) => x = y ∧ 0 < m ∧ m ≤ bs.length ∧ r = bs.drop m.toNat
  | none => x = 0 ∧ m ≤ 0
theorem uvR_none {bs : Bs} (h : rUvar bs = none) {m : Int} (hm : m ≤ 0) : uvR bs 0 m := by unfold uvR; rw [h]; exact ⟨rfl, hm⟩
theorem uvR_some {bs r : Bs} {y x : Nat} (h : rUvar bs = some (y, r)) (hx : x = y) {m : Int} (hm : 0 < m) (hl : m ≤ bs.length) (hr : r = bs.drop m.toNat) : uvR bs x m := by unfold uvR; rw [h]; exact ⟨hx, hm, hl, hr⟩
theorem and7 (x : UInt8) : andV (.int .u8 x.toNat) (.int .u8 127) = .int .u8 ((x.toNat % 128 : Nat) : Int) := by
  have h : ∀ n : Nat, n < 256 → IntKind.u8.wrap (BitVec.ofInt 8 (n : Int) &&& BitVec.ofInt 8 127).toNat = ((n % 128 : Nat) : Int) := by decide +kernel
  exact congrArg (Value.int .u8) (h x.toNat x.toNat_lt)
theorem and8 (x : UInt8) : andV (.int .u8 x.toNat) (.int .u8 128) = .int .u8 (if x.toNat < 128 then 0 else 128) := by
  have h : ∀ n : Nat, n < 256 → IntKind.u8.wrap (BitVec.ofInt 8 (n : Int) &&& BitVec.ofInt 8 128).toNat = (if n < 128 then 0 else 128 : Int) := by decide +kernel
  exact congrArg (Value.int .u8) (h x.toNat x.toNat_lt)
theorem u32_sm {n : Nat} (h : n < 256) : IntKind.u32.wrap ((n : Nat) : Int) = n := wrapU rfl (by show _ < 4294967296; omega)
def uvJ (w : World) (n : Nat) (p : Prop) (a : Act) (w' : World) : Prop := p ∧ a.tmps.size = n ∧ a.defers = [] ∧ w' = w ∧ ∃ m, get a 5 = .int .i64 m ∧ m ≤ 0
theorem uvarint_c (w : World) (G : Nat → Prop) (oa : Option Addr) (bs : Bs) (cap : Nat) (hb : zad w G oa bs) : zao Try.prog 77 #[.slice oa bs.length cap] w fun v w' => w' = w ∧ ∃ x m, v = .tuple #[.int .u32 (x : Nat), .int .i64 m] ∧ uvR bs x m := by
  refine callsR_of2 Try.func77 rfl rfl Try.ntmps77 (by simp) ?_
  intro a hN hD ha
  have h0 : get a 0 = .slice oa bs.length cap := ha 0 _ rfl
  clear ha
  refine wp_seq_k fun K hK => ?_; refine zac ?_; (repeat ((with_reducible refine zaj ?_ ?_ ?_); (· simp [evb, pvb, rnb, kb, hN, dyb, sdb] <;> omega); (· kernel_rfl); try simp only [evb, pvb, rnb, kb, hN, seval])); refine zab ?_; refine hK _ _ ?_; clear hK K
  refine wp_scope_jumps 0 (uvJ w 87 (rUvar bs = none)) (fun _ _ => 0) rfl ?_ ?_
  rotate_left
  · rintro a w' ⟨hn, hN, hD, rfl, m, hm, hm0⟩
    refine wp_seq_k fun K hK => ?_; refine wp_skip ?_; refine hK _ _ ?_; clear hK K
    refine wp_seq_k fun K hK => ?_; refine zac ?_; (repeat ((with_reducible refine zaj ?_ ?_ ?_); (· simp [evb, pvb, rnb, kb, hN, hm, dyb, sdb] <;> omega); (· kernel_rfl); try simp only [evb, pvb, rnb, kb, hN, seval, hm])); refine zab ?_; refine hK _ _ ?_; clear hK K
    refine wp_ret ⟨hD, rfl, 0, m, ?_, uvR_none hn hm0⟩
    simp only [evb, pvb, rnb, kb, hN, seval, hm]
    try rfl
  refine wp_seq_k fun K hK => ?_; refine zac ?_; (repeat ((with_reducible refine zaj ?_ ?_ ?_); (· simp [evb, pvb, rnb, kb, hN, dyb, sdb] <;> omega); (· kernel_rfl); try simp only [evb, pvb, rnb, kb, hN, seval])); refine zab ?_; refine hK _ _ ?_; clear hK K
  refine wp_seq_k fun K hK => ?_; refine zac ?_; (repeat ((with_reducible refine zaj ?_ ?_ ?_); (· simp [evb, pvb, rnb, kb, hN, dyb, sdb] <;> omega); (· kernel_rfl); try simp only [evb, pvb, rnb, kb, hN, seval])); refine zab ?_; refine hK _ _ ?_; clear hK K
  have lt := fun x : UInt8 => x.toNat_lt
  rcases bs with _ | ⟨b0, r0⟩
  · have d0 : decide ((([] : Bs).length : Int) < 1) = true := rfl
    refine wp_seq_k fun K hK => ?_; refine wp_seq_k fun K0 hK0 => ?_; refine zac ?_; (repeat ((with_reducible refine zaj ?_ ?_ ?_); (· simp [evb, pvb, rnb, kb, hN, h0, d0, dyb, sdb] <;> omega); (· kernel_rfl); try simp only [evb, pvb, rnb, kb, hN, seval, h0, d0])); refine zab ?_; refine hK0 _ _ ?_; try clear hK0 K0
    refine wp_cond_true (by simp only [evb, pvb, rnb, kb, hN, seval]) ?_
    exact wp_goto ⟨rfl, rfl, by simp only [zai, hN], by simp only [zaa, hD], rfl, 0, by simp only [evb, pvb, rnb, kb, hN, seval], by omega⟩
  obtain ⟨b, o, rfl, hx⟩ := hb.at_ (by simp)
  have p0 := hx 0 b0 rfl
  rw [Nat.add_zero] at p0
  have d0 : decide (((b0 :: r0).length : Int) < 1) = false := decide_eq_false (by simp only [List.length_cons]; omega)
  refine wp_seq_k fun K hK => ?_; refine wp_seq_k fun K0 hK0 => ?_; refine zac ?_; (repeat ((with_reducible refine zaj ?_ ?_ ?_); (· simp [evb, pvb, rnb, kb, hN, h0, d0, dyb, sdb] <;> omega); (· kernel_rfl); try simp only [evb, pvb, rnb, kb, hN, seval, h0, d0])); refine zab ?_; refine hK0 _ _ ?_; try clear hK0 K0
  refine wp_cond_false (by simp only [evb, pvb, rnb, kb, hN, seval]) ?_
  refine wp_skip ?_
  refine hK _ _ ?_
  clear hK K
  have z0 := lt b0
  refine wp_seq_k fun K hK => ?_; refine zac ?_; (repeat ((with_reducible refine zaj ?_ ?_ ?_); (· simp [evb, pvb, rnb, kb, hN, h0, p0, fo, and7, u32_sm (show b0.toNat % 128 < 256 by omega), dyb, sdb] <;> omega); (· kernel_rfl); try simp only [evb, pvb, rnb, kb, hN, seval, h0, p0, fo, and7, u32_sm (show b0.toNat % 128 < 256 by omega)])); refine zab ?_; refine hK _ _ ?_; clear hK K
  by_cases c0 : b0.toNat < 128
  · refine wp_seq_k fun K hK => ?_; refine wp_seq_k fun K0 hK0 => ?_; refine zac ?_; (repeat ((with_reducible refine zaj ?_ ?_ ?_); (· simp [evb, pvb, rnb, kb, hN, h0, p0, fo, and8, if_pos c0, dyb, sdb] <;> omega); (· kernel_rfl); try simp only [evb, pvb, rnb, kb, hN, seval, h0, p0, fo, and8, if_pos c0])); refine zab ?_; refine hK0 _ _ ?_; try clear hK0 K0
    refine wp_cond_true (by simp only [evb, pvb, rnb, kb, hN, seval]) ?_
    refine wp_seq_k fun K hK => ?_; refine zac ?_; (repeat ((with_reducible refine zaj ?_ ?_ ?_); (· simp [evb, pvb, rnb, kb, hN, dyb, sdb] <;> omega); (· kernel_rfl); try simp only [evb, pvb, rnb, kb, hN, seval])); refine zab ?_; refine hK _ _ ?_; clear hK K
    refine wp_ret ⟨by simp only [zaa, hD], rfl, b0.toNat % 128, 1, ?_, uvR_some (bs := b0 :: r0) (r := r0) (y := b0.toNat) ?_ (by omega) (by decide) (by simp only [List.length_cons]; omega) rfl⟩
    · simp only [evb, pvb, rnb, kb, hN, seval]
    · simp only [rUvar, if_pos c0]
  have e0 : (if b0.toNat < 128 then (0 : Int) else 128) = 128 := if_neg c0
  refine wp_seq_k fun K hK => ?_; refine wp_seq_k fun K0 hK0 => ?_; refine zac ?_; (repeat ((with_reducible refine zaj ?_ ?_ ?_); (· simp [evb, pvb, rnb, kb, hN, h0, p0, fo, and8, e0, dyb, sdb] <;> omega); (· kernel_rfl); try simp only [evb, pvb, rnb, kb, hN, seval, h0, p0, fo, and8, e0])); refine zab ?_; refine hK0 _ _ ?_; try clear hK0 K0
  refine wp_cond_false (by simp only [evb, pvb, rnb, kb, hN, seval]) ?_
  refine wp_seq_k fun K1 hK1 => ?_; refine zac ?_
  rcases r0 with _ | ⟨b1, r1⟩
  · have d1 : decide (((b0 :: [] : Bs).length : Int) < 2) = true := rfl
    (repeat ((with_reducible refine zaj ?_ ?_ ?_); (· simp [evb, pvb, rnb, kb, hN, h0, d1, dyb, sdb] <;> omega); (· kernel_rfl); try simp only [evb, pvb, rnb, kb, hN, seval, h0, d1])); refine zab ?_; refine hK1 _ _ ?_; try clear hK1 K1
    refine wp_cond_true (by simp only [evb, pvb, rnb, kb, hN, seval]) ?_
    exact wp_goto ⟨rfl, (by simp only [rUvar, if_neg c0]), by simp only [zai, hN], by simp only [zaa, hD], rfl, 0, by simp only [evb, pvb, rnb, kb, hN, seval], by omega⟩
  have d1 : decide (((b0 :: b1 :: r1 : Bs).length : Int) < 2) = false := decide_eq_false (by simp only [List.length_cons]; omega)
  (repeat ((with_reducible refine zaj ?_ ?_ ?_); (· simp [evb, pvb, rnb, kb, hN, h0, d1, dyb, sdb] <;> omega); (· kernel_rfl); try simp only [evb, pvb, rnb, kb, hN, seval, h0, d1])); refine zab ?_; refine hK1 _ _ ?_; try clear hK1 K1
  refine wp_cond_false (by simp only [evb, pvb, rnb, kb, hN, seval]) ?_
  refine wp_skip ?_
  refine hK _ _ ?_
  clear hK K
  have p1 := hx 1 b1 rfl
  have z1 := lt b1
  have o1 : orI .u32 ((b0.toNat % 128 : Nat) : Int) (shlI .u32 7 ((b1.toNat % 128 : Nat) : Int)) = ((2 ^ 7 * (b1.toNat % 128) + (b0.toNat % 128) : Nat) : Int) := by
    rw [shlI_mul (k := .u32) rfl (c := 7) (y := b1.toNat % 128) (by decide) (by show _ < 4294967296; omega)]
    exact orI_add (k := .u32) rfl (j := 7) (y := b1.toNat % 128) (x := b0.toNat % 128) (by show _ < 128; omega) (by show _ < 4294967296; omega)
  refine wp_seq_k fun K hK => ?_; refine zac ?_; (repeat ((with_reducible refine zaj ?_ ?_ ?_); (· simp [evb, pvb, rnb, kb, hN, h0, p1, fo, and7, u32_sm (show b1.toNat % 128 < 256 by omega), o1, dyb, sdb] <;> omega); (· kernel_rfl); try simp only [evb, pvb, rnb, kb, hN, seval, h0, p1, fo, and7, u32_sm (show b1.toNat % 128 < 256 by omega), o1])); refine zab ?_; refine hK _ _ ?_; clear hK K
  by_cases c1 : b1.toNat < 128
  · refine wp_seq_k fun K hK => ?_; refine wp_seq_k fun K0 hK0 => ?_; refine zac ?_; (repeat ((with_reducible refine zaj ?_ ?_ ?_); (· simp [evb, pvb, rnb, kb, hN, h0, p1, fo, and8, if_pos c1, dyb, sdb] <;> omega); (· kernel_rfl); try simp only [evb, pvb, rnb, kb, hN, seval, h0, p1, fo, and8, if_pos c1])); refine zab ?_; refine hK0 _ _ ?_; try clear hK0 K0
    refine wp_cond_true (by simp only [evb, pvb, rnb, kb, hN, seval]) ?_
    refine wp_seq_k fun K hK => ?_; refine zac ?_; (repeat ((with_reducible refine zaj ?_ ?_ ?_); (· simp [evb, pvb, rnb, kb, hN, dyb, sdb] <;> omega); (· kernel_rfl); try simp only [evb, pvb, rnb, kb, hN, seval])); refine zab ?_; refine hK _ _ ?_; clear hK K
    refine wp_ret ⟨by simp only [zaa, hD], rfl, 2 ^ 7 * (b1.toNat % 128) + (b0.toNat % 128), 2, ?_, uvR_some (bs := b0 :: b1 :: r1) (r := r1) (y := b0.toNat % 128 + b1.toNat * 128) ?_ (by omega) (by decide) (by simp only [List.length_cons]; omega) rfl⟩
    · simp only [evb, pvb, rnb, kb, hN, seval]
    · simp only [rUvar, if_neg c0, if_pos c1]
  have e1 : (if b1.toNat < 128 then (0 : Int) else 128) = 128 := if_neg c1
  refine wp_seq_k fun K hK => ?_; refine wp_seq_k fun K0 hK0 => ?_; refine zac ?_; (repeat ((with_reducible refine zaj ?_ ?_ ?_); (· simp [evb, pvb, rnb, kb, hN, h0, p1, fo, and8, e1, dyb, sdb] <;> omega); (· kernel_rfl); try simp only [evb, pvb, rnb, kb, hN, seval, h0, p1, fo, and8, e1])); refine zab ?_; refine hK0 _ _ ?_; try clear hK0 K0
  refine wp_cond_false (by simp only [evb, pvb, rnb, kb, hN, seval]) ?_
  refine wp_seq_k fun K1 hK1 => ?_; refine zac ?_
  rcases r1 with _ | ⟨b2, r2⟩
  · have d2 : decide (((b0 :: b1 :: [] : Bs).length : Int) < 3) = true := rfl
    (repeat ((with_reducible refine zaj ?_ ?_ ?_); (· simp [evb, pvb, rnb, kb, hN, h0, d2, dyb, sdb] <;> omega); (· kernel_rfl); try simp only [evb, pvb, rnb, kb, hN, seval, h0, d2])); refine zab ?_; refine hK1 _ _ ?_; try clear hK1 K1
    refine wp_cond_true (by simp only [evb, pvb, rnb, kb, hN, seval]) ?_
    exact wp_goto ⟨rfl, (by simp only [rUvar, if_neg c0, if_neg c1]), by simp only [zai, hN], by simp only [zaa, hD], rfl, 0, by simp only [evb, pvb, rnb, kb, hN, seval], by omega⟩
  have d2 : decide (((b0 :: b1 :: b2 :: r2 : Bs).length : Int) < 3) = false := decide_eq_false (by simp only [List.length_cons]; omega)
  (repeat ((with_reducible refine zaj ?_ ?_ ?_); (· simp [evb, pvb, rnb, kb, hN, h0, d2, dyb, sdb] <;> omega); (· kernel_rfl); try simp only [evb, pvb, rnb, kb, hN, seval, h0, d2])); refine zab ?_; refine hK1 _ _ ?_; try clear hK1 K1
  refine wp_cond_false (by simp only [evb, pvb, rnb, kb, hN, seval]) ?_
  refine wp_skip ?_
  refine hK _ _ ?_
  clear hK K
  have p2 := hx 2 b2 rfl
  have z2 := lt b2
  have o2 : orI .u32 ((2 ^ 7 * (b1.toNat % 128) + (b0.toNat % 128) : Nat) : Int) (shlI .u32 14 ((b2.toNat % 128 : Nat) : Int)) = ((2 ^ 14 * (b2.toNat % 128) + (2 ^ 7 * (b1.toNat % 128) + (b0.toNat % 128)) : Nat) : Int) := by
    rw [shlI_mul (k := .u32) rfl (c := 14) (y := b2.toNat % 128) (by decide) (by show _ < 4294967296; omega)]
    exact orI_add (k := .u32) rfl (j := 14) (y := b2.toNat % 128) (x := 2 ^ 7 * (b1.toNat % 128) + (b0.toNat % 128)) (by show _ < 16384; omega) (by show _ < 4294967296; omega)
  refine wp_seq_k fun K hK => ?_; refine zac ?_; (repeat ((with_reducible refine zaj ?_ ?_ ?_); (· simp [evb, pvb, rnb, kb, hN, h0, p2, fo, and7, u32_sm (show b2.toNat % 128 < 256 by omega), o2, dyb, sdb] <;> omega); (· kernel_rfl); try simp only [evb, pvb, rnb, kb, hN, seval, h0, p2, fo, and7, u32_sm (show b2.toNat % 128 < 256 by omega), o2])); refine zab ?_; refine hK _ _ ?_; clear hK K
  by_cases c2 : b2.toNat < 128
  · refine wp_seq_k fun K hK => ?_; refine wp_seq_k fun K0 hK0 => ?_; refine zac ?_; (repeat ((with_reducible refine zaj ?_ ?_ ?_); (· simp [evb, pvb, rnb, kb, hN, h0, p2, fo, and8, if_pos c2, dyb, sdb] <;> omega); (· kernel_rfl); try simp only [evb, pvb, rnb, kb, hN, seval, h0, p2, fo, and8, if_pos c2])); refine zab ?_; refine hK0 _ _ ?_; try clear hK0 K0
    refine wp_cond_true (by simp only [evb, pvb, rnb, kb, hN, seval]) ?_
    refine wp_seq_k fun K hK => ?_; refine zac ?_; (repeat ((with_reducible refine zaj ?_ ?_ ?_); (· simp [evb, pvb, rnb, kb, hN, dyb, sdb] <;> omega); (· kernel_rfl); try simp only [evb, pvb, rnb, kb, hN, seval])); refine zab ?_; refine hK _ _ ?_; clear hK K
    refine wp_ret ⟨by simp only [zaa, hD], rfl, 2 ^ 14 * (b2.toNat % 128) + (2 ^ 7 * (b1.toNat % 128) + (b0.toNat % 128)), 3, ?_, uvR_some (bs := b0 :: b1 :: b2 :: r2) (r := r2) (y := b0.toNat % 128 + b1.toNat % 128 * 128 + b2.toNat * 16384) ?_ (by omega) (by decide) (by simp only [List.length_cons]; omega) rfl⟩
    · simp only [evb, pvb, rnb, kb, hN, seval]
    · simp only [rUvar, if_neg c0, if_neg c1, if_pos c2]
  have e2 : (if b2.toNat < 128 then (0 : Int) else 128) = 128 := if_neg c2
  refine wp_seq_k fun K hK => ?_; refine wp_seq_k fun K0 hK0 => ?_; refine zac ?_; (repeat ((with_reducible refine zaj ?_ ?_ ?_); (· simp [evb, pvb, rnb, kb, hN, h0, p2, fo, and8, e2, dyb, sdb] <;> omega); (· kernel_rfl); try simp only [evb, pvb, rnb, kb, hN, seval, h0, p2, fo, and8, e2])); refine zab ?_; refine hK0 _ _ ?_; try clear hK0 K0
  refine wp_cond_false (by simp only [evb, pvb, rnb, kb, hN, seval]) ?_
  refine wp_seq_k fun K1 hK1 => ?_; refine zac ?_
  rcases r2 with _ | ⟨b3, r3⟩
  · have d3 : decide (((b0 :: b1 :: b2 :: [] : Bs).length : Int) < 4) = true := rfl
    (repeat ((with_reducible refine zaj ?_ ?_ ?_); (· simp [evb, pvb, rnb, kb, hN, h0, d3, dyb, sdb] <;> omega); (· kernel_rfl); try simp only [evb, pvb, rnb, kb, hN, seval, h0, d3])); refine zab ?_; refine hK1 _ _ ?_; try clear hK1 K1
    refine wp_cond_true (by simp only [evb, pvb, rnb, kb, hN, seval]) ?_
    exact wp_goto ⟨rfl, (by simp only [rUvar, if_neg c0, if_neg c1, if_neg c2]), by simp only [zai, hN], by simp only [zaa, hD], rfl, 0, by simp only [evb, pvb, rnb, kb, hN, seval], by omega⟩
  have d3 : decide (((b0 :: b1 :: b2 :: b3 :: r3 : Bs).length : Int) < 4) = false := decide_eq_false (by simp only [List.length_cons]; omega)
  (repeat ((with_reducible refine zaj ?_ ?_ ?_); (· simp [evb, pvb, rnb, kb, hN, h0, d3, dyb, sdb] <;> omega); (· kernel_rfl); try simp only [evb, pvb, rnb, kb, hN, seval, h0, d3])); refine zab ?_; refine hK1 _ _ ?_; try clear hK1 K1
  refine wp_cond_false (by simp only [evb, pvb, rnb, kb, hN, seval]) ?_
  refine wp_skip ?_
  refine hK _ _ ?_
  clear hK K
  have p3 := hx 3 b3 rfl
  have z3 := lt b3
  have o3 : orI .u32 ((2 ^ 14 * (b2.toNat % 128) + (2 ^ 7 * (b1.toNat % 128) + (b0.toNat % 128)) : Nat) : Int) (shlI .u32 21 ((b3.toNat % 128 : Nat) : Int)) = ((2 ^ 21 * (b3.toNat % 128) + (2 ^ 14 * (b2.toNat % 128) + (2 ^ 7 * (b1.toNat % 128) + (b0.toNat % 128))) : Nat) : Int) := by
    rw [shlI_mul (k := .u32) rfl (c := 21) (y := b3.toNat % 128) (by decide) (by show _ < 4294967296; omega)]
    exact orI_add (k := .u32) rfl (j := 21) (y := b3.toNat % 128) (x := 2 ^ 14 * (b2.toNat % 128) + (2 ^ 7 * (b1.toNat % 128) + (b0.toNat % 128))) (by show _ < 2097152; omega) (by show _ < 4294967296; omega)
  refine wp_seq_k fun K hK => ?_; refine zac ?_; (repeat ((with_reducible refine zaj ?_ ?_ ?_); (· simp [evb, pvb, rnb, kb, hN, h0, p3, fo, and7, u32_sm (show b3.toNat % 128 < 256 by omega), o3, dyb, sdb] <;> omega); (· kernel_rfl); try simp only [evb, pvb, rnb, kb, hN, seval, h0, p3, fo, and7, u32_sm (show b3.toNat % 128 < 256 by omega), o3])); refine zab ?_; refine hK _ _ ?_; clear hK K
  by_cases c3 : b3.toNat < 128
  · refine wp_seq_k fun K hK => ?_; refine wp_seq_k fun K0 hK0 => ?_; refine zac ?_; (repeat ((with_reducible refine zaj ?_ ?_ ?_); (· simp [evb, pvb, rnb, kb, hN, h0, p3, fo, and8, if_pos c3, dyb, sdb] <;> omega); (· kernel_rfl); try simp only [evb, pvb, rnb, kb, hN, seval, h0, p3, fo, and8, if_pos c3])); refine zab ?_; refine hK0 _ _ ?_; try clear hK0 K0
    refine wp_cond_true (by simp only [evb, pvb, rnb, kb, hN, seval]) ?_
    refine wp_seq_k fun K hK => ?_; refine zac ?_; (repeat ((with_reducible refine zaj ?_ ?_ ?_); (· simp [evb, pvb, rnb, kb, hN, dyb, sdb] <;> omega); (· kernel_rfl); try simp only [evb, pvb, rnb, kb, hN, seval])); refine zab ?_; refine hK _ _ ?_; clear hK K
    refine wp_ret ⟨by simp only [zaa, hD], rfl, 2 ^ 21 * (b3.toNat % 128) + (2 ^ 14 * (b2.toNat % 128) + (2 ^ 7 * (b1.toNat % 128) + (b0.toNat % 128))), 4, ?_, uvR_some (bs := b0 :: b1 :: b2 :: b3 :: r3) (r := r3) (y := b0.toNat % 128 + b1.toNat % 128 * 128 + b2.toNat % 128 * 16384 + b3.toNat * 2097152) ?_ (by omega) (by decide) (by simp only [List.length_cons]; omega) rfl⟩
    · simp only [evb, pvb, rnb, kb, hN, seval]
    · simp only [rUvar, if_neg c0, if_neg c1, if_neg c2, if_pos c3]
  have e3 : (if b3.toNat < 128 then (0 : Int) else 128) = 128 := if_neg c3
  refine wp_seq_k fun K hK => ?_; refine wp_seq_k fun K0 hK0 => ?_; refine zac ?_; (repeat ((with_reducible refine zaj ?_ ?_ ?_); (· simp [evb, pvb, rnb, kb, hN, h0, p3, fo, and8, e3, dyb, sdb] <;> omega); (· kernel_rfl); try simp only [evb, pvb, rnb, kb, hN, seval, h0, p3, fo, and8, e3])); refine zab ?_; refine hK0 _ _ ?_; try clear hK0 K0
  refine wp_cond_false (by simp only [evb, pvb, rnb, kb, hN, seval]) ?_
  refine wp_seq_k fun K1 hK1 => ?_; refine zac ?_
  rcases r3 with _ | ⟨b4, r4⟩
  · have d4 : decide (((b0 :: b1 :: b2 :: b3 :: [] : Bs).length : Int) < 5) = true := rfl
    (repeat ((with_reducible refine zaj ?_ ?_ ?_); (· simp [evb, pvb, rnb, kb, hN, h0, d4, dyb, sdb] <;> omega); (· kernel_rfl); try simp only [evb, pvb, rnb, kb, hN, seval, h0, d4])); refine zab ?_; refine hK1 _ _ ?_; try clear hK1 K1
    refine wp_cond_true (by simp only [evb, pvb, rnb, kb, hN, seval]) ?_
    exact wp_goto ⟨rfl, (by simp only [rUvar, if_neg c0, if_neg c1, if_neg c2, if_neg c3]), by simp only [zai, hN], by simp only [zaa, hD], rfl, 0, by simp only [evb, pvb, rnb, kb, hN, seval], by omega⟩
  have d4 : decide (((b0 :: b1 :: b2 :: b3 :: b4 :: r4 : Bs).length : Int) < 5) = false := decide_eq_false (by simp only [List.length_cons]; omega)
  (repeat ((with_reducible refine zaj ?_ ?_ ?_); (· simp [evb, pvb, rnb, kb, hN, h0, d4, dyb, sdb] <;> omega); (· kernel_rfl); try simp only [evb, pvb, rnb, kb, hN, seval, h0, d4])); refine zab ?_; refine hK1 _ _ ?_; try clear hK1 K1
  refine wp_cond_false (by simp only [evb, pvb, rnb, kb, hN, seval]) ?_
  refine wp_skip ?_
  refine hK _ _ ?_
  clear hK K
  have p4 := hx 4 b4 rfl
  have z4 := lt b4
  by_cases c4 : b4.toNat ≤ 15
  · have o4 : orI .u32 ((2 ^ 21 * (b3.toNat % 128) + (2 ^ 14 * (b2.toNat % 128) + (2 ^ 7 * (b1.toNat % 128) + (b0.toNat % 128))) : Nat) : Int) (shlI .u32 28 ((b4.toNat : Nat) : Int)) = ((2 ^ 28 * b4.toNat + (2 ^ 21 * (b3.toNat % 128) + (2 ^ 14 * (b2.toNat % 128) + (2 ^ 7 * (b1.toNat % 128) + (b0.toNat % 128)))) : Nat) : Int) := by
      rw [shlI_mul (k := .u32) rfl (c := 28) (y := b4.toNat) (by decide) (by show _ < 4294967296; omega)]
      exact orI_add (k := .u32) rfl (j := 28) (y := b4.toNat) (x := 2 ^ 21 * (b3.toNat % 128) + (2 ^ 14 * (b2.toNat % 128) + (2 ^ 7 * (b1.toNat % 128) + (b0.toNat % 128)))) (by show _ < 268435456; omega) (by show _ < 4294967296; omega)
    refine wp_seq_k fun K hK => ?_; refine zac ?_; (repeat ((with_reducible refine zaj ?_ ?_ ?_); (· simp [evb, pvb, rnb, kb, hN, h0, p4, fo, u32_u8, o4, dyb, sdb] <;> omega); (· kernel_rfl); try simp only [evb, pvb, rnb, kb, hN, seval, h0, p4, fo, u32_u8, o4])); refine zab ?_; refine hK _ _ ?_; clear hK K
    have d5 : decide ((b4.toNat : Int) ≤ 15) = true := decide_eq_true (by omega)
    refine wp_seq_k fun K hK => ?_; refine wp_seq_k fun K0 hK0 => ?_; refine zac ?_; (repeat ((with_reducible refine zaj ?_ ?_ ?_); (· simp [evb, pvb, rnb, kb, hN, h0, p4, fo, d5, dyb, sdb] <;> omega); (· kernel_rfl); try simp only [evb, pvb, rnb, kb, hN, seval, h0, p4, fo, d5])); refine zab ?_; refine hK0 _ _ ?_; try clear hK0 K0
    refine wp_cond_true (by simp only [evb, pvb, rnb, kb, hN, seval]) ?_
    refine wp_seq_k fun K hK => ?_; refine zac ?_; (repeat ((with_reducible refine zaj ?_ ?_ ?_); (· simp [evb, pvb, rnb, kb, hN, dyb, sdb] <;> omega); (· kernel_rfl); try simp only [evb, pvb, rnb, kb, hN, seval])); refine zab ?_; refine hK _ _ ?_; clear hK K
    refine wp_ret ⟨by simp only [zaa, hD], rfl, 2 ^ 28 * b4.toNat + (2 ^ 21 * (b3.toNat % 128) + (2 ^ 14 * (b2.toNat % 128) + (2 ^ 7 * (b1.toNat % 128) + (b0.toNat % 128)))), 5, ?_, uvR_some (bs := b0 :: b1 :: b2 :: b3 :: b4 :: r4) (r := r4) (y := b0.toNat % 128 + b1.toNat % 128 * 128 + b2.toNat % 128 * 16384 + b3.toNat % 128 * 2097152 + b4.toNat * 268435456) ?_ (by omega) (by decide) (by simp only [List.length_cons]; omega) rfl⟩
    · simp only [evb, pvb, rnb, kb, hN, seval]
    · simp only [rUvar, if_neg c0, if_neg c1, if_neg c2, if_neg c3, if_pos c4]
  refine wp_seq_k fun K hK => ?_; refine zac ?_; (repeat ((with_reducible refine zaj ?_ ?_ ?_); (· simp [evb, pvb, rnb, kb, hN, h0, p4, fo, u32_u8, dyb, sdb] <;> omega); (· kernel_rfl); try simp only [evb, pvb, rnb, kb, hN, seval, h0, p4, fo, u32_u8])); refine zab ?_; refine hK _ _ ?_; clear hK K
  have d5 : decide ((b4.toNat : Int) ≤ 15) = false := decide_eq_false (by omega)
  refine wp_seq_k fun K hK => ?_; refine wp_seq_k fun K0 hK0 => ?_; refine zac ?_; (repeat ((with_reducible refine zaj ?_ ?_ ?_); (· simp [evb, pvb, rnb, kb, hN, h0, p4, fo, d5, dyb, sdb] <;> omega); (· kernel_rfl); try simp only [evb, pvb, rnb, kb, hN, seval, h0, p4, fo, d5])); refine zab ?_; refine hK0 _ _ ?_; try clear hK0 K0
  refine wp_cond_false (by simp only [evb, pvb, rnb, kb, hN, seval]) ?_
  refine wp_skip ?_
  refine hK _ _ ?_
  clear hK K
  refine wp_seq_k fun K hK => ?_; refine zac ?_; (repeat ((with_reducible refine zaj ?_ ?_ ?_); (· simp [evb, pvb, rnb, kb, hN, dyb, sdb] <;> omega); (· kernel_rfl); try simp only [evb, pvb, rnb, kb, hN, seval])); refine zab ?_; refine hK _ _ ?_; clear hK K
  refine wp_seq_k fun K hK => ?_
  refine wp_label ?_
  refine hK _ _ ?_
  clear hK K
  refine wp_seq_k fun K hK => ?_; refine zac ?_; (repeat ((with_reducible refine zaj ?_ ?_ ?_); (· simp [evb, pvb, rnb, kb, hN, dyb, sdb] <;> omega); (· kernel_rfl); try simp only [evb, pvb, rnb, kb, hN, seval])); refine zab ?_; refine hK _ _ ?_; clear hK K
  refine wp_ret ⟨by simp only [zaa, hD], rfl, 0, -5, ?_, uvR_none (by simp only [rUvar, if_neg c0, if_neg c1, if_neg c2, if_neg c3, if_neg c4]) (by omega)⟩
  simp only [evb, pvb, rnb, kb, hN, seval]
  try rfl
end Go.Proofs.Ytbbocmkcciemdaa
namespace Go.Proofs.Ytbbocmkcciemdaa
set_option linter.all false
open Go.RowKit
set_option maxRecDepth 10000
set_option maxHeartbeats 1000000
theorem i64_sm (n : Int) (h : -9223372036854775808 ≤ n ∧ n < 9223372036854775808) : IntKind.i64.wrap n = n := by simp [IntKind.wrap, IntKind.bits, IntKind.signed]; split <;> omega
theorem uv_lt {bs r : Bs} {n : Nat} (h : rUvar bs = some (n, r)) : n < 4294967296 := by
  have L := fun x : UInt8 => x.toNat_lt
  unfold rUvar at h
  repeat' (split at h)
  all_goals first | (cases h; done) | skip
  all_goals (simp only [Option.some.injEq, Prod.mk.injEq] at h; obtain ⟨rfl, _⟩ := h)
  all_goals omega
def outM (_ _ : World) (_ : Nat → Prop) (x : Nat) (v : Value) : Prop := v = .int .u32 x ∧ x < 4294967296
theorem Uvarint_m : RdF 76 [] rUvar outM := by
  intro w G R st hS hR hf
  obtain ⟨oa, cap, hb, hcap, hat⟩ := hS.blk
  have l0 := hb.ld (i := 0) rfl
  refine zar Try.func76 rfl rfl Try.ntmps76 (by simp) ?_
  intro a hN hD ha
  have h0 : get a 0 = .pointer (some ⟨R, 0, none⟩) := ha 0 _ rfl
  refine wp_seq_k fun K hK => ?_; refine zac ?_; (repeat ((with_reducible refine zaj ?_ ?_ ?_); (· simp [evb, pvb, rnb, kb, hN, dyb, sdb] <;> omega); (· kernel_rfl); try simp only [evb, pvb, rnb, kb, hN, seval])); refine zab ?_; refine hK _ _ ?_; clear hK K
  refine wp_seq_k fun K hK => ?_; refine zac ?_; (repeat ((with_reducible refine zaj ?_ ?_ ?_); (· simp [evb, pvb, rnb, kb, hN, h0, l0, fo, dyb, sdb] <;> omega); (· kernel_rfl); try simp only [evb, pvb, rnb, kb, hN, seval, h0, l0, fo]))
  refine zau (fun args w => Try.call77 args w) (by simp only [List.map_toArray, List.map_cons, List.map_nil]; simp only [evb, pvb, rnb, kb, hN, seval]; exact uvarint_c w G oa (st.getD []) cap hat) ?_
  rintro _ _ ⟨rfl, x, m, rfl, hu⟩
  (repeat ((with_reducible refine zaj ?_ ?_ ?_); (· simp [evb, pvb, rnb, kb, hN, dyb, sdb] <;> omega); (· kernel_rfl); try simp only [evb, pvb, rnb, kb, hN, seval])); refine zab ?_; refine hK _ _ ?_; clear hK K
  refine wp_seq_k fun K hK => ?_
  by_cases hm : m ≤ 0
  · have d1 : decide (m ≤ 0) = true := decide_eq_true hm
    refine wp_seq_k fun K0 hK0 => ?_; refine zac ?_; (repeat ((with_reducible refine zaj ?_ ?_ ?_); (· simp [evb, pvb, rnb, kb, hN, d1, dyb, sdb] <;> omega); (· kernel_rfl); try simp only [evb, pvb, rnb, kb, hN, seval, d1])); refine zab ?_; refine hK0 _ _ ?_; try clear hK0 K0
    refine wp_cond_true (by simp only [evb, pvb, rnb, kb, hN, seval]) ?_
    refine rd_fail (by simp only [zai]; exact hN) (by simp only [evb, pvb, rnb, kb, hN, seval, h0]) hb (by kernel_rfl) fun a' w' k1 k2 k3 k4 => ⟨by rw [k1]; simp only [zaa, hD], Reads.fail 0 k4 k3 (fun bs h => ?_) ⟨k2, by omega⟩⟩
    subst h
    unfold uvR at hu
    change (match rUvar bs with | some (y, r) => _ | none => _) at hu
    cases h2 : rUvar bs with
    | none => rfl
    | some y => rw [h2] at hu; exact absurd hu.2.1 (by omega)
  · have d1 : decide (m ≤ 0) = false := decide_eq_false hm
    refine wp_seq_k fun K0 hK0 => ?_; refine zac ?_; (repeat ((with_reducible refine zaj ?_ ?_ ?_); (· simp [evb, pvb, rnb, kb, hN, d1, dyb, sdb] <;> omega); (· kernel_rfl); try simp only [evb, pvb, rnb, kb, hN, seval, d1])); refine zab ?_; refine hK0 _ _ ?_; try clear hK0 K0
    refine wp_cond_false (by simp only [evb, pvb, rnb, kb, hN, seval]) ?_
    refine wp_skip ?_
    refine hK _ _ ?_
    clear hK K
    unfold uvR at hu
    cases h2 : rUvar (st.getD []) with
    | none => rw [h2] at hu; exact absurd hu.2 hm
    | some y =>
    obtain ⟨y, r⟩ := y
    rw [h2] at hu
    obtain ⟨rfl, _, hl, rfl⟩ := hu
    cases st with
    | none => cases h2
    | some bs =>
    change m ≤ bs.length at hl
    change bs.length ≤ cap at hcap
    change zad _ G oa bs at hat
    change rUvar bs = some (x, bs.drop m.toNat) at h2
    have d2 : decide (m ≤ (bs.length : Int)) = true := decide_eq_true hl
    have d3 : decide (0 ≤ m) = true := decide_eq_true (by omega)
    change Blk _ R [.slice oa bs.length cap, .bool false] tR at hb
    change ldV _ _ = .slice oa bs.length cap ∧ _ at l0
    refine wp_seq_k fun K hK => ?_; refine zac ?_; (repeat ((with_reducible refine zaj ?_ ?_ ?_); (· simp [evb, pvb, rnb, kb, hN, h0, l0, fo, d2, d3, dyb, sdb] <;> omega); (· kernel_rfl); try simp only [evb, pvb, rnb, kb, hN, seval, h0, l0, fo, d2, d3]))
    refine wl_store (b := R) (o := 0) (n := 1) (v := .slice (if cap = m.toNat then oa else oa.map (·.add (m.toNat * 1))) (bs.length - m.toNat) (cap - m.toNat)) (by kernel_rfl) (by simp only [evb, pvb, rnb, kb, hN, seval]) (by simp only [evb, pvb, rnb, kb, hN, seval]; try rfl) hb rfl (by intro y hy; simp only [Value.cells, List.mem_singleton] at hy; subst hy; rfl) (by simp) fun w2 hb2 hc2 => ?_
    refine zab ?_; refine hK _ _ ?_; clear hK K
    have hb3 : Blk w2 R [.slice (if cap = m.toNat then oa else oa.map (·.add (m.toNat * 1))) (bs.drop m.toNat).length (cap - m.toNat), .bool false] tR := by rw [List.length_drop]; exact hb2
    have hat3 := ((bytes_rest (i := m.toNat) hat hcap).chg hc2 fun g hg _ e => hR (e ▸ hg))
    refine wp_seq_k fun K hK => ?_; refine zac ?_; (repeat ((with_reducible refine zaj ?_ ?_ ?_); (· simp [evb, pvb, rnb, kb, hN, dyb, sdb] <;> omega); (· kernel_rfl); try simp only [evb, pvb, rnb, kb, hN, seval])); refine zab ?_; refine hK _ _ ?_; clear hK K
    refine wp_ret ⟨by simp [zaa, hD], ?_⟩; simp only [evb, kb, hN, seval]
    exact Reads.done h2 hc2 hb3 (by rw [List.length_drop]; omega) hat3 ⟨rfl, uv_lt h2⟩
end Go.Proofs.Ytbbocmkcciemdaa

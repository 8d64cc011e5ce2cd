import Derived.Test.YtgjnllebnkjofaaDoorZA
import Derived.Laws.IdiomStrings
import Derived.ScopeJumps
import Derived.Laws.IdiomCopy
/-
What the proofs of the laws rest on, part ZB.
-/
namespace Go.Proofs.YtgjnllebnkjofaaDoor
set_option linter.all false
open Go.RowKit
set_option maxRecDepth 10000
set_option maxHeartbeats 1000000
abbrev tR : TypeId := 93
theorem fo : fOff Tryd.prog tR 0 = 0 ∧ fOff Tryd.prog tR 1 = 1 ∧ eSz Tryd.prog 22 = 1 := ⟨by kernel_rfl, by kernel_rfl, by kernel_rfl⟩
def RdS (w : World) (G : Nat → Prop) (R : Nat) : Option Bs → Prop
  | some bs => ∃ oa cap, Blk w R [.slice oa bs.length cap, .bool false] tR ∧ bs.length ≤ cap ∧ zau w G oa bs
  | none => Blk w R [.slice none 0 0, .bool true] tR
theorem RdS.blk {w : World} {G : Nat → Prop} {R : Nat} {st : Option Bs} (h : RdS w G R st) :
    ∃ oa cap, Blk w R [.slice oa (st.getD []).length cap, .bool st.isNone] tR ∧ (st.getD []).length ≤ cap ∧ zau w G oa (st.getD []) := by
  cases st with
  | none => exact ⟨none, 0, h, Nat.le_refl _, .inl rfl⟩
  | some bs => exact h
theorem RdS.stay {w w' : World} {G G' : Nat → Prop} {R : Nat} {st : Option Bs} (h : RdS w G R st) (st' : Stay w w' G G') (hR : w'.heap[R]? = w.heap[R]?) : RdS w' G' R st := by
  cases st with
  | none => exact hR.trans h
  | some bs =>
    obtain ⟨oa, cap, h1, h2, h3⟩ := h
    exact ⟨oa, cap, hR.trans h1, h2, h3.stay st'⟩
theorem RdS.lt {w : World} {G : Nat → Prop} {R : Nat} {st : Option Bs} (h : RdS w G R st) : R < w.heap.size := by
  obtain ⟨_, _, h, _⟩ := h.blk; exact h.lt
structure Reads {α : Type} (w : World) (G : Nat → Prop) (R : Nat) (st : Option Bs) (sem : Bs → Option (α × Bs)) (out : World → World → (Nat → Prop) → α → Value → Prop) (v : Value) (w' : World) : Prop where
  chg : Chg (fun k => k = R) w w'
  rd : RdS w' G R ((st.bind sem).map (·.2))
  val : ∃ x, out w w' G x v ∧ ∀ y, st.bind sem = some y → x = y.1
def RdF (f : FuncId) (args : List Value) {α : Type} (sem : Bs → Option (α × Bs)) (out : World → World → (Nat → Prop) → α → Value → Prop) : Prop :=
  ∀ (w : World) (G : Nat → Prop) (R : Nat) (st : Option Bs), RdS w G R st → ¬ G R → (∀ k, w.heap.size ≤ k → G k) →
    zaD Tryd.prog f (.pointer (some ⟨R, 0, none⟩) :: args).toArray w (Reads w G R st sem out)
def outI (k : IntKind) (_ _ : World) (_ : Nat → Prop) (x : Int) (v : Value) : Prop := v = .int k x
def outS (_ _ : World) (_ : Nat → Prop) (x : Bs) (v : Value) : Prop := v = .string ⟨x.toArray⟩
def outB (_ w' : World) (G : Nat → Prop) (x : Bs) (v : Value) : Prop := ∃ oa cap, v = .slice oa x.length cap ∧ x.length ≤ cap ∧ zau w' G oa x
theorem bind_none {α : Type} {st : Option Bs} {sem : Bs → Option (α × Bs)} (h : ∀ bs, st = some bs → sem bs = none) : st.bind sem = none := by
  cases st with
  | none => rfl
  | some bs => exact h bs rfl
section
variable {y0 y1 y2 y3 y4 y5 y6 y7 y8 y9 y10 y11 y12 y13 y14 y15 y16 y17 y18 y19 y20 y21 y22 y23 y24 y25 y26 y27 y28 y29 y30 y31 y32 y33 y34 y35 y36 y37 y38 y39 : TypeId} {q0 q1 q2 q3 q4 q5 q6 q7 q8 q9 q10 q11 q12 q13 q14 q15 q16 q17 q18 q19 q20 q21 q22 q23 q24 q25 q26 q27 q28 q29 q30 q31 q32 q33 q34 q35 q36 q37 q38 q39 : String} {e0 e1 e2 e3 e4 e5 e6 e7 e8 e9 e10 e11 e12 e13 e14 e15 e16 e17 e18 e19 e20 e21 e22 e23 e24 e25 e26 e27 e28 e29 e30 e31 e32 e33 e34 e35 e36 e37 e38 e39 : Array Edge} {r0 r1 r2 r3 r4 r5 : Nat}
variable {P : Program} {a : Act} {w : World} {Q : Exit → Act → World → Prop} {R N : Nat} {t1 t2 t3 t4 t5 t6 t7 t8 r : Nat} {z x0 x1 : Value} {T tb ts : TypeId}
theorem rd_fail (hN : a.tmps.size = N) (h0 : get a 0 = .pointer (some ⟨R, 0, none⟩)) (hb : Blk w R [x0, x1] tR)
    (hc : (fieldB Tryd.prog T 1 1 1 && fieldB Tryd.prog T 0 0 1 && sizeB Tryd.prog tb 1 && sizeB Tryd.prog ts 1 && decide ([t1, t2, t3, t4, t5, t6, 0].Nodup) && [0, t1, t2, t3, t4, t5, t6, r].all (fun t => decide (t < N))) = true)
    (h : ∀ a' w', a'.defers = a.defers → get a' r = z → Blk w' R [.slice none 0 0, .bool true] tR → Chg (fun k => k = R) w w' → Q .ret a' w') :
    (Code.seq (.region r0 #[⟨some t1, .move (.tmp 0), y0, q0, e0, none⟩, ⟨some t2, .nilCheck (.tmp t1), y1, q1, e1, none⟩, ⟨some t3, .fieldAddr T (.tmp t2) 1, y2, q2, e2, none⟩, ⟨none, .store tb (.tmp t3) (.const (.bool true)), y3, q3, e3, none⟩] false)
      (.seq (.region r1 #[⟨some t4, .move (.tmp 0), y4, q4, e4, none⟩, ⟨some t5, .nilCheck (.tmp t4), y5, q5, e5, none⟩, ⟨some t6, .fieldAddr T (.tmp t5) 0, y6, q6, e6, none⟩, ⟨none, .store ts (.tmp t6) (.const (.slice none 0 0)), y7, q7, e7, none⟩] false)
        (.seq (.region r2 #[⟨some r, .assign (.const z), y8, q8, e8, none⟩] false) .ret))).wp Tryd.prog Q a w := by
  simp only [Bool.and_eq_true, decide_eq_true_eq, List.all_eq_true] at hc
  obtain ⟨⟨⟨⟨⟨c1, c2⟩, c3⟩, c4⟩, hnd⟩, hlt⟩ := hc
  simp only [List.nodup_cons, List.mem_cons, List.not_mem_nil, or_false, not_or, List.nodup_nil, and_true, not_false_eq_true, forall_eq_or_imp, forall_eq] at hnd hlt
  refine wp_seq_k fun K hK => ?_; refine zag ?_
  refine zaQ ?_
  refine wl_nilCheck (p := ⟨R, 0, none⟩) (by simp only [evb, hN, hlt, if_true, h0]) ?_
  refine wl_fieldAddr (b := R) (o := 0) c1 (by simp only [evb, hN, hlt, if_true]) ?_
  refine wl_store (b := R) (o := 0 + 1) (n := 1) (v := .bool true) c3 (by simp only [evb, hN, hlt, if_true]) rfl hb rfl (by intro y hy; simp only [Value.cells, List.mem_singleton] at hy; subst hy; rfl) (by simp) fun w1 hb1 hc1 => ?_
  refine zad ?_; refine hK _ _ ?_; clear hK K
  have e1 : zaL [x0, x1] (0 + 1) (Value.bool true).cells.toList = [x0, .bool true] := rfl
  rw [e1] at hb1
  refine wp_seq_k fun K hK => ?_; refine zag ?_
  refine zaQ ?_
  refine wl_nilCheck (p := ⟨R, 0, none⟩) (by simp only [evb, hN, hlt, if_true, hnd, if_false, h0]) ?_
  refine wl_fieldAddr (b := R) (o := 0) c2 (by simp only [evb, hN, hlt, if_true]) ?_
  refine wl_store (b := R) (o := 0 + 0) (n := 1) (v := .slice none 0 0) c4 (by simp only [evb, hN, hlt, if_true]) rfl hb1 rfl (by intro y hy; simp only [Value.cells, List.mem_singleton] at hy; subst hy; rfl) (by simp) fun w2 hb2 hc2 => ?_
  refine zad ?_; refine hK _ _ ?_; clear hK K
  have e2 : zaL [x0, .bool true] (0 + 0) (Value.slice none 0 0).cells.toList = [.slice none 0 0, .bool true] := rfl
  rw [e2] at hb2
  refine wp_seq_k fun K hK => ?_; refine zag ?_
  refine zaB ?_
  refine zad ?_; refine hK _ _ ?_; clear hK K
  refine wp_ret (h _ _ (by simp only [zab]) (by simp only [evb, hN, hlt, if_true]) hb2 (hc1.trans hc2 fun _ _ h => h))
theorem bytes_rest {G : Nat → Prop} {oa : Option Addr} {bs : Bs} {cap i : Nat} (h : zau w G oa bs) (hc : bs.length ≤ cap) : zau w G (if cap = i then oa else oa.map (·.add (i * 1))) (bs.drop i) := by
  by_cases hi : cap = i
  · left; exact List.drop_of_length_le (by omega)
  · rw [if_neg hi]
    rcases h with rfl | ⟨b, o, l, T, h1, h2, h3, h4⟩
    · left; simp
    · subst h1
      simp only [Option.map_some, Nat.mul_one, add_lit]
      exact zau.drop (.inr ⟨b, o, l, T, rfl, h2, h3, h4⟩) i
end
theorem Reads.fail {α : Type} {w w' : World} {G : Nat → Prop} {R : Nat} {st : Option Bs} {sem : Bs → Option (α × Bs)} {out : World → World → (Nat → Prop) → α → Value → Prop} {v : Value} (x : α)
    (hc : Chg (fun k => k = R) w w') (hb : Blk w' R [.slice none 0 0, .bool true] tR) (hs : ∀ bs, st = some bs → sem bs = none) (hv : out w w' G x v) : Reads w G R st sem out v w' :=
  ⟨hc, by rw [bind_none hs]; exact hb, x, hv, fun y h => by rw [bind_none hs] at h; cases h⟩
theorem Reads.done {α : Type} {w w' : World} {G : Nat → Prop} {R : Nat} {bs r : Bs} {oa : Option Addr} {cap : Nat} {sem : Bs → Option (α × Bs)} {out : World → World → (Nat → Prop) → α → Value → Prop} {v : Value} {x : α}
    (hs : sem bs = some (x, r)) (hc : Chg (fun k => k = R) w w') (hb : Blk w' R [.slice oa r.length cap, .bool false] tR) (hl : r.length ≤ cap) (ha : zau w' G oa r) (hv : out w w' G x v) : Reads w G R (some bs) sem out v w' := by
  refine ⟨hc, ?_, x, hv, fun y h => ?_⟩
  · rw [Option.bind_some, hs]; exact ⟨oa, cap, hb, hl, ha⟩
  · rw [Option.bind_some, hs] at h; cases h; rfl
theorem rS_short {k : Nat} {bs : Bs} (h : bs.length < k) : rS k bs = none := by unfold rS take?; rw [if_neg (by omega)]; rfl
theorem rS_long {k : Nat} {bs : Bs} (h : k ≤ bs.length) : rS k bs = some (sgn k (unbe (bs.take k)), bs.drop k) := by unfold rS take?; rw [if_pos h]; rfl
theorem unbe_lt' : ∀ bs : Bs, unbe bs < 256 ^ bs.length
  | [] => by simp [unbe]
  | b :: r => by
    have ih := unbe_lt' r
    have hb : b.toNat < 256 := b.toNat_lt
    simp only [unbe, List.length_cons, Nat.pow_succ]
    have h2 : b.toNat * 256 ^ r.length ≤ 255 * 256 ^ r.length := Nat.mul_le_mul_right _ (by omega)
    omega
theorem zau.at_ {w : World} {G : Nat → Prop} {oa : Option Addr} {bs : Bs} (h : zau w G oa bs) (h0 : bs ≠ []) : ∃ b o, oa = some ⟨b, o, none⟩ ∧ ∀ i (x : UInt8), bs[i]? = some x →
    ldV w (.pointer (some ⟨b, o + i, none⟩)) = .int .u8 x.toNat ∧ ldOK w (.pointer (some ⟨b, o + i, none⟩)) = true := by
  rcases h with h | ⟨b, o, l, T, h1, h2, h3, h4⟩
  · exact absurd h h0
  · refine ⟨b, o, h1, fun i x hx => h3.ld ?_⟩
    have hi : i < bs.length := (List.getElem?_eq_some_iff.1 hx).1
    rw [← seg_get hi, h4, List.getElem?_map, hx]; rfl
theorem wrapU {k : IntKind} (hk : k.signed = false) {n : Nat} (h : n < 2 ^ k.bits) : k.wrap (n : Int) = n := by
  cases k <;> simp [IntKind.signed] at hk <;> simp only [IntKind.bits] at h <;> simp [IntKind.wrap, IntKind.bits, IntKind.signed] <;> omega
theorem u16_u8 (x : UInt8) : IntKind.u16.wrap (x.toNat : Int) = x.toNat := wrapU rfl (by have := x.toNat_lt; show _ < 65536; omega)
theorem orI_add {k : IntKind} (hk : k.signed = false) {x y j : Nat} (hx : x < 2 ^ j) (h : 2 ^ j * y + x < 2 ^ k.bits) : orI k (x : Int) ((2 ^ j * y : Nat) : Int) = ((2 ^ j * y + x : Nat) : Int) := by
  unfold orI
  have h1 : x < 2 ^ k.bits := by omega
  have h2 : 2 ^ j * y < 2 ^ k.bits := by omega
  have e1 : (BitVec.ofInt k.bits (x : Int)).toNat = x := by
    have := toNat_ofInt k.bits (x : Int)
    rw [Int.emod_eq_of_lt (by omega) (by exact_mod_cast h1)] at this
    exact_mod_cast this
  have e2 : (BitVec.ofInt k.bits ((2 ^ j * y : Nat) : Int)).toNat = 2 ^ j * y := by
    have := toNat_ofInt k.bits ((2 ^ j * y : Nat) : Int)
    rw [Int.emod_eq_of_lt (by omega) (by exact_mod_cast h2)] at this
    exact_mod_cast this
  rw [BitVec.toNat_or, e1, e2, Nat.or_comm, ← Nat.two_pow_add_eq_or_of_lt hx y]
  exact wrapU hk h
theorem shlI_mul {k : IntKind} (hk : k.signed = false) {c y : Nat} (hc : c ≤ k.bits) (h : 2 ^ c * y < 2 ^ k.bits) : shlI k c (y : Int) = ((2 ^ c * y : Nat) : Int) := by
  unfold shlI
  rw [Nat.min_eq_left hc, Int.mul_comm]
  have e : (2 : Int) ^ c * (y : Int) = ((2 ^ c * y : Nat) : Int) := by push_cast; rfl
  rw [e]
  exact wrapU hk h
end Go.Proofs.YtgjnllebnkjofaaDoor
namespace Go.Proofs.YtgjnllebnkjofaaDoor
set_option linter.all false
open Go.RowKit
set_option maxRecDepth 10000
set_option maxHeartbeats 1000000
theorem cons2 {bs : Bs} (h : 2 ≤ bs.length) : ∃ x0 x1 r, bs = x0 :: x1 :: r := by
  rcases bs with _ | ⟨x0, _ | ⟨x1, r⟩⟩ <;> first | (simp at h; done) | exact ⟨_, _, _, rfl⟩
theorem sgn2 {k : IntKind} {j n : Nat} (hk : k.signed = true) (hb : (2 : Int) ^ k.bits = 256 ^ j) (h : n < 256 ^ j) : k.wrap (n : Int) = sgn j n := by
  have h' : (n : Int) < 256 ^ j := by have e : ((256 ^ j : Nat) : Int) = 256 ^ j := Int.natCast_pow 256 j; omega
  unfold sgn
  by_cases c : 2 * (n : Int) < 256 ^ j
  · rw [if_pos c]
    rw [← hb] at h' c
    cases k <;> simp [IntKind.signed] at hk <;> simp only [IntKind.bits] at h' c <;> simp only [IntKind.wrap, IntKind.bits, IntKind.signed] <;> simp <;> split <;> omega
  · rw [if_neg c]
    rw [← hb] at h' c ⊢
    cases k <;> simp [IntKind.signed] at hk <;> simp only [IntKind.bits] at h' c ⊢ <;> simp only [IntKind.wrap, IntKind.bits, IntKind.signed] <;> simp <;> split <;> omega
theorem i16_sgn {bs : Bs} (h : 2 ≤ bs.length) : IntKind.i16.wrap (unbe (bs.take 2) : Nat) = sgn 2 (unbe (bs.take 2)) := sgn2 rfl rfl (by have := unbe_lt' (bs.take 2); rwa [List.length_take, Nat.min_eq_left h] at this)
theorem be16_c (w : World) (G : Nat → Prop) (oa : Option Addr) (bs : Bs) (cap : Nat) (hb : zau w G oa bs) (h2 : 2 ≤ bs.length) : zaD Tryd.prog 69 #[.agg #[], .slice oa bs.length cap] w fun v w' => v = .int .u16 (unbe (bs.take 2) : Nat) ∧ Chg (fun _ => False) w w' := by
  obtain ⟨x0, x1, r, rfl⟩ := cons2 h2
  refine zaA Tryd.func69 rfl rfl Tryd.ntmps69 (by simp) ?_
  intro a hN hD ha
  have h1 : get a 1 = .slice oa (x0 :: x1 :: r).length cap := ha 1 _ rfl
  have d : ∀ i : Int, 0 ≤ i → i < 2 → (decide (0 ≤ i) && decide (i < (((x0 :: x1 :: r).length : Nat) : Int))) = true := fun i h h' => by simp only [List.length_cons] at *; simp only [Bool.and_eq_true, decide_eq_true_eq]; omega
  refine wp_seq_k fun K hK => ?_; refine zag ?_
  refine wl_boxA (l := []) (by rw [zah]; exact ha 0 _ rfl) fun w1 hc hb1 _ => ?_
  obtain ⟨b, o, rfl, hx⟩ := (hb.chg hc (fun _ _ _ h => h)).at_ (by simp)
  have p0 := hx 0 x0 rfl
  have p1 := hx 1 x1 rfl
  rw [Nat.add_zero] at p0
  (repeat ((with_reducible refine wl_p ?_ ?_ ?_); (· simp [evb, pvb, rnb, kb, hN, dyb, sdb] <;> omega); (· kernel_rfl); try simp only [evb, pvb, rnb, kb, hN, seval])); refine zad ?_; refine hK _ _ ?_; clear hK K
  refine wp_seq_k fun K hK => ?_; refine zag ?_; (repeat ((with_reducible refine wl_p ?_ ?_ ?_); (· simp [evb, pvb, rnb, kb, hN, h1, p0, p1, fo, d, dyb, sdb] <;> omega); (· kernel_rfl); try simp only [evb, pvb, rnb, kb, hN, seval, h1, p0, p1, fo, d])); refine zad ?_; refine hK _ _ ?_; clear hK K
  refine wp_seq_k fun K hK => ?_
  refine wp_ord (fun _ => False) zaO (by kernel_rfl) ?_
  (repeat (first | (refine wf_p rfl rfl ?_ ?_ ?_ ?_; (· first | exact rdX_no | (refine ⟨?_⟩; simp [rxb]; done)); (· simp [evb, pvb, rnb, kb, hN, seval, h1, p0, p1, fo, d, u16_u8, dyb, sdb] <;> omega); (· kernel_rfl); try simp only [evb, pvb, rnb, kb, hN, seval, h1, p0, p1, fo, d, u16_u8]) | (refine wf_pg rfl rfl rfl ?_ rfl ?_ ?_ ?_ ?_; (· simp [evb, pvb, rnb, kb, hN, seval, h1, p0, p1, fo, d, u16_u8]; done); (· first | exact rdX_no | (refine ⟨?_⟩; simp [rxb]; done)); (· simp [evb, pvb, rnb, kb, hN, seval, h1, p0, p1, fo, d, u16_u8, dyb, sdb] <;> omega); (· kernel_rfl); try simp only [evb, pvb, rnb, kb, hN, seval, h1, p0, p1, fo, d, u16_u8]) | (refine wf_gno rfl rfl rfl ?_ ?_; (· simp [evb, pvb, rnb, kb, hN, seval, h1, p0, p1, fo, d, u16_u8]; done); try simp only [evb, pvb, rnb, kb, hN, seval, h1, p0, p1, fo, d, u16_u8]) | (refine wf_gnoU rfl rfl rfl ?_ ?_; (· simp [evb, pvb, rnb, kb, hN, seval, h1, p0, p1, fo, d, u16_u8]; done); try simp only [evb, pvb, rnb, kb, hN, seval, h1, p0, p1, fo, d, u16_u8])))
  refine wf_nil (by decide) ?_
  refine hK _ _ ?_
  refine wp_ret ⟨by simp [zab, hD], ?_⟩; simp only [evb, kb, hN, seval]
  refine ⟨?_, hc.trans (Chg.drew _ _) fun _ _ h => h⟩
  congr 1
  have t0 := x0.toNat_lt
  have t1 := x1.toNat_lt
  have e : unbe ((x0 :: x1 :: r).take 2) = 256 * x0.toNat + 1 * x1.toNat := by simp [unbe]; omega
  rw [e]
  rw [shlI_mul (k := .u16) rfl (c := 8) (y := x0.toNat) (by decide) (by show _ < 65536; omega)]
  rw [orI_add (k := .u16) rfl (j := 8) (y := x0.toNat) (x := x1.toNat) (by show _ < 256; omega) (by show _ < 65536; omega)]
  omega
theorem Int16_z (w : World) (G : Nat → Prop) (R : Nat) (st : Option Bs) (hS : RdS w G R st) (hR : ¬ G R) (hf : ∀ k, w.heap.size ≤ k → G k) : zaD Tryd.prog 53 #[.pointer (some ⟨R, 0, none⟩)] w fun v w' => Reads w G R st (rS 2) (outI .i16) v w' ∧ (st.bind (rS 2) = none → v = .int .i16 0) := by
  obtain ⟨oa, cap, hb, hcap, hat⟩ := hS.blk
  have l0 := hb.ld (i := 0) rfl
  refine zaA Tryd.func53 rfl rfl Tryd.ntmps53 (by simp) ?_
  intro a hN hD ha
  have h0 : get a 0 = .pointer (some ⟨R, 0, none⟩) := ha 0 _ rfl
  refine wp_seq_k fun K hK => ?_; refine zag ?_; (repeat ((with_reducible refine wl_p ?_ ?_ ?_); (· simp [evb, pvb, rnb, kb, hN, dyb, sdb] <;> omega); (· kernel_rfl); try simp only [evb, pvb, rnb, kb, hN, seval])); refine zad ?_; refine hK _ _ ?_; clear hK K
  by_cases hlt : (st.getD []).length < 2
  · have d1 : decide (((st.getD []).length : Int) < 2) = true := decide_eq_true (by omega)
    refine wp_seq_k fun K hK => ?_; refine wp_seq_k fun K0 hK0 => ?_; refine zag ?_; (repeat ((with_reducible refine wl_p ?_ ?_ ?_); (· simp [evb, pvb, rnb, kb, hN, h0, l0, fo, d1, dyb, sdb] <;> omega); (· kernel_rfl); try simp only [evb, pvb, rnb, kb, hN, seval, h0, l0, fo, d1])); refine zad ?_; refine hK0 _ _ ?_; try clear hK0 K0
    refine wp_cond_true (by simp only [evb, pvb, rnb, kb, hN, seval]) ?_
    refine rd_fail (by simp only [zai]; exact hN) (by simp only [evb, pvb, rnb, kb, hN, seval, h0]) hb (by kernel_rfl) fun a' w' k1 k2 k3 k4 => ⟨by rw [k1]; simp only [zab, hD], Reads.fail 0 k4 k3 (fun bs h => rS_short (by subst h; exact hlt)) k2, fun _ => k2⟩
  · have d1 : decide (((st.getD []).length : Int) < 2) = false := decide_eq_false (by omega)
    refine wp_seq_k fun K hK => ?_; refine wp_seq_k fun K0 hK0 => ?_; refine zag ?_; (repeat ((with_reducible refine wl_p ?_ ?_ ?_); (· simp [evb, pvb, rnb, kb, hN, h0, l0, fo, d1, dyb, sdb] <;> omega); (· kernel_rfl); try simp only [evb, pvb, rnb, kb, hN, seval, h0, l0, fo, d1])); refine zad ?_; refine hK0 _ _ ?_; try clear hK0 K0
    refine wp_cond_false (by simp only [evb, pvb, rnb, kb, hN, seval]) ?_
    refine wp_skip ?_
    refine hK _ _ ?_
    clear hK K
    cases st with
    | none => simp at hlt
    | some bs =>
    change ¬ bs.length < 2 at hlt
    change Blk w R [.slice oa bs.length cap, .bool false] tR at hb
    change bs.length ≤ cap at hcap
    change zau w G oa bs at hat
    change ldV w _ = .slice oa bs.length cap ∧ _ at l0
    have d2 : decide ((2 : Int) ≤ (bs.length : Int)) = true := decide_eq_true (by omega)
    refine wp_seq_k fun K hK => ?_
    refine wp_ord (fun _ => False) zaO (by kernel_rfl) ?_
    refine wf_load0 rfl (by kernel_rfl) ?_
    (repeat (first | (refine wf_p rfl rfl ?_ ?_ ?_ ?_; (· first | exact rdX_no | (refine ⟨?_⟩; simp [rxb]; done)); (· simp [evb, pvb, rnb, kb, hN, seval, h0, l0, fo, dyb, sdb] <;> omega); (· kernel_rfl); try simp only [evb, pvb, rnb, kb, hN, seval, h0, l0, fo]) | (refine wf_pg rfl rfl rfl ?_ rfl ?_ ?_ ?_ ?_; (· simp [evb, pvb, rnb, kb, hN, seval, h0, l0, fo]; done); (· first | exact rdX_no | (refine ⟨?_⟩; simp [rxb]; done)); (· simp [evb, pvb, rnb, kb, hN, seval, h0, l0, fo, dyb, sdb] <;> omega); (· kernel_rfl); try simp only [evb, pvb, rnb, kb, hN, seval, h0, l0, fo]) | (refine wf_gno rfl rfl rfl ?_ ?_; (· simp [evb, pvb, rnb, kb, hN, seval, h0, l0, fo]; done); try simp only [evb, pvb, rnb, kb, hN, seval, h0, l0, fo]) | (refine wf_gnoU rfl rfl rfl ?_ ?_; (· simp [evb, pvb, rnb, kb, hN, seval, h0, l0, fo]; done); try simp only [evb, pvb, rnb, kb, hN, seval, h0, l0, fo])))
    refine wf_call (fun args w => Tryd.call69 args w) rfl (by simp only [List.map_toArray, List.map_cons, List.map_nil, evb, hN, Nat.reduceLT, Nat.reduceEqDiff, reduceIte]; exact be16_c _ G oa bs cap (hat.chg (Chg.drew (fun _ => False) _) fun _ _ _ h => h) (by omega)) ?_
    rintro _ w1 ⟨rfl, hc1⟩
    have hcd : Chg (fun _ => False) w w1 := (Chg.drew (fun _ => False) w).trans hc1 fun _ _ h => h
    refine ⟨hcd, ?_⟩
    (repeat (first | (refine wf_p rfl rfl ?_ ?_ ?_ ?_; (· first | exact rdX_no | (refine ⟨?_⟩; simp [rxb]; done)); (· simp [evb, pvb, rnb, kb, hN, seval, h0, dyb, sdb] <;> omega); (· kernel_rfl); try simp only [evb, pvb, rnb, kb, hN, seval, h0]) | (refine wf_pg rfl rfl rfl ?_ rfl ?_ ?_ ?_ ?_; (· simp [evb, pvb, rnb, kb, hN, seval, h0]; done); (· first | exact rdX_no | (refine ⟨?_⟩; simp [rxb]; done)); (· simp [evb, pvb, rnb, kb, hN, seval, h0, dyb, sdb] <;> omega); (· kernel_rfl); try simp only [evb, pvb, rnb, kb, hN, seval, h0]) | (refine wf_gno rfl rfl rfl ?_ ?_; (· simp [evb, pvb, rnb, kb, hN, seval, h0]; done); try simp only [evb, pvb, rnb, kb, hN, seval, h0]) | (refine wf_gnoU rfl rfl rfl ?_ ?_; (· simp [evb, pvb, rnb, kb, hN, seval, h0]; done); try simp only [evb, pvb, rnb, kb, hN, seval, h0])))
    refine wf_nil (by decide) ?_
    refine hK _ _ ?_
    clear hK K
    replace hb := hb.chg hcd fun h => h
    replace l0 := hb.ld (i := 0) rfl
    replace hat := hat.chg hcd fun _ _ _ h => h
    refine wp_seq_k fun K hK => ?_; refine zag ?_; (repeat ((with_reducible refine wl_p ?_ ?_ ?_); (· simp [evb, pvb, rnb, kb, hN, h0, l0, fo, d2, dyb, sdb] <;> omega); (· kernel_rfl); try simp only [evb, pvb, rnb, kb, hN, seval, h0, l0, fo, d2]))
    refine wl_store (b := R) (o := 0) (n := 1) (v := .slice (if cap = 2 then oa else oa.map (·.add (2 * 1))) (bs.length - 2) (cap - 2)) (by kernel_rfl) (by simp only [evb, pvb, rnb, kb, hN, seval]) (by simp only [evb, pvb, rnb, kb, hN, seval]; try rfl) hb rfl (by intro y hy; simp only [Value.cells, List.mem_singleton] at hy; subst hy; rfl) (by simp) fun w2 hb2 hc2 => ?_
    refine zad ?_; refine hK _ _ ?_; clear hK K
    have hb3 : Blk w2 R [.slice (if cap = 2 then oa else oa.map (·.add (2 * 1))) (bs.drop 2).length (cap - 2), .bool false] tR := by rw [List.length_drop]; exact hb2
    have hat3 := ((bytes_rest (i := 2) hat hcap).chg hc2 fun g hg _ e => hR (e ▸ hg))
    refine wp_seq_k fun K hK => ?_; refine zag ?_; (repeat ((with_reducible refine wl_p ?_ ?_ ?_); (· simp [evb, pvb, rnb, kb, hN, h0, dyb, sdb] <;> omega); (· kernel_rfl); try simp only [evb, pvb, rnb, kb, hN, seval, h0])); refine zad ?_; refine hK _ _ ?_; clear hK K
    refine wp_ret ⟨by simp [zab, hD], ?_⟩; simp only [evb, kb, hN, seval]
    exact ⟨Reads.done (rS_long (by omega)) ((hcd.mono fun _ _ h => h.elim).trans hc2 fun _ _ h => h) hb3 (by rw [List.length_drop]; omega) hat3 (congrArg (Value.int .i16) (i16_sgn (by omega))), fun h => by rw [Option.bind_some, rS_long (by omega)] at h; cases h⟩
theorem Int16_c : RdF 53 [] (rS 2) (outI .i16) := fun w G R st hS hR hf => (Int16_z w G R st hS hR hf).mono fun _ _ h => h.1
end Go.Proofs.YtgjnllebnkjofaaDoor
namespace Go.Proofs.YtgjnllebnkjofaaDoor
set_option linter.all false
open Go.RowKit
set_option maxRecDepth 10000
set_option maxHeartbeats 1000000
theorem wl_text {P : Program} {ops : Array Oper} {Q : Exit → Act → World → Prop} {a : Act} {w : World} {rest : List Oper} {d : Option Nat} {ty : TypeId} {pos : String} {af : Array Edge} {s t e : TypeId} {x : Operand} {oa : Option Addr} {l : Bs} {cap : Nat} {G : Nat → Prop}
    (hT : ByteSl P s e) (ht : strB P t = true) (hx : a.eval x = .slice oa l.length cap) (hb : zau w G oa l)
    (h : WL P ops Q rest (a.put d (.string ⟨l.toArray⟩)) w) : WL P ops Q (⟨d, .convert s t x, ty, pos, af, none⟩ :: rest) a w := by
  refine zaR rfl ?_ h
  have hr : (convert s t (.slice oa l.length cap)).run P w = .ok (.string ⟨l.toArray⟩) w := by
    cases oa with
    | none =>
      have hl : l = [] := by rcases hb with h | ⟨_, _, _, _, h, _⟩ <;> first | exact h | cases h
      subst hl
      rw [run_convert_bytes_string w s t e none _ cap hT.ht hT.he (strB_eq ht)]
      rfl
    | some p =>
      refine run_convert_bytes_back w s t e p cap l hT.ht hT.he (strB_eq ht) fun j hj => ?_
      exact hb.cells j _ (by simp [zaM, hj])
  simp only [execOp, Sem.run_bind, hx, hr]; rfl
section
variable {a : Act} {w : World} {Q : Exit → Act → World → Prop} {ops : Array Oper} {rest : List Oper} {d : Option Nat} {ty : TypeId} {pos : String} {af : Array Edge} {ts : Array TypeId}
theorem wl_rd {α : Type} {f : FuncId} {xs : Array Operand} {args : List Value} {sem : Bs → Option (α × Bs)} {out : World → World → (Nat → Prop) → α → Value → Prop} {G : Nat → Prop} {R : Nat} {st : Option Bs}
    (hf : Enters Tryd.prog f) (hc : RdF f args sem out) (hx : xs.map a.eval = (.pointer (some ⟨R, 0, none⟩) :: args).toArray) (hS : RdS w G R st) (hR : ¬ G R) (hG : ∀ k, w.heap.size ≤ k → G k)
    (h : ∀ v w', Reads w G R st sem out v w' → WL Tryd.prog ops Q rest (a.put d v) w') :
    WL Tryd.prog ops Q (⟨d, .call { callee := .value (.func f), args := xs, argTypes := ts }, ty, pos, af, none⟩ :: rest) a w :=
  zaC hf (by rw [hx]; exact hc w G R st hS hR hG) h
end
theorem Reads.two {α β : Type} {w w1 w2 w3 : World} {G : Nat → Prop} {R : Nat} {st : Option Bs} {s1 : Bs → Option (α × Bs)} {o1 : World → World → (Nat → Prop) → α → Value → Prop} {v1 v2 v : Value} {s2 : α → Bs → Option (β × Bs)} {o2 o : World → World → (Nat → Prop) → β → Value → Prop} {x : α} {y : β}
    (h1 : Reads w G R st s1 o1 v1 w1) (hx : ∀ y, st.bind s1 = some y → x = y.1) (h2 : Reads w1 G R ((st.bind s1).map (·.2)) (s2 x) o2 v2 w2) (hy : ∀ z, ((st.bind s1).map (·.2)).bind (s2 x) = some z → y = z.1)
    (hc : Chg (fun k => w2.heap.size ≤ k) w2 w3) (ho : o w w3 G y v) : Reads w G R st (fun bs => (s1 bs).bind fun y => s2 y.1 y.2) o v w3 := by
  have e : st.bind (fun bs => (s1 bs).bind fun y => s2 y.1 y.2) = ((st.bind s1).map (·.2)).bind (s2 x) := by
    cases st with
    | none => rfl
    | some bs =>
      simp only [Option.bind_some]
      cases h : s1 bs with
      | none => rfl
      | some y =>
        simp only [Option.bind_some, Option.map_some]
        rw [hx y h]
  have hlt := h2.rd.lt
  have c12 : Chg (fun k => k = R) w w2 := h1.chg.trans h2.chg fun _ _ h => h
  refine ⟨c12.trans hc fun n hn hk => ?_, by rw [e]; exact h2.rd.stay (Stay.of hc fun k _ hk => by omega) (hc.block R hlt (by omega)), y, ho, fun z hz => hy z (by rw [← e]; exact hz)⟩
  have := c12.size
  omega
theorem Reads.map {α β : Type} {w w' : World} {G : Nat → Prop} {R : Nat} {st : Option Bs} {sem : Bs → Option (α × Bs)} {o1 : World → World → (Nat → Prop) → α → Value → Prop} {v v' : Value} (g : α → β) {o2 : World → World → (Nat → Prop) → β → Value → Prop}
    (h : Reads w G R st sem o1 v w') (ho : ∀ x, o1 w w' G x v → o2 w w' G (g x) v') : Reads w G R st (fun bs => (sem bs).map fun x => (g x.1, x.2)) o2 v' w' := by
  have e : st.bind (fun bs => (sem bs).map fun x => (g x.1, x.2)) = (st.bind sem).map fun x => (g x.1, x.2) := by
    cases st <;> rfl
  refine ⟨h.chg, ?_, ?_⟩
  · rw [e, Option.map_map]; exact h.rd
  · obtain ⟨x, k1, k2⟩ := h.val
    refine ⟨g x, ho x k1, fun y hy => ?_⟩
    rw [e] at hy
    cases hb : st.bind sem with
    | none => rw [hb] at hy; cases hy
    | some z =>
      rw [hb] at hy
      simp only [Option.map_some, Option.some.injEq] at hy
      rw [← hy, k2 z hb]
theorem Reads.sem {α : Type} {w w' : World} {G : Nat → Prop} {R : Nat} {st : Option Bs} {s1 s2 : Bs → Option (α × Bs)} {o : World → World → (Nat → Prop) → α → Value → Prop} {v : Value} (h : Reads w G R st s1 o v w') (e : ∀ bs, s1 bs = s2 bs) : Reads w G R st s2 o v w' := by
  have : s1 = s2 := funext e
  rw [← this]; exact h
theorem Span_c (l : Int) : RdF 71 [.int .i64 l] (rSpan l) outB := by
  intro w G R st hS hR hf
  obtain ⟨oa, cap, hb, hcap, hat⟩ := hS.blk
  have l0 := hb.ld (i := 0) rfl
  refine zaA Tryd.func71 rfl rfl Tryd.ntmps71 (by simp) ?_
  intro a hN hD ha
  have h0 : get a 0 = .pointer (some ⟨R, 0, none⟩) := ha 0 _ rfl
  have h1 : get a 1 = .int .i64 l := ha 1 _ rfl
  refine wp_seq_k fun K hK => ?_; refine zag ?_; (repeat ((with_reducible refine wl_p ?_ ?_ ?_); (· simp [evb, pvb, rnb, kb, hN, dyb, sdb] <;> omega); (· kernel_rfl); try simp only [evb, pvb, rnb, kb, hN, seval])); refine zad ?_; refine hK _ _ ?_; clear hK K
  have fail : (((st.getD []).length : Int) < l ∨ l < 0) → ∀ bs, st = some bs → rSpan l bs = none := by
    rintro h bs rfl
    change (bs.length : Int) < l ∨ _ at h
    unfold rSpan take?
    split
    · rw [if_neg (by omega)]
    · rfl
  by_cases hlt : ((st.getD []).length : Int) < l ∨ l < 0
  · refine wp_seq_k fun K hK => ?_; refine wp_seq_k fun K0 hK0 => ?_
    by_cases g1 : ((st.getD []).length : Int) < l
    · have d1 : decide (((st.getD []).length : Int) < l) = true := decide_eq_true g1
      refine zag ?_; (repeat (first | ((with_reducible refine wl_p ?_ ?_ ?_); (· simp [evb, pvb, rnb, kb, hN, seval, h0, h1, l0, fo, d1, dyb, sdb] <;> omega); (· kernel_rfl); try simp only [evb, pvb, rnb, kb, hN, seval, h0, h1, l0, fo, d1]) | ((with_reducible apply zal); (· exact rfl); (· exact rfl); (· simp [evb, pvb, rnb, kb, hN, seval, h0, h1, l0, fo, d1]; done); try simp only [evb, pvb, rnb, kb, hN, seval, h0, h1, l0, fo, d1]) | ((with_reducible apply zao); (· exact rfl); (· exact rfl); (· simp [evb, pvb, rnb, kb, hN, seval, h0, h1, l0, fo, d1]; done); try simp only [evb, pvb, rnb, kb, hN, seval, h0, h1, l0, fo, d1]) | ((with_reducible apply zap); (· exact rfl); (· exact rfl); (· simp [evb, pvb, rnb, kb, hN, seval, h0, h1, l0, fo, d1]; done); try simp only [evb, pvb, rnb, kb, hN, seval, h0, h1, l0, fo, d1]))); refine zad ?_; refine hK0 _ _ ?_; try clear hK0 K0
      refine wp_cond_true (by simp only [evb, pvb, rnb, kb, hN, seval]) ?_
      refine rd_fail (by simp only [zai]; exact hN) (by simp only [evb, pvb, rnb, kb, hN, seval, h0]) hb (by kernel_rfl) fun a' w' k1 k2 k3 k4 => ⟨by rw [k1]; simp only [zab, hD], Reads.fail [] k4 k3 (fail hlt) ⟨none, 0, k2, Nat.le_refl _, .inl rfl⟩⟩
    · have d1 : decide (((st.getD []).length : Int) < l) = false := decide_eq_false g1
      have d2 : decide (l < 0) = true := decide_eq_true (by omega)
      refine zag ?_; (repeat (first | ((with_reducible refine wl_p ?_ ?_ ?_); (· simp [evb, pvb, rnb, kb, hN, seval, h0, h1, l0, fo, d1, d2, dyb, sdb] <;> omega); (· kernel_rfl); try simp only [evb, pvb, rnb, kb, hN, seval, h0, h1, l0, fo, d1, d2]) | ((with_reducible apply zal); (· exact rfl); (· exact rfl); (· simp [evb, pvb, rnb, kb, hN, seval, h0, h1, l0, fo, d1, d2]; done); try simp only [evb, pvb, rnb, kb, hN, seval, h0, h1, l0, fo, d1, d2]) | ((with_reducible apply zao); (· exact rfl); (· exact rfl); (· simp [evb, pvb, rnb, kb, hN, seval, h0, h1, l0, fo, d1, d2]; done); try simp only [evb, pvb, rnb, kb, hN, seval, h0, h1, l0, fo, d1, d2]) | ((with_reducible apply zap); (· exact rfl); (· exact rfl); (· simp [evb, pvb, rnb, kb, hN, seval, h0, h1, l0, fo, d1, d2]; done); try simp only [evb, pvb, rnb, kb, hN, seval, h0, h1, l0, fo, d1, d2]))); refine zad ?_; refine hK0 _ _ ?_; try clear hK0 K0
      refine wp_cond_true (by simp only [evb, pvb, rnb, kb, hN, seval]) ?_
      refine rd_fail (by simp only [zai]; exact hN) (by simp only [evb, pvb, rnb, kb, hN, seval, h0]) hb (by kernel_rfl) fun a' w' k1 k2 k3 k4 => ⟨by rw [k1]; simp only [zab, hD], Reads.fail [] k4 k3 (fail hlt) ⟨none, 0, k2, Nat.le_refl _, .inl rfl⟩⟩
  · have d1 : decide (((st.getD []).length : Int) < l) = false := decide_eq_false (by omega)
    have d2 : decide (l < 0) = false := decide_eq_false (by omega)
    have d3 : decide (0 ≤ l) = true := decide_eq_true (by omega)
    have d4 : decide (l ≤ (cap : Int)) = true := decide_eq_true (by omega)
    have d5 : decide (l ≤ (l.toNat : Int)) = true := decide_eq_true (by omega)
    have d6 : decide (l ≤ ((st.getD []).length : Int)) = true := decide_eq_true (by omega)
    refine wp_seq_k fun K hK => ?_; refine wp_seq_k fun K0 hK0 => ?_; refine zag ?_; (repeat (first | ((with_reducible refine wl_p ?_ ?_ ?_); (· simp [evb, pvb, rnb, kb, hN, seval, h0, h1, l0, fo, d1, d2, dyb, sdb] <;> omega); (· kernel_rfl); try simp only [evb, pvb, rnb, kb, hN, seval, h0, h1, l0, fo, d1, d2]) | ((with_reducible apply zal); (· exact rfl); (· exact rfl); (· simp [evb, pvb, rnb, kb, hN, seval, h0, h1, l0, fo, d1, d2]; done); try simp only [evb, pvb, rnb, kb, hN, seval, h0, h1, l0, fo, d1, d2]) | ((with_reducible apply zao); (· exact rfl); (· exact rfl); (· simp [evb, pvb, rnb, kb, hN, seval, h0, h1, l0, fo, d1, d2]; done); try simp only [evb, pvb, rnb, kb, hN, seval, h0, h1, l0, fo, d1, d2]) | ((with_reducible apply zap); (· exact rfl); (· exact rfl); (· simp [evb, pvb, rnb, kb, hN, seval, h0, h1, l0, fo, d1, d2]; done); try simp only [evb, pvb, rnb, kb, hN, seval, h0, h1, l0, fo, d1, d2]))); refine zad ?_; refine hK0 _ _ ?_; try clear hK0 K0
    refine wp_cond_false (by simp only [evb, pvb, rnb, kb, hN, seval]) ?_
    refine wp_skip ?_
    refine hK _ _ ?_
    clear hK K
    refine wp_seq_k fun K hK => ?_; refine zag ?_; (repeat ((with_reducible refine wl_p ?_ ?_ ?_); (· simp [evb, pvb, rnb, kb, hN, h0, h1, l0, fo, d3, d4, d5, dyb, sdb] <;> omega); (· kernel_rfl); try simp only [evb, pvb, rnb, kb, hN, seval, h0, h1, l0, fo, d3, d4, d5])); refine zad ?_; refine hK _ _ ?_; clear hK K
    refine wp_seq_k fun K hK => ?_; refine zag ?_; (repeat ((with_reducible refine wl_p ?_ ?_ ?_); (· simp [evb, pvb, rnb, kb, hN, h0, h1, l0, fo, d3, d6, dyb, sdb] <;> omega); (· kernel_rfl); try simp only [evb, pvb, rnb, kb, hN, seval, h0, h1, l0, fo, d3, d6]))
    refine wl_store (b := R) (o := 0) (n := 1) (v := .slice (if cap = l.toNat then oa else oa.map (·.add (l.toNat * 1))) ((st.getD []).length - l.toNat) (cap - l.toNat)) (by kernel_rfl) (by simp only [evb, pvb, rnb, kb, hN, seval]) (by simp only [evb, pvb, rnb, kb, hN, seval]; try rfl) hb rfl (by intro y hy; simp only [Value.cells, List.mem_singleton] at hy; subst hy; rfl) (by simp) fun w2 hb2 hc2 => ?_
    refine zad ?_; refine hK _ _ ?_; clear hK K
    refine wp_seq_k fun K hK => ?_; refine zag ?_; (repeat ((with_reducible refine wl_p ?_ ?_ ?_); (· simp [evb, pvb, rnb, kb, hN, h0, dyb, sdb] <;> omega); (· kernel_rfl); try simp only [evb, pvb, rnb, kb, hN, seval, h0])); refine zad ?_; refine hK _ _ ?_; clear hK K
    refine wp_ret ⟨by simp [zab, hD], ?_⟩; simp only [evb, kb, hN, seval]
    have hx : ∀ g, G g → g < w.heap.size → ¬ g = R := fun g hg _ e => hR (e ▸ hg)
    cases st with
    | none =>
      have hl0 : l = 0 := by change ¬ (((0 : Nat) : Int) < l ∨ l < 0) at hlt; omega
      subst hl0
      refine ⟨hc2, ?_, [], ⟨oa, 0, rfl, Nat.le_refl _, .inl rfl⟩, fun y h => by cases h⟩
      have e : (none : Option Bs).bind (rSpan 0) = none := rfl
      rw [e]
      have ho : oa = none ∧ cap = 0 := by
        have := hS.blk
        have h3 : Blk w R [.slice none 0 0, .bool true] tR := hS
        have := (hb.inj h3).1
        simp at this
        exact ⟨this.1, this.2⟩
      obtain ⟨rfl, rfl⟩ := ho
      exact hb2
    | some bs =>
      change ¬ ((bs.length : Int) < l ∨ l < 0) at hlt
      change bs.length ≤ cap at hcap
      change zau w G oa bs at hat
      have hat3 := ((bytes_rest (i := l.toNat) hat hcap).chg hc2 hx)
      have hb3 : Blk w2 R [.slice (if cap = l.toNat then oa else oa.map (·.add (l.toNat * 1))) (bs.drop l.toNat).length (cap - l.toNat), .bool false] tR := by rw [List.length_drop]; exact hb2
      have e : (bs.take l.toNat).length = l.toNat := by rw [List.length_take]; omega
      refine Reads.done (x := bs.take l.toNat) (by unfold rSpan take?; rw [if_pos (by omega), if_pos (by omega)]) hc2 hb3 (by rw [List.length_drop]; omega) hat3 ⟨oa, l.toNat, by rw [e], by rw [e]; exact Nat.le_refl _, (hat.take _).chg hc2 hx⟩
end Go.Proofs.YtgjnllebnkjofaaDoor
namespace Go.Proofs.YtgjnllebnkjofaaDoor
set_option linter.all false
open Go.RowKit
set_option maxRecDepth 10000
set_option maxHeartbeats 8000000
end Go.Proofs.YtgjnllebnkjofaaDoor
namespace Go.Proofs.YtgjnllebnkjofaaDoor
set_option linter.all false
open Go.RowKit
set_option maxRecDepth 10000
set_option maxHeartbeats 1000000
theorem i64_sm (n : Int) (h : -9223372036854775808 ≤ n ∧ n < 9223372036854775808) : IntKind.i64.wrap n = n := by simp [IntKind.wrap, IntKind.bits, IntKind.signed]; split <;> omega
theorem rS_range {k : Nat} {n : Int} {bs r : Bs} (h : rS k bs = some (n, r)) : -(256 ^ k : Int) ≤ 2 * n ∧ 2 * n < 256 ^ k := by
  unfold rS at h
  cases ht : take? k bs with
  | none => rw [ht] at h; cases h
  | some x =>
    rw [ht] at h
    simp only [Option.map_some, Option.some.injEq, Prod.mk.injEq] at h
    obtain ⟨rfl, _⟩ := h
    have hx : x.1.length = k := by
      unfold take? at ht
      split at ht
      · cases ht; rw [List.length_take]; omega
      · cases ht
    have hl := unbe_lt' x.1
    rw [hx] at hl
    have hc : ((256 ^ k : Nat) : Int) = (256 : Int) ^ k := Int.natCast_pow 256 k
    have h' : (unbe x.1 : Int) < (256 : Int) ^ k := by rw [← hc]; exact Int.ofNat_lt.2 hl
    unfold sgn
    split <;> constructor <;> omega
end Go.Proofs.YtgjnllebnkjofaaDoor
namespace Go.Proofs.YtgjnllebnkjofaaDoor
set_option linter.all false
open Go.RowKit
set_option maxRecDepth 10000
set_option maxHeartbeats 1000000
theorem fresh_on {w w1 : World} {X G : Nat → Prop} (c : Chg X w w1) (hf : ∀ k, w.heap.size ≤ k → G k) : ∀ k, w1.heap.size ≤ k → G k := fun k hk => hf k (Nat.le_trans c.size hk)
theorem String_c : RdF 57 [] (rStr false) outS := by
  intro w G R st hS hR hf
  refine zaA Tryd.func57 rfl rfl Tryd.ntmps57 (by simp) ?_
  intro a hN hD ha
  have h0 : get a 0 = .pointer (some ⟨R, 0, none⟩) := ha 0 _ rfl
  refine wp_seq_k fun K hK => ?_; refine zag ?_; (repeat ((with_reducible refine wl_p ?_ ?_ ?_); (· simp [evb, pvb, rnb, kb, hN, dyb, sdb] <;> omega); (· kernel_rfl); try simp only [evb, pvb, rnb, kb, hN, seval])); refine zad ?_; refine hK _ _ ?_; clear hK K
  refine wp_seq_k fun K hK => ?_; refine zag ?_; (repeat ((with_reducible refine wl_p ?_ ?_ ?_); (· simp [evb, pvb, rnb, kb, hN, h0, dyb, sdb] <;> omega); (· kernel_rfl); try simp only [evb, pvb, rnb, kb, hN, seval, h0]))
  refine wl_rd (fun args w => Tryd.call53 args w) Int16_c (by simp only [List.map_toArray, List.map_cons, List.map_nil]; simp only [evb, pvb, rnb, kb, hN, seval, h0]) hS hR hf ?_
  intro v1 w1 hr1
  obtain ⟨x, rfl, k2⟩ := hr1.val
  (repeat ((with_reducible refine wl_p ?_ ?_ ?_); (· simp [evb, pvb, rnb, kb, hN, dyb, sdb] <;> omega); (· kernel_rfl); try simp only [evb, pvb, rnb, kb, hN, seval])); refine zad ?_; refine hK _ _ ?_; clear hK K
  refine wp_seq_k fun K hK => ?_; refine zag ?_; (repeat ((with_reducible refine wl_p ?_ ?_ ?_); (· simp [evb, pvb, rnb, kb, hN, h0, dyb, sdb] <;> omega); (· kernel_rfl); try simp only [evb, pvb, rnb, kb, hN, seval, h0]))
  refine wl_rd (fun args w => Tryd.call71 args w) (Span_c (IntKind.i64.wrap x)) (by simp only [List.map_toArray, List.map_cons, List.map_nil]; simp only [evb, pvb, rnb, kb, hN, seval, h0]) hr1.rd hR (fresh_on hr1.chg hf) ?_
  intro v2 w2 hr2
  obtain ⟨l, ⟨oa, cap, rfl, hl, hb⟩, k4⟩ := hr2.val
  refine wl_text (cap := cap) bT (by kernel_rfl) (by simp only [evb, pvb, rnb, kb, hN, seval]) hb ?_
  (repeat ((with_reducible refine wl_p ?_ ?_ ?_); (· simp [evb, pvb, rnb, kb, hN, dyb, sdb] <;> omega); (· kernel_rfl); try simp only [evb, pvb, rnb, kb, hN, seval])); refine zad ?_; refine hK _ _ ?_; clear hK K; refine wp_ret ⟨by simp [zab, hD], ?_⟩; simp only [evb, kb, hN, seval]
  exact (Reads.two (s2 := fun x => rSpan (IntKind.i64.wrap x)) hr1 k2 hr2 k4 (Chg.refl _ _) rfl).sem (fun bs => by
    unfold rStr
    rw [if_neg (by simp)]
    cases h : rS 2 bs with
    | none => rfl
    | some y =>
      have hr := rS_range h
      simp only [Option.bind_some]
      rw [i64_sm y.1 (by omega)])
end Go.Proofs.YtgjnllebnkjofaaDoor
namespace Go.Proofs.YtgjnllebnkjofaaDoor
set_option linter.all false
open Go.RowKit
set_option maxRecDepth 10000
set_option maxHeartbeats 1000000
section
variable {w w1 w2 : World} {G : Nat → Prop} {R : Nat} {st : Option Bs} {s1 : Bs → Option (Int × Bs)} {x x' : Int} {v : Value}
end
abbrev gE : Nat := 1
def ErrW (w : World) : Prop := ∃ t x, ldV w (.pointer (some ⟨gE, 0, none⟩)) = .iface t x ∧ ldOK w (.pointer (some ⟨gE, 0, none⟩)) = true
theorem Complete_c {w : World} {G : Nat → Prop} {R : Nat} {st : Option Bs} (hS : RdS w G R st) (hE : ErrW w) : zaD Tryd.prog 54 #[.pointer (some ⟨R, 0, none⟩)] w fun v w' => w' = w ∧ (st = none → ∃ t x, v = .iface t x) ∧ (st ≠ none → v = .nilIface) := by
  obtain ⟨oa, cap, hb, _⟩ := hS.blk
  have l1 := hb.ld (i := 1) rfl
  obtain ⟨t, x, le⟩ := hE
  refine zaA Tryd.func54 rfl rfl Tryd.ntmps54 (by simp) ?_
  intro a hN hD ha
  have h0 : get a 0 = .pointer (some ⟨R, 0, none⟩) := ha 0 _ rfl
  refine wp_seq_k fun K hK => ?_; refine zag ?_; (repeat ((with_reducible refine wl_p ?_ ?_ ?_); (· simp [evb, pvb, rnb, kb, hN, dyb, sdb] <;> omega); (· kernel_rfl); try simp only [evb, pvb, rnb, kb, hN, seval])); refine zad ?_; refine hK _ _ ?_; clear hK K
  cases st with
  | none =>
    change ldV w _ = .bool true ∧ _ at l1
    refine wp_seq_k fun K hK => ?_; refine wp_seq_k fun K0 hK0 => ?_; refine zag ?_; (repeat ((with_reducible refine wl_p ?_ ?_ ?_); (· simp [evb, pvb, rnb, kb, hN, h0, l1, fo, dyb, sdb] <;> omega); (· kernel_rfl); try simp only [evb, pvb, rnb, kb, hN, seval, h0, l1, fo])); refine zad ?_; refine hK0 _ _ ?_; try clear hK0 K0
    refine wp_cond_true (by simp only [evb, pvb, rnb, kb, hN, seval]) ?_
    refine wp_seq_k fun K hK => ?_; refine zag ?_; (repeat ((with_reducible refine wl_p ?_ ?_ ?_); (· simp [evb, pvb, rnb, kb, hN, le, dyb, sdb] <;> omega); (· kernel_rfl); try simp only [evb, pvb, rnb, kb, hN, seval, le])); refine zad ?_; refine hK _ _ ?_; clear hK K; refine wp_ret ⟨by simp [zab, hD], ?_⟩; simp only [evb, kb, hN, seval]
    exact ⟨by first | rfl | trivial, fun _ => ⟨t, x, by first | rfl | trivial⟩, fun h => absurd (by first | rfl | trivial) h⟩
  | some bs =>
    change ldV w _ = .bool false ∧ _ at l1
    refine wp_seq_k fun K hK => ?_; refine wp_seq_k fun K0 hK0 => ?_; refine zag ?_; (repeat ((with_reducible refine wl_p ?_ ?_ ?_); (· simp [evb, pvb, rnb, kb, hN, h0, l1, fo, dyb, sdb] <;> omega); (· kernel_rfl); try simp only [evb, pvb, rnb, kb, hN, seval, h0, l1, fo])); refine zad ?_; refine hK0 _ _ ?_; try clear hK0 K0
    refine wp_cond_false (by simp only [evb, pvb, rnb, kb, hN, seval]) ?_
    refine wp_skip ?_
    refine hK _ _ ?_
    clear hK K
    refine wp_seq_k fun K hK => ?_; refine zag ?_; (repeat ((with_reducible refine wl_p ?_ ?_ ?_); (· simp [evb, pvb, rnb, kb, hN, dyb, sdb] <;> omega); (· kernel_rfl); try simp only [evb, pvb, rnb, kb, hN, seval])); refine zad ?_; refine hK _ _ ?_; clear hK K; refine wp_ret ⟨by simp [zab, hD], ?_⟩; simp only [evb, kb, hN, seval]
    refine ⟨by first | rfl | trivial, fun h => ?_, fun _ => by first | rfl | trivial⟩
    first | (cases h; done) | exact h.elim | simp at h
end Go.Proofs.YtgjnllebnkjofaaDoor
namespace Go.Proofs.YtgjnllebnkjofaaDoor
set_option linter.all false
open Go.RowKit
set_option maxRecDepth 10000
set_option maxHeartbeats 1000000
section
variable {P : Program} {ops : Array Oper} {X : Nat → Prop} {w0 : World} {Q : Act → World → Prop} {i : Nat} {a : Act} {w : World} {d : Option Nat} {ty : TypeId} {pos : String} {af : Array Edge}
end
end Go.Proofs.YtgjnllebnkjofaaDoor

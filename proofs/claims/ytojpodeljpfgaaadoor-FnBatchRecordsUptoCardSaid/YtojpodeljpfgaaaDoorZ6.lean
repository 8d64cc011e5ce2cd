import Derived.Test.YtojpodeljpfgaaaDoorZ5
import Derived.Test.YtojpodeljpfgaaaDoorZK
/-
What the proofs of the laws rest on, part Z6.
-/
namespace Go.Proofs.YtojpodeljpfgaaaDoor
set_option linter.all false
open Go.RowKit
set_option maxRecDepth 10000
set_option maxHeartbeats 2000000
section
variable {P : Program} {ops : Array Oper} {w0 : World} {Q : Act → World → Prop} {a : Act} {w : World} {r : List (Bool × Nat)} {d : Option Nat} {i : Nat} {ty : TypeId} {pos : String} {af : Array Edge}
theorem ws_pX {o : Op} (hi : ops[i]? = some ⟨d, o, ty, pos, af, none⟩) (hd : dyn w0 a.eval o = true) (hc : opB P o = true) (h : zao P ops (fun w' => Chg (fun _ => False) w0 w') Q r (a.put d (pv P w0 a.eval o)) w) :
    zao P ops (fun w' => Chg (fun _ => False) w0 w') Q ((true, i) :: r) a w := ws_float _ hi (fun w' c => wf_run (rdX_no (ρ := a.eval) (o := o)).out hd hc w' c) h
theorem ws_pgX {o : Op} {g : Nat × Bool} {og : Oper} {t : Nat} (hi : ops[i]? = some ⟨d, o, ty, pos, af, some g⟩) (ho : ops[g.1]? = some og) (ht : og.dst = some t) (hv : get a t = .bool g.2) (hd : dyn w0 a.eval o = true) (hc : opB P o = true)
    (h : zao P ops (fun w' => Chg (fun _ => False) w0 w') Q r (a.put d (pv P w0 a.eval o)) w) : zao P ops (fun w' => Chg (fun _ => False) w0 w') Q ((true, i) :: r) a w :=
  ws_gyes _ hi (yielded_get ho ht hv) (fun w' c => wf_run (rdX_no (ρ := a.eval) (o := o)).out hd hc w' c) h
theorem ws_gnoX {op : Op} {g : Nat × Bool} {f : Bool} {o : Oper} {t : Nat} (hi : ops[i]? = some ⟨d, op, ty, pos, af, some g⟩) (ho : ops[g.1]? = some o) (hd : o.dst = some t) (hv : get a t = .bool (!g.2))
    (h : (hS : Chg (fun _ => False) w0 w) → zao P ops (fun w' => Chg (fun _ => False) w0 w') Q r (a.put d undef) w) (hS : Chg (fun _ => False) w0 w := by assumption) : zao P ops (fun w' => Chg (fun _ => False) w0 w') Q ((f, i) :: r) a w := ws_gnoB hi ho hd hv hS (h hS)
theorem ws_aggX {x : Operand} {t b o n : Nat} {l : List Value} {T : TypeId} (ht : aggB P t = true) (hs : sizeB P t n = true) (hi : ops[i]? = some ⟨d, .load t x, ty, pos, af, none⟩) (hx : a.eval x = .pointer (some ⟨b, o, none⟩))
    (hb : Blk w0 b l T) (hn : o + n ≤ l.length) (h : zao P ops (fun w' => Chg (fun _ => False) w0 w') Q r (a.put d (zax ((l.drop o).take n))) w) : zao P ops (fun w' => Chg (fun _ => False) w0 w') Q ((true, i) :: r) a w :=
  ws_loadAgg ht hs hi hx (fun _ c => hb.chg c fun h => h) hn h
end
def NewB (w : World) (l : Bs) (v : Value) (w' : World) : Prop := Own eB w' w.heap.size v l ∧ Chg (fun _ => False) w w'
theorem turned_c (n : Int) (hn : -9223372036854775808 ≤ n ∧ n < 9223372036854775808) (w : World) : zan Tryd.prog 44 #[.int .i64 n] w fun v w' => v = .int .u64 (zz n) ∧ w' = w := by
  refine zaj Tryd.func44 rfl rfl Tryd.ntmps44 (by simp) ?_
  intro a hN hD ha
  have h0 : get a 0 = .int .i64 n := ha 0 _ rfl
  refine wp_seq_k fun K hK => ?_; refine zac ?_; (repeat ((with_reducible refine zah ?_ ?_ ?_); (· simp [evb, pvb, rnb, kb, hN, dyb, sdb] <;> omega); (· kernel_rfl); try simp only [evb, pvb, rnb, kb, hN, seval])); refine zaa ?_; refine hK _ _ ?_; clear hK K
  refine wp_seq_k fun K hK => ?_; refine zac ?_; (repeat ((with_reducible refine zah ?_ ?_ ?_); (· simp [evb, pvb, rnb, kb, hN, h0, dyb, sdb] <;> omega); (· kernel_rfl); try simp only [evb, pvb, rnb, kb, hN, seval, h0]))
  refine wl_xor (k := .u64) (m := shlI .u64 1 (IntKind.u64.wrap n)) (n := IntKind.u64.wrap (n / 9223372036854775808)) (by simp only [evb, pvb, rnb, kb, hN, seval]; try rfl) (by simp only [evb, pvb, rnb, kb, hN, seval]; try rfl) ?_
  rw [turn64 hn]
  (repeat ((with_reducible refine zah ?_ ?_ ?_); (· simp [evb, pvb, rnb, kb, hN, dyb, sdb] <;> omega); (· kernel_rfl); try simp only [evb, pvb, rnb, kb, hN, seval])); refine zaa ?_; refine hK _ _ ?_; clear hK K; refine wp_ret ⟨by simp [zab, hD], ?_⟩; simp only [evb, kb, hN, seval]
  exact ⟨by first | rfl | trivial, by first | rfl | trivial⟩
theorem uvarAux_le : ∀ (k n : Nat), n < 128 → zat k n = [UInt8.ofNat n]
  | 0, n, _ => rfl
  | k + 1, n, h => by unfold zat; rw [if_pos h]
theorem or128_u8 (x : Nat) : Value.int .u8 ((x : Int) % 128 + 128) = byteV (UInt8.ofNat (x % 128 + 128)) := by
  rw [← bvU _ (by omega)]; congr 1
theorem suvarint_c (n : Nat) (hn : n < 18446744073709551616) (w : World) : zan Tryd.prog 43 #[.int .u64 n] w (NewB w (uvl n)) := by
  refine zaj Tryd.func43 rfl rfl Tryd.ntmps43 (by simp) ?_
  intro a hN hD ha
  have h0 : get a 0 = .int .u64 n := ha 0 _ rfl
  refine wp_seq_k fun K hK => ?_; refine zac ?_; refine zaF ?_; refine zaa ?_; refine hK _ _ ?_; clear hK K
  refine wp_seq_k fun K hK => ?_; refine zac ?_; refine zaF ?_; refine zaa ?_; refine hK _ _ ?_; clear hK K
  refine wp_seq_k fun K1 hK1 => ?_
  refine wp_block ?_
  refine wp_loop (fun a' w' => ∃ (k x : Nat) (acc : Bs) (v : Value), a'.tmps.size = 20 ∧ a'.defers = [] ∧ get a' 0 = .int .u64 x ∧ get a' 3 = v ∧ x < 2 * 128 ^ k ∧ x < 18446744073709551616 ∧ acc ++ zat k x = uvl n ∧ acc.length + k = 9 ∧ Own eB w' w.heap.size v acc ∧ Chg (fun g => w.heap.size ≤ g) w w')
    (fun a' _ => (intOf (get a' 0)).toNat) ⟨9, n, [], .slice none 0 0, by simp only [evb, kb, hN, seval], by simp [zab, hD], by simp only [evb, kb, hN, seval, h0], by simp only [evb, kb, hN, seval], by omega, hn, rfl, rfl, Own.nil _ _ _, Chg.refl _ _⟩ ?_
  clear hN hD h0
  rintro a1 w1 ⟨k, x, acc, v, hN, hD, h0, h3, hx, hx2, hacc, hk, hown, hc⟩
  refine wp_seq_k fun K hK => ?_; refine wp_seq_k fun K2 hK2 => ?_; refine zac ?_; (repeat (first | ((with_reducible refine zav ?_ ?_ ?_ ?_); (· exact rfl); (· simp [evb, kb, hN, h0, dyb, sdb] <;> omega); (· kernel_rfl); try simp only [evb, kb, hN, seval, pvb, h0]) | ((with_reducible refine zag ?_ ?_ ?_); rotate_left 1; (· simp [evb, kb, hN, h0, sdb]); rotate_left 1; (· kernel_rfl); try simp only [evb, kb, hN, seval, pvb, h0]) | ((with_reducible first | refine zai ?_ ?_ ?_ | refine zad ?_ ?_ | refine zae ?_ ?_ ?_) <;> (first | (with_reducible refine zal ?_; try simp only [evb, kb, hN, seval, pvb, h0]) | (simp [evb, kb, hN, h0, sdb] <;> omega))))); refine zaa ?_; refine hK2 _ _ ?_; try clear hK2 K2
  by_cases hlt : 127 < x
  · have d1 : decide ((127 : Int) < (x : Int)) = true := decide_eq_true (by omega)
    refine wp_cond_true (by simp [evb, kb, hN, d1, sdb]) ?_
    refine wp_skip (hK _ _ ?_)
    clear hK K
    refine wp_block ?_
    have e8 : IntKind.u8.wrap ((x : Int) % 128) = (x : Int) % 128 := by rw [wrap_u8]; omega
    refine wp_seq_k fun K2 hK2 => ?_; refine zac ?_
    (repeat (first | ((with_reducible refine zav ?_ ?_ ?_ ?_); (· exact rfl); (· simp [evb, kb, hN, h0, h3, e8, dyb, sdb] <;> omega); (· kernel_rfl); try simp only [evb, kb, hN, seval, pvb, h0, h3, e8]) | ((with_reducible refine zag ?_ ?_ ?_); rotate_left 1; (· simp [evb, kb, hN, h0, h3, e8, sdb]); rotate_left 1; (· kernel_rfl); try simp only [evb, kb, hN, seval, pvb, h0, h3, e8]) | ((with_reducible first | refine zai ?_ ?_ ?_ | refine zad ?_ ?_ | refine zae ?_ ?_ ?_) <;> (first | (with_reducible refine zal ?_; try simp only [evb, kb, hN, seval, pvb, h0, h3, e8]) | (simp [evb, kb, hN, h0, h3, e8, sdb] <;> omega)))))
    have hs1 := hc.size
    have hap := uvarAux_len k x
    refine zaO [UInt8.ofNat (x % 128 + 128)] (by simp [-UInt8.ofNat_add, evb, kb, hN, seval, IntKind.bits, List.zipIdx, or128_u8]) rfl (by simp) (by simp [evb, kb, hN, sdb]) (by simp [zaf, hN]) hown (by unfold LIM; simp only [List.length_singleton]; omega) hs1 ?_
    intro v2 w2 happ
    (repeat (first | ((with_reducible refine zav ?_ ?_ ?_ ?_); (· exact rfl); (· simp [evb, kb, hN, dyb, sdb] <;> omega); (· kernel_rfl); try simp only [evb, kb, hN, seval, pvb]) | ((with_reducible refine zag ?_ ?_ ?_); rotate_left 1; (· simp [evb, kb, hN, sdb]); rotate_left 1; (· kernel_rfl); try simp only [evb, kb, hN, seval, pvb]) | ((with_reducible first | refine zai ?_ ?_ ?_ | refine zad ?_ ?_ | refine zae ?_ ?_ ?_) <;> (first | (with_reducible refine zal ?_; try simp only [evb, kb, hN, seval, pvb]) | (simp [evb, kb, hN, sdb] <;> omega))))); refine zaa ?_; refine hK2 _ _ ?_; try clear hK2 K2
    refine zac ?_; (repeat (first | ((with_reducible refine zav ?_ ?_ ?_ ?_); (· exact rfl); (· simp [evb, kb, hN, h0, dyb, sdb] <;> omega); (· kernel_rfl); try simp only [evb, kb, hN, seval, pvb, h0]) | ((with_reducible refine zag ?_ ?_ ?_); rotate_left 1; (· simp [evb, kb, hN, h0, sdb]); rotate_left 1; (· kernel_rfl); try simp only [evb, kb, hN, seval, pvb, h0]) | ((with_reducible first | refine zai ?_ ?_ ?_ | refine zad ?_ ?_ | refine zae ?_ ?_ ?_) <;> (first | (with_reducible refine zal ?_; try simp only [evb, kb, hN, seval, pvb, h0]) | (simp [evb, kb, hN, h0, sdb] <;> omega)))))
    have e : (x : Int) / 128 = ((x / 128 : Nat) : Int) := rfl
    refine zaa ?_
    obtain ⟨j, rfl⟩ : ∃ j, k = j + 1 := by
      cases k with
      | zero => omega
      | succ j => exact ⟨j, rfl⟩
    refine ⟨⟨j, x / 128, acc ++ [UInt8.ofNat (x % 128 + 128)], v2, by simp only [evb, kb, hN, seval], by simp [zab, hD], by simp only [evb, kb, hN, seval]; rfl, by simp only [evb, kb, hN, seval], by rw [Nat.pow_succ] at hx; omega, by omega, ?_, by rw [List.length_append, List.length_singleton]; omega, happ.own, hc.trans happ.chg fun n _ hk => (hown.lt n hk).1⟩, ?_⟩
    · rw [← hacc, zat, if_neg (by omega), List.append_assoc]; rfl
    · simp only [evb, kb, hN, seval, h0]
      simp only [intOf]
      have : ((x : Int) / (2 : Int) ^ min 7 IntKind.u64.bits) = ((x / 128 : Nat) : Int) := rfl
      rw [this]
      omega
  · have d1 : decide ((127 : Int) < (x : Int)) = false := decide_eq_false (by omega)
    refine wp_cond_false (by simp [evb, kb, hN, d1, sdb]) ?_
    refine wp_exit ?_
    simp only [Exit.then, Exit.inBlock, if_pos]
    refine hK1 _ _ ?_; try clear hK1 K1
    clear hK K
    rw [uvarAux_le k x (by omega)] at hacc
    refine wp_seq_k fun K hK => ?_; refine zac ?_; (repeat (first | ((with_reducible refine zav ?_ ?_ ?_ ?_); (· exact rfl); (· simp [evb, kb, hN, h0, h3, dyb, sdb] <;> omega); (· kernel_rfl); try simp only [evb, kb, hN, seval, pvb, h0, h3]) | ((with_reducible refine zag ?_ ?_ ?_); rotate_left 1; (· simp [evb, kb, hN, h0, h3, sdb]); rotate_left 1; (· kernel_rfl); try simp only [evb, kb, hN, seval, pvb, h0, h3]) | ((with_reducible first | refine zai ?_ ?_ ?_ | refine zad ?_ ?_ | refine zae ?_ ?_ ?_) <;> (first | (with_reducible refine zal ?_; try simp only [evb, kb, hN, seval, pvb, h0, h3]) | (simp [evb, kb, hN, h0, h3, sdb] <;> omega)))))
    refine zaO [UInt8.ofNat x] (by simp [-UInt8.ofNat_add, evb, kb, hN, seval, IntKind.bits, List.zipIdx, bw_id x (by omega)]) rfl (by simp) (by simp [evb, kb, hN, sdb]) (by simp [zaf, hN]) hown (by unfold LIM; simp only [List.length_singleton]; omega) hc.size ?_
    intro v2 w2 happ
    (repeat (first | ((with_reducible refine zav ?_ ?_ ?_ ?_); (· exact rfl); (· simp [evb, kb, hN, dyb, sdb] <;> omega); (· kernel_rfl); try simp only [evb, kb, hN, seval, pvb]) | ((with_reducible refine zag ?_ ?_ ?_); rotate_left 1; (· simp [evb, kb, hN, sdb]); rotate_left 1; (· kernel_rfl); try simp only [evb, kb, hN, seval, pvb]) | ((with_reducible first | refine zai ?_ ?_ ?_ | refine zad ?_ ?_ | refine zae ?_ ?_ ?_) <;> (first | (with_reducible refine zal ?_; try simp only [evb, kb, hN, seval, pvb]) | (simp [evb, kb, hN, sdb] <;> omega))))); refine zaa ?_; refine hK _ _ ?_; clear hK K; refine wp_ret ⟨by simp [zab, hD], ?_⟩; simp only [evb, kb, hN, seval]
    rw [hacc] at happ
    exact ⟨happ.own, chg_own (hc.trans happ.chg fun n _ hk => (hown.lt n hk).1)⟩
theorem svarint_c (n : Int) (hn : -9223372036854775808 ≤ n ∧ n < 9223372036854775808) (w : World) : zan Tryd.prog 28 #[.int .i64 n] w (NewB w (zaN n)) := by
  refine zaj Tryd.func28 rfl rfl Tryd.ntmps28 (by simp) ?_
  intro a hN hD ha
  have h0 : get a 0 = .int .i64 n := ha 0 _ rfl
  refine wp_seq_k fun K hK => ?_; refine zac ?_; refine zaF ?_; refine zaa ?_; refine hK _ _ ?_; clear hK K
  refine wp_seq_k fun K hK => ?_; refine zac ?_; (repeat ((with_reducible refine zah ?_ ?_ ?_); (· simp [evb, pvb, rnb, kb, hN, h0, dyb, sdb] <;> omega); (· kernel_rfl); try simp only [evb, pvb, rnb, kb, hN, seval, h0]))
  refine zak (fun args w => Tryd.call44 args w) (by simp only [List.map_toArray, List.map_cons, List.map_nil, evb, kb, hN, seval, h0]; exact turned_c n hn w) ?_
  rintro _ _ ⟨rfl, rfl⟩
  refine zak (fun args w => Tryd.call43 args w) (by simp only [List.map_toArray, List.map_cons, List.map_nil, evb, kb, hN, seval]; exact suvarint_c (zz n) (zz_lt64 hn) _) ?_
  rintro v2 w2 hq
  (repeat ((with_reducible refine zah ?_ ?_ ?_); (· simp [evb, pvb, rnb, kb, hN, dyb, sdb] <;> omega); (· kernel_rfl); try simp only [evb, pvb, rnb, kb, hN, seval])); refine zaa ?_; refine hK _ _ ?_; clear hK K; refine wp_ret ⟨by simp [zab, hD], ?_⟩; simp only [evb, kb, hN, seval]
  exact hq
end Go.Proofs.YtojpodeljpfgaaaDoor
namespace Go.Proofs.YtojpodeljpfgaaaDoor
set_option linter.all false
open Go.RowKit
set_option maxRecDepth 10000
set_option maxHeartbeats 2000000
theorem ws_lenS {P : Program} {ops : Array Oper} {S : World → Prop} {Q : Act → World → Prop} {a : Act} {w : World} {r : List (Bool × Nat)} {d : Option Nat} {i : Nat} {ty : TypeId} {pos : String} {af : Array Edge} {t : TypeId} {x : Operand} {s : ByteArray}
    (ht : strB P t = true) (hi : ops[i]? = some ⟨d, .call { callee := .builtin .len, args := #[x], argTypes := #[t] }, ty, pos, af, none⟩) (hx : a.eval x = .string s) (h : zao P ops S Q r (a.put d (.int .i64 (s.size : Nat))) w) : zao P ops S Q ((true, i) :: r) a w :=
  ws_float _ hi (fun w' _ => by simp [execOp, resolve, invoke, builtin, hx, Builtin.len_, underlying, strB_eq ht, goInt]) h
def octB (x : Oct) : Bs := if x.null then zaN (-1) else zaN x.data.length ++ x.data
def hdB (h : Hd) : Bs := zaN h.key.length ++ h.key ++ octB h.val
theorem octB_len (x : Oct) : (octB x).length ≤ 10 + x.data.length := by
  unfold octB
  have h1 := zaC (-1)
  have h2 := zaC x.data.length
  split
  · omega
  · rw [List.length_append]; omega
theorem NewB.mk2 {w w1 : World} {base : Nat} {l : Bs} {v : Value} (h : Own eB w1 base v l) (hb : w.heap.size ≤ base) (hc : Chg (fun _ => False) w w1) : NewB w l v w1 := ⟨h.mono hb, hc⟩
theorem octetsBytes_c {w : World} {G : Nat → Prop} {x : Oct} {vs : List Value} (h : OctC w G x vs) (hl : x.data.length ≤ 1073741824) : zan Tryd.prog 29 #[zax vs] w (NewB w (octB x)) := by
  obtain ⟨oa, cap, rfl, h2, h3⟩ := h
  refine zaj Tryd.func29 rfl rfl Tryd.ntmps29 (by simp) ?_
  intro a hN hD hargs
  have h0 : get a 0 = zax [.bool x.null, .slice oa x.data.length cap] := hargs 0 _ rfl
  refine wp_seq_k fun K hK => ?_; refine zac ?_
  refine zaQ (l := [.bool x.null, .slice oa x.data.length cap]) (by simp [evb, kb, hN, h0, sdb]) fun w1 hc1 hb1 hs1 => ?_
  (repeat ((with_reducible refine zah ?_ ?_ ?_); (· simp [evb, pvb, rnb, kb, hN, dyb, sdb] <;> omega); (· kernel_rfl); try simp only [evb, pvb, rnb, kb, hN, seval])); refine zaa ?_; refine hK _ _ ?_; clear hK K
  have l0 := hb1.ld (i := 0) rfl
  have l1 := hb1.ld (i := 1) rfl
  refine wp_seq_k fun K hK => ?_; refine wp_seq_k fun K1 hK1 => ?_; refine zac ?_; (repeat ((with_reducible refine zah ?_ ?_ ?_); (· simp [evb, pvb, rnb, kb, hN, l0, ofO, dyb, sdb] <;> omega); (· kernel_rfl); try simp only [evb, pvb, rnb, kb, hN, seval, l0, ofO])); refine zaa ?_; refine hK1 _ _ ?_; try clear hK1 K1
  cases hx : x.null with
  | true =>
    have e : octB x = zaN (-1) := by unfold octB; rw [if_pos hx]
    refine wp_cond_true (by simp [evb, kb, hN, hx, sdb]) ?_
    refine wp_seq_k fun K hK => ?_; refine zac ?_
    refine zak (fun args w => Tryd.call28 args w) (by simp only [List.map_toArray, List.map_cons, List.map_nil, evb, kb, hN, seval]; exact svarint_c (-1) (by omega) _) ?_
    rintro v2 w2 ⟨q1, q2⟩
    (repeat ((with_reducible refine zah ?_ ?_ ?_); (· simp [evb, pvb, rnb, kb, hN, dyb, sdb] <;> omega); (· kernel_rfl); try simp only [evb, pvb, rnb, kb, hN, seval])); refine zaa ?_; refine hK _ _ ?_; clear hK K; refine wp_ret ⟨by simp [zab, hD], ?_⟩; simp only [evb, kb, hN, seval]
    have hq := NewB.mk2 (w := w) q1 (by omega) (hc1.trans q2 fun _ _ h => h)
    rw [← e] at hq
    exact hq
  | false =>
    have e : octB x = zaN x.data.length ++ x.data := by unfold octB; rw [if_neg (by rw [hx]; simp)]
    refine wp_cond_false (by simp [evb, kb, hN, hx, sdb]) ?_
    refine wp_skip (hK _ _ ?_)
    clear hK K
    refine wp_seq_k fun K hK => ?_
    refine wp_sched (fun w' => Chg (fun _ => False) w1 w') [(true, 0), (true, 1), (true, 2), (true, 4), (true, 5), (false, 3), (false, 6), (true, 7)] zaz (by kernel_rfl) (by kernel_rfl) (Chg.drew _ _) ?_
    (repeat (first | (refine ws_pX rfl ?_ ?_ ?_; (· simp [evb, pvb, rnb, kb, hN, seval, l1, ofO, dyb, sdb] <;> omega); (· kernel_rfl); try simp only [evb, pvb, rnb, kb, hN, seval, l1, ofO]) | (refine ws_pgX rfl rfl rfl ?_ ?_ ?_ ?_; (· simp [evb, pvb, rnb, kb, hN, seval, l1, ofO]; done); (· simp [evb, pvb, rnb, kb, hN, seval, l1, ofO, dyb, sdb] <;> omega); (· kernel_rfl); try simp only [evb, pvb, rnb, kb, hN, seval, l1, ofO]) | (refine ws_gnoX rfl rfl rfl ?_ ?_; (· simp [evb, pvb, rnb, kb, hN, seval, l1, ofO]; done); try simp only [evb, pvb, rnb, kb, hN, seval, l1, ofO])))
    refine ws_call (fun args w => Tryd.call28 args w) rfl (by simp only [List.map_toArray, List.map_cons, List.map_nil, evb, kb, hN, seval]; exact svarint_c x.data.length (by omega) _) ?_
    rintro v2 w2 ⟨q1, q2⟩
    have hc12 : Chg (fun _ => False) w1 w2 := (Chg.drew _ _).trans q2 fun _ _ h => h
    refine ⟨hc12, ?_⟩
    refine ws_step rfl fun K hK => ?_
    have hs2 := hc12.size
    have hvl := zaC x.data.length
    refine wl_append (c := cap) (oa := oa) (base := w1.heap.size) bT (by simp only [evb, pvb, rnb, kb, hN, seval]) (by simp only [evb, pvb, rnb, kb, hN, seval]) q1 (h3.chg (hc1.trans hc12 fun _ _ h => h) fun _ _ _ h => h) (by unfold LIM; omega) hs2 ?_
    intro v3 w3 happ
    have hc13 : Chg (fun _ => False) w1 w3 := hc12.trans happ.chg fun n hn hk => by have := (q1.lt n hk).1; change w1.heap.size ≤ n at this; omega
    refine zaa (hK _ _ hc13 ?_)
    clear hK K
    (repeat (first | (refine ws_pX rfl ?_ ?_ ?_; (· simp [evb, pvb, rnb, kb, hN, seval, dyb, sdb] <;> omega); (· kernel_rfl); try simp only [evb, pvb, rnb, kb, hN, seval]) | (refine ws_pgX rfl rfl rfl ?_ ?_ ?_ ?_; (· simp [evb, pvb, rnb, kb, hN, seval]; done); (· simp [evb, pvb, rnb, kb, hN, seval, dyb, sdb] <;> omega); (· kernel_rfl); try simp only [evb, pvb, rnb, kb, hN, seval]) | (refine ws_gnoX rfl rfl rfl ?_ ?_; (· simp [evb, pvb, rnb, kb, hN, seval]; done); try simp only [evb, pvb, rnb, kb, hN, seval])))
    refine ws_nil ?_
    refine hK _ _ ?_
    refine wp_ret ⟨by simp [zab, hD], ?_⟩; simp only [evb, kb, hN, seval]
    have hq := NewB.mk2 (w := w) (base := w1.heap.size) happ.own (by omega) (hc1.trans hc13 fun _ _ h => h)
    rw [← e] at hq
    exact hq
theorem headerBytes_c {w : World} {G : Nat → Prop} {x : Hd} {vs : List Value} (h : HdC w G x vs) (hl : x.key.length ≤ 1073741824 ∧ x.val.data.length ≤ 1073741824) : zan Tryd.prog 30 #[zax vs] w (NewB w (hdB x)) := by
  obtain ⟨vo, rfl, oa, cap, rfl, h2, h3⟩ := h
  refine zaj Tryd.func30 rfl rfl Tryd.ntmps30 (by simp) ?_
  intro a hN hD hargs
  have h0 : get a 0 = zax [.string ⟨x.key.toArray⟩, .bool x.val.null, .slice oa x.val.data.length cap] := hargs 0 _ rfl
  refine wp_seq_k fun K hK => ?_; refine zac ?_
  refine zaQ (l := [.string ⟨x.key.toArray⟩, .bool x.val.null, .slice oa x.val.data.length cap]) (by simp [evb, kb, hN, h0, sdb]) fun w1 hc1 hb1 hs1 => ?_
  (repeat ((with_reducible refine zah ?_ ?_ ?_); (· simp [evb, pvb, rnb, kb, hN, dyb, sdb] <;> omega); (· kernel_rfl); try simp only [evb, pvb, rnb, kb, hN, seval])); refine zaa ?_; refine hK _ _ ?_; clear hK K
  have l0 := hb1.ld (i := 0) rfl
  have hsz : (⟨x.key.toArray⟩ : ByteArray).size = x.key.length := by simp [ByteArray.size]
  refine wp_seq_k fun K hK => ?_
  refine wp_sched (fun w' => Chg (fun _ => False) w1 w') [(true, 0), (true, 1), (true, 2), (true, 4), (true, 5), (false, 3), (false, 6), (true, 7)] zaz (by kernel_rfl) (by kernel_rfl) (Chg.drew _ _) ?_
  (repeat (first | (refine ws_pX rfl ?_ ?_ ?_; (· simp [evb, pvb, rnb, kb, hN, seval, l0, ofO, dyb, sdb] <;> omega); (· kernel_rfl); try simp only [evb, pvb, rnb, kb, hN, seval, l0, ofO]) | (refine ws_pgX rfl rfl rfl ?_ ?_ ?_ ?_; (· simp [evb, pvb, rnb, kb, hN, seval, l0, ofO]; done); (· simp [evb, pvb, rnb, kb, hN, seval, l0, ofO, dyb, sdb] <;> omega); (· kernel_rfl); try simp only [evb, pvb, rnb, kb, hN, seval, l0, ofO]) | (refine ws_gnoX rfl rfl rfl ?_ ?_; (· simp [evb, pvb, rnb, kb, hN, seval, l0, ofO]; done); try simp only [evb, pvb, rnb, kb, hN, seval, l0, ofO])))
  refine ws_lenS (s := ⟨x.key.toArray⟩) (by kernel_rfl) rfl (by simp only [evb, pvb, rnb, kb, hN, seval]) ?_
  rw [hsz]
  (repeat (first | (refine ws_pX rfl ?_ ?_ ?_; (· simp [evb, pvb, rnb, kb, hN, seval, l0, ofO, dyb, sdb] <;> omega); (· kernel_rfl); try simp only [evb, pvb, rnb, kb, hN, seval, l0, ofO]) | (refine ws_pgX rfl rfl rfl ?_ ?_ ?_ ?_; (· simp [evb, pvb, rnb, kb, hN, seval, l0, ofO]; done); (· simp [evb, pvb, rnb, kb, hN, seval, l0, ofO, dyb, sdb] <;> omega); (· kernel_rfl); try simp only [evb, pvb, rnb, kb, hN, seval, l0, ofO]) | (refine ws_gnoX rfl rfl rfl ?_ ?_; (· simp [evb, pvb, rnb, kb, hN, seval, l0, ofO]; done); try simp only [evb, pvb, rnb, kb, hN, seval, l0, ofO])))
  refine ws_call (fun args w => Tryd.call28 args w) rfl (by simp only [List.map_toArray, List.map_cons, List.map_nil, evb, kb, hN, seval]; exact svarint_c x.key.length (by omega) _) ?_
  rintro v2 w2 ⟨q1, q2⟩
  have hc12 : Chg (fun _ => False) w1 w2 := (Chg.drew _ _).trans q2 fun _ _ h => h
  refine ⟨hc12, ?_⟩
  refine ws_step rfl fun K hK => ?_
  have hs2 := hc12.size
  have hvl := zaC x.key.length
  refine wl_appendStr bT (by kernel_rfl) x.key (by simp only [evb, pvb, rnb, kb, hN, seval]) (by simp only [evb, pvb, rnb, kb, hN, seval]) q1 (by unfold LIM; omega) hs2 ?_
  intro v3 w3 happ
  have hc13 : Chg (fun _ => False) w1 w3 := hc12.trans happ.chg fun n hn hk => by have := (q1.lt n hk).1; change w1.heap.size ≤ n at this; omega
  refine zaa (hK _ _ hc13 ?_)
  clear hK K
  (repeat (first | (refine ws_pX rfl ?_ ?_ ?_; (· simp [evb, pvb, rnb, kb, hN, seval, dyb, sdb] <;> omega); (· kernel_rfl); try simp only [evb, pvb, rnb, kb, hN, seval]) | (refine ws_pgX rfl rfl rfl ?_ ?_ ?_ ?_; (· simp [evb, pvb, rnb, kb, hN, seval]; done); (· simp [evb, pvb, rnb, kb, hN, seval, dyb, sdb] <;> omega); (· kernel_rfl); try simp only [evb, pvb, rnb, kb, hN, seval]) | (refine ws_gnoX rfl rfl rfl ?_ ?_; (· simp [evb, pvb, rnb, kb, hN, seval]; done); try simp only [evb, pvb, rnb, kb, hN, seval])))
  refine ws_nil ?_
  refine hK _ _ ?_
  clear hK K
  have hb3 := hb1.chg hc13 fun h => h
  have hc03 := hc1.trans hc13 fun _ _ h => h
  refine wp_seq_k fun K hK => ?_; refine zac ?_; (repeat ((with_reducible refine zah ?_ ?_ ?_); (· simp [evb, pvb, rnb, kb, hN, ofO, dyb, sdb] <;> omega); (· kernel_rfl); try simp only [evb, pvb, rnb, kb, hN, seval, ofO]))
  refine zay (b := w.heap.size) (o := 1) (n := 2) (by kernel_rfl) (by kernel_rfl) (by simp only [evb, pvb, rnb, kb, hN, seval]) hb3 (by simp) ?_
  rw [show (([.string ⟨x.key.toArray⟩, .bool x.val.null, .slice oa x.val.data.length cap] : List Value).drop 1).take 2 = [.bool x.val.null, .slice oa x.val.data.length cap] from rfl]
  refine zak (fun args w => Tryd.call29 args w) (by simp only [List.map_toArray, List.map_cons, List.map_nil, evb, kb, hN, seval]; exact octetsBytes_c (x := x.val) ⟨oa, cap, rfl, h2, h3.chg hc03 fun _ _ _ h => h⟩ hl.2) ?_
  rintro v4 w4 ⟨q3, q4⟩
  obtain ⟨o4, c4, rfl, p1, p2⟩ := own_at q3
  have hs3 := hc13.size
  have hs4 := q4.size
  have hol := octB_len x.val
  refine wl_append (c := c4) (oa := o4) (base := w1.heap.size) bT (by simp only [evb, pvb, rnb, kb, hN, seval]) (by simp only [evb, pvb, rnb, kb, hN, seval]) (happ.own.chg q4 fun _ _ h => h) p2 (by unfold LIM; rw [List.length_append]; omega) (by omega) ?_
  intro v5 w5 happ5
  (repeat ((with_reducible refine zah ?_ ?_ ?_); (· simp [evb, pvb, rnb, kb, hN, dyb, sdb] <;> omega); (· kernel_rfl); try simp only [evb, pvb, rnb, kb, hN, seval])); refine zaa ?_; refine hK _ _ ?_; clear hK K; refine wp_ret ⟨by simp [zab, hD], ?_⟩; simp only [evb, kb, hN, seval]
  refine .mk2 (base := w1.heap.size) happ5.own (by omega) ((hc03.trans q4 fun _ _ h => h).trans happ5.chg fun n hn hk => ?_)
  have := (happ.own.lt n hk).1
  change w1.heap.size ≤ n at this
  omega
end Go.Proofs.YtojpodeljpfgaaaDoor
namespace Go.Proofs.YtojpodeljpfgaaaDoor
set_option linter.all false
open Go.RowKit
set_option maxRecDepth 10000
set_option maxHeartbeats 4000000
section
variable {P : Program} {ops : Array Oper} {w0 : World} {Q : Act → World → Prop} {a : Act} {w : World} {d : Option Nat} {ty : TypeId} {pos : String} {af : Array Edge} {fuel i : Nat} {listed : Array Bool}
theorem wb_any {l : List Oper} {id : Nat} {Q : Exit → Act → World → Prop} (hm : P.follows .mixedOrders = true) (h : wpAnyH P .any l.toArray (OneQ (Q .normal)) (fun w' => Chg (fun _ => False) w w') l.length (Array.replicate l.length false) a w.drew) : (Code.region id l.toArray true).wp P Q a w := by
  refine wp_mono (wp_region_held (Q := OneQ (Q .normal)) (S := fun w' => Chg (fun _ => False) w w') hm ?_) ?_
  · simpa using h
  · intro e a' w' hq
    cases e <;> first | exact hq | exact hq.elim
theorem wb_p {o : Op} (hB : (Region.noSelect ops && Region.free .any ops listed i && (Region.ready .any ops listed).contains i) = true) (hi : ops[i]? = some ⟨d, o, ty, pos, af, none⟩) (hd : dyn w0 a.eval o = true) (hc : opB P o = true) (hS : Chg (fun _ => False) w0 w)
    (h : wpAnyH P .any ops (OneQ Q) (fun w' => Chg (fun _ => False) w0 w') fuel (listed.setIfInBounds i true) (a.put d (pv P w0 a.eval o)) w) : wpAnyH P .any ops (OneQ Q) (fun w' => Chg (fun _ => False) w0 w') (fuel + 1) listed a w := by
  simp only [Bool.and_eq_true] at hB
  exact wpAnyH_take hi hB.1.1 hB.1.2 hB.2 (fun _ _ _ h => h) (.inl ⟨by simp [Region.wanted], fun w' c => wf_run (rdX_no (ρ := a.eval) (o := o)).out hd hc w' c⟩) hS h
theorem wb_one {o : Oper} (hB : (Region.ready .any ops listed == [i]) = true) (hi : ops[i]? = some o)
    (h : WL P ops (OneQ fun a' w' => Chg (fun _ => False) w0 w' ∧ wpAnyH P .any ops (OneQ Q) (fun w' => Chg (fun _ => False) w0 w') fuel (listed.setIfInBounds i true) a' w') [o] a w) : wpAnyH P .any ops (OneQ Q) (fun w' => Chg (fun _ => False) w0 w') (fuel + 1) listed a w := by
  rw [beq_iff_eq] at hB
  refine wpAnyH_all hB (by simp) fun j hj => ?_
  have : j = i := by simpa using hj
  subst this
  exact wpOp_mono (fun _ _ h => h) (wpOp_of_one hi h)
theorem wb_two {j : Nat} {o o' : Oper} (hB : (Region.ready .any ops listed == [i, j]) = true) (hi : ops[i]? = some o) (hj : ops[j]? = some o')
    (h : WL P ops (OneQ fun a' w' => Chg (fun _ => False) w0 w' ∧ wpAnyH P .any ops (OneQ Q) (fun w' => Chg (fun _ => False) w0 w') fuel (listed.setIfInBounds i true) a' w') [o] a w)
    (h' : WL P ops (OneQ fun a' w' => Chg (fun _ => False) w0 w' ∧ wpAnyH P .any ops (OneQ Q) (fun w' => Chg (fun _ => False) w0 w') fuel (listed.setIfInBounds j true) a' w') [o'] a w) : wpAnyH P .any ops (OneQ Q) (fun w' => Chg (fun _ => False) w0 w') (fuel + 1) listed a w := by
  rw [beq_iff_eq] at hB
  refine wpAnyH_all hB (by simp) fun k hk => ?_
  rcases List.mem_cons.1 hk with rfl | hk
  · exact wpOp_mono (fun _ _ h => h) (wpOp_of_one hi h)
  · have : k = j := by simpa using hk
    subst this
    exact wpOp_mono (fun _ _ h => h) (wpOp_of_one hj h')
theorem wb_nil {S : World → Prop} (hB : (Region.ready .any ops listed).isEmpty = true) (h : Q a w) : wpAnyH P .any ops (OneQ Q) S fuel listed a w :=
  wpAnyH_done (by simpa using hB) h fuel
theorem wb_list {l l' : Array Bool} {S : World → Prop} {Q : Exit → Act → World → Prop} (e : l = l') (h : wpAnyH P .any ops Q S fuel l' a w) : wpAnyH P .any ops Q S fuel l a w := e ▸ h
end
theorem zaw {P : Program} {c : Code} {Q : Exit → Act → World → Prop} {a : Act} {w : World} (h : ∀ a', a' = a → c.wp P Q a' w) : c.wp P Q a w := h a rfl
theorem wb_fin {P : Program} {ops : Array Oper} {a : Act} {w : World} {fuel fuel' : Nat} {l l' : Array Bool} {S : World → Prop} {Q : Exit → Act → World → Prop} (F : Act → World → Prop) (h1 : ∀ a w, F a w → wpAnyH P .any ops Q S fuel' l' a w)
    (h2 : (∀ a w, F a w → wpAnyH P .any ops Q S fuel' l' a w) → wpAnyH P .any ops Q S fuel l a w) : wpAnyH P .any ops Q S fuel l a w := h2 h1
theorem wl_lit1B {ops : Array Oper} {Q : Exit → Act → World → Prop} {a : Act} {w : World} {rest : List Oper} {d : Option Nat} {ty : TypeId} {pos : String} {af : Array Edge} {x : Operand} {u : UInt8} (hx : a.eval x = byteV u)
    (h : ∀ w', Chg (fun _ => False) w w' → Own eB w' w.heap.size (.slice (some ⟨w.heap.size, 0, none⟩) 1 1) [u] → w'.heap.size = w.heap.size + 1 → WL Tryd.prog ops Q rest (a.put d (.slice (some ⟨w.heap.size, 0, none⟩) 1 1)) w') :
    WL Tryd.prog ops Q (⟨d, .buildSlice 24 1 #[(0, x)], ty, pos, af, none⟩ :: rest) a w := by
  have hr := run_lit (w := w) [u] (by simp)
  refine zaK rfl (v := .slice (some ⟨w.heap.size, 0, none⟩) 1 1) (w' := w.alloc (.cells ([u].map byteV).toArray eB)) ?_ (h _ (Chg.alloc _ _ _) ⟨rfl, .inr ⟨w.heap.size, 1, #[byteV u], rfl, Nat.le_refl _, Blk.new w [byteV u] eB, Nat.le_refl _, by unfold maxLen; omega, rfl, rfl⟩⟩ ?_)
  · simp only [List.length_singleton, List.map_cons, List.map_nil, List.zipIdx_cons, List.zipIdx_nil] at hr
    simp only [execOp, List.map_toArray, List.map_cons, List.map_nil, hx, Sem.run_bind, hr]; rfl
  · show (w.heap.push _).size = _
    rw [Array.size_push]
def preB (r : Rc) : Bs := be 1 r.attr ++ zaN r.delta ++ zaN r.off ++ octB r.key ++ octB r.val ++ zaN r.hs.length
def zaJ (r : Rc) : Bs := preB r ++ r.hs.flatMap hdB
structure RcL (r : Rc) : Prop where
  key : r.key.data.length ≤ 1048576
  val : r.val.data.length ≤ 1048576
  hs : r.hs.length ≤ 1048576
  hk : ∀ h ∈ r.hs, h.key.length ≤ 1048576 ∧ h.val.data.length ≤ 1048576
theorem hdB_len (h : Hd) : (hdB h).length ≤ 20 + h.key.length + h.val.data.length := by
  unfold hdB
  have h1 := zaC h.key.length
  have h2 := octB_len h.val
  rw [List.length_append, List.length_append]; omega
theorem flat_hd : ∀ (l : List Hd), (∀ h ∈ l, h.key.length ≤ 1048576 ∧ h.val.data.length ≤ 1048576) → (l.flatMap hdB).length ≤ l.length * 2097172
  | [], _ => by simp
  | h :: r, hh => by
    have h1 := hdB_len h
    have h2 := hh h List.mem_cons_self
    have ih := flat_hd r fun x hx => hh x (List.mem_cons_of_mem _ hx)
    rw [List.flatMap_cons, List.length_append, List.length_cons]; omega
theorem preB_len {r : Rc} (h : RcL r) : (preB r).length ≤ 2097300 := by
  unfold preB
  have h1 := zaC r.delta
  have h2 := zaC r.off
  have h3 := octB_len r.key
  have h4 := octB_len r.val
  have h5 := zaC r.hs.length
  have := h.key
  have := h.val
  simp only [List.length_append, zas]; omega
theorem recordRest_c {w : World} {G : Nat → Prop} {x : Rc} {vs : List Value} (h : RcC w G x vs) (hL : RcL x) (h1000 : x.hs.length ≤ 1000) : zan Tryd.prog 16 #[zax vs] w (NewB w (zaJ x)) := by
  have hcell := one_rc.cell h
  obtain ⟨k1, k2, v1, v2, vh, rfl, ⟨p1, p2⟩, ⟨p3, p4⟩, p5, p6⟩ := h
  refine zaj Tryd.func16 rfl rfl Tryd.ntmps16 (by simp) ?_
  intro a hN hD hargs
  obtain ⟨vs, hvs⟩ : ∃ vs, vs = [.int .i32 x.len, .int .i8 x.attr, .int .i64 x.delta, .int .i32 x.off, .bool x.key.null, .slice k1 x.key.data.length k2, .bool x.val.null, .slice v1 x.val.data.length v2, vh] := ⟨_, rfl⟩
  have h0 : get a 0 = zax vs := by rw [hvs]; exact hargs 0 _ rfl
  obtain ⟨q1, q2, q3, q4⟩ := p6
  have hpl := preB_len hL
  have u1 := zaC x.delta
  have u2 := zaC x.off
  have u3 := octB_len x.key
  have u4 := octB_len x.val
  have u5 := zaC x.hs.length
  have hLk := hL.key
  have hLv := hL.val
  have hLh := hL.hs
  refine wp_seq_k fun K hK => ?_; refine zac ?_
  refine zaQ (l := vs) (by simp [evb, kb, hN, h0, sdb]) fun w1 hc1 hb1 hs1 => ?_
  (repeat ((with_reducible refine zah ?_ ?_ ?_); (· simp [evb, pvb, rnb, kb, hN, dyb, sdb] <;> omega); (· kernel_rfl); try simp only [evb, pvb, rnb, kb, hN, seval])); refine zaa ?_; refine hK _ _ ?_; clear hK K
  have l1 := hb1.ld (i := 1) (v := .int .i8 x.attr) (by rw [hvs]; rfl)
  have l2 := hb1.ld (i := 2) (v := .int .i64 x.delta) (by rw [hvs]; rfl)
  refine wp_seq_k fun K hK => ?_
  refine zaw fun a1 ha1 => ?_
  have hN1 : a1.tmps.size = 49 := by rw [ha1]; simp only [zaf]; exact hN
  have hD1 : a1.defers = [] := by rw [ha1]; simp only [zab]; exact hD
  have g1 : get a1 1 = .pointer (some ⟨w.heap.size, 0, none⟩) := by rw [ha1]; simp only [evb, pvb, rnb, kb, hN, seval]
  clear ha1 hN hD h0 hargs
  replace hN := hN1
  replace hD := hD1
  clear hN1 hD1
  refine wb_any zaz ?_
  have hd1 : Chg (fun _ => False) w1 w1.drew := Chg.drew _ _
  refine wb_p (i := 0) (by kernel_rfl) rfl (by simp [evb, pvb, rnb, kb, hN, seval, g1, ofR, dyb, sdb] <;> omega) (by kernel_rfl) hd1 ?_; try simp only [evb, pvb, rnb, kb, hN, seval, g1, ofR]
  refine wb_p (i := 1) (by kernel_rfl) rfl (by simp [evb, pvb, rnb, kb, hN, seval, g1, ofR, l1, dyb, sdb] <;> omega) (by kernel_rfl) hd1 ?_; try simp only [evb, pvb, rnb, kb, hN, seval, g1, ofR, l1]
  refine wb_p (i := 2) (by kernel_rfl) rfl (by simp [evb, pvb, rnb, kb, hN, seval, dyb, sdb] <;> omega) (by kernel_rfl) hd1 ?_; try simp only [evb, pvb, rnb, kb, hN, seval]
  refine wb_p (i := 4) (by kernel_rfl) rfl (by simp [evb, pvb, rnb, kb, hN, seval, g1, ofR, dyb, sdb] <;> omega) (by kernel_rfl) hd1 ?_; try simp only [evb, pvb, rnb, kb, hN, seval, g1, ofR]
  refine wb_p (i := 5) (by kernel_rfl) rfl (by simp [evb, pvb, rnb, kb, hN, seval, g1, ofR, l2, dyb, sdb] <;> omega) (by kernel_rfl) hd1 ?_; try simp only [evb, pvb, rnb, kb, hN, seval, g1, ofR, l2]
  have e8 := bv x.attr
  refine wb_fin (fuel' := 2) (l' := #[true, true, true, true, true, true, true, false, false]) (fun a' w' => ∃ (b9 : Nat) (v12 : Value), a'.tmps.size = 49 ∧ a'.defers = [] ∧ get a' 1 = .pointer (some ⟨w.heap.size, 0, none⟩) ∧ get a' 9 = .slice (some ⟨b9, 0, none⟩) 1 1 ∧ get a' 12 = v12 ∧
    Own eB w' w1.heap.size (.slice (some ⟨b9, 0, none⟩) 1 1) [byte x.attr] ∧ Own eB w' w1.heap.size v12 (zaN x.delta) ∧ Chg (fun _ => False) w1 w') ?_ fun fin => ?_
  rotate_left
  · refine wb_two (i := 3) (j := 6) (by kernel_rfl) rfl rfl ?_ ?_
    · refine wl_lit1B (u := byte x.attr) (by simp only [evb, pvb, rnb, kb, hN, seval]; exact e8) fun w2 hc2 ho2 hs2 => ?_
      have hc12 := hd1.trans hc2 fun _ _ h => h
      refine zaa ⟨hc12, ?_⟩
      refine wb_one (i := 6) (by kernel_rfl) rfl ?_
      refine zak (fun args w => Tryd.call28 args w) (by simp only [List.map_toArray, List.map_cons, List.map_nil, evb, kb, hN, seval]; exact svarint_c x.delta q3 _) ?_
      rintro v3 w3 ⟨r1, r2⟩
      have hc13 := hc12.trans r2 fun _ _ h => h
      refine zaa ⟨hc13, ?_⟩
      refine wb_list (l' := #[true, true, true, true, true, true, true, false, false]) (by kernel_rfl) ?_
      exact fin _ _ ⟨w1.heap.size, v3, by simp only [zaf, hN], by simp only [zab, hD], by simp only [evb, pvb, rnb, kb, hN, seval, g1], by simp only [evb, pvb, rnb, kb, hN, seval]; rfl, by simp only [evb, pvb, rnb, kb, hN, seval], (ho2.chg r2 fun _ _ h => h), r1.mono hc12.size, hc13⟩
    · refine zak (fun args w => Tryd.call28 args w) (by simp only [List.map_toArray, List.map_cons, List.map_nil, evb, kb, hN, seval]; exact svarint_c x.delta q3 _) ?_
      rintro v3 w3 ⟨r1, r2⟩
      have hc13 := hd1.trans r2 fun _ _ h => h
      refine zaa ⟨hc13, ?_⟩
      refine wb_one (i := 3) (by kernel_rfl) rfl ?_
      refine wl_lit1B (u := byte x.attr) (by simp only [evb, pvb, rnb, kb, hN, seval]; exact e8) fun w2 hc2 ho2 hs2 => ?_
      have hc12 := hc13.trans hc2 fun _ _ h => h
      refine zaa ⟨hc12, ?_⟩
      refine wb_list (l' := #[true, true, true, true, true, true, true, false, false]) (by kernel_rfl) ?_
      exact fin _ _ ⟨w3.heap.size, v3, by simp only [zaf, hN], by simp only [zab, hD], by simp only [evb, pvb, rnb, kb, hN, seval, g1], by simp only [evb, pvb, rnb, kb, hN, seval], by simp only [evb, pvb, rnb, kb, hN, seval], ho2.mono hc13.size, (r1.mono (Nat.le_refl _)).chg hc2 fun _ _ h => h, hc12⟩
  clear hN hD g1
  rintro a2 w2 ⟨b9, v12, hN, hD, g1, g9, g12, o9, o12, hc2⟩
  obtain ⟨oa, ca, rfl, f1, f2⟩ := own_at o12
  have hs2 := hc2.size
  refine wb_one (i := 7) (by kernel_rfl) rfl ?_
  refine wl_append (c := ca) (oa := oa) (base := w1.heap.size) (bs := [byte x.attr]) bT (by simp only [evb, pvb, rnb, kb, hN, seval, g9]) (by simp only [evb, pvb, rnb, kb, hN, seval, g12]) o9 f2 (by unfold LIM; simp only [List.length_singleton]; omega) hs2 ?_
  intro v3 w3 happ
  have hc3 : Chg (fun _ => False) w1 w3 := hc2.trans happ.chg fun n hn hk => by have := (o9.lt n hk).1; omega
  refine zaa ⟨hc3, ?_⟩
  refine wb_p (i := 8) (by kernel_rfl) rfl (by simp [evb, pvb, rnb, kb, hN, seval, dyb, sdb] <;> omega) (by kernel_rfl) hc3 ?_; try simp only [evb, pvb, rnb, kb, hN, seval]
  refine wb_nil (by kernel_rfl) (hK _ _ ?_)
  clear hK K
  have hown : Own eB w3 w1.heap.size v3 (be 1 x.attr ++ zaN x.delta) := by
    have e : be 1 x.attr = [byte x.attr] := by simp [be]
    rw [e]; exact happ.own
  refine zaw fun a3 ha3 => ?_
  have hN3 : a3.tmps.size = 49 := by rw [ha3]; simp only [zaf]; exact hN
  have hD3 : a3.defers = [] := by rw [ha3]; simp only [zab]; exact hD
  have k1' : get a3 1 = .pointer (some ⟨w.heap.size, 0, none⟩) := by rw [ha3]; simp only [evb, pvb, rnb, kb, hN, seval, g1]
  have g3 : get a3 3 = v3 := by rw [ha3]; simp only [evb, pvb, rnb, kb, hN, seval]
  clear ha3 hN hD g1 g9 g12 o9 o12 f1 f2 happ hc2 hs2 e8 l1 l2 hd1
  replace hN := hN3
  replace hD := hD3
  have g1 := k1'
  clear hN3 hD3 k1'
  have hb := hb1.chg hc3 fun h => h
  have hc0 := hc1.trans hc3 fun _ _ h => h
  have hs3 := hc3.size
  have l0 := hb.ld (i := 3) (v := .int .i32 x.off) (by rw [hvs]; rfl)
  have hi : IntKind.i64.wrap x.off = x.off := i64_sm _ (by omega)
  refine wp_seq_k fun K hK => ?_; refine zac ?_; (repeat ((with_reducible refine zah ?_ ?_ ?_); (· simp [evb, pvb, rnb, kb, hN, g1, g3, ofR, l0, hi, dyb, sdb] <;> omega); (· kernel_rfl); try simp only [evb, pvb, rnb, kb, hN, seval, g1, g3, ofR, l0, hi]))
  refine zak (fun args w => Tryd.call28 args w) (by simp only [List.map_toArray, List.map_cons, List.map_nil, evb, kb, hN, seval]; exact svarint_c x.off (by omega) _) ?_
  rintro vq wq ⟨r1, r2⟩
  obtain ⟨oq, cq, rfl, f1, f2⟩ := own_at r1
  have hsq := r2.size
  have hsrcq : zam wq (fun g => w3.heap.size ≤ g) oq (zaN x.off) := f2
  refine wl_append (c := cq) (oa := oq) (base := w1.heap.size) (bs := be 1 x.attr ++ zaN x.delta) bT (by simp only [evb, pvb, rnb, kb, hN, seval, g3]) (by simp only [evb, pvb, rnb, kb, hN, seval]) (hown.chg r2 fun _ _ h => h) f2 (by unfold LIM; simp only [List.length_append, zas]; omega) (by omega) ?_
  intro v4 w4 happ
  have hc3' : Chg (fun _ => False) w1 w4 := (hc3.trans r2 fun _ _ h => h).trans happ.chg fun n hn hk => by have := (hown.lt n hk).1; omega
  (repeat ((with_reducible refine zah ?_ ?_ ?_); (· simp [evb, pvb, rnb, kb, hN, dyb, sdb] <;> omega); (· kernel_rfl); try simp only [evb, pvb, rnb, kb, hN, seval])); refine zaa ?_; refine hK _ _ ?_; clear hK K
  replace hc3 := hc3'
  replace hown := happ.own
  refine zaw fun a4 ha => ?_
  have hN' : a4.tmps.size = 49 := by rw [ha]; simp only [zaf]; exact hN
  have hD' : a4.defers = [] := by rw [ha]; simp only [zab]; exact hD
  have g1' : get a4 1 = .pointer (some ⟨w.heap.size, 0, none⟩) := by rw [ha]; simp only [evb, pvb, rnb, kb, hN, seval, g1]
  have g3' : get a4 3 = v4 := by rw [ha]; simp only [evb, pvb, rnb, kb, hN, seval]
  clear ha hc3' happ r1 r2 f1 f2 hsq hsrcq hb hc0 hs3 l0 hi hN hD g1 g3
  have hN := hN'
  have hD := hD'
  have g1 := g1'
  have g3 := g3'
  clear hN' hD' g1' g3'
  have hb := hb1.chg hc3 fun h => h
  have hc0 := hc1.trans hc3 fun _ _ h => h
  have hs3 := hc3.size
  refine wp_seq_k fun K hK => ?_; refine zac ?_; (repeat ((with_reducible refine zah ?_ ?_ ?_); (· simp [evb, pvb, rnb, kb, hN, g1, g3, ofR, dyb, sdb] <;> omega); (· kernel_rfl); try simp only [evb, pvb, rnb, kb, hN, seval, g1, g3, ofR]))
  refine zay (b := w.heap.size) (o := 4) (n := 2) (by kernel_rfl) (by kernel_rfl) (by simp only [evb, pvb, rnb, kb, hN, seval]) hb (by rw [hvs]; simp) ?_
  rw [show (vs.drop 4).take 2 = [.bool x.key.null, .slice k1 x.key.data.length k2] by rw [hvs]; rfl]
  refine zak (fun args w => Tryd.call29 args w) (by simp only [List.map_toArray, List.map_cons, List.map_nil, evb, kb, hN, seval]; exact octetsBytes_c (x := x.key) ⟨k1, k2, rfl, p1, p2.chg hc0 fun _ _ _ h => h⟩ (by omega)) ?_
  rintro vq wq ⟨r1, r2⟩
  obtain ⟨oq, cq, rfl, f1, f2⟩ := own_at r1
  have hsq := r2.size
  have hsrcq : zam wq (fun g => w4.heap.size ≤ g) oq (octB x.key) := f2
  refine wl_append (c := cq) (oa := oq) (base := w1.heap.size) (bs := be 1 x.attr ++ zaN x.delta ++ zaN x.off) bT (by simp only [evb, pvb, rnb, kb, hN, seval, g3]) (by simp only [evb, pvb, rnb, kb, hN, seval]) (hown.chg r2 fun _ _ h => h) f2 (by unfold LIM; simp only [List.length_append, zas]; omega) (by omega) ?_
  intro v5 w5 happ
  have hc3' : Chg (fun _ => False) w1 w5 := (hc3.trans r2 fun _ _ h => h).trans happ.chg fun n hn hk => by have := (hown.lt n hk).1; omega
  (repeat ((with_reducible refine zah ?_ ?_ ?_); (· simp [evb, pvb, rnb, kb, hN, dyb, sdb] <;> omega); (· kernel_rfl); try simp only [evb, pvb, rnb, kb, hN, seval])); refine zaa ?_; refine hK _ _ ?_; clear hK K
  replace hc3 := hc3'
  replace hown := happ.own
  refine zaw fun a5 ha => ?_
  have hN' : a5.tmps.size = 49 := by rw [ha]; simp only [zaf]; exact hN
  have hD' : a5.defers = [] := by rw [ha]; simp only [zab]; exact hD
  have g1' : get a5 1 = .pointer (some ⟨w.heap.size, 0, none⟩) := by rw [ha]; simp only [evb, pvb, rnb, kb, hN, seval, g1]
  have g3' : get a5 3 = v5 := by rw [ha]; simp only [evb, pvb, rnb, kb, hN, seval]
  clear ha hc3' happ r1 r2 f1 f2 hsq hsrcq hb hc0 hs3 hN hD g1 g3
  have hN := hN'
  have hD := hD'
  have g1 := g1'
  have g3 := g3'
  clear hN' hD' g1' g3'
  have hb := hb1.chg hc3 fun h => h
  have hc0 := hc1.trans hc3 fun _ _ h => h
  have hs3 := hc3.size
  refine wp_seq_k fun K hK => ?_; refine zac ?_; (repeat ((with_reducible refine zah ?_ ?_ ?_); (· simp [evb, pvb, rnb, kb, hN, g1, g3, ofR, dyb, sdb] <;> omega); (· kernel_rfl); try simp only [evb, pvb, rnb, kb, hN, seval, g1, g3, ofR]))
  refine zay (b := w.heap.size) (o := 6) (n := 2) (by kernel_rfl) (by kernel_rfl) (by simp only [evb, pvb, rnb, kb, hN, seval]) hb (by rw [hvs]; simp) ?_
  rw [show (vs.drop 6).take 2 = [.bool x.val.null, .slice v1 x.val.data.length v2] by rw [hvs]; rfl]
  refine zak (fun args w => Tryd.call29 args w) (by simp only [List.map_toArray, List.map_cons, List.map_nil, evb, kb, hN, seval]; exact octetsBytes_c (x := x.val) ⟨v1, v2, rfl, p3, p4.chg hc0 fun _ _ _ h => h⟩ (by omega)) ?_
  rintro vq wq ⟨r1, r2⟩
  obtain ⟨oq, cq, rfl, f1, f2⟩ := own_at r1
  have hsq := r2.size
  have hsrcq : zam wq (fun g => w5.heap.size ≤ g) oq (octB x.val) := f2
  refine wl_append (c := cq) (oa := oq) (base := w1.heap.size) (bs := be 1 x.attr ++ zaN x.delta ++ zaN x.off ++ octB x.key) bT (by simp only [evb, pvb, rnb, kb, hN, seval, g3]) (by simp only [evb, pvb, rnb, kb, hN, seval]) (hown.chg r2 fun _ _ h => h) f2 (by unfold LIM; simp only [List.length_append, zas]; omega) (by omega) ?_
  intro v6 w6 happ
  have hc3' : Chg (fun _ => False) w1 w6 := (hc3.trans r2 fun _ _ h => h).trans happ.chg fun n hn hk => by have := (hown.lt n hk).1; omega
  (repeat ((with_reducible refine zah ?_ ?_ ?_); (· simp [evb, pvb, rnb, kb, hN, dyb, sdb] <;> omega); (· kernel_rfl); try simp only [evb, pvb, rnb, kb, hN, seval])); refine zaa ?_; refine hK _ _ ?_; clear hK K
  replace hc3 := hc3'
  replace hown := happ.own
  refine zaw fun a6 ha => ?_
  have hN' : a6.tmps.size = 49 := by rw [ha]; simp only [zaf]; exact hN
  have hD' : a6.defers = [] := by rw [ha]; simp only [zab]; exact hD
  have g1' : get a6 1 = .pointer (some ⟨w.heap.size, 0, none⟩) := by rw [ha]; simp only [evb, pvb, rnb, kb, hN, seval, g1]
  have g3' : get a6 3 = v6 := by rw [ha]; simp only [evb, pvb, rnb, kb, hN, seval]
  clear ha hc3' happ r1 r2 f1 f2 hsq hsrcq hb hc0 hs3 hN hD g1 g3
  have hN := hN'
  have hD := hD'
  have g1 := g1'
  have g3 := g3'
  clear hN' hD' g1' g3'
  have hb := hb1.chg hc3 fun h => h
  have hc0 := hc1.trans hc3 fun _ _ h => h
  have hs3 := hc3.size
  have l0 := hb.ld (i := 8) (v := vh) (by rw [hvs]; rfl)
  obtain ⟨oh, ch, hvh, hch⟩ := p5.sl
  rw [hvh] at l0
  refine wp_seq_k fun K hK => ?_; refine zac ?_; (repeat ((with_reducible refine zah ?_ ?_ ?_); (· simp [evb, pvb, rnb, kb, hN, g1, g3, ofR, l0, dyb, sdb] <;> omega); (· kernel_rfl); try simp only [evb, pvb, rnb, kb, hN, seval, g1, g3, ofR, l0]))
  refine zak (fun args w => Tryd.call28 args w) (by simp only [List.map_toArray, List.map_cons, List.map_nil, evb, kb, hN, seval]; exact svarint_c x.hs.length (by omega) _) ?_
  rintro vq wq ⟨r1, r2⟩
  obtain ⟨oq, cq, rfl, f1, f2⟩ := own_at r1
  have hsq := r2.size
  have hsrcq : zam wq (fun g => w6.heap.size ≤ g) oq (zaN x.hs.length) := f2
  refine wl_append (c := cq) (oa := oq) (base := w1.heap.size) (bs := be 1 x.attr ++ zaN x.delta ++ zaN x.off ++ octB x.key ++ octB x.val) bT (by simp only [evb, pvb, rnb, kb, hN, seval, g3]) (by simp only [evb, pvb, rnb, kb, hN, seval]) (hown.chg r2 fun _ _ h => h) f2 (by unfold LIM; simp only [List.length_append, zas]; omega) (by omega) ?_
  intro v7 w7 happ
  have hc3' : Chg (fun _ => False) w1 w7 := (hc3.trans r2 fun _ _ h => h).trans happ.chg fun n hn hk => by have := (hown.lt n hk).1; omega
  (repeat ((with_reducible refine zah ?_ ?_ ?_); (· simp [evb, pvb, rnb, kb, hN, dyb, sdb] <;> omega); (· kernel_rfl); try simp only [evb, pvb, rnb, kb, hN, seval])); refine zaa ?_; refine hK _ _ ?_; clear hK K
  replace hc3 := hc3'
  replace hown := happ.own
  refine zaw fun a7 ha => ?_
  have hN' : a7.tmps.size = 49 := by rw [ha]; simp only [zaf]; exact hN
  have hD' : a7.defers = [] := by rw [ha]; simp only [zab]; exact hD
  have g1' : get a7 1 = .pointer (some ⟨w.heap.size, 0, none⟩) := by rw [ha]; simp only [evb, pvb, rnb, kb, hN, seval, g1]
  have g3' : get a7 3 = v7 := by rw [ha]; simp only [evb, pvb, rnb, kb, hN, seval]
  clear ha hc3' happ r1 r2 f1 f2 hsq hsrcq hb hc0 hs3 l0 hN hD g1 g3
  have hN := hN'
  have hD := hD'
  have g1 := g1'
  have g3 := g3'
  clear hN' hD' g1' g3'
  have hown0 : Own eB w7 w1.heap.size v7 (preB x) := hown
  clear hown
  have hb7 := hb1.chg hc3 fun h => h
  have l8 := hb7.ld (i := 8) (v := vh) (by rw [hvs]; rfl)
  rw [hvh] at l8
  refine wp_seq_k fun K hK => ?_; refine wp_seq_k fun K1 hK1 => ?_; refine zac ?_; (repeat ((with_reducible refine zah ?_ ?_ ?_); (· simp [evb, pvb, rnb, kb, hN, g1, ofR, l8, dyb, sdb] <;> omega); (· kernel_rfl); try simp only [evb, pvb, rnb, kb, hN, seval, g1, ofR, l8])); refine zaa ?_; refine hK1 _ _ ?_; try clear hK1 K1
  refine wp_range (n := x.hs.length) (fun i a' w' => ∃ v, a'.tmps.size = 49 ∧ a'.defers = [] ∧ get a' 37 = .slice oh x.hs.length ch ∧ get a' 3 = v ∧ Own eB w' w1.heap.size v (preB x ++ (x.hs.take i).flatMap hdB) ∧ Chg (fun _ => False) w1 w') 49 (by omega)
    (by simp only [evb, kb, hN, seval]; try rfl) (by simp only [evb, kb, hN, seval]) ⟨v7, by simp only [zaf, hN], by simp only [zab, hD], by simp only [evb, pvb, rnb, kb, hN, seval], by simp only [evb, pvb, rnb, kb, hN, seval, g3], by simpa using hown0, hc3⟩ ?_ ?_ (by decide) ?_ ?_
  · rintro i a w ⟨_, h, _⟩; exact h
  · rintro i a w t v ht ⟨u, k1, k2, k3, k4, k5⟩
    rcases ht with rfl | rfl | rfl <;> exact ⟨u, by rw [zaf]; exact k1, by rw [zab]; exact k2, by rw [zaq (by decide)]; exact k3, by rw [zaq (by decide)]; exact k4, k5⟩
  · clear hN hD g1 g3 l8 hb7 hc3 hown0
    rintro i a1 w2 hi ⟨v, hN, hD, g37, g3, hown, hc2⟩ g38 g39
    have hx : x.hs[i]? = some x.hs[i] := by simp [hi]
    generalize x.hs[i] = y at hx
    obtain ⟨oa, cap, e1, _, hrow⟩ := p5
    rw [hvh] at e1
    obtain ⟨rfl, rfl⟩ : oh = oa ∧ ch = cap := by simpa using e1
    rcases hrow with e | ⟨b, o, cs, T, rfl, hGb, hb, htl⟩
    · rw [e] at hi; simp at hi
    obtain ⟨hcx, hlx⟩ := htl.get one_hd hx
    have hc02 := hc1.trans hc2 fun _ _ h => h
    have hb2 : Rbk w2 b cs T := hb.chg hc02 (fun h => h)
    rw [List.length_drop] at hlx
    rw [List.drop_drop] at hcx
    have hlen := one_hd.len hcx
    have hcl := one_hd.cell hcx
    have hyL := hL.hk y (List.mem_of_getElem? hx)
    have hfl := flat_hd (x.hs.take i) fun h hh => hL.hk h (List.mem_of_mem_take hh)
    have htk : (x.hs.take i).length ≤ 1000 := by rw [List.length_take]; omega
    have hyl := hdB_len y
    have hs2 := hc2.size
    refine wp_seq_k fun K3 hK3 => ?_; refine zac ?_
    refine wl_indexAddr (b := b) (o := o) (k := .i64) (i := i) (n := 3) (len := x.hs.length) (cap := ch) (by kernel_rfl) (by simp [evb, kb, hN, g37, sdb]) (by simp [evb, kb, hN, g39, sdb]) hi ?_
    refine wl_loadAgg_r (b := b) (o := o + i * 3) (n := 3) (by kernel_rfl) (by kernel_rfl) (by simp [evb, kb, hN, sdb]) hb2 (by omega) ?_
    generalize (cs.drop (o + i * 3)).take 3 = vx at hcx hlen hcl
    refine zaH (z := zax [.string ⟨#[]⟩, .bool false, .slice none 0 0]) (fun w => Tryd.zeroValue55 w) fun w3 hc3 hb3 hs3 => ?_
    refine zaA (b := w2.heap.size) (n := 3) (l' := vx) (by kernel_rfl) (by simp [evb, kb, hN, sdb]) (by simp [evb, kb, hN, sdb]; rfl) hb3 hlen hcl rfl fun w4 hb4 hc4 => ?_
    refine zaa ?_; refine hK3 _ _ ?_; try clear hK3 K3
    have hc24 : Chg (fun _ => False) w2 w4 := hc3.trans hc4 fun n hn h => by omega
    have hc04 := hc02.trans hc24 fun _ _ h => h
    refine zac ?_; (repeat ((with_reducible refine zah ?_ ?_ ?_); (· simp [evb, pvb, rnb, kb, hN, g3, dyb, sdb] <;> omega); (· kernel_rfl); try simp only [evb, pvb, rnb, kb, hN, seval, g3]))
    refine zay (b := w2.heap.size) (o := 0) (n := 3) (by kernel_rfl) (by kernel_rfl) (by simp [evb, kb, hN, sdb]) hb4 (by omega) ?_
    rw [List.drop_zero, List.take_of_length_le (show vx.length ≤ 3 by omega)]
    refine zak (fun args w => Tryd.call30 args w) (by simp only [List.map_toArray, List.map_cons, List.map_nil, evb, kb, hN, seval]; exact headerBytes_c (w := w4) (x := y) (one_hd.stay (Stay.of hc04 fun _ _ _ h => h) hcx) ⟨by omega, by omega⟩) ?_
    rintro vq wq ⟨r1, r2⟩
    obtain ⟨oq, cq, rfl, f1, f2⟩ := own_at r1
    have hsq := r2.size
    have hs24 := hc24.size
    refine wl_append (c := cq) (oa := oq) (base := w1.heap.size) (bs := preB x ++ (x.hs.take i).flatMap hdB) bT (by simp only [evb, pvb, rnb, kb, hN, seval, g3]) (by simp only [evb, pvb, rnb, kb, hN, seval]) ((hown.chg hc24 fun _ _ h => h).chg r2 fun _ _ h => h) f2 (by unfold LIM; rw [List.length_append]; omega) (by omega) ?_
    intro v5 w5 happ
    (repeat ((with_reducible refine zah ?_ ?_ ?_); (· simp [evb, pvb, rnb, kb, hN, dyb, sdb] <;> omega); (· kernel_rfl); try simp only [evb, pvb, rnb, kb, hN, seval]))
    refine zaa ⟨⟨v5, by simp only [zaf, hN], by simp only [zab, hD], by simp only [evb, kb, hN, seval, g37], by simp only [evb, kb, hN, seval], ?_, ((hc2.trans hc24 fun _ _ h => h).trans r2 fun _ _ h => h).trans happ.chg fun n hn hk => by have := (hown.lt n hk).1; change w1.heap.size ≤ n at this; omega⟩, by simp only [evb, kb, hN, seval, g38], by simp only [evb, kb, hN, seval, g39]⟩
    rw [List.take_succ, hx, Option.toList_some, List.flatMap_append, List.flatMap_cons, List.flatMap_nil, List.append_nil, ← List.append_assoc]
    exact happ.own
  · clear hN hD g1 g3 l8 hb7 hc3 hown0
    rintro a1 w2 ⟨v, hN, hD, g37, g3, hown, hc2⟩
    refine hK _ _ ?_
    clear hK K
    refine wp_seq_k fun K hK => ?_; refine zac ?_; (repeat ((with_reducible refine zah ?_ ?_ ?_); (· simp [evb, pvb, rnb, kb, hN, g3, dyb, sdb] <;> omega); (· kernel_rfl); try simp only [evb, pvb, rnb, kb, hN, seval, g3])); refine zaa ?_; refine hK _ _ ?_; clear hK K; refine wp_ret ⟨by simp [zab, hD], ?_⟩; simp only [evb, kb, hN, seval]
    rw [List.take_length] at hown
    exact .mk2 (base := w1.heap.size) hown (by omega) (hc1.trans hc2 fun _ _ h => h)
def littleB (r : Rc) : Bool := decide (r.hs.length ≤ 1000) && decide ((zaJ r).length ≤ 131072)
theorem restB_len {r : Rc} (h : RcL r) (h3 : r.hs.length ≤ 1000) : (zaJ r).length ≤ 2147483000 := by
  unfold zaJ
  have h1 := preB_len h
  have h2 := flat_hd r.hs h.hk
  rw [List.length_append]; omega
theorem little_c {w : World} {G : Nat → Prop} {x : Rc} {vs : List Value} (h : RcC w G x vs) (hL : RcL x) : zan Tryd.prog 6 #[zax vs] w fun v w' => v = .bool (littleB x) ∧ Chg (fun _ => False) w w' := by
  have hlen := one_rc.len h
  have hcell := one_rc.cell h
  refine zaj Tryd.func6 rfl rfl Tryd.ntmps6 (by simp) ?_
  intro a hN hD hargs
  have h0 : get a 0 = zax vs := hargs 0 _ rfl
  have h' := h
  obtain ⟨k1, k2, v1, v2, vh, hvs, ⟨p1, p2⟩, ⟨p3, p4⟩, p5, p6⟩ := h'
  refine wp_seq_k fun K hK => ?_; refine zac ?_
  refine zaQ (l := vs) (by simp [evb, kb, hN, h0, sdb]) fun w1 hc1 hb1 hs1 => ?_
  (repeat ((with_reducible refine zah ?_ ?_ ?_); (· simp [evb, pvb, rnb, kb, hN, dyb, sdb] <;> omega); (· kernel_rfl); try simp only [evb, pvb, rnb, kb, hN, seval])); refine zaa ?_; refine hK _ _ ?_; clear hK K
  obtain ⟨oh, ch, hvh, hch⟩ := p5.sl
  have l8 := hb1.ld (i := 8) (v := .slice oh x.hs.length ch) (by rw [hvs, hvh]; rfl)
  have hx1 : RcC w1 G x vs := one_rc.stay (Stay.of hc1 fun _ _ _ h => h) h
  by_cases hle : x.hs.length ≤ 1000
  · have d1 : decide ((x.hs.length : Int) ≤ 1000) = true := decide_eq_true (by omega)
    refine wp_seq_k fun K hK => ?_; refine zac ?_; (repeat (first | ((with_reducible refine zah ?_ ?_ ?_); (· simp [evb, pvb, rnb, kb, hN, seval, l8, ofR, d1, dyb, sdb] <;> omega); (· kernel_rfl); try simp only [evb, pvb, rnb, kb, hN, seval, l8, ofR, d1]) | ((with_reducible apply zau); (· exact rfl); (· exact rfl); (· simp [evb, pvb, rnb, kb, hN, seval, l8, ofR, d1]; done); try simp only [evb, pvb, rnb, kb, hN, seval, l8, ofR, d1]) | ((with_reducible apply zaD); (· exact rfl); (· exact rfl); (· simp [evb, pvb, rnb, kb, hN, seval, l8, ofR, d1]; done); try simp only [evb, pvb, rnb, kb, hN, seval, l8, ofR, d1]) | ((with_reducible apply zaE); (· exact rfl); (· exact rfl); (· simp [evb, pvb, rnb, kb, hN, seval, l8, ofR, d1]; done); try simp only [evb, pvb, rnb, kb, hN, seval, l8, ofR, d1])))
    refine zay (b := w.heap.size) (o := 0) (n := 9) (by kernel_rfl) (by kernel_rfl) (by simp only [evb, pvb, rnb, kb, hN, seval]) hb1 (by omega) ?_
    rw [List.drop_zero, List.take_of_length_le (show vs.length ≤ 9 by omega)]
    (repeat (first | ((with_reducible refine zah ?_ ?_ ?_); (· simp [evb, pvb, rnb, kb, hN, seval, dyb, sdb] <;> omega); (· kernel_rfl); try simp only [evb, pvb, rnb, kb, hN, seval]) | ((with_reducible apply zau); (· exact rfl); (· exact rfl); (· simp [evb, pvb, rnb, kb, hN, seval]; done); try simp only [evb, pvb, rnb, kb, hN, seval]) | ((with_reducible apply zaD); (· exact rfl); (· exact rfl); (· simp [evb, pvb, rnb, kb, hN, seval]; done); try simp only [evb, pvb, rnb, kb, hN, seval]) | ((with_reducible apply zaE); (· exact rfl); (· exact rfl); (· simp [evb, pvb, rnb, kb, hN, seval]; done); try simp only [evb, pvb, rnb, kb, hN, seval])))
    refine zak (fun args w => Tryd.call16 args w) (by simp only [List.map_toArray, List.map_cons, List.map_nil, evb, kb, hN, seval]; exact recordRest_c hx1 hL hle) ?_
    rintro v2 w2 ⟨r1, r2⟩
    obtain ⟨oq, cq, rfl, f1, f2⟩ := own_at r1
    rcases Bool.eq_false_or_eq_true (decide (((zaJ x).length : Int) ≤ 131072)) with e | e
    · (repeat (first | ((with_reducible refine zah ?_ ?_ ?_); (· simp [evb, pvb, rnb, kb, hN, seval, e, dyb, sdb] <;> omega); (· kernel_rfl); try simp only [evb, pvb, rnb, kb, hN, seval, e]) | ((with_reducible apply zau); (· exact rfl); (· exact rfl); (· simp [evb, pvb, rnb, kb, hN, seval, e]; done); try simp only [evb, pvb, rnb, kb, hN, seval, e]) | ((with_reducible apply zaD); (· exact rfl); (· exact rfl); (· simp [evb, pvb, rnb, kb, hN, seval, e]; done); try simp only [evb, pvb, rnb, kb, hN, seval, e]) | ((with_reducible apply zaE); (· exact rfl); (· exact rfl); (· simp [evb, pvb, rnb, kb, hN, seval, e]; done); try simp only [evb, pvb, rnb, kb, hN, seval, e]))); refine zaa ?_; refine hK _ _ ?_; clear hK K; refine wp_ret ⟨by simp [zab, hD], ?_⟩; simp only [evb, kb, hN, seval]
      refine ⟨?_, hc1.trans r2 fun _ _ h => h⟩
      unfold littleB
      rw [decide_eq_true hle, decide_eq_true (by have := of_decide_eq_true e; omega)]; rfl
    · (repeat (first | ((with_reducible refine zah ?_ ?_ ?_); (· simp [evb, pvb, rnb, kb, hN, seval, e, dyb, sdb] <;> omega); (· kernel_rfl); try simp only [evb, pvb, rnb, kb, hN, seval, e]) | ((with_reducible apply zau); (· exact rfl); (· exact rfl); (· simp [evb, pvb, rnb, kb, hN, seval, e]; done); try simp only [evb, pvb, rnb, kb, hN, seval, e]) | ((with_reducible apply zaD); (· exact rfl); (· exact rfl); (· simp [evb, pvb, rnb, kb, hN, seval, e]; done); try simp only [evb, pvb, rnb, kb, hN, seval, e]) | ((with_reducible apply zaE); (· exact rfl); (· exact rfl); (· simp [evb, pvb, rnb, kb, hN, seval, e]; done); try simp only [evb, pvb, rnb, kb, hN, seval, e]))); refine zaa ?_; refine hK _ _ ?_; clear hK K; refine wp_ret ⟨by simp [zab, hD], ?_⟩; simp only [evb, kb, hN, seval]
      refine ⟨?_, hc1.trans r2 fun _ _ h => h⟩
      unfold littleB
      rw [decide_eq_true hle, decide_eq_false (by have := of_decide_eq_false e; omega)]; rfl
  · have d1 : decide ((x.hs.length : Int) ≤ 1000) = false := decide_eq_false (by omega)
    refine wp_seq_k fun K hK => ?_; refine zac ?_; (repeat (first | ((with_reducible refine zah ?_ ?_ ?_); (· simp [evb, pvb, rnb, kb, hN, seval, l8, ofR, d1, dyb, sdb] <;> omega); (· kernel_rfl); try simp only [evb, pvb, rnb, kb, hN, seval, l8, ofR, d1]) | ((with_reducible apply zau); (· exact rfl); (· exact rfl); (· simp [evb, pvb, rnb, kb, hN, seval, l8, ofR, d1]; done); try simp only [evb, pvb, rnb, kb, hN, seval, l8, ofR, d1]) | ((with_reducible apply zaD); (· exact rfl); (· exact rfl); (· simp [evb, pvb, rnb, kb, hN, seval, l8, ofR, d1]; done); try simp only [evb, pvb, rnb, kb, hN, seval, l8, ofR, d1]) | ((with_reducible apply zaE); (· exact rfl); (· exact rfl); (· simp [evb, pvb, rnb, kb, hN, seval, l8, ofR, d1]; done); try simp only [evb, pvb, rnb, kb, hN, seval, l8, ofR, d1]))); refine zaa ?_; refine hK _ _ ?_; clear hK K; refine wp_ret ⟨by simp [zab, hD], ?_⟩; simp only [evb, kb, hN, seval]
    refine ⟨?_, hc1⟩
    unfold littleB
    rw [decide_eq_false hle]; rfl
end Go.Proofs.YtojpodeljpfgaaaDoor
namespace Go.Proofs.YtojpodeljpfgaaaDoor
set_option linter.all false
open Go.RowKit
set_option maxRecDepth 10000
set_option maxHeartbeats 4000000
def meas (x : Rc) : Rc := { x with len := (zaJ x).length }
theorem i32_sm {n : Int} (h : -2147483648 ≤ n ∧ n < 2147483648) : IntKind.i32.wrap n = n := by rw [i32_wrap]; unfold wrap32i; omega
theorem measured_c {w : World} {G : Nat → Prop} {x : Rc} {vs : List Value} (h : RcC w G x vs) (hL : RcL x) (h1000 : x.hs.length ≤ 1000) : zan Tryd.prog 8 #[zax vs] w fun v w' => ∃ vs', v = zax vs' ∧ RcC w' G (meas x) vs' ∧ Chg (fun _ => False) w w' := by
  have hlen := one_rc.len h
  refine callsR_ofC Tryd.func8 rfl rfl (by kernel_rfl) Tryd.ntmps8 (by simp) ?_
  intro a hN hD hargs
  have h0 : get a 0 = zax vs := hargs 0 _ rfl
  refine wp_seq_k fun K hK => ?_; refine zac ?_
  refine zaQ (l := vs) (by simp [evb, kb, hN, h0, sdb]) fun w1 hc1 hb1 hs1 => ?_
  refine zaH (z := zax [.int .i32 0, .int .i8 0, .int .i64 0, .int .i32 0, .bool false, .slice none 0 0, .bool false, .slice none 0 0, .slice none 0 0]) (fun w => Tryd.zeroValue34 w) fun w2 hc2 hb2 hs2 => ?_
  refine zaa ?_; refine hK _ _ ?_; clear hK K
  have hc02 := hc1.trans hc2 fun _ _ h => h
  have hb12 := hb1.chg hc2 fun h => h
  refine wp_seq_k fun K hK => ?_; refine zac ?_
  refine zay (b := w.heap.size) (o := 0) (n := 9) (by kernel_rfl) (by kernel_rfl) (by simp only [evb, pvb, rnb, kb, hN, seval]) hb12 (by omega) ?_
  rw [List.drop_zero, List.take_of_length_le (show vs.length ≤ 9 by omega)]
  refine zak (fun args w => Tryd.call16 args w) (by simp only [List.map_toArray, List.map_cons, List.map_nil, evb, kb, hN, seval]; exact recordRest_c (one_rc.stay (Stay.of hc02 fun _ _ _ h => h) h) hL h1000) ?_
  rintro v3 w3 ⟨r1, r2⟩
  obtain ⟨oq, cq, rfl, f1, f2⟩ := own_at r1
  have hr := restB_len hL h1000
  have hi : IntKind.i32.wrap ((zaJ x).length : Int) = (zaJ x).length := i32_sm (by omega)
  (repeat ((with_reducible refine zah ?_ ?_ ?_); (· simp [evb, pvb, rnb, kb, hN, hi, ofR, dyb, sdb] <;> omega); (· kernel_rfl); try simp only [evb, pvb, rnb, kb, hN, seval, hi, ofR]))
  have hc03 := hc02.trans r2 fun _ _ h => h
  refine zap (b := w.heap.size) (o := 0) (n := 1) (v := .int .i32 (zaJ x).length) (by kernel_rfl) (by simp only [evb, pvb, rnb, kb, hN, seval]) (by simp only [evb, pvb, rnb, kb, hN, seval]) (hb12.chg r2 fun h => h) rfl (by intro y hy; simp only [Value.cells, List.mem_singleton] at hy; subst hy; rfl) (by omega) fun w4 hb4 hc4 => ?_
  refine zaa ?_; refine hK _ _ ?_; clear hK K
  have hc04 : Chg (fun _ => False) w w4 := hc03.trans hc4 fun n hn e => by omega
  have h4 := one_rc.stay (Stay.of hc04 fun _ _ _ h => h) h
  generalize hvs' : zaM vs 0 (Value.int .i32 (zaJ x).length).cells.toList = vs' at hb4
  have h4' : RcC w4 G (meas x) vs' := by
    obtain ⟨k1, k2, v1, v2, vh, rfl, p1, p2, p3, p4⟩ := h4
    refine ⟨k1, k2, v1, v2, vh, ?_, p1, p2, p3, ⟨by show _ ≤ ((zaJ x).length : Int) ∧ ((zaJ x).length : Int) < _; omega, p4.2⟩⟩
    rw [← hvs']; rfl
  have hlen' := one_rc.len h4'
  refine wp_seq_k fun K hK => ?_; refine zac ?_
  refine zay (b := w.heap.size) (o := 0) (n := 9) (by kernel_rfl) (by kernel_rfl) (by simp only [evb, pvb, rnb, kb, hN, seval]) hb4 (by omega) ?_
  rw [List.drop_zero, List.take_of_length_le (show vs'.length ≤ 9 by omega)]
  have hb24 : Blk w4 w1.heap.size _ _ := (hb2.chg r2 fun h => h).chg hc4 (by omega)
  refine zaA (b := w1.heap.size) (n := 9) (l' := vs') (by kernel_rfl) (by simp only [evb, pvb, rnb, kb, hN, seval]) (by simp only [evb, pvb, rnb, kb, hN, seval]; rfl) hb24 hlen' (one_rc.cell h4') rfl fun w5 hb5 hc5 => ?_
  refine zaa ?_; refine hK _ _ ?_; clear hK K
  have hs3 := hc03.size
  have hc45 : ∀ n, n < w.heap.size → ¬ n = w1.heap.size := fun n hn e => by omega
  have hc05 : Chg (fun _ => False) w w5 := hc04.trans hc5 fun n hn e => by omega
  refine wp_ret ⟨by simp only [zab, hD], w1.heap.size, _, _, by simp only [evb, pvb, rnb, kb, hN, seval], hb5, by rw [hlen']; kernel_rfl, vs', rfl, ?_, hc05⟩
  obtain ⟨k1, k2, v1, v2, vh, e, p1, p2, p3, p4⟩ := one_rc.stay (Stay.of hc05 fun _ _ _ h => h) h
  obtain ⟨l1, l2, m1, m2, mh, e', p1', p2', p3', p4'⟩ := h4'
  refine ⟨k1, k2, v1, v2, vh, ?_, p1, p2, p3, p4'⟩
  rw [← hvs', e]; rfl
structure Bt where
  first : Int
  len : Int
  epoch : Int
  magic : Int
  crc : Int
  attr : Int
  last : Int
  firstT : Int
  maxT : Int
  prod : Int
  pep : Int
  seq : Int
  many : Int
  recs : Bs
structure BtR (b : Bt) : Prop where
  first : -9223372036854775808 ≤ b.first ∧ b.first < 9223372036854775808
  len : -2147483648 ≤ b.len ∧ b.len < 2147483648
  epoch : -2147483648 ≤ b.epoch ∧ b.epoch < 2147483648
  magic : -128 ≤ b.magic ∧ b.magic < 128
  crc : -2147483648 ≤ b.crc ∧ b.crc < 2147483648
  attr : -32768 ≤ b.attr ∧ b.attr < 32768
  last : -2147483648 ≤ b.last ∧ b.last < 2147483648
  firstT : -9223372036854775808 ≤ b.firstT ∧ b.firstT < 9223372036854775808
  maxT : -9223372036854775808 ≤ b.maxT ∧ b.maxT < 9223372036854775808
  prod : -9223372036854775808 ≤ b.prod ∧ b.prod < 9223372036854775808
  pep : -32768 ≤ b.pep ∧ b.pep < 32768
  seq : -2147483648 ≤ b.seq ∧ b.seq < 2147483648
  many : -2147483648 ≤ b.many ∧ b.many < 2147483648
def btV (b : Bt) (v : Value) : List Value := [.int .i64 b.first, .int .i32 b.len, .int .i32 b.epoch, .int .i8 b.magic, .int .i32 b.crc, .int .i16 b.attr, .int .i32 b.last, .int .i64 b.firstT, .int .i64 b.maxT, .int .i64 b.prod, .int .i16 b.pep, .int .i32 b.seq, .int .i32 b.many, v]
def BtC : Ov Bt := fun w G b vs => ∃ oa cap, vs = btV b (.slice oa b.recs.length cap) ∧ b.recs.length ≤ cap ∧ zam w G oa b.recs ∧ BtR b
theorem one_bt : One 14 BtC := ⟨by decide, fun ⟨_, _, h, _⟩ => by rw [h]; rfl, fun st ⟨oa, cap, h1, h2, h3, h4⟩ => ⟨oa, cap, h1, h2, h3.stay st, h4⟩, fun ⟨_, _, h, _⟩ u hu => by
  rw [h] at hu
  simp only [btV, List.mem_cons, List.not_mem_nil, or_false] at hu
  rcases hu with rfl | rfl | rfl | rfl | rfl | rfl | rfl | rfl | rfl | rfl | rfl | rfl | rfl | rfl <;> rfl⟩
theorem ofB : fOff Tryd.prog 26 0 = 0 ∧ fOff Tryd.prog 26 1 = 1 ∧ fOff Tryd.prog 26 2 = 2 ∧ fOff Tryd.prog 26 3 = 3 ∧ fOff Tryd.prog 26 4 = 4 ∧ fOff Tryd.prog 26 5 = 5 ∧ fOff Tryd.prog 26 6 = 6 ∧
    fOff Tryd.prog 26 7 = 7 ∧ fOff Tryd.prog 26 8 = 8 ∧ fOff Tryd.prog 26 9 = 9 ∧ fOff Tryd.prog 26 10 = 10 ∧ fOff Tryd.prog 26 11 = 11 ∧ fOff Tryd.prog 26 12 = 12 ∧ fOff Tryd.prog 26 13 = 13 :=
  ⟨by kernel_rfl, by kernel_rfl, by kernel_rfl, by kernel_rfl, by kernel_rfl, by kernel_rfl, by kernel_rfl, by kernel_rfl, by kernel_rfl, by kernel_rfl, by kernel_rfl, by kernel_rfl, by kernel_rfl, by kernel_rfl⟩
theorem ofKB : fOff Tryd.prog 60 0 = 0 ∧ fOff Tryd.prog 60 1 = 1 ∧ fOff Tryd.prog 60 2 = 2 ∧ fOff Tryd.prog 60 3 = 3 ∧ fOff Tryd.prog 60 4 = 4 ∧ fOff Tryd.prog 60 5 = 5 ∧ fOff Tryd.prog 60 6 = 6 ∧
    fOff Tryd.prog 60 7 = 7 ∧ fOff Tryd.prog 60 8 = 8 ∧ fOff Tryd.prog 60 9 = 9 ∧ fOff Tryd.prog 60 10 = 10 ∧ fOff Tryd.prog 60 11 = 11 ∧ fOff Tryd.prog 60 12 = 12 ∧ fOff Tryd.prog 60 13 = 13 :=
  ⟨by kernel_rfl, by kernel_rfl, by kernel_rfl, by kernel_rfl, by kernel_rfl, by kernel_rfl, by kernel_rfl, by kernel_rfl, by kernel_rfl, by kernel_rfl, by kernel_rfl, by kernel_rfl, by kernel_rfl, by kernel_rfl⟩
def whole (b : Bt) : Bt := { b with len := 49 + b.recs.length }
theorem whole_c {w : World} {G : Nat → Prop} {b : Bt} {vs : List Value} (h : BtC w G b vs) (hl : b.recs.length ≤ 1073741824) : zan Tryd.prog 9 #[zax vs] w fun v w' => ∃ vs', v = zax vs' ∧ BtC w' G (whole b) vs' ∧ Chg (fun _ => False) w w' := by
  obtain ⟨oa, cap, rfl, k1, k2, k3⟩ := h
  refine callsR_ofC Tryd.func9 rfl rfl (by kernel_rfl) Tryd.ntmps9 (by simp) ?_
  intro a hN hD hargs
  have h0 : get a 0 = zax (btV b (.slice oa b.recs.length cap)) := hargs 0 _ rfl
  refine wp_seq_k fun K hK => ?_; refine zac ?_
  refine zaQ (l := btV b (.slice oa b.recs.length cap)) (by simp [evb, kb, hN, h0, sdb]) fun w1 hc1 hb1 hs1 => ?_
  refine zaH (z := zax (btV ⟨0, 0, 0, 0, 0, 0, 0, 0, 0, 0, 0, 0, 0, []⟩ (.slice none 0 0))) (fun w => Tryd.zeroValue26 w) fun w2 hc2 hb2 hs2 => ?_
  refine zaa ?_; refine hK _ _ ?_; clear hK K
  have hc02 := hc1.trans hc2 fun _ _ h => h
  have hb12 := hb1.chg hc2 fun h => h
  have l13 := hb12.ld (i := 13) (v := .slice oa b.recs.length cap) rfl
  have hi0 : IntKind.i64.wrap (49 + (b.recs.length : Int)) = 49 + b.recs.length := i64_sm _ (by omega)
  have hi : IntKind.i32.wrap (49 + (b.recs.length : Int)) = 49 + b.recs.length := i32_sm (by omega)
  refine wp_seq_k fun K hK => ?_; refine zac ?_; (repeat ((with_reducible refine zah ?_ ?_ ?_); (· simp [evb, pvb, rnb, kb, hN, l13, ofB, hi0, hi, dyb, sdb] <;> omega); (· kernel_rfl); try simp only [evb, pvb, rnb, kb, hN, seval, l13, ofB, hi0, hi]))
  refine zap (b := w.heap.size) (o := 1) (n := 1) (v := .int .i32 (49 + b.recs.length)) (by kernel_rfl) (by simp only [evb, pvb, rnb, kb, hN, seval]) (by simp only [evb, pvb, rnb, kb, hN, seval]) hb12 rfl (by intro y hy; simp only [Value.cells, List.mem_singleton] at hy; subst hy; rfl) (by show 1 + 1 ≤ 14; omega) fun w4 hb4 hc4 => ?_
  refine zaa ?_; refine hK _ _ ?_; clear hK K
  have hc04 : Chg (fun _ => False) w w4 := hc02.trans hc4 fun n hn e => by omega
  have e4 : zaM (btV b (.slice oa b.recs.length cap)) 1 (Value.int .i32 (49 + b.recs.length)).cells.toList = btV (whole b) (.slice oa b.recs.length cap) := rfl
  rw [e4] at hb4
  refine wp_seq_k fun K hK => ?_; refine zac ?_
  refine zay (b := w.heap.size) (o := 0) (n := 14) (by kernel_rfl) (by kernel_rfl) (by simp only [evb, pvb, rnb, kb, hN, seval]) hb4 (by show 0 + 14 ≤ 14; omega) ?_
  rw [show ((btV (whole b) (.slice oa b.recs.length cap)).drop 0).take 14 = btV (whole b) (.slice oa b.recs.length cap) from rfl]
  have hR : BtR (whole b) := { k3 with len := by show _ ≤ 49 + (b.recs.length : Int) ∧ 49 + (b.recs.length : Int) < _; omega }
  have hcl : BtC w4 G (whole b) (btV (whole b) (.slice oa b.recs.length cap)) := ⟨oa, cap, rfl, k1, k2.chg hc04 fun _ _ _ h => h, hR⟩
  refine zaA (b := w1.heap.size) (n := 14) (l' := btV (whole b) (.slice oa b.recs.length cap)) (by kernel_rfl) (by simp only [evb, pvb, rnb, kb, hN, seval]) (by simp only [evb, pvb, rnb, kb, hN, seval]; rfl) (hb2.chg hc4 (by omega)) rfl (one_bt.cell hcl) rfl fun w5 hb5 hc5 => ?_
  refine zaa ?_; refine hK _ _ ?_; clear hK K
  have hc05 : Chg (fun _ => False) w w5 := hc04.trans hc5 fun n hn e => by omega
  exact wp_ret ⟨by simp only [zab, hD], w1.heap.size, _, _, by simp only [evb, pvb, rnb, kb, hN, seval], hb5, by kernel_rfl, _, rfl, ⟨oa, cap, rfl, k1, k2.chg hc05 fun _ _ _ h => h, hR⟩, hc05⟩
def obB (o : Option Bs) : Bs := match o with
  | none => zaN (-1)
  | some l => zaN l.length ++ l
def obL (o : Option Bs) : Nat := match o with
  | none => 0
  | some l => l.length
theorem obB_octO (x : Oct) : obB (octO x) = octB x := by unfold obB octO octB; cases x.null <;> rfl
theorem obB_len (o : Option Bs) : (obB o).length ≤ 10 + obL o := by
  unfold obB obL
  cases o with
  | none => exact (zaC (-1)).2
  | some l =>
    have := zaC l.length
    simp only [List.length_append]; omega
theorem outNB.stay {w w' : World} {G G' : Nat → Prop} (st : Stay w w' G G') {o : Option Bs} {v : Value} (h : outNB w G o v) : outNB w' G' o v := by
  unfold outNB at h ⊢
  cases o with
  | none => exact h
  | some l => obtain ⟨b, cap, h1, h2, h3⟩ := h; exact ⟨b, cap, h1, h2, h3.stay st⟩
theorem outNB.one {w : World} {G : Nat → Prop} {o : Option Bs} {v : Value} (h : outNB w G o v) : v.oneCell' = true ∧ v.cells = #[v] := by
  unfold outNB at h
  cases o with
  | none => cases h; exact ⟨rfl, rfl⟩
  | some l => obtain ⟨b, cap, rfl, _⟩ := h; exact ⟨rfl, rfl⟩
theorem AppendVarintBytes_o {o : Option Bs} {v1 : Value} {w : World} {G : Nat → Prop} (h : outNB w G o v1) (hl : obL o < 2147483648) {base : Nat} {v : Value} {bs : Bs} (hown : Own eB w base v bs) (hlim : bs.length + (obB o).length ≤ LIM) (hb : base ≤ w.heap.size)
    (hG : ∀ k, G k → k < base) : zan Tryd.prog 34 #[v, v1] w (App eB w base v (bs ++ obB o)) := by
  have hG' : ∀ k, v.ownBlock = some k → ¬ G k := fun k hk hg => by have := hG k hg; have := (hown.lt k hk).1; omega
  unfold outNB at h
  cases o with
  | none => subst h; exact AppendVarintBytes_c (oa := none) (l := []) (by simp) (by simp) hown hlim hb (by simp) hG'
  | some l => obtain ⟨b, cap, rfl, h2, h3⟩ := h; exact AppendVarintBytes_c (oa := some b) (l := l) (by simp) hl hown hlim hb (fun _ => h3) hG'
structure Kh where
  key : Bs
  val : Option Bs
def KhC : Ov Kh := fun w G h vs => ∃ v, vs = [.string ⟨h.key.toArray⟩, v] ∧ outNB w G h.val v
theorem one_kh : One 2 KhC := ⟨by decide, fun ⟨_, h, _⟩ => by rw [h]; rfl, fun st ⟨v, h1, h2⟩ => ⟨v, h1, h2.stay st⟩, fun ⟨v, h, h2⟩ u hu => by
  rw [h] at hu
  simp only [List.mem_cons, List.not_mem_nil, or_false] at hu
  rcases hu with rfl | rfl
  · rfl
  · exact h2.one.1⟩
def khB (h : Kh) : Bs := zaN h.key.length ++ h.key ++ obB h.val
structure Kr where
  len : Int
  attr : Int
  d32 : Int
  d64 : Int
  off : Int
  key : Option Bs
  val : Option Bs
  hs : List Kh
def krV (x : Kr) (k v h : Value) : List Value := [.int .i32 x.len, .int .i8 x.attr, .int .i32 x.d32, .int .i64 x.d64, .int .i32 x.off, k, v, h]
def KrR (r : Kr) : Prop := (-2147483648 ≤ r.len ∧ r.len < 2147483648) ∧ (-128 ≤ r.attr ∧ r.attr < 128) ∧ (-2147483648 ≤ r.d32 ∧ r.d32 < 2147483648) ∧ (-9223372036854775808 ≤ r.d64 ∧ r.d64 < 9223372036854775808) ∧ (-2147483648 ≤ r.off ∧ r.off < 2147483648)
def KrC : Ov Kr := fun w G r vs => ∃ k v h, vs = krV r k v h ∧ outNB w G r.key k ∧ outNB w G r.val v ∧ LsS 2 KhC w G r.hs h ∧ KrR r
theorem one_kr : One 8 KrC := ⟨by decide, fun ⟨_, _, _, h, _⟩ => by rw [h]; rfl, fun st ⟨k, v, h, h1, h2, h3, h4, h5⟩ => ⟨k, v, h, h1, h2.stay st, h3.stay st, h4.stay one_kh st, h5⟩, fun ⟨k, v, h, h1, h2, h3, h4, h5⟩ u hu => by
  rw [h1] at hu
  obtain ⟨oa, cap, rfl, _⟩ := h4.sl
  simp only [krV, List.mem_cons, List.not_mem_nil, or_false] at hu
  rcases hu with rfl | rfl | rfl | rfl | rfl | rfl | rfl | rfl
  · rfl
  · rfl
  · rfl
  · rfl
  · rfl
  · exact h2.one.1
  · exact h3.one.1
  · rfl⟩
theorem ofKR : fOff Tryd.prog 53 0 = 0 ∧ fOff Tryd.prog 53 1 = 1 ∧ fOff Tryd.prog 53 2 = 2 ∧ fOff Tryd.prog 53 3 = 3 ∧ fOff Tryd.prog 53 4 = 4 ∧ fOff Tryd.prog 53 5 = 5 ∧ fOff Tryd.prog 53 6 = 6 ∧
    fOff Tryd.prog 53 7 = 7 ∧ fOff Tryd.prog 57 0 = 0 ∧ fOff Tryd.prog 57 1 = 1 ∧ eSz Tryd.prog 51 = 2 := ⟨by kernel_rfl, by kernel_rfl, by kernel_rfl, by kernel_rfl, by kernel_rfl, by kernel_rfl, by kernel_rfl, by kernel_rfl, by kernel_rfl, by kernel_rfl, by kernel_rfl⟩
def krDelta (x : Kr) : Int := if x.d64 = 0 then x.d32 else x.d64
def krPre (x : Kr) : Bs := zaN x.len ++ be 1 x.attr ++ zaN (krDelta x) ++ zaN x.off ++ obB x.key ++ obB x.val ++ zaN x.hs.length
def krB (x : Kr) : Bs := krPre x ++ x.hs.flatMap khB
structure KrL (x : Kr) : Prop where
  key : obL x.key ≤ 1048576
  val : obL x.val ≤ 1048576
  hs : x.hs.length ≤ 1000
  hk : ∀ h ∈ x.hs, h.key.length ≤ 1048576 ∧ obL h.val ≤ 1048576
theorem khB_len (h : Kh) : (khB h).length ≤ 20 + h.key.length + obL h.val := by
  unfold khB
  have h1 := zaC h.key.length
  have h2 := obB_len h.val
  rw [List.length_append, List.length_append]; omega
theorem flat_kh : ∀ (l : List Kh), (∀ h ∈ l, h.key.length ≤ 1048576 ∧ obL h.val ≤ 1048576) → (l.flatMap khB).length ≤ l.length * 2097172
  | [], _ => by simp
  | h :: r, hh => by
    have h1 := khB_len h
    have h2 := hh h List.mem_cons_self
    have ih := flat_kh r fun x hx => hh x (List.mem_cons_of_mem _ hx)
    rw [List.flatMap_cons, List.length_append, List.length_cons]; omega
theorem krPre_len {x : Kr} (h : KrL x) : (krPre x).length ≤ 2097300 := by
  unfold krPre
  have h0 := zaC x.len
  have h1 := zaC (krDelta x)
  have h2 := zaC x.off
  have h3 := obB_len x.key
  have h4 := obB_len x.val
  have h5 := zaC x.hs.length
  have := h.key
  have := h.val
  simp only [List.length_append, zas]; omega
theorem krB_len {x : Kr} (h : KrL x) : (krB x).length ≤ 2147483000 := by
  unfold krB
  have h1 := krPre_len h
  have h2 := flat_kh x.hs h.hk
  have h3 := h.hs
  rw [List.length_append]; omega
end Go.Proofs.YtojpodeljpfgaaaDoor

import Derived.Test.YtojpodeljpfgaaaDoorZA
import Derived.Test.YtojpodeljpfgaaaDoorZK
import Derived.Deep.AppendLies
/-
What the proofs of the laws rest on, part ZS.
-/
namespace Go.Proofs.YtojpodeljpfgaaaDoor
set_option linter.all false
open Go.RowKit
set_option maxRecDepth 10000
section
variable {P : Program} {ops : Array Oper} {Q : Exit → Act → World → Prop} {a : Act} {w : World} {rest : List Oper} {d : Option Nat} {ty : TypeId} {pos : String} {af : Array Edge}
end
end Go.Proofs.YtojpodeljpfgaaaDoor
namespace Go.Proofs.YtojpodeljpfgaaaDoor
set_option linter.all false
open Go.RowKit
set_option maxRecDepth 10000
set_option maxHeartbeats 1000000
theorem zam.row {w : World} {G : Nat → Prop} {oa : Option Addr} {l : Bs} (h : zam w G oa l) {i : Nat} (hi : i < l.length) :
    ∃ b o cs T, oa = some ⟨b, o, none⟩ ∧ G b ∧ Rbk w b cs T ∧ cs[o + i]? = some (byteV l[i]) := by
  rcases h with rfl | ⟨b, o, cs, T, h1, h2, h3, h4⟩
  · cases hi
  · refine ⟨b, o, cs, T, h1, h2, h3, ?_⟩
    rw [← seg_get hi, h4]
    simp [hi]
theorem byteV_inj {u v : UInt8} : (u.toNat : Int) = (v.toNat : Int) ↔ u = v := by
  constructor
  · intro h
    exact UInt8.toNat_inj.1 (by omega)
  · rintro rfl; rfl
theorem Same_c (l1 l2 : Bs) {w : World} {G1 G2 : Nat → Prop} {o1 o2 : Option Addr} {c1 c2 : Nat} (h1 : zam w G1 o1 l1) (h2 : zam w G2 o2 l2) (hlim : l1.length ≤ LIM) :
    zan Tryd.prog 41 #[.slice o1 l1.length c1, .slice o2 l2.length c2] w fun v w' => v = .bool (decide (l1 = l2)) ∧ Chg (fun _ => False) w w' := by
  refine zaj Tryd.func41 rfl rfl Tryd.ntmps41 (by simp) ?_
  intro a hN hD ha
  have h0 : get a 0 = .slice o1 l1.length c1 := ha 0 _ rfl
  have hh1 : get a 1 = .slice o2 l2.length c2 := ha 1 _ rfl
  refine wp_seq_k fun K hK => ?_; refine zac ?_; (repeat (first | ((with_reducible refine zav ?_ ?_ ?_ ?_); (· exact rfl); (· simp [evb, kb, hN, dyb, sdb] <;> omega); (· kernel_rfl); try simp only [evb, kb, hN, seval, pvb]) | ((with_reducible refine zag ?_ ?_ ?_); rotate_left 1; (· simp [evb, kb, hN, sdb]); rotate_left 1; (· kernel_rfl); try simp only [evb, kb, hN, seval, pvb]))); refine zaa ?_; refine hK _ _ ?_; clear hK K
  refine wp_seq_k fun K0 hK0 => ?_; refine wp_seq_k fun K1 hK1 => ?_; refine zac ?_
  (repeat (first | ((with_reducible refine zav ?_ ?_ ?_ ?_); (· exact rfl); (· simp [evb, kb, hN, h0, hh1, dyb, sdb] <;> omega); (· kernel_rfl); try simp only [evb, kb, hN, seval, pvb, h0, hh1]) | ((with_reducible refine zag ?_ ?_ ?_); rotate_left 1; (· simp [evb, kb, hN, h0, hh1, sdb]); rotate_left 1; (· kernel_rfl); try simp only [evb, kb, hN, seval, pvb, h0, hh1])))
  by_cases hlen : l1.length = l2.length
  case neg =>
    have hl : ¬ ((l1.length : Int) = (l2.length : Int)) := by omega
    refine zaa ?_
    refine hK1 _ _ ?_; try clear hK1 K1
    refine wp_cond_true (by simp [evb, kb, hN, hl, sdb]) ?_
    (repeat (first | (with_reducible refine wp_seq_k (fun K hK => ?_)) | (with_reducible refine wp_block ?_) | ((with_reducible refine zac ?_); (repeat (first | ((with_reducible refine zav ?_ ?_ ?_ ?_); (· exact rfl); (· simp [evb, kb, hN, bigb, dyb, sdb] <;> omega); (· kernel_rfl); try simp only [evb, kb, hN, seval, pvb, bigb]) | ((with_reducible refine zag ?_ ?_ ?_); rotate_left 1; (· simp [evb, kb, hN, bigb, sdb]); rotate_left 1; (· kernel_rfl); try simp only [evb, kb, hN, seval, pvb, bigb]) | ((with_reducible first | refine wl_min ?_ ?_ ?_ | refine wl_max ?_ ?_ ?_ | refine wl_mul ?_ ?_) <;> (first | (with_reducible refine zal ?_; try simp only [evb, kb, hN, seval, pvb, bigb]) | (simp [evb, kb, hN, bigb, sdb] <;> omega))) | ((with_reducible refine wl_pickT ?_ ?_); (· simp [evb, kb, hN, bigb, sdb]); try simp only [evb, kb, hN, seval, pvb, bigb]) | ((with_reducible refine wl_pickF ?_ ?_); (· simp [evb, kb, hN, bigb, sdb]); try simp only [evb, kb, hN, seval, pvb, bigb]) | ((with_reducible apply zau); (· exact rfl); (· exact rfl); (· simp [evb, kb, hN, bigb, sdb]); try simp only [evb, kb, hN, seval, pvb, bigb]) | ((with_reducible apply zaD); (· exact rfl); (· exact rfl); (· simp [evb, kb, hN, bigb, sdb]); try simp only [evb, kb, hN, seval, pvb, bigb]) | ((with_reducible apply zaE); (· exact rfl); (· exact rfl); (· simp [evb, kb, hN, bigb, sdb]); try simp only [evb, kb, hN, seval, pvb, bigb]))); (refine zaa ?_)) | ((with_reducible refine wp_cond_true ?_ ?_); (· simp [evb, kb, hN, sdb])) | ((with_reducible refine wp_cond_false ?_ ?_); (· simp [evb, kb, hN, sdb])) | (with_reducible refine wp_skip ?_) | (refine hK _ _ ?_; clear hK K)))
    refine wp_ret ⟨by simp [zab, hD], ?_⟩; simp only [evb, kb, hN, seval]
    refine ⟨?_, Chg.refl _ _⟩
    rw [decide_eq_false (fun h => hlen (by rw [h]))]
  have hl : (l1.length : Int) = (l2.length : Int) := by omega
  refine zaa ?_
  refine hK1 _ _ ?_; try clear hK1 K1
  refine wp_cond_false (by simp [evb, kb, hN, hl, sdb]) ?_
  refine wp_skip ?_
  refine hK0 _ _ ?_; try clear hK0 K0
  refine wp_seq_k fun K0 hK0 => ?_; refine wp_seq_k fun K1 hK1 => ?_; refine zac ?_
  (repeat (first | ((with_reducible refine zav ?_ ?_ ?_ ?_); (· exact rfl); (· simp [evb, kb, hN, h0, dyb, sdb] <;> omega); (· kernel_rfl); try simp only [evb, kb, hN, seval, pvb, h0]) | ((with_reducible refine zag ?_ ?_ ?_); rotate_left 1; (· simp [evb, kb, hN, h0, sdb]); rotate_left 1; (· kernel_rfl); try simp only [evb, kb, hN, seval, pvb, h0])))
  refine zaa ?_
  refine hK1 _ _ ?_; try clear hK1 K1
  refine wp_block ?_
  refine wp_loop (fun a' w' => ∃ i : Nat, i ≤ l1.length ∧ a'.tmps.size = 26 ∧ a'.defers = [] ∧ get a' 0 = .slice o1 l1.length c1 ∧ get a' 1 = .slice o2 l2.length c2 ∧ get a' 12 = .int .i64 l1.length ∧ get a' 13 = .int .i64 i ∧ l1.take i = l2.take i ∧ Chg (fun _ => False) w w')
    (fun a' _ => l1.length - (intOf (get a' 13)).toNat) ?_ ?_
  · exact ⟨0, by omega, by simp only [evb, kb, hN, seval], by simp [zab, hD], by simp only [evb, kb, hN, seval, h0], by simp only [evb, kb, hN, seval, hh1], by simp only [evb, kb, hN, seval], by simp only [evb, kb, hN, seval] <;> rfl, by simp, Chg.refl _ _⟩
  clear hN hD h0 hh1
  rintro a1 w1 ⟨i, hi, hN, hD, h0, hh1, g12, g13, htk, hc⟩
  refine wp_seq_k fun K2 hK2 => ?_; refine zac ?_; (repeat (first | ((with_reducible refine zav ?_ ?_ ?_ ?_); (· exact rfl); (· simp [evb, kb, hN, g12, g13, dyb, sdb] <;> omega); (· kernel_rfl); try simp only [evb, kb, hN, seval, pvb, g12, g13]) | ((with_reducible refine zag ?_ ?_ ?_); rotate_left 1; (· simp [evb, kb, hN, g12, g13, sdb]); rotate_left 1; (· kernel_rfl); try simp only [evb, kb, hN, seval, pvb, g12, g13])))
  by_cases hlt : i < l1.length
  case neg =>
    have e : i = l1.length := by omega
    subst e
    have e1 : decide ((l1.length : Int) < (l1.length : Int)) = false := decide_eq_false (by omega)
    rw [e1]
    refine zaa ?_
    refine hK2 _ _ ?_; try clear hK2 K2
    refine wp_seq_k fun K3 hK3 => ?_
    refine wp_cond_false (by simp [evb, kb, hN, sdb]) ?_
    refine wp_exit ?_
    simp only [Exit.then, Exit.inBlock, if_pos]
    refine hK0 _ _ ?_; try clear hK0 K0
    (repeat (first | (with_reducible refine wp_seq_k (fun K hK => ?_)) | (with_reducible refine wp_block ?_) | ((with_reducible refine zac ?_); (repeat (first | ((with_reducible refine zav ?_ ?_ ?_ ?_); (· exact rfl); (· simp [evb, kb, hN, bigb, dyb, sdb] <;> omega); (· kernel_rfl); try simp only [evb, kb, hN, seval, pvb, bigb]) | ((with_reducible refine zag ?_ ?_ ?_); rotate_left 1; (· simp [evb, kb, hN, bigb, sdb]); rotate_left 1; (· kernel_rfl); try simp only [evb, kb, hN, seval, pvb, bigb]) | ((with_reducible first | refine wl_min ?_ ?_ ?_ | refine wl_max ?_ ?_ ?_ | refine wl_mul ?_ ?_) <;> (first | (with_reducible refine zal ?_; try simp only [evb, kb, hN, seval, pvb, bigb]) | (simp [evb, kb, hN, bigb, sdb] <;> omega))) | ((with_reducible refine wl_pickT ?_ ?_); (· simp [evb, kb, hN, bigb, sdb]); try simp only [evb, kb, hN, seval, pvb, bigb]) | ((with_reducible refine wl_pickF ?_ ?_); (· simp [evb, kb, hN, bigb, sdb]); try simp only [evb, kb, hN, seval, pvb, bigb]) | ((with_reducible apply zau); (· exact rfl); (· exact rfl); (· simp [evb, kb, hN, bigb, sdb]); try simp only [evb, kb, hN, seval, pvb, bigb]) | ((with_reducible apply zaD); (· exact rfl); (· exact rfl); (· simp [evb, kb, hN, bigb, sdb]); try simp only [evb, kb, hN, seval, pvb, bigb]) | ((with_reducible apply zaE); (· exact rfl); (· exact rfl); (· simp [evb, kb, hN, bigb, sdb]); try simp only [evb, kb, hN, seval, pvb, bigb]))); (refine zaa ?_)) | ((with_reducible refine wp_cond_true ?_ ?_); (· simp [evb, kb, hN, sdb])) | ((with_reducible refine wp_cond_false ?_ ?_); (· simp [evb, kb, hN, sdb])) | (with_reducible refine wp_skip ?_) | (refine hK _ _ ?_; clear hK K)))
    refine wp_ret ⟨by simp [zab, hD], ?_⟩; simp only [evb, kb, hN, seval]
    refine ⟨?_, hc⟩
    rw [List.take_length, hlen, List.take_length] at htk
    rw [decide_eq_true htk]
  have e1 : decide ((i : Int) < (l1.length : Int)) = true := decide_eq_true (by omega)
  rw [e1]
  refine zaa ?_
  refine hK2 _ _ ?_; try clear hK2 K2
  refine wp_seq_k fun K3 hK3 => ?_
  refine wp_cond_true (by simp [evb, kb, hN, sdb]) ?_
  refine wp_skip ?_
  refine hK3 _ _ ?_; try clear hK3 K3
  refine wp_seq_k fun K4 hK4 => ?_
  refine wp_block ?_
  refine wp_seq_k fun K5 hK5 => ?_; refine zac ?_; (repeat (first | ((with_reducible refine zav ?_ ?_ ?_ ?_); (· exact rfl); (· simp [evb, kb, hN, g13, dyb, sdb] <;> omega); (· kernel_rfl); try simp only [evb, kb, hN, seval, pvb, g13]) | ((with_reducible refine zag ?_ ?_ ?_); rotate_left 1; (· simp [evb, kb, hN, g13, sdb]); rotate_left 1; (· kernel_rfl); try simp only [evb, kb, hN, seval, pvb, g13])))
  refine zaa ?_
  refine hK5 _ _ ?_; try clear hK5 K5
  refine wp_seq_k fun K6 hK6 => ?_
  obtain ⟨b1, p1, cs1, T1, rfl, _, hb1, hv1⟩ := h1.row hlt
  obtain ⟨b2, p2, cs2, T2, rfl, _, hb2, hv2⟩ := h2.row (by omega : i < l2.length)
  refine wp_sched (fun w' => Chg (fun _ => False) w w') [(true, 0), (true, 1), (true, 2), (true, 3), (true, 4), (true, 5), (true, 6), (true, 7), (true, 8)] zaz (by kernel_rfl) (by kernel_rfl) (hc.trans (Chg.drew _ _) fun _ _ h => h) ?_
  refine ws_move rfl ?_
  refine ws_move rfl ?_
  simp only [evb, kb, hN, seval, h0]
  refine ws_indexAddr (b := b1) (o := p1) (k := .i64) (j := i) (n := 1) (len := l1.length) (cap := c1) (by kernel_rfl) rfl (by simp [evb, kb, hN, sdb]) (by simp [evb, kb, hN, sdb]) hlt ?_
  refine ws_load_r (b := b1) (o := p1 + i * 1) (by kernel_rfl) rfl (by simp [evb, kb, hN, sdb]) (fun w' hw => hb1.chg hw (fun h => h)) (by rw [Nat.mul_one]; exact hv1) ?_
  refine ws_move rfl ?_
  refine ws_move rfl ?_
  simp only [evb, kb, hN, seval, hh1]
  refine ws_indexAddr (b := b2) (o := p2) (k := .i64) (j := i) (n := 1) (len := l2.length) (cap := c2) (by kernel_rfl) rfl (by simp [evb, kb, hN, sdb]) (by simp [evb, kb, hN, sdb]) (by omega) ?_
  refine ws_load_r (b := b2) (o := p2 + i * 1) (by kernel_rfl) rfl (by simp [evb, kb, hN, sdb]) (fun w' hw => hb2.chg hw (fun h => h)) (by rw [Nat.mul_one]; exact hv2) ?_
  refine ws_neq rfl (by simp [evb, kb, hN, byteV, sdb]) ?_
  simp only [evb, kb, hN, seval, byteV]
  refine ws_nil ?_
  refine hK6 _ _ ?_; try clear hK6 K6
  have hc2 : Chg (fun _ => False) w w1.drew := hc.trans (Chg.drew _ _) fun _ _ h => h
  by_cases hq : l1[i] = l2[i]
  case neg =>
    have e2 : (((l1[i].toNat : Nat) : Int) != ((l2[i].toNat : Nat) : Int)) = true := by
      have : ¬ ((l1[i].toNat : Int) = (l2[i].toNat : Int)) := fun h => hq (byteV_inj.1 h)
      simpa using this
    refine wp_cond_true (by simp [evb, kb, hN, e2, sdb]) ?_
    (repeat (first | (with_reducible refine wp_seq_k (fun K hK => ?_)) | (with_reducible refine wp_block ?_) | ((with_reducible refine zac ?_); (repeat (first | ((with_reducible refine zav ?_ ?_ ?_ ?_); (· exact rfl); (· simp [evb, kb, hN, bigb, dyb, sdb] <;> omega); (· kernel_rfl); try simp only [evb, kb, hN, seval, pvb, bigb]) | ((with_reducible refine zag ?_ ?_ ?_); rotate_left 1; (· simp [evb, kb, hN, bigb, sdb]); rotate_left 1; (· kernel_rfl); try simp only [evb, kb, hN, seval, pvb, bigb]) | ((with_reducible first | refine wl_min ?_ ?_ ?_ | refine wl_max ?_ ?_ ?_ | refine wl_mul ?_ ?_) <;> (first | (with_reducible refine zal ?_; try simp only [evb, kb, hN, seval, pvb, bigb]) | (simp [evb, kb, hN, bigb, sdb] <;> omega))) | ((with_reducible refine wl_pickT ?_ ?_); (· simp [evb, kb, hN, bigb, sdb]); try simp only [evb, kb, hN, seval, pvb, bigb]) | ((with_reducible refine wl_pickF ?_ ?_); (· simp [evb, kb, hN, bigb, sdb]); try simp only [evb, kb, hN, seval, pvb, bigb]) | ((with_reducible apply zau); (· exact rfl); (· exact rfl); (· simp [evb, kb, hN, bigb, sdb]); try simp only [evb, kb, hN, seval, pvb, bigb]) | ((with_reducible apply zaD); (· exact rfl); (· exact rfl); (· simp [evb, kb, hN, bigb, sdb]); try simp only [evb, kb, hN, seval, pvb, bigb]) | ((with_reducible apply zaE); (· exact rfl); (· exact rfl); (· simp [evb, kb, hN, bigb, sdb]); try simp only [evb, kb, hN, seval, pvb, bigb]))); (refine zaa ?_)) | ((with_reducible refine wp_cond_true ?_ ?_); (· simp [evb, kb, hN, sdb])) | ((with_reducible refine wp_cond_false ?_ ?_); (· simp [evb, kb, hN, sdb])) | (with_reducible refine wp_skip ?_) | (refine hK _ _ ?_; clear hK K)))
    refine wp_ret ⟨by simp [zab, hD], ?_⟩; simp only [evb, kb, hN, seval]
    refine ⟨?_, hc2⟩
    rw [decide_eq_false]
    intro h
    subst h
    exact hq rfl
  have e2 : (((l1[i].toNat : Nat) : Int) != ((l2[i].toNat : Nat) : Int)) = false := by rw [hq]; simp
  refine wp_cond_false (by simp [evb, kb, hN, e2, sdb]) ?_
  refine wp_skip ?_
  simp only [Exit.then, Exit.inBlock]
  refine hK4 _ _ ?_; try clear hK4 K4
  refine zac ?_
  (repeat (first | ((with_reducible refine zav ?_ ?_ ?_ ?_); (· exact rfl); (· simp [evb, kb, hN, g13, dyb, sdb] <;> omega); (· kernel_rfl); try simp only [evb, kb, hN, seval, pvb, g13]) | ((with_reducible refine zag ?_ ?_ ?_); rotate_left 1; (· simp [evb, kb, hN, g13, sdb]); rotate_left 1; (· kernel_rfl); try simp only [evb, kb, hN, seval, pvb, g13])))
  rw [zaI ((i : Int) + 1) (by unfold LIM at hlim; omega)]
  refine zaa ⟨⟨i + 1, by omega, by simp only [evb, kb, hN, seval], by simp [zab, hD], by simp only [evb, kb, hN, seval, h0], by simp only [evb, kb, hN, seval, hh1], by simp only [evb, kb, hN, seval, g12], by simp only [evb, kb, hN, seval] <;> rfl, ?_, hc2⟩, ?_⟩
  · rw [List.take_add_one, List.take_add_one, htk]
    have a1 : l1[i]? = some l1[i] := by simp [hlt]
    have a2 : l2[i]? = some l2[i] := by simp
    rw [a1, a2, hq]
  · simp only [evb, kb, hN, seval, g13, intOf]
    omega
end Go.Proofs.YtojpodeljpfgaaaDoor

import Derived.Test.YtojpodeljpfgaaaDoorZ7
import Derived.Laws.ResultCell
/-
What the proofs of the laws rest on, part Z8.
-/
namespace Go.Proofs.YtojpodeljpfgaaaDoor
set_option linter.all false
open Go.RowKit
set_option maxRecDepth 10000
set_option maxHeartbeats 4000000
def batB (b : Bt) : Bs := be 8 b.first ++ be 4 b.len ++ be 4 b.epoch ++ be 1 b.magic ++ be 4 b.crc ++ be 2 b.attr ++ be 4 b.last ++ be 8 b.firstT ++ be 8 b.maxT ++ be 8 b.prod ++ be 2 b.pep ++ be 4 b.seq ++ be 4 b.many ++ b.recs
theorem batB_len (b : Bt) : (batB b).length = 61 + b.recs.length := by unfold batB; simp only [List.length_append, zas]
theorem batAppend_c {w : World} {G : Nat → Prop} {p : Nat} {b : Bt} {vs : List Value} {T : TypeId} {base : Nat} {v : Value} {bs : Bs} (hp : Blk w p vs T) (h : BtC w G b vs) (hpv : ¬ v.ownBlock = some p) (hGv : ∀ k, G k → ¬ v.ownBlock = some k) (hown : Own eB w base v bs) (hlim : bs.length + (61 + b.recs.length) ≤ LIM) (hbase : base ≤ w.heap.size) :
    zan Tryd.prog 21 #[.pointer (some ⟨p, 0, none⟩), v] w (App eB w base v (bs ++ batB b)) := by
  obtain ⟨oa, cap, rfl, q1, q2, q3⟩ := h
  refine zaj Tryd.func21 rfl rfl Tryd.ntmps21 (by simp) ?_
  intro a hN hD hargs
  have h0 : get a 0 = .pointer (some ⟨p, 0, none⟩) := hargs 0 _ rfl
  have h1 : get a 1 = v := hargs 1 _ rfl
  refine wp_seq_k fun K hK => ?_; refine zac ?_; refine zaF ?_; refine zaa ?_; refine hK _ _ ?_; clear hK K
  refine zaw fun a0 ha => ?_
  have hN' : a0.tmps.size = 118 := by rw [ha]; simp only [zaf]; exact hN
  have hD' : a0.defers = [] := by rw [ha]; simp only [zab]; exact hD
  have g0 : get a0 0 = .pointer (some ⟨p, 0, none⟩) := by rw [ha]; simp only [evb, pvb, rnb, kb, hN, seval, h0]
  have g1 : get a0 1 = v := by rw [ha]; simp only [evb, pvb, rnb, kb, hN, seval, h1]
  clear ha hN hD h0 h1 hargs
  have hN := hN'
  have hD := hD'
  clear hN' hD'
  have l := hp.ld (i := 0) (v := .int .i64 b.first) rfl
  refine wp_seq_k fun K hK => ?_; refine wp_seq_k fun K1 hK1 => ?_; refine zac ?_; (repeat ((with_reducible refine zah ?_ ?_ ?_); (· simp [evb, pvb, rnb, kb, hN, g0, ofKB, l, dyb, sdb] <;> omega); (· kernel_rfl); try simp only [evb, pvb, rnb, kb, hN, seval, g0, ofKB, l])); refine zaa ?_; refine hK1 _ _ ?_; try clear hK1 K1
  refine zac ?_; (repeat ((with_reducible refine zah ?_ ?_ ?_); (· simp [evb, pvb, rnb, kb, hN, g1, dyb, sdb] <;> omega); (· kernel_rfl); try simp only [evb, pvb, rnb, kb, hN, seval, g1]))
  refine zar (fun args w => Tryd.call37 args w) (AppendInt64_c b.first) (by simp only [List.map_toArray, List.map_cons, List.map_nil]; simp only [evb, pvb, rnb, kb, hN, seval, g1]) hown (by simp only [List.length_append, zas]; omega) hbase trivial ?_
  intro v1 w1 happ
  (repeat ((with_reducible refine zah ?_ ?_ ?_); (· simp [evb, pvb, rnb, kb, hN, dyb, sdb] <;> omega); (· kernel_rfl); try simp only [evb, pvb, rnb, kb, hN, seval])); refine zaa ?_; refine hK _ _ ?_; clear hK K
  have hA := happ
  refine zaw fun a1 ha => ?_
  have hN' : a1.tmps.size = 118 := by rw [ha]; simp only [zaf]; exact hN
  have hD' : a1.defers = [] := by rw [ha]; simp only [zab]; exact hD
  have g0' : get a1 0 = .pointer (some ⟨p, 0, none⟩) := by rw [ha]; simp only [evb, pvb, rnb, kb, hN, seval, g0]
  have g1' : get a1 1 = v1 := by rw [ha]; simp only [evb, pvb, rnb, kb, hN, seval]
  clear ha happ hN hD g0 g1 l
  have hN := hN'
  have hD := hD'
  have g0 := g0'
  have g1 := g1'
  clear hN' hD' g0' g1'
  have hb := hp.chg hA.chg hpv
  have l := hb.ld (i := 1) (v := .int .i32 b.len) rfl
  refine wp_seq_k fun K hK => ?_; refine wp_seq_k fun K1 hK1 => ?_; refine zac ?_; (repeat ((with_reducible refine zah ?_ ?_ ?_); (· simp [evb, pvb, rnb, kb, hN, g0, ofKB, l, dyb, sdb] <;> omega); (· kernel_rfl); try simp only [evb, pvb, rnb, kb, hN, seval, g0, ofKB, l])); refine zaa ?_; refine hK1 _ _ ?_; try clear hK1 K1
  refine zac ?_; (repeat ((with_reducible refine zah ?_ ?_ ?_); (· simp [evb, pvb, rnb, kb, hN, g1, dyb, sdb] <;> omega); (· kernel_rfl); try simp only [evb, pvb, rnb, kb, hN, seval, g1]))
  refine zar (fun args w => Tryd.call38 args w) (AppendInt32_c b.len) (by simp only [List.map_toArray, List.map_cons, List.map_nil]; simp only [evb, pvb, rnb, kb, hN, seval, g1]) hA.own (by simp only [List.length_append, zas]; omega) (Nat.le_trans hbase hA.chg.size) trivial ?_
  intro v2 w2 happ
  (repeat ((with_reducible refine zah ?_ ?_ ?_); (· simp [evb, pvb, rnb, kb, hN, dyb, sdb] <;> omega); (· kernel_rfl); try simp only [evb, pvb, rnb, kb, hN, seval])); refine zaa ?_; refine hK _ _ ?_; clear hK K
  rw [List.append_assoc] at happ
  have hA := hA.trans happ
  refine zaw fun a2 ha => ?_
  have hN' : a2.tmps.size = 118 := by rw [ha]; simp only [zaf]; exact hN
  have hD' : a2.defers = [] := by rw [ha]; simp only [zab]; exact hD
  have g0' : get a2 0 = .pointer (some ⟨p, 0, none⟩) := by rw [ha]; simp only [evb, pvb, rnb, kb, hN, seval, g0]
  have g1' : get a2 1 = v2 := by rw [ha]; simp only [evb, pvb, rnb, kb, hN, seval]
  clear ha happ hN hD g0 g1 l hb
  have hN := hN'
  have hD := hD'
  have g0 := g0'
  have g1 := g1'
  clear hN' hD' g0' g1'
  have hb := hp.chg hA.chg hpv
  have l := hb.ld (i := 2) (v := .int .i32 b.epoch) rfl
  refine wp_seq_k fun K hK => ?_; refine wp_seq_k fun K1 hK1 => ?_; refine zac ?_; (repeat ((with_reducible refine zah ?_ ?_ ?_); (· simp [evb, pvb, rnb, kb, hN, g0, ofKB, l, dyb, sdb] <;> omega); (· kernel_rfl); try simp only [evb, pvb, rnb, kb, hN, seval, g0, ofKB, l])); refine zaa ?_; refine hK1 _ _ ?_; try clear hK1 K1
  refine zac ?_; (repeat ((with_reducible refine zah ?_ ?_ ?_); (· simp [evb, pvb, rnb, kb, hN, g1, dyb, sdb] <;> omega); (· kernel_rfl); try simp only [evb, pvb, rnb, kb, hN, seval, g1]))
  refine zar (fun args w => Tryd.call38 args w) (AppendInt32_c b.epoch) (by simp only [List.map_toArray, List.map_cons, List.map_nil]; simp only [evb, pvb, rnb, kb, hN, seval, g1]) hA.own (by simp only [List.length_append, zas]; omega) (Nat.le_trans hbase hA.chg.size) trivial ?_
  intro v3 w3 happ
  (repeat ((with_reducible refine zah ?_ ?_ ?_); (· simp [evb, pvb, rnb, kb, hN, dyb, sdb] <;> omega); (· kernel_rfl); try simp only [evb, pvb, rnb, kb, hN, seval])); refine zaa ?_; refine hK _ _ ?_; clear hK K
  rw [List.append_assoc] at happ
  have hA := hA.trans happ
  refine zaw fun a3 ha => ?_
  have hN' : a3.tmps.size = 118 := by rw [ha]; simp only [zaf]; exact hN
  have hD' : a3.defers = [] := by rw [ha]; simp only [zab]; exact hD
  have g0' : get a3 0 = .pointer (some ⟨p, 0, none⟩) := by rw [ha]; simp only [evb, pvb, rnb, kb, hN, seval, g0]
  have g1' : get a3 1 = v3 := by rw [ha]; simp only [evb, pvb, rnb, kb, hN, seval]
  clear ha happ hN hD g0 g1 l hb
  have hN := hN'
  have hD := hD'
  have g0 := g0'
  have g1 := g1'
  clear hN' hD' g0' g1'
  have hb := hp.chg hA.chg hpv
  have l := hb.ld (i := 3) (v := .int .i8 b.magic) rfl
  refine wp_seq_k fun K hK => ?_; refine wp_seq_k fun K1 hK1 => ?_; refine zac ?_; (repeat ((with_reducible refine zah ?_ ?_ ?_); (· simp [evb, pvb, rnb, kb, hN, g0, ofKB, l, dyb, sdb] <;> omega); (· kernel_rfl); try simp only [evb, pvb, rnb, kb, hN, seval, g0, ofKB, l])); refine zaa ?_; refine hK1 _ _ ?_; try clear hK1 K1
  refine zac ?_; (repeat ((with_reducible refine zah ?_ ?_ ?_); (· simp [evb, pvb, rnb, kb, hN, g1, dyb, sdb] <;> omega); (· kernel_rfl); try simp only [evb, pvb, rnb, kb, hN, seval, g1]))
  refine zar (fun args w => Tryd.call32 args w) (AppendInt8_c b.magic) (by simp only [List.map_toArray, List.map_cons, List.map_nil]; simp only [evb, pvb, rnb, kb, hN, seval, g1]) hA.own (by simp only [List.length_append, zas]; omega) (Nat.le_trans hbase hA.chg.size) trivial ?_
  intro v4 w4 happ
  (repeat ((with_reducible refine zah ?_ ?_ ?_); (· simp [evb, pvb, rnb, kb, hN, dyb, sdb] <;> omega); (· kernel_rfl); try simp only [evb, pvb, rnb, kb, hN, seval])); refine zaa ?_; refine hK _ _ ?_; clear hK K
  rw [List.append_assoc] at happ
  have hA := hA.trans happ
  refine zaw fun a4 ha => ?_
  have hN' : a4.tmps.size = 118 := by rw [ha]; simp only [zaf]; exact hN
  have hD' : a4.defers = [] := by rw [ha]; simp only [zab]; exact hD
  have g0' : get a4 0 = .pointer (some ⟨p, 0, none⟩) := by rw [ha]; simp only [evb, pvb, rnb, kb, hN, seval, g0]
  have g1' : get a4 1 = v4 := by rw [ha]; simp only [evb, pvb, rnb, kb, hN, seval]
  clear ha happ hN hD g0 g1 l hb
  have hN := hN'
  have hD := hD'
  have g0 := g0'
  have g1 := g1'
  clear hN' hD' g0' g1'
  have hb := hp.chg hA.chg hpv
  have l := hb.ld (i := 4) (v := .int .i32 b.crc) rfl
  refine wp_seq_k fun K hK => ?_; refine wp_seq_k fun K1 hK1 => ?_; refine zac ?_; (repeat ((with_reducible refine zah ?_ ?_ ?_); (· simp [evb, pvb, rnb, kb, hN, g0, ofKB, l, dyb, sdb] <;> omega); (· kernel_rfl); try simp only [evb, pvb, rnb, kb, hN, seval, g0, ofKB, l])); refine zaa ?_; refine hK1 _ _ ?_; try clear hK1 K1
  refine zac ?_; (repeat ((with_reducible refine zah ?_ ?_ ?_); (· simp [evb, pvb, rnb, kb, hN, g1, dyb, sdb] <;> omega); (· kernel_rfl); try simp only [evb, pvb, rnb, kb, hN, seval, g1]))
  refine zar (fun args w => Tryd.call38 args w) (AppendInt32_c b.crc) (by simp only [List.map_toArray, List.map_cons, List.map_nil]; simp only [evb, pvb, rnb, kb, hN, seval, g1]) hA.own (by simp only [List.length_append, zas]; omega) (Nat.le_trans hbase hA.chg.size) trivial ?_
  intro v5 w5 happ
  (repeat ((with_reducible refine zah ?_ ?_ ?_); (· simp [evb, pvb, rnb, kb, hN, dyb, sdb] <;> omega); (· kernel_rfl); try simp only [evb, pvb, rnb, kb, hN, seval])); refine zaa ?_; refine hK _ _ ?_; clear hK K
  rw [List.append_assoc] at happ
  have hA := hA.trans happ
  refine zaw fun a5 ha => ?_
  have hN' : a5.tmps.size = 118 := by rw [ha]; simp only [zaf]; exact hN
  have hD' : a5.defers = [] := by rw [ha]; simp only [zab]; exact hD
  have g0' : get a5 0 = .pointer (some ⟨p, 0, none⟩) := by rw [ha]; simp only [evb, pvb, rnb, kb, hN, seval, g0]
  have g1' : get a5 1 = v5 := by rw [ha]; simp only [evb, pvb, rnb, kb, hN, seval]
  clear ha happ hN hD g0 g1 l hb
  have hN := hN'
  have hD := hD'
  have g0 := g0'
  have g1 := g1'
  clear hN' hD' g0' g1'
  have hb := hp.chg hA.chg hpv
  have l := hb.ld (i := 5) (v := .int .i16 b.attr) rfl
  refine wp_seq_k fun K hK => ?_; refine wp_seq_k fun K1 hK1 => ?_; refine zac ?_; (repeat ((with_reducible refine zah ?_ ?_ ?_); (· simp [evb, pvb, rnb, kb, hN, g0, ofKB, l, dyb, sdb] <;> omega); (· kernel_rfl); try simp only [evb, pvb, rnb, kb, hN, seval, g0, ofKB, l])); refine zaa ?_; refine hK1 _ _ ?_; try clear hK1 K1
  refine zac ?_; (repeat ((with_reducible refine zah ?_ ?_ ?_); (· simp [evb, pvb, rnb, kb, hN, g1, dyb, sdb] <;> omega); (· kernel_rfl); try simp only [evb, pvb, rnb, kb, hN, seval, g1]))
  refine zar (fun args w => Tryd.call39 args w) (AppendInt16_c b.attr) (by simp only [List.map_toArray, List.map_cons, List.map_nil]; simp only [evb, pvb, rnb, kb, hN, seval, g1]) hA.own (by simp only [List.length_append, zas]; omega) (Nat.le_trans hbase hA.chg.size) trivial ?_
  intro v6 w6 happ
  (repeat ((with_reducible refine zah ?_ ?_ ?_); (· simp [evb, pvb, rnb, kb, hN, dyb, sdb] <;> omega); (· kernel_rfl); try simp only [evb, pvb, rnb, kb, hN, seval])); refine zaa ?_; refine hK _ _ ?_; clear hK K
  rw [List.append_assoc] at happ
  have hA := hA.trans happ
  refine zaw fun a6 ha => ?_
  have hN' : a6.tmps.size = 118 := by rw [ha]; simp only [zaf]; exact hN
  have hD' : a6.defers = [] := by rw [ha]; simp only [zab]; exact hD
  have g0' : get a6 0 = .pointer (some ⟨p, 0, none⟩) := by rw [ha]; simp only [evb, pvb, rnb, kb, hN, seval, g0]
  have g1' : get a6 1 = v6 := by rw [ha]; simp only [evb, pvb, rnb, kb, hN, seval]
  clear ha happ hN hD g0 g1 l hb
  have hN := hN'
  have hD := hD'
  have g0 := g0'
  have g1 := g1'
  clear hN' hD' g0' g1'
  have hb := hp.chg hA.chg hpv
  have l := hb.ld (i := 6) (v := .int .i32 b.last) rfl
  refine wp_seq_k fun K hK => ?_; refine wp_seq_k fun K1 hK1 => ?_; refine zac ?_; (repeat ((with_reducible refine zah ?_ ?_ ?_); (· simp [evb, pvb, rnb, kb, hN, g0, ofKB, l, dyb, sdb] <;> omega); (· kernel_rfl); try simp only [evb, pvb, rnb, kb, hN, seval, g0, ofKB, l])); refine zaa ?_; refine hK1 _ _ ?_; try clear hK1 K1
  refine zac ?_; (repeat ((with_reducible refine zah ?_ ?_ ?_); (· simp [evb, pvb, rnb, kb, hN, g1, dyb, sdb] <;> omega); (· kernel_rfl); try simp only [evb, pvb, rnb, kb, hN, seval, g1]))
  refine zar (fun args w => Tryd.call38 args w) (AppendInt32_c b.last) (by simp only [List.map_toArray, List.map_cons, List.map_nil]; simp only [evb, pvb, rnb, kb, hN, seval, g1]) hA.own (by simp only [List.length_append, zas]; omega) (Nat.le_trans hbase hA.chg.size) trivial ?_
  intro v7 w7 happ
  (repeat ((with_reducible refine zah ?_ ?_ ?_); (· simp [evb, pvb, rnb, kb, hN, dyb, sdb] <;> omega); (· kernel_rfl); try simp only [evb, pvb, rnb, kb, hN, seval])); refine zaa ?_; refine hK _ _ ?_; clear hK K
  rw [List.append_assoc] at happ
  have hA := hA.trans happ
  refine zaw fun a7 ha => ?_
  have hN' : a7.tmps.size = 118 := by rw [ha]; simp only [zaf]; exact hN
  have hD' : a7.defers = [] := by rw [ha]; simp only [zab]; exact hD
  have g0' : get a7 0 = .pointer (some ⟨p, 0, none⟩) := by rw [ha]; simp only [evb, pvb, rnb, kb, hN, seval, g0]
  have g1' : get a7 1 = v7 := by rw [ha]; simp only [evb, pvb, rnb, kb, hN, seval]
  clear ha happ hN hD g0 g1 l hb
  have hN := hN'
  have hD := hD'
  have g0 := g0'
  have g1 := g1'
  clear hN' hD' g0' g1'
  have hb := hp.chg hA.chg hpv
  have l := hb.ld (i := 7) (v := .int .i64 b.firstT) rfl
  refine wp_seq_k fun K hK => ?_; refine wp_seq_k fun K1 hK1 => ?_; refine zac ?_; (repeat ((with_reducible refine zah ?_ ?_ ?_); (· simp [evb, pvb, rnb, kb, hN, g0, ofKB, l, dyb, sdb] <;> omega); (· kernel_rfl); try simp only [evb, pvb, rnb, kb, hN, seval, g0, ofKB, l])); refine zaa ?_; refine hK1 _ _ ?_; try clear hK1 K1
  refine zac ?_; (repeat ((with_reducible refine zah ?_ ?_ ?_); (· simp [evb, pvb, rnb, kb, hN, g1, dyb, sdb] <;> omega); (· kernel_rfl); try simp only [evb, pvb, rnb, kb, hN, seval, g1]))
  refine zar (fun args w => Tryd.call37 args w) (AppendInt64_c b.firstT) (by simp only [List.map_toArray, List.map_cons, List.map_nil]; simp only [evb, pvb, rnb, kb, hN, seval, g1]) hA.own (by simp only [List.length_append, zas]; omega) (Nat.le_trans hbase hA.chg.size) trivial ?_
  intro v8 w8 happ
  (repeat ((with_reducible refine zah ?_ ?_ ?_); (· simp [evb, pvb, rnb, kb, hN, dyb, sdb] <;> omega); (· kernel_rfl); try simp only [evb, pvb, rnb, kb, hN, seval])); refine zaa ?_; refine hK _ _ ?_; clear hK K
  rw [List.append_assoc] at happ
  have hA := hA.trans happ
  refine zaw fun a8 ha => ?_
  have hN' : a8.tmps.size = 118 := by rw [ha]; simp only [zaf]; exact hN
  have hD' : a8.defers = [] := by rw [ha]; simp only [zab]; exact hD
  have g0' : get a8 0 = .pointer (some ⟨p, 0, none⟩) := by rw [ha]; simp only [evb, pvb, rnb, kb, hN, seval, g0]
  have g1' : get a8 1 = v8 := by rw [ha]; simp only [evb, pvb, rnb, kb, hN, seval]
  clear ha happ hN hD g0 g1 l hb
  have hN := hN'
  have hD := hD'
  have g0 := g0'
  have g1 := g1'
  clear hN' hD' g0' g1'
  have hb := hp.chg hA.chg hpv
  have l := hb.ld (i := 8) (v := .int .i64 b.maxT) rfl
  refine wp_seq_k fun K hK => ?_; refine wp_seq_k fun K1 hK1 => ?_; refine zac ?_; (repeat ((with_reducible refine zah ?_ ?_ ?_); (· simp [evb, pvb, rnb, kb, hN, g0, ofKB, l, dyb, sdb] <;> omega); (· kernel_rfl); try simp only [evb, pvb, rnb, kb, hN, seval, g0, ofKB, l])); refine zaa ?_; refine hK1 _ _ ?_; try clear hK1 K1
  refine zac ?_; (repeat ((with_reducible refine zah ?_ ?_ ?_); (· simp [evb, pvb, rnb, kb, hN, g1, dyb, sdb] <;> omega); (· kernel_rfl); try simp only [evb, pvb, rnb, kb, hN, seval, g1]))
  refine zar (fun args w => Tryd.call37 args w) (AppendInt64_c b.maxT) (by simp only [List.map_toArray, List.map_cons, List.map_nil]; simp only [evb, pvb, rnb, kb, hN, seval, g1]) hA.own (by simp only [List.length_append, zas]; omega) (Nat.le_trans hbase hA.chg.size) trivial ?_
  intro v9 w9 happ
  (repeat ((with_reducible refine zah ?_ ?_ ?_); (· simp [evb, pvb, rnb, kb, hN, dyb, sdb] <;> omega); (· kernel_rfl); try simp only [evb, pvb, rnb, kb, hN, seval])); refine zaa ?_; refine hK _ _ ?_; clear hK K
  rw [List.append_assoc] at happ
  have hA := hA.trans happ
  refine zaw fun a9 ha => ?_
  have hN' : a9.tmps.size = 118 := by rw [ha]; simp only [zaf]; exact hN
  have hD' : a9.defers = [] := by rw [ha]; simp only [zab]; exact hD
  have g0' : get a9 0 = .pointer (some ⟨p, 0, none⟩) := by rw [ha]; simp only [evb, pvb, rnb, kb, hN, seval, g0]
  have g1' : get a9 1 = v9 := by rw [ha]; simp only [evb, pvb, rnb, kb, hN, seval]
  clear ha happ hN hD g0 g1 l hb
  have hN := hN'
  have hD := hD'
  have g0 := g0'
  have g1 := g1'
  clear hN' hD' g0' g1'
  have hb := hp.chg hA.chg hpv
  have l := hb.ld (i := 9) (v := .int .i64 b.prod) rfl
  refine wp_seq_k fun K hK => ?_; refine wp_seq_k fun K1 hK1 => ?_; refine zac ?_; (repeat ((with_reducible refine zah ?_ ?_ ?_); (· simp [evb, pvb, rnb, kb, hN, g0, ofKB, l, dyb, sdb] <;> omega); (· kernel_rfl); try simp only [evb, pvb, rnb, kb, hN, seval, g0, ofKB, l])); refine zaa ?_; refine hK1 _ _ ?_; try clear hK1 K1
  refine zac ?_; (repeat ((with_reducible refine zah ?_ ?_ ?_); (· simp [evb, pvb, rnb, kb, hN, g1, dyb, sdb] <;> omega); (· kernel_rfl); try simp only [evb, pvb, rnb, kb, hN, seval, g1]))
  refine zar (fun args w => Tryd.call37 args w) (AppendInt64_c b.prod) (by simp only [List.map_toArray, List.map_cons, List.map_nil]; simp only [evb, pvb, rnb, kb, hN, seval, g1]) hA.own (by simp only [List.length_append, zas]; omega) (Nat.le_trans hbase hA.chg.size) trivial ?_
  intro v10 w10 happ
  (repeat ((with_reducible refine zah ?_ ?_ ?_); (· simp [evb, pvb, rnb, kb, hN, dyb, sdb] <;> omega); (· kernel_rfl); try simp only [evb, pvb, rnb, kb, hN, seval])); refine zaa ?_; refine hK _ _ ?_; clear hK K
  rw [List.append_assoc] at happ
  have hA := hA.trans happ
  refine zaw fun a10 ha => ?_
  have hN' : a10.tmps.size = 118 := by rw [ha]; simp only [zaf]; exact hN
  have hD' : a10.defers = [] := by rw [ha]; simp only [zab]; exact hD
  have g0' : get a10 0 = .pointer (some ⟨p, 0, none⟩) := by rw [ha]; simp only [evb, pvb, rnb, kb, hN, seval, g0]
  have g1' : get a10 1 = v10 := by rw [ha]; simp only [evb, pvb, rnb, kb, hN, seval]
  clear ha happ hN hD g0 g1 l hb
  have hN := hN'
  have hD := hD'
  have g0 := g0'
  have g1 := g1'
  clear hN' hD' g0' g1'
  have hb := hp.chg hA.chg hpv
  have l := hb.ld (i := 10) (v := .int .i16 b.pep) rfl
  refine wp_seq_k fun K hK => ?_; refine wp_seq_k fun K1 hK1 => ?_; refine zac ?_; (repeat ((with_reducible refine zah ?_ ?_ ?_); (· simp [evb, pvb, rnb, kb, hN, g0, ofKB, l, dyb, sdb] <;> omega); (· kernel_rfl); try simp only [evb, pvb, rnb, kb, hN, seval, g0, ofKB, l])); refine zaa ?_; refine hK1 _ _ ?_; try clear hK1 K1
  refine zac ?_; (repeat ((with_reducible refine zah ?_ ?_ ?_); (· simp [evb, pvb, rnb, kb, hN, g1, dyb, sdb] <;> omega); (· kernel_rfl); try simp only [evb, pvb, rnb, kb, hN, seval, g1]))
  refine zar (fun args w => Tryd.call39 args w) (AppendInt16_c b.pep) (by simp only [List.map_toArray, List.map_cons, List.map_nil]; simp only [evb, pvb, rnb, kb, hN, seval, g1]) hA.own (by simp only [List.length_append, zas]; omega) (Nat.le_trans hbase hA.chg.size) trivial ?_
  intro v11 w11 happ
  (repeat ((with_reducible refine zah ?_ ?_ ?_); (· simp [evb, pvb, rnb, kb, hN, dyb, sdb] <;> omega); (· kernel_rfl); try simp only [evb, pvb, rnb, kb, hN, seval])); refine zaa ?_; refine hK _ _ ?_; clear hK K
  rw [List.append_assoc] at happ
  have hA := hA.trans happ
  refine zaw fun a11 ha => ?_
  have hN' : a11.tmps.size = 118 := by rw [ha]; simp only [zaf]; exact hN
  have hD' : a11.defers = [] := by rw [ha]; simp only [zab]; exact hD
  have g0' : get a11 0 = .pointer (some ⟨p, 0, none⟩) := by rw [ha]; simp only [evb, pvb, rnb, kb, hN, seval, g0]
  have g1' : get a11 1 = v11 := by rw [ha]; simp only [evb, pvb, rnb, kb, hN, seval]
  clear ha happ hN hD g0 g1 l hb
  have hN := hN'
  have hD := hD'
  have g0 := g0'
  have g1 := g1'
  clear hN' hD' g0' g1'
  have hb := hp.chg hA.chg hpv
  have l := hb.ld (i := 11) (v := .int .i32 b.seq) rfl
  refine wp_seq_k fun K hK => ?_; refine wp_seq_k fun K1 hK1 => ?_; refine zac ?_; (repeat ((with_reducible refine zah ?_ ?_ ?_); (· simp [evb, pvb, rnb, kb, hN, g0, ofKB, l, dyb, sdb] <;> omega); (· kernel_rfl); try simp only [evb, pvb, rnb, kb, hN, seval, g0, ofKB, l])); refine zaa ?_; refine hK1 _ _ ?_; try clear hK1 K1
  refine zac ?_; (repeat ((with_reducible refine zah ?_ ?_ ?_); (· simp [evb, pvb, rnb, kb, hN, g1, dyb, sdb] <;> omega); (· kernel_rfl); try simp only [evb, pvb, rnb, kb, hN, seval, g1]))
  refine zar (fun args w => Tryd.call38 args w) (AppendInt32_c b.seq) (by simp only [List.map_toArray, List.map_cons, List.map_nil]; simp only [evb, pvb, rnb, kb, hN, seval, g1]) hA.own (by simp only [List.length_append, zas]; omega) (Nat.le_trans hbase hA.chg.size) trivial ?_
  intro v12 w12 happ
  (repeat ((with_reducible refine zah ?_ ?_ ?_); (· simp [evb, pvb, rnb, kb, hN, dyb, sdb] <;> omega); (· kernel_rfl); try simp only [evb, pvb, rnb, kb, hN, seval])); refine zaa ?_; refine hK _ _ ?_; clear hK K
  rw [List.append_assoc] at happ
  have hA := hA.trans happ
  refine zaw fun a12 ha => ?_
  have hN' : a12.tmps.size = 118 := by rw [ha]; simp only [zaf]; exact hN
  have hD' : a12.defers = [] := by rw [ha]; simp only [zab]; exact hD
  have g0' : get a12 0 = .pointer (some ⟨p, 0, none⟩) := by rw [ha]; simp only [evb, pvb, rnb, kb, hN, seval, g0]
  have g1' : get a12 1 = v12 := by rw [ha]; simp only [evb, pvb, rnb, kb, hN, seval]
  clear ha happ hN hD g0 g1 l hb
  have hN := hN'
  have hD := hD'
  have g0 := g0'
  have g1 := g1'
  clear hN' hD' g0' g1'
  have hb := hp.chg hA.chg hpv
  have l := hb.ld (i := 12) (v := .int .i32 b.many) rfl
  refine wp_seq_k fun K hK => ?_; refine wp_seq_k fun K1 hK1 => ?_; refine zac ?_; (repeat ((with_reducible refine zah ?_ ?_ ?_); (· simp [evb, pvb, rnb, kb, hN, g0, ofKB, l, dyb, sdb] <;> omega); (· kernel_rfl); try simp only [evb, pvb, rnb, kb, hN, seval, g0, ofKB, l])); refine zaa ?_; refine hK1 _ _ ?_; try clear hK1 K1
  refine zac ?_; (repeat ((with_reducible refine zah ?_ ?_ ?_); (· simp [evb, pvb, rnb, kb, hN, g1, dyb, sdb] <;> omega); (· kernel_rfl); try simp only [evb, pvb, rnb, kb, hN, seval, g1]))
  refine zar (fun args w => Tryd.call38 args w) (AppendInt32_c b.many) (by simp only [List.map_toArray, List.map_cons, List.map_nil]; simp only [evb, pvb, rnb, kb, hN, seval, g1]) hA.own (by simp only [List.length_append, zas]; omega) (Nat.le_trans hbase hA.chg.size) trivial ?_
  intro v13 w13 happ
  (repeat ((with_reducible refine zah ?_ ?_ ?_); (· simp [evb, pvb, rnb, kb, hN, dyb, sdb] <;> omega); (· kernel_rfl); try simp only [evb, pvb, rnb, kb, hN, seval])); refine zaa ?_; refine hK _ _ ?_; clear hK K
  rw [List.append_assoc] at happ
  have hA := hA.trans happ
  refine zaw fun a13 ha => ?_
  have hN' : a13.tmps.size = 118 := by rw [ha]; simp only [zaf]; exact hN
  have hD' : a13.defers = [] := by rw [ha]; simp only [zab]; exact hD
  have g0' : get a13 0 = .pointer (some ⟨p, 0, none⟩) := by rw [ha]; simp only [evb, pvb, rnb, kb, hN, seval, g0]
  have g1' : get a13 1 = v13 := by rw [ha]; simp only [evb, pvb, rnb, kb, hN, seval]
  clear ha happ hN hD g0 g1 l hb
  have hN := hN'
  have hD := hD'
  have g0 := g0'
  have g1 := g1'
  clear hN' hD' g0' g1'
  have hb := hp.chg hA.chg hpv
  have l := hb.ld (i := 13) (v := .slice oa b.recs.length cap) rfl
  refine wp_seq_k fun K hK => ?_; refine wp_seq_k fun K1 hK1 => ?_; refine zac ?_; (repeat ((with_reducible refine zah ?_ ?_ ?_); (· simp [evb, pvb, rnb, kb, hN, g0, ofKB, l, dyb, sdb] <;> omega); (· kernel_rfl); try simp only [evb, pvb, rnb, kb, hN, seval, g0, ofKB, l])); refine zaa ?_; refine hK1 _ _ ?_; try clear hK1 K1
  refine zac ?_; (repeat ((with_reducible refine zah ?_ ?_ ?_); (· simp [evb, pvb, rnb, kb, hN, g1, dyb, sdb] <;> omega); (· kernel_rfl); try simp only [evb, pvb, rnb, kb, hN, seval, g1]))
  refine wl_append (c := cap) (oa := oa) (base := base) bT (by simp only [evb, pvb, rnb, kb, hN, seval, g1]) (by simp only [evb, pvb, rnb, kb, hN, seval]) hA.own (q2.chg hA.chg fun g hg _ => hGv g hg) (by simp only [List.length_append, zas]; omega) (Nat.le_trans hbase hA.chg.size) ?_
  intro v14 w14 happ
  (repeat ((with_reducible refine zah ?_ ?_ ?_); (· simp [evb, pvb, rnb, kb, hN, dyb, sdb] <;> omega); (· kernel_rfl); try simp only [evb, pvb, rnb, kb, hN, seval])); refine zaa ?_; refine hK _ _ ?_; clear hK K
  rw [List.append_assoc] at happ
  have hA := hA.trans happ
  refine zaw fun a14 ha => ?_
  have hN' : a14.tmps.size = 118 := by rw [ha]; simp only [zaf]; exact hN
  have hD' : a14.defers = [] := by rw [ha]; simp only [zab]; exact hD
  have g0' : get a14 0 = .pointer (some ⟨p, 0, none⟩) := by rw [ha]; simp only [evb, pvb, rnb, kb, hN, seval, g0]
  have g1' : get a14 1 = v14 := by rw [ha]; simp only [evb, pvb, rnb, kb, hN, seval]
  clear ha happ hN hD g0 g1 l hb
  have hN := hN'
  have hD := hD'
  have g0 := g0'
  have g1 := g1'
  clear hN' hD' g0' g1'
  refine wp_seq_k fun K hK => ?_; refine zac ?_; (repeat ((with_reducible refine zah ?_ ?_ ?_); (· simp [evb, pvb, rnb, kb, hN, g1, dyb, sdb] <;> omega); (· kernel_rfl); try simp only [evb, pvb, rnb, kb, hN, seval, g1])); refine zaa ?_; refine hK _ _ ?_; clear hK K; refine wp_ret ⟨by simp [zab, hD], ?_⟩; simp only [evb, kb, hN, seval]
  exact hA
theorem wb_build {P : Program} {ops : Array Oper} {w0 : World} {Q : Act → World → Prop} {a : Act} {w : World} {d : Option Nat} {ty : TypeId} {pos : String} {af : Array Edge} {fuel i : Nat} {listed : Array Bool} {t : TypeId} {parts : Array (Nat × Operand)} {l : List Value} (hB : (Region.noSelect ops && Region.free .any ops listed i && (Region.ready .any ops listed).contains i) = true)
    (hi : ops[i]? = some ⟨d, .build t parts, ty, pos, af, none⟩) (hb : P.built t ((parts.map fun (i, x) => (i, a.eval x)).toList) = some l.toArray) (hS : Chg (fun _ => False) w0 w)
    (h : wpAnyH P .any ops (OneQ Q) (fun w' => Chg (fun _ => False) w0 w') fuel (listed.setIfInBounds i true) (a.put d (zax l)) w) : wpAnyH P .any ops (OneQ Q) (fun w' => Chg (fun _ => False) w0 w') (fuel + 1) listed a w := by
  simp only [Bool.and_eq_true] at hB
  exact wpAnyH_take hi hB.1.1 hB.1.2 hB.2 (fun _ _ _ h => h) (.inl ⟨by simp [Region.wanted], fun w' c => by simp only [execOp, Sem.run_bind, run_build w' t _ _ hb]; rfl⟩) hS h
theorem Own.one {e : TypeId} {w : World} {base : Nat} {v : Value} {l : Bs} (h : Own e w base v l) : ∃ oa n c, v = .slice oa n c := by
  obtain ⟨oa, cap, h1, _, _⟩ := h.bytes
  exact ⟨_, _, _, h1⟩
theorem makeBatch_c {w : World} {G : Nat → Prop} {b : Bt} {vs : List Value} (h : BtC w G b vs) (hl : b.recs.length ≤ 1073741824) : zan Tryd.prog 11 #[.slice none 0 0, zax vs] w (NewB w (batB b)) := by
  obtain ⟨oa, cap, rfl, q1, q2, q3⟩ := h
  refine zaj Tryd.func11 rfl rfl Tryd.ntmps11 (by simp) ?_
  intro a hN hD hargs
  have h0 : get a 0 = .slice none 0 0 := hargs 0 _ rfl
  have h1 : get a 1 = zax (btV b (.slice oa b.recs.length cap)) := hargs 1 _ rfl
  refine wp_seq_k fun K hK => ?_; refine zac ?_
  refine zaQ (l := btV b (.slice oa b.recs.length cap)) (by simp [evb, kb, hN, h1, sdb]) fun w1 hc1 hb1 hs1 => ?_
  (repeat ((with_reducible refine zah ?_ ?_ ?_); (· simp [evb, pvb, rnb, kb, hN, dyb, sdb] <;> omega); (· kernel_rfl); try simp only [evb, pvb, rnb, kb, hN, seval])); refine zaa ?_; refine hK _ _ ?_; clear hK K
  have l0 := hb1.ld (i := 0) (v := .int .i64 b.first) rfl
  have l1 := hb1.ld (i := 1) (v := .int .i32 b.len) rfl
  have l2 := hb1.ld (i := 2) (v := .int .i32 b.epoch) rfl
  have l3 := hb1.ld (i := 3) (v := .int .i8 b.magic) rfl
  have l4 := hb1.ld (i := 4) (v := .int .i32 b.crc) rfl
  have l5 := hb1.ld (i := 5) (v := .int .i16 b.attr) rfl
  have l6 := hb1.ld (i := 6) (v := .int .i32 b.last) rfl
  have l7 := hb1.ld (i := 7) (v := .int .i64 b.firstT) rfl
  have l8 := hb1.ld (i := 8) (v := .int .i64 b.maxT) rfl
  have l9 := hb1.ld (i := 9) (v := .int .i64 b.prod) rfl
  have l10 := hb1.ld (i := 10) (v := .int .i16 b.pep) rfl
  have l11 := hb1.ld (i := 11) (v := .int .i32 b.seq) rfl
  have l12 := hb1.ld (i := 12) (v := .int .i32 b.many) rfl
  have l13 := hb1.ld (i := 13) (v := .slice oa b.recs.length cap) rfl
  refine wp_seq_k fun K hK => ?_
  refine zaw fun a1 ha => ?_
  have hN' : a1.tmps.size = 39 := by rw [ha]; simp only [zaf]; exact hN
  have hD' : a1.defers = [] := by rw [ha]; simp only [zab]; exact hD
  have g0 : get a1 0 = .slice none 0 0 := by rw [ha]; simp only [evb, pvb, rnb, kb, hN, seval, h0]
  have g3 : get a1 3 = .pointer (some ⟨w.heap.size, 0, none⟩) := by rw [ha]; simp only [evb, pvb, rnb, kb, hN, seval]
  clear ha hN hD h0 h1 hargs
  have hN := hN'
  have hD := hD'
  clear hN' hD'
  refine wb_any zaz ?_
  have hd1 : Chg (fun _ => False) w1 w1.drew := Chg.drew _ _
  refine wb_p (i := 0) (by kernel_rfl) rfl (by simp [evb, pvb, rnb, kb, hN, seval, g3, ofB, dyb, sdb] <;> omega) (by kernel_rfl) hd1 ?_; try simp only [evb, pvb, rnb, kb, hN, seval, g3, ofB]
  refine wb_p (i := 1) (by kernel_rfl) rfl (by simp [evb, pvb, rnb, kb, hN, seval, l0, dyb, sdb] <;> omega) (by kernel_rfl) hd1 ?_; try simp only [evb, pvb, rnb, kb, hN, seval, l0]
  refine wb_p (i := 2) (by kernel_rfl) rfl (by simp [evb, pvb, rnb, kb, hN, seval, g3, ofB, dyb, sdb] <;> omega) (by kernel_rfl) hd1 ?_; try simp only [evb, pvb, rnb, kb, hN, seval, g3, ofB]
  refine wb_p (i := 3) (by kernel_rfl) rfl (by simp [evb, pvb, rnb, kb, hN, seval, l1, dyb, sdb] <;> omega) (by kernel_rfl) hd1 ?_; try simp only [evb, pvb, rnb, kb, hN, seval, l1]
  refine wb_p (i := 4) (by kernel_rfl) rfl (by simp [evb, pvb, rnb, kb, hN, seval, g3, ofB, dyb, sdb] <;> omega) (by kernel_rfl) hd1 ?_; try simp only [evb, pvb, rnb, kb, hN, seval, g3, ofB]
  refine wb_p (i := 5) (by kernel_rfl) rfl (by simp [evb, pvb, rnb, kb, hN, seval, l2, dyb, sdb] <;> omega) (by kernel_rfl) hd1 ?_; try simp only [evb, pvb, rnb, kb, hN, seval, l2]
  refine wb_p (i := 6) (by kernel_rfl) rfl (by simp [evb, pvb, rnb, kb, hN, seval, g3, ofB, dyb, sdb] <;> omega) (by kernel_rfl) hd1 ?_; try simp only [evb, pvb, rnb, kb, hN, seval, g3, ofB]
  refine wb_p (i := 7) (by kernel_rfl) rfl (by simp [evb, pvb, rnb, kb, hN, seval, l3, dyb, sdb] <;> omega) (by kernel_rfl) hd1 ?_; try simp only [evb, pvb, rnb, kb, hN, seval, l3]
  refine wb_p (i := 8) (by kernel_rfl) rfl (by simp [evb, pvb, rnb, kb, hN, seval, g3, ofB, dyb, sdb] <;> omega) (by kernel_rfl) hd1 ?_; try simp only [evb, pvb, rnb, kb, hN, seval, g3, ofB]
  refine wb_p (i := 9) (by kernel_rfl) rfl (by simp [evb, pvb, rnb, kb, hN, seval, l4, dyb, sdb] <;> omega) (by kernel_rfl) hd1 ?_; try simp only [evb, pvb, rnb, kb, hN, seval, l4]
  refine wb_p (i := 10) (by kernel_rfl) rfl (by simp [evb, pvb, rnb, kb, hN, seval, g3, ofB, dyb, sdb] <;> omega) (by kernel_rfl) hd1 ?_; try simp only [evb, pvb, rnb, kb, hN, seval, g3, ofB]
  refine wb_p (i := 11) (by kernel_rfl) rfl (by simp [evb, pvb, rnb, kb, hN, seval, l5, dyb, sdb] <;> omega) (by kernel_rfl) hd1 ?_; try simp only [evb, pvb, rnb, kb, hN, seval, l5]
  refine wb_p (i := 12) (by kernel_rfl) rfl (by simp [evb, pvb, rnb, kb, hN, seval, g3, ofB, dyb, sdb] <;> omega) (by kernel_rfl) hd1 ?_; try simp only [evb, pvb, rnb, kb, hN, seval, g3, ofB]
  refine wb_p (i := 13) (by kernel_rfl) rfl (by simp [evb, pvb, rnb, kb, hN, seval, l6, dyb, sdb] <;> omega) (by kernel_rfl) hd1 ?_; try simp only [evb, pvb, rnb, kb, hN, seval, l6]
  refine wb_p (i := 14) (by kernel_rfl) rfl (by simp [evb, pvb, rnb, kb, hN, seval, g3, ofB, dyb, sdb] <;> omega) (by kernel_rfl) hd1 ?_; try simp only [evb, pvb, rnb, kb, hN, seval, g3, ofB]
  refine wb_p (i := 15) (by kernel_rfl) rfl (by simp [evb, pvb, rnb, kb, hN, seval, l7, dyb, sdb] <;> omega) (by kernel_rfl) hd1 ?_; try simp only [evb, pvb, rnb, kb, hN, seval, l7]
  refine wb_p (i := 16) (by kernel_rfl) rfl (by simp [evb, pvb, rnb, kb, hN, seval, g3, ofB, dyb, sdb] <;> omega) (by kernel_rfl) hd1 ?_; try simp only [evb, pvb, rnb, kb, hN, seval, g3, ofB]
  refine wb_p (i := 17) (by kernel_rfl) rfl (by simp [evb, pvb, rnb, kb, hN, seval, l8, dyb, sdb] <;> omega) (by kernel_rfl) hd1 ?_; try simp only [evb, pvb, rnb, kb, hN, seval, l8]
  refine wb_p (i := 18) (by kernel_rfl) rfl (by simp [evb, pvb, rnb, kb, hN, seval, g3, ofB, dyb, sdb] <;> omega) (by kernel_rfl) hd1 ?_; try simp only [evb, pvb, rnb, kb, hN, seval, g3, ofB]
  refine wb_p (i := 19) (by kernel_rfl) rfl (by simp [evb, pvb, rnb, kb, hN, seval, l9, dyb, sdb] <;> omega) (by kernel_rfl) hd1 ?_; try simp only [evb, pvb, rnb, kb, hN, seval, l9]
  refine wb_p (i := 20) (by kernel_rfl) rfl (by simp [evb, pvb, rnb, kb, hN, seval, g3, ofB, dyb, sdb] <;> omega) (by kernel_rfl) hd1 ?_; try simp only [evb, pvb, rnb, kb, hN, seval, g3, ofB]
  refine wb_p (i := 21) (by kernel_rfl) rfl (by simp [evb, pvb, rnb, kb, hN, seval, l10, dyb, sdb] <;> omega) (by kernel_rfl) hd1 ?_; try simp only [evb, pvb, rnb, kb, hN, seval, l10]
  refine wb_p (i := 22) (by kernel_rfl) rfl (by simp [evb, pvb, rnb, kb, hN, seval, g3, ofB, dyb, sdb] <;> omega) (by kernel_rfl) hd1 ?_; try simp only [evb, pvb, rnb, kb, hN, seval, g3, ofB]
  refine wb_p (i := 23) (by kernel_rfl) rfl (by simp [evb, pvb, rnb, kb, hN, seval, l11, dyb, sdb] <;> omega) (by kernel_rfl) hd1 ?_; try simp only [evb, pvb, rnb, kb, hN, seval, l11]
  refine wb_p (i := 24) (by kernel_rfl) rfl (by simp [evb, pvb, rnb, kb, hN, seval, g3, ofB, dyb, sdb] <;> omega) (by kernel_rfl) hd1 ?_; try simp only [evb, pvb, rnb, kb, hN, seval, g3, ofB]
  refine wb_p (i := 25) (by kernel_rfl) rfl (by simp [evb, pvb, rnb, kb, hN, seval, l12, dyb, sdb] <;> omega) (by kernel_rfl) hd1 ?_; try simp only [evb, pvb, rnb, kb, hN, seval, l12]
  refine wb_p (i := 26) (by kernel_rfl) rfl (by simp [evb, pvb, rnb, kb, hN, seval, g3, ofB, dyb, sdb] <;> omega) (by kernel_rfl) hd1 ?_; try simp only [evb, pvb, rnb, kb, hN, seval, g3, ofB]
  refine wb_p (i := 27) (by kernel_rfl) rfl (by simp [evb, pvb, rnb, kb, hN, seval, l13, dyb, sdb] <;> omega) (by kernel_rfl) hd1 ?_; try simp only [evb, pvb, rnb, kb, hN, seval, l13]
  refine wb_p (i := 31) (by kernel_rfl) rfl (by simp [evb, pvb, rnb, kb, hN, seval, g0, dyb, sdb] <;> omega) (by kernel_rfl) hd1 ?_; try simp only [evb, pvb, rnb, kb, hN, seval, g0]
  refine wb_one (i := 28) (by kernel_rfl) rfl ?_
  refine zak (fun args w => Tryd.call19 args w) (by simp only [List.map_toArray, List.map_cons, List.map_nil, evb, kb, hN, seval]; exact own_c ((q2.chg hc1 fun _ _ _ h => h).chg hd1 fun _ _ _ h => h) (by unfold LIM; omega)) ?_
  rintro v2 w2 ⟨r1, r2⟩
  have hc12 := hd1.trans r2 fun _ _ h => h
  refine zaa ⟨hc12, ?_⟩
  obtain ⟨oq, cq, rfl, f1, f2⟩ := own_at r1
  refine wb_build (i := 29) (l := btV b (.slice oq b.recs.length cq)) (by kernel_rfl) rfl (by simp only [List.map_toArray, List.map_cons, List.map_nil, evb, kb, hN, seval]; kernel_rfl) hc12 ?_
  have hs12 := hc12.size
  refine wb_fin (fuel' := 2) (l' := #[true, true, true, true, true, true, true, true, true, true, true, true, true, true, true, true, true, true, true, true, true, true, true, true, true, true, true, true, true, true, true, true, true, false, false]) (fun a' w' => ∃ (p : Nat) (v : Value), a'.tmps.size = 39 ∧ a'.defers = [] ∧ get a' 35 = .pointer (some ⟨p, 0, none⟩) ∧ get a' 37 = v ∧ Blk w' p (btV b (.slice oq b.recs.length cq)) 60 ∧ ¬ v.ownBlock = some p ∧ w.heap.size ≤ p ∧
    Own eB w' w2.heap.size v [] ∧ Chg (fun _ => False) w2 w') ?_ fun fin => ?_
  rotate_left
  · have hbn : zam w2 (fun _ => False) none [] := .inl rfl
    refine wb_two (i := 30) (j := 32) (by kernel_rfl) rfl rfl ?_ ?_
    · refine zaQ (l := btV b (.slice oq b.recs.length cq)) (by simp only [evb, pvb, rnb, kb, hN, seval]) fun w3 hc3 hb3 hs3 => ?_
      have hc13 := hc12.trans hc3 fun _ _ h => h
      refine zaa ⟨hc13, ?_⟩
      refine wb_one (i := 32) (by kernel_rfl) rfl ?_
      refine zak (fun args w => Tryd.call19 args w) (by simp only [List.map_toArray, List.map_cons, List.map_nil, evb, kb, hN, seval]; exact own_c (l := []) (hbn.chg hc3 fun _ _ _ h => h) (by unfold LIM; simp)) ?_
      rintro v4 w4 ⟨s1, s2⟩
      refine zaa ⟨hc13.trans s2 fun _ _ h => h, ?_⟩
      refine wb_list (l' := #[true, true, true, true, true, true, true, true, true, true, true, true, true, true, true, true, true, true, true, true, true, true, true, true, true, true, true, true, true, true, true, true, true, false, false]) (by kernel_rfl) ?_
      exact fin _ _ ⟨w2.heap.size, v4, by simp only [zaf, hN], by simp only [zab, hD], by simp only [evb, pvb, rnb, kb, hN, seval], by simp only [evb, pvb, rnb, kb, hN, seval], hb3.chg s2 fun h => h, fun e => by have := (s1.lt _ e).1; omega, by omega, s1.mono (by omega), hc3.trans s2 fun _ _ h => h⟩
    · refine zak (fun args w => Tryd.call19 args w) (by simp only [List.map_toArray, List.map_cons, List.map_nil, evb, kb, hN, seval]; exact own_c (l := []) hbn (by unfold LIM; simp)) ?_
      rintro v4 w4 ⟨s1, s2⟩
      have hc14 := hc12.trans s2 fun _ _ h => h
      refine zaa ⟨hc14, ?_⟩
      refine wb_one (i := 30) (by kernel_rfl) rfl ?_
      refine zaQ (l := btV b (.slice oq b.recs.length cq)) (by simp only [evb, pvb, rnb, kb, hN, seval]) fun w3 hc3 hb3 hs3 => ?_
      have hs14 := s2.size
      refine zaa ⟨hc14.trans hc3 fun _ _ h => h, ?_⟩
      refine wb_list (l' := #[true, true, true, true, true, true, true, true, true, true, true, true, true, true, true, true, true, true, true, true, true, true, true, true, true, true, true, true, true, true, true, true, true, false, false]) (by kernel_rfl) ?_
      exact fin _ _ ⟨w4.heap.size, v4, by simp only [zaf, hN], by simp only [zab, hD], by simp only [evb, pvb, rnb, kb, hN, seval], by simp only [evb, pvb, rnb, kb, hN, seval], hb3, fun e => by have := (s1.lt _ e).2; omega, by omega, s1.chg hc3 fun _ _ h => h, s2.trans hc3 fun _ _ h => h⟩
  clear hN hD g0 g3
  rintro a3 w3 ⟨p, v3, hN, hD, g35, g37, hb3, hpv, hwp, ho3, hc3⟩
  have hc13 := hc12.trans hc3 fun _ _ h => h
  have hs3 := hc3.size
  refine wb_one (i := 33) (by kernel_rfl) rfl ?_
  refine zak (fun args w => Tryd.call21 args w) (by simp only [List.map_toArray, List.map_cons, List.map_nil, evb, kb, hN, seval, g35, g37]; exact batAppend_c (G := fun g => g < w2.heap.size) (b := b) (bs := []) (base := w2.heap.size) hb3 ⟨oq, cq, rfl, f1, (f2.mono fun g hg hl => hl).chg hc3 fun _ _ _ h => h, q3⟩ hpv (fun k hk e => by have := (ho3.lt k e).1; omega) ho3 (by unfold LIM; simp only [List.length_nil]; omega) hs3) ?_
  intro v4 w4 happ
  have hc34 : Chg (fun _ => False) w1 w4 := hc13.trans happ.chg fun n hn hk => by have := (ho3.lt n hk).1; omega
  refine zaa ⟨hc34, ?_⟩
  refine wb_p (i := 34) (by kernel_rfl) rfl (by simp [evb, pvb, rnb, kb, hN, seval, dyb, sdb] <;> omega) (by kernel_rfl) hc34 ?_; try simp only [evb, pvb, rnb, kb, hN, seval]
  refine wb_nil (by kernel_rfl) (hK _ _ ?_)
  refine wp_ret ⟨by simp [zab, hD], ?_⟩; simp only [evb, kb, hN, seval]
  refine .mk2 (base := w2.heap.size) (by simpa using happ.own) (by omega) (hc1.trans hc34 fun _ _ h => h)
end Go.Proofs.YtojpodeljpfgaaaDoor
namespace Go.Proofs.YtojpodeljpfgaaaDoor
set_option linter.all false
open Go.RowKit
set_option maxRecDepth 10000
set_option maxHeartbeats 4000000
theorem Complete_k {w : World} {G : Nat → Prop} {R : Nat} {bs : Bs} (hS : RdS w G R (some bs)) : zan Tryd.prog 53 #[.pointer (some ⟨R, 0, none⟩)] w fun v w' => w' = w ∧ v = .nilIface := by
  obtain ⟨oa, cap, hb, _⟩ := hS
  have l1 := hb.ld (i := 1) (v := .bool false) rfl
  refine zaj Tryd.func53 rfl rfl Tryd.ntmps53 (by simp) ?_
  intro a hN hD ha
  have h0 : get a 0 = .pointer (some ⟨R, 0, none⟩) := ha 0 _ rfl
  refine wp_seq_k fun K hK => ?_; refine zac ?_; (repeat ((with_reducible refine zah ?_ ?_ ?_); (· simp [evb, pvb, rnb, kb, hN, dyb, sdb] <;> omega); (· kernel_rfl); try simp only [evb, pvb, rnb, kb, hN, seval])); refine zaa ?_; refine hK _ _ ?_; clear hK K
  refine wp_seq_k fun K hK => ?_; refine wp_seq_k fun K0 hK0 => ?_; refine zac ?_; (repeat ((with_reducible refine zah ?_ ?_ ?_); (· simp [evb, pvb, rnb, kb, hN, h0, l1, fo, dyb, sdb] <;> omega); (· kernel_rfl); try simp only [evb, pvb, rnb, kb, hN, seval, h0, l1, fo])); refine zaa ?_; refine hK0 _ _ ?_; try clear hK0 K0
  refine wp_cond_false (by simp only [evb, pvb, rnb, kb, hN, seval]) ?_
  refine wp_skip ?_
  refine hK _ _ ?_
  clear hK K
  refine wp_seq_k fun K hK => ?_; refine zac ?_; (repeat ((with_reducible refine zah ?_ ?_ ?_); (· simp [evb, pvb, rnb, kb, hN, dyb, sdb] <;> omega); (· kernel_rfl); try simp only [evb, pvb, rnb, kb, hN, seval])); refine zaa ?_; refine hK _ _ ?_; clear hK K; refine wp_ret ⟨by simp [zab, hD], ?_⟩; simp only [evb, kb, hN, seval]
  exact ⟨by first | rfl | trivial, by first | rfl | trivial⟩
theorem RdS.chg {w w' : World} {G X : Nat → Prop} {R : Nat} {bs : Bs} (h : RdS w G R (some bs)) (c : Chg X w w') (hR : ¬ X R) (hG : ∀ k, G k → k < w.heap.size → ¬ X k) : RdS w' G R (some bs) := h.stay (Stay.of c fun k hk hl => hG k hk hl) (c.block R h.lt hR)
theorem batDefault_c {w : World} {x : Value} : zan Tryd.prog 47 #[x] w fun _ w' => w' = w := by
  refine callsR_of0 Tryd.func47 rfl rfl Tryd.ntmps47 (by simp) ?_
  intro a hN hD ha
  exact wp_skip ⟨hD, rfl⟩
theorem batRead_c {w : World} {G : Nat → Prop} {b : Bt} {p : Nat} {T : TypeId} {oa : Option Addr} {cap : Nat} (hbt : zam w G oa (batB b)) (hcap : (batB b).length ≤ cap) (q : BtR b) (hlen : b.len = 49 + b.recs.length) (hp : Blk w p (btV ⟨0, 0, 0, 0, 0, 0, 0, 0, 0, 0, 0, 0, 0, []⟩ (.slice none 0 0)) T) (hGp : ¬ G p) :
    zan Tryd.prog 36 #[.pointer (some ⟨p, 0, none⟩), .slice oa (batB b).length cap, .bool false] w fun v w' => v = .nilIface ∧ (∃ vs, Blk w' p vs T ∧ BtC w' (fun g => G g ∨ w.heap.size < g) b vs) ∧ Chg (fun k => k = p) w w' := by
  refine zaj Tryd.func36 rfl rfl Tryd.ntmps36 (by simp) ?_
  intro a hN hD hargs
  have h0 : get a 0 = .pointer (some ⟨p, 0, none⟩) := hargs 0 _ rfl
  have h1 : get a 1 = .slice oa (batB b).length cap := hargs 1 _ rfl
  have hpl := hp.lt
  refine wp_seq_k fun K hK => ?_; refine zac ?_; (repeat ((with_reducible refine zah ?_ ?_ ?_); (· simp [evb, pvb, rnb, kb, hN, dyb, sdb] <;> omega); (· kernel_rfl); try simp only [evb, pvb, rnb, kb, hN, seval])); refine zaa ?_; refine hK _ _ ?_; clear hK K
  refine wp_seq_k fun K hK => ?_; refine zac ?_; (repeat ((with_reducible refine zah ?_ ?_ ?_); (· simp [evb, pvb, rnb, kb, hN, h0, dyb, sdb] <;> omega); (· kernel_rfl); try simp only [evb, pvb, rnb, kb, hN, seval, h0]))
  refine zak (fun args w => Tryd.call47 args w) (by simp only [List.map_toArray, List.map_cons, List.map_nil, evb, kb, hN, seval]; exact batDefault_c) ?_
  intro _ w0 hw
  replace hw := hw.symm
  subst hw
  refine zaa ?_; refine hK _ _ ?_; clear hK K
  refine wp_seq_k fun K hK => ?_; refine zac ?_; (repeat ((with_reducible refine zah ?_ ?_ ?_); (· simp [evb, pvb, rnb, kb, hN, h1, dyb, sdb] <;> omega); (· kernel_rfl); try simp only [evb, pvb, rnb, kb, hN, seval, h1]))
  refine wl_build (l := [.slice oa (batB b).length cap, .bool false]) (by simp only [List.map_toArray, List.map_cons, List.map_nil, evb, kb, hN, seval]; kernel_rfl) ?_
  refine zaH (z := zax [.slice none 0 0, .bool false]) (fun w => Tryd.zeroValue90 w) fun w1 hc1 hb1 hs1 => ?_
  refine zaA (b := w.heap.size) (n := 2) (l' := [.slice oa (batB b).length cap, .bool false]) (by kernel_rfl) (by simp only [evb, pvb, rnb, kb, hN, seval]) (by simp only [evb, pvb, rnb, kb, hN, seval]) hb1 rfl (by intro y hy; simp only [List.mem_cons, List.not_mem_nil, or_false] at hy; rcases hy with rfl | rfl <;> rfl) rfl fun w2 hb2 hc2 => ?_
  refine zaa ?_; refine hK _ _ ?_; clear hK K
  have hc02 : Chg (fun _ => False) w w2 := hc1.trans hc2 fun n hn h => by omega
  have hs2 := hc2.size
  obtain ⟨G', hG'⟩ : ∃ G' : Nat → Prop, G' = fun g => (G g ∧ g < w.heap.size) ∨ w.heap.size < g := ⟨_, rfl⟩
  have hR : ¬ G' w.heap.size := by rw [hG']; rintro (h | h) <;> omega
  have hGp' : ¬ G' p := by rw [hG']; rintro (h | h); (· exact hGp h.1); (· omega)
  have hf : ∀ k, w2.heap.size ≤ k → G' k := by rw [hG']; intro k hk; exact .inr (by omega)
  have hpR : ¬ w.heap.size = p := by omega
  have hRp : ¬ p = w.heap.size := by omega
  have hS : RdS w2 G' w.heap.size (some (batB b)) := ⟨oa, cap, hb2, hcap, (hbt.mono (H := G') fun g hg hl => by rw [hG']; exact .inl ⟨hg, hl⟩).chg hc02 fun _ _ _ h => h⟩
  have e : batB b = be 8 b.first ++ (be 4 b.len ++ (be 4 b.epoch ++ (be 1 b.magic ++ (be 4 b.crc ++ (be 2 b.attr ++ (be 4 b.last ++ (be 8 b.firstT ++ (be 8 b.maxT ++ (be 8 b.prod ++ (be 2 b.pep ++ (be 4 b.seq ++ (be 4 b.many ++ (b.recs ++ []))))))))))))) := by unfold batB; simp only [List.append_assoc, List.append_nil]
  rw [e] at hS
  have hb : Blk w2 p [.int .i64 0, .int .i32 0, .int .i32 0, .int .i8 0, .int .i32 0, .int .i16 0, .int .i32 0, .int .i64 0, .int .i64 0, .int .i64 0, .int .i16 0, .int .i32 0, .int .i32 0, .slice none 0 0] T := hp.chg hc02 fun h => h
  have hc : Chg (fun k => k = p ∨ k = w.heap.size) w2 w2 := Chg.refl _ _
  refine wp_seq_k fun K hK => ?_; refine zac ?_; (repeat ((with_reducible refine zah ?_ ?_ ?_); (· simp [evb, pvb, rnb, kb, hN, h0, dyb, sdb] <;> omega); (· kernel_rfl); try simp only [evb, pvb, rnb, kb, hN, seval, h0])); refine zaa ?_; refine hK _ _ ?_; clear hK K
  refine zaw fun a0 ha => ?_
  have hN' : a0.tmps.size = 105 := by rw [ha]; simp only [zaf]; exact hN
  have hD' : a0.defers = [] := by rw [ha]; simp only [zab]; exact hD
  have g7 : get a0 7 = .pointer (some ⟨w.heap.size, 0, none⟩) := by rw [ha]; simp only [evb, pvb, rnb, kb, hN, seval]
  have g8 : get a0 8 = .pointer (some ⟨p, 0, none⟩) := by rw [ha]; simp only [evb, pvb, rnb, kb, hN, seval]
  clear ha hN hD h0 h1 hargs e hb1 hb2 hs1 hcap hbt hp
  have hN := hN'
  have hD := hD'
  clear hN' hD'
  refine wp_seq_k fun K hK => ?_; refine wp_seq_k fun K1 hK1 => ?_; refine zac ?_; (repeat ((with_reducible refine zah ?_ ?_ ?_); (· simp [evb, pvb, rnb, kb, hN, g7, dyb, sdb] <;> omega); (· kernel_rfl); try simp only [evb, pvb, rnb, kb, hN, seval, g7]))
  refine wl_rdk (out := fun _ _ x v => v = .int .i64 x) (fun args w => Tryd.call48 args w) (RdOk.of Int64_c fun _ _ _ _ _ h => h) (by simp only [List.map_toArray, List.map_cons, List.map_nil]; simp only [evb, pvb, rnb, kb, hN, seval, g7]) hS hR (zaG hc hf) (rS_be 8 b.first _ (by have := q.first; omega) (by have := q.first; omega)) ?_
  rintro _ x0 rfl hx hS'
  (repeat ((with_reducible refine zah ?_ ?_ ?_); (· simp [evb, pvb, rnb, kb, hN, dyb, sdb] <;> omega); (· kernel_rfl); try simp only [evb, pvb, rnb, kb, hN, seval])); refine zaa ?_; refine hK1 _ _ ?_; try clear hK1 K1
  refine zac ?_; (repeat ((with_reducible refine zah ?_ ?_ ?_); (· simp [evb, pvb, rnb, kb, hN, g8, ofKB, dyb, sdb] <;> omega); (· kernel_rfl); try simp only [evb, pvb, rnb, kb, hN, seval, g8, ofKB]))
  refine zap (b := p) (o := 0) (n := 1) (v := .int .i64 b.first) (by kernel_rfl) (by simp only [evb, pvb, rnb, kb, hN, seval]) (by simp only [evb, pvb, rnb, kb, hN, seval]) (hb.chg hx hRp) rfl (by intro y hy; simp only [Value.cells, List.mem_singleton] at hy; subst hy; rfl) (by show 0 + 1 ≤ 14; omega) fun y0 hy hcy => ?_
  refine zaa ?_; refine hK _ _ ?_; clear hK K
  have hb' : Blk y0 p [.int .i64 b.first, .int .i32 0, .int .i32 0, .int .i8 0, .int .i32 0, .int .i16 0, .int .i32 0, .int .i64 0, .int .i64 0, .int .i64 0, .int .i16 0, .int .i32 0, .int .i32 0, .slice none 0 0] T := hy
  have hS2 : RdS y0 G' w.heap.size (some (be 4 b.len ++ (be 4 b.epoch ++ (be 1 b.magic ++ (be 4 b.crc ++ (be 2 b.attr ++ (be 4 b.last ++ (be 8 b.firstT ++ (be 8 b.maxT ++ (be 8 b.prod ++ (be 2 b.pep ++ (be 4 b.seq ++ (be 4 b.many ++ (b.recs ++ [])))))))))))))) := hS'.chg hcy hpR fun k hk _ e => hGp' (e ▸ hk)
  have hc' : Chg (fun k => k = p ∨ k = w.heap.size) w2 y0 := (hc.trans hx fun _ _ h => .inr h).trans hcy fun _ _ h => .inl h
  refine zaw fun a1 ha => ?_
  have hN' : a1.tmps.size = 105 := by rw [ha]; simp only [zaf]; exact hN
  have hD' : a1.defers = [] := by rw [ha]; simp only [zab]; exact hD
  have g7' : get a1 7 = .pointer (some ⟨w.heap.size, 0, none⟩) := by rw [ha]; simp only [evb, pvb, rnb, kb, hN, seval, g7]
  have g8' : get a1 8 = .pointer (some ⟨p, 0, none⟩) := by rw [ha]; simp only [evb, pvb, rnb, kb, hN, seval, g8]
  clear ha hN hD g7 g8 hb hS hS' hx hcy hy hc
  have hN := hN'
  have hD := hD'
  have g7 := g7'
  have g8 := g8'
  have hb := hb'
  have hS := hS2
  have hc := hc'
  clear hN' hD' g7' g8' hb' hS2 hc'
  refine wp_seq_k fun K hK => ?_; refine wp_seq_k fun K1 hK1 => ?_; refine zac ?_; (repeat ((with_reducible refine zah ?_ ?_ ?_); (· simp [evb, pvb, rnb, kb, hN, g7, dyb, sdb] <;> omega); (· kernel_rfl); try simp only [evb, pvb, rnb, kb, hN, seval, g7]))
  refine wl_rdk (out := fun _ _ x v => v = .int .i32 x) (fun args w => Tryd.call49 args w) (RdOk.of Int32_c fun _ _ _ _ _ h => h) (by simp only [List.map_toArray, List.map_cons, List.map_nil]; simp only [evb, pvb, rnb, kb, hN, seval, g7]) hS hR (zaG hc hf) (rS_be 4 b.len _ (by have := q.len; omega) (by have := q.len; omega)) ?_
  rintro _ x1 rfl hx hS'
  (repeat ((with_reducible refine zah ?_ ?_ ?_); (· simp [evb, pvb, rnb, kb, hN, dyb, sdb] <;> omega); (· kernel_rfl); try simp only [evb, pvb, rnb, kb, hN, seval])); refine zaa ?_; refine hK1 _ _ ?_; try clear hK1 K1
  refine zac ?_; (repeat ((with_reducible refine zah ?_ ?_ ?_); (· simp [evb, pvb, rnb, kb, hN, g8, ofKB, dyb, sdb] <;> omega); (· kernel_rfl); try simp only [evb, pvb, rnb, kb, hN, seval, g8, ofKB]))
  refine zap (b := p) (o := 1) (n := 1) (v := .int .i32 b.len) (by kernel_rfl) (by simp only [evb, pvb, rnb, kb, hN, seval]) (by simp only [evb, pvb, rnb, kb, hN, seval]) (hb.chg hx hRp) rfl (by intro y hy; simp only [Value.cells, List.mem_singleton] at hy; subst hy; rfl) (by show 1 + 1 ≤ 14; omega) fun y1 hy hcy => ?_
  refine zaa ?_; refine hK _ _ ?_; clear hK K
  have hb' : Blk y1 p [.int .i64 b.first, .int .i32 b.len, .int .i32 0, .int .i8 0, .int .i32 0, .int .i16 0, .int .i32 0, .int .i64 0, .int .i64 0, .int .i64 0, .int .i16 0, .int .i32 0, .int .i32 0, .slice none 0 0] T := hy
  have hS2 : RdS y1 G' w.heap.size (some (be 4 b.epoch ++ (be 1 b.magic ++ (be 4 b.crc ++ (be 2 b.attr ++ (be 4 b.last ++ (be 8 b.firstT ++ (be 8 b.maxT ++ (be 8 b.prod ++ (be 2 b.pep ++ (be 4 b.seq ++ (be 4 b.many ++ (b.recs ++ []))))))))))))) := hS'.chg hcy hpR fun k hk _ e => hGp' (e ▸ hk)
  have hc' : Chg (fun k => k = p ∨ k = w.heap.size) w2 y1 := (hc.trans hx fun _ _ h => .inr h).trans hcy fun _ _ h => .inl h
  refine zaw fun a2 ha => ?_
  have hN' : a2.tmps.size = 105 := by rw [ha]; simp only [zaf]; exact hN
  have hD' : a2.defers = [] := by rw [ha]; simp only [zab]; exact hD
  have g7' : get a2 7 = .pointer (some ⟨w.heap.size, 0, none⟩) := by rw [ha]; simp only [evb, pvb, rnb, kb, hN, seval, g7]
  have g8' : get a2 8 = .pointer (some ⟨p, 0, none⟩) := by rw [ha]; simp only [evb, pvb, rnb, kb, hN, seval, g8]
  clear ha hN hD g7 g8 hb hS hS' hx hcy hy hc
  have hN := hN'
  have hD := hD'
  have g7 := g7'
  have g8 := g8'
  have hb := hb'
  have hS := hS2
  have hc := hc'
  clear hN' hD' g7' g8' hb' hS2 hc'
  refine wp_seq_k fun K hK => ?_; refine wp_seq_k fun K1 hK1 => ?_; refine zac ?_; (repeat ((with_reducible refine zah ?_ ?_ ?_); (· simp [evb, pvb, rnb, kb, hN, g7, dyb, sdb] <;> omega); (· kernel_rfl); try simp only [evb, pvb, rnb, kb, hN, seval, g7]))
  refine wl_rdk (out := fun _ _ x v => v = .int .i32 x) (fun args w => Tryd.call49 args w) (RdOk.of Int32_c fun _ _ _ _ _ h => h) (by simp only [List.map_toArray, List.map_cons, List.map_nil]; simp only [evb, pvb, rnb, kb, hN, seval, g7]) hS hR (zaG hc hf) (rS_be 4 b.epoch _ (by have := q.epoch; omega) (by have := q.epoch; omega)) ?_
  rintro _ x2 rfl hx hS'
  (repeat ((with_reducible refine zah ?_ ?_ ?_); (· simp [evb, pvb, rnb, kb, hN, dyb, sdb] <;> omega); (· kernel_rfl); try simp only [evb, pvb, rnb, kb, hN, seval])); refine zaa ?_; refine hK1 _ _ ?_; try clear hK1 K1
  refine zac ?_; (repeat ((with_reducible refine zah ?_ ?_ ?_); (· simp [evb, pvb, rnb, kb, hN, g8, ofKB, dyb, sdb] <;> omega); (· kernel_rfl); try simp only [evb, pvb, rnb, kb, hN, seval, g8, ofKB]))
  refine zap (b := p) (o := 2) (n := 1) (v := .int .i32 b.epoch) (by kernel_rfl) (by simp only [evb, pvb, rnb, kb, hN, seval]) (by simp only [evb, pvb, rnb, kb, hN, seval]) (hb.chg hx hRp) rfl (by intro y hy; simp only [Value.cells, List.mem_singleton] at hy; subst hy; rfl) (by show 2 + 1 ≤ 14; omega) fun y2 hy hcy => ?_
  refine zaa ?_; refine hK _ _ ?_; clear hK K
  have hb' : Blk y2 p [.int .i64 b.first, .int .i32 b.len, .int .i32 b.epoch, .int .i8 0, .int .i32 0, .int .i16 0, .int .i32 0, .int .i64 0, .int .i64 0, .int .i64 0, .int .i16 0, .int .i32 0, .int .i32 0, .slice none 0 0] T := hy
  have hS2 : RdS y2 G' w.heap.size (some (be 1 b.magic ++ (be 4 b.crc ++ (be 2 b.attr ++ (be 4 b.last ++ (be 8 b.firstT ++ (be 8 b.maxT ++ (be 8 b.prod ++ (be 2 b.pep ++ (be 4 b.seq ++ (be 4 b.many ++ (b.recs ++ [])))))))))))) := hS'.chg hcy hpR fun k hk _ e => hGp' (e ▸ hk)
  have hc' : Chg (fun k => k = p ∨ k = w.heap.size) w2 y2 := (hc.trans hx fun _ _ h => .inr h).trans hcy fun _ _ h => .inl h
  refine zaw fun a3 ha => ?_
  have hN' : a3.tmps.size = 105 := by rw [ha]; simp only [zaf]; exact hN
  have hD' : a3.defers = [] := by rw [ha]; simp only [zab]; exact hD
  have g7' : get a3 7 = .pointer (some ⟨w.heap.size, 0, none⟩) := by rw [ha]; simp only [evb, pvb, rnb, kb, hN, seval, g7]
  have g8' : get a3 8 = .pointer (some ⟨p, 0, none⟩) := by rw [ha]; simp only [evb, pvb, rnb, kb, hN, seval, g8]
  clear ha hN hD g7 g8 hb hS hS' hx hcy hy hc
  have hN := hN'
  have hD := hD'
  have g7 := g7'
  have g8 := g8'
  have hb := hb'
  have hS := hS2
  have hc := hc'
  clear hN' hD' g7' g8' hb' hS2 hc'
  refine wp_seq_k fun K hK => ?_; refine wp_seq_k fun K1 hK1 => ?_; refine zac ?_; (repeat ((with_reducible refine zah ?_ ?_ ?_); (· simp [evb, pvb, rnb, kb, hN, g7, dyb, sdb] <;> omega); (· kernel_rfl); try simp only [evb, pvb, rnb, kb, hN, seval, g7]))
  refine wl_rdk (out := fun _ _ x v => v = .int .i8 x) (fun args w => Tryd.call50 args w) (RdOk.of Int8_c fun _ _ _ _ _ h => h) (by simp only [List.map_toArray, List.map_cons, List.map_nil]; simp only [evb, pvb, rnb, kb, hN, seval, g7]) hS hR (zaG hc hf) (rS_be 1 b.magic _ (by have := q.magic; omega) (by have := q.magic; omega)) ?_
  rintro _ x3 rfl hx hS'
  (repeat ((with_reducible refine zah ?_ ?_ ?_); (· simp [evb, pvb, rnb, kb, hN, dyb, sdb] <;> omega); (· kernel_rfl); try simp only [evb, pvb, rnb, kb, hN, seval])); refine zaa ?_; refine hK1 _ _ ?_; try clear hK1 K1
  refine zac ?_; (repeat ((with_reducible refine zah ?_ ?_ ?_); (· simp [evb, pvb, rnb, kb, hN, g8, ofKB, dyb, sdb] <;> omega); (· kernel_rfl); try simp only [evb, pvb, rnb, kb, hN, seval, g8, ofKB]))
  refine zap (b := p) (o := 3) (n := 1) (v := .int .i8 b.magic) (by kernel_rfl) (by simp only [evb, pvb, rnb, kb, hN, seval]) (by simp only [evb, pvb, rnb, kb, hN, seval]) (hb.chg hx hRp) rfl (by intro y hy; simp only [Value.cells, List.mem_singleton] at hy; subst hy; rfl) (by show 3 + 1 ≤ 14; omega) fun y3 hy hcy => ?_
  refine zaa ?_; refine hK _ _ ?_; clear hK K
  have hb' : Blk y3 p [.int .i64 b.first, .int .i32 b.len, .int .i32 b.epoch, .int .i8 b.magic, .int .i32 0, .int .i16 0, .int .i32 0, .int .i64 0, .int .i64 0, .int .i64 0, .int .i16 0, .int .i32 0, .int .i32 0, .slice none 0 0] T := hy
  have hS2 : RdS y3 G' w.heap.size (some (be 4 b.crc ++ (be 2 b.attr ++ (be 4 b.last ++ (be 8 b.firstT ++ (be 8 b.maxT ++ (be 8 b.prod ++ (be 2 b.pep ++ (be 4 b.seq ++ (be 4 b.many ++ (b.recs ++ []))))))))))) := hS'.chg hcy hpR fun k hk _ e => hGp' (e ▸ hk)
  have hc' : Chg (fun k => k = p ∨ k = w.heap.size) w2 y3 := (hc.trans hx fun _ _ h => .inr h).trans hcy fun _ _ h => .inl h
  refine zaw fun a4 ha => ?_
  have hN' : a4.tmps.size = 105 := by rw [ha]; simp only [zaf]; exact hN
  have hD' : a4.defers = [] := by rw [ha]; simp only [zab]; exact hD
  have g7' : get a4 7 = .pointer (some ⟨w.heap.size, 0, none⟩) := by rw [ha]; simp only [evb, pvb, rnb, kb, hN, seval, g7]
  have g8' : get a4 8 = .pointer (some ⟨p, 0, none⟩) := by rw [ha]; simp only [evb, pvb, rnb, kb, hN, seval, g8]
  clear ha hN hD g7 g8 hb hS hS' hx hcy hy hc
  have hN := hN'
  have hD := hD'
  have g7 := g7'
  have g8 := g8'
  have hb := hb'
  have hS := hS2
  have hc := hc'
  clear hN' hD' g7' g8' hb' hS2 hc'
  refine wp_seq_k fun K hK => ?_; refine wp_seq_k fun K1 hK1 => ?_; refine zac ?_; (repeat ((with_reducible refine zah ?_ ?_ ?_); (· simp [evb, pvb, rnb, kb, hN, g7, dyb, sdb] <;> omega); (· kernel_rfl); try simp only [evb, pvb, rnb, kb, hN, seval, g7]))
  refine wl_rdk (out := fun _ _ x v => v = .int .i32 x) (fun args w => Tryd.call49 args w) (RdOk.of Int32_c fun _ _ _ _ _ h => h) (by simp only [List.map_toArray, List.map_cons, List.map_nil]; simp only [evb, pvb, rnb, kb, hN, seval, g7]) hS hR (zaG hc hf) (rS_be 4 b.crc _ (by have := q.crc; omega) (by have := q.crc; omega)) ?_
  rintro _ x4 rfl hx hS'
  (repeat ((with_reducible refine zah ?_ ?_ ?_); (· simp [evb, pvb, rnb, kb, hN, dyb, sdb] <;> omega); (· kernel_rfl); try simp only [evb, pvb, rnb, kb, hN, seval])); refine zaa ?_; refine hK1 _ _ ?_; try clear hK1 K1
  refine zac ?_; (repeat ((with_reducible refine zah ?_ ?_ ?_); (· simp [evb, pvb, rnb, kb, hN, g8, ofKB, dyb, sdb] <;> omega); (· kernel_rfl); try simp only [evb, pvb, rnb, kb, hN, seval, g8, ofKB]))
  refine zap (b := p) (o := 4) (n := 1) (v := .int .i32 b.crc) (by kernel_rfl) (by simp only [evb, pvb, rnb, kb, hN, seval]) (by simp only [evb, pvb, rnb, kb, hN, seval]) (hb.chg hx hRp) rfl (by intro y hy; simp only [Value.cells, List.mem_singleton] at hy; subst hy; rfl) (by show 4 + 1 ≤ 14; omega) fun y4 hy hcy => ?_
  refine zaa ?_; refine hK _ _ ?_; clear hK K
  have hb' : Blk y4 p [.int .i64 b.first, .int .i32 b.len, .int .i32 b.epoch, .int .i8 b.magic, .int .i32 b.crc, .int .i16 0, .int .i32 0, .int .i64 0, .int .i64 0, .int .i64 0, .int .i16 0, .int .i32 0, .int .i32 0, .slice none 0 0] T := hy
  have hS2 : RdS y4 G' w.heap.size (some (be 2 b.attr ++ (be 4 b.last ++ (be 8 b.firstT ++ (be 8 b.maxT ++ (be 8 b.prod ++ (be 2 b.pep ++ (be 4 b.seq ++ (be 4 b.many ++ (b.recs ++ [])))))))))) := hS'.chg hcy hpR fun k hk _ e => hGp' (e ▸ hk)
  have hc' : Chg (fun k => k = p ∨ k = w.heap.size) w2 y4 := (hc.trans hx fun _ _ h => .inr h).trans hcy fun _ _ h => .inl h
  refine zaw fun a5 ha => ?_
  have hN' : a5.tmps.size = 105 := by rw [ha]; simp only [zaf]; exact hN
  have hD' : a5.defers = [] := by rw [ha]; simp only [zab]; exact hD
  have g7' : get a5 7 = .pointer (some ⟨w.heap.size, 0, none⟩) := by rw [ha]; simp only [evb, pvb, rnb, kb, hN, seval, g7]
  have g8' : get a5 8 = .pointer (some ⟨p, 0, none⟩) := by rw [ha]; simp only [evb, pvb, rnb, kb, hN, seval, g8]
  clear ha hN hD g7 g8 hb hS hS' hx hcy hy hc
  have hN := hN'
  have hD := hD'
  have g7 := g7'
  have g8 := g8'
  have hb := hb'
  have hS := hS2
  have hc := hc'
  clear hN' hD' g7' g8' hb' hS2 hc'
  refine wp_seq_k fun K hK => ?_; refine wp_seq_k fun K1 hK1 => ?_; refine zac ?_; (repeat ((with_reducible refine zah ?_ ?_ ?_); (· simp [evb, pvb, rnb, kb, hN, g7, dyb, sdb] <;> omega); (· kernel_rfl); try simp only [evb, pvb, rnb, kb, hN, seval, g7]))
  refine wl_rdk (out := fun _ _ x v => v = .int .i16 x) (fun args w => Tryd.call51 args w) (RdOk.of Int16_c fun _ _ _ _ _ h => h) (by simp only [List.map_toArray, List.map_cons, List.map_nil]; simp only [evb, pvb, rnb, kb, hN, seval, g7]) hS hR (zaG hc hf) (rS_be 2 b.attr _ (by have := q.attr; omega) (by have := q.attr; omega)) ?_
  rintro _ x5 rfl hx hS'
  (repeat ((with_reducible refine zah ?_ ?_ ?_); (· simp [evb, pvb, rnb, kb, hN, dyb, sdb] <;> omega); (· kernel_rfl); try simp only [evb, pvb, rnb, kb, hN, seval])); refine zaa ?_; refine hK1 _ _ ?_; try clear hK1 K1
  refine zac ?_; (repeat ((with_reducible refine zah ?_ ?_ ?_); (· simp [evb, pvb, rnb, kb, hN, g8, ofKB, dyb, sdb] <;> omega); (· kernel_rfl); try simp only [evb, pvb, rnb, kb, hN, seval, g8, ofKB]))
  refine zap (b := p) (o := 5) (n := 1) (v := .int .i16 b.attr) (by kernel_rfl) (by simp only [evb, pvb, rnb, kb, hN, seval]) (by simp only [evb, pvb, rnb, kb, hN, seval]) (hb.chg hx hRp) rfl (by intro y hy; simp only [Value.cells, List.mem_singleton] at hy; subst hy; rfl) (by show 5 + 1 ≤ 14; omega) fun y5 hy hcy => ?_
  refine zaa ?_; refine hK _ _ ?_; clear hK K
  have hb' : Blk y5 p [.int .i64 b.first, .int .i32 b.len, .int .i32 b.epoch, .int .i8 b.magic, .int .i32 b.crc, .int .i16 b.attr, .int .i32 0, .int .i64 0, .int .i64 0, .int .i64 0, .int .i16 0, .int .i32 0, .int .i32 0, .slice none 0 0] T := hy
  have hS2 : RdS y5 G' w.heap.size (some (be 4 b.last ++ (be 8 b.firstT ++ (be 8 b.maxT ++ (be 8 b.prod ++ (be 2 b.pep ++ (be 4 b.seq ++ (be 4 b.many ++ (b.recs ++ []))))))))) := hS'.chg hcy hpR fun k hk _ e => hGp' (e ▸ hk)
  have hc' : Chg (fun k => k = p ∨ k = w.heap.size) w2 y5 := (hc.trans hx fun _ _ h => .inr h).trans hcy fun _ _ h => .inl h
  refine zaw fun a6 ha => ?_
  have hN' : a6.tmps.size = 105 := by rw [ha]; simp only [zaf]; exact hN
  have hD' : a6.defers = [] := by rw [ha]; simp only [zab]; exact hD
  have g7' : get a6 7 = .pointer (some ⟨w.heap.size, 0, none⟩) := by rw [ha]; simp only [evb, pvb, rnb, kb, hN, seval, g7]
  have g8' : get a6 8 = .pointer (some ⟨p, 0, none⟩) := by rw [ha]; simp only [evb, pvb, rnb, kb, hN, seval, g8]
  clear ha hN hD g7 g8 hb hS hS' hx hcy hy hc
  have hN := hN'
  have hD := hD'
  have g7 := g7'
  have g8 := g8'
  have hb := hb'
  have hS := hS2
  have hc := hc'
  clear hN' hD' g7' g8' hb' hS2 hc'
  refine wp_seq_k fun K hK => ?_; refine wp_seq_k fun K1 hK1 => ?_; refine zac ?_; (repeat ((with_reducible refine zah ?_ ?_ ?_); (· simp [evb, pvb, rnb, kb, hN, g7, dyb, sdb] <;> omega); (· kernel_rfl); try simp only [evb, pvb, rnb, kb, hN, seval, g7]))
  refine wl_rdk (out := fun _ _ x v => v = .int .i32 x) (fun args w => Tryd.call49 args w) (RdOk.of Int32_c fun _ _ _ _ _ h => h) (by simp only [List.map_toArray, List.map_cons, List.map_nil]; simp only [evb, pvb, rnb, kb, hN, seval, g7]) hS hR (zaG hc hf) (rS_be 4 b.last _ (by have := q.last; omega) (by have := q.last; omega)) ?_
  rintro _ x6 rfl hx hS'
  (repeat ((with_reducible refine zah ?_ ?_ ?_); (· simp [evb, pvb, rnb, kb, hN, dyb, sdb] <;> omega); (· kernel_rfl); try simp only [evb, pvb, rnb, kb, hN, seval])); refine zaa ?_; refine hK1 _ _ ?_; try clear hK1 K1
  refine zac ?_; (repeat ((with_reducible refine zah ?_ ?_ ?_); (· simp [evb, pvb, rnb, kb, hN, g8, ofKB, dyb, sdb] <;> omega); (· kernel_rfl); try simp only [evb, pvb, rnb, kb, hN, seval, g8, ofKB]))
  refine zap (b := p) (o := 6) (n := 1) (v := .int .i32 b.last) (by kernel_rfl) (by simp only [evb, pvb, rnb, kb, hN, seval]) (by simp only [evb, pvb, rnb, kb, hN, seval]) (hb.chg hx hRp) rfl (by intro y hy; simp only [Value.cells, List.mem_singleton] at hy; subst hy; rfl) (by show 6 + 1 ≤ 14; omega) fun y6 hy hcy => ?_
  refine zaa ?_; refine hK _ _ ?_; clear hK K
  have hb' : Blk y6 p [.int .i64 b.first, .int .i32 b.len, .int .i32 b.epoch, .int .i8 b.magic, .int .i32 b.crc, .int .i16 b.attr, .int .i32 b.last, .int .i64 0, .int .i64 0, .int .i64 0, .int .i16 0, .int .i32 0, .int .i32 0, .slice none 0 0] T := hy
  have hS2 : RdS y6 G' w.heap.size (some (be 8 b.firstT ++ (be 8 b.maxT ++ (be 8 b.prod ++ (be 2 b.pep ++ (be 4 b.seq ++ (be 4 b.many ++ (b.recs ++ [])))))))) := hS'.chg hcy hpR fun k hk _ e => hGp' (e ▸ hk)
  have hc' : Chg (fun k => k = p ∨ k = w.heap.size) w2 y6 := (hc.trans hx fun _ _ h => .inr h).trans hcy fun _ _ h => .inl h
  refine zaw fun a7 ha => ?_
  have hN' : a7.tmps.size = 105 := by rw [ha]; simp only [zaf]; exact hN
  have hD' : a7.defers = [] := by rw [ha]; simp only [zab]; exact hD
  have g7' : get a7 7 = .pointer (some ⟨w.heap.size, 0, none⟩) := by rw [ha]; simp only [evb, pvb, rnb, kb, hN, seval, g7]
  have g8' : get a7 8 = .pointer (some ⟨p, 0, none⟩) := by rw [ha]; simp only [evb, pvb, rnb, kb, hN, seval, g8]
  clear ha hN hD g7 g8 hb hS hS' hx hcy hy hc
  have hN := hN'
  have hD := hD'
  have g7 := g7'
  have g8 := g8'
  have hb := hb'
  have hS := hS2
  have hc := hc'
  clear hN' hD' g7' g8' hb' hS2 hc'
  refine wp_seq_k fun K hK => ?_; refine wp_seq_k fun K1 hK1 => ?_; refine zac ?_; (repeat ((with_reducible refine zah ?_ ?_ ?_); (· simp [evb, pvb, rnb, kb, hN, g7, dyb, sdb] <;> omega); (· kernel_rfl); try simp only [evb, pvb, rnb, kb, hN, seval, g7]))
  refine wl_rdk (out := fun _ _ x v => v = .int .i64 x) (fun args w => Tryd.call48 args w) (RdOk.of Int64_c fun _ _ _ _ _ h => h) (by simp only [List.map_toArray, List.map_cons, List.map_nil]; simp only [evb, pvb, rnb, kb, hN, seval, g7]) hS hR (zaG hc hf) (rS_be 8 b.firstT _ (by have := q.firstT; omega) (by have := q.firstT; omega)) ?_
  rintro _ x7 rfl hx hS'
  (repeat ((with_reducible refine zah ?_ ?_ ?_); (· simp [evb, pvb, rnb, kb, hN, dyb, sdb] <;> omega); (· kernel_rfl); try simp only [evb, pvb, rnb, kb, hN, seval])); refine zaa ?_; refine hK1 _ _ ?_; try clear hK1 K1
  refine zac ?_; (repeat ((with_reducible refine zah ?_ ?_ ?_); (· simp [evb, pvb, rnb, kb, hN, g8, ofKB, dyb, sdb] <;> omega); (· kernel_rfl); try simp only [evb, pvb, rnb, kb, hN, seval, g8, ofKB]))
  refine zap (b := p) (o := 7) (n := 1) (v := .int .i64 b.firstT) (by kernel_rfl) (by simp only [evb, pvb, rnb, kb, hN, seval]) (by simp only [evb, pvb, rnb, kb, hN, seval]) (hb.chg hx hRp) rfl (by intro y hy; simp only [Value.cells, List.mem_singleton] at hy; subst hy; rfl) (by show 7 + 1 ≤ 14; omega) fun y7 hy hcy => ?_
  refine zaa ?_; refine hK _ _ ?_; clear hK K
  have hb' : Blk y7 p [.int .i64 b.first, .int .i32 b.len, .int .i32 b.epoch, .int .i8 b.magic, .int .i32 b.crc, .int .i16 b.attr, .int .i32 b.last, .int .i64 b.firstT, .int .i64 0, .int .i64 0, .int .i16 0, .int .i32 0, .int .i32 0, .slice none 0 0] T := hy
  have hS2 : RdS y7 G' w.heap.size (some (be 8 b.maxT ++ (be 8 b.prod ++ (be 2 b.pep ++ (be 4 b.seq ++ (be 4 b.many ++ (b.recs ++ []))))))) := hS'.chg hcy hpR fun k hk _ e => hGp' (e ▸ hk)
  have hc' : Chg (fun k => k = p ∨ k = w.heap.size) w2 y7 := (hc.trans hx fun _ _ h => .inr h).trans hcy fun _ _ h => .inl h
  refine zaw fun a8 ha => ?_
  have hN' : a8.tmps.size = 105 := by rw [ha]; simp only [zaf]; exact hN
  have hD' : a8.defers = [] := by rw [ha]; simp only [zab]; exact hD
  have g7' : get a8 7 = .pointer (some ⟨w.heap.size, 0, none⟩) := by rw [ha]; simp only [evb, pvb, rnb, kb, hN, seval, g7]
  have g8' : get a8 8 = .pointer (some ⟨p, 0, none⟩) := by rw [ha]; simp only [evb, pvb, rnb, kb, hN, seval, g8]
  clear ha hN hD g7 g8 hb hS hS' hx hcy hy hc
  have hN := hN'
  have hD := hD'
  have g7 := g7'
  have g8 := g8'
  have hb := hb'
  have hS := hS2
  have hc := hc'
  clear hN' hD' g7' g8' hb' hS2 hc'
  refine wp_seq_k fun K hK => ?_; refine wp_seq_k fun K1 hK1 => ?_; refine zac ?_; (repeat ((with_reducible refine zah ?_ ?_ ?_); (· simp [evb, pvb, rnb, kb, hN, g7, dyb, sdb] <;> omega); (· kernel_rfl); try simp only [evb, pvb, rnb, kb, hN, seval, g7]))
  refine wl_rdk (out := fun _ _ x v => v = .int .i64 x) (fun args w => Tryd.call48 args w) (RdOk.of Int64_c fun _ _ _ _ _ h => h) (by simp only [List.map_toArray, List.map_cons, List.map_nil]; simp only [evb, pvb, rnb, kb, hN, seval, g7]) hS hR (zaG hc hf) (rS_be 8 b.maxT _ (by have := q.maxT; omega) (by have := q.maxT; omega)) ?_
  rintro _ x8 rfl hx hS'
  (repeat ((with_reducible refine zah ?_ ?_ ?_); (· simp [evb, pvb, rnb, kb, hN, dyb, sdb] <;> omega); (· kernel_rfl); try simp only [evb, pvb, rnb, kb, hN, seval])); refine zaa ?_; refine hK1 _ _ ?_; try clear hK1 K1
  refine zac ?_; (repeat ((with_reducible refine zah ?_ ?_ ?_); (· simp [evb, pvb, rnb, kb, hN, g8, ofKB, dyb, sdb] <;> omega); (· kernel_rfl); try simp only [evb, pvb, rnb, kb, hN, seval, g8, ofKB]))
  refine zap (b := p) (o := 8) (n := 1) (v := .int .i64 b.maxT) (by kernel_rfl) (by simp only [evb, pvb, rnb, kb, hN, seval]) (by simp only [evb, pvb, rnb, kb, hN, seval]) (hb.chg hx hRp) rfl (by intro y hy; simp only [Value.cells, List.mem_singleton] at hy; subst hy; rfl) (by show 8 + 1 ≤ 14; omega) fun y8 hy hcy => ?_
  refine zaa ?_; refine hK _ _ ?_; clear hK K
  have hb' : Blk y8 p [.int .i64 b.first, .int .i32 b.len, .int .i32 b.epoch, .int .i8 b.magic, .int .i32 b.crc, .int .i16 b.attr, .int .i32 b.last, .int .i64 b.firstT, .int .i64 b.maxT, .int .i64 0, .int .i16 0, .int .i32 0, .int .i32 0, .slice none 0 0] T := hy
  have hS2 : RdS y8 G' w.heap.size (some (be 8 b.prod ++ (be 2 b.pep ++ (be 4 b.seq ++ (be 4 b.many ++ (b.recs ++ [])))))) := hS'.chg hcy hpR fun k hk _ e => hGp' (e ▸ hk)
  have hc' : Chg (fun k => k = p ∨ k = w.heap.size) w2 y8 := (hc.trans hx fun _ _ h => .inr h).trans hcy fun _ _ h => .inl h
  refine zaw fun a9 ha => ?_
  have hN' : a9.tmps.size = 105 := by rw [ha]; simp only [zaf]; exact hN
  have hD' : a9.defers = [] := by rw [ha]; simp only [zab]; exact hD
  have g7' : get a9 7 = .pointer (some ⟨w.heap.size, 0, none⟩) := by rw [ha]; simp only [evb, pvb, rnb, kb, hN, seval, g7]
  have g8' : get a9 8 = .pointer (some ⟨p, 0, none⟩) := by rw [ha]; simp only [evb, pvb, rnb, kb, hN, seval, g8]
  clear ha hN hD g7 g8 hb hS hS' hx hcy hy hc
  have hN := hN'
  have hD := hD'
  have g7 := g7'
  have g8 := g8'
  have hb := hb'
  have hS := hS2
  have hc := hc'
  clear hN' hD' g7' g8' hb' hS2 hc'
  refine wp_seq_k fun K hK => ?_; refine wp_seq_k fun K1 hK1 => ?_; refine zac ?_; (repeat ((with_reducible refine zah ?_ ?_ ?_); (· simp [evb, pvb, rnb, kb, hN, g7, dyb, sdb] <;> omega); (· kernel_rfl); try simp only [evb, pvb, rnb, kb, hN, seval, g7]))
  refine wl_rdk (out := fun _ _ x v => v = .int .i64 x) (fun args w => Tryd.call48 args w) (RdOk.of Int64_c fun _ _ _ _ _ h => h) (by simp only [List.map_toArray, List.map_cons, List.map_nil]; simp only [evb, pvb, rnb, kb, hN, seval, g7]) hS hR (zaG hc hf) (rS_be 8 b.prod _ (by have := q.prod; omega) (by have := q.prod; omega)) ?_
  rintro _ x9 rfl hx hS'
  (repeat ((with_reducible refine zah ?_ ?_ ?_); (· simp [evb, pvb, rnb, kb, hN, dyb, sdb] <;> omega); (· kernel_rfl); try simp only [evb, pvb, rnb, kb, hN, seval])); refine zaa ?_; refine hK1 _ _ ?_; try clear hK1 K1
  refine zac ?_; (repeat ((with_reducible refine zah ?_ ?_ ?_); (· simp [evb, pvb, rnb, kb, hN, g8, ofKB, dyb, sdb] <;> omega); (· kernel_rfl); try simp only [evb, pvb, rnb, kb, hN, seval, g8, ofKB]))
  refine zap (b := p) (o := 9) (n := 1) (v := .int .i64 b.prod) (by kernel_rfl) (by simp only [evb, pvb, rnb, kb, hN, seval]) (by simp only [evb, pvb, rnb, kb, hN, seval]) (hb.chg hx hRp) rfl (by intro y hy; simp only [Value.cells, List.mem_singleton] at hy; subst hy; rfl) (by show 9 + 1 ≤ 14; omega) fun y9 hy hcy => ?_
  refine zaa ?_; refine hK _ _ ?_; clear hK K
  have hb' : Blk y9 p [.int .i64 b.first, .int .i32 b.len, .int .i32 b.epoch, .int .i8 b.magic, .int .i32 b.crc, .int .i16 b.attr, .int .i32 b.last, .int .i64 b.firstT, .int .i64 b.maxT, .int .i64 b.prod, .int .i16 0, .int .i32 0, .int .i32 0, .slice none 0 0] T := hy
  have hS2 : RdS y9 G' w.heap.size (some (be 2 b.pep ++ (be 4 b.seq ++ (be 4 b.many ++ (b.recs ++ []))))) := hS'.chg hcy hpR fun k hk _ e => hGp' (e ▸ hk)
  have hc' : Chg (fun k => k = p ∨ k = w.heap.size) w2 y9 := (hc.trans hx fun _ _ h => .inr h).trans hcy fun _ _ h => .inl h
  refine zaw fun a10 ha => ?_
  have hN' : a10.tmps.size = 105 := by rw [ha]; simp only [zaf]; exact hN
  have hD' : a10.defers = [] := by rw [ha]; simp only [zab]; exact hD
  have g7' : get a10 7 = .pointer (some ⟨w.heap.size, 0, none⟩) := by rw [ha]; simp only [evb, pvb, rnb, kb, hN, seval, g7]
  have g8' : get a10 8 = .pointer (some ⟨p, 0, none⟩) := by rw [ha]; simp only [evb, pvb, rnb, kb, hN, seval, g8]
  clear ha hN hD g7 g8 hb hS hS' hx hcy hy hc
  have hN := hN'
  have hD := hD'
  have g7 := g7'
  have g8 := g8'
  have hb := hb'
  have hS := hS2
  have hc := hc'
  clear hN' hD' g7' g8' hb' hS2 hc'
  refine wp_seq_k fun K hK => ?_; refine wp_seq_k fun K1 hK1 => ?_; refine zac ?_; (repeat ((with_reducible refine zah ?_ ?_ ?_); (· simp [evb, pvb, rnb, kb, hN, g7, dyb, sdb] <;> omega); (· kernel_rfl); try simp only [evb, pvb, rnb, kb, hN, seval, g7]))
  refine wl_rdk (out := fun _ _ x v => v = .int .i16 x) (fun args w => Tryd.call51 args w) (RdOk.of Int16_c fun _ _ _ _ _ h => h) (by simp only [List.map_toArray, List.map_cons, List.map_nil]; simp only [evb, pvb, rnb, kb, hN, seval, g7]) hS hR (zaG hc hf) (rS_be 2 b.pep _ (by have := q.pep; omega) (by have := q.pep; omega)) ?_
  rintro _ x10 rfl hx hS'
  (repeat ((with_reducible refine zah ?_ ?_ ?_); (· simp [evb, pvb, rnb, kb, hN, dyb, sdb] <;> omega); (· kernel_rfl); try simp only [evb, pvb, rnb, kb, hN, seval])); refine zaa ?_; refine hK1 _ _ ?_; try clear hK1 K1
  refine zac ?_; (repeat ((with_reducible refine zah ?_ ?_ ?_); (· simp [evb, pvb, rnb, kb, hN, g8, ofKB, dyb, sdb] <;> omega); (· kernel_rfl); try simp only [evb, pvb, rnb, kb, hN, seval, g8, ofKB]))
  refine zap (b := p) (o := 10) (n := 1) (v := .int .i16 b.pep) (by kernel_rfl) (by simp only [evb, pvb, rnb, kb, hN, seval]) (by simp only [evb, pvb, rnb, kb, hN, seval]) (hb.chg hx hRp) rfl (by intro y hy; simp only [Value.cells, List.mem_singleton] at hy; subst hy; rfl) (by show 10 + 1 ≤ 14; omega) fun y10 hy hcy => ?_
  refine zaa ?_; refine hK _ _ ?_; clear hK K
  have hb' : Blk y10 p [.int .i64 b.first, .int .i32 b.len, .int .i32 b.epoch, .int .i8 b.magic, .int .i32 b.crc, .int .i16 b.attr, .int .i32 b.last, .int .i64 b.firstT, .int .i64 b.maxT, .int .i64 b.prod, .int .i16 b.pep, .int .i32 0, .int .i32 0, .slice none 0 0] T := hy
  have hS2 : RdS y10 G' w.heap.size (some (be 4 b.seq ++ (be 4 b.many ++ (b.recs ++ [])))) := hS'.chg hcy hpR fun k hk _ e => hGp' (e ▸ hk)
  have hc' : Chg (fun k => k = p ∨ k = w.heap.size) w2 y10 := (hc.trans hx fun _ _ h => .inr h).trans hcy fun _ _ h => .inl h
  refine zaw fun a11 ha => ?_
  have hN' : a11.tmps.size = 105 := by rw [ha]; simp only [zaf]; exact hN
  have hD' : a11.defers = [] := by rw [ha]; simp only [zab]; exact hD
  have g7' : get a11 7 = .pointer (some ⟨w.heap.size, 0, none⟩) := by rw [ha]; simp only [evb, pvb, rnb, kb, hN, seval, g7]
  have g8' : get a11 8 = .pointer (some ⟨p, 0, none⟩) := by rw [ha]; simp only [evb, pvb, rnb, kb, hN, seval, g8]
  clear ha hN hD g7 g8 hb hS hS' hx hcy hy hc
  have hN := hN'
  have hD := hD'
  have g7 := g7'
  have g8 := g8'
  have hb := hb'
  have hS := hS2
  have hc := hc'
  clear hN' hD' g7' g8' hb' hS2 hc'
  refine wp_seq_k fun K hK => ?_; refine wp_seq_k fun K1 hK1 => ?_; refine zac ?_; (repeat ((with_reducible refine zah ?_ ?_ ?_); (· simp [evb, pvb, rnb, kb, hN, g7, dyb, sdb] <;> omega); (· kernel_rfl); try simp only [evb, pvb, rnb, kb, hN, seval, g7]))
  refine wl_rdk (out := fun _ _ x v => v = .int .i32 x) (fun args w => Tryd.call49 args w) (RdOk.of Int32_c fun _ _ _ _ _ h => h) (by simp only [List.map_toArray, List.map_cons, List.map_nil]; simp only [evb, pvb, rnb, kb, hN, seval, g7]) hS hR (zaG hc hf) (rS_be 4 b.seq _ (by have := q.seq; omega) (by have := q.seq; omega)) ?_
  rintro _ x11 rfl hx hS'
  (repeat ((with_reducible refine zah ?_ ?_ ?_); (· simp [evb, pvb, rnb, kb, hN, dyb, sdb] <;> omega); (· kernel_rfl); try simp only [evb, pvb, rnb, kb, hN, seval])); refine zaa ?_; refine hK1 _ _ ?_; try clear hK1 K1
  refine zac ?_; (repeat ((with_reducible refine zah ?_ ?_ ?_); (· simp [evb, pvb, rnb, kb, hN, g8, ofKB, dyb, sdb] <;> omega); (· kernel_rfl); try simp only [evb, pvb, rnb, kb, hN, seval, g8, ofKB]))
  refine zap (b := p) (o := 11) (n := 1) (v := .int .i32 b.seq) (by kernel_rfl) (by simp only [evb, pvb, rnb, kb, hN, seval]) (by simp only [evb, pvb, rnb, kb, hN, seval]) (hb.chg hx hRp) rfl (by intro y hy; simp only [Value.cells, List.mem_singleton] at hy; subst hy; rfl) (by show 11 + 1 ≤ 14; omega) fun y11 hy hcy => ?_
  refine zaa ?_; refine hK _ _ ?_; clear hK K
  have hb' : Blk y11 p [.int .i64 b.first, .int .i32 b.len, .int .i32 b.epoch, .int .i8 b.magic, .int .i32 b.crc, .int .i16 b.attr, .int .i32 b.last, .int .i64 b.firstT, .int .i64 b.maxT, .int .i64 b.prod, .int .i16 b.pep, .int .i32 b.seq, .int .i32 0, .slice none 0 0] T := hy
  have hS2 : RdS y11 G' w.heap.size (some (be 4 b.many ++ (b.recs ++ []))) := hS'.chg hcy hpR fun k hk _ e => hGp' (e ▸ hk)
  have hc' : Chg (fun k => k = p ∨ k = w.heap.size) w2 y11 := (hc.trans hx fun _ _ h => .inr h).trans hcy fun _ _ h => .inl h
  refine zaw fun a12 ha => ?_
  have hN' : a12.tmps.size = 105 := by rw [ha]; simp only [zaf]; exact hN
  have hD' : a12.defers = [] := by rw [ha]; simp only [zab]; exact hD
  have g7' : get a12 7 = .pointer (some ⟨w.heap.size, 0, none⟩) := by rw [ha]; simp only [evb, pvb, rnb, kb, hN, seval, g7]
  have g8' : get a12 8 = .pointer (some ⟨p, 0, none⟩) := by rw [ha]; simp only [evb, pvb, rnb, kb, hN, seval, g8]
  clear ha hN hD g7 g8 hb hS hS' hx hcy hy hc
  have hN := hN'
  have hD := hD'
  have g7 := g7'
  have g8 := g8'
  have hb := hb'
  have hS := hS2
  have hc := hc'
  clear hN' hD' g7' g8' hb' hS2 hc'
  refine wp_seq_k fun K hK => ?_; refine wp_seq_k fun K1 hK1 => ?_; refine zac ?_; (repeat ((with_reducible refine zah ?_ ?_ ?_); (· simp [evb, pvb, rnb, kb, hN, g7, dyb, sdb] <;> omega); (· kernel_rfl); try simp only [evb, pvb, rnb, kb, hN, seval, g7]))
  refine wl_rdk (out := fun _ _ x v => v = .int .i32 x) (fun args w => Tryd.call49 args w) (RdOk.of Int32_c fun _ _ _ _ _ h => h) (by simp only [List.map_toArray, List.map_cons, List.map_nil]; simp only [evb, pvb, rnb, kb, hN, seval, g7]) hS hR (zaG hc hf) (rS_be 4 b.many _ (by have := q.many; omega) (by have := q.many; omega)) ?_
  rintro _ x12 rfl hx hS'
  (repeat ((with_reducible refine zah ?_ ?_ ?_); (· simp [evb, pvb, rnb, kb, hN, dyb, sdb] <;> omega); (· kernel_rfl); try simp only [evb, pvb, rnb, kb, hN, seval])); refine zaa ?_; refine hK1 _ _ ?_; try clear hK1 K1
  refine zac ?_; (repeat ((with_reducible refine zah ?_ ?_ ?_); (· simp [evb, pvb, rnb, kb, hN, g8, ofKB, dyb, sdb] <;> omega); (· kernel_rfl); try simp only [evb, pvb, rnb, kb, hN, seval, g8, ofKB]))
  refine zap (b := p) (o := 12) (n := 1) (v := .int .i32 b.many) (by kernel_rfl) (by simp only [evb, pvb, rnb, kb, hN, seval]) (by simp only [evb, pvb, rnb, kb, hN, seval]) (hb.chg hx hRp) rfl (by intro y hy; simp only [Value.cells, List.mem_singleton] at hy; subst hy; rfl) (by show 12 + 1 ≤ 14; omega) fun y12 hy hcy => ?_
  refine zaa ?_; refine hK _ _ ?_; clear hK K
  have hb' : Blk y12 p [.int .i64 b.first, .int .i32 b.len, .int .i32 b.epoch, .int .i8 b.magic, .int .i32 b.crc, .int .i16 b.attr, .int .i32 b.last, .int .i64 b.firstT, .int .i64 b.maxT, .int .i64 b.prod, .int .i16 b.pep, .int .i32 b.seq, .int .i32 b.many, .slice none 0 0] T := hy
  have hS2 : RdS y12 G' w.heap.size (some (b.recs ++ [])) := hS'.chg hcy hpR fun k hk _ e => hGp' (e ▸ hk)
  have hc' : Chg (fun k => k = p ∨ k = w.heap.size) w2 y12 := (hc.trans hx fun _ _ h => .inr h).trans hcy fun _ _ h => .inl h
  refine zaw fun a13 ha => ?_
  have hN' : a13.tmps.size = 105 := by rw [ha]; simp only [zaf]; exact hN
  have hD' : a13.defers = [] := by rw [ha]; simp only [zab]; exact hD
  have g7' : get a13 7 = .pointer (some ⟨w.heap.size, 0, none⟩) := by rw [ha]; simp only [evb, pvb, rnb, kb, hN, seval, g7]
  have g8' : get a13 8 = .pointer (some ⟨p, 0, none⟩) := by rw [ha]; simp only [evb, pvb, rnb, kb, hN, seval, g8]
  clear ha hN hD g7 g8 hb hS hS' hx hcy hy hc
  have hN := hN'
  have hD := hD'
  have g7 := g7'
  have g8 := g8'
  have hb := hb'
  have hS := hS2
  have hc := hc'
  clear hN' hD' g7' g8' hb' hS2 hc'
  have l1 := hb.ld (i := 1) (v := .int .i32 b.len) rfl
  have ql := q.len
  have hi1 : IntKind.i64.wrap b.len = b.len := i64_sm _ (by omega)
  have hi2 : IntKind.i64.wrap (b.len - 49) = b.recs.length := by rw [i64_sm _ (by omega)]; omega
  refine wp_seq_k fun K hK => ?_; refine wp_seq_k fun K1 hK1 => ?_; refine zac ?_; (repeat ((with_reducible refine zah ?_ ?_ ?_); (· simp [evb, pvb, rnb, kb, hN, g8, ofKB, l1, hi1, hi2, dyb, sdb] <;> omega); (· kernel_rfl); try simp only [evb, pvb, rnb, kb, hN, seval, g8, ofKB, l1, hi1, hi2]))
  refine wl_rdk (out := fun w' G (x : Bs) v => ∃ oa cap, v = .slice oa x.length cap ∧ x.length ≤ cap ∧ zam w' G oa x) (fun args w => Tryd.call52 args w) (RdOk.of (Span_c (b.recs.length : Int)) fun _ _ _ _ _ h => h) (by simp only [List.map_toArray, List.map_cons, List.map_nil]; simp only [evb, pvb, rnb, kb, hN, seval, g7]) hS hR (zaG hc hf) (rSpan_app b.recs []) ?_
  rintro _ x13 ⟨oa', cap', rfl, hcp, hbx⟩ hx hS'
  (repeat ((with_reducible refine zah ?_ ?_ ?_); (· simp [evb, pvb, rnb, kb, hN, dyb, sdb] <;> omega); (· kernel_rfl); try simp only [evb, pvb, rnb, kb, hN, seval])); refine zaa ?_; refine hK1 _ _ ?_; try clear hK1 K1
  refine zac ?_; (repeat ((with_reducible refine zah ?_ ?_ ?_); (· simp [evb, pvb, rnb, kb, hN, g8, ofKB, dyb, sdb] <;> omega); (· kernel_rfl); try simp only [evb, pvb, rnb, kb, hN, seval, g8, ofKB]))
  refine zap (b := p) (o := 13) (n := 1) (v := .slice oa' b.recs.length cap') (by kernel_rfl) (by simp only [evb, pvb, rnb, kb, hN, seval]) (by simp only [evb, pvb, rnb, kb, hN, seval]) (hb.chg hx hRp) rfl (by intro y hy; simp only [Value.cells, List.mem_singleton] at hy; subst hy; rfl) (by show 13 + 1 ≤ 14; omega) fun y13 hy hcy => ?_
  refine zaa ?_; refine hK _ _ ?_; clear hK K
  have hb' : Blk y13 p (btV b (.slice oa' b.recs.length cap')) T := hy
  have hS2 := hS'.chg hcy hpR fun k hk _ e => hGp' (e ▸ hk)
  have hc' : Chg (fun k => k = p ∨ k = w.heap.size) w2 y13 := (hc.trans hx fun _ _ h => .inr h).trans hcy fun _ _ h => .inl h
  refine wp_seq_k fun K hK => ?_; refine zac ?_; (repeat ((with_reducible refine zah ?_ ?_ ?_); (· simp [evb, pvb, rnb, kb, hN, g7, dyb, sdb] <;> omega); (· kernel_rfl); try simp only [evb, pvb, rnb, kb, hN, seval, g7]))
  refine zak (fun args w => Tryd.call53 args w) (by simp only [List.map_toArray, List.map_cons, List.map_nil, evb, kb, hN, seval, g7]; exact Complete_k hS2) ?_
  rintro _ _ ⟨rfl, rfl⟩
  (repeat ((with_reducible refine zah ?_ ?_ ?_); (· simp [evb, pvb, rnb, kb, hN, dyb, sdb] <;> omega); (· kernel_rfl); try simp only [evb, pvb, rnb, kb, hN, seval])); refine zaa ?_; refine hK _ _ ?_; clear hK K; refine wp_ret ⟨by simp [zab, hD], ?_⟩; simp only [evb, kb, hN, seval]
  refine ⟨by first | rfl | trivial, ⟨_, hb', oa', cap', rfl, hcp, (hbx.chg hcy fun k hk _ e => hGp' (e ▸ hk)).mono fun g hg _ => ?_, q⟩, hc02.mono (fun _ _ h => h.elim) |>.trans hc' fun n hn h => by omega⟩
  rw [hG'] at hg
  rcases hg with hg | hg
  · exact .inl hg.1
  · exact .inr hg
theorem batReadFrom_c {w : World} {G : Nat → Prop} {b : Bt} {p : Nat} {T : TypeId} {oa : Option Addr} {cap : Nat} (hbt : zam w G oa (batB b)) (hcap : (batB b).length ≤ cap) (q : BtR b) (hlen : b.len = 49 + b.recs.length) (hp : Blk w p (btV ⟨0, 0, 0, 0, 0, 0, 0, 0, 0, 0, 0, 0, 0, []⟩ (.slice none 0 0)) T) (hGp : ¬ G p) :
    zan Tryd.prog 20 #[.pointer (some ⟨p, 0, none⟩), .slice oa (batB b).length cap] w fun v w' => v = .nilIface ∧ (∃ vs, Blk w' p vs T ∧ BtC w' (fun g => G g ∨ w.heap.size < g) b vs) ∧ Chg (fun k => k = p) w w' := by
  refine zaj Tryd.func20 rfl rfl Tryd.ntmps20 (by simp) ?_
  intro a hN hD hargs
  have h0 : get a 0 = .pointer (some ⟨p, 0, none⟩) := hargs 0 _ rfl
  have h1 : get a 1 = .slice oa (batB b).length cap := hargs 1 _ rfl
  refine wp_seq_k fun K hK => ?_; refine zac ?_; (repeat ((with_reducible refine zah ?_ ?_ ?_); (· simp [evb, pvb, rnb, kb, hN, dyb, sdb] <;> omega); (· kernel_rfl); try simp only [evb, pvb, rnb, kb, hN, seval])); refine zaa ?_; refine hK _ _ ?_; clear hK K
  refine wp_seq_k fun K hK => ?_; refine zac ?_; (repeat ((with_reducible refine zah ?_ ?_ ?_); (· simp [evb, pvb, rnb, kb, hN, h0, h1, dyb, sdb] <;> omega); (· kernel_rfl); try simp only [evb, pvb, rnb, kb, hN, seval, h0, h1]))
  refine zak (fun args w => Tryd.call36 args w) (by simp only [List.map_toArray, List.map_cons, List.map_nil, evb, kb, hN, seval]; exact batRead_c hbt hcap q hlen hp hGp) ?_
  rintro _ w2 ⟨rfl, h2, h3⟩
  (repeat ((with_reducible refine zah ?_ ?_ ?_); (· simp [evb, pvb, rnb, kb, hN, dyb, sdb] <;> omega); (· kernel_rfl); try simp only [evb, pvb, rnb, kb, hN, seval])); refine zaa ?_; refine hK _ _ ?_; clear hK K; refine wp_ret ⟨by simp [zab, hD], ?_⟩; simp only [evb, kb, hN, seval]
  exact ⟨by first | rfl | trivial, h2, h3⟩
end Go.Proofs.YtojpodeljpfgaaaDoor
namespace Go.Proofs.YtojpodeljpfgaaaDoor
set_option linter.all false
open Go.RowKit
set_option maxRecDepth 10000
set_option maxHeartbeats 4000000
section
variable {P : Program} {ops : Array Oper} {Q : Exit → Act → World → Prop} {a : Act} {w : World} {rest : List Oper} {d : Option Nat} {ty : TypeId} {pos : String} {af : Array Edge} {x : Operand} {t u : TypeId}
def ifaceB (P : Program) (t : Nat) : Bool := match P.underlying t with | some (.interface _) => true | _ => false
theorem ifaceB_out {t : Nat} (h : ifaceB P t = true) : ∃ ms, P.underlying t = some (.interface ms) := by
  unfold ifaceB at h
  split at h
  · rename_i ms hm; exact ⟨ms, hm⟩
  · cases h
theorem eq_nil0 (n : Nat) (t : TypeId) (w : World) (ht : ifaceB P t = true) : (Op.equalIn (n + 1) t .nilIface .nilIface).run P w = .ok true w := by
  obtain ⟨ms, hm⟩ := ifaceB_out ht
  simp [Op.equalIn, underlying, hm]
theorem depth_succ : ∃ n, Op.maxDepth = n + 1 := ⟨9999, rfl⟩
theorem wl_neqNil0 (ht : ifaceB P t = true) (hx : a.eval x = .nilIface) (h : WL P ops Q rest (a.put d (.bool false)) w) : WL P ops Q (⟨d, .binOp .neq t x (.const .nilIface) u, ty, pos, af, none⟩ :: rest) a w := by
  refine zaK rfl (v := .bool false) (w' := w) ?_ h
  obtain ⟨n, hn⟩ := depth_succ
  simp [execOp, eqGuard, binOp, hx, eval_const, Op.equal, hn, eq_nil0 n t w ht]
end
def FinCT (r s : Nat) (ty : TypeId) (R : Value → World → Prop) : Exit → Act → World → Prop
  | .normal, a, w | .ret, a, w => a.defers = [] ∧ ∃ g cs T, get a r = .pointer (some ⟨g, 0, none⟩) ∧ Blk w g cs T ∧ sizeB Tryd.prog ty cs.length = true ∧ R (.tuple #[.agg cs.toArray, get a s]) w
  | _, _, _ => False
theorem results_ct {fn : Func} {p s : Tmp} {ty : TypeId} (h : fn.results = #[.cell p ty, .tmp s]) (a : Act) (w : World) {g : Nat} {cs : List Value} {T : TypeId} (hp : get a p = .pointer (some ⟨g, 0, none⟩)) (hb : Blk w g cs T)
    (hu : aggB Tryd.prog ty = true) (hi : sizeB Tryd.prog ty cs.length = true) : (results fn a.tmps).run Tryd.prog w = .ok (.tuple #[.agg cs.toArray, get a s]) w := by
  unfold aggB at hu
  unfold sizeB at hi
  cases hd : (Tryd.prog).underlying ty with
  | none => rw [hd] at hu; cases hu
  | some d =>
    rw [hd] at hu
    cases hj : (Tryd.prog).info? ty with
    | none => rw [hj] at hi; cases hi
    | some i =>
      rw [hj] at hi
      simp at hi
      unfold get at hp
      have hl := run_loadVar_row (P := Tryd.prog) w g T ty cs.toArray (0, 0) d hb hd (by cases d <;> first | rfl | cases hu) (by rw [hj]; simp [hi])
      rw [results_cell_tmp h]
      rw [hp]
      simp [asAddr, Result.andThen, hl, get]
theorem callsR_ofCT {f : FuncId} {fn : Func} {c : Code} {args : Array Value} {w : World} {R : Value → World → Prop} {r s n : Nat} {ty : TypeId}
    (hf : (Tryd.prog).funcs[f]? = some fn) (hb : fn.body = some c) (hr : fn.results = #[.cell r ty, .tmp s]) (hu : aggB Tryd.prog ty = true) (hn : fn.ntmps = n) (hs : args.size ≤ n)
    (h : ∀ a : Act, a.tmps.size = n → a.defers = [] → (∀ i v, args[i]? = some v → get a i = v) → c.wp Tryd.prog (FinCT r s ty R) a w) : zan Tryd.prog f args w R := by
  refine calls_of_wp hf hb ?_
  refine wp_mono (h (Start fn args) (start_size hn hs) rfl fun i v => start_get) ?_
  intro e a w' hq
  cases e <;> simp only [FinCT] at hq
  · obtain ⟨h1, g, cs, T, h2, h3, h4, h5⟩ := hq
    exact ⟨h1, _, results_ct hr a w' h2 h3 hu h4, _, rfl, h5⟩
  · obtain ⟨h1, g, cs, T, h2, h3, h4, h5⟩ := hq
    exact ⟨h1, _, results_ct hr a w' h2 h3 hu h4, _, rfl, h5⟩
theorem tellBatch_c {w : World} {G : Nat → Prop} {b : Bt} {oa : Option Addr} {cap : Nat} (hbt : zam w G oa (batB b)) (q : BtR b) (hlen : b.len = 49 + b.recs.length) :
    zan Tryd.prog 10 #[.slice oa (batB b).length cap] w fun v w' => ∃ vs, v = .tuple #[zax vs, .bool true] ∧ BtC w' (fun g => w.heap.size ≤ g) b vs ∧ Chg (fun _ => False) w w' := by
  refine callsR_ofCT Tryd.func10 rfl rfl (by kernel_rfl) Tryd.ntmps10 (by simp) ?_
  intro a hN hD hargs
  have h0 : get a 0 = .slice oa (batB b).length cap := hargs 0 _ rfl
  have ql := q.len
  have hbl := batB_len b
  refine wp_seq_k fun K hK => ?_; refine zac ?_
  refine zaH (z := zax (btV ⟨0, 0, 0, 0, 0, 0, 0, 0, 0, 0, 0, 0, 0, []⟩ (.slice none 0 0))) (fun w => Tryd.zeroValue26 w) fun w1 hc1 hb1 hs1 => ?_
  (repeat ((with_reducible refine zah ?_ ?_ ?_); (· simp [evb, pvb, rnb, kb, hN, dyb, sdb] <;> omega); (· kernel_rfl); try simp only [evb, pvb, rnb, kb, hN, seval])); refine zaa ?_; refine hK _ _ ?_; clear hK K
  refine wp_seq_k fun K hK => ?_; refine zac ?_
  refine zaH (z := zax (btV ⟨0, 0, 0, 0, 0, 0, 0, 0, 0, 0, 0, 0, 0, []⟩ (.slice none 0 0))) (fun w => Tryd.zeroValue60 w) fun w2 hc2 hb2 hs2 => ?_
  refine zaa ?_; refine hK _ _ ?_; clear hK K
  have hc02 := hc1.trans hc2 fun _ _ h => h
  refine wp_seq_k fun K hK => ?_; refine wp_seq_k fun K1 hK1 => ?_; refine zac ?_; (repeat ((with_reducible refine zah ?_ ?_ ?_); (· simp [evb, pvb, rnb, kb, hN, h0, dyb, sdb] <;> omega); (· kernel_rfl); try simp only [evb, pvb, rnb, kb, hN, seval, h0]))
  refine zak (fun args w => Tryd.call19 args w) (by simp only [List.map_toArray, List.map_cons, List.map_nil, evb, kb, hN, seval, h0]; exact own_c (hbt.chg hc02 fun _ _ _ h => h) (by unfold LIM; omega)) ?_
  rintro v3 w3 ⟨r1, hc3⟩
  obtain ⟨o3, c3, rfl, f1, f2⟩ := own_at r1
  have hs3 := hc3.size
  refine zak (fun args w => Tryd.call20 args w) (by simp only [List.map_toArray, List.map_cons, List.map_nil, evb, kb, hN, seval]; exact batReadFrom_c (p := w1.heap.size) f2 f1 q hlen (hb2.chg hc3 fun h => h) (by omega)) ?_
  rintro _ w4 ⟨rfl, ⟨vs, hb4, o4, c4, rfl, k1, k2, _⟩, hc4⟩
  (repeat ((with_reducible refine zah ?_ ?_ ?_); (· simp [evb, pvb, rnb, kb, hN, dyb, sdb] <;> omega); (· kernel_rfl); try simp only [evb, pvb, rnb, kb, hN, seval]))
  refine wl_neqNil0 (by kernel_rfl) (by simp only [evb, pvb, rnb, kb, hN, seval]) ?_
  (repeat ((with_reducible refine zah ?_ ?_ ?_); (· simp [evb, pvb, rnb, kb, hN, dyb, sdb] <;> omega); (· kernel_rfl); try simp only [evb, pvb, rnb, kb, hN, seval])); refine zaa ?_; refine hK1 _ _ ?_; try clear hK1 K1
  refine wp_cond_false (by simp [evb, kb, hN, sdb]) ?_
  refine wp_skip (hK _ _ ?_)
  clear hK K
  have hc03 := hc02.trans hc3 fun _ _ h => h
  have hc04 : Chg (fun _ => False) w w4 := hc03.trans hc4 fun n hn h => by omega
  have hs4 := hc4.size
  have hb14 : Blk w4 w.heap.size _ _ := ((hb1.chg hc2 fun h => h).chg hc3 fun h => h).chg hc4 (by omega)
  have hne : ¬ w1.heap.size = w.heap.size := by omega
  refine zaw fun a1 ha => ?_
  have hN' : a1.tmps.size = 40 := by rw [ha]; simp only [zaf]; exact hN
  have hD' : a1.defers = [] := by rw [ha]; simp only [zab]; exact hD
  have g2 : get a1 2 = .pointer (some ⟨w.heap.size, 0, none⟩) := by rw [ha]; simp only [evb, pvb, rnb, kb, hN, seval]
  have g4 : get a1 4 = .pointer (some ⟨w1.heap.size, 0, none⟩) := by rw [ha]; simp only [evb, pvb, rnb, kb, hN, seval]
  clear ha hN hD h0 hargs
  have hN := hN'
  have hD := hD'
  clear hN' hD'
  refine wp_seq_k fun K hK => ?_
  refine wp_sched (fun w' => Chg (fun k => k = w.heap.size) w4 w') [(true, 0), (true, 1), (true, 2), (true, 3), (true, 4), (true, 5), (true, 6), (true, 7), (true, 8), (true, 9), (true, 10), (true, 11), (true, 12), (true, 13), (true, 14), (true, 15), (true, 16), (true, 17), (true, 18), (true, 19), (true, 20), (true, 21), (true, 22), (true, 23), (true, 24), (true, 25), (true, 26), (true, 27), (false, 28), (false, 29), (false, 30), (true, 31)] zaz (by kernel_rfl) (by kernel_rfl) (Chg.drew _ _) ?_
  (repeat (refine ws_pY rfl ?_ ?_ ?_ ?_; (· (refine ⟨?_⟩; simp [rxb]; done)); (· simp [evb, pvb, rnb, kb, hN, seval, g4, ofKB, dyb, sdb] <;> omega); (· kernel_rfl); try simp only [evb, pvb, rnb, kb, hN, seval, g4, ofKB]))
  refine ws_load (b := w1.heap.size) (o := 0) (v := .int .i64 b.first) (by kernel_rfl) rfl (by simp only [evb, pvb, rnb, kb, hN, seval]) (fun _ c => hb4.chg c hne) rfl ?_
  (repeat (refine ws_pY rfl ?_ ?_ ?_ ?_; (· (refine ⟨?_⟩; simp [rxb]; done)); (· simp [evb, pvb, rnb, kb, hN, seval, g4, ofKB, dyb, sdb] <;> omega); (· kernel_rfl); try simp only [evb, pvb, rnb, kb, hN, seval, g4, ofKB]))
  refine ws_load (b := w1.heap.size) (o := 1) (v := .int .i32 b.len) (by kernel_rfl) rfl (by simp only [evb, pvb, rnb, kb, hN, seval]) (fun _ c => hb4.chg c hne) rfl ?_
  (repeat (refine ws_pY rfl ?_ ?_ ?_ ?_; (· (refine ⟨?_⟩; simp [rxb]; done)); (· simp [evb, pvb, rnb, kb, hN, seval, g4, ofKB, dyb, sdb] <;> omega); (· kernel_rfl); try simp only [evb, pvb, rnb, kb, hN, seval, g4, ofKB]))
  refine ws_load (b := w1.heap.size) (o := 2) (v := .int .i32 b.epoch) (by kernel_rfl) rfl (by simp only [evb, pvb, rnb, kb, hN, seval]) (fun _ c => hb4.chg c hne) rfl ?_
  (repeat (refine ws_pY rfl ?_ ?_ ?_ ?_; (· (refine ⟨?_⟩; simp [rxb]; done)); (· simp [evb, pvb, rnb, kb, hN, seval, g4, ofKB, dyb, sdb] <;> omega); (· kernel_rfl); try simp only [evb, pvb, rnb, kb, hN, seval, g4, ofKB]))
  refine ws_load (b := w1.heap.size) (o := 3) (v := .int .i8 b.magic) (by kernel_rfl) rfl (by simp only [evb, pvb, rnb, kb, hN, seval]) (fun _ c => hb4.chg c hne) rfl ?_
  (repeat (refine ws_pY rfl ?_ ?_ ?_ ?_; (· (refine ⟨?_⟩; simp [rxb]; done)); (· simp [evb, pvb, rnb, kb, hN, seval, g4, ofKB, dyb, sdb] <;> omega); (· kernel_rfl); try simp only [evb, pvb, rnb, kb, hN, seval, g4, ofKB]))
  refine ws_load (b := w1.heap.size) (o := 4) (v := .int .i32 b.crc) (by kernel_rfl) rfl (by simp only [evb, pvb, rnb, kb, hN, seval]) (fun _ c => hb4.chg c hne) rfl ?_
  (repeat (refine ws_pY rfl ?_ ?_ ?_ ?_; (· (refine ⟨?_⟩; simp [rxb]; done)); (· simp [evb, pvb, rnb, kb, hN, seval, g4, ofKB, dyb, sdb] <;> omega); (· kernel_rfl); try simp only [evb, pvb, rnb, kb, hN, seval, g4, ofKB]))
  refine ws_load (b := w1.heap.size) (o := 5) (v := .int .i16 b.attr) (by kernel_rfl) rfl (by simp only [evb, pvb, rnb, kb, hN, seval]) (fun _ c => hb4.chg c hne) rfl ?_
  (repeat (refine ws_pY rfl ?_ ?_ ?_ ?_; (· (refine ⟨?_⟩; simp [rxb]; done)); (· simp [evb, pvb, rnb, kb, hN, seval, g4, ofKB, dyb, sdb] <;> omega); (· kernel_rfl); try simp only [evb, pvb, rnb, kb, hN, seval, g4, ofKB]))
  refine ws_load (b := w1.heap.size) (o := 6) (v := .int .i32 b.last) (by kernel_rfl) rfl (by simp only [evb, pvb, rnb, kb, hN, seval]) (fun _ c => hb4.chg c hne) rfl ?_
  (repeat (refine ws_pY rfl ?_ ?_ ?_ ?_; (· (refine ⟨?_⟩; simp [rxb]; done)); (· simp [evb, pvb, rnb, kb, hN, seval, g4, ofKB, dyb, sdb] <;> omega); (· kernel_rfl); try simp only [evb, pvb, rnb, kb, hN, seval, g4, ofKB]))
  refine ws_load (b := w1.heap.size) (o := 7) (v := .int .i64 b.firstT) (by kernel_rfl) rfl (by simp only [evb, pvb, rnb, kb, hN, seval]) (fun _ c => hb4.chg c hne) rfl ?_
  (repeat (refine ws_pY rfl ?_ ?_ ?_ ?_; (· (refine ⟨?_⟩; simp [rxb]; done)); (· simp [evb, pvb, rnb, kb, hN, seval, g4, ofKB, dyb, sdb] <;> omega); (· kernel_rfl); try simp only [evb, pvb, rnb, kb, hN, seval, g4, ofKB]))
  refine ws_load (b := w1.heap.size) (o := 8) (v := .int .i64 b.maxT) (by kernel_rfl) rfl (by simp only [evb, pvb, rnb, kb, hN, seval]) (fun _ c => hb4.chg c hne) rfl ?_
  (repeat (refine ws_pY rfl ?_ ?_ ?_ ?_; (· (refine ⟨?_⟩; simp [rxb]; done)); (· simp [evb, pvb, rnb, kb, hN, seval, g4, ofKB, dyb, sdb] <;> omega); (· kernel_rfl); try simp only [evb, pvb, rnb, kb, hN, seval, g4, ofKB]))
  refine ws_load (b := w1.heap.size) (o := 9) (v := .int .i64 b.prod) (by kernel_rfl) rfl (by simp only [evb, pvb, rnb, kb, hN, seval]) (fun _ c => hb4.chg c hne) rfl ?_
  (repeat (refine ws_pY rfl ?_ ?_ ?_ ?_; (· (refine ⟨?_⟩; simp [rxb]; done)); (· simp [evb, pvb, rnb, kb, hN, seval, g4, ofKB, dyb, sdb] <;> omega); (· kernel_rfl); try simp only [evb, pvb, rnb, kb, hN, seval, g4, ofKB]))
  refine ws_load (b := w1.heap.size) (o := 10) (v := .int .i16 b.pep) (by kernel_rfl) rfl (by simp only [evb, pvb, rnb, kb, hN, seval]) (fun _ c => hb4.chg c hne) rfl ?_
  (repeat (refine ws_pY rfl ?_ ?_ ?_ ?_; (· (refine ⟨?_⟩; simp [rxb]; done)); (· simp [evb, pvb, rnb, kb, hN, seval, g4, ofKB, dyb, sdb] <;> omega); (· kernel_rfl); try simp only [evb, pvb, rnb, kb, hN, seval, g4, ofKB]))
  refine ws_load (b := w1.heap.size) (o := 11) (v := .int .i32 b.seq) (by kernel_rfl) rfl (by simp only [evb, pvb, rnb, kb, hN, seval]) (fun _ c => hb4.chg c hne) rfl ?_
  (repeat (refine ws_pY rfl ?_ ?_ ?_ ?_; (· (refine ⟨?_⟩; simp [rxb]; done)); (· simp [evb, pvb, rnb, kb, hN, seval, g4, ofKB, dyb, sdb] <;> omega); (· kernel_rfl); try simp only [evb, pvb, rnb, kb, hN, seval, g4, ofKB]))
  refine ws_load (b := w1.heap.size) (o := 12) (v := .int .i32 b.many) (by kernel_rfl) rfl (by simp only [evb, pvb, rnb, kb, hN, seval]) (fun _ c => hb4.chg c hne) rfl ?_
  (repeat (refine ws_pY rfl ?_ ?_ ?_ ?_; (· (refine ⟨?_⟩; simp [rxb]; done)); (· simp [evb, pvb, rnb, kb, hN, seval, g4, ofKB, dyb, sdb] <;> omega); (· kernel_rfl); try simp only [evb, pvb, rnb, kb, hN, seval, g4, ofKB]))
  refine ws_load (b := w1.heap.size) (o := 13) (v := .slice o4 b.recs.length c4) (by kernel_rfl) rfl (by simp only [evb, pvb, rnb, kb, hN, seval]) (fun _ c => hb4.chg c hne) rfl ?_
  refine ws_call (fun args w => Tryd.call19 args w) rfl (by simp only [List.map_toArray, List.map_cons, List.map_nil, evb, kb, hN, seval]; exact own_c (k2.chg (Chg.drew (fun _ => False) w4) fun _ _ _ h => h) (by unfold LIM; omega)) ?_
  rintro v5 w5 ⟨s1, hc5⟩
  have hc45 : Chg (fun _ => False) w4 w5 := (Chg.drew _ _).trans hc5 fun _ _ h => h
  have hcS : Chg (fun k => k = w.heap.size) w4 w5 := hc45.mono fun _ _ h => h.elim
  refine ⟨hcS, ?_⟩
  obtain ⟨o5, c5, rfl, m1, m2⟩ := own_at s1
  refine ws_step rfl fun K1 hK1 => ?_
  refine wl_build (l := btV b (.slice o5 b.recs.length c5)) (by simp only [List.map_toArray, List.map_cons, List.map_nil, evb, kb, hN, seval]; kernel_rfl) ?_
  refine zaa (hK1 _ _ hcS ?_)
  clear hK1 K1
  refine ws_step rfl fun K1 hK1 => ?_
  have hs45 := hc45.size
  have m2' : zam w5 (fun g => w.heap.size < g) o5 b.recs := m2.mono fun g hg _ => by change w4.heap.size ≤ g at hg; omega
  refine zaA (b := w.heap.size) (n := 14) (l' := btV b (.slice o5 b.recs.length c5)) (by kernel_rfl) (by simp only [evb, pvb, rnb, kb, hN, seval, g2]) (by simp only [evb, pvb, rnb, kb, hN, seval]) (hb14.chg hc45 fun h => h) rfl (one_bt.cell ⟨o5, c5, rfl, m1, m2, q⟩) rfl fun w6 hb6 hc6 => ?_
  have hc46 := hcS.trans hc6 fun _ _ h => h
  refine zaa (hK1 _ _ hc46 ?_)
  clear hK1 K1
  (repeat (refine ws_pY rfl ?_ ?_ ?_ ?_; (· (refine ⟨?_⟩; simp [rxb]; done)); (· simp [evb, pvb, rnb, kb, hN, seval, dyb, sdb] <;> omega); (· kernel_rfl); try simp only [evb, pvb, rnb, kb, hN, seval]))
  refine ws_nil ?_
  refine hK _ _ ?_
  clear hK K
  refine wp_ret ⟨by simp only [zab, hD], w.heap.size, _, _, by simp only [evb, pvb, rnb, kb, hN, seval, g2], hb6, by kernel_rfl, _, by simp only [evb, pvb, rnb, kb, hN, seval]; rfl, ⟨o5, c5, rfl, m1, (m2'.chg hc6 fun g hg _ e => by omega).mono fun g hg _ => by omega, q⟩, hc04.trans hc46 fun n hn h => by omega⟩
end Go.Proofs.YtojpodeljpfgaaaDoor

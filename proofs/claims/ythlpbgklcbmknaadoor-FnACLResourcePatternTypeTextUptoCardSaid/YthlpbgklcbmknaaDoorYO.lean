import Derived.Test.YthlpbgklcbmknaaDoorYV
import Derived.Test.YthlpbgklcbmknaaDoorYS
/-
What the proofs of the laws rest on, part YO.
-/
namespace Go.Proofs.YthlpbgklcbmknaaDoor
set_option linter.all false
open Go.RowKit
set_option maxRecDepth 10000
set_option maxHeartbeats 2000000
def wordOf (W : List (Bs' × Int)) (x : Bs') : Option Int := (W.find? fun y => y.1 == x).map (·.2)
theorem wordOf_cons (y : Bs') (n : Int) (W : List (Bs' × Int)) (x : Bs') : wordOf ((y, n) :: W) x = if x = y then some n else wordOf W x := by
  unfold wordOf
  rw [List.find?_cons]
  by_cases h : x = y
  · subst h; simp
  · have : (y == x) = false := by simp [Ne.symm h]
    simp [this, h]
def ParsedAs (o : Option Int) (v : Value) : Prop := match o with | some n => v = .tuple #[.int .i8 n, .nilIface] | none => ∃ t x, v = .tuple #[.int .i8 0, .iface t x]
theorem errNew_c (l : Bs') (w : World) : CallsR Tryd.prog 26 #[strV l] w fun v w' => (∃ t x, v = .iface t x) ∧ Chg (fun _ => False) w w' := by
  refine callsR_of Tryd.func26 rfl rfl Tryd.ntmps26 (by simp) ?_
  intro a hN hD ha
  have h0 : get a 0 = strV l := ha 0 _ rfl
  refine wp_seq_k fun K hK => ?_; refine zab ?_; (repeat ((with_reducible refine zaf ?_ ?_ ?_); (· simp [evb, pvb, rnb, kb, hN, dyb, sdb] <;> omega); (· kernel_rfl); try simp only [evb, pvb, rnb, kb, hN, seval])); refine zaa ?_; refine hK _ _ ?_; clear hK K
  refine wp_seq_k fun K hK => ?_; refine zab ?_; (repeat ((with_reducible refine zaf ?_ ?_ ?_); (· simp [evb, pvb, rnb, kb, hN, h0, dyb, sdb] <;> omega); (· kernel_rfl); try simp only [evb, pvb, rnb, kb, hN, seval, h0]))
  refine wl_build (l := [strV l]) (by simp only [List.map_toArray, List.map_cons, List.map_nil, evb, kb, hN, seval]; kernel_rfl) ?_
  refine wl_boxA (l := [strV l]) (by simp [evb, kb, hN, sdb]) fun w1 hc hb hs => ?_
  refine wl_val rfl (v := .iface 58 (.pointer (some ⟨w.heap.size, 0, none⟩))) (w' := w1) (by
    have hr := run_makeInterface (P := Tryd.prog) w1 58 (.pointer (some ⟨w.heap.size, 0, none⟩)) (by kernel_rfl)
    simp only [execOp, evb, kb, hN, seval, Sem.run_bind, hr]; rfl) ?_
  (repeat ((with_reducible refine zaf ?_ ?_ ?_); (· simp [evb, pvb, rnb, kb, hN, dyb, sdb] <;> omega); (· kernel_rfl); try simp only [evb, pvb, rnb, kb, hN, seval])); refine zaa ?_; refine hK _ _ ?_; clear hK K; refine wp_ret ⟨by simp [zad, hD], ?_⟩; simp only [evb, kb, hN, seval]
  exact ⟨⟨_, _, rfl⟩, hc⟩
def HandedAs (o : Option Int) (v : Value) : Prop := match o with | some n => v = .tuple #[.int .i64 n, .bool true] | none => v = .tuple #[.int .i64 0, .bool false]
def zac : List (Bs' × Int) := [([97, 110, 121], 1), ([109, 97, 116, 99, 104], 2), ([108, 105, 116, 101, 114, 97, 108], 3), ([112, 114, 101, 102, 105, 120, 101, 100], 4)]
theorem parseACLResourcePatternType_c (l : Bs') (hl : l.length ≤ 1048576) (ha : asciiL l) {w : World} (hw : SpaceW w) : CallsR Tryd.prog 22 #[strV l] w fun v w' => ParsedAs (wordOf zac (normS l)) v ∧ Chg (fun _ => False) w w' := by
  refine callsR_of2 Tryd.func22 rfl rfl Tryd.ntmps22 (by simp) ?_
  intro a hN hD hargs
  have h0 : get a 0 = strV l := hargs 0 _ rfl
  refine wp_seq_k fun K hK => ?_; refine zab ?_; (repeat ((with_reducible refine zaf ?_ ?_ ?_); (· simp [evb, pvb, rnb, kb, hN, dyb, sdb] <;> omega); (· kernel_rfl); try simp only [evb, pvb, rnb, kb, hN, seval])); refine zaa ?_; refine hK _ _ ?_; clear hK K
  refine wp_seq_k fun K hK => ?_; refine zab ?_; (repeat ((with_reducible refine zaf ?_ ?_ ?_); (· simp [evb, pvb, rnb, kb, hN, h0, dyb, sdb] <;> omega); (· kernel_rfl); try simp only [evb, pvb, rnb, kb, hN, seval, h0]))
  refine wl_call (fun args w => Tryd.call25 args w) (by simp only [List.map_toArray, List.map_cons, List.map_nil, evb, kb, hN, seval]; exact strnorm_c l hl ha hw) ?_
  rintro _ w1 ⟨rfl, hc⟩
  refine zaa ?_; refine hK _ _ ?_; clear hK K
  generalize normS l = nl
  refine wp_block ?_
  refine wp_seq_k fun K hK => ?_; refine zab ?_
  refine wl_strEq (l := nl) (l' := [97, 110, 121]) (by simp [evb, kb, hN, sdb]) (by simp [evb, kb, hN, sdb]) ?_
  (repeat ((with_reducible refine zaf ?_ ?_ ?_); (· simp [evb, pvb, rnb, kb, hN, dyb, sdb] <;> omega); (· kernel_rfl); try simp only [evb, pvb, rnb, kb, hN, seval])); refine zaa ?_; refine hK _ _ ?_; clear hK K
  by_cases c0 : nl = [97, 110, 121]
  · have e : (nl == [97, 110, 121]) = true := by simp [c0]
    rw [e]
    refine wp_cond_true (by simp [evb, kb, hN, sdb]) ?_
    refine wp_seq_k fun K hK => ?_; refine zab ?_; (repeat ((with_reducible refine zaf ?_ ?_ ?_); (· simp [evb, pvb, rnb, kb, hN, dyb, sdb] <;> omega); (· kernel_rfl); try simp only [evb, pvb, rnb, kb, hN, seval])); refine zaa ?_; refine hK _ _ ?_; clear hK K; refine wp_ret ⟨by simp [zad, hD], ?_⟩; simp only [evb, kb, hN, seval]
    refine ⟨?_, hc⟩
    rw [c0]; rfl
  have e0 : (nl == [97, 110, 121]) = false := by simp [c0]
  rw [e0]
  refine wp_cond_false (by simp [evb, kb, hN, sdb]) ?_
  refine wp_seq_k fun K hK => ?_; refine zab ?_
  refine wl_strEq (l := nl) (l' := [109, 97, 116, 99, 104]) (by simp [evb, kb, hN, sdb]) (by simp [evb, kb, hN, sdb]) ?_
  (repeat ((with_reducible refine zaf ?_ ?_ ?_); (· simp [evb, pvb, rnb, kb, hN, dyb, sdb] <;> omega); (· kernel_rfl); try simp only [evb, pvb, rnb, kb, hN, seval])); refine zaa ?_; refine hK _ _ ?_; clear hK K
  by_cases c1 : nl = [109, 97, 116, 99, 104]
  · have e : (nl == [109, 97, 116, 99, 104]) = true := by simp [c1]
    rw [e]
    refine wp_cond_true (by simp [evb, kb, hN, sdb]) ?_
    refine wp_seq_k fun K hK => ?_; refine zab ?_; (repeat ((with_reducible refine zaf ?_ ?_ ?_); (· simp [evb, pvb, rnb, kb, hN, dyb, sdb] <;> omega); (· kernel_rfl); try simp only [evb, pvb, rnb, kb, hN, seval])); refine zaa ?_; refine hK _ _ ?_; clear hK K; refine wp_ret ⟨by simp [zad, hD], ?_⟩; simp only [evb, kb, hN, seval]
    refine ⟨?_, hc⟩
    rw [c1]; rfl
  have e1 : (nl == [109, 97, 116, 99, 104]) = false := by simp [c1]
  rw [e1]
  refine wp_cond_false (by simp [evb, kb, hN, sdb]) ?_
  refine wp_seq_k fun K hK => ?_; refine zab ?_
  refine wl_strEq (l := nl) (l' := [108, 105, 116, 101, 114, 97, 108]) (by simp [evb, kb, hN, sdb]) (by simp [evb, kb, hN, sdb]) ?_
  (repeat ((with_reducible refine zaf ?_ ?_ ?_); (· simp [evb, pvb, rnb, kb, hN, dyb, sdb] <;> omega); (· kernel_rfl); try simp only [evb, pvb, rnb, kb, hN, seval])); refine zaa ?_; refine hK _ _ ?_; clear hK K
  by_cases c2 : nl = [108, 105, 116, 101, 114, 97, 108]
  · have e : (nl == [108, 105, 116, 101, 114, 97, 108]) = true := by simp [c2]
    rw [e]
    refine wp_cond_true (by simp [evb, kb, hN, sdb]) ?_
    refine wp_seq_k fun K hK => ?_; refine zab ?_; (repeat ((with_reducible refine zaf ?_ ?_ ?_); (· simp [evb, pvb, rnb, kb, hN, dyb, sdb] <;> omega); (· kernel_rfl); try simp only [evb, pvb, rnb, kb, hN, seval])); refine zaa ?_; refine hK _ _ ?_; clear hK K; refine wp_ret ⟨by simp [zad, hD], ?_⟩; simp only [evb, kb, hN, seval]
    refine ⟨?_, hc⟩
    rw [c2]; rfl
  have e2 : (nl == [108, 105, 116, 101, 114, 97, 108]) = false := by simp [c2]
  rw [e2]
  refine wp_cond_false (by simp [evb, kb, hN, sdb]) ?_
  refine wp_seq_k fun K hK => ?_; refine zab ?_
  refine wl_strEq (l := nl) (l' := [112, 114, 101, 102, 105, 120, 101, 100]) (by simp [evb, kb, hN, sdb]) (by simp [evb, kb, hN, sdb]) ?_
  (repeat ((with_reducible refine zaf ?_ ?_ ?_); (· simp [evb, pvb, rnb, kb, hN, dyb, sdb] <;> omega); (· kernel_rfl); try simp only [evb, pvb, rnb, kb, hN, seval])); refine zaa ?_; refine hK _ _ ?_; clear hK K
  by_cases c3 : nl = [112, 114, 101, 102, 105, 120, 101, 100]
  · have e : (nl == [112, 114, 101, 102, 105, 120, 101, 100]) = true := by simp [c3]
    rw [e]
    refine wp_cond_true (by simp [evb, kb, hN, sdb]) ?_
    refine wp_seq_k fun K hK => ?_; refine zab ?_; (repeat ((with_reducible refine zaf ?_ ?_ ?_); (· simp [evb, pvb, rnb, kb, hN, dyb, sdb] <;> omega); (· kernel_rfl); try simp only [evb, pvb, rnb, kb, hN, seval])); refine zaa ?_; refine hK _ _ ?_; clear hK K; refine wp_ret ⟨by simp [zad, hD], ?_⟩; simp only [evb, kb, hN, seval]
    refine ⟨?_, hc⟩
    rw [c3]; rfl
  have e3 : (nl == [112, 114, 101, 102, 105, 120, 101, 100]) = false := by simp [c3]
  rw [e3]
  refine wp_cond_false (by simp [evb, kb, hN, sdb]) ?_
  refine wp_seq_k fun K hK => ?_; refine zab ?_
  refine wl_call (fun args w => Tryd.call26 args w) (by simp only [List.map_toArray, List.map_cons, List.map_nil, evb, kb, hN, seval]; exact errNew_c _ w1) ?_
  rintro _ w2 ⟨⟨t, x, rfl⟩, hc2⟩
  (repeat ((with_reducible refine zaf ?_ ?_ ?_); (· simp [evb, pvb, rnb, kb, hN, dyb, sdb] <;> omega); (· kernel_rfl); try simp only [evb, pvb, rnb, kb, hN, seval])); refine zaa ?_; refine hK _ _ ?_; clear hK K; refine wp_ret ⟨by simp [zad, hD], ?_⟩; simp only [evb, kb, hN, seval]
  refine ⟨?_, hc.trans hc2 fun _ _ h => h⟩
  have hn : wordOf zac nl = none := by
    unfold zac
    simp only [wordOf_cons, c0, c1, c2, c3, if_false]; rfl
  rw [hn]
  exact ⟨t, x, rfl⟩
theorem rngACLResourcePatternType {x : Bs'} {n : Int} (h : wordOf zac x = some n) : 0 ≤ n ∧ n ≤ 100 := by
  unfold zac at h
  simp only [wordOf_cons] at h
  repeat' (split at h)
  all_goals first | (simp only [Option.some.injEq] at h; omega) | (cases h)
theorem implACLResourcePatternType_c (l : Bs') (hl : l.length ≤ 1048576) (ha : asciiL l) {w : World} (hw : SpaceW w) : CallsR Tryd.prog 14 #[strV l] w fun v w' => HandedAs (wordOf zac (normS l)) v ∧ Chg (fun _ => False) w w' := by
  refine callsR_of2 Tryd.func14 rfl rfl Tryd.ntmps14 (by simp) ?_
  intro a hN hD hargs
  have h0 : get a 0 = strV l := hargs 0 _ rfl
  refine wp_seq_k fun K hK => ?_; refine zab ?_; (repeat ((with_reducible refine zaf ?_ ?_ ?_); (· simp [evb, pvb, rnb, kb, hN, dyb, sdb] <;> omega); (· kernel_rfl); try simp only [evb, pvb, rnb, kb, hN, seval])); refine zaa ?_; refine hK _ _ ?_; clear hK K
  refine wp_seq_k fun K hK => ?_; refine zab ?_; (repeat ((with_reducible refine zaf ?_ ?_ ?_); (· simp [evb, pvb, rnb, kb, hN, h0, dyb, sdb] <;> omega); (· kernel_rfl); try simp only [evb, pvb, rnb, kb, hN, seval, h0]))
  refine wl_call (fun args w => Tryd.call22 args w) (by simp only [List.map_toArray, List.map_cons, List.map_nil, evb, kb, hN, seval]; exact parseACLResourcePatternType_c l hl ha hw) ?_
  rintro _ w1 ⟨hp, hc⟩
  cases hw1 : wordOf zac (normS l) with
  | some n =>
    rw [hw1] at hp
    cases (hp : _ = Value.tuple #[.int .i8 n, .nilIface])
    have hr := rngACLResourcePatternType hw1
    have hz : IntKind.i64.wrap n = n := i64_id n (by omega)
    (repeat ((with_reducible refine zaf ?_ ?_ ?_); (· simp [evb, pvb, rnb, kb, hN, exV, exOK, dyb, sdb] <;> omega); (· kernel_rfl); try simp only [evb, pvb, rnb, kb, hN, seval, exV, exOK])); refine zaa ?_; refine hK _ _ ?_; clear hK K
    refine wp_seq_k fun K hK => ?_; refine wp_seq_k fun K1 hK1 => ?_; refine zab ?_; (repeat ((with_reducible refine zaf ?_ ?_ ?_); (· simp [evb, pvb, rnb, kb, hN, dyb, sdb] <;> omega); (· kernel_rfl); try simp only [evb, pvb, rnb, kb, hN, seval]))
    refine wl_neqNil0 (by kernel_rfl) (by simp [evb, kb, hN, sdb]) ?_
    refine zaa ?_; refine hK1 _ _ ?_; try clear hK1 K1
    refine wp_cond_false (by simp [evb, kb, hN, sdb]) ?_
    refine wp_skip ?_
    refine hK _ _ ?_
    clear hK K
    refine wp_seq_k fun K hK => ?_; refine zab ?_; (repeat ((with_reducible refine zaf ?_ ?_ ?_); (· simp [evb, pvb, rnb, kb, hN, hz, dyb, sdb] <;> omega); (· kernel_rfl); try simp only [evb, pvb, rnb, kb, hN, seval, hz])); refine zaa ?_; refine hK _ _ ?_; clear hK K; refine wp_ret ⟨by simp [zad, hD], ?_⟩; simp only [evb, kb, hN, seval]
    refine ⟨?_, hc⟩
    rw [hw1]
    show Value.tuple #[.int .i64 (IntKind.i64.wrap n), .bool true] = _
    rw [hz]
  | none =>
    rw [hw1] at hp
    obtain ⟨t, x, rfl⟩ := hp
    (repeat ((with_reducible refine zaf ?_ ?_ ?_); (· simp [evb, pvb, rnb, kb, hN, exV, exOK, dyb, sdb] <;> omega); (· kernel_rfl); try simp only [evb, pvb, rnb, kb, hN, seval, exV, exOK])); refine zaa ?_; refine hK _ _ ?_; clear hK K
    refine wp_seq_k fun K hK => ?_; refine wp_seq_k fun K1 hK1 => ?_; refine zab ?_; (repeat ((with_reducible refine zaf ?_ ?_ ?_); (· simp [evb, pvb, rnb, kb, hN, dyb, sdb] <;> omega); (· kernel_rfl); try simp only [evb, pvb, rnb, kb, hN, seval]))
    refine wl_neqNil1 (ti := t) (v := x) (by kernel_rfl) (by simp [evb, kb, hN, sdb]) ?_
    refine zaa ?_; refine hK1 _ _ ?_; try clear hK1 K1
    refine wp_cond_true (by simp [evb, kb, hN, sdb]) ?_
    refine wp_seq_k fun K hK => ?_; refine zab ?_; (repeat ((with_reducible refine zaf ?_ ?_ ?_); (· simp [evb, pvb, rnb, kb, hN, dyb, sdb] <;> omega); (· kernel_rfl); try simp only [evb, pvb, rnb, kb, hN, seval])); refine zaa ?_; refine hK _ _ ?_; clear hK K; refine wp_ret ⟨by simp [zad, hD], ?_⟩; simp only [evb, kb, hN, seval]
    refine ⟨?_, hc⟩
    rw [hw1]; rfl
theorem unmACLResourcePatternType_c (l : Bs') (hl : l.length ≤ 1048576) (ha : asciiL l) {w : World} {G : Nat → Prop} {oa : Option Addr} {cap B : Nat} {v0 : Value} {Tb : TypeId} (hb : zah w G oa l) (hB : Blk w B [v0] Tb) (hw : SpaceW w) :
    CallsR Tryd.prog 23 #[.pointer (some ⟨B, 0, none⟩), .slice oa l.length cap] w fun v w' => (match wordOf zac (normS l) with | some n => v = .nilIface ∧ Blk w' B [.int .i8 n] Tb | none => ∃ t x, v = .iface t x) ∧ Chg (fun k => k = B) w w' := by
  refine callsR_of Tryd.func23 rfl rfl Tryd.ntmps23 (by simp) ?_
  intro a hN hD hargs
  have h0 : get a 0 = .pointer (some ⟨B, 0, none⟩) := hargs 0 _ rfl
  have h1 : get a 1 = .slice oa l.length cap := hargs 1 _ rfl
  refine wp_seq_k fun K hK => ?_; refine zab ?_; (repeat ((with_reducible refine zaf ?_ ?_ ?_); (· simp [evb, pvb, rnb, kb, hN, dyb, sdb] <;> omega); (· kernel_rfl); try simp only [evb, pvb, rnb, kb, hN, seval])); refine zaa ?_; refine hK _ _ ?_; clear hK K
  refine wp_seq_k fun K hK => ?_; refine zab ?_; (repeat ((with_reducible refine zaf ?_ ?_ ?_); (· simp [evb, pvb, rnb, kb, hN, h1, dyb, sdb] <;> omega); (· kernel_rfl); try simp only [evb, pvb, rnb, kb, hN, seval, h1]))
  refine wl_text (cap := cap) bT (by kernel_rfl) (by simp [evb, kb, hN, sdb]) hb ?_
  refine wl_call (fun args w => Tryd.call22 args w) (by simp only [List.map_toArray, List.map_cons, List.map_nil, evb, kb, hN, seval]; exact parseACLResourcePatternType_c l hl ha hw) ?_
  rintro _ w1 ⟨hp, hc⟩
  have hB1 := hB.chg hc (fun h => h)
  cases hw1 : wordOf zac (normS l) with
  | some n =>
    rw [hw1] at hp
    cases (hp : _ = Value.tuple #[.int .i8 n, .nilIface])
    (repeat ((with_reducible refine zaf ?_ ?_ ?_); (· simp [evb, pvb, rnb, kb, hN, exV, exOK, dyb, sdb] <;> omega); (· kernel_rfl); try simp only [evb, pvb, rnb, kb, hN, seval, exV, exOK])); refine zaa ?_; refine hK _ _ ?_; clear hK K
    refine wp_seq_k fun K hK => ?_; refine zab ?_; (repeat ((with_reducible refine zaf ?_ ?_ ?_); (· simp [evb, pvb, rnb, kb, hN, h0, dyb, sdb] <;> omega); (· kernel_rfl); try simp only [evb, pvb, rnb, kb, hN, seval, h0]))
    refine wl_store (b := B) (o := 0) (n := 1) (v := .int .i8 n) (by kernel_rfl) (by simp [evb, kb, hN, h0, sdb]) (by simp [evb, kb, hN, sdb]) hB1 rfl (by intro y hy; simp only [Value.cells, List.mem_singleton] at hy; subst hy; rfl) (by simp) fun w2 hb2 hc2 => ?_
    refine zaa ?_; refine hK _ _ ?_; clear hK K
    refine wp_seq_k fun K hK => ?_; refine zab ?_; (repeat ((with_reducible refine zaf ?_ ?_ ?_); (· simp [evb, pvb, rnb, kb, hN, dyb, sdb] <;> omega); (· kernel_rfl); try simp only [evb, pvb, rnb, kb, hN, seval])); refine zaa ?_; refine hK _ _ ?_; clear hK K; refine wp_ret ⟨by simp [zad, hD], ?_⟩; simp only [evb, kb, hN, seval]
    refine ⟨?_, (hc.mono fun _ _ h => h.elim).trans hc2 fun _ _ h => h⟩
    rw [hw1]
    exact ⟨rfl, hb2⟩
  | none =>
    rw [hw1] at hp
    obtain ⟨t, x, rfl⟩ := hp
    (repeat ((with_reducible refine zaf ?_ ?_ ?_); (· simp [evb, pvb, rnb, kb, hN, exV, exOK, dyb, sdb] <;> omega); (· kernel_rfl); try simp only [evb, pvb, rnb, kb, hN, seval, exV, exOK])); refine zaa ?_; refine hK _ _ ?_; clear hK K
    refine wp_seq_k fun K hK => ?_; refine zab ?_; (repeat ((with_reducible refine zaf ?_ ?_ ?_); (· simp [evb, pvb, rnb, kb, hN, h0, dyb, sdb] <;> omega); (· kernel_rfl); try simp only [evb, pvb, rnb, kb, hN, seval, h0]))
    refine wl_store (b := B) (o := 0) (n := 1) (v := .int .i8 0) (by kernel_rfl) (by simp [evb, kb, hN, h0, sdb]) (by simp [evb, kb, hN, sdb]) hB1 rfl (by intro y hy; simp only [Value.cells, List.mem_singleton] at hy; subst hy; rfl) (by simp) fun w2 hb2 hc2 => ?_
    refine zaa ?_; refine hK _ _ ?_; clear hK K
    refine wp_seq_k fun K hK => ?_; refine zab ?_; (repeat ((with_reducible refine zaf ?_ ?_ ?_); (· simp [evb, pvb, rnb, kb, hN, dyb, sdb] <;> omega); (· kernel_rfl); try simp only [evb, pvb, rnb, kb, hN, seval])); refine zaa ?_; refine hK _ _ ?_; clear hK K; refine wp_ret ⟨by simp [zad, hD], ?_⟩; simp only [evb, kb, hN, seval]
    refine ⟨?_, (hc.mono fun _ _ h => h.elim).trans hc2 fun _ _ h => h⟩
    rw [hw1]
    exact ⟨t, x, rfl⟩
theorem ofTextACLResourcePatternType_c (l : Bs') (hl : l.length ≤ 1048576) (ha : asciiL l) {w : World} {G : Nat → Prop} {oa : Option Addr} {cap : Nat} (hb : zah w G oa l) (hw : SpaceW w) :
    CallsR Tryd.prog 15 #[.slice oa l.length cap] w fun v w' => HandedAs (wordOf zac (normS l)) v ∧ Chg (fun _ => False) w w' := by
  refine callsR_of2 Tryd.func15 rfl rfl Tryd.ntmps15 (by simp) ?_
  intro a hN hD hargs
  have h0 : get a 0 = .slice oa l.length cap := hargs 0 _ rfl
  refine wp_seq_k fun K hK => ?_; refine zab ?_; (repeat ((with_reducible refine zaf ?_ ?_ ?_); (· simp [evb, pvb, rnb, kb, hN, dyb, sdb] <;> omega); (· kernel_rfl); try simp only [evb, pvb, rnb, kb, hN, seval])); refine zaa ?_; refine hK _ _ ?_; clear hK K
  refine wp_seq_k fun K hK => ?_; refine zab ?_
  refine wl_allocA (z := .int .i8 0) (fun w => Tryd.zeroValue48 w) fun w1 hc1 hb1 hs1 => ?_
  refine zaa ?_; refine hK _ _ ?_; clear hK K
  refine wp_seq_k fun K hK => ?_; refine zab ?_; (repeat ((with_reducible refine zaf ?_ ?_ ?_); (· simp [evb, pvb, rnb, kb, hN, h0, dyb, sdb] <;> omega); (· kernel_rfl); try simp only [evb, pvb, rnb, kb, hN, seval, h0]))
  refine wl_append (t := 26) (e := 5) (base := w1.heap.size) (v := .slice none 0 0) (bs := []) (bs' := l) (oa := oa) (c := cap) bT (by simp only [evb, kb, hN, seval]) (by simp only [evb, kb, hN, seval, h0]) (Own.nil _ _ _) (hb.chg hc1 fun _ _ _ h => h) (by unfold LIM; simp only [List.length_nil]; omega) (Nat.le_refl _) ?_
  intro v2 w2 happ
  have hc2 : Chg (fun _ => False) w1 w2 := happ.chg.mono fun n hn hk => by simp [Value.ownBlock] at hk
  obtain ⟨oa3, cap3, rfl, hcap3, hbs3⟩ := happ.own.bytes
  rw [List.nil_append] at hcap3 hbs3 ⊢
  have hc12 := hc1.trans hc2 fun _ _ h => h
  refine wl_call (fun args w => Tryd.call23 args w) (by simp only [List.map_toArray, List.map_cons, List.map_nil, evb, kb, hN, seval]; exact unmACLResourcePatternType_c l hl ha hbs3 (hb1.chg hc2 fun h => h) (hw.chg hc12)) ?_
  rintro v3 w3 ⟨hq, hc3⟩
  have hc : Chg (fun _ => False) w w3 := hc12.trans hc3 fun n hn h => by omega
  cases hw1 : wordOf zac (normS l) with
  | some n =>
    rw [hw1] at hq
    obtain ⟨rfl, hb3⟩ := (hq : v3 = .nilIface ∧ _)
    have hr := rngACLResourcePatternType hw1
    have hz : IntKind.i64.wrap n = n := i64_id n (by omega)
    (repeat ((with_reducible refine zaf ?_ ?_ ?_); (· simp [evb, pvb, rnb, kb, hN, dyb, sdb] <;> omega); (· kernel_rfl); try simp only [evb, pvb, rnb, kb, hN, seval])); refine zaa ?_; refine hK _ _ ?_; clear hK K
    refine wp_seq_k fun K hK => ?_; refine wp_seq_k fun K1 hK1 => ?_; refine zab ?_; (repeat ((with_reducible refine zaf ?_ ?_ ?_); (· simp [evb, pvb, rnb, kb, hN, dyb, sdb] <;> omega); (· kernel_rfl); try simp only [evb, pvb, rnb, kb, hN, seval]))
    refine wl_neqNil0 (by kernel_rfl) (by simp [evb, kb, hN, sdb]) ?_
    refine zaa ?_; refine hK1 _ _ ?_; try clear hK1 K1
    refine wp_cond_false (by simp [evb, kb, hN, sdb]) ?_
    refine wp_skip ?_
    refine hK _ _ ?_
    clear hK K
    refine wp_seq_k fun K hK => ?_; refine zab ?_
    refine wl_load (b := w.heap.size) (o := 0) (by kernel_rfl) (by simp [evb, kb, hN, sdb]) hb3 (v := .int .i8 n) rfl ?_
    (repeat ((with_reducible refine zaf ?_ ?_ ?_); (· simp [evb, pvb, rnb, kb, hN, hz, dyb, sdb] <;> omega); (· kernel_rfl); try simp only [evb, pvb, rnb, kb, hN, seval, hz])); refine zaa ?_; refine hK _ _ ?_; clear hK K; refine wp_ret ⟨by simp [zad, hD], ?_⟩; simp only [evb, kb, hN, seval]
    refine ⟨?_, hc⟩
    rw [hw1]; rfl
  | none =>
    rw [hw1] at hq
    obtain ⟨t, x, rfl⟩ := (hq : ∃ t x, v3 = .iface t x)
    (repeat ((with_reducible refine zaf ?_ ?_ ?_); (· simp [evb, pvb, rnb, kb, hN, dyb, sdb] <;> omega); (· kernel_rfl); try simp only [evb, pvb, rnb, kb, hN, seval])); refine zaa ?_; refine hK _ _ ?_; clear hK K
    refine wp_seq_k fun K hK => ?_; refine wp_seq_k fun K1 hK1 => ?_; refine zab ?_; (repeat ((with_reducible refine zaf ?_ ?_ ?_); (· simp [evb, pvb, rnb, kb, hN, dyb, sdb] <;> omega); (· kernel_rfl); try simp only [evb, pvb, rnb, kb, hN, seval]))
    refine wl_neqNil1 (ti := t) (v := x) (by kernel_rfl) (by simp [evb, kb, hN, sdb]) ?_
    refine zaa ?_; refine hK1 _ _ ?_; try clear hK1 K1
    refine wp_cond_true (by simp [evb, kb, hN, sdb]) ?_
    refine wp_seq_k fun K hK => ?_; refine zab ?_; (repeat ((with_reducible refine zaf ?_ ?_ ?_); (· simp [evb, pvb, rnb, kb, hN, dyb, sdb] <;> omega); (· kernel_rfl); try simp only [evb, pvb, rnb, kb, hN, seval])); refine zaa ?_; refine hK _ _ ?_; clear hK K; refine wp_ret ⟨by simp [zad, hD], ?_⟩; simp only [evb, kb, hN, seval]
    refine ⟨?_, hc⟩
    rw [hw1]; rfl
end Go.Proofs.YthlpbgklcbmknaaDoor
namespace Go.Proofs.YthlpbgklcbmknaaDoor
set_option linter.all false
open Go.RowKit
set_option maxRecDepth 10000
set_option maxHeartbeats 2000000
def nmCells (L : List (Int × Bs')) : List Value := L.flatMap fun x => [.int .i64 x.1, strV x.2]
theorem nmCells_len (L : List (Int × Bs')) : (nmCells L).length = L.length * 2 := by
  induction L with
  | nil => rfl
  | cons x r ih => unfold nmCells at ih ⊢; rw [List.flatMap_cons, List.length_append, ih]; simp; omega
theorem nmCells_at : ∀ {L : List (Int × Bs')} {i : Nat} {x : Int × Bs'}, L[i]? = some x → ((nmCells L).drop (i * 2)).take 2 = [.int .i64 x.1, strV x.2]
  | [], i, x, h => by simp at h
  | y :: r, 0, x, h => by simp at h; subst h; rfl
  | y :: r, i + 1, x, h => by
    have e : nmCells (y :: r) = [.int .i64 y.1, strV y.2] ++ nmCells r := rfl
    rw [e, show (i + 1) * 2 = 2 + i * 2 by omega, ← List.drop_drop]
    exact nmCells_at (by simpa using h)
def NamesAt (w : World) (v : Value) (L : List (Int × Bs')) : Prop := ∃ b T cap, v = .slice (some ⟨b, 0, none⟩) L.length cap ∧ Blk w b (nmCells L) T
theorem NamesAt.chg {w w' : World} {v : Value} {L : List (Int × Bs')} (h : NamesAt w v L) (c : Chg (fun _ => False) w w') : NamesAt w' v L := by
  obtain ⟨b, T, cap, h1, h2⟩ := h
  exact ⟨b, T, cap, h1, h2.chg c fun h => h⟩
end Go.Proofs.YthlpbgklcbmknaaDoor
namespace Go.Proofs.YthlpbgklcbmknaaDoor
set_option linter.all false
open Go.RowKit
set_option maxRecDepth 10000
set_option maxHeartbeats 2000000
section
variable {P : Program} {ops : Array Oper} {Q : Exit → Act → World → Prop} {a : Act} {w : World} {rest : List Oper} {d : Option Nat} {ty : TypeId} {pos : String} {af : Array Edge}
theorem wl_litN {t e sz n : Nat} {z : Value} {parts : Array (Nat × Operand)} (ls : List (List Value)) (ht : P.underlying t = some (.slice e)) (hs : sizeB P e sz = true) (hz : zeroB P e z) (hp : (parts.map fun y => (y.1, a.eval y.2)) = ((ls.map aggOf).zipIdx.map fun y => (y.2, y.1)).toArray)
    (hl : ∀ l ∈ ls, l.length = sz) (hn : n = ls.length) (hb : ls.length * sz ≤ 16777216) (h0 : 0 < sz)
    (h : ∀ w', Chg (fun _ => False) w w' → Blk w' w.heap.size ls.flatten e → WL P ops Q rest (a.put d (.slice (some ⟨w.heap.size, 0, none⟩) n n)) w') :
    WL P ops Q (⟨d, .buildSlice t n parts, ty, pos, af, none⟩ :: rest) a w := by
  subst hn
  have hc : ∀ l : List Value, (aggOf l).cells.toList = l := fun l => by simp [aggOf, Value.cells]
  have hr := run_buildSlice (P := P) (w := w) ht hs hz (ls.map aggOf) (fun v hv => by
    obtain ⟨l, hl1, rfl⟩ := List.mem_map.1 hv
    rw [← Array.length_toList, hc]; exact hl l hl1) (by simpa using hb) h0
  have e2 : ((ls.map aggOf).flatMap fun v => v.cells.toList) = ls.flatten := by
    rw [List.flatMap_map]
    simp only [hc]
    rw [List.flatMap_id']
  rw [e2, ← hp, List.length_map] at hr
  exact wl_val rfl (v := .slice (some ⟨w.heap.size, 0, none⟩) ls.length ls.length) (w' := w.alloc (.cells ls.flatten.toArray e)) (by simp only [execOp, Sem.run_bind]; rw [hr]; rfl) (h _ (Chg.alloc _ _ _) (Blk.new w _ e))
end
def zae : List (Int × Bs') := [(1, [65, 78, 89]), (2, [77, 65, 84, 67, 72]), (3, [76, 73, 84, 69, 82, 65, 76]), (4, [80, 82, 69, 70, 73, 88, 69, 68])]
theorem lstACLResourcePatternType_c (w : World) : CallsR Tryd.prog 11 #[] w fun v w' => NamesAt w' v zae ∧ Chg (fun _ => False) w w' := by
  refine callsR_of Tryd.func11 rfl rfl Tryd.ntmps11 (by simp) ?_
  intro a hN hD hargs
  refine wp_seq_k fun K hK => ?_; refine zab ?_; (repeat ((with_reducible refine zaf ?_ ?_ ?_); (· simp [evb, pvb, rnb, kb, hN, dyb, sdb] <;> omega); (· kernel_rfl); try simp only [evb, pvb, rnb, kb, hN, seval])); refine zaa ?_; refine hK _ _ ?_; clear hK K
  refine wp_seq_k fun K hK => ?_; refine zab ?_
  refine wl_build (l := [.int .i64 1, strV [65, 78, 89]]) (by simp only [List.map_toArray, List.map_cons, List.map_nil, evb, kb, hN, seval]; kernel_rfl) ?_
  refine wl_build (l := [.int .i64 2, strV [77, 65, 84, 67, 72]]) (by simp only [List.map_toArray, List.map_cons, List.map_nil, evb, kb, hN, seval]; kernel_rfl) ?_
  refine wl_build (l := [.int .i64 3, strV [76, 73, 84, 69, 82, 65, 76]]) (by simp only [List.map_toArray, List.map_cons, List.map_nil, evb, kb, hN, seval]; kernel_rfl) ?_
  refine wl_build (l := [.int .i64 4, strV [80, 82, 69, 70, 73, 88, 69, 68]]) (by simp only [List.map_toArray, List.map_cons, List.map_nil, evb, kb, hN, seval]; kernel_rfl) ?_
  refine wl_litN (n := 4) [[.int .i64 1, strV [65, 78, 89]], [.int .i64 2, strV [77, 65, 84, 67, 72]], [.int .i64 3, strV [76, 73, 84, 69, 82, 65, 76]], [.int .i64 4, strV [80, 82, 69, 70, 73, 88, 69, 68]]] (e := 46) (sz := 2) (z := aggOf [.int .i64 0, strV []]) (by kernel_rfl) (by kernel_rfl) (fun w => Tryd.zeroValue46 w) (by simp only [List.map_toArray, List.map_cons, List.map_nil, evb, kb, hN, seval]; rfl) (by intro l hl; simp only [List.mem_cons, List.not_mem_nil, or_false] at hl; rcases hl with rfl | rfl | rfl | rfl <;> rfl) rfl (by decide) (by decide) fun w1 hc hb => ?_
  (repeat ((with_reducible refine zaf ?_ ?_ ?_); (· simp [evb, pvb, rnb, kb, hN, dyb, sdb] <;> omega); (· kernel_rfl); try simp only [evb, pvb, rnb, kb, hN, seval])); refine zaa ?_; refine hK _ _ ?_; clear hK K; refine wp_ret ⟨by simp [zad, hD], ?_⟩; simp only [evb, kb, hN, seval]
  exact ⟨⟨_, _, _, rfl, hb⟩, hc⟩
theorem wl_strB {ops : Array Oper} {Q : Exit → Act → World → Prop} {a : Act} {w : World} {rest : List Oper} {d : Option Nat} {ty : TypeId} {pos : String} {af : Array Edge} {x : Operand} {l : Bs'} (hx : a.eval x = strV l)
    (h : ∀ w' cap, Chg (fun _ => False) w w' → zah w' (fun _ => True) (some ⟨w.heap.size, 0, none⟩) l → WL Tryd.prog ops Q rest (a.put d (.slice (some ⟨w.heap.size, 0, none⟩) l.length cap)) w') :
    WL Tryd.prog ops Q (⟨d, .convert 9 26 x, ty, pos, af, none⟩ :: rest) a w := by
  have hr := Lib.run_convert_string_bytes (P := Tryd.prog) w 9 26 5 ⟨l.toArray⟩ (u := .string) Tryd.underlying9 Tryd.underlying26 Tryd.underlying5
  rw [zag] at hr
  refine wl_val rfl (by simp only [execOp, hx, Sem.run_bind]; rw [hr]; rfl) (h _ _ ?_ ?_)
  · unfold Lib.bytesWorld
    exact ((Chg.drew (fun _ => False) _).trans (Chg.alloc (fun _ => False) _ _) fun _ _ h => h).trans (chg_freeze _ _ _) fun n hn e => by
      have : n = w.heap.size := e
      omega
  · refine .inr ⟨w.heap.size, 0, (Lib.bytesCells w 5 ⟨l.toArray⟩).toList, 5, rfl, trivial, ⟨_, Lib.bytesWorld_at_new w 5 ⟨l.toArray⟩⟩, ?_⟩
    unfold Lib.bytesCells
    simp [byteV]
end Go.Proofs.YthlpbgklcbmknaaDoor
namespace Go.Proofs.YthlpbgklcbmknaaDoor
set_option linter.all false
open Go.RowKit
set_option maxRecDepth 10000
set_option maxHeartbeats 2000000
theorem wl_strNeq {ops : Array Oper} {Q : Exit → Act → World → Prop} {a : Act} {w : World} {rest : List Oper} {d : Option Nat} {ty : TypeId} {pos : String} {af : Array Edge} {x y : Operand} {l l' : Bs'} {t tt : TypeId} (hx : a.eval x = strV l) (hy : a.eval y = strV l') (h : WL Tryd.prog ops Q rest (a.put d (.bool !(l == l'))) w) : WL Tryd.prog ops Q (⟨d, .binOp .neq t x y tt, ty, pos, af, none⟩ :: rest) a w := by
  refine wl_val rfl ?_ h
  simp only [execOp, eqGuard, hx, hy]
  simp [binOp_string_neq]
theorem ws_eqNil0 {P : Program} {ops : Array Oper} {S : World → Prop} {Q : Act → World → Prop} {r : List (Bool × Nat)} {a : Act} {w : World} {d : Option Nat} {i : Nat} {ty : TypeId} {pos : String} {af : Array Edge} {t u : TypeId} {x : Operand} (hi : ops[i]? = some ⟨d, .binOp .eql t x (.const .nilIface) u, ty, pos, af, none⟩) (ht : ifaceB P t = true) (hx : a.eval x = .nilIface)
    (h : wpSched P ops S Q r (a.put d (.bool true)) w) : wpSched P ops S Q ((true, i) :: r) a w :=
  ws_float _ hi (fun w' _ => by
    obtain ⟨n, hn⟩ := depth_succ
    simp [execOp, eqGuard, binOp, hx, eval_const, Op.equal, hn, eq_nil0 n t w' ht]) h
def wordAt (L : List (Int × Bs')) (n : Int) : Option Bs' := (L.find? fun x => x.1 == n).map (·.2)
def WordAs (o : Option Bs') (v : Value) : Prop := match o with | some s => v = .tuple #[strV s, .bool true] | none => v = .tuple #[strV [], .bool false]
theorem Word_c (L : List (Int × Bs')) (n : Int) (hL : L.length ≤ 1000) {w : World} {lv : Value} (hl : NamesAt w lv L) : CallsR Tryd.prog 10 #[lv, .int .i64 n] w fun v w' => WordAs (wordAt L n) v ∧ Chg (fun _ => False) w w' := by
  obtain ⟨b, T, cap, rfl, hb⟩ := hl
  refine callsR_of2 Tryd.func10 rfl rfl Tryd.ntmps10 (by simp) ?_
  intro a hN hD hargs
  have h0 : get a 0 = .slice (some ⟨b, 0, none⟩) L.length cap := hargs 0 _ rfl
  have h1 : get a 1 = .int .i64 n := hargs 1 _ rfl
  refine wp_seq_k fun K hK => ?_; refine zab ?_; (repeat ((with_reducible refine zaf ?_ ?_ ?_); (· simp [evb, pvb, rnb, kb, hN, dyb, sdb] <;> omega); (· kernel_rfl); try simp only [evb, pvb, rnb, kb, hN, seval])); refine zaa ?_; refine hK _ _ ?_; clear hK K
  refine wp_seq_k fun K1 hK1 => ?_; refine wp_seq_k fun K2 hK2 => ?_; refine zab ?_; (repeat ((with_reducible refine zaf ?_ ?_ ?_); (· simp [evb, pvb, rnb, kb, hN, h0, dyb, sdb] <;> omega); (· kernel_rfl); try simp only [evb, pvb, rnb, kb, hN, seval, h0]))
  refine zaa ?_; refine hK2 _ _ ?_; try clear hK2 K2
  refine wp_block ?_
  refine wp_loop (fun a' w' => ∃ i : Nat, i ≤ L.length ∧ a'.tmps.size = 21 ∧ a'.defers = [] ∧ get a' 1 = .int .i64 n ∧ get a' 8 = .slice (some ⟨b, 0, none⟩) L.length cap ∧ get a' 9 = .int .i64 L.length ∧ get a' 10 = .int .i64 i ∧ (L.take i).find? (fun x => x.1 == n) = none ∧ Chg (fun _ => False) w w')
    (fun a' _ => L.length - (intOf (get a' 10)).toNat) ?_ ?_
  · exact ⟨0, Nat.zero_le _, by simp only [size_put, hN], by simp only [zad, hD], by simp only [evb, kb, hN, seval, h1], by simp only [evb, kb, hN, seval], by simp only [evb, kb, hN, seval], by simp only [evb, kb, hN, seval] <;> rfl, rfl, Chg.refl _ _⟩
  clear hN hD h0 h1 hargs
  rintro a1 w1 ⟨i, hi, hN, hD, h1, h8, h9, h10, hno, hc⟩
  have hb1 := hb.chg hc fun h => h
  have hz2 : IntKind.i64.wrap ((i : Int) + 1) = ((i + 1 : Nat) : Int) := i64_one i (by omega)
  refine wp_seq_k fun K2 hK2 => ?_; refine zab ?_; (repeat ((with_reducible refine zaf ?_ ?_ ?_); (· simp [evb, pvb, rnb, kb, hN, h9, h10, dyb, sdb] <;> omega); (· kernel_rfl); try simp only [evb, pvb, rnb, kb, hN, seval, h9, h10]))
  by_cases hlt : i < L.length
  case neg =>
    have ei : i = L.length := by omega
    subst ei
    have e1 : decide ((L.length : Int) < (L.length : Int)) = false := decide_eq_false (by omega)
    rw [e1]
    refine zaa ?_; refine hK2 _ _ ?_; try clear hK2 K2
    refine wp_seq_k fun K3 hK3 => ?_
    refine wp_cond_false (by simp [evb, kb, hN, sdb]) ?_
    refine wp_exit ?_
    simp only [Exit.then, Exit.inBlock, if_pos]
    refine hK1 _ _ ?_; try clear hK1 K1
    refine wp_seq_k fun K hK => ?_; refine zab ?_; (repeat ((with_reducible refine zaf ?_ ?_ ?_); (· simp [evb, pvb, rnb, kb, hN, dyb, sdb] <;> omega); (· kernel_rfl); try simp only [evb, pvb, rnb, kb, hN, seval])); refine zaa ?_; refine hK _ _ ?_; clear hK K; refine wp_ret ⟨by simp [zad, hD], ?_⟩; simp only [evb, kb, hN, seval]
    refine ⟨?_, hc⟩
    rw [List.take_length] at hno
    unfold wordAt
    rw [hno]; rfl
  have e1 : decide ((i : Int) < (L.length : Int)) = true := decide_eq_true (by omega)
  rw [e1]
  refine zaa ?_; refine hK2 _ _ ?_; try clear hK2 K2
  refine wp_seq_k fun K3 hK3 => ?_
  refine wp_cond_true (by simp [evb, kb, hN, sdb]) ?_
  refine wp_skip ?_
  refine hK3 _ _ ?_; try clear hK3 K3
  obtain ⟨x, hx⟩ : ∃ x, L[i]? = some x := ⟨L[i]'hlt, List.getElem?_eq_getElem hlt⟩
  have hcl := nmCells_len L
  have hat := nmCells_at hx
  refine wp_seq_k fun K4 hK4 => ?_
  refine wp_block ?_
  refine wp_seq_k fun K hK => ?_; refine zab ?_
  refine wl_indexAddr (b := b) (o := 0) (k := .i64) (i := i) (len := L.length) (cap := cap) (n := 2) (by kernel_rfl) (by simp [evb, kb, hN, h8, sdb]) (by simp [evb, kb, hN, h10, sdb]) hlt ?_
  refine wl_loadAgg (b := b) (o := 0 + i * 2) (n := 2) (by kernel_rfl) (by kernel_rfl) (by simp [evb, kb, hN, sdb]) hb1 (by omega) ?_
  rw [Nat.zero_add, hat]
  refine wl_allocA (z := aggOf [.int .i64 0, strV []]) (fun w => Tryd.zeroValue46 w) fun w2 hc2 hb2 hs2 => ?_
  refine wl_storeAll (b := w1.heap.size) (n := 2) (l' := [.int .i64 x.1, strV x.2]) (by kernel_rfl) (by simp [evb, kb, hN, sdb]) (by simp only [evb, kb, hN, seval]; rfl) hb2 rfl (by intro y hy; simp only [List.mem_cons, List.not_mem_nil, or_false] at hy; rcases hy with rfl | rfl <;> rfl) rfl fun w3 hb3 hc3 => ?_
  refine zaa ?_; refine hK _ _ ?_; clear hK K
  have hc13 : Chg (fun _ => False) w1 w3 := hc2.trans hc3 fun n hn h => by omega
  have hc05 : Chg (fun _ => False) w w3 := hc.trans hc13 fun _ _ h => h
  refine wp_seq_k fun K5 hK5 => ?_; refine zab ?_
  refine wl_fieldAddr (b := w1.heap.size) (o := 0) (off := 0) (n := 1) (by kernel_rfl) (by simp [evb, kb, hN, sdb]) ?_
  refine wl_load (b := w1.heap.size) (o := 0 + 0) (by kernel_rfl) (by simp [evb, kb, hN, sdb]) hb3 (v := .int .i64 x.1) rfl ?_
  have hstep : (L.take (i + 1)).find? (fun x => x.1 == n) = if x.1 = n then some x else none := by
    rw [List.take_succ, hx, List.find?_append, hno]
    simp only [Option.toList_some, List.find?_cons, List.find?_nil, Option.none_or]
    by_cases he : x.1 = n
    · simp [he]
    · have hf : (x.1 == n) = false := by simp [he]
      simp [hf, he]
  by_cases he : x.1 = n
  · have e2 : (x.1 == n) = true := by simp [he]
    (repeat ((with_reducible refine zaf ?_ ?_ ?_); (· simp [evb, pvb, rnb, kb, hN, h1, cmp2, e2, dyb, sdb] <;> omega); (· kernel_rfl); try simp only [evb, pvb, rnb, kb, hN, seval, h1, cmp2, e2]))
    refine zaa ?_; refine hK5 _ _ ?_; try clear hK5 K5
    refine wp_cond_true (by simp [evb, kb, hN, cmp2, e2, sdb]) ?_
    refine wp_seq_k fun K hK => ?_; refine zab ?_
    refine wl_fieldAddr (b := w1.heap.size) (o := 0) (off := 1) (n := 1) (by kernel_rfl) (by simp [evb, kb, hN, sdb]) ?_
    refine wl_load (b := w1.heap.size) (o := 0 + 1) (by kernel_rfl) (by simp [evb, kb, hN, sdb]) hb3 (v := strV x.2) rfl ?_
    (repeat ((with_reducible refine zaf ?_ ?_ ?_); (· simp [evb, pvb, rnb, kb, hN, dyb, sdb] <;> omega); (· kernel_rfl); try simp only [evb, pvb, rnb, kb, hN, seval])); refine zaa ?_; refine hK _ _ ?_; clear hK K; refine wp_ret ⟨by simp [zad, hD], ?_⟩; simp only [evb, kb, hN, seval]
    refine ⟨?_, hc05⟩
    rw [if_pos he] at hstep
    have : L.find? (fun x => x.1 == n) = some x := by
      rw [← List.take_append_drop (i + 1) L, List.find?_append, hstep]; rfl
    unfold wordAt
    rw [this]; rfl
  · have e2 : (x.1 == n) = false := by simp [he]
    (repeat ((with_reducible refine zaf ?_ ?_ ?_); (· simp [evb, pvb, rnb, kb, hN, h1, cmp2, e2, dyb, sdb] <;> omega); (· kernel_rfl); try simp only [evb, pvb, rnb, kb, hN, seval, h1, cmp2, e2]))
    refine zaa ?_; refine hK5 _ _ ?_; try clear hK5 K5
    refine wp_cond_false (by simp [evb, kb, hN, cmp2, e2, sdb]) ?_
    refine wp_skip ?_
    refine hK4 _ _ ?_; try clear hK4 K4
    refine zab ?_; (repeat ((with_reducible refine zaf ?_ ?_ ?_); (· simp [evb, pvb, rnb, kb, hN, h10, hz2, dyb, sdb] <;> omega); (· kernel_rfl); try simp only [evb, pvb, rnb, kb, hN, seval, h10, hz2]))
    refine zaa ?_
    refine ⟨⟨i + 1, hlt, by simp only [size_put, hN], by simp only [zad, hD], by simp only [evb, kb, hN, seval, h1], by simp only [evb, kb, hN, seval, h8], by simp only [evb, kb, hN, seval, h9], by simp only [evb, kb, hN, seval], by rw [hstep, if_neg he], hc05⟩, ?_⟩
    simp only [evb, kb, hN, seval, h10, intOf]; omega
def strACL (n : Int) : Bs' := if n = 1 then [65, 78, 89] else if n = 2 then [77, 65, 84, 67, 72] else if n = 3 then [76, 73, 84, 69, 82, 65, 76] else if n = 4 then [80, 82, 69, 70, 73, 88, 69, 68] else [85, 78, 75, 78, 79, 87, 78]
theorem strACL_len (n : Int) : (strACL n).length ≤ 100 := by unfold strACL; split <;> (try split) <;> (try split) <;> (try split) <;> simp
theorem Str_c (n : Int) (w : World) : CallsR Tryd.prog 21 #[.int .i8 n] w fun v w' => v = strV (strACL n) ∧ Chg (fun _ => False) w w' := by
  refine callsR_of Tryd.func21 rfl rfl Tryd.ntmps21 (by simp) ?_
  intro a hN hD hargs
  have h0 : get a 0 = .int .i8 n := hargs 0 _ rfl
  refine wp_seq_k fun K hK => ?_; refine zab ?_; (repeat ((with_reducible refine zaf ?_ ?_ ?_); (· simp [evb, pvb, rnb, kb, hN, dyb, sdb] <;> omega); (· kernel_rfl); try simp only [evb, pvb, rnb, kb, hN, seval])); refine zaa ?_; refine hK _ _ ?_; clear hK K
  refine wp_seq_k fun K hK => ?_; refine zab ?_; (repeat ((with_reducible refine zaf ?_ ?_ ?_); (· simp [evb, pvb, rnb, kb, hN, h0, dyb, sdb] <;> omega); (· kernel_rfl); try simp only [evb, pvb, rnb, kb, hN, seval, h0])); refine zaa ?_; refine hK _ _ ?_; clear hK K
  refine wp_block ?_
  by_cases e1 : n = 1
  · have d1 : (n == 1) = true := by simp [e1]
    refine wp_seq_k fun K1 hK1 => ?_; refine zab ?_; (repeat ((with_reducible refine zaf ?_ ?_ ?_); (· simp [evb, pvb, rnb, kb, hN, cmp2, d1, dyb, sdb] <;> omega); (· kernel_rfl); try simp only [evb, pvb, rnb, kb, hN, seval, cmp2, d1]))
    refine zaa ?_; refine hK1 _ _ ?_; try clear hK1 K1
    refine wp_cond_true (by simp [evb, kb, hN, cmp2, d1, sdb]) ?_
    refine wp_seq_k fun K hK => ?_; refine zab ?_; (repeat ((with_reducible refine zaf ?_ ?_ ?_); (· simp [evb, pvb, rnb, kb, hN, dyb, sdb] <;> omega); (· kernel_rfl); try simp only [evb, pvb, rnb, kb, hN, seval])); refine zaa ?_; refine hK _ _ ?_; clear hK K; refine wp_ret ⟨by simp [zad, hD], ?_⟩; simp only [evb, kb, hN, seval]
    exact ⟨by simp [strACL, e1], Chg.refl _ _⟩
  have d1 : (n == 1) = false := by simp [e1]
  refine wp_seq_k fun K1 hK1 => ?_; refine zab ?_; (repeat ((with_reducible refine zaf ?_ ?_ ?_); (· simp [evb, pvb, rnb, kb, hN, cmp2, d1, dyb, sdb] <;> omega); (· kernel_rfl); try simp only [evb, pvb, rnb, kb, hN, seval, cmp2, d1]))
  refine zaa ?_; refine hK1 _ _ ?_; try clear hK1 K1
  refine wp_cond_false (by simp [evb, kb, hN, cmp2, d1, sdb]) ?_
  by_cases e2 : n = 2
  · have d2 : (n == 2) = true := by simp [e2]
    refine wp_seq_k fun K1 hK1 => ?_; refine zab ?_; (repeat ((with_reducible refine zaf ?_ ?_ ?_); (· simp [evb, pvb, rnb, kb, hN, cmp2, d2, dyb, sdb] <;> omega); (· kernel_rfl); try simp only [evb, pvb, rnb, kb, hN, seval, cmp2, d2]))
    refine zaa ?_; refine hK1 _ _ ?_; try clear hK1 K1
    refine wp_cond_true (by simp [evb, kb, hN, cmp2, d2, sdb]) ?_
    refine wp_seq_k fun K hK => ?_; refine zab ?_; (repeat ((with_reducible refine zaf ?_ ?_ ?_); (· simp [evb, pvb, rnb, kb, hN, dyb, sdb] <;> omega); (· kernel_rfl); try simp only [evb, pvb, rnb, kb, hN, seval])); refine zaa ?_; refine hK _ _ ?_; clear hK K; refine wp_ret ⟨by simp [zad, hD], ?_⟩; simp only [evb, kb, hN, seval]
    exact ⟨by simp [strACL, e2], Chg.refl _ _⟩
  have d2 : (n == 2) = false := by simp [e2]
  refine wp_seq_k fun K1 hK1 => ?_; refine zab ?_; (repeat ((with_reducible refine zaf ?_ ?_ ?_); (· simp [evb, pvb, rnb, kb, hN, cmp2, d2, dyb, sdb] <;> omega); (· kernel_rfl); try simp only [evb, pvb, rnb, kb, hN, seval, cmp2, d2]))
  refine zaa ?_; refine hK1 _ _ ?_; try clear hK1 K1
  refine wp_cond_false (by simp [evb, kb, hN, cmp2, d2, sdb]) ?_
  by_cases e3 : n = 3
  · have d3 : (n == 3) = true := by simp [e3]
    refine wp_seq_k fun K1 hK1 => ?_; refine zab ?_; (repeat ((with_reducible refine zaf ?_ ?_ ?_); (· simp [evb, pvb, rnb, kb, hN, cmp2, d3, dyb, sdb] <;> omega); (· kernel_rfl); try simp only [evb, pvb, rnb, kb, hN, seval, cmp2, d3]))
    refine zaa ?_; refine hK1 _ _ ?_; try clear hK1 K1
    refine wp_cond_true (by simp [evb, kb, hN, cmp2, d3, sdb]) ?_
    refine wp_seq_k fun K hK => ?_; refine zab ?_; (repeat ((with_reducible refine zaf ?_ ?_ ?_); (· simp [evb, pvb, rnb, kb, hN, dyb, sdb] <;> omega); (· kernel_rfl); try simp only [evb, pvb, rnb, kb, hN, seval])); refine zaa ?_; refine hK _ _ ?_; clear hK K; refine wp_ret ⟨by simp [zad, hD], ?_⟩; simp only [evb, kb, hN, seval]
    exact ⟨by simp [strACL, e3], Chg.refl _ _⟩
  have d3 : (n == 3) = false := by simp [e3]
  refine wp_seq_k fun K1 hK1 => ?_; refine zab ?_; (repeat ((with_reducible refine zaf ?_ ?_ ?_); (· simp [evb, pvb, rnb, kb, hN, cmp2, d3, dyb, sdb] <;> omega); (· kernel_rfl); try simp only [evb, pvb, rnb, kb, hN, seval, cmp2, d3]))
  refine zaa ?_; refine hK1 _ _ ?_; try clear hK1 K1
  refine wp_cond_false (by simp [evb, kb, hN, cmp2, d3, sdb]) ?_
  by_cases e4 : n = 4
  · have d4 : (n == 4) = true := by simp [e4]
    refine wp_seq_k fun K1 hK1 => ?_; refine zab ?_; (repeat ((with_reducible refine zaf ?_ ?_ ?_); (· simp [evb, pvb, rnb, kb, hN, cmp2, d4, dyb, sdb] <;> omega); (· kernel_rfl); try simp only [evb, pvb, rnb, kb, hN, seval, cmp2, d4]))
    refine zaa ?_; refine hK1 _ _ ?_; try clear hK1 K1
    refine wp_cond_true (by simp [evb, kb, hN, cmp2, d4, sdb]) ?_
    refine wp_seq_k fun K hK => ?_; refine zab ?_; (repeat ((with_reducible refine zaf ?_ ?_ ?_); (· simp [evb, pvb, rnb, kb, hN, dyb, sdb] <;> omega); (· kernel_rfl); try simp only [evb, pvb, rnb, kb, hN, seval])); refine zaa ?_; refine hK _ _ ?_; clear hK K; refine wp_ret ⟨by simp [zad, hD], ?_⟩; simp only [evb, kb, hN, seval]
    exact ⟨by simp [strACL, e4], Chg.refl _ _⟩
  have d4 : (n == 4) = false := by simp [e4]
  refine wp_seq_k fun K1 hK1 => ?_; refine zab ?_; (repeat ((with_reducible refine zaf ?_ ?_ ?_); (· simp [evb, pvb, rnb, kb, hN, cmp2, d4, dyb, sdb] <;> omega); (· kernel_rfl); try simp only [evb, pvb, rnb, kb, hN, seval, cmp2, d4]))
  refine zaa ?_; refine hK1 _ _ ?_; try clear hK1 K1
  refine wp_cond_false (by simp [evb, kb, hN, cmp2, d4, sdb]) ?_
  refine wp_seq_k fun K hK => ?_; refine zab ?_; (repeat ((with_reducible refine zaf ?_ ?_ ?_); (· simp [evb, pvb, rnb, kb, hN, dyb, sdb] <;> omega); (· kernel_rfl); try simp only [evb, pvb, rnb, kb, hN, seval])); refine zaa ?_; refine hK _ _ ?_; clear hK K; refine wp_ret ⟨by simp [zad, hD], ?_⟩; simp only [evb, kb, hN, seval]
  exact ⟨by simp [strACL, e1, e2, e3, e4], Chg.refl _ _⟩
theorem Marsh_c (n : Int) (w : World) : CallsR Tryd.prog 20 #[.int .i8 n] w fun v w' => (∃ oa cap, v = .tuple #[.slice oa (strACL n).length cap, .nilIface] ∧ zah w' (fun _ => True) oa (strACL n)) ∧ Chg (fun _ => False) w w' := by
  refine callsR_of2 Tryd.func20 rfl rfl Tryd.ntmps20 (by simp) ?_
  intro a hN hD hargs
  have h0 : get a 0 = .int .i8 n := hargs 0 _ rfl
  refine wp_seq_k fun K hK => ?_; refine zab ?_; (repeat ((with_reducible refine zaf ?_ ?_ ?_); (· simp [evb, pvb, rnb, kb, hN, dyb, sdb] <;> omega); (· kernel_rfl); try simp only [evb, pvb, rnb, kb, hN, seval])); refine zaa ?_; refine hK _ _ ?_; clear hK K
  refine wp_seq_k fun K hK => ?_; refine zab ?_; (repeat ((with_reducible refine zaf ?_ ?_ ?_); (· simp [evb, pvb, rnb, kb, hN, h0, dyb, sdb] <;> omega); (· kernel_rfl); try simp only [evb, pvb, rnb, kb, hN, seval, h0]))
  refine wl_call (fun args w => Tryd.call21 args w) (by simp only [List.map_toArray, List.map_cons, List.map_nil, evb, kb, hN, seval]; exact Str_c n w) ?_
  rintro _ w1 ⟨rfl, hc1⟩
  refine wl_strB (l := strACL n) (by simp [evb, kb, hN, sdb]) fun w2 cap hc2 hb2 => ?_
  (repeat ((with_reducible refine zaf ?_ ?_ ?_); (· simp [evb, pvb, rnb, kb, hN, dyb, sdb] <;> omega); (· kernel_rfl); try simp only [evb, pvb, rnb, kb, hN, seval])); refine zaa ?_; refine hK _ _ ?_; clear hK K; refine wp_ret ⟨by simp [zad, hD], ?_⟩; simp only [evb, kb, hN, seval]
  exact ⟨⟨_, _, rfl, hb2⟩, hc1.trans hc2 fun _ _ h => h⟩
theorem implText_c (n : Int) (w : World) : CallsR Tryd.prog 12 #[.int .i8 n] w fun v w' => (∃ oa cap, v = .tuple #[.slice oa (strACL n).length cap, .bool true] ∧ zah w' (fun _ => True) oa (strACL n)) ∧ Chg (fun _ => False) w w' := by
  refine callsR_of2 Tryd.func12 rfl rfl Tryd.ntmps12 (by simp) ?_
  intro a hN hD hargs
  have h0 : get a 0 = .int .i8 n := hargs 0 _ rfl
  refine wp_seq_k fun K hK => ?_; refine zab ?_; (repeat ((with_reducible refine zaf ?_ ?_ ?_); (· simp [evb, pvb, rnb, kb, hN, dyb, sdb] <;> omega); (· kernel_rfl); try simp only [evb, pvb, rnb, kb, hN, seval])); refine zaa ?_; refine hK _ _ ?_; clear hK K
  refine wp_seq_k fun K hK => ?_; refine zab ?_; (repeat ((with_reducible refine zaf ?_ ?_ ?_); (· simp [evb, pvb, rnb, kb, hN, h0, dyb, sdb] <;> omega); (· kernel_rfl); try simp only [evb, pvb, rnb, kb, hN, seval, h0]))
  refine wl_call (fun args w => Tryd.call20 args w) (by simp only [List.map_toArray, List.map_cons, List.map_nil, evb, kb, hN, seval]; exact Marsh_c n w) ?_
  rintro _ w1 ⟨⟨oa, cap, rfl, hb1⟩, hc1⟩
  (repeat ((with_reducible refine zaf ?_ ?_ ?_); (· simp [evb, pvb, rnb, kb, hN, exV, exOK, dyb, sdb] <;> omega); (· kernel_rfl); try simp only [evb, pvb, rnb, kb, hN, seval, exV, exOK])); refine zaa ?_; refine hK _ _ ?_; clear hK K
  have hlen := strACL_len n
  refine wp_seq_k fun K hK => ?_
  refine wp_sched (fun w' => Chg (fun _ => False) w1 w') [(true, 0), (true, 2), (true, 3), (false, 1), (true, 4), (true, 5)] follows_any (by kernel_rfl) (by kernel_rfl) (Chg.drew _ _) ?_
  refine ws_move rfl ?_
  simp only [evb, kb, hN, seval]
  refine ws_move rfl ?_
  simp only [evb, kb, hN, seval]
  refine ws_eqNil0 rfl (by kernel_rfl) (by simp only [evb, kb, hN, seval]; rfl) ?_
  refine ws_step rfl fun K2 hK2 => ?_
  have hbd := hb1.chg (Chg.drew (fun _ => False) w1) fun _ _ _ h => h
  refine wl_append (t := 26) (e := 5) (base := w1.drew.heap.size) (v := .slice none 0 0) (bs := []) (bs' := strACL n) (oa := oa) (c := cap) bT (by simp only [evb, kb, hN, seval]) (by simp only [evb, kb, hN, seval]; rfl) (Own.nil _ _ _) hbd (by unfold LIM; simp only [List.length_nil]; omega) (Nat.le_refl _) ?_
  intro v2 w2 happ
  have hc2 : Chg (fun _ => False) w1.drew w2 := happ.chg.mono fun n hn hk => by simp [Value.ownBlock] at hk
  have hc12 : Chg (fun _ => False) w1 w2 := (Chg.drew _ _).trans hc2 fun _ _ h => h
  obtain ⟨oa3, cap3, rfl, hcap3, hbs3⟩ := happ.own.bytes
  rw [List.nil_append] at hcap3 hbs3 ⊢
  refine zaa (hK2 _ _ hc12 ?_)
  refine ws_assign rfl ?_
  simp only [evb, kb, hN, seval]
  refine ws_assign rfl ?_
  simp only [evb, kb, hN, seval]
  refine ws_nil ?_
  refine hK _ _ ?_
  refine wp_ret ⟨by simp [zad, hD], ?_⟩; simp only [evb, kb, hN, seval]
  exact ⟨⟨_, _, rfl, hbs3.mono fun _ _ _ => trivial⟩, hc1.trans hc12 fun _ _ h => h⟩
theorem implStr_c (n : Int) (w : World) : CallsR Tryd.prog 13 #[.int .i8 n] w fun v w' => v = strV (strACL n) ∧ Chg (fun _ => False) w w' := by
  refine callsR_of Tryd.func13 rfl rfl Tryd.ntmps13 (by simp) ?_
  intro a hN hD hargs
  have h0 : get a 0 = .int .i8 n := hargs 0 _ rfl
  refine wp_seq_k fun K hK => ?_; refine zab ?_; (repeat ((with_reducible refine zaf ?_ ?_ ?_); (· simp [evb, pvb, rnb, kb, hN, dyb, sdb] <;> omega); (· kernel_rfl); try simp only [evb, pvb, rnb, kb, hN, seval])); refine zaa ?_; refine hK _ _ ?_; clear hK K
  refine wp_seq_k fun K hK => ?_; refine zab ?_; (repeat ((with_reducible refine zaf ?_ ?_ ?_); (· simp [evb, pvb, rnb, kb, hN, h0, dyb, sdb] <;> omega); (· kernel_rfl); try simp only [evb, pvb, rnb, kb, hN, seval, h0]))
  refine wl_call (fun args w => Tryd.call21 args w) (by simp only [List.map_toArray, List.map_cons, List.map_nil, evb, kb, hN, seval]; exact Str_c n w) ?_
  rintro _ w1 ⟨rfl, hc1⟩
  (repeat ((with_reducible refine zaf ?_ ?_ ?_); (· simp [evb, pvb, rnb, kb, hN, dyb, sdb] <;> omega); (· kernel_rfl); try simp only [evb, pvb, rnb, kb, hN, seval])); refine zaa ?_; refine hK _ _ ?_; clear hK K; refine wp_ret ⟨by simp [zad, hD], ?_⟩; simp only [evb, kb, hN, seval]
  exact ⟨by first | trivial | rfl, hc1⟩
theorem wordACL {n : Int} {s : Bs'} (h : wordAt zae n = some s) : strACL n = s ∧ asciiL s ∧ s.length ≤ 100 ∧ wordOf zac (normS s) = some n := by
  have key : ∀ x ∈ zae, strACL x.1 = x.2 ∧ (x.2.all fun b => decide (b.toNat < 128)) = true ∧ x.2.length ≤ 100 ∧ wordOf zac (normS x.2) = some x.1 := by decide +kernel
  unfold wordAt at h
  cases hf : zae.find? fun x => x.1 == n with
  | none => rw [hf] at h; cases h
  | some x =>
    rw [hf] at h
    obtain rfl : x.2 = s := by simpa using h
    have hm := List.mem_of_find?_eq_some hf
    have hn : x.1 = n := by simpa using List.find?_some hf
    obtain ⟨k1, k2, k3, k4⟩ := key x hm
    rw [hn] at k1 k4
    exact ⟨k1, fun b hb => by simpa using List.all_eq_true.1 k2 b hb, k3, k4⟩
theorem walk_FnACLResourcePatternTypeText {n : Int} (hn1 : -128 ≤ n) (hn2 : n < 128) {w : World} (hw : SpaceW w) : CallsR Tryd.prog 4 #[.int .i8 n] w fun v w' => v = .bool true ∧ Chg (fun _ => False) w w' := by
  refine callsR_of Tryd.func4 rfl rfl Tryd.ntmps4 (by simp) ?_
  intro a hN hD hargs
  have h0 : get a 0 = .int .i8 n := hargs 0 _ rfl
  have hz : IntKind.i64.wrap n = n := i64_id n (by omega)
  refine wp_seq_k fun K hK => ?_; refine zab ?_; (repeat ((with_reducible refine zaf ?_ ?_ ?_); (· simp [evb, pvb, rnb, kb, hN, dyb, sdb] <;> omega); (· kernel_rfl); try simp only [evb, pvb, rnb, kb, hN, seval])); refine zaa ?_; refine hK _ _ ?_; clear hK K
  refine wp_seq_k fun K hK => ?_; refine zab ?_
  refine wl_call (fun args w => Tryd.call11 args w) (by simp only [List.map_toArray, List.map_nil]; exact lstACLResourcePatternType_c w) ?_
  rintro lv w1 ⟨hlv, hc1⟩
  (repeat ((with_reducible refine zaf ?_ ?_ ?_); (· simp [evb, pvb, rnb, kb, hN, h0, hz, dyb, sdb] <;> omega); (· kernel_rfl); try simp only [evb, pvb, rnb, kb, hN, seval, h0, hz]))
  refine wl_call (fun args w => Tryd.call10 args w) (by simp only [List.map_toArray, List.map_cons, List.map_nil, evb, kb, hN, seval]; exact Word_c zae n (by decide) hlv) ?_
  rintro _ w2 ⟨hq2, hc2⟩
  have hc02 := hc1.trans hc2 fun _ _ h => h
  cases hh : wordAt zae n with
  | none =>
    rw [hh] at hq2
    cases (hq2 : _ = Value.tuple #[strV [], .bool false])
    (repeat ((with_reducible refine zaf ?_ ?_ ?_); (· simp [evb, pvb, rnb, kb, hN, exV, exOK, dyb, sdb] <;> omega); (· kernel_rfl); try simp only [evb, pvb, rnb, kb, hN, seval, exV, exOK])); refine zaa ?_; refine hK _ _ ?_; clear hK K
    refine wp_seq_k fun K hK => ?_; refine wp_seq_k fun K1 hK1 => ?_; refine zab ?_; (repeat ((with_reducible refine zaf ?_ ?_ ?_); (· simp [evb, pvb, rnb, kb, hN, dyb, sdb] <;> omega); (· kernel_rfl); try simp only [evb, pvb, rnb, kb, hN, seval]))
    refine zaa ?_; refine hK1 _ _ ?_; try clear hK1 K1
    refine wp_cond_true (by simp [evb, kb, hN, sdb]) ?_
    refine wp_seq_k fun K hK => ?_; refine zab ?_; (repeat ((with_reducible refine zaf ?_ ?_ ?_); (· simp [evb, pvb, rnb, kb, hN, dyb, sdb] <;> omega); (· kernel_rfl); try simp only [evb, pvb, rnb, kb, hN, seval])); refine zaa ?_; refine hK _ _ ?_; clear hK K; refine wp_ret ⟨by simp [zad, hD], ?_⟩; simp only [evb, kb, hN, seval]
    exact ⟨by first | trivial | rfl, hc02⟩
  | some s =>
  rw [hh] at hq2
  cases (hq2 : _ = Value.tuple #[strV s, .bool true])
  obtain ⟨es, ha, hls, hwd⟩ := wordACL hh
  (repeat ((with_reducible refine zaf ?_ ?_ ?_); (· simp [evb, pvb, rnb, kb, hN, exV, exOK, dyb, sdb] <;> omega); (· kernel_rfl); try simp only [evb, pvb, rnb, kb, hN, seval, exV, exOK])); refine zaa ?_; refine hK _ _ ?_; clear hK K
  refine wp_seq_k fun K hK => ?_; refine wp_seq_k fun K1 hK1 => ?_; refine zab ?_; (repeat ((with_reducible refine zaf ?_ ?_ ?_); (· simp [evb, pvb, rnb, kb, hN, dyb, sdb] <;> omega); (· kernel_rfl); try simp only [evb, pvb, rnb, kb, hN, seval]))
  refine zaa ?_; refine hK1 _ _ ?_; try clear hK1 K1
  refine wp_cond_false (by simp [evb, kb, hN, sdb]) ?_
  refine wp_skip ?_
  refine hK _ _ ?_
  clear hK K
  refine wp_seq_k fun K hK => ?_; refine zab ?_; (repeat ((with_reducible refine zaf ?_ ?_ ?_); (· simp [evb, pvb, rnb, kb, hN, h0, dyb, sdb] <;> omega); (· kernel_rfl); try simp only [evb, pvb, rnb, kb, hN, seval, h0]))
  refine wl_call (fun args w => Tryd.call12 args w) (by simp only [List.map_toArray, List.map_cons, List.map_nil, evb, kb, hN, seval]; exact implText_c n w2) ?_
  rintro _ w3 ⟨⟨oa, cap, rfl, hb3⟩, hc3⟩
  rw [es] at hb3 ⊢
  have hc03 := hc02.trans hc3 fun _ _ h => h
  (repeat ((with_reducible refine zaf ?_ ?_ ?_); (· simp [evb, pvb, rnb, kb, hN, exV, exOK, dyb, sdb] <;> omega); (· kernel_rfl); try simp only [evb, pvb, rnb, kb, hN, seval, exV, exOK])); refine zaa ?_; refine hK _ _ ?_; clear hK K
  refine wp_seq_k fun K hK => ?_; refine wp_seq_k fun K1 hK1 => ?_; refine zab ?_; (repeat ((with_reducible refine zaf ?_ ?_ ?_); (· simp [evb, pvb, rnb, kb, hN, dyb, sdb] <;> omega); (· kernel_rfl); try simp only [evb, pvb, rnb, kb, hN, seval]))
  (repeat (first | ((with_reducible refine zaf ?_ ?_ ?_); (· simp [evb, pvb, rnb, kb, hN, seval, h0, dyb, sdb] <;> omega); (· kernel_rfl); try simp only [evb, pvb, rnb, kb, hN, seval, h0]) | ((with_reducible apply wl_gyesB); (· exact rfl); (· exact rfl); (· simp [evb, pvb, rnb, kb, hN, seval, h0]; done); try simp only [evb, pvb, rnb, kb, hN, seval, h0]) | ((with_reducible apply wl_gnoB); (· exact rfl); (· exact rfl); (· simp [evb, pvb, rnb, kb, hN, seval, h0]; done); try simp only [evb, pvb, rnb, kb, hN, seval, h0]) | ((with_reducible apply wl_gnoU); (· exact rfl); (· exact rfl); (· simp [evb, pvb, rnb, kb, hN, seval, h0]; done); try simp only [evb, pvb, rnb, kb, hN, seval, h0])))
  refine wl_call (fun args w => Tryd.call13 args w) (by simp only [List.map_toArray, List.map_cons, List.map_nil, evb, kb, hN, seval]; exact implStr_c n w3) ?_
  rintro _ w4 ⟨rfl, hc4⟩
  rw [es]
  have hc04 := hc03.trans hc4 fun _ _ h => h
  (repeat (first | ((with_reducible refine zaf ?_ ?_ ?_); (· simp [evb, pvb, rnb, kb, hN, seval, dyb, sdb] <;> omega); (· kernel_rfl); try simp only [evb, pvb, rnb, kb, hN, seval]) | ((with_reducible apply wl_gyesB); (· exact rfl); (· exact rfl); (· simp [evb, pvb, rnb, kb, hN, seval]; done); try simp only [evb, pvb, rnb, kb, hN, seval]) | ((with_reducible apply wl_gnoB); (· exact rfl); (· exact rfl); (· simp [evb, pvb, rnb, kb, hN, seval]; done); try simp only [evb, pvb, rnb, kb, hN, seval]) | ((with_reducible apply wl_gnoU); (· exact rfl); (· exact rfl); (· simp [evb, pvb, rnb, kb, hN, seval]; done); try simp only [evb, pvb, rnb, kb, hN, seval])))
  refine wl_strNeq (l := s) (l' := s) (by simp [evb, kb, hN, sdb]) (by simp [evb, kb, hN, sdb]) ?_
  rw [beq_self_eq_true]
  (repeat (first | ((with_reducible refine zaf ?_ ?_ ?_); (· simp [evb, pvb, rnb, kb, hN, seval, pickV, Bool.not_true, dyb, sdb] <;> omega); (· kernel_rfl); try simp only [evb, pvb, rnb, kb, hN, seval, pickV, Bool.not_true]) | ((with_reducible apply wl_gyesB); (· exact rfl); (· exact rfl); (· simp [evb, pvb, rnb, kb, hN, seval, pickV, Bool.not_true]; done); try simp only [evb, pvb, rnb, kb, hN, seval, pickV, Bool.not_true]) | ((with_reducible apply wl_gnoB); (· exact rfl); (· exact rfl); (· simp [evb, pvb, rnb, kb, hN, seval, pickV, Bool.not_true]; done); try simp only [evb, pvb, rnb, kb, hN, seval, pickV, Bool.not_true]) | ((with_reducible apply wl_gnoU); (· exact rfl); (· exact rfl); (· simp [evb, pvb, rnb, kb, hN, seval, pickV, Bool.not_true]; done); try simp only [evb, pvb, rnb, kb, hN, seval, pickV, Bool.not_true])))
  have hb4 := hb3.chg hc4 fun _ _ _ h => h
  refine wl_text (cap := cap) bT (by kernel_rfl) (by simp [evb, kb, hN, sdb]) hb4 ?_
  (repeat (first | ((with_reducible refine zaf ?_ ?_ ?_); (· simp [evb, pvb, rnb, kb, hN, seval, dyb, sdb] <;> omega); (· kernel_rfl); try simp only [evb, pvb, rnb, kb, hN, seval]) | ((with_reducible apply wl_gyesB); (· exact rfl); (· exact rfl); (· simp [evb, pvb, rnb, kb, hN, seval]; done); try simp only [evb, pvb, rnb, kb, hN, seval]) | ((with_reducible apply wl_gnoB); (· exact rfl); (· exact rfl); (· simp [evb, pvb, rnb, kb, hN, seval]; done); try simp only [evb, pvb, rnb, kb, hN, seval]) | ((with_reducible apply wl_gnoU); (· exact rfl); (· exact rfl); (· simp [evb, pvb, rnb, kb, hN, seval]; done); try simp only [evb, pvb, rnb, kb, hN, seval])))
  refine wl_strNeq (l := s) (l' := s) (by simp [evb, kb, hN, sdb] <;> rfl) (by simp [evb, kb, hN, sdb]) ?_
  rw [beq_self_eq_true]
  (repeat (first | ((with_reducible refine zaf ?_ ?_ ?_); (· simp [evb, pvb, rnb, kb, hN, seval, pickV, Bool.not_true, dyb, sdb] <;> omega); (· kernel_rfl); try simp only [evb, pvb, rnb, kb, hN, seval, pickV, Bool.not_true]) | ((with_reducible apply wl_gyesB); (· exact rfl); (· exact rfl); (· simp [evb, pvb, rnb, kb, hN, seval, pickV, Bool.not_true]; done); try simp only [evb, pvb, rnb, kb, hN, seval, pickV, Bool.not_true]) | ((with_reducible apply wl_gnoB); (· exact rfl); (· exact rfl); (· simp [evb, pvb, rnb, kb, hN, seval, pickV, Bool.not_true]; done); try simp only [evb, pvb, rnb, kb, hN, seval, pickV, Bool.not_true]) | ((with_reducible apply wl_gnoU); (· exact rfl); (· exact rfl); (· simp [evb, pvb, rnb, kb, hN, seval, pickV, Bool.not_true]; done); try simp only [evb, pvb, rnb, kb, hN, seval, pickV, Bool.not_true])))
  refine zaa ?_; refine hK1 _ _ ?_; try clear hK1 K1
  refine wp_cond_false (by simp [evb, kb, hN, sdb]) ?_
  refine wp_skip ?_
  refine hK _ _ ?_
  clear hK K
  refine wp_seq_k fun K hK => ?_; refine zab ?_; (repeat ((with_reducible refine zaf ?_ ?_ ?_); (· simp [evb, pvb, rnb, kb, hN, dyb, sdb] <;> omega); (· kernel_rfl); try simp only [evb, pvb, rnb, kb, hN, seval]))
  refine wl_call (fun args w => Tryd.call14 args w) (by simp only [List.map_toArray, List.map_cons, List.map_nil, evb, kb, hN, seval]; exact implACLResourcePatternType_c s (by omega) ha (hw.chg hc04)) ?_
  rintro _ w5 ⟨hq5, hc5⟩
  rw [hwd] at hq5
  cases (hq5 : _ = Value.tuple #[.int .i64 n, .bool true])
  have hc05 := hc04.trans hc5 fun _ _ h => h
  (repeat ((with_reducible refine zaf ?_ ?_ ?_); (· simp [evb, pvb, rnb, kb, hN, exV, exOK, dyb, sdb] <;> omega); (· kernel_rfl); try simp only [evb, pvb, rnb, kb, hN, seval, exV, exOK])); refine zaa ?_; refine hK _ _ ?_; clear hK K
  refine wp_seq_k fun K hK => ?_; refine zab ?_; (repeat ((with_reducible refine zaf ?_ ?_ ?_); (· simp [evb, pvb, rnb, kb, hN, dyb, sdb] <;> omega); (· kernel_rfl); try simp only [evb, pvb, rnb, kb, hN, seval]))
  refine wl_call (fun args w => Tryd.call15 args w) (by simp only [List.map_toArray, List.map_cons, List.map_nil, evb, kb, hN, seval]; exact ofTextACLResourcePatternType_c s (by omega) ha (hb4.chg hc5 fun _ _ _ h => h) (hw.chg hc05)) ?_
  rintro _ w6 ⟨hq6, hc6⟩
  rw [hwd] at hq6
  cases (hq6 : _ = Value.tuple #[.int .i64 n, .bool true])
  have hc06 := hc05.trans hc6 fun _ _ h => h
  (repeat ((with_reducible refine zaf ?_ ?_ ?_); (· simp [evb, pvb, rnb, kb, hN, exV, exOK, dyb, sdb] <;> omega); (· kernel_rfl); try simp only [evb, pvb, rnb, kb, hN, seval, exV, exOK])); refine zaa ?_; refine hK _ _ ?_; clear hK K
  refine wp_seq_k fun K hK => ?_; refine zab ?_; (repeat ((with_reducible refine zaf ?_ ?_ ?_); (· simp [evb, pvb, rnb, kb, hN, dyb, sdb] <;> omega); (· kernel_rfl); try simp only [evb, pvb, rnb, kb, hN, seval]))
  (repeat (first | ((with_reducible refine zaf ?_ ?_ ?_); (· simp [evb, pvb, rnb, kb, hN, seval, h0, hz, pickV, cmp2, beq_self_eq_true, dyb, sdb] <;> omega); (· kernel_rfl); try simp only [evb, pvb, rnb, kb, hN, seval, h0, hz, pickV, cmp2, beq_self_eq_true]) | ((with_reducible apply wl_gyesB); (· exact rfl); (· exact rfl); (· simp [evb, pvb, rnb, kb, hN, seval, h0, hz, pickV, cmp2, beq_self_eq_true]; done); try simp only [evb, pvb, rnb, kb, hN, seval, h0, hz, pickV, cmp2, beq_self_eq_true]) | ((with_reducible apply wl_gnoB); (· exact rfl); (· exact rfl); (· simp [evb, pvb, rnb, kb, hN, seval, h0, hz, pickV, cmp2, beq_self_eq_true]; done); try simp only [evb, pvb, rnb, kb, hN, seval, h0, hz, pickV, cmp2, beq_self_eq_true]) | ((with_reducible apply wl_gnoU); (· exact rfl); (· exact rfl); (· simp [evb, pvb, rnb, kb, hN, seval, h0, hz, pickV, cmp2, beq_self_eq_true]; done); try simp only [evb, pvb, rnb, kb, hN, seval, h0, hz, pickV, cmp2, beq_self_eq_true])))
  refine zaa ?_; refine hK _ _ ?_; clear hK K; refine wp_ret ⟨by simp [zad, hD], ?_⟩; simp only [evb, kb, hN, seval]
  exact ⟨by simp, hc06⟩
end Go.Proofs.YthlpbgklcbmknaaDoor

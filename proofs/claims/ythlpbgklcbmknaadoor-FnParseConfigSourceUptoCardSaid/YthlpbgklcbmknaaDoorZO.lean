import Derived.Test.YthlpbgklcbmknaaDoorZV
import Derived.Test.YthlpbgklcbmknaaDoorZS
/-
What the proofs of the laws rest on, part ZO.
-/
namespace Go.Proofs.YthlpbgklcbmknaaDoor
set_option linter.all false
open Go.RowKit
set_option maxRecDepth 10000
set_option maxHeartbeats 2000000
def wordOf (W : List (Bs' × Int)) (x : Bs') : Option Int := (W.find? fun y => y.1 == x).map (·.2)
theorem wordOf_cons (y : Bs') (n : Int) (W : List (Bs' × Int)) (x : Bs') : wordOf ((y, n) :: W) x = if x = y then some n else wordOf W x := by
  unfold wordOf
  rw [List.find?_cons]
  by_cases h : x = y
  · subst h; simp
  · have : (y == x) = false := by simp [Ne.symm h]
    simp [this, h]
def ParsedAs (o : Option Int) (v : Value) : Prop := match o with | some n => v = .tuple #[.int .i8 n, .nilIface] | none => ∃ t x, v = .tuple #[.int .i8 0, .iface t x]
theorem errNew_c (l : Bs') (w : World) : CallsR Tryd.prog 26 #[strV l] w fun v w' => (∃ t x, v = .iface t x) ∧ Chg (fun _ => False) w w' := by
  refine callsR_of Tryd.func26 rfl rfl Tryd.ntmps26 (by simp) ?_
  intro a hN hD ha
  have h0 : get a 0 = strV l := ha 0 _ rfl
  refine wp_seq_k fun K hK => ?_; refine zad ?_; (repeat ((with_reducible refine zag ?_ ?_ ?_); (· simp [evb, pvb, rnb, kb, hN, dyb, sdb] <;> omega); (· kernel_rfl); try simp only [evb, pvb, rnb, kb, hN, seval])); refine zac ?_; refine hK _ _ ?_; clear hK K
  refine wp_seq_k fun K hK => ?_; refine zad ?_; (repeat ((with_reducible refine zag ?_ ?_ ?_); (· simp [evb, pvb, rnb, kb, hN, h0, dyb, sdb] <;> omega); (· kernel_rfl); try simp only [evb, pvb, rnb, kb, hN, seval, h0]))
  refine wl_build (l := [strV l]) (by simp only [List.map_toArray, List.map_cons, List.map_nil, evb, kb, hN, seval]; kernel_rfl) ?_
  refine wl_boxA (l := [strV l]) (by simp [evb, kb, hN, sdb]) fun w1 hc hb hs => ?_
  refine wl_val rfl (v := .iface 58 (.pointer (some ⟨w.heap.size, 0, none⟩))) (w' := w1) (by
    have hr := run_makeInterface (P := Tryd.prog) w1 58 (.pointer (some ⟨w.heap.size, 0, none⟩)) (by kernel_rfl)
    simp only [execOp, evb, kb, hN, seval, Sem.run_bind, hr]; rfl) ?_
  (repeat ((with_reducible refine zag ?_ ?_ ?_); (· simp [evb, pvb, rnb, kb, hN, dyb, sdb] <;> omega); (· kernel_rfl); try simp only [evb, pvb, rnb, kb, hN, seval])); refine zac ?_; refine hK _ _ ?_; clear hK K; refine wp_ret ⟨by simp [zaa, hD], ?_⟩; simp only [evb, kb, hN, seval]
  exact ⟨⟨_, _, rfl⟩, hc⟩
def zaf : List (Bs' × Int) := [([100, 121, 110, 97, 109, 105, 99, 116, 111, 112, 105, 99, 99, 111, 110, 102, 105, 103], 1), ([100, 121, 110, 97, 109, 105, 99, 98, 114, 111, 107, 101, 114, 99, 111, 110, 102, 105, 103], 2), ([100, 121, 110, 97, 109, 105, 99, 100, 101, 102, 97, 117, 108, 116, 98, 114, 111, 107, 101, 114, 99, 111, 110, 102, 105, 103], 3), ([115, 116, 97, 116, 105, 99, 98, 114, 111, 107, 101, 114, 99, 111, 110, 102, 105, 103], 4), ([100, 101, 102, 97, 117, 108, 116, 99, 111, 110, 102, 105, 103], 5), ([100, 121, 110, 97, 109, 105, 99, 98, 114, 111, 107, 101, 114, 108, 111, 103, 103, 101, 114, 99, 111, 110, 102, 105, 103], 6), ([99, 108, 105, 101, 110, 116, 109, 101, 116, 114, 105, 99, 115, 99, 111, 110, 102, 105, 103], 7), ([103, 114, 111, 117, 112, 99, 111, 110, 102, 105, 103], 8)]
theorem parseConfigSource_c (l : Bs') (hl : l.length ≤ 1048576) (ha : asciiL l) {w : World} (hw : SpaceW w) : CallsR Tryd.prog 17 #[strV l] w fun v w' => ParsedAs (wordOf zaf (zam l)) v ∧ Chg (fun _ => False) w w' := by
  refine callsR_of2 Tryd.func17 rfl rfl Tryd.ntmps17 (by simp) ?_
  intro a hN hD hargs
  have h0 : get a 0 = strV l := hargs 0 _ rfl
  refine wp_seq_k fun K hK => ?_; refine zad ?_; (repeat ((with_reducible refine zag ?_ ?_ ?_); (· simp [evb, pvb, rnb, kb, hN, dyb, sdb] <;> omega); (· kernel_rfl); try simp only [evb, pvb, rnb, kb, hN, seval])); refine zac ?_; refine hK _ _ ?_; clear hK K
  refine wp_seq_k fun K hK => ?_; refine zad ?_; (repeat ((with_reducible refine zag ?_ ?_ ?_); (· simp [evb, pvb, rnb, kb, hN, h0, dyb, sdb] <;> omega); (· kernel_rfl); try simp only [evb, pvb, rnb, kb, hN, seval, h0]))
  refine zan (fun args w => Tryd.call25 args w) (by simp only [List.map_toArray, List.map_cons, List.map_nil, evb, kb, hN, seval]; exact strnorm_c l hl ha hw) ?_
  rintro _ w1 ⟨rfl, hc⟩
  refine zac ?_; refine hK _ _ ?_; clear hK K
  generalize zam l = nl
  refine wp_block ?_
  refine wp_seq_k fun K hK => ?_; refine zad ?_
  refine wl_strEq (l := nl) (l' := [100, 121, 110, 97, 109, 105, 99, 116, 111, 112, 105, 99, 99, 111, 110, 102, 105, 103]) (by simp [evb, kb, hN, sdb]) (by simp [evb, kb, hN, sdb]) ?_
  (repeat ((with_reducible refine zag ?_ ?_ ?_); (· simp [evb, pvb, rnb, kb, hN, dyb, sdb] <;> omega); (· kernel_rfl); try simp only [evb, pvb, rnb, kb, hN, seval])); refine zac ?_; refine hK _ _ ?_; clear hK K
  by_cases c0 : nl = [100, 121, 110, 97, 109, 105, 99, 116, 111, 112, 105, 99, 99, 111, 110, 102, 105, 103]
  · have e : (nl == [100, 121, 110, 97, 109, 105, 99, 116, 111, 112, 105, 99, 99, 111, 110, 102, 105, 103]) = true := by simp [c0]
    rw [e]
    refine wp_cond_true (by simp [evb, kb, hN, sdb]) ?_
    refine wp_seq_k fun K hK => ?_; refine zad ?_; (repeat ((with_reducible refine zag ?_ ?_ ?_); (· simp [evb, pvb, rnb, kb, hN, dyb, sdb] <;> omega); (· kernel_rfl); try simp only [evb, pvb, rnb, kb, hN, seval])); refine zac ?_; refine hK _ _ ?_; clear hK K; refine wp_ret ⟨by simp [zaa, hD], ?_⟩; simp only [evb, kb, hN, seval]
    refine ⟨?_, hc⟩
    rw [c0]; rfl
  have e0 : (nl == [100, 121, 110, 97, 109, 105, 99, 116, 111, 112, 105, 99, 99, 111, 110, 102, 105, 103]) = false := by simp [c0]
  rw [e0]
  refine wp_cond_false (by simp [evb, kb, hN, sdb]) ?_
  refine wp_seq_k fun K hK => ?_; refine zad ?_
  refine wl_strEq (l := nl) (l' := [100, 121, 110, 97, 109, 105, 99, 98, 114, 111, 107, 101, 114, 99, 111, 110, 102, 105, 103]) (by simp [evb, kb, hN, sdb]) (by simp [evb, kb, hN, sdb]) ?_
  (repeat ((with_reducible refine zag ?_ ?_ ?_); (· simp [evb, pvb, rnb, kb, hN, dyb, sdb] <;> omega); (· kernel_rfl); try simp only [evb, pvb, rnb, kb, hN, seval])); refine zac ?_; refine hK _ _ ?_; clear hK K
  by_cases c1 : nl = [100, 121, 110, 97, 109, 105, 99, 98, 114, 111, 107, 101, 114, 99, 111, 110, 102, 105, 103]
  · have e : (nl == [100, 121, 110, 97, 109, 105, 99, 98, 114, 111, 107, 101, 114, 99, 111, 110, 102, 105, 103]) = true := by simp [c1]
    rw [e]
    refine wp_cond_true (by simp [evb, kb, hN, sdb]) ?_
    refine wp_seq_k fun K hK => ?_; refine zad ?_; (repeat ((with_reducible refine zag ?_ ?_ ?_); (· simp [evb, pvb, rnb, kb, hN, dyb, sdb] <;> omega); (· kernel_rfl); try simp only [evb, pvb, rnb, kb, hN, seval])); refine zac ?_; refine hK _ _ ?_; clear hK K; refine wp_ret ⟨by simp [zaa, hD], ?_⟩; simp only [evb, kb, hN, seval]
    refine ⟨?_, hc⟩
    rw [c1]; rfl
  have e1 : (nl == [100, 121, 110, 97, 109, 105, 99, 98, 114, 111, 107, 101, 114, 99, 111, 110, 102, 105, 103]) = false := by simp [c1]
  rw [e1]
  refine wp_cond_false (by simp [evb, kb, hN, sdb]) ?_
  refine wp_seq_k fun K hK => ?_; refine zad ?_
  refine wl_strEq (l := nl) (l' := [100, 121, 110, 97, 109, 105, 99, 100, 101, 102, 97, 117, 108, 116, 98, 114, 111, 107, 101, 114, 99, 111, 110, 102, 105, 103]) (by simp [evb, kb, hN, sdb]) (by simp [evb, kb, hN, sdb]) ?_
  (repeat ((with_reducible refine zag ?_ ?_ ?_); (· simp [evb, pvb, rnb, kb, hN, dyb, sdb] <;> omega); (· kernel_rfl); try simp only [evb, pvb, rnb, kb, hN, seval])); refine zac ?_; refine hK _ _ ?_; clear hK K
  by_cases c2 : nl = [100, 121, 110, 97, 109, 105, 99, 100, 101, 102, 97, 117, 108, 116, 98, 114, 111, 107, 101, 114, 99, 111, 110, 102, 105, 103]
  · have e : (nl == [100, 121, 110, 97, 109, 105, 99, 100, 101, 102, 97, 117, 108, 116, 98, 114, 111, 107, 101, 114, 99, 111, 110, 102, 105, 103]) = true := by simp [c2]
    rw [e]
    refine wp_cond_true (by simp [evb, kb, hN, sdb]) ?_
    refine wp_seq_k fun K hK => ?_; refine zad ?_; (repeat ((with_reducible refine zag ?_ ?_ ?_); (· simp [evb, pvb, rnb, kb, hN, dyb, sdb] <;> omega); (· kernel_rfl); try simp only [evb, pvb, rnb, kb, hN, seval])); refine zac ?_; refine hK _ _ ?_; clear hK K; refine wp_ret ⟨by simp [zaa, hD], ?_⟩; simp only [evb, kb, hN, seval]
    refine ⟨?_, hc⟩
    rw [c2]; rfl
  have e2 : (nl == [100, 121, 110, 97, 109, 105, 99, 100, 101, 102, 97, 117, 108, 116, 98, 114, 111, 107, 101, 114, 99, 111, 110, 102, 105, 103]) = false := by simp [c2]
  rw [e2]
  refine wp_cond_false (by simp [evb, kb, hN, sdb]) ?_
  refine wp_seq_k fun K hK => ?_; refine zad ?_
  refine wl_strEq (l := nl) (l' := [115, 116, 97, 116, 105, 99, 98, 114, 111, 107, 101, 114, 99, 111, 110, 102, 105, 103]) (by simp [evb, kb, hN, sdb]) (by simp [evb, kb, hN, sdb]) ?_
  (repeat ((with_reducible refine zag ?_ ?_ ?_); (· simp [evb, pvb, rnb, kb, hN, dyb, sdb] <;> omega); (· kernel_rfl); try simp only [evb, pvb, rnb, kb, hN, seval])); refine zac ?_; refine hK _ _ ?_; clear hK K
  by_cases c3 : nl = [115, 116, 97, 116, 105, 99, 98, 114, 111, 107, 101, 114, 99, 111, 110, 102, 105, 103]
  · have e : (nl == [115, 116, 97, 116, 105, 99, 98, 114, 111, 107, 101, 114, 99, 111, 110, 102, 105, 103]) = true := by simp [c3]
    rw [e]
    refine wp_cond_true (by simp [evb, kb, hN, sdb]) ?_
    refine wp_seq_k fun K hK => ?_; refine zad ?_; (repeat ((with_reducible refine zag ?_ ?_ ?_); (· simp [evb, pvb, rnb, kb, hN, dyb, sdb] <;> omega); (· kernel_rfl); try simp only [evb, pvb, rnb, kb, hN, seval])); refine zac ?_; refine hK _ _ ?_; clear hK K; refine wp_ret ⟨by simp [zaa, hD], ?_⟩; simp only [evb, kb, hN, seval]
    refine ⟨?_, hc⟩
    rw [c3]; rfl
  have e3 : (nl == [115, 116, 97, 116, 105, 99, 98, 114, 111, 107, 101, 114, 99, 111, 110, 102, 105, 103]) = false := by simp [c3]
  rw [e3]
  refine wp_cond_false (by simp [evb, kb, hN, sdb]) ?_
  refine wp_seq_k fun K hK => ?_; refine zad ?_
  refine wl_strEq (l := nl) (l' := [100, 101, 102, 97, 117, 108, 116, 99, 111, 110, 102, 105, 103]) (by simp [evb, kb, hN, sdb]) (by simp [evb, kb, hN, sdb]) ?_
  (repeat ((with_reducible refine zag ?_ ?_ ?_); (· simp [evb, pvb, rnb, kb, hN, dyb, sdb] <;> omega); (· kernel_rfl); try simp only [evb, pvb, rnb, kb, hN, seval])); refine zac ?_; refine hK _ _ ?_; clear hK K
  by_cases c4 : nl = [100, 101, 102, 97, 117, 108, 116, 99, 111, 110, 102, 105, 103]
  · have e : (nl == [100, 101, 102, 97, 117, 108, 116, 99, 111, 110, 102, 105, 103]) = true := by simp [c4]
    rw [e]
    refine wp_cond_true (by simp [evb, kb, hN, sdb]) ?_
    refine wp_seq_k fun K hK => ?_; refine zad ?_; (repeat ((with_reducible refine zag ?_ ?_ ?_); (· simp [evb, pvb, rnb, kb, hN, dyb, sdb] <;> omega); (· kernel_rfl); try simp only [evb, pvb, rnb, kb, hN, seval])); refine zac ?_; refine hK _ _ ?_; clear hK K; refine wp_ret ⟨by simp [zaa, hD], ?_⟩; simp only [evb, kb, hN, seval]
    refine ⟨?_, hc⟩
    rw [c4]; rfl
  have e4 : (nl == [100, 101, 102, 97, 117, 108, 116, 99, 111, 110, 102, 105, 103]) = false := by simp [c4]
  rw [e4]
  refine wp_cond_false (by simp [evb, kb, hN, sdb]) ?_
  refine wp_seq_k fun K hK => ?_; refine zad ?_
  refine wl_strEq (l := nl) (l' := [100, 121, 110, 97, 109, 105, 99, 98, 114, 111, 107, 101, 114, 108, 111, 103, 103, 101, 114, 99, 111, 110, 102, 105, 103]) (by simp [evb, kb, hN, sdb]) (by simp [evb, kb, hN, sdb]) ?_
  (repeat ((with_reducible refine zag ?_ ?_ ?_); (· simp [evb, pvb, rnb, kb, hN, dyb, sdb] <;> omega); (· kernel_rfl); try simp only [evb, pvb, rnb, kb, hN, seval])); refine zac ?_; refine hK _ _ ?_; clear hK K
  by_cases c5 : nl = [100, 121, 110, 97, 109, 105, 99, 98, 114, 111, 107, 101, 114, 108, 111, 103, 103, 101, 114, 99, 111, 110, 102, 105, 103]
  · have e : (nl == [100, 121, 110, 97, 109, 105, 99, 98, 114, 111, 107, 101, 114, 108, 111, 103, 103, 101, 114, 99, 111, 110, 102, 105, 103]) = true := by simp [c5]
    rw [e]
    refine wp_cond_true (by simp [evb, kb, hN, sdb]) ?_
    refine wp_seq_k fun K hK => ?_; refine zad ?_; (repeat ((with_reducible refine zag ?_ ?_ ?_); (· simp [evb, pvb, rnb, kb, hN, dyb, sdb] <;> omega); (· kernel_rfl); try simp only [evb, pvb, rnb, kb, hN, seval])); refine zac ?_; refine hK _ _ ?_; clear hK K; refine wp_ret ⟨by simp [zaa, hD], ?_⟩; simp only [evb, kb, hN, seval]
    refine ⟨?_, hc⟩
    rw [c5]; rfl
  have e5 : (nl == [100, 121, 110, 97, 109, 105, 99, 98, 114, 111, 107, 101, 114, 108, 111, 103, 103, 101, 114, 99, 111, 110, 102, 105, 103]) = false := by simp [c5]
  rw [e5]
  refine wp_cond_false (by simp [evb, kb, hN, sdb]) ?_
  refine wp_seq_k fun K hK => ?_; refine zad ?_
  refine wl_strEq (l := nl) (l' := [99, 108, 105, 101, 110, 116, 109, 101, 116, 114, 105, 99, 115, 99, 111, 110, 102, 105, 103]) (by simp [evb, kb, hN, sdb]) (by simp [evb, kb, hN, sdb]) ?_
  (repeat ((with_reducible refine zag ?_ ?_ ?_); (· simp [evb, pvb, rnb, kb, hN, dyb, sdb] <;> omega); (· kernel_rfl); try simp only [evb, pvb, rnb, kb, hN, seval])); refine zac ?_; refine hK _ _ ?_; clear hK K
  by_cases c6 : nl = [99, 108, 105, 101, 110, 116, 109, 101, 116, 114, 105, 99, 115, 99, 111, 110, 102, 105, 103]
  · have e : (nl == [99, 108, 105, 101, 110, 116, 109, 101, 116, 114, 105, 99, 115, 99, 111, 110, 102, 105, 103]) = true := by simp [c6]
    rw [e]
    refine wp_cond_true (by simp [evb, kb, hN, sdb]) ?_
    refine wp_seq_k fun K hK => ?_; refine zad ?_; (repeat ((with_reducible refine zag ?_ ?_ ?_); (· simp [evb, pvb, rnb, kb, hN, dyb, sdb] <;> omega); (· kernel_rfl); try simp only [evb, pvb, rnb, kb, hN, seval])); refine zac ?_; refine hK _ _ ?_; clear hK K; refine wp_ret ⟨by simp [zaa, hD], ?_⟩; simp only [evb, kb, hN, seval]
    refine ⟨?_, hc⟩
    rw [c6]; rfl
  have e6 : (nl == [99, 108, 105, 101, 110, 116, 109, 101, 116, 114, 105, 99, 115, 99, 111, 110, 102, 105, 103]) = false := by simp [c6]
  rw [e6]
  refine wp_cond_false (by simp [evb, kb, hN, sdb]) ?_
  refine wp_seq_k fun K hK => ?_; refine zad ?_
  refine wl_strEq (l := nl) (l' := [103, 114, 111, 117, 112, 99, 111, 110, 102, 105, 103]) (by simp [evb, kb, hN, sdb]) (by simp [evb, kb, hN, sdb]) ?_
  (repeat ((with_reducible refine zag ?_ ?_ ?_); (· simp [evb, pvb, rnb, kb, hN, dyb, sdb] <;> omega); (· kernel_rfl); try simp only [evb, pvb, rnb, kb, hN, seval])); refine zac ?_; refine hK _ _ ?_; clear hK K
  by_cases c7 : nl = [103, 114, 111, 117, 112, 99, 111, 110, 102, 105, 103]
  · have e : (nl == [103, 114, 111, 117, 112, 99, 111, 110, 102, 105, 103]) = true := by simp [c7]
    rw [e]
    refine wp_cond_true (by simp [evb, kb, hN, sdb]) ?_
    refine wp_seq_k fun K hK => ?_; refine zad ?_; (repeat ((with_reducible refine zag ?_ ?_ ?_); (· simp [evb, pvb, rnb, kb, hN, dyb, sdb] <;> omega); (· kernel_rfl); try simp only [evb, pvb, rnb, kb, hN, seval])); refine zac ?_; refine hK _ _ ?_; clear hK K; refine wp_ret ⟨by simp [zaa, hD], ?_⟩; simp only [evb, kb, hN, seval]
    refine ⟨?_, hc⟩
    rw [c7]; rfl
  have e7 : (nl == [103, 114, 111, 117, 112, 99, 111, 110, 102, 105, 103]) = false := by simp [c7]
  rw [e7]
  refine wp_cond_false (by simp [evb, kb, hN, sdb]) ?_
  refine wp_seq_k fun K hK => ?_; refine zad ?_
  refine zan (fun args w => Tryd.call26 args w) (by simp only [List.map_toArray, List.map_cons, List.map_nil, evb, kb, hN, seval]; exact errNew_c _ w1) ?_
  rintro _ w2 ⟨⟨t, x, rfl⟩, hc2⟩
  (repeat ((with_reducible refine zag ?_ ?_ ?_); (· simp [evb, pvb, rnb, kb, hN, dyb, sdb] <;> omega); (· kernel_rfl); try simp only [evb, pvb, rnb, kb, hN, seval])); refine zac ?_; refine hK _ _ ?_; clear hK K; refine wp_ret ⟨by simp [zaa, hD], ?_⟩; simp only [evb, kb, hN, seval]
  refine ⟨?_, hc.trans hc2 fun _ _ h => h⟩
  have hn : wordOf zaf nl = none := by
    unfold zaf
    simp only [wordOf_cons, c0, c1, c2, c3, c4, c5, c6, c7, if_false]; rfl
  rw [hn]
  exact ⟨t, x, rfl⟩
def HandedAs (o : Option Int) (v : Value) : Prop := match o with | some n => v = .tuple #[.int .i64 n, .bool true] | none => v = .tuple #[.int .i64 0, .bool false]
theorem rngConfigSource {x : Bs'} {n : Int} (h : wordOf zaf x = some n) : 0 ≤ n ∧ n ≤ 100 := by
  unfold zaf at h
  simp only [wordOf_cons] at h
  repeat' (split at h)
  all_goals first | (simp only [Option.some.injEq] at h; omega) | (cases h)
theorem implConfigSource_c (l : Bs') (hl : l.length ≤ 1048576) (ha : asciiL l) {w : World} (hw : SpaceW w) : CallsR Tryd.prog 6 #[strV l] w fun v w' => HandedAs (wordOf zaf (zam l)) v ∧ Chg (fun _ => False) w w' := by
  refine callsR_of2 Tryd.func6 rfl rfl Tryd.ntmps6 (by simp) ?_
  intro a hN hD hargs
  have h0 : get a 0 = strV l := hargs 0 _ rfl
  refine wp_seq_k fun K hK => ?_; refine zad ?_; (repeat ((with_reducible refine zag ?_ ?_ ?_); (· simp [evb, pvb, rnb, kb, hN, dyb, sdb] <;> omega); (· kernel_rfl); try simp only [evb, pvb, rnb, kb, hN, seval])); refine zac ?_; refine hK _ _ ?_; clear hK K
  refine wp_seq_k fun K hK => ?_; refine zad ?_; (repeat ((with_reducible refine zag ?_ ?_ ?_); (· simp [evb, pvb, rnb, kb, hN, h0, dyb, sdb] <;> omega); (· kernel_rfl); try simp only [evb, pvb, rnb, kb, hN, seval, h0]))
  refine zan (fun args w => Tryd.call17 args w) (by simp only [List.map_toArray, List.map_cons, List.map_nil, evb, kb, hN, seval]; exact parseConfigSource_c l hl ha hw) ?_
  rintro _ w1 ⟨hp, hc⟩
  cases hw1 : wordOf zaf (zam l) with
  | some n =>
    rw [hw1] at hp
    cases (hp : _ = Value.tuple #[.int .i8 n, .nilIface])
    have hr := rngConfigSource hw1
    have hz : IntKind.i64.wrap n = n := i64_id n (by omega)
    (repeat ((with_reducible refine zag ?_ ?_ ?_); (· simp [evb, pvb, rnb, kb, hN, exV, exOK, dyb, sdb] <;> omega); (· kernel_rfl); try simp only [evb, pvb, rnb, kb, hN, seval, exV, exOK])); refine zac ?_; refine hK _ _ ?_; clear hK K
    refine wp_seq_k fun K hK => ?_; refine wp_seq_k fun K1 hK1 => ?_; refine zad ?_; (repeat ((with_reducible refine zag ?_ ?_ ?_); (· simp [evb, pvb, rnb, kb, hN, dyb, sdb] <;> omega); (· kernel_rfl); try simp only [evb, pvb, rnb, kb, hN, seval]))
    refine wl_neqNil0 (by kernel_rfl) (by simp [evb, kb, hN, sdb]) ?_
    refine zac ?_; refine hK1 _ _ ?_; try clear hK1 K1
    refine wp_cond_false (by simp [evb, kb, hN, sdb]) ?_
    refine wp_skip ?_
    refine hK _ _ ?_
    clear hK K
    refine wp_seq_k fun K hK => ?_; refine zad ?_; (repeat ((with_reducible refine zag ?_ ?_ ?_); (· simp [evb, pvb, rnb, kb, hN, hz, dyb, sdb] <;> omega); (· kernel_rfl); try simp only [evb, pvb, rnb, kb, hN, seval, hz])); refine zac ?_; refine hK _ _ ?_; clear hK K; refine wp_ret ⟨by simp [zaa, hD], ?_⟩; simp only [evb, kb, hN, seval]
    refine ⟨?_, hc⟩
    rw [hw1]
    show Value.tuple #[.int .i64 (IntKind.i64.wrap n), .bool true] = _
    rw [hz]
  | none =>
    rw [hw1] at hp
    obtain ⟨t, x, rfl⟩ := hp
    (repeat ((with_reducible refine zag ?_ ?_ ?_); (· simp [evb, pvb, rnb, kb, hN, exV, exOK, dyb, sdb] <;> omega); (· kernel_rfl); try simp only [evb, pvb, rnb, kb, hN, seval, exV, exOK])); refine zac ?_; refine hK _ _ ?_; clear hK K
    refine wp_seq_k fun K hK => ?_; refine wp_seq_k fun K1 hK1 => ?_; refine zad ?_; (repeat ((with_reducible refine zag ?_ ?_ ?_); (· simp [evb, pvb, rnb, kb, hN, dyb, sdb] <;> omega); (· kernel_rfl); try simp only [evb, pvb, rnb, kb, hN, seval]))
    refine wl_neqNil1 (ti := t) (v := x) (by kernel_rfl) (by simp [evb, kb, hN, sdb]) ?_
    refine zac ?_; refine hK1 _ _ ?_; try clear hK1 K1
    refine wp_cond_true (by simp [evb, kb, hN, sdb]) ?_
    refine wp_seq_k fun K hK => ?_; refine zad ?_; (repeat ((with_reducible refine zag ?_ ?_ ?_); (· simp [evb, pvb, rnb, kb, hN, dyb, sdb] <;> omega); (· kernel_rfl); try simp only [evb, pvb, rnb, kb, hN, seval])); refine zac ?_; refine hK _ _ ?_; clear hK K; refine wp_ret ⟨by simp [zaa, hD], ?_⟩; simp only [evb, kb, hN, seval]
    refine ⟨?_, hc⟩
    rw [hw1]; rfl
theorem unmConfigSource_c (l : Bs') (hl : l.length ≤ 1048576) (ha : asciiL l) {w : World} {G : Nat → Prop} {oa : Option Addr} {cap B : Nat} {v0 : Value} {Tb : TypeId} (hb : zai w G oa l) (hB : Blk w B [v0] Tb) (hw : SpaceW w) :
    CallsR Tryd.prog 18 #[.pointer (some ⟨B, 0, none⟩), .slice oa l.length cap] w fun v w' => (match wordOf zaf (zam l) with | some n => v = .nilIface ∧ Blk w' B [.int .i8 n] Tb | none => ∃ t x, v = .iface t x) ∧ Chg (fun k => k = B) w w' := by
  refine callsR_of Tryd.func18 rfl rfl Tryd.ntmps18 (by simp) ?_
  intro a hN hD hargs
  have h0 : get a 0 = .pointer (some ⟨B, 0, none⟩) := hargs 0 _ rfl
  have h1 : get a 1 = .slice oa l.length cap := hargs 1 _ rfl
  refine wp_seq_k fun K hK => ?_; refine zad ?_; (repeat ((with_reducible refine zag ?_ ?_ ?_); (· simp [evb, pvb, rnb, kb, hN, dyb, sdb] <;> omega); (· kernel_rfl); try simp only [evb, pvb, rnb, kb, hN, seval])); refine zac ?_; refine hK _ _ ?_; clear hK K
  refine wp_seq_k fun K hK => ?_; refine zad ?_; (repeat ((with_reducible refine zag ?_ ?_ ?_); (· simp [evb, pvb, rnb, kb, hN, h1, dyb, sdb] <;> omega); (· kernel_rfl); try simp only [evb, pvb, rnb, kb, hN, seval, h1]))
  refine wl_text (cap := cap) bT (by kernel_rfl) (by simp [evb, kb, hN, sdb]) hb ?_
  refine zan (fun args w => Tryd.call17 args w) (by simp only [List.map_toArray, List.map_cons, List.map_nil, evb, kb, hN, seval]; exact parseConfigSource_c l hl ha hw) ?_
  rintro _ w1 ⟨hp, hc⟩
  have hB1 := hB.chg hc (fun h => h)
  cases hw1 : wordOf zaf (zam l) with
  | some n =>
    rw [hw1] at hp
    cases (hp : _ = Value.tuple #[.int .i8 n, .nilIface])
    (repeat ((with_reducible refine zag ?_ ?_ ?_); (· simp [evb, pvb, rnb, kb, hN, exV, exOK, dyb, sdb] <;> omega); (· kernel_rfl); try simp only [evb, pvb, rnb, kb, hN, seval, exV, exOK])); refine zac ?_; refine hK _ _ ?_; clear hK K
    refine wp_seq_k fun K hK => ?_; refine zad ?_; (repeat ((with_reducible refine zag ?_ ?_ ?_); (· simp [evb, pvb, rnb, kb, hN, h0, dyb, sdb] <;> omega); (· kernel_rfl); try simp only [evb, pvb, rnb, kb, hN, seval, h0]))
    refine wl_store (b := B) (o := 0) (n := 1) (v := .int .i8 n) (by kernel_rfl) (by simp [evb, kb, hN, h0, sdb]) (by simp [evb, kb, hN, sdb]) hB1 rfl (by intro y hy; simp only [Value.cells, List.mem_singleton] at hy; subst hy; rfl) (by simp) fun w2 hb2 hc2 => ?_
    refine zac ?_; refine hK _ _ ?_; clear hK K
    refine wp_seq_k fun K hK => ?_; refine zad ?_; (repeat ((with_reducible refine zag ?_ ?_ ?_); (· simp [evb, pvb, rnb, kb, hN, dyb, sdb] <;> omega); (· kernel_rfl); try simp only [evb, pvb, rnb, kb, hN, seval])); refine zac ?_; refine hK _ _ ?_; clear hK K; refine wp_ret ⟨by simp [zaa, hD], ?_⟩; simp only [evb, kb, hN, seval]
    refine ⟨?_, (hc.mono fun _ _ h => h.elim).trans hc2 fun _ _ h => h⟩
    rw [hw1]
    exact ⟨rfl, hb2⟩
  | none =>
    rw [hw1] at hp
    obtain ⟨t, x, rfl⟩ := hp
    (repeat ((with_reducible refine zag ?_ ?_ ?_); (· simp [evb, pvb, rnb, kb, hN, exV, exOK, dyb, sdb] <;> omega); (· kernel_rfl); try simp only [evb, pvb, rnb, kb, hN, seval, exV, exOK])); refine zac ?_; refine hK _ _ ?_; clear hK K
    refine wp_seq_k fun K hK => ?_; refine zad ?_; (repeat ((with_reducible refine zag ?_ ?_ ?_); (· simp [evb, pvb, rnb, kb, hN, h0, dyb, sdb] <;> omega); (· kernel_rfl); try simp only [evb, pvb, rnb, kb, hN, seval, h0]))
    refine wl_store (b := B) (o := 0) (n := 1) (v := .int .i8 0) (by kernel_rfl) (by simp [evb, kb, hN, h0, sdb]) (by simp [evb, kb, hN, sdb]) hB1 rfl (by intro y hy; simp only [Value.cells, List.mem_singleton] at hy; subst hy; rfl) (by simp) fun w2 hb2 hc2 => ?_
    refine zac ?_; refine hK _ _ ?_; clear hK K
    refine wp_seq_k fun K hK => ?_; refine zad ?_; (repeat ((with_reducible refine zag ?_ ?_ ?_); (· simp [evb, pvb, rnb, kb, hN, dyb, sdb] <;> omega); (· kernel_rfl); try simp only [evb, pvb, rnb, kb, hN, seval])); refine zac ?_; refine hK _ _ ?_; clear hK K; refine wp_ret ⟨by simp [zaa, hD], ?_⟩; simp only [evb, kb, hN, seval]
    refine ⟨?_, (hc.mono fun _ _ h => h.elim).trans hc2 fun _ _ h => h⟩
    rw [hw1]
    exact ⟨t, x, rfl⟩
theorem ofTextConfigSource_c (l : Bs') (hl : l.length ≤ 1048576) (ha : asciiL l) {w : World} {G : Nat → Prop} {oa : Option Addr} {cap : Nat} (hb : zai w G oa l) (hw : SpaceW w) :
    CallsR Tryd.prog 7 #[.slice oa l.length cap] w fun v w' => HandedAs (wordOf zaf (zam l)) v ∧ Chg (fun _ => False) w w' := by
  refine callsR_of2 Tryd.func7 rfl rfl Tryd.ntmps7 (by simp) ?_
  intro a hN hD hargs
  have h0 : get a 0 = .slice oa l.length cap := hargs 0 _ rfl
  refine wp_seq_k fun K hK => ?_; refine zad ?_; (repeat ((with_reducible refine zag ?_ ?_ ?_); (· simp [evb, pvb, rnb, kb, hN, dyb, sdb] <;> omega); (· kernel_rfl); try simp only [evb, pvb, rnb, kb, hN, seval])); refine zac ?_; refine hK _ _ ?_; clear hK K
  refine wp_seq_k fun K hK => ?_; refine zad ?_
  refine wl_allocA (z := .int .i8 0) (fun w => Tryd.zeroValue38 w) fun w1 hc1 hb1 hs1 => ?_
  refine zac ?_; refine hK _ _ ?_; clear hK K
  refine wp_seq_k fun K hK => ?_; refine zad ?_; (repeat ((with_reducible refine zag ?_ ?_ ?_); (· simp [evb, pvb, rnb, kb, hN, h0, dyb, sdb] <;> omega); (· kernel_rfl); try simp only [evb, pvb, rnb, kb, hN, seval, h0]))
  refine wl_append (t := 26) (e := 5) (base := w1.heap.size) (v := .slice none 0 0) (bs := []) (bs' := l) (oa := oa) (c := cap) bT (by simp only [evb, kb, hN, seval]) (by simp only [evb, kb, hN, seval, h0]) (Own.nil _ _ _) (hb.chg hc1 fun _ _ _ h => h) (by unfold LIM; simp only [List.length_nil]; omega) (Nat.le_refl _) ?_
  intro v2 w2 happ
  have hc2 : Chg (fun _ => False) w1 w2 := happ.chg.mono fun n hn hk => by simp [Value.ownBlock] at hk
  obtain ⟨oa3, cap3, rfl, hcap3, hbs3⟩ := happ.own.bytes
  rw [List.nil_append] at hcap3 hbs3 ⊢
  have hc12 := hc1.trans hc2 fun _ _ h => h
  refine zan (fun args w => Tryd.call18 args w) (by simp only [List.map_toArray, List.map_cons, List.map_nil, evb, kb, hN, seval]; exact unmConfigSource_c l hl ha hbs3 (hb1.chg hc2 fun h => h) (hw.chg hc12)) ?_
  rintro v3 w3 ⟨hq, hc3⟩
  have hc : Chg (fun _ => False) w w3 := hc12.trans hc3 fun n hn h => by omega
  cases hw1 : wordOf zaf (zam l) with
  | some n =>
    rw [hw1] at hq
    obtain ⟨rfl, hb3⟩ := (hq : v3 = .nilIface ∧ _)
    have hr := rngConfigSource hw1
    have hz : IntKind.i64.wrap n = n := i64_id n (by omega)
    (repeat ((with_reducible refine zag ?_ ?_ ?_); (· simp [evb, pvb, rnb, kb, hN, dyb, sdb] <;> omega); (· kernel_rfl); try simp only [evb, pvb, rnb, kb, hN, seval])); refine zac ?_; refine hK _ _ ?_; clear hK K
    refine wp_seq_k fun K hK => ?_; refine wp_seq_k fun K1 hK1 => ?_; refine zad ?_; (repeat ((with_reducible refine zag ?_ ?_ ?_); (· simp [evb, pvb, rnb, kb, hN, dyb, sdb] <;> omega); (· kernel_rfl); try simp only [evb, pvb, rnb, kb, hN, seval]))
    refine wl_neqNil0 (by kernel_rfl) (by simp [evb, kb, hN, sdb]) ?_
    refine zac ?_; refine hK1 _ _ ?_; try clear hK1 K1
    refine wp_cond_false (by simp [evb, kb, hN, sdb]) ?_
    refine wp_skip ?_
    refine hK _ _ ?_
    clear hK K
    refine wp_seq_k fun K hK => ?_; refine zad ?_
    refine wl_load (b := w.heap.size) (o := 0) (by kernel_rfl) (by simp [evb, kb, hN, sdb]) hb3 (v := .int .i8 n) rfl ?_
    (repeat ((with_reducible refine zag ?_ ?_ ?_); (· simp [evb, pvb, rnb, kb, hN, hz, dyb, sdb] <;> omega); (· kernel_rfl); try simp only [evb, pvb, rnb, kb, hN, seval, hz])); refine zac ?_; refine hK _ _ ?_; clear hK K; refine wp_ret ⟨by simp [zaa, hD], ?_⟩; simp only [evb, kb, hN, seval]
    refine ⟨?_, hc⟩
    rw [hw1]; rfl
  | none =>
    rw [hw1] at hq
    obtain ⟨t, x, rfl⟩ := (hq : ∃ t x, v3 = .iface t x)
    (repeat ((with_reducible refine zag ?_ ?_ ?_); (· simp [evb, pvb, rnb, kb, hN, dyb, sdb] <;> omega); (· kernel_rfl); try simp only [evb, pvb, rnb, kb, hN, seval])); refine zac ?_; refine hK _ _ ?_; clear hK K
    refine wp_seq_k fun K hK => ?_; refine wp_seq_k fun K1 hK1 => ?_; refine zad ?_; (repeat ((with_reducible refine zag ?_ ?_ ?_); (· simp [evb, pvb, rnb, kb, hN, dyb, sdb] <;> omega); (· kernel_rfl); try simp only [evb, pvb, rnb, kb, hN, seval]))
    refine wl_neqNil1 (ti := t) (v := x) (by kernel_rfl) (by simp [evb, kb, hN, sdb]) ?_
    refine zac ?_; refine hK1 _ _ ?_; try clear hK1 K1
    refine wp_cond_true (by simp [evb, kb, hN, sdb]) ?_
    refine wp_seq_k fun K hK => ?_; refine zad ?_; (repeat ((with_reducible refine zag ?_ ?_ ?_); (· simp [evb, pvb, rnb, kb, hN, dyb, sdb] <;> omega); (· kernel_rfl); try simp only [evb, pvb, rnb, kb, hN, seval])); refine zac ?_; refine hK _ _ ?_; clear hK K; refine wp_ret ⟨by simp [zaa, hD], ?_⟩; simp only [evb, kb, hN, seval]
    refine ⟨?_, hc⟩
    rw [hw1]; rfl
end Go.Proofs.YthlpbgklcbmknaaDoor
namespace Go.Proofs.YthlpbgklcbmknaaDoor
set_option linter.all false
open Go.RowKit
set_option maxRecDepth 10000
set_option maxHeartbeats 2000000
def nmCells (L : List (Int × Bs')) : List Value := L.flatMap fun x => [.int .i64 x.1, strV x.2]
theorem nmCells_len (L : List (Int × Bs')) : (nmCells L).length = L.length * 2 := by
  induction L with
  | nil => rfl
  | cons x r ih => unfold nmCells at ih ⊢; rw [List.flatMap_cons, List.length_append, ih]; simp; omega
theorem nmCells_at : ∀ {L : List (Int × Bs')} {i : Nat} {x : Int × Bs'}, L[i]? = some x → ((nmCells L).drop (i * 2)).take 2 = [.int .i64 x.1, strV x.2]
  | [], i, x, h => by simp at h
  | y :: r, 0, x, h => by simp at h; subst h; rfl
  | y :: r, i + 1, x, h => by
    have e : nmCells (y :: r) = [.int .i64 y.1, strV y.2] ++ nmCells r := rfl
    rw [e, show (i + 1) * 2 = 2 + i * 2 by omega, ← List.drop_drop]
    exact nmCells_at (by simpa using h)
def NamesAt (w : World) (v : Value) (L : List (Int × Bs')) : Prop := ∃ b T cap, v = .slice (some ⟨b, 0, none⟩) L.length cap ∧ Blk w b (nmCells L) T
theorem NamesAt.chg {w w' : World} {v : Value} {L : List (Int × Bs')} (h : NamesAt w v L) (c : Chg (fun _ => False) w w') : NamesAt w' v L := by
  obtain ⟨b, T, cap, h1, h2⟩ := h
  exact ⟨b, T, cap, h1, h2.chg c fun h => h⟩
def saysOf (L : List (Int × Bs')) (s : Bs') : Option Int := (L.find? fun x => zam x.2 == zam s).map (·.1)
def SaysAs (o : Option Int) (v : Value) : Prop := match o with | some n => v = .tuple #[.int .i64 n, .bool true] | none => v = .tuple #[.int .i64 0, .bool false]
theorem Parsed_c (L : List (Int × Bs')) (s : Bs') (hL : L.length ≤ 1000) (hs : s.length ≤ 1048576) (hw1 : ∀ x ∈ L, x.2.length ≤ 1000) {w : World} {lv : Value} (hl : NamesAt w lv L) : CallsR Tryd.prog 19 #[lv, strV s] w fun v w' => SaysAs (saysOf L s) v ∧ Chg (fun _ => False) w w' := by
  obtain ⟨b, T, cap, rfl, hb⟩ := hl
  refine callsR_of2 Tryd.func19 rfl rfl Tryd.ntmps19 (by simp) ?_
  intro a hN hD hargs
  have h0 : get a 0 = .slice (some ⟨b, 0, none⟩) L.length cap := hargs 0 _ rfl
  have h1 : get a 1 = strV s := hargs 1 _ rfl
  refine wp_seq_k fun K hK => ?_; refine zad ?_; (repeat ((with_reducible refine zag ?_ ?_ ?_); (· simp [evb, pvb, rnb, kb, hN, dyb, sdb] <;> omega); (· kernel_rfl); try simp only [evb, pvb, rnb, kb, hN, seval])); refine zac ?_; refine hK _ _ ?_; clear hK K
  refine wp_seq_k fun K1 hK1 => ?_; refine wp_seq_k fun K2 hK2 => ?_; refine zad ?_; (repeat ((with_reducible refine zag ?_ ?_ ?_); (· simp [evb, pvb, rnb, kb, hN, h0, dyb, sdb] <;> omega); (· kernel_rfl); try simp only [evb, pvb, rnb, kb, hN, seval, h0]))
  refine zac ?_; refine hK2 _ _ ?_; try clear hK2 K2
  refine wp_block ?_
  refine wp_loop (fun a' w' => ∃ i : Nat, i ≤ L.length ∧ a'.tmps.size = 23 ∧ a'.defers = [] ∧ get a' 1 = strV s ∧ get a' 8 = .slice (some ⟨b, 0, none⟩) L.length cap ∧ get a' 9 = .int .i64 L.length ∧ get a' 10 = .int .i64 i ∧ (L.take i).find? (fun x => zam x.2 == zam s) = none ∧ Chg (fun _ => False) w w')
    (fun a' _ => L.length - (intOf (get a' 10)).toNat) ?_ ?_
  · exact ⟨0, Nat.zero_le _, by simp only [zaj, hN], by simp only [zaa, hD], by simp only [evb, kb, hN, seval, h1], by simp only [evb, kb, hN, seval], by simp only [evb, kb, hN, seval], by simp only [evb, kb, hN, seval] <;> rfl, rfl, Chg.refl _ _⟩
  clear hN hD h0 h1 hargs
  rintro a1 w1 ⟨i, hi, hN, hD, h1, h8, h9, h10, hno, hc⟩
  have hb1 := hb.chg hc fun h => h
  have hz2 : IntKind.i64.wrap ((i : Int) + 1) = ((i + 1 : Nat) : Int) := i64_one i (by omega)
  refine wp_seq_k fun K2 hK2 => ?_; refine zad ?_; (repeat ((with_reducible refine zag ?_ ?_ ?_); (· simp [evb, pvb, rnb, kb, hN, h9, h10, dyb, sdb] <;> omega); (· kernel_rfl); try simp only [evb, pvb, rnb, kb, hN, seval, h9, h10]))
  by_cases hlt : i < L.length
  case neg =>
    have ei : i = L.length := by omega
    subst ei
    have e1 : decide ((L.length : Int) < (L.length : Int)) = false := decide_eq_false (by omega)
    rw [e1]
    refine zac ?_; refine hK2 _ _ ?_; try clear hK2 K2
    refine wp_seq_k fun K3 hK3 => ?_
    refine wp_cond_false (by simp [evb, kb, hN, sdb]) ?_
    refine wp_exit ?_
    simp only [Exit.then, Exit.inBlock, if_pos]
    refine hK1 _ _ ?_; try clear hK1 K1
    refine wp_seq_k fun K hK => ?_; refine zad ?_; (repeat ((with_reducible refine zag ?_ ?_ ?_); (· simp [evb, pvb, rnb, kb, hN, dyb, sdb] <;> omega); (· kernel_rfl); try simp only [evb, pvb, rnb, kb, hN, seval])); refine zac ?_; refine hK _ _ ?_; clear hK K; refine wp_ret ⟨by simp [zaa, hD], ?_⟩; simp only [evb, kb, hN, seval]
    refine ⟨?_, hc⟩
    rw [List.take_length] at hno
    unfold saysOf
    rw [hno]; rfl
  have e1 : decide ((i : Int) < (L.length : Int)) = true := decide_eq_true (by omega)
  rw [e1]
  refine zac ?_; refine hK2 _ _ ?_; try clear hK2 K2
  refine wp_seq_k fun K3 hK3 => ?_
  refine wp_cond_true (by simp [evb, kb, hN, sdb]) ?_
  refine wp_skip ?_
  refine hK3 _ _ ?_; try clear hK3 K3
  obtain ⟨x, hx⟩ : ∃ x, L[i]? = some x := ⟨L[i]'hlt, List.getElem?_eq_getElem hlt⟩
  have hxm : x ∈ L := List.mem_of_getElem? hx
  have hcl := nmCells_len L
  have hat := nmCells_at hx
  refine wp_seq_k fun K4 hK4 => ?_
  refine wp_block ?_
  refine wp_seq_k fun K hK => ?_; refine zad ?_
  refine wl_indexAddr (b := b) (o := 0) (k := .i64) (i := i) (len := L.length) (cap := cap) (n := 2) (by kernel_rfl) (by simp [evb, kb, hN, h8, sdb]) (by simp [evb, kb, hN, h10, sdb]) hlt ?_
  refine wl_loadAgg (b := b) (o := 0 + i * 2) (n := 2) (by kernel_rfl) (by kernel_rfl) (by simp [evb, kb, hN, sdb]) hb1 (by omega) ?_
  rw [Nat.zero_add, hat]
  refine wl_allocA (z := aggOf [.int .i64 0, strV []]) (fun w => Tryd.zeroValue46 w) fun w2 hc2 hb2 hs2 => ?_
  refine wl_storeAll (b := w1.heap.size) (n := 2) (l' := [.int .i64 x.1, strV x.2]) (by kernel_rfl) (by simp [evb, kb, hN, sdb]) (by simp only [evb, kb, hN, seval]; rfl) hb2 rfl (by intro y hy; simp only [List.mem_cons, List.not_mem_nil, or_false] at hy; rcases hy with rfl | rfl <;> rfl) rfl fun w3 hb3 hc3 => ?_
  refine zac ?_; refine hK _ _ ?_; clear hK K
  have hc13 : Chg (fun _ => False) w1 w3 := hc2.trans hc3 fun n hn h => by omega
  refine wp_seq_k fun K5 hK5 => ?_; refine zad ?_
  refine wl_fieldAddr (b := w1.heap.size) (o := 0) (off := 1) (n := 1) (by kernel_rfl) (by simp [evb, kb, hN, sdb]) ?_
  refine wl_load (b := w1.heap.size) (o := 0 + 1) (by kernel_rfl) (by simp [evb, kb, hN, sdb]) hb3 (v := strV x.2) rfl ?_
  refine zan (fun args w => Tryd.call16 args w) (by simp only [List.map_toArray, List.map_cons, List.map_nil, evb, kb, hN, seval]; exact Normal_c x.2 (by have := hw1 x hxm; omega) w3) ?_
  rintro _ w4 ⟨rfl, hc4⟩
  (repeat ((with_reducible refine zag ?_ ?_ ?_); (· simp [evb, pvb, rnb, kb, hN, h1, dyb, sdb] <;> omega); (· kernel_rfl); try simp only [evb, pvb, rnb, kb, hN, seval, h1]))
  refine zan (fun args w => Tryd.call16 args w) (by simp only [List.map_toArray, List.map_cons, List.map_nil, evb, kb, hN, seval]; exact Normal_c s hs w4) ?_
  rintro _ w5 ⟨rfl, hc5⟩
  refine wl_strEq (l := zam x.2) (l' := zam s) (by simp [evb, kb, hN, sdb]) (by simp [evb, kb, hN, sdb]) ?_
  refine zac ?_; refine hK5 _ _ ?_; try clear hK5 K5
  have hb5 : Blk w5 w1.heap.size [.int .i64 x.1, strV x.2] _ := (hb3.chg hc4 fun h => h).chg hc5 fun h => h
  have hc05 : Chg (fun _ => False) w w5 := ((hc.trans hc13 fun _ _ h => h).trans hc4 fun _ _ h => h).trans hc5 fun _ _ h => h
  have hstep : (L.take (i + 1)).find? (fun x => zam x.2 == zam s) = if zam x.2 = zam s then some x else none := by
    rw [List.take_succ, hx, List.find?_append, hno]
    simp only [Option.toList_some, List.find?_cons, List.find?_nil, Option.none_or]
    by_cases he : zam x.2 = zam s
    · simp [he]
    · have hf : (zam x.2 == zam s) = false := by simp [he]
      simp [hf, he]
  by_cases he : zam x.2 = zam s
  · have e2 : (zam x.2 == zam s) = true := by simp [he]
    rw [e2]
    refine wp_cond_true (by simp [evb, kb, hN, sdb]) ?_
    refine wp_seq_k fun K hK => ?_; refine zad ?_
    refine wl_fieldAddr (b := w1.heap.size) (o := 0) (off := 0) (n := 1) (by kernel_rfl) (by simp [evb, kb, hN, sdb]) ?_
    refine wl_load (b := w1.heap.size) (o := 0 + 0) (by kernel_rfl) (by simp [evb, kb, hN, sdb]) hb5 (v := .int .i64 x.1) rfl ?_
    (repeat ((with_reducible refine zag ?_ ?_ ?_); (· simp [evb, pvb, rnb, kb, hN, dyb, sdb] <;> omega); (· kernel_rfl); try simp only [evb, pvb, rnb, kb, hN, seval])); refine zac ?_; refine hK _ _ ?_; clear hK K; refine wp_ret ⟨by simp [zaa, hD], ?_⟩; simp only [evb, kb, hN, seval]
    refine ⟨?_, hc05⟩
    rw [if_pos he] at hstep
    have : L.find? (fun x => zam x.2 == zam s) = some x := by
      rw [← List.take_append_drop (i + 1) L, List.find?_append, hstep]; rfl
    unfold saysOf
    rw [this]; rfl
  · have e2 : (zam x.2 == zam s) = false := by simp [he]
    rw [e2]
    refine wp_cond_false (by simp [evb, kb, hN, sdb]) ?_
    refine wp_skip ?_
    refine hK4 _ _ ?_; try clear hK4 K4
    refine zad ?_; (repeat ((with_reducible refine zag ?_ ?_ ?_); (· simp [evb, pvb, rnb, kb, hN, h10, hz2, dyb, sdb] <;> omega); (· kernel_rfl); try simp only [evb, pvb, rnb, kb, hN, seval, h10, hz2]))
    refine zac ?_
    refine ⟨⟨i + 1, hlt, by simp only [zaj, hN], by simp only [zaa, hD], by simp only [evb, kb, hN, seval, h1], by simp only [evb, kb, hN, seval, h8], by simp only [evb, kb, hN, seval, h9], by simp only [evb, kb, hN, seval], by rw [hstep, if_neg he], hc05⟩, ?_⟩
    simp only [evb, kb, hN, seval, h10, intOf]; omega
end Go.Proofs.YthlpbgklcbmknaaDoor
namespace Go.Proofs.YthlpbgklcbmknaaDoor
set_option linter.all false
open Go.RowKit
set_option maxRecDepth 10000
set_option maxHeartbeats 2000000
section
variable {P : Program} {ops : Array Oper} {Q : Exit → Act → World → Prop} {a : Act} {w : World} {rest : List Oper} {d : Option Nat} {ty : TypeId} {pos : String} {af : Array Edge}
theorem wl_litN {t e sz n : Nat} {z : Value} {parts : Array (Nat × Operand)} (ls : List (List Value)) (ht : P.underlying t = some (.slice e)) (hs : sizeB P e sz = true) (hz : zeroB P e z) (hp : (parts.map fun y => (y.1, a.eval y.2)) = ((ls.map aggOf).zipIdx.map fun y => (y.2, y.1)).toArray)
    (hl : ∀ l ∈ ls, l.length = sz) (hn : n = ls.length) (hb : ls.length * sz ≤ 16777216) (h0 : 0 < sz)
    (h : ∀ w', Chg (fun _ => False) w w' → Blk w' w.heap.size ls.flatten e → WL P ops Q rest (a.put d (.slice (some ⟨w.heap.size, 0, none⟩) n n)) w') :
    WL P ops Q (⟨d, .buildSlice t n parts, ty, pos, af, none⟩ :: rest) a w := by
  subst hn
  have hc : ∀ l : List Value, (aggOf l).cells.toList = l := fun l => by simp [aggOf, Value.cells]
  have hr := run_buildSlice (P := P) (w := w) ht hs hz (ls.map aggOf) (fun v hv => by
    obtain ⟨l, hl1, rfl⟩ := List.mem_map.1 hv
    rw [← Array.length_toList, hc]; exact hl l hl1) (by simpa using hb) h0
  have e2 : ((ls.map aggOf).flatMap fun v => v.cells.toList) = ls.flatten := by
    rw [List.flatMap_map]
    simp only [hc]
    rw [List.flatMap_id']
  rw [e2, ← hp, List.length_map] at hr
  exact wl_val rfl (v := .slice (some ⟨w.heap.size, 0, none⟩) ls.length ls.length) (w' := w.alloc (.cells ls.flatten.toArray e)) (by simp only [execOp, Sem.run_bind]; rw [hr]; rfl) (h _ (Chg.alloc _ _ _) (Blk.new w _ e))
theorem wl_boolEq {t u : TypeId} {x y : Operand} {p q : Bool} (ht : P.underlying t = some .bool) (hx : a.eval x = .bool p) (hy : a.eval y = .bool q) (h : WL P ops Q rest (a.put d (.bool (p == q))) w) : WL P ops Q (⟨d, .binOp .eql t x y u, ty, pos, af, none⟩ :: rest) a w := by
  refine wl_val rfl ?_ h
  obtain ⟨n, hn⟩ := depth_succ
  cases p <;> cases q <;> simp [execOp, eqGuard, binOp, hx, hy, Op.equal, hn, Op.equalIn, underlying, ht]
end
theorem wordOf_map (L : List (Int × Bs')) (y : Bs') : wordOf (L.map fun x => (zam x.2, x.1)) y = (L.find? fun x => zam x.2 == y).map (·.1) := by
  induction L with
  | nil => rfl
  | cons x r ih =>
    rw [List.map_cons, wordOf_cons, List.find?_cons]
    by_cases h : y = zam x.2
    · subst h; simp
    · have : (zam x.2 == y) = false := by simp [Ne.symm h]
      rw [if_neg h, this, ih]
def lConfigSource : List (Int × Bs') := [(1, [68, 89, 78, 65, 77, 73, 67, 95, 84, 79, 80, 73, 67, 95, 67, 79, 78, 70, 73, 71]), (2, [68, 89, 78, 65, 77, 73, 67, 95, 66, 82, 79, 75, 69, 82, 95, 67, 79, 78, 70, 73, 71]), (3, [68, 89, 78, 65, 77, 73, 67, 95, 68, 69, 70, 65, 85, 76, 84, 95, 66, 82, 79, 75, 69, 82, 95, 67, 79, 78, 70, 73, 71]), (4, [83, 84, 65, 84, 73, 67, 95, 66, 82, 79, 75, 69, 82, 95, 67, 79, 78, 70, 73, 71]), (5, [68, 69, 70, 65, 85, 76, 84, 95, 67, 79, 78, 70, 73, 71]), (6, [68, 89, 78, 65, 77, 73, 67, 95, 66, 82, 79, 75, 69, 82, 95, 76, 79, 71, 71, 69, 82, 95, 67, 79, 78, 70, 73, 71]), (7, [67, 76, 73, 69, 78, 84, 95, 77, 69, 84, 82, 73, 67, 83, 95, 67, 79, 78, 70, 73, 71]), (8, [71, 82, 79, 85, 80, 95, 67, 79, 78, 70, 73, 71])]
theorem lstConfigSource_c (w : World) : CallsR Tryd.prog 9 #[] w fun v w' => NamesAt w' v lConfigSource ∧ Chg (fun _ => False) w w' := by
  refine callsR_of Tryd.func9 rfl rfl Tryd.ntmps9 (by simp) ?_
  intro a hN hD hargs
  refine wp_seq_k fun K hK => ?_; refine zad ?_; (repeat ((with_reducible refine zag ?_ ?_ ?_); (· simp [evb, pvb, rnb, kb, hN, dyb, sdb] <;> omega); (· kernel_rfl); try simp only [evb, pvb, rnb, kb, hN, seval])); refine zac ?_; refine hK _ _ ?_; clear hK K
  refine wp_seq_k fun K hK => ?_; refine zad ?_
  refine wl_build (l := [.int .i64 1, strV [68, 89, 78, 65, 77, 73, 67, 95, 84, 79, 80, 73, 67, 95, 67, 79, 78, 70, 73, 71]]) (by simp only [List.map_toArray, List.map_cons, List.map_nil, evb, kb, hN, seval]; kernel_rfl) ?_
  refine wl_build (l := [.int .i64 2, strV [68, 89, 78, 65, 77, 73, 67, 95, 66, 82, 79, 75, 69, 82, 95, 67, 79, 78, 70, 73, 71]]) (by simp only [List.map_toArray, List.map_cons, List.map_nil, evb, kb, hN, seval]; kernel_rfl) ?_
  refine wl_build (l := [.int .i64 3, strV [68, 89, 78, 65, 77, 73, 67, 95, 68, 69, 70, 65, 85, 76, 84, 95, 66, 82, 79, 75, 69, 82, 95, 67, 79, 78, 70, 73, 71]]) (by simp only [List.map_toArray, List.map_cons, List.map_nil, evb, kb, hN, seval]; kernel_rfl) ?_
  refine wl_build (l := [.int .i64 4, strV [83, 84, 65, 84, 73, 67, 95, 66, 82, 79, 75, 69, 82, 95, 67, 79, 78, 70, 73, 71]]) (by simp only [List.map_toArray, List.map_cons, List.map_nil, evb, kb, hN, seval]; kernel_rfl) ?_
  refine wl_build (l := [.int .i64 5, strV [68, 69, 70, 65, 85, 76, 84, 95, 67, 79, 78, 70, 73, 71]]) (by simp only [List.map_toArray, List.map_cons, List.map_nil, evb, kb, hN, seval]; kernel_rfl) ?_
  refine wl_build (l := [.int .i64 6, strV [68, 89, 78, 65, 77, 73, 67, 95, 66, 82, 79, 75, 69, 82, 95, 76, 79, 71, 71, 69, 82, 95, 67, 79, 78, 70, 73, 71]]) (by simp only [List.map_toArray, List.map_cons, List.map_nil, evb, kb, hN, seval]; kernel_rfl) ?_
  refine wl_build (l := [.int .i64 7, strV [67, 76, 73, 69, 78, 84, 95, 77, 69, 84, 82, 73, 67, 83, 95, 67, 79, 78, 70, 73, 71]]) (by simp only [List.map_toArray, List.map_cons, List.map_nil, evb, kb, hN, seval]; kernel_rfl) ?_
  refine wl_build (l := [.int .i64 8, strV [71, 82, 79, 85, 80, 95, 67, 79, 78, 70, 73, 71]]) (by simp only [List.map_toArray, List.map_cons, List.map_nil, evb, kb, hN, seval]; kernel_rfl) ?_
  refine wl_litN (n := 8) [[.int .i64 1, strV [68, 89, 78, 65, 77, 73, 67, 95, 84, 79, 80, 73, 67, 95, 67, 79, 78, 70, 73, 71]], [.int .i64 2, strV [68, 89, 78, 65, 77, 73, 67, 95, 66, 82, 79, 75, 69, 82, 95, 67, 79, 78, 70, 73, 71]], [.int .i64 3, strV [68, 89, 78, 65, 77, 73, 67, 95, 68, 69, 70, 65, 85, 76, 84, 95, 66, 82, 79, 75, 69, 82, 95, 67, 79, 78, 70, 73, 71]], [.int .i64 4, strV [83, 84, 65, 84, 73, 67, 95, 66, 82, 79, 75, 69, 82, 95, 67, 79, 78, 70, 73, 71]], [.int .i64 5, strV [68, 69, 70, 65, 85, 76, 84, 95, 67, 79, 78, 70, 73, 71]], [.int .i64 6, strV [68, 89, 78, 65, 77, 73, 67, 95, 66, 82, 79, 75, 69, 82, 95, 76, 79, 71, 71, 69, 82, 95, 67, 79, 78, 70, 73, 71]], [.int .i64 7, strV [67, 76, 73, 69, 78, 84, 95, 77, 69, 84, 82, 73, 67, 83, 95, 67, 79, 78, 70, 73, 71]], [.int .i64 8, strV [71, 82, 79, 85, 80, 95, 67, 79, 78, 70, 73, 71]]] (e := 46) (sz := 2) (z := aggOf [.int .i64 0, strV []]) (by kernel_rfl) (by kernel_rfl) (fun w => Tryd.zeroValue46 w) (by simp only [List.map_toArray, List.map_cons, List.map_nil, evb, kb, hN, seval]; rfl) (by intro l hl; simp only [List.mem_cons, List.not_mem_nil, or_false] at hl; rcases hl with rfl | rfl | rfl | rfl | rfl | rfl | rfl | rfl <;> rfl) rfl (by decide) (by decide) fun w1 hc hb => ?_
  (repeat ((with_reducible refine zag ?_ ?_ ?_); (· simp [evb, pvb, rnb, kb, hN, dyb, sdb] <;> omega); (· kernel_rfl); try simp only [evb, pvb, rnb, kb, hN, seval])); refine zac ?_; refine hK _ _ ?_; clear hK K; refine wp_ret ⟨by simp [zaa, hD], ?_⟩; simp only [evb, kb, hN, seval]
  exact ⟨⟨_, _, _, rfl, hb⟩, hc⟩
theorem sameConfigSource : zaf = lConfigSource.map fun x => (zam x.2, x.1) := by decide +kernel
theorem lenConfigSource : ∀ x ∈ lConfigSource, x.2.length ≤ 1000 := by decide +kernel
theorem saysConfigSource (s : Bs') : saysOf lConfigSource s = wordOf zaf (zam s) := by rw [sameConfigSource, wordOf_map]; rfl
def plainB (l : Bs') : Bool := decide (l.length ≤ 200) && !(zam l == [117, 110, 107, 110, 111, 119, 110]) && l.all fun b => decide (b.toNat ≤ 127)
theorem plain_c (l : Bs') (hl : l.length ≤ 1048576) (w : World) : CallsR Tryd.prog 5 #[strV l] w fun v w' => v = .bool (plainB l) ∧ Chg (fun _ => False) w w' := by
  refine callsR_of Tryd.func5 rfl rfl Tryd.ntmps5 (by simp) ?_
  intro a hN hD hargs
  have h0 : get a 0 = strV l := hargs 0 _ rfl
  refine wp_seq_k fun K hK => ?_; refine zad ?_; (repeat ((with_reducible refine zag ?_ ?_ ?_); (· simp [evb, pvb, rnb, kb, hN, dyb, sdb] <;> omega); (· kernel_rfl); try simp only [evb, pvb, rnb, kb, hN, seval])); refine zac ?_; refine hK _ _ ?_; clear hK K
  unfold plainB
  refine wp_seq_k fun K hK => ?_; refine wp_seq_k fun K1 hK1 => ?_; refine zad ?_
  by_cases c1 : l.length ≤ 200
  case neg =>
    have d1 : decide ((200 : Int) < (l.length : Int)) = true := decide_eq_true (by omega)
    (repeat (first | ((with_reducible refine wl_q ?_ ?_ ?_ ?_); (· exact rfl); (· simp [evb, kb, hN, h0, zae, d1, dyb, sdb] <;> omega); (· kernel_rfl); try simp only [evb, kb, hN, seval, pvb, h0, zae, d1]) | ((with_reducible refine wl_lenS ?_ ?_ ?_); rotate_left 1; (· simp [evb, kb, hN, h0, zae, d1, sdb]); rotate_left 1; (· kernel_rfl); try simp only [evb, kb, hN, seval, pvb, h0, zae, d1])))
    (repeat (first | ((with_reducible refine zag ?_ ?_ ?_); (· simp [evb, pvb, rnb, kb, hN, seval, h0, d1, zab, dyb, sdb] <;> omega); (· kernel_rfl); try simp only [evb, pvb, rnb, kb, hN, seval, h0, d1, zab]) | ((with_reducible apply zah); (· exact rfl); (· exact rfl); (· simp [evb, pvb, rnb, kb, hN, seval, h0, d1, zab]; done); try simp only [evb, pvb, rnb, kb, hN, seval, h0, d1, zab]) | ((with_reducible apply zak); (· exact rfl); (· exact rfl); (· simp [evb, pvb, rnb, kb, hN, seval, h0, d1, zab]; done); try simp only [evb, pvb, rnb, kb, hN, seval, h0, d1, zab]) | ((with_reducible apply zal); (· exact rfl); (· exact rfl); (· simp [evb, pvb, rnb, kb, hN, seval, h0, d1, zab]; done); try simp only [evb, pvb, rnb, kb, hN, seval, h0, d1, zab])))
    refine zac ?_; refine hK1 _ _ ?_; try clear hK1 K1
    refine wp_cond_true (by simp [evb, kb, hN, sdb]) ?_
    refine wp_seq_k fun K hK => ?_; refine zad ?_; (repeat ((with_reducible refine zag ?_ ?_ ?_); (· simp [evb, pvb, rnb, kb, hN, dyb, sdb] <;> omega); (· kernel_rfl); try simp only [evb, pvb, rnb, kb, hN, seval])); refine zac ?_; refine hK _ _ ?_; clear hK K; refine wp_ret ⟨by simp [zaa, hD], ?_⟩; simp only [evb, kb, hN, seval]
    exact ⟨by simp [c1], Chg.refl _ _⟩
  have d1 : decide ((200 : Int) < (l.length : Int)) = false := decide_eq_false (by omega)
  (repeat (first | ((with_reducible refine wl_q ?_ ?_ ?_ ?_); (· exact rfl); (· simp [evb, kb, hN, h0, zae, d1, dyb, sdb] <;> omega); (· kernel_rfl); try simp only [evb, kb, hN, seval, pvb, h0, zae, d1]) | ((with_reducible refine wl_lenS ?_ ?_ ?_); rotate_left 1; (· simp [evb, kb, hN, h0, zae, d1, sdb]); rotate_left 1; (· kernel_rfl); try simp only [evb, kb, hN, seval, pvb, h0, zae, d1])))
  (repeat (first | ((with_reducible refine zag ?_ ?_ ?_); (· simp [evb, pvb, rnb, kb, hN, seval, h0, d1, zab, dyb, sdb] <;> omega); (· kernel_rfl); try simp only [evb, pvb, rnb, kb, hN, seval, h0, d1, zab]) | ((with_reducible apply zah); (· exact rfl); (· exact rfl); (· simp [evb, pvb, rnb, kb, hN, seval, h0, d1, zab]; done); try simp only [evb, pvb, rnb, kb, hN, seval, h0, d1, zab]) | ((with_reducible apply zak); (· exact rfl); (· exact rfl); (· simp [evb, pvb, rnb, kb, hN, seval, h0, d1, zab]; done); try simp only [evb, pvb, rnb, kb, hN, seval, h0, d1, zab]) | ((with_reducible apply zal); (· exact rfl); (· exact rfl); (· simp [evb, pvb, rnb, kb, hN, seval, h0, d1, zab]; done); try simp only [evb, pvb, rnb, kb, hN, seval, h0, d1, zab])))
  refine zan (fun args w => Tryd.call16 args w) (by simp only [List.map_toArray, List.map_cons, List.map_nil, evb, kb, hN, seval]; exact Normal_c l hl w) ?_
  rintro _ w1 ⟨rfl, hc⟩
  refine zah (t := 7) rfl rfl (by simp [evb, kb, hN, sdb]) ?_
  refine wl_strEq (l := zam l) (l' := [117, 110, 107, 110, 111, 119, 110]) (by simp [evb, kb, hN, sdb]) (by simp [evb, kb, hN, sdb]) ?_
  (repeat (first | ((with_reducible refine zag ?_ ?_ ?_); (· simp [evb, pvb, rnb, kb, hN, seval, zab, dyb, sdb] <;> omega); (· kernel_rfl); try simp only [evb, pvb, rnb, kb, hN, seval, zab]) | ((with_reducible apply zah); (· exact rfl); (· exact rfl); (· simp [evb, pvb, rnb, kb, hN, seval, zab]; done); try simp only [evb, pvb, rnb, kb, hN, seval, zab]) | ((with_reducible apply zak); (· exact rfl); (· exact rfl); (· simp [evb, pvb, rnb, kb, hN, seval, zab]; done); try simp only [evb, pvb, rnb, kb, hN, seval, zab]) | ((with_reducible apply zal); (· exact rfl); (· exact rfl); (· simp [evb, pvb, rnb, kb, hN, seval, zab]; done); try simp only [evb, pvb, rnb, kb, hN, seval, zab])))
  refine zac ?_; refine hK1 _ _ ?_; try clear hK1 K1
  cases hu : (zam l == [117, 110, 107, 110, 111, 119, 110]) with
  | true =>
    refine wp_cond_true (by simp [evb, kb, hN, sdb]) ?_
    refine wp_seq_k fun K hK => ?_; refine zad ?_; (repeat ((with_reducible refine zag ?_ ?_ ?_); (· simp [evb, pvb, rnb, kb, hN, dyb, sdb] <;> omega); (· kernel_rfl); try simp only [evb, pvb, rnb, kb, hN, seval])); refine zac ?_; refine hK _ _ ?_; clear hK K; refine wp_ret ⟨by simp [zaa, hD], ?_⟩; simp only [evb, kb, hN, seval]
    exact ⟨by simp [hu], hc⟩
  | false =>
  refine wp_cond_false (by simp [evb, kb, hN, sdb]) ?_
  refine wp_skip ?_
  refine hK _ _ ?_
  clear hK K
  refine wp_seq_k fun K1 hK1 => ?_; refine wp_seq_k fun K2 hK2 => ?_; refine zad ?_; (repeat ((with_reducible refine zag ?_ ?_ ?_); (· simp [evb, pvb, rnb, kb, hN, dyb, sdb] <;> omega); (· kernel_rfl); try simp only [evb, pvb, rnb, kb, hN, seval]))
  refine zac ?_; refine hK2 _ _ ?_; try clear hK2 K2
  refine wp_block ?_
  refine wp_loop (fun a' w' => ∃ i : Nat, i ≤ l.length ∧ a'.tmps.size = 22 ∧ a'.defers = [] ∧ get a' 0 = strV l ∧ get a' 3 = .int .i64 i ∧ (l.take i).all (fun b => decide (b.toNat ≤ 127)) = true ∧ Chg (fun _ => False) w w')
    (fun a' _ => l.length - (intOf (get a' 3)).toNat) ?_ ?_
  · exact ⟨0, Nat.zero_le _, by simp only [zaj, hN], by simp only [zaa, hD], by simp only [evb, kb, hN, seval, h0], by simp only [evb, kb, hN, seval] <;> rfl, rfl, hc⟩
  clear hN hD h0 hargs hc d1 w1
  rintro a1 w1 ⟨i, hi, hN, hD, h0, h3, hall, hc⟩
  have hz2 : IntKind.i64.wrap ((i : Int) + 1) = ((i + 1 : Nat) : Int) := i64_one i (by omega)
  refine wp_seq_k fun K2 hK2 => ?_; refine wp_seq_k fun K3 hK3 => ?_; refine zad ?_; (repeat (first | ((with_reducible refine wl_q ?_ ?_ ?_ ?_); (· exact rfl); (· simp [evb, kb, hN, h0, h3, zae, dyb, sdb] <;> omega); (· kernel_rfl); try simp only [evb, kb, hN, seval, pvb, h0, h3, zae]) | ((with_reducible refine wl_lenS ?_ ?_ ?_); rotate_left 1; (· simp [evb, kb, hN, h0, h3, zae, sdb]); rotate_left 1; (· kernel_rfl); try simp only [evb, kb, hN, seval, pvb, h0, h3, zae])))
  by_cases hlt : i < l.length
  case neg =>
    have ei : i = l.length := by omega
    subst ei
    have e1 : decide ((l.length : Int) < (l.length : Int)) = false := decide_eq_false (by omega)
    rw [e1]
    refine zac ?_; refine hK3 _ _ ?_; try clear hK3 K3
    refine wp_cond_false (by simp [evb, kb, hN, sdb]) ?_
    refine wp_exit ?_
    simp only [Exit.then, Exit.inBlock, if_pos]
    refine hK1 _ _ ?_; try clear hK1 K1
    refine wp_seq_k fun K hK => ?_; refine zad ?_; (repeat ((with_reducible refine zag ?_ ?_ ?_); (· simp [evb, pvb, rnb, kb, hN, dyb, sdb] <;> omega); (· kernel_rfl); try simp only [evb, pvb, rnb, kb, hN, seval])); refine zac ?_; refine hK _ _ ?_; clear hK K; refine wp_ret ⟨by simp [zaa, hD], ?_⟩; simp only [evb, kb, hN, seval]
    rw [List.take_length] at hall
    exact ⟨by simp [c1, hall, hu], hc⟩
  have e1 : decide ((i : Int) < (l.length : Int)) = true := decide_eq_true (by omega)
  rw [e1]
  refine zac ?_; refine hK3 _ _ ?_; try clear hK3 K3
  refine wp_cond_true (by simp [evb, kb, hN, sdb]) ?_
  refine wp_skip ?_
  refine hK2 _ _ ?_; try clear hK2 K2
  obtain ⟨b, hb⟩ : ∃ b, l[i]? = some b := ⟨l[i]'hlt, List.getElem?_eq_getElem hlt⟩
  refine wp_seq_k fun K4 hK4 => ?_
  refine wp_block ?_
  refine wp_seq_k fun K5 hK5 => ?_; refine zad ?_; (repeat ((with_reducible refine zag ?_ ?_ ?_); (· simp [evb, pvb, rnb, kb, hN, h0, h3, dyb, sdb] <;> omega); (· kernel_rfl); try simp only [evb, pvb, rnb, kb, hN, seval, h0, h3]))
  refine wl_strIx (l := l) (i := i) (b := b) (by kernel_rfl) (by simp [evb, kb, hN, sdb]) (by simp [evb, kb, hN, sdb]) hb ?_
  (repeat ((with_reducible refine zag ?_ ?_ ?_); (· simp [evb, pvb, rnb, kb, hN, dyb, sdb] <;> omega); (· kernel_rfl); try simp only [evb, pvb, rnb, kb, hN, seval]))
  by_cases c2 : b.toNat ≤ 127
  · have e2 : decide ((127 : Int) < (b.toNat : Int)) = false := decide_eq_false (by omega)
    rw [e2]
    refine zac ?_; refine hK5 _ _ ?_; try clear hK5 K5
    refine wp_cond_false (by simp [evb, kb, hN, sdb]) ?_
    refine wp_skip ?_
    refine hK4 _ _ ?_; try clear hK4 K4
    refine zad ?_; (repeat ((with_reducible refine zag ?_ ?_ ?_); (· simp [evb, pvb, rnb, kb, hN, h3, hz2, dyb, sdb] <;> omega); (· kernel_rfl); try simp only [evb, pvb, rnb, kb, hN, seval, h3, hz2]))
    refine zac ?_
    refine ⟨⟨i + 1, hlt, by simp only [zaj, hN], by simp only [zaa, hD], by simp only [evb, kb, hN, seval, h0], by simp only [evb, kb, hN, seval], by rw [List.take_succ, hb, List.all_append, hall]; simp [c2], hc⟩, ?_⟩
    simp only [evb, kb, hN, seval, h3, intOf]; omega
  · have e2 : decide ((127 : Int) < (b.toNat : Int)) = true := decide_eq_true (by omega)
    rw [e2]
    refine zac ?_; refine hK5 _ _ ?_; try clear hK5 K5
    refine wp_cond_true (by simp [evb, kb, hN, sdb]) ?_
    refine wp_seq_k fun K hK => ?_; refine zad ?_; (repeat ((with_reducible refine zag ?_ ?_ ?_); (· simp [evb, pvb, rnb, kb, hN, dyb, sdb] <;> omega); (· kernel_rfl); try simp only [evb, pvb, rnb, kb, hN, seval])); refine zac ?_; refine hK _ _ ?_; clear hK K; refine wp_ret ⟨by simp [zaa, hD], ?_⟩; simp only [evb, kb, hN, seval]
    have : l.all (fun b => decide (b.toNat ≤ 127)) = false := by
      rw [List.all_eq_false]
      exact ⟨b, List.mem_of_getElem? hb, by simpa using c2⟩
    exact ⟨by rw [this]; simp, hc⟩
theorem parsed_c (L : List (Int × Bs')) (s : Bs') (hL : L.length ≤ 1000) (hs : s.length ≤ 1048576) (hw1 : ∀ x ∈ L, x.2.length ≤ 1000) {w : World} {lv : Value} (hl : NamesAt w lv L) {n : Int} {ok : Bool} (ho : match saysOf L s with | some m => n = m ∧ ok = true | none => ok = false) :
    CallsR Tryd.prog 8 #[lv, strV s, .int .i64 n, .bool ok] w fun v w' => v = .bool true ∧ Chg (fun _ => False) w w' := by
  refine callsR_of Tryd.func8 rfl rfl Tryd.ntmps8 (by simp) ?_
  intro a hN hD hargs
  have h0 : get a 0 = lv := hargs 0 _ rfl
  have h1 : get a 1 = strV s := hargs 1 _ rfl
  have h2 : get a 2 = .int .i64 n := hargs 2 _ rfl
  have h3 : get a 3 = .bool ok := hargs 3 _ rfl
  refine wp_seq_k fun K hK => ?_; refine zad ?_; (repeat ((with_reducible refine zag ?_ ?_ ?_); (· simp [evb, pvb, rnb, kb, hN, dyb, sdb] <;> omega); (· kernel_rfl); try simp only [evb, pvb, rnb, kb, hN, seval])); refine zac ?_; refine hK _ _ ?_; clear hK K
  refine wp_seq_k fun K hK => ?_; refine zad ?_; (repeat ((with_reducible refine zag ?_ ?_ ?_); (· simp [evb, pvb, rnb, kb, hN, h0, h1, dyb, sdb] <;> omega); (· kernel_rfl); try simp only [evb, pvb, rnb, kb, hN, seval, h0, h1]))
  refine zan (fun args w => Tryd.call19 args w) (by simp only [List.map_toArray, List.map_cons, List.map_nil, evb, kb, hN, seval]; exact Parsed_c L s hL hs hw1 hl) ?_
  rintro _ w1 ⟨hp, hc⟩
  cases hso : saysOf L s with
  | some m =>
    rw [hso] at hp ho
    cases (hp : _ = Value.tuple #[.int .i64 m, .bool true])
    obtain ⟨rfl, rfl⟩ := ho
    (repeat ((with_reducible refine zag ?_ ?_ ?_); (· simp [evb, pvb, rnb, kb, hN, exV, exOK, dyb, sdb] <;> omega); (· kernel_rfl); try simp only [evb, pvb, rnb, kb, hN, seval, exV, exOK])); refine zac ?_; refine hK _ _ ?_; clear hK K
    refine wp_seq_k fun K hK => ?_; refine zad ?_; (repeat ((with_reducible refine zag ?_ ?_ ?_); (· simp [evb, pvb, rnb, kb, hN, h3, dyb, sdb] <;> omega); (· kernel_rfl); try simp only [evb, pvb, rnb, kb, hN, seval, h3]))
    refine wl_boolEq (p := true) (q := true) Tryd.underlying4 (by simp [evb, kb, hN, sdb]) (by simp [evb, kb, hN, sdb]) ?_
    (repeat (first | ((with_reducible refine zag ?_ ?_ ?_); (· simp [evb, pvb, rnb, kb, hN, seval, h2, h3, zab, beq_self_eq_true, dyb, sdb] <;> omega); (· kernel_rfl); try simp only [evb, pvb, rnb, kb, hN, seval, h2, h3, zab, beq_self_eq_true]) | ((with_reducible apply zah); (· exact rfl); (· exact rfl); (· simp [evb, pvb, rnb, kb, hN, seval, h2, h3, zab, beq_self_eq_true]; done); try simp only [evb, pvb, rnb, kb, hN, seval, h2, h3, zab, beq_self_eq_true]) | ((with_reducible apply zak); (· exact rfl); (· exact rfl); (· simp [evb, pvb, rnb, kb, hN, seval, h2, h3, zab, beq_self_eq_true]; done); try simp only [evb, pvb, rnb, kb, hN, seval, h2, h3, zab, beq_self_eq_true]) | ((with_reducible apply zal); (· exact rfl); (· exact rfl); (· simp [evb, pvb, rnb, kb, hN, seval, h2, h3, zab, beq_self_eq_true]; done); try simp only [evb, pvb, rnb, kb, hN, seval, h2, h3, zab, beq_self_eq_true])))
    refine zac ?_; refine hK _ _ ?_; clear hK K; refine wp_ret ⟨by simp [zaa, hD], ?_⟩; simp only [evb, kb, hN, seval]
    exact ⟨by simp [cmp2], hc⟩
  | none =>
    rw [hso] at hp ho
    cases (hp : _ = Value.tuple #[.int .i64 0, .bool false])
    subst ho
    (repeat ((with_reducible refine zag ?_ ?_ ?_); (· simp [evb, pvb, rnb, kb, hN, exV, exOK, dyb, sdb] <;> omega); (· kernel_rfl); try simp only [evb, pvb, rnb, kb, hN, seval, exV, exOK])); refine zac ?_; refine hK _ _ ?_; clear hK K
    refine wp_seq_k fun K hK => ?_; refine zad ?_; (repeat ((with_reducible refine zag ?_ ?_ ?_); (· simp [evb, pvb, rnb, kb, hN, h3, dyb, sdb] <;> omega); (· kernel_rfl); try simp only [evb, pvb, rnb, kb, hN, seval, h3]))
    refine wl_boolEq (p := false) (q := false) Tryd.underlying4 (by simp [evb, kb, hN, sdb]) (by simp [evb, kb, hN, sdb]) ?_
    (repeat (first | ((with_reducible refine zag ?_ ?_ ?_); (· simp [evb, pvb, rnb, kb, hN, seval, h2, h3, zab, beq_self_eq_true, dyb, sdb] <;> omega); (· kernel_rfl); try simp only [evb, pvb, rnb, kb, hN, seval, h2, h3, zab, beq_self_eq_true]) | ((with_reducible apply zah); (· exact rfl); (· exact rfl); (· simp [evb, pvb, rnb, kb, hN, seval, h2, h3, zab, beq_self_eq_true]; done); try simp only [evb, pvb, rnb, kb, hN, seval, h2, h3, zab, beq_self_eq_true]) | ((with_reducible apply zak); (· exact rfl); (· exact rfl); (· simp [evb, pvb, rnb, kb, hN, seval, h2, h3, zab, beq_self_eq_true]; done); try simp only [evb, pvb, rnb, kb, hN, seval, h2, h3, zab, beq_self_eq_true]) | ((with_reducible apply zal); (· exact rfl); (· exact rfl); (· simp [evb, pvb, rnb, kb, hN, seval, h2, h3, zab, beq_self_eq_true]; done); try simp only [evb, pvb, rnb, kb, hN, seval, h2, h3, zab, beq_self_eq_true])))
    refine zac ?_; refine hK _ _ ?_; clear hK K; refine wp_ret ⟨by simp [zaa, hD], ?_⟩; simp only [evb, kb, hN, seval]
    exact ⟨by simp [cmp2], hc⟩
theorem wl_strB {ops : Array Oper} {Q : Exit → Act → World → Prop} {a : Act} {w : World} {rest : List Oper} {d : Option Nat} {ty : TypeId} {pos : String} {af : Array Edge} {x : Operand} {l : Bs'} (hx : a.eval x = strV l)
    (h : ∀ w' cap, Chg (fun _ => False) w w' → zai w' (fun _ => True) (some ⟨w.heap.size, 0, none⟩) l → WL Tryd.prog ops Q rest (a.put d (.slice (some ⟨w.heap.size, 0, none⟩) l.length cap)) w') :
    WL Tryd.prog ops Q (⟨d, .convert 9 26 x, ty, pos, af, none⟩ :: rest) a w := by
  have hr := Lib.run_convert_string_bytes (P := Tryd.prog) w 9 26 5 ⟨l.toArray⟩ (u := .string) Tryd.underlying9 Tryd.underlying26 Tryd.underlying5
  rw [zae] at hr
  refine wl_val rfl (by simp only [execOp, hx, Sem.run_bind]; rw [hr]; rfl) (h _ _ ?_ ?_)
  · unfold Lib.bytesWorld
    exact ((Chg.drew (fun _ => False) _).trans (Chg.alloc (fun _ => False) _ _) fun _ _ h => h).trans (chg_freeze _ _ _) fun n hn e => by
      have : n = w.heap.size := e
      omega
  · refine .inr ⟨w.heap.size, 0, (Lib.bytesCells w 5 ⟨l.toArray⟩).toList, 5, rfl, trivial, ⟨_, Lib.bytesWorld_at_new w 5 ⟨l.toArray⟩⟩, ?_⟩
    unfold Lib.bytesCells
    simp [byteV]
theorem walk_FnParseConfigSource {l : Bs'} (hl : l.length ≤ 1048576) {w : World} (hw : SpaceW w) : CallsR Tryd.prog 3 #[strV l] w fun v w' => v = .bool true ∧ Chg (fun _ => False) w w' := by
  refine callsR_of Tryd.func3 rfl rfl Tryd.ntmps3 (by simp) ?_
  intro a hN hD hargs
  have h0 : get a 0 = strV l := hargs 0 _ rfl
  refine wp_seq_k fun K hK => ?_; refine zad ?_; (repeat ((with_reducible refine zag ?_ ?_ ?_); (· simp [evb, pvb, rnb, kb, hN, dyb, sdb] <;> omega); (· kernel_rfl); try simp only [evb, pvb, rnb, kb, hN, seval])); refine zac ?_; refine hK _ _ ?_; clear hK K
  refine wp_seq_k fun K hK => ?_; refine wp_seq_k fun K1 hK1 => ?_; refine zad ?_; (repeat (first | ((with_reducible refine wl_q ?_ ?_ ?_ ?_); (· exact rfl); (· simp [evb, kb, hN, h0, zae, dyb, sdb] <;> omega); (· kernel_rfl); try simp only [evb, kb, hN, seval, pvb, h0, zae]) | ((with_reducible refine wl_lenS ?_ ?_ ?_); rotate_left 1; (· simp [evb, kb, hN, h0, zae, sdb]); rotate_left 1; (· kernel_rfl); try simp only [evb, kb, hN, seval, pvb, h0, zae])))
  have e1 : decide ((2147483647 : Int) < (l.length : Int)) = false := decide_eq_false (by omega)
  rw [e1]
  refine zac ?_; refine hK1 _ _ ?_; try clear hK1 K1
  refine wp_cond_false (by simp [evb, kb, hN, sdb]) ?_
  refine wp_skip ?_
  refine hK _ _ ?_
  clear hK K
  refine wp_seq_k fun K hK => ?_; refine wp_seq_k fun K1 hK1 => ?_; refine zad ?_; (repeat ((with_reducible refine zag ?_ ?_ ?_); (· simp [evb, pvb, rnb, kb, hN, h0, dyb, sdb] <;> omega); (· kernel_rfl); try simp only [evb, pvb, rnb, kb, hN, seval, h0]))
  refine zan (fun args w => Tryd.call5 args w) (by simp only [List.map_toArray, List.map_cons, List.map_nil, evb, kb, hN, seval]; exact plain_c l hl w) ?_
  rintro _ w1 ⟨rfl, hc1⟩
  (repeat ((with_reducible refine zag ?_ ?_ ?_); (· simp [evb, pvb, rnb, kb, hN, dyb, sdb] <;> omega); (· kernel_rfl); try simp only [evb, pvb, rnb, kb, hN, seval]))
  refine zac ?_; refine hK1 _ _ ?_; try clear hK1 K1
  cases hp : plainB l with
  | false =>
    refine wp_cond_true (by simp [evb, kb, hN, sdb]) ?_
    refine wp_seq_k fun K hK => ?_; refine zad ?_; (repeat ((with_reducible refine zag ?_ ?_ ?_); (· simp [evb, pvb, rnb, kb, hN, dyb, sdb] <;> omega); (· kernel_rfl); try simp only [evb, pvb, rnb, kb, hN, seval])); refine zac ?_; refine hK _ _ ?_; clear hK K; refine wp_ret ⟨by simp [zaa, hD], ?_⟩; simp only [evb, kb, hN, seval]
    exact ⟨by simp, hc1⟩
  | true =>
  refine wp_cond_false (by simp [evb, kb, hN, sdb]) ?_
  refine wp_skip ?_
  refine hK _ _ ?_
  clear hK K
  have ha : asciiL l := fun b hb => by
    unfold plainB at hp
    simp only [Bool.and_eq_true, List.all_eq_true, decide_eq_true_eq] at hp
    have := hp.2 b hb
    omega
  have hsay := saysConfigSource l
  refine wp_seq_k fun K hK => ?_; refine zad ?_; (repeat ((with_reducible refine zag ?_ ?_ ?_); (· simp [evb, pvb, rnb, kb, hN, h0, dyb, sdb] <;> omega); (· kernel_rfl); try simp only [evb, pvb, rnb, kb, hN, seval, h0]))
  refine zan (fun args w => Tryd.call6 args w) (by simp only [List.map_toArray, List.map_cons, List.map_nil, evb, kb, hN, seval]; exact implConfigSource_c l hl ha (hw.chg hc1)) ?_
  rintro _ w2 ⟨hq2, hc2⟩
  have hc02 := hc1.trans hc2 fun _ _ h => h
  obtain ⟨n, ok, rfl, hno⟩ : ∃ (n : Int) (ok : Bool), _ = Value.tuple #[.int .i64 n, .bool ok] ∧ (match wordOf zaf (zam l) with | some m => n = m ∧ ok = true | none => ok = false) := by
    cases hh : wordOf zaf (zam l) with
    | some m => rw [hh] at hq2; exact ⟨m, true, hq2, rfl, rfl⟩
    | none => rw [hh] at hq2; exact ⟨0, false, hq2, rfl⟩
  rw [← hsay] at hno
  (repeat ((with_reducible refine zag ?_ ?_ ?_); (· simp [evb, pvb, rnb, kb, hN, exV, exOK, dyb, sdb] <;> omega); (· kernel_rfl); try simp only [evb, pvb, rnb, kb, hN, seval, exV, exOK])); refine zac ?_; refine hK _ _ ?_; clear hK K
  refine wp_seq_k fun K hK => ?_; refine zad ?_; (repeat ((with_reducible refine zag ?_ ?_ ?_); (· simp [evb, pvb, rnb, kb, hN, h0, dyb, sdb] <;> omega); (· kernel_rfl); try simp only [evb, pvb, rnb, kb, hN, seval, h0]))
  refine wl_strB (l := l) (by simp [evb, kb, hN, sdb]) fun w3 cap hc3 hb3 => ?_
  have hc03 := hc02.trans hc3 fun _ _ h => h
  refine zan (fun args w => Tryd.call7 args w) (by simp only [List.map_toArray, List.map_cons, List.map_nil, evb, kb, hN, seval]; exact ofTextConfigSource_c l hl ha hb3 (hw.chg hc03)) ?_
  rintro _ w4 ⟨hq4, hc4⟩
  have hc04 := hc03.trans hc4 fun _ _ h => h
  obtain ⟨n4, ok4, rfl, hno4⟩ : ∃ (n : Int) (ok : Bool), _ = Value.tuple #[.int .i64 n, .bool ok] ∧ (match wordOf zaf (zam l) with | some m => n = m ∧ ok = true | none => ok = false) := by
    cases hh : wordOf zaf (zam l) with
    | some m => rw [hh] at hq4; exact ⟨m, true, hq4, rfl, rfl⟩
    | none => rw [hh] at hq4; exact ⟨0, false, hq4, rfl⟩
  rw [← hsay] at hno4
  (repeat ((with_reducible refine zag ?_ ?_ ?_); (· simp [evb, pvb, rnb, kb, hN, exV, exOK, dyb, sdb] <;> omega); (· kernel_rfl); try simp only [evb, pvb, rnb, kb, hN, seval, exV, exOK])); refine zac ?_; refine hK _ _ ?_; clear hK K
  refine wp_seq_k fun K hK => ?_; refine zad ?_
  refine zan (fun args w => Tryd.call9 args w) (by simp only [List.map_toArray, List.map_nil]; exact lstConfigSource_c w4) ?_
  rintro lv w5 ⟨hlv, hc5⟩
  have hc05 := hc04.trans hc5 fun _ _ h => h
  (repeat ((with_reducible refine zag ?_ ?_ ?_); (· simp [evb, pvb, rnb, kb, hN, h0, dyb, sdb] <;> omega); (· kernel_rfl); try simp only [evb, pvb, rnb, kb, hN, seval, h0]))
  refine zan (fun args w => Tryd.call8 args w) (by simp only [List.map_toArray, List.map_cons, List.map_nil, evb, kb, hN, seval]; exact parsed_c lConfigSource l (by decide) hl lenConfigSource hlv hno) ?_
  rintro _ w6 ⟨rfl, hc6⟩
  have hc06 := hc05.trans hc6 fun _ _ h => h
  (repeat ((with_reducible refine zag ?_ ?_ ?_); (· simp [evb, pvb, rnb, kb, hN, dyb, sdb] <;> omega); (· kernel_rfl); try simp only [evb, pvb, rnb, kb, hN, seval]))
  refine zah (t := 29) rfl rfl (by simp [evb, kb, hN, sdb]) ?_
  refine zan (fun args w => Tryd.call9 args w) (by simp only [List.map_toArray, List.map_nil]; exact lstConfigSource_c w6) ?_
  rintro lv2 w7 ⟨hlv2, hc7⟩
  have hc07 := hc06.trans hc7 fun _ _ h => h
  (repeat (first | ((with_reducible refine zag ?_ ?_ ?_); (· simp [evb, pvb, rnb, kb, hN, seval, h0, dyb, sdb] <;> omega); (· kernel_rfl); try simp only [evb, pvb, rnb, kb, hN, seval, h0]) | ((with_reducible apply zah); (· exact rfl); (· exact rfl); (· simp [evb, pvb, rnb, kb, hN, seval, h0]; done); try simp only [evb, pvb, rnb, kb, hN, seval, h0]) | ((with_reducible apply zak); (· exact rfl); (· exact rfl); (· simp [evb, pvb, rnb, kb, hN, seval, h0]; done); try simp only [evb, pvb, rnb, kb, hN, seval, h0]) | ((with_reducible apply zal); (· exact rfl); (· exact rfl); (· simp [evb, pvb, rnb, kb, hN, seval, h0]; done); try simp only [evb, pvb, rnb, kb, hN, seval, h0])))
  refine zan (fun args w => Tryd.call8 args w) (by simp only [List.map_toArray, List.map_cons, List.map_nil, evb, kb, hN, seval]; exact parsed_c lConfigSource l (by decide) hl lenConfigSource hlv2 hno4) ?_
  rintro _ w8 ⟨rfl, hc8⟩
  (repeat (first | ((with_reducible refine zag ?_ ?_ ?_); (· simp [evb, pvb, rnb, kb, hN, seval, zab, dyb, sdb] <;> omega); (· kernel_rfl); try simp only [evb, pvb, rnb, kb, hN, seval, zab]) | ((with_reducible apply zah); (· exact rfl); (· exact rfl); (· simp [evb, pvb, rnb, kb, hN, seval, zab]; done); try simp only [evb, pvb, rnb, kb, hN, seval, zab]) | ((with_reducible apply zak); (· exact rfl); (· exact rfl); (· simp [evb, pvb, rnb, kb, hN, seval, zab]; done); try simp only [evb, pvb, rnb, kb, hN, seval, zab]) | ((with_reducible apply zal); (· exact rfl); (· exact rfl); (· simp [evb, pvb, rnb, kb, hN, seval, zab]; done); try simp only [evb, pvb, rnb, kb, hN, seval, zab])))
  refine zac ?_; refine hK _ _ ?_; clear hK K; refine wp_ret ⟨by simp [zaa, hD], ?_⟩; simp only [evb, kb, hN, seval]
  exact ⟨by simp, hc07.trans hc8 fun _ _ h => h⟩
end Go.Proofs.YthlpbgklcbmknaaDoor

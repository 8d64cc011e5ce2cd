import Derived.Test.YtiohfpnpnofimaaZS
import Derived.Test.YtiohfpnpnofimaaZT
/-
What the proofs of the laws rest on, part ZU.
-/
namespace Go.Proofs.Ytiohfpnpnofimaa
set_option linter.all false
open Go.RowKit
set_option maxRecDepth 10000
set_option maxHeartbeats 1000000
theorem unknown_c (fs : List Fld) (t : Tags) (hlen : fs.length ≤ 1073741824) (hsm : TagsSmall fs) (hok : tagOK t) {w : World} {G G' : Nat → Prop} {oa : Option Addr} {cap : Nat} {vt : Value}
    (hv : SchS w G fs (.slice oa fs.length cap)) (ht : TgS w G' t vt) :
    zaG Try.prog 36 #[.slice oa fs.length cap, vt] w fun r w' => TgS w' (fun g => G' g ∨ w.heap.size ≤ g) (sUnknown fs t) r ∧ Chg (fun _ => False) w w' := by
  unfold tagOK at hok
  subst hok
  obtain ⟨ot, ct, rfl, hct, _⟩ := ht
  refine zaA Try.func36 rfl rfl Try.ntmps36 (by simp) ?_
  intro a hN hD ha
  have h0 : get a 0 = .slice oa fs.length cap := ha 0 _ rfl
  have h1 : get a 1 = .slice ot 0 ct := ha 1 _ rfl
  refine wp_seq_k fun K hK => ?_; refine zai ?_; (repeat (first | ((with_reducible refine zaw ?_ ?_ ?_ ?_); (· exact rfl); (· simp [evb, kb, hN, dyb, sdb] <;> omega); (· kernel_rfl); try simp only [evb, kb, hN, seval, pvb]) | ((with_reducible refine zad ?_ ?_ ?_); rotate_left 1; (· simp [evb, kb, hN, sdb]); rotate_left 1; (· kernel_rfl); try simp only [evb, kb, hN, seval, pvb]))); refine zag ?_; refine hK _ _ ?_; clear hK K
  refine wp_seq_k fun K hK => ?_; refine zai ?_; (repeat (first | ((with_reducible refine zaw ?_ ?_ ?_ ?_); (· exact rfl); (· simp [evb, kb, hN, h0, dyb, sdb] <;> omega); (· kernel_rfl); try simp only [evb, kb, hN, seval, pvb, h0]) | ((with_reducible refine zad ?_ ?_ ?_); rotate_left 1; (· simp [evb, kb, hN, h0, sdb]); rotate_left 1; (· kernel_rfl); try simp only [evb, kb, hN, seval, pvb, h0])))
  refine zaD (fun args w => Try.call33 args w) (by simp [evb, kb, hN, seval, h0]; exact known_c fs hlen hsm hv) ?_
  rintro v w1 ⟨rfl, _, hc⟩
  (repeat (first | ((with_reducible refine zaw ?_ ?_ ?_ ?_); (· exact rfl); (· simp [evb, kb, hN, dyb, sdb] <;> omega); (· kernel_rfl); try simp only [evb, kb, hN, seval, pvb]) | ((with_reducible refine zad ?_ ?_ ?_); rotate_left 1; (· simp [evb, kb, hN, sdb]); rotate_left 1; (· kernel_rfl); try simp only [evb, kb, hN, seval, pvb])))
  refine zag ?_; refine hK _ _ ?_; clear hK K
  refine wp_seq_k fun K hK => ?_; refine zai ?_; (repeat (first | ((with_reducible refine zaw ?_ ?_ ?_ ?_); (· exact rfl); (· simp [evb, kb, hN, dyb, sdb] <;> omega); (· kernel_rfl); try simp only [evb, kb, hN, seval, pvb]) | ((with_reducible refine zad ?_ ?_ ?_); rotate_left 1; (· simp [evb, kb, hN, sdb]); rotate_left 1; (· kernel_rfl); try simp only [evb, kb, hN, seval, pvb]))); refine zag ?_; refine hK _ _ ?_; clear hK K
  refine wp_seq_k fun K0 hK0 => ?_; refine wp_seq_k fun K hK => ?_; refine zai ?_
  (repeat (first | ((with_reducible refine zaw ?_ ?_ ?_ ?_); (· exact rfl); (· simp [evb, kb, hN, h1, zaa, dyb, sdb] <;> omega); (· kernel_rfl); try simp only [evb, kb, hN, seval, pvb, h1, zaa]) | ((with_reducible refine zad ?_ ?_ ?_); rotate_left 1; (· simp [evb, kb, hN, h1, zaa, sdb]); rotate_left 1; (· kernel_rfl); try simp only [evb, kb, hN, seval, pvb, h1, zaa]) | ((with_reducible first | refine zay ?_ ?_ ?_ | refine zax ?_ ?_ ?_ | refine zaz ?_ ?_) <;> (first | (with_reducible refine zav ?_; try simp only [evb, kb, hN, seval, pvb, h1, zaa]) | (simp [evb, kb, hN, h1, zaa, sdb] <;> omega))) | ((with_reducible refine zap ?_ ?_); (· simp [evb, kb, hN, h1, zaa, sdb]); try simp only [evb, kb, hN, seval, pvb, h1, zaa]) | ((with_reducible refine zao ?_ ?_); (· simp [evb, kb, hN, h1, zaa, sdb]); try simp only [evb, kb, hN, seval, pvb, h1, zaa]) | ((with_reducible apply zan); (· exact rfl); (· exact rfl); (· simp [evb, kb, hN, h1, zaa, sdb]); try simp only [evb, kb, hN, seval, pvb, h1, zaa]) | ((with_reducible apply zar); (· exact rfl); (· exact rfl); (· simp [evb, kb, hN, h1, zaa, sdb]); try simp only [evb, kb, hN, seval, pvb, h1, zaa]) | ((with_reducible apply zas); (· exact rfl); (· exact rfl); (· simp [evb, kb, hN, h1, zaa, sdb]); try simp only [evb, kb, hN, seval, pvb, h1, zaa])))
  refine wl_sliceTo (e := 2) (oa := ot) (len := 0) (n := 0) (k := .i64) (cap := ct) (by kernel_rfl) (by simp [evb, kb, hN, h1, sdb]) (by simp [evb, kb, hN, sdb]) (by omega) ?_
  (repeat (first | ((with_reducible refine zaw ?_ ?_ ?_ ?_); (· exact rfl); (· simp [evb, kb, hN, h1, zaa, dyb, sdb] <;> omega); (· kernel_rfl); try simp only [evb, kb, hN, seval, pvb, h1, zaa]) | ((with_reducible refine zad ?_ ?_ ?_); rotate_left 1; (· simp [evb, kb, hN, h1, zaa, sdb]); rotate_left 1; (· kernel_rfl); try simp only [evb, kb, hN, seval, pvb, h1, zaa]) | ((with_reducible first | refine zay ?_ ?_ ?_ | refine zax ?_ ?_ ?_ | refine zaz ?_ ?_) <;> (first | (with_reducible refine zav ?_; try simp only [evb, kb, hN, seval, pvb, h1, zaa]) | (simp [evb, kb, hN, h1, zaa, sdb] <;> omega))) | ((with_reducible refine zap ?_ ?_); (· simp [evb, kb, hN, h1, zaa, sdb]); try simp only [evb, kb, hN, seval, pvb, h1, zaa]) | ((with_reducible refine zao ?_ ?_); (· simp [evb, kb, hN, h1, zaa, sdb]); try simp only [evb, kb, hN, seval, pvb, h1, zaa]) | ((with_reducible apply zan); (· exact rfl); (· exact rfl); (· simp [evb, kb, hN, h1, zaa, sdb]); try simp only [evb, kb, hN, seval, pvb, h1, zaa]) | ((with_reducible apply zar); (· exact rfl); (· exact rfl); (· simp [evb, kb, hN, h1, zaa, sdb]); try simp only [evb, kb, hN, seval, pvb, h1, zaa]) | ((with_reducible apply zas); (· exact rfl); (· exact rfl); (· simp [evb, kb, hN, h1, zaa, sdb]); try simp only [evb, kb, hN, seval, pvb, h1, zaa])))
  refine zag ?_; refine hK _ _ ?_; clear hK K
  refine wp_range (n := 0) (fun _ a' w' => a'.tmps.size = 85 ∧ a'.defers = [] ∧ get a' 6 = .slice none 0 0 ∧ w' = w1) 85 (by omega)
    (by simp only [evb, kb, hN, seval]; try rfl) (by simp only [evb, kb, hN, seval]) ⟨by simp only [evb, kb, hN, seval], by simp [zaf, hD], by simp only [evb, kb, hN, seval], rfl⟩ ?_ ?_ (by decide) ?_ ?_
  · rintro i a w ⟨h, _⟩; exact h
  · rintro i a w t v ht ⟨k1, k2, k3, k4⟩
    rcases ht with rfl | rfl | rfl <;> exact ⟨by rw [zak]; exact k1, by rw [zaf]; exact k2, by rw [zab (by decide)]; exact k3, k4⟩
  · intro i _ _ hi; cases hi
  · clear hN hD
    rintro a1 w2 ⟨hN, hD, g6, rfl⟩
    refine hK0 _ _ ?_; try clear hK0 K0
    (repeat (first | (with_reducible refine wp_seq_k (fun K hK => ?_)) | (with_reducible refine wp_block ?_) | ((with_reducible refine zai ?_); (repeat (first | ((with_reducible refine zaw ?_ ?_ ?_ ?_); (· exact rfl); (· simp [evb, kb, hN, g6, zaa, dyb, sdb] <;> omega); (· kernel_rfl); try simp only [evb, kb, hN, seval, pvb, g6, zaa]) | ((with_reducible refine zad ?_ ?_ ?_); rotate_left 1; (· simp [evb, kb, hN, g6, zaa, sdb]); rotate_left 1; (· kernel_rfl); try simp only [evb, kb, hN, seval, pvb, g6, zaa]) | ((with_reducible first | refine zay ?_ ?_ ?_ | refine zax ?_ ?_ ?_ | refine zaz ?_ ?_) <;> (first | (with_reducible refine zav ?_; try simp only [evb, kb, hN, seval, pvb, g6, zaa]) | (simp [evb, kb, hN, g6, zaa, sdb] <;> omega))) | ((with_reducible refine zap ?_ ?_); (· simp [evb, kb, hN, g6, zaa, sdb]); try simp only [evb, kb, hN, seval, pvb, g6, zaa]) | ((with_reducible refine zao ?_ ?_); (· simp [evb, kb, hN, g6, zaa, sdb]); try simp only [evb, kb, hN, seval, pvb, g6, zaa]) | ((with_reducible apply zan); (· exact rfl); (· exact rfl); (· simp [evb, kb, hN, g6, zaa, sdb]); try simp only [evb, kb, hN, seval, pvb, g6, zaa]) | ((with_reducible apply zar); (· exact rfl); (· exact rfl); (· simp [evb, kb, hN, g6, zaa, sdb]); try simp only [evb, kb, hN, seval, pvb, g6, zaa]) | ((with_reducible apply zas); (· exact rfl); (· exact rfl); (· simp [evb, kb, hN, g6, zaa, sdb]); try simp only [evb, kb, hN, seval, pvb, g6, zaa]))); (refine zag ?_)) | ((with_reducible refine wp_cond_true ?_ ?_); (· simp [evb, kb, hN, g6, sdb])) | ((with_reducible refine wp_cond_false ?_ ?_); (· simp [evb, kb, hN, g6, sdb])) | (with_reducible refine wp_skip ?_) | (refine hK _ _ ?_; clear hK K)))
    refine wp_ret ⟨by simp [zaf, hD], ?_⟩; simp only [evb, kb, hN, seval]
    refine ⟨⟨none, 0, ?_, Nat.le_refl _, .inl ?_⟩, hc⟩
    · first | rfl | (simp only [evb, kb, hN, seval, g6] <;> rfl)
    · rfl
end Go.Proofs.Ytiohfpnpnofimaa

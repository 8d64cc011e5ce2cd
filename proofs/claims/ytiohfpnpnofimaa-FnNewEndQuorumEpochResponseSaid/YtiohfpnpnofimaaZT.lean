import Derived.Test.YtiohfpnpnofimaaZK
import Derived.Test.YtiohfpnpnofimaaZA
/-
What the proofs of the laws rest on, part ZT.
-/
namespace Go.Proofs.Ytiohfpnpnofimaa
set_option linter.all false
open Go.RowKit
set_option maxRecDepth 10000
def mapB (P : Program) (t : Nat) : Bool := match P.underlying t with | some (.map _ _) => true | _ => false
theorem run_lenM {t ty : TypeId} {w : World} {G : Nat → Prop} {m : Option Nat} {tags : Tags} (ht : mapB Try.prog t = true) (h : TagsAt w G m tags) :
    (Builtin.len_ #[t] ty #[.map m]).run Try.prog w = .ok (.int .i64 tags.length) w := by
  unfold mapB at ht
  split at ht
  · rename_i a b hu
    rcases h with ⟨rfl, rfl⟩ | ⟨r, es, clock, rfl, _, h3, h4, _⟩
    · simp [Builtin.len_, underlying, hu, goInt]
    · have := h4.length
      simp [Builtin.len_, underlying, hu, getObj, Sem.run, h3, goInt, ← this]
  · cases ht
theorem wl_lenM {ops : Array Oper} {Q : Exit → Act → World → Prop} {a : Act} {w : World} {rest : List Oper} {d : Option Nat} {ty : TypeId} {pos : String} {af : Array Edge}
    {t : TypeId} {x : Operand} {G : Nat → Prop} {m : Option Nat} {tags : Tags} (ht : mapB Try.prog t = true) (h : TagsAt w G m tags) (hx : a.eval x = .map m)
    (hn : WL Try.prog ops Q rest (a.put d (.int .i64 tags.length)) w) :
    WL Try.prog ops Q (⟨d, .call { callee := .builtin .len, args := #[x], argTypes := #[t] }, ty, pos, af, none⟩ :: rest) a w :=
  zaK rfl (by simp [execOp, resolve, invoke, builtin, hx, run_lenM ht h]) hn
theorem TagsLen_c {w : World} {G : Nat → Prop} {m : Option Nat} {tags : Tags} {B o : Nat} {l : List Value} {T : TypeId} (hb : Blk w B l T) (hm : l[o]? = some (.map m)) (ht : TagsAt w G m tags) :
    zaG Try.prog 27 #[.pointer (some ⟨B, o, none⟩)] w fun v w' => v = .int .i64 tags.length ∧ w' = w := by
  refine zaA Try.func27 rfl rfl Try.ntmps27 (by simp) ?_
  intro a hN hD ha
  have h0 : get a 0 = .pointer (some ⟨B, o, none⟩) := ha 0 _ rfl
  refine wp_seq_k fun K hK => ?_; refine zai ?_; refine zat ?_; refine zag ?_; refine hK _ _ ?_; clear hK K
  refine wp_seq_k fun K hK => ?_; refine zai ?_; (repeat (first | ((with_reducible refine zaw ?_ ?_ ?_ ?_); (· exact rfl); (· simp [evb, kb, hN, h0, dyb, sdb] <;> omega); (· kernel_rfl); try simp only [evb, kb, hN, seval, pvb, h0]) | ((with_reducible refine zad ?_ ?_ ?_); rotate_left 1; (· simp [evb, kb, hN, h0, sdb]); rotate_left 1; (· kernel_rfl); try simp only [evb, kb, hN, seval, pvb, h0])))
  refine wl_nilCheck (p := ⟨B, o, none⟩) (by simp [evb, kb, hN, sdb]) ?_
  refine zaM (b := B) (o := o) (off := 0) (n := 1) (by kernel_rfl) (by simp [evb, kb, hN, sdb]) ?_
  refine zaE (by kernel_rfl) (by simp [evb, kb, hN, sdb]) hb hm ?_
  refine wl_lenM (by kernel_rfl) ht (by simp [evb, kb, hN, sdb]) ?_
  (repeat (first | ((with_reducible refine zaw ?_ ?_ ?_ ?_); (· exact rfl); (· simp [evb, kb, hN, dyb, sdb] <;> omega); (· kernel_rfl); try simp only [evb, kb, hN, seval, pvb]) | ((with_reducible refine zad ?_ ?_ ?_); rotate_left 1; (· simp [evb, kb, hN, sdb]); rotate_left 1; (· kernel_rfl); try simp only [evb, kb, hN, seval, pvb]))); refine zag ?_; refine hK _ _ ?_; clear hK K; refine wp_ret ⟨by simp [zaf, hD], ?_⟩; simp only [evb, kb, hN, seval]
  exact ⟨by first | rfl | trivial, by first | rfl | trivial⟩
theorem Each_none {w : World} {G : Nat → Prop} {m : Option Nat} {B o : Nat} {l : List Value} {T : TypeId} {fv : Value} (hb : Blk w B l T) (hm : l[o]? = some (.map m)) (ht : TagsAt w G m []) :
    zaG Try.prog 40 #[.pointer (some ⟨B, o, none⟩), fv] w fun _ w' => w' = w := by
  refine callsR_of0 Try.func40 rfl rfl Try.ntmps40 (by simp) ?_
  intro a hN hD ha
  have h0 : get a 0 = .pointer (some ⟨B, o, none⟩) := ha 0 _ rfl
  refine wp_seq_k fun K hK => ?_; refine wp_seq_k fun K hK => ?_; refine zai ?_; (repeat (first | ((with_reducible refine zaw ?_ ?_ ?_ ?_); (· exact rfl); (· simp [evb, kb, hN, h0, dyb, sdb] <;> omega); (· kernel_rfl); try simp only [evb, kb, hN, seval, pvb, h0]) | ((with_reducible refine zad ?_ ?_ ?_); rotate_left 1; (· simp [evb, kb, hN, h0, sdb]); rotate_left 1; (· kernel_rfl); try simp only [evb, kb, hN, seval, pvb, h0])))
  refine wl_nilCheck (p := ⟨B, o, none⟩) (by simp [evb, kb, hN, sdb]) ?_
  refine zaM (b := B) (o := o) (off := 0) (n := 1) (by kernel_rfl) (by simp [evb, kb, hN, sdb]) ?_
  refine zaE (by kernel_rfl) (by simp [evb, kb, hN, sdb]) hb hm ?_
  refine wl_lenM (by kernel_rfl) ht (by simp [evb, kb, hN, sdb]) ?_
  (repeat (first | ((with_reducible refine zaw ?_ ?_ ?_ ?_); (· exact rfl); (· simp [evb, kb, hN, dyb, sdb] <;> omega); (· kernel_rfl); try simp only [evb, kb, hN, seval, pvb]) | ((with_reducible refine zad ?_ ?_ ?_); rotate_left 1; (· simp [evb, kb, hN, sdb]); rotate_left 1; (· kernel_rfl); try simp only [evb, kb, hN, seval, pvb])))
  simp only [List.length_nil]
  refine zag (hK _ _ ?_)
  refine wp_cond_true (by simp [evb, kb, hN, sdb]) ?_
  exact wp_ret ⟨by simp [zaf, hD], rfl⟩
theorem TagsEach_c {w : World} {base : Nat} {m : Option Nat} {tags : Tags} {B o : Nat} {l : List Value} {T : TypeId} {v : Value} {bs : Bs} (hok : tagOK tags) (hb : Blk w B l T) (hm : l[o]? = some (.map m))
    (ht : TagsAt w (fun g => g < base) m tags) (_hB : B < base) (hown : Own eB w base v bs) (_hlim : bs.length + (encTagsEach tags).length ≤ LIM) (hbase : base ≤ w.heap.size) :
    zaG Try.prog 28 #[.pointer (some ⟨B, o, none⟩), v] w (App eB w base v (bs ++ encTagsEach tags)) := by
  unfold tagOK at hok
  subst hok
  have e : bs ++ encTagsEach [] = bs := by simp [encTagsEach, tagSort]
  rw [e]
  refine zaA Try.func28 rfl rfl Try.ntmps28 (by simp) ?_
  intro a hN hD ha
  have h0 : get a 0 = .pointer (some ⟨B, o, none⟩) := ha 0 _ rfl
  have h1 : get a 1 = v := ha 1 _ rfl
  have hv : v.cells = #[v] := by rcases hown.2 with ⟨rfl, _⟩ | ⟨g, cap, cur, rfl, _⟩ <;> rfl
  refine wp_seq_k fun K hK => ?_; refine zai ?_
  refine wl_box ?_
  rw [zaj, h1, hv]
  have hc : Chg (fun _ => False) w (w.alloc (.cells #[v] 28)) := Chg.alloc _ _ _
  have hbk : Blk (w.alloc (.cells #[v] 28)) w.heap.size [v] 28 := Blk.new _ [v] _
  generalize w.alloc (.cells #[v] 28) = w1 at hc hbk ⊢
  refine zat ?_
  refine zag ?_; refine hK _ _ ?_; clear hK K
  refine wp_seq_k fun K hK => ?_; refine zai ?_; (repeat (first | ((with_reducible refine zaw ?_ ?_ ?_ ?_); (· exact rfl); (· simp [evb, kb, hN, h0, dyb, sdb] <;> omega); (· kernel_rfl); try simp only [evb, kb, hN, seval, pvb, h0]) | ((with_reducible refine zad ?_ ?_ ?_); rotate_left 1; (· simp [evb, kb, hN, h0, sdb]); rotate_left 1; (· kernel_rfl); try simp only [evb, kb, hN, seval, pvb, h0])))
  refine zaK rfl (v := .func (.func 41) #[] #[.pointer (some ⟨w.heap.size, 0, none⟩)]) (w' := w1) (by simp [execOp, Instr.makeFunc, evb, kb, hN, seval]) ?_
  refine zaD (fun args w => Try.call40 args w) (by simp [evb, kb, hN, seval, h0]; exact Each_none (hb.chg hc (fun h => h)) hm (ht.stay (Stay.of hc fun _ _ _ h => h))) ?_
  rintro u w2 rfl
  refine zag ?_; refine hK _ _ ?_; clear hK K
  refine wp_seq_k fun K hK => ?_; refine zai ?_
  refine zaE (b := w.heap.size) (o := 0) (by kernel_rfl) (by simp [evb, kb, hN, sdb]) hbk rfl ?_
  (repeat (first | ((with_reducible refine zaw ?_ ?_ ?_ ?_); (· exact rfl); (· simp [evb, kb, hN, dyb, sdb] <;> omega); (· kernel_rfl); try simp only [evb, kb, hN, seval, pvb]) | ((with_reducible refine zad ?_ ?_ ?_); rotate_left 1; (· simp [evb, kb, hN, sdb]); rotate_left 1; (· kernel_rfl); try simp only [evb, kb, hN, seval, pvb]))); refine zag ?_; refine hK _ _ ?_; clear hK K; refine wp_ret ⟨by simp [zaf, hD], ?_⟩; simp only [evb, kb, hN, seval]
  refine ⟨hown.chg hc (fun _ _ h => h), hc.mono fun _ _ h => h.elim, .inl rfl⟩
end Go.Proofs.Ytiohfpnpnofimaa

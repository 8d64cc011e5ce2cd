import Derived.Test.YtkhmglikdlgfpaaKbinC
import Derived.Test.YtkhmglikdlgfpaaMem
/-
Unknown tags: how many there are, and what is written of none. (A seat whose statements meet no tags.)
-/
namespace Go.Proofs.Ytkhmglikdlgfpaa
set_option linter.all false
open Go.RowKit
set_option maxRecDepth 10000

def mapB (P : Program) (t : Nat) : Bool := match P.underlying t with | some (.map _ _) => true | _ => false
theorem run_lenM {t ty : TypeId} {w : World} {G : Nat → Prop} {m : Option Nat} {tags : Tags} (ht : mapB Try.prog t = true) (h : TagsAt w G m tags) :
    (Builtin.len_ #[t] ty #[.map m]).run Try.prog w = .ok (.int .i64 tags.length) w := by
  unfold mapB at ht
  split at ht
  · rename_i a b hu
    rcases h with ⟨rfl, rfl⟩ | ⟨r, es, clock, rfl, _, h3, h4, _⟩
    · simp [Builtin.len_, underlying, hu, goInt]
    · have := h4.length
      simp [Builtin.len_, underlying, hu, getObj, Sem.run, h3, goInt, ← this]
  · cases ht
theorem wl_lenM {ops : Array Oper} {Q : Exit → Act → World → Prop} {a : Act} {w : World} {rest : List Oper} {d : Option Nat} {ty : TypeId} {pos : String} {af : Array Edge}
    {t : TypeId} {x : Operand} {G : Nat → Prop} {m : Option Nat} {tags : Tags} (ht : mapB Try.prog t = true) (h : TagsAt w G m tags) (hx : a.eval x = .map m)
    (hn : WL Try.prog ops Q rest (a.put d (.int .i64 tags.length)) w) :
    WL Try.prog ops Q (⟨d, .call { callee := .builtin .len, args := #[x], argTypes := #[t] }, ty, pos, af, none⟩ :: rest) a w :=
  wl_val rfl (by simp [execOp, resolve, invoke, builtin, hx, run_lenM ht h]) hn

theorem TagsLen_c {w : World} {G : Nat → Prop} {m : Option Nat} {tags : Tags} {B o : Nat} {l : List Value} {T : TypeId} (hb : Blk w B l T) (hm : l[o]? = some (.map m)) (ht : TagsAt w G m tags) :
    CallsR Try.prog 140 #[.pointer (some ⟨B, o, none⟩)] w fun v w' => v = .int .i64 tags.length ∧ w' = w := by
  refine callsR_of Try.func140 rfl rfl Try.ntmps140 (by simp) ?_
  intro a hN hD ha
  have h0 : get a 0 = .pointer (some ⟨B, o, none⟩) := ha 0 _ rfl
  refine wp_seq_k fun K hK => ?_; refine wp_reg ?_; refine wl_assign ?_; refine wl_nil ?_; refine hK _ _ ?_; clear hK K
  refine wp_seq_k fun K hK => ?_; refine wp_reg ?_; (repeat (first | ((first | (with_reducible refine wl_move ?_) | (with_reducible refine wl_assign ?_) | ((with_reducible refine wl_conv ?_ ?_ ?_ ?_); (· kernel_rfl); (· kernel_rfl)) | (with_reducible refine wl_add ?_ ?_) | (with_reducible refine wl_sub ?_ ?_) | (with_reducible refine wl_lss ?_ ?_) | (with_reducible refine wl_leq ?_ ?_) | (with_reducible refine wl_gtr ?_ ?_) | (with_reducible refine wl_geq ?_ ?_) | (with_reducible refine wl_eql ?_ ?_) | (with_reducible refine wl_neq ?_ ?_) | (with_reducible refine wl_not ?_ ?_) | (with_reducible refine wl_shr ?_ ?_ ?_) | (with_reducible refine wl_and127 ?_ ?_) | (with_reducible refine wl_or128 ?_ ?_ ?_) | ((with_reducible refine wl_len ?_ ?_ ?_); rotate_left 1; (· simp [evb, kb, hN, Nat.reduceLT, Nat.reduceEqDiff, reduceIte, Int.reduceToNat, Int.reduceBEq, h0, sdb]); rotate_left 1; (· kernel_rfl)) | ((with_reducible refine wl_lenS ?_ ?_ ?_); rotate_left 1; (· simp [evb, kb, hN, Nat.reduceLT, Nat.reduceEqDiff, reduceIte, Int.reduceToNat, Int.reduceBEq, h0, sdb]); rotate_left 1; (· kernel_rfl))) <;> (first | (with_reducible refine wl_id ?_; try simp only [evb, kb, hN, Nat.reduceLT, Nat.reduceEqDiff, reduceIte, Int.reduceToNat, Int.reduceBEq, h0]) | (simp [evb, kb, hN, Nat.reduceLT, Nat.reduceEqDiff, reduceIte, Int.reduceToNat, Int.reduceBEq, h0, sdb]; done) | (simp [evb, kb, hN, Nat.reduceLT, Nat.reduceEqDiff, reduceIte, Int.reduceToNat, Int.reduceBEq, h0, sdb]; omega)))))
  refine wl_nilCheck (p := ⟨B, o, none⟩) (by simp [evb, kb, hN, Nat.reduceLT, Nat.reduceEqDiff, reduceIte, Int.reduceToNat, Int.reduceBEq, sdb]) ?_
  refine wl_fieldAddr (b := B) (o := o) (off := 0) (n := 1) (by kernel_rfl) (by simp [evb, kb, hN, Nat.reduceLT, Nat.reduceEqDiff, reduceIte, Int.reduceToNat, Int.reduceBEq, sdb]) ?_
  refine wl_load (by kernel_rfl) (by simp [evb, kb, hN, Nat.reduceLT, Nat.reduceEqDiff, reduceIte, Int.reduceToNat, Int.reduceBEq, sdb]) hb hm ?_
  refine wl_lenM (by kernel_rfl) ht (by simp [evb, kb, hN, Nat.reduceLT, Nat.reduceEqDiff, reduceIte, Int.reduceToNat, Int.reduceBEq, sdb]) ?_
  (repeat (first | ((first | (with_reducible refine wl_move ?_) | (with_reducible refine wl_assign ?_) | ((with_reducible refine wl_conv ?_ ?_ ?_ ?_); (· kernel_rfl); (· kernel_rfl)) | (with_reducible refine wl_add ?_ ?_) | (with_reducible refine wl_sub ?_ ?_) | (with_reducible refine wl_lss ?_ ?_) | (with_reducible refine wl_leq ?_ ?_) | (with_reducible refine wl_gtr ?_ ?_) | (with_reducible refine wl_geq ?_ ?_) | (with_reducible refine wl_eql ?_ ?_) | (with_reducible refine wl_neq ?_ ?_) | (with_reducible refine wl_not ?_ ?_) | (with_reducible refine wl_shr ?_ ?_ ?_) | (with_reducible refine wl_and127 ?_ ?_) | (with_reducible refine wl_or128 ?_ ?_ ?_) | ((with_reducible refine wl_len ?_ ?_ ?_); rotate_left 1; (· simp [evb, kb, hN, Nat.reduceLT, Nat.reduceEqDiff, reduceIte, Int.reduceToNat, Int.reduceBEq, sdb]); rotate_left 1; (· kernel_rfl)) | ((with_reducible refine wl_lenS ?_ ?_ ?_); rotate_left 1; (· simp [evb, kb, hN, Nat.reduceLT, Nat.reduceEqDiff, reduceIte, Int.reduceToNat, Int.reduceBEq, sdb]); rotate_left 1; (· kernel_rfl))) <;> (first | (with_reducible refine wl_id ?_; try simp only [evb, kb, hN, Nat.reduceLT, Nat.reduceEqDiff, reduceIte, Int.reduceToNat, Int.reduceBEq]) | (simp [evb, kb, hN, Nat.reduceLT, Nat.reduceEqDiff, reduceIte, Int.reduceToNat, Int.reduceBEq, sdb]; done) | (simp [evb, kb, hN, Nat.reduceLT, Nat.reduceEqDiff, reduceIte, Int.reduceToNat, Int.reduceBEq, sdb]; omega))))); refine wl_nil ?_; refine hK _ _ ?_; clear hK K; refine wp_ret ⟨by simp [defers_put, hD], ?_⟩; simp only [evb, kb, hN, Nat.reduceLT, Nat.reduceEqDiff, reduceIte, Int.reduceToNat, Int.reduceBEq]
  exact ⟨by first | rfl | trivial, by first | rfl | trivial⟩

theorem Each_none {w : World} {G : Nat → Prop} {m : Option Nat} {B o : Nat} {l : List Value} {T : TypeId} {fv : Value} (hb : Blk w B l T) (hm : l[o]? = some (.map m)) (ht : TagsAt w G m []) :
    CallsR Try.prog 189 #[.pointer (some ⟨B, o, none⟩), fv] w fun _ w' => w' = w := by
  refine callsR_of0 Try.func189 rfl rfl Try.ntmps189 (by simp) ?_
  intro a hN hD ha
  have h0 : get a 0 = .pointer (some ⟨B, o, none⟩) := ha 0 _ rfl
  refine wp_seq_k fun K hK => ?_; refine wp_seq_k fun K hK => ?_; refine wp_reg ?_; (repeat (first | ((first | (with_reducible refine wl_move ?_) | (with_reducible refine wl_assign ?_) | ((with_reducible refine wl_conv ?_ ?_ ?_ ?_); (· kernel_rfl); (· kernel_rfl)) | (with_reducible refine wl_add ?_ ?_) | (with_reducible refine wl_sub ?_ ?_) | (with_reducible refine wl_lss ?_ ?_) | (with_reducible refine wl_leq ?_ ?_) | (with_reducible refine wl_gtr ?_ ?_) | (with_reducible refine wl_geq ?_ ?_) | (with_reducible refine wl_eql ?_ ?_) | (with_reducible refine wl_neq ?_ ?_) | (with_reducible refine wl_not ?_ ?_) | (with_reducible refine wl_shr ?_ ?_ ?_) | (with_reducible refine wl_and127 ?_ ?_) | (with_reducible refine wl_or128 ?_ ?_ ?_) | ((with_reducible refine wl_len ?_ ?_ ?_); rotate_left 1; (· simp [evb, kb, hN, Nat.reduceLT, Nat.reduceEqDiff, reduceIte, Int.reduceToNat, Int.reduceBEq, h0, sdb]); rotate_left 1; (· kernel_rfl)) | ((with_reducible refine wl_lenS ?_ ?_ ?_); rotate_left 1; (· simp [evb, kb, hN, Nat.reduceLT, Nat.reduceEqDiff, reduceIte, Int.reduceToNat, Int.reduceBEq, h0, sdb]); rotate_left 1; (· kernel_rfl))) <;> (first | (with_reducible refine wl_id ?_; try simp only [evb, kb, hN, Nat.reduceLT, Nat.reduceEqDiff, reduceIte, Int.reduceToNat, Int.reduceBEq, h0]) | (simp [evb, kb, hN, Nat.reduceLT, Nat.reduceEqDiff, reduceIte, Int.reduceToNat, Int.reduceBEq, h0, sdb]; done) | (simp [evb, kb, hN, Nat.reduceLT, Nat.reduceEqDiff, reduceIte, Int.reduceToNat, Int.reduceBEq, h0, sdb]; omega)))))
  refine wl_nilCheck (p := ⟨B, o, none⟩) (by simp [evb, kb, hN, Nat.reduceLT, Nat.reduceEqDiff, reduceIte, Int.reduceToNat, Int.reduceBEq, sdb]) ?_
  refine wl_fieldAddr (b := B) (o := o) (off := 0) (n := 1) (by kernel_rfl) (by simp [evb, kb, hN, Nat.reduceLT, Nat.reduceEqDiff, reduceIte, Int.reduceToNat, Int.reduceBEq, sdb]) ?_
  refine wl_load (by kernel_rfl) (by simp [evb, kb, hN, Nat.reduceLT, Nat.reduceEqDiff, reduceIte, Int.reduceToNat, Int.reduceBEq, sdb]) hb hm ?_
  refine wl_lenM (by kernel_rfl) ht (by simp [evb, kb, hN, Nat.reduceLT, Nat.reduceEqDiff, reduceIte, Int.reduceToNat, Int.reduceBEq, sdb]) ?_
  (repeat (first | ((first | (with_reducible refine wl_move ?_) | (with_reducible refine wl_assign ?_) | ((with_reducible refine wl_conv ?_ ?_ ?_ ?_); (· kernel_rfl); (· kernel_rfl)) | (with_reducible refine wl_add ?_ ?_) | (with_reducible refine wl_sub ?_ ?_) | (with_reducible refine wl_lss ?_ ?_) | (with_reducible refine wl_leq ?_ ?_) | (with_reducible refine wl_gtr ?_ ?_) | (with_reducible refine wl_geq ?_ ?_) | (with_reducible refine wl_eql ?_ ?_) | (with_reducible refine wl_neq ?_ ?_) | (with_reducible refine wl_not ?_ ?_) | (with_reducible refine wl_shr ?_ ?_ ?_) | (with_reducible refine wl_and127 ?_ ?_) | (with_reducible refine wl_or128 ?_ ?_ ?_) | ((with_reducible refine wl_len ?_ ?_ ?_); rotate_left 1; (· simp [evb, kb, hN, Nat.reduceLT, Nat.reduceEqDiff, reduceIte, Int.reduceToNat, Int.reduceBEq, sdb]); rotate_left 1; (· kernel_rfl)) | ((with_reducible refine wl_lenS ?_ ?_ ?_); rotate_left 1; (· simp [evb, kb, hN, Nat.reduceLT, Nat.reduceEqDiff, reduceIte, Int.reduceToNat, Int.reduceBEq, sdb]); rotate_left 1; (· kernel_rfl))) <;> (first | (with_reducible refine wl_id ?_; try simp only [evb, kb, hN, Nat.reduceLT, Nat.reduceEqDiff, reduceIte, Int.reduceToNat, Int.reduceBEq]) | (simp [evb, kb, hN, Nat.reduceLT, Nat.reduceEqDiff, reduceIte, Int.reduceToNat, Int.reduceBEq, sdb]; done) | (simp [evb, kb, hN, Nat.reduceLT, Nat.reduceEqDiff, reduceIte, Int.reduceToNat, Int.reduceBEq, sdb]; omega)))))
  simp only [List.length_nil]
  refine wl_nil (hK _ _ ?_)
  refine wp_cond_true (by simp [evb, kb, hN, Nat.reduceLT, Nat.reduceEqDiff, reduceIte, Int.reduceToNat, Int.reduceBEq, sdb]) ?_
  exact wp_ret ⟨by simp [defers_put, hD], rfl⟩

theorem TagsEach_c {w : World} {base : Nat} {m : Option Nat} {tags : Tags} {B o : Nat} {l : List Value} {T : TypeId} {v : Value} {bs : Bs} (hok : tagOK tags) (hb : Blk w B l T) (hm : l[o]? = some (.map m))
    (ht : TagsAt w (fun g => g < base) m tags) (_hB : B < base) (hown : Own eB w base v bs) (_hlim : bs.length + (encTagsEach tags).length ≤ LIM) (hbase : base ≤ w.heap.size) :
    CallsR Try.prog 141 #[.pointer (some ⟨B, o, none⟩), v] w (App eB w base v (bs ++ encTagsEach tags)) := by
  unfold tagOK at hok
  subst hok
  have e : bs ++ encTagsEach [] = bs := by simp [encTagsEach, tagSort]
  rw [e]
  refine callsR_of Try.func141 rfl rfl Try.ntmps141 (by simp) ?_
  intro a hN hD ha
  have h0 : get a 0 = .pointer (some ⟨B, o, none⟩) := ha 0 _ rfl
  have h1 : get a 1 = v := ha 1 _ rfl
  have hv : v.cells = #[v] := by rcases hown.2 with ⟨rfl, _⟩ | ⟨g, cap, cur, rfl, _⟩ <;> rfl
  refine wp_seq_k fun K hK => ?_; refine wp_reg ?_
  refine wl_box ?_
  rw [eval_tmp, h1, hv]
  have hc : Chg (fun _ => False) w (w.alloc (.cells #[v] 28)) := Chg.alloc _ _ _
  have hbk : Blk (w.alloc (.cells #[v] 28)) w.heap.size [v] 28 := Blk.new _ [v] _
  generalize w.alloc (.cells #[v] 28) = w1 at hc hbk ⊢
  refine wl_assign ?_
  refine wl_nil ?_; refine hK _ _ ?_; clear hK K
  refine wp_seq_k fun K hK => ?_; refine wp_reg ?_; (repeat (first | ((first | (with_reducible refine wl_move ?_) | (with_reducible refine wl_assign ?_) | ((with_reducible refine wl_conv ?_ ?_ ?_ ?_); (· kernel_rfl); (· kernel_rfl)) | (with_reducible refine wl_add ?_ ?_) | (with_reducible refine wl_sub ?_ ?_) | (with_reducible refine wl_lss ?_ ?_) | (with_reducible refine wl_leq ?_ ?_) | (with_reducible refine wl_gtr ?_ ?_) | (with_reducible refine wl_geq ?_ ?_) | (with_reducible refine wl_eql ?_ ?_) | (with_reducible refine wl_neq ?_ ?_) | (with_reducible refine wl_not ?_ ?_) | (with_reducible refine wl_shr ?_ ?_ ?_) | (with_reducible refine wl_and127 ?_ ?_) | (with_reducible refine wl_or128 ?_ ?_ ?_) | ((with_reducible refine wl_len ?_ ?_ ?_); rotate_left 1; (· simp [evb, kb, hN, Nat.reduceLT, Nat.reduceEqDiff, reduceIte, Int.reduceToNat, Int.reduceBEq, h0, sdb]); rotate_left 1; (· kernel_rfl)) | ((with_reducible refine wl_lenS ?_ ?_ ?_); rotate_left 1; (· simp [evb, kb, hN, Nat.reduceLT, Nat.reduceEqDiff, reduceIte, Int.reduceToNat, Int.reduceBEq, h0, sdb]); rotate_left 1; (· kernel_rfl))) <;> (first | (with_reducible refine wl_id ?_; try simp only [evb, kb, hN, Nat.reduceLT, Nat.reduceEqDiff, reduceIte, Int.reduceToNat, Int.reduceBEq, h0]) | (simp [evb, kb, hN, Nat.reduceLT, Nat.reduceEqDiff, reduceIte, Int.reduceToNat, Int.reduceBEq, h0, sdb]; done) | (simp [evb, kb, hN, Nat.reduceLT, Nat.reduceEqDiff, reduceIte, Int.reduceToNat, Int.reduceBEq, h0, sdb]; omega)))))
  refine wl_val rfl (v := .func (.func 190) #[] #[.pointer (some ⟨w.heap.size, 0, none⟩)]) (w' := w1) (by simp [execOp, Instr.makeFunc, evb, kb, hN, Nat.reduceLT, Nat.reduceEqDiff, reduceIte, Int.reduceToNat, Int.reduceBEq]) ?_
  refine wl_call (fun args w => Try.call189 args w) (by simp [evb, kb, hN, Nat.reduceLT, Nat.reduceEqDiff, reduceIte, Int.reduceToNat, Int.reduceBEq, h0]; exact Each_none (hb.chg hc (fun h => h)) hm (ht.stay (Stay.of hc fun _ _ _ h => h))) ?_
  rintro u w2 rfl
  refine wl_nil ?_; refine hK _ _ ?_; clear hK K
  refine wp_seq_k fun K hK => ?_; refine wp_reg ?_
  refine wl_load (b := w.heap.size) (o := 0) (by kernel_rfl) (by simp [evb, kb, hN, Nat.reduceLT, Nat.reduceEqDiff, reduceIte, Int.reduceToNat, Int.reduceBEq, sdb]) hbk rfl ?_
  (repeat (first | ((first | (with_reducible refine wl_move ?_) | (with_reducible refine wl_assign ?_) | ((with_reducible refine wl_conv ?_ ?_ ?_ ?_); (· kernel_rfl); (· kernel_rfl)) | (with_reducible refine wl_add ?_ ?_) | (with_reducible refine wl_sub ?_ ?_) | (with_reducible refine wl_lss ?_ ?_) | (with_reducible refine wl_leq ?_ ?_) | (with_reducible refine wl_gtr ?_ ?_) | (with_reducible refine wl_geq ?_ ?_) | (with_reducible refine wl_eql ?_ ?_) | (with_reducible refine wl_neq ?_ ?_) | (with_reducible refine wl_not ?_ ?_) | (with_reducible refine wl_shr ?_ ?_ ?_) | (with_reducible refine wl_and127 ?_ ?_) | (with_reducible refine wl_or128 ?_ ?_ ?_) | ((with_reducible refine wl_len ?_ ?_ ?_); rotate_left 1; (· simp [evb, kb, hN, Nat.reduceLT, Nat.reduceEqDiff, reduceIte, Int.reduceToNat, Int.reduceBEq, sdb]); rotate_left 1; (· kernel_rfl)) | ((with_reducible refine wl_lenS ?_ ?_ ?_); rotate_left 1; (· simp [evb, kb, hN, Nat.reduceLT, Nat.reduceEqDiff, reduceIte, Int.reduceToNat, Int.reduceBEq, sdb]); rotate_left 1; (· kernel_rfl))) <;> (first | (with_reducible refine wl_id ?_; try simp only [evb, kb, hN, Nat.reduceLT, Nat.reduceEqDiff, reduceIte, Int.reduceToNat, Int.reduceBEq]) | (simp [evb, kb, hN, Nat.reduceLT, Nat.reduceEqDiff, reduceIte, Int.reduceToNat, Int.reduceBEq, sdb]; done) | (simp [evb, kb, hN, Nat.reduceLT, Nat.reduceEqDiff, reduceIte, Int.reduceToNat, Int.reduceBEq, sdb]; omega))))); refine wl_nil ?_; refine hK _ _ ?_; clear hK K; refine wp_ret ⟨by simp [defers_put, hD], ?_⟩; simp only [evb, kb, hN, Nat.reduceLT, Nat.reduceEqDiff, reduceIte, Int.reduceToNat, Int.reduceBEq]
  refine ⟨hown.chg hc (fun _ _ h => h), hc.mono fun _ _ h => h.elim, .inl rfl⟩

end Go.Proofs.Ytkhmglikdlgfpaa

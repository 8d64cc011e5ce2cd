import Derived.Test.YtidlpocllgleiaaGreatDoorZD
import Derived.Test.YtidlpocllgleiaaGreatDoorZW
/-
What the proofs of the laws rest on, part ZM.
-/
namespace Go.Proofs.YtidlpocllgleiaaGreatDoor
set_option linter.all false
open Go.RowKit
set_option maxRecDepth 10000
set_option maxHeartbeats 1000000
section
variable {y0 y1 y2 y3 y4 y5 y6 y7 y8 y9 y10 y11 y12 y13 y14 y15 y16 y17 y18 y19 y20 y21 y22 y23 y24 y25 y26 y27 y28 y29 y30 y31 y32 y33 y34 y35 y36 y37 y38 y39 : TypeId} {q0 q1 q2 q3 q4 q5 q6 q7 q8 q9 q10 q11 q12 q13 q14 q15 q16 q17 q18 q19 q20 q21 q22 q23 q24 q25 q26 q27 q28 q29 q30 q31 q32 q33 q34 q35 q36 q37 q38 q39 : String} {e0 e1 e2 e3 e4 e5 e6 e7 e8 e9 e10 e11 e12 e13 e14 e15 e16 e17 e18 e19 e20 e21 e22 e23 e24 e25 e26 e27 e28 e29 e30 e31 e32 e33 e34 e35 e36 e37 e38 e39 : Array Edge} {r0 r1 r2 r3 r4 r5 : Nat}
variable {us : Array TypeId}
theorem readfrom_c {fn fr : FuncId} {func : Func} (hfn : (Tryz.prog).funcs[fn]? = some func)
    (hbody : func.body = some (.seq (.region r0 #[⟨some 4, .assign (.const .nilIface), y0, q0, e0, none⟩] false) (.seq (.region r1 #[⟨some 5, .move (.tmp 0), y1, q1, e1, none⟩, ⟨some 6, .move (.tmp 1), y2, q2, e2, none⟩, ⟨some 7, .call { callee := .value (.func fr), args := #[.tmp 5, .tmp 6, .const (.bool false)], argTypes := us }, y3, q3, e3, none⟩, ⟨some 4, .assign (.tmp 7), y4, q4, e4, none⟩] false) .ret)))
    (hres : func.results = #[.tmp 4]) (hNf : func.ntmps = 8) (hen : zaZ Tryz.prog fr) {x y : Value} {w : World} {R : Value → World → Prop} (h : zaF Tryz.prog fr #[x, y, .bool false] w R) : zaF Tryz.prog fn #[x, y] w R := by
  refine zar hfn hbody hres hNf (by simp) ?_
  intro a hN hD ha
  have h0 : get a 0 = x := ha 0 _ rfl
  have h1 : get a 1 = y := ha 1 _ rfl
  refine wp_seq_k fun K hK => ?_; refine zaf ?_; (repeat ((with_reducible refine zaK ?_ ?_ ?_); (· simp [evb, pvb, rnb, kb, hN, dyb, sdb] <;> omega); (· kernel_rfl); try simp only [evb, pvb, rnb, kb, hN, seval])); refine zac ?_; refine hK _ _ ?_; clear hK K
  refine wp_seq_k fun K hK => ?_; refine zaf ?_; (repeat ((with_reducible refine zaK ?_ ?_ ?_); (· simp [evb, pvb, rnb, kb, hN, h0, h1, dyb, sdb] <;> omega); (· kernel_rfl); try simp only [evb, pvb, rnb, kb, hN, seval, h0, h1]))
  refine zaG hen (by simp only [List.map_toArray, List.map_cons, List.map_nil, evb, hN, Nat.reduceLT, Nat.reduceEqDiff, reduceIte]; exact h) ?_
  intro v w1 hr
  (repeat ((with_reducible refine zaK ?_ ?_ ?_); (· simp [evb, pvb, rnb, kb, hN, dyb, sdb] <;> omega); (· kernel_rfl); try simp only [evb, pvb, rnb, kb, hN, seval])); refine zac ?_; refine hK _ _ ?_; clear hK K
  refine wp_ret ⟨by simp [zae, hD], ?_⟩
  have e : ∀ {b : Value}, b = v → R b w1 := fun e => by rw [e]; exact hr
  exact e (by simp only [evb, pvb, rnb, kb, hN, seval])
end
end Go.Proofs.YtidlpocllgleiaaGreatDoor
namespace Go.Proofs.YtidlpocllgleiaaGreatDoor
set_option linter.all false
open Go.RowKit
section
variable {P : Program} {ops : Array Oper} {Q : Exit → Act → World → Prop} {a : Act} {w : World} {rest : List Oper} {d : Option Nat} {ty : TypeId} {pos : String} {af : Array Edge} {x : Operand} {t u : TypeId}
def ifaceB (P : Program) (t : Nat) : Bool := match P.underlying t with | some (.interface _) => true | _ => false
theorem ifaceB_out {t : Nat} (h : ifaceB P t = true) : ∃ ms, P.underlying t = some (.interface ms) := by
  unfold ifaceB at h
  split at h
  · rename_i ms hm; exact ⟨ms, hm⟩
  · cases h
theorem eq_nil0 (n : Nat) (t : TypeId) (w : World) (ht : ifaceB P t = true) : (Op.equalIn (n + 1) t .nilIface .nilIface).run P w = .ok true w := by
  obtain ⟨ms, hm⟩ := ifaceB_out ht
  simp [Op.equalIn, underlying, hm]
theorem eq_nil1 (n : Nat) (t ti : TypeId) (v : Value) (w : World) (ht : ifaceB P t = true) : (Op.equalIn (n + 1) t (.iface ti v) .nilIface).run P w = .ok false w := by
  obtain ⟨ms, hm⟩ := ifaceB_out ht
  simp [Op.equalIn, underlying, hm]
theorem depth_succ : ∃ n, Op.maxDepth = n + 1 := ⟨9999, rfl⟩
theorem wl_neqNil0 (ht : ifaceB P t = true) (hx : a.eval x = .nilIface) (h : WL P ops Q rest (a.put d (.bool false)) w) : WL P ops Q (⟨d, .binOp .neq t x (.const .nilIface) u, ty, pos, af, none⟩ :: rest) a w := by
  refine zaL rfl (v := .bool false) (w' := w) ?_ h
  obtain ⟨n, hn⟩ := depth_succ
  simp [execOp, eqGuard, binOp, hx, zai, Op.equal, hn, eq_nil0 n t w ht]
theorem wl_neqNil1 {ti : TypeId} {v : Value} (ht : ifaceB P t = true) (hx : a.eval x = .iface ti v) (h : WL P ops Q rest (a.put d (.bool true)) w) : WL P ops Q (⟨d, .binOp .neq t x (.const .nilIface) u, ty, pos, af, none⟩ :: rest) a w := by
  refine zaL rfl (v := .bool true) (w' := w) ?_ h
  obtain ⟨n, hn⟩ := depth_succ
  simp [execOp, eqGuard, binOp, hx, zai, Op.equal, hn, eq_nil1 n t ti v w ht]
end
end Go.Proofs.YtidlpocllgleiaaGreatDoor
namespace Go.Proofs.YtidlpocllgleiaaGreatDoor
set_option linter.all false
open Go.RowKit
set_option maxRecDepth 10000
set_option maxHeartbeats 1000000
section
variable {P : Program} {ops : Array Oper} {Q : Exit → Act → World → Prop} {a : Act} {w : World} {rest : List Oper} {d : Option Nat} {ty : TypeId} {pos : String} {af : Array Edge}
end
def AgP (flex : Bool) (ver : Int) (fs : List Fld) (bs : Bs) (w : World) (v : Value) (w' : World) : Prop := Chg (fun _ => False) w w' ∧
  ((zba flex ver fs bs = none ∧ v = .tuple #[.slice none 0 0, .bool false]) ∨ ∃ s r out, zba flex ver fs bs = some (s, r) ∧ v = .tuple #[out, .bool true] ∧ Own eB w' w.heap.size out (encPart flex ver fs s))
section
variable {y0 y1 y2 y3 y4 y5 y6 y7 y8 y9 y10 y11 y12 y13 y14 y15 y16 y17 y18 y19 y20 y21 y22 y23 y24 y25 y26 y27 y28 y29 y30 y31 y32 y33 y34 y35 y36 y37 y38 y39 : TypeId} {q0 q1 q2 q3 q4 q5 q6 q7 q8 q9 q10 q11 q12 q13 q14 q15 q16 q17 q18 q19 q20 q21 q22 q23 q24 q25 q26 q27 q28 q29 q30 q31 q32 q33 q34 q35 q36 q37 q38 q39 : String} {e0 e1 e2 e3 e4 e5 e6 e7 e8 e9 e10 e11 e12 e13 e14 e15 e16 e17 e18 e19 e20 e21 e22 e23 e24 e25 e26 e27 e28 e29 e30 e31 e32 e33 e34 e35 e36 e37 e38 e39 : Array Edge} {r0 r1 r2 r3 r4 r5 : Nat}
variable {us us1 us2 us3 us4 : Array TypeId}
def ReadsFrom (fn fr : FuncId) : Prop := ∀ {x y : Value} {w : World} {R : Value → World → Prop}, zaF Tryz.prog fr #[x, y, .bool false] w R → zaF Tryz.prog fn #[x, y] w R
end
end Go.Proofs.YtidlpocllgleiaaGreatDoor

import Derived.Test.YtidlpocllgleiaaGreatDoorZD
/-
What the proofs of the laws rest on, part ZE.
-/
namespace Go.Proofs.YtidlpocllgleiaaGreatDoor
set_option linter.all false
open Go.RowKit
set_option maxRecDepth 10000
set_option maxHeartbeats 1000000
section
variable {y0 y1 y2 y3 y4 y5 y6 y7 y8 y9 y10 y11 y12 y13 y14 y15 y16 y17 y18 y19 y20 y21 y22 y23 y24 y25 y26 y27 y28 y29 y30 y31 y32 y33 y34 y35 y36 y37 y38 y39 : TypeId} {q0 q1 q2 q3 q4 q5 q6 q7 q8 q9 q10 q11 q12 q13 q14 q15 q16 q17 q18 q19 q20 q21 q22 q23 q24 q25 q26 q27 q28 q29 q30 q31 q32 q33 q34 q35 q36 q37 q38 q39 : String} {e0 e1 e2 e3 e4 e5 e6 e7 e8 e9 e10 e11 e12 e13 e14 e15 e16 e17 e18 e19 e20 e21 e22 e23 e24 e25 e26 e27 e28 e29 e30 e31 e32 e33 e34 e35 e36 e37 e38 e39 : Array Edge} {r0 r1 r2 r3 r4 r5 : Nat}
variable {E : REnv} {m aS iS x t1 t2 t3 t4 ty tyE : Nat} {of : K} {sub : List Fld} {c : Code}
theorem el_val1 {zc : List Value} (hty : (decide (of ≠ .struct) && decide (of ≠ .list) && decide (ksz of = 1) && sliceB Tryz.prog ty 1 && sizeB Tryz.prog tyE 1) = true) (h : RvC E m x (kfR of) (rK of E.flex) c)
    (s1 : rsl E m [t1, t2, t3, t4] [7, aS, iS] = true) (s2 : [t1, t2, t3, t4].all (fun t => decide (t ≠ x)) = true) :
    ElC E m aS iS (eszR E of sub) (oneR E of sub) (repR E of sub) zc
      (.seq c (.region r0 #[⟨some t1, .move (.tmp aS), y0, q0, e0, none⟩, ⟨some t2, .move (.tmp iS), y1, q1, e1, none⟩, ⟨some t3, .move (.tmp x), y2, q2, e2, none⟩, ⟨some t4, .indexAddr ty (.tmp t1) (.tmp t2), y3, q3, e3, none⟩, ⟨none, .store tyE (.tmp t4) (.tmp t3), y4, q4, e4, none⟩] false)) := by
  have e : eszR E of sub = ksz of := by
    cases of <;> first | rfl | (exfalso; simp at hty)
  rw [e]
  exact el_val hty h s1 s2
end
section
variable {y0 y1 y2 y3 y4 y5 y6 y7 y8 y9 y10 y11 y12 y13 y14 y15 y16 y17 y18 y19 y20 y21 y22 y23 y24 y25 y26 y27 y28 y29 y30 y31 y32 y33 y34 y35 y36 y37 y38 y39 : TypeId} {q0 q1 q2 q3 q4 q5 q6 q7 q8 q9 q10 q11 q12 q13 q14 q15 q16 q17 q18 q19 q20 q21 q22 q23 q24 q25 q26 q27 q28 q29 q30 q31 q32 q33 q34 q35 q36 q37 q38 q39 : String} {e0 e1 e2 e3 e4 e5 e6 e7 e8 e9 e10 e11 e12 e13 e14 e15 e16 e17 e18 e19 e20 e21 e22 e23 e24 e25 e26 e27 e28 e29 e30 e31 e32 e33 e34 e35 e36 e37 e38 e39 : Array Edge} {r0 r1 r2 r3 r4 r5 : Nat}
variable {E : REnv} {m sS k0 i I x y t1 t2 t3 t4 t5 T ty idx : Nat} {us : Array TypeId} {f : Fld} {fs : List Fld} {pre : S → Prop} {sem : Bs → Option (D × Bs)} {fn : FuncId} {a1 a2 a3 a4 a5 : Int} {of : K} {sub : List Fld} {c : Code}
end
end Go.Proofs.YtidlpocllgleiaaGreatDoor
namespace Go.Proofs.YtidlpocllgleiaaGreatDoor
set_option linter.all false
open Go.RowKit
set_option maxRecDepth 10000
set_option maxHeartbeats 2000000
section
variable {y0 y1 y2 y3 y4 y5 y6 y7 y8 y9 y10 y11 y12 y13 y14 y15 y16 y17 y18 y19 y20 y21 y22 y23 y24 y25 y26 y27 y28 y29 y30 y31 y32 y33 y34 y35 y36 y37 y38 y39 : TypeId} {q0 q1 q2 q3 q4 q5 q6 q7 q8 q9 q10 q11 q12 q13 q14 q15 q16 q17 q18 q19 q20 q21 q22 q23 q24 q25 q26 q27 q28 q29 q30 q31 q32 q33 q34 q35 q36 q37 q38 q39 : String} {e0 e1 e2 e3 e4 e5 e6 e7 e8 e9 e10 e11 e12 e13 e14 e15 e16 e17 e18 e19 e20 e21 e22 e23 e24 e25 e26 e27 e28 e29 e30 e31 e32 e33 e34 e35 e36 e37 e38 e39 : Array Edge} {r0 r1 r2 r3 r4 r5 : Nat}
variable {r6 r7 r8 r9 r10 r11 r12 r13 r14 : Nat}
variable {y40 y41 y42 y43 y44 y45 y46 y47 y48 y49 y50 y51 y52 y53 y54 : TypeId} {q40 q41 q42 q43 q44 q45 q46 q47 q48 q49 q50 q51 q52 q53 q54 : String} {e40 e41 e42 e43 e44 e45 e46 e47 e48 e49 e50 e51 e52 e53 e54 : Array Edge}
variable {E : REnv} {m mB sS k0 i I x y ys aS iS lS vS t1 t2 t3 t4 t5 t6 t7 t8 t9 t10 t11 t12 w1' w2' w3' w4' w5' u1 u2 u3 u4 u5 v1 v2 v3 v4 b1 b2 ug uo uc ui n1 n2 n3 n4 n5 n6 n7 un1 un2 : Nat} {fs sub : List Fld} {pre : S → Prop} {c body cl : Code} {us us2 us3 : Array TypeId} {fn : FuncId} {T ty ti idx ua : Nat} {a1 a2 a3 a4 a5 : Int} {of : K} {z : Value}
variable {z4 z5 : TypeId} {p4 p5 : String} {j4 j5 : Array Edge}
end
end Go.Proofs.YtidlpocllgleiaaGreatDoor
namespace Go.Proofs.YtidlpocllgleiaaGreatDoor
set_option linter.all false
open Go.RowKit
set_option maxRecDepth 10000
set_option maxHeartbeats 2000000
section
variable {y0 y1 y2 y3 y4 y5 y6 y7 y8 y9 y10 y11 y12 y13 y14 y15 y16 y17 y18 y19 y20 y21 y22 y23 y24 y25 y26 y27 y28 y29 y30 y31 y32 y33 y34 y35 y36 y37 y38 y39 : TypeId} {q0 q1 q2 q3 q4 q5 q6 q7 q8 q9 q10 q11 q12 q13 q14 q15 q16 q17 q18 q19 q20 q21 q22 q23 q24 q25 q26 q27 q28 q29 q30 q31 q32 q33 q34 q35 q36 q37 q38 q39 : String} {e0 e1 e2 e3 e4 e5 e6 e7 e8 e9 e10 e11 e12 e13 e14 e15 e16 e17 e18 e19 e20 e21 e22 e23 e24 e25 e26 e27 e28 e29 e30 e31 e32 e33 e34 e35 e36 e37 e38 e39 : Array Edge} {r0 r1 r2 r3 r4 r5 : Nat}
variable {r6 r7 r8 r9 r10 r11 r12 : Nat}
variable {E : REnv} {m mB sS k0 i I x y ys t1 t2 t3 t4 t5 t6 : Nat} {fs sub : List Fld} {c : Code} {us : Array TypeId} {fn : FuncId} {T idx : Nat} {a1 a2 a3 a4 a5 : Int} {of : K}
end
section
variable {y0 y1 y2 y3 y4 y5 y6 y7 y8 y9 y10 y11 y12 y13 y14 y15 y16 y17 y18 y19 y20 y21 y22 y23 y24 y25 y26 y27 y28 y29 y30 y31 y32 y33 y34 y35 y36 y37 y38 y39 : TypeId} {q0 q1 q2 q3 q4 q5 q6 q7 q8 q9 q10 q11 q12 q13 q14 q15 q16 q17 q18 q19 q20 q21 q22 q23 q24 q25 q26 q27 q28 q29 q30 q31 q32 q33 q34 q35 q36 q37 q38 q39 : String} {e0 e1 e2 e3 e4 e5 e6 e7 e8 e9 e10 e11 e12 e13 e14 e15 e16 e17 e18 e19 e20 e21 e22 e23 e24 e25 e26 e27 e28 e29 e30 e31 e32 e33 e34 e35 e36 e37 e38 e39 : Array Edge} {r0 r1 r2 r3 r4 r5 : Nat}
variable {E : REnv} {m x t1 : Nat} {us : Array TypeId} {a1 a2 a3 a4 a5 : Int} {of : K} {sub : List Fld}
end
end Go.Proofs.YtidlpocllgleiaaGreatDoor
namespace Go.Proofs.YtidlpocllgleiaaGreatDoor
set_option linter.all false
open Go.RowKit
set_option maxRecDepth 10000
set_option maxHeartbeats 1000000
section
variable {y0 y1 y2 y3 y4 y5 y6 y7 y8 y9 y10 y11 y12 y13 y14 y15 y16 y17 y18 y19 y20 y21 y22 y23 y24 y25 y26 y27 y28 y29 y30 y31 y32 y33 y34 y35 y36 y37 y38 y39 : TypeId} {q0 q1 q2 q3 q4 q5 q6 q7 q8 q9 q10 q11 q12 q13 q14 q15 q16 q17 q18 q19 q20 q21 q22 q23 q24 q25 q26 q27 q28 q29 q30 q31 q32 q33 q34 q35 q36 q37 q38 q39 : String} {e0 e1 e2 e3 e4 e5 e6 e7 e8 e9 e10 e11 e12 e13 e14 e15 e16 e17 e18 e19 e20 e21 e22 e23 e24 e25 e26 e27 e28 e29 e30 e31 e32 e33 e34 e35 e36 e37 e38 e39 : Array Edge} {r0 r1 r2 r3 r4 r5 : Nat}
variable {E : REnv} {m x y t t1 t2 : Nat} {us : Array TypeId} {fn : FuncId} {sem : Bs → Option (Bs × Bs)} {c ca cb cu : Code} {a1 a2 a3 a4 a5 : Int} {of : K} {sub : List Fld}
end
end Go.Proofs.YtidlpocllgleiaaGreatDoor
namespace Go.Proofs.YtidlpocllgleiaaGreatDoor
set_option linter.all false
open Go.RowKit
set_option maxRecDepth 10000
set_option maxHeartbeats 2000000
section
variable {y0 y1 y2 y3 y4 y5 y6 y7 y8 y9 y10 y11 y12 y13 y14 y15 y16 y17 y18 y19 y20 y21 y22 y23 y24 y25 y26 y27 y28 y29 y30 y31 y32 y33 y34 y35 y36 y37 y38 y39 : TypeId} {q0 q1 q2 q3 q4 q5 q6 q7 q8 q9 q10 q11 q12 q13 q14 q15 q16 q17 q18 q19 q20 q21 q22 q23 q24 q25 q26 q27 q28 q29 q30 q31 q32 q33 q34 q35 q36 q37 q38 q39 : String} {e0 e1 e2 e3 e4 e5 e6 e7 e8 e9 e10 e11 e12 e13 e14 e15 e16 e17 e18 e19 e20 e21 e22 e23 e24 e25 e26 e27 e28 e29 e30 e31 e32 e33 e34 e35 e36 e37 e38 e39 : Array Edge} {r0 r1 r2 r3 r4 r5 : Nat}
variable {r6 r7 r8 r9 r10 r11 r12 : Nat} {z5 : TypeId} {p5 : String} {j5 : Array Edge}
variable {E : REnv} {m sS k0 i x y ys t1 t2 t3 t4 t5 t6 u u1 u2 u3 u4 v1 v2 v3 v4 v5 v6 v7 : Nat} {fs sub : List Fld} {c : Code} {us us2 us3 : Array TypeId} {fn : FuncId} {T T2 idx tp : Nat} {a1 a2 a3 a4 a5 : Int} {of : K}
end
end Go.Proofs.YtidlpocllgleiaaGreatDoor

import Derived.Test.YtidlpocllgleiaaGreatDoorZN
import Derived.Test.YtidlpocllgleiaaGreatDoorZL
/-
What the proofs of the laws rest on, part ZX.
-/
namespace Go.Proofs.YtidlpocllgleiaaGreatDoor
set_option linter.all false
open Go.RowKit
set_option maxRecDepth 10000
set_option maxHeartbeats 2000000
section
variable {P : Program} {ops : Array Oper} {S : World → Prop} {Q : Act → World → Prop} {a : Act} {w w0 : World} {r : List (Bool × Nat)} {d : Option Nat} {ty : TypeId} {pos : String} {af : Array Edge} {i : Nat}
end
section
variable {y0 y1 y2 y3 y4 y5 y6 y7 y8 y9 y10 y11 y12 y13 y14 y15 y16 y17 y18 y19 y20 y21 y22 y23 y24 y25 y26 y27 y28 y29 y30 y31 y32 y33 y34 y35 y36 y37 y38 y39 : TypeId} {q0 q1 q2 q3 q4 q5 q6 q7 q8 q9 q10 q11 q12 q13 q14 q15 q16 q17 q18 q19 q20 q21 q22 q23 q24 q25 q26 q27 q28 q29 q30 q31 q32 q33 q34 q35 q36 q37 q38 q39 : String} {e0 e1 e2 e3 e4 e5 e6 e7 e8 e9 e10 e11 e12 e13 e14 e15 e16 e17 e18 e19 e20 e21 e22 e23 e24 e25 e26 e27 e28 e29 e30 e31 e32 e33 e34 e35 e36 e37 e38 e39 : Array Edge} {r0 r1 r2 r3 r4 r5 : Nat}
variable {y40 y41 y42 y43 y44 y45 y46 y47 y48 y49 y50 y51 y52 y53 y54 y55 y56 y57 y58 y59 : TypeId} {q40 q41 q42 q43 q44 q45 q46 q47 q48 q49 q50 q51 q52 q53 q54 q55 q56 q57 q58 q59 : String} {e40 e41 e42 e43 e44 e45 e46 e47 e48 e49 e50 e51 e52 e53 e54 e55 e56 e57 e58 e59 : Array Edge}
variable {us us1 us2 us3 us4 us5 us6 us7 us8 us9 : Array TypeId} {r6 r7 r8 r9 r10 r11 : Nat} {z1 z2 z3 : TypeId} {p1 p2 p3 : String} {j1 j2 j3 : Array Edge}
end
end Go.Proofs.YtidlpocllgleiaaGreatDoor

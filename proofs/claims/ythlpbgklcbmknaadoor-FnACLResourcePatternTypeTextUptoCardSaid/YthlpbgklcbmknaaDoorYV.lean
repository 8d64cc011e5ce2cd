import Derived.Test.YthlpbgklcbmknaaDoorYA
import Derived.Test.YthlpbgklcbmknaaDoorYS
import Derived.Test.YthlpbgklcbmknaaDoorProg
import Derived.Shelf.Lays
import Derived.Laws.IdiomStrings
import Derived.Laws.Slices
import Derived.Laws.Strings
import Derived.Lib.Space
import Derived.Lib.Case
import Derived.Shelf.Strings.TrimSpace
import Derived.Shelf.Strings.OnBuilder
import Derived.Lib.AppendIntMem
/-
What the proofs of the laws rest on, part YV.
-/
namespace Go.Proofs.YthlpbgklcbmknaaDoor
open Go.Shelf
def Tryd.sl163_ren : Go.Shelf.Ren := ⟨fun | 163 => 28 | 237 => 31 | 199 => 32 | 238 => 33 | 272 => 40 | 261 => 41 | 273 => 42 | 197 => 43 | 315 => 50 | 311 => 51 | 312 => 52 | 271 => 53 | 260 => 54 | 120 => 59 | n => n, fun | 9 => 9 | 37 => 26 | 3 => 3 | 0 => 0 | 5 => 5 | 4 => 4 | 40 => 63 | 119 => 64 | 21 => 21 | 51 => 74 | 141 => 76 | 105 => 78 | 196 => 88 | 193 => 85 | 198 => 91 | 49 => 89 | 194 => 86 | 201 => 94 | 226 => 103 | 46 => 104 | 227 => 105 | 139 => 108 | 138 => 107 | n => n, fun | 0 => 0 | 6 => 1 | 3 => 3 | 4 => 4 | n => n⟩
theorem Tryd.sl163 : Go.Proofs.Lays.n163 Tryd.prog Tryd.sl163_ren where
  mixed := by kernel_rfl
  f120 := Tryd.func59.trans (congrArg some (by kernel_rfl))
  f163 := Tryd.func28.trans (congrArg some (by kernel_rfl))
  f197 := Tryd.func43.trans (congrArg some (by kernel_rfl))
  f199 := Tryd.func32.trans (congrArg some (by kernel_rfl))
  f237 := Tryd.func31.trans (congrArg some (by kernel_rfl))
  f238 := Tryd.func33.trans (congrArg some (by kernel_rfl))
  f260 := Tryd.func54.trans (congrArg some (by kernel_rfl))
  f261 := Tryd.func41.trans (congrArg some (by kernel_rfl))
  f271 := Tryd.func53.trans (congrArg some (by kernel_rfl))
  f272 := Tryd.func40.trans (congrArg some (by kernel_rfl))
  f273 := Tryd.func42.trans (congrArg some (by kernel_rfl))
  f311 := Tryd.func51.trans (congrArg some (by kernel_rfl))
  f312 := Tryd.func52.trans (congrArg some (by kernel_rfl))
  f315 := Tryd.func50.trans (congrArg some (by kernel_rfl))
  t0 := Tryd.underlying0
  a0 := Tryd.isAgg0
  z0 := Tryd.sizeOf0
  v0 := Tryd.zeroValue0
  t3 := Tryd.underlying3
  a3 := Tryd.isAgg3
  z3 := Tryd.sizeOf3
  v3 := Tryd.zeroValue3
  t4 := Tryd.underlying4
  a4 := Tryd.isAgg4
  z4 := Tryd.sizeOf4
  v4 := Tryd.zeroValue4
  t5 := Tryd.underlying5
  a5 := Tryd.isAgg5
  z5 := Tryd.sizeOf5
  v5 := Tryd.zeroValue5
  t9 := Tryd.underlying9
  a9 := Tryd.isAgg9
  z9 := Tryd.sizeOf9
  v9 := Tryd.zeroValue9
  t21 := Tryd.underlying21
  a21 := Tryd.isAgg21
  z21 := Tryd.sizeOf21
  v21 := Tryd.zeroValue21
  t37 := Tryd.underlying26
  a37 := Tryd.isAgg26
  z37 := Tryd.sizeOf26
  v37 := Tryd.zeroValue26
  t40 := Tryd.underlying63
  a40 := Tryd.isAgg63
  z40 := Tryd.sizeOf63
  v40 := Tryd.zeroValue63
  t46 := Tryd.underlying104
  a46 := Tryd.isAgg104
  z46 := Tryd.sizeOf104
  v46 := Tryd.zeroValue104
  t49 := Tryd.underlying89
  a49 := Tryd.isAgg89
  z49 := Tryd.sizeOf89
  v49 := Tryd.zeroValue89
  t51 := Tryd.underlying74
  a51 := Tryd.isAgg74
  z51 := Tryd.sizeOf74
  v51 := Tryd.zeroValue74
  t105 := Tryd.underlying78
  a105 := Tryd.isAgg78
  z105 := Tryd.sizeOf78
  v105 := Tryd.zeroValue78
  t119 := Tryd.underlying64
  a119 := Tryd.isAgg64
  z119 := Tryd.sizeOf64
  t138 := Tryd.underlying107
  a138 := Tryd.isAgg107
  z138 := Tryd.sizeOf107
  v138 := Tryd.zeroValue107
  t139 := Tryd.underlying108
  a139 := Tryd.isAgg108
  z139 := Tryd.sizeOf108
  v139 := Tryd.zeroValue108
  t141 := Tryd.underlying76
  a141 := Tryd.isAgg76
  z141 := Tryd.sizeOf76
  v141 := Tryd.zeroValue76
  t193 := Tryd.underlying85
  a193 := Tryd.isAgg85
  z193 := Tryd.sizeOf85
  v193 := Tryd.zeroValue85
  t194 := Tryd.underlying86
  a194 := Tryd.isAgg86
  z194 := Tryd.sizeOf86
  v194 := Tryd.zeroValue86
  t196 := Tryd.underlying88
  a196 := Tryd.isAgg88
  z196 := Tryd.sizeOf88
  v196 := Tryd.zeroValue88
  t198 := Tryd.underlying91
  a198 := Tryd.isAgg91
  z198 := Tryd.sizeOf91
  v198 := Tryd.zeroValue91
  t201 := Tryd.underlying94
  a201 := Tryd.isAgg94
  z201 := Tryd.sizeOf94
  v201 := Tryd.zeroValue94
  t226 := Tryd.underlying103
  a226 := Tryd.isAgg103
  z226 := Tryd.sizeOf103
  v226 := Tryd.zeroValue103
  t227 := Tryd.underlying105
  a227 := Tryd.isAgg105
  z227 := Tryd.sizeOf105
  v227 := Tryd.zeroValue105
  g0 := by kernel_rfl
  g3 := by kernel_rfl
  g4 := by kernel_rfl
  g6 := by kernel_rfl
def Tryd.sl159_ren : Go.Shelf.Ren := ⟨fun | 159 => 29 | 165 => 34 | 166 => 35 | 167 => 36 | 169 => 37 | 230 => 38 | 204 => 39 | 240 => 44 | 241 => 45 | 197 => 43 | 118 => 46 | 168 => 47 | 270 => 48 | 262 => 49 | 276 => 55 | 277 => 56 | 260 => 54 | 242 => 57 | 313 => 58 | 278 => 60 | 274 => 61 | 275 => 62 | n => n, fun | 9 => 9 | 4 => 4 | 3 => 3 | 5 => 5 | 72 => 67 | 0 => 0 | 76 => 69 | 75 => 40 | 107 => 73 | 70 => 65 | 20 => 20 | 37 => 26 | 127 => 80 | 21 => 21 | 105 => 78 | 164 => 96 | 162 => 102 | 203 => 100 | 119 => 64 | 46 => 104 | 139 => 108 | 138 => 107 | 51 => 74 | 160 => 109 | 208 => 115 | 206 => 113 | 80 => 50 | n => n, fun | 13 => 2 | 3 => 3 | 4 => 4 | n => n⟩
theorem Tryd.sl159 : Go.Proofs.Lays.n159 Tryd.prog Tryd.sl159_ren where
  mixed := by kernel_rfl
  f118 := Tryd.func46.trans (congrArg some (by kernel_rfl))
  f159 := Tryd.func29.trans (congrArg some (by kernel_rfl))
  f165 := Tryd.func34.trans (congrArg some (by kernel_rfl))
  f166 := Tryd.func35.trans (congrArg some (by kernel_rfl))
  f167 := Tryd.func36.trans (congrArg some (by kernel_rfl))
  f168 := Tryd.func47.trans (congrArg some (by kernel_rfl))
  f169 := Tryd.func37.trans (congrArg some (by kernel_rfl))
  f197 := Tryd.func43.trans (congrArg some (by kernel_rfl))
  f204 := Tryd.func39.trans (congrArg some (by kernel_rfl))
  f230 := Tryd.func38.trans (congrArg some (by kernel_rfl))
  f240 := Tryd.func44.trans (congrArg some (by kernel_rfl))
  f241 := Tryd.func45.trans (congrArg some (by kernel_rfl))
  f242 := Tryd.func57.trans (congrArg some (by kernel_rfl))
  f260 := Tryd.func54.trans (congrArg some (by kernel_rfl))
  f262 := Tryd.func49.trans (congrArg some (by kernel_rfl))
  f270 := Tryd.func48.trans (congrArg some (by kernel_rfl))
  f274 := Tryd.func61.trans (congrArg some (by kernel_rfl))
  f275 := Tryd.func62.trans (congrArg some (by kernel_rfl))
  f276 := Tryd.func55.trans (congrArg some (by kernel_rfl))
  f277 := Tryd.func56.trans (congrArg some (by kernel_rfl))
  f278 := Tryd.func60.trans (congrArg some (by kernel_rfl))
  f313 := Tryd.func58.trans (congrArg some (by kernel_rfl))
  t0 := Tryd.underlying0
  a0 := Tryd.isAgg0
  z0 := Tryd.sizeOf0
  v0 := Tryd.zeroValue0
  t3 := Tryd.underlying3
  a3 := Tryd.isAgg3
  z3 := Tryd.sizeOf3
  v3 := Tryd.zeroValue3
  t4 := Tryd.underlying4
  a4 := Tryd.isAgg4
  z4 := Tryd.sizeOf4
  v4 := Tryd.zeroValue4
  t5 := Tryd.underlying5
  a5 := Tryd.isAgg5
  z5 := Tryd.sizeOf5
  v5 := Tryd.zeroValue5
  t9 := Tryd.underlying9
  a9 := Tryd.isAgg9
  z9 := Tryd.sizeOf9
  v9 := Tryd.zeroValue9
  t20 := Tryd.underlying20
  a20 := Tryd.isAgg20
  z20 := Tryd.sizeOf20
  v20 := Tryd.zeroValue20
  t21 := Tryd.underlying21
  a21 := Tryd.isAgg21
  z21 := Tryd.sizeOf21
  v21 := Tryd.zeroValue21
  t37 := Tryd.underlying26
  a37 := Tryd.isAgg26
  z37 := Tryd.sizeOf26
  v37 := Tryd.zeroValue26
  t46 := Tryd.underlying104
  a46 := Tryd.isAgg104
  z46 := Tryd.sizeOf104
  v46 := Tryd.zeroValue104
  t51 := Tryd.underlying74
  a51 := Tryd.isAgg74
  z51 := Tryd.sizeOf74
  v51 := Tryd.zeroValue74
  t70 := Tryd.underlying65
  a70 := Tryd.isAgg65
  z70 := Tryd.sizeOf65
  v70 := Tryd.zeroValue65
  t72 := Tryd.underlying67
  a72 := Tryd.isAgg67
  z72 := Tryd.sizeOf67
  v72 := Tryd.zeroValue67
  t75 := Tryd.underlying40
  a75 := Tryd.isAgg40
  z75 := Tryd.sizeOf40
  v75 := Tryd.zeroValue40
  t76 := Tryd.underlying69
  a76 := Tryd.isAgg69
  z76 := Tryd.sizeOf69
  v76 := Tryd.zeroValue69
  t105 := Tryd.underlying78
  a105 := Tryd.isAgg78
  z105 := Tryd.sizeOf78
  v105 := Tryd.zeroValue78
  t107 := Tryd.underlying73
  a107 := Tryd.isAgg73
  z107 := Tryd.sizeOf73
  v107 := Tryd.zeroValue73
  t119 := Tryd.underlying64
  a119 := Tryd.isAgg64
  z119 := Tryd.sizeOf64
  t127 := Tryd.underlying80
  a127 := Tryd.isAgg80
  z127 := Tryd.sizeOf80
  v127 := Tryd.zeroValue80
  t138 := Tryd.underlying107
  a138 := Tryd.isAgg107
  z138 := Tryd.sizeOf107
  v138 := Tryd.zeroValue107
  t139 := Tryd.underlying108
  a139 := Tryd.isAgg108
  z139 := Tryd.sizeOf108
  v139 := Tryd.zeroValue108
  t160 := Tryd.underlying109
  a160 := Tryd.isAgg109
  z160 := Tryd.sizeOf109
  v160 := Tryd.zeroValue109
  t162 := Tryd.underlying102
  a162 := Tryd.isAgg102
  z162 := Tryd.sizeOf102
  v162 := Tryd.zeroValue102
  t164 := Tryd.underlying96
  a164 := Tryd.isAgg96
  z164 := Tryd.sizeOf96
  v164 := Tryd.zeroValue96
  t203 := Tryd.underlying100
  a203 := Tryd.isAgg100
  z203 := Tryd.sizeOf100
  v203 := Tryd.zeroValue100
  t206 := Tryd.underlying113
  a206 := Tryd.isAgg113
  z206 := Tryd.sizeOf113
  v206 := Tryd.zeroValue113
  t208 := Tryd.underlying115
  a208 := Tryd.isAgg115
  z208 := Tryd.sizeOf115
  v208 := Tryd.zeroValue115
  g3 := by kernel_rfl
  g4 := by kernel_rfl
  g13 := by kernel_rfl
end Go.Proofs.YthlpbgklcbmknaaDoor
namespace Go.Proofs.YthlpbgklcbmknaaDoor
set_option linter.all false
open Go.RowKit
set_option maxRecDepth 10000
set_option maxHeartbeats 1000000
theorem i64_id (n : Int) (h : -9223372036854775808 ≤ n ∧ n ≤ 9223372036854775807) : IntKind.i64.wrap n = n := by rw [IntKind.wrap_i64]; omega
theorem wl_text {P : Program} {ops : Array Oper} {Q : Exit → Act → World → Prop} {a : Act} {w : World} {rest : List Oper} {d : Option Nat} {ty : TypeId} {pos : String} {af : Array Edge} {s t e : TypeId} {x : Operand} {oa : Option Addr} {l : List UInt8} {cap : Nat} {G : Nat → Prop}
    (hT : ByteSl P s e) (ht : strB P t = true) (hx : a.eval x = .slice oa l.length cap) (hb : zah w G oa l)
    (h : WL P ops Q rest (a.put d (.string ⟨l.toArray⟩)) w) : WL P ops Q (⟨d, .convert s t x, ty, pos, af, none⟩ :: rest) a w := by
  refine wl_val rfl ?_ h
  have hr : (convert s t (.slice oa l.length cap)).run P w = .ok (.string ⟨l.toArray⟩) w := by
    cases oa with
    | none =>
      have hl : l = [] := by rcases hb with h | ⟨_, _, _, _, h, _⟩ <;> first | exact h | cases h
      subst hl
      rw [run_convert_bytes_string w s t e none _ cap hT.ht hT.he (strB_eq ht)]
      rfl
    | some p =>
      refine run_convert_bytes_back w s t e p cap l hT.ht hT.he (strB_eq ht) fun j hj => ?_
      exact hb.cells j _ (by simp [byteV, hj])
  simp only [execOp, Sem.run_bind, hx, hr]; rfl
section
variable {P : Program} {ops : Array Oper} {Q : Exit → Act → World → Prop} {a : Act} {w : World} {rest : List Oper} {d : Option Nat} {ty : TypeId} {pos : String} {af : Array Edge} {x : Operand} {t u : TypeId}
def ifaceB (P : Program) (t : Nat) : Bool := match P.underlying t with | some (.interface _) => true | _ => false
theorem ifaceB_out {t : Nat} (h : ifaceB P t = true) : ∃ ms, P.underlying t = some (.interface ms) := by
  unfold ifaceB at h
  split at h
  · rename_i ms hm; exact ⟨ms, hm⟩
  · cases h
theorem eq_nil0 (n : Nat) (t : TypeId) (w : World) (ht : ifaceB P t = true) : (Op.equalIn (n + 1) t .nilIface .nilIface).run P w = .ok true w := by
  obtain ⟨ms, hm⟩ := ifaceB_out ht
  simp [Op.equalIn, underlying, hm]
theorem eq_nil1 (n : Nat) (t ti : TypeId) (v : Value) (w : World) (ht : ifaceB P t = true) : (Op.equalIn (n + 1) t (.iface ti v) .nilIface).run P w = .ok false w := by
  obtain ⟨ms, hm⟩ := ifaceB_out ht
  simp [Op.equalIn, underlying, hm]
theorem depth_succ : ∃ n, Op.maxDepth = n + 1 := ⟨9999, rfl⟩
theorem wl_neqNil0 (ht : ifaceB P t = true) (hx : a.eval x = .nilIface) (h : WL P ops Q rest (a.put d (.bool false)) w) : WL P ops Q (⟨d, .binOp .neq t x (.const .nilIface) u, ty, pos, af, none⟩ :: rest) a w := by
  refine wl_val rfl (v := .bool false) (w' := w) ?_ h
  obtain ⟨n, hn⟩ := depth_succ
  simp [execOp, eqGuard, binOp, hx, eval_const, Op.equal, hn, eq_nil0 n t w ht]
theorem wl_neqNil1 {ti : TypeId} {v : Value} (ht : ifaceB P t = true) (hx : a.eval x = .iface ti v) (h : WL P ops Q rest (a.put d (.bool true)) w) : WL P ops Q (⟨d, .binOp .neq t x (.const .nilIface) u, ty, pos, af, none⟩ :: rest) a w := by
  refine wl_val rfl (v := .bool true) (w' := w) ?_ h
  obtain ⟨n, hn⟩ := depth_succ
  simp [execOp, eqGuard, binOp, hx, eval_const, Op.equal, hn, eq_nil1 n t ti v w ht]
end
end Go.Proofs.YthlpbgklcbmknaaDoor
namespace Go.Proofs.YthlpbgklcbmknaaDoor
set_option linter.all false
open Go
abbrev Bs' := List UInt8
def sepB (b : UInt8) : Bool := b == 46 || b == 95 || b == 45
def rmB (c : UInt8) (l : Bs') : Bs' := l.filter (· != c)
def normS (l : Bs') : Bs' := Lib.trimSpace ((l.map Lib.lowerB).filter fun b => !sepB b)
def normP (l : Bs') : Bs' := Lib.toLowerA (Lib.trimSpace (rmB 45 (rmB 95 (rmB 46 l))))
theorem lower_all : ∀ n : _root_.Fin 256, (sepB (Lib.lowerB (UInt8.ofNat n.val)) = sepB (UInt8.ofNat n.val)) ∧ (Lib.isSp (Lib.lowerB (UInt8.ofNat n.val)) = Lib.isSp (UInt8.ofNat n.val)) := by decide +kernel
theorem lower_sep (b : UInt8) : sepB (Lib.lowerB b) = sepB b := by
  have := (lower_all ⟨b.toNat, b.toNat_lt⟩).1
  simpa using this
theorem lower_sp (b : UInt8) : Lib.isSp (Lib.lowerB b) = Lib.isSp b := by
  have := (lower_all ⟨b.toNat, b.toNat_lt⟩).2
  simpa using this
theorem dropWhile_map {p : UInt8 → Bool} {f : UInt8 → UInt8} (h : ∀ b, p (f b) = p b) : ∀ l : Bs', (l.map f).dropWhile p = (l.dropWhile p).map f
  | [] => rfl
  | b :: r => by
    rw [List.map_cons, List.dropWhile_cons, List.dropWhile_cons, h]
    split
    · exact dropWhile_map h r
    · rfl
theorem trim_map (l : Bs') : Lib.trimSpace (l.map Lib.lowerB) = (Lib.trimSpace l).map Lib.lowerB := by
  unfold Lib.trimSpace
  rw [dropWhile_map lower_sp, ← List.map_reverse, dropWhile_map lower_sp, ← List.map_reverse]
theorem norm_eq (l : Bs') : normP l = normS l := by
  unfold normP normS rmB Lib.toLowerA
  rw [← trim_map]
  congr 1
  rw [List.filter_filter, List.filter_filter, List.filter_map]
  congr 1
  apply List.filter_congr
  intro b _
  simp only [Function.comp, lower_sep]
  unfold sepB
  cases h1 : b == 46 <;> cases h2 : b == 95 <;> cases h3 : b == 45 <;> simp [bne, h1, h2, h3]
end Go.Proofs.YthlpbgklcbmknaaDoor
namespace Go.Proofs.YthlpbgklcbmknaaDoor
set_option linter.all false
open Go.RowKit
set_option maxRecDepth 10000
set_option maxHeartbeats 1000000
abbrev strV (l : Bs') : Value := .string ⟨l.toArray⟩
theorem zag (l : Bs') : (⟨l.toArray⟩ : ByteArray).size = l.length := by simp [ByteArray.size]
theorem str_extract (l : Bs') (i j : Nat) (hj : j ≤ l.length) : (⟨l.toArray⟩ : ByteArray).extract i j = ⟨((l.take j).drop i).toArray⟩ := by
  apply ByteArray.ext
  simp [ByteArray.data_extract, List.drop_take]
section
variable {P : Program} {ops : Array Oper} {Q : Exit → Act → World → Prop} {a : Act} {w : World} {rest : List Oper} {d : Option Nat} {ty : TypeId} {pos : String} {af : Array Edge} {t u : TypeId} {x y : Operand} {l l' : Bs'}
theorem sliceAt_str {lo hi mx : Option Value} {v : Value} {w : World} (ht : strB P t = true) : (Instr.sliceAt t v lo hi mx).run P w = (Instr.slice t v lo hi mx).run P w := by
  unfold Instr.sliceAt
  rw [Sem.run_bind, run_underlying (strB_eq ht)]
  rfl
theorem wl_strSl {i j : Nat} (ht : strB P t = true) (hx : a.eval x = strV l) {yi yj : Operand} (hi : a.eval yi = .int .i64 i) (hj : a.eval yj = .int .i64 j) (h1 : i ≤ j) (h2 : j ≤ l.length) (h : WL P ops Q rest (a.put d (strV ((l.take j).drop i))) w) :
    WL P ops Q (⟨d, .slice t x (some yi) (some yj) none, ty, pos, af, none⟩ :: rest) a w := by
  refine wl_val rfl ?_ h
  have hr := run_slice_string (P := P) w t ⟨l.toArray⟩ .i64 .i64 (i : Int) (j : Int) (strB_eq ht) (by omega) (by omega) (by rw [zag]; omega)
  simp only [Int.toNat_natCast, str_extract l i j h2] at hr
  have hr' : (Instr.slice t (strV l) (some (.int .i64 (i : Int))) (some (.int .i64 (j : Int))) none).run P w = .ok (strV ((l.take j).drop i)) w := hr
  simp only [execOp, Option.map_some, Option.map_none, hx, hi, hj, Sem.run_bind]
  rw [show (Instr.sliceAt t (strV l) (some (.int .i64 (i : Int))) (some (.int .i64 (j : Int))) none).run P w = .ok (strV ((l.take j).drop i)) w by rw [sliceAt_str ht]; exact hr']
  rfl
theorem wl_strTo {j : Nat} (ht : strB P t = true) (hx : a.eval x = strV l) {yj : Operand} (hj : a.eval yj = .int .i64 j) (h2 : j ≤ l.length) (h : WL P ops Q rest (a.put d (strV (l.take j))) w) :
    WL P ops Q (⟨d, .slice t x none (some yj) none, ty, pos, af, none⟩ :: rest) a w := by
  refine wl_val rfl ?_ h
  have hr := run_slice_string_h (P := P) w t ⟨l.toArray⟩ (strB_eq ht) .i64 (j : Int) (by omega) (by rw [zag]; omega)
  simp only [Int.toNat_natCast, str_extract l 0 j h2, List.drop_zero] at hr
  simp only [execOp, Option.map_some, Option.map_none, hx, hj, Sem.run_bind]
  rw [show (Instr.sliceAt t (strV l) none (some (.int .i64 (j : Int))) none).run P w = .ok (strV (l.take j)) w by rw [sliceAt_str ht]; exact hr]
  rfl
theorem wl_strFrom {i : Nat} (ht : strB P t = true) (hx : a.eval x = strV l) {yi : Operand} (hi : a.eval yi = .int .i64 i) (h2 : i ≤ l.length) (h : WL P ops Q rest (a.put d (strV (l.drop i))) w) :
    WL P ops Q (⟨d, .slice t x (some yi) none none, ty, pos, af, none⟩ :: rest) a w := by
  refine wl_val rfl ?_ h
  have hr := run_slice_string_l (P := P) w t ⟨l.toArray⟩ (strB_eq ht) .i64 (i : Int) (by omega) (by rw [zag]; omega)
  simp only [Int.toNat_natCast, zag, str_extract l i l.length (Nat.le_refl _), List.take_length] at hr
  simp only [execOp, Option.map_some, Option.map_none, hx, hi, Sem.run_bind]
  rw [show (Instr.sliceAt t (strV l) (some (.int .i64 (i : Int))) none none).run P w = .ok (strV (l.drop i)) w by rw [sliceAt_str ht]; exact hr]
  rfl
theorem wl_strEq {tt : TypeId} (hx : a.eval x = strV l) (hy : a.eval y = strV l') (h : WL P ops Q rest (a.put d (.bool (l == l'))) w) : WL P ops Q (⟨d, .binOp .eql t x y tt, ty, pos, af, none⟩ :: rest) a w := by
  refine wl_val rfl ?_ h
  simp only [execOp, eqGuard, hx, hy]
  simp [binOp_string_eql]
end
def findB (c : UInt8) : Bs' → Nat → Option Nat
  | [], _ => none
  | b :: r, i => if b = c then some i else findB c r (i + 1)
theorem findB_some : ∀ {c : UInt8} {l : Bs'} {i k : Nat}, findB c l i = some k → ∃ j, k = i + j ∧ j < l.length ∧ (l.take j).all (· != c) = true ∧ l[j]? = some c
  | c, [], i, k, h => by simp [findB] at h
  | c, b :: r, i, k, h => by
    unfold findB at h
    split at h
    · rename_i hb
      simp only [Option.some.injEq] at h
      exact ⟨0, by omega, by simp, by simp, by simp [hb]⟩
    · rename_i hb
      obtain ⟨j, h1, h2, h3, h4⟩ := findB_some h
      refine ⟨j + 1, by omega, by simp only [List.length_cons]; omega, ?_, by simpa using h4⟩
      simp only [List.take_succ_cons, List.all_cons, h3, Bool.and_true]
      simp [bne, hb]
theorem findB_none : ∀ {c : UInt8} {l : Bs'} {i : Nat}, findB c l i = none → l.all (· != c) = true
  | c, [], i, _ => rfl
  | c, b :: r, i, h => by
    unfold findB at h
    split at h
    · cases h
    · rename_i hb
      simp only [List.all_cons, findB_none h, Bool.and_true]
      simp [bne, hb]
theorem findB_step {c : UInt8} {l : Bs'} {i : Nat} {b : UInt8} (h : l[i]? = some b) : findB c (l.drop i) i = if b = c then some i else findB c (l.drop (i + 1)) (i + 1) := by
  obtain ⟨hi, he⟩ := List.getElem?_eq_some_iff.1 h
  rw [List.drop_eq_getElem_cons hi, he, findB]
def idxV : Option Nat → Value | none => .int .i64 (-1) | some k => .int .i64 k
theorem i64_one (i : Nat) (h : i < 9223372036854775807) : IntKind.i64.wrap ((i : Int) + 1) = ((i + 1 : Nat) : Int) := by rw [i64_id _ (by omega)]; omega
theorem zzIndex_c (l : Bs') (c : UInt8) (hl : l.length < 4611686018427387904) (w : World) : CallsR Tryd.prog 30 #[strV l, strV [c]] w fun v w' => v = idxV (findB c l 0) ∧ w' = w := by
  refine callsR_of Tryd.func30 rfl rfl Tryd.ntmps30 (by simp) ?_
  intro a hN hD ha
  have h0 : get a 0 = strV l := ha 0 _ rfl
  have h1 : get a 1 = strV [c] := ha 1 _ rfl
  refine wp_seq_k fun K hK => ?_; refine zab ?_; (repeat ((with_reducible refine zaf ?_ ?_ ?_); (· simp [evb, pvb, rnb, kb, hN, dyb, sdb] <;> omega); (· kernel_rfl); try simp only [evb, pvb, rnb, kb, hN, seval])); refine zaa ?_; refine hK _ _ ?_; clear hK K
  refine wp_seq_k fun K1 hK1 => ?_; refine wp_seq_k fun K2 hK2 => ?_
  refine zab ?_; (repeat ((with_reducible refine zaf ?_ ?_ ?_); (· simp [evb, pvb, rnb, kb, hN, dyb, sdb] <;> omega); (· kernel_rfl); try simp only [evb, pvb, rnb, kb, hN, seval])); refine zaa ?_; refine hK2 _ _ ?_; try clear hK2 K2
  refine wp_block ?_
  refine wp_loop (fun a' w' => ∃ i : Nat, i ≤ l.length ∧ a'.tmps.size = 25 ∧ a'.defers = [] ∧ get a' 0 = strV l ∧ get a' 1 = strV [c] ∧ get a' 5 = .int .i64 i ∧ findB c l 0 = findB c (l.drop i) i ∧ w' = w) (fun a' _ => l.length + 1 - (intOf (get a' 5)).toNat) ?_ ?_
  · exact ⟨0, Nat.zero_le _, by simp only [size_put, hN], by simp only [zad, hD], by simp only [evb, kb, hN, seval, h0], by simp only [evb, kb, hN, seval, h1], by simp only [evb, kb, hN, seval] <;> rfl, rfl, rfl⟩
  rintro a1 w1 ⟨i, hi, hN, hD, h0, h1, h5, hf, rfl⟩
  have hz1 : IntKind.i64.wrap ((i : Int) + (([c] : Bs').length : Int)) = ((i + 1 : Nat) : Int) := i64_one i (by omega)
  have hz2 : IntKind.i64.wrap ((i : Int) + 1) = ((i + 1 : Nat) : Int) := i64_one i (by omega)
  refine wp_seq_k fun K2 hK2 => ?_; refine wp_seq_k fun K3 hK3 => ?_; refine zab ?_; (repeat (first | ((with_reducible refine wl_q ?_ ?_ ?_ ?_); (· exact rfl); (· simp [evb, kb, hN, h0, h1, h5, zag, hz1, dyb, sdb] <;> omega); (· kernel_rfl); try simp only [evb, kb, hN, seval, pvb, h0, h1, h5, zag, hz1]) | ((with_reducible refine wl_lenS ?_ ?_ ?_); rotate_left 1; (· simp [evb, kb, hN, h0, h1, h5, zag, hz1, sdb]); rotate_left 1; (· kernel_rfl); try simp only [evb, kb, hN, seval, pvb, h0, h1, h5, zag, hz1])))
  by_cases hlt : i + 1 ≤ l.length
  case neg =>
    have ei : i = l.length := by omega
    subst ei
    have e1 : decide (((l.length + 1 : Nat) : Int) ≤ (l.length : Int)) = false := decide_eq_false (by omega)
    rw [e1]
    refine zaa ?_
    refine hK3 _ _ ?_; try clear hK3 K3
    refine wp_cond_false (by simp [evb, kb, hN, sdb]) ?_
    refine wp_exit ?_
    simp only [Exit.then, Exit.inBlock, if_pos]
    refine hK1 _ _ ?_; try clear hK1 K1
    refine wp_seq_k fun K hK => ?_; refine zab ?_; (repeat ((with_reducible refine zaf ?_ ?_ ?_); (· simp [evb, pvb, rnb, kb, hN, dyb, sdb] <;> omega); (· kernel_rfl); try simp only [evb, pvb, rnb, kb, hN, seval])); refine zaa ?_; refine hK _ _ ?_; clear hK K; refine wp_ret ⟨by simp [zad, hD], ?_⟩; simp only [evb, kb, hN, seval]
    refine ⟨?_, by first | rfl | trivial⟩
    rw [hf, List.drop_length]; rfl
  have e1 : decide (((i + 1 : Nat) : Int) ≤ (l.length : Int)) = true := decide_eq_true (by omega)
  rw [e1]
  refine zaa ?_
  refine hK3 _ _ ?_; try clear hK3 K3
  refine wp_cond_true (by simp [evb, kb, hN, sdb]) ?_
  refine wp_skip ?_
  refine hK2 _ _ ?_; try clear hK2 K2
  have hgi : l[i]? = some (l[i]'(by omega)) := List.getElem?_eq_getElem (by omega)
  have hseg : (l.take (i + 1)).drop i = [l[i]'(by omega)] := by
    rw [List.take_succ, hgi, List.drop_append_of_le_length (by rw [List.length_take]; omega), List.drop_of_length_le (by rw [List.length_take]; omega)]; rfl
  refine wp_seq_k fun K4 hK4 => ?_
  refine wp_block ?_
  refine wp_seq_k fun K5 hK5 => ?_; refine zab ?_; (repeat (first | ((with_reducible refine wl_q ?_ ?_ ?_ ?_); (· exact rfl); (· simp [evb, kb, hN, h0, h1, h5, zag, hz1, dyb, sdb] <;> omega); (· kernel_rfl); try simp only [evb, kb, hN, seval, pvb, h0, h1, h5, zag, hz1]) | ((with_reducible refine wl_lenS ?_ ?_ ?_); rotate_left 1; (· simp [evb, kb, hN, h0, h1, h5, zag, hz1, sdb]); rotate_left 1; (· kernel_rfl); try simp only [evb, kb, hN, seval, pvb, h0, h1, h5, zag, hz1])))
  refine wl_strSl (l := l) (i := i) (j := i + 1) (by kernel_rfl) (by simp [evb, kb, hN, sdb]) (by simp [evb, kb, hN, sdb]) (by simp [evb, kb, hN, sdb]) (by omega) (by omega) ?_
  rw [hseg]
  (repeat ((with_reducible refine zaf ?_ ?_ ?_); (· simp [evb, pvb, rnb, kb, hN, h1, dyb, sdb] <;> omega); (· kernel_rfl); try simp only [evb, pvb, rnb, kb, hN, seval, h1]))
  refine wl_strEq (l := [l[i]'(by omega)]) (l' := [c]) (by simp [evb, kb, hN, sdb]) (by simp [evb, kb, hN, sdb]) ?_
  refine zaa ?_
  refine hK5 _ _ ?_; try clear hK5 K5
  by_cases hb : l[i]'(by omega) = c
  · have e2 : (([l[i]'(by omega)] : Bs') == [c]) = true := by simp [hb]
    rw [e2]
    refine wp_cond_true (by simp [evb, kb, hN, sdb]) ?_
    refine wp_seq_k fun K hK => ?_; refine zab ?_; (repeat ((with_reducible refine zaf ?_ ?_ ?_); (· simp [evb, pvb, rnb, kb, hN, h5, dyb, sdb] <;> omega); (· kernel_rfl); try simp only [evb, pvb, rnb, kb, hN, seval, h5])); refine zaa ?_; refine hK _ _ ?_; clear hK K; refine wp_ret ⟨by simp [zad, hD], ?_⟩; simp only [evb, kb, hN, seval]
    refine ⟨?_, by first | rfl | trivial⟩
    rw [hf, findB_step hgi, if_pos hb]; rfl
  · have e2 : (([l[i]'(by omega)] : Bs') == [c]) = false := by simp [hb]
    rw [e2]
    refine wp_cond_false (by simp [evb, kb, hN, sdb]) ?_
    refine wp_skip ?_
    refine hK4 _ _ ?_; try clear hK4 K4
    refine zab ?_; (repeat ((with_reducible refine zaf ?_ ?_ ?_); (· simp [evb, pvb, rnb, kb, hN, h5, hz2, dyb, sdb] <;> omega); (· kernel_rfl); try simp only [evb, pvb, rnb, kb, hN, seval, h5, hz2]))
    refine zaa ?_
    refine ⟨⟨i + 1, hlt, by simp only [size_put, hN], by simp only [zad, hD], by simp only [evb, kb, hN, seval, h0], by simp only [evb, kb, hN, seval, h1], by simp only [evb, kb, hN, seval], ?_, rfl⟩, ?_⟩
    · rw [hf, findB_step hgi, if_neg hb]
    · simp only [evb, kb, hN, seval, h5, intOf]; omega
theorem rmB_split {c : UInt8} {l : Bs'} {j : Nat} (h1 : (l.take j).all (· != c) = true) (h2 : l[j]? = some c) : rmB c l = l.take j ++ rmB c (l.drop (j + 1)) := by
  obtain ⟨hj, he⟩ := List.getElem?_eq_some_iff.1 h2
  conv => lhs; rw [← List.take_append_drop j l, List.drop_eq_getElem_cons hj, he]
  unfold rmB
  rw [List.filter_append, List.filter_cons]
  have e : (l.take j).filter (· != c) = l.take j := List.filter_eq_self.2 (fun b hb => List.all_eq_true.1 h1 b hb)
  rw [e]; simp
theorem rmB_none {c : UInt8} {l : Bs'} (h : l.all (· != c) = true) : rmB c l = l := List.filter_eq_self.2 (fun b hb => List.all_eq_true.1 h b hb)
theorem zzReplaceAll_c (l : Bs') (c : UInt8) (hl : l.length ≤ 1048576) (w : World) : CallsR Tryd.prog 27 #[strV l, strV [c], strV []] w fun v w' => v = strV (rmB c l) ∧ Chg (fun _ => False) w w' := by
  refine callsR_of Tryd.func27 rfl rfl Tryd.ntmps27 (by simp) ?_
  intro a hN hD ha
  have h0 : get a 0 = strV l := ha 0 _ rfl
  have h1 : get a 1 = strV [c] := ha 1 _ rfl
  have h2 : get a 2 = strV [] := ha 2 _ rfl
  refine wp_seq_k fun K hK => ?_; refine zab ?_; (repeat ((with_reducible refine zaf ?_ ?_ ?_); (· simp [evb, pvb, rnb, kb, hN, dyb, sdb] <;> omega); (· kernel_rfl); try simp only [evb, pvb, rnb, kb, hN, seval])); refine zaa ?_; refine hK _ _ ?_; clear hK K
  refine wp_seq_k fun K hK => ?_; refine zab ?_; (repeat ((with_reducible refine zaf ?_ ?_ ?_); (· simp [evb, pvb, rnb, kb, hN, dyb, sdb] <;> omega); (· kernel_rfl); try simp only [evb, pvb, rnb, kb, hN, seval])); refine zaa ?_; refine hK _ _ ?_; clear hK K
  refine wp_seq_k fun K hK => ?_; refine wp_seq_k fun K1 hK1 => ?_; refine zab ?_; (repeat (first | ((with_reducible refine wl_q ?_ ?_ ?_ ?_); (· exact rfl); (· simp [evb, kb, hN, h1, zag, dyb, sdb] <;> omega); (· kernel_rfl); try simp only [evb, kb, hN, seval, pvb, h1, zag]) | ((with_reducible refine wl_lenS ?_ ?_ ?_); rotate_left 1; (· simp [evb, kb, hN, h1, zag, sdb]); rotate_left 1; (· kernel_rfl); try simp only [evb, kb, hN, seval, pvb, h1, zag])))
  refine zaa ?_; refine hK1 _ _ ?_; try clear hK1 K1
  refine wp_cond_false (by simp [evb, kb, hN, sdb]) ?_
  refine wp_skip ?_
  refine hK _ _ ?_
  clear hK K
  refine wp_block ?_
  refine wp_loop (fun a' w' => ∃ (r p : Bs') (v : Value), a'.tmps.size = 67 ∧ a'.defers = [] ∧ get a' 0 = strV r ∧ get a' 1 = strV [c] ∧ get a' 2 = strV [] ∧ get a' 7 = v ∧ Own eB w' w.heap.size v p ∧ rmB c l = p ++ rmB c r ∧ p.length + r.length ≤ l.length ∧ Chg (fun _ => False) w w')
    (fun a' _ => match get a' 0 with | .string s => s.size | _ => 0) ?_ ?_
  · exact ⟨l, [], .slice none 0 0, by simp only [size_put, hN], by simp only [zad, hD], by simp only [evb, kb, hN, seval, h0], by simp only [evb, kb, hN, seval, h1], by simp only [evb, kb, hN, seval, h2], by simp only [evb, kb, hN, seval], Own.nil _ _ _, rfl, by simp, Chg.refl _ _⟩
  clear hN hD ha h0 h1 h2
  rintro a1 w1 ⟨r, p, v, hN, hD, h0, h1, h2, h7, hown, hrm, hlen, hc⟩
  have hbw : w.heap.size ≤ w1.heap.size := hc.size
  refine wp_block ?_
  refine wp_seq_k fun K hK => ?_; refine zab ?_; (repeat ((with_reducible refine zaf ?_ ?_ ?_); (· simp [evb, pvb, rnb, kb, hN, h0, h1, dyb, sdb] <;> omega); (· kernel_rfl); try simp only [evb, pvb, rnb, kb, hN, seval, h0, h1]))
  refine wl_call (fun args w => Tryd.call30 args w) (by simp only [List.map_toArray, List.map_cons, List.map_nil, evb, kb, hN, seval]; exact zzIndex_c r c (by omega) w1) ?_
  rintro _ w2 ⟨rfl, e⟩
  replace e := e.symm
  subst e
  cases hf : findB c r 0 with
  | none =>
    (repeat ((with_reducible refine zaf ?_ ?_ ?_); (· simp [evb, pvb, rnb, kb, hN, idxV, dyb, sdb] <;> omega); (· kernel_rfl); try simp only [evb, pvb, rnb, kb, hN, seval, idxV])); refine zaa ?_; refine hK _ _ ?_; clear hK K
    refine wp_seq_k fun K hK => ?_; refine wp_seq_k fun K1 hK1 => ?_; refine zab ?_; (repeat ((with_reducible refine zaf ?_ ?_ ?_); (· simp [evb, pvb, rnb, kb, hN, dyb, sdb] <;> omega); (· kernel_rfl); try simp only [evb, pvb, rnb, kb, hN, seval]))
    refine zaa ?_; refine hK1 _ _ ?_; try clear hK1 K1
    refine wp_cond_true (by simp [evb, kb, hN, sdb]) ?_
    refine wp_seq_k fun K hK => ?_; refine zab ?_; (repeat ((with_reducible refine zaf ?_ ?_ ?_); (· simp [evb, pvb, rnb, kb, hN, h0, h7, dyb, sdb] <;> omega); (· kernel_rfl); try simp only [evb, pvb, rnb, kb, hN, seval, h0, h7]))
    refine wl_appendStr bT (by kernel_rfl) r (by simp [evb, kb, hN, sdb]) (by simp [evb, kb, hN, sdb]) hown (by unfold LIM; omega) hbw ?_
    intro v' w2 happ
    obtain ⟨oa, cap, rfl, _, hbt⟩ := happ.own.bytes
    refine wl_text (cap := cap) bT (by kernel_rfl) (by simp [evb, kb, hN, sdb]) hbt ?_
    (repeat ((with_reducible refine zaf ?_ ?_ ?_); (· simp [evb, pvb, rnb, kb, hN, dyb, sdb] <;> omega); (· kernel_rfl); try simp only [evb, pvb, rnb, kb, hN, seval])); refine zaa ?_; refine hK _ _ ?_; clear hK K; refine wp_ret ⟨by simp [zad, hD], ?_⟩; simp only [evb, kb, hN, seval]
    refine ⟨?_, hc.trans (happ.chgFrom hown) fun n hn h => by omega⟩
    rw [hrm, rmB_none (findB_none hf)]
  | some k =>
    obtain ⟨j, hk, hj, hall, hjc⟩ := findB_some hf
    have hk' : k = j := by omega
    subst hk'
    have hz1 : IntKind.i64.wrap ((k : Int) + (([c] : Bs').length : Int)) = ((k + 1 : Nat) : Int) := i64_one k (by omega)
    (repeat ((with_reducible refine zaf ?_ ?_ ?_); (· simp [evb, pvb, rnb, kb, hN, idxV, dyb, sdb] <;> omega); (· kernel_rfl); try simp only [evb, pvb, rnb, kb, hN, seval, idxV])); refine zaa ?_; refine hK _ _ ?_; clear hK K
    refine wp_seq_k fun K hK => ?_; refine wp_seq_k fun K1 hK1 => ?_; refine zab ?_; (repeat ((with_reducible refine zaf ?_ ?_ ?_); (· simp [evb, pvb, rnb, kb, hN, dyb, sdb] <;> omega); (· kernel_rfl); try simp only [evb, pvb, rnb, kb, hN, seval]))
    have e1 : decide ((k : Int) < 0) = false := decide_eq_false (by omega)
    rw [e1]
    refine zaa ?_; refine hK1 _ _ ?_; try clear hK1 K1
    refine wp_cond_false (by simp [evb, kb, hN, sdb]) ?_
    refine wp_skip ?_
    refine hK _ _ ?_
    clear hK K
    refine wp_seq_k fun K1 hK1 => ?_; refine zab ?_; (repeat ((with_reducible refine zaf ?_ ?_ ?_); (· simp [evb, pvb, rnb, kb, hN, h0, h7, dyb, sdb] <;> omega); (· kernel_rfl); try simp only [evb, pvb, rnb, kb, hN, seval, h0, h7]))
    refine wl_strTo (l := r) (j := k) (by kernel_rfl) (by simp [evb, kb, hN, sdb]) (by simp [evb, kb, hN, sdb]) (by omega) ?_
    refine wl_appendStr bT (by kernel_rfl) (r.take k) (by simp [evb, kb, hN, sdb]) (by simp [evb, kb, hN, sdb]) hown (by rw [List.length_take]; unfold LIM; omega) hbw ?_
    intro v1 w2 happ1
    have hc2 : Chg (fun n => w.heap.size ≤ n) w1 w2 := happ1.chgFrom hown
    (repeat ((with_reducible refine zaf ?_ ?_ ?_); (· simp [evb, pvb, rnb, kb, hN, h2, dyb, sdb] <;> omega); (· kernel_rfl); try simp only [evb, pvb, rnb, kb, hN, seval, h2]))
    refine wl_appendStr bT (by kernel_rfl) [] (by simp [evb, kb, hN, sdb]) (by simp [evb, kb, hN, sdb]) happ1.own (by rw [List.length_append, List.length_take]; unfold LIM; simp only [List.length_nil]; omega) (Nat.le_trans hbw hc2.size) ?_
    intro v2 w3 happ2
    have hc3 : Chg (fun n => w.heap.size ≤ n) w2 w3 := happ2.chgFrom happ1.own
    (repeat ((with_reducible refine zaf ?_ ?_ ?_); (· simp [evb, pvb, rnb, kb, hN, dyb, sdb] <;> omega); (· kernel_rfl); try simp only [evb, pvb, rnb, kb, hN, seval]))
    refine zaa ?_; refine hK1 _ _ ?_; try clear hK1 K1
    refine zab ?_; (repeat (first | ((with_reducible refine wl_q ?_ ?_ ?_ ?_); (· exact rfl); (· simp [evb, kb, hN, h0, h1, zag, hz1, dyb, sdb] <;> omega); (· kernel_rfl); try simp only [evb, kb, hN, seval, pvb, h0, h1, zag, hz1]) | ((with_reducible refine wl_lenS ?_ ?_ ?_); rotate_left 1; (· simp [evb, kb, hN, h0, h1, zag, hz1, sdb]); rotate_left 1; (· kernel_rfl); try simp only [evb, kb, hN, seval, pvb, h0, h1, zag, hz1])))
    refine wl_strFrom (l := r) (i := k + 1) (by kernel_rfl) (by simp [evb, kb, hN, sdb]) (by simp [evb, kb, hN, sdb]) (by omega) ?_
    (repeat ((with_reducible refine zaf ?_ ?_ ?_); (· simp [evb, pvb, rnb, kb, hN, dyb, sdb] <;> omega); (· kernel_rfl); try simp only [evb, pvb, rnb, kb, hN, seval]))
    refine zaa ?_
    have hown3 := happ2.own
    rw [List.append_nil] at hown3
    refine ⟨⟨r.drop (k + 1), p ++ r.take k, v2, by simp only [size_put, hN], by simp only [zad, hD], by simp only [evb, kb, hN, seval], by simp only [evb, kb, hN, seval, h1], by simp only [evb, kb, hN, seval, h2], by simp only [evb, kb, hN, seval], hown3, ?_, ?_, ?_⟩, ?_⟩
    · rw [hrm, rmB_split hall hjc, List.append_assoc]
    · rw [List.length_append, List.length_take, List.length_drop]; omega
    · exact (hc.trans hc2 fun n hn h => by omega).trans hc3 fun n hn h => by omega
    · simp only [evb, kb, hN, seval, h0, zag]
      rw [List.length_drop]; omega
end Go.Proofs.YthlpbgklcbmknaaDoor
namespace Go.Proofs.YthlpbgklcbmknaaDoor
set_option linter.all false
open Go.RowKit
set_option maxRecDepth 10000
set_option maxHeartbeats 1000000
end Go.Proofs.YthlpbgklcbmknaaDoor
namespace Go.Proofs.YthlpbgklcbmknaaDoor
set_option linter.all false
open Go.RowKit
set_option maxRecDepth 10000
set_option maxHeartbeats 1000000
theorem spaceX : Space.Extra Tryd.prog Tryd.sl163_ren := ⟨by kernel_rfl⟩
theorem buildX : Builder.Extra Tryd.prog Tryd.sl159_ren where
  sizeBuilder := by kernel_rfl
  liesBuilder := by kernel_rfl
  t5 := Tryd.sl159.t5
  a5 := Tryd.sl159.a5
  z5 := Tryd.sl159.z5
  v5 := Tryd.sl159.v5
  infoByte := by kernel_rfl
  cellsByte := by kernel_rfl
  sizeByte := by kernel_rfl
  neB5 := by decide
def SpaceW (w : World) : Prop := Lib.TabIs Tryd.prog w "strings.asciiSpace" .u8 Lib.asciiSpaceTab
theorem SpaceW.chg {w w' : World} (h : SpaceW w) (c : Chg (fun _ => False) w w') : SpaceW w' := Lib.tabBelow_of_tabIs h w' (Chg.below (c.mono fun _ _ h => h.elim : Chg (fun k => w.heap.size ≤ k) w w') (Nat.le_refl _))
def asciiL (l : Bs') : Prop := ∀ b ∈ l, b.toNat < 128
theorem asciiL.sub {l l' : Bs'} (h : asciiL l) (hs : ∀ b ∈ l', b ∈ l) : asciiL l' := fun b hb => h b (hs b hb)
theorem trim_mem {l : Bs'} : ∀ b ∈ Lib.trimSpace l, b ∈ l := by
  intro b hb
  unfold Lib.trimSpace at hb
  rw [List.mem_reverse] at hb
  have h1 := (List.dropWhile_suffix Lib.isSp).mem hb
  rw [List.mem_reverse] at h1
  exact (List.dropWhile_suffix Lib.isSp).mem h1
theorem chg_freeze (w : World) (p : Addr) (n : Nat) : Chg (fun k => k = p.block) w (w.freeze p n) := by
  unfold World.freeze
  split
  · exact Chg.refl _ _
  · refine ⟨rfl, rfl, rfl, by simp, fun k _ hx => ?_⟩
    rw [Array.getElem?_modify, if_neg (fun e => hx e.symm)]
theorem trim_c (l : Bs') (hl : l.length ≤ 1048576) (ha : asciiL l) {w : World} (hw : SpaceW w) : CallsR Tryd.prog 28 #[strV l] w fun v w' => v = strV (Lib.trimSpace l) ∧ Chg (fun _ => False) w w' := by
  refine (Any.strings_TrimSpace Tryd.sl163 spaceX ⟨l.toArray⟩ w (by rw [zag]; omega) (fun j b h => ha b (List.mem_of_getElem? h)) hw).mono ?_
  rintro e w' ⟨rfl, rfl⟩
  refine ⟨_, rfl, rfl, ?_⟩
  unfold Lib.bytesWorld
  exact ((Chg.drew (fun _ => False) _).trans (Chg.alloc (fun _ => False) _ _) fun _ _ h => h).trans (chg_freeze _ _ _) fun n hn e => by
    have : n = w.heap.size := e
    omega
theorem lower_c (l : Bs') (hl : l.length ≤ 1048576) (ha : asciiL l) (w : World) : CallsR Tryd.prog 29 #[strV l] w fun v w' => v = strV (Lib.toLowerA l) ∧ Chg (fun _ => False) w w' := by
  refine (Any.strings_ToLower_ascii Tryd.sl159 buildX ⟨l.toArray⟩ w (by rw [zag]; omega) (fun j b h => ha b (List.mem_of_getElem? h))).mono ?_
  rintro e w' ⟨rfl, hb⟩
  exact ⟨_, rfl, rfl, (Chg.ofBelow hb).mono fun k hk h => by omega⟩
theorem strnorm_c (l : Bs') (hl : l.length ≤ 1048576) (ha : asciiL l) {w : World} (hw : SpaceW w) : CallsR Tryd.prog 25 #[strV l] w fun v w' => v = strV (normS l) ∧ Chg (fun _ => False) w w' := by
  refine callsR_of Tryd.func25 rfl rfl Tryd.ntmps25 (by simp) ?_
  intro a hN hD hargs
  have h0 : get a 0 = strV l := hargs 0 _ rfl
  have fl : ∀ (c : UInt8) (l : Bs'), (rmB c l).length ≤ l.length := fun c l => List.length_filter_le _ _
  have m1 : ∀ b ∈ rmB 46 l, b ∈ l := fun b h => (List.mem_filter.1 h).1
  have m2 : ∀ b ∈ rmB 95 (rmB 46 l), b ∈ l := fun b h => m1 b (List.mem_filter.1 h).1
  have m3 : ∀ b ∈ rmB 45 (rmB 95 (rmB 46 l)), b ∈ l := fun b h => m2 b (List.mem_filter.1 h).1
  have l1 := fl 46 l
  have l2 := fl 95 (rmB 46 l)
  have l3 := fl 45 (rmB 95 (rmB 46 l))
  have l4 : (Lib.trimSpace (rmB 45 (rmB 95 (rmB 46 l)))).length ≤ (rmB 45 (rmB 95 (rmB 46 l))).length := by
    unfold Lib.trimSpace
    rw [List.length_reverse]
    refine Nat.le_trans (List.dropWhile_suffix _).length_le ?_
    rw [List.length_reverse]
    exact (List.dropWhile_suffix _).length_le
  refine wp_seq_k fun K hK => ?_; refine zab ?_; (repeat ((with_reducible refine zaf ?_ ?_ ?_); (· simp [evb, pvb, rnb, kb, hN, dyb, sdb] <;> omega); (· kernel_rfl); try simp only [evb, pvb, rnb, kb, hN, seval])); refine zaa ?_; refine hK _ _ ?_; clear hK K
  refine wp_seq_k fun K hK => ?_; refine zab ?_; (repeat ((with_reducible refine zaf ?_ ?_ ?_); (· simp [evb, pvb, rnb, kb, hN, h0, dyb, sdb] <;> omega); (· kernel_rfl); try simp only [evb, pvb, rnb, kb, hN, seval, h0]))
  refine wl_call (fun args w => Tryd.call27 args w) (by simp only [List.map_toArray, List.map_cons, List.map_nil, evb, kb, hN, seval]; exact zzReplaceAll_c l 46 hl w) ?_
  rintro _ w1 ⟨rfl, hc1⟩
  (repeat ((with_reducible refine zaf ?_ ?_ ?_); (· simp [evb, pvb, rnb, kb, hN, dyb, sdb] <;> omega); (· kernel_rfl); try simp only [evb, pvb, rnb, kb, hN, seval])); refine zaa ?_; refine hK _ _ ?_; clear hK K
  refine wp_seq_k fun K hK => ?_; refine zab ?_; (repeat ((with_reducible refine zaf ?_ ?_ ?_); (· simp [evb, pvb, rnb, kb, hN, dyb, sdb] <;> omega); (· kernel_rfl); try simp only [evb, pvb, rnb, kb, hN, seval]))
  refine wl_call (fun args w => Tryd.call27 args w) (by simp only [List.map_toArray, List.map_cons, List.map_nil, evb, kb, hN, seval]; exact zzReplaceAll_c (rmB 46 l) 95 (by omega) w1) ?_
  rintro _ w2 ⟨rfl, hc2⟩
  (repeat ((with_reducible refine zaf ?_ ?_ ?_); (· simp [evb, pvb, rnb, kb, hN, dyb, sdb] <;> omega); (· kernel_rfl); try simp only [evb, pvb, rnb, kb, hN, seval])); refine zaa ?_; refine hK _ _ ?_; clear hK K
  refine wp_seq_k fun K hK => ?_; refine zab ?_; (repeat ((with_reducible refine zaf ?_ ?_ ?_); (· simp [evb, pvb, rnb, kb, hN, dyb, sdb] <;> omega); (· kernel_rfl); try simp only [evb, pvb, rnb, kb, hN, seval]))
  refine wl_call (fun args w => Tryd.call27 args w) (by simp only [List.map_toArray, List.map_cons, List.map_nil, evb, kb, hN, seval]; exact zzReplaceAll_c (rmB 95 (rmB 46 l)) 45 (by omega) w2) ?_
  rintro _ w3 ⟨rfl, hc3⟩
  (repeat ((with_reducible refine zaf ?_ ?_ ?_); (· simp [evb, pvb, rnb, kb, hN, dyb, sdb] <;> omega); (· kernel_rfl); try simp only [evb, pvb, rnb, kb, hN, seval])); refine zaa ?_; refine hK _ _ ?_; clear hK K
  have hc : Chg (fun _ => False) w w3 := (hc1.trans hc2 fun _ _ h => h).trans hc3 fun _ _ h => h
  refine wp_seq_k fun K hK => ?_; refine zab ?_; (repeat ((with_reducible refine zaf ?_ ?_ ?_); (· simp [evb, pvb, rnb, kb, hN, dyb, sdb] <;> omega); (· kernel_rfl); try simp only [evb, pvb, rnb, kb, hN, seval]))
  refine wl_call (fun args w => Tryd.call28 args w) (by simp only [List.map_toArray, List.map_cons, List.map_nil, evb, kb, hN, seval]; exact trim_c _ (by omega) (ha.sub m3) (hw.chg hc)) ?_
  rintro _ w4 ⟨rfl, hc4⟩
  (repeat ((with_reducible refine zaf ?_ ?_ ?_); (· simp [evb, pvb, rnb, kb, hN, dyb, sdb] <;> omega); (· kernel_rfl); try simp only [evb, pvb, rnb, kb, hN, seval])); refine zaa ?_; refine hK _ _ ?_; clear hK K
  refine wp_seq_k fun K hK => ?_; refine zab ?_; (repeat ((with_reducible refine zaf ?_ ?_ ?_); (· simp [evb, pvb, rnb, kb, hN, dyb, sdb] <;> omega); (· kernel_rfl); try simp only [evb, pvb, rnb, kb, hN, seval]))
  refine wl_call (fun args w => Tryd.call29 args w) (by simp only [List.map_toArray, List.map_cons, List.map_nil, evb, kb, hN, seval]; exact lower_c _ (by omega) (ha.sub fun b hb => m3 b (trim_mem b hb)) w4) ?_
  rintro _ w5 ⟨rfl, hc5⟩
  (repeat ((with_reducible refine zaf ?_ ?_ ?_); (· simp [evb, pvb, rnb, kb, hN, dyb, sdb] <;> omega); (· kernel_rfl); try simp only [evb, pvb, rnb, kb, hN, seval])); refine zaa ?_; refine hK _ _ ?_; clear hK K
  refine wp_seq_k fun K hK => ?_; refine zab ?_; (repeat ((with_reducible refine zaf ?_ ?_ ?_); (· simp [evb, pvb, rnb, kb, hN, dyb, sdb] <;> omega); (· kernel_rfl); try simp only [evb, pvb, rnb, kb, hN, seval])); refine zaa ?_; refine hK _ _ ?_; clear hK K; refine wp_ret ⟨by simp [zad, hD], ?_⟩; simp only [evb, kb, hN, seval]
  refine ⟨?_, (hc.trans hc4 fun _ _ h => h).trans hc5 fun _ _ h => h⟩
  rw [← norm_eq]; rfl
end Go.Proofs.YthlpbgklcbmknaaDoor

import Derived.Test.YtnjjfpgpookjlaaGreatDoorZL
import Derived.Test.YtnjjfpgpookjlaaGreatDoorZA
import Derived.Test.YtnjjfpgpookjlaaGreatDoorZD
import Derived.Test.YtnjjfpgpookjlaaGreatDoorZK
import Derived.Test.YtnjjfpgpookjlaaGreatDoorProg
import Derived.Shelf.GgSortFunc.Whole
import Derived.Sort.LotA
import Derived.Shelf.GgSortFunc.Tiny
import Derived.Maps.RangeRun
/-
What the proofs of the laws rest on, part ZT.
-/
namespace Go.Proofs.YtnjjfpgpookjlaaGreatDoor
set_option linter.all false
set_option maxRecDepth 100000
open Go.Shelf
open Go.RowKit
open Go.ChangeMaps (setBlock)
def Tryz.sl6_ren : Go.Shelf.Ren := ⟨fun | 6 => 105 | 10 => 108 | 11 => 109 | 12 => 110 | 13 => 111 | 14 => 112 | 24 => 104 | 25 => 123 | 26 => 124 | 27 => 125 | 28 => 126 | 29 => 127 | 30 => 128 | 31 => 129 | 32 => 130 | 33 => 131 | 34 => 132 | 35 => 133 | 36 => 134 | 37 => 135 | 38 => 136 | 39 => 137 | n => n, fun | 20 => 20 | 26 => 147 | 35 => 152 | 0 => 0 | 37 => 154 | 3 => 3 | 41 => 119 | 44 => 159 | 49 => 57 | 51 => 74 | 4 => 4 | 54 => 167 | 53 => 166 | 58 => 171 | 5 => 5 | 9 => 9 | 60 => 173 | 64 => 176 | 66 => 178 | 67 => 179 | 17 => 17 | 32 => 149 | 33 => 150 | 82 => 194 | 12 => 12 | 75 => 187 | 76 => 188 | 77 => 189 | 78 => 190 | 79 => 191 | 80 => 192 | n => n, fun | n => n⟩
theorem Tryz.sl6 : Go.Proofs.LaysGg.n6 Tryz.prog Tryz.sl6_ren where
 mixed := by kernel_rfl
 f6 := Tryz.func105.trans (congrArg some (by kernel_rfl))
 f10 := Tryz.func108.trans (congrArg some (by kernel_rfl))
 f11 := Tryz.func109.trans (congrArg some (by kernel_rfl))
 f12 := Tryz.func110.trans (congrArg some (by kernel_rfl))
 f13 := Tryz.func111.trans (congrArg some (by kernel_rfl))
 f14 := Tryz.func112.trans (congrArg some (by kernel_rfl))
 f24 := Tryz.func104.trans (congrArg some (by kernel_rfl))
 f25 := Tryz.func123.trans (congrArg some (by kernel_rfl))
 f26 := Tryz.func124.trans (congrArg some (by kernel_rfl))
 f27 := Tryz.func125.trans (congrArg some (by kernel_rfl))
 f28 := Tryz.func126.trans (congrArg some (by kernel_rfl))
 f29 := Tryz.func127.trans (congrArg some (by kernel_rfl))
 f30 := Tryz.func128.trans (congrArg some (by kernel_rfl))
 f31 := Tryz.func129.trans (congrArg some (by kernel_rfl))
 f32 := Tryz.func130.trans (congrArg some (by kernel_rfl))
 f33 := Tryz.func131.trans (congrArg some (by kernel_rfl))
 f34 := Tryz.func132.trans (congrArg some (by kernel_rfl))
 f35 := Tryz.func133.trans (congrArg some (by kernel_rfl))
 f36 := Tryz.func134.trans (congrArg some (by kernel_rfl))
 f37 := Tryz.func135.trans (congrArg some (by kernel_rfl))
 f38 := Tryz.func136.trans (congrArg some (by kernel_rfl))
 f39 := Tryz.func137.trans (congrArg some (by kernel_rfl))
 t0 := Tryz.underlying0
 a0 := Tryz.isAgg0
 z0 := Tryz.sizeOf0
 v0 := Tryz.zeroValue0
 i0 := by kernel_rfl
 t3 := Tryz.underlying3
 a3 := Tryz.isAgg3
 z3 := Tryz.sizeOf3
 v3 := Tryz.zeroValue3
 i3 := by kernel_rfl
 t4 := Tryz.underlying4
 a4 := Tryz.isAgg4
 z4 := Tryz.sizeOf4
 v4 := Tryz.zeroValue4
 i4 := by kernel_rfl
 t5 := Tryz.underlying5
 a5 := Tryz.isAgg5
 z5 := Tryz.sizeOf5
 v5 := Tryz.zeroValue5
 i5 := by kernel_rfl
 t9 := Tryz.underlying9
 a9 := Tryz.isAgg9
 z9 := Tryz.sizeOf9
 v9 := Tryz.zeroValue9
 i9 := by kernel_rfl
 t12 := Tryz.underlying12
 a12 := Tryz.isAgg12
 z12 := Tryz.sizeOf12
 v12 := Tryz.zeroValue12
 i12 := by kernel_rfl
 t17 := Tryz.underlying17
 a17 := Tryz.isAgg17
 z17 := Tryz.sizeOf17
 v17 := Tryz.zeroValue17
 i17 := by kernel_rfl
 t20 := Tryz.underlying20
 a20 := Tryz.isAgg20
 z20 := Tryz.sizeOf20
 v20 := Tryz.zeroValue20
 i20 := by kernel_rfl
 t26 := Tryz.underlying147
 a26 := Tryz.isAgg147
 z26 := Tryz.sizeOf147
 v26 := Tryz.zeroValue147
 i26 := by kernel_rfl
 t32 := Tryz.underlying149
 a32 := Tryz.isAgg149
 z32 := Tryz.sizeOf149
 v32 := Tryz.zeroValue149
 i32 := by kernel_rfl
 t33 := Tryz.underlying150
 a33 := Tryz.isAgg150
 z33 := Tryz.sizeOf150
 v33 := Tryz.zeroValue150
 i33 := by kernel_rfl
 t35 := Tryz.underlying152
 a35 := Tryz.isAgg152
 z35 := Tryz.sizeOf152
 v35 := Tryz.zeroValue152
 i35 := by kernel_rfl
 t37 := Tryz.underlying154
 a37 := Tryz.isAgg154
 z37 := Tryz.sizeOf154
 v37 := Tryz.zeroValue154
 i37 := by kernel_rfl
 t41 := Tryz.underlying119
 a41 := Tryz.isAgg119
 z41 := Tryz.sizeOf119
 v41 := Tryz.zeroValue119
 i41 := by kernel_rfl
 t44 := Tryz.underlying159
 a44 := Tryz.isAgg159
 z44 := Tryz.sizeOf159
 v44 := Tryz.zeroValue159
 i44 := by kernel_rfl
 t49 := Tryz.underlying57
 a49 := Tryz.isAgg57
 z49 := Tryz.sizeOf57
 v49 := Tryz.zeroValue57
 i49 := by kernel_rfl
 t51 := Tryz.underlying74
 a51 := Tryz.isAgg74
 z51 := Tryz.sizeOf74
 v51 := Tryz.zeroValue74
 i51 := by kernel_rfl
 t53 := Tryz.underlying166
 a53 := Tryz.isAgg166
 z53 := Tryz.sizeOf166
 v53 := Tryz.zeroValue166
 i53 := by kernel_rfl
 t54 := Tryz.underlying167
 a54 := Tryz.isAgg167
 z54 := Tryz.sizeOf167
 v54 := Tryz.zeroValue167
 i54 := by kernel_rfl
 t58 := Tryz.underlying171
 a58 := Tryz.isAgg171
 z58 := Tryz.sizeOf171
 v58 := Tryz.zeroValue171
 i58 := by kernel_rfl
 t60 := Tryz.underlying173
 a60 := Tryz.isAgg173
 z60 := Tryz.sizeOf173
 v60 := Tryz.zeroValue173
 i60 := by kernel_rfl
 t64 := Tryz.underlying176
 a64 := Tryz.isAgg176
 z64 := Tryz.sizeOf176
 v64 := Tryz.zeroValue176
 i64 := by kernel_rfl
 t66 := Tryz.underlying178
 a66 := Tryz.isAgg178
 z66 := Tryz.sizeOf178
 v66 := Tryz.zeroValue178
 i66 := by kernel_rfl
 t67 := Tryz.underlying179
 a67 := Tryz.isAgg179
 z67 := Tryz.sizeOf179
 v67 := Tryz.zeroValue179
 i67 := by kernel_rfl
 t75 := Tryz.underlying187
 a75 := Tryz.isAgg187
 z75 := Tryz.sizeOf187
 v75 := Tryz.zeroValue187
 i75 := by kernel_rfl
 t76 := Tryz.underlying188
 a76 := Tryz.isAgg188
 z76 := Tryz.sizeOf188
 v76 := Tryz.zeroValue188
 i76 := by kernel_rfl
 t77 := Tryz.underlying189
 a77 := Tryz.isAgg189
 z77 := Tryz.sizeOf189
 v77 := Tryz.zeroValue189
 i77 := by kernel_rfl
 t78 := Tryz.underlying190
 a78 := Tryz.isAgg190
 z78 := Tryz.sizeOf190
 v78 := Tryz.zeroValue190
 i78 := by kernel_rfl
 t79 := Tryz.underlying191
 a79 := Tryz.isAgg191
 z79 := Tryz.sizeOf191
 v79 := Tryz.zeroValue191
 i79 := by kernel_rfl
 t80 := Tryz.underlying192
 a80 := Tryz.isAgg192
 z80 := Tryz.sizeOf192
 v80 := Tryz.zeroValue192
 i80 := by kernel_rfl
 t82 := Tryz.underlying194
 a82 := Tryz.isAgg194
 z82 := Tryz.sizeOf194
 v82 := Tryz.zeroValue194
 i82 := by kernel_rfl
def ltN (a b : Nat) : Bool := decide (a < b)
theorem swo_ltN : Go.Sort.SWO ltN := ⟨fun x => by simp [ltN], fun x y z => by simp [ltN]; omega, fun x y z => by simp [ltN]; omega⟩
theorem tagIns_perm (x : Nat × Bs) : ∀ t : za5, (tagIns x t).Perm (x :: t)
 | [] => List.Perm.refl _
 | y :: r => by
  unfold tagIns
  split
  ·exact List.Perm.refl _
  ·exact ((tagIns_perm x r).cons y).trans (List.Perm.swap x y r)
theorem tagSort_perm : ∀ t : za5, (zaO t).Perm t
 | [] => List.Perm.refl _
 | x :: r => by unfold zaO; exact (tagIns_perm x _).trans ((tagSort_perm r).cons x)
theorem rising_le : ∀ {t : za5}, Rising t → (t.map (·.1)).Pairwise (· ≤ ·)
 | [], _ => by simp
 | x :: r, h => by
  rw [List.map_cons, List.pairwise_cons]
  refine ⟨fun b hb => ?_, rising_le h.2⟩
  obtain ⟨y, hy, rfl⟩ := List.mem_map.1 hb
  exact Nat.le_of_lt (h.1 y hy)
theorem sort_keys {ts : za5} (hn : (ts.map (·.1)).Nodup) {d d' : Array Nat} (hd : d.toList.Perm (ts.map (·.1))) (hp : Go.Sort.PermIn 0 d.size d d') (hs : Go.Sort.SortedIn ltN 0 d.size d') : d'.toList = (zaO ts).map (·.1) := by
 obtain ⟨hsz, _, hperm⟩ := hp
 have e1 : d'.extract 0 d.size = d' := by rw [← hsz]; exact Array.extract_size
 rw [e1, Array.extract_size] at hperm
 refine List.Perm.eq_of_pairwise (le := fun x y => x ≤ y) ?_ ?_ (rising_le (tagSort_rising ts hn)) (hperm.trans (hd.trans ((tagSort_perm ts).map _).symm))
 ·intro a b _ _ h1 h2; omega
 ·rw [List.pairwise_iff_getElem]
  intro i j hi hj hij
  have := hs i j (Nat.zero_le _) hij (by simpa [hsz] using hj)
  simp only [Array.length_toList] at hi hj
  rw [getElem!_pos d' j hj, getElem!_pos d' i hi] at this
  simp [ltN] at this
  simpa using this
set_option maxHeartbeats 2000000
def eU (k : Nat) : Value := .int .u32 k
abbrev tUs : TypeId := 90
abbrev tU : TypeId := 57
theorem ldV_some {w : World} {p : Addr} {v : Value} (h : w.cell? p = some v) : ldV w (.pointer (some p)) = v ∧ ldOK w (.pointer (some p)) = true := by
 constructor <;> simp [ldV, ldOK, h]
theorem less_c {W : World} {Bs blk size cap : Nat} {G : Nat → Nat} (hs : W.cell? ⟨Bs, 0, none⟩ = some (.slice (some ⟨blk, 0, none⟩) size cap)) (hc : ∀ t, t < size → W.cell? ⟨blk, 0 + t, none⟩ = some (eU (G t))) (i j : Nat) (hi : i < size) (hj : j < size) :
  zaF Tryz.prog 106 #[.int .i64 i, .int .i64 j, .pointer (some ⟨Bs, 0, none⟩)] W fun v w' => v = .bool (decide (G i < G j)) ∧ w' = W.drew := by
 refine zaq Tryz.func106 rfl rfl Tryz.ntmps106 (by simp) ?_
 intro a hN hD ha
 have h0 : get a 0 = .int .i64 i := ha 0 _ rfl
 have h1 : get a 1 = .int .i64 j := ha 1 _ rfl
 have h2 : get a 2 = .pointer (some ⟨Bs, 0, none⟩) := ha 2 _ rfl
 have lB : ldV W (.pointer (some ⟨Bs, 0, none⟩)) = .slice (some ⟨blk, 0, none⟩) size cap ∧ ldOK W (.pointer (some ⟨Bs, 0, none⟩)) = true := ldV_some hs
 have li : ldV W (.pointer (some ⟨blk, i, none⟩)) = eU (G i) ∧ ldOK W (.pointer (some ⟨blk, i, none⟩)) = true := ldV_some (by have := hc i hi; rwa [Nat.zero_add] at this)
 have lj : ldV W (.pointer (some ⟨blk, j, none⟩)) = eU (G j) ∧ ldOK W (.pointer (some ⟨blk, j, none⟩)) = true := ldV_some (by have := hc j hj; rwa [Nat.zero_add] at this)
 have s1 : eSz Tryz.prog tUs = 1 := by kernel_rfl
 have di : (decide ((0 : Int) ≤ (i : Int)) && decide ((i : Int) < (size : Int))) = true := by simp only [Bool.and_eq_true, decide_eq_true_eq]; omega
 have dj : (decide ((0 : Int) ≤ (j : Int)) && decide ((j : Int) < (size : Int))) = true := by simp only [Bool.and_eq_true, decide_eq_true_eq]; omega
 refine qsr fun K hK => ?_; (repeat ((with_reducible refine zaJ ?_ ?_ ?_); (· simp [qef, hN] <;> omega); (· kernel_rfl); try simp only [qec, hN, seval])); refine zaa (hK _ _ ?_); clear hK K
 refine qsk fun K hK => ?_
 refine wp_ord (fun _ => False) zaR (by kernel_rfl) ?_
 (repeat (first | (refine wf_p rfl rfl ?_ ?_ ?_ ?_; (· first | exact rdX_no | (refine ⟨?_⟩; simp [rxb]; done)); (· simp [qef, hN, seval, h0, h1, h2, lB, li, lj, s1, ixV, ixOK, di, dj, eU] <;> omega); (· kernel_rfl); try simp only [qec, hN, seval, h0, h1, h2, lB, li, lj, s1, ixV, ixOK, di, dj, eU]) | (refine wf_pg rfl rfl rfl ?_ rfl ?_ ?_ ?_ ?_; (· simp [qec, hN, seval, h0, h1, h2, lB, li, lj, s1, ixV, ixOK, di, dj, eU]; done); (· first | exact rdX_no | (refine ⟨?_⟩; simp [rxb]; done)); (· simp [qef, hN, seval, h0, h1, h2, lB, li, lj, s1, ixV, ixOK, di, dj, eU] <;> omega); (· kernel_rfl); try simp only [qec, hN, seval, h0, h1, h2, lB, li, lj, s1, ixV, ixOK, di, dj, eU]) | (refine wf_gno rfl rfl rfl ?_ ?_; (· simp [qec, hN, seval, h0, h1, h2, lB, li, lj, s1, ixV, ixOK, di, dj, eU]; done); try simp only [qec, hN, seval, h0, h1, h2, lB, li, lj, s1, ixV, ixOK, di, dj, eU]) | (refine wf_gnoU rfl rfl rfl ?_ ?_; (· simp [qec, hN, seval, h0, h1, h2, lB, li, lj, s1, ixV, ixOK, di, dj, eU]; done); try simp only [qec, hN, seval, h0, h1, h2, lB, li, lj, s1, ixV, ixOK, di, dj, eU])))
 refine wf_nil (by decide) ?_
 refine hK _ _ ?_
 refine wp_ret ⟨by simp [zab, hD], ?_⟩; simp only [qea, hN, seval]
 exact ⟨by rw [Int.toNat_natCast, Int.toNat_natCast, li.1, lj.1]; simp [cmp2, eU], trivial⟩
theorem putRow_blk {w : World} {blk : Nat} {d d' : Array Nat} {T : TypeId} {rest : List Value} (h : Blk w blk (d.toList.map eU ++ rest) T) (hs : d'.size = d.size) (n : Nat) (os : Array Obj) :
  Blk (Go.Sort.grow (Go.Sort.putRow eU (Go.Sort.ahead w n) blk 0 d') os) blk (d'.toList.map eU ++ rest) T ∧ Chg (fun k => k = blk) w (Go.Sort.grow (Go.Sort.putRow eU (Go.Sort.ahead w n) blk 0 d') os) := by
 have hlt := h.lt
 have hsz : (Go.Sort.putRow eU (Go.Sort.ahead w n) blk 0 d').heap.size = w.heap.size := by simp [Go.Sort.putRow, Go.Sort.mapBlock, Go.Sort.ahead]
 refine ⟨?_, ?_⟩
 ·unfold Blk at h ⊢
  show ((Go.Sort.putRow eU (Go.Sort.ahead w n) blk 0 d').heap ++ os)[blk]? = _
  rw [Array.getElem?_append_left (by rw [hsz]; exact hlt)]
  show ((w.heap.modify blk (Go.Sort.onCells (Go.Sort.putCells eU 0 d')))[blk]?) = _
  rw [Array.getElem?_modify, if_pos rfl, h]
  simp only [Option.map_some, Go.Sort.onCells]
  refine congrArg (fun c => some (Obj.cells c T (0, 0))) ?_
  apply Array.ext
  ·simp [Go.Sort.putCells, hs]
  ·intro i h1 h2
   by_cases h3 : i < d'.size
   ·simp [Go.Sort.putCells, h3]
   ·have h4 : d.size ≤ i := by omega
    simp only [Go.Sort.putCells, Array.getElem_mapIdx, List.getElem_toArray]
    rw [if_neg (by omega), List.getElem_append_right (by simpa using h4), List.getElem_append_right (by simp; omega)]
    simp [hs]
 ·refine ⟨rfl, rfl, rfl, ?_, fun k hk hx => ?_⟩
  ·show _ ≤ ((Go.Sort.putRow eU (Go.Sort.ahead w n) blk 0 d').heap ++ os).size
   rw [Array.size_append, hsz]; omega
  ·show ((Go.Sort.putRow eU (Go.Sort.ahead w n) blk 0 d').heap ++ os)[k]? = _
   rw [Array.getElem?_append_left (by rw [hsz]; exact hk)]
   show ((w.heap.modify blk (Go.Sort.onCells (Go.Sort.putCells eU 0 d')))[k]?) = _
   rw [Array.getElem?_modify, if_neg (fun e => hx e.symm)]
theorem sort_c {w : World} {blk Bs cap : Nat} {d : Array Nat} {T T2 : TypeId} {rest : List Value} (hrow : Blk w blk (d.toList.map eU ++ rest) T) (hbox : Blk w Bs [.slice (some ⟨blk, 0, none⟩) d.size cap] T2) (hne : Bs ≠ blk) (h1 : 1 ≤ d.size) (hsz : d.size < 4611686018427387904) :
  zaF Tryz.prog 105 #[.iface tUs (.slice (some ⟨blk, 0, none⟩) d.size cap), .func (.func 106) #[] #[.pointer (some ⟨Bs, 0, none⟩)]] w fun _ w' =>
   ∃ d' : Array Nat, d'.size = d.size ∧ Go.Sort.PermIn 0 d.size d d' ∧ Go.Sort.SortedIn ltN 0 d.size d' ∧ Blk w' blk (d'.toList.map eU ++ rest) T ∧ Chg (fun k => k = blk) w w' := by
 have hblk := hrow.lt
 by_cases h2 : 2 ≤ d.size
 ·have hless : LessReads Tryz.prog 106 #[.pointer (some ⟨Bs, 0, none⟩)] eU ltN blk 0 d.size w := by
   intro m os dk hs i j hi hj
   obtain ⟨q1, q2⟩ := putRow_blk hrow hs m os
   have q3 := hbox.chg q2 hne
   have hx : zaF Tryz.prog 106 #[.int .i64 i, .int .i64 j, .pointer (some ⟨Bs, 0, none⟩)] (sortWorld eU w blk 0 m dk os) fun v w' => v = .bool (decide (dk[i]! < dk[j]!)) ∧ w' = (sortWorld eU w blk 0 m dk os).drew :=
    less_c (G := fun t => dk[t]!) (q3.cell 0) (fun t ht => by
     have := q1.cell (0 + t)
     refine this.trans ?_
     have ht' : t < dk.size := by omega
     rw [Nat.zero_add, List.getElem?_append_left (by simpa using ht')]
     simp [ht']) i j hi hj
   refine Calls.mono hx ?_
   rintro e w' ⟨v, rfl, rfl, rfl⟩
   exact ⟨rfl, 1, rfl⟩
  have hH : Go.Sort.Holds eU w blk 0 d := by
   intro j hj
   refine ⟨?_, ?_⟩
   ·refine (hrow.cell (0 + j)).trans ?_
    rw [Nat.zero_add, List.getElem?_append_left (by simpa using hj)]
    simp [hj]
   ·exact hrow.free _
  have hK : Go.Lib.swapperK d.size ((Tryz.prog.info? tU).get (by kernel_rfl)) 10 = 6 := by
   have a : ((Tryz.prog.info? tU).get (by kernel_rfl)).hasPointers = false := by kernel_rfl
   have b : ((Tryz.prog.info? tU).get (by kernel_rfl)).bytes = 4 := by kernel_rfl
   have c : (d.size == 0) = false := beq_eq_false_iff_ne.2 (by omega)
   have e : (d.size == 1) = false := beq_eq_false_iff_ne.2 (by omega)
   simp [Go.Lib.swapperK, a, b, c, e]
  have hS := Any.sort_Slice_sorted Tryz.sl6 tUs tU ((Tryz.prog.info? tUs).get (by kernel_rfl)) ((Tryz.prog.info? tU).get (by kernel_rfl)) (by kernel_rfl) (by kernel_rfl) (by kernel_rfl) (by kernel_rfl) 10 (fun _ => by kernel_rfl) (by kernel_rfl) (fun _ => by kernel_rfl) eU (fun _ => rfl) ltN swo_ltN 106 #[.pointer (some ⟨Bs, 0, none⟩)]
   (fun args w => Tryz.call106 args w) blk 0 cap d h2 hsz 119 (by rw [hK]; kernel_rfl) true
   (fun args W => run_callFunc_extern Tryz.func119 (by kernel_rfl) (by kernel_rfl) (by kernel_rfl) (e := Extern.ReflectliteSwapper.swap true) (by kernel_rfl) args W) w hless hH hblk
  refine Calls.mono hS ?_
  rintro e w' ⟨rfl, d', n, os, hp, hso, rfl⟩
  obtain ⟨q1, q2⟩ := putRow_blk hrow hp.1 n os
  exact ⟨_, rfl, d', hp.1, hp, hso, q1, q2⟩
 ·have e1 : d.size = 1 := by omega
  have hS := Any.sort_Slice_tiny Tryz.sl6 tUs tU ((Tryz.prog.info? tUs).get (by kernel_rfl)) ((Tryz.prog.info? tU).get (by kernel_rfl)) (by kernel_rfl) (by kernel_rfl) (by kernel_rfl) (by kernel_rfl) 10 (fun _ => by kernel_rfl) (some ⟨blk, 0, none⟩) d.size cap (by omega) 115 (by rw [e1]; kernel_rfl)
   (.func 106) #[] #[.pointer (some ⟨Bs, 0, none⟩)] w
  refine Calls.mono hS ?_
  rintro e w' ⟨rfl, os, rfl⟩
  have hg : Chg (fun _ => False) w (Go.Sort.grow w os) := ⟨rfl, rfl, rfl, by show _ ≤ (w.heap ++ os).size; rw [Array.size_append]; omega, fun k hk _ => by show (w.heap ++ os)[k]? = _; rw [Array.getElem?_append_left hk]⟩
  exact ⟨_, rfl, d, rfl, ⟨rfl, fun _ _ => rfl, List.Perm.refl _⟩, fun i j _ h2 h3 => by omega, hrow.chg hg (fun h => h), hg.mono fun _ _ h => h.elim⟩
set_option maxHeartbeats 2000000
theorem run_lenM {t ty : TypeId} {w : World} {G : Nat → Prop} {m : Option Nat} {tags : za5} (ht : mapTB Tryz.prog t = true) (h : TagsAt w G m tags) :
  (Builtin.len_ #[t] ty #[.map m]).run Tryz.prog w = .ok (.int .i64 tags.length) w := by
 obtain ⟨k, e, hu, _⟩ := mapTB_eq ht
 rcases h with ⟨rfl, rfl⟩ | ⟨r, es, clock, rfl, _, h3, h4, _⟩
 ·simp [Builtin.len_, underlying, hu, goInt]
 ·have := h4.length
  simp [Builtin.len_, underlying, hu, getObj, Sem.run, h3, goInt, ← this]
section
variable {ops : Array Oper} {Q : Exit → Act → World → Prop} {a : Act} {w : World} {rest : List Oper} {d : Option Nat} {ty : TypeId} {pos : String} {af : Array Edge}
theorem wl_lenM {t : TypeId} {x : Operand} {G : Nat → Prop} {m : Option Nat} {tags : za5} (ht : mapTB Tryz.prog t = true) (h : TagsAt w G m tags) (hx : a.eval x = .map m)
  (hn : WL Tryz.prog ops Q rest (a.put d (.int .i64 tags.length)) w) :
  WL Tryz.prog ops Q (⟨d, .call { callee := .builtin .len, args := #[x], argTypes := #[t] }, ty, pos, af, none⟩ :: rest) a w :=
 zaL rfl (by simp [execOp, resolve, invoke, builtin, hx, run_lenM ht h]) hn
theorem run_tagGet {w : World} {G : Nat → Prop} {r : Nat} {t : za5} {ty : TypeId} {x : Nat × Bs} (ht : mapTB Tryz.prog ty = true) (h : TagsAt w G (some r) t) (hx : x ∈ t) :
  ∃ oa cap, (Instr.lookup ty (.map (some r)) (.int .u32 x.1) false).run Tryz.prog w = .ok (.slice oa x.2.length cap) w ∧ zav w G oa x.2 := by
 obtain ⟨kt, et, hm, hd⟩ := mapTB_eq ht
 rcases h with h | ⟨r', es, clock, h1, h2, h3, h4, h5, h6, h7⟩
 ·cases h.1
 simp only [Option.some.injEq] at h1
 subst h1
 have hkey : MapKept.IsKey (.int .u32) (.int .u32 (x.1 : Nat)) := rfl
 have hks : ∀ x ∈ es.toList, MapKept.IsKey (.int .u32) x.key := by
  intro x hx
  obtain ⟨j, hj⟩ := List.mem_iff_getElem?.1 hx
  obtain ⟨b, _, hb'⟩ := h4.at_ hj
  rw [hb'.1]; rfl
 obtain ⟨e0, he0, hr0⟩ := h4.mem hx
 rcases MapKept.findNow_spec hkey es.toList 0 hks with ⟨f1, f2⟩ | ⟨j, e, f1, f2, f3⟩
 ·exact absurd hr0.1 (f2 e0 he0)
 ·obtain ⟨y, hy, hry⟩ := h4.at_ f2
  have hxy : y = x := by
   have hk : y.1 = x.1 := by
    have := hry.1.symm.trans f3
    simp only [Value.int.injEq, true_and] at this
    omega
   obtain ⟨i, hi⟩ := List.mem_iff_getElem?.1 hx
   have h1 : (t.map (·.1))[i]? = some x.1 := by simp [hi]
   have h2 : (t.map (·.1))[j]? = some x.1 := by simp [hy, hk]
   have hij := (List.getElem?_inj (List.getElem?_eq_some_iff.1 h1).1 h5).1 (h1.trans h2.symm)
   subst hij
   rw [hi] at hy; exact (Option.some.inj hy).symm
  subst hxy
  obtain ⟨_, _, oa, cap, e4, e5⟩ := hry
  refine ⟨oa, cap, ?_, e5⟩
  simp [Instr.lookup, run_underlying hm, MapKept.run_getObj_map h3, MapKept.run_checkKey hd hkey, MapKept.run_findKey hd f1, Result.andThen, e4]
theorem wl_tagGet {t : TypeId} {x y : Operand} {G : Nat → Prop} {r : Nat} {tg : za5} {z : Nat × Bs} (ht : mapTB Tryz.prog t = true) (h1 : TagsAt w G (some r) tg) (hz : z ∈ tg) (hx : a.eval x = .map (some r)) (hy : a.eval y = .int .u32 (z.1 : Nat))
  (h : ∀ oa cap, zav w G oa z.2 → WL Tryz.prog ops Q rest (a.put d (.slice oa z.2.length cap)) w) : WL Tryz.prog ops Q (⟨d, .lookup t x y false, ty, pos, af, none⟩ :: rest) a w := by
 obtain ⟨oa, cap, hr, hb⟩ := run_tagGet ht h1 hz
 exact zaL rfl (by simp only [execOp, Sem.run_bind, hx, hy, hr]; rfl) (h oa cap hb)
theorem wl_callV {f : FuncId} {g : Operand} {lb : Array Value} {xs : Array Operand} {ts : Array TypeId} {R : Value → World → Prop} (hf : zaY Tryz.prog f) (hg : a.eval g = .func (.func f) #[] lb) (hc : zaF Tryz.prog f (xs.map a.eval ++ lb) w R) (h : ∀ v w', R v w' → WL Tryz.prog ops Q rest (a.put d v) w') :
  WL Tryz.prog ops Q (⟨d, .call { callee := .value g, args := xs, argTypes := ts }, ty, pos, af, none⟩ :: rest) a w :=
 wl_enter rfl (by
  have := hf (xs.map a.eval ++ lb) w
  simp only [execOp, resolve, Deferred.ofValue, invoke, hg, Sem.run_bind, Sem.run_pure, Result.andThen, Array.empty_append]
  exact this) hc h
theorem wl_makeU {x : Operand} {n base : Nat} (hx : a.eval x = .int .i64 n) (hn : n ≤ 1099511627776) (hbase : base ≤ w.heap.size)
  (h : ∀ w', Chg (fun _ => False) w w' → w'.ownsRow base tU 1 (.slice (some ⟨w.heap.size, 0, none⟩) 0 n) 0 [] → w.heap.size < w'.heap.size → WL Tryz.prog ops Q rest (a.put d (.slice (some ⟨w.heap.size, 0, none⟩) 0 n)) w') :
  WL Tryz.prog ops Q (⟨d, .makeSlice tUs (.const (.int .i64 0)) x, ty, pos, af, none⟩ :: rest) a w := by
 have hT : rowB Tryz.prog tUs tU 1 4 = true := by kernel_rfl
 obtain ⟨ht, i, z, hi, hz, hs, hby, _⟩ := rowB_out hT
 obtain ⟨w', hr, ho, hg⟩ := run_make_own (P := Tryz.prog) w base tUs tU i _ 1 ht hi hz hs .i64 .i64 n (by rw [hby]; omega) (by unfold maxLen; omega) hbase
 refine zaL rfl (v := .slice (some ⟨w.heap.size, 0, none⟩) 0 n) (w' := w') (by simp only [execOp, Sem.run_bind, zai, hx, hr]; rfl) (h w' ((Chg.ofGrown hg).mono fun _ _ h => by simp at h) ho ?_)
 rcases ho.2 with ⟨h1, _⟩ | ⟨g, cap, cur, h1, _, h3, _⟩
 ·cases h1
 ·cases h1; exact (Array.getElem?_eq_some_iff.1 h3).1
theorem wl_appU {d1 d2 : Nat} {ty1 ty2 : TypeId} {pos1 pos2 : String} {af1 af2 : Array Edge} {x y : Operand} {base n k : Nat} {v : Value} {xs : List Value}
  (hx : (a.put (some d1) (.slice (some ⟨w.heap.size, 0, none⟩) 1 1)).eval x = v) (hd : d1 < a.tmps.size) (hy : a.eval y = eU k) (hown : w.ownsRow base tU 1 v n xs) (hlim : n + 1 ≤ 1099511627777) (hb : base ≤ w.heap.size)
  (h : ∀ u v' w', AppR tU 1 w base v (n + 1) (xs ++ [eU k]) v' w' → WL Tryz.prog ops Q rest ((a.put (some d1) u).put (some d2) v') w') :
  WL Tryz.prog ops Q (⟨some d1, .buildSlice tUs 1 #[(0, y)], ty1, pos1, af1, none⟩ :: ⟨some d2, .call { callee := .builtin .append, args := #[x, .tmp d1], argTypes := #[tUs, tUs] }, ty2, pos2, af2, none⟩ :: rest) a w := by
 have ht : (Tryz.prog).underlying tUs = some (.slice tU) := by kernel_rfl
 have hT : rowB Tryz.prog tUs tU 1 4 = true := by kernel_rfl
 have hr := run_buildSlice (P := Tryz.prog) (w := w) (t := tUs) (e := tU) (sz := 1) (z := .int .u32 0) ht (by kernel_rfl) (fun w => Tryz.zeroValue57 w) [eU k] (by intro v hv; simp only [List.mem_singleton] at hv; subst hv; rfl) (by simp) (by decide)
 simp only [List.length_cons, List.length_nil, Nat.zero_add, List.zipIdx_cons, List.zipIdx_nil, List.map_cons, List.map_nil, List.flatMap_cons, List.flatMap_nil, List.append_nil] at hr
 have e1 : (eU k).cells.toList = [eU k] := rfl
 rw [e1] at hr
 have hc : Chg (fun _ => False) w (w.alloc (.cells [eU k].toArray tU)) := Chg.alloc _ _ _
 have hbk : Blk (w.alloc (.cells [eU k].toArray tU)) w.heap.size [eU k] tU := Blk.new _ _ _
 generalize w.alloc (.cells [eU k].toArray tU) = w1 at hr hc hbk
 refine zaL rfl (v := .slice (some ⟨w.heap.size, 0, none⟩) 1 1) (w' := w1) ?_ ?_
 ·simp only [execOp, List.map_toArray, List.map_cons, List.map_nil, hy, Sem.run_bind, hr]; rfl
 obtain ⟨v', w', hr2, ha⟩ := run_appendRow (P := Tryz.prog) hT (by decide) ty2 (ownsRow_chg hown hc fun _ _ h => h) ⟨w.heap.size, 0, none⟩ 1 1 [eU k] rfl (fun j u hj => by rw [add_lit, Nat.zero_add, hbk.cell]; exact hj) (by intro u hu; simp only [List.mem_singleton] at hu; subst hu; rfl) (by omega) (by omega) (Nat.le_trans hb hc.size)
 refine zaL rfl (v := v') (w' := w') (by simp [execOp, resolve, invoke, builtin, hx, zaf, zad hd, hr2]) (h _ v' w' ⟨ha.own, ?_, ?_⟩)
 ·exact (hc.mono fun _ _ h => h.elim).trans ha.chg fun _ _ h => h
 ·rcases ha.blk with h | ⟨k, h1, h2⟩
  ·exact .inl h
  ·exact .inr ⟨k, h1, Nat.le_trans hc.size h2⟩
end
set_option maxHeartbeats 2000000
def natKey (e : MapEntry) : Nat := match e.key with | .int _ n => n.toNat | _ => 0
theorem natKey_of {w : World} {G : Nat → Prop} {e : MapEntry} {x : Nat × Bs} (h : RepE w G e x) : natKey e = x.1 ∧ e.key = eU x.1 := by
 obtain ⟨h1, _⟩ := h
 simp [natKey, h1, eU]
theorem all2_keys {w : World} {G : Nat → Prop} : ∀ {es : List MapEntry} {t : za5}, All2 (RepE w G) es t → es.map natKey = t.map (·.1)
 | _, _, .nil => rfl
 | _, _, .cons h r => by simp [(natKey_of h).1, all2_keys r]
theorem all2_eU {w : World} {G : Nat → Prop} {es : List MapEntry} {t : za5} (h : All2 (RepE w G) es t) : ∀ e ∈ es, e.key = eU (natKey e) := by
 induction h with
 | nil => intro e he; cases he
 | cons x _ ih =>
  intro e he
  rcases List.mem_cons.1 he with rfl | he
  ·rw [(natKey_of x).1]; exact (natKey_of x).2
  ·exact ih e he
theorem nodup_inj {α β : Type} (f : α → β) : ∀ {l : List α}, (l.map f).Nodup → ∀ x ∈ l, ∀ y ∈ l, f x = f y → x = y
 | [], _, x, hx, _, _, _ => by cases hx
 | a :: r, h, x, hx, y, hy, e => by
  rw [List.map_cons, List.nodup_cons] at h
  rcases List.mem_cons.1 hx with rfl | hx2
  ·rcases List.mem_cons.1 hy with rfl | hy2
   ·rfl
   ·exact absurd (by rw [e]; exact List.mem_map_of_mem hy2) h.1
  ·rcases List.mem_cons.1 hy with rfl | hy2
   ·exact absurd (by rw [← e]; exact List.mem_map_of_mem hx2) h.1
   ·exact nodup_inj f h.2 x hx2 y hy2 e
theorem nodup_of_map {α β : Type} (f : α → β) : ∀ {l : List α}, (l.map f).Nodup → l.Nodup
 | [], _ => List.nodup_nil
 | a :: r, h => by
  rw [List.map_cons, List.nodup_cons] at h
  exact List.nodup_cons.2 ⟨fun hm => h.1 (List.mem_map_of_mem hm), nodup_of_map f h.2⟩
theorem nodup_le {α : Type} : ∀ {L es : List α}, L.Nodup → (∀ x ∈ L, x ∈ es) → L.length ≤ es.length
 | [], _, _, _ => Nat.zero_le _
 | x :: L, es, h, hs => by
  obtain ⟨s, t, rfl⟩ := List.append_of_mem (hs x (by simp))
  rw [List.nodup_cons] at h
  have := nodup_le (es := s ++ t) h.2 fun y hy => by
   have := hs y (by simp [hy])
   simp only [List.mem_append, List.mem_cons] at this ⊢
   rcases this with h1 | rfl | h1
   ·exact .inl h1
   ·exact absurd hy h.1
   ·exact .inr h1
  simp only [List.length_append, List.length_cons] at this ⊢; omega
theorem setBlock_get {w : World} {r : Nat} {o : Obj} (h : r < w.heap.size) : (setBlock w r o).heap[r]? = some o := by simp [setBlock, h]
theorem chg_setBlock (w : World) (r : Nat) (o : Obj) : Chg (fun k => k = r) w (setBlock w r o) :=
 ⟨rfl, rfl, rfl, by simp [setBlock], fun k hk hx => by simp [setBlock, Ne.symm hx]⟩
theorem seenOf_it {w : World} {r s c : Nat} {m : Option Nat} {seen : Array Nat} (h : w.heap[r]? = some (.mapIter m s seen c)) : (match w.heap[r]? with | some (.mapIter _ _ s _) => s | _ => #[]) = seen := by rw [h]
def seenOf (w : World) (r : Nat) : Array Nat := match w.heap[r]? with | some (.mapIter _ _ s _) => s | _ => #[]
structure LpI (w0 : World) (O Rr : Nat) (es : Array MapEntry) (bm clock : Nat) (L : List MapEntry) (v : Value) (w : World) : Prop where
 it : ∃ c0, clock ≤ c0 ∧ w.heap[Rr]? = some (.mapIter (some bm) clock (L.map (·.born)).toArray c0)
 box : Blk w O [v] tUs
 row : w.ownsRow w0.heap.size tU 1 v L.length (L.map fun e => eU (natKey e))
 nO : ∀ k, v.ownBlock = some k → k ≠ O ∧ k ≠ Rr
 mem : ∀ e ∈ L, e ∈ es.toList
 nd : (L.map (·.born)).Nodup
 chg : Chg (fun _ => False) w0 w
theorem own_ge {w : World} {base n : Nat} {v : Value} {xs : List Value} {e : TypeId} {sz : Nat} (h : w.ownsRow base e sz v n xs) : ∀ k, v.ownBlock = some k → base ≤ k ∧ k < w.heap.size := by
 intro k hk
 rcases h.2 with ⟨rfl, _⟩ | ⟨g, cap, cur, rfl, hb, hg, _⟩
 ·cases hk
 ·simp only [Value.ownBlock, Option.some.injEq] at hk
  subst hk
  exact ⟨hb, (Array.getElem?_eq_some_iff.1 hg).1⟩
theorem LpI.step {w0 w w1 w3 w4 : World} {O Rr bm clock : Nat} {es : Array MapEntry} {L : List MapEntry} {v v' : Value} {e : MapEntry} (h : LpI w0 O Rr es bm clock L v w) (he : e ∈ (leftOf es (L.map (·.born)).toArray).toList) (h1 : w1 = w ∨ w1 = w.drew)
  (ha : AppR tU 1 (setBlock w1 Rr (.mapIter (some bm) clock ((L.map (·.born)).toArray.push e.born) clock)) w0.heap.size v (L.length + 1) ((L.map fun e => eU (natKey e)) ++ [eU (natKey e)]) v' w3)
  (hb : Blk w4 O [v'] tUs) (hc : Chg (fun k => k = O) w3 w4) (hO : w0.heap.size ≤ O) (hR : w0.heap.size ≤ Rr) (hOR : O ≠ Rr) : LpI w0 O Rr es bm clock (L ++ [e]) v' w4 := by
 obtain ⟨c0, _, hit⟩ := h.it
 have hRw : Rr < w.heap.size := (Array.getElem?_eq_some_iff.1 hit).1
 have hRw1 : Rr < w1.heap.size := by rcases h1 with rfl | rfl <;> exact hRw
 have c01 : Chg (fun _ => False) w0 w1 := by
  rcases h1 with rfl | rfl
  ·exact h.chg
  ·exact h.chg.trans (Chg.drew (fun _ => False) _) fun _ _ h => h
 have hOw : O < w1.heap.size := by
  have := h.box.lt
  rcases h1 with rfl | rfl <;> exact this
 have hset := setBlock_get (o := .mapIter (some bm) clock ((L.map (·.born)).toArray.push e.born) clock) hRw1
 have cset := chg_setBlock w1 Rr (.mapIter (some bm) clock ((L.map (·.born)).toArray.push e.born) clock)
 generalize setBlock w1 Rr (.mapIter (some bm) clock ((L.map (·.born)).toArray.push e.born) clock) = w2 at hset cset ha
 have hs12 := cset.size
 have hR2 : Rr < w2.heap.size := by omega
 have hs23 := ha.chg.size
 have hw' : ∀ k, v'.ownBlock = some k → k ≠ O ∧ k ≠ Rr := by
  intro k hk
  rcases ha.blk with hq | ⟨j, hq1, hq2⟩
  ·rw [hq] at hk; exact h.nO k hk
  ·rw [hq1] at hk; cases hk; omega
 have hown := own_ge h.row
 have e23 : w3.heap[Rr]? = w2.heap[Rr]? := ha.chg.block Rr hR2 fun hk => (h.nO Rr hk).2 rfl
 have e34 : w4.heap[Rr]? = w3.heap[Rr]? := hc.block Rr (by omega) fun e => hOR e.symm
 refine ⟨⟨clock, Nat.le_refl _, ?_⟩, hb, ?_, hw', ?_, ?_, ?_⟩
 ·rw [e34, e23, hset]; simp
 ·have := ownsRow_chg ha.own hc fun k hk e => (hw' k hk).1 e
  simpa using this
 ·intro x hx
  rcases List.mem_append.1 hx with hx | hx
  ·exact h.mem x hx
  ·simp only [List.mem_singleton] at hx; subst hx; exact (mem_left he).1
 ·rw [List.map_append, List.nodup_append]
  refine ⟨h.nd, by simp, ?_⟩
  intro x hx y hy e2
  simp only [List.map_cons, List.map_nil, List.mem_singleton] at hy
  subst hy e2
  have := (mem_left he).2
  simp at this
  obtain ⟨z, hz, hz2⟩ := List.mem_map.1 hx
  exact this z hz hz2
 ·refine (((c01.trans cset fun n hn e => by omega).trans ha.chg fun n hn e => ?_).trans hc fun n hn e => by omega)
  have := hown n e; omega
theorem LpI.perm {w0 w : World} {O Rr bm clock : Nat} {es : Array MapEntry} {L : List MapEntry} {v : Value} (h : LpI w0 O Rr es bm clock L v w) (h0 : (leftOf es (L.map (·.born)).toArray).size = 0) (hn : (es.toList.map (·.born)).Nodup) : L.Perm es.toList := by
 refine (List.perm_ext_iff_of_nodup (nodup_of_map _ h.nd) (nodup_of_map _ hn)).2 fun e => ⟨h.mem e, fun he => ?_⟩
 have hl : leftOf es (L.map (·.born)).toArray = #[] := Array.eq_empty_of_size_eq_zero h0
 unfold leftOf at hl
 rw [Array.filter_eq_empty_iff] at hl
 have := hl e (by simpa using he)
 simp at this
 obtain ⟨x, hx, hxe⟩ := this
 have := nodup_inj (·.born) hn x (h.mem x hx) e he hxe
 subst this; exact hx
theorem TagsLen_c {w : World} {G : Nat → Prop} {m : Option Nat} {tags : za5} {B o : Nat} {l : List Value} {T : TypeId} (hb : Blk w B l T) (hm : l[o]? = some (.map m)) (ht : TagsAt w G m tags) :
  zaF Tryz.prog 50 #[.pointer (some ⟨B, o, none⟩)] w fun v w' => v = .int .i64 tags.length ∧ w' = w := by
 refine zaq Tryz.func50 rfl rfl Tryz.ntmps50 (by simp) ?_
 intro a hN hD ha
 have h0 : get a 0 = .pointer (some ⟨B, o, none⟩) := ha 0 _ rfl
 have l0 := hb.ld hm
 have f0 : fOff Tryz.prog 65 0 = 0 := by kernel_rfl
 refine qsr fun K hK => ?_; (repeat ((with_reducible refine zaJ ?_ ?_ ?_); (· simp [qef, hN] <;> omega); (· kernel_rfl); try simp only [qec, hN, seval])); refine zaa (hK _ _ ?_); clear hK K
 refine qsr fun K hK => ?_; (repeat ((with_reducible refine zaJ ?_ ?_ ?_); (· simp [qef, hN, h0, l0, f0] <;> omega); (· kernel_rfl); try simp only [qec, hN, seval, h0, l0, f0]))
 refine wl_lenM (by kernel_rfl) ht (by simp only [qec, hN, seval]) ?_
 (repeat ((with_reducible refine zaJ ?_ ?_ ?_); (· simp [qef, hN] <;> omega); (· kernel_rfl); try simp only [qec, hN, seval])); refine zaa (hK _ _ ?_); clear hK K; refine wp_ret ⟨by simp [zab, hD], ?_⟩; simp only [qea, hN, seval]
 exact ⟨by first | rfl | trivial, by first | rfl | trivial⟩
theorem Each_c {w : World} {G : Nat → Prop} {m : Option Nat} {tags : za5} {B o : Nat} {l : List Value} {T : TypeId} {f : FuncId} {lb : Array Value} {X : Nat → Prop} {R : World → Prop}
  (hb : Blk w B l T) (hm : l[o]? = some (.map m)) (ht : TagsAt w G m tags) (hlen : tags.length ≤ 1099511627776) (hf : zaY Tryz.prog f) (hXB : ¬ X B) (hXG : ∀ k, G k → ¬ X k) (hGB : ∀ k, G k → k < w.heap.size) (hXw : ∀ k, X k → k < w.heap.size)
  (h0 : tags = [] → R w)
  (h : ∀ w1, Chg (fun _ => False) w w1 → ∃ Inv : za5 → World → Prop, Inv [] w1 ∧ (∀ t w', Inv t w' → Chg (fun k => X k ∨ w1.heap.size ≤ k) w1 w') ∧
   (∀ done x w' oa cap, Inv done w' → zav w' G oa x.2 → x ∈ tags → x.1 < 4294967296 → (∃ r, zaO tags = done ++ x :: r) → zaF Tryz.prog f (#[.int .u32 (x.1 : Nat), .slice oa x.2.length cap] ++ lb) w' fun _ w'' => Inv (done ++ [x]) w'') ∧ ∀ w', Inv (zaO tags) w' → R w') :
  zaF Tryz.prog 87 #[.pointer (some ⟨B, o, none⟩), .func (.func f) #[] lb] w fun _ w' => R w' := by
 refine callsR_of0 Tryz.func87 rfl rfl Tryz.ntmps87 (by simp) ?_
 intro a hN hD ha
 have g0 : get a 0 = .pointer (some ⟨B, o, none⟩) := ha 0 _ rfl
 have g1 : get a 1 = .func (.func f) #[] lb := ha 1 _ rfl
 have l0 := hb.ld hm
 have f0 : fOff Tryz.prog 65 0 = 0 := by kernel_rfl
 refine qsk fun K0 hK0 => ?_; refine qsr fun K1 hK1 => ?_
 (repeat ((with_reducible refine zaJ ?_ ?_ ?_); (· simp [qef, hN, g0, l0, f0] <;> omega); (· kernel_rfl); try simp only [qec, hN, seval, g0, l0, f0]))
 refine wl_lenM (by kernel_rfl) ht (by simp only [qec, hN, seval]) ?_
 (repeat ((with_reducible refine zaJ ?_ ?_ ?_); (· simp [qef, hN] <;> omega); (· kernel_rfl); try simp only [qec, hN, seval]))
 refine zaa ?_
 refine hK1 _ _ ?_; try clear hK1 K1
 cases tags with
 | nil =>
  refine wp_cond_true (by simp [qed, hN]) ?_
  exact wp_ret ⟨by simp [zab, hD], h0 rfl⟩
 | cons x0 tr =>
 have hne : ((x0 :: tr).length : Int) ≠ 0 := by simp only [List.length_cons]; omega
 have hpos : 1 ≤ (x0 :: tr).length := by simp
 generalize htg : x0 :: tr = tags at hne hpos hlen ht h ⊢
 clear htg h0 x0 tr
 have hne0 : ¬ tags = [] := fun e => by rw [e] at hpos; simp at hpos
 refine wp_cond_false (by simp [qed, hN, hne0]) ?_
 refine wp_skip ?_
 refine hK0 _ _ ?_; try clear hK0 K0
 rcases id ht with ⟨_, he⟩ | ⟨bm, es, clock, rfl, hGm, hmap, hall, hkn, hbn, hbc⟩
 ·rw [he] at hpos; simp at hpos
 refine qsr fun K hK => ?_; (repeat ((with_reducible refine zaJ ?_ ?_ ?_); (· simp [qef, hN, g0, l0, f0] <;> omega); (· kernel_rfl); try simp only [qec, hN, seval, g0, l0, f0]))
 refine wl_lenM (by kernel_rfl) ht (by simp only [qec, hN, seval]) ?_
 refine wl_makeU (n := tags.length) (base := w.heap.size) (by simp only [qec, hN, seval]) hlen (Nat.le_refl _) fun w1 hc1 hrow1 hlt1 => ?_
 refine wl_allocA (z := .slice none 0 0) (fun w => Tryz.zeroValue90 w) fun w2 hc2 hbx2 hs2 => ?_
 refine zbd (b := w1.heap.size) (o := 0) (n := 1) (v := .slice (some ⟨w.heap.size, 0, none⟩) 0 tags.length) (by kernel_rfl) (by simp [qed, hN]) (by simp [qed, hN]) hbx2 rfl (by intro y hy; simp only [Value.cells, List.mem_singleton] at hy; subst hy; rfl) (by simp [Value.cells]) fun w3 hbx3 hc3 => ?_
 have hsp : zaE (Value.slice none 0 0).cells.toList 0 (Value.slice (some ⟨w.heap.size, 0, none⟩) 0 tags.length).cells.toList = [Value.slice (some ⟨w.heap.size, 0, none⟩) 0 tags.length] := by simp [zaE, Value.cells]
 rw [hsp] at hbx3
 have hcw3 : Chg (fun _ => False) w w3 := (hc1.trans hc2 fun _ _ h => h).trans hc3 fun n hn e => by have := hc1.size; omega
 have hrow3 := ownsRow_chg (ownsRow_chg hrow1 hc2 fun _ _ h => h) hc3 (X := fun k => k = w1.heap.size) fun k hk e => by simp only [Value.ownBlock, Option.some.injEq] at hk; omega
 refine zaa (hK _ _ ?_); clear hK K
 refine qsk fun K0 hK0 => ?_; refine qsr fun K hK => ?_
 have l3 := (hb.chg hcw3 (fun h => h)).ld hm
 (repeat ((with_reducible refine zaJ ?_ ?_ ?_); (· simp [qef, hN, g0, l3, f0] <;> omega); (· kernel_rfl); try simp only [qec, hN, seval, g0, l3, f0]))
 have hmap3 : w3.heap[bm]? = some (.map es clock) := (hcw3.block bm (Array.getElem?_eq_some_iff.1 hmap).1 (fun h => h)).trans hmap
 obtain ⟨kt, et, hmt, _⟩ := mapTB_eq (P := Tryz.prog) (t := 63) (by kernel_rfl)
 have hrg := run_range_map (P := Tryz.prog) w3 63 kt et bm es clock hmt hmap3
 have hc4 : Chg (fun _ => False) w3 (w3.alloc (.mapIter (some bm) clock #[] clock)) := Chg.alloc _ _ _
 have hit4 : (w3.alloc (.mapIter (some bm) clock #[] clock)).heap[w3.heap.size]? = some (.mapIter (some bm) clock #[] clock) := heap_alloc_new _ _
 generalize w3.alloc (.mapIter (some bm) clock #[] clock) = w4 at hrg hc4 hit4
 refine zaL rfl (v := .pointer (some ⟨w3.heap.size, 0, none⟩)) (w' := w4) (by simp only [qea, execOp, Sem.run_bind, hN, seval, hrg]; rfl) ?_
 refine zaa (hK _ _ ?_); clear hK K
 have hs3 : w1.heap.size < w3.heap.size := hbx3.lt
 have hcw4 := hcw3.trans hc4 fun _ _ h => h
 have hI0 : LpI w w1.heap.size w3.heap.size es bm clock [] (.slice (some ⟨w.heap.size, 0, none⟩) 0 tags.length) w4 :=
  ⟨⟨clock, Nat.le_refl _, hit4⟩, hbx3.chg hc4 (fun h => h), ownsRow_chg hrow3 hc4 fun _ _ h => h, fun k hk => (by simp only [Value.ownBlock, Option.some.injEq] at hk; omega), fun _ h => (by cases h), List.nodup_nil, hcw4⟩
 have hO1 : w.heap.size ≤ w1.heap.size := hc1.size
 generalize hO : w1.heap.size = O at hI0 hs3 hO1 ⊢
 generalize hRr : w3.heap.size = Rr at hI0 hs3 ⊢
 clear hbx2 hbx3 hrow1 hrow3 hc1 hc2 hc3 hc4 hcw3 hcw4 hit4 hmap3 hrg l3 hs2 hlt1 hsp
 have hfin : ∀ a' w', a'.tmps.size = 53 → a'.defers = [] → get a' 0 = .pointer (some ⟨B, o, none⟩) → get a' 1 = .func (.func f) #[] lb → get a' 4 = .pointer (some ⟨O, 0, none⟩) → (∃ L v, LpI w O Rr es bm clock L v w' ∧ L.Perm es.toList) → K0 a' w' := by
  clear hN hD g0 g1 ha hI0
  rintro a w5 hN hD g0 g1 g4 ⟨L, v, hI, hperm⟩
  refine hK0 _ _ ?_; try clear hK0 K0
  have hLn : L.length = tags.length := hperm.length_eq.trans hall.length
  obtain ⟨oa, cap, rfl, hcap, hrow⟩ := ownsRow_slice hI.row
  rcases hrow with hz | ⟨g, cs, rfl, hg, hrow, htake, hog⟩
  ·omega
  obtain ⟨d, hd⟩ : ∃ d : Array Nat, d = (L.map natKey).toArray := ⟨_, rfl⟩
  have hdl : d.toList = L.map natKey := by rw [hd]
  have hds : d.size = L.length := by rw [hd]; simp
  have hcs : cs = d.toList.map eU ++ cs.drop L.length := by
   rw [hdl, List.map_map]
   have := List.take_append_drop L.length cs
   rw [Nat.mul_one] at htake
   rw [htake] at this
   exact this.symm
  rw [hcs] at hrow
  generalize cs.drop L.length = rest at hrow
  clear hcs htake
  have hgO : O ≠ g := fun e => (hI.nO g hog).1 e.symm
  have hbox := hI.box
  have hchg := hI.chg
  rw [← hds] at hbox hcap
  have l5 := hbox.ld (i := 0) rfl
  refine qsr fun K hK => ?_; (repeat ((with_reducible refine zaJ ?_ ?_ ?_); (· simp [qef, hN, g4, l5] <;> omega); (· kernel_rfl); try simp only [qec, hN, seval, g4, l5]))
  refine zaL rfl (v := .iface tUs (.slice (some ⟨g, 0, none⟩) d.size cap)) (w' := w5) (by
   have := run_makeInterface (P := Tryz.prog) (w := w5) tUs (.slice (some ⟨g, 0, none⟩) d.size cap) (by kernel_rfl)
   simp only [qea, execOp, Sem.run_bind, hN, seval, this]; rfl) ?_
  refine zaL rfl (v := .func (.func 106) #[] #[.pointer (some ⟨O, 0, none⟩)]) (w' := w5) (by simp [qea, execOp, Instr.makeFunc, hN, seval, g4]) ?_
  refine zaz (fun args w => Tryz.call105 args w) (by simp only [qea, List.map_toArray, List.map_cons, List.map_nil, hN, seval]; exact sort_c hrow hbox hgO (by omega) (by omega)) ?_
  rintro _ w6 ⟨d', hd's, hp, hso, hrow6, hc6⟩
  refine zaa (hK _ _ ?_); clear hK K
  have hsorted : d'.toList = (zaO tags).map (·.1) := sort_keys hkn (by rw [hdl, ← all2_keys hall]; exact hperm.map _) hp hso
  have hcw6 : Chg (fun _ => False) w w6 := hchg.trans hc6 fun n hn e => by omega
  have hbox6 := hbox.chg hc6 hgO
  obtain ⟨Inv, i0, i1, i2, i3⟩ := h w6 hcw6
  have hg6 : g < w6.heap.size := hrow6.lt
  have hlenS : (zaO tags).length = tags.length := tagSort_len tags
  rw [hsorted] at hrow6
  rw [hds, hLn] at hbox6 hcap l5
  have l6 := hbox6.ld (i := 0) rfl
  refine qsr fun K hK => ?_; (repeat ((with_reducible refine zaJ ?_ ?_ ?_); (· simp [qef, hN, g4, l6] <;> omega); (· kernel_rfl); try simp only [qec, hN, seval, g4, l6])); refine zaa (hK _ _ ?_); clear hK K
  refine wp_range (n := tags.length) (fun i a' w' => a'.tmps.size = 53 ∧ a'.defers = [] ∧ get a' 0 = .pointer (some ⟨B, o, none⟩) ∧ get a' 1 = .func (.func f) #[] lb ∧ get a' 37 = .slice (some ⟨g, 0, none⟩) tags.length cap ∧ Inv ((zaO tags).take i) w') 53 (by omega)
   (by simp only [qea, hN, seval]; try rfl) (by simp only [qea, hN, seval]) ⟨by simp only [qea, hN, seval], by simp [zab, hD], by simp only [qea, hN, seval, g0], by simp only [qea, hN, seval, g1], by simp only [qea, hN, seval], by rw [List.take_zero]; exact i0⟩ ?_ ?_ (by decide) ?_ ?_
  ·rintro i a w ⟨h, _⟩; exact h
  ·rintro i a w t v ht ⟨k1, k2, k3, k4, k5, k6⟩
   rcases ht with rfl | rfl | rfl <;> exact ⟨by rw [zag]; exact k1, by rw [zab]; exact k2, by rw [zae (by decide)]; exact k3, by rw [zae (by decide)]; exact k4, by rw [zae (by decide)]; exact k5, k6⟩
  ·clear hN hD g0 g1 g4
   rintro i a1 w7 hi ⟨hN, hD, g0, g1, g37, hInv⟩ g38 g39
   have hx : (zaO tags)[i]? = some ((zaO tags)[i]'(by omega)) := List.getElem?_eq_getElem _
   generalize (zaO tags)[i]'(by omega) = x at hx
   have hxm : x ∈ tags := (mem_tagSort tags x).1 (List.mem_of_getElem? hx)
   have hc7 := i1 _ _ hInv
   have hrow7 := hrow6.chg hc7 fun e => by rcases e with e | e; exact absurd (hXw _ e) (by omega); omega
   have hBlt := hb.lt
   have hb7 := (hb.chg hcw6 (fun h => h)).chg hc7 fun e => by rcases e with e | e; exact hXB e; have := hcw6.size; omega
   have l7 := hb7.ld hm
   have ht7 : TagsAt w7 G (some bm) tags := (ht.stay (zbl.of hcw6 fun _ _ _ h => h)).stay (zbl.of hc7 fun k hk _ e => by rcases e with e | e; exact hXG k hk e; have := hcw6.size; have := hGB k hk; omega)
   have hx32 : x.1 < 4294967296 := by
    obtain ⟨e, _, _, h2, _⟩ := hall.mem hxm
    exact h2
   refine qsr fun K1 hK1 => ?_
   refine zaT (b := g) (o := 0) (k := .i64) (i := i) (n := 1) (len := tags.length) (cap := cap) (by kernel_rfl) (by simp [qed, hN, g37]) (by simp [qed, hN, g39]) hi ?_
   refine zaK (b := g) (o := 0 + i * 1) (v := eU x.1) (by kernel_rfl) (by simp [qed, hN]) hrow7 (by
    rw [Nat.zero_add, Nat.mul_one, List.getElem?_append_left (by simp; omega)]
    simp [hx]) ?_
   (repeat ((with_reducible refine zaJ ?_ ?_ ?_); (· simp [qef, hN] <;> omega); (· kernel_rfl); try simp only [qec, hN, seval]))
   refine zaa ?_
   refine hK1 _ _ ?_; try clear hK1 K1
   refine zax ?_
   (repeat ((with_reducible refine zaJ ?_ ?_ ?_); (· simp [qef, hN, g0, g1, l7, f0] <;> omega); (· kernel_rfl); try simp only [qec, hN, seval, g0, g1, l7, f0]))
   refine wl_tagGet (r := bm) (z := x) (by kernel_rfl) ht7 hxm (by simp only [qea, hN, seval]) (by simp only [qea, hN, seval] <;> rfl) fun oa cap' hbx => ?_
   refine wl_callV (f := f) (lb := lb) hf (by simp only [qea, hN, seval]) (by
    simp only [qea, List.map_toArray, List.map_cons, List.map_nil, hN, seval]
    exact i2 ((zaO tags).take i) x w7 oa cap' hInv hbx hxm hx32 ⟨(zaO tags).drop (i + 1), by
     obtain ⟨hh, he⟩ := List.getElem?_eq_some_iff.1 hx
     rw [← he, ← List.drop_eq_getElem_cons hh, List.take_append_drop]⟩) ?_
   rintro _ w8 hInv8
   have et : (zaO tags).take (i + 1) = (zaO tags).take i ++ [x] := by rw [List.take_add_one, hx]; rfl
   refine zaa ⟨⟨by simp only [qea, hN, seval], by simp [zab, hD], by simp only [qea, hN, seval, g0], by simp only [qea, hN, seval, g1], by simp only [qea, hN, seval, g37], by rw [et]; exact hInv8⟩, by simp only [qea, hN, seval, g38], by simp only [qea, hN, seval, g39]⟩
  ·rintro a w7 ⟨hN, hD, _, _, _, hInv⟩
   rw [← hlenS, List.take_length] at hInv
   exact ⟨hD, i3 _ hInv⟩
 refine wp_block ?_
 refine wp_loop (fun a' w' => ∃ L v, a'.tmps.size = 53 ∧ a'.defers = [] ∧ get a' 0 = .pointer (some ⟨B, o, none⟩) ∧ get a' 1 = .func (.func f) #[] lb ∧ get a' 4 = .pointer (some ⟨O, 0, none⟩) ∧ get a' 24 = .pointer (some ⟨Rr, 0, none⟩) ∧ LpI w O Rr es bm clock L v w') (fun _ w' => (leftOf es (seenOf w' Rr)).size) ?_ ?_
 ·exact ⟨[], _, by simp only [qea, hN, seval], by simp [zab, hD], by simp only [qea, hN, seval, g0], by simp only [qea, hN, seval, g1], by simp only [qea, hN, seval], by simp only [qea, hN, seval], hI0⟩
 clear hN hD g0 g1 ha hI0
 rintro a w5 ⟨L, v, hN, hD, g0, g1, g4, g24, hI⟩
 obtain ⟨c0, hcc, hit⟩ := hI.it
 have hmap5 : w5.heap[bm]? = some (.map es clock) := (hI.chg.block bm (Array.getElem?_eq_some_iff.1 hmap).1 (fun h => h)).trans hmap
 refine qsr fun K1 hK1 => ?_
 rcases run_next_at (P := Tryz.prog) w5 0 Rr bm clock c0 (L.map (·.born)).toArray es clock hit hmap5 hbc hcc with ⟨hz, hr⟩ | ⟨e, he, w6, hw6, hr⟩
 ·refine zaL rfl (v := .tuple #[.bool false]) (w' := w5) (by simp only [qea, execOp, Sem.run_bind, hN, seval, g24, hr]; rfl) ?_
  (repeat ((with_reducible refine zaJ ?_ ?_ ?_); (· simp [qef, hN, exV, exOK] <;> omega); (· kernel_rfl); try simp only [qec, hN, seval, exV, exOK]))
  refine zaa ?_
  refine hK1 _ _ ?_; try clear hK1 K1
  refine qsk fun K1 hK1 => ?_
  refine wp_cond_false (by simp [qed, hN]) ?_
  refine wp_exit ?_
  simp only [Exit.then, Exit.inBlock, if_pos]
  exact hfin _ _ (by simp only [qea, hN, seval]) (by simp [zab, hD]) (by simp only [qea, hN, seval, g0]) (by simp only [qea, hN, seval, g1]) (by simp only [qea, hN, seval, g4]) ⟨L, v, hI, hI.perm hz hbn⟩
 ·have hRw : Rr < w5.heap.size := (Array.getElem?_eq_some_iff.1 hit).1
  have hRw6 : Rr < w6.heap.size := by rcases hw6 with rfl | rfl <;> exact hRw
  have hbmR : bm ≠ Rr := by have := hGB bm hGm; omega
  have hmap6 : w6.heap[bm]? = some (.map es clock) := by rcases hw6 with rfl | rfl <;> exact hmap5
  have hbox6 : Blk w6 O [v] tUs := by rcases hw6 with rfl | rfl <;> exact hI.box
  have hset := setBlock_get (o := .mapIter (some bm) clock ((L.map (·.born)).toArray.push e.born) clock) hRw6
  have cset := chg_setBlock w6 Rr (.mapIter (some bm) clock ((L.map (·.born)).toArray.push e.born) clock)
  have hmap7 := (cset.block bm (Array.getElem?_eq_some_iff.1 hmap6).1 hbmR).trans hmap6
  have hbox7 := hbox6.chg cset (by omega)
  have hrow7 : (setBlock w6 Rr (.mapIter (some bm) clock ((L.map (·.born)).toArray.push e.born) clock)).ownsRow w.heap.size tU 1 v L.length (L.map fun e => eU (natKey e)) := by
   have hr6 : w6.ownsRow w.heap.size tU 1 v L.length (L.map fun e => eU (natKey e)) := by rcases hw6 with rfl | rfl <;> exact hI.row
   exact ownsRow_chg hr6 cset fun k hk e => (hI.nO k hk).2 e
  have hent := run_entry_at (P := Tryz.prog) _ Rr bm clock (L.map (·.born)).toArray es clock e hset hmap7 (mem_left he).1 hbn
  have hsz7 : w.heap.size ≤ (setBlock w6 Rr (.mapIter (some bm) clock ((L.map (·.born)).toArray.push e.born) clock)).heap.size := by have := cset.size; omega
  have hkey := all2_eU hall e (mem_left he).1
  have hLlen : L.length ≤ tags.length := by
   rw [← hall.length]
   have h1 := nodup_le (nodup_of_map _ hI.nd) hI.mem
   exact h1
  refine zaL rfl (v := .tuple #[.bool true, e.key, e.val]) (w' := setBlock w6 Rr (.mapIter (some bm) clock ((L.map (·.born)).toArray.push e.born) clock)) (by simp only [qea, execOp, Sem.run_bind, hN, seval, g24, hr]; rfl) ?_
  have hstep := fun v' w3 w4 ha hb hc => hI.step (v' := v') (w3 := w3) (w4 := w4) he hw6 ha hb hc hO1 (by omega) (by omega)
  generalize setBlock w6 Rr (.mapIter (some bm) clock ((L.map (·.born)).toArray.push e.born) clock) = w7 at hset cset hmap7 hbox7 hrow7 hent hsz7 hstep ⊢
  (repeat ((with_reducible refine zaJ ?_ ?_ ?_); (· simp [qef, hN, exV, exOK] <;> omega); (· kernel_rfl); try simp only [qec, hN, seval, exV, exOK]))
  refine zaa ?_
  refine hK1 _ _ ?_; try clear hK1 K1
  refine qsk fun K1 hK1 => ?_
  refine wp_cond_true (by simp [qed, hN]) ?_
  refine wp_skip ?_
  refine hK1 _ _ ?_; try clear hK1 K1
  refine wp_block ?_
  refine qsr fun K1 hK1 => ?_
  refine zaL rfl (v := .tuple #[e.key, e.val]) (w' := w7) (by simp only [qea, execOp, Sem.run_bind, hN, seval, g24, hent]; rfl) ?_
  (repeat ((with_reducible refine zaJ ?_ ?_ ?_); (· simp [qef, hN, exV, exOK] <;> omega); (· kernel_rfl); try simp only [qec, hN, seval, exV, exOK]))
  refine zaa ?_
  refine hK1 _ _ ?_; try clear hK1 K1
  refine zax ?_
  have l7 := hbox7.ld (i := 0) rfl
  (repeat ((with_reducible refine zaJ ?_ ?_ ?_); (· simp [qef, hN, g4, l7] <;> omega); (· kernel_rfl); try simp only [qec, hN, seval, g4, l7]))
  refine wl_appU (k := natKey e) (base := w.heap.size) (n := L.length) (v := v) (xs := L.map fun e => eU (natKey e)) (by simp only [qea, hN, seval]) (by simp only [qea, hN, seval]) (by simp only [qea, hN, seval]; exact hkey) hrow7 (by omega) hsz7 fun u v' w8 happ => ?_
  have hvc : v'.cells = #[v'] := by
   obtain ⟨oa, cap, rfl, _⟩ := ownsRow_slice happ.own
   rfl
  have hbox8 : Blk w8 O [v] tUs := hbox7.chg happ.chg fun hk => (hI.nO O hk).1 rfl
  refine zbd (b := O) (o := 0) (n := 1) (v := v') (by kernel_rfl) (by simp [qed, hN, g4]) (by simp [qed, hN]) hbox8 (by rw [hvc]; rfl) (by intro y hy; rw [hvc] at hy; simp only [List.mem_singleton] at hy; subst hy; obtain ⟨oa, cap, rfl, _⟩ := ownsRow_slice happ.own; rfl) (by simp) fun w9 hbox9 hc9 => ?_
  have e9 : zaE [v] 0 v'.cells.toList = [v'] := by rw [hvc]; simp [zaE]
  rw [e9] at hbox9
  have hI' := hstep v' w8 w9 happ hbox9 hc9
  refine zaa ⟨⟨L ++ [e], v', by simp only [qea, hN, seval], by simp [zab, hD], by simp only [qea, hN, seval, g0], by simp only [qea, hN, seval, g1], by simp only [qea, hN, seval, g4], by simp only [qea, hN, seval, g24], hI'⟩, ?_⟩
  obtain ⟨c1, _, hit'⟩ := hI'.it
  have e1 : seenOf w5 Rr = (L.map (·.born)).toArray := seenOf_it hit
  have e2 : seenOf w9 Rr = (L.map (·.born)).toArray.push e.born := by rw [show seenOf w9 Rr = _ from seenOf_it hit']; simp
  rw [e1, e2]
  exact left_shrinks es _ e he
theorem Own.cells1 {e : TypeId} {w : World} {base : Nat} {v : Value} {bs : Bs} (h : Own e w base v bs) : v.cells = #[v] ∧ v.oneCell' = true := by
 rcases h.2 with ⟨rfl, _⟩ | ⟨g, cap, cur, rfl, _⟩ <;> exact ⟨rfl, rfl⟩
def DstI (w0 : World) (base D : Nat) (v0 v : Value) (bs : Bs) (w : World) : Prop := Own eB w base v bs ∧ Blk w D [v] 22 ∧ (v.ownBlock = v0.ownBlock ∨ ∃ k, v.ownBlock = some k ∧ w0.heap.size ≤ k) ∧
 Chg (fun k => (k = D ∨ v0.ownBlock = some k) ∨ w0.heap.size ≤ k) w0 w
theorem DstI.step {w0 w w2 w3 : World} {base D : Nat} {v0 v v' : Value} {bs bs' : Bs} (h : DstI w0 base D v0 v bs w) (ha : App eB w base v bs' v' w2) (hb3 : Blk w3 D [v'] 22) (hc : Chg (fun k => k = D) w2 w3) (hD0 : D < w0.heap.size) (hv0 : v0.ownBlock ≠ some D) : DstI w0 base D v0 v' bs' w3 := by
 obtain ⟨h1, h2, h3, h4⟩ := h
 have hs := h4.size
 have hv' : v'.ownBlock = v0.ownBlock ∨ ∃ k, v'.ownBlock = some k ∧ w0.heap.size ≤ k := by
  rcases ha.blk with q | ⟨k, q1, q2⟩
  ·rw [q]; exact h3
  ·exact .inr ⟨k, q1, by omega⟩
 refine ⟨ha.own.chg hc fun k hk e => ?_, hb3, hv', (h4.trans ha.chg fun n hn e => ?_).trans hc fun n hn e => .inl (.inl e)⟩
 ·subst e
  rcases hv' with q | ⟨j, q1, q2⟩
  ·exact hv0 (q ▸ hk)
  ·rw [q1] at hk; cases hk; omega
 ·rcases h3 with q | ⟨j, q1, q2⟩
  ·exact .inl (.inr (q ▸ e))
  ·rw [q1] at e; cases e; exact .inr q2
theorem DstI.bytes {w0 w w2 w3 : World} {base D : Nat} {v0 v v' : Value} {bs bs' : Bs} {G : Nat → Prop} {oa : Option Addr} {l : Bs} (h : DstI w0 base D v0 v bs w) (hx : zav w G oa l) (hG : ∀ k, G k → k < base) (ha : App eB w base v bs' v' w2) (hc : Chg (fun k => k = D) w2 w3) (hbD : base ≤ D) : zav w3 G oa l :=
 (hx.chg ha.chg fun k hk _ e => by have := (own_ge h.1 k e).1; have := hG k hk; omega).chg hc fun k hk _ e => by have := hG k hk; omega
theorem clo_c {w0 w : World} {base D cap : Nat} {v0 v : Value} {bs : Bs} {x : Nat × Bs} {oa : Option Addr} {G : Nat → Prop} (h : DstI w0 base D v0 v bs w) (hx : zav w G oa x.2) (hG : ∀ k, G k → k < base) (hbD : base ≤ D) (hD0 : D < w0.heap.size) (hv0 : v0.ownBlock ≠ some D) (h32 : x.1 < 4294967296)
  (hlim : bs.length + (encTag x).length ≤ LIM) : zaF Tryz.prog 88 #[.int .u32 (x.1 : Nat), .slice oa x.2.length cap, .pointer (some ⟨D, 0, none⟩)] w fun _ w' => ∃ v', DstI w0 base D v0 v' (bs ++ encTag x) w' := by
 have hbs : base ≤ w0.heap.size := by omega
 unfold encTag at hlim ⊢
 simp only [List.length_append] at hlim
 refine callsR_of0 Tryz.func88 rfl rfl Tryz.ntmps88 (by simp) ?_
 intro a hN hD ha
 have g0 : get a 0 = .int .u32 (x.1 : Nat) := ha 0 _ rfl
 have g1 : get a 1 = .slice oa x.2.length cap := ha 1 _ rfl
 have g2 : get a 2 = .pointer (some ⟨D, 0, none⟩) := ha 2 _ rfl
 have l0 := h.2.1.ld (i := 0) rfl
 refine qsr fun K hK => ?_; (repeat ((with_reducible refine zaJ ?_ ?_ ?_); (· simp [qef, hN, g0, g2, l0] <;> omega); (· kernel_rfl); try simp only [qec, hN, seval, g0, g2, l0]))
 refine za6 (fun args w => Tryz.call49 args w) (zbc x.1 h32) (by simp [qea, hN, seval]) h.1 (by omega) (by have := h.2.2.2.size; omega) trivial ?_
 intro v1 w1 ha1
 have hc1 := ha1.own.cells1
 have hb1 : Blk w1 D [v] 22 := h.2.1.chg ha1.chg fun e => by
  rcases h.2.2.1 with q | ⟨j, q1, q2⟩
  ·exact hv0 (q ▸ e)
  ·rw [q1] at e; cases e; omega
 refine zbd (b := D) (o := 0) (n := 1) (v := v1) (by kernel_rfl) (by simp [qed, hN, g2]) (by simp [qed, hN]) hb1 (by rw [hc1.1]; rfl) (by intro y hy; rw [hc1.1] at hy; simp only [List.mem_singleton] at hy; subst hy; exact hc1.2) (by simp) fun w2 hb2 hk2 => ?_
 have e2 : zaE [v] 0 v1.cells.toList = [v1] := by rw [hc1.1]; simp [zaE]
 rw [e2] at hb2
 have hx2 := h.bytes hx hG ha1 hk2 hbD
 replace h := h.step ha1 hb2 hk2 hD0 hv0
 clear ha1 hc1 hb1 hb2 hk2 e2 hx
 refine zaa (hK _ _ ?_); clear hK K
 have l2 := h.2.1.ld (i := 0) rfl
 refine qsr fun K hK => ?_; (repeat ((with_reducible refine zaJ ?_ ?_ ?_); (· simp [qef, hN, g1, g2, l2] <;> omega); (· kernel_rfl); try simp only [qec, hN, seval, g1, g2, l2]))
 have hcv : IntKind.u32.wrap (x.2.length : Int) = (x.2.length : Int) % 4294967296 := by simp [IntKind.wrap, IntKind.bits, IntKind.signed]
 refine za6 (fun args w => Tryz.call49 args w) (zbc (x.2.length % 4294967296) (by omega)) (by simp [qea, hN, seval, hcv]) h.1 (by simp only [List.length_append]; omega) (by have := h.2.2.2.size; omega) trivial ?_
 intro v3 w3 ha3
 have hc3 := ha3.own.cells1
 have hb3 : Blk w3 D [v1] 22 := h.2.1.chg ha3.chg fun e => by
  rcases h.2.2.1 with q | ⟨j, q1, q2⟩
  ·exact hv0 (q ▸ e)
  ·rw [q1] at e; cases e; omega
 refine zbd (b := D) (o := 0) (n := 1) (v := v3) (by kernel_rfl) (by simp [qed, hN, g2]) (by simp [qed, hN]) hb3 (by rw [hc3.1]; rfl) (by intro y hy; rw [hc3.1] at hy; simp only [List.mem_singleton] at hy; subst hy; exact hc3.2) (by simp) fun w4 hb4 hk4 => ?_
 have e4 : zaE [v1] 0 v3.cells.toList = [v3] := by rw [hc3.1]; simp [zaE]
 rw [e4] at hb4
 have hx4 := h.bytes hx2 hG ha3 hk4 hbD
 replace h := h.step ha3 hb4 hk4 hD0 hv0
 clear ha3 hc3 hb3 hb4 hk4 e4 hx2
 refine zaa (hK _ _ ?_); clear hK K
 have l4 := h.2.1.ld (i := 0) rfl
 refine zax ?_; (repeat ((with_reducible refine zaJ ?_ ?_ ?_); (· simp [qef, hN, g1, g2, l4] <;> omega); (· kernel_rfl); try simp only [qec, hN, seval, g1, g2, l4]))
 refine wl_append (c := cap) bT (by simp only [qea, hN, seval]) (by simp only [qea, hN, seval]) h.1 hx4 (by simp only [List.length_append]; omega) (by have := h.2.2.2.size; omega) ?_
 intro v5 w5 ha5
 have hc5 := ha5.own.cells1
 have hb5 : Blk w5 D [v3] 22 := h.2.1.chg ha5.chg fun e => by
  rcases h.2.2.1 with q | ⟨j, q1, q2⟩
  ·exact hv0 (q ▸ e)
  ·rw [q1] at e; cases e; omega
 refine zbd (b := D) (o := 0) (n := 1) (v := v5) (by kernel_rfl) (by simp [qed, hN, g2]) (by simp [qed, hN]) hb5 (by rw [hc5.1]; rfl) (by intro y hy; rw [hc5.1] at hy; simp only [List.mem_singleton] at hy; subst hy; exact hc5.2) (by simp) fun w6 hb6 hk6 => ?_
 have e6 : zaE [v3] 0 v5.cells.toList = [v5] := by rw [hc5.1]; simp [zaE]
 rw [e6] at hb6
 refine zaa ⟨by simp [zab, hD], v5, ?_⟩
 have := h.step ha5 hb6 hk6 hD0 hv0
 rwa [List.append_assoc, List.append_assoc] at this
theorem encTagsEach_part {tags done r : za5} {x : Nat × Bs} (h : zaO tags = done ++ x :: r) : (done.flatMap encTag).length + (encTag x).length ≤ (zaW tags).length := by
 unfold zaW
 rw [h]; simp only [List.flatMap_append, List.flatMap_cons, List.length_append]; omega
theorem uvarA_pos : ∀ (k n : Nat), 1 ≤ (za2 k n).length
 | 0, n => by simp [za2]
 | k + 1, n => by unfold za2; split <;> simp
theorem encTagsEach_ge : ∀ t : za5, t.length ≤ (t.flatMap encTag).length
 | [] => Nat.le_refl _
 | x :: r => by
  have h1 := encTagsEach_ge r
  have h2 : 1 ≤ (encTag x).length := by
   unfold encTag
   have : 1 ≤ (zbo x.1).length := uvarA_pos 4 x.1
   simp only [List.length_append]; omega
  simp only [List.flatMap_cons, List.length_append, List.length_cons]; omega
theorem TagsEach_c {w : World} {base : Nat} {m : Option Nat} {tags : za5} {B o : Nat} {l : List Value} {T : TypeId} {v : Value} {bs : Bs} (_hok : tagOK tags) (hb : Blk w B l T) (hm : l[o]? = some (.map m))
  (ht : TagsAt w (fun g => g < base) m tags) (hB : B < base) (hown : Own eB w base v bs) (hlim : bs.length + (zaW tags).length ≤ LIM) (hbase : base ≤ w.heap.size) :
  zaF Tryz.prog 51 #[.pointer (some ⟨B, o, none⟩), v] w (App eB w base v (bs ++ zaW tags)) := by
 have hn : tags.length ≤ 1099511627776 := by
  have := encTagsEach_ge (zaO tags)
  rw [tagSort_len] at this
  unfold zaW LIM at hlim; omega
 refine zaq Tryz.func51 rfl rfl Tryz.ntmps51 (by simp) ?_
 intro a hN hD ha
 have h0 : get a 0 = .pointer (some ⟨B, o, none⟩) := ha 0 _ rfl
 have h1 : get a 1 = v := ha 1 _ rfl
 have hv := hown.cells1
 refine qsr fun K hK => ?_
 refine wl_box ?_
 rw [zaf, h1, hv.1]
 have hc : Chg (fun _ => False) w (w.alloc (.cells #[v] 22)) := Chg.alloc _ _ _
 have hbk : Blk (w.alloc (.cells #[v] 22)) w.heap.size [v] 22 := Blk.new _ [v] _
 generalize w.alloc (.cells #[v] 22) = w1 at hc hbk ⊢
 refine zah ?_
 refine zaa (hK _ _ ?_); clear hK K
 refine qsr fun K hK => ?_; (repeat ((first | ((with_reducible refine zaw ?_ ?_ ?_ ?_); (· rfl); (· simp [qee, hN, h0] <;> omega); (· kernel_rfl)) | ((with_reducible refine qlS ?_ ?_ ?_); (· simp [qed, hN, h0]); (· kernel_rfl))); try simp only [qeb, hN, seval, h0]))
 refine zaL rfl (v := .func (.func 88) #[] #[.pointer (some ⟨w.heap.size, 0, none⟩)]) (w' := w1) (by simp [qea, execOp, Instr.makeFunc, hN, seval]) ?_
 have hlt1 := hbk.lt
 have hown1 : Own eB w1 base v bs := hown.chg hc fun _ _ h => h
 have hvo : v.ownBlock ≠ some w.heap.size := fun e => by have := (own_ge hown _ e).2; omega
 refine zaz (R := fun _ w' => ∃ v', DstI w1 base w.heap.size v v' (bs ++ zaW tags) w') (fun args w => Tryz.call87 args w) (by
  simp only [qea, List.map_toArray, List.map_cons, List.map_nil, hN, seval, h0]
  refine Each_c (G := fun g => g < base) (X := fun k => k = w.heap.size ∨ v.ownBlock = some k) (hb.chg hc (fun h => h)) hm (ht.stay (zbl.of hc fun _ _ _ h => h)) hn (fun args w => Tryz.call88 args w) ?_ ?_ ?_ ?_ ?_ ?_
  ·rintro (e | e)
   ·omega
   ·have := (own_ge hown _ e).1; omega
  ·rintro k hk (e | e)
   ·omega
   ·have := (own_ge hown _ e).1; omega
  ·intro k hk; have := hc.size; omega
  ·rintro k (e | e)
   ·omega
   ·have := (own_ge hown1 _ e).2; omega
  ·rintro rfl
   refine ⟨v, ?_, hbk, .inl rfl, Chg.refl _ _⟩
   have e : bs ++ zaW [] = bs := by simp [zaW, zaO]
   rw [e]; exact hown1
  ·intro w2 hc2
   have hs2 := hc2.size
   refine ⟨fun done w' => ∃ v', DstI w2 base w.heap.size v v' (bs ++ done.flatMap encTag) w', ⟨v, ?_, hbk.chg hc2 (fun h => h), .inl rfl, Chg.refl _ _⟩, ?_, ?_, ?_⟩
   ·simp only [List.flatMap_nil, List.append_nil]; exact hown1.chg hc2 fun _ _ h => h
   ·rintro t w' ⟨v', _, _, _, h4⟩; exact h4
   ·rintro done x w' oa cap ⟨v', hI⟩ hx hxm h32 ⟨r, hr⟩
    have hp := encTagsEach_part hr
    refine zaF.mono (clo_c (cap := cap) hI hx (fun k hk => hk) hbase (by omega) hvo h32 (by simp only [List.length_append]; omega)) ?_
    rintro _ w'' ⟨v'', hI'⟩
    exact ⟨v'', by simpa only [List.flatMap_append, List.flatMap_cons, List.flatMap_nil, List.append_nil, List.append_assoc] using hI'⟩
   ·rintro w' ⟨v', q1, q2, q3, q4⟩
    refine ⟨v', q1, q2, ?_, (hc2.mono fun _ _ h => h.elim).trans q4 fun n hn e => ?_⟩
    ·rcases q3 with q | ⟨k, q, q'⟩
     ·exact .inl q
     ·exact .inr ⟨k, q, by omega⟩
    ·rcases e with e | e
     ·exact .inl e
     ·omega) ?_
 rintro u w2 ⟨v', q1, q2, q3, q4⟩
 refine zaa (hK _ _ ?_); clear hK K
 refine qsr fun K hK => ?_
 refine zaK (b := w.heap.size) (o := 0) (by kernel_rfl) (by simp [qed, hN]) q2 rfl ?_
 (repeat ((first | ((with_reducible refine zaw ?_ ?_ ?_ ?_); (· rfl); (· simp [qee, hN] <;> omega); (· kernel_rfl)) | ((with_reducible refine qlS ?_ ?_ ?_); (· simp [qed, hN]); (· kernel_rfl))); try simp only [qeb, hN, seval])); refine zaa (hK _ _ ?_); clear hK K; refine wp_ret ⟨by simp [zab, hD], ?_⟩; simp only [qea, hN, seval]
 refine ⟨q1, (hc.mono fun _ _ h => h.elim).trans q4 fun n hn e => ?_, ?_⟩
 ·rcases e with (e | e) | e
  ·omega
  ·exact e
  ·have := hc.size; omega
 ·rcases q3 with q | ⟨k, q, q'⟩
  ·exact .inl q
  ·exact .inr ⟨k, q, by have := hc.size; omega⟩
end Go.Proofs.YtnjjfpgpookjlaaGreatDoor

import Derived.Test.YtojpodeljpfgaabDoorZL
import Derived.Test.YtojpodeljpfgaabDoorZA
import Derived.Test.YtojpodeljpfgaabDoorZD
import Derived.Test.YtojpodeljpfgaabDoorZK
import Derived.Test.YtojpodeljpfgaabDoorProg
import Derived.Shelf.GgSortFunc.Whole
import Derived.Sort.LotA
import Derived.Shelf.GgSortFunc.Tiny
import Derived.Maps.RangeRun
/-
What the proofs of the laws rest on, part ZT.
-/
namespace Go.Proofs.YtojpodeljpfgaabDoor
open Go.Shelf
def Tryd.sl6_ren : Go.Shelf.Ren := ⟨fun | 6 => 52 | 10 => 54 | 11 => 55 | 12 => 56 | 13 => 57 | 14 => 58 | 24 => 51 | 25 => 68 | 26 => 69 | 27 => 70 | 28 => 71 | 29 => 72 | 30 => 73 | 31 => 74 | 32 => 75 | 33 => 76 | 34 => 77 | 35 => 78 | 36 => 79 | 37 => 80 | 38 => 81 | 39 => 82 | n => n, fun | 20 => 20 | 26 => 89 | 35 => 93 | 0 => 0 | 37 => 95 | 3 => 3 | 41 => 78 | 44 => 100 | 49 => 58 | 51 => 105 | 4 => 4 | 54 => 108 | 53 => 107 | 58 => 112 | 5 => 5 | 9 => 9 | 60 => 114 | 64 => 118 | 66 => 120 | 67 => 121 | 17 => 17 | 32 => 90 | 33 => 91 | 82 => 136 | 12 => 12 | 75 => 129 | 76 => 130 | 77 => 131 | 78 => 132 | 79 => 133 | 80 => 134 | n => n, fun | n => n⟩
theorem Tryd.sl6 : Go.Proofs.LaysGg.n6 Tryd.prog Tryd.sl6_ren where
  mixed := by kernel_rfl
  f6 := Tryd.func52.trans (congrArg some (by kernel_rfl))
  f10 := Tryd.func54.trans (congrArg some (by kernel_rfl))
  f11 := Tryd.func55.trans (congrArg some (by kernel_rfl))
  f12 := Tryd.func56.trans (congrArg some (by kernel_rfl))
  f13 := Tryd.func57.trans (congrArg some (by kernel_rfl))
  f14 := Tryd.func58.trans (congrArg some (by kernel_rfl))
  f24 := Tryd.func51.trans (congrArg some (by kernel_rfl))
  f25 := Tryd.func68.trans (congrArg some (by kernel_rfl))
  f26 := Tryd.func69.trans (congrArg some (by kernel_rfl))
  f27 := Tryd.func70.trans (congrArg some (by kernel_rfl))
  f28 := Tryd.func71.trans (congrArg some (by kernel_rfl))
  f29 := Tryd.func72.trans (congrArg some (by kernel_rfl))
  f30 := Tryd.func73.trans (congrArg some (by kernel_rfl))
  f31 := Tryd.func74.trans (congrArg some (by kernel_rfl))
  f32 := Tryd.func75.trans (congrArg some (by kernel_rfl))
  f33 := Tryd.func76.trans (congrArg some (by kernel_rfl))
  f34 := Tryd.func77.trans (congrArg some (by kernel_rfl))
  f35 := Tryd.func78.trans (congrArg some (by kernel_rfl))
  f36 := Tryd.func79.trans (congrArg some (by kernel_rfl))
  f37 := Tryd.func80.trans (congrArg some (by kernel_rfl))
  f38 := Tryd.func81.trans (congrArg some (by kernel_rfl))
  f39 := Tryd.func82.trans (congrArg some (by kernel_rfl))
  t0 := Tryd.underlying0
  a0 := Tryd.isAgg0
  z0 := Tryd.sizeOf0
  v0 := Tryd.zeroValue0
  i0 := by kernel_rfl
  t3 := Tryd.underlying3
  a3 := Tryd.isAgg3
  z3 := Tryd.sizeOf3
  v3 := Tryd.zeroValue3
  i3 := by kernel_rfl
  t4 := Tryd.underlying4
  a4 := Tryd.isAgg4
  z4 := Tryd.sizeOf4
  v4 := Tryd.zeroValue4
  i4 := by kernel_rfl
  t5 := Tryd.underlying5
  a5 := Tryd.isAgg5
  z5 := Tryd.sizeOf5
  v5 := Tryd.zeroValue5
  i5 := by kernel_rfl
  t9 := Tryd.underlying9
  a9 := Tryd.isAgg9
  z9 := Tryd.sizeOf9
  v9 := Tryd.zeroValue9
  i9 := by kernel_rfl
  t12 := Tryd.underlying12
  a12 := Tryd.isAgg12
  z12 := Tryd.sizeOf12
  v12 := Tryd.zeroValue12
  i12 := by kernel_rfl
  t17 := Tryd.underlying17
  a17 := Tryd.isAgg17
  z17 := Tryd.sizeOf17
  v17 := Tryd.zeroValue17
  i17 := by kernel_rfl
  t20 := Tryd.underlying20
  a20 := Tryd.isAgg20
  z20 := Tryd.sizeOf20
  v20 := Tryd.zeroValue20
  i20 := by kernel_rfl
  t26 := Tryd.underlying89
  a26 := Tryd.isAgg89
  z26 := Tryd.sizeOf89
  v26 := Tryd.zeroValue89
  i26 := by kernel_rfl
  t32 := Tryd.underlying90
  a32 := Tryd.isAgg90
  z32 := Tryd.sizeOf90
  v32 := Tryd.zeroValue90
  i32 := by kernel_rfl
  t33 := Tryd.underlying91
  a33 := Tryd.isAgg91
  z33 := Tryd.sizeOf91
  v33 := Tryd.zeroValue91
  i33 := by kernel_rfl
  t35 := Tryd.underlying93
  a35 := Tryd.isAgg93
  z35 := Tryd.sizeOf93
  v35 := Tryd.zeroValue93
  i35 := by kernel_rfl
  t37 := Tryd.underlying95
  a37 := Tryd.isAgg95
  z37 := Tryd.sizeOf95
  v37 := Tryd.zeroValue95
  i37 := by kernel_rfl
  t41 := Tryd.underlying78
  a41 := Tryd.isAgg78
  z41 := Tryd.sizeOf78
  v41 := Tryd.zeroValue78
  i41 := by kernel_rfl
  t44 := Tryd.underlying100
  a44 := Tryd.isAgg100
  z44 := Tryd.sizeOf100
  v44 := Tryd.zeroValue100
  i44 := by kernel_rfl
  t49 := Tryd.underlying58
  a49 := Tryd.isAgg58
  z49 := Tryd.sizeOf58
  v49 := Tryd.zeroValue58
  i49 := by kernel_rfl
  t51 := Tryd.underlying105
  a51 := Tryd.isAgg105
  z51 := Tryd.sizeOf105
  v51 := Tryd.zeroValue105
  i51 := by kernel_rfl
  t53 := Tryd.underlying107
  a53 := Tryd.isAgg107
  z53 := Tryd.sizeOf107
  v53 := Tryd.zeroValue107
  i53 := by kernel_rfl
  t54 := Tryd.underlying108
  a54 := Tryd.isAgg108
  z54 := Tryd.sizeOf108
  v54 := Tryd.zeroValue108
  i54 := by kernel_rfl
  t58 := Tryd.underlying112
  a58 := Tryd.isAgg112
  z58 := Tryd.sizeOf112
  v58 := Tryd.zeroValue112
  i58 := by kernel_rfl
  t60 := Tryd.underlying114
  a60 := Tryd.isAgg114
  z60 := Tryd.sizeOf114
  v60 := Tryd.zeroValue114
  i60 := by kernel_rfl
  t64 := Tryd.underlying118
  a64 := Tryd.isAgg118
  z64 := Tryd.sizeOf118
  v64 := Tryd.zeroValue118
  i64 := by kernel_rfl
  t66 := Tryd.underlying120
  a66 := Tryd.isAgg120
  z66 := Tryd.sizeOf120
  v66 := Tryd.zeroValue120
  i66 := by kernel_rfl
  t67 := Tryd.underlying121
  a67 := Tryd.isAgg121
  z67 := Tryd.sizeOf121
  v67 := Tryd.zeroValue121
  i67 := by kernel_rfl
  t75 := Tryd.underlying129
  a75 := Tryd.isAgg129
  z75 := Tryd.sizeOf129
  v75 := Tryd.zeroValue129
  i75 := by kernel_rfl
  t76 := Tryd.underlying130
  a76 := Tryd.isAgg130
  z76 := Tryd.sizeOf130
  v76 := Tryd.zeroValue130
  i76 := by kernel_rfl
  t77 := Tryd.underlying131
  a77 := Tryd.isAgg131
  z77 := Tryd.sizeOf131
  v77 := Tryd.zeroValue131
  i77 := by kernel_rfl
  t78 := Tryd.underlying132
  a78 := Tryd.isAgg132
  z78 := Tryd.sizeOf132
  v78 := Tryd.zeroValue132
  i78 := by kernel_rfl
  t79 := Tryd.underlying133
  a79 := Tryd.isAgg133
  z79 := Tryd.sizeOf133
  v79 := Tryd.zeroValue133
  i79 := by kernel_rfl
  t80 := Tryd.underlying134
  a80 := Tryd.isAgg134
  z80 := Tryd.sizeOf134
  v80 := Tryd.zeroValue134
  i80 := by kernel_rfl
  t82 := Tryd.underlying136
  a82 := Tryd.isAgg136
  z82 := Tryd.sizeOf136
  v82 := Tryd.zeroValue136
  i82 := by kernel_rfl
end Go.Proofs.YtojpodeljpfgaabDoor
namespace Go.Proofs.YtojpodeljpfgaabDoor
set_option linter.all false
open Go.RowKit
def ltN (a b : Nat) : Bool := decide (a < b)
theorem swo_ltN : Go.Sort.SWO ltN := ⟨fun x => by simp [ltN], fun x y z => by simp [ltN]; omega, fun x y z => by simp [ltN]; omega⟩
theorem tagIns_perm (x : Nat × Bs) : ∀ t : za0, (tagIns x t).Perm (x :: t)
  | [] => List.Perm.refl _
  | y :: r => by
    unfold tagIns
    split
    · exact List.Perm.refl _
    · exact ((tagIns_perm x r).cons y).trans (List.Perm.swap x y r)
theorem tagSort_perm : ∀ t : za0, (zaB t).Perm t
  | [] => List.Perm.refl _
  | x :: r => by unfold zaB; exact (tagIns_perm x _).trans ((tagSort_perm r).cons x)
theorem rising_le : ∀ {t : za0}, Rising t → (t.map (·.1)).Pairwise (· ≤ ·)
  | [], _ => by simp
  | x :: r, h => by
    rw [List.map_cons, List.pairwise_cons]
    refine ⟨fun b hb => ?_, rising_le h.2⟩
    obtain ⟨y, hy, rfl⟩ := List.mem_map.1 hb
    exact Nat.le_of_lt (h.1 y hy)
theorem sort_keys {ts : za0} (hn : (ts.map (·.1)).Nodup) {d d' : Array Nat} (hd : d.toList.Perm (ts.map (·.1))) (hp : Go.Sort.PermIn 0 d.size d d') (hs : Go.Sort.SortedIn ltN 0 d.size d') : d'.toList = (zaB ts).map (·.1) := by
  obtain ⟨hsz, _, hperm⟩ := hp
  have e1 : d'.extract 0 d.size = d' := by rw [← hsz]; exact Array.extract_size
  rw [e1, Array.extract_size] at hperm
  refine List.Perm.eq_of_pairwise (le := fun x y => x ≤ y) ?_ ?_ (rising_le (tagSort_rising ts hn)) (hperm.trans (hd.trans ((tagSort_perm ts).map _).symm))
  · intro a b _ _ h1 h2; omega
  · rw [List.pairwise_iff_getElem]
    intro i j hi hj hij
    have := hs i j (Nat.zero_le _) hij (by simpa [hsz] using hj)
    simp only [Array.length_toList] at hi hj
    rw [getElem!_pos d' j hj, getElem!_pos d' i hi] at this
    simp [ltN] at this
    simpa using this
end Go.Proofs.YtojpodeljpfgaabDoor
namespace Go.Proofs.YtojpodeljpfgaabDoor
set_option linter.all false
open Go.RowKit
set_option maxRecDepth 100000
set_option maxHeartbeats 2000000
def eU (k : Nat) : Value := .int .u32 k
abbrev tUs : TypeId := 59
abbrev tU : TypeId := 58
theorem ldV_some {w : World} {p : Addr} {v : Value} (h : w.cell? p = some v) : ldV w (.pointer (some p)) = v ∧ ldOK w (.pointer (some p)) = true := by
  constructor <;> simp [ldV, ldOK, h]
theorem less_c {W : World} {Bs blk size cap : Nat} {G : Nat → Nat} (hs : W.cell? ⟨Bs, 0, none⟩ = some (.slice (some ⟨blk, 0, none⟩) size cap)) (hc : ∀ t, t < size → W.cell? ⟨blk, 0 + t, none⟩ = some (eU (G t))) (i j : Nat) (hi : i < size) (hj : j < size) :
    zaD Tryd.prog 53 #[.int .i64 i, .int .i64 j, .pointer (some ⟨Bs, 0, none⟩)] W fun v w' => v = .bool (decide (G i < G j)) ∧ w' = W.drew := by
  refine zat Tryd.func53 rfl rfl Tryd.ntmps53 (by simp) ?_
  intro a hN hD ha
  have h0 : get a 0 = .int .i64 i := ha 0 _ rfl
  have h1 : get a 1 = .int .i64 j := ha 1 _ rfl
  have h2 : get a 2 = .pointer (some ⟨Bs, 0, none⟩) := ha 2 _ rfl
  have lB : ldV W (.pointer (some ⟨Bs, 0, none⟩)) = .slice (some ⟨blk, 0, none⟩) size cap ∧ ldOK W (.pointer (some ⟨Bs, 0, none⟩)) = true := ldV_some hs
  have li : ldV W (.pointer (some ⟨blk, i, none⟩)) = eU (G i) ∧ ldOK W (.pointer (some ⟨blk, i, none⟩)) = true := ldV_some (by have := hc i hi; rwa [Nat.zero_add] at this)
  have lj : ldV W (.pointer (some ⟨blk, j, none⟩)) = eU (G j) ∧ ldOK W (.pointer (some ⟨blk, j, none⟩)) = true := ldV_some (by have := hc j hj; rwa [Nat.zero_add] at this)
  have s1 : eSz Tryd.prog tUs = 1 := by kernel_rfl
  have di : (decide ((0 : Int) ≤ (i : Int)) && decide ((i : Int) < (size : Int))) = true := by simp only [Bool.and_eq_true, decide_eq_true_eq]; omega
  have dj : (decide ((0 : Int) ≤ (j : Int)) && decide ((j : Int) < (size : Int))) = true := by simp only [Bool.and_eq_true, decide_eq_true_eq]; omega
  refine wp_seq_k fun K hK => ?_; refine zai ?_; (repeat ((with_reducible refine zaw ?_ ?_ ?_); (· simp [evb, pvb, rnb, kb, hN, dyb, sdb] <;> omega); (· kernel_rfl); try simp only [evb, pvb, rnb, kb, hN, seval])); refine zah ?_; refine hK _ _ ?_; clear hK K
  refine wp_seq_k fun K hK => ?_
  refine wp_ord (fun _ => False) follows_any (by kernel_rfl) ?_
  (repeat (first | (refine wf_p rfl rfl ?_ ?_ ?_ ?_; (· first | exact rdX_no | (refine ⟨?_⟩; simp [rxb]; done)); (· simp [evb, pvb, rnb, kb, hN, seval, h0, h1, h2, lB, li, lj, s1, ixV, ixOK, di, dj, eU, dyb, sdb] <;> omega); (· kernel_rfl); try simp only [evb, pvb, rnb, kb, hN, seval, h0, h1, h2, lB, li, lj, s1, ixV, ixOK, di, dj, eU]) | (refine wf_pg rfl rfl rfl ?_ rfl ?_ ?_ ?_ ?_; (· simp [evb, pvb, rnb, kb, hN, seval, h0, h1, h2, lB, li, lj, s1, ixV, ixOK, di, dj, eU]; done); (· first | exact rdX_no | (refine ⟨?_⟩; simp [rxb]; done)); (· simp [evb, pvb, rnb, kb, hN, seval, h0, h1, h2, lB, li, lj, s1, ixV, ixOK, di, dj, eU, dyb, sdb] <;> omega); (· kernel_rfl); try simp only [evb, pvb, rnb, kb, hN, seval, h0, h1, h2, lB, li, lj, s1, ixV, ixOK, di, dj, eU]) | (refine wf_gno rfl rfl rfl ?_ ?_; (· simp [evb, pvb, rnb, kb, hN, seval, h0, h1, h2, lB, li, lj, s1, ixV, ixOK, di, dj, eU]; done); try simp only [evb, pvb, rnb, kb, hN, seval, h0, h1, h2, lB, li, lj, s1, ixV, ixOK, di, dj, eU]) | (refine wf_gnoU rfl rfl rfl ?_ ?_; (· simp [evb, pvb, rnb, kb, hN, seval, h0, h1, h2, lB, li, lj, s1, ixV, ixOK, di, dj, eU]; done); try simp only [evb, pvb, rnb, kb, hN, seval, h0, h1, h2, lB, li, lj, s1, ixV, ixOK, di, dj, eU])))
  refine wf_nil (by decide) ?_
  refine hK _ _ ?_
  refine wp_ret ⟨by simp [zaj, hD], ?_⟩; simp only [evb, kb, hN, seval]
  exact ⟨by rw [Int.toNat_natCast, Int.toNat_natCast, li.1, lj.1]; simp [cmp2, eU], trivial⟩
theorem putRow_blk {w : World} {blk : Nat} {d d' : Array Nat} {T : TypeId} {rest : List Value} (h : Blk w blk (d.toList.map eU ++ rest) T) (hs : d'.size = d.size) (n : Nat) (os : Array Obj) :
    Blk (Go.Sort.grow (Go.Sort.putRow eU (Go.Sort.ahead w n) blk 0 d') os) blk (d'.toList.map eU ++ rest) T ∧ Chg (fun k => k = blk) w (Go.Sort.grow (Go.Sort.putRow eU (Go.Sort.ahead w n) blk 0 d') os) := by
  have hlt := h.lt
  have hsz : (Go.Sort.putRow eU (Go.Sort.ahead w n) blk 0 d').heap.size = w.heap.size := by simp [Go.Sort.putRow, Go.Sort.mapBlock, Go.Sort.ahead]
  refine ⟨?_, ?_⟩
  · unfold Blk at h ⊢
    show ((Go.Sort.putRow eU (Go.Sort.ahead w n) blk 0 d').heap ++ os)[blk]? = _
    rw [Array.getElem?_append_left (by rw [hsz]; exact hlt)]
    show ((w.heap.modify blk (Go.Sort.onCells (Go.Sort.putCells eU 0 d')))[blk]?) = _
    rw [Array.getElem?_modify, if_pos rfl, h]
    simp only [Option.map_some, Go.Sort.onCells]
    refine congrArg (fun c => some (Obj.cells c T (0, 0))) ?_
    apply Array.ext
    · simp [Go.Sort.putCells, hs]
    · intro i h1 h2
      by_cases h3 : i < d'.size
      · simp [Go.Sort.putCells, h3]
      · have h4 : d.size ≤ i := by omega
        simp only [Go.Sort.putCells, Array.getElem_mapIdx, List.getElem_toArray]
        rw [if_neg (by omega), List.getElem_append_right (by simpa using h4), List.getElem_append_right (by simp; omega)]
        simp [hs]
  · refine ⟨rfl, rfl, rfl, ?_, fun k hk hx => ?_⟩
    · show _ ≤ ((Go.Sort.putRow eU (Go.Sort.ahead w n) blk 0 d').heap ++ os).size
      rw [Array.size_append, hsz]; omega
    · show ((Go.Sort.putRow eU (Go.Sort.ahead w n) blk 0 d').heap ++ os)[k]? = _
      rw [Array.getElem?_append_left (by rw [hsz]; exact hk)]
      show ((w.heap.modify blk (Go.Sort.onCells (Go.Sort.putCells eU 0 d')))[k]?) = _
      rw [Array.getElem?_modify, if_neg (fun e => hx e.symm)]
theorem sort_c {w : World} {blk Bs cap : Nat} {d : Array Nat} {T T2 : TypeId} {rest : List Value} (hrow : Blk w blk (d.toList.map eU ++ rest) T) (hbox : Blk w Bs [.slice (some ⟨blk, 0, none⟩) d.size cap] T2) (hne : Bs ≠ blk) (h1 : 1 ≤ d.size) (hsz : d.size < 4611686018427387904) :
    zaD Tryd.prog 52 #[.iface tUs (.slice (some ⟨blk, 0, none⟩) d.size cap), .func (.func 53) #[] #[.pointer (some ⟨Bs, 0, none⟩)]] w fun _ w' =>
      ∃ d' : Array Nat, d'.size = d.size ∧ Go.Sort.PermIn 0 d.size d d' ∧ Go.Sort.SortedIn ltN 0 d.size d' ∧ Blk w' blk (d'.toList.map eU ++ rest) T ∧ Chg (fun k => k = blk) w w' := by
  have hblk := hrow.lt
  by_cases h2 : 2 ≤ d.size
  · have hless : LessReads Tryd.prog 53 #[.pointer (some ⟨Bs, 0, none⟩)] eU ltN blk 0 d.size w := by
      intro m os dk hs i j hi hj
      obtain ⟨q1, q2⟩ := putRow_blk hrow hs m os
      have q3 := hbox.chg q2 hne
      have hx : zaD Tryd.prog 53 #[.int .i64 i, .int .i64 j, .pointer (some ⟨Bs, 0, none⟩)] (sortWorld eU w blk 0 m dk os) fun v w' => v = .bool (decide (dk[i]! < dk[j]!)) ∧ w' = (sortWorld eU w blk 0 m dk os).drew :=
        less_c (G := fun t => dk[t]!) (q3.cell 0) (fun t ht => by
          have := q1.cell (0 + t)
          refine this.trans ?_
          have ht' : t < dk.size := by omega
          rw [Nat.zero_add, List.getElem?_append_left (by simpa using ht')]
          simp [ht']) i j hi hj
      refine Calls.mono hx ?_
      rintro e w' ⟨v, rfl, rfl, rfl⟩
      exact ⟨rfl, 1, rfl⟩
    have hH : Go.Sort.Holds eU w blk 0 d := by
      intro j hj
      refine ⟨?_, ?_⟩
      · refine (hrow.cell (0 + j)).trans ?_
        rw [Nat.zero_add, List.getElem?_append_left (by simpa using hj)]
        simp [hj]
      · exact hrow.free _
    have hK : Go.Lib.swapperK d.size ((Tryd.prog.info? tU).get (by kernel_rfl)) 10 = 6 := by
      have a : ((Tryd.prog.info? tU).get (by kernel_rfl)).hasPointers = false := by kernel_rfl
      have b : ((Tryd.prog.info? tU).get (by kernel_rfl)).bytes = 4 := by kernel_rfl
      have c : (d.size == 0) = false := beq_eq_false_iff_ne.2 (by omega)
      have e : (d.size == 1) = false := beq_eq_false_iff_ne.2 (by omega)
      simp [Go.Lib.swapperK, a, b, c, e]
    have hS := Any.sort_Slice_sorted Tryd.sl6 tUs tU ((Tryd.prog.info? tUs).get (by kernel_rfl)) ((Tryd.prog.info? tU).get (by kernel_rfl)) (by kernel_rfl) (by kernel_rfl) (by kernel_rfl) (by kernel_rfl) 10 (fun _ => by kernel_rfl) (by kernel_rfl) (fun _ => by kernel_rfl) eU (fun _ => rfl) ltN swo_ltN 53 #[.pointer (some ⟨Bs, 0, none⟩)]
      (fun args w => Tryd.call53 args w) blk 0 cap d h2 hsz 64 (by rw [hK]; kernel_rfl) true
      (fun args W => run_callFunc_extern Tryd.func64 (by kernel_rfl) (by kernel_rfl) (by kernel_rfl) (e := Extern.ReflectliteSwapper.swap true) (by kernel_rfl) args W) w hless hH hblk
    refine Calls.mono hS ?_
    rintro e w' ⟨rfl, d', n, os, hp, hso, rfl⟩
    obtain ⟨q1, q2⟩ := putRow_blk hrow hp.1 n os
    exact ⟨_, rfl, d', hp.1, hp, hso, q1, q2⟩
  · have e1 : d.size = 1 := by omega
    have hS := Any.sort_Slice_tiny Tryd.sl6 tUs tU ((Tryd.prog.info? tUs).get (by kernel_rfl)) ((Tryd.prog.info? tU).get (by kernel_rfl)) (by kernel_rfl) (by kernel_rfl) (by kernel_rfl) (by kernel_rfl) 10 (fun _ => by kernel_rfl) (some ⟨blk, 0, none⟩) d.size cap (by omega) 60 (by rw [e1]; kernel_rfl)
      (.func 53) #[] #[.pointer (some ⟨Bs, 0, none⟩)] w
    refine Calls.mono hS ?_
    rintro e w' ⟨rfl, os, rfl⟩
    have hg : Chg (fun _ => False) w (Go.Sort.grow w os) := ⟨rfl, rfl, rfl, by show _ ≤ (w.heap ++ os).size; rw [Array.size_append]; omega, fun k hk _ => by show (w.heap ++ os)[k]? = _; rw [Array.getElem?_append_left hk]⟩
    exact ⟨_, rfl, d, rfl, ⟨rfl, fun _ _ => rfl, List.Perm.refl _⟩, fun i j _ h2 h3 => by omega, hrow.chg hg (fun h => h), hg.mono fun _ _ h => h.elim⟩
end Go.Proofs.YtojpodeljpfgaabDoor
namespace Go.Proofs.YtojpodeljpfgaabDoor
set_option linter.all false
open Go.RowKit
set_option maxRecDepth 100000
set_option maxHeartbeats 2000000
theorem run_lenM {t ty : TypeId} {w : World} {G : Nat → Prop} {m : Option Nat} {tags : za0} (ht : mapTB Tryd.prog t = true) (h : TagsAt w G m tags) :
    (Builtin.len_ #[t] ty #[.map m]).run Tryd.prog w = .ok (.int .i64 tags.length) w := by
  obtain ⟨k, e, hu, _⟩ := mapTB_eq ht
  rcases h with ⟨rfl, rfl⟩ | ⟨r, es, clock, rfl, _, h3, h4, _⟩
  · simp [Builtin.len_, underlying, hu, goInt]
  · have := h4.length
    simp [Builtin.len_, underlying, hu, getObj, Sem.run, h3, goInt, ← this]
section
variable {ops : Array Oper} {Q : Exit → Act → World → Prop} {a : Act} {w : World} {rest : List Oper} {d : Option Nat} {ty : TypeId} {pos : String} {af : Array Edge}
theorem wl_lenM {t : TypeId} {x : Operand} {G : Nat → Prop} {m : Option Nat} {tags : za0} (ht : mapTB Tryd.prog t = true) (h : TagsAt w G m tags) (hx : a.eval x = .map m)
    (hn : WL Tryd.prog ops Q rest (a.put d (.int .i64 tags.length)) w) :
    WL Tryd.prog ops Q (⟨d, .call { callee := .builtin .len, args := #[x], argTypes := #[t] }, ty, pos, af, none⟩ :: rest) a w :=
  zaA rfl (by simp [execOp, resolve, invoke, builtin, hx, run_lenM ht h]) hn
theorem run_tagGet {w : World} {G : Nat → Prop} {r : Nat} {t : za0} {ty : TypeId} {x : Nat × Bs} (ht : mapTB Tryd.prog ty = true) (h : TagsAt w G (some r) t) (hx : x ∈ t) :
    ∃ oa cap, (Instr.lookup ty (.map (some r)) (.int .u32 x.1) false).run Tryd.prog w = .ok (.slice oa x.2.length cap) w ∧ zaq w G oa x.2 := by
  obtain ⟨kt, et, hm, hd⟩ := mapTB_eq ht
  rcases h with h | ⟨r', es, clock, h1, h2, h3, h4, h5, h6, h7⟩
  · cases h.1
  simp only [Option.some.injEq] at h1
  subst h1
  have hkey : MapKept.IsKey (.int .u32) (.int .u32 (x.1 : Nat)) := rfl
  have hks : ∀ x ∈ es.toList, MapKept.IsKey (.int .u32) x.key := by
    intro x hx
    obtain ⟨j, hj⟩ := List.mem_iff_getElem?.1 hx
    obtain ⟨b, _, hb'⟩ := h4.at_ hj
    rw [hb'.1]; rfl
  obtain ⟨e0, he0, hr0⟩ := h4.mem hx
  rcases MapKept.findNow_spec hkey es.toList 0 hks with ⟨f1, f2⟩ | ⟨j, e, f1, f2, f3⟩
  · exact absurd hr0.1 (f2 e0 he0)
  · obtain ⟨y, hy, hry⟩ := h4.at_ f2
    have hxy : y = x := by
      have hk : y.1 = x.1 := by
        have := hry.1.symm.trans f3
        simp only [Value.int.injEq, true_and] at this
        omega
      obtain ⟨i, hi⟩ := List.mem_iff_getElem?.1 hx
      have h1 : (t.map (·.1))[i]? = some x.1 := by simp [hi]
      have h2 : (t.map (·.1))[j]? = some x.1 := by simp [hy, hk]
      have hij := (List.getElem?_inj (List.getElem?_eq_some_iff.1 h1).1 h5).1 (h1.trans h2.symm)
      subst hij
      rw [hi] at hy; exact (Option.some.inj hy).symm
    subst hxy
    obtain ⟨_, _, oa, cap, e4, e5⟩ := hry
    refine ⟨oa, cap, ?_, e5⟩
    simp [Instr.lookup, run_underlying hm, MapKept.run_getObj_map h3, MapKept.run_checkKey hd hkey, MapKept.run_findKey hd f1, Result.andThen, e4]
theorem wl_tagGet {t : TypeId} {x y : Operand} {G : Nat → Prop} {r : Nat} {tg : za0} {z : Nat × Bs} (ht : mapTB Tryd.prog t = true) (h1 : TagsAt w G (some r) tg) (hz : z ∈ tg) (hx : a.eval x = .map (some r)) (hy : a.eval y = .int .u32 (z.1 : Nat))
    (h : ∀ oa cap, zaq w G oa z.2 → WL Tryd.prog ops Q rest (a.put d (.slice oa z.2.length cap)) w) : WL Tryd.prog ops Q (⟨d, .lookup t x y false, ty, pos, af, none⟩ :: rest) a w := by
  obtain ⟨oa, cap, hr, hb⟩ := run_tagGet ht h1 hz
  exact zaA rfl (by simp only [execOp, Sem.run_bind, hx, hy, hr]; rfl) (h oa cap hb)
theorem wl_callV {f : FuncId} {g : Operand} {lb : Array Value} {xs : Array Operand} {ts : Array TypeId} {R : Value → World → Prop} (hf : zaK Tryd.prog f) (hg : a.eval g = .func (.func f) #[] lb) (hc : zaD Tryd.prog f (xs.map a.eval ++ lb) w R) (h : ∀ v w', R v w' → WL Tryd.prog ops Q rest (a.put d v) w') :
    WL Tryd.prog ops Q (⟨d, .call { callee := .value g, args := xs, argTypes := ts }, ty, pos, af, none⟩ :: rest) a w :=
  wl_enter rfl (by
    have := hf (xs.map a.eval ++ lb) w
    simp only [execOp, resolve, Deferred.ofValue, invoke, hg, Sem.run_bind, Sem.run_pure, Result.andThen, Array.empty_append]
    exact this) hc h
theorem wl_makeU {x : Operand} {n base : Nat} (hx : a.eval x = .int .i64 n) (hn : n ≤ 1099511627776) (hbase : base ≤ w.heap.size)
    (h : ∀ w', Chg (fun _ => False) w w' → w'.ownsRow base tU 1 (.slice (some ⟨w.heap.size, 0, none⟩) 0 n) 0 [] → w.heap.size < w'.heap.size → WL Tryd.prog ops Q rest (a.put d (.slice (some ⟨w.heap.size, 0, none⟩) 0 n)) w') :
    WL Tryd.prog ops Q (⟨d, .makeSlice tUs (.const (.int .i64 0)) x, ty, pos, af, none⟩ :: rest) a w := by
  have hT : rowB Tryd.prog tUs tU 1 4 = true := by kernel_rfl
  obtain ⟨ht, i, z, hi, hz, hs, hby, _⟩ := rowB_out hT
  obtain ⟨w', hr, ho, hg⟩ := run_make_own (P := Tryd.prog) w base tUs tU i _ 1 ht hi hz hs .i64 .i64 n (by rw [hby]; omega) (by unfold maxLen; omega) hbase
  refine zaA rfl (v := .slice (some ⟨w.heap.size, 0, none⟩) 0 n) (w' := w') (by simp only [execOp, Sem.run_bind, zaf, hx, hr]; rfl) (h w' ((Chg.ofGrown hg).mono fun _ _ h => by simp at h) ho ?_)
  rcases ho.2 with ⟨h1, _⟩ | ⟨g, cap, cur, h1, _, h3, _⟩
  · cases h1
  · cases h1; exact (Array.getElem?_eq_some_iff.1 h3).1
theorem wl_appU {d1 d2 : Nat} {ty1 ty2 : TypeId} {pos1 pos2 : String} {af1 af2 : Array Edge} {x y : Operand} {base n k : Nat} {v : Value} {xs : List Value}
    (hx : (a.put (some d1) (.slice (some ⟨w.heap.size, 0, none⟩) 1 1)).eval x = v) (hd : d1 < a.tmps.size) (hy : a.eval y = eU k) (hown : w.ownsRow base tU 1 v n xs) (hlim : n + 1 ≤ 1099511627777) (hb : base ≤ w.heap.size)
    (h : ∀ u v' w', AppR tU 1 w base v (n + 1) (xs ++ [eU k]) v' w' → WL Tryd.prog ops Q rest ((a.put (some d1) u).put (some d2) v') w') :
    WL Tryd.prog ops Q (⟨some d1, .buildSlice tUs 1 #[(0, y)], ty1, pos1, af1, none⟩ :: ⟨some d2, .call { callee := .builtin .append, args := #[x, .tmp d1], argTypes := #[tUs, tUs] }, ty2, pos2, af2, none⟩ :: rest) a w := by
  have ht : (Tryd.prog).underlying tUs = some (.slice tU) := by kernel_rfl
  have hT : rowB Tryd.prog tUs tU 1 4 = true := by kernel_rfl
  have hr := run_buildSlice (P := Tryd.prog) (w := w) (t := tUs) (e := tU) (sz := 1) (z := .int .u32 0) ht (by kernel_rfl) (fun w => Tryd.zeroValue58 w) [eU k] (by intro v hv; simp only [List.mem_singleton] at hv; subst hv; rfl) (by simp) (by decide)
  simp only [List.length_cons, List.length_nil, Nat.zero_add, List.zipIdx_cons, List.zipIdx_nil, List.map_cons, List.map_nil, List.flatMap_cons, List.flatMap_nil, List.append_nil] at hr
  have e1 : (eU k).cells.toList = [eU k] := rfl
  rw [e1] at hr
  have hc : Chg (fun _ => False) w (w.alloc (.cells [eU k].toArray tU)) := Chg.alloc _ _ _
  have hbk : Blk (w.alloc (.cells [eU k].toArray tU)) w.heap.size [eU k] tU := Blk.new _ _ _
  generalize w.alloc (.cells [eU k].toArray tU) = w1 at hr hc hbk
  refine zaA rfl (v := .slice (some ⟨w.heap.size, 0, none⟩) 1 1) (w' := w1) ?_ ?_
  · simp only [execOp, List.map_toArray, List.map_cons, List.map_nil, hy, Sem.run_bind, hr]; rfl
  obtain ⟨v', w', hr2, ha⟩ := run_appendRow (P := Tryd.prog) hT (by decide) ty2 (ownsRow_chg hown hc fun _ _ h => h) ⟨w.heap.size, 0, none⟩ 1 1 [eU k] rfl (fun j u hj => by rw [add_lit, Nat.zero_add, hbk.cell]; exact hj) (by intro u hu; simp only [List.mem_singleton] at hu; subst hu; rfl) (by omega) (by omega) (Nat.le_trans hb hc.size)
  refine zaA rfl (v := v') (w' := w') (by simp [execOp, resolve, invoke, builtin, hx, zac, zaa hd, hr2]) (h _ v' w' ⟨ha.own, ?_, ?_⟩)
  · exact (hc.mono fun _ _ h => h.elim).trans ha.chg fun _ _ h => h
  · rcases ha.blk with h | ⟨k, h1, h2⟩
    · exact .inl h
    · exact .inr ⟨k, h1, Nat.le_trans hc.size h2⟩
end
end Go.Proofs.YtojpodeljpfgaabDoor
namespace Go.Proofs.YtojpodeljpfgaabDoor
set_option linter.all false
open Go.RowKit
open Go.ChangeMaps (setBlock)
set_option maxRecDepth 100000
set_option maxHeartbeats 2000000
def natKey (e : MapEntry) : Nat := match e.key with | .int _ n => n.toNat | _ => 0
theorem natKey_of {w : World} {G : Nat → Prop} {e : MapEntry} {x : Nat × Bs} (h : RepE w G e x) : natKey e = x.1 ∧ e.key = eU x.1 := by
  obtain ⟨h1, _⟩ := h
  simp [natKey, h1, eU]
theorem all2_keys {w : World} {G : Nat → Prop} : ∀ {es : List MapEntry} {t : za0}, All2 (RepE w G) es t → es.map natKey = t.map (·.1)
  | _, _, .nil => rfl
  | _, _, .cons h r => by simp [(natKey_of h).1, all2_keys r]
theorem all2_eU {w : World} {G : Nat → Prop} {es : List MapEntry} {t : za0} (h : All2 (RepE w G) es t) : ∀ e ∈ es, e.key = eU (natKey e) := by
  induction h with
  | nil => intro e he; cases he
  | cons x _ ih =>
    intro e he
    rcases List.mem_cons.1 he with rfl | he
    · rw [(natKey_of x).1]; exact (natKey_of x).2
    · exact ih e he
theorem nodup_inj {α β : Type} (f : α → β) : ∀ {l : List α}, (l.map f).Nodup → ∀ x ∈ l, ∀ y ∈ l, f x = f y → x = y
  | [], _, x, hx, _, _, _ => by cases hx
  | a :: r, h, x, hx, y, hy, e => by
    rw [List.map_cons, List.nodup_cons] at h
    rcases List.mem_cons.1 hx with rfl | hx2
    · rcases List.mem_cons.1 hy with rfl | hy2
      · rfl
      · exact absurd (by rw [e]; exact List.mem_map_of_mem hy2) h.1
    · rcases List.mem_cons.1 hy with rfl | hy2
      · exact absurd (by rw [← e]; exact List.mem_map_of_mem hx2) h.1
      · exact nodup_inj f h.2 x hx2 y hy2 e
theorem nodup_of_map {α β : Type} (f : α → β) : ∀ {l : List α}, (l.map f).Nodup → l.Nodup
  | [], _ => List.nodup_nil
  | a :: r, h => by
    rw [List.map_cons, List.nodup_cons] at h
    exact List.nodup_cons.2 ⟨fun hm => h.1 (List.mem_map_of_mem hm), nodup_of_map f h.2⟩
theorem nodup_le {α : Type} : ∀ {L es : List α}, L.Nodup → (∀ x ∈ L, x ∈ es) → L.length ≤ es.length
  | [], _, _, _ => Nat.zero_le _
  | x :: L, es, h, hs => by
    obtain ⟨s, t, rfl⟩ := List.append_of_mem (hs x (by simp))
    rw [List.nodup_cons] at h
    have := nodup_le (es := s ++ t) h.2 fun y hy => by
      have := hs y (by simp [hy])
      simp only [List.mem_append, List.mem_cons] at this ⊢
      rcases this with h1 | rfl | h1
      · exact .inl h1
      · exact absurd hy h.1
      · exact .inr h1
    simp only [List.length_append, List.length_cons] at this ⊢; omega
theorem setBlock_get {w : World} {r : Nat} {o : Obj} (h : r < w.heap.size) : (setBlock w r o).heap[r]? = some o := by simp [setBlock, h]
theorem chg_setBlock (w : World) (r : Nat) (o : Obj) : Chg (fun k => k = r) w (setBlock w r o) :=
  ⟨rfl, rfl, rfl, by simp [setBlock], fun k hk hx => by simp [setBlock, Ne.symm hx]⟩
theorem seenOf_it {w : World} {r s c : Nat} {m : Option Nat} {seen : Array Nat} (h : w.heap[r]? = some (.mapIter m s seen c)) : (match w.heap[r]? with | some (.mapIter _ _ s _) => s | _ => #[]) = seen := by rw [h]
def seenOf (w : World) (r : Nat) : Array Nat := match w.heap[r]? with | some (.mapIter _ _ s _) => s | _ => #[]
structure LpI (w0 : World) (O Rr : Nat) (es : Array MapEntry) (bm clock : Nat) (L : List MapEntry) (v : Value) (w : World) : Prop where
  it : ∃ c0, clock ≤ c0 ∧ w.heap[Rr]? = some (.mapIter (some bm) clock (L.map (·.born)).toArray c0)
  box : Blk w O [v] tUs
  row : w.ownsRow w0.heap.size tU 1 v L.length (L.map fun e => eU (natKey e))
  nO : ∀ k, v.ownBlock = some k → k ≠ O ∧ k ≠ Rr
  mem : ∀ e ∈ L, e ∈ es.toList
  nd : (L.map (·.born)).Nodup
  chg : Chg (fun _ => False) w0 w
theorem own_ge {w : World} {base n : Nat} {v : Value} {xs : List Value} {e : TypeId} {sz : Nat} (h : w.ownsRow base e sz v n xs) : ∀ k, v.ownBlock = some k → base ≤ k ∧ k < w.heap.size := by
  intro k hk
  rcases h.2 with ⟨rfl, _⟩ | ⟨g, cap, cur, rfl, hb, hg, _⟩
  · cases hk
  · simp only [Value.ownBlock, Option.some.injEq] at hk
    subst hk
    exact ⟨hb, (Array.getElem?_eq_some_iff.1 hg).1⟩
theorem LpI.step {w0 w w1 w3 w4 : World} {O Rr bm clock : Nat} {es : Array MapEntry} {L : List MapEntry} {v v' : Value} {e : MapEntry} (h : LpI w0 O Rr es bm clock L v w) (he : e ∈ (leftOf es (L.map (·.born)).toArray).toList) (h1 : w1 = w ∨ w1 = w.drew)
    (ha : AppR tU 1 (setBlock w1 Rr (.mapIter (some bm) clock ((L.map (·.born)).toArray.push e.born) clock)) w0.heap.size v (L.length + 1) ((L.map fun e => eU (natKey e)) ++ [eU (natKey e)]) v' w3)
    (hb : Blk w4 O [v'] tUs) (hc : Chg (fun k => k = O) w3 w4) (hO : w0.heap.size ≤ O) (hR : w0.heap.size ≤ Rr) (hOR : O ≠ Rr) : LpI w0 O Rr es bm clock (L ++ [e]) v' w4 := by
  obtain ⟨c0, _, hit⟩ := h.it
  have hRw : Rr < w.heap.size := (Array.getElem?_eq_some_iff.1 hit).1
  have hRw1 : Rr < w1.heap.size := by rcases h1 with rfl | rfl <;> exact hRw
  have c01 : Chg (fun _ => False) w0 w1 := by
    rcases h1 with rfl | rfl
    · exact h.chg
    · exact h.chg.trans (Chg.drew (fun _ => False) _) fun _ _ h => h
  have hOw : O < w1.heap.size := by
    have := h.box.lt
    rcases h1 with rfl | rfl <;> exact this
  have hset := setBlock_get (o := .mapIter (some bm) clock ((L.map (·.born)).toArray.push e.born) clock) hRw1
  have cset := chg_setBlock w1 Rr (.mapIter (some bm) clock ((L.map (·.born)).toArray.push e.born) clock)
  generalize setBlock w1 Rr (.mapIter (some bm) clock ((L.map (·.born)).toArray.push e.born) clock) = w2 at hset cset ha
  have hs12 := cset.size
  have hR2 : Rr < w2.heap.size := by omega
  have hs23 := ha.chg.size
  have hw' : ∀ k, v'.ownBlock = some k → k ≠ O ∧ k ≠ Rr := by
    intro k hk
    rcases ha.blk with hq | ⟨j, hq1, hq2⟩
    · rw [hq] at hk; exact h.nO k hk
    · rw [hq1] at hk; cases hk; omega
  have hown := own_ge h.row
  have e23 : w3.heap[Rr]? = w2.heap[Rr]? := ha.chg.block Rr hR2 fun hk => (h.nO Rr hk).2 rfl
  have e34 : w4.heap[Rr]? = w3.heap[Rr]? := hc.block Rr (by omega) fun e => hOR e.symm
  refine ⟨⟨clock, Nat.le_refl _, ?_⟩, hb, ?_, hw', ?_, ?_, ?_⟩
  · rw [e34, e23, hset]; simp
  · have := ownsRow_chg ha.own hc fun k hk e => (hw' k hk).1 e
    simpa using this
  · intro x hx
    rcases List.mem_append.1 hx with hx | hx
    · exact h.mem x hx
    · simp only [List.mem_singleton] at hx; subst hx; exact (mem_left he).1
  · rw [List.map_append, List.nodup_append]
    refine ⟨h.nd, by simp, ?_⟩
    intro x hx y hy e2
    simp only [List.map_cons, List.map_nil, List.mem_singleton] at hy
    subst hy e2
    have := (mem_left he).2
    simp at this
    obtain ⟨z, hz, hz2⟩ := List.mem_map.1 hx
    exact this z hz hz2
  · refine (((c01.trans cset fun n hn e => by omega).trans ha.chg fun n hn e => ?_).trans hc fun n hn e => by omega)
    have := hown n e; omega
theorem LpI.perm {w0 w : World} {O Rr bm clock : Nat} {es : Array MapEntry} {L : List MapEntry} {v : Value} (h : LpI w0 O Rr es bm clock L v w) (h0 : (leftOf es (L.map (·.born)).toArray).size = 0) (hn : (es.toList.map (·.born)).Nodup) : L.Perm es.toList := by
  refine (List.perm_ext_iff_of_nodup (nodup_of_map _ h.nd) (nodup_of_map _ hn)).2 fun e => ⟨h.mem e, fun he => ?_⟩
  have hl : leftOf es (L.map (·.born)).toArray = #[] := Array.eq_empty_of_size_eq_zero h0
  unfold leftOf at hl
  rw [Array.filter_eq_empty_iff] at hl
  have := hl e (by simpa using he)
  simp at this
  obtain ⟨x, hx, hxe⟩ := this
  have := nodup_inj (·.born) hn x (h.mem x hx) e he hxe
  subst this; exact hx
theorem TagsLen_c {w : World} {G : Nat → Prop} {m : Option Nat} {tags : za0} {B o : Nat} {l : List Value} {T : TypeId} (hb : Blk w B l T) (hm : l[o]? = some (.map m)) (ht : TagsAt w G m tags) :
    zaD Tryd.prog 22 #[.pointer (some ⟨B, o, none⟩)] w fun v w' => v = .int .i64 tags.length ∧ w' = w := by
  refine zat Tryd.func22 rfl rfl Tryd.ntmps22 (by simp) ?_
  intro a hN hD ha
  have h0 : get a 0 = .pointer (some ⟨B, o, none⟩) := ha 0 _ rfl
  have l0 := hb.ld hm
  have f0 : fOff Tryd.prog 42 0 = 0 := by kernel_rfl
  refine wp_seq_k fun K hK => ?_; refine zai ?_; (repeat ((with_reducible refine zaw ?_ ?_ ?_); (· simp [evb, pvb, rnb, kb, hN, dyb, sdb] <;> omega); (· kernel_rfl); try simp only [evb, pvb, rnb, kb, hN, seval])); refine zah ?_; refine hK _ _ ?_; clear hK K
  refine wp_seq_k fun K hK => ?_; refine zai ?_; (repeat ((with_reducible refine zaw ?_ ?_ ?_); (· simp [evb, pvb, rnb, kb, hN, h0, l0, f0, dyb, sdb] <;> omega); (· kernel_rfl); try simp only [evb, pvb, rnb, kb, hN, seval, h0, l0, f0]))
  refine wl_lenM (by kernel_rfl) ht (by simp only [evb, pvb, rnb, kb, hN, seval]) ?_
  (repeat ((with_reducible refine zaw ?_ ?_ ?_); (· simp [evb, pvb, rnb, kb, hN, dyb, sdb] <;> omega); (· kernel_rfl); try simp only [evb, pvb, rnb, kb, hN, seval])); refine zah ?_; refine hK _ _ ?_; clear hK K; refine wp_ret ⟨by simp [zaj, hD], ?_⟩; simp only [evb, kb, hN, seval]
  exact ⟨by first | rfl | trivial, by first | rfl | trivial⟩
theorem Each_c {w : World} {G : Nat → Prop} {m : Option Nat} {tags : za0} {B o : Nat} {l : List Value} {T : TypeId} {f : FuncId} {lb : Array Value} {X : Nat → Prop} {R : World → Prop}
    (hb : Blk w B l T) (hm : l[o]? = some (.map m)) (ht : TagsAt w G m tags) (hlen : tags.length ≤ 1099511627776) (hf : zaK Tryd.prog f) (hXB : ¬ X B) (hXG : ∀ k, G k → ¬ X k) (hGB : ∀ k, G k → k < w.heap.size) (hXw : ∀ k, X k → k < w.heap.size)
    (h0 : tags = [] → R w)
    (h : ∀ w1, Chg (fun _ => False) w w1 → ∃ Inv : za0 → World → Prop, Inv [] w1 ∧ (∀ t w', Inv t w' → Chg (fun k => X k ∨ w1.heap.size ≤ k) w1 w') ∧
      (∀ done x w' oa cap, Inv done w' → zaq w' G oa x.2 → x ∈ tags → x.1 < 4294967296 → (∃ r, zaB tags = done ++ x :: r) → zaD Tryd.prog f (#[.int .u32 (x.1 : Nat), .slice oa x.2.length cap] ++ lb) w' fun _ w'' => Inv (done ++ [x]) w'') ∧ ∀ w', Inv (zaB tags) w' → R w') :
    zaD Tryd.prog 45 #[.pointer (some ⟨B, o, none⟩), .func (.func f) #[] lb] w fun _ w' => R w' := by
  refine callsR_of0 Tryd.func45 rfl rfl Tryd.ntmps45 (by simp) ?_
  intro a hN hD ha
  have g0 : get a 0 = .pointer (some ⟨B, o, none⟩) := ha 0 _ rfl
  have g1 : get a 1 = .func (.func f) #[] lb := ha 1 _ rfl
  have l0 := hb.ld hm
  have f0 : fOff Tryd.prog 42 0 = 0 := by kernel_rfl
  refine wp_seq_k fun K0 hK0 => ?_; refine wp_seq_k fun K1 hK1 => ?_; refine zai ?_
  (repeat ((with_reducible refine zaw ?_ ?_ ?_); (· simp [evb, pvb, rnb, kb, hN, g0, l0, f0, dyb, sdb] <;> omega); (· kernel_rfl); try simp only [evb, pvb, rnb, kb, hN, seval, g0, l0, f0]))
  refine wl_lenM (by kernel_rfl) ht (by simp only [evb, pvb, rnb, kb, hN, seval]) ?_
  (repeat ((with_reducible refine zaw ?_ ?_ ?_); (· simp [evb, pvb, rnb, kb, hN, dyb, sdb] <;> omega); (· kernel_rfl); try simp only [evb, pvb, rnb, kb, hN, seval]))
  refine zah ?_
  refine hK1 _ _ ?_; try clear hK1 K1
  cases tags with
  | nil =>
    refine wp_cond_true (by simp [evb, kb, hN, sdb]) ?_
    exact wp_ret ⟨by simp [zaj, hD], h0 rfl⟩
  | cons x0 tr =>
  have hne : ((x0 :: tr).length : Int) ≠ 0 := by simp only [List.length_cons]; omega
  have hpos : 1 ≤ (x0 :: tr).length := by simp
  generalize htg : x0 :: tr = tags at hne hpos hlen ht h ⊢
  clear htg h0 x0 tr
  have hne0 : ¬ tags = [] := fun e => by rw [e] at hpos; simp at hpos
  refine wp_cond_false (by simp [evb, kb, hN, sdb, hne0]) ?_
  refine wp_skip ?_
  refine hK0 _ _ ?_; try clear hK0 K0
  rcases id ht with ⟨_, he⟩ | ⟨bm, es, clock, rfl, hGm, hmap, hall, hkn, hbn, hbc⟩
  · rw [he] at hpos; simp at hpos
  refine wp_seq_k fun K hK => ?_; refine zai ?_; (repeat ((with_reducible refine zaw ?_ ?_ ?_); (· simp [evb, pvb, rnb, kb, hN, g0, l0, f0, dyb, sdb] <;> omega); (· kernel_rfl); try simp only [evb, pvb, rnb, kb, hN, seval, g0, l0, f0]))
  refine wl_lenM (by kernel_rfl) ht (by simp only [evb, pvb, rnb, kb, hN, seval]) ?_
  refine wl_makeU (n := tags.length) (base := w.heap.size) (by simp only [evb, pvb, rnb, kb, hN, seval]) hlen (Nat.le_refl _) fun w1 hc1 hrow1 hlt1 => ?_
  refine wl_allocA (z := .slice none 0 0) (fun w => Tryd.zeroValue59 w) fun w2 hc2 hbx2 hs2 => ?_
  refine zaX (b := w1.heap.size) (o := 0) (n := 1) (v := .slice (some ⟨w.heap.size, 0, none⟩) 0 tags.length) (by kernel_rfl) (by simp [evb, kb, hN, sdb]) (by simp [evb, kb, hN, sdb]) hbx2 rfl (by intro y hy; simp only [Value.cells, List.mem_singleton] at hy; subst hy; rfl) (by simp [Value.cells]) fun w3 hbx3 hc3 => ?_
  have hsp : zas (Value.slice none 0 0).cells.toList 0 (Value.slice (some ⟨w.heap.size, 0, none⟩) 0 tags.length).cells.toList = [Value.slice (some ⟨w.heap.size, 0, none⟩) 0 tags.length] := by simp [zas, Value.cells]
  rw [hsp] at hbx3
  have hcw3 : Chg (fun _ => False) w w3 := (hc1.trans hc2 fun _ _ h => h).trans hc3 fun n hn e => by have := hc1.size; omega
  have hrow3 := ownsRow_chg (ownsRow_chg hrow1 hc2 fun _ _ h => h) hc3 (X := fun k => k = w1.heap.size) fun k hk e => by simp only [Value.ownBlock, Option.some.injEq] at hk; omega
  refine zah ?_; refine hK _ _ ?_; clear hK K
  refine wp_seq_k fun K0 hK0 => ?_; refine wp_seq_k fun K hK => ?_; refine zai ?_
  have l3 := (hb.chg hcw3 (fun h => h)).ld hm
  (repeat ((with_reducible refine zaw ?_ ?_ ?_); (· simp [evb, pvb, rnb, kb, hN, g0, l3, f0, dyb, sdb] <;> omega); (· kernel_rfl); try simp only [evb, pvb, rnb, kb, hN, seval, g0, l3, f0]))
  have hmap3 : w3.heap[bm]? = some (.map es clock) := (hcw3.block bm (Array.getElem?_eq_some_iff.1 hmap).1 (fun h => h)).trans hmap
  obtain ⟨kt, et, hmt, _⟩ := mapTB_eq (P := Tryd.prog) (t := 40) (by kernel_rfl)
  have hrg := run_range_map (P := Tryd.prog) w3 40 kt et bm es clock hmt hmap3
  have hc4 : Chg (fun _ => False) w3 (w3.alloc (.mapIter (some bm) clock #[] clock)) := Chg.alloc _ _ _
  have hit4 : (w3.alloc (.mapIter (some bm) clock #[] clock)).heap[w3.heap.size]? = some (.mapIter (some bm) clock #[] clock) := heap_alloc_new _ _
  generalize w3.alloc (.mapIter (some bm) clock #[] clock) = w4 at hrg hc4 hit4
  refine zaA rfl (v := .pointer (some ⟨w3.heap.size, 0, none⟩)) (w' := w4) (by simp only [execOp, Sem.run_bind, evb, kb, hN, seval, hrg]; rfl) ?_
  refine zah ?_; refine hK _ _ ?_; clear hK K
  have hs3 : w1.heap.size < w3.heap.size := hbx3.lt
  have hcw4 := hcw3.trans hc4 fun _ _ h => h
  have hI0 : LpI w w1.heap.size w3.heap.size es bm clock [] (.slice (some ⟨w.heap.size, 0, none⟩) 0 tags.length) w4 :=
    ⟨⟨clock, Nat.le_refl _, hit4⟩, hbx3.chg hc4 (fun h => h), ownsRow_chg hrow3 hc4 fun _ _ h => h, fun k hk => (by simp only [Value.ownBlock, Option.some.injEq] at hk; omega), fun _ h => (by cases h), List.nodup_nil, hcw4⟩
  have hO1 : w.heap.size ≤ w1.heap.size := hc1.size
  generalize hO : w1.heap.size = O at hI0 hs3 hO1 ⊢
  generalize hRr : w3.heap.size = Rr at hI0 hs3 ⊢
  clear hbx2 hbx3 hrow1 hrow3 hc1 hc2 hc3 hc4 hcw3 hcw4 hit4 hmap3 hrg l3 hs2 hlt1 hsp
  have hfin : ∀ a' w', a'.tmps.size = 53 → a'.defers = [] → get a' 0 = .pointer (some ⟨B, o, none⟩) → get a' 1 = .func (.func f) #[] lb → get a' 4 = .pointer (some ⟨O, 0, none⟩) → (∃ L v, LpI w O Rr es bm clock L v w' ∧ L.Perm es.toList) → K0 a' w' := by
    clear hN hD g0 g1 ha hI0
    rintro a w5 hN hD g0 g1 g4 ⟨L, v, hI, hperm⟩
    refine hK0 _ _ ?_; try clear hK0 K0
    have hLn : L.length = tags.length := hperm.length_eq.trans hall.length
    obtain ⟨oa, cap, rfl, hcap, hrow⟩ := ownsRow_slice hI.row
    rcases hrow with hz | ⟨g, cs, rfl, hg, hrow, htake, hog⟩
    · omega
    obtain ⟨d, hd⟩ : ∃ d : Array Nat, d = (L.map natKey).toArray := ⟨_, rfl⟩
    have hdl : d.toList = L.map natKey := by rw [hd]
    have hds : d.size = L.length := by rw [hd]; simp
    have hcs : cs = d.toList.map eU ++ cs.drop L.length := by
      rw [hdl, List.map_map]
      have := List.take_append_drop L.length cs
      rw [Nat.mul_one] at htake
      rw [htake] at this
      exact this.symm
    rw [hcs] at hrow
    generalize cs.drop L.length = rest at hrow
    clear hcs htake
    have hgO : O ≠ g := fun e => (hI.nO g hog).1 e.symm
    have hbox := hI.box
    have hchg := hI.chg
    rw [← hds] at hbox hcap
    have l5 := hbox.ld (i := 0) rfl
    refine wp_seq_k fun K hK => ?_; refine zai ?_; (repeat ((with_reducible refine zaw ?_ ?_ ?_); (· simp [evb, pvb, rnb, kb, hN, g4, l5, dyb, sdb] <;> omega); (· kernel_rfl); try simp only [evb, pvb, rnb, kb, hN, seval, g4, l5]))
    refine zaA rfl (v := .iface tUs (.slice (some ⟨g, 0, none⟩) d.size cap)) (w' := w5) (by
      have := run_makeInterface (P := Tryd.prog) (w := w5) tUs (.slice (some ⟨g, 0, none⟩) d.size cap) (by kernel_rfl)
      simp only [execOp, Sem.run_bind, evb, kb, hN, seval, this]; rfl) ?_
    refine zaA rfl (v := .func (.func 53) #[] #[.pointer (some ⟨O, 0, none⟩)]) (w' := w5) (by simp [execOp, Instr.makeFunc, evb, kb, hN, seval, g4]) ?_
    refine zaH (fun args w => Tryd.call52 args w) (by simp only [List.map_toArray, List.map_cons, List.map_nil, evb, kb, hN, seval]; exact sort_c hrow hbox hgO (by omega) (by omega)) ?_
    rintro _ w6 ⟨d', hd's, hp, hso, hrow6, hc6⟩
    refine zah ?_; refine hK _ _ ?_; clear hK K
    have hsorted : d'.toList = (zaB tags).map (·.1) := sort_keys hkn (by rw [hdl, ← all2_keys hall]; exact hperm.map _) hp hso
    have hcw6 : Chg (fun _ => False) w w6 := hchg.trans hc6 fun n hn e => by omega
    have hbox6 := hbox.chg hc6 hgO
    obtain ⟨Inv, i0, i1, i2, i3⟩ := h w6 hcw6
    have hg6 : g < w6.heap.size := hrow6.lt
    have hlenS : (zaB tags).length = tags.length := tagSort_len tags
    rw [hsorted] at hrow6
    rw [hds, hLn] at hbox6 hcap l5
    have l6 := hbox6.ld (i := 0) rfl
    refine wp_seq_k fun K hK => ?_; refine zai ?_; (repeat ((with_reducible refine zaw ?_ ?_ ?_); (· simp [evb, pvb, rnb, kb, hN, g4, l6, dyb, sdb] <;> omega); (· kernel_rfl); try simp only [evb, pvb, rnb, kb, hN, seval, g4, l6])); refine zah ?_; refine hK _ _ ?_; clear hK K
    refine wp_range (n := tags.length) (fun i a' w' => a'.tmps.size = 53 ∧ a'.defers = [] ∧ get a' 0 = .pointer (some ⟨B, o, none⟩) ∧ get a' 1 = .func (.func f) #[] lb ∧ get a' 37 = .slice (some ⟨g, 0, none⟩) tags.length cap ∧ Inv ((zaB tags).take i) w') 53 (by omega)
      (by simp only [evb, kb, hN, seval]; try rfl) (by simp only [evb, kb, hN, seval]) ⟨by simp only [evb, kb, hN, seval], by simp [zaj, hD], by simp only [evb, kb, hN, seval, g0], by simp only [evb, kb, hN, seval, g1], by simp only [evb, kb, hN, seval], by rw [List.take_zero]; exact i0⟩ ?_ ?_ (by decide) ?_ ?_
    · rintro i a w ⟨h, _⟩; exact h
    · rintro i a w t v ht ⟨k1, k2, k3, k4, k5, k6⟩
      rcases ht with rfl | rfl | rfl <;> exact ⟨by rw [zae]; exact k1, by rw [zaj]; exact k2, by rw [zab (by decide)]; exact k3, by rw [zab (by decide)]; exact k4, by rw [zab (by decide)]; exact k5, k6⟩
    · clear hN hD g0 g1 g4
      rintro i a1 w7 hi ⟨hN, hD, g0, g1, g37, hInv⟩ g38 g39
      have hx : (zaB tags)[i]? = some ((zaB tags)[i]'(by omega)) := List.getElem?_eq_getElem _
      generalize (zaB tags)[i]'(by omega) = x at hx
      have hxm : x ∈ tags := (mem_tagSort tags x).1 (List.mem_of_getElem? hx)
      have hc7 := i1 _ _ hInv
      have hrow7 := hrow6.chg hc7 fun e => by rcases e with e | e; exact absurd (hXw _ e) (by omega); omega
      have hBlt := hb.lt
      have hb7 := (hb.chg hcw6 (fun h => h)).chg hc7 fun e => by rcases e with e | e; exact hXB e; have := hcw6.size; omega
      have l7 := hb7.ld hm
      have ht7 : TagsAt w7 G (some bm) tags := (ht.stay (Stay.of hcw6 fun _ _ _ h => h)).stay (Stay.of hc7 fun k hk _ e => by rcases e with e | e; exact hXG k hk e; have := hcw6.size; have := hGB k hk; omega)
      have hx32 : x.1 < 4294967296 := by
        obtain ⟨e, _, _, h2, _⟩ := hall.mem hxm
        exact h2
      refine wp_seq_k fun K1 hK1 => ?_; refine zai ?_
      refine wl_indexAddr (b := g) (o := 0) (k := .i64) (i := i) (n := 1) (len := tags.length) (cap := cap) (by kernel_rfl) (by simp [evb, kb, hN, g37, sdb]) (by simp [evb, kb, hN, g39, sdb]) hi ?_
      refine wl_load (b := g) (o := 0 + i * 1) (v := eU x.1) (by kernel_rfl) (by simp [evb, kb, hN, sdb]) hrow7 (by
        rw [Nat.zero_add, Nat.mul_one, List.getElem?_append_left (by simp; omega)]
        simp [hx]) ?_
      (repeat ((with_reducible refine zaw ?_ ?_ ?_); (· simp [evb, pvb, rnb, kb, hN, dyb, sdb] <;> omega); (· kernel_rfl); try simp only [evb, pvb, rnb, kb, hN, seval]))
      refine zah ?_
      refine hK1 _ _ ?_; try clear hK1 K1
      refine zai ?_
      (repeat ((with_reducible refine zaw ?_ ?_ ?_); (· simp [evb, pvb, rnb, kb, hN, g0, g1, l7, f0, dyb, sdb] <;> omega); (· kernel_rfl); try simp only [evb, pvb, rnb, kb, hN, seval, g0, g1, l7, f0]))
      refine wl_tagGet (r := bm) (z := x) (by kernel_rfl) ht7 hxm (by simp only [evb, kb, hN, seval]) (by simp only [evb, kb, hN, seval] <;> rfl) fun oa cap' hbx => ?_
      refine wl_callV (f := f) (lb := lb) hf (by simp only [evb, kb, hN, seval]) (by
        simp only [List.map_toArray, List.map_cons, List.map_nil, evb, kb, hN, seval]
        exact i2 ((zaB tags).take i) x w7 oa cap' hInv hbx hxm hx32 ⟨(zaB tags).drop (i + 1), by
          obtain ⟨hh, he⟩ := List.getElem?_eq_some_iff.1 hx
          rw [← he, ← List.drop_eq_getElem_cons hh, List.take_append_drop]⟩) ?_
      rintro _ w8 hInv8
      have et : (zaB tags).take (i + 1) = (zaB tags).take i ++ [x] := by rw [List.take_add_one, hx]; rfl
      refine zah ⟨⟨by simp only [evb, kb, hN, seval], by simp [zaj, hD], by simp only [evb, kb, hN, seval, g0], by simp only [evb, kb, hN, seval, g1], by simp only [evb, kb, hN, seval, g37], by rw [et]; exact hInv8⟩, by simp only [evb, kb, hN, seval, g38], by simp only [evb, kb, hN, seval, g39]⟩
    · rintro a w7 ⟨hN, hD, _, _, _, hInv⟩
      rw [← hlenS, List.take_length] at hInv
      exact ⟨hD, i3 _ hInv⟩
  refine wp_block ?_
  refine wp_loop (fun a' w' => ∃ L v, a'.tmps.size = 53 ∧ a'.defers = [] ∧ get a' 0 = .pointer (some ⟨B, o, none⟩) ∧ get a' 1 = .func (.func f) #[] lb ∧ get a' 4 = .pointer (some ⟨O, 0, none⟩) ∧ get a' 24 = .pointer (some ⟨Rr, 0, none⟩) ∧ LpI w O Rr es bm clock L v w') (fun _ w' => (leftOf es (seenOf w' Rr)).size) ?_ ?_
  · exact ⟨[], _, by simp only [evb, kb, hN, seval], by simp [zaj, hD], by simp only [evb, kb, hN, seval, g0], by simp only [evb, kb, hN, seval, g1], by simp only [evb, kb, hN, seval], by simp only [evb, kb, hN, seval], hI0⟩
  clear hN hD g0 g1 ha hI0
  rintro a w5 ⟨L, v, hN, hD, g0, g1, g4, g24, hI⟩
  obtain ⟨c0, hcc, hit⟩ := hI.it
  have hmap5 : w5.heap[bm]? = some (.map es clock) := (hI.chg.block bm (Array.getElem?_eq_some_iff.1 hmap).1 (fun h => h)).trans hmap
  refine wp_seq_k fun K1 hK1 => ?_; refine zai ?_
  rcases run_next_at (P := Tryd.prog) w5 0 Rr bm clock c0 (L.map (·.born)).toArray es clock hit hmap5 hbc hcc with ⟨hz, hr⟩ | ⟨e, he, w6, hw6, hr⟩
  · refine zaA rfl (v := .tuple #[.bool false]) (w' := w5) (by simp only [execOp, Sem.run_bind, evb, kb, hN, seval, g24, hr]; rfl) ?_
    (repeat ((with_reducible refine zaw ?_ ?_ ?_); (· simp [evb, pvb, rnb, kb, hN, exV, exOK, dyb, sdb] <;> omega); (· kernel_rfl); try simp only [evb, pvb, rnb, kb, hN, seval, exV, exOK]))
    refine zah ?_
    refine hK1 _ _ ?_; try clear hK1 K1
    refine wp_seq_k fun K1 hK1 => ?_
    refine wp_cond_false (by simp [evb, kb, hN, sdb]) ?_
    refine wp_exit ?_
    simp only [Exit.then, Exit.inBlock, if_pos]
    exact hfin _ _ (by simp only [evb, kb, hN, seval]) (by simp [zaj, hD]) (by simp only [evb, kb, hN, seval, g0]) (by simp only [evb, kb, hN, seval, g1]) (by simp only [evb, kb, hN, seval, g4]) ⟨L, v, hI, hI.perm hz hbn⟩
  · have hRw : Rr < w5.heap.size := (Array.getElem?_eq_some_iff.1 hit).1
    have hRw6 : Rr < w6.heap.size := by rcases hw6 with rfl | rfl <;> exact hRw
    have hbmR : bm ≠ Rr := by have := hGB bm hGm; omega
    have hmap6 : w6.heap[bm]? = some (.map es clock) := by rcases hw6 with rfl | rfl <;> exact hmap5
    have hbox6 : Blk w6 O [v] tUs := by rcases hw6 with rfl | rfl <;> exact hI.box
    have hset := setBlock_get (o := .mapIter (some bm) clock ((L.map (·.born)).toArray.push e.born) clock) hRw6
    have cset := chg_setBlock w6 Rr (.mapIter (some bm) clock ((L.map (·.born)).toArray.push e.born) clock)
    have hmap7 := (cset.block bm (Array.getElem?_eq_some_iff.1 hmap6).1 hbmR).trans hmap6
    have hbox7 := hbox6.chg cset (by omega)
    have hrow7 : (setBlock w6 Rr (.mapIter (some bm) clock ((L.map (·.born)).toArray.push e.born) clock)).ownsRow w.heap.size tU 1 v L.length (L.map fun e => eU (natKey e)) := by
      have hr6 : w6.ownsRow w.heap.size tU 1 v L.length (L.map fun e => eU (natKey e)) := by rcases hw6 with rfl | rfl <;> exact hI.row
      exact ownsRow_chg hr6 cset fun k hk e => (hI.nO k hk).2 e
    have hent := run_entry_at (P := Tryd.prog) _ Rr bm clock (L.map (·.born)).toArray es clock e hset hmap7 (mem_left he).1 hbn
    have hsz7 : w.heap.size ≤ (setBlock w6 Rr (.mapIter (some bm) clock ((L.map (·.born)).toArray.push e.born) clock)).heap.size := by have := cset.size; omega
    have hkey := all2_eU hall e (mem_left he).1
    have hLlen : L.length ≤ tags.length := by
      rw [← hall.length]
      have h1 := nodup_le (nodup_of_map _ hI.nd) hI.mem
      exact h1
    refine zaA rfl (v := .tuple #[.bool true, e.key, e.val]) (w' := setBlock w6 Rr (.mapIter (some bm) clock ((L.map (·.born)).toArray.push e.born) clock)) (by simp only [execOp, Sem.run_bind, evb, kb, hN, seval, g24, hr]; rfl) ?_
    have hstep := fun v' w3 w4 ha hb hc => hI.step (v' := v') (w3 := w3) (w4 := w4) he hw6 ha hb hc hO1 (by omega) (by omega)
    generalize setBlock w6 Rr (.mapIter (some bm) clock ((L.map (·.born)).toArray.push e.born) clock) = w7 at hset cset hmap7 hbox7 hrow7 hent hsz7 hstep ⊢
    (repeat ((with_reducible refine zaw ?_ ?_ ?_); (· simp [evb, pvb, rnb, kb, hN, exV, exOK, dyb, sdb] <;> omega); (· kernel_rfl); try simp only [evb, pvb, rnb, kb, hN, seval, exV, exOK]))
    refine zah ?_
    refine hK1 _ _ ?_; try clear hK1 K1
    refine wp_seq_k fun K1 hK1 => ?_
    refine wp_cond_true (by simp [evb, kb, hN, sdb]) ?_
    refine wp_skip ?_
    refine hK1 _ _ ?_; try clear hK1 K1
    refine wp_block ?_
    refine wp_seq_k fun K1 hK1 => ?_; refine zai ?_
    refine zaA rfl (v := .tuple #[e.key, e.val]) (w' := w7) (by simp only [execOp, Sem.run_bind, evb, kb, hN, seval, g24, hent]; rfl) ?_
    (repeat ((with_reducible refine zaw ?_ ?_ ?_); (· simp [evb, pvb, rnb, kb, hN, exV, exOK, dyb, sdb] <;> omega); (· kernel_rfl); try simp only [evb, pvb, rnb, kb, hN, seval, exV, exOK]))
    refine zah ?_
    refine hK1 _ _ ?_; try clear hK1 K1
    refine zai ?_
    have l7 := hbox7.ld (i := 0) rfl
    (repeat ((with_reducible refine zaw ?_ ?_ ?_); (· simp [evb, pvb, rnb, kb, hN, g4, l7, dyb, sdb] <;> omega); (· kernel_rfl); try simp only [evb, pvb, rnb, kb, hN, seval, g4, l7]))
    refine wl_appU (k := natKey e) (base := w.heap.size) (n := L.length) (v := v) (xs := L.map fun e => eU (natKey e)) (by simp only [evb, kb, hN, seval]) (by simp only [evb, kb, hN, seval]) (by simp only [evb, kb, hN, seval]; exact hkey) hrow7 (by omega) hsz7 fun u v' w8 happ => ?_
    have hvc : v'.cells = #[v'] := by
      obtain ⟨oa, cap, rfl, _⟩ := ownsRow_slice happ.own
      rfl
    have hbox8 : Blk w8 O [v] tUs := hbox7.chg happ.chg fun hk => (hI.nO O hk).1 rfl
    refine zaX (b := O) (o := 0) (n := 1) (v := v') (by kernel_rfl) (by simp [evb, kb, hN, g4, sdb]) (by simp [evb, kb, hN, sdb]) hbox8 (by rw [hvc]; rfl) (by intro y hy; rw [hvc] at hy; simp only [List.mem_singleton] at hy; subst hy; obtain ⟨oa, cap, rfl, _⟩ := ownsRow_slice happ.own; rfl) (by simp) fun w9 hbox9 hc9 => ?_
    have e9 : zas [v] 0 v'.cells.toList = [v'] := by rw [hvc]; simp [zas]
    rw [e9] at hbox9
    have hI' := hstep v' w8 w9 happ hbox9 hc9
    refine zah ⟨⟨L ++ [e], v', by simp only [evb, kb, hN, seval], by simp [zaj, hD], by simp only [evb, kb, hN, seval, g0], by simp only [evb, kb, hN, seval, g1], by simp only [evb, kb, hN, seval, g4], by simp only [evb, kb, hN, seval, g24], hI'⟩, ?_⟩
    obtain ⟨c1, _, hit'⟩ := hI'.it
    have e1 : seenOf w5 Rr = (L.map (·.born)).toArray := seenOf_it hit
    have e2 : seenOf w9 Rr = (L.map (·.born)).toArray.push e.born := by rw [show seenOf w9 Rr = _ from seenOf_it hit']; simp
    rw [e1, e2]
    exact left_shrinks es _ e he
theorem Own.cells1 {e : TypeId} {w : World} {base : Nat} {v : Value} {bs : Bs} (h : Own e w base v bs) : v.cells = #[v] ∧ v.oneCell' = true := by
  rcases h.2 with ⟨rfl, _⟩ | ⟨g, cap, cur, rfl, _⟩ <;> exact ⟨rfl, rfl⟩
def DstI (w0 : World) (base D : Nat) (v0 v : Value) (bs : Bs) (w : World) : Prop := Own eB w base v bs ∧ Blk w D [v] 22 ∧ (v.ownBlock = v0.ownBlock ∨ ∃ k, v.ownBlock = some k ∧ w0.heap.size ≤ k) ∧
  Chg (fun k => (k = D ∨ v0.ownBlock = some k) ∨ w0.heap.size ≤ k) w0 w
theorem DstI.step {w0 w w2 w3 : World} {base D : Nat} {v0 v v' : Value} {bs bs' : Bs} (h : DstI w0 base D v0 v bs w) (ha : App eB w base v bs' v' w2) (hb3 : Blk w3 D [v'] 22) (hc : Chg (fun k => k = D) w2 w3) (hD0 : D < w0.heap.size) (hv0 : v0.ownBlock ≠ some D) : DstI w0 base D v0 v' bs' w3 := by
  obtain ⟨h1, h2, h3, h4⟩ := h
  have hs := h4.size
  have hv' : v'.ownBlock = v0.ownBlock ∨ ∃ k, v'.ownBlock = some k ∧ w0.heap.size ≤ k := by
    rcases ha.blk with q | ⟨k, q1, q2⟩
    · rw [q]; exact h3
    · exact .inr ⟨k, q1, by omega⟩
  refine ⟨ha.own.chg hc fun k hk e => ?_, hb3, hv', (h4.trans ha.chg fun n hn e => ?_).trans hc fun n hn e => .inl (.inl e)⟩
  · subst e
    rcases hv' with q | ⟨j, q1, q2⟩
    · exact hv0 (q ▸ hk)
    · rw [q1] at hk; cases hk; omega
  · rcases h3 with q | ⟨j, q1, q2⟩
    · exact .inl (.inr (q ▸ e))
    · rw [q1] at e; cases e; exact .inr q2
theorem DstI.bytes {w0 w w2 w3 : World} {base D : Nat} {v0 v v' : Value} {bs bs' : Bs} {G : Nat → Prop} {oa : Option Addr} {l : Bs} (h : DstI w0 base D v0 v bs w) (hx : zaq w G oa l) (hG : ∀ k, G k → k < base) (ha : App eB w base v bs' v' w2) (hc : Chg (fun k => k = D) w2 w3) (hbD : base ≤ D) : zaq w3 G oa l :=
  (hx.chg ha.chg fun k hk _ e => by have := (own_ge h.1 k e).1; have := hG k hk; omega).chg hc fun k hk _ e => by have := hG k hk; omega
theorem clo_c {w0 w : World} {base D cap : Nat} {v0 v : Value} {bs : Bs} {x : Nat × Bs} {oa : Option Addr} {G : Nat → Prop} (h : DstI w0 base D v0 v bs w) (hx : zaq w G oa x.2) (hG : ∀ k, G k → k < base) (hbD : base ≤ D) (hD0 : D < w0.heap.size) (hv0 : v0.ownBlock ≠ some D) (h32 : x.1 < 4294967296)
    (hlim : bs.length + (encTag x).length ≤ LIM) : zaD Tryd.prog 46 #[.int .u32 (x.1 : Nat), .slice oa x.2.length cap, .pointer (some ⟨D, 0, none⟩)] w fun _ w' => ∃ v', DstI w0 base D v0 v' (bs ++ encTag x) w' := by
  have hbs : base ≤ w0.heap.size := by omega
  unfold encTag at hlim ⊢
  simp only [List.length_append] at hlim
  refine callsR_of0 Tryd.func46 rfl rfl Tryd.ntmps46 (by simp) ?_
  intro a hN hD ha
  have g0 : get a 0 = .int .u32 (x.1 : Nat) := ha 0 _ rfl
  have g1 : get a 1 = .slice oa x.2.length cap := ha 1 _ rfl
  have g2 : get a 2 = .pointer (some ⟨D, 0, none⟩) := ha 2 _ rfl
  have l0 := h.2.1.ld (i := 0) rfl
  refine wp_seq_k fun K hK => ?_; refine zai ?_; (repeat ((with_reducible refine zaw ?_ ?_ ?_); (· simp [evb, pvb, rnb, kb, hN, g0, g2, l0, dyb, sdb] <;> omega); (· kernel_rfl); try simp only [evb, pvb, rnb, kb, hN, seval, g0, g2, l0]))
  refine wl_callApp (fun args w => Tryd.call21 args w) (zaU x.1 h32) (by simp [evb, kb, hN, seval]) h.1 (by omega) (by have := h.2.2.2.size; omega) trivial ?_
  intro v1 w1 ha1
  have hc1 := ha1.own.cells1
  have hb1 : Blk w1 D [v] 22 := h.2.1.chg ha1.chg fun e => by
    rcases h.2.2.1 with q | ⟨j, q1, q2⟩
    · exact hv0 (q ▸ e)
    · rw [q1] at e; cases e; omega
  refine zaX (b := D) (o := 0) (n := 1) (v := v1) (by kernel_rfl) (by simp [evb, kb, hN, g2, sdb]) (by simp [evb, kb, hN, sdb]) hb1 (by rw [hc1.1]; rfl) (by intro y hy; rw [hc1.1] at hy; simp only [List.mem_singleton] at hy; subst hy; exact hc1.2) (by simp) fun w2 hb2 hk2 => ?_
  have e2 : zas [v] 0 v1.cells.toList = [v1] := by rw [hc1.1]; simp [zas]
  rw [e2] at hb2
  have hx2 := h.bytes hx hG ha1 hk2 hbD
  replace h := h.step ha1 hb2 hk2 hD0 hv0
  clear ha1 hc1 hb1 hb2 hk2 e2 hx
  refine zah ?_; refine hK _ _ ?_; clear hK K
  have l2 := h.2.1.ld (i := 0) rfl
  refine wp_seq_k fun K hK => ?_; refine zai ?_; (repeat ((with_reducible refine zaw ?_ ?_ ?_); (· simp [evb, pvb, rnb, kb, hN, g1, g2, l2, dyb, sdb] <;> omega); (· kernel_rfl); try simp only [evb, pvb, rnb, kb, hN, seval, g1, g2, l2]))
  have hcv : IntKind.u32.wrap (x.2.length : Int) = (x.2.length : Int) % 4294967296 := by simp [IntKind.wrap, IntKind.bits, IntKind.signed]
  refine wl_callApp (fun args w => Tryd.call21 args w) (zaU (x.2.length % 4294967296) (by omega)) (by simp [evb, kb, hN, seval, hcv]) h.1 (by simp only [List.length_append]; omega) (by have := h.2.2.2.size; omega) trivial ?_
  intro v3 w3 ha3
  have hc3 := ha3.own.cells1
  have hb3 : Blk w3 D [v1] 22 := h.2.1.chg ha3.chg fun e => by
    rcases h.2.2.1 with q | ⟨j, q1, q2⟩
    · exact hv0 (q ▸ e)
    · rw [q1] at e; cases e; omega
  refine zaX (b := D) (o := 0) (n := 1) (v := v3) (by kernel_rfl) (by simp [evb, kb, hN, g2, sdb]) (by simp [evb, kb, hN, sdb]) hb3 (by rw [hc3.1]; rfl) (by intro y hy; rw [hc3.1] at hy; simp only [List.mem_singleton] at hy; subst hy; exact hc3.2) (by simp) fun w4 hb4 hk4 => ?_
  have e4 : zas [v1] 0 v3.cells.toList = [v3] := by rw [hc3.1]; simp [zas]
  rw [e4] at hb4
  have hx4 := h.bytes hx2 hG ha3 hk4 hbD
  replace h := h.step ha3 hb4 hk4 hD0 hv0
  clear ha3 hc3 hb3 hb4 hk4 e4 hx2
  refine zah ?_; refine hK _ _ ?_; clear hK K
  have l4 := h.2.1.ld (i := 0) rfl
  refine zai ?_; (repeat ((with_reducible refine zaw ?_ ?_ ?_); (· simp [evb, pvb, rnb, kb, hN, g1, g2, l4, dyb, sdb] <;> omega); (· kernel_rfl); try simp only [evb, pvb, rnb, kb, hN, seval, g1, g2, l4]))
  refine wl_append (c := cap) bT (by simp only [evb, kb, hN, seval]) (by simp only [evb, kb, hN, seval]) h.1 hx4 (by simp only [List.length_append]; omega) (by have := h.2.2.2.size; omega) ?_
  intro v5 w5 ha5
  have hc5 := ha5.own.cells1
  have hb5 : Blk w5 D [v3] 22 := h.2.1.chg ha5.chg fun e => by
    rcases h.2.2.1 with q | ⟨j, q1, q2⟩
    · exact hv0 (q ▸ e)
    · rw [q1] at e; cases e; omega
  refine zaX (b := D) (o := 0) (n := 1) (v := v5) (by kernel_rfl) (by simp [evb, kb, hN, g2, sdb]) (by simp [evb, kb, hN, sdb]) hb5 (by rw [hc5.1]; rfl) (by intro y hy; rw [hc5.1] at hy; simp only [List.mem_singleton] at hy; subst hy; exact hc5.2) (by simp) fun w6 hb6 hk6 => ?_
  have e6 : zas [v3] 0 v5.cells.toList = [v5] := by rw [hc5.1]; simp [zas]
  rw [e6] at hb6
  refine zah ⟨by simp [zaj, hD], v5, ?_⟩
  have := h.step ha5 hb6 hk6 hD0 hv0
  rwa [List.append_assoc, List.append_assoc] at this
theorem encTagsEach_part {tags done r : za0} {x : Nat × Bs} (h : zaB tags = done ++ x :: r) : (done.flatMap encTag).length + (encTag x).length ≤ (zaJ tags).length := by
  unfold zaJ
  rw [h]; simp only [List.flatMap_append, List.flatMap_cons, List.length_append]; omega
theorem uvarA_pos : ∀ (k n : Nat), 1 ≤ (zaL k n).length
  | 0, n => by simp [zaL]
  | k + 1, n => by unfold zaL; split <;> simp
theorem encTagsEach_ge : ∀ t : za0, t.length ≤ (t.flatMap encTag).length
  | [] => Nat.le_refl _
  | x :: r => by
    have h1 := encTagsEach_ge r
    have h2 : 1 ≤ (encTag x).length := by
      unfold encTag
      have : 1 ≤ (zaZ x.1).length := uvarA_pos 4 x.1
      simp only [List.length_append]; omega
    simp only [List.flatMap_cons, List.length_append, List.length_cons]; omega
theorem TagsEach_c {w : World} {base : Nat} {m : Option Nat} {tags : za0} {B o : Nat} {l : List Value} {T : TypeId} {v : Value} {bs : Bs} (_hok : tagOK tags) (hb : Blk w B l T) (hm : l[o]? = some (.map m))
    (ht : TagsAt w (fun g => g < base) m tags) (hB : B < base) (hown : Own eB w base v bs) (hlim : bs.length + (zaJ tags).length ≤ LIM) (hbase : base ≤ w.heap.size) :
    zaD Tryd.prog 23 #[.pointer (some ⟨B, o, none⟩), v] w (App eB w base v (bs ++ zaJ tags)) := by
  have hn : tags.length ≤ 1099511627776 := by
    have := encTagsEach_ge (zaB tags)
    rw [tagSort_len] at this
    unfold zaJ LIM at hlim; omega
  refine zat Tryd.func23 rfl rfl Tryd.ntmps23 (by simp) ?_
  intro a hN hD ha
  have h0 : get a 0 = .pointer (some ⟨B, o, none⟩) := ha 0 _ rfl
  have h1 : get a 1 = v := ha 1 _ rfl
  have hv := hown.cells1
  refine wp_seq_k fun K hK => ?_; refine zai ?_
  refine wl_box ?_
  rw [zac, h1, hv.1]
  have hc : Chg (fun _ => False) w (w.alloc (.cells #[v] 22)) := Chg.alloc _ _ _
  have hbk : Blk (w.alloc (.cells #[v] 22)) w.heap.size [v] 22 := Blk.new _ [v] _
  generalize w.alloc (.cells #[v] 22) = w1 at hc hbk ⊢
  refine zak ?_
  refine zah ?_; refine hK _ _ ?_; clear hK K
  refine wp_seq_k fun K hK => ?_; refine zai ?_; (repeat (first | ((with_reducible refine wl_q ?_ ?_ ?_ ?_); (· exact rfl); (· simp [evb, kb, hN, h0, dyb, sdb] <;> omega); (· kernel_rfl); try simp only [evb, kb, hN, seval, pvb, h0]) | ((with_reducible refine zap ?_ ?_ ?_); rotate_left 1; (· simp [evb, kb, hN, h0, sdb]); rotate_left 1; (· kernel_rfl); try simp only [evb, kb, hN, seval, pvb, h0])))
  refine zaA rfl (v := .func (.func 46) #[] #[.pointer (some ⟨w.heap.size, 0, none⟩)]) (w' := w1) (by simp [execOp, Instr.makeFunc, evb, kb, hN, seval]) ?_
  have hlt1 := hbk.lt
  have hown1 : Own eB w1 base v bs := hown.chg hc fun _ _ h => h
  have hvo : v.ownBlock ≠ some w.heap.size := fun e => by have := (own_ge hown _ e).2; omega
  refine zaH (R := fun _ w' => ∃ v', DstI w1 base w.heap.size v v' (bs ++ zaJ tags) w') (fun args w => Tryd.call45 args w) (by
    simp only [List.map_toArray, List.map_cons, List.map_nil, evb, kb, hN, seval, h0]
    refine Each_c (G := fun g => g < base) (X := fun k => k = w.heap.size ∨ v.ownBlock = some k) (hb.chg hc (fun h => h)) hm (ht.stay (Stay.of hc fun _ _ _ h => h)) hn (fun args w => Tryd.call46 args w) ?_ ?_ ?_ ?_ ?_ ?_
    · rintro (e | e)
      · omega
      · have := (own_ge hown _ e).1; omega
    · rintro k hk (e | e)
      · omega
      · have := (own_ge hown _ e).1; omega
    · intro k hk; have := hc.size; omega
    · rintro k (e | e)
      · omega
      · have := (own_ge hown1 _ e).2; omega
    · rintro rfl
      refine ⟨v, ?_, hbk, .inl rfl, Chg.refl _ _⟩
      have e : bs ++ zaJ [] = bs := by simp [zaJ, zaB]
      rw [e]; exact hown1
    · intro w2 hc2
      have hs2 := hc2.size
      refine ⟨fun done w' => ∃ v', DstI w2 base w.heap.size v v' (bs ++ done.flatMap encTag) w', ⟨v, ?_, hbk.chg hc2 (fun h => h), .inl rfl, Chg.refl _ _⟩, ?_, ?_, ?_⟩
      · simp only [List.flatMap_nil, List.append_nil]; exact hown1.chg hc2 fun _ _ h => h
      · rintro t w' ⟨v', _, _, _, h4⟩; exact h4
      · rintro done x w' oa cap ⟨v', hI⟩ hx hxm h32 ⟨r, hr⟩
        have hp := encTagsEach_part hr
        refine zaD.mono (clo_c (cap := cap) hI hx (fun k hk => hk) hbase (by omega) hvo h32 (by simp only [List.length_append]; omega)) ?_
        rintro _ w'' ⟨v'', hI'⟩
        exact ⟨v'', by simpa only [List.flatMap_append, List.flatMap_cons, List.flatMap_nil, List.append_nil, List.append_assoc] using hI'⟩
      · rintro w' ⟨v', q1, q2, q3, q4⟩
        refine ⟨v', q1, q2, ?_, (hc2.mono fun _ _ h => h.elim).trans q4 fun n hn e => ?_⟩
        · rcases q3 with q | ⟨k, q, q'⟩
          · exact .inl q
          · exact .inr ⟨k, q, by omega⟩
        · rcases e with e | e
          · exact .inl e
          · omega) ?_
  rintro u w2 ⟨v', q1, q2, q3, q4⟩
  refine zah ?_; refine hK _ _ ?_; clear hK K
  refine wp_seq_k fun K hK => ?_; refine zai ?_
  refine wl_load (b := w.heap.size) (o := 0) (by kernel_rfl) (by simp [evb, kb, hN, sdb]) q2 rfl ?_
  (repeat (first | ((with_reducible refine wl_q ?_ ?_ ?_ ?_); (· exact rfl); (· simp [evb, kb, hN, dyb, sdb] <;> omega); (· kernel_rfl); try simp only [evb, kb, hN, seval, pvb]) | ((with_reducible refine zap ?_ ?_ ?_); rotate_left 1; (· simp [evb, kb, hN, sdb]); rotate_left 1; (· kernel_rfl); try simp only [evb, kb, hN, seval, pvb]))); refine zah ?_; refine hK _ _ ?_; clear hK K; refine wp_ret ⟨by simp [zaj, hD], ?_⟩; simp only [evb, kb, hN, seval]
  refine ⟨q1, (hc.mono fun _ _ h => h.elim).trans q4 fun n hn e => ?_, ?_⟩
  · rcases e with (e | e) | e
    · omega
    · exact e
    · have := hc.size; omega
  · rcases q3 with q | ⟨k, q, q'⟩
    · exact .inl q
    · exact .inr ⟨k, q, by have := hc.size; omega⟩
end Go.Proofs.YtojpodeljpfgaabDoor

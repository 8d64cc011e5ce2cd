import Derived.Test.YtojpodeljpfgaaaDoorZA
import Derived.Test.YtojpodeljpfgaaaDoorRows
import Derived.Deep.Slices
import Derived.ChangeSlices
import Derived.ChangeSame
/-
What the proofs of the laws rest on, part ZN.
-/
namespace Go.Proofs.YtojpodeljpfgaaaDoor
set_option linter.all false
open Go.RowKit Go.ChangeShapes
set_option maxRecDepth 10000
set_option maxHeartbeats 1000000
theorem cell_at {w : World} {a : Addr} {v : Value} (h : w.cell? a = some v) : a.spot = none ∧ ∃ l T, Rbk w a.block l T ∧ l[a.off]? = some v := by
  unfold World.cell? at h
  split at h
  · rename_i c T fz hc
    split at h
    · cases h
    · rename_i hs
      exact ⟨by simpa using hs, c.toList, T, ⟨fz, by simpa using hc⟩, by simpa using h⟩
  · cases h
theorem add_block (a : Addr) (n : Nat) : (a.add n).block = a.block := by unfold Addr.add; split <;> rfl
theorem add_off (a : Addr) (n : Nat) : (a.add n).off = a.off + n := by unfold Addr.add; split <;> simp_all
theorem cells_at {w : World} {base : Nat} {a : Addr} {n : Nat} {cs : List Value} (h : w.cells? base a n = some cs) (hn : 0 < n) : a.spot = none ∧ cs.length = n ∧ ∃ l T, Rbk w a.block l T ∧ (l.drop a.off).take n = cs := by
  obtain ⟨_, h2, h3⟩ := World.cells?_some h
  have h0 := h3 0 hn
  obtain ⟨v0, hv0⟩ : ∃ v, cs[0]? = some v := ⟨_, List.getElem?_eq_getElem (by omega)⟩
  rw [hv0] at h0
  have ha0 : a.add 0 = a := rfl
  rw [ha0] at h0
  obtain ⟨k1, l, T, k2, k3⟩ := cell_at h0
  refine ⟨k1, h2, l, T, k2, ?_⟩
  apply List.ext_getElem?
  intro i
  by_cases hi : i < n
  · rw [seg_get hi]
    have hvi := h3 i hi
    obtain ⟨v, hv⟩ : ∃ v, cs[i]? = some v := ⟨_, List.getElem?_eq_getElem (by omega)⟩
    rw [hv] at hvi ⊢
    obtain ⟨_, l', T', q2, q3⟩ := cell_at hvi
    rw [add_block] at q2
    rw [add_off] at q3
    rw [(k2.inj q2).1]; exact q3
  · rw [List.getElem?_eq_none (by rw [List.length_take]; omega), List.getElem?_eq_none (by omega)]
theorem row_at {w : World} {base k len : Nat} {a : Addr} {C : Nat → List Value} (h : ∀ i, i < len → w.cells? base (a.add (i * k)) k = some (C i)) (hk : 0 < k) (hl : 0 < len) :
    a.spot = none ∧ ∃ l T, Rbk w a.block l T ∧ ∀ i, i < len → (l.drop (a.off + i * k)).take k = C i := by
  obtain ⟨h1, _, l, T, h2, _⟩ := cells_at (h 0 hl) hk
  have ha0 : a.add (0 * k) = a := by rw [Nat.zero_mul]; rfl
  rw [ha0] at h1 h2
  refine ⟨h1, l, T, h2, fun i hi => ?_⟩
  obtain ⟨_, _, l', T', q2, q3⟩ := cells_at (h i hi) hk
  rw [add_block] at q2
  rw [add_off] at q3
  rw [(h2.inj q2).1]; exact q3
section
variable {H : Type} {enc : TypeId × Value → H} {w : World} {base : Nat} {spare : Nat → Bool} {held : Bool}
theorem bulkAll_lits {k : IntKind} : ∀ (zs : List Int), Rows.uptoBulkAll (H := H) (lits k zs) = zs.length
  | [] => by simp [lits, Rows.uptoBulkAll]
  | z :: r => by
    have := bulkAll_lits (k := k) r
    simp only [lits, List.map_cons] at this ⊢
    simp only [Rows.uptoBulkAll, Rows.uptoBulk, this, List.length_cons]; omega
theorem bytes_of {fuel : Nat} {cs : List Value} {x : DataW H × List MemPlace} (h : DataW.trod enc Tryd.prog w base spare held fuel 24 cs = some x) :
    ∃ oa cap bs, cs = [.slice oa bs.length cap] ∧ bs.length ≤ cap ∧ zam w (fun _ => True) oa bs ∧ bs.length + 1 ≤ Rows.uptoBulk x.1 := by
  rcases open_ints Tryd.underlying24 Tryd.underlying5 (by kernel_rfl) h with ⟨rfl, rfl⟩ | ⟨a, len, cap, zs, rfl, _, hlc, _, hz, rfl, hcell, hwf⟩
  · exact ⟨none, 0, [], rfl, Nat.le_refl _, .inl rfl, by simp [Rows.uptoBulk]⟩
  · have hlz : len ≤ zs.length := by rw [hz]; split <;> omega
    have hlen : ((zs.take len).map fun z => UInt8.ofNat z.toNat).length = len := by rw [List.length_map, List.length_take]; omega
    refine ⟨some a, cap, (zs.take len).map fun z => UInt8.ofNat z.toNat, by rw [hlen], by rw [hlen]; exact hlc, ?_, ?_⟩
    · by_cases h0 : len = 0
      · left; subst h0; simp
      · obtain ⟨k1, l, T, k2, k3⟩ := row_at (k := 1) (len := len) (C := fun i => [.int .u8 (zs.getD i 0)]) (fun i hi => cells?_one (by rw [add_block]; assumption) (by rw [Nat.mul_one]; exact hcell i (by omega))) (by decide) (by omega)
        right
        obtain ⟨ab, ao, asp⟩ := a
        simp only at k1
        subst k1
        refine ⟨ab, ao, l, T, rfl, trivial, k2, ?_⟩
        rw [hlen]
        apply List.ext_getElem?
        intro i
        by_cases hi : i < len
        · rw [seg_get hi]
          have e := k3 i hi
          simp only [Nat.mul_one] at e
          have e0 := congrArg (·[0]?) e
          simp only [List.getElem?_cons_zero] at e0
          rw [List.getElem?_take_of_lt (by omega), List.getElem?_drop, Nat.add_zero] at e0
          rw [e0, List.getElem?_map, List.getElem?_map, List.getElem?_take_of_lt hi]
          have hzi : zs[i]? = some (zs.getD i 0) := by rw [List.getD, List.getElem?_eq_getElem (by omega)]; simp
          clear e e0 k3
          generalize zs.getD i 0 = z at hzi ⊢
          rw [hzi]
          have hr := hwf _ (List.mem_of_getElem? hzi)
          simp only [Lit.wf, IntKind.min, IntKind.max, IntKind.signed, IntKind.bits, Bool.and_eq_true, decide_eq_true_eq] at hr
          simp only [Option.map_some, byteV]
          congr 2
          simp at hr
          simp only [UInt8.toNat_ofNat']
          omega
        · rw [List.getElem?_eq_none (by rw [List.length_take]; omega), List.getElem?_eq_none (by rw [List.length_map, hlen]; omega)]
    · rw [hlen]
      simp only [Rows.uptoBulk, bulkAll_lits, List.length_take, List.length_drop]
      omega
end
end Go.Proofs.YtojpodeljpfgaaaDoor

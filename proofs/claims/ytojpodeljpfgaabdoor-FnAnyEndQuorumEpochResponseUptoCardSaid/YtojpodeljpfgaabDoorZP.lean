import Derived.Test.YtojpodeljpfgaabDoorZN
import Derived.Test.YtojpodeljpfgaabDoorZB
import Derived.Test.YtojpodeljpfgaabDoorCards
import Derived.Test.YtojpodeljpfgaabDoorTie
import Derived.WalkKit
import Derived.ProofKit
import Derived.OpenShut
import Derived.Deep.DeepHandedRow
import Derived.Lib.LaidTab
import Derived.LaidHandle
import Derived.MakeChecks
import Derived.Carry
import Derived.Below
import Derived.Deep.DeepWitnessRowRef
/-
What the proofs of the laws rest on, part ZP.
-/
namespace Go.Proofs.YtojpodeljpfgaabDoor
set_option linter.all false
open Go.ChangeShapes Go.WideShapes Go.ChangeAt Go.RowKit
set_option maxRecDepth 100000
abbrev laidE : List (String × DataW Unit) := [("pub-kmsg/pub/kmsg/inner/kbin.ErrNotEnoughData", Rows.laid_pub_kmsg_pub_kmsg_inner_kbin_ErrNotEnoughData)]
theorem gErr : Tryd.prog.globalNamed "pub-kmsg/pub/kmsg/inner/kbin.ErrNotEnoughData" = some gE := by kernel_rfl
theorem gErrT : (Tryd.prog.globals[gE]?).map (·.type) = some 35 := by kernel_rfl
theorem iface_cell {H : Type} {enc : TypeId × Value → H} {P : Program} {w : World} {base : Nat} {sp : Nat → Bool} {held : Bool} {fuel : Nat} {t : TypeId} {cs : List Value} {name : String} {d : DataW H} {p : List MemPlace}
    (ht : ∃ ms, P.underlying t = some (.interface ms)) (h : DataW.trod enc P w base sp held fuel t cs = some (.iface name d, p)) : ∃ u v, cs = [.iface u v] := by
  obtain ⟨ms, ht⟩ := ht
  cases fuel with
  | zero => simp [DataW.trod] at h
  | succ fuel =>
    simp only [DataW.trod, ht] at h
    split at h
    all_goals first | exact ⟨_, _, rfl⟩ | (clear h; simp at *; done) | (simp at *; done)
theorem errW_of {W : World} (h : laidMetH Tryd.prog laidE W) : ErrW W := by
  rw [Go.MakeChecks.laidMetH_plain _ _ _ (by kernel_rfl)] at h
  obtain ⟨ps, ⟨g, t, cs, fuel, p, q, hg, ht, hvar, hd, _, _⟩, _⟩ := h
  obtain rfl := Option.some.inj (gErr.symm.trans hg)
  obtain rfl := Option.some.inj (gErrT.symm.trans ht)
  obtain ⟨u, v, hcs⟩ := iface_cell ⟨_, Tryd.underlying35⟩ hd
  have hc := World.var?_cell gErr hvar 0
  have e : cs[0]? = some (.iface u v) := by
    rw [← Array.getElem?_toList, hcs]; rfl
  rw [e] at hc
  exact ⟨u, v, by show (W.cell? ⟨gE, 0, none⟩).getD undef = _; rw [hc]; rfl, by show (W.cell? ⟨gE, 0, none⟩).isSome = _; rw [hc]; rfl⟩
noncomputable def laidWorld (os : Os) : World :=
  let h := World.holding Tryd.prog os ⟨#[], #[], []⟩
  { h with heap := (h.heap.modify gE fun
      | .cells _ t frozen => .cells #[.iface 123 (.pointer (some ⟨h.heap.size, 0, none⟩))] t frozen
      | o => o).push (.cells #[.string ⟨#[114, 101, 115, 112, 111, 110, 115, 101, 32, 100, 105, 100, 32, 110, 111, 116, 32, 99, 111, 110, 116, 97, 105, 110, 32, 101, 110, 111, 117, 103, 104, 32, 100, 97, 116, 97, 32, 116, 111, 32, 98, 101, 32, 118, 97, 108, 105, 100]⟩] 141) }
theorem below_of {w w' : World} (h : Chg (fun _ => False) w w') : Below w.heap.size w w' := (h.mono fun _ _ h => h.elim : Chg (fun k => w.heap.size ≤ k) w w').below (Nat.le_refl _)
theorem laidOut : laidOutB Tryd.prog = true := by kernel_rfl
theorem bytes_arg {H : Type} {enc : TypeId × Value → H} {W : World} {base : Nat} {v : Value} {d : DataW H} {p : List MemPlace} (hok : Value.okWide Tryd.prog W .any base 22 v) (h : DataW.Trod enc Tryd.prog W 0 (fun _ => true) true 22 v d p) (hb : Rows.uptoBulk d ≤ 1048576) :
    ∃ (oa : Option Addr) (bs : Bs) (cap : Nat), v = .slice oa bs.length cap ∧ zaq W (fun _ => True) oa bs ∧ bs.length ≤ cap ∧ bs.length ≤ 1048576 := by
  obtain ⟨oa, n, cap, rfl⟩ := okWide_slice Tryd.underlying22 hok
  obtain ⟨fuel, hf⟩ := h
  obtain ⟨oa', cap', bs, hcs, hcap, hbs, hbk⟩ := bytes_of hf
  have e : [Value.slice oa n cap] = [Value.slice oa' bs.length cap'] := hcs
  simp only [List.cons.injEq, Value.slice.injEq, and_true] at e
  obtain ⟨rfl, rfl, rfl⟩ := e
  exact ⟨oa, bs, cap, rfl, hbs, hcap, by have : bs.length + 1 ≤ Rows.uptoBulk d := hbk; omega⟩
theorem bytes_same {H : Type} {enc : TypeId × Value → H} {W W' : World} {v : Value} {d : DataW H} {p : List MemPlace} (h : DataW.Trod enc Tryd.prog W 0 (fun _ => true) true 22 v d p) (hc : Chg (fun _ => False) W W') (hlt : ∀ x ∈ p, x.block < W.heap.size) :
    DataW.Trod enc Tryd.prog W' 0 (fun b => decide (b < W.heap.size)) true 22 v d p := Below.trod laidOut (by kernel_rfl) (of_decide_eq_true (by kernel_rfl)) h (below_of hc) hlt
theorem own : ownKnob Tryd.prog.godebug = none := by kernel_rfl
end Go.Proofs.YtojpodeljpfgaabDoor

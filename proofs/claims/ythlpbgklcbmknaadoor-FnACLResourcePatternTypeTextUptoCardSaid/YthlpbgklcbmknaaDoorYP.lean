import Derived.Test.YthlpbgklcbmknaaDoorYV
import Derived.Test.YthlpbgklcbmknaaDoorCards
import Derived.Test.YthlpbgklcbmknaaDoorTie
import Derived.WalkKit
import Derived.ProofKit
import Derived.OpenShut
import Derived.ShutString
import Derived.Deep.DeepHandedRow
import Derived.Lib.LaidTab
import Derived.LaidHandle
import Derived.MakeChecks
import Derived.Carry
import Derived.Below
import Derived.Deep.DeepWitnessRowRef
import Derived.Lib.LaidCaseMet
/-
What the proofs of the laws rest on, part YP.
-/
namespace Go.Proofs.YthlpbgklcbmknaaDoor
set_option linter.all false
open Go.ChangeShapes Go.WideShapes Go.ChangeAt Go.RowKit
set_option maxRecDepth 100000
abbrev laidN : List (String × DataW Unit) := [("unicode/utf8.acceptRanges", Rows.laid_unicode_utf8_acceptRanges), ("unicode.White_Space", Rows.laid_unicode_White_Space), ("strings.asciiSpace", Rows.laid_strings_asciiSpace), ("unicode.CaseRanges", Rows.laid_unicode_CaseRanges), ("unicode/utf8.first", Rows.laid_unicode_utf8_first)]
theorem spaceData : (Rows.laid_strings_asciiSpace : DataW Unit) = Lib.tabData .u8 Lib.asciiSpaceTab := by kernel_rfl
theorem gSpT : (Tryd.prog.globals[0]?).map (·.type) = some 64 := by kernel_rfl
theorem gSp0 : Tryd.prog.globalNamed "strings.asciiSpace" = some 0 := by kernel_rfl
theorem spaceW_of {W : World} (h : laidMetH Tryd.prog laidN W) : SpaceW W := by
  rw [Go.MakeChecks.laidMetH_plain _ _ _ (by kernel_rfl)] at h
  obtain ⟨ps, ⟨_, _, _, _, _, _, _, _, _, _, h1, _⟩, _⟩ := h
  obtain ⟨_, _, _, _, _, _, _, _, _, _, h2, _⟩ := h1
  obtain ⟨g, t, cs, fuel, p, q, hg, ht, hvar, hd, _⟩ := h2
  obtain rfl := Option.some.inj (gSp0.symm.trans hg)
  obtain rfl := Option.some.inj (gSpT.symm.trans ht)
  rw [spaceData] at hd
  unfold SpaceW Lib.TabIs
  rw [hvar, ← Lib.cells_of_tab Tryd.underlying64 Tryd.underlying5 (by kernel_rfl) (by kernel_rfl) hd]
noncomputable def laidWorld (os : Os) : World :=
  let N := (World.settled Tryd.prog os).heap.size
  let w0 := World.holding Tryd.prog os ⟨#[.cells (Lib.whiteT.map fun (z : Nat) => Value.int .u16 (z : Int)).toArray 91, .cells #[.slice (some ⟨N, 0, none⟩) 7 7, .slice none 0 0, .int .i64 2] 88,
    .cells Lib.caseCells5 115], #[], []⟩
  let put (h : Array Obj) (g : Nat) (cs : Array Value) : Array Obj := h.modify g fun
    | .cells _ t frozen => .cells cs t frozen
    | o => o
  let h1 := put w0.heap 0 (Lib.asciiSpaceTab.map fun z => Value.int .u8 z).toArray
  let h2 := put h1 3 (Lib.firstTab.map fun z => Value.int .u8 z).toArray
  let h3 := put h2 4 ((List.range 16).flatMap fun i => [Value.int .u8 (Lib.accLo i), Value.int .u8 (Lib.accHi i)]).toArray
  let h4 := put h3 1 #[.pointer (some ⟨N + 1, 0, none⟩)]
  let h5 := put h4 2 #[.slice (some ⟨N + 2, 0, none⟩) 336 336]
  { w0 with heap := h5 }
theorem own : ownKnob Tryd.prog.godebug = none := by kernel_rfl
theorem laidVars_perm {P : Program} {w : World} {l l' : List (String × DataW Unit)} (h : l.Perm l') : ∀ {ps : List MemPlace}, DataW.LaidVars P w l ps → ∃ ps', ps'.Perm ps ∧ DataW.LaidVars P w l' ps' := by
  induction h with
  | nil => exact fun h => ⟨_, List.Perm.refl _, h⟩
  | cons x _ ih =>
    rintro ps ⟨g, t, cs, fuel, p, q, h1, h2, h3, h4, h5, rfl⟩
    obtain ⟨q', hp, h'⟩ := ih h5
    exact ⟨_, List.Perm.append_left _ hp, g, t, cs, fuel, p, q', h1, h2, h3, h4, h', rfl⟩
  | swap x y l =>
    rintro ps ⟨g, t, cs, fuel, p, q, h1, h2, h3, h4, ⟨g', t', cs', fuel', p', q', k1, k2, k3, k4, k5, rfl⟩, rfl⟩
    refine ⟨_, ?_, g', t', cs', fuel', p', _, k1, k2, k3, k4, ⟨g, t, cs, fuel, p, q', h1, h2, h3, h4, k5, rfl⟩, rfl⟩
    have hp := List.Perm.append_right q' (List.perm_append_comm (l₁ := MemPlace.row ⟨g', 0, none⟩ cs'.size ++ p') (l₂ := MemPlace.row ⟨g, 0, none⟩ cs.size ++ p))
    simpa only [List.append_assoc] using hp
  | trans _ _ ih1 ih2 =>
    intro ps h
    obtain ⟨p1, e1, h1⟩ := ih1 h
    obtain ⟨p2, e2, h2⟩ := ih2 h1
    exact ⟨p2, e2.trans e1, h2⟩
theorem laidMet_perm {P : Program} {w : World} {l l' : List (String × DataW Unit)} (h : l.Perm l') (hm : laidMet P l w) : laidMet P l' w := by
  obtain ⟨ps, hv, hn, hc⟩ := hm
  obtain ⟨ps', e, hv'⟩ := laidVars_perm h hv
  exact ⟨ps', hv', e.nodup_iff.2 hn, fun b off hp => hc b off (e.mem_iff.1 hp)⟩
theorem caseSame : (Rows.laid_unicode_CaseRanges : DataW Unit) = Lib.caseData := by kernel_rfl
theorem laid_met (os : Os) (args : Array Value) : laidMet Tryd.prog laidN ((laidWorld os).forCall (fun _ _ => 0) ⟨#[], args, []⟩).memory := by
  have h := laidMet_with_case (ρ := Tryd.sl159_ren) { Tryd.sl159 with } Tryd.sl159.t206 ⟨by kernel_rfl, by kernel_rfl, by kernel_rfl, by kernel_rfl, by kernel_rfl, by kernel_rfl⟩
    (w := ((laidWorld os).forCall (fun _ _ => 0) ⟨#[], args, []⟩).memory)
    (l := [("unicode/utf8.acceptRanges", Rows.laid_unicode_utf8_acceptRanges), ("unicode.White_Space", Rows.laid_unicode_White_Space), ("strings.asciiSpace", Rows.laid_strings_asciiSpace), ("unicode/utf8.first", Rows.laid_unicode_utf8_first)])
    10 (by kernel_rfl) (by kernel_rfl) (by kernel_rfl) ((World.settled Tryd.prog default).heap.size + 2) (Tryd.sl159_ren.t 208) (of_decide_eq_true (by kernel_rfl)) (by kernel_rfl) (by kernel_rfl) (by kernel_rfl)
  rw [← caseSame] at h
  exact laidMet_perm (.cons _ (.cons _ (.cons _ (.swap _ _ _)))) h
theorem below_of {w w' : World} (h : Chg (fun _ => False) w w') : Below w.heap.size w w' := (h.mono fun _ _ h => h.elim : Chg (fun k => w.heap.size ≤ k) w w').below (Nat.le_refl _)
end Go.Proofs.YthlpbgklcbmknaaDoor

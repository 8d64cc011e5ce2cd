import Derived.Test.YtkhmglikdlgfpaaPure
/-
The plain side of the reference: what is written of a tree, by a schema; no program in sight.
-/
namespace Go.Proofs.Ytkhmglikdlgfpaa
set_option linter.all false

/-- A tree of the reference: a number, octets, whether it is null, its things, its unknown tags. -/
inductive Tr where
  | mk (n : Int) (b : Bs) (nil : Bool) (l : List Tr) (t : Tags)
  deriving Inhabited
namespace Tr
def n : Tr → Int | mk x _ _ _ _ => x
def b : Tr → Bs | mk _ x _ _ _ => x
def nil : Tr → Bool | mk _ _ x _ _ => x
def l : Tr → List Tr | mk _ _ _ x _ => x
def t : Tr → Tags | mk _ _ _ _ x => x
def zero : Tr := mk 0 [] false [] []
/-- Thing i; none: nothing. -/
def th (v : Tr) (i : Nat) : Tr := (v.l[i]?).getD zero
end Tr

/-- The longest text, the longest list. -/
def MOST : Nat := 32767

def kNum : K → Nat
  | .bool => 0 | .i8 => 1 | .i16 => 2 | .i32 => 3 | .i64 => 4 | .u16 => 5 | .f64 => 6 | .uuid => 7 | .text => 8 | .bytes => 9 | .struct => 10 | .list => 11
def kWid : K → Nat
  | .i8 => 1 | .i16 => 2 | .u16 => 2 | .i32 => 4 | _ => 8

def sNull (nl ver : Int) (v : Tr) : Bool := v.nil && decide (0 ≤ nl) && decide (nl ≤ ver)
/-- How many, ahead of what is counted: w octets, or a number in groups of seven bits. -/
def sCount (flex nul : Bool) (n w : Nat) : Bs :=
  if flex && nul then [0] else if flex then uvar (n + 1) else if nul then be w (-1) else be w n

/-- From which number on tags are unknown. -/
def sKnown : List Fld → Nat → Nat
  | [], m => m
  | f :: r, m => sKnown r (if 0 ≤ f.tag then max m (f.tag.toNat + 1) else m)

/-- A tag comes in at its place, unless one of its number is there. -/
def unkIns (x : Nat × Bs) : Tags → Tags
  | [] => [x]
  | y :: r => if y.1 < x.1 then y :: unkIns x r else if y.1 = x.1 then y :: r else x :: y :: r
def sUnkFrom (k : Nat) : Tags → Tags → Tags
  | [], acc => acc
  | x :: r, acc => sUnkFrom k r (if x.1 < k then acc else unkIns x acc)
def sUnknown (fs : List Fld) (t : Tags) : Tags := sUnkFrom (sKnown fs 0) (t.take MOST) []

def sUnkEach (t : Tags) : Bs := t.flatMap fun x => uvar x.1 ++ (uvar (x.2.take MOST).length ++ x.2.take MOST)

mutual
/-- A field says what it says by default. -/
def sUsual : Fld → Tr → Bool
  | .mk k _ _ nl _ df _ sub, v => match k with
    | .bool => decide (v.n % 2 = df)
    | .uuid => (v.b.take 16).all (· == 0)
    | .text | .bytes => if 0 ≤ nl then v.nil else v.b.isEmpty
    | .list => v.l.isEmpty
    | .struct => sUsualL sub v 0 && (sUnknown sub v.t).isEmpty
    | k => decide (be (kWid k) v.n = be (kWid k) df)
def sUsualL : List Fld → Tr → Nat → Bool
  | [], _, _ => true
  | f :: r, v, i => sUsual f (v.th i) && sUsualL r v (i + 1)
end

/-- Behind the fields: how many tags, and each one. -/
def sTags (kn : Nat × Bs) (unk : Tags) : Bs := uvar (kn.1 + unk.length) ++ (kn.2 ++ sUnkEach unk)

def sNoStruct (k : K) (flex nul : Bool) (v : Tr) : Bs := match k with
  | .bool => [byte (v.n % 2)]
  | .uuid => (v.b ++ List.replicate 16 0).take 16
  | .text => let b := if nul then [] else v.b.take MOST; sCount flex nul b.length 2 ++ b
  | .bytes => let b := if nul then [] else v.b.take MOST; sCount flex nul b.length 4 ++ b
  | .struct => []
  | k => be (kWid k) v.n

/-- The known tags that say something: for each number, the fields of that number. -/
def sumTags (l : List (Nat × Bs)) : Nat × Bs := (l.foldl (fun a x => a + x.1) 0, l.flatMap (·.2))

mutual
def sF (flex : Bool) (ver : Int) : Fld → Tr → Bs
  | .mk k _ _ nl _ _ of sub, v =>
    let part := fun (v : Tr) => sL flex ver sub v 0 ++ (if flex then sTags (sumTags ((List.range (sKnown sub 0)).map fun g => sT flex ver sub g v 0)) (sUnknown sub v.t) else [])
    let nul := sNull nl ver v
    match k with
    | .list =>
      let l := if nul then [] else v.l.take MOST
      sCount flex nul l.length 4 ++ l.flatMap fun x => match of with
        | .struct => part x
        | k => sNoStruct k flex false x
    | .struct => if 0 ≤ nl then (if nul then be 1 (-1) else be 1 1 ++ part v) else part v
    | k => sNoStruct k flex nul v
/-- The fields without tags. -/
def sL (flex : Bool) (ver : Int) : List Fld → Tr → Nat → Bs
  | [], _, _ => []
  | f :: r, v, i => (if decide (f.tag < 0) && f.has ver then sF flex ver f (v.th i) else []) ++ sL flex ver r v (i + 1)
/-- The fields of tag g that say something: how many, and their octets. -/
def sT (flex : Bool) (ver : Int) : List Fld → Nat → Tr → Nat → Nat × Bs
  | [], _, _, _ => (0, [])
  | f :: r, g, v, i =>
    let x := sT flex ver r g v (i + 1)
    if decide (f.tag = (g : Int)) && !sUsual f (v.th i) then (x.1 + 1, (uvar g ++ (uvar (sF flex ver f (v.th i)).length ++ sF flex ver f (v.th i))) ++ x.2) else x
end

def sPart (flex : Bool) (ver : Int) (fs : List Fld) (v : Tr) : Bs :=
  sL flex ver fs v 0 ++ (if flex then sTags (sumTags ((List.range (sKnown fs 0)).map fun g => sT flex ver fs g v 0)) (sUnknown fs v.t) else [])

def sVal (k : K) (sub : List Fld) (flex nul : Bool) (ver : Int) (v : Tr) : Bs :=
  match k with | .struct => sPart flex ver sub v | k => sNoStruct k flex nul v

theorem sF_eq (flex : Bool) (ver : Int) (k : K) (a b nl c d : Int) (of : K) (sub : List Fld) (v : Tr) : sF flex ver (.mk k a b nl c d of sub) v =
    match k with
    | .list => sCount flex (sNull nl ver v) (if sNull nl ver v then [] else v.l.take MOST).length 4 ++ (if sNull nl ver v then [] else v.l.take MOST).flatMap fun x => sVal of sub flex false ver x
    | .struct => if 0 ≤ nl then (if sNull nl ver v then be 1 (-1) else be 1 1 ++ sPart flex ver sub v) else sPart flex ver sub v
    | k => sVal k sub flex (sNull nl ver v) ver v := by
  unfold sF
  cases k <;> try rfl
  dsimp only
  congr 2
  funext x
  cases of <;> rfl

/-- The default of a part, as a tree. -/
def dfNode (f : Fld) (l : List Tr) : Tr := .mk f.dflt [] (decide (0 ≤ f.null)) l []
mutual
def sDefF : Fld → Tr
  | .mk k a b nl c d of sub => dfNode (.mk k a b nl c d of sub) (if k = .struct then sDefL sub else [])
def sDefL : List Fld → List Tr
  | [] => []
  | f :: r => sDefF f :: sDefL r
end
def sDef (fs : List Fld) : Tr := .mk 0 [] false (sDefL fs) []

end Go.Proofs.Ytkhmglikdlgfpaa

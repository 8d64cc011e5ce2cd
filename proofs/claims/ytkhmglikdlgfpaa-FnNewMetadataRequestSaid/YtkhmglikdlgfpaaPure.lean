/-
The plain side: what a message says (D), how the package reads it from bytes and writes it back, as functions on lists; no program in sight.
-/
namespace Go.Proofs.Ytkhmglikdlgfpaa
set_option linter.all false

abbrev Bs := List UInt8

/-- The kinds of the reference. -/
inductive K where
  | bool | i8 | i16 | i32 | i64 | u16 | f64 | uuid | text | bytes | struct | list
  deriving DecidableEq, Repr, Inhabited

/-- A field: its kind; the versions that have it; from which version on it may be null; its tag; its default; of a list the kind of its things; the fields of a part. -/
inductive Fld where
  | mk (kind : K) (from_ to null tag dflt : Int) (of : K) (sub : List Fld)
  deriving Inhabited

namespace Fld
def kind : Fld → K | mk k _ _ _ _ _ _ _ => k
def from_ : Fld → Int | mk _ x _ _ _ _ _ _ => x
def to : Fld → Int | mk _ _ x _ _ _ _ _ => x
def null : Fld → Int | mk _ _ _ x _ _ _ _ => x
def tag : Fld → Int | mk _ _ _ _ x _ _ _ => x
def dflt : Fld → Int | mk _ _ _ _ _ x _ _ => x
def of : Fld → K | mk _ _ _ _ _ _ x _ => x
def sub : Fld → List Fld | mk _ _ _ _ _ _ _ x => x
def has (f : Fld) (ver : Int) : Bool := decide (f.from_ ≤ ver) && (decide (f.to < 0) || decide (ver ≤ f.to))
end Fld

/-- Unknown tags, in the order in which they were set first. -/
abbrev Tags := List (Nat × Bs)

/-- What a field holds. -/
inductive D where
  | int (n : Int) | bool (b : Bool) | f64 (bits : Nat) | uuid (l : Bs) | str (l : Bs) | nstr (o : Option Bs) | bytes (l : Bs)
  | arr (nil : Bool) (l : List D) | pnil | ptr (d : D) | struct (ds : List D) (tags : Tags)
  deriving Inhabited

/-! ### Numbers -/

def byte (n : Int) : UInt8 := UInt8.ofNat (n % 256).toNat
/-- n in k octets, the highest one first. -/
def be : Nat → Int → Bs
  | 0, _ => []
  | k + 1, n => byte (n / 256 ^ k) :: be k n
/-- The number that octets say. -/
def unbe : Bs → Nat
  | [] => 0
  | b :: r => b.toNat * 256 ^ r.length + unbe r
/-- A number of k octets, read with its sign. -/
def sgn (k : Nat) (n : Nat) : Int := if 2 * (n : Int) < 256 ^ k then n else (n : Int) - 256 ^ k
def wrap32i (n : Int) : Int := (n + 2147483648) % 4294967296 - 2147483648

def uvarAux : Nat → Nat → Bs
  | 0, n => [UInt8.ofNat n]
  | k + 1, n => if n < 128 then [UInt8.ofNat n] else UInt8.ofNat (n % 128 + 128) :: uvarAux k (n / 128)
/-- A number below 2^32 in groups of seven bits. -/
def uvar (n : Nat) : Bs := uvarAux 4 n

def take? (k : Nat) (bs : Bs) : Option (Bs × Bs) := if k ≤ bs.length then some (bs.take k, bs.drop k) else none

def rU (k : Nat) (bs : Bs) : Option (Nat × Bs) := (take? k bs).map fun x => (unbe x.1, x.2)
def rS (k : Nat) (bs : Bs) : Option (Int × Bs) := (take? k bs).map fun x => (sgn k (unbe x.1), x.2)

/-- A number in groups of seven bits, of 32 bits, as the package reads it. -/
def rUvar : Bs → Option (Nat × Bs)
  | [] => none
  | b0 :: r0 => if b0.toNat < 128 then some (b0.toNat, r0) else
    match r0 with
    | [] => none
    | b1 :: r1 => if b1.toNat < 128 then some (b0.toNat % 128 + b1.toNat * 128, r1) else
      match r1 with
      | [] => none
      | b2 :: r2 => if b2.toNat < 128 then some (b0.toNat % 128 + b1.toNat % 128 * 128 + b2.toNat * 16384, r2) else
        match r2 with
        | [] => none
        | b3 :: r3 => if b3.toNat < 128 then some (b0.toNat % 128 + b1.toNat % 128 * 128 + b2.toNat % 128 * 16384 + b3.toNat * 2097152, r3) else
          match r3 with
          | [] => none
          | b4 :: r4 => if b4.toNat ≤ 15 then some (b0.toNat % 128 + b1.toNat % 128 * 128 + b2.toNat % 128 * 16384 + b3.toNat % 128 * 2097152 + b4.toNat * 268435456, r4) else none

/-- So many octets; a count below 0 is none. -/
def rSpan (l : Int) (bs : Bs) : Option (Bs × Bs) := if 0 ≤ l then take? l.toNat bs else none

/-! ### Reading a value of a kind -/

def rStr (flex : Bool) (bs : Bs) : Option (Bs × Bs) :=
  if flex then (rUvar bs).bind fun x => rSpan ((x.1 : Int) - 1) x.2 else (rS 2 bs).bind fun x => rSpan x.1 x.2
def rNStr (flex : Bool) (bs : Bs) : Option (Option Bs × Bs) :=
  if flex then (rUvar bs).bind fun x => if (x.1 : Int) - 1 < 0 then some (none, x.2) else (rSpan ((x.1 : Int) - 1) x.2).map fun y => (some y.1, y.2)
  else (rS 2 bs).bind fun x => if x.1 < 0 then some (none, x.2) else (rSpan x.1 x.2).map fun y => (some y.1, y.2)
def rByt (flex : Bool) (bs : Bs) : Option (Bs × Bs) :=
  if flex then (rUvar bs).bind fun x => if (x.1 : Int) - 1 = -1 then some ([], x.2) else rSpan ((x.1 : Int) - 1) x.2
  else (rS 4 bs).bind fun x => if x.1 = -1 then some ([], x.2) else rSpan x.1 x.2
/-- How many things a list has: not more than there are octets. -/
def rLen (flex : Bool) (bs : Bs) : Option (Int × Bs) :=
  (if flex then (rUvar bs).map fun x => (wrap32i (wrap32i x.1 - 1), x.2) else rS 4 bs).bind fun x => if (x.2.length : Int) < x.1 then none else some x

def rK (k : K) (flex : Bool) (bs : Bs) : Option (D × Bs) :=
  match k with
  | .bool => (take? 1 bs).map fun x => (.bool (unbe x.1 != 0), x.2)
  | .i8 => (rS 1 bs).map fun x => (.int x.1, x.2)
  | .i16 => (rS 2 bs).map fun x => (.int x.1, x.2)
  | .i32 => (rS 4 bs).map fun x => (.int x.1, x.2)
  | .i64 => (rS 8 bs).map fun x => (.int x.1, x.2)
  | .u16 => (rU 2 bs).map fun x => (.int x.1, x.2)
  | .f64 => (rU 8 bs).map fun x => (.f64 x.1, x.2)
  | .uuid => (take? 16 bs).map fun x => (.uuid x.1, x.2)
  | .text => (rStr flex bs).map fun x => (.str x.1, x.2)
  | .bytes => (rByt flex bs).map fun x => (.bytes x.1, x.2)
  | .struct | .list => none

/-- A tag is set: the last one counts. -/
def tagSet : Tags → Nat → Bs → Tags
  | [], k, v => [(k, v)]
  | (j, u) :: r, k, v => if j = k then (j, v) :: r else (j, u) :: tagSet r k v

/-- One tag: its number, its length, its octets. -/
def rTag (bs : Bs) : Option ((Nat × Bs) × Bs) :=
  (rUvar bs).bind fun k => (rUvar k.2).bind fun l => (rSpan l.1 l.2).map fun v => ((k.1, v.1), v.2)
def rTagsN : Nat → Tags → Bs → Option (Tags × Bs)
  | 0, t, bs => some (t, bs)
  | n + 1, t, bs => (rTag bs).bind fun x => rTagsN n (tagSet t x.1.1 x.1.2) x.2
def rTags (bs : Bs) : Option (Tags × Bs) := (rUvar bs).bind fun n => rTagsN n.1 [] n.2

/-- n things, one behind the other. -/
def rMany {α : Type} (one : Bs → Option (α × Bs)) : Nat → Bs → Option (List α × Bs)
  | 0, bs => some ([], bs)
  | n + 1, bs => (one bs).bind fun x => (rMany one n x.2).map fun y => (x.1 :: y.1, y.2)

/-! ### Defaults -/

def zeroK : K → D
  | .bool => .bool false
  | .f64 => .f64 0
  | .uuid => .uuid (List.replicate 16 0)
  | .text => .str []
  | .bytes => .bytes []
  | _ => .int 0

mutual
def dfltF : Fld → D
  | .mk k _ _ null _ d _ sub => match k with
    | .bool => .bool (d != 0)
    | .f64 => .f64 0
    | .uuid => .uuid (List.replicate 16 0)
    | .text => if null < 0 then .str [] else .nstr none
    | .bytes => .bytes []
    | .list => .arr true []
    | .struct => if null < 0 then .struct (dfltL sub) [] else .pnil
    | _ => .int d
def dfltL : List Fld → List D
  | [] => []
  | f :: r => dfltF f :: dfltL r
end

mutual
def zeroF : Fld → D
  | .mk k _ _ null _ _ _ sub => match k with
    | .bool => .bool false
    | .f64 => .f64 0
    | .uuid => .uuid (List.replicate 16 0)
    | .text => if null < 0 then .str [] else .nstr none
    | .bytes => .bytes []
    | .list => .arr true []
    | .struct => if null < 0 then .struct (zeroL sub) [] else .pnil
    | _ => .int 0
def zeroL : List Fld → List D
  | [] => []
  | f :: r => zeroF f :: zeroL r
end

/-! ### Reading a part: what it holds is turned field by field -/

/-- What a part holds: its fields, its unknown tags. -/
structure S where
  ds : List D
  tags : Tags
  deriving Inhabited

abbrev Sem := S → Bs → Option (S × Bs)

def Sem.seq (f g : Sem) : Sem := fun s bs => (f s bs).bind fun x => g x.1 x.2
def Sem.id : Sem := fun s bs => some (s, bs)
/-- Field i becomes what is read. -/
def semSet (i : Nat) (r : Bs → Option (D × Bs)) : Sem := fun s bs => (r bs).map fun x => ({ s with ds := s.ds.set i x.1 }, x.2)
def semIf (c : Bool) (f : Sem) : Sem := if c then f else Sem.id

/-- Tags of a part that knows some: a known one turns its field (known: which one, and how its octets are read), all others are kept. -/
def rTagged (known : Nat → Option (Nat × (Bs → Option D))) : Nat → Sem
  | 0 => Sem.id
  | n + 1 => fun s bs => (rUvar bs).bind fun k => (rUvar k.2).bind fun l => (rSpan l.1 l.2).bind fun v =>
    match known k.1 with
    | none => rTagged known n { s with tags := tagSet s.tags k.1 v.1 } v.2
    | some f => (f.2 v.1).bind fun d => rTagged known n { s with ds := s.ds.set f.1 d } v.2
def semTagged (known : Nat → Option (Nat × (Bs → Option D))) : Sem := fun s bs => (rUvar bs).bind fun n => rTagged known n.1 s n.2

def semTags (flex : Bool) : Sem := semIf flex fun s bs => (rTags bs).map fun x => ({ s with tags := x.1 }, x.2)

/-- A list is nil: as the package makes it. -/
def nilArr (null ver l : Int) : Bool := if null < 0 then decide (l ≤ 0) else decide (l < 0) && decide (null ≤ ver)

def anyTag : List Fld → Bool
  | [] => false
  | f :: r => decide (0 ≤ f.tag) || anyTag r

/-- A part: its fields, then its tags. -/
def partOf (flex tagged : Bool) (known : Nat → Option (Nat × (Bs → Option D))) (r : Option (List D × Bs)) : Option (S × Bs) :=
  r.bind fun x => if flex then (if tagged then semTagged known ⟨x.1, []⟩ x.2 else semTags true ⟨x.1, []⟩ x.2) else some (⟨x.1, []⟩, x.2)

def S.d (s : S) : D := .struct s.ds s.tags

mutual
/-- What is read of a field. -/
def decF (flex : Bool) (ver : Int) : Fld → Bs → Option (D × Bs)
  | .mk k _ _ null _ _ of sub => fun bs => match k with
    | .list => (rLen flex bs).bind fun n =>
        (rMany (match of with
          | .struct => fun b => (partOf flex (anyTag sub) (decKnown flex ver sub 0) (decL flex ver sub b)).map fun x => (x.1.d, x.2)
          | k => rK k flex) n.1.toNat n.2).map fun x => (.arr (nilArr null ver n.1) x.1, x.2)
    | .struct =>
      let one := fun b => (partOf flex (anyTag sub) (decKnown flex ver sub 0) (decL flex ver sub b)).map fun x => (x.1.d, x.2)
      if null < 0 then one bs
      else (rS 1 bs).bind fun p => if p.1 = -1 then some (.pnil, p.2) else (one p.2).map fun x => (.ptr x.1, x.2)
    | .text => if null < 0 then rK .text flex bs
      else if ver < null then (rStr flex bs).map fun x => (.nstr (some x.1), x.2)
      else (rNStr flex bs).map fun x => (.nstr x.1, x.2)
    | k => rK k flex bs
/-- What is read of the fields without tags, one behind the other; a field that the version has not stays as by default. -/
def decL (flex : Bool) (ver : Int) : List Fld → Bs → Option (List D × Bs)
  | [], bs => some ([], bs)
  | f :: r, bs => if decide (f.tag < 0) && f.has ver then (decF flex ver f bs).bind fun x => (decL flex ver r x.2).map fun y => (x.1 :: y.1, y.2)
    else (decL flex ver r bs).map fun y => (dfltF f :: y.1, y.2)
/-- The field with a tag's number, and how its octets are read. -/
def decKnown (flex : Bool) (ver : Int) : List Fld → Nat → Nat → Option (Nat × (Bs → Option D))
  | [], _, _ => none
  | f :: r, i, k => if f.tag = (k : Int) then some (i, fun bs => (decF flex ver f bs).map (·.1)) else decKnown flex ver r (i + 1) k
end

def decPart (flex : Bool) (ver : Int) (fs : List Fld) (bs : Bs) : Option (S × Bs) :=
  partOf flex (anyTag fs) (decKnown flex ver fs 0) (decL flex ver fs bs)

/-! ### Writing -/

/-- Tags by rising numbers. -/
def tagIns (x : Nat × Bs) : Tags → Tags
  | [] => [x]
  | y :: r => if x.1 ≤ y.1 then x :: y :: r else y :: tagIns x r
def tagSort : Tags → Tags
  | [] => []
  | x :: r => tagIns x (tagSort r)
def encTag (x : Nat × Bs) : Bs := uvar x.1 ++ (uvar (x.2.length % 4294967296) ++ x.2)
def encTagsEach (t : Tags) : Bs := (tagSort t).flatMap encTag

def encStr (flex : Bool) (l : Bs) : Bs := (if flex then uvar ((1 + l.length) % 4294967296) else be 2 l.length) ++ l
def encNStr (flex : Bool) : Option Bs → Bs
  | none => if flex then uvar 0 else be 2 (-1)
  | some l => encStr flex l
def encByt (flex : Bool) (l : Bs) : Bs := (if flex then uvar ((1 + l.length) % 4294967296) else be 4 l.length) ++ l
def encLen (flex : Bool) (n : Nat) : Bs := if flex then uvar ((1 + n) % 4294967296) else be 4 n
def encNLen (flex : Bool) (nil : Bool) (n : Nat) : Bs := if nil then (if flex then uvar 0 else be 4 (-1)) else encLen flex n

def encK (k : K) (flex : Bool) : D → Bs
  | .bool b => [if b then 1 else 0]
  | .int n => match k with
    | .i8 => be 1 n
    | .i16 | .u16 => be 2 n
    | .i64 => be 8 n
    | _ => be 4 n
  | .f64 n => be 8 n
  | .uuid l => l
  | .str l => encStr flex l
  | .bytes l => encByt flex l
  | _ => []

/-- The tagged part of what is written behind the fields: n known tags, their octets, the unknown tags. -/
def encTagsPart (n : Nat) (known : Bs) (t : Tags) : Bs := uvar ((n + t.length) % 4294967296) ++ (known ++ encTagsEach t)

/-- A field with a tag is written only where it says something: as the package tests it. -/
def unusualD : D → Bool
  | .arr _ l => !l.isEmpty
  | .nstr o => o.isSome
  | .uuid l => l.any (· != 0)
  | _ => true

mutual
def encF (flex : Bool) (ver : Int) : Fld → D → Bs
  | .mk k _ _ null _ _ of sub => fun d => match k with
    | .list => match d with
      | .arr nil l =>
        (if null < 0 ∨ ver < null then encLen flex l.length else encNLen flex nil l.length) ++
        (match of with
          | .struct => l.flatMap fun x => match x with
            | .struct ds tags => encL flex ver sub ds ++ (if flex then encTagsPart (encKnown flex ver sub ds).1 (encKnown flex ver sub ds).2 tags else [])
            | _ => []
          | k => l.flatMap (encK k flex))
      | _ => []
    | .struct =>
      let one := fun x => match x with
        | .struct ds tags => encL flex ver sub ds ++ (if flex then encTagsPart (encKnown flex ver sub ds).1 (encKnown flex ver sub ds).2 tags else [])
        | _ => []
      if null < 0 then one d else match d with
        | .ptr x => 1 :: one x
        | _ => [255]
    | .text => if null < 0 then encK .text flex d
      else match d with
        | .nstr o => if ver < null then encStr flex (o.getD []) else encNStr flex o
        | _ => []
    | k => encK k flex d
def encL (flex : Bool) (ver : Int) : List Fld → List D → Bs
  | f :: r, d :: ds => (if decide (f.tag < 0) && f.has ver then encF flex ver f d else []) ++ encL flex ver r ds
  | _, _ => []
/-- The known tags that say something: how many, and their octets. -/
def encKnown (flex : Bool) (ver : Int) : List Fld → List D → Nat × Bs
  | f :: r, d :: ds =>
    let x := encKnown flex ver r ds
    if 0 ≤ f.tag ∧ unusualD d = true then (x.1 + 1, uvar f.tag.toNat ++ (uvar ((encF flex ver f d).length % 4294967296) ++ encF flex ver f d) ++ x.2) else x
  | _, _ => (0, [])
end

/-- A part that is written. -/
def encPart (flex : Bool) (ver : Int) (fs : List Fld) (s : S) : Bs :=
  encL flex ver fs s.ds ++ (if flex then encTagsPart (encKnown flex ver fs s.ds).1 (encKnown flex ver fs s.ds).2 s.tags else [])

end Go.Proofs.Ytkhmglikdlgfpaa

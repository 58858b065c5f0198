/- The reference in plain Lean: what a message's tree says, what is written of it, what can be set of it, what is told of it. -/
import Derived.Test.YtahmkeoedpghjabGreatSxNum
set_option linter.unusedVariables false
set_option linter.unusedSimpArgs false
namespace Go.Sx

/-- What a field says: a number, octets, null, parts or things, unknown tags. -/
inductive Tr where
  | mk (n : Int) (s : List UInt8) (nul : Bool) (l : List Tr) (u : List (Int × List UInt8))
def Tr.n : Tr → Int | .mk n _ _ _ _ => n
def Tr.s : Tr → List UInt8 | .mk _ s _ _ _ => s
def Tr.nul : Tr → Bool | .mk _ _ b _ _ => b
def Tr.l : Tr → List Tr | .mk _ _ _ l _ => l
def Tr.u : Tr → List (Int × List UInt8) | .mk _ _ _ _ u => u
def Tr.none : Tr := .mk 0 [] false [] []
/-- A field's row: kind, versions from and to, null from, tag, default, kind of a list's things, the parts' fields. -/
inductive Fd where
  | mk (kind frm to nul tag df of : Int) (sub : List Fd)
def Fd.kind : Fd → Int | .mk k _ _ _ _ _ _ _ => k
def Fd.frm : Fd → Int | .mk _ x _ _ _ _ _ _ => x
def Fd.to : Fd → Int | .mk _ _ x _ _ _ _ _ => x
def Fd.nul : Fd → Int | .mk _ _ _ x _ _ _ _ => x
def Fd.tag : Fd → Int | .mk _ _ _ _ x _ _ _ => x
def Fd.df : Fd → Int | .mk _ _ _ _ _ x _ _ => x
def Fd.of : Fd → Int | .mk _ _ _ _ _ _ x _ => x
def Fd.sub : Fd → List Fd | .mk _ _ _ _ _ _ _ x => x

def most : Nat := 32767
def whole (s : List UInt8) : List UInt8 := s.take most
def Tr.things (t : Tr) : List Tr := t.l.take most
def Tr.at (t : Tr) (i : Nat) : Tr := (t.l[i]?).getD .none
def Fd.has (f : Fd) (v : Int) : Bool := decide (f.frm ≤ v) && (decide (f.to < 0) || decide (v ≤ f.to))
def Fd.isNul (f : Fd) (v : Int) (t : Tr) : Bool := t.nul && decide (0 ≤ f.nul) && decide (f.nul ≤ v)

/-- A number in groups of seven bits. -/
def uvar (n : Nat) : List UInt8 := if h : n > 127 then UInt8.ofNat (n % 128 + 128) :: uvar (n / 128) else [UInt8.ofNat n]
termination_by n
decreasing_by omega
/-- A number in so many octets, the highest one first. -/
def fixed (n : Int) : Nat → List UInt8
  | 0 => []
  | k + 1 => byte (n / 2 ^ (8 * k)) :: fixed n k
def width (kind : Int) : Nat := if kind = 1 then 1 else if kind = 2 ∨ kind = 5 then 2 else if kind = 3 then 4 else 8
def counted (flex nul : Bool) (n size : Nat) : List UInt8 :=
  if flex && nul then [0] else if flex then uvar (n + 1) else if nul then fixed (-1) size else fixed n size

def known : List Fd → Nat
  | [] => 0
  | f :: r => max (if 0 ≤ f.tag then f.tag.toNat + 1 else 0) (known r)
/-- An unknown tag is put in among the others by its number, if there is none of the same. -/
def insTag (k : Int) (v : List UInt8) : List (Int × List UInt8) → List (Int × List UInt8)
  | [] => [(k, v)]
  | (k', v') :: r => if k' < k then (k', v') :: insTag k v r else if k' = k then (k', v') :: r else (k, v) :: (k', v') :: r
def unknownFrom (least : Int) (acc : List (Int × List UInt8)) : List (Int × List UInt8) → List (Int × List UInt8)
  | [] => acc
  | (k, v) :: r => unknownFrom least (if k < least then acc else insTag k v acc) r
def unknown (fs : List Fd) (us : List (Int × List UInt8)) : List (Int × List UInt8) := unknownFrom (known fs) [] (us.take most)

/-- The octets of one tag: its number, its length, what it says. -/
def tagB (k : Nat) (b : List UInt8) : List UInt8 := uvar k ++ uvar b.length ++ b
/-- What is written of a part, if of each field its octets are known and whether it is as usual. -/
def assemble (fs : List Fd) (v : Int) (flex : Bool) (bs : List (List UInt8 × Bool)) (us : List (Int × List UInt8)) : List UInt8 :=
  let plain := (fs.zip bs).flatMap fun (f, b, _) => if f.tag < 0 && f.has v then b else []
  if !flex then plain else
  let tags := (List.range (known fs)).flatMap fun tag => (fs.zip bs).filterMap fun (f, b, usual) => if f.tag = (tag : Int) && !usual then some (tagB tag b) else none
  let unk := (unknown fs us).map fun (k, b) => tagB k.toNat (whole b)
  plain ++ uvar (tags.length + unk.length) ++ (tags ++ unk).flatten
/-- What is written of a value of a kind; 'part': what is written of a part. -/
def valueB (kind : Int) (part : Tr → List UInt8) (nul : Bool) (flex : Bool) (t : Tr) : List UInt8 :=
  if kind = 0 then [byte (t.n % 2)]
  else if kind = 7 then (t.s.take 16) ++ List.replicate (16 - (t.s.take 16).length) 0
  else if kind = 8 then let s := if nul then [] else whole t.s; counted flex nul s.length 2 ++ s
  else if kind = 9 then let s := if nul then [] else whole t.s; counted flex nul s.length 4 ++ s
  else if kind = 10 then part t
  else fixed t.n (width kind)
def fieldB' (f : Fd) (part : Tr → List UInt8) (v : Int) (flex : Bool) (t : Tr) : List UInt8 :=
  let nul := f.isNul v t
  if f.kind = 11 then
    let l := if nul then [] else t.things
    counted flex nul l.length 4 ++ l.flatMap (valueB f.of part false flex)
  else if f.kind = 10 ∧ 0 ≤ f.nul then (if nul then fixed (-1) 1 else fixed 1 1 ++ part t)
  else valueB f.kind part nul flex t
def usual' (f : Fd) (subUsual : Bool) (t : Tr) : Bool :=
  if f.kind = 0 then decide (t.n % 2 = f.df)
  else if f.kind = 7 then (t.s.take 16).all (· == 0)
  else if f.kind = 8 ∨ f.kind = 9 then (if 0 ≤ f.nul then t.nul else t.s.isEmpty)
  else if f.kind = 11 then t.l.isEmpty
  else if f.kind = 10 then subUsual && (unknown f.sub t.u).isEmpty
  else fixed t.n (width f.kind) == fixed f.df (width f.kind)
mutual
def fieldU : Fd → Tr → Bool
  | .mk kind frm to nul tag df of sub, t => usual' (.mk kind frm to nul tag df of sub) (fieldsU sub 0 t) t
def fieldsU : List Fd → Nat → Tr → Bool
  | [], _, _ => true
  | f :: r, i, t => fieldU f (t.at i) && fieldsU r (i + 1) t
end
mutual
/-- What is written of a field. -/
def fieldB : Fd → Int → Bool → Tr → List UInt8
  | .mk kind frm to nul tag df of sub, v, flex, t => fieldB' (.mk kind frm to nul tag df of sub) (fun x => assemble sub v flex (fieldsB sub v flex 0 x) x.u) v flex t
def fieldsB : List Fd → Int → Bool → Nat → Tr → List (List UInt8 × Bool)
  | [], _, _, _, _ => []
  | f :: r, v, flex, i, t => (fieldB f v flex (t.at i), fieldU f (t.at i)) :: fieldsB r v flex (i + 1) t
end
/-- What is written of a part. -/
def partB (fs : List Fd) (v : Int) (flex : Bool) (t : Tr) : List UInt8 := assemble fs v flex (fieldsB fs v flex 0 t) t.u
theorem fieldB_eq (f : Fd) (v : Int) (flex : Bool) (t : Tr) : fieldB f v flex t = fieldB' f (partB f.sub v flex) v flex t := by
  cases f; rw [fieldB]; rfl
theorem fieldU_eq (f : Fd) (t : Tr) : fieldU f t = usual' f (fieldsU f.sub 0 t) t := by
  cases f; rw [fieldU]; rfl

structure Msg where
  fields : List Fd
  flex : Int
def Msg.flexible (m : Msg) (v : Int) : Bool := decide (0 ≤ m.flex) && decide (m.flex ≤ v)
def Msg.write (m : Msg) (v : Int) (t : Tr) : List UInt8 := partB m.fields v (m.flexible v) t
def Msg.kept (m : Msg) (v : Int) (t : Tr) : List UInt8 := fixed v 2 ++ m.write v t

/-! ### What can be set -/
def fitV (kind : Int) (fit : Tr → Tr) (nul : Bool) (t : Tr) : Tr :=
  if kind = 8 ∨ kind = 9 then .mk 0 (whole t.s) nul [] []
  else if kind = 10 then (match fit t with | .mk n s _ l u => .mk n s nul l u)
  else .mk t.n t.s false [] []
def fitF' (f : Fd) (fit : Tr → Tr) (v : Int) (t : Tr) : Tr :=
  let nul := f.isNul v t
  if f.kind = 11 then .mk 0 [] (nul || (decide (0 ≤ f.tag) && t.l.isEmpty)) (t.things.map (fitV f.of fit false)) []
  else fitV f.kind fit nul t
mutual
def fitF : Fd → Int → Tr → Tr
  | .mk kind frm to nul tag df of sub, v, t => fitF' (.mk kind frm to nul tag df of sub) (fun x => .mk 0 [] false (fitsF sub v 0 x) ((unknown sub x.u).map fun (k, b) => (k, whole b))) v t
def fitsF : List Fd → Int → Nat → Tr → List Tr
  | [], _, _, _ => []
  | f :: r, v, i, t => fitF f v (t.at i) :: fitsF r v (i + 1) t
end
def fit (fs : List Fd) (v : Int) (t : Tr) : Tr := .mk 0 [] false (fitsF fs v 0 t) ((unknown fs t.u).map fun (k, b) => (k, whole b))
theorem fitF_eq (f : Fd) (v : Int) (t : Tr) : fitF f v t = fitF' f (fit f.sub v) v t := by
  cases f; rw [fitF]; rfl
end Go.Sx

import Derived.Test.YtpcgaheplmiglaaGreatLibA
set_option linter.unusedVariables false
set_option linter.unusedSimpArgs false
/- The reference in plain Lean: what a message's tree says, what is written of it, what can be set of it, what is told of it. -/
namespace Go.Sx

/-- What a field says: a number, octets, null, parts or things, unknown tags. -/
inductive Tr where
  | mk (n : Int) (s : List UInt8) (nul : Bool) (l : List Tr) (u : List (Int × List UInt8))
def Tr.n : Tr → Int | .mk n _ _ _ _ => n
def Tr.s : Tr → List UInt8 | .mk _ s _ _ _ => s
def Tr.nul : Tr → Bool | .mk _ _ b _ _ => b
def Tr.l : Tr → List Tr | .mk _ _ _ l _ => l
def Tr.u : Tr → List (Int × List UInt8) | .mk _ _ _ _ u => u
def Tr.none : Tr := .mk 0 [] false [] []
/-- A field's row: kind, versions from and to, null from, tag, default, kind of a list's things, the parts' fields. -/
inductive Fd where
  | mk (kind frm to nul tag df of : Int) (sub : List Fd)
def Fd.kind : Fd → Int | .mk k _ _ _ _ _ _ _ => k
def Fd.frm : Fd → Int | .mk _ x _ _ _ _ _ _ => x
def Fd.to : Fd → Int | .mk _ _ x _ _ _ _ _ => x
def Fd.nul : Fd → Int | .mk _ _ _ x _ _ _ _ => x
def Fd.tag : Fd → Int | .mk _ _ _ _ x _ _ _ => x
def Fd.df : Fd → Int | .mk _ _ _ _ _ x _ _ => x
def Fd.of : Fd → Int | .mk _ _ _ _ _ _ x _ => x
def Fd.sub : Fd → List Fd | .mk _ _ _ _ _ _ _ x => x

def most : Nat := 32767
def whole (s : List UInt8) : List UInt8 := s.take most
def Tr.things (t : Tr) : List Tr := t.l.take most
def Tr.at (t : Tr) (i : Nat) : Tr := (t.l[i]?).getD .none
def Fd.has (f : Fd) (v : Int) : Bool := decide (f.frm ≤ v) && (decide (f.to < 0) || decide (v ≤ f.to))
def Fd.isNul (f : Fd) (v : Int) (t : Tr) : Bool := t.nul && decide (0 ≤ f.nul) && decide (f.nul ≤ v)

/-- A number in groups of seven bits. -/
def uvar (n : Nat) : List UInt8 := if h : n > 127 then UInt8.ofNat (n % 128 + 128) :: uvar (n / 128) else [UInt8.ofNat n]
termination_by n
decreasing_by omega
/-- A number in so many octets, the highest one first. -/
def fixed (n : Int) : Nat → List UInt8
  | 0 => []
  | k + 1 => byte (n / 2 ^ (8 * k)) :: fixed n k
def width (kind : Int) : Nat := if kind = 1 then 1 else if kind = 2 ∨ kind = 5 then 2 else if kind = 3 then 4 else 8
def counted (flex nul : Bool) (n size : Nat) : List UInt8 :=
  if flex && nul then [0] else if flex then uvar (n + 1) else if nul then fixed (-1) size else fixed n size

def known : List Fd → Nat
  | [] => 0
  | f :: r => max (if 0 ≤ f.tag then f.tag.toNat + 1 else 0) (known r)
/-- An unknown tag is put in among the others by its number, if there is none of the same. -/
def insTag (k : Int) (v : List UInt8) : List (Int × List UInt8) → List (Int × List UInt8)
  | [] => [(k, v)]
  | (k', v') :: r => if k' < k then (k', v') :: insTag k v r else if k' = k then (k', v') :: r else (k, v) :: (k', v') :: r
def unknownFrom (least : Int) (acc : List (Int × List UInt8)) : List (Int × List UInt8) → List (Int × List UInt8)
  | [] => acc
  | (k, v) :: r => unknownFrom least (if k < least then acc else insTag k v acc) r
def unknown (fs : List Fd) (us : List (Int × List UInt8)) : List (Int × List UInt8) := unknownFrom (known fs) [] (us.take most)

/-- The octets of one tag: its number, its length, what it says. -/
def tagB (k : Nat) (b : List UInt8) : List UInt8 := uvar k ++ uvar b.length ++ b
/-- What is written of a part, if of each field its octets are known and whether it is as usual. -/
def assemble (fs : List Fd) (v : Int) (flex : Bool) (bs : List (List UInt8 × Bool)) (us : List (Int × List UInt8)) : List UInt8 :=
  let plain := (fs.zip bs).flatMap fun (f, b, _) => if f.tag < 0 && f.has v then b else []
  if !flex then plain else
  let tags := (List.range (known fs)).flatMap fun tag => (fs.zip bs).filterMap fun (f, b, usual) => if f.tag = (tag : Int) && !usual then some (tagB tag b) else none
  let unk := (unknown fs us).map fun (k, b) => tagB k.toNat (whole b)
  plain ++ uvar (tags.length + unk.length) ++ (tags ++ unk).flatten
/-- What is written of a value of a kind; 'part': what is written of a part. -/
def valueB (kind : Int) (part : Tr → List UInt8) (nul : Bool) (flex : Bool) (t : Tr) : List UInt8 :=
  if kind = 0 then [byte (t.n % 2)]
  else if kind = 7 then (t.s.take 16) ++ List.replicate (16 - (t.s.take 16).length) 0
  else if kind = 8 then let s := if nul then [] else whole t.s; counted flex nul s.length 2 ++ s
  else if kind = 9 then let s := if nul then [] else whole t.s; counted flex nul s.length 4 ++ s
  else if kind = 10 then part t
  else fixed t.n (width kind)
def fieldB' (f : Fd) (part : Tr → List UInt8) (v : Int) (flex : Bool) (t : Tr) : List UInt8 :=
  let nul := f.isNul v t
  if f.kind = 11 then
    let l := if nul then [] else t.things
    counted flex nul l.length 4 ++ l.flatMap (valueB f.of part false flex)
  else if f.kind = 10 ∧ 0 ≤ f.nul then (if nul then fixed (-1) 1 else fixed 1 1 ++ part t)
  else valueB f.kind part nul flex t
def usual' (f : Fd) (subUsual : Bool) (t : Tr) : Bool :=
  if f.kind = 0 then decide (t.n % 2 = f.df)
  else if f.kind = 7 then (t.s.take 16).all (· == 0)
  else if f.kind = 8 ∨ f.kind = 9 then (if 0 ≤ f.nul then t.nul else t.s.isEmpty)
  else if f.kind = 11 then t.l.isEmpty
  else if f.kind = 10 then subUsual && (unknown f.sub t.u).isEmpty
  else fixed t.n (width f.kind) == fixed f.df (width f.kind)
mutual
def fieldU : Fd → Tr → Bool
  | .mk kind frm to nul tag df of sub, t => usual' (.mk kind frm to nul tag df of sub) (fieldsU sub 0 t) t
def fieldsU : List Fd → Nat → Tr → Bool
  | [], _, _ => true
  | f :: r, i, t => fieldU f (t.at i) && fieldsU r (i + 1) t
end
mutual
/-- What is written of a field. -/
def fieldB : Fd → Int → Bool → Tr → List UInt8
  | .mk kind frm to nul tag df of sub, v, flex, t => fieldB' (.mk kind frm to nul tag df of sub) (fun x => assemble sub v flex (fieldsB sub v flex 0 x) x.u) v flex t
def fieldsB : List Fd → Int → Bool → Nat → Tr → List (List UInt8 × Bool)
  | [], _, _, _, _ => []
  | f :: r, v, flex, i, t => (fieldB f v flex (t.at i), fieldU f (t.at i)) :: fieldsB r v flex (i + 1) t
end
/-- What is written of a part. -/
def partB (fs : List Fd) (v : Int) (flex : Bool) (t : Tr) : List UInt8 := assemble fs v flex (fieldsB fs v flex 0 t) t.u
theorem fieldB_eq (f : Fd) (v : Int) (flex : Bool) (t : Tr) : fieldB f v flex t = fieldB' f (partB f.sub v flex) v flex t := by
  cases f; rw [fieldB]; rfl
theorem fieldU_eq (f : Fd) (t : Tr) : fieldU f t = usual' f (fieldsU f.sub 0 t) t := by
  cases f; rw [fieldU]; rfl

structure Msg where
  fields : List Fd
  flex : Int
def Msg.flexible (m : Msg) (v : Int) : Bool := decide (0 ≤ m.flex) && decide (m.flex ≤ v)
def Msg.write (m : Msg) (v : Int) (t : Tr) : List UInt8 := partB m.fields v (m.flexible v) t
def Msg.kept (m : Msg) (v : Int) (t : Tr) : List UInt8 := fixed v 2 ++ m.write v t

/-! ### What can be set -/
def fitV (kind : Int) (fit : Tr → Tr) (nul : Bool) (t : Tr) : Tr :=
  if kind = 8 ∨ kind = 9 then .mk 0 (whole t.s) nul [] []
  else if kind = 10 then (match fit t with | .mk n s _ l u => .mk n s nul l u)
  else .mk t.n t.s false [] []
def fitF' (f : Fd) (fit : Tr → Tr) (v : Int) (t : Tr) : Tr :=
  let nul := f.isNul v t
  if f.kind = 11 then .mk 0 [] (nul || (decide (0 ≤ f.tag) && t.l.isEmpty)) (t.things.map (fitV f.of fit false)) []
  else fitV f.kind fit nul t
mutual
def fitF : Fd → Int → Tr → Tr
  | .mk kind frm to nul tag df of sub, v, t => fitF' (.mk kind frm to nul tag df of sub) (fun x => .mk 0 [] false (fitsF sub v 0 x) ((unknown sub x.u).map fun (k, b) => (k, whole b))) v t
def fitsF : List Fd → Int → Nat → Tr → List Tr
  | [], _, _, _ => []
  | f :: r, v, i, t => fitF f v (t.at i) :: fitsF r v (i + 1) t
end
def fit (fs : List Fd) (v : Int) (t : Tr) : Tr := .mk 0 [] false (fitsF fs v 0 t) ((unknown fs t.u).map fun (k, b) => (k, whole b))
theorem fitF_eq (f : Fd) (v : Int) (t : Tr) : fitF f v t = fitF' f (fit f.sub v) v t := by
  cases f; rw [fitF]; rfl
end Go.Sx
/- How trees, tags and fields' rows lie in frozen memory. -/
namespace Go.Sx

def B47 : Nat := 140737488355328
/-- Octets behind a slice's address. -/
structure BytesAt (H : Fz) (a : Option Addr) (c : Nat) (s : List UInt8) : Prop where
  at_ : s ≠ [] → ∃ b o, a = some ⟨b, o, none⟩ ∧ H.at b o (bytesOf s)
  cap : s.length ≤ c
  big : s.length ≤ B47
theorem BytesAt.mono {H H' : Fz} {a : Option Addr} {c : Nat} {s : List UInt8} (h : BytesAt H a c s) (hle : H.le H') : BytesAt H' a c s :=
  ⟨fun hs => let ⟨b, o, h1, h2⟩ := h.at_ hs; ⟨b, o, h1, h2.mono hle⟩, h.cap, h.big⟩
theorem BytesAt.nil (H : Fz) : BytesAt H none 0 [] := ⟨fun h => absurd rfl h, by simp, by simp [B47]⟩
theorem bytesOf_take (s : List UInt8) (k : Nat) : bytesOf (s.take k) = (bytesOf s).take k := by simp [bytesOf, List.map_take]
theorem Fz.at.take {H : Fz} {b o : Nat} {vs : List Value} (h : H.at b o vs) (k : Nat) : H.at b o (vs.take k) := by
  obtain ⟨cs, e, fr, h1, h2⟩ := h
  refine ⟨cs, e, fr, h1, fun j v hj => h2 j v ?_⟩
  rw [List.getElem?_take] at hj
  split at hj
  · exact hj
  · cases hj
theorem BytesAt.take {H : Fz} {a : Option Addr} {c : Nat} {s : List UInt8} (h : BytesAt H a c s) (k : Nat) : BytesAt H a c (s.take k) := by
  refine ⟨fun hs => ?_, by have := h.cap; simp; omega, by have := h.big; simp; omega⟩
  have hs' : s ≠ [] := by rintro rfl; simp at hs
  obtain ⟨b, o, h1, h2⟩ := h.at_ hs'
  exact ⟨b, o, h1, by rw [bytesOf_take]; exact h2.take k⟩

/-- One unknown tag. -/
structure GC where
  a : Option Addr
  c : Nat
def GC.cells (g : GC) (x : Int × List UInt8) : List Value := [.int .u32 x.1, .slice g.a x.2.length g.c]
structure TagAt (H : Fz) (g : GC) (x : Int × List UInt8) : Prop where
  val : BytesAt H g.a g.c x.2
  lo : 0 ≤ x.1
  hi : x.1 < 4294967296
theorem TagAt.mono {H H' : Fz} {g : GC} {x : Int × List UInt8} (h : TagAt H g x) (hle : H.le H') : TagAt H' g x := ⟨h.val.mono hle, h.lo, h.hi⟩
structure TagsAt (H : Fz) (a : Option Addr) (c : Nat) (u : List (Int × List UInt8)) : Prop where
  at_ : u ≠ [] → ∃ b o, a = some ⟨b, o, none⟩ ∧ ∀ i (hi : i < u.length), ∃ g : GC, H.at b (o + i * 2) (g.cells u[i]) ∧ TagAt H g u[i]
  cap : u.length ≤ c
  big : u.length * 32 ≤ B47
theorem TagsAt.mono {H H' : Fz} {a : Option Addr} {c : Nat} {u : List (Int × List UInt8)} (h : TagsAt H a c u) (hle : H.le H') : TagsAt H' a c u :=
  ⟨fun hs => let ⟨b, o, h1, h2⟩ := h.at_ hs; ⟨b, o, h1, fun i hi => let ⟨g, h3, h4⟩ := h2 i hi; ⟨g, h3.mono hle, h4.mono hle⟩⟩, h.cap, h.big⟩
theorem TagsAt.nil (H : Fz) : TagsAt H none 0 [] := ⟨fun h => absurd rfl h, by simp, by simp [B47]⟩
theorem TagsAt.take {H : Fz} {a : Option Addr} {c : Nat} {u : List (Int × List UInt8)} (h : TagsAt H a c u) (k : Nat) : TagsAt H a c (u.take k) := by
  refine ⟨fun hs => ?_, by have := h.cap; simp; omega, by have := h.big; simp; omega⟩
  have hs' : u ≠ [] := by rintro rfl; simp at hs
  obtain ⟨b, o, h1, h2⟩ := h.at_ hs'
  refine ⟨b, o, h1, fun i hi => ?_⟩
  have hi' : i < u.length := by simp at hi; omega
  obtain ⟨g, h3, h4⟩ := h2 i hi'
  exact ⟨g, by simpa using h3, by simpa using h4⟩

/-- A tree's cells. -/
structure TC where
  sa : Option Addr
  sc : Nat
  la : Option Addr
  lc : Nat
  ua : Option Addr
  uc : Nat
def TC.cells (c : TC) (t : Tr) : List Value := [.int .i64 t.n, .slice c.sa t.s.length c.sc, .bool t.nul, .slice c.la t.l.length c.lc, .slice c.ua t.u.length c.uc]
inductive TreeAt (H : Fz) : TC → Tr → Prop
  | mk (c : TC) (t : Tr) (hs : BytesAt H c.sa c.sc t.s) (hu : TagsAt H c.ua c.uc t.u) (hc : t.l.length ≤ c.lc) (hb : t.l.length * 88 ≤ B47) (b o : Nat) (ec : Nat → TC)
      (ha : t.l ≠ [] → c.la = some ⟨b, o, none⟩) (hat : ∀ i (hi : i < t.l.length), H.at b (o + i * 5) ((ec i).cells t.l[i])) (hrec : ∀ i (hi : i < t.l.length), TreeAt H (ec i) t.l[i]) : TreeAt H c t
theorem TreeAt.s {H : Fz} {c : TC} {t : Tr} (h : TreeAt H c t) : BytesAt H c.sa c.sc t.s := by cases h; assumption
theorem TreeAt.u {H : Fz} {c : TC} {t : Tr} (h : TreeAt H c t) : TagsAt H c.ua c.uc t.u := by cases h; assumption
/-- A list of trees behind a slice's address. -/
structure TreesAt (H : Fz) (a : Option Addr) (c : Nat) (l : List Tr) : Prop where
  at_ : l ≠ [] → ∃ b o, a = some ⟨b, o, none⟩ ∧ ∀ i (hi : i < l.length), ∃ e : TC, H.at b (o + i * 5) (e.cells l[i]) ∧ TreeAt H e l[i]
  cap : l.length ≤ c
  big : l.length * 88 ≤ B47
theorem TreeAt.l {H : Fz} {c : TC} {t : Tr} (h : TreeAt H c t) : TreesAt H c.la c.lc t.l := by
  cases h with
  | mk _ _ hs hu hc hb b o ec ha hat hrec => exact ⟨fun hl => ⟨b, o, ha hl, fun i hi => ⟨ec i, hat i hi, hrec i hi⟩⟩, hc, hb⟩
theorem TreeAt.of {H : Fz} {c : TC} {t : Tr} (hs : BytesAt H c.sa c.sc t.s) (hl : TreesAt H c.la c.lc t.l) (hu : TagsAt H c.ua c.uc t.u) : TreeAt H c t := by
  by_cases h0 : t.l = []
  · exact .mk c t hs hu hl.cap hl.big 0 0 (fun _ => ⟨none, 0, none, 0, none, 0⟩) (fun h => absurd h0 h) (fun i hi => by simp [h0] at hi) (fun i hi => by simp [h0] at hi)
  · obtain ⟨b, o, h1, h2⟩ := hl.at_ h0
    classical
    have hne : ∀ i, ∃ e : TC, ∀ hi : i < t.l.length, H.at b (o + i * 5) (e.cells t.l[i]) ∧ TreeAt H e t.l[i] := fun i => by
      by_cases hi : i < t.l.length
      · obtain ⟨e, h3⟩ := h2 i hi; exact ⟨e, fun _ => h3⟩
      · exact ⟨⟨none, 0, none, 0, none, 0⟩, fun h => absurd h hi⟩
    exact .mk c t hs hu hl.cap hl.big b o (fun i => Classical.choose (hne i)) (fun _ => h1) (fun i hi => (Classical.choose_spec (hne i) hi).1) (fun i hi => (Classical.choose_spec (hne i) hi).2)
theorem TreeAt.mono {H H' : Fz} {c : TC} {t : Tr} (h : TreeAt H c t) (hle : H.le H') : TreeAt H' c t := by
  induction h with
  | mk c t hs hu hc hb b o ec ha hat _ ih => exact .mk c t (hs.mono hle) (hu.mono hle) hc hb b o ec ha (fun i hi => (hat i hi).mono hle) (fun i hi => ih i hi)
theorem TreesAt.mono {H H' : Fz} {a : Option Addr} {c : Nat} {l : List Tr} (h : TreesAt H a c l) (hle : H.le H') : TreesAt H' a c l :=
  ⟨fun hs => let ⟨b, o, h1, h2⟩ := h.at_ hs; ⟨b, o, h1, fun i hi => let ⟨g, h3, h4⟩ := h2 i hi; ⟨g, h3.mono hle, h4.mono hle⟩⟩, h.cap, h.big⟩
theorem TreesAt.take {H : Fz} {a : Option Addr} {c : Nat} {u : List Tr} (h : TreesAt H a c u) (k : Nat) : TreesAt H a c (u.take k) := by
  refine ⟨fun hs => ?_, by have := h.cap; simp; omega, by have := h.big; simp; omega⟩
  have hs' : u ≠ [] := by rintro rfl; simp at hs
  obtain ⟨b, o, h1, h2⟩ := h.at_ hs'
  refine ⟨b, o, h1, fun i hi => ?_⟩
  have hi' : i < u.length := by simp at hi; omega
  obtain ⟨g, h3, h4⟩ := h2 i hi'
  exact ⟨g, by simpa using h3, by simpa using h4⟩
theorem TreesAt.nil (H : Fz) : TreesAt H none 0 [] := ⟨fun h => absurd rfl h, by simp, by simp [B47]⟩
def TC.none : TC := ⟨Option.none, 0, Option.none, 0, Option.none, 0⟩
theorem TreeAt.none (H : Fz) : TreeAt H .none .none := .of (.nil H) (.nil H) (.nil H)

/-- A field's row in memory. -/
structure FC where
  sa : Option Addr
  sc : Nat
def FC.cells (c : FC) (f : Fd) : List Value := [.int .i64 f.kind, .int .i64 f.frm, .int .i64 f.to, .int .i64 f.nul, .int .i64 f.tag, .int .i64 f.df, .int .i64 f.of, .slice c.sa f.sub.length c.sc]
inductive FdAt (H : Fz) : FC → Fd → Prop
  | mk (c : FC) (f : Fd) (hc : f.sub.length ≤ 1000) (ht : f.tag ≤ 1000 ∧ f.of ≠ 11) (b o : Nat) (ec : Nat → FC)
      (ha : f.sub ≠ [] → c.sa = some ⟨b, o, none⟩) (hat : ∀ i (hi : i < f.sub.length), H.at b (o + i * 8) ((ec i).cells f.sub[i])) (hrec : ∀ i (hi : i < f.sub.length), FdAt H (ec i) f.sub[i]) : FdAt H c f
structure FdsAt (H : Fz) (a : Option Addr) (l : List Fd) : Prop where
  at_ : l ≠ [] → ∃ b o, a = some ⟨b, o, none⟩ ∧ ∀ i (hi : i < l.length), ∃ e : FC, H.at b (o + i * 8) (e.cells l[i]) ∧ FdAt H e l[i]
  few : l.length ≤ 1000
theorem FdAt.sub {H : Fz} {c : FC} {f : Fd} (h : FdAt H c f) : FdsAt H c.sa f.sub := by
  cases h with
  | mk _ _ hc ht b o ec ha hat hrec => exact ⟨fun hl => ⟨b, o, ha hl, fun i hi => ⟨ec i, hat i hi, hrec i hi⟩⟩, hc⟩
theorem FdAt.tag {H : Fz} {c : FC} {f : Fd} (h : FdAt H c f) : f.tag ≤ 1000 ∧ f.of ≠ 11 := by cases h; assumption
theorem FdAt.of {H : Fz} {c : FC} {f : Fd} (ht : f.tag ≤ 1000 ∧ f.of ≠ 11) (h : FdsAt H c.sa f.sub) : FdAt H c f := by
  by_cases h0 : f.sub = []
  · exact .mk c f h.few ht 0 0 (fun _ => ⟨none, 0⟩) (fun h => absurd h0 h) (fun i hi => by simp [h0] at hi) (fun i hi => by simp [h0] at hi)
  · obtain ⟨b, o, h1, h2⟩ := h.at_ h0
    classical
    have hne : ∀ i, ∃ e : FC, ∀ hi : i < f.sub.length, H.at b (o + i * 8) (e.cells f.sub[i]) ∧ FdAt H e f.sub[i] := fun i => by
      by_cases hi : i < f.sub.length
      · obtain ⟨e, h3⟩ := h2 i hi; exact ⟨e, fun _ => h3⟩
      · exact ⟨⟨none, 0⟩, fun h => absurd h hi⟩
    exact .mk c f h.few ht b o (fun i => Classical.choose (hne i)) (fun _ => h1) (fun i hi => (Classical.choose_spec (hne i) hi).1) (fun i hi => (Classical.choose_spec (hne i) hi).2)
theorem FdAt.mono {H H' : Fz} {c : FC} {f : Fd} (h : FdAt H c f) (hle : H.le H') : FdAt H' c f := by
  induction h with
  | mk c f hc ht b o ec ha hat _ ih => exact .mk c f hc ht b o ec ha (fun i hi => (hat i hi).mono hle) (fun i hi => ih i hi)
theorem FdsAt.mono {H H' : Fz} {a : Option Addr} {l : List Fd} (h : FdsAt H a l) (hle : H.le H') : FdsAt H' a l :=
  ⟨fun hs => let ⟨b, o, h1, h2⟩ := h.at_ hs; ⟨b, o, h1, fun i hi => let ⟨g, h3, h4⟩ := h2 i hi; ⟨g, h3.mono hle, h4.mono hle⟩⟩, h.few⟩
theorem FdsAt.nil (H : Fz) : FdsAt H none [] := ⟨fun h => absurd rfl h, by simp⟩

theorem Tr.at_lt {t : Tr} {i : Nat} (h : i < t.l.length) : t.at i = t.l[i] := by simp [Tr.at, h]
theorem Tr.at_ge {t : Tr} {i : Nat} (h : ¬ i < t.l.length) : t.at i = .none := by simp [Tr.at, List.getElem?_eq_none (by omega : t.l.length ≤ i)]
theorem ne_nil_of_lt {α : Type} {l : List α} {i : Nat} (h : i < l.length) : l ≠ [] := by rintro rfl; simp at h
theorem TreesAt.len {H : Fz} {a : Option Addr} {c : Nat} {l : List Tr} (h : TreesAt H a c l) : l.length ≤ 1599289640764 := by
  have h1 := h.cap; have h2 := h.big; unfold B47 at h2; omega
theorem TagsAt.len {H : Fz} {a : Option Addr} {c : Nat} {l : List (Int × List UInt8)} (h : TagsAt H a c l) : l.length ≤ 4398046511104 := by
  have h1 := h.cap; have h2 := h.big; unfold B47 at h2; omega
theorem BytesAt.len {H : Fz} {a : Option Addr} {c : Nat} {l : List UInt8} (h : BytesAt H a c l) : l.length ≤ 140737488355328 := by
  have h1 := h.cap; have h2 := h.big; unfold B47 at h2; omega
section
variable {P : Program} {ops : Array Oper} {Q : Exit → Act → World → Prop} {rest : List Oper} {n : Nat} {l : Env} {H : Fz} {L : Own}
variable {d ty : Nat} {pos : String} {af : Array Edge}
theorem src_bytes {tx e' m c c' : Nat} {a : Option Addr} {s : List UInt8} (hk : P.underlying tx = some (.slice e')) (h : BytesAt H a c s) (hm : m = s.length) : ∀ w, Hp H L w → Src P 1 tx (.slice a m c') m (bytesOf s) w := by
  intro w hw
  subst hm
  by_cases hs : s = []
  · subst hs
    cases a with
    | none => exact Src.ofNil w hk c'
    | some ad => exact Src.ofSlice w hk ad 0 c' [] (by simp) (fun j u hu => by simp at hu) (fun u hu => by cases hu)
  · obtain ⟨b, o, rfl, h2⟩ := h.at_ hs
    exact src_says hk (by simp [bytesOf]) (fun _ => Says.fz h2) (bytesOf_one s) w hw
theorem cbS {S D e m c c' : Nat} {a : Option Addr} {x : Operand} {s : List UInt8} (hs : P.underlying S = some (.slice e)) (he : P.underlying e = some (.int .u8)) (hd : P.underlying D = some .string) (hx : get l x = some (.slice a m c')) (h : BytesAt H a c s) (hm : m = s.length) (hn : Nat.blt d n = true) (hk : WL P ops Q rest n ((d, .string ⟨s.toArray⟩) :: l) H L) : WL P ops Q (⟨some d, .convert S D x, ty, pos, af, none⟩ :: rest) n l H L := by
  subst hm
  by_cases h0 : s = []
  · subst h0
    cases a with
    | none => exact cbn hs he hd hx hn hk
    | some ad =>
      refine WL.vq rfl rfl hn (fun a w hA hw => ?_) hk
      have h1 : (convert S D (.slice (some ad) 0 c')).run P w = .ok (.string ⟨#[]⟩) w := by
        rw [run_convert_bytes_string w S D e _ 0 c' hs he hd]
        simp [Conv.bytesToString, loadCells, loadCellsFrom]
        rfl
      simp only [List.length_nil] at hx
      simp [execOp, hA.get hx, h1]
  · obtain ⟨b, o, rfl, h2⟩ := h.at_ h0
    exact cbs hs he hd hx rfl (fun _ => Says.fz h2) hn hk
end
end Go.Sx
/- Plain laws on the reference. -/
namespace Go.Sx
theorem known_append (a b : List Fd) : known (a ++ b) = max (known a) (known b) := by
  induction a with
  | nil => simp [known]
  | cons f a ih => simp only [List.cons_append, known, ih]; omega
theorem known_take (fs : List Fd) (k : Nat) (hk : k < fs.length) : known (fs.take (k + 1)) = max (known (fs.take k)) (if 0 ≤ fs[k].tag then fs[k].tag.toNat + 1 else 0) := by
  rw [List.take_succ_eq_append_getElem hk, known_append]
  simp [known]
theorem whole_len (s : List UInt8) : (whole s).length = min s.length 32767 := by simp [whole, most]; omega
theorem take_most_len {α : Type} (s : List α) : (s.take most).length = min s.length 32767 := by simp [most]; omega
theorem min_int (n : Nat) : (if (32767 : Int) < (n : Int) then 32767 else (n : Int)) = ((min n 32767 : Nat) : Int) := by
  split <;> omega
end Go.Sx

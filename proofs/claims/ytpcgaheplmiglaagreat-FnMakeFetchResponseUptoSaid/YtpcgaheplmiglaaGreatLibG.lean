import Derived.Test.YtpcgaheplmiglaaGreatMkL
import Derived.ScopeJumps
set_option linter.unusedVariables false
set_option linter.unusedSimpArgs false
/- Reading in plain Lean: what is read of octets. -/
namespace Go.Sx
/-- What a reader has left, whether it ran out, and that its slice is not nil. -/
structure Rd where
  s : List UInt8
  bad : Bool
  nn : Bool
def Rd.out : Rd := ⟨[], true, false⟩
def beN (l : List UInt8) : Nat := l.foldl (fun a b => a * 256 + b.toNat) 0
/-- So many octets, the highest one first. -/
def rN (w : Nat) (r : Rd) : Nat × Rd := if r.s.length < w then (0, .out) else (beN (r.s.take w), ⟨r.s.drop w, r.bad, true⟩)
/-- A number in groups of seven bits, of at most five octets: its value, how many octets. -/
def uvR : List UInt8 → Option (Nat × Nat)
  | [] => none
  | b0 :: r0 =>
    if b0.toNat < 128 then some (b0.toNat, 1) else match r0 with
    | [] => none
    | b1 :: r1 =>
      if b1.toNat < 128 then some (b0.toNat % 128 + b1.toNat * 128, 2) else match r1 with
      | [] => none
      | b2 :: r2 =>
        if b2.toNat < 128 then some (b0.toNat % 128 + b1.toNat % 128 * 128 + b2.toNat * 16384, 3) else match r2 with
        | [] => none
        | b3 :: r3 =>
          if b3.toNat < 128 then some (b0.toNat % 128 + b1.toNat % 128 * 128 + b2.toNat % 128 * 16384 + b3.toNat * 2097152, 4) else match r3 with
          | [] => none
          | b4 :: _ => if b4.toNat < 16 then some (b0.toNat % 128 + b1.toNat % 128 * 128 + b2.toNat % 128 * 16384 + b3.toNat % 128 * 2097152 + b4.toNat * 268435456, 5) else none
def rU (r : Rd) : Nat × Rd := match uvR r.s with
  | none => (0, .out)
  | some (x, n) => (x, ⟨r.s.drop n, r.bad, true⟩)
/-- So many octets as they are, and whether they are nil. -/
def rSpan (l : Int) (r : Rd) : (List UInt8 × Bool) × Rd :=
  if (r.s.length : Int) < l ∨ l < 0 then (([], true), .out) else ((r.s.take l.toNat, !r.nn), ⟨r.s.drop l.toNat, r.bad, r.nn⟩)
/-- A length: of flexible ones one more than it is. -/
def rLen (flex : Bool) (w : Nat) (r : Rd) : Int × Rd :=
  if flex then let x := rU r; ((x.1 : Int) - 1, x.2) else let x := rN w r; (if w = 2 then IntKind.i16.wrap x.1 else IntKind.i32.wrap x.1, x.2)
def rArr (flex : Bool) (r : Rd) : Int × Rd :=
  let x : Int × Rd := if flex then let x := rU r; (IntKind.i32.wrap (IntKind.i32.wrap x.1 - 1), x.2) else let x := rN 4 r; (IntKind.i32.wrap x.1, x.2)
  if (x.2.s.length : Int) < x.1 then (0, .out) else x
def rMany (f : Rd → Tr × Rd) : Nat → Rd → List Tr × Rd
  | 0, r => ([], r)
  | n + 1, r => let x := f r; let y := rMany f n x.2; (x.1 :: y.1, y.2)
/-- A tag is set: it takes the place of an elder one of its number. -/
def setTag (k : Int) (v : List UInt8) : List (Int × List UInt8) → List (Int × List UInt8)
  | [] => [(k, v)]
  | (k', v') :: r => if k' < k then (k', v') :: setTag k v r else if k' = k then (k, v) :: r else (k, v) :: (k', v') :: r
def rTagsN : Nat → List (Int × List UInt8) → Rd → List (Int × List UInt8) × Rd
  | 0, acc, r => (acc, r)
  | n + 1, acc, r => let k := rU r; let z := rU k.2; let b := rSpan z.1 z.2; rTagsN n (setTag k.1 b.1.1 acc) b.2
def rTags (r : Rd) : List (Int × List UInt8) × Rd := let n := rU r; rTagsN n.1 [] n.2
/-- A value of a kind. -/
def decV (kind : Int) (part : Rd → Tr × Rd) (nul : Bool) (flex : Bool) (r : Rd) : Tr × Rd :=
  if kind = 0 then let x := rN 1 r; (.mk (if x.1 = 0 then 0 else 1) [] false [] [], x.2)
  else if kind = 7 then let x := rSpan 16 r; (.mk 0 (pad16 x.1.1) false [] [], x.2)
  else if kind = 8 then
    let l := rLen flex 2 r
    if nul && decide (l.1 < 0) then (.mk 0 [] true [] [], l.2) else let x := rSpan l.1 l.2; (.mk 0 x.1.1 false [] [], x.2)
  else if kind = 9 then
    let l := rLen flex 4 r
    if nul then (if l.1 < 0 then (.mk 0 [] true [] [], l.2) else let x := rSpan l.1 l.2; (.mk 0 x.1.1 x.1.2 [] [], x.2))
    else if l.1 = -1 then (.mk 0 [] false [] [], l.2) else let x := rSpan l.1 l.2; (.mk 0 x.1.1 x.1.2 [] [], x.2)
  else if kind = 10 then part r
  else if kind = 1 then let x := rN 1 r; (.mk (IntKind.i8.wrap x.1) [] false [] [], x.2)
  else if kind = 2 then let x := rN 2 r; (.mk (IntKind.i16.wrap x.1) [] false [] [], x.2)
  else if kind = 3 then let x := rN 4 r; (.mk (IntKind.i32.wrap x.1) [] false [] [], x.2)
  else if kind = 5 then let x := rN 2 r; (.mk x.1 [] false [] [], x.2)
  else let x := rN 8 r; (.mk (IntKind.i64.wrap x.1) [] false [] [], x.2)
def decF' (f : Fd) (part : Rd → Tr × Rd) (v : Int) (flex : Bool) (r : Rd) : Tr × Rd :=
  if f.kind = 11 then
    let l := rArr flex r
    let nul := if 0 ≤ f.nul ∧ (v < f.nul ∨ l.1 = 0) then false else decide (l.1 ≤ 0)
    let x := rMany (decV f.of part false flex) l.1.toNat l.2
    (.mk 0 [] nul x.1 [], x.2)
  else decV f.kind part (decide (0 ≤ f.nul) && decide (f.nul ≤ v)) flex r
def dflF' (f : Fd) (l : List Tr) : Tr :=
  if f.kind = 7 then .mk 0 (List.replicate 16 0) false [] []
  else if f.kind = 8 then .mk 0 [] (decide (0 ≤ f.nul)) [] []
  else if f.kind = 9 ∨ f.kind = 11 then .mk 0 [] true [] []
  else if f.kind = 10 then .mk 0 [] false l []
  else .mk f.df [] false [] []
mutual
def dflF : Fd → Tr
  | .mk kind frm to nul tag df of sub => dflF' (.mk kind frm to nul tag df of sub) (dflFs sub)
def dflFs : List Fd → List Tr
  | [] => []
  | f :: r => dflF f :: dflFs r
end
mutual
def decF : Fd → Int → Bool → Rd → Tr × Rd
  | .mk kind frm to nul tag df of sub, v, flex, r => decF' (.mk kind frm to nul tag df of sub) (fun r => let x := decFs sub v flex r; let u := if flex then rTags x.2 else ([], x.2); (.mk 0 [] false x.1 u.1, u.2)) v flex r
def decFs : List Fd → Int → Bool → Rd → List Tr × Rd
  | [], _, _, r => ([], r)
  | f :: rest, v, flex, r =>
    let x := if f.tag < 0 && f.has v then decF f v flex r else (dflF f, r)
    let y := decFs rest v flex x.2
    (x.1 :: y.1, y.2)
end
def decP (fs : List Fd) (v : Int) (flex : Bool) (r : Rd) : Tr × Rd := let x := decFs fs v flex r; let u := if flex then rTags x.2 else ([], x.2); (.mk 0 [] false x.1 u.1, u.2)
theorem decF_eq (f : Fd) (v : Int) (flex : Bool) (r : Rd) : decF f v flex r = decF' f (decP f.sub v flex) v flex r := by
  cases f; rw [decF]; rfl
/-! ### Once out, always out -/
theorem rN_bad {w : Nat} {r : Rd} (h : r.bad = true) : (rN w r).2.bad = true := by unfold rN; split <;> simp [Rd.out, h]
theorem rU_bad {r : Rd} (h : r.bad = true) : (rU r).2.bad = true := by unfold rU; split <;> simp [Rd.out, h]
theorem rSpan_bad {l : Int} {r : Rd} (h : r.bad = true) : (rSpan l r).2.bad = true := by unfold rSpan; split <;> simp [Rd.out, h]
theorem rLen_bad {flex : Bool} {w : Nat} {r : Rd} (h : r.bad = true) : (rLen flex w r).2.bad = true := by
  unfold rLen; split
  · exact rU_bad h
  · exact rN_bad h
theorem rArr_bad {flex : Bool} {r : Rd} (h : r.bad = true) : (rArr flex r).2.bad = true := by
  unfold rArr
  simp only
  repeat' split
  all_goals first | rfl | exact rU_bad h | exact rN_bad h
theorem rMany_bad {f : Rd → Tr × Rd} (hf : ∀ r, r.bad = true → (f r).2.bad = true) : ∀ (n : Nat) (r : Rd), r.bad = true → (rMany f n r).2.bad = true
  | 0, _, h => h
  | n + 1, r, h => rMany_bad hf n _ (hf r h)
theorem rTagsN_bad : ∀ (n : Nat) (acc : List (Int × List UInt8)) (r : Rd), r.bad = true → (rTagsN n acc r).2.bad = true
  | 0, _, _, h => h
  | n + 1, _, _, h => rTagsN_bad n _ _ (rSpan_bad (rU_bad (rU_bad h)))
theorem rTags_bad {r : Rd} (h : r.bad = true) : (rTags r).2.bad = true := rTagsN_bad _ _ _ (rU_bad h)
theorem decV_bad {kind : Int} {part : Rd → Tr × Rd} {nul flex : Bool} (hp : ∀ r, r.bad = true → (part r).2.bad = true) {r : Rd} (h : r.bad = true) : (decV kind part nul flex r).2.bad = true := by
  unfold decV
  simp only
  repeat' split
  all_goals first | exact rN_bad h | exact rSpan_bad h | exact rLen_bad h | exact rSpan_bad (rLen_bad h) | exact hp r h
theorem decF'_bad {f : Fd} {part : Rd → Tr × Rd} {v : Int} {flex : Bool} (hp : ∀ r, r.bad = true → (part r).2.bad = true) {r : Rd} (h : r.bad = true) : (decF' f part v flex r).2.bad = true := by
  unfold decF'
  split
  · exact rMany_bad (fun r h => decV_bad hp h) _ _ (rArr_bad h)
  · exact decV_bad hp h
mutual
theorem decF_bad : ∀ (f : Fd) (v : Int) (flex : Bool) (r : Rd), r.bad = true → (decF f v flex r).2.bad = true
  | .mk kind frm to nul tag df of sub, v, flex, r, h => by
    rw [decF]
    refine decF'_bad (fun r h => ?_) h
    simp only
    split
    · exact rTags_bad (decFs_bad sub v _ r h)
    · exact decFs_bad sub v _ r h
theorem decFs_bad : ∀ (fs : List Fd) (v : Int) (flex : Bool) (r : Rd), r.bad = true → (decFs fs v flex r).2.bad = true
  | [], _, _, _, h => by rw [decFs]; exact h
  | f :: rest, v, flex, r, h => by
    rw [decFs]
    refine decFs_bad rest v flex _ ?_
    split
    · exact decF_bad f v flex r h
    · exact h
end
theorem decP_bad (fs : List Fd) (v : Int) (flex : Bool) (r : Rd) (h : r.bad = true) : (decP fs v flex r).2.bad = true := by
  unfold decP
  simp only
  split
  · exact rTags_bad (decFs_bad fs v _ r h)
  · exact decFs_bad fs v _ r h
end Go.Sx
/- A reader in memory; slices of octets that are cut. -/
namespace Go.Sx
theorem BytesAt.drop {H : Fz} {a : Option Addr} {c : Nat} {s : List UInt8} (h : BytesAt H a c s) {j : Nat} (hj : j ≤ s.length) : BytesAt H (if c = j then a else a.map (·.add j)) (c - j) (s.drop j) := by
  refine ⟨fun hs => ?_, by have := h.cap; simp; omega, by have := h.big; simp; omega⟩
  have hlt : j < s.length := by
    rcases Nat.lt_or_ge j s.length with h1 | h1
    · exact h1
    · exact absurd (List.drop_eq_nil_of_le h1) hs
  obtain ⟨b, o, rfl, hb⟩ := h.at_ (by intro e; subst e; simp at hlt)
  have := h.cap
  refine ⟨b, o + j, by rw [if_neg (by omega), Option.map_some, add_plain], ?_⟩
  obtain ⟨cs, e, fr, h1, h2⟩ := hb
  refine ⟨cs, e, fr, h1, fun i v hv => ?_⟩
  rw [bytesOf, List.map_drop, List.getElem?_drop] at hv
  rw [Nat.add_assoc]; exact h2 (j + i) v hv
theorem BytesAt.cut {H : Fz} {a : Option Addr} {c : Nat} {s : List UInt8} (h : BytesAt H a c s) {j : Nat} (hj : j ≤ s.length) : BytesAt H a j (s.take j) := by
  refine ⟨fun hs => ?_, by simp; omega, by have := h.big; simp; omega⟩
  obtain ⟨b, o, h1, h2⟩ := h.at_ (by intro e; subst e; simp at hs)
  exact ⟨b, o, h1, by rw [bytesOf_take]; exact h2.take j⟩
section
variable {P : Program} {ops : Array Oper} {Q : Exit → Act → World → Prop} {rest : List Oper} {n d : Nat} {l : Env} {H : Fz} {L : Own} {ty : TypeId} {pos : String} {af : Array Edge}
/-- 'x[k:]' of octets that lie frozen -/
theorem slo {T e c m : Nat} {ad : Option Addr} {x y : Operand} {k : IntKind} {i : Int} {j : Nat} {s : List UInt8} (ht : ∀ w, (underlying T).run P w = .ok (.slice e) w) (hz : ∀ w, (sizeOf e).run P w = .ok 1 w) (hx : get l x = some (.slice ad m c)) (hm : m = s.length) (hB : BytesAt H ad c s) (hy : get l y = some (.int k i)) (hi : i = (j : Int)) (hj : j ≤ s.length) (hn : Nat.blt d n = true)
    (h : ∀ a', a'.isNone = ad.isNone → BytesAt H a' (c - j) (s.drop j) → WL P ops Q rest n ((d, .slice a' (s.drop j).length (c - j)) :: l) H L) : WL P ops Q (⟨some d, .slice T x (some y) none none, ty, pos, af, none⟩ :: rest) n l H L := by
  refine WL.vq rfl rfl hn (v := .slice (if c = j then ad else ad.map (·.add j)) (s.drop j).length (c - j)) (fun a w hA _ => ?_) (h _ ?_ (hB.drop hj))
  · subst hi hm
    have hc := hB.cap
    simp [execOp, hA.get hx, hA.get hy, Instr.sliceAt, Instr.slice, ht, hz, Instr.sliceBounds, Instr.sliceBound, asIntOf, hj]
  · split
    · rfl
    · cases ad <;> rfl
/-- 'x[:k:k]' -/
theorem shm {T e c m : Nat} {ad : Option Addr} {x y z : Operand} {k k' : IntKind} {i i' : Int} {j : Nat} (ht : ∀ w, (underlying T).run P w = .ok (.slice e) w) (hz : ∀ w, (sizeOf e).run P w = .ok 1 w) (hx : get l x = some (.slice ad m c)) (hy : get l y = some (.int k i)) (hy' : get l z = some (.int k' i')) (hi : i = (j : Int)) (hi' : i' = (j : Int)) (hj : j ≤ c) (hn : Nat.blt d n = true)
    (h : WL P ops Q rest n ((d, .slice ad j j) :: l) H L) : WL P ops Q (⟨some d, .slice T x none (some y) (some z), ty, pos, af, none⟩ :: rest) n l H L := by
  refine WL.vq rfl rfl hn (v := .slice ad j j) (fun a w hA _ => ?_) h
  subst hi hi'
  have hc : (if j = 0 then ad else ad.map (·.add 0)) = ad := by
    split
    · rfl
    · cases ad <;> simp [Addr.add]
  simp [execOp, hA.get hx, hA.get hy, hA.get hy', Instr.sliceAt, Instr.slice, ht, hz, Instr.sliceBounds, Instr.sliceBound, asIntOf, hj, hc]
end
/-- A reader's block. -/
def RdAt (H : Fz) (TR b : Nat) (r : Rd) (N : Chunk) : Prop := ∃ a c, N = [(b, .cells [.slice a r.s.length c, .bool r.bad].toArray TR (0, 0))] ∧ BytesAt H a c r.s ∧ a.isNone = !r.nn
theorem RdAt.mono {H H' : Fz} {TR b : Nat} {r : Rd} {N : Chunk} (h : RdAt H TR b r N) (hle : H.le H') : RdAt H' TR b r N := let ⟨a, c, h1, h2, h3⟩ := h; ⟨a, c, h1, h2.mono hle, h3⟩
theorem RdAt.out (H : Fz) (TR b : Nat) : RdAt H TR b Rd.out [(b, .cells [.slice none 0 0, .bool true].toArray TR (0, 0))] := ⟨none, 0, rfl, .nil H, rfl⟩
theorem nn_of {H : Fz} {TR b : Nat} {r : Rd} {N : Chunk} (h : RdAt H TR b r N) : r.nn = false → r.s = [] := by
  obtain ⟨a, c, _, hB, hn⟩ := h
  intro e
  cases hs : r.s with
  | nil => rfl
  | cons x l =>
    rw [hs] at hB
    obtain ⟨b, o, h1, _⟩ := hB.at_ (by simp)
    rw [e, h1] at hn; cases hn
end Go.Sx
/- Shifts to the left, bits that are joined, and reading them where the order is open. -/
namespace Go.Sx
theorem or_nat {a b j : Nat} (h : a < 2 ^ j) : a ||| (b * 2 ^ j) = a + b * 2 ^ j := by
  have := Nat.two_pow_add_eq_or_of_lt (i := j) (b := a) h b
  rw [Nat.or_comm, Nat.mul_comm b, ← this]; omega
theorem or_bits {w a b j : Nat} (h : a < 2 ^ j) (hs : a + b * 2 ^ j < 2 ^ w) : ((BitVec.ofInt w (a : Int)) ||| (BitVec.ofInt w ((b * 2 ^ j : Nat) : Int))).toNat = a + b * 2 ^ j := by
  rw [BitVec.toNat_or]
  have h1 : (BitVec.ofInt w (a : Int)).toNat = a := by
    rw [show (BitVec.ofInt w (a : Int)) = BitVec.ofNat w a from BitVec.ofInt_natCast w a, BitVec.toNat_ofNat]; exact Nat.mod_eq_of_lt (by omega)
  have h2 : (BitVec.ofInt w ((b * 2 ^ j : Nat) : Int)).toNat = b * 2 ^ j := by
    rw [show (BitVec.ofInt w ((b * 2 ^ j : Nat) : Int)) = BitVec.ofNat w (b * 2 ^ j) from BitVec.ofInt_natCast w _, BitVec.toNat_ofNat]; exact Nat.mod_eq_of_lt (by omega)
  rw [h1, h2, or_nat h]
theorem w16u {x : Int} (h0 : 0 ≤ x) (h1 : x < 65536) : IntKind.u16.wrap x = x := by
  have e : IntKind.u16.wrap x = x % 65536 := by simp [IntKind.wrap, IntKind.bits, IntKind.signed]
  rw [e]; omega
theorem or_u16 {a b j : Nat} (h : a < 2 ^ j) (hs : a + b * 2 ^ j < 65536) : IntKind.u16.wrap ((BitVec.ofInt IntKind.u16.bits (a : Int)) ||| (BitVec.ofInt IntKind.u16.bits ((b * 2 ^ j : Nat) : Int))).toNat = ((a + b * 2 ^ j : Nat) : Int) := by
  show IntKind.u16.wrap (((BitVec.ofInt 16 (a : Int)) ||| (BitVec.ofInt 16 ((b * 2 ^ j : Nat) : Int))).toNat : Int) = _
  rw [or_bits h hs, w16u (by omega) (by omega)]
theorem or_u32 {a b j : Nat} (h : a < 2 ^ j) (hs : a + b * 2 ^ j < 4294967296) : IntKind.u32.wrap ((BitVec.ofInt IntKind.u32.bits (a : Int)) ||| (BitVec.ofInt IntKind.u32.bits ((b * 2 ^ j : Nat) : Int))).toNat = ((a + b * 2 ^ j : Nat) : Int) := by
  show IntKind.u32.wrap (((BitVec.ofInt 32 (a : Int)) ||| (BitVec.ofInt 32 ((b * 2 ^ j : Nat) : Int))).toNat : Int) = _
  rw [or_bits h hs, w32u (by omega) (by omega)]
theorem or_u64 {a b j : Nat} (h : a < 2 ^ j) (hs : a + b * 2 ^ j < 18446744073709551616) : IntKind.u64.wrap ((BitVec.ofInt IntKind.u64.bits (a : Int)) ||| (BitVec.ofInt IntKind.u64.bits ((b * 2 ^ j : Nat) : Int))).toNat = ((a + b * 2 ^ j : Nat) : Int) := by
  show IntKind.u64.wrap (((BitVec.ofInt 64 (a : Int)) ||| (BitVec.ofInt 64 ((b * 2 ^ j : Nat) : Int))).toNat : Int) = _
  rw [or_bits h hs, wrap_u64 (by omega) (by omega)]
theorem cvb {b : UInt8} (k : IntKind) (hk : k = .u16 ∨ k = .u32 ∨ k = .u64) : k.wrap (b.toNat : Int) = ((b.toNat : Nat) : Int) := by
  have := b.toNat_lt
  rcases hk with rfl | rfl | rfl
  · exact w16u (by omega) (by omega)
  · exact w32u (by omega) (by omega)
  · exact wrap_u64 (by omega) (by omega)
theorem shl_u16 {x j : Nat} {y : Int} (hy : min y.toNat 16 = j) (h : x * 2 ^ j < 65536) : IntKind.u16.wrap ((x : Int) * 2 ^ min y.toNat IntKind.u16.bits) = ((x * 2 ^ j : Nat) : Int) := by
  show IntKind.u16.wrap ((x : Int) * 2 ^ min y.toNat 16) = _
  rw [hy, show ((x : Int) * 2 ^ j) = ((x * 2 ^ j : Nat) : Int) by push_cast; rfl, w16u (by omega) (by omega)]
theorem shl_u32 {x j : Nat} {y : Int} (hy : min y.toNat 32 = j) (h : x * 2 ^ j < 4294967296) : IntKind.u32.wrap ((x : Int) * 2 ^ min y.toNat IntKind.u32.bits) = ((x * 2 ^ j : Nat) : Int) := by
  show IntKind.u32.wrap ((x : Int) * 2 ^ min y.toNat 32) = _
  rw [hy, show ((x : Int) * 2 ^ j) = ((x * 2 ^ j : Nat) : Int) by push_cast; rfl, w32u (by omega) (by omega)]
theorem shl_u64 {x j : Nat} {y : Int} (hy : min y.toNat 64 = j) (h : x * 2 ^ j < 18446744073709551616) : IntKind.u64.wrap ((x : Int) * 2 ^ min y.toNat IntKind.u64.bits) = ((x * 2 ^ j : Nat) : Int) := by
  show IntKind.u64.wrap ((x : Int) * 2 ^ min y.toNat 64) = _
  rw [hy, show ((x : Int) * 2 ^ j) = ((x * 2 ^ j : Nat) : Int) by push_cast; rfl, wrap_u64 (by omega) (by omega)]
section
variable {P : Program} {ops : Array Oper} {Q : Exit → Act → World → Prop} {rest : List Oper} {n d : Nat} {l : Env} {H : Fz} {L : Own} {ty : TypeId} {pos : String} {af : Array Edge} {S : World → Prop}
theorem shl {x y : Operand} {T T' : Nat} {k k' : IntKind} {a b c : Int} (hx : get l x = some (.int k a)) (hy : get l y = some (.int k' b)) (hb : 0 ≤ b) (hc : k.wrap (a * 2 ^ min b.toNat k.bits) = c) (hn : Nat.blt d n = true) (h : WL P ops Q rest n ((d, .int k c) :: l) H L) : WL P ops Q (⟨some d, .binOp .shl T x y T', ty, pos, af, none⟩ :: rest) n l H L :=
  WL.vq rfl rfl hn (fun a w ha _ => by simp [execOp, ha.get hx, ha.get hy, eqGuard, binOp, Op.shift, Int.not_lt.2 hb, hc]) h
theorem y_shl {x y : Operand} {T T' : Nat} {k k' : IntKind} {a b c : Int} (hx : get l x = some (.int k a)) (hy : get l y = some (.int k' b)) (hb : 0 ≤ b) (hc : k.wrap (a * 2 ^ min b.toNat k.bits) = c) : ∀ a, Has n l a → YieldsIf P ops S ⟨some d, .binOp .shl T x y T', ty, pos, af, none⟩ (.int k c) a := y_plain rfl fun a ha w _ => by simp [execOp, ha.get hx, ha.get hy, eqGuard, binOp, Op.shift, Int.not_lt.2 hb, hc]
theorem y_or {x y : Operand} {T T' : Nat} {k : IntKind} {a b c : Int} (hx : get l x = some (.int k a)) (hy : get l y = some (.int k b)) (hc : k.wrap ((BitVec.ofInt k.bits a) ||| (BitVec.ofInt k.bits b)).toNat = c) : ∀ a, Has n l a → YieldsIf P ops S ⟨some d, .binOp .or T x y T', ty, pos, af, none⟩ (.int k c) a := y_plain rfl fun a ha w _ => by simp [execOp, ha.get hx, ha.get hy, eqGuard, binOp, Op.intBits, ← hc]
theorem y_an {x y : Operand} {T T' : Nat} {k : IntKind} {a b c : Int} (hx : get l x = some (.int k a)) (hy : get l y = some (.int k b)) (hc : k.wrap ((BitVec.ofInt k.bits a) &&& (BitVec.ofInt k.bits b)).toNat = c) : ∀ a, Has n l a → YieldsIf P ops S ⟨some d, .binOp .and T x y T', ty, pos, af, none⟩ (.int k c) a := y_plain rfl fun a ha w _ => by simp [execOp, ha.get hx, ha.get hy, eqGuard, binOp, Op.intBits, ← hc]
theorem y_cv {x : Operand} {S' D : Nat} {sd : TypeDesc} {k k' : IntKind} {a c : Int} (hs : ∀ w, (underlying S').run P w = .ok sd w) (hd : ∀ w, (underlying D).run P w = .ok (.int k) w) (hx : get l x = some (.int k' a)) (hc : k.wrap a = c) : ∀ a, Has n l a → YieldsIf P ops S ⟨some d, .convert S' D x, ty, pos, af, none⟩ (.int k c) a := y_plain rfl fun a ha w _ => by simp [execOp, ha.get hx, convert, hs, hd, Conv.intToInt, hc]
theorem y_sl16 {T e b m : Nat} {x : Operand} (ha : ∀ w, (underlying T).run P w = .ok (.array m e) w) (hz : ∀ w, (sizeOf e).run P w = .ok 1 w) (hx : get l x = some (.pointer (some ⟨b, 0, none⟩))) : ∀ a, Has n l a → YieldsIf P ops S ⟨some d, .slice T x none none none, ty, pos, af, none⟩ (.slice (some ⟨b, 0, none⟩) m m) a := y_plain rfl fun a hA w _ => by
  have he : (if m = 0 then (⟨b, 0, none⟩ : Addr) else (⟨b, 0, none⟩ : Addr).add 0) = ⟨b, 0, none⟩ := by split <;> rfl
  simp [execOp, hA.get hx, Instr.sliceAt, Instr.sureAddr, ha, hz, Instr.sliceBounds, he]
/-- An empty struct is read. -/
theorem y_la0 {T b o : Nat} {x : Operand} (ha : ∀ w, (isAgg T).run P w = .ok true w) (hz : ∀ w, (sizeOf T).run P w = .ok 0 w) (hx : get l x = some (.pointer (some ⟨b, o, none⟩))) : ∀ a, Has n l a → YieldsIf P ops S ⟨some d, .load T x, ty, pos, af, none⟩ (.agg #[]) a := y_plain rfl fun a hA w _ => by
  simp [execOp, hA.get hx, Instr.loadAt, Instr.sureAddr, loadVar, ha, hz, loadCells, loadCellsFrom, Result.andThen]
end
theorem BytesAt.some {H : Fz} {a : Option Addr} {c : Nat} {s : List UInt8} (h : BytesAt H a c s) (hs : s ≠ []) : a.isNone = false := by
  obtain ⟨b, o, h1, _⟩ := h.at_ hs
  rw [h1]; rfl
theorem ne_of_len {n : Nat} {s : List UInt8} (h : n + 1 ≤ s.length) : s ≠ [] := by intro e; subst e; simp at h
theorem be1 {s : List UInt8} (h : 1 ≤ s.length) : beN (s.take 1) = (s[0]'(by omega)).toNat := by
  match s, h with
  | _ :: _, _ => simp [beN]
theorem be2 {s : List UInt8} (h : 2 ≤ s.length) : beN (s.take 2) = (s[1]'(by omega)).toNat + (s[0]'(by omega)).toNat * 2 ^ 8 := by
  match s, h with
  | _ :: _ :: _, _ => simp [beN]; omega
theorem be4 {s : List UInt8} (h : 4 ≤ s.length) : beN (s.take 4) = (s[3]'(by omega)).toNat + (s[2]'(by omega)).toNat * 2 ^ 8 + (s[1]'(by omega)).toNat * 2 ^ 16 + (s[0]'(by omega)).toNat * 2 ^ 24 := by
  match s, h with
  | _ :: _ :: _ :: _ :: _, _ => simp [beN]; omega
theorem be8 {s : List UInt8} (h : 8 ≤ s.length) : beN (s.take 8) = (s[7]'(by omega)).toNat + (s[6]'(by omega)).toNat * 2 ^ 8 + (s[5]'(by omega)).toNat * 2 ^ 16 + (s[4]'(by omega)).toNat * 2 ^ 24 + (s[3]'(by omega)).toNat * 2 ^ 32 + (s[2]'(by omega)).toNat * 2 ^ 40 + (s[1]'(by omega)).toNat * 2 ^ 48 + (s[0]'(by omega)).toNat * 2 ^ 56 := by
  match s, h with
  | _ :: _ :: _ :: _ :: _ :: _ :: _ :: _ :: _, _ => simp [beN]; omega
end Go.Sx
/- A scope with one label behind all its jumps. -/
namespace Go.Sx
section
variable {P : Program} {Q : Exit → Act → World → Prop} {n : Nat} {l : Env} {H : Fz} {L : Own}
theorem sc {l0 : Nat} {c rst : Code} (J : Act → World → Prop) (hf : findLabel c l0 = some rst) (h1 : Wp P c (Exit.jump l0 J Q) n l H L) (h2 : ∀ a w, J a w → rst.wp P (Exit.jump l0 (fun a' w' => J a' w' ∧ 0 < 0) Q) a w) : Wp P (.scope c) Q n l H L :=
  fun a w hA hw => wp_scope_jumps l0 J (fun _ _ => 0) hf (h1 a w hA hw) h2
theorem lb {l0 : Nat} (h : Nn Q n l H L) : Wp P (.label l0) Q n l H L := fun a w hA hw => wp_label (h a w hA hw)
theorem gt0 {l0 : Nat} (h : ∀ a w, Has n l a → Hp H L w → Q (.goto l0) a w) : Wp P (.goto l0) Q n l H L := fun a w hA hw => wp_goto (h a w hA hw)
end
theorem bv8 (b : UInt8) : (BitVec.ofInt 8 (b.toNat : Int)).toNat = b.toNat := by
  have := b.toNat_lt
  rw [show (BitVec.ofInt 8 (b.toNat : Int)) = BitVec.ofNat 8 b.toNat from BitVec.ofInt_natCast 8 _, BitVec.toNat_ofNat]; exact Nat.mod_eq_of_lt (by omega)
theorem and127_u8 (b : UInt8) : IntKind.u8.wrap ((BitVec.ofInt IntKind.u8.bits (b.toNat : Int)) &&& (BitVec.ofInt IntKind.u8.bits 127)).toNat = ((b.toNat % 128 : Nat) : Int) := by
  have e : ((BitVec.ofInt 8 (b.toNat : Int)) &&& (BitVec.ofInt 8 127)).toNat = b.toNat % 128 := by
    rw [BitVec.toNat_and, bv8, show (BitVec.ofInt 8 (127 : Int)).toNat = 2 ^ 7 - 1 by decide, Nat.and_two_pow_sub_one_eq_mod]
  show IntKind.u8.wrap (((BitVec.ofInt 8 (b.toNat : Int)) &&& (BitVec.ofInt 8 127)).toNat : Int) = _
  rw [e, wrap_u8 (by omega) (by omega)]
theorem and128_u8 (b : UInt8) : IntKind.u8.wrap ((BitVec.ofInt IntKind.u8.bits (b.toNat : Int)) &&& (BitVec.ofInt IntKind.u8.bits 128)).toNat = ((b.toNat / 128 * 128 : Nat) : Int) := by
  have h := b.toNat_lt
  have e : ((BitVec.ofInt 8 (b.toNat : Int)) &&& (BitVec.ofInt 8 128)).toNat = b.toNat / 128 * 128 := by
    rw [BitVec.toNat_and, bv8, show (BitVec.ofInt 8 (128 : Int)).toNat = 128 by decide]
    have : ∀ x : Nat, x < 256 → x &&& 128 = x / 128 * 128 := by decide +kernel
    exact this _ h
  show IntKind.u8.wrap (((BitVec.ofInt 8 (b.toNat : Int)) &&& (BitVec.ofInt 8 128)).toNat : Int) = _
  rw [e, wrap_u8 (by omega) (by omega)]
end Go.Sx
/- A number in groups of seven bits, read: by cases on how many octets. -/
namespace Go.Sx
def UvSays (s : List UInt8) (x y : Int) : Prop := (uvR s = none ∧ y ≤ 0) ∨ ∃ u n : Nat, uvR s = some (u, n) ∧ x = u ∧ y = n ∧ 0 < n ∧ n ≤ s.length
theorem uv_none0 {s : List UInt8} (h : s.length < 1) : uvR s = none := by
  match s, h with
  | [], _ => rfl
theorem uv_some1 {s : List UInt8} (h : 1 ≤ s.length) (h0 : (s[0]'(by omega)).toNat < 128) : uvR s = some ((s[0]'(by omega)).toNat, 1) := by
  match s, h with
  | b0 :: _, _ => simp only [List.getElem_cons_zero] at h0 ⊢; simp [uvR, h0]
theorem uv_none1 {s : List UInt8} (h : s.length < 2) (hl : 1 ≤ s.length) (h0 : ¬ (s[0]'(by omega)).toNat < 128) : uvR s = none := by
  match s, h, hl with
  | [b0], _, _ => simp only [List.getElem_cons_zero] at h0; simp [uvR, h0]
theorem uv_some2 {s : List UInt8} (h : 2 ≤ s.length) (h0 : ¬ (s[0]'(by omega)).toNat < 128) (hl : (s[1]'(by omega)).toNat < 128) : uvR s = some ((s[0]'(by omega)).toNat % 128 + (s[1]'(by omega)).toNat * 128, 2) := by
  match s, h with
  | b0 :: b1 :: _, _ => simp only [List.getElem_cons_zero, List.getElem_cons_succ] at h0 hl ⊢; simp [uvR, h0, hl]
theorem uv_some3 {s : List UInt8} (h : 3 ≤ s.length) (h0 : ¬ (s[0]'(by omega)).toNat < 128) (h1 : ¬ (s[1]'(by omega)).toNat < 128) (hl : (s[2]'(by omega)).toNat < 128) : uvR s = some ((s[0]'(by omega)).toNat % 128 + (s[1]'(by omega)).toNat % 128 * 128 + (s[2]'(by omega)).toNat * 16384, 3) := by
  match s, h with
  | b0 :: b1 :: b2 :: _, _ => simp only [List.getElem_cons_zero, List.getElem_cons_succ] at h0 h1 hl ⊢; simp [uvR, h0, h1, hl]
theorem uv_some4 {s : List UInt8} (h : 4 ≤ s.length) (h0 : ¬ (s[0]'(by omega)).toNat < 128) (h1 : ¬ (s[1]'(by omega)).toNat < 128) (h2 : ¬ (s[2]'(by omega)).toNat < 128) (hl : (s[3]'(by omega)).toNat < 128) : uvR s = some ((s[0]'(by omega)).toNat % 128 + (s[1]'(by omega)).toNat % 128 * 128 + (s[2]'(by omega)).toNat % 128 * 16384 + (s[3]'(by omega)).toNat * 2097152, 4) := by
  match s, h with
  | b0 :: b1 :: b2 :: b3 :: _, _ => simp only [List.getElem_cons_zero, List.getElem_cons_succ] at h0 h1 h2 hl ⊢; simp [uvR, h0, h1, h2, hl]
theorem uv_some5 {s : List UInt8} (h : 5 ≤ s.length) (h0 : ¬ (s[0]'(by omega)).toNat < 128) (h1 : ¬ (s[1]'(by omega)).toNat < 128) (h2 : ¬ (s[2]'(by omega)).toNat < 128) (h3 : ¬ (s[3]'(by omega)).toNat < 128) (hl : (s[4]'(by omega)).toNat < 16) : uvR s = some ((s[0]'(by omega)).toNat % 128 + (s[1]'(by omega)).toNat % 128 * 128 + (s[2]'(by omega)).toNat % 128 * 16384 + (s[3]'(by omega)).toNat % 128 * 2097152 + (s[4]'(by omega)).toNat * 268435456, 5) := by
  match s, h with
  | b0 :: b1 :: b2 :: b3 :: b4 :: _, _ => simp only [List.getElem_cons_zero, List.getElem_cons_succ] at h0 h1 h2 h3 hl ⊢; simp [uvR, h0, h1, h2, h3, hl]
theorem uv_none2 {s : List UInt8} (h : s.length < 3) (hl : 2 ≤ s.length) (h0 : ¬ (s[0]'(by omega)).toNat < 128) (h1 : ¬ (s[1]'(by omega)).toNat < 128) : uvR s = none := by
  match s, h, hl with
  | [b0, b1], _, _ => simp only [List.getElem_cons_zero, List.getElem_cons_succ] at h0 h1; simp [uvR, h0, h1]
theorem uv_none3 {s : List UInt8} (h : s.length < 4) (hl : 3 ≤ s.length) (h0 : ¬ (s[0]'(by omega)).toNat < 128) (h1 : ¬ (s[1]'(by omega)).toNat < 128) (h2 : ¬ (s[2]'(by omega)).toNat < 128) : uvR s = none := by
  match s, h, hl with
  | [b0, b1, b2], _, _ => simp only [List.getElem_cons_zero, List.getElem_cons_succ] at h0 h1 h2; simp [uvR, h0, h1, h2]
theorem uv_none4 {s : List UInt8} (h : s.length < 5) (hl : 4 ≤ s.length) (h0 : ¬ (s[0]'(by omega)).toNat < 128) (h1 : ¬ (s[1]'(by omega)).toNat < 128) (h2 : ¬ (s[2]'(by omega)).toNat < 128) (h3 : ¬ (s[3]'(by omega)).toNat < 128) : uvR s = none := by
  match s, h, hl with
  | [b0, b1, b2, b3], _, _ => simp only [List.getElem_cons_zero, List.getElem_cons_succ] at h0 h1 h2 h3; simp [uvR, h0, h1, h2, h3]
theorem uv_none5 {s : List UInt8} (hl : 5 ≤ s.length) (h0 : ¬ (s[0]'(by omega)).toNat < 128) (h1 : ¬ (s[1]'(by omega)).toNat < 128) (h2 : ¬ (s[2]'(by omega)).toNat < 128) (h3 : ¬ (s[3]'(by omega)).toNat < 128) (h4 : ¬ (s[4]'(by omega)).toNat < 16) : uvR s = none := by
  match s, hl with
  | b0 :: b1 :: b2 :: b3 :: b4 :: _, _ => simp only [List.getElem_cons_zero, List.getElem_cons_succ] at h0 h1 h2 h3 h4; simp [uvR, h0, h1, h2, h3, h4]
end Go.Sx
/- What is read of a value, by its kind. -/
namespace Go.Sx
section
variable {rd : Rd → Tr × Rd} {may flex : Bool} {r : Rd}
theorem dV0 : decV 0 rd may flex r = (.mk (if (rN 1 r).1 = 0 then 0 else 1) [] false [] [], (rN 1 r).2) := rfl
theorem dV1 : decV 1 rd may flex r = (.mk (IntKind.i8.wrap (rN 1 r).1) [] false [] [], (rN 1 r).2) := rfl
theorem dV2 : decV 2 rd may flex r = (.mk (IntKind.i16.wrap (rN 2 r).1) [] false [] [], (rN 2 r).2) := rfl
theorem dV3 : decV 3 rd may flex r = (.mk (IntKind.i32.wrap (rN 4 r).1) [] false [] [], (rN 4 r).2) := rfl
theorem dV5 : decV 5 rd may flex r = (.mk ((rN 2 r).1 : Nat) [] false [] [], (rN 2 r).2) := rfl
theorem dV4 {k : Int} (h : k = 4 ∨ k = 6) : decV k rd may flex r = (.mk (IntKind.i64.wrap (rN 8 r).1) [] false [] [], (rN 8 r).2) := by rcases h with rfl | rfl <;> rfl
theorem dV7 : decV 7 rd may flex r = (.mk 0 (pad16 (rSpan ((16 : Nat) : Int) r).1.1) false [] [], (rSpan ((16 : Nat) : Int) r).2) := by
  unfold decV
  exact (if_neg (by decide)).trans (if_pos rfl)
theorem dV8 : decV 8 rd may flex r = (if may && decide ((rLen flex 2 r).1 < 0) then (.mk 0 [] true [] [], (rLen flex 2 r).2) else (.mk 0 (rSpan (rLen flex 2 r).1 (rLen flex 2 r).2).1.1 false [] [], (rSpan (rLen flex 2 r).1 (rLen flex 2 r).2).2)) := by
  unfold decV
  rw [if_neg (show ¬ (8 : Int) = 0 by decide), if_neg (show ¬ (8 : Int) = 7 by decide), if_pos (show (8 : Int) = 8 from rfl)]
theorem dV9 {k : Int} (h : k = 9) : decV k rd may flex r = (let l := rLen flex 4 r; if may then (if l.1 < 0 then (.mk 0 [] true [] [], l.2) else let x := rSpan l.1 l.2; (.mk 0 x.1.1 x.1.2 [] [], x.2)) else if l.1 = -1 then (.mk 0 [] false [] [], l.2) else let x := rSpan l.1 l.2; (.mk 0 x.1.1 x.1.2 [] [], x.2)) := by
  unfold decV
  exact (if_neg (by omega)).trans ((if_neg (by omega)).trans ((if_neg (by omega)).trans (if_pos h)))
theorem dV10 : decV 10 rd may flex r = rd r := rfl
theorem dV8n : decV 8 rd false flex r = (.mk 0 (rSpan (rLen flex 2 r).1 (rLen flex 2 r).2).1.1 false [] [], (rSpan (rLen flex 2 r).1 (rLen flex 2 r).2).2) := by rw [dV8]; rfl
theorem dV8y0 (h : (rLen flex 2 r).1 < 0) : decV 8 rd true flex r = (.mk 0 [] true [] [], (rLen flex 2 r).2) := by rw [dV8, if_pos (by simp [h])]
theorem dV8y1 (h : ¬ (rLen flex 2 r).1 < 0) : decV 8 rd true flex r = (.mk 0 (rSpan (rLen flex 2 r).1 (rLen flex 2 r).2).1.1 false [] [], (rSpan (rLen flex 2 r).1 (rLen flex 2 r).2).2) := by rw [dV8, if_neg (by simp; omega)]
theorem dV9n0 (h : (rLen flex 4 r).1 = -1) : decV 9 rd false flex r = (.mk 0 [] false [] [], (rLen flex 4 r).2) := by rw [dV9 rfl]; simp only [Bool.false_eq_true, if_false]; rw [if_pos h]
theorem dV9n1 (h : ¬ (rLen flex 4 r).1 = -1) : decV 9 rd false flex r = (.mk 0 (rSpan (rLen flex 4 r).1 (rLen flex 4 r).2).1.1 (rSpan (rLen flex 4 r).1 (rLen flex 4 r).2).1.2 [] [], (rSpan (rLen flex 4 r).1 (rLen flex 4 r).2).2) := by rw [dV9 rfl]; simp only [Bool.false_eq_true, if_false]; rw [if_neg h]
theorem dV9y0 (h : (rLen flex 4 r).1 < 0) : decV 9 rd true flex r = (.mk 0 [] true [] [], (rLen flex 4 r).2) := by rw [dV9 rfl]; simp only [if_true]; rw [if_pos h]
theorem dV9y1 (h : ¬ (rLen flex 4 r).1 < 0) : decV 9 rd true flex r = (.mk 0 (rSpan (rLen flex 4 r).1 (rLen flex 4 r).2).1.1 (rSpan (rLen flex 4 r).1 (rLen flex 4 r).2).1.2 [] [], (rSpan (rLen flex 4 r).1 (rLen flex 4 r).2).2) := by rw [dV9 rfl]; simp only [if_true]; rw [if_neg h]
end
theorem dflF_eq (f : Fd) : dflF f = dflF' f (dflFs f.sub) := by cases f; rw [dflF]; rfl
theorem rLen_f2 (r : Rd) : rLen false 2 r = (IntKind.i16.wrap (rN 2 r).1, (rN 2 r).2) := rfl
theorem rLen_f4 (r : Rd) : rLen false 4 r = (IntKind.i32.wrap (rN 4 r).1, (rN 4 r).2) := rfl
theorem rLen_t (w : Nat) (r : Rd) : rLen true w r = (((rU r).1 : Int) - 1, (rU r).2) := rfl
theorem uvR_lt {s : List UInt8} {x n : Nat} (h : uvR s = some (x, n)) : x < 4294967296 := by
  match s with
  | [] => simp [uvR] at h
  | b0 :: r0 =>
    have h0 := b0.toNat_lt
    simp only [uvR] at h
    split at h
    · cases h; omega
    · match r0 with
      | [] => simp at h
      | b1 :: r1 =>
        have h1 := b1.toNat_lt
        simp only at h
        split at h
        · cases h; omega
        · match r1 with
          | [] => simp at h
          | b2 :: r2 =>
            have h2 := b2.toNat_lt
            simp only at h
            split at h
            · cases h; omega
            · match r2 with
              | [] => simp at h
              | b3 :: r3 =>
                have h3 := b3.toNat_lt
                simp only at h
                split at h
                · cases h; omega
                · match r3 with
                  | [] => simp at h
                  | b4 :: _ =>
                    have h4 := b4.toNat_lt
                    simp only at h
                    split at h
                    · cases h; omega
                    · cases h
theorem rU_lt (r : Rd) : (rU r).1 < 4294967296 := by
  unfold rU
  split
  · decide
  · rename_i h; exact uvR_lt h
theorem i16_rng (x : Int) : -32768 ≤ IntKind.i16.wrap x ∧ IntKind.i16.wrap x ≤ 32767 := by
  unfold IntKind.wrap
  have hb : (2 : Int) ^ IntKind.i16.bits = 65536 := rfl
  have hb' : (2 : Int) ^ (IntKind.i16.bits - 1) = 32768 := rfl
  simp only [hb, hb', show IntKind.i16.signed = true from rfl, Bool.true_and, decide_eq_true_eq]
  split <;> omega
theorem i32_rng (x : Int) : -2147483648 ≤ IntKind.i32.wrap x ∧ IntKind.i32.wrap x ≤ 2147483647 := by
  unfold IntKind.wrap
  have hb : (2 : Int) ^ IntKind.i32.bits = 4294967296 := rfl
  have hb' : (2 : Int) ^ (IntKind.i32.bits - 1) = 2147483648 := rfl
  simp only [hb, hb', show IntKind.i32.signed = true from rfl, Bool.true_and, decide_eq_true_eq]
  split <;> omega
theorem sT_span (x : List UInt8) (b : Bool) : (b = true → x = []) → sT (Tr.mk 0 x b [] []) = x := by
  intro h
  cases b with
  | true => rw [h rfl]; rfl
  | false => rfl
theorem rSpan_nil {l : Int} {r : Rd} (hn : r.nn = false → r.s = []) : (rSpan l r).1.2 = true → (rSpan l r).1.1 = [] := by
  unfold rSpan
  split
  · intro _; rfl
  · intro h
    simp only [Bool.not_eq_true'] at h
    simp [hn h]
theorem rSpan_16 (r : Rd) : (rSpan ((16 : Nat) : Int) r).1.1.length ≤ 16 := by
  unfold rSpan
  split
  · simp
  · simp; omega
theorem pad16_pad (s : List UInt8) : pad16 (pad16 s) = pad16 s := by
  have hl := pad16_len s
  generalize pad16 s = x at hl
  unfold pad16
  rw [List.take_of_length_le (by omega)]; simp [hl]
theorem u16_pad (s : List UInt8) : u16 (pad16 s) = u16 s := by rw [u16_eq, u16_eq, pad16_pad]
/-! ### Less is left -/
def BR : Nat := 68719476736
theorem rN_len (w : Nat) (r : Rd) : (rN w r).2.s.length ≤ r.s.length := by unfold rN; split <;> simp [Rd.out]
theorem rU_len (r : Rd) : (rU r).2.s.length ≤ r.s.length := by unfold rU; split <;> simp [Rd.out]
theorem rSpan_len (l : Int) (r : Rd) : (rSpan l r).2.s.length ≤ r.s.length := by unfold rSpan; split <;> simp [Rd.out]
theorem rLen_len (flex : Bool) (w : Nat) (r : Rd) : (rLen flex w r).2.s.length ≤ r.s.length := by
  unfold rLen; split
  · exact rU_len r
  · exact rN_len w r
theorem rArr_len (flex : Bool) (r : Rd) : (rArr flex r).2.s.length ≤ r.s.length := by
  unfold rArr
  simp only
  repeat' split
  all_goals first | exact Nat.zero_le _ | exact rU_len r | exact rN_len 4 r
theorem rArr_hi (flex : Bool) (r : Rd) : (rArr flex r).1 ≤ 2147483647 := by
  unfold rArr
  simp only
  repeat' split
  all_goals first | omega | exact (i32_rng _).2 | decide
theorem rArr_le (flex : Bool) (r : Rd) : (rArr flex r).1 ≤ (rArr flex r).2.s.length := by
  unfold rArr
  simp only
  repeat' split
  all_goals first | omega | (simp [Rd.out]; done)
end Go.Sx
/- A part, read one field after another; lists, read one thing after another. -/
namespace Go.Sx
def stepF (f : Fd) (v : Int) (flex : Bool) (r : Rd) : Tr × Rd := if f.tag < 0 && f.has v then decF f v flex r else (dflF f, r)
theorem decFs_cons (f : Fd) (rest : List Fd) (v : Int) (flex : Bool) (r : Rd) : decFs (f :: rest) v flex r = ((stepF f v flex r).1 :: (decFs rest v flex (stepF f v flex r).2).1, (decFs rest v flex (stepF f v flex r).2).2) := by rw [decFs]; rfl
theorem decFs_nil (v : Int) (flex : Bool) (r : Rd) : decFs [] v flex r = ([], r) := by rw [decFs]
theorem step_yes {f : Fd} {v : Int} {flex : Bool} {r : Rd} (ht : f.tag < 0) (h1 : f.frm ≤ v) (h2 : f.to < 0 ∨ v ≤ f.to) : stepF f v flex r = decF' f (decP f.sub v flex) v flex r := by
  unfold stepF; rw [has_yes h1 h2, if_pos (by simp [ht]), decF_eq]
theorem step_no {f : Fd} {v : Int} {flex : Bool} {r : Rd} (h : v < f.frm ∨ (0 ≤ f.to ∧ f.to < v)) : stepF f v flex r = (dflF f, r) := by
  unfold stepF; rw [has_no h, if_neg (by simp)]
theorem step_bad {f : Fd} {v : Int} {flex : Bool} {r : Rd} (h : r.bad = true) : (stepF f v flex r).2.bad = true := by
  unfold stepF; split
  · exact decF_bad f v flex r h
  · exact h
def tailU (flex : Bool) (r : Rd) : List (Int × List UInt8) × Rd := if flex then rTags r else ([], r)
theorem tailU_bad {flex : Bool} {r : Rd} (h : r.bad = true) : (tailU flex r).2.bad = true := by
  unfold tailU; split
  · exact rTags_bad h
  · exact h
theorem decP_eq (fs : List Fd) (v : Int) (flex : Bool) (r : Rd) : decP fs v flex r = (.mk 0 [] false (decFs fs v flex r).1 (tailU flex (decFs fs v flex r).2).1, (tailU flex (decFs fs v flex r).2).2) := rfl
/-! ### Things of a list -/
theorem rMany_zero (d : Rd → Tr × Rd) (r : Rd) : rMany d 0 r = ([], r) := rfl
theorem rMany_succ (d : Rd → Tr × Rd) : ∀ (n : Nat) (r : Rd), rMany d (n + 1) r = ((rMany d n r).1 ++ [(d (rMany d n r).2).1], (d (rMany d n r).2).2)
  | 0, r => rfl
  | n + 1, r => by
    have ih := rMany_succ d n (d r).2
    rw [rMany, ih]
    rfl
theorem rMany_len (d : Rd → Tr × Rd) : ∀ (n : Nat) (r : Rd), (rMany d n r).1.length = n
  | 0, r => rfl
  | n + 1, r => by rw [rMany]; simp [rMany_len d n]
theorem rMany_mono {d : Rd → Tr × Rd} (hd : ∀ r, r.bad = true → (d r).2.bad = true) {k n : Nat} (r : Rd) (hk : k ≤ n) (h : (rMany d k r).2.bad = true) : (rMany d n r).2.bad = true := by
  induction n with
  | zero => obtain rfl : k = 0 := by omega
            exact h
  | succ n ih =>
    by_cases he : k = n + 1
    · subst he; exact h
    · rw [rMany_succ]; exact hd _ (ih (by omega))
theorem dec_els {size : Nat} {d : Rd → Tr × Rd} {k : Nat} {r : Rd} {es : List (KE size)} {c : {cs : List Value // cs.length = size ∧ ∀ u ∈ cs, u.oneCell' = true}} (h : es.map (·.2) = (rMany d k r).1) : (es ++ [(c, (d (rMany d k r).2).1)]).map (·.2) = (rMany d (k + 1) r).1 := by
  rw [rMany_succ]; simp [h]
theorem listAt_of {H : Fz} {size : Nat} {R : Fz → Tr → List Value → Prop} {a : Option Addr} {c : Nat} {n : Int} {s : List UInt8} {nul : Bool} {l : List Tr} {u : List (Int × List UInt8)} (hr : RowsAt H a c size R l) (hn : a.isNone = nul) (h0 : nul = true → l = []) : ListAt H (.mk n s nul l u) size R a c := by
  refine ⟨?_, hn⟩
  cases nul with
  | true => rw [lT_nul rfl]; rw [h0 rfl] at hr; exact hr
  | false => exact hr
/-! ### One element of an own row, in place -/
theorem Row.split {e size : Nat} {a : Option Addr} {n cap : Nat} {pre zs rest : List Value} {N : Chunk} (h : Row e size a n cap (pre ++ zs ++ rest) N) (hz : zs.length = size) (hs : 0 < size) :
    ∃ g post, a = some ⟨g, 0, none⟩ ∧ N = [(g, .cells (pre ++ zs ++ post).toArray e (0, 0))] ∧ ∀ cs' : List Value, cs'.length = size → Row e size a n cap (pre ++ cs' ++ rest) [(g, .cells (pre ++ cs' ++ post).toArray e (0, 0))] := by
  obtain ⟨hl, h⟩ := h
  rcases h with ⟨_, rfl, _, _⟩ | ⟨g, cur, rfl, rfl, h1, h2, h3, h4⟩
  · simp only [List.length_append] at hl; omega
  · have hlen : cur.toList = pre ++ zs ++ rest ++ cur.toList.drop (n * size) := by rw [← h4]; simp
    refine ⟨g, rest ++ cur.toList.drop (n * size), rfl, ?_, fun cs' hc => ⟨?_, .inr ⟨g, _, rfl, rfl, h1, h2, ?_, ?_⟩⟩⟩
    · congr 3
      apply Array.ext'
      conv => lhs; rw [hlen]
      simp
    · simp only [List.length_append] at hl ⊢; omega
    · have hcl := congrArg List.length hlen
      simp only [List.length_append, Array.length_toList, List.length_drop, List.size_toArray] at hcl hl ⊢
      omega
    · simp only [← List.append_assoc]
      rw [List.take_left']
      simp only [List.length_append] at hl ⊢; omega
theorem setAt_mid {cs cs' : List Value} {off : Nat} {v : Value} (h : setAt cs off v = some cs') : ∀ (pre post : List Value), setAt (pre ++ cs ++ post) (pre.length + off) v = some (pre ++ cs' ++ post) := by
  have ha : ∀ (l l' : List Value) (n : Nat) (q : List Value), setAt l n v = some l' → setAt (l ++ q) n v = some (l' ++ q) := by
    intro l
    induction l with
    | nil => intro l' n q h; simp [setAt] at h
    | cons x l ih =>
      intro l' n q h
      cases n with
      | zero => simp only [setAt, Option.some.injEq] at h; subst h; rfl
      | succ n =>
        simp only [setAt] at h
        split at h
        · rename_i l1 h1
          cases h
          simp only [List.cons_append, setAt]
          rw [ih l1 n q h1]
        · cases h
  intro pre post
  induction pre with
  | nil => simpa using ha cs cs' off post h
  | cons x pre ih =>
    rw [List.length_cons, show pre.length + 1 + off = (pre.length + off) + 1 by omega]
    simp only [List.cons_append, setAt]
    rw [ih]
theorem setAt_len {cs cs' : List Value} {off : Nat} {v : Value} (h : setAt cs off v = some cs') : cs'.length = cs.length := by
  obtain ⟨_, rfl⟩ := setAt_eq cs off v cs' h; simp
theorem put'_mid {cs cs' ds : List Value} {off : Nat} (h : put' cs off ds = some cs') (pre post : List Value) : put' (pre ++ cs ++ post) (pre.length + off) ds = some (pre ++ cs' ++ post) := by
  have ha : ∀ (l : List Value) (n : Nat) (us l' q : List Value), put' l n us = some l' → put' (l ++ q) n us = some (l' ++ q) := by
    intro l
    induction l with
    | nil =>
      intro n us l' q h
      cases n <;> cases us <;> simp [put'] at h
      subst h; cases q <;> rfl
    | cons x l ih =>
      intro n us l' q h
      cases n with
      | zero =>
        cases us with
        | nil => simp only [put', Option.some.injEq] at h; subst h; rfl
        | cons u us =>
          simp only [put'] at h
          split at h
          · rename_i l1 h1
            cases h
            simp only [List.cons_append, put']
            rw [ih 0 us l1 q h1]
          · cases h
      | succ n =>
        have key : ∀ (l : List Value) (us : List Value), put' (x :: l) (n + 1) us = (match put' l n us with | some r => some (x :: r) | none => none) := by
          intro l us; cases us <;> rfl
        rw [key l us] at h
        split at h
        · rename_i l1 h1
          cases h
          show put' (x :: (l ++ q)) (n + 1) us = _
          rw [key _ us, ih n us l1 q h1]; rfl
        · cases h
  induction pre with
  | nil => simpa using ha cs off ds cs' post h
  | cons x pre ih =>
    rw [List.length_cons, show pre.length + 1 + off = (pre.length + off) + 1 by omega]
    have key : ∀ (l : List Value) (n : Nat) (us : List Value), put' (x :: l) (n + 1) us = (match put' l n us with | some r => some (x :: r) | none => (none : Option (List Value))) := by
      intro l n us; cases us <;> rfl
    show put' (x :: (pre ++ cs ++ post)) _ _ = _
    rw [key, ih]; rfl
theorem put'_len {cs cs' ds : List Value} {off : Nat} (h : put' cs off ds = some cs') : cs'.length = cs.length := by
  obtain ⟨rfl, h2⟩ := put'_eq cs off ds cs' h
  simp only [List.length_append, List.length_take, List.length_drop]; omega
/-- what an element in place says -/
theorem Says.mid {H : Fz} {L L' : Own} {b o e : Nat} {pre cs post : List Value} {fr : Nat × Nat} (h : Sel L [(b, .cells (pre ++ cs ++ post).toArray e fr)] L') (ho : o = pre.length) : Says H L b o cs := by
  subst ho
  refine Says.ownArr h pre.length cs fun j v hj => ?_
  have hlt : j < cs.length := (List.getElem?_eq_some_iff.1 hj).1
  rw [List.getElem?_toArray, List.append_assoc, List.getElem?_append_right (by omega), Nat.add_sub_cancel_left, List.getElem?_append_left hlt]
  exact hj
section
variable {P : Program} {ops : Array Oper} {Q : Exit → Act → World → Prop} {rest : List Oper} {n : Nat} {l : Env} {H : Fz} {L : Own}
variable {d ty : Nat} {pos : String} {af : Array Edge}
/-- a store of one cell into an element in place -/
theorem stM {T b o off e : Nat} {pre cs cs' post : List Value} {x y : Operand} {v : Value} {L' : Own} (hz : ∀ w, (sizeOf T).run P w = .ok 1 w) (hx : get l x = some (.pointer (some ⟨b, o, none⟩))) (ho : o = pre.length + off) (hy : get l y = some v) (h1 : v.oneCell' = true) (hv : setAt cs off v = some cs') (hu : Upd L [(b, .cells (pre ++ cs ++ post).toArray e (0, 0))] [(b, .cells (pre ++ cs' ++ post).toArray e (0, 0))] L') (h : WL P ops Q rest n l H L') : WL P ops Q (⟨none, .store T x y, ty, pos, af, none⟩ :: rest) n l H L := by
  subst ho
  exact st hz hx hy h1 (setAt_mid hv pre post) hu h
/-- a store of a struct or an array into an element in place -/
theorem saM {T b o off e m : Nat} {pre cs cs' ds post : List Value} {x y : Operand} {L' : Own} (hz : ∀ w, (sizeOf T).run P w = .ok m w) (hx : get l x = some (.pointer (some ⟨b, o, none⟩))) (ho : o = pre.length + off) (hy : get l y = some (.agg ds.toArray)) (hm : ds.length = m) (h1 : ds.all (·.oneCell') = true) (hv : put' cs off ds = some cs') (hu : Upd L [(b, .cells (pre ++ cs ++ post).toArray e (0, 0))] [(b, .cells (pre ++ cs' ++ post).toArray e (0, 0))] L') (h : WL P ops Q rest n l H L') : WL P ops Q (⟨none, .store T x y, ty, pos, af, none⟩ :: rest) n l H L := by
  subst ho
  exact sa hz hx hy hm h1 (put'_mid hv pre post) hu h
end
end Go.Sx

/- What was written is told again: just its fields. -/
import Derived.Test.YtpcgaheplmiglaaGreatLibH
set_option linter.unusedVariables false
set_option linter.unusedSimpArgs false
namespace Go.Sx
def numK (kind n : Int) : Int := if kind = 0 then n % 2 else if kind = 1 then IntKind.i8.wrap n else if kind = 2 then IntKind.i16.wrap n else if kind = 3 then IntKind.i32.wrap n else if kind = 5 then IntKind.u16.wrap n else n
/-- Whether a field is as it is by default. -/
def uslF' (f : Fd) (sub : Bool) (x : Tr) : Bool :=
  if f.kind = 8 then (x.nul == decide (0 ≤ f.nul)) && x.s.isEmpty
  else if f.kind = 7 then x.s == List.replicate 16 0
  else if f.kind = 9 ∨ f.kind = 11 then x.s.isEmpty && x.l.isEmpty
  else if f.kind = 10 then (if 0 ≤ f.nul then x.nul else sub)
  else decide (x.n = numK f.kind f.df)
mutual
def uslF : Fd → Tr → Bool
  | .mk kind frm to nul tag df of sub, x => uslF' (.mk kind frm to nul tag df of sub) (x.u.isEmpty && uslFs sub 0 x) x
def uslFs : List Fd → Nat → Tr → Bool
  | [], _, _ => true
  | f :: r, i, x => uslF f (x.at i) && uslFs r (i + 1) x
end
def uslP (fs : List Fd) (x : Tr) : Bool := x.u.isEmpty && uslFs fs 0 x
theorem uslF_eq (f : Fd) (x : Tr) : uslF f x = uslF' f (uslP f.sub x) x := by cases f; rw [uslF]; rfl
/-- Whether what was set is told as this. -/
def toldV (kind : Int) (part : Tr → Tr → Bool) (t g : Tr) : Bool :=
  if kind = 8 ∨ kind = 9 then g.s == whole t.s
  else if kind = 7 then g.s == pad16 t.s
  else if kind = 10 then part t g
  else decide (g.n = numK kind t.n)
def toldAll (tell : Tr → Tr → Bool) : List Tr → List Tr → Bool
  | [], [] => true
  | t :: r, g :: q => tell t g && toldAll tell r q
  | _, _ => false
def toldE (kind : Int) (part : Tr → Tr → Bool) (t g : Tr) : Bool := if (decide (kind = 8) || decide (kind = 10)) && g.nul then false else toldV kind part t g
def toldF' (f : Fd) (part : Tr → Tr → Bool) (v : Int) (t g : Tr) : Bool :=
  if (decide (f.kind = 8) || decide (f.kind = 10) || (decide (0 ≤ f.nul) && decide (f.nul ≤ v))) && (g.nul != f.isNul v t) then false
  else if f.isNul v t then true
  else if f.kind = 11 then toldAll (toldE f.of part) t.things g.l
  else toldV f.kind part t g
def toldU (fs : List Fd) (flex : Bool) (t g : Tr) : Bool := g.u == if flex then (unknown fs t.u).map wholeTag else []
mutual
def toldF : Fd → Int → Bool → Tr → Tr → Bool
  | .mk kind frm to nul tag df of sub, v, flex, t, g => toldF' (.mk kind frm to nul tag df of sub) (fun t g => decide (g.l.length = sub.length) && toldFs sub v flex 0 t g && toldU sub flex t g) v t g
def toldFs : List Fd → Int → Bool → Nat → Tr → Tr → Bool
  | [], _, _, _, _, _ => true
  | f :: r, v, flex, i, t, g => (if (decide (f.tag < 0) && f.has v) || (decide (0 ≤ f.tag) && flex && !fieldU f (t.at i)) then toldF f v flex (t.at i) (g.at i) else uslF f (g.at i)) && toldFs r v flex (i + 1) t g
end
def toldP (fs : List Fd) (v : Int) (flex : Bool) (t g : Tr) : Bool := decide (g.l.length = fs.length) && toldFs fs v flex 0 t g && toldU fs flex t g
theorem toldF_eq (f : Fd) (v : Int) (flex : Bool) (t g : Tr) : toldF f v flex t g = toldF' f (toldP f.sub v flex) v t g := by cases f; rw [toldF]; rfl
/-! ### Numbers in range -/
inductive Ran : Tr → Prop
  | mk (t : Tr) (hn : -9223372036854775808 ≤ t.n ∧ t.n ≤ 9223372036854775807) (hu : ∀ x ∈ t.u, 0 ≤ x.1 ∧ x.1 < 4294967296) (hl : ∀ x ∈ t.l, Ran x) : Ran t
theorem Ran.n {t : Tr} (h : Ran t) : -9223372036854775808 ≤ t.n ∧ t.n ≤ 9223372036854775807 := by cases h; assumption
theorem Ran.u {t : Tr} (h : Ran t) : ∀ x ∈ t.u, 0 ≤ x.1 ∧ x.1 < 4294967296 := by cases h; assumption
theorem Ran.l {t : Tr} (h : Ran t) : ∀ x ∈ t.l, Ran x := by cases h; assumption
theorem Ran.none : Ran .none := .mk _ (by simp [Tr.n, Tr.none]) (fun x hx => by simp [Tr.u, Tr.none] at hx) (fun x hx => by simp [Tr.l, Tr.none] at hx)
theorem Ran.at {t : Tr} (h : Ran t) (i : Nat) : Ran (t.at i) := by
  unfold Tr.at
  cases hq : t.l[i]? with
  | none => exact Ran.none
  | some x => exact h.l x (List.mem_of_getElem? hq)
/-! ### Schemas that can be read back -/
def writes (v : Int) (flex : Bool) (fs : List Fd) : Bool := flex || fs.any fun g => decide (g.tag < 0) && g.has v && decide (g.kind ≠ 10)
structure FdOk (v : Int) (flex : Bool) (f : Fd) : Prop where
  tag : f.tag < 0
  kind : 0 ≤ f.kind ∧ f.kind ≤ 11
  nul : 0 ≤ f.nul → f.kind = 8 ∨ f.kind = 9 ∨ f.kind = 11
  of : f.kind = 11 → 0 ≤ f.of ∧ f.of ≤ 10 ∧ (f.of = 10 → f.has v = true → writes v flex f.sub = true)
  df : f.kind < 7 → f.df = numK f.kind f.df
inductive RdGood (v : Int) (flex : Bool) : List Fd → Prop
  | mk (fs : List Fd) (h : ∀ f ∈ fs, FdOk v flex f) (hr : ∀ f ∈ fs, RdGood v flex f.sub) : RdGood v flex fs
mutual
def rdF (v : Int) (flex : Bool) : Fd → Bool
  | .mk kind frm to nul tag df of sub => decide (tag < 0) && decide (0 ≤ kind) && decide (kind ≤ 11) && (decide (nul < 0) || decide (kind = 8) || decide (kind = 9) || decide (kind = 11)) &&
    (decide (kind ≠ 11) || (decide (0 ≤ of) && decide (of ≤ 10) && (decide (of ≠ 10) || !(Fd.mk kind frm to nul tag df of sub).has v || writes v flex sub))) && (decide (7 ≤ kind) || decide (df = numK kind df)) && rdFs v flex sub
def rdFs (v : Int) (flex : Bool) : List Fd → Bool
  | [] => true
  | f :: r => rdF v flex f && rdFs v flex r
end
theorem rdFs_mem {v : Int} {flex : Bool} : ∀ {fs : List Fd}, rdFs v flex fs = true → ∀ f ∈ fs, rdF v flex f = true
  | [], _, f, hf => by cases hf
  | g :: r, h, f, hf => by
    rw [rdFs, Bool.and_eq_true] at h
    rcases List.mem_cons.1 hf with rfl | hf
    · exact h.1
    · exact rdFs_mem h.2 f hf
theorem rdF_ok {v : Int} {flex : Bool} {f : Fd} (h : rdF v flex f = true) : FdOk v flex f ∧ rdFs v flex f.sub = true := by
  cases f
  rw [rdF] at h
  simp only [Bool.and_eq_true, Bool.or_eq_true, decide_eq_true_eq, Bool.not_eq_true'] at h
  obtain ⟨⟨⟨⟨⟨⟨h1, h2⟩, h3⟩, h4⟩, h5⟩, h6⟩, h7⟩ := h
  refine ⟨⟨h1, ⟨h2, h3⟩, fun h => ?_, fun h => ?_, fun h => ?_⟩, h7⟩
  · simp only [Fd.nul, Fd.kind] at h ⊢; omega
  · simp only [Fd.kind, Fd.of, Fd.sub] at h ⊢
    rcases h5 with h5 | ⟨⟨h5, h8⟩, h9⟩
    · exact absurd h h5
    · refine ⟨h5, h8, fun h10 hh => ?_⟩
      rcases h9 with (h9 | h9) | h9
      · exact absurd h10 h9
      · rw [h9] at hh; cases hh
      · exact h9
  · simp only [Fd.kind, Fd.df] at h ⊢
    rcases h6 with h6 | h6
    · omega
    · exact h6
theorem rdGood_of {v : Int} {flex : Bool} : ∀ (n : Nat) (fs : List Fd), SizeOf.sizeOf fs ≤ n → rdFs v flex fs = true → RdGood v flex fs
  | 0, fs, hn, _ => by cases fs <;> simp at hn <;> omega
  | n + 1, fs, hn, h => by
    refine .mk fs (fun f hf => (rdF_ok (rdFs_mem h f hf)).1) (fun f hf => ?_)
    have h2 := List.sizeOf_lt_of_mem hf
    refine rdGood_of n f.sub ?_ (rdF_ok (rdFs_mem h f hf)).2
    cases f; simp [Fd.sub] at h2 ⊢; omega
theorem RdGood.of {v : Int} {flex : Bool} {fs : List Fd} (h : rdFs v flex fs = true) : RdGood v flex fs := rdGood_of _ fs (Nat.le_refl _) h
theorem RdGood.known {v : Int} {flex : Bool} {fs : List Fd} (h : RdGood v flex fs) : Go.Sx.known fs = 0 := by
  cases h with
  | mk _ h _ =>
    have : ∀ l : List Fd, (∀ f ∈ l, f.tag < 0) → Go.Sx.known l = 0 := by
      intro l
      induction l with
      | nil => intro _; rfl
      | cons f r ih => intro h; simp only [Go.Sx.known]; rw [ih (fun g hg => h g (List.mem_cons_of_mem _ hg)), if_neg (by have := h f List.mem_cons_self; omega)]; rfl
    exact this fs fun f hf => (h f hf).tag
/-! ### What is written, one field after another -/
def plainR (v : Int) (flex : Bool) (t : Tr) : List Fd → Nat → List UInt8
  | [], _ => []
  | f :: r, i => (if decide (f.tag < 0) && f.has v then fieldB f v flex (t.at i) else []) ++ plainR v flex t r (i + 1)
theorem plainR_zip (v : Int) (flex : Bool) (t : Tr) : ∀ (fs : List Fd) (i : Nat), (fs.zip (fieldsB fs v flex i t)).flatMap (pieceP v) = plainR v flex t fs i
  | [], i => by simp [plainR]
  | f :: r, i => by
    rw [fieldsB, List.zip_cons_cons, List.flatMap_cons, plainR_zip v flex t r (i + 1), plainR]
    rfl
theorem plainTo_all (fs : List Fd) (v : Int) (flex : Bool) (t : Tr) : plainTo (zipped fs v flex t) v fs.length = plainR v flex t fs 0 := by
  unfold plainTo
  rw [List.take_of_length_le (by rw [zipped_length]; exact Nat.le_refl _)]
  exact plainR_zip v flex t fs 0
theorem partB_R {fs : List Fd} {v : Int} {flex : Bool} {t : Tr} (hk : known fs = 0) : partB fs v flex t = plainR v flex t fs 0 ++ if flex then uvar (unknown fs t.u).length ++ ((unknown fs t.u).map fun p => tagB p.1.toNat (whole p.2)).flatten else [] := by
  cases flex with
  | false => rw [partB_false, plainTo_all]; simp
  | true =>
    rw [partB_true, plainTo_all, hk, tagsTo_zero]
    simp [unkTo]
theorem counted_pos (flex nul : Bool) (n size : Nat) (hs : 0 < size) : 0 < (counted flex nul n size).length := by
  unfold counted
  split
  · simp
  · split
    · exact uvar_pos _
    · split <;> (rw [fixed_length]; exact hs)
theorem width_pos (k : Int) : 0 < width k := by unfold width; split <;> (try split) <;> (try split) <;> omega
theorem valueB_pos {kind : Int} {part : Tr → List UInt8} {nul flex : Bool} {t : Tr} (h : kind = 10 → 0 < (part t).length) : 0 < (valueB kind part nul flex t).length := by
  unfold valueB
  split
  · simp
  · split
    · have := pad16_len t.s; unfold pad16 at this; rw [this]; decide
    · split
      · have := counted_pos flex nul (if nul then [] else whole t.s).length 2 (by decide); rw [List.length_append]; omega
      · split
        · have := counted_pos flex nul (if nul then [] else whole t.s).length 4 (by decide); rw [List.length_append]; omega
        · split
          · exact h (by assumption)
          · rw [fixed_length]; exact width_pos _
theorem fieldB_pos {f : Fd} {v : Int} {flex : Bool} {t : Tr} (h : f.kind ≠ 10) : 0 < (fieldB f v flex t).length := by
  rw [fieldB_eq]; unfold fieldB'
  split
  · simp only [List.length_append]; have := counted_pos flex (f.isNul v t) (if f.isNul v t then [] else t.things).length 4 (by decide); omega
  · rw [if_neg (fun hh => h hh.1)]; exact valueB_pos (fun hh => absurd hh h)
theorem writes_pos {fs : List Fd} {v : Int} {flex : Bool} (hk : known fs = 0) (h : writes v flex fs = true) (t : Tr) : 0 < (partB fs v flex t).length := by
  rw [partB_R hk]
  cases flex with
  | true => have := uvar_pos (unknown fs t.u).length; simp only [if_true, List.length_append]; omega
  | false =>
    simp only [writes, Bool.false_or] at h
    have : ∀ (l : List Fd) (i : Nat), (l.any fun g => decide (g.tag < 0) && g.has v && decide (g.kind ≠ 10)) = true → 0 < (plainR v false t l i).length := by
      intro l
      induction l with
      | nil => intro i h; simp at h
      | cons f r ih =>
        intro i h
        simp only [List.any_cons, Bool.or_eq_true, Bool.and_eq_true, decide_eq_true_eq] at h
        simp only [plainR, List.length_append]
        rcases h with ⟨⟨h1, h2⟩, h3⟩ | h
        · rw [if_pos (by simp [h1, h2])]; have := fieldB_pos (f := f) (v := v) (flex := false) (t := t.at i) h3; omega
        · have := ih (i + 1) (by simpa using h); omega
    have := this fs 0 h
    rw [List.length_append]; omega
/-! ### Reading back -/
section
variable {v : Int} {flex : Bool}
/-- What is asked of a part that is read back. -/
def Backs (pB : Tr → List UInt8) (rd : Rd → Tr × Rd) (told : Tr → Tr → Bool) : Prop := ∀ t, Ran t → ∀ nn r, ∃ g nn', rd ⟨pB t ++ r, false, nn⟩ = (g, ⟨r, false, nn'⟩) ∧ told t g = true ∧ g.nul = false
theorem whole_le' (s : List UInt8) : (whole s).length ≤ 32767 := by rw [whole_len]; omega
section
variable {pB : Tr → List UInt8} {rd : Rd → Tr × Rd} {told : Tr → Tr → Bool} {may nul : Bool} {t g : Tr} {r : Rd}
theorem vB0 : valueB 0 pB nul flex t = [byte (t.n % 2)] := rfl
theorem vB7 : valueB 7 pB nul flex t = pad16 t.s := rfl
theorem vB8 : valueB 8 pB nul flex t = counted flex nul (if nul then [] else whole t.s).length 2 ++ (if nul then [] else whole t.s) := rfl
theorem vB9 : valueB 9 pB nul flex t = counted flex nul (if nul then [] else whole t.s).length 4 ++ (if nul then [] else whole t.s) := rfl
theorem vB10 : valueB 10 pB nul flex t = pB t := rfl
theorem tV8 {k : Int} (h : k = 8 ∨ k = 9) : toldV k told t g = (g.s == whole t.s) := by unfold toldV; rw [if_pos h]
theorem tV7 : toldV 7 told t g = (g.s == pad16 t.s) := rfl
theorem tV10 : toldV 10 told t g = told t g := rfl
theorem tVn {k : Int} (h7 : k ≠ 7) (h8 : k ≠ 8) (h9 : k ≠ 9) (h10 : k ≠ 10) : toldV k told t g = decide (g.n = numK k t.n) := by unfold toldV; rw [if_neg (by omega), if_neg h7, if_neg h10]
end
theorem back_value {kind : Int} {pB : Tr → List UInt8} {rd : Rd → Tr × Rd} {told : Tr → Tr → Bool} (hk : 0 ≤ kind ∧ kind ≤ 10) (hp : kind = 10 → Backs pB rd told) {may nul : Bool} (hm : nul = true → may = true) (h8 : may = true → kind = 8 ∨ kind = 9) {t : Tr} (ht : Ran t) (nn : Bool) (r : List UInt8) :
    ∃ g nn', decV kind rd may flex ⟨valueB kind pB nul flex t ++ r, false, nn⟩ = (g, ⟨r, false, nn'⟩) ∧ (kind = 8 ∨ kind = 10 ∨ may = true → g.nul = nul) ∧ (nul = false → toldV kind told t g = true) := by
  by_cases hk8 : kind = 8
  · subst hk8
    rw [vB8, dV8, List.append_assoc, rLen_counted (by cases nul <;> simp [whole_le']) (Or.inl rfl)]
    cases nul with
    | true =>
      rw [hm rfl]
      exact ⟨_, _, rfl, fun _ => rfl, fun h => by cases h⟩
    | false =>
      simp only [Bool.false_eq_true, if_false]
      rw [if_neg (by simp), rSpan_app]
      exact ⟨_, _, rfl, fun _ => rfl, fun _ => by rw [tV8 (Or.inl rfl)]; simp [Tr.s]⟩
  by_cases hk9 : kind = 9
  · subst hk9
    rw [vB9, dV9 rfl, List.append_assoc, rLen_counted (by cases nul <;> simp [whole_le']) (Or.inr rfl)]
    simp only []
    cases nul with
    | true =>
      rw [hm rfl]
      exact ⟨_, _, rfl, fun _ => rfl, fun h => by cases h⟩
    | false =>
      simp only [Bool.false_eq_true, if_false]
      rw [rSpan_app]
      cases may with
      | true =>
        rw [if_pos rfl, if_neg (by omega)]
        exact ⟨_, _, rfl, fun _ => rfl, fun _ => by rw [tV8 (Or.inr rfl)]; simp [Tr.s]⟩
      | false =>
        rw [if_neg (by decide), if_neg (by omega)]
        exact ⟨_, _, rfl, fun h => by simp at h, fun _ => by rw [tV8 (Or.inr rfl)]; simp [Tr.s]⟩
  have hmy : may = false := by
    cases hn : may with
    | false => rfl
    | true => rcases h8 hn with h | h <;> contradiction
  subst hmy
  have hn : nul = false := by
    cases hn : nul with
    | false => rfl
    | true => have := hm hn; cases this
  subst hn
  have no : ¬ (kind = 8 ∨ kind = 10 ∨ false = true → False) → kind = 10 := fun h => by
    have := Classical.not_imp.1 h
    rcases this.1 with h | h | h
    · contradiction
    · exact h
    · cases h
  by_cases hk10 : kind = 10
  · subst hk10
    rw [vB10, dV10]
    obtain ⟨g, nn', h1, h2, h3⟩ := hp rfl t ht nn r
    exact ⟨g, nn', h1, fun _ => h3, fun _ => h2⟩
  by_cases h7 : kind = 7
  · subst h7
    rw [vB7, dV7]
    have hl := pad16_len t.s
    have hs := rSpan_app (pad16 t.s) r false nn
    rw [hl] at hs
    rw [hs]
    refine ⟨_, _, rfl, fun h => by simp at h, fun _ => ?_⟩
    have e : pad16 (pad16 t.s) = pad16 t.s := by
      generalize pad16 t.s = x at hl
      unfold pad16
      rw [List.take_of_length_le (by omega)]; simp [hl]
    rw [tV7]; show (pad16 (pad16 t.s) == pad16 t.s) = true; rw [e]; simp
  by_cases h0 : kind = 0
  · subst h0
    rw [vB0, dV0, rN_app (w := 1) (x := [byte (t.n % 2)]) false nn rfl]
    have e : ((beN [byte (t.n % 2)] : Nat) : Int) = t.n % 2 := by
      have := byte_mod (t.n % 2)
      simp [beN]; omega
    refine ⟨_, _, rfl, fun h => by simp at h, fun _ => ?_⟩
    rw [tVn h7 hk8 hk9 hk10]
    simp only [numK, if_true, decide_eq_true_eq]; show (if _ then (0 : Int) else 1) = _; split <;> omega
  have hv : valueB kind pB false flex t = fixed t.n (width kind) := by unfold valueB; rw [if_neg h0, if_neg h7, if_neg hk8, if_neg hk9, if_neg hk10]
  have hr := ht.n
  rw [hv]
  have hc : kind = 1 ∨ kind = 2 ∨ kind = 3 ∨ kind = 5 ∨ (kind = 4 ∨ kind = 6) := by omega
  rcases hc with rfl | rfl | rfl | rfl | hc
  · rw [dV1, show width 1 = 1 from rfl, rN_fixed]
    exact ⟨_, _, rfl, fun h => by simp at h, fun _ => by rw [tVn h7 hk8 hk9 hk10]; simp [Tr.n, back8, numK]⟩
  · rw [dV2, show width 2 = 2 from rfl, rN_fixed]
    exact ⟨_, _, rfl, fun h => by simp at h, fun _ => by rw [tVn h7 hk8 hk9 hk10]; simp [Tr.n, back16, numK]⟩
  · rw [dV3, show width 3 = 4 from rfl, rN_fixed]
    exact ⟨_, _, rfl, fun h => by simp at h, fun _ => by rw [tVn h7 hk8 hk9 hk10]; simp [Tr.n, back32, numK]⟩
  · rw [dV5, show width 5 = 2 from rfl, rN_fixed]
    exact ⟨_, _, rfl, fun h => by simp at h, fun _ => by rw [tVn h7 hk8 hk9 hk10]; simp [Tr.n, backU16, numK]⟩
  · rw [dV4 hc, show width kind = 8 by rcases hc with rfl | rfl <;> rfl, rN_fixed]
    refine ⟨_, _, rfl, fun h => ?_, fun _ => ?_⟩
    · rcases h with h | h | h
      · contradiction
      · contradiction
      · cases h
    · rw [tVn h7 hk8 hk9 hk10]
      have e : numK kind t.n = t.n := by rcases hc with rfl | rfl <;> rfl
      rw [e]; simp only [Tr.n, back64]; exact decide_eq_true (w64 hr.1 hr.2)
theorem back_many {d : Rd → Tr × Rd} {B : Tr → List UInt8} {tell : Tr → Tr → Bool} : ∀ (l : List Tr), (∀ t ∈ l, ∀ nn r, ∃ g nn', d ⟨B t ++ r, false, nn⟩ = (g, ⟨r, false, nn'⟩) ∧ tell t g = true) → ∀ nn r, ∃ gs nn', rMany d l.length ⟨l.flatMap B ++ r, false, nn⟩ = (gs, ⟨r, false, nn'⟩) ∧ toldAll tell l gs = true
  | [], _, nn, r => ⟨[], nn, rfl, rfl⟩
  | t :: l, h, nn, r => by
    obtain ⟨g, nn1, h1, h2⟩ := h t List.mem_cons_self nn (l.flatMap B ++ r)
    obtain ⟨gs, nn2, h3, h4⟩ := back_many l (fun t ht => h t (List.mem_cons_of_mem _ ht)) nn1 r
    refine ⟨g :: gs, nn2, ?_, by simp [toldAll, h2, h4]⟩
    simp only [List.length_cons, rMany, List.flatMap_cons, List.append_assoc]
    rw [h1]; simp only []; rw [h3]
theorem flatMap_ge {B : Tr → List UInt8} : ∀ (l : List Tr), (∀ t ∈ l, 0 < (B t).length) → l.length ≤ (l.flatMap B).length
  | [], _ => by simp
  | t :: l, h => by
    have h1 := h t List.mem_cons_self
    have h2 := flatMap_ge l (fun t ht => h t (List.mem_cons_of_mem _ ht))
    simp only [List.length_cons, List.flatMap_cons, List.length_append]; omega
theorem things_mem {t x : Tr} (h : x ∈ t.things) : x ∈ t.l := List.mem_of_mem_take h
theorem things_len (t : Tr) : t.things.length ≤ 32767 := by unfold Tr.things; rw [take_most_len]; omega
theorem back_field {f : Fd} {pB : Tr → List UInt8} {rd : Rd → Tr × Rd} {told : Tr → Tr → Bool} (hf : FdOk v flex f) (hh : f.has v = true) (hp : Backs pB rd told) (hw : f.kind = 11 → f.of = 10 → ∀ t, 0 < (pB t).length) {t : Tr} (ht : Ran t) (nn : Bool) (r : List UInt8) :
    ∃ g nn', decF' f rd v flex ⟨fieldB' f pB v flex t ++ r, false, nn⟩ = (g, ⟨r, false, nn'⟩) ∧ toldF' f told v t g = true := by
  have hnm : f.isNul v t = true → (decide (0 ≤ f.nul) && decide (f.nul ≤ v)) = true := fun h => by
    unfold Fd.isNul at h
    simp only [Bool.and_eq_true] at h ⊢
    exact ⟨h.1.2, h.2⟩
  by_cases h11 : f.kind = 11
  · obtain ⟨ho0, ho1, _⟩ := hf.of h11
    unfold decF' fieldB' toldF'
    rw [if_pos h11, if_pos h11]
    simp only []
    have hlen : (if f.isNul v t then [] else t.things).length ≤ 32767 := by
      split
      · simp
      · exact things_len t
    have hge : f.isNul v t = false → (if f.isNul v t then [] else t.things).length ≤ ((if f.isNul v t then [] else t.things).flatMap (valueB f.of pB false flex) ++ r).length := fun _ => by
      have := flatMap_ge (B := valueB f.of pB false flex) (if f.isNul v t then [] else t.things) (fun x _ => valueB_pos (fun h10 => hw h11 h10 x))
      rw [List.length_append]; omega
    rw [List.append_assoc, rArr_counted hlen _ hge]
    obtain ⟨gs, nn', h1, h2⟩ := back_many (d := decV f.of rd false flex) (B := valueB f.of pB false flex) (tell := toldE f.of told) (if f.isNul v t then [] else t.things) (fun x hx nn r => by
      have hx' : x ∈ t.l := by
        split at hx
        · cases hx
        · exact things_mem hx
      obtain ⟨g, nn', g1, g2, g3⟩ := back_value (kind := f.of) ⟨ho0, ho1⟩ (fun _ => hp) (may := false) (nul := false) (fun h => by cases h) (fun h => by cases h) (ht.l x hx') nn r
      refine ⟨g, nn', g1, ?_⟩
      unfold toldE
      by_cases h8 : f.of = 8 ∨ f.of = 10
      · have : g.nul = false := g2 (by omega)
        rw [this, if_neg (by simp)]; exact g3 rfl
      · rw [if_neg (by simp; omega)]; exact g3 rfl) true r
    cases hn : f.isNul v t with
    | true =>
      have hm := hnm hn
      simp only [Bool.and_eq_true, decide_eq_true_eq] at hm
      refine ⟨_, true, rfl, ?_⟩
      have e : (if 0 ≤ f.nul ∧ (v < f.nul ∨ ((if true = true then (-1 : Int) else ((if true = true then ([] : List Tr) else t.things).length : Int)) = 0)) then false else decide ((if true = true then (-1 : Int) else ((if true = true then ([] : List Tr) else t.things).length : Int)) ≤ 0)) = true := by
        simp only [if_true]
        rw [if_neg (by omega)]; rfl
      rw [e]
      simp [Tr.nul]
    | false =>
      rw [hn] at h1 h2
      simp only [Bool.false_eq_true, if_false] at h1 h2 ⊢
      simp only [Int.toNat_natCast]
      rw [h1]
      refine ⟨_, _, rfl, ?_⟩
      rw [if_pos h11]
      show (if (_ && ((if 0 ≤ f.nul ∧ (v < f.nul ∨ (t.things.length : Int) = 0) then false else decide ((t.things.length : Int) ≤ 0)) != false)) = true then false else toldAll (toldE f.of told) t.things gs) = true
      rw [h2]
      by_cases hm : 0 ≤ f.nul ∧ f.nul ≤ v
      · by_cases hz : (t.things.length : Int) = 0
        · rw [if_pos (show 0 ≤ f.nul ∧ (v < f.nul ∨ (t.things.length : Int) = 0) from ⟨hm.1, .inr hz⟩)]; simp
        · rw [if_neg (show ¬ (0 ≤ f.nul ∧ (v < f.nul ∨ (t.things.length : Int) = 0)) by omega)]
          have : ¬ ((t.things.length : Int) ≤ 0) := by omega
          rw [decide_eq_false this]; simp
      · have : (decide (0 ≤ f.nul) && decide (f.nul ≤ v)) = false := by simp; omega
        rw [this, h11]; simp
  · unfold decF' fieldB' toldF'
    rw [if_neg h11, if_neg h11]
    have h10 : ¬ (f.kind = 10 ∧ 0 ≤ f.nul) := fun ⟨h1, h2⟩ => by have := hf.nul h2; omega
    rw [if_neg h10]
    have hk := hf.kind
    obtain ⟨g, nn', g1, g2, g3⟩ := back_value (kind := f.kind) (flex := flex) (pB := pB) (told := told) ⟨hk.1, by omega⟩ (fun _ => hp) (may := decide (0 ≤ f.nul) && decide (f.nul ≤ v)) (nul := f.isNul v t) hnm (fun h => by
      simp only [Bool.and_eq_true, decide_eq_true_eq] at h
      have := hf.nul h.1; omega) ht nn r
    refine ⟨g, nn', g1, ?_⟩
    have e : ((decide (f.kind = 8) || decide (f.kind = 10) || (decide (0 ≤ f.nul) && decide (f.nul ≤ v))) && (g.nul != f.isNul v t)) = false := by
      cases hq : (decide (f.kind = 8) || decide (f.kind = 10) || (decide (0 ≤ f.nul) && decide (f.nul ≤ v))) with
      | false => rfl
      | true =>
        simp only [Bool.or_eq_true, decide_eq_true_eq] at hq
        rw [g2 (by rcases hq with (h | h) | h <;> simp [h])]; simp
    rw [e]
    cases hn : f.isNul v t with
    | true => rfl
    | false => simpa [h11] using g3 hn
end
/-! ### What is there by default -/
theorem dflFs_get : ∀ (fs : List Fd) (j : Nat), (dflFs fs)[j]? = fs[j]?.map dflF
  | [], j => by simp [dflFs]
  | f :: r, 0 => by simp [dflFs]
  | f :: r, j + 1 => by simp [dflFs, dflFs_get r j]
theorem uslFs_of : ∀ (fs : List Fd) (i : Nat) (x : Tr), (∀ j (hj : j < fs.length), uslF fs[j] (x.at (i + j)) = true) → uslFs fs i x = true
  | [], _, _, _ => by rw [uslFs]
  | f :: r, i, x, h => by
    rw [uslFs, Bool.and_eq_true]
    refine ⟨by have := h 0 (by simp); simpa using this, uslFs_of r (i + 1) x fun j hj => ?_⟩
    have := h (j + 1) (by simpa using hj)
    rw [show i + 1 + j = i + (j + 1) by omega]; simpa using this
theorem at_get {x g : Tr} {i : Nat} (h : x.l[i]? = some g) : x.at i = g := by unfold Tr.at; rw [h]; rfl
theorem usl_dfl {v : Int} {flex : Bool} {fs : List Fd} (h : RdGood v flex fs) : ∀ f ∈ fs, uslF f (dflF f) = true := by
  induction h with
  | mk fs h hr ih =>
    intro f hf
    have hk := h f hf
    rw [uslF_eq, dflF_eq]
    unfold uslF' dflF'
    by_cases h8 : f.kind = 8
    · rw [if_pos h8, if_neg (by omega), if_pos h8]; simp [Tr.nul, Tr.s]
    by_cases h7 : f.kind = 7
    · rw [if_neg h8, if_pos h7, if_pos h7]; simp [Tr.s]
    by_cases h9 : f.kind = 9 ∨ f.kind = 11
    · rw [if_neg h8, if_neg h7, if_pos h9, if_neg h7, if_neg h8, if_pos h9]; simp [Tr.s, Tr.l]
    by_cases h10 : f.kind = 10
    · rw [if_neg h8, if_neg h7, if_neg h9, if_pos h10, if_neg h7, if_neg h8, if_neg h9, if_pos h10]
      rw [if_neg (fun h0 => by have := hk.nul h0; omega)]
      unfold uslP
      rw [Bool.and_eq_true]
      refine ⟨rfl, uslFs_of _ _ _ fun j hj => ?_⟩
      have : (Tr.mk 0 [] false (dflFs f.sub) []).at (0 + j) = dflF f.sub[j] := at_get (by show (dflFs f.sub)[0 + j]? = _; rw [dflFs_get]; simp [hj])
      rw [this]
      exact ih f hf _ (List.getElem_mem hj)
    · rw [if_neg h8, if_neg h7, if_neg h9, if_neg h10, if_neg h7, if_neg h8, if_neg h9, if_neg h10]
      have := hk.kind
      exact decide_eq_true (hk.df (by omega))
/-! ### Tags -/
theorem setTag_last {k : Int} {v : List UInt8} : ∀ {l : List (Int × List UInt8)}, (∀ p ∈ l, p.1 < k) → setTag k v l = l ++ [(k, v)]
  | [], _ => rfl
  | (k', v') :: r, h => by
    simp only [setTag]
    rw [if_pos (h _ List.mem_cons_self), setTag_last (fun p hp => h p (List.mem_cons_of_mem _ hp))]; rfl
theorem back_tagsN : ∀ (us acc : List (Int × List UInt8)) (r : List UInt8) (nn : Bool), (∀ p ∈ us, 0 ≤ p.1 ∧ p.1 < 4294967296) → SortedU us → (∀ p ∈ acc, ∀ q ∈ us, p.1 < q.1) →
    ∃ nn', rTagsN us.length acc ⟨(us.map fun p => tagB p.1.toNat (whole p.2)).flatten ++ r, false, nn⟩ = (acc ++ us.map wholeTag, ⟨r, false, nn'⟩)
  | [], acc, r, nn, _, _, _ => ⟨nn, by simp [rTagsN]⟩
  | p :: us, acc, r, nn, hr, hs, ha => by
    obtain ⟨h0, h1⟩ := hr p List.mem_cons_self
    obtain ⟨hs1, hs2⟩ := List.pairwise_cons.1 hs
    have hk : ((p.1.toNat : Nat) : Int) = p.1 := by omega
    obtain ⟨nn', ih⟩ := back_tagsN us (acc ++ [(p.1, whole p.2)]) r true (fun q hq => hr q (List.mem_cons_of_mem _ hq)) hs2 (fun q hq z hz => by
      rcases List.mem_append.1 hq with hq | hq
      · exact ha q hq z (List.mem_cons_of_mem _ hz)
      · rw [List.mem_singleton.1 hq]; exact hs1 z hz)
    refine ⟨nn', ?_⟩
    simp only [List.length_cons, List.map_cons, List.flatten_cons, rTagsN]
    rw [show ∀ X : List UInt8, tagB p.1.toNat (whole p.2) ++ (List.map (fun p => tagB p.1.toNat (whole p.2)) us).flatten ++ X = uvar p.1.toNat ++ (uvar (whole p.2).length ++ (whole p.2 ++ ((List.map (fun p => tagB p.1.toNat (whole p.2)) us).flatten ++ X))) from fun X => by simp only [tagB, List.append_assoc]]
    rw [rU_uvar (by omega)]
    simp only []
    have hw := whole_le' p.2
    rw [rU_uvar (by omega)]
    simp only []
    rw [rSpan_app]
    simp only [hk]
    rw [setTag_last (fun q hq => ha q hq p List.mem_cons_self), ih]
    simp [wholeTag]
theorem back_tags {us : List (Int × List UInt8)} (hr : ∀ p ∈ us, 0 ≤ p.1 ∧ p.1 < 4294967296) (hs : SortedU us) (hn : us.length ≤ 32767) (r : List UInt8) (nn : Bool) :
    ∃ nn', rTags ⟨uvar us.length ++ ((us.map fun p => tagB p.1.toNat (whole p.2)).flatten ++ r), false, nn⟩ = (us.map wholeTag, ⟨r, false, nn'⟩) := by
  obtain ⟨nn', h⟩ := back_tagsN us [] r true hr hs (fun p hp => by cases hp)
  refine ⟨nn', ?_⟩
  unfold rTags
  rw [rU_uvar (by omega)]
  simpa using h
/-! ### A part -/
theorem back_fs {v : Int} {flex : Bool} {t : Tr} (ht : Ran t) : ∀ (fs : List Fd) (i : Nat), (∀ f ∈ fs, f.tag < 0 ∧ (f.has v = true → ∀ t, Ran t → ∀ nn r, ∃ g nn', decF f v flex ⟨fieldB f v flex t ++ r, false, nn⟩ = (g, ⟨r, false, nn'⟩) ∧ toldF f v flex t g = true) ∧ uslF f (dflF f) = true) →
    ∀ nn r, ∃ gs nn', decFs fs v flex ⟨plainR v flex t fs i ++ r, false, nn⟩ = (gs, ⟨r, false, nn'⟩) ∧ gs.length = fs.length ∧ ∀ g : Tr, (∀ j (hj : j < gs.length), g.at (i + j) = gs[j]) → toldFs fs v flex i t g = true
  | [], i, _, nn, r => ⟨[], nn, by rw [decFs]; simp [plainR], rfl, fun g _ => by rw [toldFs]⟩
  | f :: fs, i, h, nn, r => by
    obtain ⟨h1, h2, h3⟩ := h f List.mem_cons_self
    have hrest := back_fs ht fs (i + 1) (fun f hf => h f (List.mem_cons_of_mem _ hf))
    rw [plainR, decFs]
    cases hh : f.has v with
    | true =>
      have e : (decide (f.tag < 0) && true) = true := by simp [h1]
      rw [e, if_pos rfl, if_pos rfl, List.append_assoc]
      obtain ⟨g, nn1, g1, g2⟩ := h2 hh (t.at i) (ht.at i) nn (plainR v flex t fs (i + 1) ++ r)
      rw [g1]
      obtain ⟨gs, nn2, g3, g4, g5⟩ := hrest nn1 r
      simp only []
      rw [g3]
      refine ⟨g :: gs, nn2, rfl, by simp [g4], fun x hx => ?_⟩
      rw [toldFs, hh, e, Bool.true_or, if_pos rfl, Bool.and_eq_true]
      refine ⟨?_, g5 x fun j hj => ?_⟩
      · have := hx 0 (by simp); simp only [Nat.add_zero, List.getElem_cons_zero] at this; rw [this]; exact g2
      · have := hx (j + 1) (by simpa using hj); rw [show i + 1 + j = i + (j + 1) by omega]; simpa using this
    | false =>
      have e : (decide (f.tag < 0) && false) = false := by simp
      rw [e, if_neg (by decide), if_neg (by decide), List.nil_append]
      obtain ⟨gs, nn2, g3, g4, g5⟩ := hrest nn r
      rw [g3]
      refine ⟨dflF f :: gs, nn2, rfl, by simp [g4], fun x hx => ?_⟩
      have e2 : (decide (0 ≤ f.tag) && flex && !fieldU f (t.at i)) = false := by simp [show ¬ 0 ≤ f.tag by omega]
      rw [toldFs, hh, e, e2, Bool.false_or, if_neg (by decide), Bool.and_eq_true]
      refine ⟨?_, g5 x fun j hj => ?_⟩
      · have := hx 0 (by simp); simp only [Nat.add_zero, List.getElem_cons_zero] at this; rw [this]; exact h3
      · have := hx (j + 1) (by simpa using hj); rw [show i + 1 + j = i + (j + 1) by omega]; simpa using this
theorem read_back {v : Int} {flex : Bool} {fs : List Fd} (h : RdGood v flex fs) : Backs (partB fs v flex) (decP fs v flex) (toldP fs v flex) := by
  have hu := usl_dfl h
  have hkn := h.known
  induction h with
  | mk fs h hr ih =>
    intro t ht nn r
    have hfs : ∀ f ∈ fs, f.tag < 0 ∧ (f.has v = true → ∀ t, Ran t → ∀ nn r, ∃ g nn', decF f v flex ⟨fieldB f v flex t ++ r, false, nn⟩ = (g, ⟨r, false, nn'⟩) ∧ toldF f v flex t g = true) ∧ uslF f (dflF f) = true := by
      intro f hf
      refine ⟨(h f hf).tag, fun hh t ht nn r => ?_, hu f hf⟩
      rw [decF_eq, fieldB_eq]
      simp only [toldF_eq]
      refine back_field (h f hf) hh (ih f hf (usl_dfl (hr f hf)) (hr f hf).known) (fun h11 h10 t => ?_) ht nn r
      exact writes_pos (hr f hf).known (((h f hf).of h11).2.2 h10 hh) t
    rw [partB_R hkn]
    unfold decP
    simp only []
    cases flex with
    | false =>
      obtain ⟨gs, nn', g1, g2, g3⟩ := back_fs ht fs 0 hfs nn r
      simp only [Bool.false_eq_true, if_false, List.append_nil] at g1 ⊢
      rw [g1]
      refine ⟨_, nn', rfl, ?_, rfl⟩
      unfold toldP toldU
      simp only [Bool.and_eq_true, decide_eq_true_eq]
      exact ⟨⟨g2, g3 _ fun j hj => at_get (by show gs[0 + j]? = _; simp [hj])⟩, rfl⟩
    | true =>
      obtain ⟨gs, nn1, g1, g2, g3⟩ := back_fs ht fs 0 hfs nn (uvar (unknown fs t.u).length ++ (((unknown fs t.u).map fun p => tagB p.1.toNat (whole p.2)).flatten ++ r))
      obtain ⟨nn2, g4⟩ := back_tags (us := unknown fs t.u) (fun p hp => ht.u p (mem_unknown hp)) (unknown_sorted fs t.u) (unknown_len fs t.u) r nn1
      simp only [if_true, List.append_assoc] at g1 ⊢
      rw [g1]
      simp only []
      rw [g4]
      refine ⟨_, nn2, rfl, ?_, rfl⟩
      unfold toldP toldU
      simp only [Bool.and_eq_true, decide_eq_true_eq]
      exact ⟨⟨g2, g3 _ fun j hj => at_get (by show gs[0 + j]? = _; simp [hj])⟩, by simp [Tr.u]⟩
end Go.Sx

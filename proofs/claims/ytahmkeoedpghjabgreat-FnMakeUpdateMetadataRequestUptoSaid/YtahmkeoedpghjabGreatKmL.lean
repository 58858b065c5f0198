/- How a message's rows lie in memory; what each kind of field is written as. -/
import Derived.Test.YtahmkeoedpghjabGreatKB
set_option linter.unusedVariables false
set_option linter.unusedSimpArgs false
namespace Go.Sx
structure RowsAt (H : Fz) (a : Option Addr) (cap size : Nat) (R : Fz → Tr → List Value → Prop) (l : List Tr) : Prop where
  at_ : l ≠ [] → ∃ b o, a = some ⟨b, o, none⟩ ∧ ∀ i (hi : i < l.length), ∃ cs, R H l[i] cs ∧ H.at b (o + i * size) cs
  cap : l.length ≤ cap
def RMono (R : Fz → Tr → List Value → Prop) : Prop := ∀ H H' T cs, H.le H' → R H T cs → R H' T cs
theorem RowsAt.mono {H H' : Fz} {a : Option Addr} {cap size : Nat} {R : Fz → Tr → List Value → Prop} {l : List Tr} (h : RowsAt H a cap size R l) (hR : RMono R) (hle : H.le H') : RowsAt H' a cap size R l :=
  ⟨fun hs => let ⟨b, o, h1, h2⟩ := h.at_ hs; ⟨b, o, h1, fun i hi => let ⟨cs, h3, h4⟩ := h2 i hi; ⟨cs, hR _ _ _ _ hle h3, h4.mono hle⟩⟩, h.cap⟩
theorem RowsAt.nil {H : Fz} {size : Nat} {R : Fz → Tr → List Value → Prop} : RowsAt H none 0 size R [] := ⟨fun h => absurd rfl h, by simp⟩
abbrev KE (size : Nat) := {cs : List Value // cs.length = size ∧ ∀ u ∈ cs, u.oneCell' = true} × Tr
def fk {size : Nat} (p : KE size) : List Value := p.1.1
theorem fk_len {size : Nat} (p : KE size) : (fk p).length = size := p.1.2.1
theorem fk_one {size : Nat} (p : KE size) : ∀ u ∈ fk p, u.oneCell' = true := p.1.2.2
theorem RowsAt.row {H : Fz} {a : Option Addr} {m cap size : Nat} {R : Fz → Tr → List Value → Prop} {es : List (KE size)} (h : a = none ∧ m = 0 ∧ cap = 0 ∨ ∃ g, a = some ⟨g, 0, none⟩ ∧ H.at g 0 (es.flatMap fk)) (hm : m = es.length) (hc : m ≤ cap)
    (he : ∀ p ∈ es, R H p.2 (fk p)) : RowsAt H a cap size R (es.map (·.2)) := by
  refine ⟨fun hne => ?_, by simp; omega⟩
  rcases h with ⟨_, h0, _⟩ | ⟨g, rfl, h1⟩
  · have : es = [] := List.eq_nil_of_length_eq_zero (by omega)
    subst this; simp at hne
  · refine ⟨g, 0, rfl, fun i hi => ?_⟩
    have hi' : i < es.length := by simpa using hi
    refine ⟨fk es[i], by simpa using he es[i] (List.getElem_mem hi'), ?_⟩
    have := h1.elem fk size fk_len hi'
    simpa using this
/-! ### Fields that are written, by their kinds -/
section
variable {f : Fd} {v : Int} {flex : Bool} {t : Tr}
theorem P_int (h0 : f.kind ≠ 0) (h1 : f.kind ≤ 6) : fieldB f v flex t = fixed (fitF f v t).n (width f.kind) := by
  rw [fieldB_eq, fitF_eq]
  unfold fieldB' fitF' valueB fitV
  rw [if_neg (by omega), if_neg (by omega), if_neg h0, if_neg (by omega), if_neg (by omega), if_neg (by omega), if_neg (by omega), if_neg (by omega), if_neg (by omega), if_neg (by omega)]
  rfl
theorem P_bool (h0 : f.kind = 0) : fieldB f v flex t = [byte ((fitF f v t).n % 2)] := by
  rw [fieldB_eq, fitF_eq]
  unfold fieldB' fitF' valueB fitV
  rw [if_neg (by omega), if_neg (by omega), if_pos h0, if_neg (by omega), if_neg (by omega), if_neg (by omega)]
  rfl
theorem fit_text (h0 : f.kind = 8 ∨ f.kind = 9) : fitF f v t = .mk 0 (whole t.s) (f.isNul v t) [] [] := by
  rw [fitF_eq]; unfold fitF' fitV
  rw [if_neg (by omega), if_pos h0]
theorem P_text (h0 : f.kind = 8) : fieldB f v flex t = counted flex (fitF f v t).nul (if (fitF f v t).nul then [] else (fitF f v t).s).length 2 ++ (if (fitF f v t).nul then [] else (fitF f v t).s) := by
  rw [fit_text (Or.inl h0), fieldB_eq]
  unfold fieldB' valueB
  rw [if_neg (by omega), if_neg (by omega), if_neg (by omega), if_neg (by omega), if_pos h0]
  rfl
theorem P_bytes (h0 : f.kind = 9) : fieldB f v flex t = counted flex (fitF f v t).nul (if (fitF f v t).nul then [] else (fitF f v t).s).length 4 ++ (if (fitF f v t).nul then [] else (fitF f v t).s) := by
  rw [fit_text (Or.inr h0), fieldB_eq]
  unfold fieldB' valueB
  rw [if_neg (by omega), if_neg (by omega), if_neg (by omega), if_neg (by omega), if_neg (by omega), if_pos h0]
  rfl
theorem fit_nul (h : f.nul < 0) (h0 : f.tag < 0) (h10 : f.kind ≠ 10) : (fitF f v t).nul = false := by
  have hn : f.isNul v t = false := by unfold Fd.isNul; simp [show ¬ 0 ≤ f.nul by omega]
  rw [fitF_eq]; unfold fitF' fitV
  rw [hn]
  split
  · show (false || (decide (0 ≤ f.tag) && _)) = false
    simp [show ¬ 0 ≤ f.tag by omega]
  · split
    · rfl
    · first | rfl | (rw [if_neg h10]; rfl)
theorem fit_list (h0 : f.kind = 11) (ht : f.tag < 0) : (fitF f v t).nul = f.isNul v t ∧ (fitF f v t).l = t.things.map (fitV f.of (fit f.sub v) false) := by
  rw [fitF_eq]; unfold fitF'
  rw [if_pos h0]
  refine ⟨?_, rfl⟩
  show (f.isNul v t || (decide (0 ≤ f.tag) && _)) = _
  simp [show ¬ 0 ≤ f.tag by omega]
theorem P_list (h0 : f.kind = 11) (ht : f.tag < 0) : fieldB f v flex t = counted flex (f.isNul v t) (if f.isNul v t then [] else t.things).length 4 ++ (if f.isNul v t then [] else t.things).flatMap (valueB f.of (partB f.sub v flex) false flex) := by
  rw [fieldB_eq]; unfold fieldB'
  rw [if_pos h0]
theorem fitV_part (h : f.of = 10) (x : Tr) : fitV f.of (fit f.sub v) false x = fit f.sub v x := by
  unfold fitV; rw [if_neg (by omega), if_pos h]; rfl
end
/-! ### Told trees and what lies of them in memory -/
inductive Few : Tr → Prop
  | mk (t : Tr) (h : t.l.length ≤ 32767) (hr : ∀ x ∈ t.l, Few x) : Few t
theorem Few.len {t : Tr} (h : Few t) : t.l.length ≤ 32767 := by cases h; assumption
theorem Few.el {t x : Tr} (h : Few t) (hx : x ∈ t.l) : Few x := by cases h with | mk _ _ hr => exact hr x hx
theorem Few.none : Few .none := .mk _ (by simp [Tr.l, Tr.none]) (fun x hx => by simp [Tr.l, Tr.none] at hx)
theorem Few.at {t : Tr} (h : Few t) (i : Nat) : Few (t.at i) := by
  unfold Tr.at
  cases hq : t.l[i]? with
  | none => exact Few.none
  | some x => exact h.el (List.mem_of_getElem? hq)
def sT (T : Tr) : List UInt8 := if T.nul then [] else T.s
def lT (T : Tr) : List Tr := if T.nul then [] else T.l
theorem lT_nul {T : Tr} (h : T.nul = true) : lT T = [] := by unfold lT; rw [h]; rfl
theorem lT_not {T : Tr} (h : T.nul = false) : lT T = T.l := by unfold lT; rw [h]; rfl
structure OctAt (H : Fz) (T : Tr) (a : Option Addr) (c : Nat) : Prop where
  val : BytesAt H a c (sT T)
  nul : a.isNone = T.nul
theorem OctAt.mono {H H' : Fz} {T : Tr} {a : Option Addr} {c : Nat} (h : OctAt H T a c) (hle : H.le H') : OctAt H' T a c := ⟨h.val.mono hle, h.nul⟩
structure TextAt (H : Fz) (T : Tr) (p : Option Addr) : Prop where
  nul : p.isNone = T.nul
  val : ∀ ad, p = some ad → ∃ b, ad = ⟨b, 0, none⟩ ∧ H.at b 0 [.string ⟨T.s.toArray⟩]
theorem TextAt.mono {H H' : Fz} {T : Tr} {p : Option Addr} (h : TextAt H T p) (hle : H.le H') : TextAt H' T p := ⟨h.nul, fun ad e => let ⟨b, h1, h2⟩ := h.val ad e; ⟨b, h1, h2.mono hle⟩⟩
structure ListAt (H : Fz) (T : Tr) (size : Nat) (R : Fz → Tr → List Value → Prop) (a : Option Addr) (c : Nat) : Prop where
  rows : RowsAt H a c size R (lT T)
  nul : a.isNone = T.nul
theorem ListAt.mono {H H' : Fz} {T : Tr} {size : Nat} {R : Fz → Tr → List Value → Prop} {a : Option Addr} {c : Nat} (h : ListAt H T size R a c) (hR : RMono R) (hle : H.le H') : ListAt H' T size R a c := ⟨h.rows.mono hR hle, h.nul⟩
theorem ListAt.none {H : Fz} {T : Tr} {size : Nat} {R : Fz → Tr → List Value → Prop} (h : T.nul = true) : ListAt H T size R none 0 := ⟨by rw [lT_nul h]; exact RowsAt.nil, by rw [h]; rfl⟩
/-- A field's list of the schema that was just built. -/
theorem FdsAt.lit {H : Fz} {g : Nat} (es : List (FC × Fd)) (h : H.at g 0 (es.flatMap fun p => p.1.cells p.2)) (hl : es.length ≤ 1000) (he : ∀ p ∈ es, FdAt H p.1 p.2) : FdsAt H (some ⟨g, 0, Option.none⟩) (es.map (·.2)) := by
  refine ⟨fun _ => ⟨g, 0, rfl, fun i hi => ?_⟩, by simpa using hl⟩
  have hi' : i < es.length := by simpa using hi
  refine ⟨es[i].1, ?_, by simpa using he es[i] (List.getElem_mem hi')⟩
  have := h.elem (fun p : FC × Fd => p.1.cells p.2) 8 (fun _ => rfl) hi'
  simpa using this
def RI8 : Fz → Tr → List Value → Prop := fun _ T cs => cs = [.int .i8 (IntKind.i8.wrap T.n)]
def RI16 : Fz → Tr → List Value → Prop := fun _ T cs => cs = [.int .i16 (IntKind.i16.wrap T.n)]
def RI32 : Fz → Tr → List Value → Prop := fun _ T cs => cs = [.int .i32 (IntKind.i32.wrap T.n)]
def RI64 : Fz → Tr → List Value → Prop := fun _ T cs => cs = [.int .i64 T.n]
def RText : Fz → Tr → List Value → Prop := fun _ T cs => cs = [.string ⟨T.s.toArray⟩]
theorem frN {Q : Exit → Act → World → Prop} {n : Nat} {l : Env} {H : Fz} {L : Own} {e size : Nat} {a : Option Addr} {m cap : Nat} {xs : List Value} {N : Chunk} {L' : Own} (hr : Row e size a m cap xs N) (hs : Sel L N L')
    (h : ∀ H', H.le H' → (a = Option.none ∧ m = 0 ∧ cap = 0 ∨ ∃ g, a = some ⟨g, 0, Option.none⟩ ∧ H'.at g 0 xs) → Nn Q n l H' L') : Nn Q n l H L := by
  intro a' w hA hw
  obtain ⟨H', h1, h2, h3⟩ := hr.freeze hs hw
  exact h H' h1 h3 a' w hA h2
theorem cutT {P : Program} {x y : Code} {Q Q' : Exit → Act → World → Prop} {n : Nat} {l : Env} {H : Fz} {L : Own} (R : Env → Fz → Own → Prop)
    (h1 : Wp P x (Exit.then (St n H R) Q') n l H L) (h2 : ∀ l' H' L', H.le H' → R l' H' L' → Wp P y Q n l' H' L') : Wp P x (Exit.then (Code.wp P y Q) Q') n l H L := by
  intro a w ha hw
  refine wp_mono (h1 a w ha hw) ?_
  intro e a' w' he
  cases e with
  | normal => obtain ⟨l', H', L', g1, g2, g3, g4⟩ := he; exact h2 l' H' L' g2 g4 a' w' g1 g3
  | exit id => exact he
  | goto l => exact he
  | ret => exact he
  | panic ch => exact he
  | outgrown => exact he
end Go.Sx

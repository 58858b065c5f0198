/- What was written is read back just so; what was read back may be written again, and is written alike. -/
import Derived.Test.YtpcgaheplmiglaaGreatToldL
set_option linter.unusedVariables false
set_option linter.unusedSimpArgs false
namespace Go.Sx
def bkV (kind : Int) (sub : Tr → Tr) (nul : Bool) (t : Tr) : Tr :=
  if kind = 8 ∨ kind = 9 then .mk 0 (if nul then [] else whole t.s) nul [] []
  else if kind = 7 then .mk 0 (pad16 t.s) false [] []
  else if kind = 10 then sub t
  else .mk (numK kind t.n) [] false [] []
def bkF' (f : Fd) (sub : Tr → Tr) (v : Int) (t : Tr) : Tr :=
  if f.kind = 11 then .mk 0 [] (f.isNul v t || (decide (f.nul < 0) && (if f.isNul v t then [] else t.things).isEmpty)) ((if f.isNul v t then [] else t.things).map (bkV f.of sub false)) []
  else bkV f.kind sub (f.isNul v t) t
mutual
def bkF : Fd → Int → Bool → Tr → Tr
  | .mk kind frm to nul tag df of sub, v, flex, t => bkF' (.mk kind frm to nul tag df of sub) (fun x => .mk 0 [] false (bkFs sub v flex 0 x) (if flex then (unknown sub x.u).map wholeTag else [])) v t
def bkFs : List Fd → Int → Bool → Nat → Tr → List Tr
  | [], _, _, _, _ => []
  | f :: r, v, flex, i, t => (if f.has v then bkF f v flex (t.at i) else dflF f) :: bkFs r v flex (i + 1) t
end
def bkP (fs : List Fd) (v : Int) (flex : Bool) (t : Tr) : Tr := .mk 0 [] false (bkFs fs v flex 0 t) (if flex then (unknown fs t.u).map wholeTag else [])
theorem bkF_eq (f : Fd) (v : Int) (flex : Bool) (t : Tr) : bkF f v flex t = bkF' f (bkP f.sub v flex) v t := by cases f; rw [bkF]; rfl
/-- A part is read back just so. -/
def BacksX (pB : Tr → List UInt8) (rd : Rd → Tr × Rd) (sub : Tr → Tr) : Prop := ∀ t, Ran t → ∀ nn r, ∃ nn', rd ⟨pB t ++ r, false, nn⟩ = (sub t, ⟨r, false, nn'⟩)
section
variable {sub : Tr → Tr} {nul : Bool} {t : Tr}
theorem bV8 {k : Int} (h : k = 8 ∨ k = 9) : bkV k sub nul t = .mk 0 (if nul then [] else whole t.s) nul [] [] := by unfold bkV; rw [if_pos h]
theorem bV7 : bkV 7 sub nul t = .mk 0 (pad16 t.s) false [] [] := by unfold bkV; rw [if_neg (by decide), if_pos rfl]
theorem bV10 : bkV 10 sub nul t = sub t := by unfold bkV; rw [if_neg (by decide), if_neg (by decide), if_pos rfl]
theorem bVn {k : Int} (h7 : k ≠ 7) (h8 : k ≠ 8) (h9 : k ≠ 9) (h10 : k ≠ 10) : bkV k sub nul t = .mk (numK k t.n) [] false [] [] := by unfold bkV; rw [if_neg (by omega), if_neg h7, if_neg h10]
end
theorem bk_value {flex : Bool} {kind : Int} {pB : Tr → List UInt8} {rd : Rd → Tr × Rd} {sub : Tr → Tr} (hk : 0 ≤ kind ∧ kind ≤ 10) (hp : kind = 10 → BacksX pB rd sub) {may nul : Bool} (hm : nul = true → may = true) (h8 : may = true → kind = 8 ∨ kind = 9) {t : Tr} (ht : Ran t) (nn : Bool) (r : List UInt8) :
    ∃ nn', decV kind rd may flex ⟨valueB kind pB nul flex t ++ r, false, nn⟩ = (bkV kind sub nul t, ⟨r, false, nn'⟩) := by
  by_cases hk8 : kind = 8
  · subst hk8
    rw [vB8, dV8, List.append_assoc, rLen_counted (by cases nul <;> simp [whole_le']) (Or.inl rfl), bV8 (Or.inl rfl)]
    cases nul with
    | true => rw [hm rfl]; exact ⟨_, rfl⟩
    | false =>
      simp only [Bool.false_eq_true, if_false]
      rw [if_neg (by simp), rSpan_app]
      exact ⟨_, rfl⟩
  by_cases hk9 : kind = 9
  · subst hk9
    rw [vB9, dV9 rfl, List.append_assoc, rLen_counted (by cases nul <;> simp [whole_le']) (Or.inr rfl), bV8 (Or.inr rfl)]
    simp only []
    cases nul with
    | true => rw [hm rfl]; exact ⟨_, rfl⟩
    | false =>
      simp only [Bool.false_eq_true, if_false]
      rw [rSpan_app]
      cases may with
      | true => rw [if_pos rfl, if_neg (by omega)]; exact ⟨_, rfl⟩
      | false => rw [if_neg (by decide), if_neg (by omega)]; exact ⟨_, rfl⟩
  have hmy : may = false := by
    cases hn : may with
    | false => rfl
    | true => rcases h8 hn with h | h <;> contradiction
  subst hmy
  have hn : nul = false := by
    cases hn : nul with
    | false => rfl
    | true => have := hm hn; cases this
  subst hn
  by_cases hk10 : kind = 10
  · subst hk10
    rw [vB10, dV10, bV10]
    exact hp rfl t ht nn r
  by_cases h7 : kind = 7
  · subst h7
    rw [vB7, dV7, bV7]
    have hl := pad16_len t.s
    have hs := rSpan_app (pad16 t.s) r false nn
    rw [hl] at hs
    rw [hs]
    refine ⟨nn, ?_⟩
    show (Tr.mk 0 (pad16 (pad16 t.s)) false [] [], _) = _
    rw [pad16_pad]
  rw [bVn h7 hk8 hk9 hk10]
  by_cases h0 : kind = 0
  · subst h0
    rw [vB0, dV0, rN_app (w := 1) (x := [byte (t.n % 2)]) false nn rfl]
    have e : ((beN [byte (t.n % 2)] : Nat) : Int) = t.n % 2 := by
      have := byte_mod (t.n % 2)
      simp [beN]; omega
    refine ⟨true, ?_⟩
    have e2 : (if beN [byte (t.n % 2)] = 0 then (0 : Int) else 1) = numK 0 t.n := by
      simp only [numK, if_true]; split <;> omega
    rw [e2]
  have hv : valueB kind pB false flex t = fixed t.n (width kind) := by unfold valueB; rw [if_neg h0, if_neg h7, if_neg hk8, if_neg hk9, if_neg hk10]
  have hr := ht.n
  rw [hv]
  have hc : kind = 1 ∨ kind = 2 ∨ kind = 3 ∨ kind = 5 ∨ (kind = 4 ∨ kind = 6) := by omega
  rcases hc with rfl | rfl | rfl | rfl | hc
  · rw [dV1, show width 1 = 1 from rfl, rN_fixed]; refine ⟨true, ?_⟩; simp only []; rw [back8]; rfl
  · rw [dV2, show width 2 = 2 from rfl, rN_fixed]; refine ⟨true, ?_⟩; simp only []; rw [back16]; rfl
  · rw [dV3, show width 3 = 4 from rfl, rN_fixed]; refine ⟨true, ?_⟩; simp only []; rw [back32]; rfl
  · rw [dV5, show width 5 = 2 from rfl, rN_fixed]; refine ⟨true, ?_⟩; simp only []; rw [backU16]; rfl
  · rw [dV4 hc, show width kind = 8 by rcases hc with rfl | rfl <;> rfl, rN_fixed]
    refine ⟨true, ?_⟩
    have e : numK kind t.n = t.n := by rcases hc with rfl | rfl <;> rfl
    simp only []
    rw [e, back64, w64 hr.1 hr.2]
theorem bk_many {d : Rd → Tr × Rd} {B : Tr → List UInt8} {g : Tr → Tr} : ∀ (l : List Tr), (∀ t ∈ l, ∀ nn r, ∃ nn', d ⟨B t ++ r, false, nn⟩ = (g t, ⟨r, false, nn'⟩)) → ∀ nn r, ∃ nn', rMany d l.length ⟨l.flatMap B ++ r, false, nn⟩ = (l.map g, ⟨r, false, nn'⟩)
  | [], _, nn, r => ⟨nn, rfl⟩
  | t :: l, h, nn, r => by
    obtain ⟨nn1, h1⟩ := h t List.mem_cons_self nn (l.flatMap B ++ r)
    obtain ⟨nn2, h3⟩ := bk_many l (fun t ht => h t (List.mem_cons_of_mem _ ht)) nn1 r
    refine ⟨nn2, ?_⟩
    simp only [List.length_cons, rMany, List.flatMap_cons, List.append_assoc, List.map_cons]
    rw [h1]; simp only []; rw [h3]
theorem bk_field {v : Int} {flex : Bool} {f : Fd} {pB : Tr → List UInt8} {rd : Rd → Tr × Rd} {sub : Tr → Tr} (hf : FdOk v flex f) (hh : f.has v = true) (hp : BacksX pB rd sub) (hw : f.kind = 11 → f.of = 10 → ∀ t, 0 < (pB t).length) {t : Tr} (ht : Ran t) (nn : Bool) (r : List UInt8) :
    ∃ nn', decF' f rd v flex ⟨fieldB' f pB v flex t ++ r, false, nn⟩ = (bkF' f sub v t, ⟨r, false, nn'⟩) := by
  have hnm : f.isNul v t = true → (decide (0 ≤ f.nul) && decide (f.nul ≤ v)) = true := fun h => by
    unfold Fd.isNul at h
    simp only [Bool.and_eq_true] at h ⊢
    exact ⟨h.1.2, h.2⟩
  by_cases h11 : f.kind = 11
  · obtain ⟨ho0, ho1, _⟩ := hf.of h11
    unfold decF' fieldB' bkF'
    rw [if_pos h11, if_pos h11, if_pos h11]
    simp only []
    have hlen : (if f.isNul v t then [] else t.things).length ≤ 32767 := by
      split
      · simp
      · exact things_len t
    have hge : f.isNul v t = false → (if f.isNul v t then [] else t.things).length ≤ ((if f.isNul v t then [] else t.things).flatMap (valueB f.of pB false flex) ++ r).length := fun _ => by
      have := flatMap_ge (B := valueB f.of pB false flex) (if f.isNul v t then [] else t.things) (fun x _ => valueB_pos (fun h10 => hw h11 h10 x))
      rw [List.length_append]; omega
    rw [List.append_assoc, rArr_counted hlen _ hge]
    obtain ⟨nn', h1⟩ := bk_many (d := decV f.of rd false flex) (B := valueB f.of pB false flex) (g := bkV f.of sub false) (if f.isNul v t then [] else t.things) (fun x hx nn r => by
      have hx' : x ∈ t.l := by
        split at hx
        · cases hx
        · exact things_mem hx
      exact bk_value (kind := f.of) ⟨ho0, ho1⟩ (fun _ => hp) (may := false) (nul := false) (fun h => by cases h) (fun h => by cases h) (ht.l x hx') nn r) true r
    cases hn : f.isNul v t with
    | true =>
      have hm := hnm hn
      simp only [Bool.and_eq_true, decide_eq_true_eq] at hm
      refine ⟨true, ?_⟩
      have e : (if 0 ≤ f.nul ∧ (v < f.nul ∨ ((if true = true then (-1 : Int) else ((if true = true then ([] : List Tr) else t.things).length : Int)) = 0)) then false else decide ((if true = true then (-1 : Int) else ((if true = true then ([] : List Tr) else t.things).length : Int)) ≤ 0)) = true := by
        simp only [if_true]
        rw [if_neg (by omega)]; rfl
      rw [e]
      rfl
    | false =>
      rw [hn] at h1
      simp only [Bool.false_eq_true, if_false] at h1 ⊢
      simp only [Int.toNat_natCast]
      rw [h1]
      refine ⟨nn', ?_⟩
      simp only [Bool.false_or]
      congr 2
      by_cases hm : 0 ≤ f.nul
      · rw [decide_eq_false (show ¬ f.nul < 0 by omega), Bool.false_and]
        by_cases hz : (t.things.length : Int) = 0
        · rw [if_pos ⟨hm, .inr hz⟩]
        · by_cases hv : v < f.nul
          · rw [if_pos ⟨hm, .inl hv⟩]
          · rw [if_neg (by omega)]; exact decide_eq_false (by omega)
      · rw [decide_eq_true (show f.nul < 0 by omega), Bool.true_and, if_neg (by omega)]
        cases t.things with
        | nil => rfl
        | cons x l => simp
  · unfold decF' fieldB' bkF'
    rw [if_neg h11, if_neg h11, if_neg h11]
    have h10 : ¬ (f.kind = 10 ∧ 0 ≤ f.nul) := fun ⟨h1, h2⟩ => by have := hf.nul h2; omega
    rw [if_neg h10]
    have hk := hf.kind
    exact bk_value (kind := f.kind) (flex := flex) (pB := pB) ⟨hk.1, by omega⟩ (fun _ => hp) (may := decide (0 ≤ f.nul) && decide (f.nul ≤ v)) (nul := f.isNul v t) hnm (fun h => by
      simp only [Bool.and_eq_true, decide_eq_true_eq] at h
      have := hf.nul h.1; omega) ht nn r
theorem bk_fs {v : Int} {flex : Bool} {t : Tr} (ht : Ran t) : ∀ (fs : List Fd) (i : Nat), (∀ f ∈ fs, f.tag < 0 ∧ (f.has v = true → ∀ t, Ran t → ∀ nn r, ∃ nn', decF f v flex ⟨fieldB f v flex t ++ r, false, nn⟩ = (bkF f v flex t, ⟨r, false, nn'⟩))) →
    ∀ nn r, ∃ nn', decFs fs v flex ⟨plainR v flex t fs i ++ r, false, nn⟩ = (bkFs fs v flex i t, ⟨r, false, nn'⟩)
  | [], i, _, nn, r => ⟨nn, by rw [decFs, bkFs]; simp [plainR]⟩
  | f :: fs, i, h, nn, r => by
    obtain ⟨h1, h2⟩ := h f List.mem_cons_self
    have hrest := bk_fs ht fs (i + 1) (fun f hf => h f (List.mem_cons_of_mem _ hf))
    rw [plainR, decFs, bkFs]
    cases hh : f.has v with
    | true =>
      have e : (decide (f.tag < 0) && true) = true := by simp [h1]
      rw [e, if_pos rfl, if_pos rfl, if_pos rfl, List.append_assoc]
      obtain ⟨nn1, g1⟩ := h2 hh (t.at i) (ht.at i) nn (plainR v flex t fs (i + 1) ++ r)
      rw [g1]
      obtain ⟨nn2, g3⟩ := hrest nn1 r
      simp only []
      rw [g3]
      exact ⟨nn2, rfl⟩
    | false =>
      have e : (decide (f.tag < 0) && false) = false := by simp
      rw [e, if_neg (by decide), if_neg (by decide), if_neg (by decide), List.nil_append]
      obtain ⟨nn2, g3⟩ := hrest nn r
      simp only []
      rw [g3]
      exact ⟨nn2, rfl⟩
theorem read_bk {v : Int} {flex : Bool} {fs : List Fd} (h : RdGood v flex fs) : BacksX (partB fs v flex) (decP fs v flex) (bkP fs v flex) := by
  have hkn := h.known
  induction h with
  | mk fs h hr ih =>
    intro t ht nn r
    have hfs : ∀ f ∈ fs, f.tag < 0 ∧ (f.has v = true → ∀ t, Ran t → ∀ nn r, ∃ nn', decF f v flex ⟨fieldB f v flex t ++ r, false, nn⟩ = (bkF f v flex t, ⟨r, false, nn'⟩)) := by
      intro f hf
      refine ⟨(h f hf).tag, fun hh t ht nn r => ?_⟩
      rw [decF_eq, fieldB_eq, bkF_eq]
      refine bk_field (h f hf) hh (ih f hf (hr f hf).known) (fun h11 h10 t => ?_) ht nn r
      exact writes_pos (hr f hf).known (((h f hf).of h11).2.2 h10 hh) t
    rw [partB_R hkn]
    unfold decP bkP
    simp only []
    cases flex with
    | false =>
      obtain ⟨nn', g1⟩ := bk_fs ht fs 0 hfs nn r
      simp only [Bool.false_eq_true, if_false, List.append_nil] at g1 ⊢
      rw [g1]
      exact ⟨nn', rfl⟩
    | true =>
      obtain ⟨nn1, g1⟩ := bk_fs ht fs 0 hfs nn (uvar (unknown fs t.u).length ++ (((unknown fs t.u).map fun p => tagB p.1.toNat (whole p.2)).flatten ++ r))
      obtain ⟨nn2, g4⟩ := back_tags (us := unknown fs t.u) (fun p hp => ht.u p (mem_unknown hp)) (unknown_sorted fs t.u) (unknown_len fs t.u) r nn1
      simp only [if_true, List.append_assoc] at g1 ⊢
      rw [g1]
      simp only []
      rw [g4]
      exact ⟨nn2, rfl⟩
/-! ### It may be written again, and is written alike -/
theorem bkFs_get {v : Int} {flex : Bool} {t : Tr} : ∀ (fs : List Fd) (i j : Nat) (hj : j < fs.length), (bkFs fs v flex i t)[j]? = some (if fs[j].has v then bkF fs[j] v flex (t.at (i + j)) else dflF fs[j])
  | [], _, j, hj => by simp at hj
  | f :: r, i, 0, _ => by rw [bkFs]; simp
  | f :: r, i, j + 1, hj => by
    rw [bkFs, List.getElem?_cons_succ, bkFs_get r (i + 1) j (by simpa using hj), show i + 1 + j = i + (j + 1) by omega]; rfl
theorem bkP_at {v : Int} {flex : Bool} {t : Tr} {fs : List Fd} (j : Nat) (hj : j < fs.length) (hh : fs[j].has v = true) : (bkP fs v flex t).at j = bkF fs[j] v flex (t.at j) := by
  have := bkFs_get (v := v) (flex := flex) (t := t) fs 0 j hj
  rw [hh, if_pos rfl, Nat.zero_add] at this
  exact at_get this
theorem bkF'_nul {f : Fd} {sub : Tr → Tr} {v : Int} {t : Tr} (hs : ∀ t, (sub t).nul = false) (hn : 0 ≤ f.nul → f.kind = 8 ∨ f.kind = 9 ∨ f.kind = 11) : f.isNul v (bkF' f sub v t) = f.isNul v t := by
  unfold bkF'
  by_cases h11 : f.kind = 11
  · rw [if_pos h11, isNul_mk]
    cases hq : f.isNul v t with
    | true =>
      unfold Fd.isNul at hq
      simp only [Bool.and_eq_true] at hq
      simp [hq.1.2, hq.2]
    | false =>
      by_cases h0 : 0 ≤ f.nul
      · rw [decide_eq_false (show ¬ f.nul < 0 by omega)]; simp
      · rw [decide_eq_false h0]; simp
  · rw [if_neg h11]
    by_cases h8 : f.kind = 8 ∨ f.kind = 9
    · rw [bV8 h8]; exact isNul_idem f v _ _ t _ _
    · have h0 : ¬ 0 ≤ f.nul := fun h => by have := hn h; omega
      unfold Fd.isNul
      rw [decide_eq_false h0]; simp
theorem okV {kind : Int} {sub : Tr → Tr} {nul : Bool} {t : Tr} (h : kind = 8 ∨ kind = 9) : (bkV kind sub nul t).s.length ≤ 32767 := by
  rw [bV8 h]
  show (if nul then [] else whole t.s).length ≤ 32767
  split
  · simp
  · exact whole_le' _
theorem ok_bk {v : Int} {flex : Bool} {fs : List Fd} (h : RdGood v flex fs) : ∀ t, OkP fs v (bkP fs v flex t) := by
  induction h with
  | mk fs h hr ih =>
    intro t
    refine ⟨?_, OkFs_iff.2 fun j hj hh => ?_⟩
    · show OkU fs (if flex then (unknown fs t.u).map wholeTag else [])
      split
      · exact okU_fit fs t.u
      · exact ⟨by simp [unknown, unknownFrom], by simp, fun p hp => by cases hp⟩
    rw [Nat.zero_add, bkP_at j hj hh, bkF_eq]
    have ih' := ih fs[j] (List.getElem_mem hj)
    have hf := h fs[j] (List.getElem_mem hj)
    generalize fs[j] = f at ih' hf
    generalize t.at j = x
    unfold bkF'
    have hnul : f.isNul v x = true → 0 ≤ f.nul ∧ f.nul ≤ v := fun hb => by
      unfold Fd.isNul at hb
      simp at hb; exact ⟨hb.1.2, hb.2⟩
    by_cases h11 : f.kind = 11
    · rw [if_pos h11]
      refine ⟨fun hn => ?_, fun h => by omega, fun h => by omega, fun _ => ?_, fun _ y hy => ?_⟩
      · have h0 : (f.isNul v x || (decide (f.nul < 0) && (if f.isNul v x then [] else x.things).isEmpty)) = true := hn
        rw [Bool.or_eq_true, Bool.and_eq_true] at h0
        rcases h0 with h0 | ⟨h0, h1⟩
        · exact .inl (hnul h0)
        · refine .inr ⟨h11, .inr (by simpa using h0), ?_⟩
          show List.map _ _ = []
          rw [List.isEmpty_iff.1 h1]; rfl
      · show (List.map _ _).length ≤ _
        rw [List.length_map]
        split
        · simp
        · exact things_len x
      · obtain ⟨z, _, rfl⟩ := List.mem_map.1 (show y ∈ List.map _ _ from hy)
        refine ⟨fun h => okV h, fun h => ?_⟩
        rw [h, bV10]; exact ih' z
    · rw [if_neg h11]
      by_cases h8 : f.kind = 8 ∨ f.kind = 9
      · refine ⟨fun hn => ?_, fun _ => okV h8, fun h => by omega, fun h => absurd h h11, fun h => absurd h h11⟩
        rw [bV8 h8] at hn
        exact .inl (hnul hn)
      · by_cases h10 : f.kind = 10
        · refine ⟨fun hn => ?_, fun h => absurd h h8, fun _ _ => ?_, fun h => absurd h h11, fun h => absurd h h11⟩
          · rw [h10, bV10] at hn; cases hn
          · rw [h10, bV10]; exact ih' x
        · have hn : (bkV f.kind (bkP f.sub v flex) (f.isNul v x) x).nul = false := by
            by_cases h7 : f.kind = 7
            · rw [h7, bV7]; rfl
            · rw [bVn h7 (by omega) (by omega) h10]; rfl
          exact ⟨fun h => (by rw [hn] at h; cases h), fun h => absurd h h8, fun h => absurd h h10, fun h => absurd h h11, fun h => absurd h h11⟩
theorem vB_bk {kind : Int} {pB : Tr → List UInt8} {sub : Tr → Tr} {nul flex : Bool} {t : Tr} (hs : ∀ y, pB (sub y) = pB y) : valueB kind pB nul flex (bkV kind sub nul t) = valueB kind pB nul flex t := by
  by_cases h8 : kind = 8 ∨ kind = 9
  · rw [bV8 h8]; unfold valueB
    cases nul <;> rcases h8 with h8 | h8 <;> simp [h8, Tr.s, whole_whole]
  by_cases h7 : kind = 7
  · subst h7; rw [bV7, vB7, vB7]; exact pad16_pad _
  by_cases h10 : kind = 10
  · subst h10; rw [bV10, vB10, vB10]; exact hs t
  rw [bVn h7 (by omega) (by omega) h10]
  unfold valueB
  by_cases h0 : kind = 0
  · subst h0
    simp only [if_true]
    show [byte (t.n % 2 % 2)] = _
    rw [Int.emod_emod_of_dvd _ (Int.dvd_refl 2)]
  rw [if_neg h0, if_neg h7, if_neg (by omega), if_neg (by omega), if_neg h10, if_neg h0, if_neg h7, if_neg (by omega), if_neg (by omega), if_neg h10]
  show fixed (numK kind t.n) (width kind) = fixed t.n (width kind)
  unfold numK
  rw [if_neg h0]
  by_cases h1 : kind = 1
  · rw [if_pos h1, h1]; exact fixed_i8 _
  by_cases h2 : kind = 2
  · rw [if_neg h1, if_pos h2, h2]; exact fixed_i16 _
  by_cases h3 : kind = 3
  · rw [if_neg h1, if_neg h2, if_pos h3, h3]; exact fixed_i32 _
  by_cases h5 : kind = 5
  · rw [if_neg h1, if_neg h2, if_neg h3, if_pos h5, h5]; exact fixed_u16 _
  rw [if_neg h1, if_neg h2, if_neg h3, if_neg h5]
theorem plainR_congr {v : Int} {flex : Bool} {x y : Tr} : ∀ (fs : List Fd) (i : Nat), (∀ j (hj : j < fs.length), fs[j].has v = true → fieldB fs[j] v flex (x.at (i + j)) = fieldB fs[j] v flex (y.at (i + j))) → plainR v flex x fs i = plainR v flex y fs i
  | [], _, _ => rfl
  | f :: r, i, h => by
    have ih := plainR_congr (v := v) (flex := flex) (x := x) (y := y) r (i + 1) (fun j hj hh => by
      have h2 := h (j + 1) (by simpa using hj) hh
      have e : i + 1 + j = i + (j + 1) := by omega
      rw [e]; exact h2)
    show (if _ then _ else _) ++ plainR v flex x r (i + 1) = (if _ then _ else _) ++ plainR v flex y r (i + 1)
    rw [ih]
    congr 1
    cases hq : (decide (f.tag < 0) && f.has v) with
    | false => rfl
    | true =>
      rw [Bool.and_eq_true] at hq
      exact h 0 (by simp) hq.2
theorem partB_bk {v : Int} {flex : Bool} {fs : List Fd} (h : RdGood v flex fs) : ∀ t, partB fs v flex (bkP fs v flex t) = partB fs v flex t := by
  have hkn := h.known
  induction h with
  | mk fs h hr ih =>
    intro t
    rw [partB_R hkn, partB_R hkn]
    congr 1
    · refine plainR_congr fs 0 fun j hj hh => ?_
      rw [Nat.zero_add, bkP_at j hj hh]
      have ih' := ih fs[j] (List.getElem_mem hj) (hr fs[j] (List.getElem_mem hj)).known
      have hf := h fs[j] (List.getElem_mem hj)
      generalize fs[j] = f at ih' hf
      generalize t.at j = x
      rw [bkF_eq, fieldB_eq, fieldB_eq]
      have hn := bkF'_nul (f := f) (sub := bkP f.sub v flex) (v := v) (t := x) (fun _ => rfl) hf.nul
      unfold fieldB'
      simp only [hn]
      by_cases h11 : f.kind = 11
      · rw [if_pos h11, if_pos h11]
        have e2 : (if f.isNul v x = true then [] else (bkF' f (bkP f.sub v flex) v x).things) = (if f.isNul v x = true then [] else x.things).map (bkV f.of (bkP f.sub v flex) false) := by
          cases hq : f.isNul v x with
          | true => rfl
          | false =>
            unfold bkF'
            rw [if_pos h11, hq]
            show (List.map _ x.things).take most = List.map _ x.things
            refine List.take_of_length_le ?_
            rw [List.length_map]
            exact things_len x
        rw [e2, List.length_map, List.flatMap_map]
        congr 2
        funext y
        exact vB_bk ih'
      · have h10 : ¬ (f.kind = 10 ∧ 0 ≤ f.nul) := fun ⟨h1, h2⟩ => by have := hf.nul h2; omega
        rw [if_neg h11, if_neg h11, if_neg h10, if_neg h10]
        unfold bkF'
        rw [if_neg h11]
        exact vB_bk ih'
    · cases flex with
      | false => rfl
      | true =>
        simp only [if_true]
        show uvar (unknown fs ((unknown fs t.u).map wholeTag)).length ++ _ = _
        have hu := (okU_fit fs t.u).1
        show uvar (unknown fs ((unknown fs t.u).map wholeTag)).length ++ ((unknown fs ((unknown fs t.u).map wholeTag)).map fun p => tagB p.1.toNat (whole p.2)).flatten = _
        rw [hu, List.length_map, List.map_map]
        congr 2
        apply List.map_congr_left
        intro p _
        simp [wholeTag, whole_whole]
end Go.Sx

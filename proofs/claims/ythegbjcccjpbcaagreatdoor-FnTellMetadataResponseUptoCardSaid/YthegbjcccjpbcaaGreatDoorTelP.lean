/- What the tellers say of a struct that was read is what was read. -/
import Derived.Test.YthegbjcccjpbcaaGreatDoorLibH
import Derived.Test.YthegbjcccjpbcaaGreatDoorToldL
set_option linter.unusedVariables false
set_option linter.unusedSimpArgs false
namespace Go.Sx
/-- A value as it is told. -/
def canV (kind : Int) (sub : Tr → Tr) (x : Tr) : Tr :=
  if kind = 0 then .mk (if decide (x.n % 2 = 1) = true then 1 else 0) [] false [] []
  else if kind = 7 then .mk 0 (pad16 x.s) false [] []
  else if kind = 8 then .mk 0 x.s false [] []
  else if kind = 9 then .mk 0 (sT x) x.nul [] []
  else if kind = 10 then sub x
  else if kind = 1 then .mk (IntKind.i8.wrap x.n) [] false [] []
  else if kind = 2 then .mk (IntKind.i16.wrap x.n) [] false [] []
  else if kind = 3 then .mk (IntKind.i32.wrap x.n) [] false [] []
  else if kind = 5 then .mk (IntKind.u16.wrap x.n) [] false [] []
  else .mk x.n [] false [] []
def canF' (f : Fd) (sub : Tr → Tr) (x : Tr) : Tr :=
  if f.kind = 11 then .mk 0 [] x.nul ((lT x).map (canV f.of sub)) []
  else if f.kind = 8 ∧ 0 ≤ f.nul then .mk 0 (sT x) x.nul [] []
  else canV f.kind sub x
mutual
def canF (tg : Bool) : Fd → Tr → Tr
  | .mk kind frm to nul tag df of sub, x => canF' (.mk kind frm to nul tag df of sub) (fun y => .mk 0 [] false (canFs tg sub 0 y) (if tg then y.u else [])) x
def canFs (tg : Bool) : List Fd → Nat → Tr → List Tr
  | [], _, _ => []
  | f :: r, i, y => canF tg f (y.at i) :: canFs tg r (i + 1) y
end
def canP (tg : Bool) (fs : List Fd) (y : Tr) : Tr := .mk 0 [] false (canFs tg fs 0 y) (if tg then y.u else [])
theorem canF_eq (tg : Bool) (f : Fd) (x : Tr) : canF tg f x = canF' f (canP tg f.sub) x := by cases f; rw [canF]; rfl
theorem canFs_cons (tg : Bool) (f : Fd) (r : List Fd) (i : Nat) (y : Tr) : canFs tg (f :: r) i y = canF tg f (y.at i) :: canFs tg r (i + 1) y := by rw [canFs]
theorem canFs_nil (tg : Bool) (i : Nat) (y : Tr) : canFs tg [] i y = [] := by rw [canFs]
section
variable {sub : Tr → Tr} {x : Tr}
theorem cV0 : canV 0 sub x = .mk (if decide (x.n % 2 = 1) = true then 1 else 0) [] false [] [] := rfl
theorem cV1 : canV 1 sub x = .mk (IntKind.i8.wrap x.n) [] false [] [] := rfl
theorem cV2 : canV 2 sub x = .mk (IntKind.i16.wrap x.n) [] false [] [] := rfl
theorem cV3 : canV 3 sub x = .mk (IntKind.i32.wrap x.n) [] false [] [] := rfl
theorem cV4 : canV 4 sub x = .mk x.n [] false [] [] := rfl
theorem cV5 : canV 5 sub x = .mk (IntKind.u16.wrap x.n) [] false [] [] := rfl
theorem cV7 : canV 7 sub x = .mk 0 (pad16 x.s) false [] [] := rfl
theorem cV8 : canV 8 sub x = .mk 0 x.s false [] [] := rfl
theorem cV9 : canV 9 sub x = .mk 0 (sT x) x.nul [] [] := rfl
theorem cV10 : canV 10 sub x = sub x := rfl
theorem cVn {k : Int} (h : k ≠ 0 ∧ k ≠ 1 ∧ k ≠ 2 ∧ k ≠ 3 ∧ k ≠ 5 ∧ k ≠ 7 ∧ k ≠ 8 ∧ k ≠ 9 ∧ k ≠ 10) : canV k sub x = .mk x.n [] false [] [] := by
  obtain ⟨h0, h1, h2, h3, h5, h7, h8, h9, h10⟩ := h
  unfold canV
  rw [if_neg h0, if_neg h7, if_neg h8, if_neg h9, if_neg h10, if_neg h1, if_neg h2, if_neg h3, if_neg h5]
theorem cFn {tg : Bool} {f : Fd} (h11 : f.kind ≠ 11) (h8 : ¬ (f.kind = 8 ∧ 0 ≤ f.nul)) : canF tg f x = canV f.kind (canP tg f.sub) x := by rw [canF_eq]; unfold canF'; rw [if_neg h11, if_neg h8]
theorem cF8 {tg : Bool} {f : Fd} (h : f.kind = 8) (hn : 0 ≤ f.nul) : canF tg f x = .mk 0 (sT x) x.nul [] [] := by rw [canF_eq]; unfold canF'; rw [if_neg (by omega), if_pos ⟨h, hn⟩]
theorem cF11 {tg : Bool} {f : Fd} (h : f.kind = 11) : canF tg f x = .mk 0 [] x.nul ((lT x).map (canV f.of (canP tg f.sub))) [] := by rw [canF_eq]; unfold canF'; rw [if_pos h]
theorem u16_idem {n : Nat} (h : n < 65536) : IntKind.u16.wrap (n : Int) = n := by rw [wrap16u]; omega
theorem rLen_nn (flex : Bool) (w : Nat) (r : Rd) : (rLen flex w r).2.nn = false → (rLen flex w r).2.s = [] := by
  unfold rLen
  split
  · show (rU r).2.nn = false → (rU r).2.s = []
    unfold rU; split <;> simp [Rd.out]
  · show (rN w r).2.nn = false → (rN w r).2.s = []
    unfold rN; split <;> simp [Rd.out]
theorem beN_lt2 {l : List UInt8} (h : l.length = 2) : beN l < 65536 := by
  match l, h with
  | [a, b], _ => have h1 := a.toNat_lt; have h2 := b.toNat_lt; simp only [beN, List.foldl]; omega
theorem rN_lt2 (r : Rd) : (rN 2 r).1 < 65536 := by
  unfold rN
  split
  · decide
  · exact beN_lt2 (by rw [List.length_take]; omega)
theorem canV_dec {kind : Int} {part : Rd → Tr × Rd} {nul flex : Bool} (hp : ∀ r, sub (part r).1 = (part r).1) (h8 : kind = 8 → nul = false) (r : Rd) : canV kind sub (decV kind part nul flex r).1 = (decV kind part nul flex r).1 := by
  by_cases k0 : kind = 0
  · subst k0; rw [dV0, cV0]; by_cases h : (rN 1 r).1 = 0 <;> simp [Tr.n, h]
  by_cases k1 : kind = 1
  · subst k1; rw [dV1, cV1]; simp only [Tr.n, wrap8_idem]
  by_cases k2 : kind = 2
  · subst k2; rw [dV2, cV2]; simp only [Tr.n, wrap16_idem]
  by_cases k3 : kind = 3
  · subst k3; rw [dV3, cV3]; simp only [Tr.n, wrap32_idem]
  by_cases k5 : kind = 5
  · subst k5; rw [dV5, cV5]; simp only [Tr.n]; rw [u16_idem (rN_lt2 r)]
  by_cases k7 : kind = 7
  · subst k7; rw [dV7, cV7]; simp only [Tr.s, pad16_pad]
  by_cases k8 : kind = 8
  · subst k8; rw [h8 rfl, dV8n, cV8]; simp only [Tr.s]
  by_cases k9 : kind = 9
  · subst k9
    have hs := fun l => rSpan_nil (l := l) (rLen_nn flex 4 r)
    rw [cV9]
    cases nul with
    | true =>
      by_cases h : (rLen flex 4 r).1 < 0
      · rw [dV9y0 h]; rfl
      · rw [dV9y1 h]; show Tr.mk 0 (sT (Tr.mk 0 _ _ [] [])) _ [] [] = _; rw [sT_span _ _ (hs _)]; rfl
    | false =>
      by_cases h : (rLen flex 4 r).1 = -1
      · rw [dV9n0 h]; rfl
      · rw [dV9n1 h]; show Tr.mk 0 (sT (Tr.mk 0 _ _ [] [])) _ [] [] = _; rw [sT_span _ _ (hs _)]; rfl
  by_cases k10 : kind = 10
  · subst k10; rw [dV10, cV10]; exact hp r
  rw [cVn ⟨k0, k1, k2, k3, k5, k7, k8, k9, k10⟩]
  unfold decV
  rw [if_neg k0, if_neg k7, if_neg k8, if_neg k9, if_neg k10, if_neg k1, if_neg k2, if_neg k3, if_neg k5]
  rfl
theorem many_map {g : Tr → Tr} {d : Rd → Tr × Rd} (h : ∀ r, g (d r).1 = (d r).1) : ∀ (n : Nat) (r : Rd), (rMany d n r).1.map g = (rMany d n r).1
  | 0, _ => rfl
  | n + 1, r => by
    show g (d r).1 :: (rMany d n (d r).2).1.map g = (d r).1 :: (rMany d n (d r).2).1
    rw [h, many_map h n]
theorem canF'_dec {f : Fd} {part : Rd → Tr × Rd} {v : Int} {flex : Bool} (hp : ∀ r, sub (part r).1 = (part r).1) (r : Rd) : canF' f sub (decF' f part v flex r).1 = (decF' f part v flex r).1 := by
  unfold canF'
  by_cases h11 : f.kind = 11
  · rw [if_pos h11, decF'_list h11 rfl]
    generalize hb : (if 0 ≤ f.nul ∧ (v < f.nul ∨ (rArr flex r).1 = 0) then false else decide ((rArr flex r).1 ≤ 0)) = b
    have hm := many_map (g := canV f.of sub) (d := decV f.of part false flex) (fun r => canV_dec hp (fun _ => rfl) r) (rArr flex r).1.toNat (rArr flex r).2
    cases b with
    | false => show Tr.mk 0 [] false (((rMany (decV f.of part false flex) (rArr flex r).1.toNat (rArr flex r).2).1).map (canV f.of sub)) [] = _; rw [hm]
    | true =>
      have hl := nul_le hb
      rw [show (rArr flex r).1.toNat = 0 by omega]; rfl
  · rw [if_neg h11, decF'_val h11 rfl]
    by_cases h8 : f.kind = 8 ∧ 0 ≤ f.nul
    · rw [if_pos h8, h8.1]
      cases (decide (0 ≤ f.nul) && decide (f.nul ≤ v)) with
      | false => rw [dV8n]; rfl
      | true =>
        by_cases h : (rLen flex 2 r).1 < 0
        · rw [dV8y0 h]; rfl
        · rw [dV8y1 h]; rfl
    · rw [if_neg h8]
      refine canV_dec hp (fun hk => ?_) r
      have : ¬ 0 ≤ f.nul := fun h => h8 ⟨hk, h⟩
      simp [this]
end
theorem at_lt {y : Tr} {i : Nat} (h : i < y.l.length) : y.at i = y.l[i] := by unfold Tr.at; rw [List.getElem?_eq_getElem h]; rfl
theorem canFs_zip (tg : Bool) (y : Tr) : ∀ (fs : List Fd) (i : Nat), (y.l.drop i).length = fs.length → canFs tg fs i y = List.zipWith (canF tg) fs (y.l.drop i)
  | [], i, h => by rw [canFs_nil]; rfl
  | f :: r, i, h => by
    have hi : i < y.l.length := by simp only [List.length_drop, List.length_cons] at h; omega
    rw [canFs_cons, at_lt hi, List.drop_eq_getElem_cons hi, List.zipWith_cons_cons, canFs_zip tg y r (i + 1) (by simp only [List.length_drop, List.length_cons] at h ⊢; omega)]
theorem canL_dfl {tg : Bool} : ∀ (fs : List Fd), (∀ f ∈ fs, canF tg f (dflF f) = dflF f) → List.zipWith (canF tg) fs (dflFs fs) = dflFs fs ∧ (dflFs fs).length = fs.length
  | [], _ => by rw [dflFs]; exact ⟨rfl, rfl⟩
  | f :: r, h => by
    obtain ⟨h1, h2⟩ := canL_dfl r (fun g hg => h g (List.mem_cons_of_mem _ hg))
    rw [dflFs, List.zipWith_cons_cons, h1, h f List.mem_cons_self]
    exact ⟨rfl, by simp [h2]⟩
theorem canP_zip {tg : Bool} {fs : List Fd} {l : List Tr} {u : List (Int × List UInt8)} (hl : l.length = fs.length) (hz : List.zipWith (canF tg) fs l = l) (hu : tg = false → u = []) : canP tg fs (.mk 0 [] false l u) = .mk 0 [] false l u := by
  unfold canP
  rw [canFs_zip tg _ fs 0 (by simpa [Tr.l] using hl)]
  have h1 : List.zipWith (canF tg) fs (List.drop 0 (Tr.mk 0 [] false l u).l) = l := hz
  rw [h1]
  cases tg with
  | true => rfl
  | false => rw [hu rfl]; rfl
theorem can_dfl {tg : Bool} {v : Int} {flex : Bool} {fs : List Fd} (h : RdGood v flex fs) : ∀ f ∈ fs, canF tg f (dflF f) = dflF f := by
  induction h with
  | mk fs h hr ih =>
    intro f hf
    have hg := h f hf
    have hsub := canL_dfl f.sub (ih f hf)
    rw [canF_eq, dflF_eq]
    generalize hl : dflFs f.sub = l at hsub
    have cs : f.kind = 7 ∨ f.kind = 8 ∨ f.kind = 9 ∨ f.kind = 11 ∨ f.kind = 10 ∨ (f.kind ≠ 7 ∧ f.kind ≠ 8 ∧ f.kind ≠ 9 ∧ f.kind ≠ 11 ∧ f.kind ≠ 10) := by omega
    rcases cs with k | k | k | k | k | ⟨k7, k8, k9, k11, k10⟩
    · have e : dflF' f l = .mk 0 (List.replicate 16 0) false [] [] := by unfold dflF'; rw [if_pos k]
      rw [e]; unfold canF'; rw [if_neg (by omega), if_neg (by omega), k, cV7]; rfl
    · have e : dflF' f l = .mk 0 [] (decide (0 ≤ f.nul)) [] [] := by unfold dflF'; rw [if_neg (by omega), if_pos k]
      rw [e]; unfold canF'; rw [if_neg (by omega)]
      by_cases hn : 0 ≤ f.nul
      · rw [if_pos ⟨k, hn⟩, decide_eq_true hn]; rfl
      · rw [if_neg (fun h => hn h.2), k, cV8, decide_eq_false hn]; rfl
    · have e : dflF' f l = .mk 0 [] true [] [] := by unfold dflF'; rw [if_neg (by omega), if_neg (by omega), if_pos (Or.inl k)]
      rw [e]; unfold canF'; rw [if_neg (by omega), if_neg (by omega), k, cV9]; rfl
    · have e : dflF' f l = .mk 0 [] true [] [] := by unfold dflF'; rw [if_neg (by omega), if_neg (by omega), if_pos (Or.inr k)]
      rw [e]; unfold canF'; rw [if_pos k]; rfl
    · have e : dflF' f l = .mk 0 [] false l [] := by unfold dflF'; rw [if_neg (by omega), if_neg (by omega), if_neg (by omega), if_pos k]
      rw [e]; unfold canF'; rw [if_neg (by omega), if_neg (by omega), k, cV10]; exact canP_zip hsub.2 hsub.1 (fun _ => rfl)
    · have e : dflF' f l = .mk f.df [] false [] [] := by unfold dflF'; rw [if_neg k7, if_neg k8, if_neg (by omega), if_neg k10]
      rw [e]; unfold canF'; rw [if_neg k11, if_neg (by omega)]
      by_cases k6 : f.kind < 7
      · have hd := hg.df k6
        by_cases k0 : f.kind = 0
        · rw [k0, cV0]
          rw [k0] at hd
          have hd' : f.df = f.df % 2 := hd
          show Tr.mk (if decide (f.df % 2 = 1) = true then 1 else 0) [] false [] [] = _
          by_cases h1 : f.df % 2 = 1
          · rw [if_pos (decide_eq_true h1), hd', h1]
          · rw [if_neg (by simpa using h1)]; rw [show f.df = 0 by omega]
        by_cases k1 : f.kind = 1
        · rw [k1, cV1]; rw [k1] at hd; exact congrArg (fun n => Tr.mk n [] false [] []) hd.symm
        by_cases k2 : f.kind = 2
        · rw [k2, cV2]; rw [k2] at hd; exact congrArg (fun n => Tr.mk n [] false [] []) hd.symm
        by_cases k3 : f.kind = 3
        · rw [k3, cV3]; rw [k3] at hd; exact congrArg (fun n => Tr.mk n [] false [] []) hd.symm
        by_cases k5 : f.kind = 5
        · rw [k5, cV5]; rw [k5] at hd; exact congrArg (fun n => Tr.mk n [] false [] []) hd.symm
        rw [cVn ⟨k0, k1, k2, k3, k5, k7, k8, k9, k10⟩]; rfl
      · rw [cVn ⟨by omega, by omega, by omega, by omega, by omega, k7, k8, k9, k10⟩]; rfl
theorem canL_dec {tg : Bool} {v : Int} {flex : Bool} : ∀ (fs : List Fd), (∀ f ∈ fs, canF tg f (dflF f) = dflF f) → (∀ f ∈ fs, ∀ r, canF tg f (decF f v flex r).1 = (decF f v flex r).1) → ∀ r, List.zipWith (canF tg) fs (decFs fs v flex r).1 = (decFs fs v flex r).1 ∧ (decFs fs v flex r).1.length = fs.length
  | [], _, _, r => by rw [decFs_nil]; exact ⟨rfl, rfl⟩
  | f :: fs, hd, hf, r => by
    rw [decFs_cons]
    obtain ⟨h1, h2⟩ := canL_dec fs (fun g hg => hd g (List.mem_cons_of_mem _ hg)) (fun g hg => hf g (List.mem_cons_of_mem _ hg)) (stepF f v flex r).2
    have h0 : canF tg f (stepF f v flex r).1 = (stepF f v flex r).1 := by
      unfold stepF
      split
      · exact hf f List.mem_cons_self r
      · exact hd f List.mem_cons_self
    refine ⟨?_, by simp [h2]⟩
    show List.zipWith (canF tg) (f :: fs) (_ :: _) = _
    rw [List.zipWith_cons_cons, h0, h1]
/-- What was read is told as it is. -/
theorem canP_dec {tg : Bool} {v : Int} {flex : Bool} {fs : List Fd} (h : RdGood v flex fs) (ht : tg = false → flex = false) : ∀ r, canP tg fs (decP fs v flex r).1 = (decP fs v flex r).1 := by
  have hd := can_dfl (tg := tg) h
  induction h with
  | mk fs h hr ih =>
    intro r
    rw [decP_eq]
    obtain ⟨h1, h2⟩ := canL_dec (tg := tg) (v := v) (flex := flex) fs hd (fun f hf r => by rw [canF_eq, decF_eq]; exact canF'_dec (ih f hf (can_dfl (hr f hf))) r) r
    refine canP_zip h2 h1 (fun h0 => ?_)
    rw [ht h0]; rfl
end Go.Sx

/- What is set of a message with known tags may be written just as it is, and is written alike. -/
import Derived.Test.YtpcgaheplmiglaaGreatTagW
import Derived.Test.YtpcgaheplmiglaaGreatMkL
set_option linter.unusedVariables false
set_option linter.unusedSimpArgs false
namespace Go.Sx
inductive GoodT : List Fd → Prop
  | mk (fs : List Fd) (hl : fs.length ≤ 1000) (h : ∀ f ∈ fs, f.tag < 0 ∨ (f.nul < 0 ∧ (f.kind = 10 → ∀ g ∈ f.sub, g.nul < 0 ∧ g.kind ≠ 10))) (hr : ∀ f ∈ fs, GoodT f.sub) : GoodT fs
mutual
def goodTF : Fd → Bool
  | .mk kind _ _ nul tag _ _ sub => (decide (tag < 0) || (decide (nul < 0) && (decide (kind ≠ 10) || sub.all fun g => decide (g.nul < 0) && decide (g.kind ≠ 10)))) && Nat.ble sub.length 1000 && goodTFs sub
def goodTFs : List Fd → Bool
  | [] => true
  | f :: r => goodTF f && goodTFs r
end
theorem goodTFs_mem : ∀ {fs : List Fd}, goodTFs fs = true → ∀ f ∈ fs, goodTF f = true
  | [], _, f, hf => by cases hf
  | g :: r, h, f, hf => by
    rw [goodTFs, Bool.and_eq_true] at h
    rcases List.mem_cons.1 hf with rfl | hf
    · exact h.1
    · exact goodTFs_mem h.2 f hf
theorem goodT_of : ∀ (n : Nat) (fs : List Fd), SizeOf.sizeOf fs ≤ n → fs.length ≤ 1000 → goodTFs fs = true → GoodT fs
  | 0, fs, hn, _, _ => by cases fs <;> simp at hn <;> omega
  | n + 1, fs, hn, hl, h => by
    refine .mk fs hl (fun f hf => ?_) (fun f hf => ?_)
    · have := goodTFs_mem h f hf
      cases f; rw [goodTF] at this
      simp only [Bool.and_eq_true, Bool.or_eq_true, decide_eq_true_eq, List.all_eq_true] at this
      rcases this.1.1 with h1 | ⟨h1, h2⟩
      · exact .inl h1
      · refine .inr ⟨h1, fun hk => ?_⟩
        rcases h2 with h2 | h2
        · exact absurd hk h2
        · exact h2
    · have h1 := goodTFs_mem h f hf
      have h2 := List.sizeOf_lt_of_mem hf
      refine goodT_of n f.sub ?_ ?_ ?_
      · cases f; simp [Fd.sub] at h2 ⊢; omega
      · cases f; rw [goodTF] at h1; simp only [Bool.and_eq_true] at h1
        exact Nat.le_of_ble_eq_true h1.1.2
      · cases f; rw [goodTF] at h1; simp only [Bool.and_eq_true] at h1
        exact h1.2
theorem GoodT.of {fs : List Fd} (hl : fs.length ≤ 1000) (h : goodTFs fs = true) : GoodT fs := goodT_of _ fs (Nat.le_refl _) hl h
theorem fine_fitT {fs : List Fd} (h : GoodT fs) (v : Int) : ∀ t, Fine (fit fs v t) := by
  induction h with
  | mk fs hl _ _ ih =>
    intro t
    have hu := okU_fit fs t.u
    refine .mk _ (by show (fitsF fs v 0 t).length ≤ _; rw [fitsF_length]; omega) ?_ hu.2.1 fun x hx => ?_
    · show SortedU ((unknown fs t.u).map wholeTag)
      have := unknown_sorted fs t.u
      unfold SortedU at this ⊢
      rw [List.pairwise_map]
      exact this.imp (fun h => h)
    · obtain ⟨i, hi, rfl⟩ := List.mem_iff_getElem.1 (show x ∈ fitsF fs v 0 t from hx)
      rw [fitsF_length] at hi
      have h := fitsF_get v t fs 0 i hi
      obtain ⟨h1, h2⟩ := List.getElem?_eq_some_iff.1 h
      rw [show (fitsF fs v 0 t)[i] = _ from h2]
      have h1 := ih fs[i] (List.getElem_mem hi)
      generalize fs[i] = f at h1
      rw [fitF_eq]; unfold fitF'
      split
      · refine .mk _ ?_ (by simp [Tr.u, SortedU]) (by simp [Tr.u]) fun y hy => ?_
        · show (List.map _ (t.at (0 + i)).things).length ≤ _
          rw [List.length_map]
          show ((t.at (0 + i)).l.take most).length ≤ _
          rw [take_most_len]; omega
        · obtain ⟨z, _, rfl⟩ := List.mem_map.1 (show y ∈ List.map _ (t.at (0 + i)).things from hy)
          exact fine_fitV (h1 z)
      · exact fine_fitV (h1 _)
theorem things_empty (x : Tr) (g : Tr → Tr) : (x.things.map g).isEmpty = x.l.isEmpty := by
  unfold Tr.things
  cases x.l with
  | nil => rfl
  | cons y l => rfl
theorem whole_empty (s : List UInt8) : (whole s).isEmpty = s.isEmpty := by
  cases s with
  | nil => rfl
  | cons y l => rfl
theorem fu_fit0 {g : Fd} {v : Int} {y : Tr} (hn : g.nul < 0) (hk : g.kind ≠ 10) : fieldU g (fitF g v y) = fieldU g y := by
  rw [fieldU_eq, fieldU_eq, fitF_eq]
  unfold usual' fitF' fitV
  by_cases h11 : g.kind = 11
  · simp only [h11]
    exact things_empty y _
  · rw [if_neg h11]
    by_cases h8 : g.kind = 8 ∨ g.kind = 9
    · rw [if_pos h8]
      have h0 : ¬ g.kind = 0 := by omega
      have h7 : ¬ g.kind = 7 := by omega
      rw [if_neg h0, if_neg h7, if_pos h8, if_neg (by omega), if_neg h0, if_neg h7, if_pos h8, if_neg (by omega)]
      exact whole_empty y.s
    · rw [if_neg h8, if_neg hk]
      simp only [h8, hk, h11, if_false]
      rfl
theorem fu_fit10 {f : Fd} {v : Int} {x : Tr} (hk : f.kind = 10) (hs : ∀ g ∈ f.sub, g.nul < 0 ∧ g.kind ≠ 10) : fieldU f (fitF f v x) = fieldU f x := by
  have hu := (okU_fit f.sub x.u).1
  have hsub : ∀ y : Tr, y.l = fitsF f.sub v 0 x → fieldsU f.sub 0 y = fieldsU f.sub 0 x := by
    intro y hy
    rw [Bool.eq_iff_iff, fieldsU_iff, fieldsU_iff]
    have he : ∀ j (hj : j < f.sub.length), fieldU f.sub[j] (y.at (0 + j)) = fieldU f.sub[j] (x.at (0 + j)) := by
      intro j hj
      have h1 := fitsF_get v x f.sub 0 j hj
      have h2 : y.at (0 + j) = fitF f.sub[j] v (x.at (0 + j)) := by
        unfold Tr.at
        rw [hy, Nat.zero_add, h1, Nat.zero_add]; rfl
      have h3 := hs _ (List.getElem_mem hj)
      rw [h2, fu_fit0 h3.1 h3.2]
    exact ⟨fun h j hj => (he j hj).symm.trans (h j hj), fun h j hj => (he j hj).trans (h j hj)⟩
  rw [fieldU_eq, fieldU_eq, fitF_eq]
  unfold usual' fitF' fitV
  have h0 : ¬ f.kind = 0 := by omega
  have h7 : ¬ f.kind = 7 := by omega
  have h8 : ¬ (f.kind = 8 ∨ f.kind = 9) := by omega
  have h11 : ¬ f.kind = 11 := by omega
  simp only [if_neg h0, if_neg h7, if_neg h8, if_neg h11, if_pos hk]
  congr 1
  · exact hsub _ rfl
  · show (unknown f.sub ((unknown f.sub x.u).map wholeTag)).isEmpty = _
    rw [hu]
    cases unknown f.sub x.u <;> rfl
theorem ok_fitT : ∀ {fs : List Fd}, GoodT fs → ∀ (v : Int) (t : Tr), OkP fs v (fit fs v t) := by
  intro fs h
  induction h with
  | mk fs hl htag hr ih =>
    intro v t
    refine ⟨okU_fit fs t.u, OkFs_iff.2 fun j hj _ => ?_⟩
    rw [Nat.zero_add, fit_at j hj]
    have ih' := ih fs[j] (List.getElem_mem hj)
    generalize fs[j] = f at ih'
    have hnul : ∀ b, f.isNul v (t.at j) = true → (0 ≤ f.nul ∧ f.nul ≤ v) ∨ b := fun b hb => by
      unfold Fd.isNul at hb
      simp at hb; exact Or.inl ⟨hb.1.2, hb.2⟩
    rw [fitF_eq]; unfold fitF'
    by_cases h11 : f.kind = 11
    · rw [if_pos h11]
      refine ⟨fun hn => ?_, fun h => by omega, fun h => by omega, fun _ => ?_, fun _ y hy => ?_⟩
      · have h0 : (f.isNul v (t.at j) || (decide (0 ≤ f.tag) && (t.at j).l.isEmpty)) = true := hn
        rw [Bool.or_eq_true, Bool.and_eq_true, decide_eq_true_eq] at h0
        rcases h0 with h0 | ⟨h0, h1⟩
        · exact hnul _ h0
        · refine .inr ⟨h11, .inl h0, ?_⟩
          show (t.at j).things.map _ = []
          unfold Tr.things
          rw [List.isEmpty_iff.1 h1]; rfl
      · show (List.map _ (t.at j).things).length ≤ _
        rw [List.length_map]
        show ((t.at j).l.take most).length ≤ _
        rw [take_most_len]; omega
      · obtain ⟨z, _, rfl⟩ := List.mem_map.1 (show y ∈ List.map _ (t.at j).things from hy)
        unfold fitV
        refine ⟨fun h => ?_, fun h => ?_⟩
        · rw [if_pos h]
          show (whole z.s).length ≤ _
          rw [whole_len]; omega
        · rw [if_neg (by omega), if_pos h]
          have := ih' v z
          exact this
    · rw [if_neg h11]; unfold fitV
      by_cases h8 : f.kind = 8 ∨ f.kind = 9
      · rw [if_pos h8]
        refine ⟨fun hn => hnul _ hn, fun _ => ?_, fun h => by omega, fun h => absurd h h11, fun h => absurd h h11⟩
        show (whole (t.at j).s).length ≤ _
        rw [whole_len]; omega
      · rw [if_neg h8]
        by_cases h10 : f.kind = 10
        · rw [if_pos h10]
          refine ⟨fun hn => hnul _ hn, fun h => absurd h h8, fun _ _ => ?_, fun h => absurd h h11, fun h => absurd h h11⟩
          have := ih' v (t.at j)
          refine ⟨this.u, OkFs_l ?_ this.fs⟩
          cases fit f.sub v (t.at j); rfl
        · rw [if_neg h10]
          exact ⟨fun hn => (by cases hn), fun h => absurd h h8, fun h => absurd h h10, fun h => absurd h h11, fun h => absurd h h11⟩
theorem partB_fitT : ∀ {fs : List Fd}, GoodT fs → ∀ (v : Int) (flex : Bool) (t : Tr), partB fs v flex (fit fs v t) = partB fs v flex t := by
  intro fs h
  induction h with
  | mk fs hl htag hr ih =>
    intro v flex t
    refine partB_congr (fun j hj => ?_) (fun j hj h0 => ?_) ?_
    · rw [fit_at j hj]
      have ih' := ih fs[j] (List.getElem_mem hj)
      have ht := htag fs[j] (List.getElem_mem hj)
      generalize fs[j] = f at ih' ht
      generalize t.at j = x
      rw [fitF_eq, fieldB_eq, fieldB_eq]
      unfold fitF'
      by_cases h11 : f.kind = 11
      · rw [if_pos h11]; unfold fieldB'
        rw [if_pos h11, if_pos h11]
        have e1 : f.isNul v (.mk 0 [] (f.isNul v x || (decide (0 ≤ f.tag) && x.l.isEmpty)) (x.things.map (fitV f.of (fit f.sub v) false)) []) = f.isNul v x := by
          rcases ht with ht | ⟨ht, _⟩
          · rw [decide_eq_false (show ¬ 0 ≤ f.tag by omega), Bool.false_and, Bool.or_false]
            exact isNul_idem f v _ _ x _ _
          · rw [isNul_mk]; unfold Fd.isNul
            rw [decide_eq_false (show ¬ 0 ≤ f.nul by omega)]; simp
        have e2 : Tr.things (.mk 0 [] (f.isNul v x || (decide (0 ≤ f.tag) && x.l.isEmpty)) (x.things.map (fitV f.of (fit f.sub v) false)) []) = x.things.map (fitV f.of (fit f.sub v) false) := by
          show (x.things.map (fitV f.of (fit f.sub v) false)).take most = _
          refine List.take_of_length_le ?_
          rw [List.length_map]
          show (x.l.take most).length ≤ most
          rw [List.length_take]; omega
        rw [e1, e2]
        cases f.isNul v x with
        | true => rfl
        | false =>
          simp only [Bool.false_eq_true, if_false, List.length_map]
          rw [List.flatMap_map]
          congr 2
          funext y
          unfold fitV valueB
          by_cases h8 : f.of = 8 ∨ f.of = 9
          · rw [if_pos h8]
            rcases h8 with h8 | h8 <;> simp [h8, Tr.s, whole_whole]
          · rw [if_neg h8]
            by_cases h10 : f.of = 10
            · rw [if_pos h10]
              simp only [h10]
              exact ih' v flex y
            · rw [if_neg h10]
              simp only [h10, if_false]
              rfl
      · rw [if_neg h11]; unfold fieldB'
        rw [if_neg h11, if_neg h11]
        unfold fitV
        by_cases h8 : f.kind = 8 ∨ f.kind = 9
        · rw [if_pos h8, if_neg (by omega), if_neg (by omega)]
          have e1 : f.isNul v (.mk 0 (whole x.s) (f.isNul v x) [] []) = f.isNul v x := isNul_idem f v _ _ x _ _
          rw [e1]; unfold valueB
          rcases h8 with h8 | h8 <;> simp [h8, Tr.s, whole_whole]
        · rw [if_neg h8]
          by_cases h10 : f.kind = 10
          · rw [if_pos h10]
            have hp := ih' v flex x
            generalize fit f.sub v x = y at hp
            cases y with
            | mk n s nul l u =>
              have e1 : f.isNul v (.mk n s (f.isNul v x) l u) = f.isNul v x := isNul_idem f v _ _ x _ _
              have hp2 : partB f.sub v flex (.mk n s (f.isNul v x) l u) = partB f.sub v flex x := (partB_l (x := .mk n s (f.isNul v x) l u) (y := .mk n s nul l u) rfl rfl).trans hp
              simp only [e1, hp2]
              unfold valueB
              simp only [h10]
              by_cases hn : 0 ≤ f.nul
              · simp [hn]
              · simp [hn, hp2]
          · rw [if_neg h10, if_neg (by omega), if_neg (by omega)]
            have h8' : f.kind ≠ 8 ∧ f.kind ≠ 9 := by omega
            unfold valueB
            simp [h8'.1, h8'.2, h10, Tr.n, Tr.s]
    · rw [fit_at j hj]
      rcases htag fs[j] (List.getElem_mem hj) with h1 | ⟨h1, h2⟩
      · omega
      · by_cases h10 : fs[j].kind = 10
        · exact fu_fit10 h10 (h2 h10)
        · exact fu_fit0 h1 h10
    · show (unknown fs ((unknown fs t.u).map wholeTag)).map wholeTag = _
      rw [(okU_fit fs t.u).1, List.map_map]
      apply List.map_congr_left
      intro p _
      simp [wholeTag, whole_whole]
end Go.Sx

/- The symbolic walk's law for a loop over a range. -/
import Derived.Test.YtahmkeoedpghjabGreatSxApp
set_option linter.unusedVariables false
set_option linter.unusedSimpArgs false
namespace Go.Sx
section
variable {P : Program} {Q : Exit → Act → World → Prop} {n : Nat} {l : Env} {H : Fz} {L : Own}

theorem look_head (c : Nat) (v : Value) (l : Env) : look ((c, v) :: l) c = some v := by simp [look]
theorem get_head (c : Nat) (v : Value) (l : Env) : get ((c, v) :: l) (.tmp c) = some v := look_head c v l
theorem look_skip {c t : Nat} (v : Value) (l : Env) (h : Nat.beq c t = false) : look ((c, v) :: l) t = look l t := by simp [look, h]
theorem beq_false_of_ne {a b : Nat} (h : a ≠ b) : Nat.beq a b = false := by
  cases hb : Nat.beq a b with
  | false => rfl
  | true => exact absurd (Nat.eq_of_beq_eq_true hb) h
theorem Sub.drop {l : Env} {d : Nat} {v : Value} (h : look l d = none) : Sub ((d, v) :: l) l := by
  intro t u ht
  have : d ≠ t := by rintro rfl; rw [h] at ht; cases ht
  rw [look_skip _ _ (beq_false_of_ne this)]; exact ht
theorem Sub.trans {a b c : Env} (h : Sub a b) (h' : Sub b c) : Sub a c := fun t v ht => h t v (h' t v ht)

/-- What a loop's invariant says of the registers that the loop itself uses. -/
structure Free (m c d x : Nat) (N : Nat) (l : Env) : Prop where
  m : look l m = some (.int .i64 (N : Int))
  c : look l c = none
  d : look l d = none
  x : look l x = none

theorem fr {B B2 r1 r2 c d m x T1 T2 T3 T4 ty1 ty2 ty3 : Nat} {p1 p2 p3 : String} {a1 a2 a3 : Array Edge} {body : Code} (N : Nat) (I : Nat → Env → Fz → Own → Prop) (l0 : Env)
    (hm : ∀ k l' H' L', I k l' H' L' → Free m c d x N l') (hN : N ≤ 4611686018427387904)
    (hc : look l c = some (.int .i64 0)) (hs : Sub l l0) (h0 : I 0 l0 H L)
    (hdn : Nat.blt d n = true) (hcn : Nat.blt c n = true) (hxn : Nat.blt x n = true) (hcm : Nat.beq c m = false) (hdc : Nat.beq d c = false)
    (round : ∀ k l' H' L', k < N → H.le H' → I k l' H' L' → Wp P body (Exit.inBlock B2 (Exit.then (St n H (fun l1 H1 L1 => ∃ l2, l1 = (c, .int .i64 (k : Int)) :: l2 ∧ I (k + 1) l2 H1 L1)) (Exit.inBlock B Q))) n ((c, .int .i64 (k : Int)) :: l') H' L')
    (hend : ∀ l' H' L', H.le H' → I N l' H' L' → ∀ a w, Has n ((c, .int .i64 (N : Int)) :: l') a → Hp H' L' w → Q .normal a w) :
    Wp P (.block B (.loop (.seq (.region r1 [⟨some d, .binOp .lss T1 (.tmp c) (.tmp m) T2, ty1, p1, a1, none⟩].toArray false) (.seq (.cond (.tmp d) .skip (.exit B)) (.seq (.block B2 body) (.region r2 [⟨some x, .binOp .add T3 (.tmp c) (.const (.int .i64 1)) T4, ty2, p2, a2, none⟩, ⟨some c, .move (.tmp x), ty3, p3, a3, none⟩].toArray false)))))) Q n l H L := by
  refine bl (lp N (fun k l1 H1 L1 => ∃ l2, l1 = (c, .int .i64 (k : Int)) :: l2 ∧ I k l2 H1 L1) ((c, .int .i64 ((0 : Nat) : Int)) :: l0) (Sub.cons hc hs) ⟨l0, rfl, h0⟩ ?_)
  rintro k _ H' L' hk hle ⟨l2, rfl, hI⟩
  have hF := hm k l2 H' L' hI
  have hcl : look ((c, Value.int .i64 (k : Int)) :: l2) d = none := by rw [look_skip _ _ (by
    cases h : Nat.beq c d with
    | false => rfl
    | true => have := Nat.eq_of_beq_eq_true h; subst this; simp at hdc)]; exact hF.d
  refine sr (lt (a := (k : Int)) (b := (N : Int)) (k := .i64) (get_head c _ _) ?_ hdn (nl ?_))
  · show look _ m = _
    rw [look_skip _ _ hcm]; exact hF.m
  refine sq (cd (p := ((k : Int) < (N : Int))) (get_head d _ _) (fun h => ?_) (fun h => ?_))
  · have hkN : k < N := by omega
    refine skt (sq (bl (Wp.mono ((round k l2 H' L' hkN hle hI).env (Sub.drop hcl)) ?_)))
    -- behind the body: one more
    have inc : ∀ a w, St n H (fun l1 H1 L1 => ∃ l2, l1 = (c, .int .i64 (k : Int)) :: l2 ∧ I (k + 1) l2 H1 L1) a w →
        Code.wp P (.region r2 [⟨some x, .binOp .add T3 (.tmp c) (.const (.int .i64 1)) T4, ty2, p2, a2, none⟩, ⟨some c, .move (.tmp x), ty3, p3, a3, none⟩].toArray false)
          (Exit.then (fun a w => k < N ∧ St n H (fun l1 H1 L1 => ∃ l2, l1 = (c, .int .i64 ((k + 1 : Nat) : Int)) :: l2 ∧ I (k + 1) l2 H1 L1) a w) (Exit.inBlock B Q)) a w := by
      rintro a w ⟨_, H1, L1, g1, g2, g3, ⟨l3, rfl, g4⟩⟩
      have hF' := hm _ _ _ _ g4
      refine rg (ad (a := (k : Int)) (b := 1) (k := .i64) (c := ((k + 1 : Nat) : Int)) (get_head c _ _) rfl ?_ hxn (mv (get_head x _ _) hcn (nq ?_))) a w g1 g3
      · rw [w64 (by omega) (by omega)]; omega
      · intro a' w' hA hw
        refine ⟨hkN, _, H1, L1, hA.sub (Sub.cons (look_head _ _ _) ?_), g2, hw, l3, rfl, g4⟩
        intro t v ht
        have h1 : c ≠ t := by rintro rfl; rw [hF'.c] at ht; cases ht
        have h2 : x ≠ t := by rintro rfl; rw [hF'.x] at ht; cases ht
        rw [look_skip _ _ (beq_false_of_ne h1), look_skip _ _ (beq_false_of_ne h2), look_skip _ _ (beq_false_of_ne h1)]
        exact ht
    intro e a w he
    cases e with
    | normal => exact inc a w he
    | exit id =>
      simp only [Exit.inBlock] at he ⊢
      split
      · rename_i hid; rw [if_pos hid] at he; exact inc a w he
      · rename_i hid; rw [if_neg hid] at he; exact he
    | goto l => exact he
    | ret => exact he
    | panic ch => exact he
    | outgrown => exact he
  · have hkN : k = N := by omega
    subst hkN
    refine ex fun a w hA hw => ?_
    show Exit.inBlock B Q (.exit B) a w
    simp only [Exit.inBlock, if_true]
    exact hend l2 H' L' hle hI a w (hA.sub (Sub.drop hcl)) hw
end
end Go.Sx

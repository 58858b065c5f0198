/- The symbolic walk's laws for single operations. -/
import Derived.Test.YtahmkeoedpghjabGreatSx
set_option linter.unusedVariables false
set_option linter.unusedSimpArgs false
namespace Go.Sx

def nth : List Value → Nat → Option Value
  | [], _ => none
  | v :: _, 0 => some v
  | _ :: l, n + 1 => nth l n
theorem nth_eq (l : List Value) : ∀ n, nth l n = l[n]? := by
  induction l with
  | nil => intro n; simp [nth]
  | cons v l ih => intro n; cases n with
    | zero => simp [nth]
    | succ n => simp [nth, ih]
def setAt : List Value → Nat → Value → Option (List Value)
  | [], _, _ => none
  | _ :: l, 0, v => some (v :: l)
  | x :: l, n + 1, v => match setAt l n v with | some l' => some (x :: l') | none => none
theorem setAt_eq (l : List Value) : ∀ n v l', setAt l n v = some l' → n < l.length ∧ l' = l.set n v := by
  induction l with
  | nil => intro n v l' h; simp [setAt] at h
  | cons x l ih =>
    intro n v l' h
    cases n with
    | zero => simp [setAt] at h; subst h; simp
    | succ n =>
      simp only [setAt] at h
      split at h
      · rename_i l1 h1
        obtain ⟨h2, rfl⟩ := ih n v l1 h1
        cases h
        exact ⟨by simpa using h2, by simp⟩
      · cases h
/-- m cells from a place on. -/
def cut' : List Value → Nat → Nat → Option (List Value)
  | _, 0, 0 => some []
  | [], _, _ => none
  | v :: l, 0, m + 1 => match cut' l 0 m with | some r => some (v :: r) | none => none
  | _ :: l, n + 1, m => cut' l n m
theorem cut'_eq (l : List Value) : ∀ n m r, cut' l n m = some r → r = (l.drop n).take m ∧ n + m ≤ l.length := by
  induction l with
  | nil =>
    intro n m r h
    cases n <;> cases m <;> simp [cut'] at h
    subst h; simp
  | cons v l ih =>
    intro n m r h
    cases n with
    | zero =>
      cases m with
      | zero => simp [cut'] at h; subst h; simp
      | succ m =>
        simp only [cut'] at h
        split at h
        · rename_i r1 h1
          obtain ⟨h2, h3⟩ := ih 0 m r1 h1
          cases h
          subst h2
          simp at h3 ⊢; omega
        · cases h
    | succ n =>
      simp only [cut'] at h
      obtain ⟨h2, h3⟩ := ih n m r h
      subst h2
      simp; omega
def put' : List Value → Nat → List Value → Option (List Value)
  | l, 0, [] => some l
  | [], _, _ => none
  | _ :: l, 0, u :: us => match put' l 0 us with | some r => some (u :: r) | none => none
  | x :: l, n + 1, us => match put' l n us with | some r => some (x :: r) | none => none
theorem put'_eq (l : List Value) : ∀ n us r, put' l n us = some r → r = l.take n ++ us ++ l.drop (n + us.length) ∧ n + us.length ≤ l.length := by
  induction l with
  | nil =>
    intro n us r h
    cases n <;> cases us <;> simp [put'] at h
    subst h; simp
  | cons v l ih =>
    intro n us r h
    cases n with
    | zero =>
      cases us with
      | nil => simp [put'] at h; subst h; simp
      | cons u us =>
        simp only [put'] at h
        split at h
        · rename_i r1 h1
          obtain ⟨h2, h3⟩ := ih 0 us r1 h1
          cases h
          subst h2
          simp at h3 ⊢; omega
        · cases h
    | succ n =>
      have key : ∀ us r, put' (v :: l) (n + 1) us = some r → ∃ r1, put' l n us = some r1 ∧ r = v :: r1 := by
        intro us r h
        cases us with
        | nil =>
          simp only [put'] at h
          split at h
          · rename_i r1 h1; cases h; exact ⟨r1, h1, rfl⟩
          · cases h
        | cons u us =>
          simp only [put'] at h
          split at h
          · rename_i r1 h1; cases h; exact ⟨r1, h1, rfl⟩
          · cases h
      obtain ⟨r1, h1, rfl⟩ := key us r h
      obtain ⟨h2, h3⟩ := ih n us r1 h1
      subst h2
      refine ⟨?_, by simp; omega⟩
      have : n + 1 + us.length = (n + us.length) + 1 := by omega
      simp [this]

section
variable {P : Program} {ops : Array Oper} {Q : Exit → Act → World → Prop} {rest : List Oper} {n : Nat} {l : Env} {H : Fz} {L : Own}
variable {d ty : Nat} {pos : String} {af : Array Edge}

theorem WL.vq {o : Oper} {v : Value} (hg : o.guard = none) (hd : o.dst = some d) (hn : Nat.blt d n = true)
    (hrun : ∀ a w, Has n l a → Hp H L w → (execOp a.eval o).run P w = .ok (.value v) w) (h : WL P ops Q rest n ((d, v) :: l) H L) : WL P ops Q (o :: rest) n l H L := by
  intro a w ha hw
  refine wpList_plain hg fun K hK => ?_
  unfold Oper.wp
  rw [hrun a w ha hw]
  simp only [Oper.upon, hd]
  exact hK _ _ (h _ _ (ha.put hn v) hw)

theorem WL.vw {o : Oper} (hg : o.guard = none) (hd : o.dst = some d) (hn : Nat.blt d n = true)
    (hrun : ∀ a w, Has n l a → Hp H L w → ∃ v w' H' L', (execOp a.eval o).run P w = .ok (.value v) w' ∧ Hp H' L' w' ∧ WL P ops Q rest n ((d, v) :: l) H' L') : WL P ops Q (o :: rest) n l H L := by
  intro a w ha hw
  obtain ⟨v, w', H', L', hr, hw', h⟩ := hrun a w ha hw
  refine wpList_plain hg fun K hK => ?_
  unfold Oper.wp
  rw [hr]
  simp only [Oper.upon, hd]
  exact hK _ _ (h _ _ (ha.put hn v) hw')

theorem WL.skw {o : Oper} (hg : o.guard = none) (hd : o.dst = none)
    (hrun : ∀ a w, Has n l a → Hp H L w → ∃ w' H' L', (execOp a.eval o).run P w = .ok .skip w' ∧ Hp H' L' w' ∧ WL P ops Q rest n l H' L') : WL P ops Q (o :: rest) n l H L := by
  intro a w ha hw
  obtain ⟨w', H', L', hr, hw', h⟩ := hrun a w ha hw
  refine wpList_plain hg fun K hK => ?_
  unfold Oper.wp
  rw [hr]
  simp only [Oper.upon, hd]
  exact hK _ _ (h _ _ (ha.none _) hw')

/-! ### Guards -/
theorem gr {od : Option Nat} {op : Op} {j dj : Nat} {b : Bool} (hj : (ops[j]?).bind (·.dst) = some dj) (hb : look l dj = some (.bool b))
    (h : WL P ops Q (⟨od, op, ty, pos, af, none⟩ :: rest) n l H L) : WL P ops Q (⟨od, op, ty, pos, af, some (j, b)⟩ :: rest) n l H L := by
  intro a w ha hw
  have := h a w ha hw
  have hy : yielded ops a.tmps j = some b := by simp [yielded, hj, ha.vals dj _ hb]
  unfold wpList at this ⊢
  rw [if_pos (by simp [Region.wanted])] at this
  rw [if_pos (by simp [Region.wanted, hy])]
  exact this
theorem gs {op : Op} {j dj : Nat} {b b' : Bool} (hj : (ops[j]?).bind (·.dst) = some dj) (hb : look l dj = some (.bool b')) (hne : (b' == b) = false) (hn : Nat.blt d n = true)
    (h : WL P ops Q rest n ((d, undef) :: l) H L) : WL P ops Q (⟨some d, op, ty, pos, af, some (j, b)⟩ :: rest) n l H L := by
  intro a w ha hw
  have hy : yielded ops a.tmps j = some b' := by simp [yielded, hj, ha.vals dj _ hb]
  unfold wpList
  rw [if_neg (by simp only [Region.wanted, hy]; simpa using hne)]
  exact h _ _ (ha.put hn undef) hw
theorem gu {op : Op} {j dj : Nat} {b : Bool} (hj : (ops[j]?).bind (·.dst) = some dj) (hb : look l dj = some undef) (hn : Nat.blt d n = true)
    (h : WL P ops Q rest n ((d, undef) :: l) H L) : WL P ops Q (⟨some d, op, ty, pos, af, some (j, b)⟩ :: rest) n l H L := by
  intro a w ha hw
  have hy : yielded ops a.tmps j = none := by simp [yielded, hj, ha.vals dj _ hb, undef]
  unfold wpList
  rw [if_neg (by simp only [Region.wanted, hy]; simp)]
  exact h _ _ (ha.put hn undef) hw
/-- A bool that is a test's: two ways. -/
theorem spl {os : List Oper} {t : Nat} {p : Prop} [Decidable p] (hc : look l t = some (.bool (decide p))) (ht : p → WL P ops Q os n ((t, .bool true) :: l) H L) (hf : ¬ p → WL P ops Q os n ((t, .bool false) :: l) H L) : WL P ops Q os n l H L := by
  intro a w ha hw
  by_cases hp : p
  · refine ht hp a w (ha.sub ?_) hw
    exact Sub.cons (by rw [hc]; simp [hp]) (Sub.refl l)
  · refine hf hp a w (ha.sub ?_) hw
    exact Sub.cons (by rw [hc]; simp [hp]) (Sub.refl l)
theorem splb {os : List Oper} {t : Nat} {b : Bool} (hc : look l t = some (.bool b)) (ht : b = true → WL P ops Q os n ((t, .bool true) :: l) H L) (hf : b = false → WL P ops Q os n ((t, .bool false) :: l) H L) : WL P ops Q os n l H L := by
  cases b
  · exact fun a w ha hw => hf rfl a w (ha.sub (Sub.cons hc (Sub.refl l))) hw
  · exact fun a w ha hw => ht rfl a w (ha.sub (Sub.cons hc (Sub.refl l))) hw

/-! ### Moves, numbers, tests -/
theorem mv {x : Operand} {v : Value} (hx : get l x = some v) (hn : Nat.blt d n = true) (h : WL P ops Q rest n ((d, v) :: l) H L) : WL P ops Q (⟨some d, .move x, ty, pos, af, none⟩ :: rest) n l H L :=
  WL.vq rfl rfl hn (fun a w ha _ => by simp [execOp, ha.get hx]) h
theorem asg {x : Operand} {v : Value} (hx : get l x = some v) (hn : Nat.blt d n = true) (h : WL P ops Q rest n ((d, v) :: l) H L) : WL P ops Q (⟨some d, .assign x, ty, pos, af, none⟩ :: rest) n l H L :=
  WL.vq rfl rfl hn (fun a w ha _ => by simp [execOp, ha.get hx]) h
theorem pk {c x y : Operand} {b : Bool} {u v : Value} (hc : get l c = some (.bool b)) (hx : get l x = some u) (hy : get l y = some v) (hn : Nat.blt d n = true) (h : WL P ops Q rest n ((d, bif b then u else v) :: l) H L) : WL P ops Q (⟨some d, .pick c x y, ty, pos, af, none⟩ :: rest) n l H L :=
  WL.vq rfl rfl hn (fun a w ha _ => by cases b <;> simp [execOp, ha.get hc, ha.get hx, ha.get hy, asBool]) h
theorem nc {x : Operand} {a : Addr} (hx : get l x = some (.pointer (some a))) (hn : Nat.blt d n = true) (h : WL P ops Q rest n ((d, .pointer (some a)) :: l) H L) : WL P ops Q (⟨some d, .nilCheck x, ty, pos, af, none⟩ :: rest) n l H L :=
  WL.vq rfl rfl hn (fun a w ha _ => by simp [execOp, ha.get hx]) h

theorem ad {x y : Operand} {T T' : Nat} {k : IntKind} {a b c : Int} (hx : get l x = some (.int k a)) (hy : get l y = some (.int k b)) (hc : k.wrap (a + b) = c) (hn : Nat.blt d n = true) (h : WL P ops Q rest n ((d, .int k c) :: l) H L) : WL P ops Q (⟨some d, .binOp .add T x y T', ty, pos, af, none⟩ :: rest) n l H L :=
  WL.vq rfl rfl hn (fun a w ha _ => by simp [execOp, ha.get hx, ha.get hy, eqGuard, binOp, Op.intArith, hc]) h
theorem sb {x y : Operand} {T T' : Nat} {k : IntKind} {a b c : Int} (hx : get l x = some (.int k a)) (hy : get l y = some (.int k b)) (hc : k.wrap (a - b) = c) (hn : Nat.blt d n = true) (h : WL P ops Q rest n ((d, .int k c) :: l) H L) : WL P ops Q (⟨some d, .binOp .sub T x y T', ty, pos, af, none⟩ :: rest) n l H L :=
  WL.vq rfl rfl hn (fun a w ha _ => by simp [execOp, ha.get hx, ha.get hy, eqGuard, binOp, Op.intArith, hc]) h
theorem ml {x y : Operand} {T T' : Nat} {k : IntKind} {a b c : Int} (hx : get l x = some (.int k a)) (hy : get l y = some (.int k b)) (hc : k.wrap (a * b) = c) (hn : Nat.blt d n = true) (h : WL P ops Q rest n ((d, .int k c) :: l) H L) : WL P ops Q (⟨some d, .binOp .mul T x y T', ty, pos, af, none⟩ :: rest) n l H L :=
  WL.vq rfl rfl hn (fun a w ha _ => by simp [execOp, ha.get hx, ha.get hy, eqGuard, binOp, Op.intArith, hc]) h
theorem rm {x y : Operand} {T T' : Nat} {k : IntKind} {a b c : Int} (hx : get l x = some (.int k a)) (hy : get l y = some (.int k b)) (hb : b ≠ 0) (hc : a.tmod b = c) (hn : Nat.blt d n = true) (h : WL P ops Q rest n ((d, .int k c) :: l) H L) : WL P ops Q (⟨some d, .binOp .rem T x y T', ty, pos, af, none⟩ :: rest) n l H L :=
  WL.vq rfl rfl hn (fun a w ha _ => by simp [execOp, ha.get hx, ha.get hy, eqGuard, binOp, Op.intDiv, hb, hc]) h
theorem an {x y : Operand} {T T' : Nat} {k : IntKind} {a b c : Int} (hx : get l x = some (.int k a)) (hy : get l y = some (.int k b)) (hc : k.wrap ((BitVec.ofInt k.bits a) &&& (BitVec.ofInt k.bits b)).toNat = c) (hn : Nat.blt d n = true) (h : WL P ops Q rest n ((d, .int k c) :: l) H L) : WL P ops Q (⟨some d, .binOp .and T x y T', ty, pos, af, none⟩ :: rest) n l H L :=
  WL.vq rfl rfl hn (fun a w ha _ => by simp [execOp, ha.get hx, ha.get hy, eqGuard, binOp, Op.intBits, ← hc]) h
theorem or' {x y : Operand} {T T' : Nat} {k : IntKind} {a b c : Int} (hx : get l x = some (.int k a)) (hy : get l y = some (.int k b)) (hc : k.wrap ((BitVec.ofInt k.bits a) ||| (BitVec.ofInt k.bits b)).toNat = c) (hn : Nat.blt d n = true) (h : WL P ops Q rest n ((d, .int k c) :: l) H L) : WL P ops Q (⟨some d, .binOp .or T x y T', ty, pos, af, none⟩ :: rest) n l H L :=
  WL.vq rfl rfl hn (fun a w ha _ => by simp [execOp, ha.get hx, ha.get hy, eqGuard, binOp, Op.intBits, ← hc]) h
theorem sh {x y : Operand} {T T' : Nat} {k k' : IntKind} {a b c : Int} (hx : get l x = some (.int k a)) (hy : get l y = some (.int k' b)) (hb : 0 ≤ b) (hc : a.fdiv (2 ^ min b.toNat k.bits) = c) (hn : Nat.blt d n = true) (h : WL P ops Q rest n ((d, .int k c) :: l) H L) : WL P ops Q (⟨some d, .binOp .shr T x y T', ty, pos, af, none⟩ :: rest) n l H L :=
  WL.vq rfl rfl hn (fun a w ha _ => by simp [execOp, ha.get hx, ha.get hy, eqGuard, binOp, Op.shift, Int.not_lt.2 hb, hc]) h

theorem int_beq (a b : Int) : (a == b) = decide (a = b) := by by_cases e : a = b <;> simp [e]
theorem lt {x y : Operand} {T T' : Nat} {k : IntKind} {a b : Int} (hx : get l x = some (.int k a)) (hy : get l y = some (.int k b)) (hn : Nat.blt d n = true) (h : WL P ops Q rest n ((d, .bool (decide (a < b))) :: l) H L) : WL P ops Q (⟨some d, .binOp .lss T x y T', ty, pos, af, none⟩ :: rest) n l H L :=
  WL.vq rfl rfl hn (fun a w ha _ => by simp [execOp, ha.get hx, ha.get hy, eqGuard, binOp, Op.intCmp]) h
theorem le {x y : Operand} {T T' : Nat} {k : IntKind} {a b : Int} (hx : get l x = some (.int k a)) (hy : get l y = some (.int k b)) (hn : Nat.blt d n = true) (h : WL P ops Q rest n ((d, .bool (decide (a ≤ b))) :: l) H L) : WL P ops Q (⟨some d, .binOp .leq T x y T', ty, pos, af, none⟩ :: rest) n l H L :=
  WL.vq rfl rfl hn (fun a w ha _ => by simp [execOp, ha.get hx, ha.get hy, eqGuard, binOp, Op.intCmp]) h
theorem gt {x y : Operand} {T T' : Nat} {k : IntKind} {a b : Int} (hx : get l x = some (.int k a)) (hy : get l y = some (.int k b)) (hn : Nat.blt d n = true) (h : WL P ops Q rest n ((d, .bool (decide (b < a))) :: l) H L) : WL P ops Q (⟨some d, .binOp .gtr T x y T', ty, pos, af, none⟩ :: rest) n l H L :=
  WL.vq rfl rfl hn (fun a w ha _ => by simp [execOp, ha.get hx, ha.get hy, eqGuard, binOp, Op.intCmp]) h
theorem ge {x y : Operand} {T T' : Nat} {k : IntKind} {a b : Int} (hx : get l x = some (.int k a)) (hy : get l y = some (.int k b)) (hn : Nat.blt d n = true) (h : WL P ops Q rest n ((d, .bool (decide (b ≤ a))) :: l) H L) : WL P ops Q (⟨some d, .binOp .geq T x y T', ty, pos, af, none⟩ :: rest) n l H L :=
  WL.vq rfl rfl hn (fun a w ha _ => by simp [execOp, ha.get hx, ha.get hy, eqGuard, binOp, Op.intCmp]) h
theorem eq' {x y : Operand} {T T' : Nat} {k : IntKind} {a b : Int} (hx : get l x = some (.int k a)) (hy : get l y = some (.int k b)) (hn : Nat.blt d n = true) (h : WL P ops Q rest n ((d, .bool (decide (a = b))) :: l) H L) : WL P ops Q (⟨some d, .binOp .eql T x y T', ty, pos, af, none⟩ :: rest) n l H L :=
  WL.vq rfl rfl hn (fun a w ha _ => by simp [execOp, ha.get hx, ha.get hy, eqGuard, binOp, Op.intCmp, int_beq]) h
theorem ne' {x y : Operand} {T T' : Nat} {k : IntKind} {a b : Int} (hx : get l x = some (.int k a)) (hy : get l y = some (.int k b)) (hn : Nat.blt d n = true) (h : WL P ops Q rest n ((d, .bool (decide (a ≠ b))) :: l) H L) : WL P ops Q (⟨some d, .binOp .neq T x y T', ty, pos, af, none⟩ :: rest) n l H L :=
  WL.vq rfl rfl hn (fun a w ha _ => by simp [execOp, ha.get hx, ha.get hy, eqGuard, binOp, Op.intCmp, bne, int_beq]) h
theorem nt {x : Operand} {T : Nat} {b : Bool} (hx : get l x = some (.bool b)) (hn : Nat.blt d n = true) (h : WL P ops Q rest n ((d, .bool (!b)) :: l) H L) : WL P ops Q (⟨some d, .unOp .not T x, ty, pos, af, none⟩ :: rest) n l H L :=
  WL.vq rfl rfl hn (fun a w ha _ => by simp [execOp, ha.get hx, Op.unary]) h
theorem ntd {x : Operand} {T : Nat} {p : Prop} [Decidable p] (hx : get l x = some (.bool (decide p))) (hn : Nat.blt d n = true) (h : WL P ops Q rest n ((d, .bool (decide (¬ p))) :: l) H L) : WL P ops Q (⟨some d, .unOp .not T x, ty, pos, af, none⟩ :: rest) n l H L :=
  nt hx hn (by simpa using h)
theorem cv {x : Operand} {S D : Nat} {sd : TypeDesc} {k k' : IntKind} {a c : Int} (hs : ∀ w, (underlying S).run P w = .ok sd w) (hd : ∀ w, (underlying D).run P w = .ok (.int k) w) (hx : get l x = some (.int k' a)) (hc : k.wrap a = c) (hn : Nat.blt d n = true) (h : WL P ops Q rest n ((d, .int k c) :: l) H L) : WL P ops Q (⟨some d, .convert S D x, ty, pos, af, none⟩ :: rest) n l H L :=
  WL.vq rfl rfl hn (fun a w ha _ => by simp [execOp, ha.get hx, convert, hs, hd, Conv.intToInt, hc]) h

theorem w64 {x : Int} (h0 : -9223372036854775808 ≤ x) (h1 : x ≤ 9223372036854775807) : IntKind.i64.wrap x = x := by
  unfold IntKind.wrap
  have hb : (2 : Int) ^ IntKind.i64.bits = 18446744073709551616 := rfl
  have hb' : (2 : Int) ^ (IntKind.i64.bits - 1) = 9223372036854775808 := rfl
  simp only [hb, hb', show IntKind.i64.signed = true from rfl, Bool.true_and, decide_eq_true_eq]
  split <;> omega
end
end Go.Sx

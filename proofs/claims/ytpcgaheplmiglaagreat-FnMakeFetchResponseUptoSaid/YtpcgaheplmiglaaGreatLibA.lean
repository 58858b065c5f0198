import Derived.Tactics
import Derived.Laws.AppendOwn
import Derived.Laws.Rows
import Derived.Laws.Slices
import Derived.Laws.Tables
import Derived.Laws.Entries
import Derived.Laws.CopyRow
import Derived.Laws.BytesArg
import Derived.Deep.AppendSrc
import Derived.Laws.MakeOwn
set_option linter.unusedVariables false
set_option linter.unusedSimpArgs false
/- The base of the symbolic walk: registers as an association list, memory as frozen blocks beside own blocks. -/
namespace Go.Sx

/-! ### Registers -/
abbrev Env := List (Nat × Value)
def look : Env → Nat → Option Value
  | [], _ => none
  | (i, v) :: l, t => match Nat.beq i t with | true => some v | false => look l t
def get (l : Env) : Operand → Option Value
  | .tmp t => look l t
  | .const v => some v
  | .global g => some (.pointer (some ⟨g, 0, none⟩))
  | .func f => some (.func (.func f) #[] #[])
structure Has (n : Nat) (l : Env) (a : Act) : Prop where
  defers : a.defers = []
  size : a.tmps.size = n
  vals : ∀ t v, look l t = some v → a.tmps[t]? = some v

theorem Has.get {n : Nat} {l : Env} {a : Act} (h : Has n l a) {x : Operand} {v : Value} (hx : get l x = some v) : a.eval x = v := by
  cases x with
  | tmp t =>
    have := h.vals t v hx
    simp [Act.eval, Array.getD_eq_getD_getElem?, this]
  | const c => simpa [Sx.get, Act.eval] using hx
  | global g => simpa [Sx.get, Act.eval] using hx
  | func f => simpa [Sx.get, Act.eval] using hx

theorem Has.put {n : Nat} {l : Env} {a : Act} (h : Has n l a) {d : Nat} (hd : Nat.blt d n = true) (v : Value) : Has n ((d, v) :: l) (a.put (some d) v) := by
  refine ⟨h.defers, by simp [Act.put, h.size], ?_⟩
  intro t u ht
  unfold look at ht
  split at ht
  · rename_i hb
    have hdt : d = t := Nat.eq_of_beq_eq_true hb
    subst hdt
    have hlt : d < a.tmps.size := by rw [h.size]; have := Nat.le_of_ble_eq_true hd; omega
    simp only [Option.some.injEq] at ht
    subst ht
    simp [Act.put, hlt]
  · rename_i hb
    have hne : d ≠ t := fun e => by subst e; simp at hb
    have := h.vals t u ht
    simp only [Act.put]
    rw [Array.getElem?_setIfInBounds_ne hne]
    exact this

theorem Has.none {n : Nat} {l : Env} {a : Act} (h : Has n l a) (v : Value) : Has n l (a.put Option.none v) := h

/-- What the registers of a list say, as far as another list asks. -/
def Sub (l l' : Env) : Prop := ∀ t v, look l' t = some v → look l t = some v
theorem Has.sub {n : Nat} {l l' : Env} {a : Act} (h : Has n l a) (hs : Sub l l') : Has n l' a := ⟨h.defers, h.size, fun t v ht => h.vals t v (hs t v ht)⟩
theorem Sub.nil (l : Env) : Sub l [] := fun t v h => by simp [look] at h
theorem Sub.cons {l l' : Env} {i : Nat} {v : Value} (h : look l i = some v) (hs : Sub l l') : Sub l ((i, v) :: l') := by
  intro t u ht
  unfold look at ht
  split at ht
  · rename_i hb
    have : i = t := Nat.eq_of_beq_eq_true hb
    subst this
    rw [h]; exact ht
  · exact hs t u ht
theorem Sub.refl (l : Env) : Sub l l := fun _ _ h => h
abbrev subB (l : Env) : Env → Prop
  | [] => True
  | (i, v) :: r => look l i = some v ∧ subB l r
theorem Sub.of {l : Env} : ∀ {l' : Env}, subB l l' → Sub l l'
  | [], _ => .nil l
  | (_, _) :: _, h => .cons h.1 (Sub.of h.2)

/-! ### Memory -/
structure Fz where
  blk : Nat → Option Obj
  os : Os
  tape : Nat → Question → Nat
  output : Array (Nat × ByteArray)
structure Fz.le (H H' : Fz) : Prop where
  blk : ∀ b o, H.blk b = some o → H'.blk b = some o
  os : H'.os = H.os
  tape : H'.tape = H.tape
  output : H'.output = H.output
theorem Fz.le.refl (H : Fz) : H.le H := ⟨fun _ _ h => h, rfl, rfl, rfl⟩
theorem Fz.le.trans {A B C : Fz} (h : A.le B) (h' : B.le C) : A.le C :=
  ⟨fun b o hb => h'.blk b o (h.blk b o hb), h'.os.trans h.os, h'.tape.trans h.tape, h'.output.trans h.output⟩

theorem ler {H : Fz} : H.le H := Fz.le.refl H
/-- Own memory: a list of chunks, each some blocks; a chunk may be a letter. -/
abbrev Chunk := List (Nat × Obj)
abbrev Own := List Chunk
structure Hp (H : Fz) (L : Own) (w : World) : Prop where
  os : w.os = H.os
  tape : w.tape = H.tape
  output : w.output = H.output
  fz : ∀ b o, H.blk b = some o → w.heap[b]? = some o
  own : ∀ b o, (b, o) ∈ L.flatten → w.heap[b]? = some o ∧ H.blk b = none
  nd : (L.flatten.map Prod.fst).Nodup

theorem lt_of_heap {w : World} {b : Nat} {o : Obj} (h : w.heap[b]? = some o) : b < w.heap.size := by
  rcases Nat.lt_or_ge b w.heap.size with h' | h'
  · exact h'
  · simp [Array.getElem?_eq_none h'] at h

theorem heap_alloc_eq (w : World) (o : Obj) (k : Nat) : (w.alloc o).heap[k]? = if k = w.heap.size then some o else w.heap[k]? := by
  simp only [World.alloc, Array.getElem?_push]

theorem Hp.alloc {H : Fz} {L : Own} {w : World} (h : Hp H L w) (o : Obj) : Hp H ([(w.heap.size, o)] :: L) (w.alloc o) := by
  have hf : H.blk w.heap.size = none := by
    cases hb : H.blk w.heap.size with
    | none => rfl
    | some o' => have := lt_of_heap (h.fz _ _ hb); omega
  refine ⟨h.os, h.tape, h.output, ?_, ?_, ?_⟩
  · intro b o' hb
    have := h.fz b o' hb
    have := lt_of_heap this
    rw [heap_alloc_eq, if_neg (by omega)]
    assumption
  · intro b o' hm
    simp only [List.flatten_cons, List.cons_append, List.nil_append] at hm
    rcases List.mem_cons.1 hm with he | hm
    · simp only [Prod.mk.injEq] at he
      obtain ⟨rfl, rfl⟩ := he
      exact ⟨by rw [heap_alloc_eq, if_pos rfl], hf⟩
    · obtain ⟨h1, h2⟩ := h.own b o' hm
      have := lt_of_heap h1
      exact ⟨by rw [heap_alloc_eq, if_neg (by omega)]; exact h1, h2⟩
  · simp only [List.flatten_cons, List.cons_append, List.nil_append, List.map_cons, List.nodup_cons]
    refine ⟨?_, h.nd⟩
    intro hm
    obtain ⟨⟨b, o'⟩, hm, hb⟩ := List.mem_map.1 hm
    have := lt_of_heap (h.own b o' hm).1
    simp only at hb
    omega

theorem Hp.drew {H : Fz} {L : Own} {w : World} (h : Hp H L w) : Hp H L w.drew := ⟨h.os, h.tape, h.output, h.fz, h.own, h.nd⟩

/-- A chunk is turned into another one. -/
inductive Upd : Own → Chunk → Chunk → Own → Prop
  | head {c c' L} : Upd (c :: L) c c' (c' :: L)
  | tail {x L c c' L'} : Upd L c c' L' → Upd (x :: L) c c' (x :: L')
theorem Upd.perm {L c c' L'} (h : Upd L c c' L') : ∃ L0 : Chunk, L.flatten.Perm (c ++ L0) ∧ L'.flatten.Perm (c' ++ L0) := by
  induction h with
  | @head c c' L => exact ⟨L.flatten, .refl _, .refl _⟩
  | @tail x L c c' L' _ ih =>
    obtain ⟨L0, h1, h2⟩ := ih
    refine ⟨x ++ L0, ?_, ?_⟩
    · simp only [List.flatten_cons]
      exact (h1.append_left x).trans (by rw [← List.append_assoc, ← List.append_assoc]; exact List.perm_append_comm.append_right _)
    · simp only [List.flatten_cons]
      exact (h2.append_left x).trans (by rw [← List.append_assoc, ← List.append_assoc]; exact List.perm_append_comm.append_right _)

/-- A chunk is taken out. -/
inductive Sel : Own → Chunk → Own → Prop
  | head {c L} : Sel (c :: L) c L
  | tail {x L c L'} : Sel L c L' → Sel (x :: L) c (x :: L')
theorem Sel.perm {L c L'} (h : Sel L c L') : L.flatten.Perm (c ++ L'.flatten) := by
  induction h with
  | head => exact .refl _
  | @tail x L c L' _ ih =>
    simp only [List.flatten_cons]
    exact (ih.append_left x).trans (by rw [← List.append_assoc, ← List.append_assoc]; exact List.perm_append_comm.append_right _)

theorem Hp.perm {H : Fz} {L L' : Own} {w : World} (h : Hp H L w) (hp : L.flatten.Perm L'.flatten) : Hp H L' w :=
  ⟨h.os, h.tape, h.output, h.fz, fun b o hm => h.own b o (hp.mem_iff.2 hm), (hp.map Prod.fst).nodup_iff.1 h.nd⟩
theorem Hp.sel {H : Fz} {L L' : Own} {c : Chunk} {w : World} (h : Hp H L w) (hs : Sel L c L') : Hp H (c :: L') w := h.perm hs.perm
theorem Hp.drop {H : Fz} {c : Chunk} {L : Own} {w : World} (h : Hp H (c :: L) w) : Hp H L w := by
  refine ⟨h.os, h.tape, h.output, h.fz, fun b o hm => h.own b o (by simp only [List.flatten_cons]; exact List.mem_append_right _ hm), ?_⟩
  have := h.nd
  simp only [List.flatten_cons, List.map_append] at this
  exact (List.nodup_append.1 this).2.1

/-- One own block is written. -/
theorem Hp.turn {H : Fz} {L L' : Own} {w w' : World} {b : Nat} {o o' : Obj} (h : Hp H L w) (hu : Upd L [(b, o)] [(b, o')] L')
    (hos : w'.os = w.os) (ht : w'.tape = w.tape) (hout : w'.output = w.output) (hb : w'.heap[b]? = some o') (hoth : ∀ k, k ≠ b → w'.heap[k]? = w.heap[k]?) : Hp H L' w' := by
  obtain ⟨L0, h1, h2⟩ := hu.perm
  have hbn := (h.own b o (h1.mem_iff.2 (by simp))).2
  have hnd := (h1.map Prod.fst).nodup_iff.1 h.nd
  simp only [List.cons_append, List.nil_append, List.map_cons, List.nodup_cons] at hnd
  refine ⟨hos.trans h.os, ht.trans h.tape, hout.trans h.output, ?_, ?_, ?_⟩
  · intro c u hc
    have hne : c ≠ b := fun e => by subst e; rw [hbn] at hc; cases hc
    rw [hoth c hne]; exact h.fz c u hc
  · intro c u hm
    have hm := h2.mem_iff.1 hm
    simp only [List.cons_append, List.nil_append] at hm
    rcases List.mem_cons.1 hm with he | hm
    · simp only [Prod.mk.injEq] at he
      obtain ⟨rfl, rfl⟩ := he
      exact ⟨hb, hbn⟩
    · have hne : c ≠ b := fun hc => hnd.1 (List.mem_map.2 ⟨(c, u), hm, hc⟩)
      rw [hoth c hne]
      exact h.own c u (h1.mem_iff.2 (by simp [hm]))
  · exact (h2.map Prod.fst).nodup_iff.2 (by simpa using hnd)

/-- Own blocks become frozen ones. -/
def Fz.add (H : Fz) (b : Nat) (o : Obj) : Fz := { H with blk := fun k => if k = b then some o else H.blk k }
theorem Fz.add_blk (H : Fz) (b : Nat) (o : Obj) : (H.add b o).blk b = some o := by simp [Fz.add]
theorem Hp.freeze {H : Fz} {b : Nat} {o : Obj} {c : Chunk} {L : Own} {w : World} (h : Hp H (((b, o) :: c) :: L) w) : Hp (H.add b o) (c :: L) w ∧ H.le (H.add b o) := by
  have hm0 : (b, o) ∈ (((b, o) :: c) :: L).flatten := by simp
  obtain ⟨h1, h2⟩ := h.own b o hm0
  have hnd := h.nd
  simp only [List.flatten_cons, List.cons_append, List.map_cons, List.nodup_cons] at hnd
  refine ⟨⟨h.os, h.tape, h.output, ?_, ?_, by simpa using hnd.2⟩, ⟨?_, rfl, rfl, rfl⟩⟩
  · intro k u hc
    simp only [Fz.add] at hc
    split at hc
    · rename_i e; subst e; cases hc; exact h1
    · exact h.fz k u hc
  · intro k u hm
    have hm : (k, u) ∈ c ++ L.flatten := by simpa using hm
    obtain ⟨h3, h4⟩ := h.own k u (by simp only [List.flatten_cons, List.cons_append]; exact List.mem_cons_of_mem _ hm)
    have hne : k ≠ b := fun hc => hnd.1 (List.mem_map.2 ⟨(k, u), hm, hc⟩)
    exact ⟨h3, by simp [Fz.add, hne, h4]⟩
  · intro k u hc
    have hne : k ≠ b := fun e => by subst e; rw [h2] at hc; cases hc
    simp [Fz.add, hne, hc]

/-- What a frozen block says from a place on. -/
def Fz.at (H : Fz) (b off : Nat) (vs : List Value) : Prop := ∃ cs e fr, H.blk b = some (.cells cs e fr) ∧ ∀ j v, vs[j]? = some v → cs[off + j]? = some v
theorem Fz.at.mono {H H' : Fz} {b off : Nat} {vs : List Value} (h : H.at b off vs) (hle : H.le H') : H'.at b off vs := by
  obtain ⟨cs, e, fr, h1, h2⟩ := h; exact ⟨cs, e, fr, hle.blk _ _ h1, h2⟩
theorem Fz.at.cell {H : Fz} {L : Own} {w : World} {b off : Nat} {vs : List Value} (h : H.at b off vs) (hw : Hp H L w) {j : Nat} {v : Value} (hv : vs[j]? = some v) : w.cell? ⟨b, off + j, none⟩ = some v := by
  obtain ⟨cs, e, fr, h1, h2⟩ := h
  simp [World.cell?, hw.fz _ _ h1, h2 j v hv]
/-- A part of what lies there. -/
theorem Fz.at.part {H : Fz} {b off : Nat} {vs : List Value} (h : H.at b off vs) (k m : Nat) : H.at b (off + k) ((vs.drop k).take m) := by
  obtain ⟨cs, e, fr, h1, h2⟩ := h
  refine ⟨cs, e, fr, h1, fun j v hj => ?_⟩
  rw [List.getElem?_take] at hj
  split at hj
  · rw [List.getElem?_drop] at hj
    have := h2 _ _ hj
    rwa [← Nat.add_assoc] at this
  · cases hj

/-! ### The judgements -/
def Wp (P : Program) (c : Code) (Q : Exit → Act → World → Prop) (n : Nat) (l : Env) (H : Fz) (L : Own) : Prop := ∀ a w, Has n l a → Hp H L w → c.wp P Q a w
def WL (P : Program) (ops : Array Oper) (Q : Exit → Act → World → Prop) (os : List Oper) (n : Nat) (l : Env) (H : Fz) (L : Own) : Prop := ∀ a w, Has n l a → Hp H L w → wpList P ops Q os a w
/-- What holds at the end of a function. -/
def Ret (H : Fz) (R : Value → Fz → Own → Prop) : Ending → World → Prop := fun e w => ∃ v H' L, e = .returned v ∧ H.le H' ∧ Hp H' L w ∧ R v H' L
/-- A function's contract. -/
def Fn (P : Program) (f : FuncId) (args : List Value) (H : Fz) (L : Own) (R : Value → Fz → Own → Prop) : Prop :=
  (∀ as w, (callFunc f as).run P w = .ok (.enter f as) w) ∧ ∀ w, Hp H L w → Calls P f args.toArray w (Ret H R)

theorem Fn.mono {P f args H L R R'} (h : Fn P f args H L R) (hr : ∀ v H' L', H.le H' → R v H' L' → R' v H' L') : Fn P f args H L R' :=
  ⟨h.1, fun w hw => (h.2 w hw).mono fun _ _ ⟨v, H', L', he, hl, hp, hR⟩ => ⟨v, H', L', he, hl, hp, hr v H' L' hl hR⟩⟩

def mkEnv : Nat → List Value → Env
  | _, [] => []
  | i, v :: vs => (i, v) :: mkEnv (i + 1) vs
theorem look_mkEnv (vs : List Value) : ∀ (i t : Nat) (v : Value), look (mkEnv i vs) t = some v → i ≤ t ∧ vs[t - i]? = some v := by
  induction vs with
  | nil => intro i t v h; simp [mkEnv, look] at h
  | cons u vs ih =>
    intro i t v h
    simp only [mkEnv, look] at h
    split at h
    · rename_i hb
      have : i = t := Nat.eq_of_beq_eq_true hb
      subst this
      simp at h ⊢; exact h
    · rename_i hb
      have hne : i ≠ t := fun e => by subst e; simp at hb
      obtain ⟨h1, h2⟩ := ih (i + 1) t v h
      refine ⟨by omega, ?_⟩
      have : t - i = (t - (i + 1)) + 1 := by omega
      rw [this]; simpa using h2

theorem Fn.mk {P : Program} {f : FuncId} {fn : Func} {c : Code} {args : List Value} {H : Fz} {L : Own} {R : Value → Fz → Own → Prop} {n : Nat}
    (hcall : ∀ as w, (callFunc f as).run P w = .ok (.enter f as) w) (hf : P.funcs[f]? = some fn) (hb : fn.body = some c) (hn : fn.ntmps = n) (hle : Nat.ble args.length n = true)
    (h : Wp P c (bodyPost P fn (Ret H R)) n (mkEnv 0 args) H L) : Fn P f args H L R := by
  refine ⟨hcall, fun w hw => calls_of_wp hf hb (h _ w ⟨rfl, ?_, ?_⟩ hw)⟩
  · have : args.length ≤ n := by simpa using hle
    simp only [hn, Array.size_append, List.size_toArray, Array.size_replicate]
    omega
  · intro t v ht
    obtain ⟨_, h2⟩ := look_mkEnv args 0 t v ht
    simp only [Nat.sub_zero] at h2
    have hlt : t < args.length := by
      rcases Nat.lt_or_ge t args.length with h' | h'
      · exact h'
      · simp [List.getElem?_eq_none h'] at h2
    rw [Array.getElem?_append_left (by simpa using hlt)]
    simpa using h2

section
variable {P : Program} {Q : Exit → Act → World → Prop} {n : Nat} {l : Env} {H : Fz} {L : Own}

/-! ### Code -/
theorem sq {x y : Code} (h : Wp P x (Exit.then (Code.wp P y Q) Q) n l H L) : Wp P (.seq x y) Q n l H L := fun a w ha hw => wp_seq (h a w ha hw)
theorem rg {id : Nat} {ops : List Oper} (h : WL P ops.toArray Q ops n l H L) : Wp P (.region id ops.toArray false) Q n l H L := fun a w ha hw => wp_region_lit (h a w ha hw)
theorem sr {id : Nat} {ops : List Oper} {y : Code} (h : WL P ops.toArray (Exit.then (Code.wp P y Q) Q) ops n l H L) : Wp P (.seq (.region id ops.toArray false) y) Q n l H L := sq (rg h)
theorem nl {ops : Array Oper} {y : Code} {Q' : Exit → Act → World → Prop} (h : Wp P y Q n l H L) : WL P ops (Exit.then (Code.wp P y Q) Q') [] n l H L := fun a w ha hw => wpList_nil (h a w ha hw)
theorem nq {ops : Array Oper} (h : ∀ a w, Has n l a → Hp H L w → Q .normal a w) : WL P ops Q [] n l H L := fun a w ha hw => wpList_nil (h a w ha hw)
theorem sk (h : ∀ a w, Has n l a → Hp H L w → Q .normal a w) : Wp P .skip Q n l H L := fun a w ha hw => wp_skip (h a w ha hw)
theorem skt {y : Code} {Q' : Exit → Act → World → Prop} (h : Wp P y Q n l H L) : Wp P .skip (Exit.then (Code.wp P y Q) Q') n l H L := fun a w ha hw => wp_skip (h a w ha hw)
theorem ex {id : Nat} (h : ∀ a w, Has n l a → Hp H L w → Q (.exit id) a w) : Wp P (.exit id) Q n l H L := fun a w ha hw => wp_exit (h a w ha hw)
theorem bl {id : Nat} {c : Code} (h : Wp P c (Exit.inBlock id Q) n l H L) : Wp P (.block id c) Q n l H L := fun a w ha hw => wp_block (h a w ha hw)
theorem rt (h : ∀ a w, Has n l a → Hp H L w → Q .ret a w) : Wp P .ret Q n l H L := fun a w ha hw => wp_ret (h a w ha hw)
theorem cT {c : Operand} {x y : Code} (hc : get l c = some (.bool true)) (h : Wp P x Q n l H L) : Wp P (.cond c x y) Q n l H L := fun a w ha hw => wp_cond_true (ha.get hc) (h a w ha hw)
theorem cF {c : Operand} {x y : Code} (hc : get l c = some (.bool false)) (h : Wp P y Q n l H L) : Wp P (.cond c x y) Q n l H L := fun a w ha hw => wp_cond_false (ha.get hc) (h a w ha hw)
theorem cd {c : Operand} {x y : Code} {p : Prop} [Decidable p] (hc : get l c = some (.bool (decide p))) (ht : p → Wp P x Q n l H L) (hf : ¬ p → Wp P y Q n l H L) : Wp P (.cond c x y) Q n l H L := by
  by_cases hp : p
  · exact cT (by rw [hc]; simp [hp]) (ht hp)
  · exact cF (by rw [hc]; simp [hp]) (hf hp)
theorem cb {c : Operand} {x y : Code} {b : Bool} (hc : get l c = some (.bool b)) (ht : b = true → Wp P x Q n l H L) (hf : b = false → Wp P y Q n l H L) : Wp P (.cond c x y) Q n l H L := by
  cases b
  · exact cF hc (hf rfl)
  · exact cT hc (ht rfl)
theorem Wp.env {c : Code} {l' : Env} (h : Wp P c Q n l' H L) (hs : Sub l l') : Wp P c Q n l H L := fun a w ha hw => h a w (ha.sub hs) hw
theorem Wp.perm {c : Code} {L' : Own} (h : Wp P c Q n l H L') (hp : L.flatten.Perm L'.flatten) : Wp P c Q n l H L := fun a w ha hw => h a w ha (hw.perm hp)
theorem Wp.mono {c : Code} {Q' : Exit → Act → World → Prop} (h : Wp P c Q' n l H L) (hq : ∀ e a w, Q' e a w → Q e a w) : Wp P c Q n l H L := fun a w ha hw => wp_mono (h a w ha hw) hq

/-- The state behind a piece of code: registers, more frozen blocks, some own blocks, of which something is known. -/
def St (n : Nat) (H : Fz) (R : Env → Fz → Own → Prop) : Act → World → Prop :=
  fun a w => ∃ l H' L', Has n l a ∧ H.le H' ∧ Hp H' L' w ∧ R l H' L'

/-- A cut: what stands first comes to a state, or goes out another way. -/
theorem cut {x y : Code} (R : Env → Fz → Own → Prop)
    (h1 : Wp P x (Exit.then (St n H R) Q) n l H L) (h2 : ∀ l' H' L', H.le H' → R l' H' L' → Wp P y Q n l' H' L') : Wp P (.seq x y) Q n l H L := by
  intro a w ha hw
  refine wp_seq (wp_mono (h1 a w ha hw) ?_)
  intro e a' w' he
  cases e with
  | normal => obtain ⟨l', H', L', g1, g2, g3, g4⟩ := he; exact h2 l' H' L' g2 g4 a' w' g1 g3
  | _ => exact he
theorem toWp {y : Code} {Q' : Exit → Act → World → Prop} (h : Wp P y Q n l H L) : ∀ a w, Has n l a → Hp H L w → Exit.then (Code.wp P y Q) Q' .normal a w := h

/-- A loop, with a round's number. -/
theorem lp {c : Code} (N : Nat) (I : Nat → Env → Fz → Own → Prop) (l0 : Env) (hs : Sub l l0) (h0 : I 0 l0 H L)
    (round : ∀ k l' H' L', k ≤ N → H.le H' → I k l' H' L' → Wp P c (Exit.then (fun a w => k < N ∧ St n H (I (k + 1)) a w) Q) n l' H' L') : Wp P (.loop c) Q n l H L := by
  intro a w ha hw b kk cs
  have key : ∀ m k, k + m = N → ∀ a w, St n H (I k) a w →
      ∃ e a' w', Q e a' w' ∧ Arrives P (lone (b.at a (.code c :: .inLoop c :: kk)) cs w) b kk cs e a' w' := by
    intro m
    induction m with
    | zero =>
      intro k hk a w hS
      obtain ⟨l', H', L', g1, g2, g3, g4⟩ := hS
      obtain ⟨e, a₁, w₁, hq, harr⟩ := round k l' H' L' (by omega) g2 g4 a w g1 g3 b (.inLoop c :: kk) cs
      cases e with
      | normal => exact absurd hq.1 (by omega)
      | exit id => exact ⟨_, a₁, w₁, hq, .pass (x := .inLoop c) rfl (fun _ _ => .inl (by simp)) harr⟩
      | goto l => exact ⟨_, a₁, w₁, hq, .pass (x := .inLoop c) rfl (fun _ _ => .inl (by simp)) harr⟩
      | ret => exact ⟨_, a₁, w₁, hq, .pass (x := .inLoop c) rfl (fun _ _ => .inl (by simp)) harr⟩
      | panic ch => exact ⟨_, a₁, w₁, hq, .pass (x := .inLoop c) rfl (fun _ _ => .inl (by simp)) harr⟩
      | outgrown => exact ⟨_, a₁, w₁, hq, .pass (x := .inLoop c) rfl (fun _ _ => .inl (by simp)) harr⟩
    | succ m ih =>
      intro k hk a w hS
      obtain ⟨l', H', L', g1, g2, g3, g4⟩ := hS
      obtain ⟨e, a₁, w₁, hq, harr⟩ := round k l' H' L' (by omega) g2 g4 a w g1 g3 b (.inLoop c :: kk) cs
      cases e with
      | normal =>
        obtain ⟨e₂, a₂, w₂, hq₂, harr₂⟩ := ih (k + 1) (by omega) a₁ w₁ hq.2
        exact ⟨e₂, a₂, w₂, hq₂, .of_steps (Steps.trans harr (.one step_inLoop)) harr₂⟩
      | exit id => exact ⟨_, a₁, w₁, hq, .pass (x := .inLoop c) rfl (fun _ _ => .inl (by simp)) harr⟩
      | goto l => exact ⟨_, a₁, w₁, hq, .pass (x := .inLoop c) rfl (fun _ _ => .inl (by simp)) harr⟩
      | ret => exact ⟨_, a₁, w₁, hq, .pass (x := .inLoop c) rfl (fun _ _ => .inl (by simp)) harr⟩
      | panic ch => exact ⟨_, a₁, w₁, hq, .pass (x := .inLoop c) rfl (fun _ _ => .inl (by simp)) harr⟩
      | outgrown => exact ⟨_, a₁, w₁, hq, .pass (x := .inLoop c) rfl (fun _ _ => .inl (by simp)) harr⟩
  obtain ⟨e, a', w', hq, harr⟩ := key N 0 (by omega) a w ⟨l0, H, L, ha.sub hs, Fz.le.refl H, hw, h0⟩
  exact ⟨e, a', w', hq, .of_steps (.one step_loop) harr⟩

end
end Go.Sx
/- The symbolic walk's laws for single operations. -/
namespace Go.Sx

def nth : List Value → Nat → Option Value
  | [], _ => none
  | v :: _, 0 => some v
  | _ :: l, n + 1 => nth l n
theorem nth_eq (l : List Value) : ∀ n, nth l n = l[n]? := by
  induction l with
  | nil => intro n; simp [nth]
  | cons v l ih => intro n; cases n with
    | zero => simp [nth]
    | succ n => simp [nth, ih]
def setAt : List Value → Nat → Value → Option (List Value)
  | [], _, _ => none
  | _ :: l, 0, v => some (v :: l)
  | x :: l, n + 1, v => match setAt l n v with | some l' => some (x :: l') | none => none
theorem setAt_eq (l : List Value) : ∀ n v l', setAt l n v = some l' → n < l.length ∧ l' = l.set n v := by
  induction l with
  | nil => intro n v l' h; simp [setAt] at h
  | cons x l ih =>
    intro n v l' h
    cases n with
    | zero => simp [setAt] at h; subst h; simp
    | succ n =>
      simp only [setAt] at h
      split at h
      · rename_i l1 h1
        obtain ⟨h2, rfl⟩ := ih n v l1 h1
        cases h
        exact ⟨by simpa using h2, by simp⟩
      · cases h
/-- m cells from a place on. -/
def cut' : List Value → Nat → Nat → Option (List Value)
  | _, 0, 0 => some []
  | [], _, _ => none
  | v :: l, 0, m + 1 => match cut' l 0 m with | some r => some (v :: r) | none => none
  | _ :: l, n + 1, m => cut' l n m
theorem cut'_eq (l : List Value) : ∀ n m r, cut' l n m = some r → r = (l.drop n).take m ∧ n + m ≤ l.length := by
  induction l with
  | nil =>
    intro n m r h
    cases n <;> cases m <;> simp [cut'] at h
    subst h; simp
  | cons v l ih =>
    intro n m r h
    cases n with
    | zero =>
      cases m with
      | zero => simp [cut'] at h; subst h; simp
      | succ m =>
        simp only [cut'] at h
        split at h
        · rename_i r1 h1
          obtain ⟨h2, h3⟩ := ih 0 m r1 h1
          cases h
          subst h2
          simp at h3 ⊢; omega
        · cases h
    | succ n =>
      simp only [cut'] at h
      obtain ⟨h2, h3⟩ := ih n m r h
      subst h2
      simp; omega
def put' : List Value → Nat → List Value → Option (List Value)
  | l, 0, [] => some l
  | [], _, _ => none
  | _ :: l, 0, u :: us => match put' l 0 us with | some r => some (u :: r) | none => none
  | x :: l, n + 1, us => match put' l n us with | some r => some (x :: r) | none => none
theorem put'_eq (l : List Value) : ∀ n us r, put' l n us = some r → r = l.take n ++ us ++ l.drop (n + us.length) ∧ n + us.length ≤ l.length := by
  induction l with
  | nil =>
    intro n us r h
    cases n <;> cases us <;> simp [put'] at h
    subst h; simp
  | cons v l ih =>
    intro n us r h
    cases n with
    | zero =>
      cases us with
      | nil => simp [put'] at h; subst h; simp
      | cons u us =>
        simp only [put'] at h
        split at h
        · rename_i r1 h1
          obtain ⟨h2, h3⟩ := ih 0 us r1 h1
          cases h
          subst h2
          simp at h3 ⊢; omega
        · cases h
    | succ n =>
      have key : ∀ us r, put' (v :: l) (n + 1) us = some r → ∃ r1, put' l n us = some r1 ∧ r = v :: r1 := by
        intro us r h
        cases us with
        | nil =>
          simp only [put'] at h
          split at h
          · rename_i r1 h1; cases h; exact ⟨r1, h1, rfl⟩
          · cases h
        | cons u us =>
          simp only [put'] at h
          split at h
          · rename_i r1 h1; cases h; exact ⟨r1, h1, rfl⟩
          · cases h
      obtain ⟨r1, h1, rfl⟩ := key us r h
      obtain ⟨h2, h3⟩ := ih n us r1 h1
      subst h2
      refine ⟨?_, by simp; omega⟩
      have : n + 1 + us.length = (n + us.length) + 1 := by omega
      simp [this]

section
variable {P : Program} {ops : Array Oper} {Q : Exit → Act → World → Prop} {rest : List Oper} {n : Nat} {l : Env} {H : Fz} {L : Own}
variable {d ty : Nat} {pos : String} {af : Array Edge}

theorem WL.vq {o : Oper} {v : Value} (hg : o.guard = none) (hd : o.dst = some d) (hn : Nat.blt d n = true)
    (hrun : ∀ a w, Has n l a → Hp H L w → (execOp a.eval o).run P w = .ok (.value v) w) (h : WL P ops Q rest n ((d, v) :: l) H L) : WL P ops Q (o :: rest) n l H L := by
  intro a w ha hw
  refine wpList_plain hg fun K hK => ?_
  unfold Oper.wp
  rw [hrun a w ha hw]
  simp only [Oper.upon, hd]
  exact hK _ _ (h _ _ (ha.put hn v) hw)

theorem WL.vw {o : Oper} (hg : o.guard = none) (hd : o.dst = some d) (hn : Nat.blt d n = true)
    (hrun : ∀ a w, Has n l a → Hp H L w → ∃ v w' H' L', (execOp a.eval o).run P w = .ok (.value v) w' ∧ Hp H' L' w' ∧ WL P ops Q rest n ((d, v) :: l) H' L') : WL P ops Q (o :: rest) n l H L := by
  intro a w ha hw
  obtain ⟨v, w', H', L', hr, hw', h⟩ := hrun a w ha hw
  refine wpList_plain hg fun K hK => ?_
  unfold Oper.wp
  rw [hr]
  simp only [Oper.upon, hd]
  exact hK _ _ (h _ _ (ha.put hn v) hw')

theorem WL.skw {o : Oper} (hg : o.guard = none) (hd : o.dst = none)
    (hrun : ∀ a w, Has n l a → Hp H L w → ∃ w' H' L', (execOp a.eval o).run P w = .ok .skip w' ∧ Hp H' L' w' ∧ WL P ops Q rest n l H' L') : WL P ops Q (o :: rest) n l H L := by
  intro a w ha hw
  obtain ⟨w', H', L', hr, hw', h⟩ := hrun a w ha hw
  refine wpList_plain hg fun K hK => ?_
  unfold Oper.wp
  rw [hr]
  simp only [Oper.upon, hd]
  exact hK _ _ (h _ _ (ha.none _) hw')

/-! ### Guards -/
theorem gr {od : Option Nat} {op : Op} {j dj : Nat} {b : Bool} (hj : (ops[j]?).bind (·.dst) = some dj) (hb : look l dj = some (.bool b))
    (h : WL P ops Q (⟨od, op, ty, pos, af, none⟩ :: rest) n l H L) : WL P ops Q (⟨od, op, ty, pos, af, some (j, b)⟩ :: rest) n l H L := by
  intro a w ha hw
  have := h a w ha hw
  have hy : yielded ops a.tmps j = some b := by simp [yielded, hj, ha.vals dj _ hb]
  unfold wpList at this ⊢
  rw [if_pos (by simp [Region.wanted])] at this
  rw [if_pos (by simp [Region.wanted, hy])]
  exact this
theorem gs {op : Op} {j dj : Nat} {b b' : Bool} (hj : (ops[j]?).bind (·.dst) = some dj) (hb : look l dj = some (.bool b')) (hne : (b' == b) = false) (hn : Nat.blt d n = true)
    (h : WL P ops Q rest n ((d, undef) :: l) H L) : WL P ops Q (⟨some d, op, ty, pos, af, some (j, b)⟩ :: rest) n l H L := by
  intro a w ha hw
  have hy : yielded ops a.tmps j = some b' := by simp [yielded, hj, ha.vals dj _ hb]
  unfold wpList
  rw [if_neg (by simp only [Region.wanted, hy]; simpa using hne)]
  exact h _ _ (ha.put hn undef) hw
theorem gu {op : Op} {j dj : Nat} {b : Bool} (hj : (ops[j]?).bind (·.dst) = some dj) (hb : look l dj = some undef) (hn : Nat.blt d n = true)
    (h : WL P ops Q rest n ((d, undef) :: l) H L) : WL P ops Q (⟨some d, op, ty, pos, af, some (j, b)⟩ :: rest) n l H L := by
  intro a w ha hw
  have hy : yielded ops a.tmps j = none := by simp [yielded, hj, ha.vals dj _ hb, undef]
  unfold wpList
  rw [if_neg (by simp only [Region.wanted, hy]; simp)]
  exact h _ _ (ha.put hn undef) hw
/-- A bool that is a test's: two ways. -/
theorem spl {os : List Oper} {t : Nat} {p : Prop} [Decidable p] (hc : look l t = some (.bool (decide p))) (ht : p → WL P ops Q os n ((t, .bool true) :: l) H L) (hf : ¬ p → WL P ops Q os n ((t, .bool false) :: l) H L) : WL P ops Q os n l H L := by
  intro a w ha hw
  by_cases hp : p
  · refine ht hp a w (ha.sub ?_) hw
    exact Sub.cons (by rw [hc]; simp [hp]) (Sub.refl l)
  · refine hf hp a w (ha.sub ?_) hw
    exact Sub.cons (by rw [hc]; simp [hp]) (Sub.refl l)
theorem splb {os : List Oper} {t : Nat} {b : Bool} (hc : look l t = some (.bool b)) (ht : b = true → WL P ops Q os n ((t, .bool true) :: l) H L) (hf : b = false → WL P ops Q os n ((t, .bool false) :: l) H L) : WL P ops Q os n l H L := by
  cases b
  · exact fun a w ha hw => hf rfl a w (ha.sub (Sub.cons hc (Sub.refl l))) hw
  · exact fun a w ha hw => ht rfl a w (ha.sub (Sub.cons hc (Sub.refl l))) hw

/-! ### Moves, numbers, tests -/
theorem mv {x : Operand} {v : Value} (hx : get l x = some v) (hn : Nat.blt d n = true) (h : WL P ops Q rest n ((d, v) :: l) H L) : WL P ops Q (⟨some d, .move x, ty, pos, af, none⟩ :: rest) n l H L :=
  WL.vq rfl rfl hn (fun a w ha _ => by simp [execOp, ha.get hx]) h
theorem asg {x : Operand} {v : Value} (hx : get l x = some v) (hn : Nat.blt d n = true) (h : WL P ops Q rest n ((d, v) :: l) H L) : WL P ops Q (⟨some d, .assign x, ty, pos, af, none⟩ :: rest) n l H L :=
  WL.vq rfl rfl hn (fun a w ha _ => by simp [execOp, ha.get hx]) h
theorem pk {c x y : Operand} {b : Bool} {u v : Value} (hc : get l c = some (.bool b)) (hx : get l x = some u) (hy : get l y = some v) (hn : Nat.blt d n = true) (h : WL P ops Q rest n ((d, bif b then u else v) :: l) H L) : WL P ops Q (⟨some d, .pick c x y, ty, pos, af, none⟩ :: rest) n l H L :=
  WL.vq rfl rfl hn (fun a w ha _ => by cases b <;> simp [execOp, ha.get hc, ha.get hx, ha.get hy, asBool]) h
theorem nc {x : Operand} {a : Addr} (hx : get l x = some (.pointer (some a))) (hn : Nat.blt d n = true) (h : WL P ops Q rest n ((d, .pointer (some a)) :: l) H L) : WL P ops Q (⟨some d, .nilCheck x, ty, pos, af, none⟩ :: rest) n l H L :=
  WL.vq rfl rfl hn (fun a w ha _ => by simp [execOp, ha.get hx]) h

theorem ad {x y : Operand} {T T' : Nat} {k : IntKind} {a b c : Int} (hx : get l x = some (.int k a)) (hy : get l y = some (.int k b)) (hc : k.wrap (a + b) = c) (hn : Nat.blt d n = true) (h : WL P ops Q rest n ((d, .int k c) :: l) H L) : WL P ops Q (⟨some d, .binOp .add T x y T', ty, pos, af, none⟩ :: rest) n l H L :=
  WL.vq rfl rfl hn (fun a w ha _ => by simp [execOp, ha.get hx, ha.get hy, eqGuard, binOp, Op.intArith, hc]) h
theorem sb {x y : Operand} {T T' : Nat} {k : IntKind} {a b c : Int} (hx : get l x = some (.int k a)) (hy : get l y = some (.int k b)) (hc : k.wrap (a - b) = c) (hn : Nat.blt d n = true) (h : WL P ops Q rest n ((d, .int k c) :: l) H L) : WL P ops Q (⟨some d, .binOp .sub T x y T', ty, pos, af, none⟩ :: rest) n l H L :=
  WL.vq rfl rfl hn (fun a w ha _ => by simp [execOp, ha.get hx, ha.get hy, eqGuard, binOp, Op.intArith, hc]) h
theorem ml {x y : Operand} {T T' : Nat} {k : IntKind} {a b c : Int} (hx : get l x = some (.int k a)) (hy : get l y = some (.int k b)) (hc : k.wrap (a * b) = c) (hn : Nat.blt d n = true) (h : WL P ops Q rest n ((d, .int k c) :: l) H L) : WL P ops Q (⟨some d, .binOp .mul T x y T', ty, pos, af, none⟩ :: rest) n l H L :=
  WL.vq rfl rfl hn (fun a w ha _ => by simp [execOp, ha.get hx, ha.get hy, eqGuard, binOp, Op.intArith, hc]) h
theorem rm {x y : Operand} {T T' : Nat} {k : IntKind} {a b c : Int} (hx : get l x = some (.int k a)) (hy : get l y = some (.int k b)) (hb : b ≠ 0) (hc : a.tmod b = c) (hn : Nat.blt d n = true) (h : WL P ops Q rest n ((d, .int k c) :: l) H L) : WL P ops Q (⟨some d, .binOp .rem T x y T', ty, pos, af, none⟩ :: rest) n l H L :=
  WL.vq rfl rfl hn (fun a w ha _ => by simp [execOp, ha.get hx, ha.get hy, eqGuard, binOp, Op.intDiv, hb, hc]) h
theorem an {x y : Operand} {T T' : Nat} {k : IntKind} {a b c : Int} (hx : get l x = some (.int k a)) (hy : get l y = some (.int k b)) (hc : k.wrap ((BitVec.ofInt k.bits a) &&& (BitVec.ofInt k.bits b)).toNat = c) (hn : Nat.blt d n = true) (h : WL P ops Q rest n ((d, .int k c) :: l) H L) : WL P ops Q (⟨some d, .binOp .and T x y T', ty, pos, af, none⟩ :: rest) n l H L :=
  WL.vq rfl rfl hn (fun a w ha _ => by simp [execOp, ha.get hx, ha.get hy, eqGuard, binOp, Op.intBits, ← hc]) h
theorem or' {x y : Operand} {T T' : Nat} {k : IntKind} {a b c : Int} (hx : get l x = some (.int k a)) (hy : get l y = some (.int k b)) (hc : k.wrap ((BitVec.ofInt k.bits a) ||| (BitVec.ofInt k.bits b)).toNat = c) (hn : Nat.blt d n = true) (h : WL P ops Q rest n ((d, .int k c) :: l) H L) : WL P ops Q (⟨some d, .binOp .or T x y T', ty, pos, af, none⟩ :: rest) n l H L :=
  WL.vq rfl rfl hn (fun a w ha _ => by simp [execOp, ha.get hx, ha.get hy, eqGuard, binOp, Op.intBits, ← hc]) h
theorem sh {x y : Operand} {T T' : Nat} {k k' : IntKind} {a b c : Int} (hx : get l x = some (.int k a)) (hy : get l y = some (.int k' b)) (hb : 0 ≤ b) (hc : a.fdiv (2 ^ min b.toNat k.bits) = c) (hn : Nat.blt d n = true) (h : WL P ops Q rest n ((d, .int k c) :: l) H L) : WL P ops Q (⟨some d, .binOp .shr T x y T', ty, pos, af, none⟩ :: rest) n l H L :=
  WL.vq rfl rfl hn (fun a w ha _ => by simp [execOp, ha.get hx, ha.get hy, eqGuard, binOp, Op.shift, Int.not_lt.2 hb, hc]) h

theorem int_beq (a b : Int) : (a == b) = decide (a = b) := by by_cases e : a = b <;> simp [e]
theorem lt {x y : Operand} {T T' : Nat} {k : IntKind} {a b : Int} (hx : get l x = some (.int k a)) (hy : get l y = some (.int k b)) (hn : Nat.blt d n = true) (h : WL P ops Q rest n ((d, .bool (decide (a < b))) :: l) H L) : WL P ops Q (⟨some d, .binOp .lss T x y T', ty, pos, af, none⟩ :: rest) n l H L :=
  WL.vq rfl rfl hn (fun a w ha _ => by simp [execOp, ha.get hx, ha.get hy, eqGuard, binOp, Op.intCmp]) h
theorem le {x y : Operand} {T T' : Nat} {k : IntKind} {a b : Int} (hx : get l x = some (.int k a)) (hy : get l y = some (.int k b)) (hn : Nat.blt d n = true) (h : WL P ops Q rest n ((d, .bool (decide (a ≤ b))) :: l) H L) : WL P ops Q (⟨some d, .binOp .leq T x y T', ty, pos, af, none⟩ :: rest) n l H L :=
  WL.vq rfl rfl hn (fun a w ha _ => by simp [execOp, ha.get hx, ha.get hy, eqGuard, binOp, Op.intCmp]) h
theorem gt {x y : Operand} {T T' : Nat} {k : IntKind} {a b : Int} (hx : get l x = some (.int k a)) (hy : get l y = some (.int k b)) (hn : Nat.blt d n = true) (h : WL P ops Q rest n ((d, .bool (decide (b < a))) :: l) H L) : WL P ops Q (⟨some d, .binOp .gtr T x y T', ty, pos, af, none⟩ :: rest) n l H L :=
  WL.vq rfl rfl hn (fun a w ha _ => by simp [execOp, ha.get hx, ha.get hy, eqGuard, binOp, Op.intCmp]) h
theorem ge {x y : Operand} {T T' : Nat} {k : IntKind} {a b : Int} (hx : get l x = some (.int k a)) (hy : get l y = some (.int k b)) (hn : Nat.blt d n = true) (h : WL P ops Q rest n ((d, .bool (decide (b ≤ a))) :: l) H L) : WL P ops Q (⟨some d, .binOp .geq T x y T', ty, pos, af, none⟩ :: rest) n l H L :=
  WL.vq rfl rfl hn (fun a w ha _ => by simp [execOp, ha.get hx, ha.get hy, eqGuard, binOp, Op.intCmp]) h
theorem eq' {x y : Operand} {T T' : Nat} {k : IntKind} {a b : Int} (hx : get l x = some (.int k a)) (hy : get l y = some (.int k b)) (hn : Nat.blt d n = true) (h : WL P ops Q rest n ((d, .bool (decide (a = b))) :: l) H L) : WL P ops Q (⟨some d, .binOp .eql T x y T', ty, pos, af, none⟩ :: rest) n l H L :=
  WL.vq rfl rfl hn (fun a w ha _ => by simp [execOp, ha.get hx, ha.get hy, eqGuard, binOp, Op.intCmp, int_beq]) h
theorem ne' {x y : Operand} {T T' : Nat} {k : IntKind} {a b : Int} (hx : get l x = some (.int k a)) (hy : get l y = some (.int k b)) (hn : Nat.blt d n = true) (h : WL P ops Q rest n ((d, .bool (decide (a ≠ b))) :: l) H L) : WL P ops Q (⟨some d, .binOp .neq T x y T', ty, pos, af, none⟩ :: rest) n l H L :=
  WL.vq rfl rfl hn (fun a w ha _ => by simp [execOp, ha.get hx, ha.get hy, eqGuard, binOp, Op.intCmp, bne, int_beq]) h
theorem nt {x : Operand} {T : Nat} {b : Bool} (hx : get l x = some (.bool b)) (hn : Nat.blt d n = true) (h : WL P ops Q rest n ((d, .bool (!b)) :: l) H L) : WL P ops Q (⟨some d, .unOp .not T x, ty, pos, af, none⟩ :: rest) n l H L :=
  WL.vq rfl rfl hn (fun a w ha _ => by simp [execOp, ha.get hx, Op.unary]) h
theorem ntd {x : Operand} {T : Nat} {p : Prop} [Decidable p] (hx : get l x = some (.bool (decide p))) (hn : Nat.blt d n = true) (h : WL P ops Q rest n ((d, .bool (decide (¬ p))) :: l) H L) : WL P ops Q (⟨some d, .unOp .not T x, ty, pos, af, none⟩ :: rest) n l H L :=
  nt hx hn (by simpa using h)
theorem cv {x : Operand} {S D : Nat} {sd : TypeDesc} {k k' : IntKind} {a c : Int} (hs : ∀ w, (underlying S).run P w = .ok sd w) (hd : ∀ w, (underlying D).run P w = .ok (.int k) w) (hx : get l x = some (.int k' a)) (hc : k.wrap a = c) (hn : Nat.blt d n = true) (h : WL P ops Q rest n ((d, .int k c) :: l) H L) : WL P ops Q (⟨some d, .convert S D x, ty, pos, af, none⟩ :: rest) n l H L :=
  WL.vq rfl rfl hn (fun a w ha _ => by simp [execOp, ha.get hx, convert, hs, hd, Conv.intToInt, hc]) h

theorem w64 {x : Int} (h0 : -9223372036854775808 ≤ x) (h1 : x ≤ 9223372036854775807) : IntKind.i64.wrap x = x := by
  unfold IntKind.wrap
  have hb : (2 : Int) ^ IntKind.i64.bits = 18446744073709551616 := rfl
  have hb' : (2 : Int) ^ (IntKind.i64.bits - 1) = 9223372036854775808 := rfl
  simp only [hb, hb', show IntKind.i64.signed = true from rfl, Bool.true_and, decide_eq_true_eq]
  split <;> omega
end
end Go.Sx
/- The symbolic walk's laws for memory: loads, stores, new blocks, fields, elements. -/
namespace Go.Sx

theorem add_plain (b off k : Nat) : (⟨b, off, none⟩ : Addr).add k = ⟨b, off + k, none⟩ := by unfold Addr.add; split <;> simp_all

/-- What a world keeps of frozen and own blocks. -/
def Bs (H : Fz) (L : Own) (w : World) : Prop := (∀ b o, H.blk b = some o → w.heap[b]? = some o) ∧ (∀ b o, (b, o) ∈ L.flatten → w.heap[b]? = some o)
theorem Hp.bs {H : Fz} {L : Own} {w : World} (h : Hp H L w) : Bs H L w := ⟨h.fz, fun b o hm => (h.own b o hm).1⟩
/-- What a register's block says: own or frozen. -/
def Says (H : Fz) (L : Own) (b off : Nat) (vs : List Value) : Prop := ∀ w, Bs H L w → ∀ j v, vs[j]? = some v → w.cell? ⟨b, off + j, none⟩ = some v
theorem Says.own {H : Fz} {L L' : Own} {b : Nat} {cs : List Value} {e : Nat} {fr : Nat × Nat} (h : Sel L [(b, .cells cs.toArray e fr)] L') : Says H L b 0 cs := by
  intro w hw j v hv
  have := hw.2 b (.cells cs.toArray e fr) (h.perm.mem_iff.2 (by simp))
  simp [World.cell?, this, hv]
theorem Says.ownArr {H : Fz} {L L' : Own} {b : Nat} {cs : Array Value} {e : Nat} {fr : Nat × Nat} (h : Sel L [(b, .cells cs e fr)] L') (off : Nat) (vs : List Value) (hc : ∀ j v, vs[j]? = some v → cs[off + j]? = some v) : Says H L b off vs := by
  intro w hw j v hv
  have := hw.2 b (.cells cs e fr) (h.perm.mem_iff.2 (by simp))
  simp [World.cell?, this, hc j v hv]
theorem Fz.at.cellB {H : Fz} {L : Own} {w : World} {b off : Nat} {vs : List Value} (h : H.at b off vs) (hw : Bs H L w) {j : Nat} {v : Value} (hv : vs[j]? = some v) : w.cell? ⟨b, off + j, none⟩ = some v := by
  obtain ⟨cs, e, fr, h1, h2⟩ := h
  simp [World.cell?, hw.1 _ _ h1, h2 j v hv]
theorem Says.fz {H : Fz} {L : Own} {b off : Nat} {vs : List Value} (h : H.at b off vs) : Says H L b off vs := fun _ hw _ _ hv => h.cellB hw hv

/-- A struct's field lies so many cells behind its begin. -/
def FieldOff (P : Program) (S k o : Nat) : Prop := ∀ b off w, (Instr.fieldAt S (.pointer (some ⟨b, off, none⟩)) k).run P w = .ok (.pointer (some ⟨b, off + o, none⟩)) w
theorem FieldOff.mk {P : Program} {S k o : Nat} {fs : Array Field} {f : Field} {sz : Nat} (hu : ∀ w, (underlying S).run P w = .ok (.struct fs) w) (hf : fs[k]? = some f) (hs : ∀ w, (sizeOf f.type).run P w = .ok sz w) (hz : (sz == 0) = false) (ho : f.offset = o) : FieldOff P S k o := by
  intro b off w
  have : sz ≠ 0 := by simpa using hz
  subst ho
  simp [Instr.fieldAt, hu, hf, Instr.sureAddr, fieldPlace, hs, this, add_plain]
/-- A field of one cell, of a struct that is a value. -/
def FieldCell (P : Program) (T k o : Nat) : Prop := ∀ (cs : List Value) v w, cs[o]? = some v → (Instr.field T (.agg cs.toArray) k).run P w = .ok v w
theorem FieldCell.mk {P : Program} {S k o : Nat} {fs : Array Field} {f : Field} (hu : ∀ w, (underlying S).run P w = .ok (.struct fs) w) (hf : fs[k]? = some f) (ha : ∀ w, (isAgg f.type).run P w = .ok false w) (ho : f.offset = o) : FieldCell P S k o := by
  intro cs v w hv
  subst ho
  simp [Instr.field, hu, hf, asAgg, Go.part, ha, hv]
/-- A field that is a struct or an array. -/
def FieldAgg (P : Program) (T k o m : Nat) : Prop := ∀ (cs : List Value) w, (Instr.field T (.agg cs.toArray) k).run P w = .ok (.agg ((cs.drop o).take m).toArray) w
theorem FieldAgg.mk {P : Program} {S k o m : Nat} {fs : Array Field} {f : Field} (hu : ∀ w, (underlying S).run P w = .ok (.struct fs) w) (hf : fs[k]? = some f) (ha : ∀ w, (isAgg f.type).run P w = .ok true w) (hs : ∀ w, (sizeOf f.type).run P w = .ok m w) (ho : f.offset = o) : FieldAgg P S k o m := by
  intro cs w
  subst ho
  simp [Instr.field, hu, hf, asAgg, Go.part, ha, hs]

section
variable {P : Program} {ops : Array Oper} {Q : Exit → Act → World → Prop} {rest : List Oper} {n : Nat} {l : Env} {H : Fz} {L : Own}
variable {d ty : Nat} {pos : String} {af : Array Edge}

theorem fa {S k o b off : Nat} {x : Operand} (hF : FieldOff P S k o) (hx : get l x = some (.pointer (some ⟨b, off, none⟩))) (hn : Nat.blt d n = true) (h : WL P ops Q rest n ((d, .pointer (some ⟨b, off + o, none⟩)) :: l) H L) : WL P ops Q (⟨some d, .fieldAddr S x k, ty, pos, af, none⟩ :: rest) n l H L :=
  WL.vq rfl rfl hn (fun a w ha _ => by simp [execOp, ha.get hx, hF b off w]) h
/-- of a struct at its block's begin -/
theorem fa0 {S k o b : Nat} {x : Operand} (hF : FieldOff P S k o) (hx : get l x = some (.pointer (some ⟨b, 0, none⟩))) (hn : Nat.blt d n = true) (h : WL P ops Q rest n ((d, .pointer (some ⟨b, o, none⟩)) :: l) H L) : WL P ops Q (⟨some d, .fieldAddr S x k, ty, pos, af, none⟩ :: rest) n l H L :=
  fa hF hx hn (by rw [Nat.zero_add]; exact h)
theorem fc {T k o : Nat} {x : Operand} {cs : List Value} {v : Value} (hF : FieldCell P T k o) (hx : get l x = some (.agg cs.toArray)) (hv : nth cs o = some v) (hn : Nat.blt d n = true) (h : WL P ops Q rest n ((d, v) :: l) H L) : WL P ops Q (⟨some d, .field T x k, ty, pos, af, none⟩ :: rest) n l H L :=
  WL.vq rfl rfl hn (fun a w ha _ => by simp [execOp, ha.get hx, hF cs v w (by rw [← nth_eq]; exact hv)]) h
theorem fg {T k o m : Nat} {x : Operand} {cs ds : List Value} (hF : FieldAgg P T k o m) (hx : get l x = some (.agg cs.toArray)) (hv : cut' cs o m = some ds) (hn : Nat.blt d n = true) (h : WL P ops Q rest n ((d, .agg ds.toArray) :: l) H L) : WL P ops Q (⟨some d, .field T x k, ty, pos, af, none⟩ :: rest) n l H L :=
  WL.vq rfl rfl hn (fun a w ha _ => by simp [execOp, ha.get hx, hF cs w, ← (cut'_eq cs o m ds hv).1]) h

theorem run_loadCells_says {w : World} {b off : Nat} {ds : List Value} (h : ∀ j v, ds[j]? = some v → w.cell? ⟨b, off + j, none⟩ = some v) : (loadCells ⟨b, off, none⟩ ds.length).run P w = .ok ds.toArray w :=
  run_loadCells_list (P := P) w ⟨b, off, none⟩ ds (fun j v hj => by rw [add_plain]; exact h j v hj)

/-- a load of one cell -/
theorem ld {T b off j o : Nat} {vs : List Value} {x : Operand} {v : Value} (hs : Says H L b off vs) (ha : ∀ w, (isAgg T).run P w = .ok false w) (hx : get l x = some (.pointer (some ⟨b, o, none⟩))) (ho : o = off + j) (hv : nth vs j = some v) (hn : Nat.blt d n = true) (h : WL P ops Q rest n ((d, v) :: l) H L) : WL P ops Q (⟨some d, .load T x, ty, pos, af, none⟩ :: rest) n l H L :=
  WL.vq rfl rfl hn (fun a w hA hw => by
    subst ho
    have := hs w hw.bs j v (by rw [← nth_eq]; exact hv)
    simp [execOp, hA.get hx, Instr.loadAt, Instr.sureAddr, loadVar, ha, this]) h
/-- a load of a struct or an array -/
theorem la {T b off j o m : Nat} {vs ds : List Value} {x : Operand} (hs : Says H L b off vs) (ha : ∀ w, (isAgg T).run P w = .ok true w) (hz : ∀ w, (sizeOf T).run P w = .ok m w) (hx : get l x = some (.pointer (some ⟨b, o, none⟩))) (ho : o = off + j) (hv : cut' vs j m = some ds) (hn : Nat.blt d n = true) (h : WL P ops Q rest n ((d, .agg ds.toArray) :: l) H L) : WL P ops Q (⟨some d, .load T x, ty, pos, af, none⟩ :: rest) n l H L :=
  WL.vq rfl rfl hn (fun a w hA hw => by
    subst ho
    obtain ⟨h1, h2⟩ := cut'_eq vs j m ds hv
    have hl : ds.length = m := by subst h1; simp; omega
    have hc := run_loadCells_says (P := P) (w := w) (b := b) (off := off + j) (ds := ds) (fun i v hi => by
      have := hs w hw.bs (j + i) v (by
        subst h1
        rw [List.getElem?_take] at hi
        split at hi
        · rw [List.getElem?_drop] at hi; exact hi
        · cases hi)
      rwa [← Nat.add_assoc] at this)
    rw [hl] at hc
    simp [execOp, hA.get hx, Instr.loadAt, Instr.sureAddr, loadVar, ha, hz, hc]) h

theorem setRow_turn {w : World} {b e : Nat} {cs cs' : Array Value} {L' : Own} (hw : Hp H L w) (hu : Upd L [(b, .cells cs e (0, 0))] [(b, .cells cs' e (0, 0))] L') : Hp H L' (w.setRow b cs') := by
  obtain ⟨L0, h1, _⟩ := hu.perm
  have hb := (hw.own b (.cells cs e (0, 0)) (h1.mem_iff.2 (by simp))).1
  exact hw.turn hu rfl rfl rfl (setRow_heap w b cs cs' e (0, 0) hb) (fun k hk => setRow_other w b k cs' hk)
theorem Upd.here {w : World} {c c' : Chunk} {L' : Own} {b : Nat} {o : Obj} (hu : Upd L c c' L') (hw : Hp H L w) (hm : (b, o) ∈ c) : w.heap[b]? = some o := by
  obtain ⟨L0, h1, _⟩ := hu.perm
  exact (hw.own b o (h1.mem_iff.2 (by simp [hm]))).1

/-- a store of one cell into an own block -/
theorem st {T b off e : Nat} {cs cs' : List Value} {x y : Operand} {v : Value} {L' : Own} (hz : ∀ w, (sizeOf T).run P w = .ok 1 w) (hx : get l x = some (.pointer (some ⟨b, off, none⟩))) (hy : get l y = some v) (h1 : v.oneCell' = true) (hv : setAt cs off v = some cs') (hu : Upd L [(b, .cells cs.toArray e (0, 0))] [(b, .cells cs'.toArray e (0, 0))] L') (h : WL P ops Q rest n l H L') : WL P ops Q (⟨none, .store T x y, ty, pos, af, none⟩ :: rest) n l H L :=
  WL.skw rfl rfl (fun a w hA hw => by
    obtain ⟨g1, g2⟩ := setAt_eq cs off v cs' hv
    have hb := hu.here hw (List.mem_singleton.2 rfl)
    have hc : v.cells = #[v] := by cases v <;> simp_all [Value.cells, Value.oneCell']
    have hst := run_storeCells_at P b off e [v] 0 cs.toArray w hb (by simp; omega) (by simpa using h1)
    have hcs : (cs.toArray.toList.take (off + 0) ++ [v] ++ cs.toArray.toList.drop (off + 0 + [v].length)).toArray = cs'.toArray := by
      subst g2
      congr 1
      simp only [Nat.add_zero, List.length_singleton]
      rw [List.set_eq_take_append_cons_drop]
      simp [g1]
    rw [hcs] at hst
    exact ⟨w.setRow b cs'.toArray, H, L', by simp [execOp, hA.get hx, hA.get hy, Instr.storeAt, Instr.sureAddr, storeVar, hz, hc, hst], setRow_turn hw hu, h⟩)
/-- a store of a struct or an array -/
theorem sa {T b off e m : Nat} {cs cs' ds : List Value} {x y : Operand} {L' : Own} (hz : ∀ w, (sizeOf T).run P w = .ok m w) (hx : get l x = some (.pointer (some ⟨b, off, none⟩))) (hy : get l y = some (.agg ds.toArray)) (hm : ds.length = m) (h1 : ds.all (·.oneCell') = true) (hv : put' cs off ds = some cs') (hu : Upd L [(b, .cells cs.toArray e (0, 0))] [(b, .cells cs'.toArray e (0, 0))] L') (h : WL P ops Q rest n l H L') : WL P ops Q (⟨none, .store T x y, ty, pos, af, none⟩ :: rest) n l H L :=
  WL.skw rfl rfl (fun a w hA hw => by
    obtain ⟨g1, g2⟩ := put'_eq cs off ds cs' hv
    have hb := hu.here hw (List.mem_singleton.2 rfl)
    have hst := run_storeCells_at P b off e ds 0 cs.toArray w hb (by simp; omega) (by simpa using h1)
    have hcs : (cs.toArray.toList.take (off + 0) ++ ds ++ cs.toArray.toList.drop (off + 0 + ds.length)).toArray = cs'.toArray := by
      subst g1; simp
    rw [hcs] at hst
    exact ⟨w.setRow b cs'.toArray, H, L', by simp [execOp, hA.get hx, hA.get hy, Instr.storeAt, Instr.sureAddr, storeVar, hz, Value.cells, hm, hst], setRow_turn hw hu, h⟩)

/-- a new variable -/
theorem al {T : Nat} {z : Value} {zs : List Value} (hz : ∀ w, (zeroValue T).run P w = .ok z w) (hc : z.cells = zs.toArray) (hn : Nat.blt d n = true) (h : ∀ b, WL P ops Q rest n ((d, .pointer (some ⟨b, 0, none⟩)) :: l) H ([(b, .cells zs.toArray T (0, 0))] :: L)) : WL P ops Q (⟨some d, .alloc T, ty, pos, af, none⟩ :: rest) n l H L :=
  WL.vw rfl rfl hn (fun a w _ hw => ⟨_, w.alloc (.cells zs.toArray T (0, 0)), H, _, by simp [execOp, Instr.alloc, hz, newVar, newRow, hc], hw.alloc _, h _⟩)
theorem bx {T : Nat} {x : Operand} {v : Value} {zs : List Value} (hx : get l x = some v) (hc : v.cells = zs.toArray) (hn : Nat.blt d n = true) (h : ∀ b, WL P ops Q rest n ((d, .pointer (some ⟨b, 0, none⟩)) :: l) H ([(b, .cells zs.toArray T (0, 0))] :: L)) : WL P ops Q (⟨some d, .box T x, ty, pos, af, none⟩ :: rest) n l H L :=
  WL.vw rfl rfl hn (fun a w hA hw => ⟨_, w.alloc (.cells zs.toArray T (0, 0)), H, _, by simp [execOp, hA.get hx, Instr.box, newVar, newRow, hc], hw.alloc _, h _⟩)

def parts (l : Env) : List (Nat × Operand) → Option (List (Nat × Value))
  | [] => some []
  | (i, x) :: r => match get l x, parts l r with | some v, some vs => some ((i, v) :: vs) | _, _ => none
theorem parts_eq {l : Env} {a : Act} (hA : Has n l a) : ∀ (ps : List (Nat × Operand)) vs, parts l ps = some vs → ps.map (fun p => (p.1, a.eval p.2)) = vs := by
  intro ps
  induction ps with
  | nil => intro vs h; simp [parts] at h; subst h; rfl
  | cons p ps ih =>
    intro vs h
    obtain ⟨i, x⟩ := p
    simp only [parts] at h
    split at h
    · rename_i v r hv hr
      cases h
      simp [hA.get hv, ih r hr]
    · cases h
/-- a struct, or an array, that is built -/
theorem bd {T : Nat} {ps : List (Nat × Operand)} {vs : List (Nat × Value)} {ds : List Value} (hp : parts l ps = some vs) (hr : ∀ w, (Instr.build T vs.toArray).run P w = .ok (.agg ds.toArray) w) (hn : Nat.blt d n = true) (h : WL P ops Q rest n ((d, .agg ds.toArray) :: l) H L) : WL P ops Q (⟨some d, .build T ps.toArray, ty, pos, af, none⟩ :: rest) n l H L :=
  WL.vq rfl rfl hn (fun a w hA _ => by
    have := parts_eq hA ps vs hp
    simp only [execOp, List.map_toArray]
    rw [show ps.map (fun x => match x with | (i, x) => (i, a.eval x)) = vs from this]
    simp [hr]) h
/-- what a slice that is built makes of its parts -/
def Builds (P : Program) (T m : Nat) (vs : List (Nat × Value)) (e : Nat) (ds : List Value) : Prop := ∀ w, (Instr.buildSlice T m vs.toArray).run P w = .ok (.slice (some ⟨w.heap.size, 0, none⟩) m m) (w.alloc (.cells ds.toArray e (0, 0)))
theorem bs {T m e : Nat} {ps : List (Nat × Operand)} {vs : List (Nat × Value)} {ds : List Value} (hp : parts l ps = some vs) (hr : Builds P T m vs e ds) (hn : Nat.blt d n = true) (h : ∀ b, WL P ops Q rest n ((d, .slice (some ⟨b, 0, none⟩) m m) :: l) H ([(b, .cells ds.toArray e (0, 0))] :: L)) : WL P ops Q (⟨some d, .buildSlice T m ps.toArray, ty, pos, af, none⟩ :: rest) n l H L :=
  WL.vw rfl rfl hn (fun a w hA hw => by
    have := parts_eq hA ps vs hp
    refine ⟨_, w.alloc (.cells ds.toArray e (0, 0)), H, _, ?_, hw.alloc _, h w.heap.size⟩
    simp only [execOp, List.map_toArray]
    rw [show ps.map (fun x => match x with | (i, x) => (i, a.eval x)) = vs from this]
    simp [hr w])

/-- an element's place -/
theorem ix {T e sz b off m c : Nat} {x y : Operand} {j : Nat} {i : Int} (ht : ∀ w, (underlying T).run P w = .ok (.slice e) w) (hz : ∀ w, (sizeOf e).run P w = .ok sz w) (hx : get l x = some (.slice (some ⟨b, off, none⟩) m c)) (hy : get l y = some (.int .i64 i)) (hi : i = (j : Int)) (hj : j < m) (hn : Nat.blt d n = true) (h : WL P ops Q rest n ((d, .pointer (some ⟨b, off + j * sz, none⟩)) :: l) H L) : WL P ops Q (⟨some d, .indexAddr T x y, ty, pos, af, none⟩ :: rest) n l H L :=
  WL.vq rfl rfl hn (fun a w hA _ => by
    subst hi
    simp [execOp, hA.get hx, hA.get hy, Instr.indexAt, asIntOf, ht, hz, hj, add_plain]) h
theorem ix2 {T e sz b off m c : Nat} {ad : Option Addr} {x y : Operand} {j : Nat} {i : Int} (ht : ∀ w, (underlying T).run P w = .ok (.slice e) w) (hz : ∀ w, (sizeOf e).run P w = .ok sz w) (hx : get l x = some (.slice ad m c)) (had : ad = some ⟨b, off, none⟩) (hy : get l y = some (.int .i64 i)) (hi : i = (j : Int)) (hj : j < m) (hn : Nat.blt d n = true) (h : WL P ops Q rest n ((d, .pointer (some ⟨b, off + j * sz, none⟩)) :: l) H L) : WL P ops Q (⟨some d, .indexAddr T x y, ty, pos, af, none⟩ :: rest) n l H L := by
  subst had; exact ix ht hz hx hy hi hj hn h
/-- lengths -/
theorem ls {T e m c : Nat} {x : Operand} {a : Option Addr} (ht : ∀ w, (underlying T).run P w = .ok (.slice e) w) (hx : get l x = some (.slice a m c)) (hn : Nat.blt d n = true) (h : WL P ops Q rest n ((d, .int .i64 (m : Int)) :: l) H L) : WL P ops Q (⟨some d, .call { callee := .builtin .len, args := #[x], argTypes := #[T] }, ty, pos, af, none⟩ :: rest) n l H L :=
  WL.vq rfl rfl hn (fun a w hA _ => by simp [execOp, resolve, invoke, builtin, hA.get hx, Builtin.len_, ht, goInt]) h
theorem lt' {T : Nat} {x : Operand} {s : ByteArray} (ht : ∀ w, (underlying T).run P w = .ok .string w) (hx : get l x = some (.string s)) (hn : Nat.blt d n = true) (h : WL P ops Q rest n ((d, .int .i64 (s.size : Int)) :: l) H L) : WL P ops Q (⟨some d, .call { callee := .builtin .len, args := #[x], argTypes := #[T] }, ty, pos, af, none⟩ :: rest) n l H L :=
  WL.vq rfl rfl hn (fun a w hA _ => by simp [execOp, resolve, invoke, builtin, hA.get hx, Builtin.len_, ht, goInt]) h
theorem mn {T T' : Nat} {x y : Operand} {k k' : IntKind} {i j : Int} (hx : get l x = some (.int k i)) (hy : get l y = some (.int k' j)) (hn : Nat.blt d n = true) (h : WL P ops Q rest n ((d, .int k (if j < i then j else i)) :: l) H L) : WL P ops Q (⟨some d, .call { callee := .builtin .min, args := #[x, y], argTypes := #[T, T'] }, ty, pos, af, none⟩ :: rest) n l H L :=
  WL.vq rfl rfl hn (fun a w hA _ => by simp [execOp, resolve, invoke, builtin, hA.get hx, hA.get hy, Builtin.min_, Builtin.min2]) h
theorem mx {T T' : Nat} {x y : Operand} {k k' : IntKind} {i j : Int} (hx : get l x = some (.int k i)) (hy : get l y = some (.int k' j)) (hn : Nat.blt d n = true) (h : WL P ops Q rest n ((d, .int k (if i < j then j else i)) :: l) H L) : WL P ops Q (⟨some d, .call { callee := .builtin .max, args := #[x, y], argTypes := #[T, T'] }, ty, pos, af, none⟩ :: rest) n l H L :=
  WL.vq rfl rfl hn (fun a w hA _ => by simp [execOp, resolve, invoke, builtin, hA.get hx, hA.get hy, Builtin.max_, Builtin.max2]) h
/-- 'x[:h]' -/
theorem sh' {T e sz m c : Nat} {ad : Option Addr} {x y : Operand} {k : IntKind} {i : Int} {j : Nat} (ht : ∀ w, (underlying T).run P w = .ok (.slice e) w) (hz : ∀ w, (sizeOf e).run P w = .ok sz w) (hx : get l x = some (.slice ad m c)) (hy : get l y = some (.int k i)) (hi : i = (j : Int)) (hj : j ≤ c) (hn : Nat.blt d n = true) (h : WL P ops Q rest n ((d, .slice ad j c) :: l) H L) : WL P ops Q (⟨some d, .slice T x none (some y) none, ty, pos, af, none⟩ :: rest) n l H L :=
  WL.vq rfl rfl hn (fun a w hA _ => by
    subst hi
    have hc : (if c = 0 then ad else ad.map (·.add 0)) = ad := by
      split
      · rfl
      · cases ad <;> simp [Addr.add]
    simp [execOp, hA.get hx, hA.get hy, Instr.sliceAt, Instr.slice, ht, hz, Instr.sliceBounds, Instr.sliceBound, asIntOf, hj, hc]) h

/-- a string out of octets -/
def bytesOf (s : List UInt8) : List Value := s.map fun b => .int .u8 (b.toNat : Int)
theorem cbs {S D e b off m c : Nat} {x : Operand} {s : List UInt8} (hs : P.underlying S = some (.slice e)) (he : P.underlying e = some (.int .u8)) (hd : P.underlying D = some .string) (hx : get l x = some (.slice (some ⟨b, off, none⟩) m c)) (hm : m = s.length) (hb : s ≠ [] → Says H L b off (bytesOf s)) (hn : Nat.blt d n = true) (h : WL P ops Q rest n ((d, .string ⟨s.toArray⟩) :: l) H L) : WL P ops Q (⟨some d, .convert S D x, ty, pos, af, none⟩ :: rest) n l H L :=
  WL.vq rfl rfl hn (fun a w hA hw => by
    subst hm
    have := run_convert_bytes_arg (P := P) w S e hs he b off s.length c (s.map fun b => (b.toNat : Int)) (by simp) (fun i hi => by
      have h1 := hb (by intro h0; subst h0; simp at hi) w hw.bs i (.int .u8 ((s[i]).toNat : Int)) (by simp [bytesOf, hi])
      rw [h1]; simp [List.getD, hi]) D hd
    have hstr : strOfNums (s.map fun b => (b.toNat : Int)) = ⟨s.toArray⟩ := by
      simp [strOfNums, Function.comp_def]
    rw [hstr] at this
    simp [execOp, hA.get hx, this]) h
theorem cbn {S D e m c : Nat} {x : Operand} (hs : P.underlying S = some (.slice e)) (he : P.underlying e = some (.int .u8)) (hd : P.underlying D = some .string) (hx : get l x = some (.slice none m c)) (hn : Nat.blt d n = true) (h : WL P ops Q rest n ((d, .string ⟨#[]⟩) :: l) H L) : WL P ops Q (⟨some d, .convert S D x, ty, pos, af, none⟩ :: rest) n l H L :=
  WL.vq rfl rfl hn (fun a w hA hw => by
    have := run_convert_bytes_nil (P := P) w S e hs he m c D hd
    rw [show ByteArray.empty = ⟨#[]⟩ from rfl] at this
    simp [execOp, hA.get hx, this]) h

/-! ### Calls -/
def gets (l : Env) : List Operand → Option (List Value)
  | [] => some []
  | x :: r => match get l x, gets l r with | some v, some vs => some (v :: vs) | _, _ => none
theorem gets_eq {l : Env} {a : Act} (hA : Has n l a) : ∀ (xs : List Operand) vs, gets l xs = some vs → xs.map a.eval = vs := by
  intro xs
  induction xs with
  | nil => intro vs h; simp [gets] at h; subst h; rfl
  | cons x xs ih =>
    intro vs h
    simp only [gets] at h
    split at h
    · rename_i v r hv hr
      cases h
      simp [hA.get hv, ih r hr]
    · cases h
/-- a call of a function by its number, of a closure -/
theorem cl {f : Operand} {g : FuncId} {fi cp : Array Value} {xs : List Operand} {vs as' : List Value} {tys : Array TypeId} {R : Value → Fz → Own → Prop} (hf : get l f = some (.func (.func g) fi cp)) (hx : gets l xs = some vs) (has : fi.toList ++ vs ++ cp.toList = as') (hF : Fn P g as' H L R) (hn : Nat.blt d n = true)
    (h : ∀ v H' L', H.le H' → R v H' L' → WL P ops Q rest n ((d, v) :: l) H' L') : WL P ops Q (⟨some d, .call { callee := .value f, args := xs.toArray, argTypes := tys }, ty, pos, af, none⟩ :: rest) n l H L := by
  intro a w hA hw
  refine wpList_plain rfl fun K hK => ?_
  have hg := gets_eq hA xs vs hx
  have hr : (execOp a.eval ⟨some d, .call { callee := .value f, args := xs.toArray, argTypes := tys }, ty, pos, af, none⟩).run P w = .ok (.enter g as'.toArray) w := by
    subst has
    simp only [execOp, resolve, hA.get hf, Deferred.ofValue, List.map_toArray, hg]
    have : fi ++ vs.toArray ++ cp = (fi.toList ++ vs ++ cp.toList).toArray := by
      apply Array.ext'; simp
    simp only [pure_bind, invoke, this, hF.1]
  unfold Oper.wp
  rw [hr]
  show Calls P g as'.toArray w _
  refine (hF.2 w hw).mono ?_
  rintro e w' ⟨v, H', L', rfl, hle, hp, hR⟩
  exact hK _ _ (h v H' L' hle hR _ _ (hA.put hn v) hp)

/-! ### The end of a function -/
theorem rT {fn : Func} {H0 : Fz} {R : Value → Fz → Own → Prop} {t : Nat} {v : Value} (hr : fn.results = #[.tmp t]) (hv : look l t = some v) (hle : H0.le H) (hQ : ∀ a w, bodyPost P fn (Ret H0 R) .ret a w → Q .ret a w) (h : R v H L) : Wp P .ret Q n l H L :=
  rt fun a w hA hw => hQ a w (bodyPost_ret (results_tmp hr a.tmps P w) hA.defers ⟨_, H, L, rfl, hle, hw, by
    have : a.tmps.getD t undef = v := hA.get (x := .tmp t) hv
    rw [this]; exact h⟩)
/-- a result that lies in memory -/
theorem rC {fn : Func} {H0 : Fz} {R : Value → Fz → Own → Prop} {t T b : Nat} {cs : List Value} {e m : Nat} {fr : Nat × Nat} {L' : Own} (hr : fn.results = #[.cell t T]) (ha : ∀ w, (isAgg T).run P w = .ok true w) (hz : ∀ w, (sizeOf T).run P w = .ok m w) (hv : look l t = some (.pointer (some ⟨b, 0, none⟩))) (hs : Sel L [(b, .cells cs.toArray e fr)] L') (hm : cs.length = m) (hle : H0.le H) (hQ : ∀ a w, bodyPost P fn (Ret H0 R) .ret a w → Q .ret a w) (h : R (.agg cs.toArray) H L') : Wp P .ret Q n l H L :=
  rt fun a w hA hw => hQ a w (by
    have hp : a.tmps[t]? = some (.pointer (some ⟨b, 0, none⟩)) := hA.vals t _ hv
    have hc := run_loadCells_says (P := P) (w := w) (b := b) (off := 0) (ds := cs) (fun i v hi => Says.own hs w hw.bs i v hi)
    rw [hm] at hc
    refine bodyPost_ret (v := .agg cs.toArray) ?_ hA.defers ⟨_, H, L', rfl, hle, (hw.sel hs).drop, h⟩
    simp [results, hr, hp, asAddr, loadVar, ha, hz, hc])
/-- no result: at the end of the body, and at a return -/
theorem r0 {fn : Func} {H0 : Fz} {R : Value → Fz → Own → Prop} (hr : fn.results = #[]) (hle : H0.le H) (hQ : ∀ a w, bodyPost P fn (Ret H0 R) .ret a w → Q .ret a w) (h : R (.tuple #[]) H L) : Wp P .ret Q n l H L :=
  rt fun a w hA hw => hQ a w (bodyPost_ret (results_none hr a.tmps P w) hA.defers ⟨_, H, L, rfl, hle, hw, h⟩)
theorem rn {fn : Func} {H0 : Fz} {R : Value → Fz → Own → Prop} {a : Act} {w : World} (hr : fn.results = #[]) (hle : H0.le H) (h : R (.tuple #[]) H L) (hA : Has n l a) (hw : Hp H L w) : bodyPost P fn (Ret H0 R) .normal a w :=
  bodyPost_end (results_none hr a.tmps P w) hA.defers ⟨_, H, L, rfl, hle, hw, h⟩
/-- two results -/
theorem rT2 {fn : Func} {H0 : Fz} {R : Value → Fz → Own → Prop} {t u : Nat} {v v' : Value} (hr : fn.results = #[.tmp t, .tmp u]) (hv : look l t = some v) (hv' : look l u = some v') (hle : H0.le H) (hQ : ∀ a w, bodyPost P fn (Ret H0 R) .ret a w → Q .ret a w) (h : R (.tuple #[v, v']) H L) : Wp P .ret Q n l H L :=
  rt fun a w hA hw => hQ a w (bodyPost_ret (results_tmp2 hr a.tmps P w) hA.defers ⟨_, H, L, rfl, hle, hw, by
    have h1 : a.tmps.getD t undef = v := hA.get (x := .tmp t) hv
    have h2 : a.tmps.getD u undef = v' := hA.get (x := .tmp u) hv'
    rw [h1, h2]; exact h⟩)
end
end Go.Sx
/- The symbolic walk's laws for slices that grow, and for loops over a range. -/
namespace Go.Sx

/-- A slice of the function's own: nil, or at the head of a block that is all its own; n elements of so many cells. -/
def Row (e size : Nat) (a : Option Addr) (n cap : Nat) (xs : List Value) (N : Chunk) : Prop :=
  xs.length = n * size ∧ ((a = none ∧ n = 0 ∧ cap = 0 ∧ N = []) ∨
    ∃ g cur, a = some ⟨g, 0, none⟩ ∧ N = [(g, .cells cur e (0, 0))] ∧ n ≤ cap ∧ cap ≤ maxLen ∧ cur.size = cap * size ∧ cur.toList.take (n * size) = xs)
theorem Row.nil (e size : Nat) : Row e size none 0 0 [] [] := ⟨by simp, .inl ⟨rfl, rfl, rfl, rfl⟩⟩
theorem Row.len {e size : Nat} {a : Option Addr} {n cap : Nat} {xs : List Value} {N : Chunk} (h : Row e size a n cap xs N) : xs.length = n * size := h.1
theorem Row.le {e size : Nat} {a : Option Addr} {n cap : Nat} {xs : List Value} {N : Chunk} (h : Row e size a n cap xs N) : n ≤ cap ∧ cap ≤ maxLen := by
  rcases h.2 with ⟨_, rfl, rfl, _⟩ | ⟨g, cur, _, _, h1, h2, _⟩
  · simp [maxLen]
  · exact ⟨h1, h2⟩
/-- A block that was just made, whole. -/
theorem Row.whole {e size g m : Nat} {ds : List Value} (hl : ds.length = m * size) (hm : m ≤ maxLen) : Row e size (some ⟨g, 0, none⟩) m m ds [(g, .cells ds.toArray e (0, 0))] :=
  ⟨hl, .inr ⟨g, ds.toArray, rfl, rfl, Nat.le_refl _, hm, by simpa using hl, by simp [← hl]⟩⟩
/-- What it says. -/
theorem Row.says {e size : Nat} {b off : Nat} {n cap : Nat} {xs : List Value} {N : Chunk} {H : Fz} {L L' : Own} (h : Row e size (some ⟨b, off, none⟩) n cap xs N) (hs : Sel L N L') : Says H L b off xs := by
  rcases h.2 with ⟨h0, _⟩ | ⟨g, cur, h1, rfl, _, _, _, h2⟩
  · cases h0
  · cases h1
    refine Says.ownArr hs 0 xs fun j v hj => ?_
    rw [← h2, List.getElem?_take] at hj
    split at hj
    · simpa using hj
    · cases hj
/-- It becomes frozen. -/
theorem Row.freeze {e size : Nat} {a : Option Addr} {n cap : Nat} {xs : List Value} {N : Chunk} {H : Fz} {L L' : Own} {w : World} (h : Row e size a n cap xs N) (hs : Sel L N L') (hw : Hp H L w) :
    ∃ H', H.le H' ∧ Hp H' L' w ∧ (a = none ∧ n = 0 ∧ cap = 0 ∨ ∃ g, a = some ⟨g, 0, none⟩ ∧ H'.at g 0 xs) := by
  rcases h.2 with ⟨rfl, rfl, rfl, rfl⟩ | ⟨g, cur, rfl, rfl, _, _, _, h2⟩
  · exact ⟨H, Fz.le.refl H, (hw.sel hs).drop, .inl ⟨rfl, rfl, rfl⟩⟩
  · obtain ⟨h3, h4⟩ := (hw.sel hs).freeze
    refine ⟨_, h4, h3.drop, .inr ⟨g, rfl, cur, e, (0, 0), Fz.add_blk _ _ _, fun j v hj => ?_⟩⟩
    rw [← h2, List.getElem?_take] at hj
    split at hj
    · simpa using hj
    · cases hj

structure TI (P : Program) (t size bytes : Nat) (z : Value) : Prop where
  ex : ∃ i, P.info? t = some i ∧ i.size = size ∧ i.bytes = bytes ∧ i.zero = some z
  pos : 0 < size
  zc : z.cells.size = size

section
variable {P : Program} {ops : Array Oper} {Q : Exit → Act → World → Prop} {rest : List Oper} {n : Nat} {l : Env} {H : Fz} {L : Own}
variable {d ty : Nat} {pos : String} {af : Array Edge}

theorem src_says {tx e' size b off m c : Nat} {news : List Value} (hk : P.underlying tx = some (.slice e')) (hl : news.length = m * size) (h : news ≠ [] → Says H L b off news) (h1 : ∀ u ∈ news, u.oneCell' = true) :
    ∀ w, Hp H L w → Src P size tx (.slice (some ⟨b, off, none⟩) m c) m news w := fun w hw =>
  Src.ofSlice w hk _ m c news hl (fun j u hu => by
    rw [add_plain]
    exact h (by intro h0; subst h0; simp at hu) w hw.bs j u hu) h1
theorem src_nil {tx e' size c : Nat} (hk : P.underlying tx = some (.slice e')) : ∀ w, Hp H L w → Src P size tx (.slice none 0 c) 0 [] w := fun w _ => Src.ofNil w hk c
theorem src_str {tx : Nat} (s : ByteArray) (hk : P.underlying tx = some .string) : ∀ w, Hp H L w → Src P 1 tx (.string s) s.size (byteCells s) w := fun w _ => Src.ofString w hk s

theorem oneCell_zeros {z : Value} {m : Nat} (_ : True) : (Builtin.zeroCells z.cells m).size = m * z.cells.size := by simp [Builtin.zeroCells]

theorem run_append_row {t tx ty e size bytes : Nat} {z : Value} {a : Option Addr} {m cap k : Nat} {xs news : List Value} {N : Chunk} {src : Value} {F : Chunk → Own} {w : World}
    (ht : P.underlying t = some (.slice e)) (hi : TI P e size bytes z) (hr : Row e size a m cap xs N) (hF : ∀ N', Upd L N N' (F N')) (hsrc : Src P size tx src k news w)
    (hb : (m + k) * bytes ≤ 140737488355328) (h63 : m + k ≤ maxLen) (hw : Hp H L w) :
    ∃ a' cap' N' w', (Builtin.append_ #[t, tx] ty #[.slice a m cap, src]).run P w = .ok (.slice a' (m + k) cap') w' ∧ Row e size a' (m + k) cap' (xs ++ news) N' ∧ Hp H (F N') w' ∧ (a' = none ↔ a = none ∧ k = 0) := by
  obtain ⟨i, hii, hsz, hby, hz⟩ := hi.ex
  subst hsz hby
  have hk : news.length = k * i.size := hsrc.newsLen
  have hl : (xs ++ news).length = (m + k) * i.size := by rw [List.length_append, hr.1, hk, Nat.add_mul]
  have hsmall : m + k ≤ 9223372036854775807 := by simp only [maxLen] at h63; omega
  -- the arm that grows
  have grow : ∀ (hlt : cap < m + k) (hold : (Builtin.firstCells i.size m (.slice a m cap)).run P w.drew = .ok xs.toArray w.drew),
      ∃ a' cap' N' w', (Builtin.append_ #[t, tx] ty #[.slice a m cap, src]).run P w = .ok (.slice a' (m + k) cap') w' ∧ Row e i.size a' (m + k) cap' (xs ++ news) N' ∧ Hp H (F N') w' ∧ (a' = none ↔ a = none ∧ k = 0) := by
    intro hlt hold
    have hg := run_append_grow_src (P := P) w t tx ty e i z ht hii hz a m cap xs hold src k news hsrc hlt (by omega) (growslice_fits hlt hb)
    have hge := grownCap_ge w (m + k) cap e
    have hcm := grownCap_le_maxLen w (m + k) cap e h63
    have hak : a = none → ¬ k = 0 := by
      intro ha
      rcases hr.2 with ⟨_, h1, h2, _⟩ | ⟨g, cur, h1, _⟩
      · omega
      · rw [ha] at h1; cases h1
    generalize hC : (xs ++ news).toArray ++ Builtin.zeroCells z.cells (grownCap w (m + k) cap e - (m + k)) = C at hg
    refine ⟨some ⟨w.heap.size, 0, none⟩, grownCap w (m + k) cap e, [(w.heap.size, .cells C e (0, 0))], w.drew.alloc (.cells C e), hg, ⟨hl, .inr ⟨w.heap.size, C, rfl, rfl, hge, hcm, ?_, ?_⟩⟩, ?_, by simpa using hak⟩
    · subst hC
      simp only [Array.size_append, List.size_toArray, size_zeroCells, hi.zc, hl, ← Nat.add_mul]
      congr 1; omega
    · subst hC
      simp only [Array.toList_append]
      rw [← hl]
      exact List.take_left
    · have h1 : Hp H ([(w.heap.size, .cells C e (0, 0))] :: L) (w.drew.alloc (.cells C e)) := (hw.drew).alloc (.cells C e)
      obtain ⟨L0, g1, g4⟩ := (hF [(w.heap.size, .cells C e (0, 0))]).perm
      have h2 : Hp H ([(w.heap.size, .cells C e (0, 0))] :: N :: [L0]) (w.drew.alloc (.cells C e)) :=
        h1.perm (by
          simp only [List.flatten_cons, List.flatten_nil, List.append_nil]
          exact g1.append_left _)
      have h3 : Hp H (N :: [(w.heap.size, .cells C e (0, 0))] :: [L0]) (w.drew.alloc (.cells C e)) := h2.perm (by
          simp only [List.flatten_cons, List.flatten_nil, List.append_nil]
          rw [← List.append_assoc, ← List.append_assoc]
          exact List.perm_append_comm.append_right _)
      exact h3.drop.perm (by
          simp only [List.flatten_cons, List.flatten_nil, List.append_nil]
          exact g4.symm)
  rcases hr.2 with ⟨rfl, rfl, rfl, rfl⟩ | ⟨g, cur, rfl, rfl, hnc, hcm, hcs, htake⟩
  · have hx : xs = [] := List.eq_nil_of_length_eq_zero (by simpa using hr.1)
    subst hx
    by_cases hk0 : k = 0
    · subst hk0
      have hn : news = [] := List.eq_nil_of_length_eq_zero (by simpa using hk)
      subst hn
      refine ⟨none, 0, [], w, ?_, Row.nil _ _, ?_, by simp⟩
      · have hc := hsrc.cells
        rcases hsrc.kind with ⟨e', hq⟩ | hq <;> simp [Builtin.append_, run_underlying ht, run_underlying hq, sizeOf, typeInfo, hii, hsrc.len, hc]
      · obtain ⟨L0, g1, _⟩ := (hF []).perm
        obtain ⟨L1, g3, g4⟩ := (hF []).perm
        exact hw.perm (g3.trans g4.symm)
    · exact grow (by omega) (by simp [Builtin.firstCells])
  · have hb0 : w.heap[g]? = some (.cells cur e (0, 0)) := (hF []).here hw (List.mem_singleton.2 rfl)
    by_cases hroom : m + k ≤ cap
    · have hfit : m * i.size + news.length ≤ cur.size := by rw [hk, hcs, ← Nat.add_mul]; exact Nat.mul_le_mul_right _ hroom
      have hst := run_storeCells_at P g (m * i.size) e news 0 cur w hb0 (by simpa using hfit) hsrc.one
      have hrun : (Builtin.append_ #[t, tx] ty #[.slice (some ⟨g, 0, none⟩) m cap, src]).run P w = .ok (.slice (some ⟨g, 0, none⟩) (m + k) cap) (w.setRow g (cur.toList.take (m * i.size) ++ news ++ cur.toList.drop (m * i.size + news.length)).toArray) := by
        simp only [Nat.add_zero] at hst
        rcases hsrc.kind with ⟨e', hq⟩ | hq <;> simp [Builtin.append_, run_underlying ht, run_underlying hq, sizeOf, typeInfo, hii, hsrc.len, hroom, hsrc.cells, Addr.add_lit, hst]
      refine ⟨_, _, [(g, .cells (cur.toList.take (m * i.size) ++ news ++ cur.toList.drop (m * i.size + news.length)).toArray e (0, 0))], _, hrun, ⟨hl, .inr ⟨g, _, rfl, rfl, hroom, hcm, ?_, ?_⟩⟩, setRow_turn hw (hF _), by simp⟩
      · simp only [List.size_toArray, List.length_append, List.length_take, List.length_drop, Array.length_toList]
        omega
      · rw [htake, ← hl]
        exact List.take_left
    · refine grow (by omega) ?_
      refine run_firstCells_some (P := P) w.drew i.size m ⟨g, 0, none⟩ m cap xs hr.1 (fun j u hu => ?_)
      rw [← htake, List.getElem?_take] at hu
      rw [add_plain, World.cell?_drew]
      split at hu
      · simp only [World.cell?, hb0, Nat.zero_add]
        simpa using hu
      · cases hu

/-- an append -/
theorem ap {t tx e size bytes : Nat} {z : Value} {x y : Operand} {a : Option Addr} {m cap k : Nat} {xs news : List Value} {N : Chunk} {src : Value} {F : Chunk → Own}
    (ht : P.underlying t = some (.slice e)) (hi : TI P e size bytes z) (hx : get l x = some (.slice a m cap)) (hy : get l y = some src) (hr : Row e size a m cap xs N) (hF : ∀ N', Upd L N N' (F N')) (hsrc : ∀ w, Hp H L w → Src P size tx src k news w)
    (hb : (m + k) * bytes ≤ 140737488355328) (h63 : m + k ≤ maxLen) (hn : Nat.blt d n = true)
    (h : ∀ a' cap' N', Row e size a' (m + k) cap' (xs ++ news) N' → (a' = none ↔ a = none ∧ k = 0) → WL P ops Q rest n ((d, .slice a' (m + k) cap') :: l) H (F N')) :
    WL P ops Q (⟨some d, .call { callee := .builtin .append, args := #[x, y], argTypes := #[t, tx] }, ty, pos, af, none⟩ :: rest) n l H L :=
  WL.vw rfl rfl hn (fun w0 w hA hw => by
    obtain ⟨a', cap', N', w', h1, h2, h3, h4⟩ := run_append_row (P := P) (ty := ty) ht hi hr hF (hsrc w hw) hb h63 hw
    exact ⟨_, w', H, F N', by simp [execOp, resolve, invoke, builtin, hA.get hx, hA.get hy, h1], h3, h a' cap' N' h2 h4⟩)
end
end Go.Sx
/- The symbolic walk's law for a loop over a range. -/
namespace Go.Sx
section
variable {P : Program} {Q : Exit → Act → World → Prop} {n : Nat} {l : Env} {H : Fz} {L : Own}

theorem look_head (c : Nat) (v : Value) (l : Env) : look ((c, v) :: l) c = some v := by simp [look]
theorem get_head (c : Nat) (v : Value) (l : Env) : get ((c, v) :: l) (.tmp c) = some v := look_head c v l
theorem look_skip {c t : Nat} (v : Value) (l : Env) (h : Nat.beq c t = false) : look ((c, v) :: l) t = look l t := by simp [look, h]
theorem beq_false_of_ne {a b : Nat} (h : a ≠ b) : Nat.beq a b = false := by
  cases hb : Nat.beq a b with
  | false => rfl
  | true => exact absurd (Nat.eq_of_beq_eq_true hb) h
theorem Sub.drop {l : Env} {d : Nat} {v : Value} (h : look l d = none) : Sub ((d, v) :: l) l := by
  intro t u ht
  have : d ≠ t := by rintro rfl; rw [h] at ht; cases ht
  rw [look_skip _ _ (beq_false_of_ne this)]; exact ht
theorem Sub.trans {a b c : Env} (h : Sub a b) (h' : Sub b c) : Sub a c := fun t v ht => h t v (h' t v ht)

/-- What a loop's invariant says of the registers that the loop itself uses. -/
structure Free (m c d x : Nat) (N : Nat) (l : Env) : Prop where
  m : look l m = some (.int .i64 (N : Int))
  c : look l c = none
  d : look l d = none
  x : look l x = none

theorem fr {B B2 r1 r2 c d m x T1 T2 T3 T4 ty1 ty2 ty3 : Nat} {p1 p2 p3 : String} {a1 a2 a3 : Array Edge} {body : Code} (N : Nat) (I : Nat → Env → Fz → Own → Prop) (l0 : Env)
    (hm : ∀ k l' H' L', I k l' H' L' → Free m c d x N l') (hN : N ≤ 4611686018427387904)
    (hc : look l c = some (.int .i64 0)) (hs : Sub l l0) (h0 : I 0 l0 H L)
    (hdn : Nat.blt d n = true) (hcn : Nat.blt c n = true) (hxn : Nat.blt x n = true) (hcm : Nat.beq c m = false) (hdc : Nat.beq d c = false)
    (round : ∀ k l' H' L', k < N → H.le H' → I k l' H' L' → Wp P body (Exit.inBlock B2 (Exit.then (St n H (fun l1 H1 L1 => ∃ l2, l1 = (c, .int .i64 (k : Int)) :: l2 ∧ I (k + 1) l2 H1 L1)) (Exit.inBlock B Q))) n ((c, .int .i64 (k : Int)) :: l') H' L')
    (hend : ∀ l' H' L', H.le H' → I N l' H' L' → ∀ a w, Has n ((c, .int .i64 (N : Int)) :: l') a → Hp H' L' w → Q .normal a w) :
    Wp P (.block B (.loop (.seq (.region r1 [⟨some d, .binOp .lss T1 (.tmp c) (.tmp m) T2, ty1, p1, a1, none⟩].toArray false) (.seq (.cond (.tmp d) .skip (.exit B)) (.seq (.block B2 body) (.region r2 [⟨some x, .binOp .add T3 (.tmp c) (.const (.int .i64 1)) T4, ty2, p2, a2, none⟩, ⟨some c, .move (.tmp x), ty3, p3, a3, none⟩].toArray false)))))) Q n l H L := by
  refine bl (lp N (fun k l1 H1 L1 => ∃ l2, l1 = (c, .int .i64 (k : Int)) :: l2 ∧ I k l2 H1 L1) ((c, .int .i64 ((0 : Nat) : Int)) :: l0) (Sub.cons hc hs) ⟨l0, rfl, h0⟩ ?_)
  rintro k _ H' L' hk hle ⟨l2, rfl, hI⟩
  have hF := hm k l2 H' L' hI
  have hcl : look ((c, Value.int .i64 (k : Int)) :: l2) d = none := by rw [look_skip _ _ (by
    cases h : Nat.beq c d with
    | false => rfl
    | true => have := Nat.eq_of_beq_eq_true h; subst this; simp at hdc)]; exact hF.d
  refine sr (lt (a := (k : Int)) (b := (N : Int)) (k := .i64) (get_head c _ _) ?_ hdn (nl ?_))
  · show look _ m = _
    rw [look_skip _ _ hcm]; exact hF.m
  refine sq (cd (p := ((k : Int) < (N : Int))) (get_head d _ _) (fun h => ?_) (fun h => ?_))
  · have hkN : k < N := by omega
    refine skt (sq (bl (Wp.mono ((round k l2 H' L' hkN hle hI).env (Sub.drop hcl)) ?_)))
    -- behind the body: one more
    have inc : ∀ a w, St n H (fun l1 H1 L1 => ∃ l2, l1 = (c, .int .i64 (k : Int)) :: l2 ∧ I (k + 1) l2 H1 L1) a w →
        Code.wp P (.region r2 [⟨some x, .binOp .add T3 (.tmp c) (.const (.int .i64 1)) T4, ty2, p2, a2, none⟩, ⟨some c, .move (.tmp x), ty3, p3, a3, none⟩].toArray false)
          (Exit.then (fun a w => k < N ∧ St n H (fun l1 H1 L1 => ∃ l2, l1 = (c, .int .i64 ((k + 1 : Nat) : Int)) :: l2 ∧ I (k + 1) l2 H1 L1) a w) (Exit.inBlock B Q)) a w := by
      rintro a w ⟨_, H1, L1, g1, g2, g3, ⟨l3, rfl, g4⟩⟩
      have hF' := hm _ _ _ _ g4
      refine rg (ad (a := (k : Int)) (b := 1) (k := .i64) (c := ((k + 1 : Nat) : Int)) (get_head c _ _) rfl ?_ hxn (mv (get_head x _ _) hcn (nq ?_))) a w g1 g3
      · rw [w64 (by omega) (by omega)]; omega
      · intro a' w' hA hw
        refine ⟨hkN, _, H1, L1, hA.sub (Sub.cons (look_head _ _ _) ?_), g2, hw, l3, rfl, g4⟩
        intro t v ht
        have h1 : c ≠ t := by rintro rfl; rw [hF'.c] at ht; cases ht
        have h2 : x ≠ t := by rintro rfl; rw [hF'.x] at ht; cases ht
        rw [look_skip _ _ (beq_false_of_ne h1), look_skip _ _ (beq_false_of_ne h2), look_skip _ _ (beq_false_of_ne h1)]
        exact ht
    intro e a w he
    cases e with
    | normal => exact inc a w he
    | exit id =>
      simp only [Exit.inBlock] at he ⊢
      split
      · rename_i hid; rw [if_pos hid] at he; exact inc a w he
      · rename_i hid; rw [if_neg hid] at he; exact he
    | goto l => exact he
    | ret => exact he
    | panic ch => exact he
    | outgrown => exact he
  · have hkN : k = N := by omega
    subst hkN
    refine ex fun a w hA hw => ?_
    show Exit.inBlock B Q (.exit B) a w
    simp only [Exit.inBlock, if_true]
    exact hend l2 H' L' hle hI a w (hA.sub (Sub.drop hcl)) hw
end
end Go.Sx
/- The symbolic walk's laws for what is built: structs, slices; and for ends of code. -/
namespace Go.Sx

def cellsL : Value → List Value
  | .agg cs => cs.toList
  | v => [v]
theorem cellsL_eq (v : Value) : v.cells = (cellsL v).toArray := by cases v <;> simp [cellsL, Value.cells]

/-- The parts are laid into the zero value, by a list of places. -/
def fillL (pl : List (Nat × Nat)) : List Value → List (Nat × Value) → Option (List Value)
  | cs, [] => some cs
  | cs, (i, v) :: r => match pl[i]? with
    | some (o, s) => match Nat.beq (cellsL v).length s with
      | true => match put' cs o (cellsL v) with
        | some cs' => fillL pl cs' r
        | none => none
      | false => none
    | none => none

theorem foldl_set (vs : List Value) : ∀ (j : Nat) (o : Nat) (cs : Array Value), o + j + vs.length ≤ cs.size →
    (vs.zipIdx j).foldl (fun cs (c, j) => cs.setIfInBounds (o + j) c) cs = (cs.toList.take (o + j) ++ vs ++ cs.toList.drop (o + j + vs.length)).toArray := by
  induction vs with
  | nil => intro j o cs h; simp
  | cons v vs ih =>
    intro j o cs h
    simp only [List.zipIdx_cons, List.foldl_cons]
    rw [ih (j + 1) o _ (by simp at h ⊢; omega)]
    congr 1
    simp only [Array.toList_setIfInBounds]
    simp only [List.length_cons] at h
    have h1 : o + j < cs.toList.length := by simp; omega
    apply List.ext_getElem?
    intro k
    simp only [List.getElem?_append, List.length_append, List.length_take, List.length_set, List.length_cons, Array.length_toList, List.getElem?_take, List.getElem?_drop, List.getElem?_set]
    by_cases hk : k < o + j
    · simp [hk, show k < o + (j + 1) by omega, show min (o + (j + 1)) cs.size = o + (j + 1) by omega, show min (o + j) cs.size = o + j by omega, show o + j ≠ k by omega, show k < o + (j + 1) + vs.length by omega, show k < o + j + (vs.length + 1) by omega]
    · by_cases hk2 : k = o + j
      · subst hk2
        simp [show min (o + (j + 1)) cs.size = o + (j + 1) by omega, show min (o + j) cs.size = o + j by omega, show o + j < o + (j + 1) by omega]
        simp [show o + j < o + (j + 1) + vs.length by omega, show o + j < cs.size by omega]
      · simp [hk, show ¬ k < o + (j + 1) by omega, show min (o + (j + 1)) cs.size = o + (j + 1) by omega, show min (o + j) cs.size = o + j by omega, show k - (o + j) = (k - (o + (j + 1))) + 1 by omega]
        by_cases h3 : k < o + (j + 1) + vs.length
        · simp [h3, show k - (o + (j + 1)) < vs.length by omega, show k < o + j + (vs.length + 1) by omega]
        · simp [h3, show ¬ k < o + j + (vs.length + 1) by omega]
          have e1 : o + (j + 1) + vs.length + (k - (o + (j + 1) + vs.length)) = k := by omega
          have e2 : o + j + (vs.length + 1) + (k - (o + j + (vs.length + 1))) = k := by omega
          rw [e1, e2]
          simp [show o + j ≠ k by omega]

theorem fill_eq (place : Nat → Option (Nat × Nat)) (pl : List (Nat × Nat)) (hp : ∀ i, place i = pl[i]?) : ∀ (vs : List (Nat × Value)) (cs ds : List Value), fillL pl cs vs = some ds → Instr.fill place cs.toArray vs = some ds.toArray := by
  intro vs
  induction vs with
  | nil => intro cs ds h; simp [fillL] at h; subst h; rfl
  | cons p vs ih =>
    intro cs ds h
    obtain ⟨i, v⟩ := p
    simp only [fillL] at h
    split at h
    · rename_i o s hpl
      split at h
      · rename_i hb
        split at h
        · rename_i cs' hput
          obtain ⟨g1, g2⟩ := put'_eq cs o (cellsL v) cs' hput
          have hs : (cellsL v).length = s := Nat.eq_of_beq_eq_true hb
          simp only [Instr.fill, hp, hpl, cellsL_eq v, List.size_toArray, hs]
          have hc : ¬ (o + s > cs.length) := by omega
          have := foldl_set (cellsL v) 0 o cs.toArray (by simp; omega)
          simp only [Nat.add_zero] at this
          have e : ((cellsL v).toArray.zipIdx).foldl (fun cs x => match x with | (c, j) => cs.setIfInBounds (o + j) c) cs.toArray = cs'.toArray := by
            rw [← Array.foldl_toList]
            simp only [Array.toList_zipIdx]
            rw [this]
            subst g1; rfl
          rw [e, ih cs' ds h]
          simp [hc]
        · cases h
      · cases h
    · cases h

/-- A struct type: where its fields lie, and its zero value. -/
structure Stru (P : Program) (T : Nat) (pl : List (Nat × Nat)) (zs : List Value) : Prop where
  zero : ∀ w, (zeroValue T).run P w = .ok (.agg zs.toArray) w
  fields : ∃ fs, (∀ w, (underlying T).run P w = .ok (.struct fs) w) ∧ ∀ w, (fs.mapM (m := Sem) fun f => do pure (f.offset, ← sizeOf f.type)).run P w = .ok pl.toArray w
theorem Stru.build {P : Program} {T : Nat} {pl : List (Nat × Nat)} {zs ds : List Value} {vs : List (Nat × Value)} (h : Stru P T pl zs) (hf : fillL pl zs vs = some ds) : ∀ w, (Instr.build T vs.toArray).run P w = .ok (.agg ds.toArray) w := by
  intro w
  obtain ⟨fs, h1, h2⟩ := h.fields
  have hfill := fill_eq (fun i => pl.toArray[i]?) pl (fun i => by simp) vs zs ds hf
  simp only [Instr.build, Sem.run_bind, h.zero, Result.andThen_ok, h1, h2, Value.cells]
  rw [hfill]
  rfl
/-- A slice type: its element's size and zero value. -/
structure Sli (P : Program) (T e sz : Nat) (zs : List Value) : Prop where
  und : ∀ w, (underlying T).run P w = .ok (.slice e) w
  size : ∀ w, (sizeOf e).run P w = .ok sz w
  zero : ∃ z, (∀ w, (zeroValue e).run P w = .ok z w) ∧ z.cells = zs.toArray
  len : zs.length = sz
  pos : Nat.blt 0 sz = true
def reps (zs : List Value) : Nat → List Value
  | 0 => []
  | m + 1 => zs ++ reps zs m
theorem reps_length (zs : List Value) : ∀ m, (reps zs m).length = m * zs.length
  | 0 => by simp [reps]
  | m + 1 => by simp [reps, reps_length zs m, Nat.add_mul]; omega
theorem reps_get (zs : List Value) (hz : 0 < zs.length) : ∀ m i, i < m * zs.length → (reps zs m)[i]? = some (zs[i % zs.length]'(Nat.mod_lt _ hz))
  | 0, i, h => by simp at h
  | m + 1, i, h => by
    simp only [reps]
    by_cases hi : i < zs.length
    · rw [List.getElem?_append_left hi]
      simp [Nat.mod_eq_of_lt hi, hi]
    · rw [List.getElem?_append_right (by omega)]
      have h' : i - zs.length < m * zs.length := by rw [Nat.add_mul] at h; omega
      rw [reps_get zs hz m _ h']
      have : (i - zs.length) % zs.length = i % zs.length := by
        rw [← Nat.sub_add_cancel (show zs.length ≤ i by omega), Nat.add_sub_cancel, Nat.add_mod_right]
      simp [this]
theorem range_reps (zs : List Value) (hz : 0 < zs.length) (m : Nat) : (Array.range (m * zs.length)).map (fun i => zs.toArray[i % zs.toArray.size]!) = (reps zs m).toArray := by
  apply Array.ext_getElem?
  intro i
  by_cases hi : i < m * zs.length
  · have := reps_get zs hz m i hi
    simp only [List.getElem?_toArray, this]
    have hm := Nat.mod_lt i hz
    simp [hi, hm]
  · have h1 : (reps zs m).length ≤ i := by rw [reps_length]; omega
    simp [h1]; omega
def spots (sz : Nat) : Nat → Nat → List (Nat × Nat)
  | _, 0 => []
  | i, m + 1 => (i * sz, sz) :: spots sz (i + 1) m
theorem spots_get (sz : Nat) : ∀ m i j, j < m → (spots sz i m)[j]? = some ((i + j) * sz, sz)
  | 0, _, _, h => by omega
  | m + 1, i, 0, _ => by simp [spots]
  | m + 1, i, j + 1, h => by simp only [spots, List.getElem?_cons_succ]; rw [spots_get sz m (i + 1) j (by omega)]; congr 2; congr 1; omega
theorem fillL_bound (pl : List (Nat × Nat)) : ∀ (vs : List (Nat × Value)) cs ds, fillL pl cs vs = some ds → ∀ p ∈ vs, p.1 < pl.length := by
  intro vs
  induction vs with
  | nil => intro cs ds _ p hp; cases hp
  | cons q vs ih =>
    intro cs ds h p hp
    obtain ⟨i, v⟩ := q
    simp only [fillL] at h
    split at h
    · rename_i o s hpl
      have hi : i < pl.length := by
        rcases Nat.lt_or_ge i pl.length with h' | h'
        · exact h'
        · simp [List.getElem?_eq_none h'] at hpl
      split at h
      · split at h
        · rcases List.mem_cons.1 hp with rfl | hp
          · exact hi
          · exact ih _ _ h p hp
        · cases h
      · cases h
    · cases h
theorem fill_congr (p p' : Nat → Option (Nat × Nat)) : ∀ (vs : List (Nat × Value)) (cs : Array Value), (∀ x ∈ vs, p x.1 = p' x.1) → Instr.fill p cs vs = Instr.fill p' cs vs := by
  intro vs
  induction vs with
  | nil => intro cs _; rfl
  | cons q vs ih =>
    intro cs h
    obtain ⟨i, v⟩ := q
    have h0 := h (i, v) List.mem_cons_self
    simp only [Instr.fill, h0]
    split
    · rfl
    · split
      · rfl
      · exact ih _ (fun x hx => h x (List.mem_cons_of_mem _ hx))
theorem Sli.builds {P : Program} {T e sz m : Nat} {zs ds : List Value} {vs : List (Nat × Value)} (h : Sli P T e sz zs) (hm : Nat.ble (m * sz) 16777216 = true) (hf : fillL (spots sz 0 m) (reps zs m) vs = some ds) : Builds P T m vs e ds := by
  intro w
  obtain ⟨z, hz1, hz2⟩ := h.zero
  have hpos : 0 < sz := by have := Nat.le_of_ble_eq_true h.pos; omega
  have hle : ¬ (m * sz > 2 ^ 24) := by have := Nat.le_of_ble_eq_true hm; omega
  have hr := range_reps zs (by rw [h.len]; exact hpos) m
  rw [h.len] at hr
  have hb := fillL_bound _ vs _ _ hf
  have hfill : Instr.fill (fun i => some (i * sz, sz)) (reps zs m).toArray vs = some ds.toArray := by
    rw [← fill_eq (fun i => (spots sz 0 m)[i]?) (spots sz 0 m) (fun _ => rfl) vs _ ds hf]
    refine fill_congr _ _ vs _ (fun x hx => ?_)
    have hl : (spots sz 0 m).length = m := by
      have : ∀ m i, (spots sz i m).length = m := by intro m; induction m with
        | zero => intro i; rfl
        | succ m ih => intro i; simp [spots, ih]
      exact this m 0
    have := hb x hx
    rw [hl] at this
    rw [spots_get sz m 0 x.1 this]; simp
  by_cases h0 : m * sz = 0
  · have hm0 : m = 0 := by
      rcases Nat.mul_eq_zero.1 h0 with h | h
      · exact h
      · omega
    subst hm0
    simp only [reps] at hfill
    have e0 : (Array.range 0).map (fun x => (#[] : Array Value)[x % (#[] : Array Value).size]!) = ([] : List Value).toArray := by simp
    simp only [Instr.buildSlice, Sem.run_bind, h.und, Result.andThen_ok, h.size, Sem.run_ite, Nat.zero_mul, if_true, Sem.run_pure, e0]
    rw [hfill]
    simp [newRow]
  · have hzz : z.cells.size = zs.toArray.size := by rw [hz2]
    simp only [Instr.buildSlice, Sem.run_bind, h.und, Result.andThen_ok, h.size, Sem.run_ite, hle, if_false, h0, hz1, Sem.run_pure, hz2]
    rw [hr, hfill]
    simp [newRow]

section
variable {P : Program} {ops : Array Oper} {Q : Exit → Act → World → Prop} {rest : List Oper} {n : Nat} {l : Env} {H : Fz} {L : Own}
variable {d ty : Nat} {pos : String} {af : Array Edge}
theorem bd' {T : Nat} {ps : List (Nat × Operand)} {vs : List (Nat × Value)} {pl : List (Nat × Nat)} {zs ds : List Value} (hS : Stru P T pl zs) (hp : parts l ps = some vs) (hf : fillL pl zs vs = some ds) (hn : Nat.blt d n = true) (h : WL P ops Q rest n ((d, .agg ds.toArray) :: l) H L) : WL P ops Q (⟨some d, .build T ps.toArray, ty, pos, af, none⟩ :: rest) n l H L := bd hp (hS.build hf) hn h
theorem bs' {T m e sz : Nat} {ps : List (Nat × Operand)} {vs : List (Nat × Value)} {zs ds : List Value} (hS : Sli P T e sz zs) (hm : Nat.ble (m * sz) 16777216 = true) (hp : parts l ps = some vs) (hf : fillL (spots sz 0 m) (reps zs m) vs = some ds) (hn : Nat.blt d n = true) (h : ∀ b, WL P ops Q rest n ((d, .slice (some ⟨b, 0, none⟩) m m) :: l) H ([(b, .cells ds.toArray e (0, 0))] :: L)) : WL P ops Q (⟨some d, .buildSlice T m ps.toArray, ty, pos, af, none⟩ :: rest) n l H L := bs hp (hS.builds hm hf) hn h

/-! ### Own blocks that are not wanted any more -/
theorem drW {c : Code} {ch : Chunk} {L' : Own} (hs : Sel L ch L') (h : Wp P c Q n l H L') : Wp P c Q n l H L := fun a w hA hw => h a w hA (hw.sel hs).drop
theorem drL {os : List Oper} {ch : Chunk} {L' : Own} (hs : Sel L ch L') (h : WL P ops Q os n l H L') : WL P ops Q os n l H L := fun a w hA hw => h a w hA (hw.sel hs).drop

/-! ### Names for what is own -/
theorem Upd.same {L : Own} {c : Chunk} {L' : Own} (h : Upd L c c L') : L' = L := by
  have key : ∀ {L c c' L'}, Upd L c c' L' → c = c' → L' = L := by
    intro L c c' L' h
    induction h with
    | head => rintro rfl; rfl
    | tail _ ih => intro e; rw [ih e]
  exact key h rfl
theorem capL {c : Code} (h : ∀ L1, L1 = L → Wp P c Q n l H L1) : Wp P c Q n l H L := h L rfl
theorem capF {c : Code} {N : Chunk} {F : Chunk → Own} (hF : ∀ X, Upd L N X (F X)) (h : ∀ F1 : Chunk → Own, (∀ X, F1 X = F X) → Wp P c Q n l H (F1 N)) : Wp P c Q n l H L := by
  have := h F (fun _ => rfl)
  rwa [(hF N).same] at this
theorem capF2 {c : Code} {N M : Chunk} {F : Chunk → Own} {G : Chunk → Chunk → Own} (hF : ∀ X, Upd L N X (F X)) (hG : ∀ X Y, Upd (F X) M Y (G X Y)) (h : ∀ F1 : Chunk → Chunk → Own, (∀ X Y, F1 X Y = G X Y) → Wp P c Q n l H (F1 N M)) : Wp P c Q n l H L := by
  have := h G (fun _ _ => rfl)
  rwa [(hG N M).same, (hF N).same] at this
theorem nilC {c : Code} (h : Wp P c Q n l H ([] :: L)) : Wp P c Q n l H L := fun a w hA hw => h a w hA (hw.perm (by simp))
theorem nilL {os : List Oper} (h : WL P ops Q os n l H ([] :: L)) : WL P ops Q os n l H L := fun a w hA hw => h a w hA (hw.perm (by simp))

/-! ### Ends -/
def Nn (Q : Exit → Act → World → Prop) (n : Nat) (l : Env) (H : Fz) (L : Own) : Prop := ∀ a w, Has n l a → Hp H L w → Q .normal a w
theorem nN (h : Nn Q n l H L) : WL P ops Q [] n l H L := nq h
theorem drN {ch : Chunk} {L' : Own} (hs : Sel L ch L') (h : Nn Q n l H L') : Nn Q n l H L := fun a w hA hw => h a w hA (hw.sel hs).drop
theorem skN (h : Nn Q n l H L) : Wp P .skip Q n l H L := sk h
theorem Nt {y : Code} {Q' : Exit → Act → World → Prop} (h : Wp P y Q n l H L) : Nn (Exit.then (Code.wp P y Q) Q') n l H L := h
theorem Nb {id : Nat} (h : Nn Q n l H L) : Nn (Exit.inBlock id Q) n l H L := h
def Xx (id : Nat) (Q : Exit → Act → World → Prop) (n : Nat) (l : Env) (H : Fz) (L : Own) : Prop := ∀ a w, Has n l a → Hp H L w → Q (.exit id) a w
theorem exX {id : Nat} (h : Xx id Q n l H L) : Wp P (.exit id) Q n l H L := ex h
theorem XT {id : Nat} {nx : Act → World → Prop} (h : Xx id Q n l H L) : Xx id (Exit.then nx Q) n l H L := h
theorem Xb {id : Nat} (h : Nn Q n l H L) : Xx id (Exit.inBlock id Q) n l H L := fun a w hA hw => by
  show Exit.inBlock id Q (.exit id) a w
  simp only [Exit.inBlock, if_true]
  exact h a w hA hw
theorem Xo {id id' : Nat} (hne : Nat.beq id id' = false) (h : Xx id Q n l H L) : Xx id (Exit.inBlock id' Q) n l H L := fun a w hA hw => by
  show Exit.inBlock id' Q (.exit id) a w
  have : ¬ id = id' := by rintro rfl; simp at hne
  simp only [Exit.inBlock, this, if_false]
  exact h a w hA hw
end
end Go.Sx
/- Plain numbers and octets. -/
namespace Go.Sx
theorem TI.mk_run {P : Program} {t size bytes : Nat} {z : Value} {i : TypeInfo} (h : ∀ w, (typeInfo t).run P w = .ok i w) (hs : i.size = size) (hb : i.bytes = bytes) (hz : i.zero = some z) (hp : 0 < size) (hc : z.cells.size = size) : TI P t size bytes z := by
  refine ⟨?_, hp, hc⟩
  have h0 := h default
  simp only [typeInfo, Sem.run_bind, run_program, Result.andThen_ok] at h0
  cases hq : P.info? t with
  | none => rw [hq] at h0; simp at h0
  | some j =>
    rw [hq] at h0
    simp only [Sem.run_pure, Result.ok.injEq, and_true] at h0
    subst h0
    exact ⟨j, rfl, hs, hb, hz⟩

/-- The lowest octet of a number. -/
def byte (x : Int) : UInt8 := UInt8.ofNat (x % 256).toNat
theorem wrap8 (x : Int) : IntKind.u8.wrap x = ((byte x).toNat : Int) := by
  unfold IntKind.wrap byte
  have hb : (2 : Int) ^ IntKind.u8.bits = 256 := rfl
  simp only [hb, show IntKind.u8.signed = false from rfl, Bool.false_and]
  simp
  omega
theorem shr_eq {a m : Int} {b : Int} {k : IntKind} (h : (2 : Int) ^ min b.toNat k.bits = m) (hm : 0 ≤ m) : a.fdiv (2 ^ min b.toNat k.bits) = a / m := by
  rw [h]; exact Int.fdiv_eq_ediv_of_nonneg a hm
theorem w32u {x : Int} (h0 : 0 ≤ x) (h1 : x < 4294967296) : IntKind.u32.wrap x = x := by
  unfold IntKind.wrap
  have hb : (2 : Int) ^ IntKind.u32.bits = 4294967296 := rfl
  simp only [hb, show IntKind.u32.signed = false from rfl, Bool.false_and]
  simp; omega
theorem wrap32u (x : Int) : IntKind.u32.wrap x = x % 4294967296 := by
  unfold IntKind.wrap
  have hb : (2 : Int) ^ IntKind.u32.bits = 4294967296 := rfl
  simp [hb, show IntKind.u32.signed = false from rfl]
/-- Octets in a buffer of the function's own. -/
def Buf (e : Nat) (a : Option Addr) (n cap : Nat) (bs : List UInt8) (N : Chunk) : Prop := Row e 1 a n cap (bytesOf bs) N ∧ n = bs.length
theorem bytesOf_append (a b : List UInt8) : bytesOf (a ++ b) = bytesOf a ++ bytesOf b := by simp [bytesOf]
theorem bytesOf_length (a : List UInt8) : (bytesOf a).length = a.length := by simp [bytesOf]
theorem bytesOf_one (a : List UInt8) : ∀ u ∈ bytesOf a, u.oneCell' = true := by
  intro u hu
  obtain ⟨b, _, rfl⟩ := List.mem_map.1 hu
  rfl
def be32 (u : Int) : List UInt8 := [byte (u / 16777216), byte (u / 65536), byte (u / 256), byte u]
end Go.Sx

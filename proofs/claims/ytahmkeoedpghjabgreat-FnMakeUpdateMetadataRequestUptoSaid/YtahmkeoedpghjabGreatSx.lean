/- The base of the symbolic walk: registers as an association list, memory as frozen blocks beside own blocks. -/
import Derived.Tactics
import Derived.Laws.AppendOwn
import Derived.Laws.Rows
import Derived.Laws.Slices
import Derived.Laws.Tables
import Derived.Laws.Entries
set_option linter.unusedVariables false
set_option linter.unusedSimpArgs false
namespace Go.Sx

/-! ### Registers -/
abbrev Env := List (Nat × Value)
def look : Env → Nat → Option Value
  | [], _ => none
  | (i, v) :: l, t => match Nat.beq i t with | true => some v | false => look l t
def get (l : Env) : Operand → Option Value
  | .tmp t => look l t
  | .const v => some v
  | .global g => some (.pointer (some ⟨g, 0, none⟩))
  | .func f => some (.func (.func f) #[] #[])
structure Has (n : Nat) (l : Env) (a : Act) : Prop where
  defers : a.defers = []
  size : a.tmps.size = n
  vals : ∀ t v, look l t = some v → a.tmps[t]? = some v

theorem Has.get {n : Nat} {l : Env} {a : Act} (h : Has n l a) {x : Operand} {v : Value} (hx : get l x = some v) : a.eval x = v := by
  cases x with
  | tmp t =>
    have := h.vals t v hx
    simp [Act.eval, Array.getD_eq_getD_getElem?, this]
  | const c => simpa [Sx.get, Act.eval] using hx
  | global g => simpa [Sx.get, Act.eval] using hx
  | func f => simpa [Sx.get, Act.eval] using hx

theorem Has.put {n : Nat} {l : Env} {a : Act} (h : Has n l a) {d : Nat} (hd : Nat.blt d n = true) (v : Value) : Has n ((d, v) :: l) (a.put (some d) v) := by
  refine ⟨h.defers, by simp [Act.put, h.size], ?_⟩
  intro t u ht
  unfold look at ht
  split at ht
  · rename_i hb
    have hdt : d = t := Nat.eq_of_beq_eq_true hb
    subst hdt
    have hlt : d < a.tmps.size := by rw [h.size]; have := Nat.le_of_ble_eq_true hd; omega
    simp only [Option.some.injEq] at ht
    subst ht
    simp [Act.put, hlt]
  · rename_i hb
    have hne : d ≠ t := fun e => by subst e; simp at hb
    have := h.vals t u ht
    simp only [Act.put]
    rw [Array.getElem?_setIfInBounds_ne hne]
    exact this

theorem Has.none {n : Nat} {l : Env} {a : Act} (h : Has n l a) (v : Value) : Has n l (a.put Option.none v) := h

/-- What the registers of a list say, as far as another list asks. -/
def Sub (l l' : Env) : Prop := ∀ t v, look l' t = some v → look l t = some v
theorem Has.sub {n : Nat} {l l' : Env} {a : Act} (h : Has n l a) (hs : Sub l l') : Has n l' a := ⟨h.defers, h.size, fun t v ht => h.vals t v (hs t v ht)⟩
theorem Sub.nil (l : Env) : Sub l [] := fun t v h => by simp [look] at h
theorem Sub.cons {l l' : Env} {i : Nat} {v : Value} (h : look l i = some v) (hs : Sub l l') : Sub l ((i, v) :: l') := by
  intro t u ht
  unfold look at ht
  split at ht
  · rename_i hb
    have : i = t := Nat.eq_of_beq_eq_true hb
    subst this
    rw [h]; exact ht
  · exact hs t u ht
theorem Sub.refl (l : Env) : Sub l l := fun _ _ h => h

/-! ### Memory -/
structure Fz where
  blk : Nat → Option Obj
  os : Os
  tape : Nat → Question → Nat
  output : Array (Nat × ByteArray)
structure Fz.le (H H' : Fz) : Prop where
  blk : ∀ b o, H.blk b = some o → H'.blk b = some o
  os : H'.os = H.os
  tape : H'.tape = H.tape
  output : H'.output = H.output
theorem Fz.le.refl (H : Fz) : H.le H := ⟨fun _ _ h => h, rfl, rfl, rfl⟩
theorem Fz.le.trans {A B C : Fz} (h : A.le B) (h' : B.le C) : A.le C :=
  ⟨fun b o hb => h'.blk b o (h.blk b o hb), h'.os.trans h.os, h'.tape.trans h.tape, h'.output.trans h.output⟩

/-- Own memory: a list of chunks, each some blocks; a chunk may be a letter. -/
abbrev Chunk := List (Nat × Obj)
abbrev Own := List Chunk
structure Hp (H : Fz) (L : Own) (w : World) : Prop where
  os : w.os = H.os
  tape : w.tape = H.tape
  output : w.output = H.output
  fz : ∀ b o, H.blk b = some o → w.heap[b]? = some o
  own : ∀ b o, (b, o) ∈ L.flatten → w.heap[b]? = some o ∧ H.blk b = none
  nd : (L.flatten.map Prod.fst).Nodup

theorem lt_of_heap {w : World} {b : Nat} {o : Obj} (h : w.heap[b]? = some o) : b < w.heap.size := by
  rcases Nat.lt_or_ge b w.heap.size with h' | h'
  · exact h'
  · simp [Array.getElem?_eq_none h'] at h

theorem heap_alloc_eq (w : World) (o : Obj) (k : Nat) : (w.alloc o).heap[k]? = if k = w.heap.size then some o else w.heap[k]? := by
  simp only [World.alloc, Array.getElem?_push]

theorem Hp.alloc {H : Fz} {L : Own} {w : World} (h : Hp H L w) (o : Obj) : Hp H ([(w.heap.size, o)] :: L) (w.alloc o) := by
  have hf : H.blk w.heap.size = none := by
    cases hb : H.blk w.heap.size with
    | none => rfl
    | some o' => have := lt_of_heap (h.fz _ _ hb); omega
  refine ⟨h.os, h.tape, h.output, ?_, ?_, ?_⟩
  · intro b o' hb
    have := h.fz b o' hb
    have := lt_of_heap this
    rw [heap_alloc_eq, if_neg (by omega)]
    assumption
  · intro b o' hm
    simp only [List.flatten_cons, List.cons_append, List.nil_append] at hm
    rcases List.mem_cons.1 hm with he | hm
    · simp only [Prod.mk.injEq] at he
      obtain ⟨rfl, rfl⟩ := he
      exact ⟨by rw [heap_alloc_eq, if_pos rfl], hf⟩
    · obtain ⟨h1, h2⟩ := h.own b o' hm
      have := lt_of_heap h1
      exact ⟨by rw [heap_alloc_eq, if_neg (by omega)]; exact h1, h2⟩
  · simp only [List.flatten_cons, List.cons_append, List.nil_append, List.map_cons, List.nodup_cons]
    refine ⟨?_, h.nd⟩
    intro hm
    obtain ⟨⟨b, o'⟩, hm, hb⟩ := List.mem_map.1 hm
    have := lt_of_heap (h.own b o' hm).1
    simp only at hb
    omega

theorem Hp.drew {H : Fz} {L : Own} {w : World} (h : Hp H L w) : Hp H L w.drew := ⟨h.os, h.tape, h.output, h.fz, h.own, h.nd⟩

/-- A chunk is turned into another one. -/
inductive Upd : Own → Chunk → Chunk → Own → Prop
  | head {c c' L} : Upd (c :: L) c c' (c' :: L)
  | tail {x L c c' L'} : Upd L c c' L' → Upd (x :: L) c c' (x :: L')
theorem Upd.perm {L c c' L'} (h : Upd L c c' L') : ∃ L0 : Chunk, L.flatten.Perm (c ++ L0) ∧ L'.flatten.Perm (c' ++ L0) := by
  induction h with
  | @head c c' L => exact ⟨L.flatten, .refl _, .refl _⟩
  | @tail x L c c' L' _ ih =>
    obtain ⟨L0, h1, h2⟩ := ih
    refine ⟨x ++ L0, ?_, ?_⟩
    · simp only [List.flatten_cons]
      exact (h1.append_left x).trans (by rw [← List.append_assoc, ← List.append_assoc]; exact List.perm_append_comm.append_right _)
    · simp only [List.flatten_cons]
      exact (h2.append_left x).trans (by rw [← List.append_assoc, ← List.append_assoc]; exact List.perm_append_comm.append_right _)

/-- A chunk is taken out. -/
inductive Sel : Own → Chunk → Own → Prop
  | head {c L} : Sel (c :: L) c L
  | tail {x L c L'} : Sel L c L' → Sel (x :: L) c (x :: L')
theorem Sel.perm {L c L'} (h : Sel L c L') : L.flatten.Perm (c ++ L'.flatten) := by
  induction h with
  | head => exact .refl _
  | @tail x L c L' _ ih =>
    simp only [List.flatten_cons]
    exact (ih.append_left x).trans (by rw [← List.append_assoc, ← List.append_assoc]; exact List.perm_append_comm.append_right _)

theorem Hp.perm {H : Fz} {L L' : Own} {w : World} (h : Hp H L w) (hp : L.flatten.Perm L'.flatten) : Hp H L' w :=
  ⟨h.os, h.tape, h.output, h.fz, fun b o hm => h.own b o (hp.mem_iff.2 hm), (hp.map Prod.fst).nodup_iff.1 h.nd⟩
theorem Hp.sel {H : Fz} {L L' : Own} {c : Chunk} {w : World} (h : Hp H L w) (hs : Sel L c L') : Hp H (c :: L') w := h.perm hs.perm
theorem Hp.drop {H : Fz} {c : Chunk} {L : Own} {w : World} (h : Hp H (c :: L) w) : Hp H L w := by
  refine ⟨h.os, h.tape, h.output, h.fz, fun b o hm => h.own b o (by simp only [List.flatten_cons]; exact List.mem_append_right _ hm), ?_⟩
  have := h.nd
  simp only [List.flatten_cons, List.map_append] at this
  exact (List.nodup_append.1 this).2.1

/-- One own block is written. -/
theorem Hp.turn {H : Fz} {L L' : Own} {w w' : World} {b : Nat} {o o' : Obj} (h : Hp H L w) (hu : Upd L [(b, o)] [(b, o')] L')
    (hos : w'.os = w.os) (ht : w'.tape = w.tape) (hout : w'.output = w.output) (hb : w'.heap[b]? = some o') (hoth : ∀ k, k ≠ b → w'.heap[k]? = w.heap[k]?) : Hp H L' w' := by
  obtain ⟨L0, h1, h2⟩ := hu.perm
  have hbn := (h.own b o (h1.mem_iff.2 (by simp))).2
  have hnd := (h1.map Prod.fst).nodup_iff.1 h.nd
  simp only [List.cons_append, List.nil_append, List.map_cons, List.nodup_cons] at hnd
  refine ⟨hos.trans h.os, ht.trans h.tape, hout.trans h.output, ?_, ?_, ?_⟩
  · intro c u hc
    have hne : c ≠ b := fun e => by subst e; rw [hbn] at hc; cases hc
    rw [hoth c hne]; exact h.fz c u hc
  · intro c u hm
    have hm := h2.mem_iff.1 hm
    simp only [List.cons_append, List.nil_append] at hm
    rcases List.mem_cons.1 hm with he | hm
    · simp only [Prod.mk.injEq] at he
      obtain ⟨rfl, rfl⟩ := he
      exact ⟨hb, hbn⟩
    · have hne : c ≠ b := fun hc => hnd.1 (List.mem_map.2 ⟨(c, u), hm, hc⟩)
      rw [hoth c hne]
      exact h.own c u (h1.mem_iff.2 (by simp [hm]))
  · exact (h2.map Prod.fst).nodup_iff.2 (by simpa using hnd)

/-- Own blocks become frozen ones. -/
def Fz.add (H : Fz) (b : Nat) (o : Obj) : Fz := { H with blk := fun k => if k = b then some o else H.blk k }
theorem Fz.add_blk (H : Fz) (b : Nat) (o : Obj) : (H.add b o).blk b = some o := by simp [Fz.add]
theorem Hp.freeze {H : Fz} {b : Nat} {o : Obj} {c : Chunk} {L : Own} {w : World} (h : Hp H (((b, o) :: c) :: L) w) : Hp (H.add b o) (c :: L) w ∧ H.le (H.add b o) := by
  have hm0 : (b, o) ∈ (((b, o) :: c) :: L).flatten := by simp
  obtain ⟨h1, h2⟩ := h.own b o hm0
  have hnd := h.nd
  simp only [List.flatten_cons, List.cons_append, List.map_cons, List.nodup_cons] at hnd
  refine ⟨⟨h.os, h.tape, h.output, ?_, ?_, by simpa using hnd.2⟩, ⟨?_, rfl, rfl, rfl⟩⟩
  · intro k u hc
    simp only [Fz.add] at hc
    split at hc
    · rename_i e; subst e; cases hc; exact h1
    · exact h.fz k u hc
  · intro k u hm
    have hm : (k, u) ∈ c ++ L.flatten := by simpa using hm
    obtain ⟨h3, h4⟩ := h.own k u (by simp only [List.flatten_cons, List.cons_append]; exact List.mem_cons_of_mem _ hm)
    have hne : k ≠ b := fun hc => hnd.1 (List.mem_map.2 ⟨(k, u), hm, hc⟩)
    exact ⟨h3, by simp [Fz.add, hne, h4]⟩
  · intro k u hc
    have hne : k ≠ b := fun e => by subst e; rw [h2] at hc; cases hc
    simp [Fz.add, hne, hc]

/-- What a frozen block says from a place on. -/
def Fz.at (H : Fz) (b off : Nat) (vs : List Value) : Prop := ∃ cs e fr, H.blk b = some (.cells cs e fr) ∧ ∀ j v, vs[j]? = some v → cs[off + j]? = some v
theorem Fz.at.mono {H H' : Fz} {b off : Nat} {vs : List Value} (h : H.at b off vs) (hle : H.le H') : H'.at b off vs := by
  obtain ⟨cs, e, fr, h1, h2⟩ := h; exact ⟨cs, e, fr, hle.blk _ _ h1, h2⟩
theorem Fz.at.cell {H : Fz} {L : Own} {w : World} {b off : Nat} {vs : List Value} (h : H.at b off vs) (hw : Hp H L w) {j : Nat} {v : Value} (hv : vs[j]? = some v) : w.cell? ⟨b, off + j, none⟩ = some v := by
  obtain ⟨cs, e, fr, h1, h2⟩ := h
  simp [World.cell?, hw.fz _ _ h1, h2 j v hv]
/-- A part of what lies there. -/
theorem Fz.at.part {H : Fz} {b off : Nat} {vs : List Value} (h : H.at b off vs) (k m : Nat) : H.at b (off + k) ((vs.drop k).take m) := by
  obtain ⟨cs, e, fr, h1, h2⟩ := h
  refine ⟨cs, e, fr, h1, fun j v hj => ?_⟩
  rw [List.getElem?_take] at hj
  split at hj
  · rw [List.getElem?_drop] at hj
    have := h2 _ _ hj
    rwa [← Nat.add_assoc] at this
  · cases hj

/-! ### The judgements -/
def Wp (P : Program) (c : Code) (Q : Exit → Act → World → Prop) (n : Nat) (l : Env) (H : Fz) (L : Own) : Prop := ∀ a w, Has n l a → Hp H L w → c.wp P Q a w
def WL (P : Program) (ops : Array Oper) (Q : Exit → Act → World → Prop) (os : List Oper) (n : Nat) (l : Env) (H : Fz) (L : Own) : Prop := ∀ a w, Has n l a → Hp H L w → wpList P ops Q os a w
/-- What holds at the end of a function. -/
def Ret (H : Fz) (R : Value → Fz → Own → Prop) : Ending → World → Prop := fun e w => ∃ v H' L, e = .returned v ∧ H.le H' ∧ Hp H' L w ∧ R v H' L
/-- A function's contract. -/
def Fn (P : Program) (f : FuncId) (args : List Value) (H : Fz) (L : Own) (R : Value → Fz → Own → Prop) : Prop :=
  (∀ as w, (callFunc f as).run P w = .ok (.enter f as) w) ∧ ∀ w, Hp H L w → Calls P f args.toArray w (Ret H R)

theorem Fn.mono {P f args H L R R'} (h : Fn P f args H L R) (hr : ∀ v H' L', H.le H' → R v H' L' → R' v H' L') : Fn P f args H L R' :=
  ⟨h.1, fun w hw => (h.2 w hw).mono fun _ _ ⟨v, H', L', he, hl, hp, hR⟩ => ⟨v, H', L', he, hl, hp, hr v H' L' hl hR⟩⟩

def mkEnv : Nat → List Value → Env
  | _, [] => []
  | i, v :: vs => (i, v) :: mkEnv (i + 1) vs
theorem look_mkEnv (vs : List Value) : ∀ (i t : Nat) (v : Value), look (mkEnv i vs) t = some v → i ≤ t ∧ vs[t - i]? = some v := by
  induction vs with
  | nil => intro i t v h; simp [mkEnv, look] at h
  | cons u vs ih =>
    intro i t v h
    simp only [mkEnv, look] at h
    split at h
    · rename_i hb
      have : i = t := Nat.eq_of_beq_eq_true hb
      subst this
      simp at h ⊢; exact h
    · rename_i hb
      have hne : i ≠ t := fun e => by subst e; simp at hb
      obtain ⟨h1, h2⟩ := ih (i + 1) t v h
      refine ⟨by omega, ?_⟩
      have : t - i = (t - (i + 1)) + 1 := by omega
      rw [this]; simpa using h2

theorem Fn.mk {P : Program} {f : FuncId} {fn : Func} {c : Code} {args : List Value} {H : Fz} {L : Own} {R : Value → Fz → Own → Prop} {n : Nat}
    (hcall : ∀ as w, (callFunc f as).run P w = .ok (.enter f as) w) (hf : P.funcs[f]? = some fn) (hb : fn.body = some c) (hn : fn.ntmps = n) (hle : Nat.ble args.length n = true)
    (h : Wp P c (bodyPost P fn (Ret H R)) n (mkEnv 0 args) H L) : Fn P f args H L R := by
  refine ⟨hcall, fun w hw => calls_of_wp hf hb (h _ w ⟨rfl, ?_, ?_⟩ hw)⟩
  · have : args.length ≤ n := by simpa using hle
    simp only [hn, Array.size_append, List.size_toArray, Array.size_replicate]
    omega
  · intro t v ht
    obtain ⟨_, h2⟩ := look_mkEnv args 0 t v ht
    simp only [Nat.sub_zero] at h2
    have hlt : t < args.length := by
      rcases Nat.lt_or_ge t args.length with h' | h'
      · exact h'
      · simp [List.getElem?_eq_none h'] at h2
    rw [Array.getElem?_append_left (by simpa using hlt)]
    simpa using h2

section
variable {P : Program} {Q : Exit → Act → World → Prop} {n : Nat} {l : Env} {H : Fz} {L : Own}

/-! ### Code -/
theorem sq {x y : Code} (h : Wp P x (Exit.then (Code.wp P y Q) Q) n l H L) : Wp P (.seq x y) Q n l H L := fun a w ha hw => wp_seq (h a w ha hw)
theorem rg {id : Nat} {ops : List Oper} (h : WL P ops.toArray Q ops n l H L) : Wp P (.region id ops.toArray false) Q n l H L := fun a w ha hw => wp_region_lit (h a w ha hw)
theorem sr {id : Nat} {ops : List Oper} {y : Code} (h : WL P ops.toArray (Exit.then (Code.wp P y Q) Q) ops n l H L) : Wp P (.seq (.region id ops.toArray false) y) Q n l H L := sq (rg h)
theorem nl {ops : Array Oper} {y : Code} {Q' : Exit → Act → World → Prop} (h : Wp P y Q n l H L) : WL P ops (Exit.then (Code.wp P y Q) Q') [] n l H L := fun a w ha hw => wpList_nil (h a w ha hw)
theorem nq {ops : Array Oper} (h : ∀ a w, Has n l a → Hp H L w → Q .normal a w) : WL P ops Q [] n l H L := fun a w ha hw => wpList_nil (h a w ha hw)
theorem sk (h : ∀ a w, Has n l a → Hp H L w → Q .normal a w) : Wp P .skip Q n l H L := fun a w ha hw => wp_skip (h a w ha hw)
theorem skt {y : Code} {Q' : Exit → Act → World → Prop} (h : Wp P y Q n l H L) : Wp P .skip (Exit.then (Code.wp P y Q) Q') n l H L := fun a w ha hw => wp_skip (h a w ha hw)
theorem ex {id : Nat} (h : ∀ a w, Has n l a → Hp H L w → Q (.exit id) a w) : Wp P (.exit id) Q n l H L := fun a w ha hw => wp_exit (h a w ha hw)
theorem bl {id : Nat} {c : Code} (h : Wp P c (Exit.inBlock id Q) n l H L) : Wp P (.block id c) Q n l H L := fun a w ha hw => wp_block (h a w ha hw)
theorem rt (h : ∀ a w, Has n l a → Hp H L w → Q .ret a w) : Wp P .ret Q n l H L := fun a w ha hw => wp_ret (h a w ha hw)
theorem cT {c : Operand} {x y : Code} (hc : get l c = some (.bool true)) (h : Wp P x Q n l H L) : Wp P (.cond c x y) Q n l H L := fun a w ha hw => wp_cond_true (ha.get hc) (h a w ha hw)
theorem cF {c : Operand} {x y : Code} (hc : get l c = some (.bool false)) (h : Wp P y Q n l H L) : Wp P (.cond c x y) Q n l H L := fun a w ha hw => wp_cond_false (ha.get hc) (h a w ha hw)
theorem cd {c : Operand} {x y : Code} {p : Prop} [Decidable p] (hc : get l c = some (.bool (decide p))) (ht : p → Wp P x Q n l H L) (hf : ¬ p → Wp P y Q n l H L) : Wp P (.cond c x y) Q n l H L := by
  by_cases hp : p
  · exact cT (by rw [hc]; simp [hp]) (ht hp)
  · exact cF (by rw [hc]; simp [hp]) (hf hp)
theorem cb {c : Operand} {x y : Code} {b : Bool} (hc : get l c = some (.bool b)) (ht : b = true → Wp P x Q n l H L) (hf : b = false → Wp P y Q n l H L) : Wp P (.cond c x y) Q n l H L := by
  cases b
  · exact cF hc (hf rfl)
  · exact cT hc (ht rfl)
theorem Wp.env {c : Code} {l' : Env} (h : Wp P c Q n l' H L) (hs : Sub l l') : Wp P c Q n l H L := fun a w ha hw => h a w (ha.sub hs) hw
theorem Wp.perm {c : Code} {L' : Own} (h : Wp P c Q n l H L') (hp : L.flatten.Perm L'.flatten) : Wp P c Q n l H L := fun a w ha hw => h a w ha (hw.perm hp)
theorem Wp.mono {c : Code} {Q' : Exit → Act → World → Prop} (h : Wp P c Q' n l H L) (hq : ∀ e a w, Q' e a w → Q e a w) : Wp P c Q n l H L := fun a w ha hw => wp_mono (h a w ha hw) hq

/-- The state behind a piece of code: registers, more frozen blocks, some own blocks, of which something is known. -/
def St (n : Nat) (H : Fz) (R : Env → Fz → Own → Prop) : Act → World → Prop :=
  fun a w => ∃ l H' L', Has n l a ∧ H.le H' ∧ Hp H' L' w ∧ R l H' L'

/-- A cut: what stands first comes to a state, or goes out another way. -/
theorem cut {x y : Code} (R : Env → Fz → Own → Prop)
    (h1 : Wp P x (Exit.then (St n H R) Q) n l H L) (h2 : ∀ l' H' L', H.le H' → R l' H' L' → Wp P y Q n l' H' L') : Wp P (.seq x y) Q n l H L := by
  intro a w ha hw
  refine wp_seq (wp_mono (h1 a w ha hw) ?_)
  intro e a' w' he
  cases e with
  | normal => obtain ⟨l', H', L', g1, g2, g3, g4⟩ := he; exact h2 l' H' L' g2 g4 a' w' g1 g3
  | _ => exact he
theorem toWp {y : Code} {Q' : Exit → Act → World → Prop} (h : Wp P y Q n l H L) : ∀ a w, Has n l a → Hp H L w → Exit.then (Code.wp P y Q) Q' .normal a w := h

/-- A loop, with a round's number. -/
theorem lp {c : Code} (N : Nat) (I : Nat → Env → Fz → Own → Prop) (l0 : Env) (hs : Sub l l0) (h0 : I 0 l0 H L)
    (round : ∀ k l' H' L', k ≤ N → H.le H' → I k l' H' L' → Wp P c (Exit.then (fun a w => k < N ∧ St n H (I (k + 1)) a w) Q) n l' H' L') : Wp P (.loop c) Q n l H L := by
  intro a w ha hw b kk cs
  have key : ∀ m k, k + m = N → ∀ a w, St n H (I k) a w →
      ∃ e a' w', Q e a' w' ∧ Arrives P (lone (b.at a (.code c :: .inLoop c :: kk)) cs w) b kk cs e a' w' := by
    intro m
    induction m with
    | zero =>
      intro k hk a w hS
      obtain ⟨l', H', L', g1, g2, g3, g4⟩ := hS
      obtain ⟨e, a₁, w₁, hq, harr⟩ := round k l' H' L' (by omega) g2 g4 a w g1 g3 b (.inLoop c :: kk) cs
      cases e with
      | normal => exact absurd hq.1 (by omega)
      | exit id => exact ⟨_, a₁, w₁, hq, .pass (x := .inLoop c) rfl (fun _ _ => .inl (by simp)) harr⟩
      | goto l => exact ⟨_, a₁, w₁, hq, .pass (x := .inLoop c) rfl (fun _ _ => .inl (by simp)) harr⟩
      | ret => exact ⟨_, a₁, w₁, hq, .pass (x := .inLoop c) rfl (fun _ _ => .inl (by simp)) harr⟩
      | panic ch => exact ⟨_, a₁, w₁, hq, .pass (x := .inLoop c) rfl (fun _ _ => .inl (by simp)) harr⟩
      | outgrown => exact ⟨_, a₁, w₁, hq, .pass (x := .inLoop c) rfl (fun _ _ => .inl (by simp)) harr⟩
    | succ m ih =>
      intro k hk a w hS
      obtain ⟨l', H', L', g1, g2, g3, g4⟩ := hS
      obtain ⟨e, a₁, w₁, hq, harr⟩ := round k l' H' L' (by omega) g2 g4 a w g1 g3 b (.inLoop c :: kk) cs
      cases e with
      | normal =>
        obtain ⟨e₂, a₂, w₂, hq₂, harr₂⟩ := ih (k + 1) (by omega) a₁ w₁ hq.2
        exact ⟨e₂, a₂, w₂, hq₂, .of_steps (Steps.trans harr (.one step_inLoop)) harr₂⟩
      | exit id => exact ⟨_, a₁, w₁, hq, .pass (x := .inLoop c) rfl (fun _ _ => .inl (by simp)) harr⟩
      | goto l => exact ⟨_, a₁, w₁, hq, .pass (x := .inLoop c) rfl (fun _ _ => .inl (by simp)) harr⟩
      | ret => exact ⟨_, a₁, w₁, hq, .pass (x := .inLoop c) rfl (fun _ _ => .inl (by simp)) harr⟩
      | panic ch => exact ⟨_, a₁, w₁, hq, .pass (x := .inLoop c) rfl (fun _ _ => .inl (by simp)) harr⟩
      | outgrown => exact ⟨_, a₁, w₁, hq, .pass (x := .inLoop c) rfl (fun _ _ => .inl (by simp)) harr⟩
  obtain ⟨e, a', w', hq, harr⟩ := key N 0 (by omega) a w ⟨l0, H, L, ha.sub hs, Fz.le.refl H, hw, h0⟩
  exact ⟨e, a', w', hq, .of_steps (.one step_loop) harr⟩

end
end Go.Sx

/- The symbolic walk's laws for memory: loads, stores, new blocks, fields, elements. -/
import Derived.Test.YtahmkeoedpghjabGreatSxOps
import Derived.Laws.CopyRow
import Derived.Laws.BytesArg
set_option linter.unusedVariables false
set_option linter.unusedSimpArgs false
namespace Go.Sx

theorem add_plain (b off k : Nat) : (⟨b, off, none⟩ : Addr).add k = ⟨b, off + k, none⟩ := by unfold Addr.add; split <;> simp_all

/-- What a world keeps of frozen and own blocks. -/
def Bs (H : Fz) (L : Own) (w : World) : Prop := (∀ b o, H.blk b = some o → w.heap[b]? = some o) ∧ (∀ b o, (b, o) ∈ L.flatten → w.heap[b]? = some o)
theorem Hp.bs {H : Fz} {L : Own} {w : World} (h : Hp H L w) : Bs H L w := ⟨h.fz, fun b o hm => (h.own b o hm).1⟩
/-- What a register's block says: own or frozen. -/
def Says (H : Fz) (L : Own) (b off : Nat) (vs : List Value) : Prop := ∀ w, Bs H L w → ∀ j v, vs[j]? = some v → w.cell? ⟨b, off + j, none⟩ = some v
theorem Says.own {H : Fz} {L L' : Own} {b : Nat} {cs : List Value} {e : Nat} {fr : Nat × Nat} (h : Sel L [(b, .cells cs.toArray e fr)] L') : Says H L b 0 cs := by
  intro w hw j v hv
  have := hw.2 b (.cells cs.toArray e fr) (h.perm.mem_iff.2 (by simp))
  simp [World.cell?, this, hv]
theorem Says.ownArr {H : Fz} {L L' : Own} {b : Nat} {cs : Array Value} {e : Nat} {fr : Nat × Nat} (h : Sel L [(b, .cells cs e fr)] L') (off : Nat) (vs : List Value) (hc : ∀ j v, vs[j]? = some v → cs[off + j]? = some v) : Says H L b off vs := by
  intro w hw j v hv
  have := hw.2 b (.cells cs e fr) (h.perm.mem_iff.2 (by simp))
  simp [World.cell?, this, hc j v hv]
theorem Fz.at.cellB {H : Fz} {L : Own} {w : World} {b off : Nat} {vs : List Value} (h : H.at b off vs) (hw : Bs H L w) {j : Nat} {v : Value} (hv : vs[j]? = some v) : w.cell? ⟨b, off + j, none⟩ = some v := by
  obtain ⟨cs, e, fr, h1, h2⟩ := h
  simp [World.cell?, hw.1 _ _ h1, h2 j v hv]
theorem Says.fz {H : Fz} {L : Own} {b off : Nat} {vs : List Value} (h : H.at b off vs) : Says H L b off vs := fun _ hw _ _ hv => h.cellB hw hv

/-- A struct's field lies so many cells behind its begin. -/
def FieldOff (P : Program) (S k o : Nat) : Prop := ∀ b off w, (Instr.fieldAt S (.pointer (some ⟨b, off, none⟩)) k).run P w = .ok (.pointer (some ⟨b, off + o, none⟩)) w
theorem FieldOff.mk {P : Program} {S k o : Nat} {fs : Array Field} {f : Field} {sz : Nat} (hu : ∀ w, (underlying S).run P w = .ok (.struct fs) w) (hf : fs[k]? = some f) (hs : ∀ w, (sizeOf f.type).run P w = .ok sz w) (hz : (sz == 0) = false) (ho : f.offset = o) : FieldOff P S k o := by
  intro b off w
  have : sz ≠ 0 := by simpa using hz
  subst ho
  simp [Instr.fieldAt, hu, hf, Instr.sureAddr, fieldPlace, hs, this, add_plain]
/-- A field of one cell, of a struct that is a value. -/
def FieldCell (P : Program) (T k o : Nat) : Prop := ∀ (cs : List Value) v w, cs[o]? = some v → (Instr.field T (.agg cs.toArray) k).run P w = .ok v w
theorem FieldCell.mk {P : Program} {S k o : Nat} {fs : Array Field} {f : Field} (hu : ∀ w, (underlying S).run P w = .ok (.struct fs) w) (hf : fs[k]? = some f) (ha : ∀ w, (isAgg f.type).run P w = .ok false w) (ho : f.offset = o) : FieldCell P S k o := by
  intro cs v w hv
  subst ho
  simp [Instr.field, hu, hf, asAgg, Go.part, ha, hv]
/-- A field that is a struct or an array. -/
def FieldAgg (P : Program) (T k o m : Nat) : Prop := ∀ (cs : List Value) w, (Instr.field T (.agg cs.toArray) k).run P w = .ok (.agg ((cs.drop o).take m).toArray) w
theorem FieldAgg.mk {P : Program} {S k o m : Nat} {fs : Array Field} {f : Field} (hu : ∀ w, (underlying S).run P w = .ok (.struct fs) w) (hf : fs[k]? = some f) (ha : ∀ w, (isAgg f.type).run P w = .ok true w) (hs : ∀ w, (sizeOf f.type).run P w = .ok m w) (ho : f.offset = o) : FieldAgg P S k o m := by
  intro cs w
  subst ho
  simp [Instr.field, hu, hf, asAgg, Go.part, ha, hs]

section
variable {P : Program} {ops : Array Oper} {Q : Exit → Act → World → Prop} {rest : List Oper} {n : Nat} {l : Env} {H : Fz} {L : Own}
variable {d ty : Nat} {pos : String} {af : Array Edge}

theorem fa {S k o b off : Nat} {x : Operand} (hF : FieldOff P S k o) (hx : get l x = some (.pointer (some ⟨b, off, none⟩))) (hn : Nat.blt d n = true) (h : WL P ops Q rest n ((d, .pointer (some ⟨b, off + o, none⟩)) :: l) H L) : WL P ops Q (⟨some d, .fieldAddr S x k, ty, pos, af, none⟩ :: rest) n l H L :=
  WL.vq rfl rfl hn (fun a w ha _ => by simp [execOp, ha.get hx, hF b off w]) h
/-- of a struct at its block's begin -/
theorem fa0 {S k o b : Nat} {x : Operand} (hF : FieldOff P S k o) (hx : get l x = some (.pointer (some ⟨b, 0, none⟩))) (hn : Nat.blt d n = true) (h : WL P ops Q rest n ((d, .pointer (some ⟨b, o, none⟩)) :: l) H L) : WL P ops Q (⟨some d, .fieldAddr S x k, ty, pos, af, none⟩ :: rest) n l H L :=
  fa hF hx hn (by rw [Nat.zero_add]; exact h)
theorem fc {T k o : Nat} {x : Operand} {cs : List Value} {v : Value} (hF : FieldCell P T k o) (hx : get l x = some (.agg cs.toArray)) (hv : nth cs o = some v) (hn : Nat.blt d n = true) (h : WL P ops Q rest n ((d, v) :: l) H L) : WL P ops Q (⟨some d, .field T x k, ty, pos, af, none⟩ :: rest) n l H L :=
  WL.vq rfl rfl hn (fun a w ha _ => by simp [execOp, ha.get hx, hF cs v w (by rw [← nth_eq]; exact hv)]) h
theorem fg {T k o m : Nat} {x : Operand} {cs ds : List Value} (hF : FieldAgg P T k o m) (hx : get l x = some (.agg cs.toArray)) (hv : cut' cs o m = some ds) (hn : Nat.blt d n = true) (h : WL P ops Q rest n ((d, .agg ds.toArray) :: l) H L) : WL P ops Q (⟨some d, .field T x k, ty, pos, af, none⟩ :: rest) n l H L :=
  WL.vq rfl rfl hn (fun a w ha _ => by simp [execOp, ha.get hx, hF cs w, ← (cut'_eq cs o m ds hv).1]) h

theorem run_loadCells_says {w : World} {b off : Nat} {ds : List Value} (h : ∀ j v, ds[j]? = some v → w.cell? ⟨b, off + j, none⟩ = some v) : (loadCells ⟨b, off, none⟩ ds.length).run P w = .ok ds.toArray w :=
  run_loadCells_list (P := P) w ⟨b, off, none⟩ ds (fun j v hj => by rw [add_plain]; exact h j v hj)

/-- a load of one cell -/
theorem ld {T b off j o : Nat} {vs : List Value} {x : Operand} {v : Value} (hs : Says H L b off vs) (ha : ∀ w, (isAgg T).run P w = .ok false w) (hx : get l x = some (.pointer (some ⟨b, o, none⟩))) (ho : o = off + j) (hv : nth vs j = some v) (hn : Nat.blt d n = true) (h : WL P ops Q rest n ((d, v) :: l) H L) : WL P ops Q (⟨some d, .load T x, ty, pos, af, none⟩ :: rest) n l H L :=
  WL.vq rfl rfl hn (fun a w hA hw => by
    subst ho
    have := hs w hw.bs j v (by rw [← nth_eq]; exact hv)
    simp [execOp, hA.get hx, Instr.loadAt, Instr.sureAddr, loadVar, ha, this]) h
/-- a load of a struct or an array -/
theorem la {T b off j o m : Nat} {vs ds : List Value} {x : Operand} (hs : Says H L b off vs) (ha : ∀ w, (isAgg T).run P w = .ok true w) (hz : ∀ w, (sizeOf T).run P w = .ok m w) (hx : get l x = some (.pointer (some ⟨b, o, none⟩))) (ho : o = off + j) (hv : cut' vs j m = some ds) (hn : Nat.blt d n = true) (h : WL P ops Q rest n ((d, .agg ds.toArray) :: l) H L) : WL P ops Q (⟨some d, .load T x, ty, pos, af, none⟩ :: rest) n l H L :=
  WL.vq rfl rfl hn (fun a w hA hw => by
    subst ho
    obtain ⟨h1, h2⟩ := cut'_eq vs j m ds hv
    have hl : ds.length = m := by subst h1; simp; omega
    have hc := run_loadCells_says (P := P) (w := w) (b := b) (off := off + j) (ds := ds) (fun i v hi => by
      have := hs w hw.bs (j + i) v (by
        subst h1
        rw [List.getElem?_take] at hi
        split at hi
        · rw [List.getElem?_drop] at hi; exact hi
        · cases hi)
      rwa [← Nat.add_assoc] at this)
    rw [hl] at hc
    simp [execOp, hA.get hx, Instr.loadAt, Instr.sureAddr, loadVar, ha, hz, hc]) h

theorem setRow_turn {w : World} {b e : Nat} {cs cs' : Array Value} {L' : Own} (hw : Hp H L w) (hu : Upd L [(b, .cells cs e (0, 0))] [(b, .cells cs' e (0, 0))] L') : Hp H L' (w.setRow b cs') := by
  obtain ⟨L0, h1, _⟩ := hu.perm
  have hb := (hw.own b (.cells cs e (0, 0)) (h1.mem_iff.2 (by simp))).1
  exact hw.turn hu rfl rfl rfl (setRow_heap w b cs cs' e (0, 0) hb) (fun k hk => setRow_other w b k cs' hk)
theorem Upd.here {w : World} {c c' : Chunk} {L' : Own} {b : Nat} {o : Obj} (hu : Upd L c c' L') (hw : Hp H L w) (hm : (b, o) ∈ c) : w.heap[b]? = some o := by
  obtain ⟨L0, h1, _⟩ := hu.perm
  exact (hw.own b o (h1.mem_iff.2 (by simp [hm]))).1

/-- a store of one cell into an own block -/
theorem st {T b off e : Nat} {cs cs' : List Value} {x y : Operand} {v : Value} {L' : Own} (hz : ∀ w, (sizeOf T).run P w = .ok 1 w) (hx : get l x = some (.pointer (some ⟨b, off, none⟩))) (hy : get l y = some v) (h1 : v.oneCell' = true) (hv : setAt cs off v = some cs') (hu : Upd L [(b, .cells cs.toArray e (0, 0))] [(b, .cells cs'.toArray e (0, 0))] L') (h : WL P ops Q rest n l H L') : WL P ops Q (⟨none, .store T x y, ty, pos, af, none⟩ :: rest) n l H L :=
  WL.skw rfl rfl (fun a w hA hw => by
    obtain ⟨g1, g2⟩ := setAt_eq cs off v cs' hv
    have hb := hu.here hw (List.mem_singleton.2 rfl)
    have hc : v.cells = #[v] := by cases v <;> simp_all [Value.cells, Value.oneCell']
    have hst := run_storeCells_at P b off e [v] 0 cs.toArray w hb (by simp; omega) (by simpa using h1)
    have hcs : (cs.toArray.toList.take (off + 0) ++ [v] ++ cs.toArray.toList.drop (off + 0 + [v].length)).toArray = cs'.toArray := by
      subst g2
      congr 1
      simp only [Nat.add_zero, List.length_singleton]
      rw [List.set_eq_take_append_cons_drop]
      simp [g1]
    rw [hcs] at hst
    exact ⟨w.setRow b cs'.toArray, H, L', by simp [execOp, hA.get hx, hA.get hy, Instr.storeAt, Instr.sureAddr, storeVar, hz, hc, hst], setRow_turn hw hu, h⟩)
/-- a store of a struct or an array -/
theorem sa {T b off e m : Nat} {cs cs' ds : List Value} {x y : Operand} {L' : Own} (hz : ∀ w, (sizeOf T).run P w = .ok m w) (hx : get l x = some (.pointer (some ⟨b, off, none⟩))) (hy : get l y = some (.agg ds.toArray)) (hm : ds.length = m) (h1 : ds.all (·.oneCell') = true) (hv : put' cs off ds = some cs') (hu : Upd L [(b, .cells cs.toArray e (0, 0))] [(b, .cells cs'.toArray e (0, 0))] L') (h : WL P ops Q rest n l H L') : WL P ops Q (⟨none, .store T x y, ty, pos, af, none⟩ :: rest) n l H L :=
  WL.skw rfl rfl (fun a w hA hw => by
    obtain ⟨g1, g2⟩ := put'_eq cs off ds cs' hv
    have hb := hu.here hw (List.mem_singleton.2 rfl)
    have hst := run_storeCells_at P b off e ds 0 cs.toArray w hb (by simp; omega) (by simpa using h1)
    have hcs : (cs.toArray.toList.take (off + 0) ++ ds ++ cs.toArray.toList.drop (off + 0 + ds.length)).toArray = cs'.toArray := by
      subst g1; simp
    rw [hcs] at hst
    exact ⟨w.setRow b cs'.toArray, H, L', by simp [execOp, hA.get hx, hA.get hy, Instr.storeAt, Instr.sureAddr, storeVar, hz, Value.cells, hm, hst], setRow_turn hw hu, h⟩)

/-- a new variable -/
theorem al {T : Nat} {z : Value} {zs : List Value} (hz : ∀ w, (zeroValue T).run P w = .ok z w) (hc : z.cells = zs.toArray) (hn : Nat.blt d n = true) (h : ∀ b, WL P ops Q rest n ((d, .pointer (some ⟨b, 0, none⟩)) :: l) H ([(b, .cells zs.toArray T (0, 0))] :: L)) : WL P ops Q (⟨some d, .alloc T, ty, pos, af, none⟩ :: rest) n l H L :=
  WL.vw rfl rfl hn (fun a w _ hw => ⟨_, w.alloc (.cells zs.toArray T (0, 0)), H, _, by simp [execOp, Instr.alloc, hz, newVar, newRow, hc], hw.alloc _, h _⟩)
theorem bx {T : Nat} {x : Operand} {v : Value} {zs : List Value} (hx : get l x = some v) (hc : v.cells = zs.toArray) (hn : Nat.blt d n = true) (h : ∀ b, WL P ops Q rest n ((d, .pointer (some ⟨b, 0, none⟩)) :: l) H ([(b, .cells zs.toArray T (0, 0))] :: L)) : WL P ops Q (⟨some d, .box T x, ty, pos, af, none⟩ :: rest) n l H L :=
  WL.vw rfl rfl hn (fun a w hA hw => ⟨_, w.alloc (.cells zs.toArray T (0, 0)), H, _, by simp [execOp, hA.get hx, Instr.box, newVar, newRow, hc], hw.alloc _, h _⟩)

def parts (l : Env) : List (Nat × Operand) → Option (List (Nat × Value))
  | [] => some []
  | (i, x) :: r => match get l x, parts l r with | some v, some vs => some ((i, v) :: vs) | _, _ => none
theorem parts_eq {l : Env} {a : Act} (hA : Has n l a) : ∀ (ps : List (Nat × Operand)) vs, parts l ps = some vs → ps.map (fun p => (p.1, a.eval p.2)) = vs := by
  intro ps
  induction ps with
  | nil => intro vs h; simp [parts] at h; subst h; rfl
  | cons p ps ih =>
    intro vs h
    obtain ⟨i, x⟩ := p
    simp only [parts] at h
    split at h
    · rename_i v r hv hr
      cases h
      simp [hA.get hv, ih r hr]
    · cases h
/-- a struct, or an array, that is built -/
theorem bd {T : Nat} {ps : List (Nat × Operand)} {vs : List (Nat × Value)} {ds : List Value} (hp : parts l ps = some vs) (hr : ∀ w, (Instr.build T vs.toArray).run P w = .ok (.agg ds.toArray) w) (hn : Nat.blt d n = true) (h : WL P ops Q rest n ((d, .agg ds.toArray) :: l) H L) : WL P ops Q (⟨some d, .build T ps.toArray, ty, pos, af, none⟩ :: rest) n l H L :=
  WL.vq rfl rfl hn (fun a w hA _ => by
    have := parts_eq hA ps vs hp
    simp only [execOp, List.map_toArray]
    rw [show ps.map (fun x => match x with | (i, x) => (i, a.eval x)) = vs from this]
    simp [hr]) h
/-- what a slice that is built makes of its parts -/
def Builds (P : Program) (T m : Nat) (vs : List (Nat × Value)) (e : Nat) (ds : List Value) : Prop := ∀ w, (Instr.buildSlice T m vs.toArray).run P w = .ok (.slice (some ⟨w.heap.size, 0, none⟩) m m) (w.alloc (.cells ds.toArray e (0, 0)))
theorem bs {T m e : Nat} {ps : List (Nat × Operand)} {vs : List (Nat × Value)} {ds : List Value} (hp : parts l ps = some vs) (hr : Builds P T m vs e ds) (hn : Nat.blt d n = true) (h : ∀ b, WL P ops Q rest n ((d, .slice (some ⟨b, 0, none⟩) m m) :: l) H ([(b, .cells ds.toArray e (0, 0))] :: L)) : WL P ops Q (⟨some d, .buildSlice T m ps.toArray, ty, pos, af, none⟩ :: rest) n l H L :=
  WL.vw rfl rfl hn (fun a w hA hw => by
    have := parts_eq hA ps vs hp
    refine ⟨_, w.alloc (.cells ds.toArray e (0, 0)), H, _, ?_, hw.alloc _, h w.heap.size⟩
    simp only [execOp, List.map_toArray]
    rw [show ps.map (fun x => match x with | (i, x) => (i, a.eval x)) = vs from this]
    simp [hr w])

/-- an element's place -/
theorem ix {T e sz b off m c : Nat} {x y : Operand} {j : Nat} {i : Int} (ht : ∀ w, (underlying T).run P w = .ok (.slice e) w) (hz : ∀ w, (sizeOf e).run P w = .ok sz w) (hx : get l x = some (.slice (some ⟨b, off, none⟩) m c)) (hy : get l y = some (.int .i64 i)) (hi : i = (j : Int)) (hj : j < m) (hn : Nat.blt d n = true) (h : WL P ops Q rest n ((d, .pointer (some ⟨b, off + j * sz, none⟩)) :: l) H L) : WL P ops Q (⟨some d, .indexAddr T x y, ty, pos, af, none⟩ :: rest) n l H L :=
  WL.vq rfl rfl hn (fun a w hA _ => by
    subst hi
    simp [execOp, hA.get hx, hA.get hy, Instr.indexAt, asIntOf, ht, hz, hj, add_plain]) h
theorem ix2 {T e sz b off m c : Nat} {ad : Option Addr} {x y : Operand} {j : Nat} {i : Int} (ht : ∀ w, (underlying T).run P w = .ok (.slice e) w) (hz : ∀ w, (sizeOf e).run P w = .ok sz w) (hx : get l x = some (.slice ad m c)) (had : ad = some ⟨b, off, none⟩) (hy : get l y = some (.int .i64 i)) (hi : i = (j : Int)) (hj : j < m) (hn : Nat.blt d n = true) (h : WL P ops Q rest n ((d, .pointer (some ⟨b, off + j * sz, none⟩)) :: l) H L) : WL P ops Q (⟨some d, .indexAddr T x y, ty, pos, af, none⟩ :: rest) n l H L := by
  subst had; exact ix ht hz hx hy hi hj hn h
/-- lengths -/
theorem ls {T e m c : Nat} {x : Operand} {a : Option Addr} (ht : ∀ w, (underlying T).run P w = .ok (.slice e) w) (hx : get l x = some (.slice a m c)) (hn : Nat.blt d n = true) (h : WL P ops Q rest n ((d, .int .i64 (m : Int)) :: l) H L) : WL P ops Q (⟨some d, .call { callee := .builtin .len, args := #[x], argTypes := #[T] }, ty, pos, af, none⟩ :: rest) n l H L :=
  WL.vq rfl rfl hn (fun a w hA _ => by simp [execOp, resolve, invoke, builtin, hA.get hx, Builtin.len_, ht, goInt]) h
theorem lt' {T : Nat} {x : Operand} {s : ByteArray} (ht : ∀ w, (underlying T).run P w = .ok .string w) (hx : get l x = some (.string s)) (hn : Nat.blt d n = true) (h : WL P ops Q rest n ((d, .int .i64 (s.size : Int)) :: l) H L) : WL P ops Q (⟨some d, .call { callee := .builtin .len, args := #[x], argTypes := #[T] }, ty, pos, af, none⟩ :: rest) n l H L :=
  WL.vq rfl rfl hn (fun a w hA _ => by simp [execOp, resolve, invoke, builtin, hA.get hx, Builtin.len_, ht, goInt]) h
theorem mn {T T' : Nat} {x y : Operand} {k k' : IntKind} {i j : Int} (hx : get l x = some (.int k i)) (hy : get l y = some (.int k' j)) (hn : Nat.blt d n = true) (h : WL P ops Q rest n ((d, .int k (if j < i then j else i)) :: l) H L) : WL P ops Q (⟨some d, .call { callee := .builtin .min, args := #[x, y], argTypes := #[T, T'] }, ty, pos, af, none⟩ :: rest) n l H L :=
  WL.vq rfl rfl hn (fun a w hA _ => by simp [execOp, resolve, invoke, builtin, hA.get hx, hA.get hy, Builtin.min_, Builtin.min2]) h
theorem mx {T T' : Nat} {x y : Operand} {k k' : IntKind} {i j : Int} (hx : get l x = some (.int k i)) (hy : get l y = some (.int k' j)) (hn : Nat.blt d n = true) (h : WL P ops Q rest n ((d, .int k (if i < j then j else i)) :: l) H L) : WL P ops Q (⟨some d, .call { callee := .builtin .max, args := #[x, y], argTypes := #[T, T'] }, ty, pos, af, none⟩ :: rest) n l H L :=
  WL.vq rfl rfl hn (fun a w hA _ => by simp [execOp, resolve, invoke, builtin, hA.get hx, hA.get hy, Builtin.max_, Builtin.max2]) h
/-- 'x[:h]' -/
theorem sh' {T e sz m c : Nat} {ad : Option Addr} {x y : Operand} {k : IntKind} {i : Int} {j : Nat} (ht : ∀ w, (underlying T).run P w = .ok (.slice e) w) (hz : ∀ w, (sizeOf e).run P w = .ok sz w) (hx : get l x = some (.slice ad m c)) (hy : get l y = some (.int k i)) (hi : i = (j : Int)) (hj : j ≤ c) (hn : Nat.blt d n = true) (h : WL P ops Q rest n ((d, .slice ad j c) :: l) H L) : WL P ops Q (⟨some d, .slice T x none (some y) none, ty, pos, af, none⟩ :: rest) n l H L :=
  WL.vq rfl rfl hn (fun a w hA _ => by
    subst hi
    have hc : (if c = 0 then ad else ad.map (·.add 0)) = ad := by
      split
      · rfl
      · cases ad <;> simp [Addr.add]
    simp [execOp, hA.get hx, hA.get hy, Instr.sliceAt, Instr.slice, ht, hz, Instr.sliceBounds, Instr.sliceBound, asIntOf, hj, hc]) h

/-- a string out of octets -/
def bytesOf (s : List UInt8) : List Value := s.map fun b => .int .u8 (b.toNat : Int)
theorem cbs {S D e b off m c : Nat} {x : Operand} {s : List UInt8} (hs : P.underlying S = some (.slice e)) (he : P.underlying e = some (.int .u8)) (hd : P.underlying D = some .string) (hx : get l x = some (.slice (some ⟨b, off, none⟩) m c)) (hm : m = s.length) (hb : s ≠ [] → Says H L b off (bytesOf s)) (hn : Nat.blt d n = true) (h : WL P ops Q rest n ((d, .string ⟨s.toArray⟩) :: l) H L) : WL P ops Q (⟨some d, .convert S D x, ty, pos, af, none⟩ :: rest) n l H L :=
  WL.vq rfl rfl hn (fun a w hA hw => by
    subst hm
    have := run_convert_bytes_arg (P := P) w S e hs he b off s.length c (s.map fun b => (b.toNat : Int)) (by simp) (fun i hi => by
      have h1 := hb (by intro h0; subst h0; simp at hi) w hw.bs i (.int .u8 ((s[i]).toNat : Int)) (by simp [bytesOf, hi])
      rw [h1]; simp [List.getD, hi]) D hd
    have hstr : strOfNums (s.map fun b => (b.toNat : Int)) = ⟨s.toArray⟩ := by
      simp [strOfNums, Function.comp_def]
    rw [hstr] at this
    simp [execOp, hA.get hx, this]) h
theorem cbn {S D e m c : Nat} {x : Operand} (hs : P.underlying S = some (.slice e)) (he : P.underlying e = some (.int .u8)) (hd : P.underlying D = some .string) (hx : get l x = some (.slice none m c)) (hn : Nat.blt d n = true) (h : WL P ops Q rest n ((d, .string ⟨#[]⟩) :: l) H L) : WL P ops Q (⟨some d, .convert S D x, ty, pos, af, none⟩ :: rest) n l H L :=
  WL.vq rfl rfl hn (fun a w hA hw => by
    have := run_convert_bytes_nil (P := P) w S e hs he m c D hd
    rw [show ByteArray.empty = ⟨#[]⟩ from rfl] at this
    simp [execOp, hA.get hx, this]) h

/-! ### Calls -/
def gets (l : Env) : List Operand → Option (List Value)
  | [] => some []
  | x :: r => match get l x, gets l r with | some v, some vs => some (v :: vs) | _, _ => none
theorem gets_eq {l : Env} {a : Act} (hA : Has n l a) : ∀ (xs : List Operand) vs, gets l xs = some vs → xs.map a.eval = vs := by
  intro xs
  induction xs with
  | nil => intro vs h; simp [gets] at h; subst h; rfl
  | cons x xs ih =>
    intro vs h
    simp only [gets] at h
    split at h
    · rename_i v r hv hr
      cases h
      simp [hA.get hv, ih r hr]
    · cases h
/-- a call of a function by its number, of a closure -/
theorem cl {f : Operand} {g : FuncId} {fi cp : Array Value} {xs : List Operand} {vs as' : List Value} {tys : Array TypeId} {R : Value → Fz → Own → Prop} (hf : get l f = some (.func (.func g) fi cp)) (hx : gets l xs = some vs) (has : fi.toList ++ vs ++ cp.toList = as') (hF : Fn P g as' H L R) (hn : Nat.blt d n = true)
    (h : ∀ v H' L', H.le H' → R v H' L' → WL P ops Q rest n ((d, v) :: l) H' L') : WL P ops Q (⟨some d, .call { callee := .value f, args := xs.toArray, argTypes := tys }, ty, pos, af, none⟩ :: rest) n l H L := by
  intro a w hA hw
  refine wpList_plain rfl fun K hK => ?_
  have hg := gets_eq hA xs vs hx
  have hr : (execOp a.eval ⟨some d, .call { callee := .value f, args := xs.toArray, argTypes := tys }, ty, pos, af, none⟩).run P w = .ok (.enter g as'.toArray) w := by
    subst has
    simp only [execOp, resolve, hA.get hf, Deferred.ofValue, List.map_toArray, hg]
    have : fi ++ vs.toArray ++ cp = (fi.toList ++ vs ++ cp.toList).toArray := by
      apply Array.ext'; simp
    simp only [pure_bind, invoke, this, hF.1]
  unfold Oper.wp
  rw [hr]
  show Calls P g as'.toArray w _
  refine (hF.2 w hw).mono ?_
  rintro e w' ⟨v, H', L', rfl, hle, hp, hR⟩
  exact hK _ _ (h v H' L' hle hR _ _ (hA.put hn v) hp)

/-! ### The end of a function -/
theorem rT {fn : Func} {H0 : Fz} {R : Value → Fz → Own → Prop} {t : Nat} {v : Value} (hr : fn.results = #[.tmp t]) (hv : look l t = some v) (hle : H0.le H) (hQ : ∀ a w, bodyPost P fn (Ret H0 R) .ret a w → Q .ret a w) (h : R v H L) : Wp P .ret Q n l H L :=
  rt fun a w hA hw => hQ a w (bodyPost_ret (results_tmp hr a.tmps P w) hA.defers ⟨_, H, L, rfl, hle, hw, by
    have : a.tmps.getD t undef = v := hA.get (x := .tmp t) hv
    rw [this]; exact h⟩)
/-- a result that lies in memory -/
theorem rC {fn : Func} {H0 : Fz} {R : Value → Fz → Own → Prop} {t T b : Nat} {cs : List Value} {e m : Nat} {fr : Nat × Nat} {L' : Own} (hr : fn.results = #[.cell t T]) (ha : ∀ w, (isAgg T).run P w = .ok true w) (hz : ∀ w, (sizeOf T).run P w = .ok m w) (hv : look l t = some (.pointer (some ⟨b, 0, none⟩))) (hs : Sel L [(b, .cells cs.toArray e fr)] L') (hm : cs.length = m) (hle : H0.le H) (hQ : ∀ a w, bodyPost P fn (Ret H0 R) .ret a w → Q .ret a w) (h : R (.agg cs.toArray) H L') : Wp P .ret Q n l H L :=
  rt fun a w hA hw => hQ a w (by
    have hp : a.tmps[t]? = some (.pointer (some ⟨b, 0, none⟩)) := hA.vals t _ hv
    have hc := run_loadCells_says (P := P) (w := w) (b := b) (off := 0) (ds := cs) (fun i v hi => Says.own hs w hw.bs i v hi)
    rw [hm] at hc
    refine bodyPost_ret (v := .agg cs.toArray) ?_ hA.defers ⟨_, H, L', rfl, hle, (hw.sel hs).drop, h⟩
    simp [results, hr, hp, asAddr, loadVar, ha, hz, hc])
/-- no result: at the end of the body, and at a return -/
theorem r0 {fn : Func} {H0 : Fz} {R : Value → Fz → Own → Prop} (hr : fn.results = #[]) (hle : H0.le H) (hQ : ∀ a w, bodyPost P fn (Ret H0 R) .ret a w → Q .ret a w) (h : R (.tuple #[]) H L) : Wp P .ret Q n l H L :=
  rt fun a w hA hw => hQ a w (bodyPost_ret (results_none hr a.tmps P w) hA.defers ⟨_, H, L, rfl, hle, hw, h⟩)
theorem rn {fn : Func} {H0 : Fz} {R : Value → Fz → Own → Prop} {a : Act} {w : World} (hr : fn.results = #[]) (hle : H0.le H) (h : R (.tuple #[]) H L) (hA : Has n l a) (hw : Hp H L w) : bodyPost P fn (Ret H0 R) .normal a w :=
  bodyPost_end (results_none hr a.tmps P w) hA.defers ⟨_, H, L, rfl, hle, hw, h⟩
/-- two results -/
theorem rT2 {fn : Func} {H0 : Fz} {R : Value → Fz → Own → Prop} {t u : Nat} {v v' : Value} (hr : fn.results = #[.tmp t, .tmp u]) (hv : look l t = some v) (hv' : look l u = some v') (hle : H0.le H) (hQ : ∀ a w, bodyPost P fn (Ret H0 R) .ret a w → Q .ret a w) (h : R (.tuple #[v, v']) H L) : Wp P .ret Q n l H L :=
  rt fun a w hA hw => hQ a w (bodyPost_ret (results_tmp2 hr a.tmps P w) hA.defers ⟨_, H, L, rfl, hle, hw, by
    have h1 : a.tmps.getD t undef = v := hA.get (x := .tmp t) hv
    have h2 : a.tmps.getD u undef = v' := hA.get (x := .tmp u) hv'
    rw [h1, h2]; exact h⟩)
end
end Go.Sx

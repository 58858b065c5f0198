/- The symbolic walk's laws for what is built: structs, slices; and for ends of code. -/
import Derived.Test.YtahmkeoedpghjabGreatSxLoop
set_option linter.unusedVariables false
set_option linter.unusedSimpArgs false
namespace Go.Sx

def cellsL : Value → List Value
  | .agg cs => cs.toList
  | v => [v]
theorem cellsL_eq (v : Value) : v.cells = (cellsL v).toArray := by cases v <;> simp [cellsL, Value.cells]

/-- The parts are laid into the zero value, by a list of places. -/
def fillL (pl : List (Nat × Nat)) : List Value → List (Nat × Value) → Option (List Value)
  | cs, [] => some cs
  | cs, (i, v) :: r => match pl[i]? with
    | some (o, s) => match Nat.beq (cellsL v).length s with
      | true => match put' cs o (cellsL v) with
        | some cs' => fillL pl cs' r
        | none => none
      | false => none
    | none => none

theorem foldl_set (vs : List Value) : ∀ (j : Nat) (o : Nat) (cs : Array Value), o + j + vs.length ≤ cs.size →
    (vs.zipIdx j).foldl (fun cs (c, j) => cs.setIfInBounds (o + j) c) cs = (cs.toList.take (o + j) ++ vs ++ cs.toList.drop (o + j + vs.length)).toArray := by
  induction vs with
  | nil => intro j o cs h; simp
  | cons v vs ih =>
    intro j o cs h
    simp only [List.zipIdx_cons, List.foldl_cons]
    rw [ih (j + 1) o _ (by simp at h ⊢; omega)]
    congr 1
    simp only [Array.toList_setIfInBounds]
    simp only [List.length_cons] at h
    have h1 : o + j < cs.toList.length := by simp; omega
    apply List.ext_getElem?
    intro k
    simp only [List.getElem?_append, List.length_append, List.length_take, List.length_set, List.length_cons, Array.length_toList, List.getElem?_take, List.getElem?_drop, List.getElem?_set]
    by_cases hk : k < o + j
    · simp [hk, show k < o + (j + 1) by omega, show min (o + (j + 1)) cs.size = o + (j + 1) by omega, show min (o + j) cs.size = o + j by omega, show o + j ≠ k by omega, show k < o + (j + 1) + vs.length by omega, show k < o + j + (vs.length + 1) by omega]
    · by_cases hk2 : k = o + j
      · subst hk2
        simp [show min (o + (j + 1)) cs.size = o + (j + 1) by omega, show min (o + j) cs.size = o + j by omega, show o + j < o + (j + 1) by omega]
        simp [show o + j < o + (j + 1) + vs.length by omega, show o + j < cs.size by omega]
      · simp [hk, show ¬ k < o + (j + 1) by omega, show min (o + (j + 1)) cs.size = o + (j + 1) by omega, show min (o + j) cs.size = o + j by omega, show k - (o + j) = (k - (o + (j + 1))) + 1 by omega]
        by_cases h3 : k < o + (j + 1) + vs.length
        · simp [h3, show k - (o + (j + 1)) < vs.length by omega, show k < o + j + (vs.length + 1) by omega]
        · simp [h3, show ¬ k < o + j + (vs.length + 1) by omega]
          have e1 : o + (j + 1) + vs.length + (k - (o + (j + 1) + vs.length)) = k := by omega
          have e2 : o + j + (vs.length + 1) + (k - (o + j + (vs.length + 1))) = k := by omega
          rw [e1, e2]
          simp [show o + j ≠ k by omega]

theorem fill_eq (place : Nat → Option (Nat × Nat)) (pl : List (Nat × Nat)) (hp : ∀ i, place i = pl[i]?) : ∀ (vs : List (Nat × Value)) (cs ds : List Value), fillL pl cs vs = some ds → Instr.fill place cs.toArray vs = some ds.toArray := by
  intro vs
  induction vs with
  | nil => intro cs ds h; simp [fillL] at h; subst h; rfl
  | cons p vs ih =>
    intro cs ds h
    obtain ⟨i, v⟩ := p
    simp only [fillL] at h
    split at h
    · rename_i o s hpl
      split at h
      · rename_i hb
        split at h
        · rename_i cs' hput
          obtain ⟨g1, g2⟩ := put'_eq cs o (cellsL v) cs' hput
          have hs : (cellsL v).length = s := Nat.eq_of_beq_eq_true hb
          simp only [Instr.fill, hp, hpl, cellsL_eq v, List.size_toArray, hs]
          have hc : ¬ (o + s > cs.length) := by omega
          have := foldl_set (cellsL v) 0 o cs.toArray (by simp; omega)
          simp only [Nat.add_zero] at this
          have e : ((cellsL v).toArray.zipIdx).foldl (fun cs x => match x with | (c, j) => cs.setIfInBounds (o + j) c) cs.toArray = cs'.toArray := by
            rw [← Array.foldl_toList]
            simp only [Array.toList_zipIdx]
            rw [this]
            subst g1; rfl
          rw [e, ih cs' ds h]
          simp [hc]
        · cases h
      · cases h
    · cases h

/-- A struct type: where its fields lie, and its zero value. -/
structure Stru (P : Program) (T : Nat) (pl : List (Nat × Nat)) (zs : List Value) : Prop where
  zero : ∀ w, (zeroValue T).run P w = .ok (.agg zs.toArray) w
  fields : ∃ fs, (∀ w, (underlying T).run P w = .ok (.struct fs) w) ∧ ∀ w, (fs.mapM (m := Sem) fun f => do pure (f.offset, ← sizeOf f.type)).run P w = .ok pl.toArray w
theorem Stru.build {P : Program} {T : Nat} {pl : List (Nat × Nat)} {zs ds : List Value} {vs : List (Nat × Value)} (h : Stru P T pl zs) (hf : fillL pl zs vs = some ds) : ∀ w, (Instr.build T vs.toArray).run P w = .ok (.agg ds.toArray) w := by
  intro w
  obtain ⟨fs, h1, h2⟩ := h.fields
  have hfill := fill_eq (fun i => pl.toArray[i]?) pl (fun i => by simp) vs zs ds hf
  simp only [Instr.build, Sem.run_bind, h.zero, Result.andThen_ok, h1, h2, Value.cells]
  rw [hfill]
  rfl
/-- A slice type: its element's size and zero value. -/
structure Sli (P : Program) (T e sz : Nat) (zs : List Value) : Prop where
  und : ∀ w, (underlying T).run P w = .ok (.slice e) w
  size : ∀ w, (sizeOf e).run P w = .ok sz w
  zero : ∃ z, (∀ w, (zeroValue e).run P w = .ok z w) ∧ z.cells = zs.toArray
  len : zs.length = sz
  pos : Nat.blt 0 sz = true
def reps (zs : List Value) : Nat → List Value
  | 0 => []
  | m + 1 => zs ++ reps zs m
theorem reps_length (zs : List Value) : ∀ m, (reps zs m).length = m * zs.length
  | 0 => by simp [reps]
  | m + 1 => by simp [reps, reps_length zs m, Nat.add_mul]; omega
theorem reps_get (zs : List Value) (hz : 0 < zs.length) : ∀ m i, i < m * zs.length → (reps zs m)[i]? = some (zs[i % zs.length]'(Nat.mod_lt _ hz))
  | 0, i, h => by simp at h
  | m + 1, i, h => by
    simp only [reps]
    by_cases hi : i < zs.length
    · rw [List.getElem?_append_left hi]
      simp [Nat.mod_eq_of_lt hi, hi]
    · rw [List.getElem?_append_right (by omega)]
      have h' : i - zs.length < m * zs.length := by rw [Nat.add_mul] at h; omega
      rw [reps_get zs hz m _ h']
      have : (i - zs.length) % zs.length = i % zs.length := by
        rw [← Nat.sub_add_cancel (show zs.length ≤ i by omega), Nat.add_sub_cancel, Nat.add_mod_right]
      simp [this]
theorem range_reps (zs : List Value) (hz : 0 < zs.length) (m : Nat) : (Array.range (m * zs.length)).map (fun i => zs.toArray[i % zs.toArray.size]!) = (reps zs m).toArray := by
  apply Array.ext_getElem?
  intro i
  by_cases hi : i < m * zs.length
  · have := reps_get zs hz m i hi
    simp only [List.getElem?_toArray, this]
    have hm := Nat.mod_lt i hz
    simp [hi, hm]
  · have h1 : (reps zs m).length ≤ i := by rw [reps_length]; omega
    simp [h1]; omega
def spots (sz : Nat) : Nat → Nat → List (Nat × Nat)
  | _, 0 => []
  | i, m + 1 => (i * sz, sz) :: spots sz (i + 1) m
theorem spots_get (sz : Nat) : ∀ m i j, j < m → (spots sz i m)[j]? = some ((i + j) * sz, sz)
  | 0, _, _, h => by omega
  | m + 1, i, 0, _ => by simp [spots]
  | m + 1, i, j + 1, h => by simp only [spots, List.getElem?_cons_succ]; rw [spots_get sz m (i + 1) j (by omega)]; congr 2; congr 1; omega
theorem fillL_bound (pl : List (Nat × Nat)) : ∀ (vs : List (Nat × Value)) cs ds, fillL pl cs vs = some ds → ∀ p ∈ vs, p.1 < pl.length := by
  intro vs
  induction vs with
  | nil => intro cs ds _ p hp; cases hp
  | cons q vs ih =>
    intro cs ds h p hp
    obtain ⟨i, v⟩ := q
    simp only [fillL] at h
    split at h
    · rename_i o s hpl
      have hi : i < pl.length := by
        rcases Nat.lt_or_ge i pl.length with h' | h'
        · exact h'
        · simp [List.getElem?_eq_none h'] at hpl
      split at h
      · split at h
        · rcases List.mem_cons.1 hp with rfl | hp
          · exact hi
          · exact ih _ _ h p hp
        · cases h
      · cases h
    · cases h
theorem fill_congr (p p' : Nat → Option (Nat × Nat)) : ∀ (vs : List (Nat × Value)) (cs : Array Value), (∀ x ∈ vs, p x.1 = p' x.1) → Instr.fill p cs vs = Instr.fill p' cs vs := by
  intro vs
  induction vs with
  | nil => intro cs _; rfl
  | cons q vs ih =>
    intro cs h
    obtain ⟨i, v⟩ := q
    have h0 := h (i, v) List.mem_cons_self
    simp only [Instr.fill, h0]
    split
    · rfl
    · split
      · rfl
      · exact ih _ (fun x hx => h x (List.mem_cons_of_mem _ hx))
theorem Sli.builds {P : Program} {T e sz m : Nat} {zs ds : List Value} {vs : List (Nat × Value)} (h : Sli P T e sz zs) (hm : Nat.ble (m * sz) 16777216 = true) (hf : fillL (spots sz 0 m) (reps zs m) vs = some ds) : Builds P T m vs e ds := by
  intro w
  obtain ⟨z, hz1, hz2⟩ := h.zero
  have hpos : 0 < sz := by have := Nat.le_of_ble_eq_true h.pos; omega
  have hle : ¬ (m * sz > 2 ^ 24) := by have := Nat.le_of_ble_eq_true hm; omega
  have hr := range_reps zs (by rw [h.len]; exact hpos) m
  rw [h.len] at hr
  have hb := fillL_bound _ vs _ _ hf
  have hfill : Instr.fill (fun i => some (i * sz, sz)) (reps zs m).toArray vs = some ds.toArray := by
    rw [← fill_eq (fun i => (spots sz 0 m)[i]?) (spots sz 0 m) (fun _ => rfl) vs _ ds hf]
    refine fill_congr _ _ vs _ (fun x hx => ?_)
    have hl : (spots sz 0 m).length = m := by
      have : ∀ m i, (spots sz i m).length = m := by intro m; induction m with
        | zero => intro i; rfl
        | succ m ih => intro i; simp [spots, ih]
      exact this m 0
    have := hb x hx
    rw [hl] at this
    rw [spots_get sz m 0 x.1 this]; simp
  by_cases h0 : m * sz = 0
  · have hm0 : m = 0 := by
      rcases Nat.mul_eq_zero.1 h0 with h | h
      · exact h
      · omega
    subst hm0
    simp only [reps] at hfill
    have e0 : (Array.range 0).map (fun x => (#[] : Array Value)[x % (#[] : Array Value).size]!) = ([] : List Value).toArray := by simp
    simp only [Instr.buildSlice, Sem.run_bind, h.und, Result.andThen_ok, h.size, Sem.run_ite, Nat.zero_mul, if_true, Sem.run_pure, e0]
    rw [hfill]
    simp [newRow]
  · have hzz : z.cells.size = zs.toArray.size := by rw [hz2]
    simp only [Instr.buildSlice, Sem.run_bind, h.und, Result.andThen_ok, h.size, Sem.run_ite, hle, if_false, h0, hz1, Sem.run_pure, hz2]
    rw [hr, hfill]
    simp [newRow]

section
variable {P : Program} {ops : Array Oper} {Q : Exit → Act → World → Prop} {rest : List Oper} {n : Nat} {l : Env} {H : Fz} {L : Own}
variable {d ty : Nat} {pos : String} {af : Array Edge}
theorem bd' {T : Nat} {ps : List (Nat × Operand)} {vs : List (Nat × Value)} {pl : List (Nat × Nat)} {zs ds : List Value} (hS : Stru P T pl zs) (hp : parts l ps = some vs) (hf : fillL pl zs vs = some ds) (hn : Nat.blt d n = true) (h : WL P ops Q rest n ((d, .agg ds.toArray) :: l) H L) : WL P ops Q (⟨some d, .build T ps.toArray, ty, pos, af, none⟩ :: rest) n l H L := bd hp (hS.build hf) hn h
theorem bs' {T m e sz : Nat} {ps : List (Nat × Operand)} {vs : List (Nat × Value)} {zs ds : List Value} (hS : Sli P T e sz zs) (hm : Nat.ble (m * sz) 16777216 = true) (hp : parts l ps = some vs) (hf : fillL (spots sz 0 m) (reps zs m) vs = some ds) (hn : Nat.blt d n = true) (h : ∀ b, WL P ops Q rest n ((d, .slice (some ⟨b, 0, none⟩) m m) :: l) H ([(b, .cells ds.toArray e (0, 0))] :: L)) : WL P ops Q (⟨some d, .buildSlice T m ps.toArray, ty, pos, af, none⟩ :: rest) n l H L := bs hp (hS.builds hm hf) hn h

/-! ### Own blocks that are not wanted any more -/
theorem drW {c : Code} {ch : Chunk} {L' : Own} (hs : Sel L ch L') (h : Wp P c Q n l H L') : Wp P c Q n l H L := fun a w hA hw => h a w hA (hw.sel hs).drop
theorem drL {os : List Oper} {ch : Chunk} {L' : Own} (hs : Sel L ch L') (h : WL P ops Q os n l H L') : WL P ops Q os n l H L := fun a w hA hw => h a w hA (hw.sel hs).drop

/-! ### Names for what is own -/
theorem Upd.same {L : Own} {c : Chunk} {L' : Own} (h : Upd L c c L') : L' = L := by
  have key : ∀ {L c c' L'}, Upd L c c' L' → c = c' → L' = L := by
    intro L c c' L' h
    induction h with
    | head => rintro rfl; rfl
    | tail _ ih => intro e; rw [ih e]
  exact key h rfl
theorem capL {c : Code} (h : ∀ L1, L1 = L → Wp P c Q n l H L1) : Wp P c Q n l H L := h L rfl
theorem capF {c : Code} {N : Chunk} {F : Chunk → Own} (hF : ∀ X, Upd L N X (F X)) (h : ∀ F1 : Chunk → Own, (∀ X, F1 X = F X) → Wp P c Q n l H (F1 N)) : Wp P c Q n l H L := by
  have := h F (fun _ => rfl)
  rwa [(hF N).same] at this
theorem capF2 {c : Code} {N M : Chunk} {F : Chunk → Own} {G : Chunk → Chunk → Own} (hF : ∀ X, Upd L N X (F X)) (hG : ∀ X Y, Upd (F X) M Y (G X Y)) (h : ∀ F1 : Chunk → Chunk → Own, (∀ X Y, F1 X Y = G X Y) → Wp P c Q n l H (F1 N M)) : Wp P c Q n l H L := by
  have := h G (fun _ _ => rfl)
  rwa [(hG N M).same, (hF N).same] at this
theorem nilC {c : Code} (h : Wp P c Q n l H ([] :: L)) : Wp P c Q n l H L := fun a w hA hw => h a w hA (hw.perm (by simp))
theorem nilL {os : List Oper} (h : WL P ops Q os n l H ([] :: L)) : WL P ops Q os n l H L := fun a w hA hw => h a w hA (hw.perm (by simp))

/-! ### Ends -/
def Nn (Q : Exit → Act → World → Prop) (n : Nat) (l : Env) (H : Fz) (L : Own) : Prop := ∀ a w, Has n l a → Hp H L w → Q .normal a w
theorem nN (h : Nn Q n l H L) : WL P ops Q [] n l H L := nq h
theorem drN {ch : Chunk} {L' : Own} (hs : Sel L ch L') (h : Nn Q n l H L') : Nn Q n l H L := fun a w hA hw => h a w hA (hw.sel hs).drop
theorem skN (h : Nn Q n l H L) : Wp P .skip Q n l H L := sk h
theorem Nt {y : Code} {Q' : Exit → Act → World → Prop} (h : Wp P y Q n l H L) : Nn (Exit.then (Code.wp P y Q) Q') n l H L := h
theorem Nb {id : Nat} (h : Nn Q n l H L) : Nn (Exit.inBlock id Q) n l H L := h
def Xx (id : Nat) (Q : Exit → Act → World → Prop) (n : Nat) (l : Env) (H : Fz) (L : Own) : Prop := ∀ a w, Has n l a → Hp H L w → Q (.exit id) a w
theorem exX {id : Nat} (h : Xx id Q n l H L) : Wp P (.exit id) Q n l H L := ex h
theorem XT {id : Nat} {nx : Act → World → Prop} (h : Xx id Q n l H L) : Xx id (Exit.then nx Q) n l H L := h
theorem Xb {id : Nat} (h : Nn Q n l H L) : Xx id (Exit.inBlock id Q) n l H L := fun a w hA hw => by
  show Exit.inBlock id Q (.exit id) a w
  simp only [Exit.inBlock, if_true]
  exact h a w hA hw
theorem Xo {id id' : Nat} (hne : Nat.beq id id' = false) (h : Xx id Q n l H L) : Xx id (Exit.inBlock id' Q) n l H L := fun a w hA hw => by
  show Exit.inBlock id' Q (.exit id) a w
  have : ¬ id = id' := by rintro rfl; simp at hne
  simp only [Exit.inBlock, this, if_false]
  exact h a w hA hw
end
end Go.Sx

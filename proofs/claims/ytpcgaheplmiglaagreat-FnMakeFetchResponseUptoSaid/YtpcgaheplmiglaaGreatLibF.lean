import Derived.Test.YtpcgaheplmiglaaGreatLibD
import Derived.Maps.RangeRun
import Derived.Laws.Cover3
import Derived.Carry
import Derived.Shelf.GgSortFunc.Whole
import Derived.Shelf.GgSortFunc.Tiny
import Derived.Sort.LotA
import Derived.Lib.ItoaNum
set_option linter.unusedVariables false
set_option linter.unusedSimpArgs false
/- Maps from numbers to octets: what they are in memory, the walk's laws for their operations. -/
namespace Go.Sx
abbrev KV := Int × Value
def entOf (i : Nat) (p : KV) : MapEntry := { key := .int .u32 p.1, val := p.2, born := i }
def entsOf (kvs : List KV) : Array MapEntry := (kvs.mapIdx entOf).toArray
def mapObj (kvs : List KV) : Obj := .map (entsOf kvs) kvs.length
def putKv : List KV → Int → Value → List KV
  | [], k, v => [(k, v)]
  | p :: r, k, v => if p.1 = k then (k, v) :: r else p :: putKv r k v
def lookKv : List KV → Int → Option Value
  | [], _ => none
  | p :: r, k => if p.1 = k then some p.2 else lookKv r k
theorem entsOf_size (kvs : List KV) : (entsOf kvs).size = kvs.length := by simp [entsOf]
theorem entsOf_get (kvs : List KV) (i : Nat) : (entsOf kvs)[i]? = kvs[i]?.map (entOf i) := by simp [entsOf]
def at' (kvs : List KV) (k : Int) : Option Nat := kvs.findIdx? (fun p => p.1 == k)
theorem findNow_ents (k : Int) (q : IntKind) : ∀ (kvs : List KV) (g : Nat → KV → MapEntry) (i : Nat), (∀ j p, (g j p).key = .int .u32 p.1 ∧ (g j p).val = p.2) →
    Instr.findNow (.int q) (.int .u32 k) (kvs.mapIdx g) i = some ((at' kvs k).bind fun m => (lookKv kvs k).map fun v => (i + m, v))
  | [], g, i, _ => by simp [Instr.findNow, at']
  | p :: r, g, i, hg => by
    obtain ⟨h1, h2⟩ := hg 0 p
    rw [List.mapIdx_cons, Instr.findNow, h1]
    by_cases h : p.1 = k
    · subst h
      simp [Instr.sameNow, at', List.findIdx?_cons, lookKv, h2]
    · have hk : ¬ k = p.1 := fun e => h e.symm
      simp only [Instr.sameNow, if_true]
      rw [show (k == p.1) = false by simp [hk]]
      simp only
      rw [findNow_ents k q r (fun j => g (j + 1)) (i + 1) (fun j p => hg (j + 1) p)]
      congr 1
      simp only [at', List.findIdx?_cons, lookKv, if_neg h]
      rw [show (p.1 == k) = false by simp [h]]
      simp only [Bool.false_eq_true, if_false]
      cases List.findIdx? (fun p => p.1 == k) r with
      | none => simp
      | some m => simp only [Option.map_some, Option.bind_some]; rw [show i + 1 + m = i + (m + 1) by omega]
theorem at'_none {k : Int} : ∀ {kvs : List KV}, at' kvs k = none → lookKv kvs k = none ∧ ∀ v, putKv kvs k v = kvs ++ [(k, v)]
  | [], _ => ⟨rfl, fun _ => rfl⟩
  | p :: r, h => by
    simp only [at', List.findIdx?_cons] at h
    by_cases hp : p.1 = k
    · simp [hp] at h
    · rw [show (p.1 == k) = false by simp [hp]] at h
      simp only [Bool.false_eq_true, if_false, Option.map_eq_none_iff] at h
      obtain ⟨h1, h2⟩ := at'_none (kvs := r) h
      exact ⟨by simp [lookKv, hp, h1], fun v => by simp [putKv, hp, h2]⟩
theorem at'_some {k : Int} : ∀ {kvs : List KV} {m : Nat}, at' kvs k = some m → m < kvs.length ∧ (∃ v, lookKv kvs k = some v ∧ kvs[m]? = some (k, v)) ∧ ∀ v, putKv kvs k v = kvs.set m (k, v)
  | [], m, h => by simp [at'] at h
  | p :: r, m, h => by
    simp only [at', List.findIdx?_cons] at h
    by_cases hp : p.1 = k
    · rw [show (p.1 == k) = true by simp [hp]] at h
      simp only [if_true, Option.some.injEq] at h
      subst h hp
      exact ⟨by simp, ⟨p.2, by simp [lookKv], by simp⟩, fun v => by simp [putKv]⟩
    · rw [show (p.1 == k) = false by simp [hp]] at h
      simp only [Bool.false_eq_true, if_false, Option.map_eq_some_iff] at h
      obtain ⟨m', h1, rfl⟩ := h
      obtain ⟨h2, ⟨v, h3, h4⟩, h5⟩ := at'_some (kvs := r) h1
      exact ⟨by simpa using h2, ⟨v, by simp [lookKv, hp, h3], by simpa using h4⟩, fun v => by simp [putKv, hp, h5]⟩
theorem ents_push (kvs : List KV) (k : Int) (v : Value) : (entsOf kvs).push { key := .int .u32 k, val := v, born := kvs.length } = entsOf (kvs ++ [(k, v)]) := by
  apply Array.ext'
  simp [entsOf, List.mapIdx_append, entOf]
theorem ents_set {kvs : List KV} {m : Nat} {k : Int} {v0 v : Value} (h : kvs[m]? = some (k, v0)) : (entsOf kvs).modify m (fun e => { e with key := .int .u32 k, val := v }) = entsOf (kvs.set m (k, v)) := by
  apply Array.ext_getElem?
  intro j
  rw [Array.getElem?_modify, entsOf_get, entsOf_get, List.getElem?_set]
  by_cases hj : m = j
  · subst hj
    have hlt : m < kvs.length := by
      rcases Nat.lt_or_ge m kvs.length with h' | h'
      · exact h'
      · simp [List.getElem?_eq_none h'] at h
    simp [h, hlt, entOf]
  · simp [hj]
theorem putKv_length (kvs : List KV) (k : Int) (v : Value) : (putKv kvs k v).length ≤ kvs.length + 1 := by
  induction kvs with
  | nil => simp [putKv]
  | cons p r ih => simp only [putKv]; split <;> simp <;> omega
variable {P : Program}
theorem findKey_ents {K : Nat} {q : IntKind} {k : Int} {kvs : List KV} {w : World} (hu : P.underlying K = some (.int q)) :
    (Instr.findKey K (.int .u32 k) (entsOf kvs).toList).run P w = .ok ((at' kvs k).bind fun m => (lookKv kvs k).map fun v => (m, v)) w := by
  have h := findNow_ents k q kvs entOf 0 (fun _ _ => ⟨rfl, rfl⟩)
  have e : (entsOf kvs).toList = kvs.mapIdx entOf := by simp [entsOf]
  simp only [Nat.zero_add] at h
  simp [Instr.findKey, run_underlying hu, e, h]
theorem checkKey_int {K : Nat} {q q' : IntKind} {k : Int} (hu : P.underlying K = some (.int q)) (b : Bool) (w : World) : (Instr.checkKey b 10000 K (.int q' k)).run P w = .ok () w := by
  have : ∀ n, (Instr.checkKey b (n + 1) K (.int q' k)).run P w = .ok () w := fun n => by
    rw [Instr.checkKey]
    simp [run_underlying hu]
  exact this 9999
theorem run_mapUpdate_kv {T K E g : Nat} {q : IntKind} {k : Int} {v : Value} {kvs : List KV} {w : World} (ht : P.underlying T = some (.map K E)) (hu : P.underlying K = some (.int q)) (hb : w.heap[g]? = some (mapObj kvs)) :
    (Instr.mapUpdate T (.map (some g)) (.int .u32 k) v).run P w = .ok () { w with heap := w.heap.setIfInBounds g (mapObj (putKv kvs k v)) } := by
  have hc : ∀ w, (Instr.checkKey false 10000 K (.int .u32 k)).run P w = .ok () w := checkKey_int hu false
  have hf := findKey_ents (P := P) (w := w) (k := k) (kvs := kvs) hu
  have hg : (getObj g).run P w = .ok (.map (entsOf kvs) kvs.length) w := MapKept.run_getObj_map hb
  have hs := fun o => MapKept.run_setObj_map (P := P) (w := w) (r := g) (es := entsOf kvs) (clock := kvs.length) o hb
  cases hm : at' kvs k with
  | none =>
    obtain ⟨h1, h2⟩ := at'_none hm
    rw [hm] at hf
    simp [Instr.mapUpdate, run_underlying ht, hg, hc, hf, hs, mapObj, h2, ents_push]
  | some m =>
    obtain ⟨h1, ⟨v0, h2, h3⟩, h4⟩ := at'_some hm
    rw [hm, h2] at hf
    have hks : ∀ w, (Instr.keyThatStays ((((entsOf kvs)[m]?).map (·.key)).getD (.int .u32 k)) (.int .u32 k)).run P w = .ok (.int .u32 k) w := fun w => by
      rw [entsOf_get, h3]
      simp [Instr.keyThatStays, Instr.sameBits, entOf]
    simp only [Instr.mapUpdate, Sem.run_bind, run_underlying ht, Result.andThen_ok, hg, hc, hf, Option.bind_some, Option.map_some, hks, hs]
    rw [ents_set h3, h4]
    simp [mapObj]
theorem run_lookup_kv {T K E g : Nat} {q : IntKind} {k : Int} {kvs : List KV} {w : World} {v : Value} (ht : P.underlying T = some (.map K E)) (hu : P.underlying K = some (.int q)) (hb : w.heap[g]? = some (mapObj kvs)) (hl : lookKv kvs k = some v) :
    (Instr.lookup T (.map (some g)) (.int .u32 k) false).run P w = .ok v w := by
  have hc : ∀ b w, (Instr.checkKey b 10000 K (.int .u32 k)).run P w = .ok () w := fun b w => checkKey_int hu b w
  have hf := findKey_ents (P := P) (w := w) (k := k) (kvs := kvs) hu
  have hg : (getObj g).run P w = .ok (.map (entsOf kvs) kvs.length) w := MapKept.run_getObj_map hb
  cases hm : at' kvs k with
  | none => rw [(at'_none hm).1] at hl; cases hl
  | some m =>
    rw [hm, hl] at hf
    simp [Instr.lookup, run_underlying ht, hg, hc, hf]
theorem run_len_kv {T K E ty g : Nat} {kvs : List KV} {w : World} (ht : P.underlying T = some (.map K E)) (hb : w.heap[g]? = some (mapObj kvs)) : (Builtin.len_ #[T] ty #[.map (some g)]).run P w = .ok (goInt kvs.length) w := by
  have hg : (getObj g).run P w = .ok (.map (entsOf kvs) kvs.length) w := MapKept.run_getObj_map hb
  simp [Builtin.len_, run_underlying ht, hg, entsOf_size]
theorem run_len_nilmap {T K E ty : Nat} {w : World} (ht : P.underlying T = some (.map K E)) : (Builtin.len_ #[T] ty #[.map none]).run P w = .ok (goInt 0) w := by
  simp [Builtin.len_, run_underlying ht]

/-! ### A map in memory -/
/-- An own map: nil, or a block that is all its own. -/
def MapC (m : Option Nat) (kvs : List KV) (N : Chunk) : Prop := (m = none ∧ kvs = [] ∧ N = []) ∨ ∃ g, m = some g ∧ N = [(g, mapObj kvs)]
theorem MapC.nil : MapC none [] [] := .inl ⟨rfl, rfl, rfl⟩
/-- A frozen map. -/
def MapF (H : Fz) (m : Option Nat) (kvs : List KV) : Prop := (m = none ∧ kvs = []) ∨ ∃ g, m = some g ∧ H.blk g = some (mapObj kvs)
theorem MapF.nil (H : Fz) : MapF H none [] := .inl ⟨rfl, rfl⟩
theorem MapF.mono {H H' : Fz} {m : Option Nat} {kvs : List KV} (h : MapF H m kvs) (hle : H.le H') : MapF H' m kvs := by
  rcases h with h | ⟨g, h1, h2⟩
  · exact .inl h
  · exact .inr ⟨g, h1, hle.blk _ _ h2⟩
theorem MapC.freeze {m : Option Nat} {kvs : List KV} {N : Chunk} {H : Fz} {L L' : Own} {w : World} (h : MapC m kvs N) (hs : Sel L N L') (hw : Hp H L w) : ∃ H', H.le H' ∧ Hp H' L' w ∧ MapF H' m kvs := by
  rcases h with ⟨rfl, rfl, rfl⟩ | ⟨g, rfl, rfl⟩
  · exact ⟨H, Fz.le.refl H, (hw.sel hs).drop, .nil H⟩
  · obtain ⟨h3, h4⟩ := (hw.sel hs).freeze
    exact ⟨_, h4, h3.drop, .inr ⟨g, rfl, Fz.add_blk _ _ _⟩⟩
section
variable {ops : Array Oper} {Q : Exit → Act → World → Prop} {rest : List Oper} {n : Nat} {l : Env} {H : Fz} {L : Own}
variable {d ty : Nat} {pos : String} {af : Array Edge}
theorem frMW {c : Code} {m : Option Nat} {kvs : List KV} {N : Chunk} {L' : Own} (hr : MapC m kvs N) (hs : Sel L N L') (h : ∀ H', H.le H' → MapF H' m kvs → Wp P c Q n l H' L') : Wp P c Q n l H L := by
  intro a' w hA hw
  obtain ⟨H', h1, h2, h3⟩ := hr.freeze hs hw
  exact h H' h1 h3 a' w hA h2
theorem frMN {m : Option Nat} {kvs : List KV} {N : Chunk} {L' : Own} (hr : MapC m kvs N) (hs : Sel L N L') (h : ∀ H', H.le H' → MapF H' m kvs → Nn Q n l H' L') : Nn Q n l H L := by
  intro a' w hA hw
  obtain ⟨H', h1, h2, h3⟩ := hr.freeze hs hw
  exact h H' h1 h3 a' w hA h2
theorem frML {os : List Oper} {m : Option Nat} {kvs : List KV} {N : Chunk} {L' : Own} (hr : MapC m kvs N) (hs : Sel L N L') (h : ∀ H', H.le H' → MapF H' m kvs → WL P ops Q os n l H' L') : WL P ops Q os n l H L := by
  intro a' w hA hw
  obtain ⟨H', h1, h2, h3⟩ := hr.freeze hs hw
  exact h H' h1 h3 a' w hA h2
/-- held against nil -/
theorem emn {T T' k e : Nat} {x : Operand} {m : Option Nat} (hu : P.underlying T = some (.map k e)) (hx : get l x = some (.map m)) (hn : Nat.blt d n = true) (h : WL P ops Q rest n ((d, .bool m.isNone) :: l) H L) : WL P ops Q (⟨some d, .binOp .eql T x (.const (.map none)) T', ty, pos, af, none⟩ :: rest) n l H L :=
  WL.vq rfl rfl hn (fun w0 w ha _ => by
    have h1 := run_equal_map_nil (P := P) w T k e m hu
    have h2 : Act.eval w0 (.const (.map none)) = .map none := rfl
    simp [execOp, ha.get hx, h2, eqGuard, binOp, h1]) h
theorem mkm {T : Nat} (hn : Nat.blt d n = true) (h : ∀ g, WL P ops Q rest n ((d, .map (some g)) :: l) H ([(g, mapObj [])] :: L)) : WL P ops Q (⟨some d, .makeMap T none, ty, pos, af, none⟩ :: rest) n l H L :=
  WL.vw rfl rfl hn (fun a w _ hw => ⟨_, w.alloc (mapObj []), H, _, rfl, hw.alloc _, h _⟩)
theorem mup {T K E : Nat} {q : IntKind} {x y z : Operand} {g : Nat} {k : Int} {v : Value} {kvs : List KV} {L' : Own} (ht : P.underlying T = some (.map K E)) (hu : P.underlying K = some (.int q)) (hx : get l x = some (.map (some g))) (hy : get l y = some (.int .u32 k)) (hz : get l z = some v)
    (hU : Upd L [(g, mapObj kvs)] [(g, mapObj (putKv kvs k v))] L') (h : WL P ops Q rest n l H L') : WL P ops Q (⟨none, .mapUpdate T x y z, ty, pos, af, none⟩ :: rest) n l H L :=
  WL.skw rfl rfl (fun a w hA hw => by
    obtain ⟨L0, h1, _⟩ := hU.perm
    have hb := (hw.own g (mapObj kvs) (h1.mem_iff.2 (by simp))).1
    refine ⟨{ w with heap := w.heap.setIfInBounds g (mapObj (putKv kvs k v)) }, H, L', by simp [execOp, hA.get hx, hA.get hy, hA.get hz, run_mapUpdate_kv ht hu hb], hw.turn hU rfl rfl rfl ?_ ?_, h⟩
    · have := lt_of_heap hb
      simp [Array.getElem?_setIfInBounds, this]
    · intro k hk
      simp [Array.getElem?_setIfInBounds, hk.symm])
theorem lmn {T K E : Nat} {x : Operand} {m : Option Nat} {kvs : List KV} (ht : P.underlying T = some (.map K E)) (hx : get l x = some (.map m)) (hm : MapF H m kvs) (hn : Nat.blt d n = true) (h : WL P ops Q rest n ((d, .int .i64 (kvs.length : Int)) :: l) H L) :
    WL P ops Q (⟨some d, .call { callee := .builtin .len, args := #[x], argTypes := #[T] }, ty, pos, af, none⟩ :: rest) n l H L :=
  WL.vq rfl rfl hn (fun a w hA hw => by
    rcases hm with ⟨rfl, rfl⟩ | ⟨g, rfl, hg⟩
    · simp [execOp, resolve, invoke, builtin, hA.get hx, run_len_nilmap ht, goInt]
    · simp [execOp, resolve, invoke, builtin, hA.get hx, run_len_kv ht (hw.fz _ _ hg), goInt]) h
theorem lkp {T K E : Nat} {q : IntKind} {x y : Operand} {g : Nat} {k : Int} {v : Value} {kvs : List KV} (ht : P.underlying T = some (.map K E)) (hu : P.underlying K = some (.int q)) (hx : get l x = some (.map (some g))) (hy : get l y = some (.int .u32 k)) (hg : H.blk g = some (mapObj kvs)) (hl : lookKv kvs k = some v) (hn : Nat.blt d n = true)
    (h : WL P ops Q rest n ((d, v) :: l) H L) : WL P ops Q (⟨some d, .lookup T x y false, ty, pos, af, none⟩ :: rest) n l H L :=
  WL.vq rfl rfl hn (fun a w hA hw => by simp [execOp, hA.get hx, hA.get hy, run_lookup_kv ht hu (hw.fz _ _ hg) hl]) h
theorem rgm {T K E : Nat} {x : Operand} {g : Nat} {kvs : List KV} (ht : P.underlying T = some (.map K E)) (hx : get l x = some (.map (some g))) (hg : H.blk g = some (mapObj kvs)) (hn : Nat.blt d n = true)
    (h : ∀ r, WL P ops Q rest n ((d, .pointer (some ⟨r, 0, none⟩)) :: l) H ([(r, .mapIter (some g) kvs.length #[] kvs.length)] :: L)) : WL P ops Q (⟨some d, .range T x, ty, pos, af, none⟩ :: rest) n l H L :=
  WL.vw rfl rfl hn (fun a w hA hw => ⟨_, w.alloc (.mapIter (some g) kvs.length #[] kvs.length), H, _, by
    have := run_range_map (P := P) w T K E g (entsOf kvs) kvs.length ht (hw.fz _ _ hg)
    simp [execOp, hA.get hx, this], hw.alloc _, h _⟩)
theorem extr {x : Operand} {vs : Array Value} {i : Nat} {v : Value} (hx : get l x = some (.tuple vs)) (hv : vs[i]? = some v) (hn : Nat.blt d n = true) (h : WL P ops Q rest n ((d, v) :: l) H L) : WL P ops Q (⟨some d, .extract x i, ty, pos, af, none⟩ :: rest) n l H L :=
  WL.vq rfl rfl hn (fun a w hA hw => by simp [execOp, hA.get hx, Instr.extract, hv]) h
/-- the iterator's step: nothing is left, or one entry comes -/
theorem nxt {x : Operand} {g r : Nat} {kvs : List KV} {seen : Array Nat} {L' : Nat → Own} (hx : get l x = some (.pointer (some ⟨r, 0, none⟩))) (hg : H.blk g = some (mapObj kvs))
    (hU : ∀ i, Upd L [(r, .mapIter (some g) kvs.length seen kvs.length)] [(r, .mapIter (some g) kvs.length (seen.push i) kvs.length)] (L' i)) (hn : Nat.blt d n = true)
    (h0 : (∀ i, i < kvs.length → i ∈ seen) → WL P ops Q rest n ((d, .tuple #[.bool false]) :: l) H L)
    (h1 : ∀ i k v, kvs[i]? = some (k, v) → i ∉ seen → WL P ops Q rest n ((d, .tuple #[.bool true, .int .u32 k, v]) :: l) H (L' i)) : WL P ops Q (⟨some d, .next x false, ty, pos, af, none⟩ :: rest) n l H L := by
  intro a w hA hw
  have hbm := hw.fz _ _ hg
  obtain ⟨L0, hp, _⟩ := (hU 0).perm
  have hr := (hw.own r (.mapIter (some g) kvs.length seen kvs.length) (hp.mem_iff.2 (by simp))).1
  have hold : ∀ e ∈ (entsOf kvs).toList, e.born < kvs.length := by
    intro e he
    obtain ⟨i, hi, rfl⟩ := List.mem_iff_getElem.1 he
    have : (entsOf kvs).toList.length = kvs.length := by simp [entsOf]
    simp [entsOf, entOf] at hi ⊢
    exact hi
  refine wpList_plain rfl fun K hK => ?_
  unfold Oper.wp
  rcases run_next_at (P := P) w ty r g kvs.length kvs.length seen (entsOf kvs) kvs.length hr hbm hold (Nat.le_refl _) with ⟨hz, hrun⟩ | ⟨e, he, w1, hal, hrun⟩
  · have he : (execOp a.eval ⟨some d, .next x false, ty, pos, af, none⟩).run P w = .ok (.value (.tuple #[.bool false])) w := by simp [execOp, hA.get hx, hrun]
    rw [he]
    simp only [Oper.upon]
    refine hK _ _ (h0 (fun i hi => ?_) _ _ (hA.put hn _) hw)
    have hm : entOf i kvs[i] ∈ (entsOf kvs).toList := by
      rw [List.mem_iff_getElem?]
      exact ⟨i, by simp [entsOf, hi]⟩
    have := all_seen (entsOf kvs) seen hz _ hm
    simpa [entOf] using this
  · obtain ⟨hem, hes⟩ := mem_left he
    obtain ⟨i, hi⟩ := List.mem_iff_getElem?.1 hem
    rw [Array.getElem?_toList, entsOf_get] at hi
    cases hk : kvs[i]? with
    | none => rw [hk] at hi; cases hi
    | some p =>
      rw [hk] at hi
      simp only [Option.map_some, Option.some.injEq] at hi
      subst hi
      have hx' : (execOp a.eval ⟨some d, .next x false, ty, pos, af, none⟩).run P w = .ok (.value (.tuple #[.bool true, .int .u32 p.1, p.2])) (ChangeMaps.setBlock w1 r (.mapIter (some g) kvs.length (seen.push i) kvs.length)) := by
        have := hrun
        simp only [entOf] at this
        simp [execOp, hA.get hx, this]
      rw [hx']
      simp only [Oper.upon]
      have hw1 : Hp H L w1 := by
        rcases hal with e | e
        · rw [e]; exact hw
        · rw [e]; exact hw.drew
      have hr1 := (hw1.own r (.mapIter (some g) kvs.length seen kvs.length) (hp.mem_iff.2 (by simp))).1
      refine hK _ _ (h1 i p.1 p.2 hk (by simpa [entOf] using hes) _ _ (hA.put hn _) (hw1.turn (hU i) rfl rfl rfl ?_ ?_))
      · have := lt_of_heap hr1
        simp [ChangeMaps.setBlock, Array.getElem?_setIfInBounds, this]
      · intro k hk
        simp [ChangeMaps.setBlock, Array.getElem?_setIfInBounds, hk.symm]
/-- the entry that has come -/
theorem ent {x : Operand} {g r i : Nat} {kvs : List KV} {seen : Array Nat} {k : Int} {v : Value} {L' : Own} (hx : get l x = some (.pointer (some ⟨r, 0, none⟩))) (hg : H.blk g = some (mapObj kvs)) (hs : Sel L [(r, .mapIter (some g) kvs.length (seen.push i) kvs.length)] L') (hi : kvs[i]? = some (k, v)) (hn : Nat.blt d n = true)
    (h : WL P ops Q rest n ((d, .tuple #[.int .u32 k, v]) :: l) H L) : WL P ops Q (⟨some d, .entry x, ty, pos, af, none⟩ :: rest) n l H L :=
  WL.vq rfl rfl hn (fun a w hA hw => by
    have hbm := hw.fz _ _ hg
    have hr := (hw.own r (.mapIter (some g) kvs.length (seen.push i) kvs.length) (hs.perm.mem_iff.2 (by simp))).1
    have he : entOf i (k, v) ∈ (entsOf kvs).toList := by
      rw [List.mem_iff_getElem?]
      exact ⟨i, by rw [Array.getElem?_toList, entsOf_get, hi]; rfl⟩
    have hnd : ((entsOf kvs).toList.map (·.born)).Nodup := by
      have : (entsOf kvs).toList.map (·.born) = List.range kvs.length := by
        apply List.ext_getElem?
        intro j
        simp only [List.getElem?_map, Array.getElem?_toList, entsOf_get]
        by_cases hj : j < kvs.length
        · simp [hj, entOf]
        · simp [hj, List.getElem?_eq_none (show kvs.length ≤ j by omega)]
      rw [this]; exact List.nodup_range
    have := run_entry_at (P := P) w r g kvs.length seen (entsOf kvs) kvs.length (entOf i (k, v)) (by simpa [entOf] using hr) hbm he hnd
    simp only [entOf] at this
    simp [execOp, hA.get hx, this]) h
/-- an interface value -/
theorem mki {T e : Nat} {x : Operand} {v : Value} (hu : P.underlying T = some (.slice e)) (hx : get l x = some v) (hn : Nat.blt d n = true) (h : WL P ops Q rest n ((d, .iface T v) :: l) H L) : WL P ops Q (⟨some d, .makeInterface T x, ty, pos, af, none⟩ :: rest) n l H L :=
  WL.vq rfl rfl hn (fun a w hA hw => by simp [execOp, hA.get hx, Instr.makeInterface, run_underlying hu]) h
/-- a function value with what it has caught -/
theorem mkf {g : Go.Fn} {xs : List Operand} {vs : List Value} (hx : gets l xs = some vs) (hn : Nat.blt d n = true) (h : WL P ops Q rest n ((d, .func g #[] vs.toArray) :: l) H L) : WL P ops Q (⟨some d, .makeFunc g #[] xs.toArray, ty, pos, af, none⟩ :: rest) n l H L :=
  WL.vq rfl rfl hn (fun a w hA hw => by
    have := gets_eq hA xs vs hx
    simp [execOp, Instr.makeFunc, this]) h
end
theorem setAt_some {cs : List Value} {o : Nat} {u : Value} (v : Value) (h : nth cs o = some u) : ∃ cs', setAt cs o v = some cs' := by
  induction cs generalizing o with
  | nil => simp [nth] at h
  | cons x cs ih =>
    cases o with
    | zero => exact ⟨_, rfl⟩
    | succ o =>
      obtain ⟨cs', h'⟩ := ih (o := o) (by simpa [nth] using h)
      exact ⟨x :: cs', by simp [setAt, h']⟩
theorem setAt_same {cs : List Value} {o : Nat} {u : Value} (h : nth cs o = some u) : setAt cs o u = some cs := by
  induction cs generalizing o with
  | nil => simp [nth] at h
  | cons x cs ih =>
    cases o with
    | zero => simp only [nth, Option.some.injEq] at h; subst h; rfl
    | succ o => simp [setAt, ih (o := o) (by simpa [nth] using h)]
theorem nth_setAt {cs cs' : List Value} {o : Nat} {v : Value} (h : setAt cs o v = some cs') : nth cs' o = some v := by
  obtain ⟨h1, rfl⟩ := setAt_eq cs o v cs' h
  rw [nth_eq]; simp [h1]
/-! ### Keys in order -/
def keysOf (kvs : List KV) : List Int := kvs.map (·.1)
def sortKv (kvs : List KV) : List KV := (keysOf kvs).mergeSort (fun x y => decide (x ≤ y)) |>.map fun k => (k, (lookKv kvs k).getD undef)
theorem lookKv_mem {k : Int} : ∀ {kvs : List KV}, k ∈ keysOf kvs → ∃ v, lookKv kvs k = some v
  | [], h => by simp [keysOf] at h
  | p :: r, h => by
    by_cases hp : p.1 = k
    · exact ⟨p.2, by simp [lookKv, hp]⟩
    · obtain ⟨v, hv⟩ := lookKv_mem (kvs := r) (by simp [keysOf] at h ⊢; rcases h with h | h; exact absurd h.symm hp; exact h)
      exact ⟨v, by simp [lookKv, hp, hv]⟩
theorem nodup_bound : ∀ (N : Nat) (l : List Nat), l.Nodup → (∀ x ∈ l, x < N) → l.length ≤ N
  | N, l, hd, hb => by
    have h1 := List.Nodup.length_le_of_subset hd (l₂ := List.range N) (fun x hx => List.mem_range.2 (hb x hx))
    simpa using h1
theorem perm_range {N : Nat} {l : List Nat} (hd : l.Nodup) (hb : ∀ x ∈ l, x < N) (ha : ∀ i, i < N → i ∈ l) : l.Perm (List.range N) :=
  (List.perm_ext_iff_of_nodup hd List.nodup_range).2 fun x => ⟨fun h => List.mem_range.2 (hb x h), fun h => ha x (List.mem_range.1 h)⟩
theorem keys_perm {kvs : List KV} {l : List Nat} (h : l.Perm (List.range kvs.length)) : (l.map fun i => ((keysOf kvs)[i]?).getD 0).Perm (keysOf kvs) := by
  have h1 : (List.range kvs.length).map (fun i => ((keysOf kvs)[i]?).getD 0) = keysOf kvs := by
    apply List.ext_getElem?
    intro i
    by_cases hi : i < kvs.length
    · simp [keysOf, hi]
    · simp [keysOf, hi]
  exact (h.map _).trans (by rw [h1])
theorem sort_perm {a b : List Int} (h : a.Perm b) : a.mergeSort (fun x y => decide (x ≤ y)) = b.mergeSort (fun x y => decide (x ≤ y)) := by
  have ht : ∀ x y z : Int, decide (x ≤ y) = true → decide (y ≤ z) = true → decide (x ≤ z) = true := fun x y z h1 h2 => by simp at *; omega
  have hl : ∀ x y : Int, (decide (x ≤ y) || decide (y ≤ x)) = true := fun x y => by simp; omega
  refine List.Perm.eq_of_pairwise (le := fun x y => decide (x ≤ y) = true) ?_ (List.pairwise_mergeSort ht hl _) (List.pairwise_mergeSort ht hl _) ((List.mergeSort_perm _ _).trans (h.trans (List.mergeSort_perm _ _).symm))
  intro x y _ _ h1 h2
  simp at h1 h2; omega
end Go.Sx
/- The library's sort.Slice on an own row of numbers, as a contract of the walk's. -/
namespace Go.Sx
open Go.Sort Go.Shelf Go.Lib Go.Proofs
def u32s (ks : List Int) : List Value := ks.map (Value.int .u32)
def srt (ks : List Int) : List Int := ks.mergeSort fun x y => decide (x ≤ y)
def ltI (x y : Int) : Bool := decide (x < y)
theorem swo_ltI : SWO ltI := ⟨fun x => by simp [ltI], fun x y z h1 h2 => by simp only [ltI, decide_eq_true_eq] at *; omega, fun x y z h1 h2 => by simp only [ltI, decide_eq_false_iff_not] at *; omega⟩
theorem srt_eq (d d' : Array Int) (hp : PermIn 0 d.size d d') (hs : SortedIn ltI 0 d.size d') : d'.toList = srt d.toList := by
  have h := sorted_unique_holds (lt := ltI) swo_ltI (fun x y h1 h2 => by simp only [ltI, decide_eq_false_iff_not] at h1 h2; omega) d d' hp hs
  rw [h]; unfold srt
  congr 1
  funext x y
  simp only [ltI]
  by_cases hxy : x ≤ y
  · simp [hxy]
  · simp [hxy]; omega
theorem srt_length (ks : List Int) : (srt ks).length = ks.length := by simp [srt]
theorem srt_perm (ks : List Int) : (srt ks).Perm ks := List.mergeSort_perm _ _
theorem srt_tiny {ks : List Int} (h : ks.length ≤ 1) : srt ks = ks := by
  match ks, h with
  | [], _ => simp [srt]
  | [x], _ => simp [srt]
  | x :: y :: r, h => simp at h
theorem holds_u32 {w : World} {g : Nat} {cur : Array Value} {e : TypeId} {ks : List Int} (hb : w.heap[g]? = some (.cells cur e (0, 0))) (ht : cur.toList.take ks.length = u32s ks) : Holds (Value.int .u32) w g 0 ks.toArray := by
  intro j hj
  have hj' : j < ks.length := by simpa using hj
  refine ⟨?_, by simp [World.frozen?, hb]⟩
  have h1 : (cur.toList.take ks.length)[j]? = (u32s ks)[j]? := by rw [ht]
  rw [List.getElem?_take_of_lt hj'] at h1
  simp only [World.cell?, hb, Nat.zero_add]
  simp only [Option.isSome_none, Bool.false_eq_true, if_false]
  rw [← Array.getElem?_toList, h1]
  simp [hj', u32s]
theorem heap_sortedU {w : World} {g n : Nat} {os : Array Obj} {cur : Array Value} {e : TypeId} {fr : Nat × Nat} (d : Array Int) (hb : w.heap[g]? = some (.cells cur e fr)) :
    (grow (putRow (Value.int .u32) (Sort.ahead w n) g 0 d) os).heap[g]? = some (.cells (putCells (Value.int .u32) 0 d cur) e fr) := by
  have hg : g < w.heap.size := (Array.getElem?_eq_some_iff.1 hb).1
  rw [heap_grow_old _ _ (by simpa using hg)]
  simp [putRow, mapBlock, Sort.ahead, Array.getElem?_modify, hb, onCells]
theorem take_putU (cur : Array Value) (ts : List Int) (h : ts.length ≤ cur.size) : (putCells (Value.int .u32) 0 ts.toArray cur).toList.take ts.length = u32s ts := by
  apply List.ext_getElem?
  intro j
  by_cases hj : j < ts.length
  · rw [List.getElem?_take_of_lt hj, Array.getElem?_toList]
    simp [putCells, hj, show j < cur.size by omega, u32s]
  · rw [List.getElem?_take_eq_none (by omega), List.getElem?_eq_none (by simp [u32s]; omega)]
/-- New blocks behind the heap. -/
theorem Hp.grow {H : Fz} {L : Own} {w : World} (h : Hp H L w) (os : Array Obj) : Hp H L (Sort.grow w os) := by
  refine ⟨h.os, h.tape, h.output, fun b o hb => ?_, fun b o hm => ?_, h.nd⟩
  · have := h.fz b o hb
    rw [heap_grow_old _ _ (lt_of_heap this)]; exact this
  · obtain ⟨h1, h2⟩ := h.own b o hm
    exact ⟨by rw [heap_grow_old _ _ (lt_of_heap h1)]; exact h1, h2⟩
theorem Hp.ahead {H : Fz} {L : Own} {w : World} (h : Hp H L w) (n : Nat) : Hp H L (Sort.ahead w n) := ⟨h.os, h.tape, h.output, h.fz, h.own, h.nd⟩
theorem u32s_one (ks : List Int) : ∀ u ∈ u32s ks, u.oneCell' = true := by
  intro u hu
  simp only [u32s, List.mem_map] at hu
  obtain ⟨x, _, rfl⟩ := hu
  rfl
variable {P : Program} {ρ : Ren}
/-- What is asked of the caller's 'less': it reads the slice behind a pointer, and two of its numbers. -/
def LessU (P : Program) (lf : Nat) : Prop := ∀ (blk off c Bs size : Nat) (W : World) (G : Nat → Int), W.cell? ⟨Bs, 0, none⟩ = some (.slice (some ⟨blk, off, none⟩) size c) → (∀ t, t < size → W.cell? ⟨blk, off + t, none⟩ = some (.int .u32 (G t))) → ∀ i j : Nat, i < size → j < size →
    Calls P lf #[.int .i64 i, .int .i64 j, .pointer (some ⟨Bs, 0, none⟩)] W fun e w' => e = .returned (.bool (decide (G i < G j))) ∧ ∃ q, w' = W.drewN q
/-- What is asked of the program's types and of the swapper's literals. -/
structure SortEnv (P : Program) (ρ : Ren) (t e : TypeId) (i ie : TypeInfo) (ke : Nat) : Prop where
  lays : LaysGg.n6 P ρ
  hi : P.info? t = some i
  hd : i.desc = .slice e
  hpk : P.packed t = false
  hie : P.info? e = some ie
  hke : ∀ w, (Extern.Rtype.kind e).run P w = .ok ke w
  hs1 : ie.size = 1
  hagg : ∀ w, (isAgg e).run P w = .ok false w
  tiny : ∀ n, n ≤ 1 → ∃ f, P.funcs.findIdx? (·.name == "internal/reflectlite" ++ ".Swapper$" ++ toString (swapperK n ie ke)) = some f
  big : ∀ n, 2 ≤ n → ∃ f gS, P.funcs.findIdx? (·.name == "internal/reflectlite" ++ ".Swapper$" ++ toString (swapperK n ie ke)) = some f ∧ ∀ args W, (callFunc f args).run P W = ((Extern.ReflectliteSwapper.swap gS args).run P W).andThen fun v w' => .ok (.value v) w'
theorem sort_fn {t e lf bx ke : Nat} {i ie : TypeInfo} (E : SortEnv P ρ t e i ie ke) (hcall : ∀ args w, (callFunc (ρ.f 6) args).run P w = .ok (.enter (ρ.f 6) args) w) (eg : ∀ args w, (callFunc lf args).run P w = .ok (.enter lf args) w) (hless : LessU P lf)
    {ks : List Int} {a : Option Addr} {n cap T e' : Nat} {N : Chunk} {H : Fz} {L : Own} (hr : Row e' 1 a n cap (u32s ks) N) (h62 : n < 4611686018427387904) :
    Fn P (ρ.f 6) [.iface t (.slice a n cap), .func (.func lf) #[] #[.pointer (some ⟨bx, 0, none⟩)]] H (N :: [(bx, .cells #[.slice a n cap] T (0, 0))] :: L)
      (fun _ H' L' => H = H' ∧ ∃ N', L' = N' :: [(bx, .cells #[.slice a n cap] T (0, 0))] :: L ∧ Row e' 1 a n cap (u32s (srt ks)) N') := by
  refine ⟨hcall, fun w hw => ?_⟩
  have hlen : ks.length = n := by have := hr.1; simpa [u32s] using this
  by_cases h1 : n ≤ 1
  · obtain ⟨f, hf⟩ := E.tiny n h1
    refine (Any.sort_Slice_tiny E.lays t e i ie E.hi E.hd E.hpk E.hie ke E.hke a n cap h1 f hf (.func lf) #[] _ w).mono ?_
    rintro e1 w' ⟨rfl, os, rfl⟩
    exact ⟨_, H, _, rfl, Fz.le.refl H, hw.grow os, rfl, N, rfl, by rw [srt_tiny (by omega)]; exact hr⟩
  · rcases hr.2 with ⟨_, h0, _⟩ | ⟨g, cur, rfl, rfl, hnc, hcm, hcs, htake⟩
    · omega
    · have hg := (hw.own g (.cells cur e' (0, 0)) (by simp)).1
      have hbx := (hw.own bx (.cells #[.slice (some ⟨g, 0, none⟩) n cap] T (0, 0)) (by simp)).1
      have hne : g ≠ bx := by
        have := hw.nd
        simp at this
        exact this.1.1
      have hgl := lt_of_heap hg
      have hbl := lt_of_heap hbx
      have hsz : ks.toArray.size = n := by simpa using hlen
      have hH : Holds (Value.int .u32) w g 0 ks.toArray := holds_u32 hg (by rw [hlen]; simpa using htake)
      obtain ⟨f, gS, hf, hx⟩ := E.big n (by omega)
      have hl : LessReads P lf #[.pointer (some ⟨bx, 0, none⟩)] (Value.int .u32) ltI g 0 n w := by
        intro m os dk hs i1 j1 hi1 hj1
        have e1 : sortWorld (Value.int .u32) w g 0 m dk os = putRow (Value.int .u32) (Sort.grow (Sort.ahead w m) os) g 0 dk := by
          unfold sortWorld; rw [putRow_grow _ (Sort.ahead w m) _ g 0 _ hgl]
        have hHg : Holds (Value.int .u32) (Sort.grow (Sort.ahead w m) os) g 0 ks.toArray := holds_grow _ _ _ g 0 _ hgl (holds_ahead _ _ _ _ _ _ hH)
        refine hless g 0 cap bx n _ (fun t => dk[t]!) ?_ (fun t ht => ?_) i1 j1 hi1 hj1
        · rw [e1, cell?_putRow_other _ _ g 0 dk _ (Or.inl (by show bx ≠ g; exact hne.symm)), cell?_grow _ _ _ (by show bx < (Sort.ahead w m).heap.size; exact hbl)]
          show w.cell? _ = _
          simp [World.cell?, hbx]
        · rw [e1]; exact cell?_putRow _ _ g 0 ks.toArray dk hHg (by rw [hs, hsz]) t (by omega)
      have hS := Any.sort_Slice_sorted E.lays t e i ie E.hi E.hd E.hpk E.hie ke E.hke E.hs1 E.hagg (Value.int .u32) (fun _ => rfl) ltI swo_ltI lf _ eg g 0 cap ks.toArray (by omega) (by omega) f (by rw [hsz]; exact hf) gS hx w (by rw [hsz]; exact hl) hH hgl
      rw [hsz] at hS
      refine hS.mono ?_
      rintro e1 w' ⟨rfl, d', m, os, hp, hso, rfl⟩
      have hd' : d' = (srt ks).toArray := by
        have := srt_eq ks.toArray d' (by rw [hsz]; exact hp) (by rw [hsz]; exact hso)
        apply Array.ext'
        simpa using this
      subst hd'
      have hb' := heap_sortedU (w := w) (n := m) (os := os) (srt ks).toArray hg
      have hcl : n ≤ cur.size := by rw [hcs]; omega
      have hw' : Hp H ([(g, .cells (putCells (Value.int .u32) 0 (srt ks).toArray cur) e' (0, 0))] :: [(bx, .cells #[.slice (some ⟨g, 0, none⟩) n cap] T (0, 0))] :: L) (grow (putRow (Value.int .u32) (Sort.ahead w m) g 0 (srt ks).toArray) os) := by
        refine Hp.grow ?_ os
        refine (hw.ahead m).turn .head rfl rfl rfl ?_ ?_
        · simp [putRow, mapBlock, Sort.ahead, Array.getElem?_modify, hg, onCells]
        · intro k hk
          simp [putRow, mapBlock, Sort.ahead, Array.getElem?_modify, hk.symm]
      refine ⟨_, H, _, rfl, Fz.le.refl H, hw', rfl, _, rfl, ?_, .inr ⟨g, _, rfl, rfl, hnc, hcm, ?_, ?_⟩⟩
      · simp [u32s, srt_length, hlen]
      · simpa [putCells] using hcs
      · have := take_putU cur (srt ks) (by rw [srt_length, hlen]; exact hcl)
        rw [srt_length, hlen] at this
        simpa using this
end Go.Sx
/- Plain laws on numbers in groups of seven bits. -/
namespace Go.Sx
def uvl (n : Nat) : Nat := if n < 128 then 1 else if n < 16384 then 2 else if n < 2097152 then 3 else if n < 268435456 then 4 else 5
def uvT (b : Nat) : Nat := if b ≤ 7 then 1 else if b ≤ 14 then 2 else if b ≤ 21 then 3 else if b ≤ 28 then 4 else 5
theorem uvT_bitLen {n : Nat} (h : n < 4294967296) : Lib.bitLen n ≤ 32 ∧ uvT (Lib.bitLen n) = uvl n := by
  have h32 := Lib.bitLen_le n 32 (by omega) h
  refine ⟨h32, ?_⟩
  by_cases h0 : n = 0
  · subst h0; decide
  · obtain ⟨h1, h2, h3⟩ := Lib.bitLenAux_bounds 64 n (by omega) h0
    have e : Lib.bitLen n = Lib.bitLenAux 64 n := rfl
    rw [← e] at h1 h2 h3
    generalize Lib.bitLen n = b at *
    have lo : ∀ k, k ≤ b - 1 → 2 ^ k ≤ n := fun k hk => Nat.le_trans (Nat.pow_le_pow_right (by omega) hk) h2
    have hi : ∀ k, b ≤ k → n < 2 ^ k := fun k hk => Nat.lt_of_lt_of_le h3 (Nat.pow_le_pow_right (by omega) hk)
    unfold uvT uvl
    by_cases a1 : b ≤ 7
    · have := hi 7 a1; rw [if_pos a1, if_pos (show n < 128 by omega)]
    · have l1 := lo 7 (by omega)
      rw [if_neg a1, if_neg (show ¬ n < 128 by omega)]
      by_cases a2 : b ≤ 14
      · have := hi 14 a2; rw [if_pos a2, if_pos (show n < 16384 by omega)]
      · have l2 := lo 14 (by omega)
        rw [if_neg a2, if_neg (show ¬ n < 16384 by omega)]
        by_cases a3 : b ≤ 21
        · have := hi 21 a3; rw [if_pos a3, if_pos (show n < 2097152 by omega)]
        · have l3 := lo 21 (by omega)
          rw [if_neg a3, if_neg (show ¬ n < 2097152 by omega)]
          by_cases a4 : b ≤ 28
          · have := hi 28 a4; rw [if_pos a4, if_pos (show n < 268435456 by omega)]
          · have l4 := lo 28 (by omega)
            rw [if_neg a4, if_neg (show ¬ n < 268435456 by omega)]
theorem uvar_length {n : Nat} (h : n < 4294967296) : (uvar n).length = uvl n := by
  unfold uvl
  by_cases a1 : n < 128
  · rw [uvar_end (by omega), if_pos a1]; rfl
  · rw [if_neg a1, uvar_step (by omega)]
    by_cases a2 : n < 16384
    · rw [uvar_end (by omega), if_pos a2]; rfl
    · rw [if_neg a2, uvar_step (by omega)]
      by_cases a3 : n < 2097152
      · rw [uvar_end (by omega), if_pos a3]; rfl
      · rw [if_neg a3, uvar_step (by omega)]
        by_cases a4 : n < 268435456
        · rw [uvar_end (by omega), if_pos a4]; rfl
        · rw [if_neg a4, uvar_step (by omega), uvar_end (by omega)]; rfl
theorem byteN (m : Nat) : byte ((m : Nat) : Int) = UInt8.ofNat m := by
  apply UInt8.toNat_inj.1
  unfold byte
  simp; omega
theorem byteN128 (m : Nat) : byte ((m % 128 + 128 : Nat) : Int) = UInt8.ofNat (m % 128 + 128) := byteN _
theorem uvar1 {n : Nat} (h : n < 128) : uvar n = [byte ((n : Nat) : Int)] := by rw [uvar_end (by omega), byteN]
theorem uvar2 {n : Nat} (h0 : ¬ n < 128) (h : n < 16384) : uvar n = [byte ((n % 128 + 128 : Nat) : Int), byte ((n / 128 : Nat) : Int)] := by
  rw [uvar_step (by omega), uvar_end (by omega), byteN, byteN]
theorem uvar3 {n : Nat} (h0 : ¬ n < 16384) (h : n < 2097152) : uvar n = [byte ((n % 128 + 128 : Nat) : Int), byte ((n / 128 % 128 + 128 : Nat) : Int), byte ((n / 16384 : Nat) : Int)] := by
  rw [uvar_step (by omega), uvar_step (by omega), uvar_end (by omega), byteN, byteN, byteN, Nat.div_div_eq_div_mul]
theorem uvar4 {n : Nat} (h0 : ¬ n < 2097152) (h : n < 268435456) : uvar n = [byte ((n % 128 + 128 : Nat) : Int), byte ((n / 128 % 128 + 128 : Nat) : Int), byte ((n / 16384 % 128 + 128 : Nat) : Int), byte ((n / 2097152 : Nat) : Int)] := by
  rw [uvar_step (by omega), uvar_step (by omega), uvar_step (by omega), uvar_end (by omega), byteN, byteN, byteN, byteN]
  simp only [Nat.div_div_eq_div_mul]
theorem uvar5 {n : Nat} (h0 : ¬ n < 268435456) (h : n < 4294967296) : uvar n = [byte ((n % 128 + 128 : Nat) : Int), byte ((n / 128 % 128 + 128 : Nat) : Int), byte ((n / 16384 % 128 + 128 : Nat) : Int), byte ((n / 2097152 % 128 + 128 : Nat) : Int), byte ((n / 268435456 : Nat) : Int)] := by
  rw [uvar_step (by omega), uvar_step (by omega), uvar_step (by omega), uvar_step (by omega), uvar_end (by omega), byteN, byteN, byteN, byteN, byteN]
  simp only [Nat.div_div_eq_div_mul]
theorem uvl_1 {n : Nat} (h : (uvl n : Int) = 1) : n < 128 := by unfold uvl at h; split at h <;> (try split at h) <;> (try split at h) <;> (try split at h) <;> omega
theorem uvl_2 {n : Nat} (h : (uvl n : Int) = 2) : ¬ n < 128 ∧ n < 16384 := by unfold uvl at h; split at h <;> (try split at h) <;> (try split at h) <;> (try split at h) <;> omega
theorem uvl_3 {n : Nat} (h : (uvl n : Int) = 3) : ¬ n < 16384 ∧ n < 2097152 := by unfold uvl at h; split at h <;> (try split at h) <;> (try split at h) <;> (try split at h) <;> omega
theorem uvl_4 {n : Nat} (h : (uvl n : Int) = 4) : ¬ n < 2097152 ∧ n < 268435456 := by unfold uvl at h; split at h <;> (try split at h) <;> (try split at h) <;> (try split at h) <;> omega
theorem uvl_5 {n : Nat} (h : (uvl n : Int) = 5) : ¬ n < 268435456 := by unfold uvl at h; split at h <;> (try split at h) <;> (try split at h) <;> (try split at h) <;> omega
theorem uvl_pos (n : Nat) : 1 ≤ uvl n := by unfold uvl; split <;> (try split) <;> (try split) <;> (try split) <;> omega
theorem uvl_le (n : Nat) : uvl n ≤ 5 := by unfold uvl; split <;> (try split) <;> (try split) <;> (try split) <;> omega
theorem shrN {m : Nat} {b : Int} {k : IntKind} {q : Nat} (h : 2 ^ min b.toNat k.bits = q) : ((m : Nat) : Int).fdiv (2 ^ min b.toNat k.bits) = ((m / q : Nat) : Int) := by
  rw [shr_nat rfl, h]
section
variable {P : Program} {ops : Array Oper} {Q : Exit → Act → World → Prop} {rest : List Oper} {n : Nat} {l : Env} {H : Fz} {L : Own}
variable {d ty : Nat} {pos : String} {af : Array Edge}
/-- an octet of a text -/
theorem ixs {T : Nat} {x y : Operand} {s : ByteArray} {k : IntKind} {i : Int} {j : Nat} {b : UInt8} (hu : P.underlying T = some .string) (hx : get l x = some (.string s)) (hy : get l y = some (.int k i)) (hi : i = (j : Int)) (hj : s.data[j]? = some b) (hn : Nat.blt d n = true)
    (h : WL P ops Q rest n ((d, .int .u8 (b.toNat : Int)) :: l) H L) : WL P ops Q (⟨some d, .index T x y, ty, pos, af, none⟩ :: rest) n l H L :=
  WL.vq rfl rfl hn (fun a w hA hw => by
    subst hi
    have hlt : j < s.size := by
      rcases Nat.lt_or_ge j s.size with h' | h'
      · exact h'
      · have : s.data.size ≤ j := h'
        simp [Array.getElem?_eq_none this] at hj
    have e : s[j] = b := by
      have h2 := hj
      rw [Array.getElem?_eq_getElem (show j < s.data.size from hlt)] at h2
      exact Option.some.inj h2
    have := run_index_string (P := P) w T s k (j : Int) hu
    simp only [Int.toNat_natCast, show (0 : Int) ≤ (j : Int) by omega, show ((j : Int) < (s.size : Int)) by omega, and_self, dite_true, e] at this
    simp [execOp, hA.get hx, hA.get hy, this]) h
end
/-- a chunk comes to the front, at an end -/
theorem tfN {Q : Exit → Act → World → Prop} {n : Nat} {l : Env} {H : Fz} {L : Own} {N : Chunk} {L' : Own} (hs : Sel L N L') (h : Nn Q n l H (N :: L')) : Nn Q n l H L := fun a w hA hw => h a w hA (hw.sel hs)
theorem sortKv_length (kvs : List KV) : (sortKv kvs).length = kvs.length := by simp [sortKv, keysOf]
theorem sortKv_get {kvs : List KV} {k : Nat} (hk : k < kvs.length) : ∃ key v, (sortKv kvs)[k]? = some (key, v) ∧ lookKv kvs key = some v ∧ nth (u32s (srt (keysOf kvs))) k = some (.int .u32 key) := by
  have h1 : k < (srt (keysOf kvs)).length := by rw [srt_length]; simpa [keysOf] using hk
  have hm : (srt (keysOf kvs))[k] ∈ keysOf kvs := (srt_perm _).mem_iff.1 (List.getElem_mem h1)
  obtain ⟨v, hv⟩ := lookKv_mem hm
  have h2 : (srt (keysOf kvs))[k]? = some (srt (keysOf kvs))[k] := List.getElem?_eq_getElem h1
  refine ⟨(srt (keysOf kvs))[k], v, ?_, hv, ?_⟩
  · show ((srt (keysOf kvs)).map fun k => (k, (lookKv kvs k).getD undef))[k]? = _
    rw [List.getElem?_map, h2]; simp [hv]
  · rw [nth_eq]; simp [u32s, h2]
theorem srt_of_seen {kvs : List KV} {seen : List Nat} (h : seen.Perm (List.range kvs.length)) : srt (seen.map fun i => ((keysOf kvs)[i]?).getD 0) = srt (keysOf kvs) := sort_perm (keys_perm h)
theorem u32s_snoc (ks : List Int) (k : Int) : u32s ks ++ [.int .u32 k] = u32s (ks ++ [k]) := by simp [u32s]
theorem keysOf_get {kvs : List KV} {i : Nat} {k : Int} {v : Value} (h : kvs[i]? = some (k, v)) : ((keysOf kvs)[i]?).getD 0 = k := by simp [keysOf, h]
theorem lt_of_get {α : Type} {l : List α} {i : Nat} {x : α} (h : l[i]? = some x) : i < l.length := by
  rcases Nat.lt_or_ge i l.length with h' | h'
  · exact h'
  · simp [List.getElem?_eq_none h'] at h
/-! ### Tags behind a map -/
def tagU (p : Int × List UInt8) : List UInt8 := uvar p.1.toNat ++ uvar p.2.length ++ p.2
structure KvEl (H : Fz) (v : Value) (k : Int) (s : List UInt8) : Prop where
  val : ∃ a c, v = .slice a s.length c ∧ BytesAt H a c s
  lo : 0 ≤ k
  hi : k < 4294967296
theorem KvEl.mono {H H' : Fz} {v : Value} {k : Int} {s : List UInt8} (h : KvEl H v k s) (hle : H.le H') : KvEl H' v k s :=
  ⟨let ⟨a, c, h1, h2⟩ := h.val; ⟨a, c, h1, h2.mono hle⟩, h.lo, h.hi⟩
/-- A frozen map that says tags, here by rising numbers. -/
def KvAt (H : Fz) (m : Option Nat) (us : List (Int × List UInt8)) : Prop := ∃ kvs, MapF H m kvs ∧ kvs.length = us.length ∧ ∀ (i : Nat) k v, (sortKv kvs)[i]? = some (k, v) → ∃ s, us[i]? = some (k, s) ∧ KvEl H v k s
theorem KvAt.mono {H H' : Fz} {m : Option Nat} {us : List (Int × List UInt8)} (h : KvAt H m us) (hle : H.le H') : KvAt H' m us := by
  obtain ⟨kvs, h1, h2, h3⟩ := h
  exact ⟨kvs, h1.mono hle, h2, fun i k v hi => let ⟨s, h4, h5⟩ := h3 i k v hi; ⟨s, h4, h5.mono hle⟩⟩
theorem KvAt.nil (H : Fz) : KvAt H none [] := ⟨[], MapF.nil H, rfl, fun i k v h => by simp [sortKv, keysOf] at h⟩
theorem flatU_take {us : List (Int × List UInt8)} {i : Nat} {p : Int × List UInt8} (h : us[i]? = some p) : (us.take (i + 1)).flatMap tagU = (us.take i).flatMap tagU ++ tagU p := by
  rw [List.take_add_one, h]; simp [List.flatMap_append]
theorem flatU_le {us : List (Int × List UInt8)} {i : Nat} {p : Int × List UInt8} (h : us[i]? = some p) : ((us.take i).flatMap tagU).length + (tagU p).length ≤ (us.flatMap tagU).length := by
  have h1 := flatMap_take_le tagU us (i + 1)
  rw [flatU_take h] at h1
  simpa using h1
theorem Fn.flat {P : Program} {f : FuncId} {args : List Value} {H : Fz} {L L1 : Own} {R R1 : Value → Fz → Own → Prop} (h : Fn P f args H L1 R1) (hL : L1.flatten = L.flatten) (hR : ∀ v H' L', R1 v H' L' → ∃ L'', L''.flatten = L'.flatten ∧ R v H' L'') : Fn P f args H L R := by
  refine ⟨h.1, fun w hw => (h.2 w (hw.perm (by rw [hL]))).mono ?_⟩
  rintro e w' ⟨v, H', L', rfl, hle, hp, hr⟩
  obtain ⟨L'', h1, h2⟩ := hR v H' L' hr
  exact ⟨v, H', L'', rfl, hle, hp.perm (by rw [h1]), h2⟩
theorem mrgL {P : Program} {ops : Array Oper} {Q : Exit → Act → World → Prop} {os : List Oper} {n : Nat} {l : Env} {H : Fz} {A B : Chunk} {L : Own} (h : WL P ops Q os n l H ((A ++ B) :: L)) : WL P ops Q os n l H (A :: B :: L) := fun a w hA hw => h a w hA (hw.perm (by simp))
theorem splL {P : Program} {ops : Array Oper} {Q : Exit → Act → World → Prop} {os : List Oper} {n : Nat} {l : Env} {H : Fz} {A B : Chunk} {L : Own} (h : WL P ops Q os n l H (A :: B :: L)) : WL P ops Q os n l H ((A ++ B) :: L) := fun a w hA hw => h a w hA (hw.perm (by simp))
end Go.Sx

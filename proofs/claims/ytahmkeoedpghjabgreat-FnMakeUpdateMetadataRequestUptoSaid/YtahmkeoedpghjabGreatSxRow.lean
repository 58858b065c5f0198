/- Rows of elements of some cells each. -/
import Derived.Test.YtahmkeoedpghjabGreatBits
set_option linter.unusedVariables false
set_option linter.unusedSimpArgs false
namespace Go.Sx
theorem flatMap_len {α : Type} (f : α → List Value) (size : Nat) (hf : ∀ x, (f x).length = size) : ∀ es : List α, (es.flatMap f).length = es.length * size
  | [] => by simp
  | x :: es => by simp [flatMap_len f size hf es, hf, Nat.add_mul]; omega
theorem flatMap_drop {α : Type} (f : α → List Value) (size : Nat) (hf : ∀ x, (f x).length = size) : ∀ (es : List α) (j : Nat), (es.flatMap f).drop (j * size) = (es.drop j).flatMap f
  | [], j => by simp
  | x :: es, 0 => by simp
  | x :: es, j + 1 => by
    have h1 : (j + 1) * size = (f x).length + j * size := by rw [hf, Nat.add_mul]; omega
    simp only [List.flatMap_cons, List.drop_succ_cons]
    rw [h1, List.drop_append, Nat.add_sub_cancel_left, flatMap_drop f size hf es j]
    simp
theorem flatMap_take {α : Type} (f : α → List Value) (size : Nat) (hf : ∀ x, (f x).length = size) : ∀ (es : List α) (j : Nat), (es.flatMap f).take (j * size) = (es.take j).flatMap f
  | [], j => by simp
  | x :: es, 0 => by simp
  | x :: es, j + 1 => by
    have h1 : (j + 1) * size = (f x).length + j * size := by rw [hf, Nat.add_mul]; omega
    simp only [List.flatMap_cons, List.take_succ_cons]
    rw [h1, List.take_append, Nat.add_sub_cancel_left, flatMap_take f size hf es j, List.take_of_length_le (by omega)]
theorem flatMap_seg {α : Type} (f : α → List Value) (size : Nat) (hf : ∀ x, (f x).length = size) (es : List α) (j : Nat) (hj : j < es.length) : ((es.flatMap f).drop (j * size)).take size = f es[j] := by
  rw [flatMap_drop f size hf, List.drop_eq_getElem_cons hj, List.flatMap_cons, List.take_append_of_le_length (by rw [hf]; omega)]
  rw [← hf es[j], List.take_length]
theorem cut'_some (l : List Value) : ∀ n m, n + m ≤ l.length → cut' l n m = some ((l.drop n).take m) := by
  induction l with
  | nil => intro n m h; simp at h; obtain ⟨rfl, rfl⟩ := h; rfl
  | cons v l ih =>
    intro n m h
    cases n with
    | zero =>
      cases m with
      | zero => simp [cut']
      | succ m => simp only [cut']; rw [ih 0 m (by simp at h; omega)]; simp
    | succ n => simp only [cut']; rw [ih n m (by simp at h; omega)]; simp
theorem cut'_seg {α : Type} (f : α → List Value) (size : Nat) (hf : ∀ x, (f x).length = size) {es : List α} {j : Nat} (hj : j < es.length) : cut' (es.flatMap f) (j * size) size = some (f es[j]) := by
  rw [cut'_some _ _ _ (by rw [flatMap_len f size hf, ← Nat.succ_mul]; exact Nat.mul_le_mul_right _ hj), flatMap_seg f size hf es j hj]
/-- A frozen row's element. -/
theorem Fz.at.elem {α : Type} {H : Fz} {g : Nat} (f : α → List Value) (size : Nat) (hf : ∀ x, (f x).length = size) {es : List α} (h : H.at g 0 (es.flatMap f)) {j : Nat} (hj : j < es.length) : H.at g (0 + j * size) (f es[j]) := by
  have := h.part (j * size) size
  rwa [flatMap_seg f size hf es j hj] at this

section
variable {P : Program} {ops : Array Oper} {Q : Exit → Act → World → Prop} {rest : List Oper} {n : Nat} {l : Env} {H : Fz} {L : Own}
variable {d ty : Nat} {pos : String} {af : Array Edge}
/-- A row becomes frozen. -/
theorem frW {c : Code} {e size : Nat} {a : Option Addr} {m cap : Nat} {xs : List Value} {N : Chunk} {L' : Own} (hr : Row e size a m cap xs N) (hs : Sel L N L')
    (h : ∀ H', H.le H' → (a = none ∧ m = 0 ∧ cap = 0 ∨ ∃ g, a = some ⟨g, 0, none⟩ ∧ H'.at g 0 xs) → Wp P c Q n l H' L') : Wp P c Q n l H L := by
  intro a' w hA hw
  obtain ⟨H', h1, h2, h3⟩ := hr.freeze hs hw
  exact h H' h1 h3 a' w hA h2
theorem frL {os : List Oper} {e size : Nat} {a : Option Addr} {m cap : Nat} {xs : List Value} {N : Chunk} {L' : Own} (hr : Row e size a m cap xs N) (hs : Sel L N L')
    (h : ∀ H', H.le H' → (a = none ∧ m = 0 ∧ cap = 0 ∨ ∃ g, a = some ⟨g, 0, none⟩ ∧ H'.at g 0 xs) → WL P ops Q os n l H' L') : WL P ops Q os n l H L := by
  intro a' w hA hw
  obtain ⟨H', h1, h2, h3⟩ := hr.freeze hs hw
  exact h H' h1 h3 a' w hA h2
/-- A store into a row. -/
theorem sR {T b o e m size k cap : Nat} {xs ds : List Value} {N : Chunk} {x y : Operand} {F : Chunk → Own} {ad : Option Addr} (hr : Row e size ad k cap xs N) (had : ad = some ⟨b, 0, none⟩) (hF : ∀ N', Upd L N N' (F N')) (hz : ∀ w, (sizeOf T).run P w = .ok m w)
    (hx : get l x = some (.pointer (some ⟨b, o, none⟩))) (hy : get l y = some (.agg ds.toArray)) (hm : ds.length = m) (h1 : ds.all (·.oneCell') = true) (hle : o + m ≤ k * size)
    (h : ∀ N', Row e size ad k cap (xs.take o ++ ds ++ xs.drop (o + m)) N' → WL P ops Q rest n l H (F N')) : WL P ops Q (⟨none, .store T x y, ty, pos, af, none⟩ :: rest) n l H L :=
  WL.skw rfl rfl (fun a w hA hw => by
    subst had
    rcases hr.2 with ⟨h0, _⟩ | ⟨g, cur, h0, rfl, hkc, hcm, hcs, htake⟩
    · cases h0
    cases h0
    have hb := (hF []).here hw (List.mem_singleton.2 rfl)
    have hoc : o + m ≤ cur.size := by rw [hcs]; exact Nat.le_trans hle (Nat.mul_le_mul_right _ hkc)
    have hst := run_storeCells_at P b o e ds 0 cur w hb (by omega) (by simpa using h1)
    simp only [Nat.add_zero] at hst
    refine ⟨w.setRow b (cur.toList.take o ++ ds ++ cur.toList.drop (o + ds.length)).toArray, H, F [(b, .cells (cur.toList.take o ++ ds ++ cur.toList.drop (o + ds.length)).toArray e (0, 0))], by simp [execOp, hA.get hx, hA.get hy, Instr.storeAt, Instr.sureAddr, storeVar, hz, Value.cells, hm, hst], setRow_turn hw (hF _), h _ ⟨?_, .inr ⟨b, _, rfl, rfl, hkc, hcm, ?_, ?_⟩⟩⟩
    · have := hr.1
      simp only [List.length_append, List.length_take, List.length_drop]; omega
    · simp only [List.size_toArray, List.length_append, List.length_take, List.length_drop, Array.length_toList]; omega
    · subst hm
      rw [← htake]
      apply List.ext_getElem?
      intro i
      simp only [List.getElem?_take, List.getElem?_append, List.length_append, List.length_take, Array.length_toList, List.getElem?_drop]
      have hmin : min o cur.size = o := by omega
      have hmin2 : min o (min (k * size) cur.size) = o := by omega
      simp only [hmin, hmin2]
      by_cases h3 : i < k * size
      · simp only [h3, if_true]
        by_cases h4 : i < o + ds.length
        · simp only [h4, if_true]
        · simp only [h4, if_false]
          have : o + ds.length + (i - (o + ds.length)) < k * size := by omega
          simp [this]
      · have h5 : ¬ i < o := by omega
        have h6 : ¬ i < o + ds.length := by omega
        have h7 : ¬ (o + ds.length + (i - (o + ds.length)) < k * size) := by omega
        simp [h3, h6, h7])
end

theorem GC.len (p : GC × (Int × List UInt8)) : (p.1.cells p.2).length = 2 := rfl
theorem TC.len (p : TC × Tr) : (p.1.cells p.2).length = 5 := rfl
/-- Tags in a frozen row. -/
theorem TagsAt.row {H : Fz} {a : Option Addr} {m cap : Nat} {es : List (GC × (Int × List UInt8))} (h : a = none ∧ m = 0 ∧ cap = 0 ∨ ∃ g, a = some ⟨g, 0, none⟩ ∧ H.at g 0 (es.flatMap fun p => p.1.cells p.2)) (hm : m = es.length) (hc : m ≤ cap) (hb : es.length * 32 ≤ B47)
    (he : ∀ p ∈ es, TagAt H p.1 p.2) : TagsAt H a cap (es.map (·.2)) := by
  refine ⟨fun hne => ?_, by simp; omega, by simpa using hb⟩
  rcases h with ⟨_, h0, _⟩ | ⟨g, rfl, h1⟩
  · have : es = [] := List.eq_nil_of_length_eq_zero (by omega)
    subst this; simp at hne
  · refine ⟨g, 0, rfl, fun i hi => ?_⟩
    have hi' : i < es.length := by simpa using hi
    exact ⟨es[i].1, by simpa using h1.elem _ 2 GC.len hi', by simpa using he _ (List.getElem_mem hi')⟩
theorem TreesAt.row {H : Fz} {a : Option Addr} {m cap : Nat} {es : List (TC × Tr)} (h : a = none ∧ m = 0 ∧ cap = 0 ∨ ∃ g, a = some ⟨g, 0, none⟩ ∧ H.at g 0 (es.flatMap fun p => p.1.cells p.2)) (hm : m = es.length) (hc : m ≤ cap) (hb : es.length * 88 ≤ B47)
    (he : ∀ p ∈ es, TreeAt H p.1 p.2) : TreesAt H a cap (es.map (·.2)) := by
  refine ⟨fun hne => ?_, by simp; omega, by simpa using hb⟩
  rcases h with ⟨_, h0, _⟩ | ⟨g, rfl, h1⟩
  · have : es = [] := List.eq_nil_of_length_eq_zero (by omega)
    subst this; simp at hne
  · refine ⟨g, 0, rfl, fun i hi => ?_⟩
    have hi' : i < es.length := by simpa using hi
    exact ⟨es[i].1, by simpa using h1.elem _ 5 TC.len hi', by simpa using he _ (List.getElem_mem hi')⟩
end Go.Sx

/- Known tags: what is written of a part that has some. -/
import Derived.Test.YtpcgaheplmiglaaGreatOkL
set_option linter.unusedVariables false
set_option linter.unusedSimpArgs false
namespace Go.Sx
/-- where the field of a tag stands -/
def tgI (fs : List Fd) (t : Nat) : Nat := fs.findIdx (fun f => decide (f.tag = (t : Int)))
/-- whether the field of a tag is as usual, or there is none -/
def tgU (fs : List Fd) (x : Tr) (t : Nat) : Bool := match fs[tgI fs t]? with
  | some f => fieldU f (x.at (tgI fs t))
  | none => true
/-- what is written of a tag -/
def tgO (fs : List Fd) (v : Int) (x : Tr) (t : Nat) : List UInt8 := match fs[tgI fs t]? with
  | some f => tagB t (fieldB f v true (x.at (tgI fs t)))
  | none => []
/-- the tags that are written -/
def encT (u : Nat → Bool) (n : Nat) : List Nat := (List.range n).filter (fun t => !u t)
theorem encT_zero (u : Nat → Bool) : encT u 0 = [] := rfl
theorem encT_yes {u : Nat → Bool} {n : Nat} (h : u n = false) : encT u (n + 1) = encT u n ++ [n] := by
  unfold encT; rw [List.range_succ, List.filter_append]; simp [h]
theorem encT_no {u : Nat → Bool} {n : Nat} (h : u n = true) : encT u (n + 1) = encT u n := by
  unfold encT; rw [List.range_succ, List.filter_append]; simp [h]
theorem encT_mem {u : Nat → Bool} {n t : Nat} (h : t ∈ encT u n) : t < n ∧ u t = false := by
  unfold encT at h
  rw [List.mem_filter, List.mem_range] at h
  exact ⟨h.1, by simpa using h.2⟩
theorem encT_len (u : Nat → Bool) (n : Nat) : (encT u n).length ≤ n := by
  unfold encT
  exact Nat.le_trans (List.length_filter_le _ _) (by simp)
/-- each tag but once -/
def Once (fs : List Fd) : Prop := fs.Pairwise (fun f g => f.tag < 0 ∨ f.tag ≠ g.tag)
instance (fs : List Fd) : Decidable (Once fs) := inferInstanceAs (Decidable (List.Pairwise _ fs))
theorem tags_one {t : Nat} : ∀ (zs : List ZF), (zs.map (·.1)).Pairwise (fun f g => f.tag < 0 ∨ f.tag ≠ g.tag) →
    zs.filterMap (tagP t) = match zs[zs.findIdx (fun z => decide (z.1.tag = (t : Int)))]? with | some z => (tagP t z).toList | none => []
  | [], _ => by simp
  | z :: r, h => by
    rw [List.map_cons, List.pairwise_cons] at h
    by_cases ht : z.1.tag = (t : Int)
    · have hi : (z :: r).findIdx (fun z => decide (z.1.tag = (t : Int))) = 0 := by rw [List.findIdx_cons]; simp [ht]
      have hr : r.filterMap (tagP t) = [] := by
        rw [List.filterMap_eq_nil_iff]
        intro y hy
        have h1 := h.1 y.1 (List.mem_map.2 ⟨y, hy, rfl⟩)
        have h2 : ¬ y.1.tag = (t : Int) := by omega
        simp [tagP, h2]
      rw [hi]
      cases hq : tagP t z with
      | none => simp [hq, hr]
      | some b => simp [hq, hr]
    · have hi : (z :: r).findIdx (fun z => decide (z.1.tag = (t : Int))) = r.findIdx (fun z => decide (z.1.tag = (t : Int))) + 1 := by rw [List.findIdx_cons]; simp [ht]
      have hq : tagP t z = none := by simp [tagP, ht]
      rw [hi, List.filterMap_cons_none hq, List.getElem?_cons_succ]
      exact tags_one r h.2
theorem zipped_fst (fs : List Fd) (v : Int) (flex : Bool) (x : Tr) : (zipped fs v flex x).map (·.1) = fs := by
  unfold zipped
  exact List.map_fst_zip (by rw [fieldsB_length]; omega)
theorem tags_at {fs : List Fd} {v : Int} {x : Tr} {t : Nat} (h : Once fs) : (zipped fs v true x).filterMap (tagP t) = if tgU fs x t then [] else [tgO fs v x t] := by
  have hz := zipped_fst fs v true x
  rw [tags_one _ (by rw [hz]; exact h)]
  have hi : (zipped fs v true x).findIdx (fun z => decide (z.1.tag = (t : Int))) = tgI fs t := by
    unfold tgI
    conv => rhs; rw [← hz, List.findIdx_map]
    rfl
  rw [hi]
  unfold tgU tgO
  by_cases hl : tgI fs t < fs.length
  · have hg := zipped_get (v := v) (flex := true) (t := x) hl
    rw [List.getElem?_eq_getElem hl, List.getElem?_eq_getElem (show tgI fs t < (zipped fs v true x).length by rw [zipped_length]; exact hl), hg]
    have hp : decide ((fs[tgI fs t]).tag = (t : Int)) = true := List.findIdx_getElem (xs := fs) (p := fun f : Fd => decide (f.tag = (t : Int))) (w := hl)
    have hp' := of_decide_eq_true hp
    simp only [tagP, hp']
    cases fieldU fs[tgI fs t] (x.at (tgI fs t)) <;> simp
  · rw [List.getElem?_eq_none (show fs.length ≤ tgI fs t by omega), List.getElem?_eq_none (show (zipped fs v true x).length ≤ tgI fs t by rw [zipped_length]; omega)]
    rfl
theorem flat_enc {β : Type} (u : Nat → Bool) (g : Nat → β) : ∀ l : List Nat, (l.flatMap fun t => if u t then [] else [g t]) = (l.filter fun t => !u t).map g
  | [] => rfl
  | t :: r => by
    rw [List.flatMap_cons, flat_enc u g r, List.filter_cons]
    cases u t <;> simp
theorem tags_enc {fs : List Fd} {v : Int} {x : Tr} (h : Once fs) (n : Nat) : tagsTo (zipped fs v true x) n 0 = (encT (tgU fs x) n).map (tgO fs v x) := by
  unfold tagsTo encT
  rw [List.take_zero, List.filterMap_nil, List.append_nil, ← flat_enc]
  congr 1
  funext t
  exact tags_at h
/-- the count ahead of the tags -/
def tgN (fs : List Fd) (x : Tr) : Nat := (encT (tgU fs x) (known fs)).length + x.u.length
theorem partB_tags {fs : List Fd} {v : Int} {x : Tr} (h : Once fs) (hu : OkU fs x.u) : partB fs v true x = plainTo (zipped fs v true x) v fs.length ++ uvar (tgN fs x) ++ (encT (tgU fs x) (known fs)).flatMap (tgO fs v x) ++ x.u.flatMap tagU := by
  rw [partB_true, hu.1, tags_enc h, List.length_append, List.length_map, unkTo_len, List.flatten_append, unkTo_all hu.2.2, ← List.flatMap_def, ← List.append_assoc]
  rfl
theorem tags_close {fs : List Fd} {v : Int} {x : Tr} {B : List UInt8} (h : Once fs) (hu : OkU fs x.u) :
    B ++ plainTo (zipped fs v true x) v fs.length ++ uvar (tgN fs x) ++ (encT (tgU fs x) (known fs)).flatMap (tgO fs v x) ++ x.u.flatMap tagU = B ++ partB fs v true x := by
  rw [partB_tags h hu]; simp only [List.append_assoc]
theorem tagsW_size {fs : List Fd} {v : Int} {x : Tr} {B : List UInt8} (h : Once fs) (hu : OkU fs x.u) (hB : B.length + (partB fs v true x).length ≤ LIM) :
    (B ++ plainTo (zipped fs v true x) v fs.length).length + (uvar (tgN fs x)).length ≤ LIM ∧
    (∀ k (hk : k < (encT (tgU fs x) (known fs)).length), (B ++ plainTo (zipped fs v true x) v fs.length ++ uvar (tgN fs x) ++ ((encT (tgU fs x) (known fs)).take k).flatMap (tgO fs v x)).length + (tgO fs v x (encT (tgU fs x) (known fs))[k]).length ≤ LIM) ∧
    (B ++ plainTo (zipped fs v true x) v fs.length ++ uvar (tgN fs x) ++ (encT (tgU fs x) (known fs)).flatMap (tgO fs v x)).length + (x.u.flatMap tagU).length ≤ LIM := by
  rw [partB_tags h hu] at hB
  simp only [List.length_append] at hB ⊢
  refine ⟨by omega, fun k hk => ?_, by omega⟩
  have h1 := flatMap_step_le (tgO fs v x) hk
  omega
theorem tagB_len (k : Nat) (b : List UInt8) : (tagB k b).length = (uvar k).length + (uvar b.length).length + b.length := by simp [tagB]; omega
end Go.Sx

/- How long what is written can be: at most a number of the schema times the tree's weight. -/
import Derived.Test.YtahmkeoedpghjabGreatRowT
set_option linter.unusedVariables false
set_option linter.unusedSimpArgs false
namespace Go.Sx
theorem uvar_64 : ∀ (n m : Nat), m ≤ n → (uvar m).length ≤ m / 64 + 1 := by
  intro n
  induction n with
  | zero => intro m h; have : m = 0 := by omega
            subst this; rw [uvar]; simp
  | succ n ih =>
    intro m h
    rw [uvar]
    split
    · have := ih (m / 128) (by omega)
      simp only [List.length_cons]; omega
    · simp
theorem uvar64 (m : Nat) : (uvar m).length ≤ m / 64 + 1 := uvar_64 m m (Nat.le_refl _)
theorem wt_pos (t : Tr) : 1 ≤ wt t := by cases t; simp only [wt]; omega
theorem wt_s (t : Tr) : t.s.length + 1 ≤ wt t := by cases t; simp only [wt, Tr.s]; omega
theorem wt_l (t : Tr) : wts t.l + 1 ≤ wt t := by cases t; simp only [wt, Tr.l]; omega
theorem wt_u (t : Tr) : wtu t.u + 1 ≤ wt t := by cases t; simp only [wt, Tr.u]; omega
theorem wts_mem {x : Tr} : ∀ {l : List Tr}, x ∈ l → wt x ≤ wts l
  | y :: r, h => by
    simp only [wts]
    rcases List.mem_cons.1 h with rfl | h
    · omega
    · have := wts_mem h; omega
theorem wt_at (t : Tr) (i : Nat) : wt (t.at i) ≤ wt t := by
  unfold Tr.at
  cases hq : t.l[i]? with
  | none => exact wt_pos t
  | some x => have h1 := wts_mem (List.mem_of_getElem? hq); have h2 := wt_l t; show wt x ≤ _; omega
theorem wts_take (l : List Tr) (k : Nat) : wts (l.take k) ≤ wts l := by
  induction l generalizing k with
  | nil => simp [wts]
  | cons x r ih => cases k with
    | zero => simp [wts]
    | succ k => simp only [List.take_succ_cons, wts]; have := ih k; omega
theorem wtu_take (l : List (Int × List UInt8)) (k : Nat) : wtu (l.take k) ≤ wtu l := by
  induction l generalizing k with
  | nil => simp [wtu]
  | cons x r ih => cases k with
    | zero => simp [wtu]
    | succ k => simp only [List.take_succ_cons, wtu]; have := ih k; omega
theorem wtu_insTag (k : Int) (v : List UInt8) : ∀ l, wtu (insTag k v l) ≤ wtu l + 1 + v.length
  | [] => by simp [insTag, wtu]
  | (k', v') :: r => by
    simp only [insTag]
    split
    · simp only [wtu]; have := wtu_insTag k v r; omega
    · split <;> simp only [wtu] <;> omega
theorem wtu_unknownFrom (least : Int) : ∀ (us acc : List (Int × List UInt8)), wtu (unknownFrom least acc us) ≤ wtu acc + wtu us
  | [], acc => by simp [unknownFrom, wtu]
  | (k, v) :: us, acc => by
    simp only [unknownFrom, wtu]
    split
    · have := wtu_unknownFrom least us acc; omega
    · have h1 := wtu_unknownFrom least us (insTag k v acc)
      have h2 := wtu_insTag k v acc
      omega
theorem wtu_unknown (fs : List Fd) (us : List (Int × List UInt8)) : wtu (unknown fs us) ≤ wtu us := by
  unfold unknown
  have h1 := wtu_unknownFrom (known fs) (us.take most) []
  have h2 := wtu_take us most
  simp only [wtu] at h1; omega
theorem mem_insTag {k : Int} {v : List UInt8} {x : Int × List UInt8} : ∀ {l}, x ∈ insTag k v l → x = (k, v) ∨ x ∈ l
  | [], h => by simp [insTag] at h; exact .inl h
  | (k', v') :: r, h => by
    simp only [insTag] at h
    split at h
    · rcases List.mem_cons.1 h with rfl | h
      · exact .inr List.mem_cons_self
      · rcases mem_insTag h with h | h
        · exact .inl h
        · exact .inr (List.mem_cons_of_mem _ h)
    · split at h
      · exact .inr h
      · rcases List.mem_cons.1 h with rfl | h
        · exact .inl rfl
        · exact .inr h
theorem mem_unknownFrom {least : Int} {x : Int × List UInt8} : ∀ {us acc}, x ∈ unknownFrom least acc us → x ∈ acc ∨ x ∈ us
  | [], acc, h => .inl h
  | (k, v) :: us, acc, h => by
    simp only [unknownFrom] at h
    rcases mem_unknownFrom h with h | h
    · split at h
      · exact .inl h
      · rcases mem_insTag h with rfl | h
        · exact .inr List.mem_cons_self
        · exact .inl h
    · exact .inr (List.mem_cons_of_mem _ h)
theorem mem_unknown {fs : List Fd} {us : List (Int × List UInt8)} {x : Int × List UInt8} (h : x ∈ unknown fs us) : x ∈ us := by
  rcases mem_unknownFrom h with h | h
  · cases h
  · exact List.mem_of_mem_take h
inductive KeyOK : Tr → Prop
  | mk (t : Tr) (hu : ∀ x ∈ t.u, x.1.toNat < 4294967296) (hl : ∀ x ∈ t.l, KeyOK x) : KeyOK t
mutual
def costF : Fd → Nat
  | .mk _ _ _ _ _ _ _ sub => 26 + costFs sub
def costFs : List Fd → Nat
  | [] => 60
  | f :: r => (if f.tag < 0 then costF f else 2 * (costF f + costF f / 64 + f.tag.toNat + 40)) + costFs r
end
theorem costF_eq (f : Fd) : costF f = 26 + costFs f.sub := by cases f; rw [costF]; rfl
theorem le_mul (k n : Nat) (hn : 1 ≤ n) : k ≤ k * n := Nat.le_mul_of_pos_right k hn
/-- a value, if the part is bounded -/
theorem valueB_cost {kind : Int} {part : Tr → List UInt8} {nul flex : Bool} {t : Tr} {K : Nat} (hp : (part t).length ≤ K * wt t) : (valueB kind part nul flex t).length ≤ (16 + K) * wt t := by
  have h1 := wt_pos t
  have h2 := wt_s t
  have hw := whole_len t.s
  rw [Nat.add_mul]
  have hc : ∀ size, size ≤ 8 → ∀ s : List UInt8, s = [] ∨ s = whole t.s → (counted flex nul s.length size ++ s).length ≤ 16 * wt t := by
    intro size hs s h
    have : s.length ≤ min t.s.length 32767 := by
      rcases h with rfl | rfl
      · simp
      · omega
    have := counted_len (flex := flex) (nul := nul) (n := s.length) (size := size) (by omega) hs
    rw [List.length_append]; omega
  unfold valueB
  split
  · simp; omega
  · split
    · simp only [List.length_append, List.length_take, List.length_replicate]; omega
    · split
      · have := hc 2 (by omega) (if nul then [] else whole t.s) (by cases nul <;> simp); simp only at this ⊢; omega
      · split
        · have := hc 4 (by omega) (if nul then [] else whole t.s) (by cases nul <;> simp); simp only at this ⊢; omega
        · split
          · omega
          · rw [fixed_length]; have := width_le kind; omega
theorem flatMap_cost {g : Tr → List UInt8} {K : Nat} : ∀ l : List Tr, (∀ x ∈ l, (g x).length ≤ K * wt x) → (l.flatMap g).length ≤ K * wts l
  | [], _ => by simp
  | x :: r, h => by
    have h1 := h x List.mem_cons_self
    have h2 := flatMap_cost r (fun y hy => h y (List.mem_cons_of_mem _ hy))
    simp only [List.flatMap_cons, List.length_append, wts, Nat.mul_add]; omega
theorem KeyOK.l {t x : Tr} (h : KeyOK t) (hx : x ∈ t.l) : KeyOK x := by cases h with | mk _ _ hl => exact hl x hx
theorem KeyOK.at {t : Tr} (h : KeyOK t) (i : Nat) : KeyOK (t.at i) := by
  unfold Tr.at
  cases hq : t.l[i]? with
  | none => exact .mk _ (fun x hx => by simp [Tr.u, Tr.none] at hx) (fun x hx => by simp [Tr.l, Tr.none] at hx)
  | some x => exact h.l (List.mem_of_getElem? hq)
/-- a field, if its parts are bounded -/
theorem fieldB_cost {f : Fd} {v : Int} {flex : Bool} (hp : ∀ t, KeyOK t → (partB f.sub v flex t).length ≤ costFs f.sub * wt t) {t : Tr} (ht : KeyOK t) : (fieldB f v flex t).length ≤ costF f * wt t := by
  have h1 := wt_pos t
  rw [fieldB_eq, costF_eq]
  unfold fieldB'
  split
  · have hl : ∀ l : List Tr, (l = [] ∨ l = t.things) → (counted flex (f.isNul v t) l.length 4 ++ l.flatMap (valueB f.of (partB f.sub v flex) false flex)).length ≤ (26 + costFs f.sub) * wt t := by
      intro l hl
      have hlen : l.length ≤ 32767 := by
        rcases hl with rfl | rfl
        · simp
        · show (t.l.take most).length ≤ _; rw [take_most_len]; omega
      have hc := counted_len (flex := flex) (nul := f.isNul v t) (n := l.length) (size := 4) hlen (by omega)
      have hm : ∀ x ∈ l, x ∈ t.l := by
        rcases hl with rfl | rfl
        · simp
        · exact fun x hx => List.mem_of_mem_take hx
      have hf := flatMap_cost (g := valueB f.of (partB f.sub v flex) false flex) (K := 16 + costFs f.sub) l (fun x hx => valueB_cost (hp x (ht.l (hm x hx))))
      have hw : wts l ≤ wts t.l := by
        rcases hl with rfl | rfl
        · simp [wts]
        · exact wts_take _ _
      have h2 := wt_l t
      have h3 : (16 + costFs f.sub) * wts l ≤ (16 + costFs f.sub) * wt t := Nat.mul_le_mul_left _ (by omega)
      have e : (26 + costFs f.sub) * wt t = 10 * wt t + (16 + costFs f.sub) * wt t := by rw [← Nat.add_mul]; congr 1; omega
      rw [List.length_append, e]; omega
    cases hn : f.isNul v t with
    | true => simpa [hn] using hl [] (.inl rfl)
    | false => simpa [hn] using hl t.things (.inr rfl)
  · have hpt := hp t ht
    have e : (26 + costFs f.sub) * wt t = 26 * wt t + costFs f.sub * wt t := Nat.add_mul _ _ _
    split
    · show (if f.isNul v t = true then fixed (-1) 1 else fixed 1 1 ++ partB f.sub v flex t).length ≤ _
      split
      · rw [fixed_length]; omega
      · rw [List.length_append, fixed_length]; omega
    · show (valueB f.kind (partB f.sub v flex) (f.isNul v t) flex t).length ≤ _
      have := valueB_cost (kind := f.kind) (nul := f.isNul v t) (flex := flex) hpt
      have e2 : (16 + costFs f.sub) * wt t = 16 * wt t + costFs f.sub * wt t := Nat.add_mul _ _ _
      omega
/-! ### A part -/
def plainCost : List Fd → Nat
  | [] => 0
  | f :: r => (if f.tag < 0 then costF f else 0) + plainCost r
def tagCost : List Fd → Nat
  | [] => 0
  | f :: r => (if f.tag < 0 then 0 else costF f + costF f / 64 + f.tag.toNat + 40) + tagCost r
theorem costFs_eq (fs : List Fd) : costFs fs = 60 + plainCost fs + 2 * tagCost fs := by
  induction fs with
  | nil => rw [costFs]; rfl
  | cons f r ih => rw [costFs, ih]; simp only [plainCost, tagCost]; split <;> omega
def GT (n : Nat) (x : ZF) : Nat := ((List.range n).filterMap (fun tg => tagP tg x)).flatten.length
theorem GT_le (n : Nat) (x : ZF) : GT n x ≤ if x.1.tag < 0 then 0 else if x.1.tag < (n : Int) then (tagB x.1.tag.toNat x.2.1).length else 0 := by
  induction n with
  | zero => simp [GT]
  | succ n ih =>
    unfold GT at ih ⊢
    rw [List.range_succ, List.filterMap_append, List.flatten_append, List.length_append]
    by_cases h : x.1.tag = (n : Int)
    · have hn : ¬ x.1.tag < 0 := by omega
      rw [if_neg hn, if_neg (by omega)] at ih
      rw [if_neg hn, if_pos (by omega)]
      have e : x.1.tag.toNat = n := by omega
      rw [e]
      have : (List.filterMap (fun tg => tagP tg x) [n]).flatten.length ≤ (tagB n x.2.1).length := by
        simp only [tagP, List.filterMap_cons, List.filterMap_nil]
        cases x.2.2 <;> simp [h]
      omega
    · have : List.filterMap (fun tg => tagP tg x) [n] = [] := by simp [tagP, h]
      rw [this]
      simp only [List.flatten_nil, List.length_nil, Nat.add_zero]
      refine Nat.le_trans ih ?_
      split
      · omega
      · split
        · rw [if_pos (by omega)]; omega
        · omega
theorem tags_sum (n : Nat) : ∀ zs : List ZF, ((List.range n).flatMap (fun tg => zs.filterMap (tagP tg))).flatten.length = (zs.map (GT n)).sum := by
  intro zs
  induction n with
  | zero =>
    have : ∀ zs : List ZF, (zs.map (GT 0)).sum = 0 := by intro zs; induction zs with
      | nil => rfl
      | cons x r ih => simp [GT]; simpa [GT] using ih
    simp [this]
  | succ n ih =>
    rw [List.range_succ, List.flatMap_append, List.flatten_append, List.length_append, ih]
    have h1 : ([n].flatMap fun tg => zs.filterMap (tagP tg)) = zs.filterMap (tagP n) := by simp
    rw [h1]
    clear ih h1
    induction zs with
    | nil => rfl
    | cons x r ih2 =>
      simp only [List.map_cons, List.sum_cons]
      have h2 : GT (n + 1) x = GT n x + (tagP n x).toList.flatten.length := by
        unfold GT
        rw [List.range_succ, List.filterMap_append, List.flatten_append, List.length_append]
        cases hq : tagP n x <;> simp [hq]
      have h3 : ((x :: r).filterMap (tagP n)).flatten.length = (tagP n x).toList.flatten.length + (r.filterMap (tagP n)).flatten.length := by
        cases hq : tagP n x <;> simp [hq]
      rw [h2, h3, ← ih2]; omega
theorem plain_cost {v : Int} {flex : Bool} {t : Tr} (ht : KeyOK t) : ∀ (fs : List Fd) (i : Nat), (∀ f ∈ fs, ∀ t, KeyOK t → (fieldB f v flex t).length ≤ costF f * wt t) → ((fs.zip (fieldsB fs v flex i t)).flatMap (pieceP v)).length ≤ plainCost fs * wt t
  | [], _, _ => by simp [fieldsB]
  | f :: r, i, h => by
    have h1 := h f List.mem_cons_self (t.at i) (ht.at i)
    have h2 := plain_cost ht r (i + 1) (fun g hg => h g (List.mem_cons_of_mem _ hg))
    have h3 : costF f * wt (t.at i) ≤ costF f * wt t := Nat.mul_le_mul_left _ (wt_at t i)
    rw [fieldsB, List.zip_cons_cons, List.flatMap_cons, List.length_append]
    simp only [plainCost, Nat.add_mul]
    have h4 : (pieceP v (f, fieldB f v flex (t.at i), fieldU f (t.at i))).length ≤ (if f.tag < 0 then costF f else 0) * wt t := by
      unfold pieceP
      by_cases hg : f.tag < 0
      · rw [if_pos hg]; simp only; split
        · omega
        · simp
      · rw [if_neg hg]; simp [hg]
    omega
theorem tag_cost {v : Int} {flex : Bool} {t : Tr} (ht : KeyOK t) (n : Nat) : ∀ (fs : List Fd) (i : Nat), (∀ f ∈ fs, ∀ t, KeyOK t → (fieldB f v flex t).length ≤ costF f * wt t) → ((fs.zip (fieldsB fs v flex i t)).map (GT n)).sum ≤ tagCost fs * wt t
  | [], _, _ => by simp [fieldsB]
  | f :: r, i, h => by
    have h1 := h f List.mem_cons_self (t.at i) (ht.at i)
    have h2 := tag_cost ht n r (i + 1) (fun g hg => h g (List.mem_cons_of_mem _ hg))
    have h3 : costF f * wt (t.at i) ≤ costF f * wt t := Nat.mul_le_mul_left _ (wt_at t i)
    have hw := wt_pos t
    rw [fieldsB, List.zip_cons_cons, List.map_cons, List.sum_cons]
    simp only [tagCost, Nat.add_mul]
    have h4 : GT n (f, fieldB f v flex (t.at i), fieldU f (t.at i)) ≤ (if f.tag < 0 then 0 else costF f + costF f / 64 + f.tag.toNat + 40) * wt t := by
      refine Nat.le_trans (GT_le n _) ?_
      simp only
      by_cases hg : f.tag < 0
      · rw [if_pos hg, if_pos hg]; simp
      · rw [if_neg hg, if_neg hg]
        split
        · simp only [tagB, List.length_append]
          have g1 := uvar64 f.tag.toNat
          have g2 := uvar64 (fieldB f v flex (t.at i)).length
          have g3 : (fieldB f v flex (t.at i)).length ≤ costF f * wt t := by omega
          have g4 : (fieldB f v flex (t.at i)).length / 64 ≤ (costF f / 64 + 1) * wt t := by
            have e1 : costF f ≤ 64 * (costF f / 64 + 1) := by omega
            have e2 : costF f * wt t ≤ 64 * (costF f / 64 + 1) * wt t := Nat.mul_le_mul_right _ e1
            rw [Nat.mul_assoc] at e2
            omega
          have g5 : f.tag.toNat ≤ f.tag.toNat * wt t := le_mul _ _ hw
          have e3 : (costF f + costF f / 64 + f.tag.toNat + 40) * wt t = costF f * wt t + (costF f / 64 + 1) * wt t + f.tag.toNat * wt t + 39 * wt t := by
            rw [← Nat.add_mul, ← Nat.add_mul, ← Nat.add_mul]; congr 1; omega
          rw [e3]; omega
        · omega
    omega
theorem unk_cost : ∀ (us : List (Int × List UInt8)), (∀ x ∈ us, x.1.toNat < 4294967296) → ((us.map fun x => tagB x.1.toNat (whole x.2)).flatten).length ≤ 20 * wtu us
  | [], _ => by simp
  | (k, b) :: r, h => by
    have h1 := unk_cost r (fun x hx => h x (List.mem_cons_of_mem _ hx))
    have h2 := h (k, b) List.mem_cons_self
    simp only at h2
    have g1 := uvar_len 4 k.toNat (by omega)
    have g2 := whole_len b
    have g3 := uvar_len 2 (whole b).length (by omega)
    have g4 : (tagB k.toNat (whole b)).length = (uvar k.toNat).length + (uvar (whole b).length).length + (whole b).length := by simp [tagB]; omega
    simp only [List.map_cons, List.flatten_cons, List.length_append, wtu, g4]
    omega
theorem wtu_len (l : List (Int × List UInt8)) : l.length ≤ wtu l := by
  induction l with
  | nil => simp
  | cons x r ih => simp only [List.length_cons, wtu]; omega
theorem part_cost {fs : List Fd} {v : Int} {flex : Bool} {t : Tr} (ht : KeyOK t) (h : ∀ f ∈ fs, ∀ t, KeyOK t → (fieldB f v flex t).length ≤ costF f * wt t) : (partB fs v flex t).length ≤ costFs fs * wt t := by
  have h1 := plain_cost (v := v) (flex := flex) ht fs 0 h
  have h2 := tag_cost (v := v) (flex := flex) ht (known fs) fs 0 h
  have hw := wt_pos t
  have hu := wt_u t
  have hun := wtu_unknown fs t.u
  have hk : ∀ x ∈ unknown fs t.u, x.1.toNat < 4294967296 := fun x hx => by cases ht with | mk _ hu _ => exact hu x (mem_unknown hx)
  have h3 := unk_cost (unknown fs t.u) hk
  have hul := wtu_len (unknown fs t.u)
  have h4 := tags_sum (known fs) (zipped fs v flex t)
  have h5 := tagsTo_count (zs := zipped fs v flex t) (tag := known fs) (i := 0)
  have e1 : (tagsTo (zipped fs v flex t) (known fs) 0).flatten.length = ((zipped fs v flex t).map (GT (known fs))).sum := by
    rw [← h4]; simp [tagsTo]
  have e2 : plainTo (zipped fs v flex t) v fs.length = (fs.zip (fieldsB fs v flex 0 t)).flatMap (pieceP v) := by
    unfold plainTo
    rw [List.take_of_length_le (by rw [zipped_length]; exact Nat.le_refl _)]; rfl
  have e3 : (unkTo (unknown fs t.u) (unknown fs t.u).length).flatten.length = ((unknown fs t.u).map fun x => tagB x.1.toNat (whole x.2)).flatten.length := by
    unfold unkTo; rw [List.take_length]
  have e4 : (unkTo (unknown fs t.u) (unknown fs t.u).length).length = (unknown fs t.u).length := by
    unfold unkTo; rw [List.take_length, List.length_map]
  have h2' : ((zipped fs v flex t).map (GT (known fs))).sum ≤ tagCost fs * wt t := h2
  rw [costFs_eq, partB_eq, Nat.add_mul, Nat.add_mul, Nat.mul_assoc]
  cases flex with
  | false => simp only [Bool.not_false, if_true]; rw [e2]; omega
  | true =>
    simp only [Bool.not_true, Bool.false_eq_true, if_false]
    rw [List.flatten_append]
    simp only [List.length_append]
    have g := uvar64 ((tagsTo (zipped fs v true t) (known fs) 0).length + (unkTo (unknown fs t.u) (unknown fs t.u).length).length)
    rw [e2]
    omega
theorem costs (fs : List Fd) (v : Int) (flex : Bool) : ∀ t, KeyOK t → (partB fs v flex t).length ≤ costFs fs * wt t := by
  induction hsz : SizeOf.sizeOf fs using Nat.strongRecOn generalizing fs with
  | _ sz ih =>
    intro t ht
    refine part_cost ht fun f hf t ht => fieldB_cost (fun t ht => ih _ ?_ f.sub rfl t ht) ht
    have h1 := List.sizeOf_lt_of_mem hf
    have h2 : SizeOf.sizeOf f.sub < SizeOf.sizeOf f := by cases f; simp [Fd.sub]; omega
    omega
theorem TreeAt.keys {H : Fz} {c : TC} {t : Tr} (h : TreeAt H c t) : KeyOK t := by
  induction h with
  | mk c t hs hu hc hb b o ec ha hat _ ih =>
    refine .mk t (fun x hx => ?_) (fun x hx => ?_)
    · obtain ⟨i, hi, rfl⟩ := List.mem_iff_getElem.1 hx
      obtain ⟨b, o, _, h2⟩ := hu.at_ (ne_nil_of_lt hi)
      obtain ⟨g, _, h3⟩ := h2 i hi
      have := h3.hi
      omega
    · obtain ⟨i, hi, rfl⟩ := List.mem_iff_getElem.1 hx
      exact ih i hi
end Go.Sx

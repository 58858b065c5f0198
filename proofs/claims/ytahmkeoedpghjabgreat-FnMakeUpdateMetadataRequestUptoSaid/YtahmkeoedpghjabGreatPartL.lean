/- Plain laws on what is written of a part, a field after another. -/
import Derived.Test.YtahmkeoedpghjabGreatSxMake
set_option linter.unusedVariables false
set_option linter.unusedSimpArgs false
namespace Go.Sx
theorem fieldsU_iff : ∀ (fs : List Fd) (i : Nat) (t : Tr), fieldsU fs i t = true ↔ ∀ j (hj : j < fs.length), fieldU fs[j] (t.at (i + j)) = true
  | [], i, t => by simp [fieldsU]
  | f :: r, i, t => by
    rw [fieldsU, Bool.and_eq_true, fieldsU_iff r (i + 1) t]
    constructor
    · rintro ⟨h1, h2⟩ j hj
      cases j with
      | zero => simpa using h1
      | succ j => have := h2 j (by simpa using hj); rw [show i + (j + 1) = i + 1 + j by omega]; simpa using this
    · intro h
      refine ⟨by have := h 0 (by simp); rw [Nat.add_zero] at this; exact this, fun j hj => ?_⟩
      have := h (j + 1) (by simpa using hj)
      rw [show i + 1 + j = i + (j + 1) by omega]; simpa using this
theorem fieldsU_true {fs : List Fd} {t : Tr} (h : ∀ j (hj : j < fs.length), j < fs.length → fieldU fs[j] (t.at j) = true) : fieldsU fs 0 t = true :=
  (fieldsU_iff fs 0 t).2 fun j hj => by rw [Nat.zero_add]; exact h j hj hj
theorem fieldsU_false {fs : List Fd} {t : Tr} {j : Nat} (hj : j < fs.length) (h : fieldU fs[j] (t.at j) = false) : fieldsU fs 0 t = false := by
  cases hb : fieldsU fs 0 t with
  | false => rfl
  | true => have := (fieldsU_iff fs 0 t).1 hb j hj; rw [Nat.zero_add, h] at this; cases this
theorem fieldsB_length (v : Int) (flex : Bool) (t : Tr) : ∀ (fs : List Fd) (i : Nat), (fieldsB fs v flex i t).length = fs.length
  | [], _ => rfl
  | f :: r, i => by rw [fieldsB]; simp [fieldsB_length v flex t r]
theorem fieldsB_get (v : Int) (flex : Bool) (t : Tr) : ∀ (fs : List Fd) (i j : Nat) (hj : j < fs.length), (fieldsB fs v flex i t)[j]? = some (fieldB fs[j] v flex (t.at (i + j)), fieldU fs[j] (t.at (i + j)))
  | f :: r, i, 0, _ => by rw [fieldsB]; simp
  | f :: r, i, j + 1, h => by
    rw [fieldsB]
    have := fieldsB_get v flex t r (i + 1) j (by simpa using h)
    rw [show i + (j + 1) = i + 1 + j by omega]
    simpa using this
abbrev ZF := Fd × List UInt8 × Bool
def zipped (fs : List Fd) (v : Int) (flex : Bool) (t : Tr) : List ZF := fs.zip (fieldsB fs v flex 0 t)
theorem zipped_length (fs : List Fd) (v : Int) (flex : Bool) (t : Tr) : (zipped fs v flex t).length = fs.length := by simp [zipped, fieldsB_length]
theorem zipped_get {fs : List Fd} {v : Int} {flex : Bool} {t : Tr} {j : Nat} (hj : j < fs.length) : (zipped fs v flex t)[j]'(by rw [zipped_length]; exact hj) = (fs[j], fieldB fs[j] v flex (t.at j), fieldU fs[j] (t.at j)) := by
  have h := fieldsB_get v flex t fs 0 j hj
  rw [Nat.zero_add] at h
  obtain ⟨h1, h2⟩ := List.getElem?_eq_some_iff.1 h
  simp [zipped, h2]
def pieceP (v : Int) (x : ZF) : List UInt8 := if x.1.tag < 0 && x.1.has v then x.2.1 else []
def tagP (tag : Nat) (x : ZF) : Option (List UInt8) := if x.1.tag = (tag : Int) && !x.2.2 then some (tagB tag x.2.1) else none
def plainTo (zs : List ZF) (v : Int) (k : Nat) : List UInt8 := (zs.take k).flatMap (pieceP v)
def tagsTo (zs : List ZF) (tag i : Nat) : List (List UInt8) := (List.range tag).flatMap (fun t => zs.filterMap (tagP t)) ++ (zs.take i).filterMap (tagP tag)
def unkTo (us : List (Int × List UInt8)) (k : Nat) : List (List UInt8) := (us.take k).map fun (k, b) => tagB k.toNat (whole b)
theorem partB_eq (fs : List Fd) (v : Int) (flex : Bool) (t : Tr) : partB fs v flex t = if !flex then plainTo (zipped fs v flex t) v fs.length else
    plainTo (zipped fs v flex t) v fs.length ++ uvar ((tagsTo (zipped fs v flex t) (known fs) 0).length + (unkTo (unknown fs t.u) (unknown fs t.u).length).length) ++ ((tagsTo (zipped fs v flex t) (known fs) 0) ++ unkTo (unknown fs t.u) (unknown fs t.u).length).flatten := by
  have h1 : (zipped fs v flex t).take fs.length = zipped fs v flex t := List.take_of_length_le (by rw [zipped_length]; omega)
  unfold partB assemble plainTo tagsTo unkTo
  rw [h1, List.take_length]
  simp only [List.take_zero, List.filterMap_nil, List.append_nil]
  rfl
theorem plainTo_succ {zs : List ZF} {v : Int} {k : Nat} (h : k < zs.length) : plainTo zs v (k + 1) = plainTo zs v k ++ pieceP v zs[k] := by
  simp only [plainTo]; rw [List.take_succ_eq_append_getElem h, List.flatMap_append, List.flatMap_cons, List.flatMap_nil, List.append_nil]
theorem plainTo_le {zs : List ZF} {v : Int} {k m : Nat} (h : k ≤ m) : (plainTo zs v k).length ≤ (plainTo zs v m).length := by
  have : zs.take m = zs.take k ++ (zs.take m).drop k := by
    conv => lhs; rw [← List.take_append_drop k (zs.take m)]
    rw [List.take_take, Nat.min_eq_left h]
  simp only [plainTo]
  rw [this]; simp [List.flatMap_append]
theorem piece_le {zs : List ZF} {v : Int} {k m : Nat} (h : k < zs.length) (hm : k < m) : (pieceP v zs[k]).length ≤ (plainTo zs v m).length := by
  have h1 := plainTo_le (zs := zs) (v := v) (show k + 1 ≤ m by omega)
  rw [plainTo_succ h] at h1
  simp at h1; omega
theorem tagsTo_succ {zs : List ZF} {tag i : Nat} (h : i < zs.length) : tagsTo zs tag (i + 1) = tagsTo zs tag i ++ (tagP tag zs[i]).toList := by
  simp only [tagsTo]
  rw [List.take_succ_eq_append_getElem h, List.filterMap_append, ← List.append_assoc]
  cases hq : tagP tag zs[i] <;> simp [hq]
theorem tagsTo_next {zs : List ZF} {tag n : Nat} (hn : zs.length ≤ n) : tagsTo zs tag n = tagsTo zs (tag + 1) 0 := by
  simp only [tagsTo]
  rw [List.take_of_length_le hn, List.range_succ]
  simp [List.flatMap_append]
theorem flatten_le_append {α : Type} (a b : List (List α)) : a.flatten.length ≤ (a ++ b).flatten.length := by simp
theorem tagsTo_prefix (zs : List ZF) (tag i n : Nat) (hn : tag < n) : ∃ r, tagsTo zs n 0 = tagsTo zs tag i ++ r := by
  have h1 : ∃ r, tagsTo zs (tag + 1) 0 = tagsTo zs tag i ++ r := by
    refine ⟨(zs.drop i).filterMap (tagP tag), ?_⟩
    rw [← tagsTo_next (Nat.le_refl _)]
    simp only [tagsTo, List.take_length, List.append_assoc]
    congr 1
    rw [← List.filterMap_append, List.take_append_drop]
  have h2 : ∀ m, ∃ r, tagsTo zs (tag + 1 + m) 0 = tagsTo zs (tag + 1) 0 ++ r := by
    intro m
    induction m with
    | zero => exact ⟨[], by simp⟩
    | succ m ih =>
      obtain ⟨r, hr⟩ := ih
      refine ⟨r ++ zs.filterMap (tagP (tag + 1 + m)), ?_⟩
      rw [← List.append_assoc, ← hr, ← Nat.add_assoc, ← tagsTo_next (Nat.le_refl _)]
      simp [tagsTo]
  obtain ⟨r1, e1⟩ := h1
  obtain ⟨r2, e2⟩ := h2 (n - tag - 1)
  rw [show tag + 1 + (n - tag - 1) = n by omega, e1, List.append_assoc] at e2
  exact ⟨_, e2⟩
theorem tagsTo_le {zs : List ZF} {tag i n : Nat} (hn : tag < n) : (tagsTo zs tag i).flatten.length ≤ (tagsTo zs n 0).flatten.length := by
  obtain ⟨r, h⟩ := tagsTo_prefix zs tag i n hn
  rw [h]; exact flatten_le_append _ _
theorem tagP_le {zs : List ZF} {tag i n : Nat} (hi : i < zs.length) (hn : tag < n) {b : List UInt8} (hb : tagP tag zs[i] = some b) : (tagsTo zs tag i).flatten.length + b.length ≤ (tagsTo zs n 0).flatten.length := by
  have h1 := tagsTo_le (zs := zs) (i := i + 1) hn
  rw [tagsTo_succ hi, hb] at h1
  simp at h1 ⊢; omega
theorem uvar_pos (n : Nat) : 0 < (uvar n).length := by
  rw [uvar]; split <;> simp
theorem tagB_pos (k : Nat) (b : List UInt8) : 0 < (tagB k b).length := by
  have := uvar_pos k
  simp [tagB]; omega
theorem tagsTo_mem {zs : List ZF} {tag i : Nat} : ∀ b ∈ tagsTo zs tag i, 0 < b.length := by
  intro b hb
  simp only [tagsTo, List.mem_append, List.mem_flatMap, List.mem_filterMap] at hb
  rcases hb with ⟨t, _, x, _, h⟩ | ⟨x, _, h⟩ <;> (simp only [tagP] at h; split at h <;> simp at h; subst h; exact tagB_pos _ _)
theorem unkTo_mem {us : List (Int × List UInt8)} {k : Nat} : ∀ b ∈ unkTo us k, 0 < b.length := by
  intro b hb
  simp only [unkTo, List.mem_map] at hb
  obtain ⟨x, _, h⟩ := hb
  subst h; exact tagB_pos _ _
theorem length_le_flatten : ∀ (l : List (List UInt8)), (∀ b ∈ l, 0 < b.length) → l.length ≤ l.flatten.length
  | [], _ => by simp
  | b :: r, h => by
    have h1 := h b List.mem_cons_self
    have h2 := length_le_flatten r (fun x hx => h x (List.mem_cons_of_mem _ hx))
    simp only [List.length_cons, List.flatten_cons, List.length_append]; omega
theorem tagsTo_count {zs : List ZF} {tag i : Nat} : (tagsTo zs tag i).length ≤ (tagsTo zs tag i).flatten.length := length_le_flatten _ tagsTo_mem
theorem unkTo_count {us : List (Int × List UInt8)} {k : Nat} : (unkTo us k).length ≤ (unkTo us k).flatten.length := length_le_flatten _ unkTo_mem
theorem unkTo_succ {us : List (Int × List UInt8)} {k : Nat} (h : k < us.length) : unkTo us (k + 1) = unkTo us k ++ [tagB us[k].1.toNat (whole us[k].2)] := by
  simp only [unkTo]; rw [List.take_succ_eq_append_getElem h, List.map_append, List.map_cons, List.map_nil]
theorem unkTo_le {us : List (Int × List UInt8)} {k m : Nat} (h : k ≤ m) : (unkTo us k).flatten.length ≤ (unkTo us m).flatten.length := by
  have : us.take m = us.take k ++ (us.take m).drop k := by
    conv => lhs; rw [← List.take_append_drop k (us.take m)]
    rw [List.take_take, Nat.min_eq_left h]
  simp only [unkTo]
  rw [this, List.map_append]; exact flatten_le_append _ _
/-! ### What is as usual -/
theorem u8_zero {x : UInt8} (h : ¬ ((x.toNat : Int) ≠ 0)) : x = 0 := by
  apply UInt8.toNat_inj.1
  show x.toNat = 0
  omega
theorem u7_true {s : List UInt8} (h : ∀ j (hj : j < s.length), j < s.length → j < 16 → s[j] = 0) : (s.take 16).all (· == 0) = true := by
  rw [List.all_eq_true]
  intro x hx
  obtain ⟨j, hj, rfl⟩ := List.mem_iff_getElem.1 hx
  have h1 : j < s.length ∧ j < 16 := by simp at hj; omega
  simp [h j h1.1 h1.1 h1.2]
theorem u7_false {s : List UInt8} {k : Nat} (hk : k < s.length) (h16 : k < 16) (h : (s[k].toNat : Int) ≠ 0) : (s.take 16).all (· == 0) = false := by
  cases hb : (s.take 16).all (· == 0) with
  | false => rfl
  | true =>
    rw [List.all_eq_true] at hb
    have := hb s[k] (List.mem_iff_getElem.2 ⟨k, by simp; omega, by simp⟩)
    have h0 : s[k] = 0 := by simpa using this
    rw [h0] at h; exact absurd rfl h
theorem len_zero {α : Type} (l : List α) : decide ((l.length : Int) = 0) = l.isEmpty := by
  cases l <;> simp; omega
theorem beq_dec (a b : List UInt8) : (a == b) = decide (a = b) := by rw [Bool.eq_iff_iff]; simp
theorem sub_size {f : Fd} {k : Nat} (hk : k < f.sub.length) : SizeOf.sizeOf f.sub[k] < SizeOf.sizeOf f := by
  have h1 := List.sizeOf_lt_of_mem (List.getElem_mem hk)
  have h2 : SizeOf.sizeOf f.sub < SizeOf.sizeOf f := by cases f; simp [Fd.sub]; omega
  omega
theorem width_le (k : Int) : width k ≤ 8 := by unfold width; split <;> (try split) <;> (try split) <;> omega
/-! ### Octets that a function gives back -/
def B46 : Nat := 70368744177664
def OutB (e : Nat) (L : Own) (X : List UInt8) (v : Value) (L' : Own) : Prop := ∃ a cap N', v = .slice a X.length cap ∧ L' = N' :: L ∧ Buf e a X.length cap X N'
theorem OutB.of {e m cap : Nat} {a : Option Addr} {L : Own} {N : Chunk} {X Y : List UInt8} (hr : Row e 1 a m cap (bytesOf Y) N) (h : X = Y) : OutB e L X (.slice a m cap) (N :: L) := by
  subst h
  have hl := hr.1
  rw [bytesOf_length, Nat.mul_one] at hl
  subst hl
  exact ⟨a, cap, N, rfl, rfl, hr, rfl⟩
theorem counted_len {flex nul : Bool} {n size : Nat} (hn : n ≤ 32767) (hs : size ≤ 8) : (counted flex nul n size).length ≤ 10 := by
  unfold counted
  split
  · simp
  · split
    · have := uvar_len 3 (n + 1) (by omega); omega
    · split <;> rw [fixed_length] <;> omega
theorem row16 (s : List UInt8) : bytesOf (s.take 16) ++ (reps [Value.int .u8 0] 16).drop s.length = bytesOf (s.take 16 ++ List.replicate (16 - (s.take 16).length) 0) := by
  have h1 : reps [Value.int .u8 0] 16 = bytesOf (List.replicate 16 0) := by rfl
  rw [h1, bytesOf_append]
  congr 1
  have h2 : ∀ n, (bytesOf (List.replicate 16 0)).drop n = bytesOf (List.replicate (16 - n) 0) := by
    intro n; unfold bytesOf; rw [← List.map_drop, List.drop_replicate]
  rw [h2]
  congr 2
  simp; omega
theorem flatMap_take_le {α : Type} (g : α → List UInt8) (l : List α) (k : Nat) : ((l.take k).flatMap g).length ≤ (l.flatMap g).length := by
  conv => rhs; rw [← List.take_append_drop k l]
  rw [List.flatMap_append, List.length_append]; omega
theorem flatMap_take_succ {α : Type} (g : α → List UInt8) {l : List α} {k : Nat} (h : k < l.length) : (l.take (k + 1)).flatMap g = (l.take k).flatMap g ++ g l[k] := by
  rw [List.take_succ_eq_append_getElem h, List.flatMap_append, List.flatMap_cons, List.flatMap_nil, List.append_nil]
theorem flatMap_step_le {α : Type} (g : α → List UInt8) {l : List α} {k : Nat} (h : k < l.length) : ((l.take k).flatMap g).length + (g l[k]).length ≤ (l.flatMap g).length := by
  have := flatMap_take_le g l (k + 1)
  rw [flatMap_take_succ g h] at this
  simpa using this
section
variable {fs : List Fd} {v : Int} {flex : Bool} {t : Tr} {k i : Nat}
theorem piece_yes (hk : k < fs.length) (h1 : fs[k].tag < 0) (h2 : fs[k].has v = true) : plainTo (zipped fs v flex t) v (k + 1) = plainTo (zipped fs v flex t) v k ++ fieldB fs[k] v flex (t.at k) := by
  rw [plainTo_succ (by rw [zipped_length]; exact hk), zipped_get hk]; simp [pieceP, h1, h2]
theorem piece_no1 (hk : k < fs.length) (h1 : ¬ fs[k].tag < 0) : plainTo (zipped fs v flex t) v (k + 1) = plainTo (zipped fs v flex t) v k := by
  rw [plainTo_succ (by rw [zipped_length]; exact hk), zipped_get hk]
  simp only [pieceP, decide_eq_false h1, Bool.false_and]; simp
theorem piece_no2 (hk : k < fs.length) (h2 : fs[k].has v = false) : plainTo (zipped fs v flex t) v (k + 1) = plainTo (zipped fs v flex t) v k := by
  rw [plainTo_succ (by rw [zipped_length]; exact hk), zipped_get hk]; simp [pieceP, h2]
theorem plain_le_part (hk : k ≤ fs.length) : (plainTo (zipped fs v flex t) v k).length ≤ (partB fs v flex t).length := by
  have h1 := plainTo_le (zs := zipped fs v flex t) (v := v) hk
  rw [partB_eq]
  cases flex
  · simpa using h1
  · simp only [Bool.not_true]; simp; omega
theorem piece_size (hk : k < fs.length) (h1 : fs[k].tag < 0) (h2 : fs[k].has v = true) : (plainTo (zipped fs v flex t) v k).length + (fieldB fs[k] v flex (t.at k)).length ≤ (partB fs v flex t).length := by
  have := plain_le_part (fs := fs) (v := v) (flex := flex) (t := t) (show k + 1 ≤ fs.length by omega)
  rw [piece_yes hk h1 h2] at this
  simpa using this
theorem partB_false : partB fs v false t = plainTo (zipped fs v false t) v fs.length := by rw [partB_eq]; simp
theorem partB_true : partB fs v true t = plainTo (zipped fs v true t) v fs.length ++ uvar ((tagsTo (zipped fs v true t) (known fs) 0 ++ unkTo (unknown fs t.u) (unknown fs t.u).length).length) ++ (tagsTo (zipped fs v true t) (known fs) 0 ++ unkTo (unknown fs t.u) (unknown fs t.u).length).flatten := by
  rw [partB_eq]; simp
theorem tags_yes (hi : i < fs.length) (h1 : fs[i].tag = (k : Int)) (h2 : (!fieldU fs[i] (t.at i)) = true) : tagsTo (zipped fs v flex t) k (i + 1) = tagsTo (zipped fs v flex t) k i ++ [tagB k (fieldB fs[i] v flex (t.at i))] := by
  rw [tagsTo_succ (by rw [zipped_length]; exact hi), zipped_get hi]; simp [tagP, h1, h2]
theorem tags_no1 (hi : i < fs.length) (h1 : ¬ fs[i].tag = (k : Int)) : tagsTo (zipped fs v flex t) k (i + 1) = tagsTo (zipped fs v flex t) k i := by
  rw [tagsTo_succ (by rw [zipped_length]; exact hi), zipped_get hi]; simp [tagP, h1]
theorem tags_no2 (hi : i < fs.length) (h2 : (!fieldU fs[i] (t.at i)) = false) : tagsTo (zipped fs v flex t) k (i + 1) = tagsTo (zipped fs v flex t) k i := by
  rw [tagsTo_succ (by rw [zipped_length]; exact hi), zipped_get hi]; simp only [tagP, h2, Bool.and_false]; simp
theorem tags_end : tagsTo (zipped fs v flex t) k fs.length = tagsTo (zipped fs v flex t) (k + 1) 0 := tagsTo_next (by rw [zipped_length]; exact Nat.le_refl _)
theorem tags_le_part (hk : k < known fs) : (tagsTo (zipped fs v true t) k i).flatten.length ≤ (partB fs v true t).length := by
  have h1 := tagsTo_le (zs := zipped fs v true t) (i := i) hk
  rw [partB_true]; simp at h1 ⊢; omega
theorem tags_size (hk : k < known fs) (hi : i < fs.length) (h1 : fs[i].tag = (k : Int)) (h2 : (!fieldU fs[i] (t.at i)) = true) :
    (tagsTo (zipped fs v true t) k i).flatten.length + (uvar k).length + (uvar (fieldB fs[i] v true (t.at i)).length).length + (fieldB fs[i] v true (t.at i)).length ≤ (partB fs v true t).length := by
  have := tags_le_part (v := v) (t := t) (i := i + 1) hk
  rw [tags_yes hi h1 h2] at this
  simp [tagB] at this ⊢; omega
theorem tags_count (hk : k < known fs) : (tagsTo (zipped fs v true t) k i).length ≤ (partB fs v true t).length := Nat.le_trans tagsTo_count (tags_le_part hk)
theorem tags_all : (tagsTo (zipped fs v true t) (known fs) 0).length ≤ (partB fs v true t).length := by
  have h1 := tagsTo_count (zs := zipped fs v true t) (tag := known fs) (i := 0)
  rw [partB_true]; simp at h1 ⊢; omega
theorem unk_le_part {j : Nat} (hj : j ≤ (unknown fs t.u).length) : (tagsTo (zipped fs v true t) (known fs) 0 ++ unkTo (unknown fs t.u) j).flatten.length ≤ (partB fs v true t).length := by
  have h1 := unkTo_le (us := unknown fs t.u) hj
  rw [partB_true]; simp at h1 ⊢; omega
theorem unk_size {j : Nat} (hj : j < (unknown fs t.u).length) :
    (tagsTo (zipped fs v true t) (known fs) 0 ++ unkTo (unknown fs t.u) j).flatten.length + (uvar (unknown fs t.u)[j].1.toNat).length + (uvar (whole (unknown fs t.u)[j].2).length).length + (whole (unknown fs t.u)[j].2).length ≤ (partB fs v true t).length := by
  have := unk_le_part (fs := fs) (v := v) (t := t) (show j + 1 ≤ (unknown fs t.u).length by omega)
  rw [unkTo_succ hj] at this
  simp [tagB] at this ⊢; omega
theorem part_size : (plainTo (zipped fs v true t) v fs.length).length + (uvar ((tagsTo (zipped fs v true t) (known fs) 0 ++ unkTo (unknown fs t.u) (unknown fs t.u).length).length)).length + (tagsTo (zipped fs v true t) (known fs) 0 ++ unkTo (unknown fs t.u) (unknown fs t.u).length).flatten.length = (partB fs v true t).length := by
  rw [partB_true]; simp [Nat.add_assoc]
end
theorem valueB_part {kind : Int} (e : kind = 10) (part : Tr → List UInt8) (nul flex : Bool) (t : Tr) : valueB kind part nul flex t = part t := by subst e; rfl
end Go.Sx

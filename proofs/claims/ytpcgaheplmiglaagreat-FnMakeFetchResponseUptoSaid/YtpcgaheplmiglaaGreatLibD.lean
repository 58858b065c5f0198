import Derived.Test.YtpcgaheplmiglaaGreatLibC
import Derived.Laws.Cover3
import Derived.Laws.Pointers
set_option linter.unusedVariables false
set_option linter.unusedSimpArgs false
/- Plain laws on what is written of a part, a field after another. -/
namespace Go.Sx
theorem fieldsU_iff : ∀ (fs : List Fd) (i : Nat) (t : Tr), fieldsU fs i t = true ↔ ∀ j (hj : j < fs.length), fieldU fs[j] (t.at (i + j)) = true
  | [], i, t => by simp [fieldsU]
  | f :: r, i, t => by
    rw [fieldsU, Bool.and_eq_true, fieldsU_iff r (i + 1) t]
    constructor
    · rintro ⟨h1, h2⟩ j hj
      cases j with
      | zero => simpa using h1
      | succ j => have := h2 j (by simpa using hj); rw [show i + (j + 1) = i + 1 + j by omega]; simpa using this
    · intro h
      refine ⟨by have := h 0 (by simp); rw [Nat.add_zero] at this; exact this, fun j hj => ?_⟩
      have := h (j + 1) (by simpa using hj)
      rw [show i + 1 + j = i + (j + 1) by omega]; simpa using this
theorem fieldsU_true {fs : List Fd} {t : Tr} (h : ∀ j (hj : j < fs.length), j < fs.length → fieldU fs[j] (t.at j) = true) : fieldsU fs 0 t = true :=
  (fieldsU_iff fs 0 t).2 fun j hj => by rw [Nat.zero_add]; exact h j hj hj
theorem fieldsU_false {fs : List Fd} {t : Tr} {j : Nat} (hj : j < fs.length) (h : fieldU fs[j] (t.at j) = false) : fieldsU fs 0 t = false := by
  cases hb : fieldsU fs 0 t with
  | false => rfl
  | true => have := (fieldsU_iff fs 0 t).1 hb j hj; rw [Nat.zero_add, h] at this; cases this
theorem fieldsB_length (v : Int) (flex : Bool) (t : Tr) : ∀ (fs : List Fd) (i : Nat), (fieldsB fs v flex i t).length = fs.length
  | [], _ => rfl
  | f :: r, i => by rw [fieldsB]; simp [fieldsB_length v flex t r]
theorem fieldsB_get (v : Int) (flex : Bool) (t : Tr) : ∀ (fs : List Fd) (i j : Nat) (hj : j < fs.length), (fieldsB fs v flex i t)[j]? = some (fieldB fs[j] v flex (t.at (i + j)), fieldU fs[j] (t.at (i + j)))
  | f :: r, i, 0, _ => by rw [fieldsB]; simp
  | f :: r, i, j + 1, h => by
    rw [fieldsB]
    have := fieldsB_get v flex t r (i + 1) j (by simpa using h)
    rw [show i + (j + 1) = i + 1 + j by omega]
    simpa using this
abbrev ZF := Fd × List UInt8 × Bool
def zipped (fs : List Fd) (v : Int) (flex : Bool) (t : Tr) : List ZF := fs.zip (fieldsB fs v flex 0 t)
theorem zipped_length (fs : List Fd) (v : Int) (flex : Bool) (t : Tr) : (zipped fs v flex t).length = fs.length := by simp [zipped, fieldsB_length]
theorem zipped_get {fs : List Fd} {v : Int} {flex : Bool} {t : Tr} {j : Nat} (hj : j < fs.length) : (zipped fs v flex t)[j]'(by rw [zipped_length]; exact hj) = (fs[j], fieldB fs[j] v flex (t.at j), fieldU fs[j] (t.at j)) := by
  have h := fieldsB_get v flex t fs 0 j hj
  rw [Nat.zero_add] at h
  obtain ⟨h1, h2⟩ := List.getElem?_eq_some_iff.1 h
  simp [zipped, h2]
def pieceP (v : Int) (x : ZF) : List UInt8 := if x.1.tag < 0 && x.1.has v then x.2.1 else []
def tagP (tag : Nat) (x : ZF) : Option (List UInt8) := if x.1.tag = (tag : Int) && !x.2.2 then some (tagB tag x.2.1) else none
def plainTo (zs : List ZF) (v : Int) (k : Nat) : List UInt8 := (zs.take k).flatMap (pieceP v)
def tagsTo (zs : List ZF) (tag i : Nat) : List (List UInt8) := (List.range tag).flatMap (fun t => zs.filterMap (tagP t)) ++ (zs.take i).filterMap (tagP tag)
def unkTo (us : List (Int × List UInt8)) (k : Nat) : List (List UInt8) := (us.take k).map fun (k, b) => tagB k.toNat (whole b)
theorem partB_eq (fs : List Fd) (v : Int) (flex : Bool) (t : Tr) : partB fs v flex t = if !flex then plainTo (zipped fs v flex t) v fs.length else
    plainTo (zipped fs v flex t) v fs.length ++ uvar ((tagsTo (zipped fs v flex t) (known fs) 0).length + (unkTo (unknown fs t.u) (unknown fs t.u).length).length) ++ ((tagsTo (zipped fs v flex t) (known fs) 0) ++ unkTo (unknown fs t.u) (unknown fs t.u).length).flatten := by
  have h1 : (zipped fs v flex t).take fs.length = zipped fs v flex t := List.take_of_length_le (by rw [zipped_length]; omega)
  unfold partB assemble plainTo tagsTo unkTo
  rw [h1, List.take_length]
  simp only [List.take_zero, List.filterMap_nil, List.append_nil]
  rfl
theorem plainTo_succ {zs : List ZF} {v : Int} {k : Nat} (h : k < zs.length) : plainTo zs v (k + 1) = plainTo zs v k ++ pieceP v zs[k] := by
  simp only [plainTo]; rw [List.take_succ_eq_append_getElem h, List.flatMap_append, List.flatMap_cons, List.flatMap_nil, List.append_nil]
theorem plainTo_le {zs : List ZF} {v : Int} {k m : Nat} (h : k ≤ m) : (plainTo zs v k).length ≤ (plainTo zs v m).length := by
  have : zs.take m = zs.take k ++ (zs.take m).drop k := by
    conv => lhs; rw [← List.take_append_drop k (zs.take m)]
    rw [List.take_take, Nat.min_eq_left h]
  simp only [plainTo]
  rw [this]; simp [List.flatMap_append]
theorem piece_le {zs : List ZF} {v : Int} {k m : Nat} (h : k < zs.length) (hm : k < m) : (pieceP v zs[k]).length ≤ (plainTo zs v m).length := by
  have h1 := plainTo_le (zs := zs) (v := v) (show k + 1 ≤ m by omega)
  rw [plainTo_succ h] at h1
  simp at h1; omega
theorem tagsTo_succ {zs : List ZF} {tag i : Nat} (h : i < zs.length) : tagsTo zs tag (i + 1) = tagsTo zs tag i ++ (tagP tag zs[i]).toList := by
  simp only [tagsTo]
  rw [List.take_succ_eq_append_getElem h, List.filterMap_append, ← List.append_assoc]
  cases hq : tagP tag zs[i] <;> simp [hq]
theorem tagsTo_next {zs : List ZF} {tag n : Nat} (hn : zs.length ≤ n) : tagsTo zs tag n = tagsTo zs (tag + 1) 0 := by
  simp only [tagsTo]
  rw [List.take_of_length_le hn, List.range_succ]
  simp [List.flatMap_append]
theorem flatten_le_append {α : Type} (a b : List (List α)) : a.flatten.length ≤ (a ++ b).flatten.length := by simp
theorem tagsTo_prefix (zs : List ZF) (tag i n : Nat) (hn : tag < n) : ∃ r, tagsTo zs n 0 = tagsTo zs tag i ++ r := by
  have h1 : ∃ r, tagsTo zs (tag + 1) 0 = tagsTo zs tag i ++ r := by
    refine ⟨(zs.drop i).filterMap (tagP tag), ?_⟩
    rw [← tagsTo_next (Nat.le_refl _)]
    simp only [tagsTo, List.take_length, List.append_assoc]
    congr 1
    rw [← List.filterMap_append, List.take_append_drop]
  have h2 : ∀ m, ∃ r, tagsTo zs (tag + 1 + m) 0 = tagsTo zs (tag + 1) 0 ++ r := by
    intro m
    induction m with
    | zero => exact ⟨[], by simp⟩
    | succ m ih =>
      obtain ⟨r, hr⟩ := ih
      refine ⟨r ++ zs.filterMap (tagP (tag + 1 + m)), ?_⟩
      rw [← List.append_assoc, ← hr, ← Nat.add_assoc, ← tagsTo_next (Nat.le_refl _)]
      simp [tagsTo]
  obtain ⟨r1, e1⟩ := h1
  obtain ⟨r2, e2⟩ := h2 (n - tag - 1)
  rw [show tag + 1 + (n - tag - 1) = n by omega, e1, List.append_assoc] at e2
  exact ⟨_, e2⟩
theorem tagsTo_le {zs : List ZF} {tag i n : Nat} (hn : tag < n) : (tagsTo zs tag i).flatten.length ≤ (tagsTo zs n 0).flatten.length := by
  obtain ⟨r, h⟩ := tagsTo_prefix zs tag i n hn
  rw [h]; exact flatten_le_append _ _
theorem tagP_le {zs : List ZF} {tag i n : Nat} (hi : i < zs.length) (hn : tag < n) {b : List UInt8} (hb : tagP tag zs[i] = some b) : (tagsTo zs tag i).flatten.length + b.length ≤ (tagsTo zs n 0).flatten.length := by
  have h1 := tagsTo_le (zs := zs) (i := i + 1) hn
  rw [tagsTo_succ hi, hb] at h1
  simp at h1 ⊢; omega
theorem uvar_pos (n : Nat) : 0 < (uvar n).length := by
  rw [uvar]; split <;> simp
theorem tagB_pos (k : Nat) (b : List UInt8) : 0 < (tagB k b).length := by
  have := uvar_pos k
  simp [tagB]; omega
theorem tagsTo_mem {zs : List ZF} {tag i : Nat} : ∀ b ∈ tagsTo zs tag i, 0 < b.length := by
  intro b hb
  simp only [tagsTo, List.mem_append, List.mem_flatMap, List.mem_filterMap] at hb
  rcases hb with ⟨t, _, x, _, h⟩ | ⟨x, _, h⟩ <;> (simp only [tagP] at h; split at h <;> simp at h; subst h; exact tagB_pos _ _)
theorem unkTo_mem {us : List (Int × List UInt8)} {k : Nat} : ∀ b ∈ unkTo us k, 0 < b.length := by
  intro b hb
  simp only [unkTo, List.mem_map] at hb
  obtain ⟨x, _, h⟩ := hb
  subst h; exact tagB_pos _ _
theorem length_le_flatten : ∀ (l : List (List UInt8)), (∀ b ∈ l, 0 < b.length) → l.length ≤ l.flatten.length
  | [], _ => by simp
  | b :: r, h => by
    have h1 := h b List.mem_cons_self
    have h2 := length_le_flatten r (fun x hx => h x (List.mem_cons_of_mem _ hx))
    simp only [List.length_cons, List.flatten_cons, List.length_append]; omega
theorem tagsTo_count {zs : List ZF} {tag i : Nat} : (tagsTo zs tag i).length ≤ (tagsTo zs tag i).flatten.length := length_le_flatten _ tagsTo_mem
theorem unkTo_count {us : List (Int × List UInt8)} {k : Nat} : (unkTo us k).length ≤ (unkTo us k).flatten.length := length_le_flatten _ unkTo_mem
theorem unkTo_succ {us : List (Int × List UInt8)} {k : Nat} (h : k < us.length) : unkTo us (k + 1) = unkTo us k ++ [tagB us[k].1.toNat (whole us[k].2)] := by
  simp only [unkTo]; rw [List.take_succ_eq_append_getElem h, List.map_append, List.map_cons, List.map_nil]
theorem unkTo_le {us : List (Int × List UInt8)} {k m : Nat} (h : k ≤ m) : (unkTo us k).flatten.length ≤ (unkTo us m).flatten.length := by
  have : us.take m = us.take k ++ (us.take m).drop k := by
    conv => lhs; rw [← List.take_append_drop k (us.take m)]
    rw [List.take_take, Nat.min_eq_left h]
  simp only [unkTo]
  rw [this, List.map_append]; exact flatten_le_append _ _
/-! ### What is as usual -/
theorem u8_zero {x : UInt8} (h : ¬ ((x.toNat : Int) ≠ 0)) : x = 0 := by
  apply UInt8.toNat_inj.1
  show x.toNat = 0
  omega
theorem u7_true {s : List UInt8} (h : ∀ j (hj : j < s.length), j < s.length → j < 16 → s[j] = 0) : (s.take 16).all (· == 0) = true := by
  rw [List.all_eq_true]
  intro x hx
  obtain ⟨j, hj, rfl⟩ := List.mem_iff_getElem.1 hx
  have h1 : j < s.length ∧ j < 16 := by simp at hj; omega
  simp [h j h1.1 h1.1 h1.2]
theorem u7_false {s : List UInt8} {k : Nat} (hk : k < s.length) (h16 : k < 16) (h : (s[k].toNat : Int) ≠ 0) : (s.take 16).all (· == 0) = false := by
  cases hb : (s.take 16).all (· == 0) with
  | false => rfl
  | true =>
    rw [List.all_eq_true] at hb
    have := hb s[k] (List.mem_iff_getElem.2 ⟨k, by simp; omega, by simp⟩)
    have h0 : s[k] = 0 := by simpa using this
    rw [h0] at h; exact absurd rfl h
theorem len_zero {α : Type} (l : List α) : decide ((l.length : Int) = 0) = l.isEmpty := by
  cases l <;> simp; omega
theorem beq_dec (a b : List UInt8) : (a == b) = decide (a = b) := by rw [Bool.eq_iff_iff]; simp
theorem sub_size {f : Fd} {k : Nat} (hk : k < f.sub.length) : SizeOf.sizeOf f.sub[k] < SizeOf.sizeOf f := by
  have h1 := List.sizeOf_lt_of_mem (List.getElem_mem hk)
  have h2 : SizeOf.sizeOf f.sub < SizeOf.sizeOf f := by cases f; simp [Fd.sub]; omega
  omega
theorem width_le (k : Int) : width k ≤ 8 := by unfold width; split <;> (try split) <;> (try split) <;> omega
/-! ### Octets that a function gives back -/
def B46 : Nat := 70368744177664
def OutB (e : Nat) (L : Own) (X : List UInt8) (v : Value) (L' : Own) : Prop := ∃ a cap N', v = .slice a X.length cap ∧ L' = N' :: L ∧ Buf e a X.length cap X N'
theorem OutB.of {e m cap : Nat} {a : Option Addr} {L : Own} {N : Chunk} {X Y : List UInt8} (hr : Row e 1 a m cap (bytesOf Y) N) (h : X = Y) : OutB e L X (.slice a m cap) (N :: L) := by
  subst h
  have hl := hr.1
  rw [bytesOf_length, Nat.mul_one] at hl
  subst hl
  exact ⟨a, cap, N, rfl, rfl, hr, rfl⟩
theorem counted_len {flex nul : Bool} {n size : Nat} (hn : n ≤ 32767) (hs : size ≤ 8) : (counted flex nul n size).length ≤ 10 := by
  unfold counted
  split
  · simp
  · split
    · have := uvar_len 3 (n + 1) (by omega); omega
    · split <;> rw [fixed_length] <;> omega
theorem row16 (s : List UInt8) : bytesOf (s.take 16) ++ (reps [Value.int .u8 0] 16).drop s.length = bytesOf (s.take 16 ++ List.replicate (16 - (s.take 16).length) 0) := by
  have h1 : reps [Value.int .u8 0] 16 = bytesOf (List.replicate 16 0) := by rfl
  rw [h1, bytesOf_append]
  congr 1
  have h2 : ∀ n, (bytesOf (List.replicate 16 0)).drop n = bytesOf (List.replicate (16 - n) 0) := by
    intro n; unfold bytesOf; rw [← List.map_drop, List.drop_replicate]
  rw [h2]
  congr 2
  simp; omega
theorem flatMap_take_le {α : Type} (g : α → List UInt8) (l : List α) (k : Nat) : ((l.take k).flatMap g).length ≤ (l.flatMap g).length := by
  conv => rhs; rw [← List.take_append_drop k l]
  rw [List.flatMap_append, List.length_append]; omega
theorem flatMap_take_succ {α : Type} (g : α → List UInt8) {l : List α} {k : Nat} (h : k < l.length) : (l.take (k + 1)).flatMap g = (l.take k).flatMap g ++ g l[k] := by
  rw [List.take_succ_eq_append_getElem h, List.flatMap_append, List.flatMap_cons, List.flatMap_nil, List.append_nil]
theorem flatMap_step_le {α : Type} (g : α → List UInt8) {l : List α} {k : Nat} (h : k < l.length) : ((l.take k).flatMap g).length + (g l[k]).length ≤ (l.flatMap g).length := by
  have := flatMap_take_le g l (k + 1)
  rw [flatMap_take_succ g h] at this
  simpa using this
section
variable {fs : List Fd} {v : Int} {flex : Bool} {t : Tr} {k i : Nat}
theorem piece_yes (hk : k < fs.length) (h1 : fs[k].tag < 0) (h2 : fs[k].has v = true) : plainTo (zipped fs v flex t) v (k + 1) = plainTo (zipped fs v flex t) v k ++ fieldB fs[k] v flex (t.at k) := by
  rw [plainTo_succ (by rw [zipped_length]; exact hk), zipped_get hk]; simp [pieceP, h1, h2]
theorem piece_no1 (hk : k < fs.length) (h1 : ¬ fs[k].tag < 0) : plainTo (zipped fs v flex t) v (k + 1) = plainTo (zipped fs v flex t) v k := by
  rw [plainTo_succ (by rw [zipped_length]; exact hk), zipped_get hk]
  simp only [pieceP, decide_eq_false h1, Bool.false_and]; simp
theorem piece_no2 (hk : k < fs.length) (h2 : fs[k].has v = false) : plainTo (zipped fs v flex t) v (k + 1) = plainTo (zipped fs v flex t) v k := by
  rw [plainTo_succ (by rw [zipped_length]; exact hk), zipped_get hk]; simp [pieceP, h2]
theorem plain_le_part (hk : k ≤ fs.length) : (plainTo (zipped fs v flex t) v k).length ≤ (partB fs v flex t).length := by
  have h1 := plainTo_le (zs := zipped fs v flex t) (v := v) hk
  rw [partB_eq]
  cases flex
  · simpa using h1
  · simp only [Bool.not_true]; simp; omega
theorem piece_size (hk : k < fs.length) (h1 : fs[k].tag < 0) (h2 : fs[k].has v = true) : (plainTo (zipped fs v flex t) v k).length + (fieldB fs[k] v flex (t.at k)).length ≤ (partB fs v flex t).length := by
  have := plain_le_part (fs := fs) (v := v) (flex := flex) (t := t) (show k + 1 ≤ fs.length by omega)
  rw [piece_yes hk h1 h2] at this
  simpa using this
theorem partB_false : partB fs v false t = plainTo (zipped fs v false t) v fs.length := by rw [partB_eq]; simp
theorem partB_true : partB fs v true t = plainTo (zipped fs v true t) v fs.length ++ uvar ((tagsTo (zipped fs v true t) (known fs) 0 ++ unkTo (unknown fs t.u) (unknown fs t.u).length).length) ++ (tagsTo (zipped fs v true t) (known fs) 0 ++ unkTo (unknown fs t.u) (unknown fs t.u).length).flatten := by
  rw [partB_eq]; simp
theorem tags_yes (hi : i < fs.length) (h1 : fs[i].tag = (k : Int)) (h2 : (!fieldU fs[i] (t.at i)) = true) : tagsTo (zipped fs v flex t) k (i + 1) = tagsTo (zipped fs v flex t) k i ++ [tagB k (fieldB fs[i] v flex (t.at i))] := by
  rw [tagsTo_succ (by rw [zipped_length]; exact hi), zipped_get hi]; simp [tagP, h1, h2]
theorem tags_no1 (hi : i < fs.length) (h1 : ¬ fs[i].tag = (k : Int)) : tagsTo (zipped fs v flex t) k (i + 1) = tagsTo (zipped fs v flex t) k i := by
  rw [tagsTo_succ (by rw [zipped_length]; exact hi), zipped_get hi]; simp [tagP, h1]
theorem tags_no2 (hi : i < fs.length) (h2 : (!fieldU fs[i] (t.at i)) = false) : tagsTo (zipped fs v flex t) k (i + 1) = tagsTo (zipped fs v flex t) k i := by
  rw [tagsTo_succ (by rw [zipped_length]; exact hi), zipped_get hi]; simp only [tagP, h2, Bool.and_false]; simp
theorem tags_end : tagsTo (zipped fs v flex t) k fs.length = tagsTo (zipped fs v flex t) (k + 1) 0 := tagsTo_next (by rw [zipped_length]; exact Nat.le_refl _)
theorem tags_le_part (hk : k < known fs) : (tagsTo (zipped fs v true t) k i).flatten.length ≤ (partB fs v true t).length := by
  have h1 := tagsTo_le (zs := zipped fs v true t) (i := i) hk
  rw [partB_true]; simp at h1 ⊢; omega
theorem tags_size (hk : k < known fs) (hi : i < fs.length) (h1 : fs[i].tag = (k : Int)) (h2 : (!fieldU fs[i] (t.at i)) = true) :
    (tagsTo (zipped fs v true t) k i).flatten.length + (uvar k).length + (uvar (fieldB fs[i] v true (t.at i)).length).length + (fieldB fs[i] v true (t.at i)).length ≤ (partB fs v true t).length := by
  have := tags_le_part (v := v) (t := t) (i := i + 1) hk
  rw [tags_yes hi h1 h2] at this
  simp [tagB] at this ⊢; omega
theorem tags_count (hk : k < known fs) : (tagsTo (zipped fs v true t) k i).length ≤ (partB fs v true t).length := Nat.le_trans tagsTo_count (tags_le_part hk)
theorem tags_all : (tagsTo (zipped fs v true t) (known fs) 0).length ≤ (partB fs v true t).length := by
  have h1 := tagsTo_count (zs := zipped fs v true t) (tag := known fs) (i := 0)
  rw [partB_true]; simp at h1 ⊢; omega
theorem unk_le_part {j : Nat} (hj : j ≤ (unknown fs t.u).length) : (tagsTo (zipped fs v true t) (known fs) 0 ++ unkTo (unknown fs t.u) j).flatten.length ≤ (partB fs v true t).length := by
  have h1 := unkTo_le (us := unknown fs t.u) hj
  rw [partB_true]; simp at h1 ⊢; omega
theorem unk_size {j : Nat} (hj : j < (unknown fs t.u).length) :
    (tagsTo (zipped fs v true t) (known fs) 0 ++ unkTo (unknown fs t.u) j).flatten.length + (uvar (unknown fs t.u)[j].1.toNat).length + (uvar (whole (unknown fs t.u)[j].2).length).length + (whole (unknown fs t.u)[j].2).length ≤ (partB fs v true t).length := by
  have := unk_le_part (fs := fs) (v := v) (t := t) (show j + 1 ≤ (unknown fs t.u).length by omega)
  rw [unkTo_succ hj] at this
  simp [tagB] at this ⊢; omega
theorem part_size : (plainTo (zipped fs v true t) v fs.length).length + (uvar ((tagsTo (zipped fs v true t) (known fs) 0 ++ unkTo (unknown fs t.u) (unknown fs t.u).length).length)).length + (tagsTo (zipped fs v true t) (known fs) 0 ++ unkTo (unknown fs t.u) (unknown fs t.u).length).flatten.length = (partB fs v true t).length := by
  rw [partB_true]; simp [Nat.add_assoc]
end
theorem valueB_part {kind : Int} (e : kind = 10) (part : Tr → List UInt8) (nul flex : Bool) (t : Tr) : valueB kind part nul flex t = part t := by subst e; rfl
end Go.Sx
/- Plain laws on what can be set. -/
namespace Go.Sx
theorem fitsF_length (v : Int) (t : Tr) : ∀ (fs : List Fd) (i : Nat), (fitsF fs v i t).length = fs.length
 | [], _ => rfl
 | f :: r, i => by rw [fitsF]; simp [fitsF_length v t r]
theorem fitsF_get (v : Int) (t : Tr) : ∀ (fs : List Fd) (i j : Nat) (hj : j < fs.length), (fitsF fs v i t)[j]? = some (fitF fs[j] v (t.at (i + j)))
 | f :: r, i, 0, _ => by rw [fitsF]; simp
 | f :: r, i, j + 1, h => by
  rw [fitsF]
  have := fitsF_get v t r (i + 1) j (by simpa using h)
  rw [show i + (j + 1) = i + 1 + j by omega]
  simpa using this
abbrev EE := TC × Tr
def f5 (p : EE) : List Value := p.1.cells p.2
theorem f5_one (p : EE) : ∀ u ∈ f5 p, u.oneCell' = true := by
 intro u hu
 simp only [f5, TC.cells, List.mem_cons, List.not_mem_nil, or_false] at hu
 rcases hu with rfl | rfl | rfl | rfl | rfl <;> rfl
theorem f5_len (p : EE) : (f5 p).length = 5 := rfl
theorem flatMap_snoc' {α : Type} (f : α → List Value) (es : List α) (z : α) : es.flatMap f ++ f z = (es ++ [z]).flatMap f := by simp [List.flatMap_append]
theorem fits_snoc {fs : List Fd} {v : Int} {t : Tr} {k : Nat} {es : List EE} {c : TC} (hk : k < fs.length) (h : es.map (·.2) = (fitsF fs v 0 t).take k) : (es ++ [(c, fitF fs[k] v (t.at k))]).map (·.2) = (fitsF fs v 0 t).take (k + 1) := by
 have h1 := fitsF_get v t fs 0 k hk
 rw [Nat.zero_add] at h1
 rw [List.take_add_one, h1, List.map_append, h]; rfl
def wholeTag (x : Int × List UInt8) : Int × List UInt8 := (x.1, whole x.2)
theorem mem_snoc {α : Type} {p z : α} {es : List α} (h : p ∈ es ++ [z]) : p ∈ es ∨ p = z := by simpa using h
theorem map_take_snoc {α β γ : Type} {g : α → β} {us : List α} {k : Nat} {es : List (γ × β)} {c : γ} (hk : k < us.length) (h : es.map (·.2) = (us.take k).map g) : (es ++ [(c, g us[k])]).map (·.2) = (us.take (k + 1)).map g := by
 rw [List.take_succ_eq_append_getElem hk, List.map_append, List.map_append, h]; rfl
theorem fit_eq (fs : List Fd) (v : Int) (t : Tr) : fit fs v t = .mk 0 [] false (fitsF fs v 0 t) ((unknown fs t.u).map wholeTag) := rfl
end Go.Sx
/- Plain laws on octets that kbin appends. -/
namespace Go.Sx
theorem fixed_congr {x y : Int} : ∀ k, (∀ j, j < k → (x / 2 ^ (8 * j)) % 256 = (y / 2 ^ (8 * j)) % 256) → fixed x k = fixed y k
  | 0, _ => rfl
  | k + 1, h => by
    simp only [fixed, byte]
    rw [h k (by omega), fixed_congr k (fun j hj => h j (by omega))]
theorem fixed_w2 (x : Int) : fixed (x % 65536) 2 = fixed x 2 := fixed_congr 2 fun j hj => by
  have hj' : j = 0 ∨ j = 1 := by omega
  rcases hj' with rfl | rfl <;> simp only [Nat.reduceMul, Int.reducePow] <;> omega
theorem fixed_w4 (x : Int) : fixed (x % 4294967296) 4 = fixed x 4 := fixed_congr 4 fun j hj => by
  have hj' : j = 0 ∨ j = 1 ∨ j = 2 ∨ j = 3 := by omega
  rcases hj' with rfl | rfl | rfl | rfl <;> simp only [Nat.reduceMul, Int.reducePow] <;> omega
theorem fixed_w8 (x : Int) : fixed (x % 18446744073709551616) 8 = fixed x 8 := fixed_congr 8 fun j hj => by
  have hj' : j = 0 ∨ j = 1 ∨ j = 2 ∨ j = 3 ∨ j = 4 ∨ j = 5 ∨ j = 6 ∨ j = 7 := by omega
  rcases hj' with rfl | rfl | rfl | rfl | rfl | rfl | rfl | rfl <;> simp only [Nat.reduceMul, Int.reducePow] <;> omega
theorem fixed1 (x : Int) : fixed x 1 = [byte x] := by simp [fixed]
theorem wrap16u (x : Int) : IntKind.u16.wrap x = x % 65536 := by
  unfold IntKind.wrap
  have hb : (2 : Int) ^ IntKind.u16.bits = 65536 := rfl
  simp [hb, show IntKind.u16.signed = false from rfl]
theorem wrap64u (x : Int) : IntKind.u64.wrap x = x % 18446744073709551616 := by
  unfold IntKind.wrap
  have hb : (2 : Int) ^ IntKind.u64.bits = 18446744073709551616 := rfl
  simp [hb, show IntKind.u64.signed = false from rfl]
theorem wrap16s_mod (x : Int) : IntKind.i16.wrap x % 65536 = x % 65536 := by
  unfold IntKind.wrap
  have hb : (2 : Int) ^ IntKind.i16.bits = 65536 := rfl
  simp only [hb, show IntKind.i16.signed = true from rfl]
  simp
  split <;> omega
theorem wrap32s_mod (x : Int) : IntKind.i32.wrap x % 4294967296 = x % 4294967296 := by
  unfold IntKind.wrap
  have hb : (2 : Int) ^ IntKind.i32.bits = 4294967296 := rfl
  simp only [hb, show IntKind.i32.signed = true from rfl]
  simp
  split <;> omega
theorem wrap64s_mod (x : Int) : IntKind.i64.wrap x % 18446744073709551616 = x % 18446744073709551616 := by
  unfold IntKind.wrap
  have hb : (2 : Int) ^ IntKind.i64.bits = 18446744073709551616 := rfl
  simp only [hb, show IntKind.i64.signed = true from rfl]
  simp
  split <;> omega
theorem fixed_i16 (x : Int) : fixed (IntKind.i16.wrap x) 2 = fixed x 2 := by rw [← fixed_w2, wrap16s_mod, fixed_w2]
theorem fixed_i32 (x : Int) : fixed (IntKind.i32.wrap x) 4 = fixed x 4 := by rw [← fixed_w4, wrap32s_mod, fixed_w4]
theorem fixed_i64 (x : Int) : fixed (IntKind.i64.wrap x) 8 = fixed x 8 := by rw [← fixed_w8, wrap64s_mod, fixed_w8]
theorem fixed_u16 (x : Int) : fixed (IntKind.u16.wrap x) 2 = fixed x 2 := by rw [wrap16u, fixed_w2]
theorem fixed_u32 (x : Int) : fixed (IntKind.u32.wrap x) 4 = fixed x 4 := by rw [wrap32u, fixed_w4]
theorem fixed_u64 (x : Int) : fixed (IntKind.u64.wrap x) 8 = fixed x 8 := by rw [wrap64u, fixed_w8]
section
variable {P : Program} {ops : Array Oper} {Q : Exit → Act → World → Prop} {rest : List Oper} {n : Nat} {l : Env} {H : Fz} {L : Own}
variable {d ty : Nat} {pos : String} {af : Array Edge}
theorem src_text {tx : Nat} (s : List UInt8) (hk : P.underlying tx = some .string) : ∀ w, Hp H L w → Src P 1 tx (.string ⟨s.toArray⟩) s.length (bytesOf s) w := by
  intro w hw
  have := src_str (P := P) (H := H) (L := L) ⟨s.toArray⟩ hk w hw
  have e : byteCells ⟨s.toArray⟩ = bytesOf s := by simp [byteCells, bytesOf]
  rw [e] at this
  have e2 : (⟨s.toArray⟩ : ByteArray).size = s.length := by simp [ByteArray.size]
  rw [e2] at this
  exact this
/-- a chunk comes to the front -/
theorem tf {os : List Oper} {N : Chunk} {L' : Own} (hs : Sel L N L') (h : WL P ops Q os n l H (N :: L')) : WL P ops Q os n l H L := fun a w hA hw => h a w hA (hw.sel hs)
/-- held against nil -/
theorem esn {T T' e m c : Nat} {x : Operand} {a : Option Addr} (hu : P.underlying T = some (.slice e)) (hx : get l x = some (.slice a m c)) (hn : Nat.blt d n = true) (h : WL P ops Q rest n ((d, .bool a.isNone) :: l) H L) : WL P ops Q (⟨some d, .binOp .eql T x (.const (.slice none 0 0)) T', ty, pos, af, none⟩ :: rest) n l H L :=
  WL.vq rfl rfl hn (fun w0 w ha _ => by
    have h1 := run_equal_slice_nil (P := P) w T e a m c hu
    have h2 : Act.eval w0 (.const (.slice none 0 0)) = .slice none 0 0 := rfl
    simp [execOp, ha.get hx, h2, eqGuard, binOp, h1]) h
theorem nsn {T T' e m c : Nat} {x : Operand} {a : Option Addr} (hu : P.underlying T = some (.slice e)) (hx : get l x = some (.slice a m c)) (hn : Nat.blt d n = true) (h : WL P ops Q rest n ((d, .bool (!a.isNone)) :: l) H L) : WL P ops Q (⟨some d, .binOp .neq T x (.const (.slice none 0 0)) T', ty, pos, af, none⟩ :: rest) n l H L :=
  WL.vq rfl rfl hn (fun w0 w ha _ => by
    have h1 := run_equal_slice_nil (P := P) w T e a m c hu
    have h2 : Act.eval w0 (.const (.slice none 0 0)) = .slice none 0 0 := rfl
    simp [execOp, ha.get hx, h2, eqGuard, binOp, h1]) h
theorem epn {T T' e : Nat} {x : Operand} {p : Option Addr} (hu : P.underlying T = some (.pointer e)) (hx : get l x = some (.pointer p)) (hn : Nat.blt d n = true) (h : WL P ops Q rest n ((d, .bool p.isNone) :: l) H L) : WL P ops Q (⟨some d, .binOp .eql T x (.const (.pointer none)) T', ty, pos, af, none⟩ :: rest) n l H L :=
  WL.vq rfl rfl hn (fun w0 w ha _ => by
    have h1 := run_equal_pointer_nil (P := P) w T p (by simp [Program.pointee, hu])
    have h2 : Act.eval w0 (.const (.pointer none)) = .pointer none := rfl
    simp [execOp, ha.get hx, h2, eqGuard, binOp, h1]) h
theorem npn {T T' e : Nat} {x : Operand} {p : Option Addr} (hu : P.underlying T = some (.pointer e)) (hx : get l x = some (.pointer p)) (hn : Nat.blt d n = true) (h : WL P ops Q rest n ((d, .bool (!p.isNone)) :: l) H L) : WL P ops Q (⟨some d, .binOp .neq T x (.const (.pointer none)) T', ty, pos, af, none⟩ :: rest) n l H L :=
  WL.vq rfl rfl hn (fun w0 w ha _ => by
    have h1 := run_equal_pointer_nil (P := P) w T p (by simp [Program.pointee, hu])
    have h2 : Act.eval w0 (.const (.pointer none)) = .pointer none := rfl
    simp [execOp, ha.get hx, h2, eqGuard, binOp, h1]) h
end
end Go.Sx
/- How a message's rows lie in memory; what each kind of field is written as. -/
namespace Go.Sx
structure RowsAt (H : Fz) (a : Option Addr) (cap size : Nat) (R : Fz → Tr → List Value → Prop) (l : List Tr) : Prop where
  at_ : l ≠ [] → ∃ b o, a = some ⟨b, o, none⟩ ∧ ∀ i (hi : i < l.length), ∃ cs, R H l[i] cs ∧ H.at b (o + i * size) cs
  cap : l.length ≤ cap
def RMono (R : Fz → Tr → List Value → Prop) : Prop := ∀ H H' T cs, H.le H' → R H T cs → R H' T cs
theorem RowsAt.mono {H H' : Fz} {a : Option Addr} {cap size : Nat} {R : Fz → Tr → List Value → Prop} {l : List Tr} (h : RowsAt H a cap size R l) (hR : RMono R) (hle : H.le H') : RowsAt H' a cap size R l :=
  ⟨fun hs => let ⟨b, o, h1, h2⟩ := h.at_ hs; ⟨b, o, h1, fun i hi => let ⟨cs, h3, h4⟩ := h2 i hi; ⟨cs, hR _ _ _ _ hle h3, h4.mono hle⟩⟩, h.cap⟩
theorem RowsAt.nil {H : Fz} {size : Nat} {R : Fz → Tr → List Value → Prop} : RowsAt H none 0 size R [] := ⟨fun h => absurd rfl h, by simp⟩
abbrev KE (size : Nat) := {cs : List Value // cs.length = size ∧ ∀ u ∈ cs, u.oneCell' = true} × Tr
def fk {size : Nat} (p : KE size) : List Value := p.1.1
theorem fk_len {size : Nat} (p : KE size) : (fk p).length = size := p.1.2.1
theorem fk_one {size : Nat} (p : KE size) : ∀ u ∈ fk p, u.oneCell' = true := p.1.2.2
theorem RowsAt.row {H : Fz} {a : Option Addr} {m cap size : Nat} {R : Fz → Tr → List Value → Prop} {es : List (KE size)} (h : a = none ∧ m = 0 ∧ cap = 0 ∨ ∃ g, a = some ⟨g, 0, none⟩ ∧ H.at g 0 (es.flatMap fk)) (hm : m = es.length) (hc : m ≤ cap)
    (he : ∀ p ∈ es, R H p.2 (fk p)) : RowsAt H a cap size R (es.map (·.2)) := by
  refine ⟨fun hne => ?_, by simp; omega⟩
  rcases h with ⟨_, h0, _⟩ | ⟨g, rfl, h1⟩
  · have : es = [] := List.eq_nil_of_length_eq_zero (by omega)
    subst this; simp at hne
  · refine ⟨g, 0, rfl, fun i hi => ?_⟩
    have hi' : i < es.length := by simpa using hi
    refine ⟨fk es[i], by simpa using he es[i] (List.getElem_mem hi'), ?_⟩
    have := h1.elem fk size fk_len hi'
    simpa using this
/-! ### Fields that are written, by their kinds -/
section
variable {f : Fd} {v : Int} {flex : Bool} {t : Tr}
theorem P_int (h0 : f.kind ≠ 0) (h1 : f.kind ≤ 6) : fieldB f v flex t = fixed (fitF f v t).n (width f.kind) := by
  rw [fieldB_eq, fitF_eq]
  unfold fieldB' fitF' valueB fitV
  rw [if_neg (by omega), if_neg (by omega), if_neg h0, if_neg (by omega), if_neg (by omega), if_neg (by omega), if_neg (by omega), if_neg (by omega), if_neg (by omega), if_neg (by omega)]
  rfl
theorem P_bool (h0 : f.kind = 0) : fieldB f v flex t = [byte ((fitF f v t).n % 2)] := by
  rw [fieldB_eq, fitF_eq]
  unfold fieldB' fitF' valueB fitV
  rw [if_neg (by omega), if_neg (by omega), if_pos h0, if_neg (by omega), if_neg (by omega), if_neg (by omega)]
  rfl
theorem fit_text (h0 : f.kind = 8 ∨ f.kind = 9) : fitF f v t = .mk 0 (whole t.s) (f.isNul v t) [] [] := by
  rw [fitF_eq]; unfold fitF' fitV
  rw [if_neg (by omega), if_pos h0]
theorem P_text (h0 : f.kind = 8) : fieldB f v flex t = counted flex (fitF f v t).nul (if (fitF f v t).nul then [] else (fitF f v t).s).length 2 ++ (if (fitF f v t).nul then [] else (fitF f v t).s) := by
  rw [fit_text (Or.inl h0), fieldB_eq]
  unfold fieldB' valueB
  rw [if_neg (by omega), if_neg (by omega), if_neg (by omega), if_neg (by omega), if_pos h0]
  rfl
theorem P_bytes (h0 : f.kind = 9) : fieldB f v flex t = counted flex (fitF f v t).nul (if (fitF f v t).nul then [] else (fitF f v t).s).length 4 ++ (if (fitF f v t).nul then [] else (fitF f v t).s) := by
  rw [fit_text (Or.inr h0), fieldB_eq]
  unfold fieldB' valueB
  rw [if_neg (by omega), if_neg (by omega), if_neg (by omega), if_neg (by omega), if_neg (by omega), if_pos h0]
  rfl
theorem fit_nul (h : f.nul < 0) (h0 : f.tag < 0) (h10 : f.kind ≠ 10) : (fitF f v t).nul = false := by
  have hn : f.isNul v t = false := by unfold Fd.isNul; simp [show ¬ 0 ≤ f.nul by omega]
  rw [fitF_eq]; unfold fitF' fitV
  rw [hn]
  split
  · show (false || (decide (0 ≤ f.tag) && _)) = false
    simp [show ¬ 0 ≤ f.tag by omega]
  · split
    · rfl
    · first | rfl | (rw [if_neg h10]; rfl)
theorem fit_list (h0 : f.kind = 11) (ht : f.tag < 0) : (fitF f v t).nul = f.isNul v t ∧ (fitF f v t).l = t.things.map (fitV f.of (fit f.sub v) false) := by
  rw [fitF_eq]; unfold fitF'
  rw [if_pos h0]
  refine ⟨?_, rfl⟩
  show (f.isNul v t || (decide (0 ≤ f.tag) && _)) = _
  simp [show ¬ 0 ≤ f.tag by omega]
theorem P_list (h0 : f.kind = 11) (ht : f.tag < 0) : fieldB f v flex t = counted flex (f.isNul v t) (if f.isNul v t then [] else t.things).length 4 ++ (if f.isNul v t then [] else t.things).flatMap (valueB f.of (partB f.sub v flex) false flex) := by
  rw [fieldB_eq]; unfold fieldB'
  rw [if_pos h0]
theorem fitV_part (h : f.of = 10) (x : Tr) : fitV f.of (fit f.sub v) false x = fit f.sub v x := by
  unfold fitV; rw [if_neg (by omega), if_pos h]; rfl
end
/-! ### Told trees and what lies of them in memory -/
inductive Few : Tr → Prop
  | mk (t : Tr) (h : t.l.length ≤ 32767) (hr : ∀ x ∈ t.l, Few x) : Few t
theorem Few.len {t : Tr} (h : Few t) : t.l.length ≤ 32767 := by cases h; assumption
theorem Few.el {t x : Tr} (h : Few t) (hx : x ∈ t.l) : Few x := by cases h with | mk _ _ hr => exact hr x hx
theorem Few.none : Few .none := .mk _ (by simp [Tr.l, Tr.none]) (fun x hx => by simp [Tr.l, Tr.none] at hx)
theorem Few.at {t : Tr} (h : Few t) (i : Nat) : Few (t.at i) := by
  unfold Tr.at
  cases hq : t.l[i]? with
  | none => exact Few.none
  | some x => exact h.el (List.mem_of_getElem? hq)
def sT (T : Tr) : List UInt8 := if T.nul then [] else T.s
def lT (T : Tr) : List Tr := if T.nul then [] else T.l
theorem lT_nul {T : Tr} (h : T.nul = true) : lT T = [] := by unfold lT; rw [h]; rfl
theorem lT_not {T : Tr} (h : T.nul = false) : lT T = T.l := by unfold lT; rw [h]; rfl
structure OctAt (H : Fz) (T : Tr) (a : Option Addr) (c : Nat) : Prop where
  val : BytesAt H a c (sT T)
  nul : a.isNone = T.nul
theorem OctAt.mono {H H' : Fz} {T : Tr} {a : Option Addr} {c : Nat} (h : OctAt H T a c) (hle : H.le H') : OctAt H' T a c := ⟨h.val.mono hle, h.nul⟩
structure TextAt (H : Fz) (T : Tr) (p : Option Addr) : Prop where
  nul : p.isNone = T.nul
  val : ∀ ad, p = some ad → ∃ b, ad = ⟨b, 0, none⟩ ∧ H.at b 0 [.string ⟨T.s.toArray⟩]
theorem TextAt.mono {H H' : Fz} {T : Tr} {p : Option Addr} (h : TextAt H T p) (hle : H.le H') : TextAt H' T p := ⟨h.nul, fun ad e => let ⟨b, h1, h2⟩ := h.val ad e; ⟨b, h1, h2.mono hle⟩⟩
structure ListAt (H : Fz) (T : Tr) (size : Nat) (R : Fz → Tr → List Value → Prop) (a : Option Addr) (c : Nat) : Prop where
  rows : RowsAt H a c size R (lT T)
  nul : a.isNone = T.nul
theorem ListAt.mono {H H' : Fz} {T : Tr} {size : Nat} {R : Fz → Tr → List Value → Prop} {a : Option Addr} {c : Nat} (h : ListAt H T size R a c) (hR : RMono R) (hle : H.le H') : ListAt H' T size R a c := ⟨h.rows.mono hR hle, h.nul⟩
theorem ListAt.none {H : Fz} {T : Tr} {size : Nat} {R : Fz → Tr → List Value → Prop} (h : T.nul = true) : ListAt H T size R none 0 := ⟨by rw [lT_nul h]; exact RowsAt.nil, by rw [h]; rfl⟩
/-- A field's list of the schema that was just built. -/
theorem FdsAt.lit {H : Fz} {g : Nat} (es : List (FC × Fd)) (h : H.at g 0 (es.flatMap fun p => p.1.cells p.2)) (hl : es.length ≤ 1000) (he : ∀ p ∈ es, FdAt H p.1 p.2) : FdsAt H (some ⟨g, 0, Option.none⟩) (es.map (·.2)) := by
  refine ⟨fun _ => ⟨g, 0, rfl, fun i hi => ?_⟩, by simpa using hl⟩
  have hi' : i < es.length := by simpa using hi
  refine ⟨es[i].1, ?_, by simpa using he es[i] (List.getElem_mem hi')⟩
  have := h.elem (fun p : FC × Fd => p.1.cells p.2) 8 (fun _ => rfl) hi'
  simpa using this
def RI8 : Fz → Tr → List Value → Prop := fun _ T cs => cs = [.int .i8 (IntKind.i8.wrap T.n)]
def RI16 : Fz → Tr → List Value → Prop := fun _ T cs => cs = [.int .i16 (IntKind.i16.wrap T.n)]
def RI32 : Fz → Tr → List Value → Prop := fun _ T cs => cs = [.int .i32 (IntKind.i32.wrap T.n)]
def RI64 : Fz → Tr → List Value → Prop := fun _ T cs => cs = [.int .i64 T.n]
def RText : Fz → Tr → List Value → Prop := fun _ T cs => cs = [.string ⟨T.s.toArray⟩]
theorem frN {Q : Exit → Act → World → Prop} {n : Nat} {l : Env} {H : Fz} {L : Own} {e size : Nat} {a : Option Addr} {m cap : Nat} {xs : List Value} {N : Chunk} {L' : Own} (hr : Row e size a m cap xs N) (hs : Sel L N L')
    (h : ∀ H', H.le H' → (a = Option.none ∧ m = 0 ∧ cap = 0 ∨ ∃ g, a = some ⟨g, 0, Option.none⟩ ∧ H'.at g 0 xs) → Nn Q n l H' L') : Nn Q n l H L := by
  intro a' w hA hw
  obtain ⟨H', h1, h2, h3⟩ := hr.freeze hs hw
  exact h H' h1 h3 a' w hA h2
theorem cutT {P : Program} {x y : Code} {Q Q' : Exit → Act → World → Prop} {n : Nat} {l : Env} {H : Fz} {L : Own} (R : Env → Fz → Own → Prop)
    (h1 : Wp P x (Exit.then (St n H R) Q') n l H L) (h2 : ∀ l' H' L', H.le H' → R l' H' L' → Wp P y Q n l' H' L') : Wp P x (Exit.then (Code.wp P y Q) Q') n l H L := by
  intro a w ha hw
  refine wp_mono (h1 a w ha hw) ?_
  intro e a' w' he
  cases e with
  | normal => obtain ⟨l', H', L', g1, g2, g3, g4⟩ := he; exact h2 l' H' L' g2 g4 a' w' g1 g3
  | exit id => exact he
  | goto l => exact he
  | ret => exact he
  | panic ch => exact he
  | outgrown => exact he
end Go.Sx
/- A field after another is written. -/
namespace Go.Sx
section
variable {fs : List Fd} {v : Int} {flex : Bool} {t : Tr} {B p : List UInt8}
theorem fold0 (fs : List Fd) (v : Int) (flex : Bool) (t : Tr) (B : List UInt8) : B = B ++ plainTo (zipped fs v flex t) v 0 := by simp [plainTo]
theorem fold_yes (k : Nat) (hk : k < fs.length) (h1 : fs[k].tag < 0) (h2 : fs[k].has v = true) (hp : fieldB fs[k] v flex (t.at k) = p) : (B ++ plainTo (zipped fs v flex t) v k) ++ p = B ++ plainTo (zipped fs v flex t) v (k + 1) := by
  rw [piece_yes hk h1 h2, hp, List.append_assoc]
theorem fold_no (k : Nat) (hk : k < fs.length) (h2 : fs[k].has v = false) : plainTo (zipped fs v flex t) v k = plainTo (zipped fs v flex t) v (k + 1) := (piece_no2 hk h2).symm
theorem fit_at (k : Nat) (hk : k < fs.length) : (fit fs v t).at k = fitF fs[k] v (t.at k) := by
  have h := fitsF_get v t fs 0 k hk
  rw [Nat.zero_add] at h
  show ((fitsF fs v 0 t)[k]?).getD .none = _
  rw [h]; rfl
theorem counted_ff (n size : Nat) : counted false false n size = fixed n size := rfl
theorem few_fit (fs : List Fd) (v : Int) (hl : fs.length ≤ 1000) (hsub : ∀ f ∈ fs, ∀ x : Tr, Few (fitF f v x)) (t : Tr) : Few (fit fs v t) := by
  refine .mk _ (by show (fitsF fs v 0 t).length ≤ _; rw [fitsF_length]; omega) fun x hx => ?_
  obtain ⟨i, hi, rfl⟩ := List.mem_iff_getElem.1 (show x ∈ fitsF fs v 0 t from hx)
  rw [fitsF_length] at hi
  have h := fitsF_get v t fs 0 i hi
  obtain ⟨h1, h2⟩ := List.getElem?_eq_some_iff.1 h
  rw [show (fitsF fs v 0 t)[i] = _ from h2]
  exact hsub _ (List.getElem_mem hi) _
end
/-- Lists of fields are short, at every depth. -/
inductive Short : List Fd → Prop
  | mk (fs : List Fd) (h : fs.length ≤ 1000) (hr : ∀ f ∈ fs, Short f.sub) : Short fs
theorem few_leaf (n : Int) (s : List UInt8) (b : Bool) (u : List (Int × List UInt8)) : Few (.mk n s b [] u) := .mk _ (by simp [Tr.l]) (fun x hx => by simp [Tr.l] at hx)
theorem few_nul {n : Int} {s : List UInt8} {b b' : Bool} {l : List Tr} {u : List (Int × List UInt8)} (h : Few (.mk n s b l u)) : Few (.mk n s b' l u) := .mk _ h.len (fun _ hx => h.el hx)
theorem few_fitV {kind : Int} {fs : List Fd} {v : Int} {nul : Bool} {x : Tr} (h : Few (fit fs v x)) : Few (fitV kind (fit fs v) nul x) := by
  unfold fitV
  split
  · exact few_leaf _ _ _ _
  · split
    · exact few_nul h
    · exact few_leaf _ _ _ _
theorem few_fit_all {fs : List Fd} (h : Short fs) (v : Int) : ∀ t, Few (fit fs v t) := by
  induction h with
  | mk fs hl _ ih =>
    refine few_fit fs v hl fun f hf x => ?_
    rw [fitF_eq]; unfold fitF'
    have h1 := ih f hf
    split
    · refine .mk _ ?_ fun y hy => ?_
      · show (List.map _ x.things).length ≤ _
        rw [List.length_map]
        show (x.l.take most).length ≤ _
        rw [take_most_len]; omega
      · obtain ⟨z, _, rfl⟩ := List.mem_map.1 (show y ∈ List.map _ x.things from hy)
        exact few_fitV (h1 z)
    · exact few_fitV (h1 x)
/-! ### Sizes, lists -/
def LIM : Nat := 4294967295
def lsOf (f : Fd) (v : Int) (t : Tr) : List Tr := if f.isNul v t then [] else t.things
def GOf (f : Fd) (v : Int) (flex : Bool) : Tr → List UInt8 := valueB f.of (partB f.sub v flex) false flex
theorem lT_fit {f : Fd} {v : Int} {t : Tr} (h0 : f.kind = 11) (ht : f.tag < 0) : lT (fitF f v t) = (lsOf f v t).map (fitV f.of (fit f.sub v) false) := by
  obtain ⟨h1, h2⟩ := fit_list (v := v) (t := t) h0 ht
  unfold lT lsOf
  rw [h1, h2]
  split <;> rfl
theorem P_list' {f : Fd} {v : Int} {flex : Bool} {t : Tr} (h0 : f.kind = 11) (ht : f.tag < 0) : fieldB f v flex t = counted flex (f.isNul v t) (lsOf f v t).length 4 ++ (lsOf f v t).flatMap (GOf f v flex) := P_list h0 ht
theorem fold_size {fs : List Fd} {v : Int} {flex : Bool} {t : Tr} {X p B : List UInt8} {k : Nat} (e : X ++ p = B ++ plainTo (zipped fs v flex t) v (k + 1)) (hk : k < fs.length) (hB : B.length + (partB fs v flex t).length ≤ LIM) : X.length + p.length ≤ LIM := by
  have h := congrArg List.length e
  have h2 := plain_le_part (fs := fs) (v := v) (flex := flex) (t := t) (show k + 1 ≤ fs.length by omega)
  simp only [List.length_append] at h
  omega
theorem lsOf_len (f : Fd) (v : Int) (t : Tr) : (lsOf f v t).length ≤ 32767 := by
  unfold lsOf
  split
  · simp
  · show (t.l.take most).length ≤ _
    rw [take_most_len]; omega
theorem GOf_part {f : Fd} {v : Int} {flex : Bool} (h : f.of = 10) (x : Tr) : GOf f v flex x = partB f.sub v flex x := valueB_part h _ _ _ _
theorem fold_first {fs : List Fd} {v : Int} {flex : Bool} {t : Tr} {B p : List UInt8} (k : Nat) (hn : plainTo (zipped fs v flex t) v k = []) (hk : k < fs.length) (h1 : fs[k].tag < 0) (h2 : fs[k].has v = true) (hp : fieldB fs[k] v flex (t.at k) = p) : B ++ p = B ++ plainTo (zipped fs v flex t) v (k + 1) := by
  rw [piece_yes hk h1 h2, hp, hn]; rfl
theorem plain0 {zs : List ZF} {v : Int} : plainTo zs v 0 = [] := rfl
theorem el_end {α : Type} {B0 P : List UInt8} {ls : List α} {k : Nat} {G : α → List UInt8} (hk : k < ls.length) (hp : G ls[k] = P) : (B0 ++ (ls.take k).flatMap G) ++ P = B0 ++ (ls.take (k + 1)).flatMap G := by
  rw [flatMap_take_succ G hk, hp, List.append_assoc]
theorem map_get {l ls : List Tr} {g : Tr → Tr} (h : l = ls.map g) {k : Nat} (hk : k < l.length) : ∃ hk' : k < ls.length, l[k] = g ls[k] := by
  subst h; exact ⟨by simpa using hk, by simp⟩
theorem el_size {X cnt p : List UInt8} {ls : List Tr} {G : Tr → List UInt8} {k : Nat} (hs : X.length + (cnt ++ ls.flatMap G).length ≤ LIM) (hk : k < ls.length) (hp : (G ls[k]) = p) : (X ++ cnt ++ (ls.take k).flatMap G).length + p.length ≤ LIM := by
  have := flatMap_step_le G hk
  rw [hp] at this
  simp only [List.length_append] at hs ⊢
  omega
theorem isNul_false {f : Fd} {v : Int} {t : Tr} (h : f.nul < 0) : f.isNul v t = false := by unfold Fd.isNul; simp [show ¬ 0 ≤ f.nul by omega]
theorem wrap_i16 {x : Int} (h0 : 0 ≤ x) (h1 : x ≤ 32767) : IntKind.i16.wrap x = x := by
  unfold IntKind.wrap
  have hb : (2 : Int) ^ IntKind.i16.bits = 65536 := rfl
  have hc : (2 : Int) ^ (IntKind.i16.bits - 1) = 32768 := rfl
  simp only [hb, hc, show IntKind.i16.signed = true from rfl]
  have : x % 65536 = x := by omega
  simp only [this]
  simp
  omega
end Go.Sx

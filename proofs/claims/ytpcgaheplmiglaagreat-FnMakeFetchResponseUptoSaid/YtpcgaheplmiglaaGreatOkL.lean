/- Told trees that are written just as they are; what is set of a tree is such a one, and is written alike. -/
import Derived.Test.YtpcgaheplmiglaaGreatLibF
import Derived.Test.YtpcgaheplmiglaaGreatLibD
import Derived.Test.YtpcgaheplmiglaaGreatLibE
set_option linter.unusedVariables false
set_option linter.unusedSimpArgs false
namespace Go.Sx
def OkU (fs : List Fd) (us : List (Int × List UInt8)) : Prop := unknown fs us = us ∧ us.length ≤ 32767 ∧ ∀ p ∈ us, p.2.length ≤ 32767
mutual
def OkF : Fd → Int → Tr → Prop
  | .mk kind _ _ nul tag _ of sub, v, x =>
    (x.nul = true → (0 ≤ nul ∧ nul ≤ v) ∨ (kind = 11 ∧ (0 ≤ tag ∨ nul < 0) ∧ x.l = [])) ∧ (kind = 8 ∨ kind = 9 → x.s.length ≤ 32767) ∧ (kind = 10 → x.nul = false → OkU sub x.u ∧ OkFs sub v 0 x) ∧
    (kind = 11 → x.l.length ≤ 32767 ∧ ∀ y ∈ x.l, (of = 8 ∨ of = 9 → y.s.length ≤ 32767) ∧ (of = 10 → OkU sub y.u ∧ OkFs sub v 0 y))
def OkFs : List Fd → Int → Nat → Tr → Prop
  | [], _, _, _ => True
  | f :: r, v, i, x => (f.has v = true → OkF f v (x.at i)) ∧ OkFs r v (i + 1) x
end
structure OkP (fs : List Fd) (v : Int) (x : Tr) : Prop where
  u : OkU fs x.u
  fs : OkFs fs v 0 x
structure OkFE (f : Fd) (v : Int) (x : Tr) : Prop where
  nul : x.nul = true → (0 ≤ f.nul ∧ f.nul ≤ v) ∨ (f.kind = 11 ∧ (0 ≤ f.tag ∨ f.nul < 0) ∧ x.l = [])
  s : f.kind = 8 ∨ f.kind = 9 → x.s.length ≤ 32767
  part : f.kind = 10 → x.nul = false → OkP f.sub v x
  len : f.kind = 11 → x.l.length ≤ 32767
  el : f.kind = 11 → ∀ y ∈ x.l, (f.of = 8 ∨ f.of = 9 → y.s.length ≤ 32767) ∧ (f.of = 10 → OkP f.sub v y)
theorem OkF_iff {f : Fd} {v : Int} {x : Tr} : OkF f v x ↔ OkFE f v x := by
  cases f
  rw [OkF]
  constructor
  · rintro ⟨h1, h2, h3, h4⟩
    exact ⟨h1, h2, fun a b => let ⟨p, q⟩ := h3 a b; ⟨p, q⟩, fun a => (h4 a).1, fun a y hy => ⟨((h4 a).2 y hy).1, fun c => let ⟨p, q⟩ := ((h4 a).2 y hy).2 c; ⟨p, q⟩⟩⟩
  · intro h
    exact ⟨h.nul, h.s, fun a b => ⟨(h.part a b).u, (h.part a b).fs⟩, fun a => ⟨h.len a, fun y hy => ⟨(h.el a y hy).1, fun c => ⟨((h.el a y hy).2 c).u, ((h.el a y hy).2 c).fs⟩⟩⟩⟩
theorem OkFs_iff {v : Int} {x : Tr} : ∀ {fs : List Fd} {i : Nat}, OkFs fs v i x ↔ ∀ j (hj : j < fs.length), fs[j].has v = true → OkFE fs[j] v (x.at (i + j))
  | [], i => by rw [OkFs]; simp
  | f :: r, i => by
    rw [OkFs, OkFs_iff (fs := r)]
    constructor
    · rintro ⟨h1, h2⟩ j hj hh
      cases j with
      | zero => exact OkF_iff.1 (h1 hh)
      | succ j => have := h2 j (by simpa using hj) hh; rw [show i + (j + 1) = i + 1 + j by omega]; exact this
    · intro h
      refine ⟨fun hh => OkF_iff.2 (h 0 (by simp) hh), fun j hj hh => ?_⟩
      have := h (j + 1) (by simpa using hj) hh
      rw [show i + (j + 1) = i + 1 + j by omega] at this; exact this
theorem at_l {x y : Tr} (h : x.l = y.l) (i : Nat) : x.at i = y.at i := by unfold Tr.at; rw [h]
theorem OkFs_l {fs : List Fd} {v : Int} {x y : Tr} {i : Nat} (h : x.l = y.l) (hx : OkFs fs v i x) : OkFs fs v i y :=
  OkFs_iff.2 fun j hj hh => by rw [← at_l h]; exact OkFs_iff.1 hx j hj hh
theorem OkP.get {fs : List Fd} {v : Int} {x : Tr} (h : OkP fs v x) (k : Nat) (hk : k < fs.length) (hh : fs[k].has v = true) : OkFE fs[k] v (x.at k) := by
  have := OkFs_iff.1 h.fs k hk hh
  rwa [Nat.zero_add] at this
def pad16 (s : List UInt8) : List UInt8 := s.take 16 ++ List.replicate (16 - (s.take 16).length) 0
theorem pad16_len (s : List UInt8) : (pad16 s).length = 16 := by simp [pad16]; omega
theorem has_yes {f : Fd} {v : Int} (h1 : f.frm ≤ v) (h2 : f.to < 0 ∨ v ≤ f.to) : f.has v = true := by unfold Fd.has; simp [h1, h2]
theorem has_no {f : Fd} {v : Int} (h : v < f.frm ∨ (0 ≤ f.to ∧ f.to < v)) : f.has v = false := by unfold Fd.has; simp; omega
theorem whole_le {s : List UInt8} (h : s.length ≤ 32767) : whole s = s := List.take_of_length_le h
theorem things_le {x : Tr} (h : x.l.length ≤ 32767) : x.things = x.l := List.take_of_length_le h
section
variable {f : Fd} {v : Int} {flex : Bool} {x : Tr}
theorem OkFE.isNul (h : OkFE f v x) (ht : f.tag < 0) (hk : f.kind ≠ 11 ∨ 0 ≤ f.nul) : f.isNul v x = x.nul := by
  unfold Fd.isNul
  cases hn : x.nul with
  | false => simp
  | true =>
    rcases h.nul hn with ⟨h1, h2⟩ | ⟨_, h1, _⟩
    · simp [h1, h2]
    · omega
theorem OkFE.nn (h : OkFE f v x) (ht : f.tag < 0) (hn : f.nul < 0) (hk : f.kind ≠ 11) : x.nul = false := by
  cases hx : x.nul with
  | false => rfl
  | true => rcases h.nul hx with ⟨h1, _⟩ | ⟨_, h1, _⟩ <;> omega
theorem FB_int (h0 : f.kind ≠ 0) (h1 : f.kind ≤ 6) : fieldB f v flex x = fixed x.n (width f.kind) := by
  rw [fieldB_eq]; unfold fieldB' valueB
  rw [if_neg (by omega), if_neg (by omega), if_neg h0, if_neg (by omega), if_neg (by omega), if_neg (by omega), if_neg (by omega)]
theorem FB_bool (h0 : f.kind = 0) : fieldB f v flex x = [byte (x.n % 2)] := by
  rw [fieldB_eq]; unfold fieldB' valueB
  rw [if_neg (by omega), if_neg (by omega), if_pos h0]
theorem FB_uuid (h0 : f.kind = 7) : fieldB f v flex x = pad16 x.s := by
  rw [fieldB_eq]; unfold fieldB' valueB
  rw [if_neg (by omega), if_neg (by omega), if_neg (by omega), if_pos h0]; rfl
theorem FB_text (h0 : f.kind = 8) (ht : f.tag < 0) (h : OkFE f v x) : fieldB f v flex x = counted flex x.nul (sT x).length 2 ++ sT x := by
  rw [fieldB_eq]; unfold fieldB' valueB
  rw [if_neg (by omega), if_neg (by omega), if_neg (by omega), if_neg (by omega), if_pos h0]
  simp only [h.isNul ht (Or.inl (by omega)), whole_le (h.s (Or.inl h0))]; rfl
theorem FB_bytes (h0 : f.kind = 9) (ht : f.tag < 0) (h : OkFE f v x) : fieldB f v flex x = counted flex x.nul (sT x).length 4 ++ sT x := by
  rw [fieldB_eq]; unfold fieldB' valueB
  rw [if_neg (by omega), if_neg (by omega), if_neg (by omega), if_neg (by omega), if_neg (by omega), if_pos h0]
  simp only [h.isNul ht (Or.inl (by omega)), whole_le (h.s (Or.inr h0))]; rfl
theorem FB_list (h0 : f.kind = 11) (ht : f.tag < 0) (hn : 0 ≤ f.nul) (h : OkFE f v x) : fieldB f v flex x = counted flex x.nul (lT x).length 4 ++ (lT x).flatMap (GOf f v flex) := by
  rw [fieldB_eq]; unfold fieldB'
  rw [if_pos h0]
  simp only [h.isNul ht (Or.inr hn), things_le (h.len h0)]; rfl
theorem FB_list0 (h0 : f.kind = 11) (ht : f.tag < 0) (hn : f.nul < 0) (h : OkFE f v x) : fieldB f v flex x = counted flex false (lT x).length 4 ++ (lT x).flatMap (GOf f v flex) := by
  rw [fieldB_eq]; unfold fieldB'
  rw [if_pos h0]
  have e1 : f.isNul v x = false := by unfold Fd.isNul; rw [decide_eq_false (show ¬ 0 ≤ f.nul by omega)]; simp
  have e2 : lT x = x.l := by
    unfold lT
    cases hx : x.nul with
    | false => rfl
    | true =>
      rcases h.nul hx with ⟨h1, _⟩ | ⟨_, _, h1⟩
      · omega
      · rw [h1]; rfl
  simp only [e1, e2, things_le (h.len h0)]; rfl
theorem FB_part (h0 : f.kind = 10) (hn : f.nul < 0) : fieldB f v flex x = partB f.sub v flex x := by
  rw [fieldB_eq]; unfold fieldB' valueB
  rw [if_neg (by omega), if_neg (by omega), if_neg (by omega), if_neg (by omega), if_neg (by omega), if_neg (by omega), if_pos h0]
theorem sT_nn (h : x.nul = false) : sT x = x.s := by unfold sT; rw [h]; rfl
theorem lT_len (h : x.l.length ≤ 32767) : (lT x).length ≤ 32767 := by
  unfold lT; split
  · simp
  · exact h
theorem sT_len (h : x.s.length ≤ 32767) : (sT x).length ≤ 32767 := by
  unfold sT; split
  · simp
  · exact h
theorem lT_mem {y : Tr} (h : y ∈ lT x) : y ∈ x.l := by unfold lT at h; split at h; simp at h; exact h
theorem G_int (h0 : f.of ≠ 0) (h1 : f.of ≤ 6) (y : Tr) : GOf f v flex y = fixed y.n (width f.of) := by
  unfold GOf valueB
  rw [if_neg h0, if_neg (by omega), if_neg (by omega), if_neg (by omega), if_neg (by omega)]
theorem G_uuid (h0 : f.of = 7) (y : Tr) : GOf f v flex y = pad16 y.s := by
  unfold GOf valueB
  rw [if_neg (by omega), if_pos h0]; rfl
theorem G_text (h0 : f.of = 8) {y : Tr} (h : y.s.length ≤ 32767) : GOf f v flex y = counted flex false y.s.length 2 ++ y.s := by
  unfold GOf valueB
  rw [if_neg (by omega), if_neg (by omega), if_pos h0]
  simp [whole_le h]
theorem G_bytes (h0 : f.of = 9) {y : Tr} (h : y.s.length ≤ 32767) : GOf f v flex y = counted flex false y.s.length 4 ++ y.s := by
  unfold GOf valueB
  rw [if_neg (by omega), if_neg (by omega), if_neg (by omega), if_pos h0]
  simp [whole_le h]
end
/-! ### A part without known tags -/
theorem tagsTo_zero (zs : List ZF) : tagsTo zs 0 0 = [] := by simp [tagsTo]
theorem unkTo_all {us : List (Int × List UInt8)} (h : ∀ p ∈ us, p.2.length ≤ 32767) : (unkTo us us.length).flatten = us.flatMap tagU := by
  simp only [unkTo, List.take_length]
  rw [List.flatMap_def]
  congr 1
  apply List.map_congr_left
  intro p hp
  simp [tagU, tagB, whole_le (h p hp)]
theorem unkTo_len (us : List (Int × List UInt8)) : (unkTo us us.length).length = us.length := by simp [unkTo]
theorem partB_plain {fs : List Fd} {v : Int} {x : Tr} (hk : known fs = 0) (h : OkU fs x.u) : partB fs v true x = plainTo (zipped fs v true x) v fs.length ++ uvar x.u.length ++ x.u.flatMap tagU := by
  rw [partB_true, hk, tagsTo_zero, List.nil_append, h.1, unkTo_all h.2.2, unkTo_len]
theorem part_close {fs : List Fd} {v : Int} {x : Tr} {B : List UInt8} (hk : known fs = 0) (h : OkU fs x.u) : B ++ plainTo (zipped fs v true x) v fs.length ++ uvar x.u.length ++ x.u.flatMap tagU = B ++ partB fs v true x := by
  rw [partB_plain hk h]; simp only [List.append_assoc]
theorem part_size_plain {fs : List Fd} {v : Int} {x : Tr} {B : List UInt8} (hk : known fs = 0) (h : OkU fs x.u) (hB : B.length + (partB fs v true x).length ≤ LIM) : (B ++ plainTo (zipped fs v true x) v fs.length).length + (uvar x.u.length).length ≤ LIM ∧ (B ++ plainTo (zipped fs v true x) v fs.length ++ uvar x.u.length).length + (x.u.flatMap tagU).length ≤ LIM := by
  rw [partB_plain hk h] at hB
  simp only [List.length_append] at hB ⊢
  omega
/-! ### The written octets of what was set -/
inductive Good : List Fd → Prop
  | mk (fs : List Fd) (hl : fs.length ≤ 1000) (h : ∀ f ∈ fs, f.tag < 0) (hr : ∀ f ∈ fs, Good f.sub) : Good fs
mutual
def goodF : Fd → Bool
  | .mk _ _ _ _ tag _ _ sub => decide (tag < 0) && Nat.ble sub.length 1000 && goodFs sub
def goodFs : List Fd → Bool
  | [] => true
  | f :: r => goodF f && goodFs r
end
theorem goodFs_mem : ∀ {fs : List Fd}, goodFs fs = true → ∀ f ∈ fs, goodF f = true
  | [], _, f, hf => by cases hf
  | g :: r, h, f, hf => by
    rw [goodFs, Bool.and_eq_true] at h
    rcases List.mem_cons.1 hf with rfl | hf
    · exact h.1
    · exact goodFs_mem h.2 f hf
theorem good_of : ∀ (n : Nat) (fs : List Fd), SizeOf.sizeOf fs ≤ n → fs.length ≤ 1000 → goodFs fs = true → Good fs
  | 0, fs, hn, _, _ => by cases fs <;> simp at hn <;> omega
  | n + 1, fs, hn, hl, h => by
    refine .mk fs hl (fun f hf => ?_) (fun f hf => ?_)
    · have := goodFs_mem h f hf
      cases f; rw [goodF] at this
      simp only [Bool.and_eq_true, decide_eq_true_eq] at this
      exact this.1.1
    · have h1 := goodFs_mem h f hf
      have h2 := List.sizeOf_lt_of_mem hf
      refine good_of n f.sub ?_ ?_ ?_
      · cases f; simp [Fd.sub] at h2 ⊢; omega
      · cases f; rw [goodF] at h1; simp only [Bool.and_eq_true] at h1
        exact Nat.le_of_ble_eq_true h1.1.2
      · cases f; rw [goodF] at h1; simp only [Bool.and_eq_true] at h1
        exact h1.2
theorem Good.of {fs : List Fd} (hl : fs.length ≤ 1000) (h : goodFs fs = true) : Good fs := good_of _ fs (Nat.le_refl _) hl h
theorem Good.known {fs : List Fd} (h : Good fs) : known fs = 0 := by
  cases h with
  | mk _ _ h _ =>
    have : ∀ l : List Fd, (∀ f ∈ l, f.tag < 0) → Go.Sx.known l = 0 := by
      intro l
      induction l with
      | nil => intro _; rfl
      | cons f r ih => intro h; simp only [Go.Sx.known]; rw [ih (fun g hg => h g (List.mem_cons_of_mem _ hg)), if_neg (by have := h f List.mem_cons_self; omega)]; rfl
    exact this fs h
theorem Good.short {fs : List Fd} (h : Good fs) : Short fs := by
  induction h with
  | mk fs hl _ _ ih => exact .mk fs hl ih
/-! #### Unknown tags, once more -/
def SortedU (l : List (Int × List UInt8)) : Prop := l.Pairwise fun p q => p.1 < q.1
theorem insTag_mem {k : Int} {v : List UInt8} {p : Int × List UInt8} {l : List (Int × List UInt8)} (h : p ∈ insTag k v l) : p = (k, v) ∨ p ∈ l := mem_insTag h
theorem insTag_sorted {k : Int} {v : List UInt8} : ∀ {l : List (Int × List UInt8)}, SortedU l → SortedU (insTag k v l)
  | [], _ => by simp [insTag, SortedU]
  | (k', v') :: r, h => by
    obtain ⟨h1, h2⟩ := List.pairwise_cons.1 h
    simp only [insTag]
    split
    · refine List.pairwise_cons.2 ⟨fun p hp => ?_, insTag_sorted h2⟩
      rcases insTag_mem hp with rfl | hp
      · assumption
      · exact h1 p hp
    · split
      · exact h
      · refine List.pairwise_cons.2 ⟨fun p hp => ?_, h⟩
        rcases List.mem_cons.1 hp with rfl | hp
        · simp; omega
        · have := h1 p hp; simp at this ⊢; omega
theorem unknownFrom_sorted (least : Int) : ∀ (us acc : List (Int × List UInt8)), SortedU acc → SortedU (unknownFrom least acc us)
  | [], acc, h => h
  | (k, v) :: r, acc, h => by
    simp only [unknownFrom]
    refine unknownFrom_sorted least r _ ?_
    split
    · exact h
    · exact insTag_sorted h
theorem unknown_sorted (fs : List Fd) (us : List (Int × List UInt8)) : SortedU (unknown fs us) := unknownFrom_sorted _ _ _ (by simp [SortedU])
theorem unknownFrom_least (least : Int) : ∀ (us acc : List (Int × List UInt8)), (∀ p ∈ acc, least ≤ p.1) → ∀ p ∈ unknownFrom least acc us, least ≤ p.1
  | [], acc, h => h
  | (k, v) :: r, acc, h => by
    simp only [unknownFrom]
    refine unknownFrom_least least r _ ?_
    split
    · exact h
    · intro p hp
      rcases insTag_mem hp with rfl | hp
      · simp; omega
      · exact h p hp
theorem unknown_least (fs : List Fd) (us : List (Int × List UInt8)) : ∀ p ∈ unknown fs us, ((known fs : Nat) : Int) ≤ p.1 := unknownFrom_least _ _ _ (fun p hp => by cases hp)
theorem insTag_last {k : Int} {v : List UInt8} : ∀ {l : List (Int × List UInt8)}, (∀ p ∈ l, p.1 < k) → insTag k v l = l ++ [(k, v)]
  | [], _ => rfl
  | (k', v') :: r, h => by
    have h1 : k' < k := h (k', v') List.mem_cons_self
    simp only [insTag, if_pos h1, List.cons_append]
    rw [insTag_last (l := r) (fun p hp => h p (List.mem_cons_of_mem _ hp))]
theorem unknownFrom_id (least : Int) : ∀ (us acc : List (Int × List UInt8)), SortedU (acc ++ us) → (∀ p ∈ us, least ≤ p.1) → unknownFrom least acc us = acc ++ us
  | [], acc, _, _ => by simp [unknownFrom]
  | (k, v) :: r, acc, h, hl => by
    have hk : least ≤ k := hl (k, v) List.mem_cons_self
    simp only [unknownFrom, if_neg (show ¬ k < least by omega)]
    have hb : ∀ p ∈ acc, p.1 < k := fun p hp => by
      have := List.pairwise_append.1 h
      exact this.2.2 p hp (k, v) List.mem_cons_self
    rw [insTag_last hb, unknownFrom_id least r (acc ++ [(k, v)]) (by simpa using h) (fun p hp => hl p (List.mem_cons_of_mem _ hp))]
    simp
theorem unknown_id {fs : List Fd} {us : List (Int × List UInt8)} (h : SortedU us) (hl : ∀ p ∈ us, ((known fs : Nat) : Int) ≤ p.1) (hn : us.length ≤ 32767) : unknown fs us = us := by
  unfold unknown
  rw [List.take_of_length_le (show us.length ≤ most from hn)]
  have := unknownFrom_id (known fs) us [] (by simpa using h) hl
  simpa using this
theorem okU_fit (fs : List Fd) (us : List (Int × List UInt8)) : OkU fs ((unknown fs us).map wholeTag) := by
  have hn := unknown_len fs us
  refine ⟨unknown_id ?_ ?_ (by simpa using hn), by simpa using hn, ?_⟩
  · have := unknown_sorted fs us
    unfold SortedU at this ⊢
    rw [List.pairwise_map]
    exact this.imp (fun h => h)
  · intro p hp
    obtain ⟨q, hq, rfl⟩ := List.mem_map.1 hp
    exact unknown_least fs us q hq
  · intro p hp
    obtain ⟨q, hq, rfl⟩ := List.mem_map.1 hp
    show (whole q.2).length ≤ 32767
    rw [whole_len]; omega
/-! #### What was set may be written just as it is -/
theorem ok_fit : ∀ {fs : List Fd}, Good fs → ∀ (v : Int) (t : Tr), OkP fs v (fit fs v t) := by
  intro fs h
  induction h with
  | mk fs hl htag hr ih =>
    intro v t
    refine ⟨okU_fit fs t.u, OkFs_iff.2 fun j hj _ => ?_⟩
    rw [Nat.zero_add, fit_at j hj]
    have ih' := ih fs[j] (List.getElem_mem hj)
    have ht := htag fs[j] (List.getElem_mem hj)
    generalize fs[j] = f at ih' ht
    have hnul : ∀ b, f.isNul v (t.at j) = true → (0 ≤ f.nul ∧ f.nul ≤ v) ∨ b := fun b hb => by
      unfold Fd.isNul at hb
      simp at hb; exact Or.inl ⟨hb.1.2, hb.2⟩
    rw [fitF_eq]; unfold fitF'
    by_cases h11 : f.kind = 11
    · rw [if_pos h11]
      refine ⟨fun hn => ?_, fun h => by omega, fun h => by omega, fun _ => ?_, fun _ y hy => ?_⟩
      · have : f.isNul v (t.at j) = true := by
          have h0 : (f.isNul v (t.at j) || (decide (0 ≤ f.tag) && (t.at j).l.isEmpty)) = true := hn
          rw [decide_eq_false (show ¬ 0 ≤ f.tag by omega)] at h0
          simpa using h0
        exact hnul _ this
      · show (List.map _ (t.at j).things).length ≤ _
        rw [List.length_map]
        show ((t.at j).l.take most).length ≤ _
        rw [take_most_len]; omega
      · obtain ⟨z, _, rfl⟩ := List.mem_map.1 (show y ∈ List.map _ (t.at j).things from hy)
        unfold fitV
        refine ⟨fun h => ?_, fun h => ?_⟩
        · rw [if_pos h]
          show (whole z.s).length ≤ _
          rw [whole_len]; omega
        · rw [if_neg (by omega), if_pos h]
          have := ih' v z
          exact this
    · rw [if_neg h11]; unfold fitV
      by_cases h8 : f.kind = 8 ∨ f.kind = 9
      · rw [if_pos h8]
        refine ⟨fun hn => hnul _ hn, fun _ => ?_, fun h => by omega, fun h => absurd h h11, fun h => absurd h h11⟩
        show (whole (t.at j).s).length ≤ _
        rw [whole_len]; omega
      · rw [if_neg h8]
        by_cases h10 : f.kind = 10
        · rw [if_pos h10]
          refine ⟨fun hn => hnul _ hn, fun h => absurd h h8, fun _ _ => ?_, fun h => absurd h h11, fun h => absurd h h11⟩
          have := ih' v (t.at j)
          refine ⟨this.u, OkFs_l ?_ this.fs⟩
          cases fit f.sub v (t.at j); rfl
        · rw [if_neg h10]
          exact ⟨fun hn => (by cases hn), fun h => absurd h h8, fun h => absurd h h10, fun h => absurd h h11, fun h => absurd h h11⟩
/-! #### What was set is written alike -/
def nz (x : ZF) : ZF := (x.1, x.2.1, if x.1.tag < 0 then true else x.2.2)
theorem pieceP_nz (v : Int) (x : ZF) : pieceP v (nz x) = pieceP v x := rfl
theorem tagP_nz (tag : Nat) (x : ZF) : tagP tag (nz x) = tagP tag x := by
  unfold tagP nz
  by_cases h : x.1.tag < 0
  · have h1 : ¬ x.1.tag = (tag : Int) := by omega
    simp [h1]
  · simp [h]
theorem plainTo_nz (zs : List ZF) (v : Int) (k : Nat) : plainTo (zs.map nz) v k = plainTo zs v k := by
  unfold plainTo
  rw [← List.map_take, List.flatMap_map]
  rfl
theorem tagsTo_nz (zs : List ZF) (tag i : Nat) : tagsTo (zs.map nz) tag i = tagsTo zs tag i := by
  have h : ∀ (l : List ZF) (g : Nat), (l.map nz).filterMap (tagP g) = l.filterMap (tagP g) := fun l g => by
    rw [List.filterMap_map]
    congr 1
    funext x
    exact tagP_nz g x
  unfold tagsTo
  rw [← List.map_take, h]
  congr 1
  congr 1
  funext g
  exact h zs g
theorem partB_congr {fs : List Fd} {v : Int} {flex : Bool} {x y : Tr} (h : ∀ j (hj : j < fs.length), fieldB fs[j] v flex (x.at j) = fieldB fs[j] v flex (y.at j)) (ht : ∀ j (hj : j < fs.length), 0 ≤ fs[j].tag → fieldU fs[j] (x.at j) = fieldU fs[j] (y.at j))
    (hu : (unknown fs x.u).map wholeTag = (unknown fs y.u).map wholeTag) : partB fs v flex x = partB fs v flex y := by
  have hz : (zipped fs v flex x).map nz = (zipped fs v flex y).map nz := by
    apply List.ext_getElem
    · simp [zipped_length]
    · intro j h1 h2
      have hj : j < fs.length := by simpa [zipped_length] using h1
      rw [List.getElem_map, List.getElem_map, zipped_get hj, zipped_get hj]
      simp only [nz, h j hj]
      by_cases hh : fs[j].tag < 0
      · simp [hh]
      · simp [hh, ht j hj (by omega)]
  have hk : ∀ us : List (Int × List UInt8), unkTo us us.length = (us.map wholeTag).map fun p => tagB p.1.toNat p.2 := fun us => by
    simp [unkTo, wholeTag, Function.comp_def]
  rw [partB_eq, partB_eq, ← plainTo_nz (zipped fs v flex x), hz, plainTo_nz, ← tagsTo_nz (zipped fs v flex x), hz, tagsTo_nz, hk, hk, hu]
theorem isNul_mk (f : Fd) (v n : Int) (s : List UInt8) (b : Bool) (l : List Tr) (u : List (Int × List UInt8)) : f.isNul v (.mk n s b l u) = (b && decide (0 ≤ f.nul) && decide (f.nul ≤ v)) := rfl
theorem isNul_idem (f : Fd) (v n : Int) (s : List UInt8) (x : Tr) (l : List Tr) (u : List (Int × List UInt8)) : f.isNul v (.mk n s (f.isNul v x) l u) = f.isNul v x := by
  rw [isNul_mk]; unfold Fd.isNul
  cases x.nul <;> cases decide (0 ≤ f.nul) <;> cases decide (f.nul ≤ v) <;> rfl
theorem whole_whole (s : List UInt8) : whole (whole s) = whole s := by unfold whole; rw [List.take_take, Nat.min_self]
theorem partB_l {fs : List Fd} {v : Int} {flex : Bool} {x y : Tr} (h : x.l = y.l) (hu : x.u = y.u) : partB fs v flex x = partB fs v flex y :=
  partB_congr (fun j hj => by rw [at_l h]) (fun j hj _ => by rw [at_l h]) (by rw [hu])
theorem partB_fit : ∀ {fs : List Fd}, Good fs → ∀ (v : Int) (flex : Bool) (t : Tr), partB fs v flex (fit fs v t) = partB fs v flex t := by
  intro fs h
  induction h with
  | mk fs hl htag hr ih =>
    intro v flex t
    refine partB_congr (fun j hj => ?_) (fun j hj h0 => ?_) ?_
    · rw [fit_at j hj]
      have ih' := ih fs[j] (List.getElem_mem hj)
      have ht := htag fs[j] (List.getElem_mem hj)
      generalize fs[j] = f at ih' ht
      generalize t.at j = x
      rw [fitF_eq, fieldB_eq, fieldB_eq]
      unfold fitF'
      by_cases h11 : f.kind = 11
      · rw [if_pos h11]; unfold fieldB'
        rw [if_pos h11, if_pos h11]
        have e1 : f.isNul v (.mk 0 [] (f.isNul v x || (decide (0 ≤ f.tag) && x.l.isEmpty)) (x.things.map (fitV f.of (fit f.sub v) false)) []) = f.isNul v x := by
          rw [decide_eq_false (show ¬ 0 ≤ f.tag by omega), Bool.false_and, Bool.or_false]
          exact isNul_idem f v _ _ x _ _
        have e2 : Tr.things (.mk 0 [] (f.isNul v x || (decide (0 ≤ f.tag) && x.l.isEmpty)) (x.things.map (fitV f.of (fit f.sub v) false)) []) = x.things.map (fitV f.of (fit f.sub v) false) := by
          show (x.things.map (fitV f.of (fit f.sub v) false)).take most = _
          refine List.take_of_length_le ?_
          rw [List.length_map]
          show (x.l.take most).length ≤ most
          rw [List.length_take]; omega
        rw [e1, e2]
        cases f.isNul v x with
        | true => rfl
        | false =>
          simp only [Bool.false_eq_true, if_false, List.length_map]
          rw [List.flatMap_map]
          congr 2
          funext y
          unfold fitV valueB
          by_cases h8 : f.of = 8 ∨ f.of = 9
          · rw [if_pos h8]
            rcases h8 with h8 | h8 <;> simp [h8, Tr.s, whole_whole]
          · rw [if_neg h8]
            by_cases h10 : f.of = 10
            · rw [if_pos h10]
              simp only [h10]
              exact ih' v flex y
            · rw [if_neg h10]
              simp only [h10, if_false]
              rfl
      · rw [if_neg h11]; unfold fieldB'
        rw [if_neg h11, if_neg h11]
        unfold fitV
        by_cases h8 : f.kind = 8 ∨ f.kind = 9
        · rw [if_pos h8, if_neg (by omega), if_neg (by omega)]
          have e1 : f.isNul v (.mk 0 (whole x.s) (f.isNul v x) [] []) = f.isNul v x := isNul_idem f v _ _ x _ _
          rw [e1]; unfold valueB
          rcases h8 with h8 | h8 <;> simp [h8, Tr.s, whole_whole]
        · rw [if_neg h8]
          by_cases h10 : f.kind = 10
          · rw [if_pos h10]
            have hp := ih' v flex x
            generalize fit f.sub v x = y at hp
            cases y with
            | mk n s nul l u =>
              have e1 : f.isNul v (.mk n s (f.isNul v x) l u) = f.isNul v x := isNul_idem f v _ _ x _ _
              have hp2 : partB f.sub v flex (.mk n s (f.isNul v x) l u) = partB f.sub v flex x := (partB_l (x := .mk n s (f.isNul v x) l u) (y := .mk n s nul l u) rfl rfl).trans hp
              simp only [e1, hp2]
              unfold valueB
              simp only [h10]
              by_cases hn : 0 ≤ f.nul
              · simp [hn]
              · simp [hn, hp2]
          · rw [if_neg h10, if_neg (by omega), if_neg (by omega)]
            have h8' : f.kind ≠ 8 ∧ f.kind ≠ 9 := by omega
            unfold valueB
            simp [h8'.1, h8'.2, h10, Tr.n, Tr.s]
    · have := htag fs[j] (List.getElem_mem hj); omega
    · show (unknown fs ((unknown fs t.u).map wholeTag)).map wholeTag = _
      rw [(okU_fit fs t.u).1, List.map_map]
      apply List.map_congr_left
      intro p _
      simp [wholeTag, whole_whole]
theorem bool_byte (n : Int) : [byte (n % 2)] = [if decide (n % 2 = 1) then 1 else 0] := by
  have h : n % 2 = 0 ∨ n % 2 = 1 := by omega
  rcases h with h | h <;> simp [h, byte]
theorem fixed_i8 (x : Int) : fixed (IntKind.i8.wrap x) 1 = fixed x 1 := by
  have h : IntKind.i8.wrap x % 256 = x % 256 := by
    unfold IntKind.wrap
    have hb : (2 : Int) ^ IntKind.i8.bits = 256 := rfl
    simp only [hb, show IntKind.i8.signed = true from rfl]
    simp
    split <;> omega
  rw [fixed1, fixed1]; unfold byte; rw [h]
theorem RI8.mono : RMono RI8 := fun _ _ _ _ _ h => h
theorem RI16.mono : RMono RI16 := fun _ _ _ _ _ h => h
theorem RI32.mono : RMono RI32 := fun _ _ _ _ _ h => h
theorem RI64.mono : RMono RI64 := fun _ _ _ _ _ h => h
theorem RText.mono : RMono RText := fun _ _ _ _ _ h => h
def RU16 : Fz → Tr → List Value → Prop := fun _ T cs => cs = [.int .u16 (IntKind.u16.wrap T.n)]
theorem RU16.mono : RMono RU16 := fun _ _ _ _ _ h => h
def ROct : Fz → Tr → List Value → Prop := fun H T cs => ∃ a c, cs = [.slice a T.s.length c] ∧ BytesAt H a c T.s
theorem ROct.mono : RMono ROct := fun _ _ _ _ hle ⟨a, c, h1, h2⟩ => ⟨a, c, h1, h2.mono hle⟩
structure PtrAt (H : Fz) (T : Tr) (R : Fz → Tr → List Value → Prop) (p : Option Addr) : Prop where
  nul : p.isNone = T.nul
  val : ∀ ad, p = some ad → ∃ b cs, ad = ⟨b, 0, none⟩ ∧ R H T cs ∧ H.at b 0 cs
theorem PtrAt.mono {H H' : Fz} {T : Tr} {R : Fz → Tr → List Value → Prop} {p : Option Addr} (h : PtrAt H T R p) (hR : RMono R) (hle : H.le H') : PtrAt H' T R p := ⟨h.nul, fun ad e => let ⟨b, cs, h1, h2, h3⟩ := h.val ad e; ⟨b, cs, h1, hR _ _ _ _ hle h2, h3.mono hle⟩⟩
/-! ### Sixteen octets -/
def ub (s : List UInt8) (j : Nat) : Value := .int .u8 (((pad16 s).getD j 0).toNat : Int)
def u16 (s : List UInt8) : List Value := [ub s 0, ub s 1, ub s 2, ub s 3, ub s 4, ub s 5, ub s 6, ub s 7, ub s 8, ub s 9, ub s 10, ub s 11, ub s 12, ub s 13, ub s 14, ub s 15]
def RUuid : Fz → Tr → List Value → Prop := fun _ T cs => cs = u16 T.s
theorem RUuid.mono : RMono RUuid := fun _ _ _ _ _ h => h
theorem list16 {α : Type} (z : α) (l : List α) (h : l.length = 16) : l = [l.getD 0 z, l.getD 1 z, l.getD 2 z, l.getD 3 z, l.getD 4 z, l.getD 5 z, l.getD 6 z, l.getD 7 z, l.getD 8 z, l.getD 9 z, l.getD 10 z, l.getD 11 z, l.getD 12 z, l.getD 13 z, l.getD 14 z, l.getD 15 z] := by
  match l, h with
  | [a0, a1, a2, a3, a4, a5, a6, a7, a8, a9, a10, a11, a12, a13, a14, a15], _ => rfl
theorem u16_eq (s : List UInt8) : u16 s = bytesOf (pad16 s) := by
  conv => rhs; rw [list16 0 (pad16 s) (pad16_len s)]
  rfl
theorem counted_ff' (n size : Nat) : counted false false n size = fixed (n : Int) size := rfl
theorem counted_tf (n size : Nat) : counted true false n size = uvar (n + 1) := rfl
theorem counted_ft (n size : Nat) : counted false true n size = fixed (-1) size := rfl
theorem counted_tt (n size : Nat) : counted true true n size = [0] := rfl
theorem uvar0 : uvar 0 = [0] := by rw [uvar_end (by omega)]; rfl
section
variable {P : Program} {ops : Array Oper} {Q : Exit → Act → World → Prop} {rest : List Oper} {n : Nat} {l : Env} {H : Fz} {L : Own}
variable {d ty : Nat} {pos : String} {af : Array Edge}
/-- a slice of a whole array -/
theorem sl16 {T e b m : Nat} {x : Operand} (ha : ∀ w, (underlying T).run P w = .ok (.array m e) w) (hz : ∀ w, (sizeOf e).run P w = .ok 1 w) (hx : get l x = some (.pointer (some ⟨b, 0, none⟩))) (hn : Nat.blt d n = true)
    (h : WL P ops Q rest n ((d, .slice (some ⟨b, 0, none⟩) m m) :: l) H L) : WL P ops Q (⟨some d, .slice T x none none none, ty, pos, af, none⟩ :: rest) n l H L :=
  WL.vq rfl rfl hn (fun a w hA hw => by
    have he : (if m = 0 then (⟨b, 0, none⟩ : Addr) else (⟨b, 0, none⟩ : Addr).add 0) = ⟨b, 0, none⟩ := by split <;> rfl
    simp [execOp, hA.get hx, Instr.sliceAt, Instr.sureAddr, ha, hz, Instr.sliceBounds, he]) h
theorem cdT {Q : Exit → Act → World → Prop} {c : Operand} {x y : Code} {p : Prop} [Decidable p] (hc : get l c = some (.bool (decide p))) (hp : p) (h : Wp P x Q n l H L) : Wp P (.cond c x y) Q n l H L := cT (by rw [hc]; simp [hp]) h
theorem cdF {Q : Exit → Act → World → Prop} {c : Operand} {x y : Code} {p : Prop} [Decidable p] (hc : get l c = some (.bool (decide p))) (hp : ¬ p) (h : Wp P y Q n l H L) : Wp P (.cond c x y) Q n l H L := cF (by rw [hc]; simp [hp]) h
end
end Go.Sx

/- A field after another is written. -/
import Derived.Test.YtahmkeoedpghjabGreatKmL
set_option linter.unusedVariables false
set_option linter.unusedSimpArgs false
namespace Go.Sx
section
variable {fs : List Fd} {v : Int} {flex : Bool} {t : Tr} {B p : List UInt8}
theorem fold0 (fs : List Fd) (v : Int) (flex : Bool) (t : Tr) (B : List UInt8) : B = B ++ plainTo (zipped fs v flex t) v 0 := by simp [plainTo]
theorem fold_yes (k : Nat) (hk : k < fs.length) (h1 : fs[k].tag < 0) (h2 : fs[k].has v = true) (hp : fieldB fs[k] v flex (t.at k) = p) : (B ++ plainTo (zipped fs v flex t) v k) ++ p = B ++ plainTo (zipped fs v flex t) v (k + 1) := by
  rw [piece_yes hk h1 h2, hp, List.append_assoc]
theorem fold_no (k : Nat) (hk : k < fs.length) (h2 : fs[k].has v = false) : plainTo (zipped fs v flex t) v k = plainTo (zipped fs v flex t) v (k + 1) := (piece_no2 hk h2).symm
theorem fit_at (k : Nat) (hk : k < fs.length) : (fit fs v t).at k = fitF fs[k] v (t.at k) := by
  have h := fitsF_get v t fs 0 k hk
  rw [Nat.zero_add] at h
  show ((fitsF fs v 0 t)[k]?).getD .none = _
  rw [h]; rfl
theorem counted_ff (n size : Nat) : counted false false n size = fixed n size := rfl
theorem few_fit (fs : List Fd) (v : Int) (hl : fs.length ≤ 1000) (hsub : ∀ f ∈ fs, ∀ x : Tr, Few (fitF f v x)) (t : Tr) : Few (fit fs v t) := by
  refine .mk _ (by show (fitsF fs v 0 t).length ≤ _; rw [fitsF_length]; omega) fun x hx => ?_
  obtain ⟨i, hi, rfl⟩ := List.mem_iff_getElem.1 (show x ∈ fitsF fs v 0 t from hx)
  rw [fitsF_length] at hi
  have h := fitsF_get v t fs 0 i hi
  obtain ⟨h1, h2⟩ := List.getElem?_eq_some_iff.1 h
  rw [show (fitsF fs v 0 t)[i] = _ from h2]
  exact hsub _ (List.getElem_mem hi) _
end
/-- Lists of fields are short, at every depth. -/
inductive Short : List Fd → Prop
  | mk (fs : List Fd) (h : fs.length ≤ 1000) (hr : ∀ f ∈ fs, Short f.sub) : Short fs
theorem few_leaf (n : Int) (s : List UInt8) (b : Bool) (u : List (Int × List UInt8)) : Few (.mk n s b [] u) := .mk _ (by simp [Tr.l]) (fun x hx => by simp [Tr.l] at hx)
theorem few_nul {n : Int} {s : List UInt8} {b b' : Bool} {l : List Tr} {u : List (Int × List UInt8)} (h : Few (.mk n s b l u)) : Few (.mk n s b' l u) := .mk _ h.len (fun _ hx => h.el hx)
theorem few_fitV {kind : Int} {fs : List Fd} {v : Int} {nul : Bool} {x : Tr} (h : Few (fit fs v x)) : Few (fitV kind (fit fs v) nul x) := by
  unfold fitV
  split
  · exact few_leaf _ _ _ _
  · split
    · exact few_nul h
    · exact few_leaf _ _ _ _
theorem few_fit_all {fs : List Fd} (h : Short fs) (v : Int) : ∀ t, Few (fit fs v t) := by
  induction h with
  | mk fs hl _ ih =>
    refine few_fit fs v hl fun f hf x => ?_
    rw [fitF_eq]; unfold fitF'
    have h1 := ih f hf
    split
    · refine .mk _ ?_ fun y hy => ?_
      · show (List.map _ x.things).length ≤ _
        rw [List.length_map]
        show (x.l.take most).length ≤ _
        rw [take_most_len]; omega
      · obtain ⟨z, _, rfl⟩ := List.mem_map.1 (show y ∈ List.map _ x.things from hy)
        exact few_fitV (h1 z)
    · exact few_fitV (h1 x)
/-! ### Sizes, lists -/
def LIM : Nat := 140737488355328
def lsOf (f : Fd) (v : Int) (t : Tr) : List Tr := if f.isNul v t then [] else t.things
def GOf (f : Fd) (v : Int) (flex : Bool) : Tr → List UInt8 := valueB f.of (partB f.sub v flex) false flex
theorem lT_fit {f : Fd} {v : Int} {t : Tr} (h0 : f.kind = 11) (ht : f.tag < 0) : lT (fitF f v t) = (lsOf f v t).map (fitV f.of (fit f.sub v) false) := by
  obtain ⟨h1, h2⟩ := fit_list (v := v) (t := t) h0 ht
  unfold lT lsOf
  rw [h1, h2]
  split <;> rfl
theorem P_list' {f : Fd} {v : Int} {flex : Bool} {t : Tr} (h0 : f.kind = 11) (ht : f.tag < 0) : fieldB f v flex t = counted flex (f.isNul v t) (lsOf f v t).length 4 ++ (lsOf f v t).flatMap (GOf f v flex) := P_list h0 ht
theorem fold_size {fs : List Fd} {v : Int} {flex : Bool} {t : Tr} {X p B : List UInt8} {k : Nat} (e : X ++ p = B ++ plainTo (zipped fs v flex t) v (k + 1)) (hk : k < fs.length) (hB : B.length + (partB fs v flex t).length ≤ LIM) : X.length + p.length ≤ LIM := by
  have h := congrArg List.length e
  have h2 := plain_le_part (fs := fs) (v := v) (flex := flex) (t := t) (show k + 1 ≤ fs.length by omega)
  simp only [List.length_append] at h
  omega
theorem lsOf_len (f : Fd) (v : Int) (t : Tr) : (lsOf f v t).length ≤ 32767 := by
  unfold lsOf
  split
  · simp
  · show (t.l.take most).length ≤ _
    rw [take_most_len]; omega
theorem GOf_part {f : Fd} {v : Int} {flex : Bool} (h : f.of = 10) (x : Tr) : GOf f v flex x = partB f.sub v flex x := valueB_part h _ _ _ _
theorem fold_first {fs : List Fd} {v : Int} {flex : Bool} {t : Tr} {B p : List UInt8} (k : Nat) (hn : plainTo (zipped fs v flex t) v k = []) (hk : k < fs.length) (h1 : fs[k].tag < 0) (h2 : fs[k].has v = true) (hp : fieldB fs[k] v flex (t.at k) = p) : B ++ p = B ++ plainTo (zipped fs v flex t) v (k + 1) := by
  rw [piece_yes hk h1 h2, hp, hn]; rfl
theorem plain0 {zs : List ZF} {v : Int} : plainTo zs v 0 = [] := rfl
theorem el_end {α : Type} {B0 P : List UInt8} {ls : List α} {k : Nat} {G : α → List UInt8} (hk : k < ls.length) (hp : G ls[k] = P) : (B0 ++ (ls.take k).flatMap G) ++ P = B0 ++ (ls.take (k + 1)).flatMap G := by
  rw [flatMap_take_succ G hk, hp, List.append_assoc]
theorem map_get {l ls : List Tr} {g : Tr → Tr} (h : l = ls.map g) {k : Nat} (hk : k < l.length) : ∃ hk' : k < ls.length, l[k] = g ls[k] := by
  subst h; exact ⟨by simpa using hk, by simp⟩
theorem el_size {X cnt p : List UInt8} {ls : List Tr} {G : Tr → List UInt8} {k : Nat} (hs : X.length + (cnt ++ ls.flatMap G).length ≤ LIM) (hk : k < ls.length) (hp : (G ls[k]) = p) : (X ++ cnt ++ (ls.take k).flatMap G).length + p.length ≤ LIM := by
  have := flatMap_step_le G hk
  rw [hp] at this
  simp only [List.length_append] at hs ⊢
  omega
theorem isNul_false {f : Fd} {v : Int} {t : Tr} (h : f.nul < 0) : f.isNul v t = false := by unfold Fd.isNul; simp [show ¬ 0 ≤ f.nul by omega]
theorem wrap_i16 {x : Int} (h0 : 0 ≤ x) (h1 : x ≤ 32767) : IntKind.i16.wrap x = x := by
  unfold IntKind.wrap
  have hb : (2 : Int) ^ IntKind.i16.bits = 65536 := rfl
  have hc : (2 : Int) ^ (IntKind.i16.bits - 1) = 32768 := rfl
  simp only [hb, hc, show IntKind.i16.signed = true from rfl]
  have : x % 65536 = x := by omega
  simp only [this]
  simp
  omega
end Go.Sx

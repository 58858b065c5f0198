/- What 'is told as this' gives a walk, field by field. -/
import Derived.Test.YthegbjcccjpbcaaGreatDoorToldL
set_option linter.unusedVariables false
set_option linter.unusedSimpArgs false
namespace Go.Sx
/-- The field is written at the version. -/
def isIn (f : Fd) (v : Int) (flex : Bool) (x : Tr) : Bool := (decide (f.tag < 0) && f.has v) || (decide (0 ≤ f.tag) && flex && !fieldU f x)
theorem toldFs_at {v : Int} {flex : Bool} : ∀ (fs : List Fd) (i : Nat) (t g : Tr), toldFs fs v flex i t g = true → ∀ j (hj : j < fs.length),
    (if isIn fs[j] v flex (t.at (i + j)) then toldF fs[j] v flex (t.at (i + j)) (g.at (i + j)) else uslF fs[j] (g.at (i + j))) = true
  | [], _, _, _, _, j, hj => by simp at hj
  | f :: r, i, t, g, h, 0, _ => by rw [toldFs, Bool.and_eq_true] at h; exact h.1
  | f :: r, i, t, g, h, j + 1, hj => by
    rw [toldFs, Bool.and_eq_true] at h
    have := toldFs_at r (i + 1) t g h.2 j (by simpa using hj)
    rw [show i + 1 + j = i + (j + 1) by omega] at this
    exact this
theorem toldP_len {fs : List Fd} {v : Int} {flex : Bool} {t g : Tr} (h : toldP fs v flex t g = true) : g.l.length = fs.length := by
  unfold toldP at h; simp only [Bool.and_eq_true, decide_eq_true_eq] at h; exact h.1.1
theorem toldP_at {fs : List Fd} {v : Int} {flex : Bool} {t g : Tr} (h : toldP fs v flex t g = true) (j : Nat) (hj : j < fs.length) :
    (if isIn fs[j] v flex (t.at j) then toldF fs[j] v flex (t.at j) (g.at j) else uslF fs[j] (g.at j)) = true := by
  unfold toldP at h; simp only [Bool.and_eq_true, decide_eq_true_eq] at h
  have := toldFs_at fs 0 t g h.1.2 j hj
  simpa using this
theorem toldP_yes {fs : List Fd} {v : Int} {flex : Bool} {t g : Tr} (h : toldP fs v flex t g = true) {j : Nat} (hj : j < fs.length) (ht : fs[j].tag < 0) (hh : fs[j].has v = true) : toldF fs[j] v flex (t.at j) (g.at j) = true := by
  have := toldP_at h j hj
  rwa [if_pos (by simp [isIn, ht, hh])] at this
theorem toldP_no {fs : List Fd} {v : Int} {flex : Bool} {t g : Tr} (h : toldP fs v flex t g = true) {j : Nat} (hj : j < fs.length) (ht : fs[j].tag < 0) (hh : fs[j].has v = false) : uslF fs[j] (g.at j) = true := by
  have := toldP_at h j hj
  rwa [if_neg (by simp [isIn, hh]; omega)] at this
theorem toldP_u {fs : List Fd} {v : Int} {flex : Bool} {t g : Tr} (h : toldP fs v flex t g = true) : g.u = if flex then (unknown fs t.u).map wholeTag else [] := by
  unfold toldP toldU at h; simp only [Bool.and_eq_true, beq_iff_eq] at h; exact h.2
theorem uslFs_at : ∀ (fs : List Fd) (i : Nat) (x : Tr), uslFs fs i x = true → ∀ j (hj : j < fs.length), uslF fs[j] (x.at (i + j)) = true
  | [], _, _, _, j, hj => by simp at hj
  | f :: r, i, x, h, 0, _ => by rw [uslFs, Bool.and_eq_true] at h; exact h.1
  | f :: r, i, x, h, j + 1, hj => by
    rw [uslFs, Bool.and_eq_true] at h
    have := uslFs_at r (i + 1) x h.2 j (by simpa using hj)
    rw [show i + 1 + j = i + (j + 1) by omega] at this
    exact this
theorem uslP_at {fs : List Fd} {x : Tr} (h : uslP fs x = true) (j : Nat) (hj : j < fs.length) : uslF fs[j] (x.at j) = true := by
  unfold uslP at h; rw [Bool.and_eq_true] at h
  have := uslFs_at fs 0 x h.2 j hj
  simpa using this
theorem uslP_u {fs : List Fd} {x : Tr} (h : uslP fs x = true) : x.u = [] := by
  unfold uslP at h; rw [Bool.and_eq_true] at h
  simpa using h.1
/-! ### One field that is as by default -/
theorem usl_text {f : Fd} {x : Tr} (h : uslF f x = true) (k : f.kind = 8) : x.nul = decide (0 ≤ f.nul) ∧ x.s = [] := by
  rw [uslF_eq] at h; unfold uslF' at h; rw [if_pos k, Bool.and_eq_true] at h
  exact ⟨by simpa using h.1, by simpa using h.2⟩
theorem usl_uuid {f : Fd} {x : Tr} (h : uslF f x = true) (k : f.kind = 7) : x.s = List.replicate 16 0 := by
  rw [uslF_eq] at h; unfold uslF' at h; rw [if_neg (by omega), if_pos k] at h
  simpa using h
theorem usl_list {f : Fd} {x : Tr} (h : uslF f x = true) (k : f.kind = 9 ∨ f.kind = 11) : x.s = [] ∧ x.l = [] := by
  rw [uslF_eq] at h; unfold uslF' at h; rw [if_neg (by omega), if_neg (by omega), if_pos k, Bool.and_eq_true] at h
  exact ⟨by simpa using h.1, by simpa using h.2⟩
theorem usl_struct {f : Fd} {x : Tr} (h : uslF f x = true) (k : f.kind = 10) (hn : f.nul < 0) : uslP f.sub x = true := by
  rw [uslF_eq] at h; unfold uslF' at h; rw [if_neg (by omega), if_neg (by omega), if_neg (by omega), if_pos k, if_neg (by omega)] at h
  exact h
theorem usl_num {f : Fd} {x : Tr} (h : uslF f x = true) (k : f.kind ≠ 7 ∧ f.kind ≠ 8 ∧ f.kind ≠ 9 ∧ f.kind ≠ 10 ∧ f.kind ≠ 11) : x.n = numK f.kind f.df := by
  rw [uslF_eq] at h; unfold uslF' at h; rw [if_neg (by omega), if_neg (by omega), if_neg (by omega), if_neg (by omega)] at h
  simpa using h
/-! ### One field that is told -/
theorem told_nul {f : Fd} {v : Int} {flex : Bool} {t g : Tr} (h : toldF f v flex t g = true) (hk : f.kind = 8 ∨ f.kind = 10 ∨ (0 ≤ f.nul ∧ f.nul ≤ v)) : g.nul = f.isNul v t := by
  rw [toldF_eq] at h; unfold toldF' at h
  have hb : (decide (f.kind = 8) || decide (f.kind = 10) || (decide (0 ≤ f.nul) && decide (f.nul ≤ v))) = true := by
    rcases hk with k | k | ⟨k1, k2⟩ <;> simp_all
  rw [hb, Bool.true_and] at h
  split at h
  · cases h
  · rename_i h0; simpa using h0
theorem told_rest {f : Fd} {v : Int} {flex : Bool} {t g : Tr} (h : toldF f v flex t g = true) (hn : f.isNul v t = false) : (if f.kind = 11 then toldAll (toldE f.of (toldP f.sub v flex)) t.things g.l else toldV f.kind (toldP f.sub v flex) t g) = true := by
  rw [toldF_eq] at h; unfold toldF' at h
  split at h
  · cases h
  · rw [hn] at h; exact h
theorem toldAll_at {tell : Tr → Tr → Bool} : ∀ {a b : List Tr}, toldAll tell a b = true → a.length = b.length ∧ ∀ j (h1 : j < a.length) (h2 : j < b.length), tell a[j] b[j] = true
  | [], [], _ => ⟨rfl, fun j h1 => by simp at h1⟩
  | [], _ :: _, h => by simp [toldAll] at h
  | _ :: _, [], h => by simp [toldAll] at h
  | x :: a, y :: b, h => by
    rw [toldAll, Bool.and_eq_true] at h
    obtain ⟨h1, h2⟩ := toldAll_at h.2
    refine ⟨by simp [h1], fun j h3 h4 => ?_⟩
    cases j with
    | zero => exact h.1
    | succ j => exact h2 j (by simpa using h3) (by simpa using h4)
def oneOf (f : Fd) : Fd := .mk f.of f.frm f.to (-1) (-1) f.df f.of f.sub
/-- A thing of a list is told as a field of its kind that can't be null. -/
theorem toldE_F {f : Fd} {v : Int} {flex : Bool} {t g : Tr} (h : toldE f.of (toldP f.sub v flex) t g = true) (ho : f.of ≠ 11) : toldF (oneOf f) v flex t g = true := by
  rw [toldF_eq]
  unfold toldF' toldE at *
  have e1 : (oneOf f).isNul v t = false := by show (t.nul && decide ((0 : Int) ≤ -1) && _) = false; simp
  have e2 : (decide ((oneOf f).kind = 8) || decide ((oneOf f).kind = 10) || (decide (0 ≤ (oneOf f).nul) && decide ((oneOf f).nul ≤ v))) = (decide (f.of = 8) || decide (f.of = 10)) := by
    show (decide (f.of = 8) || decide (f.of = 10) || (decide ((0 : Int) ≤ -1) && _)) = _
    simp
  rw [e1, e2]
  split at h
  · cases h
  · rename_i h0
    rw [if_neg (by simpa using h0), if_neg (by simp), if_neg (show ¬ (oneOf f).kind = 11 from ho)]
    exact h
end Go.Sx

/- Plain laws on what can be set. -/
import Derived.Test.YtahmkeoedpghjabGreatS2
set_option linter.unusedVariables false
set_option linter.unusedSimpArgs false
namespace Go.Sx
theorem fitsF_length (v : Int) (t : Tr) : ∀ (fs : List Fd) (i : Nat), (fitsF fs v i t).length = fs.length
  | [], _ => rfl
  | f :: r, i => by rw [fitsF]; simp [fitsF_length v t r]
theorem fitsF_get (v : Int) (t : Tr) : ∀ (fs : List Fd) (i j : Nat) (hj : j < fs.length), (fitsF fs v i t)[j]? = some (fitF fs[j] v (t.at (i + j)))
  | f :: r, i, 0, _ => by rw [fitsF]; simp
  | f :: r, i, j + 1, h => by
    rw [fitsF]
    have := fitsF_get v t r (i + 1) j (by simpa using h)
    rw [show i + (j + 1) = i + 1 + j by omega]
    simpa using this
abbrev EE := TC × Tr
def f5 (p : EE) : List Value := p.1.cells p.2
theorem f5_one (p : EE) : ∀ u ∈ f5 p, u.oneCell' = true := by
  intro u hu
  simp only [f5, TC.cells, List.mem_cons, List.not_mem_nil, or_false] at hu
  rcases hu with rfl | rfl | rfl | rfl | rfl <;> rfl
theorem f5_len (p : EE) : (f5 p).length = 5 := rfl
theorem flatMap_snoc' {α : Type} (f : α → List Value) (es : List α) (z : α) : es.flatMap f ++ f z = (es ++ [z]).flatMap f := by simp [List.flatMap_append]
theorem fits_snoc {fs : List Fd} {v : Int} {t : Tr} {k : Nat} {es : List EE} {c : TC} (hk : k < fs.length) (h : es.map (·.2) = (fitsF fs v 0 t).take k) : (es ++ [(c, fitF fs[k] v (t.at k))]).map (·.2) = (fitsF fs v 0 t).take (k + 1) := by
  have h1 := fitsF_get v t fs 0 k hk
  rw [Nat.zero_add] at h1
  rw [List.take_add_one, h1, List.map_append, h]; rfl
def wholeTag (x : Int × List UInt8) : Int × List UInt8 := (x.1, whole x.2)
theorem mem_snoc {α : Type} {p z : α} {es : List α} (h : p ∈ es ++ [z]) : p ∈ es ∨ p = z := by simpa using h
theorem map_take_snoc {α β γ : Type} {g : α → β} {us : List α} {k : Nat} {es : List (γ × β)} {c : γ} (hk : k < us.length) (h : es.map (·.2) = (us.take k).map g) : (es ++ [(c, g us[k])]).map (·.2) = (us.take (k + 1)).map g := by
  rw [List.take_succ_eq_append_getElem hk, List.map_append, List.map_append, h]; rfl
theorem fit_eq (fs : List Fd) (v : Int) (t : Tr) : fit fs v t = .mk 0 [] false (fitsF fs v 0 t) ((unknown fs t.u).map wholeTag) := rfl
end Go.Sx

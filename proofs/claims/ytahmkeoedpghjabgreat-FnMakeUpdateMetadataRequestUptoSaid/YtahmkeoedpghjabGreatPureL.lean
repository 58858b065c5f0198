/- Plain laws on the reference. -/
import Derived.Test.YtahmkeoedpghjabGreatReps
set_option linter.unusedVariables false
set_option linter.unusedSimpArgs false
namespace Go.Sx
theorem known_append (a b : List Fd) : known (a ++ b) = max (known a) (known b) := by
  induction a with
  | nil => simp [known]
  | cons f a ih => simp only [List.cons_append, known, ih]; omega
theorem known_take (fs : List Fd) (k : Nat) (hk : k < fs.length) : known (fs.take (k + 1)) = max (known (fs.take k)) (if 0 ≤ fs[k].tag then fs[k].tag.toNat + 1 else 0) := by
  rw [List.take_succ_eq_append_getElem hk, known_append]
  simp [known]
theorem whole_len (s : List UInt8) : (whole s).length = min s.length 32767 := by simp [whole, most]; omega
theorem take_most_len {α : Type} (s : List α) : (s.take most).length = min s.length 32767 := by simp [most]; omega
theorem min_int (n : Nat) : (if (32767 : Int) < (n : Int) then 32767 else (n : Int)) = ((min n 32767 : Nat) : Int) := by
  split <;> omega
end Go.Sx

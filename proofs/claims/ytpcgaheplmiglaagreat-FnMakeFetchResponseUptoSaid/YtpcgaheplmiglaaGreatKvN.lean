/- Tags in a map that is nil just when there are none. -/
import Derived.Test.YtpcgaheplmiglaaGreatLibF
set_option linter.unusedVariables false
set_option linter.unusedSimpArgs false
namespace Go.Sx
def KvAtN (H : Fz) (m : Option Nat) (us : List (Int × List UInt8)) : Prop := KvAt H m us ∧ (us = [] → m = none)
theorem KvAtN.mono {H H' : Fz} {m : Option Nat} {us : List (Int × List UInt8)} (h : KvAtN H m us) (hle : H.le H') : KvAtN H' m us := ⟨h.1.mono hle, h.2⟩
theorem KvAtN.isNone {H : Fz} {m : Option Nat} {us : List (Int × List UInt8)} (h : KvAtN H m us) : m.isNone = us.isEmpty := by
  cases us with
  | nil => rw [h.2 rfl]; rfl
  | cons p r =>
    cases m with
    | some g => rfl
    | none =>
      obtain ⟨kvs, h1, h2, _⟩ := h.1
      rcases h1 with ⟨_, rfl⟩ | ⟨g, h1, _⟩
      · simp at h2
      · cases h1
end Go.Sx

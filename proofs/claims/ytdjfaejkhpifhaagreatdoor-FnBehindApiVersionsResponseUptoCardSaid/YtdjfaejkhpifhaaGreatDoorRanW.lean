/- Numbers and tags of a tree that was read lie in range. -/
import Derived.Test.YtdjfaejkhpifhaaGreatDoorLibE
import Derived.Test.YtdjfaejkhpifhaaGreatDoorToldL
set_option linter.unusedVariables false
set_option linter.unusedSimpArgs false
namespace Go.Sx
theorem ran_of {t : Tr} (h : RanN t) : ∀ {H : Fz} {c : TC}, TreeAt H c t → Ran t := by
  induction h with
  | mk t hn hl ih =>
    intro H c hT
    refine .mk t hn (fun x hx => ?_) (fun x hx => ?_)
    · obtain ⟨i, hi, rfl⟩ := List.getElem_of_mem hx
      obtain ⟨b, o, _, h2⟩ := hT.u.at_ (ne_nil_of_lt hi)
      obtain ⟨g, _, h3⟩ := h2 i hi
      exact ⟨h3.lo, h3.hi⟩
    · obtain ⟨i, hi, rfl⟩ := List.getElem_of_mem hx
      obtain ⟨b, o, _, h2⟩ := hT.l.at_ (ne_nil_of_lt hi)
      obtain ⟨g, _, h3⟩ := h2 i hi
      exact ih _ hx h3
end Go.Sx

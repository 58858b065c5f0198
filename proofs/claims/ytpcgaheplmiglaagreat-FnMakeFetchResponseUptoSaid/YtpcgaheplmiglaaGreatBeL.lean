/- Two results that are registers. -/
import Derived.Test.YtpcgaheplmiglaaGreatBkL
set_option linter.unusedVariables false
set_option linter.unusedSimpArgs false
namespace Go.Sx
section
variable {P : Program} {Q : Exit → Act → World → Prop} {n : Nat} {l : Env} {H : Fz} {L : Own}
theorem rTT {fn : Func} {H0 : Fz} {R : Value → Fz → Own → Prop} {t u : Nat} {v v2 : Value} (hr : fn.results = #[.tmp t, .tmp u]) (hv : look l t = some v) (hu : look l u = some v2) (hle : H0.le H) (hQ : ∀ a w, bodyPost P fn (Ret H0 R) .ret a w → Q .ret a w) (h : R (.tuple #[v, v2]) H L) : Wp P .ret Q n l H L :=
  rt fun a w hA hw => hQ a w (by
    have hp : a.tmps[t]? = some v := hA.vals t _ hv
    have hp2 : a.tmps[u]? = some v2 := hA.vals u _ hu
    refine bodyPost_ret (v := .tuple #[v, v2]) ?_ hA.defers ⟨_, H, L, rfl, hle, hw, h⟩
    simp [results, hr, hp, hp2])
end
end Go.Sx

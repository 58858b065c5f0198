/- From a walk's end to a statement's: what was there before is as it was. -/
import Derived.Test.YtahmkeoedpghjabGreatCostL
import Derived.Below
import Derived.Carry
import Derived.ChangeSame
set_option linter.unusedVariables false
set_option linter.unusedSimpArgs false
set_option maxRecDepth 100000
namespace Go.Sx
open Go.Proofs Go.ChangeShapes Go.WideShapes Go.ChangeAt Go.RowKit
theorem below_of {W W' : World} {H : Fz} {L : Own} (hle : (fzOf W).le H) (h : Hp H L W') : Below W.heap.size W W' := by
  refine ⟨h.os.trans hle.os, h.tape.trans hle.tape, h.output.trans hle.output, ?_, fun k hk => ?_⟩
  · rcases Nat.eq_zero_or_pos W.heap.size with h0 | h0
    · omega
    · have := h.fz (W.heap.size - 1) W.heap[W.heap.size - 1] (hle.blk _ _ (by show W.heap[W.heap.size - 1]? = _; simp [h0]))
      have := lt_of_heap this
      omega
  · have : W.heap[k]? = some W.heap[k] := by simp [hk]
    rw [this]; exact h.fz k _ (hle.blk k _ this)
theorem frozen_of {W W' : World} {H : Fz} {L : Own} (hle : (fzOf W).le H) (h : Hp H L W') (a : Addr) (ha : a.block < W.heap.size) : W'.frozen? a = W.frozen? a := (below_of hle h).frozen ha
section
open Go.WideShapes
variable {E : Type} {enc : TypeId × Value → E} {P : Program}
/-- The kit's 'post_of_same', asked of the marks of what was there before alone. -/
theorem post_same {f : Func} {s : ChangeSpec} {apart fresh handsOn again : Bool} {W W' : World} {args : Array Value} {v : Value} {ds gs : List (DataW E)} {before pa pv : List MemPlace}
    (hW : DataW.Whole enc P f.params.toList s.vars apart W args.toList ds gs before)
    (hres : ∀ (b : Nat) (sp : Nat → Bool) (hd : Bool), DataW.TrodAll enc P W' b sp hd f.resultTypes.toList (v.resultList f.resultTypes.size) (s.fn E (ds ++ gs)).results [])
    (hargs : ∀ sp : Nat → Bool, (∀ p ∈ before, sp p.block = true) → DataW.TrodAll enc P W' 0 sp true f.params.toList args.toList (s.fn E (ds ++ gs)).args pa)
    (hvars : ∀ sp : Nat → Bool, (∀ p ∈ before, sp p.block = true) → DataW.TrodVars enc P W' sp s.vars (s.fn E (ds ++ gs)).vars pv)
    (hps : before = pa ++ pv) (hk : W.keptBut W' (· ∈ before)) (hfz : ∀ a : Addr, a.block < W.heap.size → W'.frozen? a = W.frozen? a)
    (hok : ∀ (j : Nat) (t : TypeId) (r : Value), f.resultTypes[j]? = some t → (v.resultList f.resultTypes.size)[j]? = some r → Value.okWide P W' .any 0 t r) :
    s.post enc P f apart fresh handsOn again W args v W' := by
  have hlt := hW.lt
  have hold : ∀ p ∈ before, (fun b => decide (b < W.heap.size)) p.block = true := fun p hp => by simpa using hlt p hp
  refine ⟨ds, gs, before, [], pa, pv, hW, hres _ _ _, hargs _ hold, hvars _ hold, World.keptBut_mono (fun p hp => ⟨hp, ?_⟩) hk, fun _ => ?_⟩
  · rw [hps, List.mem_append] at hp
    exact Or.inr hp
  · obtain ⟨_, _, _, _, _, hz, hn⟩ := hW
    refine ⟨hok, _, _, ([] ++ pa) ++ pv, ⟨[] ++ pa, pv, trodAll_append (hargs _ (fun _ _ => rfl)) (hres _ _ _), hvars _ (fun _ _ => rfl), rfl, ?_, ?_⟩, ?_⟩
    · intro b off hp
      have hp' : MemPlace.cell b off ∈ before := by rw [hps]; simpa using hp
      rw [hfz _ (hlt _ hp')]
      exact hz b off hp'
    · intro ha
      have := hn ha
      rw [hps] at this
      simpa using this
    · intro p hp _
      rw [hps]
      simpa using hp
end
theorem and_t {a b : Bool} (h1 : a = true) (h2 : b = true) : (a && b) = true := by rw [h1, h2]; rfl
end Go.Sx

/- Structs as known tags; nil maps; what is set is in range. -/
import Derived.Test.YtpcgaheplmiglaaGreatFitT
import Derived.Test.YtpcgaheplmiglaaGreatTagX
import Derived.Test.YtpcgaheplmiglaaGreatLibE
import Derived.Test.YtpcgaheplmiglaaGreatKvN
import Derived.Laws.IdiomRangeMap
set_option linter.unusedVariables false
set_option linter.unusedSimpArgs false
namespace Go.Sx
section
variable {P : Program} {ops : Array Oper} {Q : Exit → Act → World → Prop} {rest : List Oper} {n : Nat} {l : Env} {H : Fz} {L : Own}
variable {d ty : Nat} {pos : String} {af : Array Edge}
theorem rgn {T K E : Nat} {x : Operand} (ht : P.underlying T = some (.map K E)) (hx : get l x = some (.map none)) (hn : Nat.blt d n = true)
    (h : ∀ r, WL P ops Q rest n ((d, .pointer (some ⟨r, 0, none⟩)) :: l) H ([(r, .mapIter none 0 #[] 0)] :: L)) : WL P ops Q (⟨some d, .range T x, ty, pos, af, none⟩ :: rest) n l H L :=
  WL.vw rfl rfl hn (fun a w hA hw => ⟨_, w.alloc (.mapIter none 0 #[] 0), H, _, by
    have := run_range_nilMap (P := P) w T K E ht
    simp [execOp, hA.get hx, this], hw.alloc _, h _⟩)
theorem run_next_nil (w : World) (ty r a b : Nat) (s : Array Nat) (hr : w.heap[r]? = some (.mapIter none a s b)) :
    (Instr.next (.pointer (some ⟨r, 0, none⟩)) false ty).run P w = .ok (.tuple #[.bool false]) w := by
  have h1 : (getObj r).run P w = .ok (.mapIter none a s b) w := by simp [getObj, Sem.run, hr]
  simp only [Instr.next, Sem.run_bind, h1, Sem.run, Result.andThen]
  rfl
theorem nxn {x : Operand} {r a b : Nat} {s : Array Nat} {L' : Own} (hx : get l x = some (.pointer (some ⟨r, 0, none⟩))) (hs : Sel L [(r, .mapIter none a s b)] L') (hn : Nat.blt d n = true)
    (h : WL P ops Q rest n ((d, .tuple #[.bool false]) :: l) H L) : WL P ops Q (⟨some d, .next x false, ty, pos, af, none⟩ :: rest) n l H L :=
  WL.vq rfl rfl hn (fun a' w hA hw => by
    have hr := (hw.own r (.mapIter none a s b) (hs.perm.mem_iff.2 (by simp))).1
    simp [execOp, hA.get hx, run_next_nil w ty r a b s hr]) h
theorem nebG {x y : Operand} {T T' : Nat} {b c : Bool} (hu : P.underlying T = some .bool) (hx : get l x = some (.bool b)) (hy : get l y = some (.bool c)) (hn : Nat.blt d n = true) (h : WL P ops Q rest n ((d, .bool (!(b == c))) :: l) H L) : WL P ops Q (⟨some d, .binOp .neq T x y T', ty, pos, af, none⟩ :: rest) n l H L :=
  WL.vq rfl rfl hn (fun a w hA _ => by
    have h1 := run_neq_bool (P := P) (w := w) T b c hu
    simp [execOp, hA.get hx, hA.get hy, eqGuard, h1]) h
end
theorem bnt {b : Bool} (h : (!b) = true) : b = false := by cases b <;> simp_all
theorem bnf {b : Bool} (h : (!b) = false) : b = true := by cases b <;> simp_all
theorem OkFE.nnT {f : Fd} {v : Int} {x : Tr} (h : OkFE f v x) (hn : f.nul < 0) (hk : f.kind ≠ 11) : x.nul = false := by
  cases hx : x.nul with
  | false => rfl
  | true => rcases h.nul hx with ⟨h1, _⟩ | ⟨h1, _, _⟩ <;> omega
theorem RanN.n {t : Tr} (h : RanN t) : -9223372036854775808 ≤ t.n ∧ t.n ≤ 9223372036854775807 := by cases h; assumption
theorem RanN.l {t : Tr} (h : RanN t) : ∀ x ∈ t.l, RanN x := by cases h; assumption
theorem RanN.leaf {n : Int} {s : List UInt8} {b : Bool} {u : List (Int × List UInt8)} (h : -9223372036854775808 ≤ n ∧ n ≤ 9223372036854775807) : RanN (.mk n s b [] u) := .mk _ h (fun x hx => by simp [Tr.l] at hx)
theorem RanN.at {t : Tr} (h : RanN t) (i : Nat) : RanN (t.at i) := by
  unfold Tr.at
  cases hq : t.l[i]? with
  | none => exact RanN.leaf (by decide)
  | some x => exact h.l x (List.mem_of_getElem? hq)
theorem RanN.lT {t : Tr} (h : RanN t) {y : Tr} (hy : y ∈ lT t) : RanN y := h.l y (lT_mem hy)
theorem ranN_fitV {kind : Int} {fs : List Fd} {v : Int} {nul : Bool} {x : Tr} (hx : RanN x) (h : RanN (fit fs v x)) : RanN (fitV kind (fit fs v) nul x) := by
  unfold fitV
  split
  · exact RanN.leaf (by decide)
  · split
    · exact .mk _ h.n h.l
    · exact RanN.leaf hx.n
theorem ranN_fit {fs : List Fd} (h : GoodT fs) (v : Int) : ∀ t, RanN t → RanN (fit fs v t) := by
  induction h with
  | mk fs hl _ _ ih =>
    intro t ht
    refine .mk _ (by show (-9223372036854775808 : Int) ≤ 0 ∧ (0 : Int) ≤ 9223372036854775807; omega) fun x hx => ?_
    obtain ⟨i, hi, rfl⟩ := List.mem_iff_getElem.1 (show x ∈ fitsF fs v 0 t from hx)
    rw [fitsF_length] at hi
    have h := fitsF_get v t fs 0 i hi
    obtain ⟨h1, h2⟩ := List.getElem?_eq_some_iff.1 h
    rw [show (fitsF fs v 0 t)[i] = _ from h2, fitF_eq]
    have ih' := ih fs[i] (List.getElem_mem hi)
    have hti := ht.at (0 + i)
    unfold fitF'
    split
    · refine .mk _ (by show (-9223372036854775808 : Int) ≤ 0 ∧ (0 : Int) ≤ 9223372036854775807; omega) fun y hy => ?_
      obtain ⟨z, hz, rfl⟩ := List.mem_map.1 (show y ∈ List.map _ _ from hy)
      have hz2 : RanN z := hti.l z (List.mem_of_mem_take (show z ∈ ((t.at (0 + i)).l.take most) from hz))
      exact ranN_fitV hz2 (ih' z hz2)
    · exact ranN_fitV hti (ih' _ hti)
end Go.Sx

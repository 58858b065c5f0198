/- Appending in place; a method called through an interface. -/
import Derived.Test.YtpcgaheplmiglaaGreatBeL
set_option linter.unusedVariables false
set_option linter.unusedSimpArgs false
namespace Go.Sx
section
variable {P : Program} {ops : Array Oper} {Q : Exit → Act → World → Prop} {rest : List Oper} {n : Nat} {l : Env} {H : Fz} {L : Own}
variable {d ty : Nat} {pos : String} {af : Array Edge}
/-- an append into a row that has room: it is written in place -/
theorem apI {t tx e bytes : Nat} {z : Value} {x y : Operand} {g m cap k : Nat} {cur : Array Value} {news : List Value} {src : Value} {F : Chunk → Own}
    (ht : P.underlying t = some (.slice e)) (hi : TI P e 1 bytes z) (hx : get l x = some (.slice (some ⟨g, 0, none⟩) m cap)) (hy : get l y = some src) (hF : ∀ N', Upd L [(g, .cells cur e (0, 0))] N' (F N')) (hcs : cur.size = cap) (hroom : m + k ≤ cap)
    (hsrc : ∀ w, Hp H L w → Src P 1 tx src k news w) (hn : Nat.blt d n = true)
    (h : WL P ops Q rest n ((d, .slice (some ⟨g, 0, none⟩) (m + k) cap) :: l) H (F [(g, .cells (cur.toList.take m ++ news ++ cur.toList.drop (m + k)).toArray e (0, 0))])) :
    WL P ops Q (⟨some d, .call { callee := .builtin .append, args := #[x, y], argTypes := #[t, tx] }, ty, pos, af, none⟩ :: rest) n l H L :=
  WL.vw rfl rfl hn (fun w0 w hA hw => by
    obtain ⟨i, hii, hsz, hby, hz⟩ := hi.ex
    have hs := hsrc w hw
    have hk : news.length = k := by have := hs.newsLen; omega
    have hb0 : w.heap[g]? = some (.cells cur e (0, 0)) := (hF []).here hw (List.mem_singleton.2 rfl)
    have hst := run_storeCells_at P g m e news 0 cur w hb0 (by simp; omega) hs.one
    have hrun : (Builtin.append_ #[t, tx] ty #[.slice (some ⟨g, 0, none⟩) m cap, src]).run P w = .ok (.slice (some ⟨g, 0, none⟩) (m + k) cap) (w.setRow g (cur.toList.take m ++ news ++ cur.toList.drop (m + news.length)).toArray) := by
      simp only [Nat.add_zero] at hst
      rcases hs.kind with ⟨e', hq⟩ | hq <;> simp [Builtin.append_, run_underlying ht, run_underlying hq, sizeOf, typeInfo, hii, hsz, hs.len, hroom, hs.cells, Addr.add_lit, hst]
    rw [hk] at hrun
    exact ⟨_, _, H, _, by simp [execOp, resolve, invoke, builtin, hA.get hx, hA.get hy, hrun], setRow_turn hw (hF _), h⟩)
/-- a method called through an interface: the value's own method runs -/
theorem iv {recv : Operand} {name : String} {g : FuncId} {t : Nat} {v rv : Value} {xs : List Operand} {vs : List Value} {tys : Array TypeId} {R : Value → Fz → Own → Prop} (hr : get l recv = some (.iface t v)) (hx : gets l xs = some vs)
    (hm : ∀ w, (method (P.types.size + Made.depth) t v name).run P w = .ok (g, rv) w) (hF : Fn P g (rv :: vs) H L R) (hn : Nat.blt d n = true)
    (h : ∀ v H' L', H.le H' → R v H' L' → WL P ops Q rest n ((d, v) :: l) H' L') : WL P ops Q (⟨some d, .call { callee := .invoke recv name, args := xs.toArray, argTypes := tys }, ty, pos, af, none⟩ :: rest) n l H L := by
  intro a w hA hw
  refine wpList_plain rfl fun K hK => ?_
  have hg := gets_eq hA xs vs hx
  have e2 : #[rv] ++ vs.toArray = (rv :: vs).toArray := by apply Array.ext'; simp
  have e3 : (invoke (.fn (.method name) #[]) (#[Value.iface t v] ++ vs.toArray)).run P w = .ok (.enter g (rv :: vs).toArray) w := by
    have e4 : (invoke (.fn (.method name) #[]) (#[Value.iface t v] ++ vs.toArray)).run P w = (callFunc g (#[rv] ++ vs.toArray)).run P w := by
      simp [invoke, callMethod, go_sem]
      have hm' : Sem.run P (method (P.types.size + 100) t v name) w = .ok (g, rv) w := hm w
      rw [hm']
      simp
    rw [e4, e2]
    exact hF.1 _ w
  have hr' : (execOp a.eval ⟨some d, .call { callee := .invoke recv name, args := xs.toArray, argTypes := tys }, ty, pos, af, none⟩).run P w = .ok (.enter g (rv :: vs).toArray) w := by
    simp only [execOp, resolve, hA.get hr, List.map_toArray, hg, pure_bind]
    exact e3
  unfold Oper.wp
  rw [hr']
  show Calls P g (rv :: vs).toArray w _
  refine (hF.2 w hw).mono ?_
  rintro e w' ⟨v, H', L', rfl, hle, hp, hR⟩
  exact hK _ _ (h v H' L' hle hR _ _ (hA.put hn v) hp)
end
end Go.Sx

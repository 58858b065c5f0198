/- A request's frame: what it is; single operations that its walk asks for. -/
import Derived.Test.YtpcgaheplmiglaaGreatFrL
set_option linter.unusedVariables false
set_option linter.unusedSimpArgs false
namespace Go.Sx
def idB (h : Bool) (x : List UInt8) : List UInt8 := if h then fixed (x.length : Int) 2 ++ x else fixed (-1) 2
def frameIn (key v num : Int) (h : Bool) (x : List UInt8) (flex : Bool) (body : List UInt8) : List UInt8 :=
  fixed key 2 ++ fixed v 2 ++ fixed num 4 ++ idB h x ++ (if flex then [0] else []) ++ body
def frameB (key v num : Int) (h : Bool) (x : List UInt8) (flex : Bool) (body : List UInt8) : List UInt8 :=
  fixed ((frameIn key v num h x flex body).length : Int) 4 ++ frameIn key v num h x flex body
/-- the client's id, as a text that may be null -/
def idT (h : Bool) (x : List UInt8) : Tr := .mk 0 x (!h) [] []
theorem idB_eq (h : Bool) (x : List UInt8) : counted false (idT h x).nul (sT (idT h x)).length 2 ++ sT (idT h x) = idB h x := by
  cases h
  · show counted false true 0 2 ++ [] = fixed (-1) 2
    rw [List.append_nil]; rfl
  · rfl
theorem idB_len (h : Bool) (x : List UInt8) : (idB h x).length ≤ 2 + x.length := by
  unfold idB; split
  · rw [List.length_append, fixed_length]; omega
  · rw [fixed_length]; omega
theorem frameIn_len (key v num : Int) (h : Bool) (x : List UInt8) (flex : Bool) (body : List UInt8) : (frameIn key v num h x flex body).length ≤ 11 + x.length + body.length := by
  unfold frameIn
  have h1 := idB_len h x
  simp only [List.length_append, fixed_length]
  split <;> simp <;> omega
theorem frameB_len (key v num : Int) (h : Bool) (x : List UInt8) (flex : Bool) (body : List UInt8) : (frameB key v num h x flex body).length ≤ 15 + x.length + body.length := by
  have h1 := frameIn_len key v num h x flex body
  unfold frameB
  rw [List.length_append, fixed_length]; omega
theorem len_snoc0 (X : List UInt8) : (X ++ [0]).length = X.length + 1 := by simp
theorem Row.head4 {e g m cap : Nat} {cur : Array Value} {X ys : List UInt8} (hcs : cur.size = cap * 1) (hm : m ≤ cap) (hcm : cap ≤ maxLen) (htk : cur.toList.take (m * 1) = bytesOf X) (hl : X.length = m) (hy : ys.length = 4) (h4 : 4 ≤ m) :
    Row e 1 (some ⟨g, 0, none⟩) m cap (bytesOf (ys ++ X.drop 4)) [(g, .cells (bytesOf ys ++ cur.toList.drop 4).toArray e (0, 0))] := by
  have hy' : (bytesOf ys).length = 4 := by rw [bytesOf_length, hy]
  have hc' : cur.toList.length = cap := by simpa using hcs
  refine ⟨by simp [bytesOf_length, hy, hl]; omega, .inr ⟨g, _, rfl, rfl, hm, hcm, by simp [hy']; omega, ?_⟩⟩
  rw [Nat.mul_one] at htk ⊢
  show (bytesOf ys ++ cur.toList.drop 4).take m = _
  rw [bytesOf_append, List.take_append, hy', List.take_of_length_le (by omega)]
  congr 1
  rw [List.take_drop, show 4 + (m - 4) = m by omega, htk, bytesOf, bytesOf, List.map_drop]
section
variable {P : Program} {ops : Array Oper} {Q : Exit → Act → World → Prop} {rest : List Oper} {n : Nat} {l : Env} {H : Fz} {L : Own} {S : World → Prop}
variable {d ty : Nat} {pos : String} {af : Array Edge}
/-- interface values of structs, of addresses -/
theorem mkiS {T : Nat} {fs : Array Field} {x : Operand} {v : Value} (hu : P.underlying T = some (.struct fs)) (hx : get l x = some v) (hn : Nat.blt d n = true) (h : WL P ops Q rest n ((d, .iface T v) :: l) H L) : WL P ops Q (⟨some d, .makeInterface T x, ty, pos, af, none⟩ :: rest) n l H L :=
  WL.vq rfl rfl hn (fun a w hA hw => by simp [execOp, hA.get hx, Instr.makeInterface, run_underlying hu]) h
theorem mkiP {T e : Nat} {x : Operand} {v : Value} (hu : P.underlying T = some (.pointer e)) (hx : get l x = some v) (hn : Nat.blt d n = true) (h : WL P ops Q rest n ((d, .iface T v) :: l) H L) : WL P ops Q (⟨some d, .makeInterface T x, ty, pos, af, none⟩ :: rest) n l H L :=
  WL.vq rfl rfl hn (fun a w hA hw => by simp [execOp, hA.get hx, Instr.makeInterface, run_underlying hu]) h
/-- a method called through an interface, of the value that it holds -/
theorem ivv {recv : Operand} {name : String} {g : FuncId} {t : Nat} {v : Value} {xs : List Operand} {vs : List Value} {tys : Array TypeId} {R : Value → Fz → Own → Prop} (hr : get l recv = some (.iface t v)) (hx : gets l xs = some vs) (hF : Fn P g (v :: vs) H L R)
    (hm : ∀ w, (method (P.types.size + Made.depth) t v name).run P w = .ok (g, v) w) (hn : Nat.blt d n = true)
    (h : ∀ v H' L', H.le H' → R v H' L' → WL P ops Q rest n ((d, v) :: l) H' L') : WL P ops Q (⟨some d, .call { callee := .invoke recv name, args := xs.toArray, argTypes := tys }, ty, pos, af, none⟩ :: rest) n l H L := iv hr hx hm hF hn h
theorem y_cvI {x : Operand} {Sx D : Nat} {sd : TypeDesc} {k k' : IntKind} {a c : Int} (hs : ∀ w, (underlying Sx).run P w = .ok sd w) (hd : ∀ w, (underlying D).run P w = .ok (.int k) w) (hx : get l x = some (.int k' a)) (hc : k.wrap a = c) : ∀ a, Has n l a → YieldsIf P ops S ⟨some d, .convert Sx D x, ty, pos, af, none⟩ (.int k c) a :=
  y_plain rfl fun a hA w _ => by simp [execOp, hA.get hx, convert, hs, hd, Conv.intToInt, hc]
theorem y_slh {T e sz m c : Nat} {ad : Option Addr} {x y : Operand} {k : IntKind} {i : Int} {j : Nat} (ht : ∀ w, (underlying T).run P w = .ok (.slice e) w) (hz : ∀ w, (sizeOf e).run P w = .ok sz w) (hx : get l x = some (.slice ad m c)) (hy : get l y = some (.int k i)) (hi : i = (j : Int)) (hj : j ≤ c) : ∀ a, Has n l a → YieldsIf P ops S ⟨some d, .slice T x none (some y) none, ty, pos, af, none⟩ (.slice ad j c) a :=
  y_plain rfl fun a hA w _ => by
    subst hi
    have hc : (if c = 0 then ad else ad.map (·.add 0)) = ad := by
      split
      · rfl
      · cases ad <;> simp [Addr.add]
    simp [execOp, hA.get hx, hA.get hy, Instr.sliceAt, Instr.slice, ht, hz, Instr.sliceBounds, Instr.sliceBound, asIntOf, hj, hc]
theorem y_slo {T e m c : Nat} {ad : Option Addr} {x y : Operand} {k : IntKind} {i : Int} {j : Nat} (ht : ∀ w, (underlying T).run P w = .ok (.slice e) w) (hz : ∀ w, (sizeOf e).run P w = .ok 1 w) (hx : get l x = some (.slice ad m c)) (hy : get l y = some (.int k i)) (hi : i = (j : Int)) (hj : j ≤ m) (hc : m ≤ c) : ∀ a, Has n l a → YieldsIf P ops S ⟨some d, .slice T x (some y) none none, ty, pos, af, none⟩ (.slice (if c = j then ad else ad.map (·.add j)) (m - j) (c - j)) a :=
  y_plain rfl fun a hA w _ => by
    subst hi
    simp [execOp, hA.get hx, hA.get hy, Instr.sliceAt, Instr.slice, ht, hz, Instr.sliceBounds, Instr.sliceBound, asIntOf, hj, hc]
end
end Go.Sx

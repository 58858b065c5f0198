/- The symbolic walk through a region that draws its order: what only reads is taken first; what writes waits for one another. -/
import Derived.Test.YtpcgaheplmiglaaGreatLibA
import Derived.OrdersHeld
import Derived.KernelRfl
set_option linter.unusedVariables false
set_option linter.unusedSimpArgs false
namespace Go.Sx

/-- Whatever order is picked from here on; and till number k has come up 'S' holds behind every operation. -/
def wpAnyG (P : Program) (md : Region.Mode) (ops : Array Oper) (Q : Exit → Act → World → Prop) (k : Nat) (S : World → Prop) : Nat → Array Bool → Act → World → Prop
  | 0, listed, a, w => Region.ready md ops listed = [] ∧ Q .normal a w
  | fuel + 1, listed, a, w =>
    (Region.ready md ops listed = [] → Q .normal a w) ∧
    ∀ i ∈ Region.ready md ops listed, wpOp P ops Q i (fun a' w' => ((listed.setIfInBounds i true).getD k false = false → S w') ∧ wpAnyG P md ops Q k S fuel (listed.setIfInBounds i true) a' w') a w

section
variable {P : Program} {ops : Array Oper} {Q : Exit → Act → World → Prop} {md : Region.Mode} {S : World → Prop} {k : Nat}
theorem wpAny_of_G : ∀ (fuel : Nat) (listed : Array Bool) (a : Act) (w : World), wpAnyG P md ops Q k S fuel listed a w → wpAny P md ops Q fuel listed a w
  | 0, _, _, _, h => h
  | fuel + 1, _, _, _, h => ⟨h.1, fun i hi => wpOp_mono (fun a' w' h' => wpAny_of_G fuel _ a' w' h'.2) (h.2 i hi)⟩

def waits (md : Region.Mode) (ops : Array Oper) (k i : Nat) : Bool := match ops[k]? with
  | none => true
  | some o => k != i && o.after.any (fun e => Region.binds md e && e.on == i)

theorem wpAnyG_first {i : Nat} {oi : Oper} {v : Value} (hi : ops[i]? = some oi) (hsel : ∀ (j : Nat) (o : Oper) cs b, ops[j]? = some o → o.op ≠ .select cs b)
    (hQ : ∀ c a w, Q (.panic c) (a.put oi.dst v) w → Q (.panic c) a w) (hk : waits md ops k i = true) :
    ∀ (fuel : Nat) (listed : Array Bool) (a : Act) (w : World), listed.size = ops.size → listed.getD k false = false →
      (∀ j oj, ops[j]? = some oj → j ≠ i → listed.getD j true = false → (∀ e ∈ oj.after, Region.binds md e = true → e.on ≠ i) → oi.apart ops oj = true) →
      i ∈ Region.ready md ops listed → YieldsIf P ops S oi v a → S w →
      wpAnyG P md ops Q k S fuel (listed.setIfInBounds i true) (a.put oi.dst v) w → wpAnyG P md ops Q k S (fuel + 1) listed a w := by
  have hki : ∀ listed : Array Bool, listed.size = ops.size → listed.getD k false = false → (listed.setIfInBounds i true).getD k false = false := by
    intro listed hls hl
    by_cases h : k < ops.size
    · have hne : k ≠ i := by
        unfold waits at hk
        rw [Array.getElem?_eq_getElem h] at hk
        simp at hk; exact hk.1
      rw [getD_set_ne false (Ne.symm hne)]; exact hl
    · rw [Array.getD_eq_getD_getElem?, Array.getElem?_eq_none (by simp; omega)]; rfl
  intro fuel
  induction fuel with
  | zero =>
    intro listed a w hls hl _ hr hy hS H
    refine ⟨fun h => (by rw [h] at hr; cases hr), fun j hj => ?_⟩
    by_cases hji : j = i
    · subst hji; exact hy.wpOp hi hS ⟨fun _ => hS, H⟩
    · have := ready_mono hj hji
      rw [H.1] at this
      cases this
  | succ fuel ih =>
    intro listed a w hls hl hfree hr hy hS H
    refine ⟨fun h => (by rw [h] at hr; cases hr), fun j hj => ?_⟩
    by_cases hji : j = i
    · subst hji; exact hy.wpOp hi hS ⟨fun _ => hS, H⟩
    · have h1 := H.2 j (ready_mono hj hji)
      obtain ⟨hjun, oj, hoj, hall⟩ := mem_ready.1 hj
      have hiun := (mem_ready.1 hr).1
      have hnot : ∀ e ∈ oj.after, Region.binds md e = true → e.on ≠ i := fun e he hb heq => by
        have h1 := hall e he hb
        rw [heq] at h1
        rcases Nat.lt_or_ge i listed.size with h' | h'
        · simp [h'] at hiun h1; rw [hiun] at h1; cases h1
        · simp [Array.getElem?_eq_none h'] at h1
      have hjk : j ≠ k := by
        rintro rfl
        unfold waits at hk
        rw [hoj] at hk
        simp only [Bool.and_eq_true] at hk
        obtain ⟨e, he, hb⟩ := Array.any_eq_true'.1 hk.2
        simp only [Bool.and_eq_true, beq_iff_eq] at hb
        exact hnot e he hb.1 hb.2
      have hl' : (listed.setIfInBounds j true).getD k false = false := by rw [getD_set_ne false hjk]; exact hl
      have h2 := wpOp_putIf hoj (hfree j oj hoj hji hjun hnot) (fun cs b => hsel i oi cs b hi) (fun cs b => hsel j oj cs b hoj) hQ hy h1
      have hfree' : ∀ k ok, ops[k]? = some ok → k ≠ i → (listed.setIfInBounds j true).getD k true = false →
          (∀ e ∈ ok.after, Region.binds md e = true → e.on ≠ i) → oi.apart ops ok = true := fun k ok hk hki hun hno => by
        refine hfree k ok hk hki ?_ hno
        by_cases hjk : j = k
        · subst hjk; exact hjun
        · rw [getD_set_ne true hjk] at hun; exact hun
      refine wpOp_mono (fun a' w' h3 => ?_) h2
      have hS' : S w' := h3.2.1 (by rw [Array.setIfInBounds_comm _ _ (Ne.symm hji)]; exact hki _ (by simpa using hls) hl')
      refine ⟨fun _ => hS', ih (listed.setIfInBounds j true) a' w' (by simpa using hls) hl' hfree' (ready_mono hr (Ne.symm hji)) h3.1 hS' ?_⟩
      rw [Array.setIfInBounds_comm _ _ hji]
      exact h3.2.2
end

/-- Some of the own chunks. -/
inductive SubL : Own → Own → Prop
  | nil {B} : SubL [] B
  | keep {c A B} : SubL A B → SubL (c :: A) (c :: B)
  | skip {c A B} : SubL A B → SubL A (c :: B)
theorem kp1 {c0 : Chunk} {B : Own} : SubL [c0] (c0 :: B) := .keep .nil
theorem kp2 {c0 c1 : Chunk} {B : Own} : SubL [c0, c1] (c0 :: c1 :: B) := .keep (.keep .nil)
theorem kp3 {c0 c1 c2 : Chunk} {B : Own} : SubL [c0, c1, c2] (c0 :: c1 :: c2 :: B) := .keep (.keep (.keep .nil))
theorem kp4 {c0 c1 c2 c3 : Chunk} {B : Own} : SubL [c0, c1, c2, c3] (c0 :: c1 :: c2 :: c3 :: B) := .keep (.keep (.keep (.keep .nil)))
theorem kp5 {c0 c1 c2 c3 c4 : Chunk} {B : Own} : SubL [c0, c1, c2, c3, c4] (c0 :: c1 :: c2 :: c3 :: c4 :: B) := .keep (.keep (.keep (.keep (.keep .nil))))
theorem kp6 {c0 c1 c2 c3 c4 c5 : Chunk} {B : Own} : SubL [c0, c1, c2, c3, c4, c5] (c0 :: c1 :: c2 :: c3 :: c4 :: c5 :: B) := .keep (.keep (.keep (.keep (.keep (.keep .nil)))))
theorem kp7 {c0 c1 c2 c3 c4 c5 c6 : Chunk} {B : Own} : SubL [c0, c1, c2, c3, c4, c5, c6] (c0 :: c1 :: c2 :: c3 :: c4 :: c5 :: c6 :: B) := .keep (.keep (.keep (.keep (.keep (.keep (.keep .nil))))))
theorem kp8 {c0 c1 c2 c3 c4 c5 c6 c7 : Chunk} {B : Own} : SubL [c0, c1, c2, c3, c4, c5, c6, c7] (c0 :: c1 :: c2 :: c3 :: c4 :: c5 :: c6 :: c7 :: B) := .keep (.keep (.keep (.keep (.keep (.keep (.keep (.keep .nil)))))))
theorem SubL.mem {A B : Own} (h : SubL A B) : ∀ p, p ∈ A.flatten → p ∈ B.flatten := by
  induction h with
  | nil => intro p hp; simp at hp
  | keep _ ih => intro p hp; simp only [List.flatten_cons, List.mem_append] at hp ⊢; exact hp.imp id (ih p)
  | skip _ ih => intro p hp; simp only [List.flatten_cons, List.mem_append]; exact .inr (ih p hp)
theorem SubL.bs {A B : Own} {H H' : Fz} {w : World} (h : SubL A B) (hle : H.le H') (hw : Hp H' B w) : Bs H A w :=
  ⟨fun b o hb => hw.fz b o (hle.blk b o hb), fun b o hm => (hw.own b o (h.mem _ hm)).1⟩

section
variable {P : Program} {ops : Array Oper} {Q : Exit → Act → World → Prop} {n k : Nat} {l : Env} {H H0 : Fz} {L Lq : Own} {fuel : Nat} {listed : Array Bool}
def WH (P : Program) (ops : Array Oper) (Q : Exit → Act → World → Prop) (k : Nat) (H0 : Fz) (Lq : Own) (fuel : Nat) (listed : Array Bool) (n : Nat) (l : Env) (H : Fz) (L : Own) : Prop :=
  ∀ a w, Has n l a → Hp H L w → wpAnyG P .any ops Q k (Bs H0 Lq) fuel listed a w
theorem rgD {id : Nat} (k : Nat) (hsub : SubL Lq L) (hm : P.follows .mixedOrders = true) (h : WH P ops Q k H Lq ops.size (Array.replicate ops.size false) n l H L) : Wp P (.region id ops true) Q n l H L :=
  fun a w hA hw => have _ := hsub; wp_region_any hm (wpAny_of_G _ _ _ _ (h a _ hA hw.drew))
/-- What only reads is taken first. -/
theorem dT {d : Nat} {o : Oper} {v : Value} (i : Nat) (ho : ops[i]? = some o) (hd : o.dst = some d) (hn : Nat.blt d n = true)
    (hc : (Region.noSelect ops && Region.free .any ops listed i && (Region.ready .any ops listed).contains i && waits .any ops k i && !listed.getD k false && Nat.beq listed.size ops.size) = true)
    (hQ : ∀ c a w, Q (.panic c) (a.put (some d) v) w → Q (.panic c) a w) (hy : ∀ a, Has n l a → YieldsIf P ops (Bs H0 Lq) o v a) (hsub : SubL Lq L) (hle : H0.le H)
    (h : WH P ops Q k H0 Lq fuel (listed.setIfInBounds i true) n ((d, v) :: l) H L) : WH P ops Q k H0 Lq (fuel + 1) listed n l H L := by
  simp only [Bool.and_eq_true, Bool.not_eq_true'] at hc
  obtain ⟨⟨⟨⟨⟨h1, h2⟩, h3⟩, h4⟩, h5⟩, h6⟩ := hc
  intro a w hA hw
  exact wpAnyG_first ho (Region.noSelect_spec h1) (by rw [hd]; exact hQ) h4 fuel listed a w (Nat.eq_of_beq_eq_true h6) h5 (Region.free_spec ho h2) (by simpa using h3) (hy a hA) (hsub.bs hle hw)
    (by rw [hd]; exact h _ _ (hA.put hn v) hw)
/-- the same, its closed facts found by themselves -/
theorem dU {d : Nat} {o : Oper} {v : Value} (i : Nat) (ho : ops[i]? = some o) (hd : o.dst = some d) (hn : Nat.blt d n = true) (hy : ∀ a, Has n l a → YieldsIf P ops (Bs H0 Lq) o v a) (hsub : SubL Lq L) (hle : H0.le H)
    (h : WH P ops Q k H0 Lq fuel (listed.setIfInBounds i true) n ((d, v) :: l) H L)
    (hc : (Region.noSelect ops && Region.free .any ops listed i && (Region.ready .any ops listed).contains i && waits .any ops k i && !listed.getD k false && Nat.beq listed.size ops.size) = true := by kernel_rfl)
    (hQ : ∀ c a w, Q (.panic c) (a.put (some d) v) w → Q (.panic c) a w := by exact fun _ _ _ h => h) : WH P ops Q k H0 Lq (fuel + 1) listed n l H L := dT i ho hd hn hc hQ hy hsub hle h
/-- The one that may come up. -/
theorem dE {o : Oper} (i : Nat) (hr : Region.ready .any ops listed = [i]) (ho : ops[i]? = some o)
    (h : WL P ops (Exit.then (fun a w => ((listed.setIfInBounds i true).getD k false = false → Bs H0 Lq w) ∧ wpAnyG P .any ops Q k (Bs H0 Lq) fuel (listed.setIfInBounds i true) a w) Q) [o] n l H L) : WH P ops Q k H0 Lq (fuel + 1) listed n l H L := by
  intro a w hA hw
  refine ⟨fun h0 => (by rw [hr] at h0; cases h0), fun j hj => ?_⟩
  rw [hr] at hj
  obtain rfl := List.mem_singleton.1 hj
  have := h a w hA hw
  unfold wpOp
  rw [ho]
  simp only [wpList] at this ⊢
  split at this
  · rename_i hwt
    rw [if_pos hwt]
    refine this.imp (fun h1 => ?_) (fun h1 => h1)
    unfold Oper.wp at h1 ⊢
    generalize (execOp a.eval o).run P w = r at *
    cases r with
    | ok x w' =>
      cases x <;> simp only [Oper.upon] at h1 ⊢ <;> first
        | exact h1
        | exact Calls.mono h1 (fun e w'' he => by cases e <;> exact he)
    | halt x w' => cases x <;> simp only [Oper.upon] at h1 ⊢ <;> exact h1
  · rename_i hwt
    rw [if_neg hwt]
    exact this
theorem dN {listed' : Array Bool} (hsub : SubL Lq L) (hle : H0.le H) (h : WH P ops Q k H0 Lq fuel listed' n l H L) :
    WL P ops (Exit.then (fun a w => (listed'.getD k false = false → Bs H0 Lq w) ∧ wpAnyG P .any ops Q k (Bs H0 Lq) fuel listed' a w) Q) [] n l H L :=
  nq fun a w hA hw => ⟨fun _ => hsub.bs hle hw, h a w hA hw⟩
theorem dNk {listed' : Array Bool} (hk : listed'.getD k false = true) (h : WH P ops Q k H0 Lq fuel listed' n l H L) :
    WL P ops (Exit.then (fun a w => (listed'.getD k false = false → Bs H0 Lq w) ∧ wpAnyG P .any ops Q k (Bs H0 Lq) fuel listed' a w) Q) [] n l H L :=
  nq fun a w hA hw => ⟨fun h0 => (by rw [hk] at h0; cases h0), h a w hA hw⟩
theorem dD (hr : Region.ready .any ops listed = []) (h : Nn Q n l H L) : WH P ops Q k H0 Lq fuel listed n l H L := by
  intro a w hA hw
  cases fuel with
  | zero => exact ⟨hr, h a w hA hw⟩
  | succ f => exact ⟨fun _ => h a w hA hw, by rw [hr]; simp⟩

theorem splH {t : Nat} {p : Prop} [Decidable p] (hc : look l t = some (.bool (decide p))) (ht : p → WH P ops Q k H0 Lq fuel listed n ((t, .bool true) :: l) H L) (hf : ¬ p → WH P ops Q k H0 Lq fuel listed n ((t, .bool false) :: l) H L) : WH P ops Q k H0 Lq fuel listed n l H L := by
  intro a w ha hw
  by_cases hp : p
  · exact ht hp a w (ha.sub (Sub.cons (by rw [hc]; simp [hp]) (Sub.refl l))) hw
  · exact hf hp a w (ha.sub (Sub.cons (by rw [hc]; simp [hp]) (Sub.refl l))) hw
theorem splHb {t : Nat} {b : Bool} (hc : look l t = some (.bool b)) (ht : b = true → WH P ops Q k H0 Lq fuel listed n ((t, .bool true) :: l) H L) (hf : b = false → WH P ops Q k H0 Lq fuel listed n ((t, .bool false) :: l) H L) : WH P ops Q k H0 Lq fuel listed n l H L := by
  cases b
  · exact fun a w ha hw => hf rfl a w (ha.sub (Sub.cons hc (Sub.refl l))) hw
  · exact fun a w ha hw => ht rfl a w (ha.sub (Sub.cons hc (Sub.refl l))) hw

/-! ### What reads -/
variable {o : Oper} {d ty : Nat} {pos : String} {af : Array Edge} {S : World → Prop}
theorem y_plain {v : Value} (hg : o.guard = none) (h : ∀ a, Has n l a → ∀ w, S w → (execOp a.eval o).run P w = .ok (.value v) w) : ∀ a, Has n l a → YieldsIf P ops S o v a :=
  fun a hA => .inl ⟨by simp [Region.wanted, hg], h a hA⟩
theorem y_gr {od : Option Nat} {op : Op} {j dj : Nat} {b : Bool} {v : Value} (hj : (ops[j]?).bind (·.dst) = some dj) (hb : look l dj = some (.bool b)) (h : ∀ a, Has n l a → YieldsIf P ops S ⟨od, op, ty, pos, af, none⟩ v a) : ∀ a, Has n l a → YieldsIf P ops S ⟨od, op, ty, pos, af, some (j, b)⟩ v a := by
  intro a hA
  have hy : yielded ops a.tmps j = some b := by simp [yielded, hj, hA.vals dj _ hb]
  rcases h a hA with ⟨_, h2⟩ | ⟨h1, _⟩
  · exact .inl ⟨by simp [Region.wanted, hy], h2⟩
  · simp [Region.wanted] at h1
theorem y_gs {od : Option Nat} {op : Op} {j dj : Nat} {b b' : Bool} (hj : (ops[j]?).bind (·.dst) = some dj) (hb : look l dj = some (.bool b')) (hne : (b' == b) = false) : ∀ a, Has n l a → YieldsIf P ops S ⟨od, op, ty, pos, af, some (j, b)⟩ undef a := by
  intro a hA
  have hy : yielded ops a.tmps j = some b' := by simp [yielded, hj, hA.vals dj _ hb]
  exact .inr ⟨by simp only [Region.wanted, hy]; simpa using hne, rfl⟩
theorem y_gu {od : Option Nat} {op : Op} {j dj : Nat} {b : Bool} (hj : (ops[j]?).bind (·.dst) = some dj) (hb : look l dj = some undef) : ∀ a, Has n l a → YieldsIf P ops S ⟨od, op, ty, pos, af, some (j, b)⟩ undef a := by
  intro a hA
  have hy : yielded ops a.tmps j = none := by simp [yielded, hj, hA.vals dj _ hb, undef]
  exact .inr ⟨by simp [Region.wanted, hy], rfl⟩
theorem y_mv {x : Operand} {v : Value} (hx : get l x = some v) : ∀ a, Has n l a → YieldsIf P ops S ⟨some d, .move x, ty, pos, af, none⟩ v a := y_plain rfl fun a hA w _ => by simp [execOp, hA.get hx]
theorem y_asg {x : Operand} {v : Value} (hx : get l x = some v) : ∀ a, Has n l a → YieldsIf P ops S ⟨some d, .assign x, ty, pos, af, none⟩ v a := y_plain rfl fun a hA w _ => by simp [execOp, hA.get hx]
theorem y_nc {x : Operand} {ad : Addr} (hx : get l x = some (.pointer (some ad))) : ∀ a, Has n l a → YieldsIf P ops S ⟨some d, .nilCheck x, ty, pos, af, none⟩ (.pointer (some ad)) a := y_plain rfl fun a hA w _ => by simp [execOp, hA.get hx]
theorem y_pk {c x y : Operand} {b : Bool} {u v : Value} (hc : get l c = some (.bool b)) (hx : get l x = some u) (hy : get l y = some v) : ∀ a, Has n l a → YieldsIf P ops S ⟨some d, .pick c x y, ty, pos, af, none⟩ (bif b then u else v) a := y_plain rfl fun a hA w _ => by cases b <;> simp [execOp, hA.get hc, hA.get hx, hA.get hy, asBool]
theorem y_fa {Sx k o b off : Nat} {x : Operand} (hF : FieldOff P Sx k o) (hx : get l x = some (.pointer (some ⟨b, off, none⟩))) : ∀ a, Has n l a → YieldsIf P ops S ⟨some d, .fieldAddr Sx x k, ty, pos, af, none⟩ (.pointer (some ⟨b, off + o, none⟩)) a := y_plain rfl fun a hA w _ => by simp [execOp, hA.get hx, hF b off w]
theorem y_fa0 {Sx k o b : Nat} {x : Operand} (hF : FieldOff P Sx k o) (hx : get l x = some (.pointer (some ⟨b, 0, none⟩))) : ∀ a, Has n l a → YieldsIf P ops S ⟨some d, .fieldAddr Sx x k, ty, pos, af, none⟩ (.pointer (some ⟨b, o, none⟩)) a := by
  have := y_fa (P := P) (n := n) (l := l) (ops := ops) (S := S) (d := d) (ty := ty) (pos := pos) (af := af) hF hx
  rwa [Nat.zero_add] at this
theorem y_fc {T k o : Nat} {x : Operand} {cs : List Value} {v : Value} (hF : FieldCell P T k o) (hx : get l x = some (.agg cs.toArray)) (hv : nth cs o = some v) : ∀ a, Has n l a → YieldsIf P ops S ⟨some d, .field T x k, ty, pos, af, none⟩ v a := y_plain rfl fun a hA w _ => by simp [execOp, hA.get hx, hF cs v w (by rw [← nth_eq]; exact hv)]
theorem y_ld {T b off j o : Nat} {vs : List Value} {x : Operand} {v : Value} (hs : Says H0 Lq b off vs) (ha : ∀ w, (isAgg T).run P w = .ok false w) (hx : get l x = some (.pointer (some ⟨b, o, none⟩))) (ho : o = off + j) (hv : nth vs j = some v) : ∀ a, Has n l a → YieldsIf P ops (Bs H0 Lq) ⟨some d, .load T x, ty, pos, af, none⟩ v a := y_plain rfl fun a hA w hw => by
  subst ho
  have := hs w hw j v (by rw [← nth_eq]; exact hv)
  simp [execOp, hA.get hx, Instr.loadAt, Instr.sureAddr, loadVar, ha, this]
theorem y_la {T b off j o m : Nat} {vs ds : List Value} {x : Operand} (hs : Says H0 Lq b off vs) (ha : ∀ w, (isAgg T).run P w = .ok true w) (hz : ∀ w, (sizeOf T).run P w = .ok m w) (hx : get l x = some (.pointer (some ⟨b, o, none⟩))) (ho : o = off + j) (hv : cut' vs j m = some ds) : ∀ a, Has n l a → YieldsIf P ops (Bs H0 Lq) ⟨some d, .load T x, ty, pos, af, none⟩ (.agg ds.toArray) a := y_plain rfl fun a hA w hw => by
  subst ho
  obtain ⟨h1, h2⟩ := cut'_eq vs j m ds hv
  have hl : ds.length = m := by subst h1; simp; omega
  have hc := run_loadCells_says (P := P) (w := w) (b := b) (off := off + j) (ds := ds) (fun i v hi => by
    have := hs w hw (j + i) v (by
      subst h1
      rw [List.getElem?_take] at hi
      split at hi
      · rw [List.getElem?_drop] at hi; exact hi
      · cases hi)
    rwa [← Nat.add_assoc] at this)
  rw [hl] at hc
  simp [execOp, hA.get hx, Instr.loadAt, Instr.sureAddr, loadVar, ha, hz, hc]
theorem y_ix2 {T e sz b off m c : Nat} {ad : Option Addr} {x y : Operand} {j : Nat} {i : Int} (ht : ∀ w, (underlying T).run P w = .ok (.slice e) w) (hz : ∀ w, (sizeOf e).run P w = .ok sz w) (hx : get l x = some (.slice ad m c)) (had : ad = some ⟨b, off, none⟩) (hy : get l y = some (.int .i64 i)) (hi : i = (j : Int)) (hj : j < m) : ∀ a, Has n l a → YieldsIf P ops S ⟨some d, .indexAddr T x y, ty, pos, af, none⟩ (.pointer (some ⟨b, off + j * sz, none⟩)) a := y_plain rfl fun a hA w _ => by
  subst had hi
  simp [execOp, hA.get hx, hA.get hy, Instr.indexAt, asIntOf, ht, hz, hj, add_plain]
theorem y_ls {T e m c : Nat} {x : Operand} {ad : Option Addr} (ht : ∀ w, (underlying T).run P w = .ok (.slice e) w) (hx : get l x = some (.slice ad m c)) : ∀ a, Has n l a → YieldsIf P ops S ⟨some d, .call { callee := .builtin .len, args := #[x], argTypes := #[T] }, ty, pos, af, none⟩ (.int .i64 (m : Int)) a := y_plain rfl fun a hA w _ => by simp [execOp, resolve, invoke, builtin, hA.get hx, Builtin.len_, ht, goInt]
theorem y_lt {x y : Operand} {T T' : Nat} {k : IntKind} {u v : Int} (hx : get l x = some (.int k u)) (hy : get l y = some (.int k v)) : ∀ a, Has n l a → YieldsIf P ops S ⟨some d, .binOp .lss T x y T', ty, pos, af, none⟩ (.bool (decide (u < v))) a := y_plain rfl fun a hA w _ => by simp [execOp, hA.get hx, hA.get hy, eqGuard, binOp, Op.intCmp]
theorem y_eq {x y : Operand} {T T' : Nat} {k : IntKind} {u v : Int} (hx : get l x = some (.int k u)) (hy : get l y = some (.int k v)) : ∀ a, Has n l a → YieldsIf P ops S ⟨some d, .binOp .eql T x y T', ty, pos, af, none⟩ (.bool (decide (u = v))) a := y_plain rfl fun a hA w _ => by simp [execOp, hA.get hx, hA.get hy, eqGuard, binOp, Op.intCmp, int_beq]
theorem y_ne {x y : Operand} {T T' : Nat} {k : IntKind} {u v : Int} (hx : get l x = some (.int k u)) (hy : get l y = some (.int k v)) : ∀ a, Has n l a → YieldsIf P ops S ⟨some d, .binOp .neq T x y T', ty, pos, af, none⟩ (.bool (decide (u ≠ v))) a := y_plain rfl fun a hA w _ => by simp [execOp, hA.get hx, hA.get hy, eqGuard, binOp, Op.intCmp, bne, int_beq]
theorem y_nt {x : Operand} {T : Nat} {b : Bool} (hx : get l x = some (.bool b)) : ∀ a, Has n l a → YieldsIf P ops S ⟨some d, .unOp .not T x, ty, pos, af, none⟩ (.bool (!b)) a := y_plain rfl fun a hA w _ => by simp [execOp, hA.get hx, Op.unary]
end
end Go.Sx

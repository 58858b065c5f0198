import Derived.Test.YtdacadmfdhjpoaaDoorS4
import Derived.Test.YtdacadmfdhjpoaaDoorLibI
import Derived.KernelRfl
set_option linter.unusedVariables false
set_option linter.unusedSimpArgs false
set_option maxRecDepth 100000
set_option maxHeartbeats 20000000
namespace Go.Sx
open Go.Proofs
theorem s_same1 {H : Fz} {L : Own} {a a' : Option Addr} {c c' : Nat} {s : List UInt8} (h1 : BytesAt H a c s) (h2 : BytesAt H a' c' s) :
    Fn Tryd.prog 16 [.slice a s.length c, .slice a' s.length c'] H L (fun v H' L' => H = H' ∧ L = L' ∧ v = .bool true) := by
  have h := s_same (L := L) h1 h2
  rw [show decide (s = s) = true by simp] at h
  exact h
theorem s_sametree (t : Tr) : ∀ {H : Fz} {L : Own} {c e : TC} (hT : TreeAt H c t) (hE : TreeAt H e t), Fn Tryd.prog 8 [.agg (c.cells t).toArray, .agg (e.cells t).toArray] H L (fun r H' L' => H = H' ∧ L = L' ∧ r = .bool true) := by
  induction hsz : SizeOf.sizeOf t using Nat.strongRecOn generalizing t with
  | _ sz ih0 =>
  have ih : ∀ x, SizeOf.sizeOf x < SizeOf.sizeOf t → ∀ {H : Fz} {L : Own} {c e : TC} (hT : TreeAt H c x) (hE : TreeAt H e x), Fn Tryd.prog 8 [.agg (c.cells x).toArray, .agg (e.cells x).toArray] H L (fun r H' L' => H = H' ∧ L = L' ∧ r = .bool true) := fun x hx => ih0 _ (by omega) x rfl
  intro H L c e hT hE
  refine Fn.mk Tryd.call8 Tryd.func8 rfl Tryd.ntmps8 rfl ?_
  refine sr ?_
  refine bx rfl rfl rfl (fun b_1 => ?_)
  refine bx rfl rfl rfl (fun b_2 => ?_)
  refine asg rfl rfl ?_
  refine nl ?_
  refine sq ?_
  refine sr ?_
  refine fa0 F35_0 rfl rfl ?_
  refine ld (Says.own (.tail .head)) Tryd.isAgg2 rfl (Nat.zero_add _).symm rfl rfl ?_
  refine fa0 F35_0 rfl rfl ?_
  refine ld (Says.own .head) Tryd.isAgg2 rfl (Nat.zero_add _).symm rfl rfl ?_
  refine ne' rfl rfl rfl ?_
  refine mv rfl rfl ?_
  refine spl (t := 12) rfl (fun hn_ => absurd hn_ (by omega)) (fun _ => ?_)
  refine gr rfl rfl ?_
  refine fa0 F35_2 rfl rfl ?_
  refine gr rfl rfl ?_
  refine ld (Says.own (.tail .head)) Tryd.isAgg4 rfl (Nat.zero_add _).symm rfl rfl ?_
  refine gr rfl rfl ?_
  refine fa0 F35_2 rfl rfl ?_
  refine gr rfl rfl ?_
  refine ld (Says.own .head) Tryd.isAgg4 rfl (Nat.zero_add _).symm rfl rfl ?_
  refine gr rfl rfl ?_
  refine neb Tryd.underlying4 rfl rfl rfl ?_
  refine pkF rfl rfl rfl rfl ?_
  refine mv rfl rfl ?_
  refine gr rfl rfl ?_
  refine fa0 F35_1 rfl rfl ?_
  refine gr rfl rfl ?_
  refine ld (Says.own (.tail .head)) Tryd.isAgg22 rfl (Nat.zero_add _).symm rfl rfl ?_
  refine gr rfl rfl ?_
  refine fa0 F35_1 rfl rfl ?_
  refine gr rfl rfl ?_
  refine ld (Says.own .head) Tryd.isAgg22 rfl (Nat.zero_add _).symm rfl rfl ?_
  refine gr rfl rfl ?_
  refine cl rfl rfl rfl (s_same1 hT.s hE.s) rfl (fun v H1 L1 hle hR => ?_)
  obtain ⟨rfl, rfl, rfl⟩ := hR
  refine gr rfl rfl ?_
  refine nt rfl rfl ?_
  refine pkF rfl rfl rfl rfl ?_
  refine mv rfl rfl ?_
  refine gr rfl rfl ?_
  refine fa0 F35_3 rfl rfl ?_
  refine gr rfl rfl ?_
  refine ld (Says.own (.tail .head)) Tryd.isAgg32 rfl (Nat.zero_add _).symm rfl rfl ?_
  refine gr rfl rfl ?_
  refine ls Tryd.runUnderlying32 rfl rfl ?_
  refine gr rfl rfl ?_
  refine fa0 F35_3 rfl rfl ?_
  refine gr rfl rfl ?_
  refine ld (Says.own .head) Tryd.isAgg32 rfl (Nat.zero_add _).symm rfl rfl ?_
  refine gr rfl rfl ?_
  refine ls Tryd.runUnderlying32 rfl rfl ?_
  refine gr rfl rfl ?_
  refine ne' rfl rfl rfl ?_
  refine pkF rfl rfl rfl rfl ?_
  refine mv rfl rfl ?_
  refine spl (t := 36) rfl (fun hn_ => absurd hn_ (by omega)) (fun _ => ?_)
  refine gr rfl rfl ?_
  refine fa0 F35_4 rfl rfl ?_
  refine gr rfl rfl ?_
  refine ld (Says.own (.tail .head)) Tryd.isAgg33 rfl (Nat.zero_add _).symm rfl rfl ?_
  refine gr rfl rfl ?_
  refine ls Tryd.runUnderlying33 rfl rfl ?_
  refine gr rfl rfl ?_
  refine fa0 F35_4 rfl rfl ?_
  refine gr rfl rfl ?_
  refine ld (Says.own .head) Tryd.isAgg33 rfl (Nat.zero_add _).symm rfl rfl ?_
  refine gr rfl rfl ?_
  refine ls Tryd.runUnderlying33 rfl rfl ?_
  refine gr rfl rfl ?_
  refine ne' rfl rfl rfl ?_
  refine pkF rfl rfl rfl rfl ?_
  refine nl ?_
  refine cd rfl (fun h44 => ?_) (fun h44 => ?_)
  · skip
    exact absurd rfl h44
  · skip
    refine skt ?_
    refine sq ?_
    refine sr ?_
    refine fa0 F35_3 rfl rfl ?_
    refine ld (Says.own (.tail .head)) Tryd.isAgg32 rfl (Nat.zero_add _).symm rfl rfl ?_
    refine ls Tryd.runUnderlying32 rfl rfl ?_
    refine mv rfl rfl ?_
    refine nl ?_
    refine capL (fun F_5 hF_5 => ?_)
    refine fr (t.l.length) (fun k l' H' L' => [(2, .pointer (some ⟨b_1, 0, none⟩)), (3, .pointer (some ⟨b_2, 0, none⟩)), (47, .int .i64 (t.l.length : Int))] = l' ∧ H = H' ∧ F_5 = L') [(2, .pointer (some ⟨b_1, 0, none⟩)), (3, .pointer (some ⟨b_2, 0, none⟩)), (47, .int .i64 (t.l.length : Int))] (fun k l' H' L' h => ?_) (by have := hT.l.len; omega) rfl (.cons rfl (.cons rfl (.cons rfl (.nil _)))) ⟨rfl, rfl, rfl⟩ rfl rfl rfl rfl rfl (fun k l' H' L' hk le_3 hI => ?_) (fun l' H' L' le_4 hI => ?_)
    · obtain ⟨rfl, _⟩ := h; exact ⟨rfl, rfl, rfl, rfl⟩
    · skip
      obtain ⟨rfl, rfl, rfl⟩ := hI
      subst hF_5
      refine sr ?_
      refine mv rfl rfl ?_
      refine asg rfl rfl ?_
      refine nl ?_
      refine sq ?_
      refine rgD 12 (.keep (.keep .nil)) mixed ?_
      refine dT 0 rfl rfl rfl (by kernel_rfl) (fun _ _ _ h => h) (y_fa0 F35_3 rfl) (.keep (.keep .nil)) (Fz.le.refl _) ?_
      refine dT 1 rfl rfl rfl (by kernel_rfl) (fun _ _ _ h => h) (y_ld (Says.own (.tail .head)) Tryd.isAgg32 rfl (Nat.zero_add _).symm rfl) (.keep (.keep .nil)) (Fz.le.refl _) ?_
      refine dT 2 rfl rfl rfl (by kernel_rfl) (fun _ _ _ h => h) (y_mv rfl) (.keep (.keep .nil)) (Fz.le.refl _) ?_
      obtain ⟨b_6, o_7, e_8, g_9⟩ := hT.l.at_ (ne_nil_of_lt hk)
      obtain ⟨c_10, q_11, q_12⟩ := g_9 k hk
      refine dT 3 rfl rfl rfl (by kernel_rfl) (fun _ _ _ h => h) (y_ix2 Tryd.runUnderlying32 Tryd.sizeOf35 rfl e_8 rfl rfl hk) (.keep (.keep .nil)) (Fz.le.refl _) ?_
      refine dT 4 rfl rfl rfl (by kernel_rfl) (fun _ _ _ h => h) (y_la (Says.fz q_11) Tryd.isAgg35 Tryd.sizeOf35 rfl (Nat.add_zero _).symm rfl) (.keep (.keep .nil)) (Fz.le.refl _) ?_
      refine dT 5 rfl rfl rfl (by kernel_rfl) (fun _ _ _ h => h) (y_fa0 F35_3 rfl) (.keep (.keep .nil)) (Fz.le.refl _) ?_
      refine dT 6 rfl rfl rfl (by kernel_rfl) (fun _ _ _ h => h) (y_ld (Says.own .head) Tryd.isAgg32 rfl (Nat.zero_add _).symm rfl) (.keep (.keep .nil)) (Fz.le.refl _) ?_
      refine dT 7 rfl rfl rfl (by kernel_rfl) (fun _ _ _ h => h) (y_mv rfl) (.keep (.keep .nil)) (Fz.le.refl _) ?_
      obtain ⟨b_13, o_14, e_15, g_16⟩ := hE.l.at_ (ne_nil_of_lt hk)
      obtain ⟨c_17, q_18, q_19⟩ := g_16 k hk
      refine dT 8 rfl rfl rfl (by kernel_rfl) (fun _ _ _ h => h) (y_ix2 Tryd.runUnderlying32 Tryd.sizeOf35 rfl e_15 rfl rfl hk) (.keep (.keep .nil)) (Fz.le.refl _) ?_
      refine dT 9 rfl rfl rfl (by kernel_rfl) (fun _ _ _ h => h) (y_la (Says.fz q_18) Tryd.isAgg35 Tryd.sizeOf35 rfl (Nat.add_zero _).symm rfl) (.keep (.keep .nil)) (Fz.le.refl _) ?_
      refine dE 10 (by kernel_rfl) rfl ?_
      refine cl rfl rfl rfl (ih _ (tr_size hk) q_12 q_19) rfl (fun v H1 L1 hle hR => ?_)
      obtain ⟨rfl, rfl, rfl⟩ := hR
      refine dN (.keep (.keep .nil)) (Fz.le.refl _) ?_
      refine dT 11 rfl rfl rfl (by kernel_rfl) (fun _ _ _ h => h) (y_nt rfl) (.keep (.keep .nil)) (Fz.le.refl _) ?_
      refine dD (by kernel_rfl) ?_
      refine Nt ?_
      refine cF rfl ?_
      refine skN ?_
      refine Nb ?_
      refine fun a w hA hw => ⟨_, _, _, hA.sub ?_, (Fz.le.refl _), hw, _, rfl, rfl, rfl, rfl⟩
      exact (.cons rfl (.cons rfl (.cons rfl (.cons rfl (.nil _)))))
    · skip
      obtain ⟨rfl, rfl, rfl⟩ := hI
      subst hF_5
      refine toWp ?_
      refine sq ?_
      refine sr ?_
      refine fa0 F35_4 rfl rfl ?_
      refine ld (Says.own (.tail .head)) Tryd.isAgg33 rfl (Nat.zero_add _).symm rfl rfl ?_
      refine ls Tryd.runUnderlying33 rfl rfl ?_
      refine mv rfl rfl ?_
      refine nl ?_
      refine capL (fun F_22 hF_22 => ?_)
      refine fr (t.u.length) (fun j l' H' L' => [(2, .pointer (some ⟨b_1, 0, none⟩)), (3, .pointer (some ⟨b_2, 0, none⟩)), (66, .int .i64 (t.u.length : Int))] = l' ∧ H = H' ∧ F_22 = L') [(2, .pointer (some ⟨b_1, 0, none⟩)), (3, .pointer (some ⟨b_2, 0, none⟩)), (66, .int .i64 (t.u.length : Int))] (fun j l' H' L' h => ?_) (by have := hT.u.len; omega) rfl (.cons rfl (.cons rfl (.cons rfl (.nil _)))) ⟨rfl, rfl, rfl⟩ rfl rfl rfl rfl rfl (fun j l' H' L' hj le_20 hI => ?_) (fun l' H' L' le_21 hI => ?_)
      · obtain ⟨rfl, _⟩ := h; exact ⟨rfl, rfl, rfl, rfl⟩
      · skip
        obtain ⟨rfl, rfl, rfl⟩ := hI
        subst hF_22
        refine sr ?_
        refine mv rfl rfl ?_
        refine asg rfl rfl ?_
        refine nl ?_
        refine sq ?_
        refine rgD 29 (.keep (.keep .nil)) mixed ?_
        refine dT 0 rfl rfl rfl (by kernel_rfl) (fun _ _ _ h => h) (y_fa0 F35_4 rfl) (.keep (.keep .nil)) (Fz.le.refl _) ?_
        refine dT 1 rfl rfl rfl (by kernel_rfl) (fun _ _ _ h => h) (y_ld (Says.own (.tail .head)) Tryd.isAgg33 rfl (Nat.zero_add _).symm rfl) (.keep (.keep .nil)) (Fz.le.refl _) ?_
        refine dT 2 rfl rfl rfl (by kernel_rfl) (fun _ _ _ h => h) (y_mv rfl) (.keep (.keep .nil)) (Fz.le.refl _) ?_
        obtain ⟨b_23, o_24, e_25, g_26⟩ := hT.u.at_ (ne_nil_of_lt hj)
        obtain ⟨c_27, q_28, q_29⟩ := g_26 j hj
        refine dT 3 rfl rfl rfl (by kernel_rfl) (fun _ _ _ h => h) (y_ix2 Tryd.runUnderlying33 Tryd.sizeOf50 rfl e_25 rfl rfl hj) (.keep (.keep .nil)) (Fz.le.refl _) ?_
        refine dT 4 rfl rfl rfl (by kernel_rfl) (fun _ _ _ h => h) (y_fa F50_0 rfl) (.keep (.keep .nil)) (Fz.le.refl _) ?_
        refine dT 5 rfl rfl rfl (by kernel_rfl) (fun _ _ _ h => h) (y_ld (Says.fz q_28) Tryd.isAgg48 rfl (Nat.add_zero _).symm rfl) (.keep (.keep .nil)) (Fz.le.refl _) ?_
        refine dT 6 rfl rfl rfl (by kernel_rfl) (fun _ _ _ h => h) (y_fa0 F35_4 rfl) (.keep (.keep .nil)) (Fz.le.refl _) ?_
        refine dT 7 rfl rfl rfl (by kernel_rfl) (fun _ _ _ h => h) (y_ld (Says.own .head) Tryd.isAgg33 rfl (Nat.zero_add _).symm rfl) (.keep (.keep .nil)) (Fz.le.refl _) ?_
        refine dT 8 rfl rfl rfl (by kernel_rfl) (fun _ _ _ h => h) (y_mv rfl) (.keep (.keep .nil)) (Fz.le.refl _) ?_
        obtain ⟨b_30, o_31, e_32, g_33⟩ := hE.u.at_ (ne_nil_of_lt hj)
        obtain ⟨c_34, q_35, q_36⟩ := g_33 j hj
        refine dT 9 rfl rfl rfl (by kernel_rfl) (fun _ _ _ h => h) (y_ix2 Tryd.runUnderlying33 Tryd.sizeOf50 rfl e_32 rfl rfl hj) (.keep (.keep .nil)) (Fz.le.refl _) ?_
        refine dT 10 rfl rfl rfl (by kernel_rfl) (fun _ _ _ h => h) (y_fa F50_0 rfl) (.keep (.keep .nil)) (Fz.le.refl _) ?_
        refine dT 11 rfl rfl rfl (by kernel_rfl) (fun _ _ _ h => h) (y_ld (Says.fz q_35) Tryd.isAgg48 rfl (Nat.add_zero _).symm rfl) (.keep (.keep .nil)) (Fz.le.refl _) ?_
        refine dT 12 rfl rfl rfl (by kernel_rfl) (fun _ _ _ h => h) (y_ne rfl rfl) (.keep (.keep .nil)) (Fz.le.refl _) ?_
        refine dT 13 rfl rfl rfl (by kernel_rfl) (fun _ _ _ h => h) (y_mv rfl) (.keep (.keep .nil)) (Fz.le.refl _) ?_
        refine splH (t := 83) rfl (fun hn_ => absurd rfl hn_) (fun _ => ?_)
        refine dT 14 rfl rfl rfl (by kernel_rfl) (fun _ _ _ h => h) (y_gr rfl rfl (y_fa0 F35_4 rfl)) (.keep (.keep .nil)) (Fz.le.refl _) ?_
        refine dT 15 rfl rfl rfl (by kernel_rfl) (fun _ _ _ h => h) (y_gr rfl rfl (y_ld (Says.own (.tail .head)) Tryd.isAgg33 rfl (Nat.zero_add _).symm rfl)) (.keep (.keep .nil)) (Fz.le.refl _) ?_
        refine dT 16 rfl rfl rfl (by kernel_rfl) (fun _ _ _ h => h) (y_gr rfl rfl (y_mv rfl)) (.keep (.keep .nil)) (Fz.le.refl _) ?_
        obtain ⟨b_37, o_38, e_39, g_40⟩ := hT.u.at_ (ne_nil_of_lt hj)
        obtain ⟨c_41, q_42, q_43⟩ := g_40 j hj
        refine dT 17 rfl rfl rfl (by kernel_rfl) (fun _ _ _ h => h) (y_gr rfl rfl (y_ix2 Tryd.runUnderlying33 Tryd.sizeOf50 rfl e_39 rfl rfl hj)) (.keep (.keep .nil)) (Fz.le.refl _) ?_
        refine dT 18 rfl rfl rfl (by kernel_rfl) (fun _ _ _ h => h) (y_gr rfl rfl (y_fa F50_1 rfl)) (.keep (.keep .nil)) (Fz.le.refl _) ?_
        refine dT 19 rfl rfl rfl (by kernel_rfl) (fun _ _ _ h => h) (y_gr rfl rfl (y_ld (Says.fz q_42) Tryd.isAgg22 rfl rfl rfl)) (.keep (.keep .nil)) (Fz.le.refl _) ?_
        refine dT 20 rfl rfl rfl (by kernel_rfl) (fun _ _ _ h => h) (y_gr rfl rfl (y_fa0 F35_4 rfl)) (.keep (.keep .nil)) (Fz.le.refl _) ?_
        refine dT 21 rfl rfl rfl (by kernel_rfl) (fun _ _ _ h => h) (y_gr rfl rfl (y_ld (Says.own .head) Tryd.isAgg33 rfl (Nat.zero_add _).symm rfl)) (.keep (.keep .nil)) (Fz.le.refl _) ?_
        refine dT 22 rfl rfl rfl (by kernel_rfl) (fun _ _ _ h => h) (y_gr rfl rfl (y_mv rfl)) (.keep (.keep .nil)) (Fz.le.refl _) ?_
        obtain ⟨b_44, o_45, e_46, g_47⟩ := hE.u.at_ (ne_nil_of_lt hj)
        obtain ⟨c_48, q_49, q_50⟩ := g_47 j hj
        refine dT 23 rfl rfl rfl (by kernel_rfl) (fun _ _ _ h => h) (y_gr rfl rfl (y_ix2 Tryd.runUnderlying33 Tryd.sizeOf50 rfl e_46 rfl rfl hj)) (.keep (.keep .nil)) (Fz.le.refl _) ?_
        refine dT 24 rfl rfl rfl (by kernel_rfl) (fun _ _ _ h => h) (y_gr rfl rfl (y_fa F50_1 rfl)) (.keep (.keep .nil)) (Fz.le.refl _) ?_
        refine dT 25 rfl rfl rfl (by kernel_rfl) (fun _ _ _ h => h) (y_gr rfl rfl (y_ld (Says.fz q_49) Tryd.isAgg22 rfl rfl rfl)) (.keep (.keep .nil)) (Fz.le.refl _) ?_
        refine dE 26 (by kernel_rfl) rfl ?_
        refine gr rfl rfl ?_
        refine cl rfl rfl rfl (s_same1 q_43.val q_50.val) rfl (fun v H1 L1 hle hR => ?_)
        obtain ⟨rfl, rfl, rfl⟩ := hR
        refine dN (.keep (.keep .nil)) (Fz.le.refl _) ?_
        refine dT 27 rfl rfl rfl (by kernel_rfl) (fun _ _ _ h => h) (y_gr rfl rfl (y_nt rfl)) (.keep (.keep .nil)) (Fz.le.refl _) ?_
        refine dT 28 rfl rfl rfl (by kernel_rfl) (fun _ _ _ h => h) (y_pk rfl rfl rfl) (.keep (.keep .nil)) (Fz.le.refl _) ?_
        refine dD (by kernel_rfl) ?_
        refine Nt ?_
        refine cF rfl ?_
        refine skN ?_
        refine Nb ?_
        refine fun a w hA hw => ⟨_, _, _, hA.sub ?_, (Fz.le.refl _), hw, _, rfl, rfl, rfl, rfl⟩
        exact (.cons rfl (.cons rfl (.cons rfl (.cons rfl (.nil _)))))
      · skip
        obtain ⟨rfl, rfl, rfl⟩ := hI
        subst hF_22
        refine toWp ?_
        refine sr ?_
        refine asg rfl rfl ?_
        refine nl ?_
        refine drW .head ?_
        refine drW .head ?_
        exact rT rfl rfl (Fz.le.refl _) (fun _ _ h => h) ⟨rfl, rfl, rfl⟩
end Go.Sx

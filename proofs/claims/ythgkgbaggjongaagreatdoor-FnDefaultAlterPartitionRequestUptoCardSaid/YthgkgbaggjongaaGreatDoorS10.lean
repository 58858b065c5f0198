import Derived.Test.YthgkgbaggjongaaGreatDoorS6
import Derived.KernelRfl
set_option linter.unusedVariables false
set_option linter.unusedSimpArgs false
set_option maxRecDepth 100000
set_option maxHeartbeats 20000000
namespace Go.Sx
open Go.Proofs
theorem s_Defaults {H : Fz} {L : Own} {a : Option Addr} {c0 : Nat} {e : TC} {g : Tr} {fs : List Fd} (hF : FdsAt H a fs) (hG : TreeAt H e g) (hd : ∀ j (hj : j < fs.length), (fs[j]).df ≠ 0 → (g.at j).n = numK (fs[j]).kind (fs[j]).df) :
  Fn Tryz.prog 44 [.slice a fs.length c0, .agg (e.cells g).toArray] H L (fun r H' L' => L = L' ∧ r = .bool true) := by
 refine Fn.mk Tryz.call44 Tryz.func44 rfl Tryz.ntmps44 rfl ?_
 refine sr ?_
 refine bx rfl rfl rfl (fun b_1 => ?_)
 refine asg rfl rfl ?_
 refine nl ?_
 refine sq ?_
 refine sr ?_
 refine mv rfl rfl ?_
 refine ls Tryz.runUnderlying29 rfl rfl ?_
 refine mv rfl rfl ?_
 refine nl ?_
 refine capL (fun F_4 hF_4 => ?_)
 refine fr (fs.length) (fun k l' H' L' => [(3, .pointer (some ⟨b_1, 0, none⟩)), (7, .slice a fs.length c0), (8, .int .i64 (fs.length : Int))] = l' ∧ F_4 = L') [(3, .pointer (some ⟨b_1, 0, none⟩)), (7, .slice a fs.length c0), (8, .int .i64 (fs.length : Int))] (fun k l' H' L' h => ?_) (by have := hF.few; omega) rfl (.cons rfl (.cons rfl (.cons rfl (.nil _)))) ⟨rfl, rfl⟩ rfl rfl rfl rfl rfl (fun k l' H' L' hk le_2 hI => ?_) (fun l' H' L' le_3 hI => ?_)
 · obtain ⟨rfl, _⟩ := h; exact ⟨rfl, rfl, rfl, rfl⟩
 ·
  obtain ⟨rfl, rfl⟩ := hI
  subst hF_4
  have hd_ := hd k hk
  refine sr ?_
  refine mv rfl rfl ?_
  obtain ⟨b_5, o_6, e_7, g_8⟩ := (hF.mono le_2).at_ (ne_nil_of_lt hk)
  obtain ⟨c_9, q_10, q_11⟩ := g_8 k hk
  refine ix2 Tryz.runUnderlying29 Tryz.sizeOf56 rfl e_7 rfl rfl hk rfl ?_
  refine la (Says.fz q_10) Tryz.isAgg56 Tryz.sizeOf56 rfl (Nat.add_zero _).symm rfl rfl ?_
  refine al Tryz.zeroValue56 rfl rfl (fun b_12 => ?_)
  refine asg rfl rfl ?_
  refine sa Tryz.sizeOf56 rfl rfl rfl rfl rfl .head ?_
  refine nl ?_
  refine sq ?_
  refine rgD 15 (.keep (.keep .nil)) mixed ?_
  refine dT 0 rfl rfl rfl (by kernel_rfl) (fun _ _ _ h => h) (y_fa0 F56_5 rfl) (.keep (.keep .nil)) (Fz.le.refl _) ?_
  refine dT 1 rfl rfl rfl (by kernel_rfl) (fun _ _ _ h => h) (y_ld (Says.own .head) Tryz.isAgg2 rfl (Nat.zero_add _).symm rfl) (.keep (.keep .nil)) (Fz.le.refl _) ?_
  refine dT 2 rfl rfl rfl (by kernel_rfl) (fun _ _ _ h => h) (y_ne rfl rfl) (.keep (.keep .nil)) (Fz.le.refl _) ?_
  refine dT 3 rfl rfl rfl (by kernel_rfl) (fun _ _ _ h => h) (y_mv rfl) (.keep (.keep .nil)) (Fz.le.refl _) ?_
  refine splH (t := 17) rfl (fun h17 => ?_) (fun h17 => ?_)
  ·
   refine dT 4 rfl rfl rfl (by kernel_rfl) (fun _ _ _ h => h) (y_gr rfl rfl (y_la (Says.own (.tail .head)) Tryz.isAgg26 Tryz.sizeOf26 rfl (Nat.zero_add _).symm rfl)) (.keep (.keep .nil)) (Fz.le.refl _) ?_
   refine dT 5 rfl rfl rfl (by kernel_rfl) (fun _ _ _ h => h) (y_gr rfl rfl (y_mv rfl)) (.keep (.keep .nil)) (Fz.le.refl _) ?_
   refine dT 8 rfl rfl rfl (by kernel_rfl) (fun _ _ _ h => h) (y_gr rfl rfl (y_fa0 F56_0 rfl)) (.keep (.keep .nil)) (Fz.le.refl _) ?_
   refine dT 9 rfl rfl rfl (by kernel_rfl) (fun _ _ _ h => h) (y_gr rfl rfl (y_ld (Says.own .head) Tryz.isAgg3 rfl (Nat.zero_add _).symm rfl)) (.keep (.keep .nil)) (Fz.le.refl _) ?_
   refine dT 10 rfl rfl rfl (by kernel_rfl) (fun _ _ _ h => h) (y_gr rfl rfl (y_fa0 F56_5 rfl)) (.keep (.keep .nil)) (Fz.le.refl _) ?_
   refine dT 11 rfl rfl rfl (by kernel_rfl) (fun _ _ _ h => h) (y_gr rfl rfl (y_ld (Says.own .head) Tryz.isAgg2 rfl (Nat.zero_add _).symm rfl)) (.keep (.keep .nil)) (Fz.le.refl _) ?_
   refine dE 6 (by kernel_rfl) rfl ?_
   refine gr rfl rfl ?_
   refine cl rfl rfl rfl (s_at (i := k) (hG.mono le_2)) rfl (fun v_ H1 L1 hle hR => ?_)
   obtain ⟨rfl, rfl, c20, rfl, g20⟩ := hR
   refine dN (.keep (.keep .nil)) (Fz.le.refl _) ?_
   refine dT 7 rfl rfl rfl (by kernel_rfl) (fun _ _ _ h => h) (y_gr rfl rfl (y_fc C26_0 rfl rfl)) (.keep (.keep .nil)) (Fz.le.refl _) ?_
   refine dE 12 (by kernel_rfl) rfl ?_
   refine gr rfl rfl ?_
   refine cl rfl rfl rfl s_number rfl (fun v_ H1 L1 hle hR => ?_)
   obtain ⟨rfl, rfl, rfl⟩ := hR
   refine dN (.keep (.keep .nil)) (Fz.le.refl _) ?_
   refine dT 13 rfl rfl rfl (by kernel_rfl) (fun _ _ _ h => h) (y_gr rfl rfl (y_ne rfl rfl)) (.keep (.keep .nil)) (Fz.le.refl _) ?_
   refine dT 14 rfl rfl rfl (by kernel_rfl) (fun _ _ _ h => h) (y_pk rfl rfl rfl) (.keep (.keep .nil)) (Fz.le.refl _) ?_
   refine dD (by kernel_rfl) ?_
   refine Nt ?_
   refine cdU rfl (fun h28 => ?_) (fun h28 => ?_)
   ·
    exfalso
    exact h28 (hd_ (by assumption))
   ·
    refine skN ?_
    refine Nb ?_
    refine drN .head ?_
    refine fun a w hA hw => ⟨_, _, _, hA.sub ?_, le_2, hw, _, rfl, rfl, rfl⟩
    exact (.cons rfl (.cons rfl (.cons rfl (.cons rfl (.nil _)))))
  ·
   refine dT 4 rfl rfl rfl (by kernel_rfl) (fun _ _ _ h => h) (y_gs rfl rfl rfl) (.keep (.keep .nil)) (Fz.le.refl _) ?_
   refine dT 5 rfl rfl rfl (by kernel_rfl) (fun _ _ _ h => h) (y_gs rfl rfl rfl) (.keep (.keep .nil)) (Fz.le.refl _) ?_
   refine dT 8 rfl rfl rfl (by kernel_rfl) (fun _ _ _ h => h) (y_gs rfl rfl rfl) (.keep (.keep .nil)) (Fz.le.refl _) ?_
   refine dT 9 rfl rfl rfl (by kernel_rfl) (fun _ _ _ h => h) (y_gs rfl rfl rfl) (.keep (.keep .nil)) (Fz.le.refl _) ?_
   refine dT 10 rfl rfl rfl (by kernel_rfl) (fun _ _ _ h => h) (y_gs rfl rfl rfl) (.keep (.keep .nil)) (Fz.le.refl _) ?_
   refine dT 11 rfl rfl rfl (by kernel_rfl) (fun _ _ _ h => h) (y_gs rfl rfl rfl) (.keep (.keep .nil)) (Fz.le.refl _) ?_
   refine dE 6 (by kernel_rfl) rfl ?_
   refine gs rfl rfl rfl rfl ?_
   refine dN (.keep (.keep .nil)) (Fz.le.refl _) ?_
   refine dT 7 rfl rfl rfl (by kernel_rfl) (fun _ _ _ h => h) (y_gs rfl rfl rfl) (.keep (.keep .nil)) (Fz.le.refl _) ?_
   refine dE 12 (by kernel_rfl) rfl ?_
   refine gs rfl rfl rfl rfl ?_
   refine dN (.keep (.keep .nil)) (Fz.le.refl _) ?_
   refine dT 13 rfl rfl rfl (by kernel_rfl) (fun _ _ _ h => h) (y_gs rfl rfl rfl) (.keep (.keep .nil)) (Fz.le.refl _) ?_
   refine dT 14 rfl rfl rfl (by kernel_rfl) (fun _ _ _ h => h) (y_pk rfl rfl rfl) (.keep (.keep .nil)) (Fz.le.refl _) ?_
   refine dD (by kernel_rfl) ?_
   refine Nt ?_
   refine cF rfl ?_
   refine skN ?_
   refine Nb ?_
   refine drN .head ?_
   refine fun a w hA hw => ⟨_, _, _, hA.sub ?_, le_2, hw, _, rfl, rfl, rfl⟩
   exact (.cons rfl (.cons rfl (.cons rfl (.cons rfl (.nil _)))))
 ·
  obtain ⟨rfl, rfl⟩ := hI
  subst hF_4
  refine toWp ?_
  refine sr ?_
  refine asg rfl rfl ?_
  refine nl ?_
  refine drW .head ?_
  exact rT rfl rfl le_3 (fun _ _ h => h) ⟨rfl, rfl⟩
end Go.Sx

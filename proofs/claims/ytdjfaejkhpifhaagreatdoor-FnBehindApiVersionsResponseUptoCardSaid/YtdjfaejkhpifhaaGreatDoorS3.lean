import Derived.Test.YtdjfaejkhpifhaaGreatDoorLibD
import Derived.Test.YtdjfaejkhpifhaaGreatDoorS2
import Derived.KernelRfl
set_option linter.unusedVariables false
set_option linter.unusedSimpArgs false
set_option maxRecDepth 100000
set_option maxHeartbeats 20000000
namespace Go.Sx
open Go.Proofs
theorem s_write {H : Fz} {L : Own} {a : Option Addr} {c0 : Nat} {c : TC} {m : Msg} {ver : Int} {t : Tr} (hF : FdsAt H a m.fields) (hT : TreeAt H c t) (hb : (m.write ver t).length ≤ B46) :
  Fn Tryz.prog 9 [.agg #[.slice a m.fields.length c0, .int .i64 m.flex], .int .i64 ver, .agg (c.cells t).toArray] H L (fun v H' L' => OutB 5 L (m.write ver t) v L') := by
 refine Fn.mk Tryz.call9 Tryz.func9 rfl Tryz.ntmps9 rfl ?_
 refine sr ?_
 refine bx rfl rfl rfl (fun b_1 => ?_)
 refine bx rfl rfl rfl (fun b_2 => ?_)
 refine asg rfl rfl ?_
 refine nl ?_
 refine sr ?_
 refine fa0 F31_0 rfl rfl ?_
 refine ld (Says.own (.tail .head)) Tryz.isAgg29 rfl (Nat.zero_add _).symm rfl rfl ?_
 refine mv rfl rfl ?_
 refine fa0 F31_1 rfl rfl ?_
 refine ld (Says.own (.tail .head)) Tryz.isAgg3 rfl (Nat.zero_add _).symm rfl rfl ?_
 refine ge rfl rfl rfl ?_
 refine mv rfl rfl ?_
 refine spl (t := 13) rfl (fun h13 => ?_) (fun h13 => ?_)
 ·
  refine gr rfl rfl ?_
  refine mv rfl rfl ?_
  refine gr rfl rfl ?_
  refine fa0 F31_1 rfl rfl ?_
  refine gr rfl rfl ?_
  refine ld (Says.own (.tail .head)) Tryz.isAgg3 rfl (Nat.zero_add _).symm rfl rfl ?_
  refine gr rfl rfl ?_
  refine ge rfl rfl rfl ?_
  refine pk rfl rfl rfl rfl ?_
  refine la (Says.own .head) Tryz.isAgg26 Tryz.sizeOf26 rfl (Nat.zero_add _).symm rfl rfl ?_
  have ef : m.flexible ver = decide (m.flex ≤ ver) := by unfold Msg.flexible; simp [h13]
  have hb2 : (partB m.fields ver (decide (m.flex ≤ ver)) t).length ≤ B46 := by rw [← ef]; exact hb
  refine cl rfl rfl rfl (s_part _ _ _ hF hT hb2) rfl (fun v H1 L1 le_3 hR => ?_)
  obtain ⟨a20, c20, N20, rfl, rfl, h20⟩ := hR
  refine asg rfl rfl ?_
  refine nl ?_
  refine drW (.tail .head) ?_
  refine drW (.tail .head) ?_
  exact rT rfl rfl le_3 (fun _ _ h => h) (OutB.of h20.1 (by unfold Msg.write; rw [ef]))
 ·
  refine gs rfl rfl rfl rfl ?_
  refine gs rfl rfl rfl rfl ?_
  refine gs rfl rfl rfl rfl ?_
  refine gs rfl rfl rfl rfl ?_
  refine pk rfl rfl rfl rfl ?_
  refine la (Says.own .head) Tryz.isAgg26 Tryz.sizeOf26 rfl (Nat.zero_add _).symm rfl rfl ?_
  have ef : m.flexible ver = false := by unfold Msg.flexible; simp [h13]
  have hb2 : (partB m.fields ver (false) t).length ≤ B46 := by rw [← ef]; exact hb
  refine cl rfl rfl rfl (s_part _ _ _ hF hT hb2) rfl (fun v H1 L1 le_4 hR => ?_)
  obtain ⟨a20, c20, N20, rfl, rfl, h20⟩ := hR
  refine asg rfl rfl ?_
  refine nl ?_
  refine drW (.tail .head) ?_
  refine drW (.tail .head) ?_
  exact rT rfl rfl le_4 (fun _ _ h => h) (OutB.of h20.1 (by unfold Msg.write; rw [ef]))
end Go.Sx

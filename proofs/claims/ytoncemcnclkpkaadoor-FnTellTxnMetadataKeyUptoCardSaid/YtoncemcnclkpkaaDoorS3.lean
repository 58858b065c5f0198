import Derived.Test.YtoncemcnclkpkaaDoorLibD
import Derived.Test.YtoncemcnclkpkaaDoorS2
import Derived.KernelRfl
set_option linter.unusedVariables false
set_option linter.unusedSimpArgs false
set_option maxRecDepth 100000
set_option maxHeartbeats 20000000
namespace Go.Sx
open Go.Proofs
theorem s_write {H : Fz} {L : Own} {a : Option Addr} {c0 : Nat} {c : TC} {m : Msg} {ver : Int} {t : Tr} (hF : FdsAt H a m.fields) (hT : TreeAt H c t) (hb : (m.write ver t).length ≤ B46) :
    Fn Tryd.prog 15 [.agg #[.slice a m.fields.length c0, .int .i64 m.flex], .int .i64 ver, .agg (c.cells t).toArray] H L (fun v H' L' => OutB 5 L (m.write ver t) v L') := by
  refine Fn.mk Tryd.call15 Tryd.func15 rfl Tryd.ntmps15 rfl ?_
  refine sr ?_
  refine bx rfl rfl rfl (fun b_1 => ?_)
  refine bx rfl rfl rfl (fun b_2 => ?_)
  refine asg rfl rfl ?_
  refine nl ?_
  refine sr ?_
  refine fa0 F31_0 rfl rfl ?_
  refine ld (Says.own (.tail .head)) Tryd.isAgg29 rfl (Nat.zero_add _).symm rfl rfl ?_
  refine mv rfl rfl ?_
  refine fa0 F31_1 rfl rfl ?_
  refine ld (Says.own (.tail .head)) Tryd.isAgg3 rfl (Nat.zero_add _).symm rfl rfl ?_
  refine ge rfl rfl rfl ?_
  refine mv rfl rfl ?_
  refine spl (t := 13) rfl (fun h13 => ?_) (fun h13 => ?_)
  · skip
    refine gr rfl rfl ?_
    refine mv rfl rfl ?_
    refine gr rfl rfl ?_
    refine fa0 F31_1 rfl rfl ?_
    refine gr rfl rfl ?_
    refine ld (Says.own (.tail .head)) Tryd.isAgg3 rfl (Nat.zero_add _).symm rfl rfl ?_
    refine gr rfl rfl ?_
    refine ge rfl rfl rfl ?_
    refine pk rfl rfl rfl rfl ?_
    refine la (Says.own .head) Tryd.isAgg26 Tryd.sizeOf26 rfl (Nat.zero_add _).symm rfl rfl ?_
    have ef : m.flexible ver = decide (m.flex ≤ ver) := by unfold Msg.flexible; simp [h13]
    have hb2 : (partB m.fields ver (decide (m.flex ≤ ver)) t).length ≤ B46 := by rw [← ef]; exact hb
    refine cl rfl rfl rfl (s_part _ _ _ hF hT hb2) rfl (fun v H1 L1 le_3 hR => ?_)
    obtain ⟨a20, c20, N20, rfl, rfl, h20⟩ := hR
    refine asg rfl rfl ?_
    refine nl ?_
    refine drW (.tail .head) ?_
    refine drW (.tail .head) ?_
    exact rT rfl rfl le_3 (fun _ _ h => h) (OutB.of h20.1 (by unfold Msg.write; rw [ef]))
  · skip
    refine gs rfl rfl rfl rfl ?_
    refine gs rfl rfl rfl rfl ?_
    refine gs rfl rfl rfl rfl ?_
    refine gs rfl rfl rfl rfl ?_
    refine pk rfl rfl rfl rfl ?_
    refine la (Says.own .head) Tryd.isAgg26 Tryd.sizeOf26 rfl (Nat.zero_add _).symm rfl rfl ?_
    have ef : m.flexible ver = false := by unfold Msg.flexible; simp [h13]
    have hb2 : (partB m.fields ver (false) t).length ≤ B46 := by rw [← ef]; exact hb
    refine cl rfl rfl rfl (s_part _ _ _ hF hT hb2) rfl (fun v H1 L1 le_4 hR => ?_)
    obtain ⟨a20, c20, N20, rfl, rfl, h20⟩ := hR
    refine asg rfl rfl ?_
    refine nl ?_
    refine drW (.tail .head) ?_
    refine drW (.tail .head) ?_
    exact rT rfl rfl le_4 (fun _ _ h => h) (OutB.of h20.1 (by unfold Msg.write; rw [ef]))
theorem s_kept {H : Fz} {L : Own} {a : Option Addr} {c0 : Nat} {c : TC} {m : Msg} {ver : Int} {t : Tr} (hF : FdsAt H a m.fields) (hT : TreeAt H c t) (hb : (m.kept ver t).length ≤ B46) :
    Fn Tryd.prog 36 [.agg #[.slice a m.fields.length c0, .int .i64 m.flex], .int .i64 ver, .agg (c.cells t).toArray] H L (fun v H' L' => OutB 5 L (m.kept ver t) v L') := by
  refine Fn.mk Tryd.call36 Tryd.func36 rfl Tryd.ntmps36 rfl ?_
  refine sr ?_
  refine bx rfl rfl rfl (fun b_1 => ?_)
  refine bx rfl rfl rfl (fun b_2 => ?_)
  refine asg rfl rfl ?_
  refine nl ?_
  refine sq ?_
  refine rgD 8 (.keep (.keep .nil)) mixed ?_
  refine dT 0 rfl rfl rfl (by kernel_rfl) (fun _ _ _ h => h) (y_mv rfl) (.keep (.keep .nil)) (Fz.le.refl _) ?_
  refine dT 2 rfl rfl rfl (by kernel_rfl) (fun _ _ _ h => h) (y_la (Says.own (.tail .head)) Tryd.isAgg31 Tryd.sizeOf31 rfl (Nat.zero_add _).symm rfl) (.keep (.keep .nil)) (Fz.le.refl _) ?_
  refine dT 3 rfl rfl rfl (by kernel_rfl) (fun _ _ _ h => h) (y_mv rfl) (.keep (.keep .nil)) (Fz.le.refl _) ?_
  refine dT 4 rfl rfl rfl (by kernel_rfl) (fun _ _ _ h => h) (y_la (Says.own .head) Tryd.isAgg26 Tryd.sizeOf26 rfl (Nat.zero_add _).symm rfl) (.keep (.keep .nil)) (Fz.le.refl _) ?_
  refine dE 1 (by kernel_rfl) rfl ?_
  refine cl rfl rfl rfl (s_fixed' (size := 2) (by omega)) rfl (fun v H1 L1 le_3 hR => ?_)
  obtain ⟨rfl, a8, c8, N8, rfl, rfl, h8⟩ := hR
  refine dN (.skip (.keep (.keep .nil))) (Fz.le.refl _) ?_
  refine dE 5 (by kernel_rfl) rfl ?_
  have w2 := fixed_length ver 2; have hb2 : (m.write ver t).length ≤ B46 := by have h := hb; unfold Msg.kept at h; rw [List.length_append] at h; omega
  have hb3 := hb2; unfold B46 at hb3
  refine cl rfl rfl rfl (s_write hF hT hb2) rfl (fun v H1 L1 le_4 hR => ?_)
  obtain ⟨a12, c12, N12, rfl, rfl, h12⟩ := hR
  refine dN (.skip (.skip (.keep (.keep .nil)))) le_4 ?_
  refine dE 6 (by kernel_rfl) rfl ?_
  refine ap (news := bytesOf ((m.write ver t))) Tryd.underlying22 I5 rfl rfl h8.1 (fun _ => (.tail .head)) (src_row Tryd.underlying22 h12.1 .head) (by omega) (by unfold maxLen; omega) rfl (fun a13 c13 N13 r13 z13 => ?_)
  rw [← bytesOf_append] at r13
  refine dN (.skip (.skip (.keep (.keep .nil)))) le_4 ?_
  refine dT 7 rfl rfl rfl (by kernel_rfl) (fun _ _ _ h => h) (y_asg rfl) (.skip (.skip (.keep (.keep .nil)))) le_4 ?_
  refine dD (by kernel_rfl) ?_
  refine Nt ?_
  refine drW .head ?_
  refine drW (.tail .head) ?_
  refine drW (.tail .head) ?_
  exact rT rfl rfl le_4 (fun _ _ h => h) (OutB.of r13 rfl)
end Go.Sx

import Derived.Test.YthegbjcccjpbcaaGreatDoorS3
import Derived.Test.YthegbjcccjpbcaaGreatDoorTolW
import Derived.Test.YthegbjcccjpbcaaGreatDoorLibI
import Derived.KernelRfl
set_option linter.unusedVariables false
set_option linter.unusedSimpArgs false
set_option maxRecDepth 100000
set_option maxHeartbeats 20000000
namespace Go.Sx
open Go.Proofs
theorem u16_64i (x : Int) : IntKind.i64.wrap (IntKind.u16.wrap x) = IntKind.u16.wrap x := by rw [wrap16u]; exact w64 (by omega) (by omega)
theorem s_number {H : Fz} {L : Own} {k n : Int} :
  Fn Tryz.prog 47 [.int .i64 k, .int .i64 n] H L (fun v H' L' => H = H' ∧ L = L' ∧ v = .int .i64 (numK k n)) := by
 refine Fn.mk Tryz.call47 Tryz.func47 rfl Tryz.ntmps47 rfl ?_
 refine sr ?_
 refine asg rfl rfl ?_
 refine nl ?_
 refine sq ?_
 refine sr ?_
 refine mv rfl rfl ?_
 refine nl ?_
 refine bl ?_
 refine sr ?_
 refine eq' rfl rfl rfl ?_
 refine asg rfl rfl ?_
 refine nl ?_
 refine cdU rfl (fun h6 => ?_) (fun h6 => ?_)
 ·
  refine sr ?_
  refine mv rfl rfl ?_
  refine an rfl rfl (and1_i64 _) rfl ?_
  refine asg rfl rfl ?_
  refine nl ?_
  exact rT rfl rfl ler (fun _ _ h => h) ⟨rfl, rfl, by unfold numK; rw [if_pos h6]⟩
 ·
  refine sr ?_
  refine eq' rfl rfl rfl ?_
  refine asg rfl rfl ?_
  refine nl ?_
  refine cdU rfl (fun h10 => ?_) (fun h10 => ?_)
  ·
   refine sr ?_
   refine mv rfl rfl ?_
   refine cv Tryz.runUnderlying2 Tryz.runUnderlying126 rfl rfl rfl ?_
   refine cv Tryz.runUnderlying126 Tryz.runUnderlying2 rfl (i8_64 _) rfl ?_
   refine asg rfl rfl ?_
   refine nl ?_
   exact rT rfl rfl ler (fun _ _ h => h) ⟨rfl, rfl, by unfold numK; rw [if_neg h6, if_pos h10]⟩
  ·
   refine sr ?_
   refine eq' rfl rfl rfl ?_
   refine asg rfl rfl ?_
   refine nl ?_
   refine cdU rfl (fun h15 => ?_) (fun h15 => ?_)
   ·
    refine sr ?_
    refine mv rfl rfl ?_
    refine cv Tryz.runUnderlying2 Tryz.runUnderlying46 rfl rfl rfl ?_
    refine cv Tryz.runUnderlying46 Tryz.runUnderlying2 rfl (i16_64 _) rfl ?_
    refine asg rfl rfl ?_
    refine nl ?_
    exact rT rfl rfl ler (fun _ _ h => h) ⟨rfl, rfl, by unfold numK; rw [if_neg h6, if_neg h10, if_pos h15]⟩
   ·
    refine sr ?_
    refine eq' rfl rfl rfl ?_
    refine asg rfl rfl ?_
    refine nl ?_
    refine cdU rfl (fun h20 => ?_) (fun h20 => ?_)
    ·
     refine sr ?_
     refine mv rfl rfl ?_
     refine cv Tryz.runUnderlying2 Tryz.runUnderlying21 rfl rfl rfl ?_
     refine cv Tryz.runUnderlying21 Tryz.runUnderlying2 rfl (i32_64 _) rfl ?_
     refine asg rfl rfl ?_
     refine nl ?_
     exact rT rfl rfl ler (fun _ _ h => h) ⟨rfl, rfl, by unfold numK; rw [if_neg h6, if_neg h10, if_neg h15, if_pos h20]⟩
    ·
     refine sr ?_
     refine eq' rfl rfl rfl ?_
     refine asg rfl rfl ?_
     refine nl ?_
     refine cdU rfl (fun h25 => ?_) (fun h25 => ?_)
     ·
      refine sr ?_
      refine mv rfl rfl ?_
      refine cv Tryz.runUnderlying2 Tryz.runUnderlying127 rfl rfl rfl ?_
      refine cv Tryz.runUnderlying127 Tryz.runUnderlying2 rfl (u16_64i _) rfl ?_
      refine asg rfl rfl ?_
      refine nl ?_
      exact rT rfl rfl ler (fun _ _ h => h) ⟨rfl, rfl, by unfold numK; rw [if_neg h6, if_neg h10, if_neg h15, if_neg h20, if_pos h25]⟩
     ·
      refine skN ?_
      refine Nb ?_
      refine Nt ?_
      refine sr ?_
      refine mv rfl rfl ?_
      refine asg rfl rfl ?_
      refine nl ?_
      exact rT rfl rfl ler (fun _ _ h => h) ⟨rfl, rfl, by unfold numK; rw [if_neg h6, if_neg h10, if_neg h15, if_neg h20, if_neg h25]⟩
theorem s_flexible {H : Fz} {L : Own} {a : Option Addr} {c0 k : Nat} {m : Msg} {ver : Int} :
  Fn Tryz.prog 11 [.agg #[.slice a k c0, .int .i64 m.flex], .int .i64 ver] H L (fun r H' L' => H = H' ∧ L = L' ∧ r = .bool (m.flexible ver)) := by
 refine Fn.mk Tryz.call11 Tryz.func11 rfl Tryz.ntmps11 rfl ?_
 refine sr ?_
 refine bx rfl rfl rfl (fun b_1 => ?_)
 refine asg rfl rfl ?_
 refine nl ?_
 refine sr ?_
 refine fa0 F31_1 rfl rfl ?_
 refine ld (Says.own .head) Tryz.isAgg3 rfl (Nat.zero_add _).symm rfl rfl ?_
 refine ge rfl rfl rfl ?_
 refine mv rfl rfl ?_
 refine spl (t := 8) rfl (fun h8 => ?_) (fun h8 => ?_)
 ·
  refine gr rfl rfl ?_
  refine mv rfl rfl ?_
  refine gr rfl rfl ?_
  refine fa0 F31_1 rfl rfl ?_
  refine gr rfl rfl ?_
  refine ld (Says.own .head) Tryz.isAgg3 rfl (Nat.zero_add _).symm rfl rfl ?_
  refine gr rfl rfl ?_
  refine ge rfl rfl rfl ?_
  refine pkT rfl rfl rfl rfl ?_
  refine asg rfl rfl ?_
  refine nl ?_
  refine drW .head ?_
  exact rT rfl rfl ler (fun _ _ h => h) ⟨rfl, rfl, by unfold Msg.flexible; simp [h8]⟩
 ·
  refine gs rfl rfl rfl rfl ?_
  refine gs rfl rfl rfl rfl ?_
  refine gs rfl rfl rfl rfl ?_
  refine gs rfl rfl rfl rfl ?_
  refine pkF rfl rfl rfl rfl ?_
  refine asg rfl rfl ?_
  refine nl ?_
  refine drW .head ?_
  exact rT rfl rfl ler (fun _ _ h => h) ⟨rfl, rfl, by unfold Msg.flexible; simp [h8]⟩
end Go.Sx

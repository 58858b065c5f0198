import Derived.Test.YtbmkefmfhmbenaaBUnregisterBrokerRequest
import Derived.KernelRfl
set_option linter.unusedVariables false
set_option linter.unusedSimpArgs false
set_option maxRecDepth 100000
set_option maxHeartbeats 20000000
namespace Go.Sx
open Go.Proofs
theorem app_UnregisterBrokerRequest_t {H : Fz} {L : Own} {a : Option Addr} {cap b : Nat} {D : List UInt8} {N : Chunk} {cs : List Value} {T : Tr} {v : Int} (hr : Row 5 1 a D.length cap (bytesOf D) N) (hv : H.at b 0 cs) (hA : At_UnregisterBrokerRequest v H T cs) (hok : OkP fs_UnregisterBrokerRequest v T) (h0 : 0 ≤ v) (h1 : v ≤ 0) (hb : D.length + (partB fs_UnregisterBrokerRequest v true T).length ≤ LIM) :
    Fn Try.prog 49 [.pointer (some ⟨b, 0, none⟩), .slice a D.length cap] H (N :: L) (fun r H' L' => OutB 5 L (D ++ partB fs_UnregisterBrokerRequest v true T) r L') := by
  obtain ⟨mt, rfl, hf0⟩ := hA
  refine Fn.mk Try.call49 Try.func49 rfl Try.ntmps49 rfl ?_
  refine sr ?_
  refine asg rfl rfl ?_
  refine nl ?_
  refine sr ?_
  refine mv rfl rfl ?_
  refine nc rfl rfl ?_
  refine fa0 F80_0 rfl rfl ?_
  refine ld (Says.fz hv) Try.isAgg45 rfl (Nat.zero_add _).symm rfl rfl ?_
  refine asg rfl rfl ?_
  refine nl ?_
  refine sr ?_
  refine mv rfl rfl ?_
  refine nl ?_
  refine sr ?_
  refine mv rfl rfl ?_
  refine ge rfl rfl rfl ?_
  refine asg rfl rfl ?_
  refine nl ?_
  refine sr ?_
  refine mv rfl rfl ?_
  refine nl ?_
  refine sq ?_
  refine sr ?_
  refine mv rfl rfl ?_
  refine nc rfl rfl ?_
  refine fa0 F80_1 rfl rfl ?_
  refine ld (Says.fz hv) Try.isAgg21 rfl (Nat.zero_add _).symm rfl rfl ?_
  refine asg rfl rfl ?_
  refine nl ?_
  refine rg ?_
  refine mv rfl rfl ?_
  refine mv rfl rfl ?_
  have ok22 := hok.get 0 (by decide) (has_yes (show (0 : Int) ≤ v by omega) (show ((-1) : Int) < 0 ∨ v ≤ (-1) by omega))
  have e_1 : D ++ (fixed (IntKind.i32.wrap (T.at 0).n) 4) = D ++ plainTo (zipped fs_UnregisterBrokerRequest v true T) v 1 := fold_first (fs := fs_UnregisterBrokerRequest) (v := v) (flex := true) (t := T) (B := D) 0 rfl (by decide) (by decide) (has_yes (show (0 : Int) ≤ v by omega) (show ((-1) : Int) < 0 ∨ v ≤ (-1) by omega)) ((FB_int (f := (fs_UnregisterBrokerRequest[0]'(by decide))) (by decide) (by decide)).trans (fixed_i32 _).symm)
  have hs22 := fold_size e_1 (by decide) hb
  refine cl rfl rfl rfl (OutK.cast (k_AppendInt32 (u := IntKind.i32.wrap (T.at 0).n) hr hs22) e_1) rfl (fun v_ H1 L1 hle hR => ?_)
  obtain ⟨rfl, a22, c22, N22, rfl, rfl, h22⟩ := hR
  have r22 := h22.1
  refine asg rfl rfl ?_
  refine nl ?_
  refine sq ?_
  refine sr ?_
  refine mv rfl rfl ?_
  refine nl ?_
  refine cdT rfl (by omega) ?_
  refine sr ?_
  refine mv rfl rfl ?_
  refine mv rfl rfl ?_
  refine nc rfl rfl ?_
  refine fa0 F80_2 rfl rfl ?_
  refine cl rfl rfl rfl (t_lenU (j := 2) hv rfl hf0) rfl (fun v_ H1 L1 hle hR => ?_)
  obtain ⟨rfl, rfl, rfl⟩ := hR
  have hu28 := hok.u
  have hul28 := hu28.2.1
  obtain ⟨hz28a, hz28b⟩ := part_size_plain (by decide) hu28 hb
  refine cv Try.runUnderlying3 Try.runUnderlying58 rfl (w32u (by omega) (by omega)) rfl ?_
  refine ad rfl rfl ((w32u (by omega) (by omega)).trans (Int.zero_add _)) rfl ?_
  refine cl rfl rfl rfl (k_AppendUvarint (n := T.u.length) (by omega) r22 hz28a) rfl (fun v_ H1 L1 hle hR => ?_)
  obtain ⟨rfl, a31, c31, N31, rfl, rfl, h31⟩ := hR
  have r31 := h31.1
  refine asg rfl rfl ?_
  refine nl ?_
  refine rg ?_
  refine mv rfl rfl ?_
  refine nc rfl rfl ?_
  refine fa0 F80_2 rfl rfl ?_
  refine mv rfl rfl ?_
  refine cl rfl rfl rfl (t_append_each (j := 2) hv rfl hf0 (by omega) r31 (fun p hp => by have := hu28.2.2 p hp; omega) hz28b) rfl (fun v_ H1 L1 le_2 hR => ?_)
  obtain ⟨a36, c36, N36, rfl, rfl, h36⟩ := hR
  have r36 := h36.1
  have eP_3 : D ++ plainTo (zipped fs_UnregisterBrokerRequest v true T) v 1 ++ uvar T.u.length ++ T.u.flatMap tagU = D ++ partB fs_UnregisterBrokerRequest v true T := part_close (B := D) (by decide) hu28
  rw [eP_3] at r36 ⊢
  refine asg rfl rfl ?_
  refine nl ?_
  refine sr ?_
  refine mv rfl rfl ?_
  refine asg rfl rfl ?_
  refine nl ?_
  exact rT rfl rfl le_2 (fun _ _ h => h) (OutB.of r36 rfl)
end Go.Sx

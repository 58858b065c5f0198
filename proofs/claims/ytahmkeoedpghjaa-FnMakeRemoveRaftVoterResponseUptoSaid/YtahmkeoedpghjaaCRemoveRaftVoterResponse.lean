import Derived.Test.YtahmkeoedpghjaaBRemoveRaftVoterResponse
import Derived.KernelRfl
set_option linter.unusedVariables false
set_option linter.unusedSimpArgs false
set_option maxRecDepth 100000
set_option maxHeartbeats 20000000
namespace Go.Sx
open Go.Proofs
theorem app_RemoveRaftVoterResponse_t {H : Fz} {L : Own} {a : Option Addr} {cap b : Nat} {D : List UInt8} {N : Chunk} {cs : List Value} {T : Tr} {v : Int} (hr : Row 5 1 a D.length cap (bytesOf D) N) (hv : H.at b 0 cs) (hA : At_RemoveRaftVoterResponse v H T cs) (hok : OkP fs_RemoveRaftVoterResponse v T) (h0 : 0 ≤ v) (h1 : v ≤ 0) (hb : D.length + (partB fs_RemoveRaftVoterResponse v true T).length ≤ LIM) :
    Fn Try.prog 58 [.pointer (some ⟨b, 0, none⟩), .slice a D.length cap] H (N :: L) (fun r H' L' => OutB 5 L (D ++ partB fs_RemoveRaftVoterResponse v true T) r L') := by
  obtain ⟨p2, mt, rfl, hf0, hf1⟩ := hA
  refine Fn.mk Try.call58 Try.func58 rfl Try.ntmps58 rfl ?_
  refine sr ?_
  refine asg rfl rfl ?_
  refine nl ?_
  refine sr ?_
  refine mv rfl rfl ?_
  refine nc rfl rfl ?_
  refine fa0 F56_0 rfl rfl ?_
  refine ld (Says.fz hv) Try.isAgg45 rfl (Nat.zero_add _).symm rfl rfl ?_
  refine asg rfl rfl ?_
  refine nl ?_
  refine sr ?_
  refine mv rfl rfl ?_
  refine nl ?_
  refine sr ?_
  refine mv rfl rfl ?_
  refine ge rfl rfl rfl ?_
  refine asg rfl rfl ?_
  refine nl ?_
  refine sr ?_
  refine mv rfl rfl ?_
  refine nl ?_
  refine sq ?_
  refine sr ?_
  refine mv rfl rfl ?_
  refine nc rfl rfl ?_
  refine fa0 F56_1 rfl rfl ?_
  refine ld (Says.fz hv) Try.isAgg21 rfl (Nat.zero_add _).symm rfl rfl ?_
  refine asg rfl rfl ?_
  refine nl ?_
  refine rg ?_
  refine mv rfl rfl ?_
  refine mv rfl rfl ?_
  have ok24 := hok.get 0 (by decide) (has_yes (show (0 : Int) ≤ v by omega) (show ((-1) : Int) < 0 ∨ v ≤ (-1) by omega))
  have e_1 : D ++ (fixed (IntKind.i32.wrap (T.at 0).n) 4) = D ++ plainTo (zipped fs_RemoveRaftVoterResponse v true T) v 1 := fold_first (fs := fs_RemoveRaftVoterResponse) (v := v) (flex := true) (t := T) (B := D) 0 rfl (by decide) (by decide) (has_yes (show (0 : Int) ≤ v by omega) (show ((-1) : Int) < 0 ∨ v ≤ (-1) by omega)) ((FB_int (f := (fs_RemoveRaftVoterResponse[0]'(by decide))) (by decide) (by decide)).trans (fixed_i32 _).symm)
  have hs24 := fold_size e_1 (by decide) hb
  refine cl rfl rfl rfl (OutK.cast (k_AppendInt32 (u := IntKind.i32.wrap (T.at 0).n) hr hs24) e_1) rfl (fun v_ H1 L1 hle hR => ?_)
  obtain ⟨rfl, a24, c24, N24, rfl, rfl, h24⟩ := hR
  have r24 := h24.1
  refine asg rfl rfl ?_
  refine nl ?_
  refine sq ?_
  refine sr ?_
  refine mv rfl rfl ?_
  refine nc rfl rfl ?_
  refine fa0 F56_2 rfl rfl ?_
  refine ld (Says.fz hv) Try.isAgg45 rfl (Nat.zero_add _).symm rfl rfl ?_
  refine asg rfl rfl ?_
  refine nl ?_
  refine rg ?_
  refine mv rfl rfl ?_
  refine mv rfl rfl ?_
  have ok31 := hok.get 1 (by decide) (has_yes (show (0 : Int) ≤ v by omega) (show ((-1) : Int) < 0 ∨ v ≤ (-1) by omega))
  have e_2 : D ++ plainTo (zipped fs_RemoveRaftVoterResponse v true T) v 1 ++ (fixed (IntKind.i16.wrap (T.at 1).n) 2) = D ++ plainTo (zipped fs_RemoveRaftVoterResponse v true T) v 2 := fold_yes (fs := fs_RemoveRaftVoterResponse) (v := v) (flex := true) (t := T) (B := D) 1 (by decide) (by decide) (has_yes (show (0 : Int) ≤ v by omega) (show ((-1) : Int) < 0 ∨ v ≤ (-1) by omega)) ((FB_int (f := (fs_RemoveRaftVoterResponse[1]'(by decide))) (by decide) (by decide)).trans (fixed_i16 _).symm)
  have hs31 := fold_size e_2 (by decide) hb
  refine cl rfl rfl rfl (OutK.cast (k_AppendInt16 (u := IntKind.i16.wrap (T.at 1).n) r24 hs31) e_2) rfl (fun v_ H1 L1 hle hR => ?_)
  obtain ⟨rfl, a31, c31, N31, rfl, rfl, h31⟩ := hR
  have r31 := h31.1
  refine asg rfl rfl ?_
  refine nl ?_
  refine sq ?_
  refine sr ?_
  refine mv rfl rfl ?_
  refine nc rfl rfl ?_
  refine fa0 F56_3 rfl rfl ?_
  refine ld (Says.fz hv) Try.isAgg51 rfl (Nat.zero_add _).symm rfl rfl ?_
  refine asg rfl rfl ?_
  refine nl ?_
  refine sr ?_
  refine mv rfl rfl ?_
  refine nl ?_
  refine cdT rfl (by omega) ?_
  refine rg ?_
  refine mv rfl rfl ?_
  refine mv rfl rfl ?_
  have ok39 := hok.get 2 (by decide) (has_yes (show (0 : Int) ≤ v by omega) (show ((-1) : Int) < 0 ∨ v ≤ (-1) by omega))
  have e_3 : D ++ plainTo (zipped fs_RemoveRaftVoterResponse v true T) v 2 ++ (counted true (T.at 2).nul (sT (T.at 2)).length 2 ++ sT (T.at 2)) = D ++ plainTo (zipped fs_RemoveRaftVoterResponse v true T) v 3 := fold_yes (fs := fs_RemoveRaftVoterResponse) (v := v) (flex := true) (t := T) (B := D) 2 (by decide) (by decide) (has_yes (show (0 : Int) ≤ v by omega) (show ((-1) : Int) < 0 ∨ v ≤ (-1) by omega)) (FB_text (f := (fs_RemoveRaftVoterResponse[2]'(by decide))) (by decide) (by decide) ok39)
  have hs39 := fold_size e_3 (by decide) hb
  refine cl rfl rfl rfl (OutK.cast (k_AppendCompactNullableString hf0 (ok39.s (Or.inl rfl)) r31 hs39) e_3) rfl (fun v_ H1 L1 hle hR => ?_)
  obtain ⟨rfl, a39, c39, N39, rfl, rfl, h39⟩ := hR
  have r39 := h39.1
  refine asg rfl rfl ?_
  refine nl ?_
  refine sq ?_
  refine sr ?_
  refine mv rfl rfl ?_
  refine nl ?_
  refine cdT rfl (by omega) ?_
  refine sr ?_
  refine mv rfl rfl ?_
  refine mv rfl rfl ?_
  refine nc rfl rfl ?_
  refine fa0 F56_4 rfl rfl ?_
  refine cl rfl rfl rfl (t_lenU (j := 4) hv rfl hf1) rfl (fun v_ H1 L1 hle hR => ?_)
  obtain ⟨rfl, rfl, rfl⟩ := hR
  have hu48 := hok.u
  have hul48 := hu48.2.1
  obtain ⟨hz48a, hz48b⟩ := part_size_plain (by decide) hu48 hb
  refine cv Try.runUnderlying3 Try.runUnderlying60 rfl (w32u (by omega) (by omega)) rfl ?_
  refine ad rfl rfl ((w32u (by omega) (by omega)).trans (Int.zero_add _)) rfl ?_
  refine cl rfl rfl rfl (k_AppendUvarint (n := T.u.length) (by omega) r39 hz48a) rfl (fun v_ H1 L1 hle hR => ?_)
  obtain ⟨rfl, a51, c51, N51, rfl, rfl, h51⟩ := hR
  have r51 := h51.1
  refine asg rfl rfl ?_
  refine nl ?_
  refine rg ?_
  refine mv rfl rfl ?_
  refine nc rfl rfl ?_
  refine fa0 F56_4 rfl rfl ?_
  refine mv rfl rfl ?_
  refine cl rfl rfl rfl (t_append_each (j := 4) hv rfl hf1 (by omega) r51 (fun p hp => by have := hu48.2.2 p hp; omega) hz48b) rfl (fun v_ H1 L1 le_4 hR => ?_)
  obtain ⟨a56, c56, N56, rfl, rfl, h56⟩ := hR
  have r56 := h56.1
  have eP_5 : D ++ plainTo (zipped fs_RemoveRaftVoterResponse v true T) v 3 ++ uvar T.u.length ++ T.u.flatMap tagU = D ++ partB fs_RemoveRaftVoterResponse v true T := part_close (B := D) (by decide) hu48
  rw [eP_5] at r56 ⊢
  refine asg rfl rfl ?_
  refine nl ?_
  refine sr ?_
  refine mv rfl rfl ?_
  refine asg rfl rfl ?_
  refine nl ?_
  exact rT rfl rfl le_4 (fun _ _ h => h) (OutB.of r56 rfl)
end Go.Sx

import Derived.Test.YtbmkefmfhmbenaaBInitProducerIDResponse
import Derived.KernelRfl
set_option linter.unusedVariables false
set_option linter.unusedSimpArgs false
set_option maxRecDepth 100000
set_option maxHeartbeats 20000000
namespace Go.Sx
open Go.Proofs
theorem app_InitProducerIDResponse_f {H : Fz} {L : Own} {a : Option Addr} {cap b : Nat} {D : List UInt8} {N : Chunk} {cs : List Value} {T : Tr} {v : Int} (hr : Row 5 1 a D.length cap (bytesOf D) N) (hv : H.at b 0 cs) (hA : At_InitProducerIDResponse v H T cs) (hok : OkP fs_InitProducerIDResponse v T) (h0 : 0 ≤ v) (h1 : v ≤ 1) (hb : D.length + (partB fs_InitProducerIDResponse v false T).length ≤ LIM) :
    Fn Try.prog 54 [.pointer (some ⟨b, 0, none⟩), .slice a D.length cap] H (N :: L) (fun r H' L' => OutB 5 L (D ++ partB fs_InitProducerIDResponse v false T) r L') := by
  obtain ⟨mt, rfl, hf0⟩ := hA
  refine Fn.mk Try.call54 Try.func54 rfl Try.ntmps54 rfl ?_
  refine sr ?_
  refine asg rfl rfl ?_
  refine nl ?_
  refine sr ?_
  refine mv rfl rfl ?_
  refine nc rfl rfl ?_
  refine fa0 F85_0 rfl rfl ?_
  refine ld (Says.fz hv) Try.isAgg45 rfl (Nat.zero_add _).symm rfl rfl ?_
  refine asg rfl rfl ?_
  refine nl ?_
  refine sr ?_
  refine mv rfl rfl ?_
  refine nl ?_
  refine sr ?_
  refine mv rfl rfl ?_
  refine ge rfl rfl rfl ?_
  refine asg rfl rfl ?_
  refine nl ?_
  refine sr ?_
  refine mv rfl rfl ?_
  refine nl ?_
  refine sq ?_
  refine sr ?_
  refine mv rfl rfl ?_
  refine nc rfl rfl ?_
  refine fa0 F85_1 rfl rfl ?_
  refine ld (Says.fz hv) Try.isAgg21 rfl (Nat.zero_add _).symm rfl rfl ?_
  refine asg rfl rfl ?_
  refine nl ?_
  refine rg ?_
  refine mv rfl rfl ?_
  refine mv rfl rfl ?_
  have ok25 := hok.get 0 (by decide) (has_yes (show (0 : Int) ≤ v by omega) (show ((-1) : Int) < 0 ∨ v ≤ (-1) by omega))
  have e_1 : D ++ (fixed (IntKind.i32.wrap (T.at 0).n) 4) = D ++ plainTo (zipped fs_InitProducerIDResponse v false T) v 1 := fold_first (fs := fs_InitProducerIDResponse) (v := v) (flex := false) (t := T) (B := D) 0 rfl (by decide) (by decide) (has_yes (show (0 : Int) ≤ v by omega) (show ((-1) : Int) < 0 ∨ v ≤ (-1) by omega)) ((FB_int (f := (fs_InitProducerIDResponse[0]'(by decide))) (by decide) (by decide)).trans (fixed_i32 _).symm)
  have hs25 := fold_size e_1 (by decide) hb
  refine cl rfl rfl rfl (OutK.cast (k_AppendInt32 (u := IntKind.i32.wrap (T.at 0).n) hr hs25) e_1) rfl (fun v_ H1 L1 hle hR => ?_)
  obtain ⟨rfl, a25, c25, N25, rfl, rfl, h25⟩ := hR
  have r25 := h25.1
  refine asg rfl rfl ?_
  refine nl ?_
  refine sq ?_
  refine sr ?_
  refine mv rfl rfl ?_
  refine nc rfl rfl ?_
  refine fa0 F85_2 rfl rfl ?_
  refine ld (Says.fz hv) Try.isAgg45 rfl (Nat.zero_add _).symm rfl rfl ?_
  refine asg rfl rfl ?_
  refine nl ?_
  refine rg ?_
  refine mv rfl rfl ?_
  refine mv rfl rfl ?_
  have ok32 := hok.get 1 (by decide) (has_yes (show (0 : Int) ≤ v by omega) (show ((-1) : Int) < 0 ∨ v ≤ (-1) by omega))
  have e_2 : D ++ plainTo (zipped fs_InitProducerIDResponse v false T) v 1 ++ (fixed (IntKind.i16.wrap (T.at 1).n) 2) = D ++ plainTo (zipped fs_InitProducerIDResponse v false T) v 2 := fold_yes (fs := fs_InitProducerIDResponse) (v := v) (flex := false) (t := T) (B := D) 1 (by decide) (by decide) (has_yes (show (0 : Int) ≤ v by omega) (show ((-1) : Int) < 0 ∨ v ≤ (-1) by omega)) ((FB_int (f := (fs_InitProducerIDResponse[1]'(by decide))) (by decide) (by decide)).trans (fixed_i16 _).symm)
  have hs32 := fold_size e_2 (by decide) hb
  refine cl rfl rfl rfl (OutK.cast (k_AppendInt16 (u := IntKind.i16.wrap (T.at 1).n) r25 hs32) e_2) rfl (fun v_ H1 L1 hle hR => ?_)
  obtain ⟨rfl, a32, c32, N32, rfl, rfl, h32⟩ := hR
  have r32 := h32.1
  refine asg rfl rfl ?_
  refine nl ?_
  refine sq ?_
  refine sr ?_
  refine mv rfl rfl ?_
  refine nc rfl rfl ?_
  refine fa0 F85_3 rfl rfl ?_
  refine ld (Says.fz hv) Try.isAgg2 rfl (Nat.zero_add _).symm rfl rfl ?_
  refine asg rfl rfl ?_
  refine nl ?_
  refine rg ?_
  refine mv rfl rfl ?_
  refine mv rfl rfl ?_
  have ok39 := hok.get 2 (by decide) (has_yes (show (0 : Int) ≤ v by omega) (show ((-1) : Int) < 0 ∨ v ≤ (-1) by omega))
  have e_3 : D ++ plainTo (zipped fs_InitProducerIDResponse v false T) v 2 ++ (fixed ((T.at 2).n) 8) = D ++ plainTo (zipped fs_InitProducerIDResponse v false T) v 3 := fold_yes (fs := fs_InitProducerIDResponse) (v := v) (flex := false) (t := T) (B := D) 2 (by decide) (by decide) (has_yes (show (0 : Int) ≤ v by omega) (show ((-1) : Int) < 0 ∨ v ≤ (-1) by omega)) ((FB_int (f := (fs_InitProducerIDResponse[2]'(by decide))) (by decide) (by decide)).trans rfl)
  have hs39 := fold_size e_3 (by decide) hb
  refine cl rfl rfl rfl (OutK.cast (k_AppendInt64 (u := (T.at 2).n) r32 hs39) e_3) rfl (fun v_ H1 L1 hle hR => ?_)
  obtain ⟨rfl, a39, c39, N39, rfl, rfl, h39⟩ := hR
  have r39 := h39.1
  refine asg rfl rfl ?_
  refine nl ?_
  refine sq ?_
  refine sr ?_
  refine mv rfl rfl ?_
  refine nc rfl rfl ?_
  refine fa0 F85_4 rfl rfl ?_
  refine ld (Says.fz hv) Try.isAgg45 rfl (Nat.zero_add _).symm rfl rfl ?_
  refine asg rfl rfl ?_
  refine nl ?_
  refine rg ?_
  refine mv rfl rfl ?_
  refine mv rfl rfl ?_
  have ok46 := hok.get 3 (by decide) (has_yes (show (0 : Int) ≤ v by omega) (show ((-1) : Int) < 0 ∨ v ≤ (-1) by omega))
  have e_4 : D ++ plainTo (zipped fs_InitProducerIDResponse v false T) v 3 ++ (fixed (IntKind.i16.wrap (T.at 3).n) 2) = D ++ plainTo (zipped fs_InitProducerIDResponse v false T) v 4 := fold_yes (fs := fs_InitProducerIDResponse) (v := v) (flex := false) (t := T) (B := D) 3 (by decide) (by decide) (has_yes (show (0 : Int) ≤ v by omega) (show ((-1) : Int) < 0 ∨ v ≤ (-1) by omega)) ((FB_int (f := (fs_InitProducerIDResponse[3]'(by decide))) (by decide) (by decide)).trans (fixed_i16 _).symm)
  have hs46 := fold_size e_4 (by decide) hb
  refine cl rfl rfl rfl (OutK.cast (k_AppendInt16 (u := IntKind.i16.wrap (T.at 3).n) r39 hs46) e_4) rfl (fun v_ H1 L1 hle hR => ?_)
  obtain ⟨rfl, a46, c46, N46, rfl, rfl, h46⟩ := hR
  have r46 := h46.1
  refine asg rfl rfl ?_
  refine nl ?_
  refine sq ?_
  refine sr ?_
  refine mv rfl rfl ?_
  refine nl ?_
  refine cdF rfl (by omega) ?_
  refine skt ?_
  refine sr ?_
  refine mv rfl rfl ?_
  refine asg rfl rfl ?_
  refine nl ?_
  have eP_5 : D ++ plainTo (zipped fs_InitProducerIDResponse v false T) v 4 = D ++ partB fs_InitProducerIDResponse v false T := by rw [partB_false]; rfl
  have rp_6 := r46
  rw [eP_5] at rp_6 ⊢
  exact rT rfl rfl (Fz.le.refl _) (fun _ _ h => h) (OutB.of rp_6 rfl)
theorem app_InitProducerIDResponse_t {H : Fz} {L : Own} {a : Option Addr} {cap b : Nat} {D : List UInt8} {N : Chunk} {cs : List Value} {T : Tr} {v : Int} (hr : Row 5 1 a D.length cap (bytesOf D) N) (hv : H.at b 0 cs) (hA : At_InitProducerIDResponse v H T cs) (hok : OkP fs_InitProducerIDResponse v T) (h0 : 2 ≤ v) (h1 : v ≤ 5) (hb : D.length + (partB fs_InitProducerIDResponse v true T).length ≤ LIM) :
    Fn Try.prog 54 [.pointer (some ⟨b, 0, none⟩), .slice a D.length cap] H (N :: L) (fun r H' L' => OutB 5 L (D ++ partB fs_InitProducerIDResponse v true T) r L') := by
  obtain ⟨mt, rfl, hf0⟩ := hA
  refine Fn.mk Try.call54 Try.func54 rfl Try.ntmps54 rfl ?_
  refine sr ?_
  refine asg rfl rfl ?_
  refine nl ?_
  refine sr ?_
  refine mv rfl rfl ?_
  refine nc rfl rfl ?_
  refine fa0 F85_0 rfl rfl ?_
  refine ld (Says.fz hv) Try.isAgg45 rfl (Nat.zero_add _).symm rfl rfl ?_
  refine asg rfl rfl ?_
  refine nl ?_
  refine sr ?_
  refine mv rfl rfl ?_
  refine nl ?_
  refine sr ?_
  refine mv rfl rfl ?_
  refine ge rfl rfl rfl ?_
  refine asg rfl rfl ?_
  refine nl ?_
  refine sr ?_
  refine mv rfl rfl ?_
  refine nl ?_
  refine sq ?_
  refine sr ?_
  refine mv rfl rfl ?_
  refine nc rfl rfl ?_
  refine fa0 F85_1 rfl rfl ?_
  refine ld (Says.fz hv) Try.isAgg21 rfl (Nat.zero_add _).symm rfl rfl ?_
  refine asg rfl rfl ?_
  refine nl ?_
  refine rg ?_
  refine mv rfl rfl ?_
  refine mv rfl rfl ?_
  have ok25 := hok.get 0 (by decide) (has_yes (show (0 : Int) ≤ v by omega) (show ((-1) : Int) < 0 ∨ v ≤ (-1) by omega))
  have e_1 : D ++ (fixed (IntKind.i32.wrap (T.at 0).n) 4) = D ++ plainTo (zipped fs_InitProducerIDResponse v true T) v 1 := fold_first (fs := fs_InitProducerIDResponse) (v := v) (flex := true) (t := T) (B := D) 0 rfl (by decide) (by decide) (has_yes (show (0 : Int) ≤ v by omega) (show ((-1) : Int) < 0 ∨ v ≤ (-1) by omega)) ((FB_int (f := (fs_InitProducerIDResponse[0]'(by decide))) (by decide) (by decide)).trans (fixed_i32 _).symm)
  have hs25 := fold_size e_1 (by decide) hb
  refine cl rfl rfl rfl (OutK.cast (k_AppendInt32 (u := IntKind.i32.wrap (T.at 0).n) hr hs25) e_1) rfl (fun v_ H1 L1 hle hR => ?_)
  obtain ⟨rfl, a25, c25, N25, rfl, rfl, h25⟩ := hR
  have r25 := h25.1
  refine asg rfl rfl ?_
  refine nl ?_
  refine sq ?_
  refine sr ?_
  refine mv rfl rfl ?_
  refine nc rfl rfl ?_
  refine fa0 F85_2 rfl rfl ?_
  refine ld (Says.fz hv) Try.isAgg45 rfl (Nat.zero_add _).symm rfl rfl ?_
  refine asg rfl rfl ?_
  refine nl ?_
  refine rg ?_
  refine mv rfl rfl ?_
  refine mv rfl rfl ?_
  have ok32 := hok.get 1 (by decide) (has_yes (show (0 : Int) ≤ v by omega) (show ((-1) : Int) < 0 ∨ v ≤ (-1) by omega))
  have e_2 : D ++ plainTo (zipped fs_InitProducerIDResponse v true T) v 1 ++ (fixed (IntKind.i16.wrap (T.at 1).n) 2) = D ++ plainTo (zipped fs_InitProducerIDResponse v true T) v 2 := fold_yes (fs := fs_InitProducerIDResponse) (v := v) (flex := true) (t := T) (B := D) 1 (by decide) (by decide) (has_yes (show (0 : Int) ≤ v by omega) (show ((-1) : Int) < 0 ∨ v ≤ (-1) by omega)) ((FB_int (f := (fs_InitProducerIDResponse[1]'(by decide))) (by decide) (by decide)).trans (fixed_i16 _).symm)
  have hs32 := fold_size e_2 (by decide) hb
  refine cl rfl rfl rfl (OutK.cast (k_AppendInt16 (u := IntKind.i16.wrap (T.at 1).n) r25 hs32) e_2) rfl (fun v_ H1 L1 hle hR => ?_)
  obtain ⟨rfl, a32, c32, N32, rfl, rfl, h32⟩ := hR
  have r32 := h32.1
  refine asg rfl rfl ?_
  refine nl ?_
  refine sq ?_
  refine sr ?_
  refine mv rfl rfl ?_
  refine nc rfl rfl ?_
  refine fa0 F85_3 rfl rfl ?_
  refine ld (Says.fz hv) Try.isAgg2 rfl (Nat.zero_add _).symm rfl rfl ?_
  refine asg rfl rfl ?_
  refine nl ?_
  refine rg ?_
  refine mv rfl rfl ?_
  refine mv rfl rfl ?_
  have ok39 := hok.get 2 (by decide) (has_yes (show (0 : Int) ≤ v by omega) (show ((-1) : Int) < 0 ∨ v ≤ (-1) by omega))
  have e_3 : D ++ plainTo (zipped fs_InitProducerIDResponse v true T) v 2 ++ (fixed ((T.at 2).n) 8) = D ++ plainTo (zipped fs_InitProducerIDResponse v true T) v 3 := fold_yes (fs := fs_InitProducerIDResponse) (v := v) (flex := true) (t := T) (B := D) 2 (by decide) (by decide) (has_yes (show (0 : Int) ≤ v by omega) (show ((-1) : Int) < 0 ∨ v ≤ (-1) by omega)) ((FB_int (f := (fs_InitProducerIDResponse[2]'(by decide))) (by decide) (by decide)).trans rfl)
  have hs39 := fold_size e_3 (by decide) hb
  refine cl rfl rfl rfl (OutK.cast (k_AppendInt64 (u := (T.at 2).n) r32 hs39) e_3) rfl (fun v_ H1 L1 hle hR => ?_)
  obtain ⟨rfl, a39, c39, N39, rfl, rfl, h39⟩ := hR
  have r39 := h39.1
  refine asg rfl rfl ?_
  refine nl ?_
  refine sq ?_
  refine sr ?_
  refine mv rfl rfl ?_
  refine nc rfl rfl ?_
  refine fa0 F85_4 rfl rfl ?_
  refine ld (Says.fz hv) Try.isAgg45 rfl (Nat.zero_add _).symm rfl rfl ?_
  refine asg rfl rfl ?_
  refine nl ?_
  refine rg ?_
  refine mv rfl rfl ?_
  refine mv rfl rfl ?_
  have ok46 := hok.get 3 (by decide) (has_yes (show (0 : Int) ≤ v by omega) (show ((-1) : Int) < 0 ∨ v ≤ (-1) by omega))
  have e_4 : D ++ plainTo (zipped fs_InitProducerIDResponse v true T) v 3 ++ (fixed (IntKind.i16.wrap (T.at 3).n) 2) = D ++ plainTo (zipped fs_InitProducerIDResponse v true T) v 4 := fold_yes (fs := fs_InitProducerIDResponse) (v := v) (flex := true) (t := T) (B := D) 3 (by decide) (by decide) (has_yes (show (0 : Int) ≤ v by omega) (show ((-1) : Int) < 0 ∨ v ≤ (-1) by omega)) ((FB_int (f := (fs_InitProducerIDResponse[3]'(by decide))) (by decide) (by decide)).trans (fixed_i16 _).symm)
  have hs46 := fold_size e_4 (by decide) hb
  refine cl rfl rfl rfl (OutK.cast (k_AppendInt16 (u := IntKind.i16.wrap (T.at 3).n) r39 hs46) e_4) rfl (fun v_ H1 L1 hle hR => ?_)
  obtain ⟨rfl, a46, c46, N46, rfl, rfl, h46⟩ := hR
  have r46 := h46.1
  refine asg rfl rfl ?_
  refine nl ?_
  refine sq ?_
  refine sr ?_
  refine mv rfl rfl ?_
  refine nl ?_
  refine cdT rfl (by omega) ?_
  refine sr ?_
  refine mv rfl rfl ?_
  refine mv rfl rfl ?_
  refine nc rfl rfl ?_
  refine fa0 F85_5 rfl rfl ?_
  refine cl rfl rfl rfl (t_lenU (j := 5) hv rfl hf0) rfl (fun v_ H1 L1 hle hR => ?_)
  obtain ⟨rfl, rfl, rfl⟩ := hR
  have hu52 := hok.u
  have hul52 := hu52.2.1
  obtain ⟨hz52a, hz52b⟩ := part_size_plain (by decide) hu52 hb
  refine cv Try.runUnderlying3 Try.runUnderlying58 rfl (w32u (by omega) (by omega)) rfl ?_
  refine ad rfl rfl ((w32u (by omega) (by omega)).trans (Int.zero_add _)) rfl ?_
  refine cl rfl rfl rfl (k_AppendUvarint (n := T.u.length) (by omega) r46 hz52a) rfl (fun v_ H1 L1 hle hR => ?_)
  obtain ⟨rfl, a55, c55, N55, rfl, rfl, h55⟩ := hR
  have r55 := h55.1
  refine asg rfl rfl ?_
  refine nl ?_
  refine rg ?_
  refine mv rfl rfl ?_
  refine nc rfl rfl ?_
  refine fa0 F85_5 rfl rfl ?_
  refine mv rfl rfl ?_
  refine cl rfl rfl rfl (t_append_each (j := 5) hv rfl hf0 (by omega) r55 (fun p hp => by have := hu52.2.2 p hp; omega) hz52b) rfl (fun v_ H1 L1 le_5 hR => ?_)
  obtain ⟨a60, c60, N60, rfl, rfl, h60⟩ := hR
  have r60 := h60.1
  have eP_6 : D ++ plainTo (zipped fs_InitProducerIDResponse v true T) v 4 ++ uvar T.u.length ++ T.u.flatMap tagU = D ++ partB fs_InitProducerIDResponse v true T := part_close (B := D) (by decide) hu52
  rw [eP_6] at r60 ⊢
  refine asg rfl rfl ?_
  refine nl ?_
  refine sr ?_
  refine mv rfl rfl ?_
  refine asg rfl rfl ?_
  refine nl ?_
  exact rT rfl rfl le_5 (fun _ _ h => h) (OutB.of r60 rfl)
end Go.Sx

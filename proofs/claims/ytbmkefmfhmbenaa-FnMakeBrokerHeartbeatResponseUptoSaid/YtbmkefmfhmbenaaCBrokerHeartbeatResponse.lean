import Derived.Test.YtbmkefmfhmbenaaBBrokerHeartbeatResponse
import Derived.KernelRfl
set_option linter.unusedVariables false
set_option linter.unusedSimpArgs false
set_option maxRecDepth 100000
set_option maxHeartbeats 20000000
namespace Go.Sx
open Go.Proofs
theorem app_BrokerHeartbeatResponse_t {H : Fz} {L : Own} {a : Option Addr} {cap b : Nat} {D : List UInt8} {N : Chunk} {cs : List Value} {T : Tr} {v : Int} (hr : Row 5 1 a D.length cap (bytesOf D) N) (hv : H.at b 0 cs) (hA : At_BrokerHeartbeatResponse v H T cs) (hok : OkP fs_BrokerHeartbeatResponse v T) (h0 : 0 ≤ v) (h1 : v ≤ 2) (hb : D.length + (partB fs_BrokerHeartbeatResponse v true T).length ≤ LIM) :
    Fn Try.prog 59 [.pointer (some ⟨b, 0, none⟩), .slice a D.length cap] H (N :: L) (fun r H' L' => OutB 5 L (D ++ partB fs_BrokerHeartbeatResponse v true T) r L') := by
  obtain ⟨mt, rfl, hf0⟩ := hA
  refine Fn.mk Try.call59 Try.func59 rfl Try.ntmps59 rfl ?_
  refine sr ?_
  refine asg rfl rfl ?_
  refine nl ?_
  refine sr ?_
  refine mv rfl rfl ?_
  refine nc rfl rfl ?_
  refine fa0 F90_0 rfl rfl ?_
  refine ld (Says.fz hv) Try.isAgg45 rfl (Nat.zero_add _).symm rfl rfl ?_
  refine asg rfl rfl ?_
  refine nl ?_
  refine sr ?_
  refine mv rfl rfl ?_
  refine nl ?_
  refine sr ?_
  refine mv rfl rfl ?_
  refine ge rfl rfl rfl ?_
  refine asg rfl rfl ?_
  refine nl ?_
  refine sr ?_
  refine mv rfl rfl ?_
  refine nl ?_
  refine sq ?_
  refine sr ?_
  refine mv rfl rfl ?_
  refine nc rfl rfl ?_
  refine fa0 F90_1 rfl rfl ?_
  refine ld (Says.fz hv) Try.isAgg21 rfl (Nat.zero_add _).symm rfl rfl ?_
  refine asg rfl rfl ?_
  refine nl ?_
  refine rg ?_
  refine mv rfl rfl ?_
  refine mv rfl rfl ?_
  have ok26 := hok.get 0 (by decide) (has_yes (show (0 : Int) ≤ v by omega) (show ((-1) : Int) < 0 ∨ v ≤ (-1) by omega))
  have e_1 : D ++ (fixed (IntKind.i32.wrap (T.at 0).n) 4) = D ++ plainTo (zipped fs_BrokerHeartbeatResponse v true T) v 1 := fold_first (fs := fs_BrokerHeartbeatResponse) (v := v) (flex := true) (t := T) (B := D) 0 rfl (by decide) (by decide) (has_yes (show (0 : Int) ≤ v by omega) (show ((-1) : Int) < 0 ∨ v ≤ (-1) by omega)) ((FB_int (f := (fs_BrokerHeartbeatResponse[0]'(by decide))) (by decide) (by decide)).trans (fixed_i32 _).symm)
  have hs26 := fold_size e_1 (by decide) hb
  refine cl rfl rfl rfl (OutK.cast (k_AppendInt32 (u := IntKind.i32.wrap (T.at 0).n) hr hs26) e_1) rfl (fun v_ H1 L1 hle hR => ?_)
  obtain ⟨rfl, a26, c26, N26, rfl, rfl, h26⟩ := hR
  have r26 := h26.1
  refine asg rfl rfl ?_
  refine nl ?_
  refine sq ?_
  refine sr ?_
  refine mv rfl rfl ?_
  refine nc rfl rfl ?_
  refine fa0 F90_2 rfl rfl ?_
  refine ld (Says.fz hv) Try.isAgg45 rfl (Nat.zero_add _).symm rfl rfl ?_
  refine asg rfl rfl ?_
  refine nl ?_
  refine rg ?_
  refine mv rfl rfl ?_
  refine mv rfl rfl ?_
  have ok33 := hok.get 1 (by decide) (has_yes (show (0 : Int) ≤ v by omega) (show ((-1) : Int) < 0 ∨ v ≤ (-1) by omega))
  have e_2 : D ++ plainTo (zipped fs_BrokerHeartbeatResponse v true T) v 1 ++ (fixed (IntKind.i16.wrap (T.at 1).n) 2) = D ++ plainTo (zipped fs_BrokerHeartbeatResponse v true T) v 2 := fold_yes (fs := fs_BrokerHeartbeatResponse) (v := v) (flex := true) (t := T) (B := D) 1 (by decide) (by decide) (has_yes (show (0 : Int) ≤ v by omega) (show ((-1) : Int) < 0 ∨ v ≤ (-1) by omega)) ((FB_int (f := (fs_BrokerHeartbeatResponse[1]'(by decide))) (by decide) (by decide)).trans (fixed_i16 _).symm)
  have hs33 := fold_size e_2 (by decide) hb
  refine cl rfl rfl rfl (OutK.cast (k_AppendInt16 (u := IntKind.i16.wrap (T.at 1).n) r26 hs33) e_2) rfl (fun v_ H1 L1 hle hR => ?_)
  obtain ⟨rfl, a33, c33, N33, rfl, rfl, h33⟩ := hR
  have r33 := h33.1
  refine asg rfl rfl ?_
  refine nl ?_
  refine sq ?_
  refine sr ?_
  refine mv rfl rfl ?_
  refine nc rfl rfl ?_
  refine fa0 F90_3 rfl rfl ?_
  refine ld (Says.fz hv) Try.isAgg4 rfl (Nat.zero_add _).symm rfl rfl ?_
  refine asg rfl rfl ?_
  refine nl ?_
  refine rg ?_
  refine mv rfl rfl ?_
  refine mv rfl rfl ?_
  have ok40 := hok.get 2 (by decide) (has_yes (show (0 : Int) ≤ v by omega) (show ((-1) : Int) < 0 ∨ v ≤ (-1) by omega))
  have e_3 : D ++ plainTo (zipped fs_BrokerHeartbeatResponse v true T) v 2 ++ ([if decide ((T.at 2).n % 2 = 1) then 1 else 0] : List UInt8) = D ++ plainTo (zipped fs_BrokerHeartbeatResponse v true T) v 3 := fold_yes (fs := fs_BrokerHeartbeatResponse) (v := v) (flex := true) (t := T) (B := D) 2 (by decide) (by decide) (has_yes (show (0 : Int) ≤ v by omega) (show ((-1) : Int) < 0 ∨ v ≤ (-1) by omega)) ((FB_bool (f := (fs_BrokerHeartbeatResponse[2]'(by decide))) (by decide)).trans (bool_byte _))
  have hs40 := fold_size e_3 (by decide) hb
  refine cl rfl rfl rfl (OutK.cast (k_AppendBool (b := decide ((T.at 2).n % 2 = 1)) r33 hs40) e_3) rfl (fun v_ H1 L1 hle hR => ?_)
  obtain ⟨rfl, a40, c40, N40, rfl, rfl, h40⟩ := hR
  have r40 := h40.1
  refine asg rfl rfl ?_
  refine nl ?_
  refine sq ?_
  refine sr ?_
  refine mv rfl rfl ?_
  refine nc rfl rfl ?_
  refine fa0 F90_4 rfl rfl ?_
  refine ld (Says.fz hv) Try.isAgg4 rfl (Nat.zero_add _).symm rfl rfl ?_
  refine asg rfl rfl ?_
  refine nl ?_
  refine rg ?_
  refine mv rfl rfl ?_
  refine mv rfl rfl ?_
  have ok47 := hok.get 3 (by decide) (has_yes (show (0 : Int) ≤ v by omega) (show ((-1) : Int) < 0 ∨ v ≤ (-1) by omega))
  have e_4 : D ++ plainTo (zipped fs_BrokerHeartbeatResponse v true T) v 3 ++ ([if decide ((T.at 3).n % 2 = 1) then 1 else 0] : List UInt8) = D ++ plainTo (zipped fs_BrokerHeartbeatResponse v true T) v 4 := fold_yes (fs := fs_BrokerHeartbeatResponse) (v := v) (flex := true) (t := T) (B := D) 3 (by decide) (by decide) (has_yes (show (0 : Int) ≤ v by omega) (show ((-1) : Int) < 0 ∨ v ≤ (-1) by omega)) ((FB_bool (f := (fs_BrokerHeartbeatResponse[3]'(by decide))) (by decide)).trans (bool_byte _))
  have hs47 := fold_size e_4 (by decide) hb
  refine cl rfl rfl rfl (OutK.cast (k_AppendBool (b := decide ((T.at 3).n % 2 = 1)) r40 hs47) e_4) rfl (fun v_ H1 L1 hle hR => ?_)
  obtain ⟨rfl, a47, c47, N47, rfl, rfl, h47⟩ := hR
  have r47 := h47.1
  refine asg rfl rfl ?_
  refine nl ?_
  refine sq ?_
  refine sr ?_
  refine mv rfl rfl ?_
  refine nc rfl rfl ?_
  refine fa0 F90_5 rfl rfl ?_
  refine ld (Says.fz hv) Try.isAgg4 rfl (Nat.zero_add _).symm rfl rfl ?_
  refine asg rfl rfl ?_
  refine nl ?_
  refine rg ?_
  refine mv rfl rfl ?_
  refine mv rfl rfl ?_
  have ok54 := hok.get 4 (by decide) (has_yes (show (0 : Int) ≤ v by omega) (show ((-1) : Int) < 0 ∨ v ≤ (-1) by omega))
  have e_5 : D ++ plainTo (zipped fs_BrokerHeartbeatResponse v true T) v 4 ++ ([if decide ((T.at 4).n % 2 = 1) then 1 else 0] : List UInt8) = D ++ plainTo (zipped fs_BrokerHeartbeatResponse v true T) v 5 := fold_yes (fs := fs_BrokerHeartbeatResponse) (v := v) (flex := true) (t := T) (B := D) 4 (by decide) (by decide) (has_yes (show (0 : Int) ≤ v by omega) (show ((-1) : Int) < 0 ∨ v ≤ (-1) by omega)) ((FB_bool (f := (fs_BrokerHeartbeatResponse[4]'(by decide))) (by decide)).trans (bool_byte _))
  have hs54 := fold_size e_5 (by decide) hb
  refine cl rfl rfl rfl (OutK.cast (k_AppendBool (b := decide ((T.at 4).n % 2 = 1)) r47 hs54) e_5) rfl (fun v_ H1 L1 hle hR => ?_)
  obtain ⟨rfl, a54, c54, N54, rfl, rfl, h54⟩ := hR
  have r54 := h54.1
  refine asg rfl rfl ?_
  refine nl ?_
  refine sq ?_
  refine sr ?_
  refine mv rfl rfl ?_
  refine nl ?_
  refine cdT rfl (by omega) ?_
  refine sr ?_
  refine mv rfl rfl ?_
  refine mv rfl rfl ?_
  refine nc rfl rfl ?_
  refine fa0 F90_6 rfl rfl ?_
  refine cl rfl rfl rfl (t_lenU (j := 6) hv rfl hf0) rfl (fun v_ H1 L1 hle hR => ?_)
  obtain ⟨rfl, rfl, rfl⟩ := hR
  have hu60 := hok.u
  have hul60 := hu60.2.1
  obtain ⟨hz60a, hz60b⟩ := part_size_plain (by decide) hu60 hb
  refine cv Try.runUnderlying3 Try.runUnderlying58 rfl (w32u (by omega) (by omega)) rfl ?_
  refine ad rfl rfl ((w32u (by omega) (by omega)).trans (Int.zero_add _)) rfl ?_
  refine cl rfl rfl rfl (k_AppendUvarint (n := T.u.length) (by omega) r54 hz60a) rfl (fun v_ H1 L1 hle hR => ?_)
  obtain ⟨rfl, a63, c63, N63, rfl, rfl, h63⟩ := hR
  have r63 := h63.1
  refine asg rfl rfl ?_
  refine nl ?_
  refine rg ?_
  refine mv rfl rfl ?_
  refine nc rfl rfl ?_
  refine fa0 F90_6 rfl rfl ?_
  refine mv rfl rfl ?_
  refine cl rfl rfl rfl (t_append_each (j := 6) hv rfl hf0 (by omega) r63 (fun p hp => by have := hu60.2.2 p hp; omega) hz60b) rfl (fun v_ H1 L1 le_6 hR => ?_)
  obtain ⟨a68, c68, N68, rfl, rfl, h68⟩ := hR
  have r68 := h68.1
  have eP_7 : D ++ plainTo (zipped fs_BrokerHeartbeatResponse v true T) v 5 ++ uvar T.u.length ++ T.u.flatMap tagU = D ++ partB fs_BrokerHeartbeatResponse v true T := part_close (B := D) (by decide) hu60
  rw [eP_7] at r68 ⊢
  refine asg rfl rfl ?_
  refine nl ?_
  refine sr ?_
  refine mv rfl rfl ?_
  refine asg rfl rfl ?_
  refine nl ?_
  exact rT rfl rfl le_6 (fun _ _ h => h) (OutB.of r68 rfl)
end Go.Sx

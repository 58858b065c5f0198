import Derived.Test.YtjpidbdhoiagpaaGreatDoorBPushTelemetryRequest
import Derived.Test.YtjpidbdhoiagpaaGreatDoorKB2
import Derived.Test.YtjpidbdhoiagpaaGreatDoorMkL
import Derived.KernelRfl
set_option linter.unusedVariables false
set_option linter.unusedSimpArgs false
set_option maxRecDepth 100000
set_option maxHeartbeats 20000000
namespace Go.Sx
open Go.Proofs
theorem app_PushTelemetryRequest_t {H : Fz} {L : Own} {a : Option Addr} {cap b : Nat} {D : List UInt8} {N : Chunk} {cs : List Value} {T : Tr} {v : Int} (hr : Row 5 1 a D.length cap (bytesOf D) N) (hv : H.at b 0 cs) (hA : At_PushTelemetryRequest v H T cs) (hok : OkP fs_PushTelemetryRequest v T) (h0 : 0 ≤ v) (h1 : v ≤ 0) (hb : D.length + (partB fs_PushTelemetryRequest v true T).length ≤ LIM) :
  Fn Tryz.prog 210 [.pointer (some ⟨b, 0, none⟩), .slice a D.length cap] H (N :: L) (fun r H' L' => OutB 5 L (D ++ partB fs_PushTelemetryRequest v true T) r L') := by
 obtain ⟨a4, c4, mt, rfl, hf0, hf1⟩ := hA
 refine Fn.mk Tryz.call210 Tryz.func210 rfl Tryz.ntmps210 rfl ?_
 refine sr ?_
 refine asg rfl rfl ?_
 refine nl ?_
 refine sr ?_
 refine mv rfl rfl ?_
 refine nc rfl rfl ?_
 refine fa0 F107_0 rfl rfl ?_
 refine ld (Says.fz hv) Tryz.isAgg45 rfl (Nat.zero_add _).symm rfl rfl ?_
 refine asg rfl rfl ?_
 refine nl ?_
 refine sr ?_
 refine mv rfl rfl ?_
 refine nl ?_
 refine sr ?_
 refine mv rfl rfl ?_
 refine ge rfl rfl rfl ?_
 refine asg rfl rfl ?_
 refine nl ?_
 refine sr ?_
 refine mv rfl rfl ?_
 refine nl ?_
 refine sq ?_
 refine sr ?_
 refine mv rfl rfl ?_
 refine nc rfl rfl ?_
 refine fa0 F107_1 rfl rfl ?_
 refine la (Says.fz hv) Tryz.isAgg99 Tryz.sizeOf99 rfl (Nat.zero_add _).symm rfl rfl ?_
 refine al Tryz.zeroValue99 rfl rfl (fun b_1 => ?_)
 refine sa Tryz.sizeOf99 rfl rfl rfl rfl rfl .head ?_
 refine nl ?_
 refine rg ?_
 refine mv rfl rfl ?_
 refine la (Says.own .head) Tryz.isAgg99 Tryz.sizeOf99 rfl (Nat.zero_add _).symm rfl rfl ?_
 refine tf (.tail .head) ?_
 have ok26 := hok.get 0 (by decide) (has_yes (show (0 : Int) ≤ v by omega) (show ((-1) : Int) < 0 ∨ v ≤ (-1) by omega))
 have e_2 : D ++ (pad16 (T.at 0).s) = D ++ plainTo (zipped fs_PushTelemetryRequest v true T) v 1 := fold_first (fs := fs_PushTelemetryRequest) (v := v) (flex := true) (t := T) (B := D) 0 rfl (by decide) (by decide) (has_yes (show (0 : Int) ≤ v by omega) (show ((-1) : Int) < 0 ∨ v ≤ (-1) by omega)) (FB_uuid (f := (fs_PushTelemetryRequest[0]'(by decide))) (by decide))
 have hs26 := fold_size e_2 (by decide) hb
 refine cl rfl rfl rfl (OutK.cast (k_AppendUuid (x := (T.at 0).s) hr hs26) e_2) rfl (fun v_ H1 L1 hle hR => ?_)
 obtain ⟨rfl, a26, c26, N26, rfl, rfl, h26⟩ := hR
 have r26 := h26.1
 refine asg rfl rfl ?_
 refine nl ?_
 refine sq ?_
 refine sr ?_
 refine mv rfl rfl ?_
 refine nc rfl rfl ?_
 refine fa0 F107_2 rfl rfl ?_
 refine ld (Says.fz hv) Tryz.isAgg21 rfl (Nat.zero_add _).symm rfl rfl ?_
 refine asg rfl rfl ?_
 refine nl ?_
 refine rg ?_
 refine mv rfl rfl ?_
 refine mv rfl rfl ?_
 have ok33 := hok.get 1 (by decide) (has_yes (show (0 : Int) ≤ v by omega) (show ((-1) : Int) < 0 ∨ v ≤ (-1) by omega))
 have e_3 : D ++ plainTo (zipped fs_PushTelemetryRequest v true T) v 1 ++ (fixed (IntKind.i32.wrap (T.at 1).n) 4) = D ++ plainTo (zipped fs_PushTelemetryRequest v true T) v 2 := fold_yes (fs := fs_PushTelemetryRequest) (v := v) (flex := true) (t := T) (B := D) 1 (by decide) (by decide) (has_yes (show (0 : Int) ≤ v by omega) (show ((-1) : Int) < 0 ∨ v ≤ (-1) by omega)) ((FB_int (f := (fs_PushTelemetryRequest[1]'(by decide))) (by decide) (by decide)).trans (fixed_i32 _).symm)
 have hs33 := fold_size e_3 (by decide) hb
 refine cl rfl rfl rfl (OutK.cast (k_AppendInt32 (u := IntKind.i32.wrap (T.at 1).n) r26 hs33) e_3) rfl (fun v_ H1 L1 hle hR => ?_)
 obtain ⟨rfl, a33, c33, N33, rfl, rfl, h33⟩ := hR
 have r33 := h33.1
 refine asg rfl rfl ?_
 refine nl ?_
 refine sq ?_
 refine sr ?_
 refine mv rfl rfl ?_
 refine nc rfl rfl ?_
 refine fa0 F107_3 rfl rfl ?_
 refine ld (Says.fz hv) Tryz.isAgg4 rfl (Nat.zero_add _).symm rfl rfl ?_
 refine asg rfl rfl ?_
 refine nl ?_
 refine rg ?_
 refine mv rfl rfl ?_
 refine mv rfl rfl ?_
 have ok40 := hok.get 2 (by decide) (has_yes (show (0 : Int) ≤ v by omega) (show ((-1) : Int) < 0 ∨ v ≤ (-1) by omega))
 have e_4 : D ++ plainTo (zipped fs_PushTelemetryRequest v true T) v 2 ++ ([if decide ((T.at 2).n % 2 = 1) then 1 else 0] : List UInt8) = D ++ plainTo (zipped fs_PushTelemetryRequest v true T) v 3 := fold_yes (fs := fs_PushTelemetryRequest) (v := v) (flex := true) (t := T) (B := D) 2 (by decide) (by decide) (has_yes (show (0 : Int) ≤ v by omega) (show ((-1) : Int) < 0 ∨ v ≤ (-1) by omega)) ((FB_bool (f := (fs_PushTelemetryRequest[2]'(by decide))) (by decide)).trans (bool_byte _))
 have hs40 := fold_size e_4 (by decide) hb
 refine cl rfl rfl rfl (OutK.cast (k_AppendBool (b := decide ((T.at 2).n % 2 = 1)) r33 hs40) e_4) rfl (fun v_ H1 L1 hle hR => ?_)
 obtain ⟨rfl, a40, c40, N40, rfl, rfl, h40⟩ := hR
 have r40 := h40.1
 refine asg rfl rfl ?_
 refine nl ?_
 refine sq ?_
 refine sr ?_
 refine mv rfl rfl ?_
 refine nc rfl rfl ?_
 refine fa0 F107_4 rfl rfl ?_
 refine ld (Says.fz hv) Tryz.isAgg105 rfl (Nat.zero_add _).symm rfl rfl ?_
 refine asg rfl rfl ?_
 refine nl ?_
 refine rg ?_
 refine mv rfl rfl ?_
 refine mv rfl rfl ?_
 have ok47 := hok.get 3 (by decide) (has_yes (show (0 : Int) ≤ v by omega) (show ((-1) : Int) < 0 ∨ v ≤ (-1) by omega))
 have e_5 : D ++ plainTo (zipped fs_PushTelemetryRequest v true T) v 3 ++ (fixed (IntKind.i8.wrap (T.at 3).n) 1) = D ++ plainTo (zipped fs_PushTelemetryRequest v true T) v 4 := fold_yes (fs := fs_PushTelemetryRequest) (v := v) (flex := true) (t := T) (B := D) 3 (by decide) (by decide) (has_yes (show (0 : Int) ≤ v by omega) (show ((-1) : Int) < 0 ∨ v ≤ (-1) by omega)) ((FB_int (f := (fs_PushTelemetryRequest[3]'(by decide))) (by decide) (by decide)).trans (fixed_i8 _).symm)
 have hs47 := fold_size e_5 (by decide) hb
 refine cl rfl rfl rfl (OutK.cast (k_AppendInt8 (u := IntKind.i8.wrap (T.at 3).n) r40 hs47) e_5) rfl (fun v_ H1 L1 hle hR => ?_)
 obtain ⟨rfl, a47, c47, N47, rfl, rfl, h47⟩ := hR
 have r47 := h47.1
 refine asg rfl rfl ?_
 refine nl ?_
 refine sq ?_
 refine sr ?_
 refine mv rfl rfl ?_
 refine nc rfl rfl ?_
 refine fa0 F107_5 rfl rfl ?_
 refine ld (Says.fz hv) Tryz.isAgg24 rfl (Nat.zero_add _).symm rfl rfl ?_
 refine asg rfl rfl ?_
 refine nl ?_
 refine sr ?_
 refine mv rfl rfl ?_
 refine nl ?_
 refine cdT rfl (by omega) ?_
 refine rg ?_
 refine mv rfl rfl ?_
 refine mv rfl rfl ?_
 have ok55 := hok.get 4 (by decide) (has_yes (show (0 : Int) ≤ v by omega) (show ((-1) : Int) < 0 ∨ v ≤ (-1) by omega))
 have nn55 := ok55.nn (by decide) (by decide) (by decide)
 have e_6 : D ++ plainTo (zipped fs_PushTelemetryRequest v true T) v 4 ++ (counted true false (sT (T.at 4)).length 4 ++ (sT (T.at 4))) = D ++ plainTo (zipped fs_PushTelemetryRequest v true T) v 5 := fold_yes (fs := fs_PushTelemetryRequest) (v := v) (flex := true) (t := T) (B := D) 4 (by decide) (by decide) (has_yes (show (0 : Int) ≤ v by omega) (show ((-1) : Int) < 0 ∨ v ≤ (-1) by omega)) (by rw [FB_bytes (f := (fs_PushTelemetryRequest[4]'(by decide))) (by decide) (by decide) ok55, nn55])
 have hs55 := fold_size e_6 (by decide) hb
 refine cl rfl rfl rfl (OutK.cast (k_AppendCompactBytes (x := (sT (T.at 4))) (by have := sT_len (ok55.s (Or.inr rfl)); omega) hf0.val r47 hs55) e_6) rfl (fun v_ H1 L1 hle hR => ?_)
 obtain ⟨rfl, a55, c55, N55, rfl, rfl, h55⟩ := hR
 have r55 := h55.1
 refine asg rfl rfl ?_
 refine nl ?_
 refine sq ?_
 refine sr ?_
 refine mv rfl rfl ?_
 refine nl ?_
 refine cdT rfl (by omega) ?_
 refine sr ?_
 refine mv rfl rfl ?_
 refine mv rfl rfl ?_
 refine nc rfl rfl ?_
 refine fa0 F107_6 rfl rfl ?_
 refine cl rfl rfl rfl (t_lenU (j := 21) hv rfl hf1) rfl (fun v_ H1 L1 hle hR => ?_)
 obtain ⟨rfl, rfl, rfl⟩ := hR
 have hu64 := hok.u
 have hul64 := hu64.2.1
 obtain ⟨hz64a, hz64b⟩ := part_size_plain (by decide) hu64 hb
 refine cv Tryz.runUnderlying3 Tryz.runUnderlying67 rfl (w32u (by omega) (by omega)) rfl ?_
 refine ad rfl rfl ((w32u (by omega) (by omega)).trans (Int.zero_add _)) rfl ?_
 refine cl rfl rfl rfl (k_AppendUvarint (n := T.u.length) (by omega) r55 hz64a) rfl (fun v_ H1 L1 hle hR => ?_)
 obtain ⟨rfl, a67, c67, N67, rfl, rfl, h67⟩ := hR
 have r67 := h67.1
 refine asg rfl rfl ?_
 refine nl ?_
 refine rg ?_
 refine mv rfl rfl ?_
 refine nc rfl rfl ?_
 refine fa0 F107_6 rfl rfl ?_
 refine mv rfl rfl ?_
 refine cl rfl rfl rfl (t_append_each (j := 21) hv rfl hf1 (by omega) r67 (fun p hp => by have := hu64.2.2 p hp; omega) hz64b) rfl (fun v_ H1 L1 le_7 hR => ?_)
 obtain ⟨a72, c72, N72, rfl, rfl, h72⟩ := hR
 have r72 := h72.1
 have eP_8 : D ++ plainTo (zipped fs_PushTelemetryRequest v true T) v 5 ++ uvar T.u.length ++ T.u.flatMap tagU = D ++ partB fs_PushTelemetryRequest v true T := part_close (B := D) (by decide) hu64
 rw [eP_8] at r72 ⊢
 refine asg rfl rfl ?_
 refine nl ?_
 refine sr ?_
 refine mv rfl rfl ?_
 refine asg rfl rfl ?_
 refine nl ?_
 refine drW (.tail .head) ?_
 exact rT rfl rfl le_7 (fun _ _ h => h) (OutB.of r72 rfl)
end Go.Sx

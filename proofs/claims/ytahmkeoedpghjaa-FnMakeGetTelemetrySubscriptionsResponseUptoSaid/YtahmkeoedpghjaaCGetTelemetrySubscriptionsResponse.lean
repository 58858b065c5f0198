import Derived.Test.YtahmkeoedpghjaaBGetTelemetrySubscriptionsResponse
import Derived.KernelRfl
set_option linter.unusedVariables false
set_option linter.unusedSimpArgs false
set_option maxRecDepth 100000
set_option maxHeartbeats 20000000
namespace Go.Sx
open Go.Proofs
theorem app_GetTelemetrySubscriptionsResponse_t {H : Fz} {L : Own} {a : Option Addr} {cap b : Nat} {D : List UInt8} {N : Chunk} {cs : List Value} {T : Tr} {v : Int} (hr : Row 5 1 a D.length cap (bytesOf D) N) (hv : H.at b 0 cs) (hA : At_GetTelemetrySubscriptionsResponse v H T cs) (hok : OkP fs_GetTelemetrySubscriptionsResponse v T) (h0 : 0 ≤ v) (h1 : v ≤ 0) (hb : D.length + (partB fs_GetTelemetrySubscriptionsResponse v true T).length ≤ LIM) :
    Fn Try.prog 94 [.pointer (some ⟨b, 0, none⟩), .slice a D.length cap] H (N :: L) (fun r H' L' => OutB 5 L (D ++ partB fs_GetTelemetrySubscriptionsResponse v true T) r L') := by
  obtain ⟨a4, c4, a8, c8, mt, rfl, hf0, hf1, hf2⟩ := hA
  refine Fn.mk Try.call94 Try.func94 rfl Try.ntmps94 rfl ?_
  refine sr ?_
  refine asg rfl rfl ?_
  refine nl ?_
  refine sr ?_
  refine mv rfl rfl ?_
  refine nc rfl rfl ?_
  refine fa0 F101_0 rfl rfl ?_
  refine ld (Says.fz hv) Try.isAgg45 rfl (Nat.zero_add _).symm rfl rfl ?_
  refine asg rfl rfl ?_
  refine nl ?_
  refine sr ?_
  refine mv rfl rfl ?_
  refine nl ?_
  refine sr ?_
  refine mv rfl rfl ?_
  refine ge rfl rfl rfl ?_
  refine asg rfl rfl ?_
  refine nl ?_
  refine sr ?_
  refine mv rfl rfl ?_
  refine nl ?_
  refine sq ?_
  refine sr ?_
  refine mv rfl rfl ?_
  refine nc rfl rfl ?_
  refine fa0 F101_1 rfl rfl ?_
  refine ld (Says.fz hv) Try.isAgg21 rfl (Nat.zero_add _).symm rfl rfl ?_
  refine asg rfl rfl ?_
  refine nl ?_
  refine rg ?_
  refine mv rfl rfl ?_
  refine mv rfl rfl ?_
  have ok34 := hok.get 0 (by decide) (has_yes (show (0 : Int) ≤ v by omega) (show ((-1) : Int) < 0 ∨ v ≤ (-1) by omega))
  have e_1 : D ++ (fixed (IntKind.i32.wrap (T.at 0).n) 4) = D ++ plainTo (zipped fs_GetTelemetrySubscriptionsResponse v true T) v 1 := fold_first (fs := fs_GetTelemetrySubscriptionsResponse) (v := v) (flex := true) (t := T) (B := D) 0 rfl (by decide) (by decide) (has_yes (show (0 : Int) ≤ v by omega) (show ((-1) : Int) < 0 ∨ v ≤ (-1) by omega)) ((FB_int (f := (fs_GetTelemetrySubscriptionsResponse[0]'(by decide))) (by decide) (by decide)).trans (fixed_i32 _).symm)
  have hs34 := fold_size e_1 (by decide) hb
  refine cl rfl rfl rfl (OutK.cast (k_AppendInt32 (u := IntKind.i32.wrap (T.at 0).n) hr hs34) e_1) rfl (fun v_ H1 L1 hle hR => ?_)
  obtain ⟨rfl, a34, c34, N34, rfl, rfl, h34⟩ := hR
  have r34 := h34.1
  refine asg rfl rfl ?_
  refine nl ?_
  refine sq ?_
  refine sr ?_
  refine mv rfl rfl ?_
  refine nc rfl rfl ?_
  refine fa0 F101_2 rfl rfl ?_
  refine ld (Says.fz hv) Try.isAgg45 rfl (Nat.zero_add _).symm rfl rfl ?_
  refine asg rfl rfl ?_
  refine nl ?_
  refine rg ?_
  refine mv rfl rfl ?_
  refine mv rfl rfl ?_
  have ok41 := hok.get 1 (by decide) (has_yes (show (0 : Int) ≤ v by omega) (show ((-1) : Int) < 0 ∨ v ≤ (-1) by omega))
  have e_2 : D ++ plainTo (zipped fs_GetTelemetrySubscriptionsResponse v true T) v 1 ++ (fixed (IntKind.i16.wrap (T.at 1).n) 2) = D ++ plainTo (zipped fs_GetTelemetrySubscriptionsResponse v true T) v 2 := fold_yes (fs := fs_GetTelemetrySubscriptionsResponse) (v := v) (flex := true) (t := T) (B := D) 1 (by decide) (by decide) (has_yes (show (0 : Int) ≤ v by omega) (show ((-1) : Int) < 0 ∨ v ≤ (-1) by omega)) ((FB_int (f := (fs_GetTelemetrySubscriptionsResponse[1]'(by decide))) (by decide) (by decide)).trans (fixed_i16 _).symm)
  have hs41 := fold_size e_2 (by decide) hb
  refine cl rfl rfl rfl (OutK.cast (k_AppendInt16 (u := IntKind.i16.wrap (T.at 1).n) r34 hs41) e_2) rfl (fun v_ H1 L1 hle hR => ?_)
  obtain ⟨rfl, a41, c41, N41, rfl, rfl, h41⟩ := hR
  have r41 := h41.1
  refine asg rfl rfl ?_
  refine nl ?_
  refine sq ?_
  refine sr ?_
  refine mv rfl rfl ?_
  refine nc rfl rfl ?_
  refine fa0 F101_3 rfl rfl ?_
  refine la (Says.fz hv) Try.isAgg98 Try.sizeOf98 rfl (Nat.zero_add _).symm rfl rfl ?_
  refine al Try.zeroValue98 rfl rfl (fun b_3 => ?_)
  refine sa Try.sizeOf98 rfl rfl rfl rfl rfl .head ?_
  refine nl ?_
  refine rg ?_
  refine mv rfl rfl ?_
  refine la (Says.own .head) Try.isAgg98 Try.sizeOf98 rfl (Nat.zero_add _).symm rfl rfl ?_
  refine tf (.tail .head) ?_
  have ok48 := hok.get 2 (by decide) (has_yes (show (0 : Int) ≤ v by omega) (show ((-1) : Int) < 0 ∨ v ≤ (-1) by omega))
  have e_4 : D ++ plainTo (zipped fs_GetTelemetrySubscriptionsResponse v true T) v 2 ++ (pad16 (T.at 2).s) = D ++ plainTo (zipped fs_GetTelemetrySubscriptionsResponse v true T) v 3 := fold_yes (fs := fs_GetTelemetrySubscriptionsResponse) (v := v) (flex := true) (t := T) (B := D) 2 (by decide) (by decide) (has_yes (show (0 : Int) ≤ v by omega) (show ((-1) : Int) < 0 ∨ v ≤ (-1) by omega)) (FB_uuid (f := (fs_GetTelemetrySubscriptionsResponse[2]'(by decide))) (by decide))
  have hs48 := fold_size e_4 (by decide) hb
  refine cl rfl rfl rfl (OutK.cast (k_AppendUuid (x := (T.at 2).s) r41 hs48) e_4) rfl (fun v_ H1 L1 hle hR => ?_)
  obtain ⟨rfl, a48, c48, N48, rfl, rfl, h48⟩ := hR
  have r48 := h48.1
  refine asg rfl rfl ?_
  refine nl ?_
  refine sq ?_
  refine sr ?_
  refine mv rfl rfl ?_
  refine nc rfl rfl ?_
  refine fa0 F101_4 rfl rfl ?_
  refine ld (Says.fz hv) Try.isAgg21 rfl (Nat.zero_add _).symm rfl rfl ?_
  refine asg rfl rfl ?_
  refine nl ?_
  refine rg ?_
  refine mv rfl rfl ?_
  refine mv rfl rfl ?_
  have ok55 := hok.get 3 (by decide) (has_yes (show (0 : Int) ≤ v by omega) (show ((-1) : Int) < 0 ∨ v ≤ (-1) by omega))
  have e_5 : D ++ plainTo (zipped fs_GetTelemetrySubscriptionsResponse v true T) v 3 ++ (fixed (IntKind.i32.wrap (T.at 3).n) 4) = D ++ plainTo (zipped fs_GetTelemetrySubscriptionsResponse v true T) v 4 := fold_yes (fs := fs_GetTelemetrySubscriptionsResponse) (v := v) (flex := true) (t := T) (B := D) 3 (by decide) (by decide) (has_yes (show (0 : Int) ≤ v by omega) (show ((-1) : Int) < 0 ∨ v ≤ (-1) by omega)) ((FB_int (f := (fs_GetTelemetrySubscriptionsResponse[3]'(by decide))) (by decide) (by decide)).trans (fixed_i32 _).symm)
  have hs55 := fold_size e_5 (by decide) hb
  refine cl rfl rfl rfl (OutK.cast (k_AppendInt32 (u := IntKind.i32.wrap (T.at 3).n) r48 hs55) e_5) rfl (fun v_ H1 L1 hle hR => ?_)
  obtain ⟨rfl, a55, c55, N55, rfl, rfl, h55⟩ := hR
  have r55 := h55.1
  refine asg rfl rfl ?_
  refine nl ?_
  refine sq ?_
  refine sr ?_
  refine mv rfl rfl ?_
  refine nc rfl rfl ?_
  refine fa0 F101_5 rfl rfl ?_
  refine ld (Says.fz hv) Try.isAgg99 rfl (Nat.zero_add _).symm rfl rfl ?_
  refine asg rfl rfl ?_
  refine nl ?_
  refine sq ?_
  refine sr ?_
  refine mv rfl rfl ?_
  refine nl ?_
  refine cdT rfl (by omega) ?_
  refine rg ?_
  refine mv rfl rfl ?_
  refine mv rfl rfl ?_
  refine ls Try.runUnderlying99 rfl rfl ?_
  have ok64 := hok.get 4 (by decide) (has_yes (show (0 : Int) ≤ v by omega) (show ((-1) : Int) < 0 ∨ v ≤ (-1) by omega))
  have nn64 := ok64.nn (by decide) (by decide)
  have ll64 := lT_len (ok64.len rfl)
  have e_6 : D ++ plainTo (zipped fs_GetTelemetrySubscriptionsResponse v true T) v 4 ++ (counted true false (lT (T.at 4)).length 4 ++ (lT (T.at 4)).flatMap (GOf (fs_GetTelemetrySubscriptionsResponse[4]'(by decide)) v true)) = D ++ plainTo (zipped fs_GetTelemetrySubscriptionsResponse v true T) v 5 := fold_yes (fs := fs_GetTelemetrySubscriptionsResponse) (v := v) (flex := true) (t := T) (B := D) 4 (by decide) (by decide) (has_yes (show (0 : Int) ≤ v by omega) (show ((-1) : Int) < 0 ∨ v ≤ (-1) by omega)) (by rw [FB_list (f := (fs_GetTelemetrySubscriptionsResponse[4]'(by decide))) (by decide) (by decide) ok64, nn64])
  have hs64 := fold_size e_6 (by decide) hb
  have hc64 : (D ++ plainTo (zipped fs_GetTelemetrySubscriptionsResponse v true T) v 4).length + (counted true false (lT (T.at 4)).length 4).length ≤ LIM := by have h := hs64; simp only [List.length_append] at h ⊢; omega
  refine cl rfl rfl rfl (OutK.cast (k_AppendCompactArrayLen (n := (lT (T.at 4)).length) (by omega) r55 hc64) (show _ = D ++ plainTo (zipped fs_GetTelemetrySubscriptionsResponse v true T) v 4 ++ (counted true false (lT (T.at 4)).length 4) from rfl)) rfl (fun v_ H1 L1 hle hR => ?_)
  obtain ⟨rfl, a64, c64, N64, rfl, rfl, h64⟩ := hR
  have r64 := h64.1
  refine asg rfl rfl ?_
  refine nl ?_
  refine sr ?_
  refine mv rfl rfl ?_
  refine ls Try.runUnderlying99 rfl rfl ?_
  refine mv rfl rfl ?_
  refine nl ?_
  refine drW (.tail .head) ?_
  refine fr ((lT (T.at 4)).length) (fun k1 l' H' L' => ∃ (a_k1 : Option Addr), ∃ (m_k1 : Nat), ∃ (c_k1 : Nat), ∃ (N_k1 : Chunk), [(0, .pointer (some ⟨b, 0, none⟩)), (1, .slice a_k1 m_k1 c_k1), (6, .bool (decide ((0 : Int) ≤ v))), (11, .slice a4 (lT (T.at 4)).length c4), (70, .int .i64 ((lT (T.at 4)).length : Int))] = l' ∧ N_k1 :: L = L' ∧ Row 5 1 a_k1 m_k1 c_k1 (bytesOf (D ++ plainTo (zipped fs_GetTelemetrySubscriptionsResponse v true T) v 4 ++ (counted true false (lT (T.at 4)).length 4) ++ ((lT (T.at 4)).take k1).flatMap (GOf (fs_GetTelemetrySubscriptionsResponse[4]'(by decide)) v true))) N_k1 ∧ m_k1 = (D ++ plainTo (zipped fs_GetTelemetrySubscriptionsResponse v true T) v 4 ++ (counted true false (lT (T.at 4)).length 4) ++ ((lT (T.at 4)).take k1).flatMap (GOf (fs_GetTelemetrySubscriptionsResponse[4]'(by decide)) v true)).length) [(0, .pointer (some ⟨b, 0, none⟩)), (1, .slice _ _ _), (6, .bool (decide ((0 : Int) ≤ v))), (11, .slice a4 (lT (T.at 4)).length c4), (70, .int .i64 ((lT (T.at 4)).length : Int))] (fun k1 l' H' L' h => ?_) (by omega) rfl (.cons rfl (.cons rfl (.cons rfl (.cons rfl (.cons rfl (.nil _)))))) ⟨_, _, _, _, rfl, rfl, (by rw [List.take_zero, List.flatMap_nil, List.append_nil]; exact r64), (by rw [List.take_zero, List.flatMap_nil, List.append_nil])⟩ rfl rfl rfl rfl rfl (fun k1 l' H' L' hk1 le_7 hI => ?_) (fun l' H' L' le_8 hI => ?_)
  · obtain ⟨a_k1, m_k1, c_k1, N_k1, rfl, _⟩ := h; exact ⟨rfl, rfl, rfl, rfl⟩
  · skip
    obtain ⟨a_k1, m_k1, c_k1, N_k1, rfl, rfl, pk10, pk11⟩ := hI
    subst pk11
    refine sr ?_
    refine mv rfl rfl ?_
    refine asg rfl rfl ?_
    refine nl ?_
    refine sr ?_
    refine mv rfl rfl ?_
    refine mv rfl rfl ?_
    obtain ⟨b_9, o_10, e_11, g_12⟩ := (hf0.mono RI8.mono le_7).rows.at_ (ne_nil_of_lt hk1)
    obtain ⟨cs_13, hA_14, hc_15⟩ := g_12 k1 hk1
    refine ix2 Try.runUnderlying99 Try.sizeOf80 rfl e_11 rfl rfl hk1 rfl ?_
    obtain rfl := hA_14
    refine ld (Says.fz hc_15) Try.isAgg80 rfl (Nat.add_zero _).symm rfl rfl ?_
    refine asg rfl rfl ?_
    refine nl ?_
    refine rg ?_
    refine mv rfl rfl ?_
    refine mv rfl rfl ?_
    have hp80 : (GOf (fs_GetTelemetrySubscriptionsResponse[4]'(by decide)) v true) ((lT (T.at 4))[k1]) = fixed (IntKind.i8.wrap ((lT (T.at 4))[k1]).n) 1 := (G_int (f := (fs_GetTelemetrySubscriptionsResponse[4]'(by decide))) (by decide) (by decide) _).trans (fixed_i8 _).symm
    have hs80 := el_size hs64 hk1 hp80
    have ee80 := el_end (B0 := D ++ plainTo (zipped fs_GetTelemetrySubscriptionsResponse v true T) v 4 ++ (counted true false (lT (T.at 4)).length 4)) hk1 hp80
    refine cl rfl rfl rfl (OutK.cast (k_AppendInt8 (u := IntKind.i8.wrap ((lT (T.at 4))[k1]).n) pk10 hs80) ee80) rfl (fun v_ H1 L1 hle hR => ?_)
    obtain ⟨rfl, a80, c80, N80, rfl, rfl, h80⟩ := hR
    have r80 := h80.1
    refine asg rfl rfl ?_
    refine nN ?_
    refine Nb ?_
    refine fun a_ w_ hA hw => ⟨_, _, _, hA.sub ?_, le_7, hw, _, rfl, _, _, _, _, rfl, rfl, r80, rfl⟩
    exact (.cons rfl (.cons rfl (.cons rfl (.cons rfl (.cons rfl (.cons rfl (.nil _)))))))
  · skip
    obtain ⟨a_k1, m_k1, c_k1, N_k1, rfl, rfl, pk10, pk11⟩ := hI
    refine toWp ?_
    have eL64 : D ++ plainTo (zipped fs_GetTelemetrySubscriptionsResponse v true T) v 4 ++ (counted true false (lT (T.at 4)).length 4) ++ ((lT (T.at 4)).take (lT (T.at 4)).length).flatMap (GOf (fs_GetTelemetrySubscriptionsResponse[4]'(by decide)) v true) = D ++ plainTo (zipped fs_GetTelemetrySubscriptionsResponse v true T) v 5 := by rw [List.take_length, List.append_assoc]; exact e_6
    rw [eL64] at pk10 pk11
    subst pk11
    refine sq ?_
    refine sr ?_
    refine mv rfl rfl ?_
    refine nc rfl rfl ?_
    refine fa0 F101_6 rfl rfl ?_
    refine ld (Says.fz (hv.mono le_8)) Try.isAgg21 rfl (Nat.zero_add _).symm rfl rfl ?_
    refine asg rfl rfl ?_
    refine nl ?_
    refine rg ?_
    refine mv rfl rfl ?_
    refine mv rfl rfl ?_
    have ok88 := hok.get 5 (by decide) (has_yes (show (0 : Int) ≤ v by omega) (show ((-1) : Int) < 0 ∨ v ≤ (-1) by omega))
    have e_16 : D ++ plainTo (zipped fs_GetTelemetrySubscriptionsResponse v true T) v 5 ++ (fixed (IntKind.i32.wrap (T.at 5).n) 4) = D ++ plainTo (zipped fs_GetTelemetrySubscriptionsResponse v true T) v 6 := fold_yes (fs := fs_GetTelemetrySubscriptionsResponse) (v := v) (flex := true) (t := T) (B := D) 5 (by decide) (by decide) (has_yes (show (0 : Int) ≤ v by omega) (show ((-1) : Int) < 0 ∨ v ≤ (-1) by omega)) ((FB_int (f := (fs_GetTelemetrySubscriptionsResponse[5]'(by decide))) (by decide) (by decide)).trans (fixed_i32 _).symm)
    have hs88 := fold_size e_16 (by decide) hb
    refine cl rfl rfl rfl (OutK.cast (k_AppendInt32 (u := IntKind.i32.wrap (T.at 5).n) pk10 hs88) e_16) rfl (fun v_ H1 L1 hle hR => ?_)
    obtain ⟨rfl, a88, c88, N88, rfl, rfl, h88⟩ := hR
    have r88 := h88.1
    refine asg rfl rfl ?_
    refine nl ?_
    refine sq ?_
    refine sr ?_
    refine mv rfl rfl ?_
    refine nc rfl rfl ?_
    refine fa0 F101_7 rfl rfl ?_
    refine ld (Says.fz (hv.mono le_8)) Try.isAgg21 rfl (Nat.zero_add _).symm rfl rfl ?_
    refine asg rfl rfl ?_
    refine nl ?_
    refine rg ?_
    refine mv rfl rfl ?_
    refine mv rfl rfl ?_
    have ok95 := hok.get 6 (by decide) (has_yes (show (0 : Int) ≤ v by omega) (show ((-1) : Int) < 0 ∨ v ≤ (-1) by omega))
    have e_17 : D ++ plainTo (zipped fs_GetTelemetrySubscriptionsResponse v true T) v 6 ++ (fixed (IntKind.i32.wrap (T.at 6).n) 4) = D ++ plainTo (zipped fs_GetTelemetrySubscriptionsResponse v true T) v 7 := fold_yes (fs := fs_GetTelemetrySubscriptionsResponse) (v := v) (flex := true) (t := T) (B := D) 6 (by decide) (by decide) (has_yes (show (0 : Int) ≤ v by omega) (show ((-1) : Int) < 0 ∨ v ≤ (-1) by omega)) ((FB_int (f := (fs_GetTelemetrySubscriptionsResponse[6]'(by decide))) (by decide) (by decide)).trans (fixed_i32 _).symm)
    have hs95 := fold_size e_17 (by decide) hb
    refine cl rfl rfl rfl (OutK.cast (k_AppendInt32 (u := IntKind.i32.wrap (T.at 6).n) r88 hs95) e_17) rfl (fun v_ H1 L1 hle hR => ?_)
    obtain ⟨rfl, a95, c95, N95, rfl, rfl, h95⟩ := hR
    have r95 := h95.1
    refine asg rfl rfl ?_
    refine nl ?_
    refine sq ?_
    refine sr ?_
    refine mv rfl rfl ?_
    refine nc rfl rfl ?_
    refine fa0 F101_8 rfl rfl ?_
    refine ld (Says.fz (hv.mono le_8)) Try.isAgg4 rfl (Nat.zero_add _).symm rfl rfl ?_
    refine asg rfl rfl ?_
    refine nl ?_
    refine rg ?_
    refine mv rfl rfl ?_
    refine mv rfl rfl ?_
    have ok102 := hok.get 7 (by decide) (has_yes (show (0 : Int) ≤ v by omega) (show ((-1) : Int) < 0 ∨ v ≤ (-1) by omega))
    have e_18 : D ++ plainTo (zipped fs_GetTelemetrySubscriptionsResponse v true T) v 7 ++ ([if decide ((T.at 7).n % 2 = 1) then 1 else 0] : List UInt8) = D ++ plainTo (zipped fs_GetTelemetrySubscriptionsResponse v true T) v 8 := fold_yes (fs := fs_GetTelemetrySubscriptionsResponse) (v := v) (flex := true) (t := T) (B := D) 7 (by decide) (by decide) (has_yes (show (0 : Int) ≤ v by omega) (show ((-1) : Int) < 0 ∨ v ≤ (-1) by omega)) ((FB_bool (f := (fs_GetTelemetrySubscriptionsResponse[7]'(by decide))) (by decide)).trans (bool_byte _))
    have hs102 := fold_size e_18 (by decide) hb
    refine cl rfl rfl rfl (OutK.cast (k_AppendBool (b := decide ((T.at 7).n % 2 = 1)) r95 hs102) e_18) rfl (fun v_ H1 L1 hle hR => ?_)
    obtain ⟨rfl, a102, c102, N102, rfl, rfl, h102⟩ := hR
    have r102 := h102.1
    refine asg rfl rfl ?_
    refine nl ?_
    refine sq ?_
    refine sr ?_
    refine mv rfl rfl ?_
    refine nc rfl rfl ?_
    refine fa0 F101_9 rfl rfl ?_
    refine ld (Says.fz (hv.mono le_8)) Try.isAgg74 rfl (Nat.zero_add _).symm rfl rfl ?_
    refine asg rfl rfl ?_
    refine nl ?_
    refine sq ?_
    refine sr ?_
    refine mv rfl rfl ?_
    refine nl ?_
    refine cdT rfl (by omega) ?_
    refine rg ?_
    refine mv rfl rfl ?_
    refine mv rfl rfl ?_
    refine ls Try.runUnderlying74 rfl rfl ?_
    have ok111 := hok.get 8 (by decide) (has_yes (show (0 : Int) ≤ v by omega) (show ((-1) : Int) < 0 ∨ v ≤ (-1) by omega))
    have nn111 := ok111.nn (by decide) (by decide)
    have ll111 := lT_len (ok111.len rfl)
    have e_19 : D ++ plainTo (zipped fs_GetTelemetrySubscriptionsResponse v true T) v 8 ++ (counted true false (lT (T.at 8)).length 4 ++ (lT (T.at 8)).flatMap (GOf (fs_GetTelemetrySubscriptionsResponse[8]'(by decide)) v true)) = D ++ plainTo (zipped fs_GetTelemetrySubscriptionsResponse v true T) v 9 := fold_yes (fs := fs_GetTelemetrySubscriptionsResponse) (v := v) (flex := true) (t := T) (B := D) 8 (by decide) (by decide) (has_yes (show (0 : Int) ≤ v by omega) (show ((-1) : Int) < 0 ∨ v ≤ (-1) by omega)) (by rw [FB_list (f := (fs_GetTelemetrySubscriptionsResponse[8]'(by decide))) (by decide) (by decide) ok111, nn111])
    have hs111 := fold_size e_19 (by decide) hb
    have hc111 : (D ++ plainTo (zipped fs_GetTelemetrySubscriptionsResponse v true T) v 8).length + (counted true false (lT (T.at 8)).length 4).length ≤ LIM := by have h := hs111; simp only [List.length_append] at h ⊢; omega
    refine cl rfl rfl rfl (OutK.cast (k_AppendCompactArrayLen (n := (lT (T.at 8)).length) (by omega) r102 hc111) (show _ = D ++ plainTo (zipped fs_GetTelemetrySubscriptionsResponse v true T) v 8 ++ (counted true false (lT (T.at 8)).length 4) from rfl)) rfl (fun v_ H1 L1 hle hR => ?_)
    obtain ⟨rfl, a111, c111, N111, rfl, rfl, h111⟩ := hR
    have r111 := h111.1
    refine asg rfl rfl ?_
    refine nl ?_
    refine sr ?_
    refine mv rfl rfl ?_
    refine ls Try.runUnderlying74 rfl rfl ?_
    refine mv rfl rfl ?_
    refine nl ?_
    refine fr ((lT (T.at 8)).length) (fun k2 l' H' L' => ∃ (a_k2 : Option Addr), ∃ (m_k2 : Nat), ∃ (c_k2 : Nat), ∃ (N_k2 : Chunk), [(0, .pointer (some ⟨b, 0, none⟩)), (1, .slice a_k2 m_k2 c_k2), (6, .bool (decide ((0 : Int) ≤ v))), (17, .slice a8 (lT (T.at 8)).length c8), (117, .int .i64 ((lT (T.at 8)).length : Int))] = l' ∧ N_k2 :: L = L' ∧ Row 5 1 a_k2 m_k2 c_k2 (bytesOf (D ++ plainTo (zipped fs_GetTelemetrySubscriptionsResponse v true T) v 8 ++ (counted true false (lT (T.at 8)).length 4) ++ ((lT (T.at 8)).take k2).flatMap (GOf (fs_GetTelemetrySubscriptionsResponse[8]'(by decide)) v true))) N_k2 ∧ m_k2 = (D ++ plainTo (zipped fs_GetTelemetrySubscriptionsResponse v true T) v 8 ++ (counted true false (lT (T.at 8)).length 4) ++ ((lT (T.at 8)).take k2).flatMap (GOf (fs_GetTelemetrySubscriptionsResponse[8]'(by decide)) v true)).length) [(0, .pointer (some ⟨b, 0, none⟩)), (1, .slice _ _ _), (6, .bool (decide ((0 : Int) ≤ v))), (17, .slice a8 (lT (T.at 8)).length c8), (117, .int .i64 ((lT (T.at 8)).length : Int))] (fun k2 l' H' L' h => ?_) (by omega) rfl (.cons rfl (.cons rfl (.cons rfl (.cons rfl (.cons rfl (.nil _)))))) ⟨_, _, _, _, rfl, rfl, (by rw [List.take_zero, List.flatMap_nil, List.append_nil]; exact r111), (by rw [List.take_zero, List.flatMap_nil, List.append_nil])⟩ rfl rfl rfl rfl rfl (fun k2 l' H' L' hk2 le_20 hI => ?_) (fun l' H' L' le_21 hI => ?_)
    · obtain ⟨a_k2, m_k2, c_k2, N_k2, rfl, _⟩ := h; exact ⟨rfl, rfl, rfl, rfl⟩
    · skip
      obtain ⟨a_k2, m_k2, c_k2, N_k2, rfl, rfl, pk20, pk21⟩ := hI
      subst pk21
      refine sr ?_
      refine mv rfl rfl ?_
      refine asg rfl rfl ?_
      refine nl ?_
      refine sr ?_
      refine mv rfl rfl ?_
      refine mv rfl rfl ?_
      obtain ⟨b_22, o_23, e_24, g_25⟩ := (hf1.mono RText.mono (le_8.trans le_20)).rows.at_ (ne_nil_of_lt hk2)
      obtain ⟨cs_26, hA_27, hc_28⟩ := g_25 k2 hk2
      refine ix2 Try.runUnderlying74 Try.sizeOf9 rfl e_24 rfl rfl hk2 rfl ?_
      obtain rfl := hA_27
      refine ld (Says.fz hc_28) Try.isAgg9 rfl (Nat.add_zero _).symm rfl rfl ?_
      refine asg rfl rfl ?_
      refine nl ?_
      refine sr ?_
      refine mv rfl rfl ?_
      refine nl ?_
      refine cdT rfl (by omega) ?_
      refine rg ?_
      refine mv rfl rfl ?_
      refine mv rfl rfl ?_
      have oe128 := (ok111.el rfl _ (lT_mem (List.getElem_mem hk2))).1 (by decide)
      have hp128 : (GOf (fs_GetTelemetrySubscriptionsResponse[8]'(by decide)) v true) ((lT (T.at 8))[k2]) = counted true false ((lT (T.at 8))[k2]).s.length 2 ++ ((lT (T.at 8))[k2]).s := G_text (f := (fs_GetTelemetrySubscriptionsResponse[8]'(by decide))) (by decide) oe128
      have hs128 := el_size hs111 hk2 hp128
      have ee128 := el_end (B0 := D ++ plainTo (zipped fs_GetTelemetrySubscriptionsResponse v true T) v 8 ++ (counted true false (lT (T.at 8)).length 4)) hk2 hp128
      refine cl rfl rfl rfl (OutK.cast (k_AppendCompactString (x := ((lT (T.at 8))[k2]).s) (by omega) pk20 hs128) ee128) rfl (fun v_ H1 L1 hle hR => ?_)
      obtain ⟨rfl, a128, c128, N128, rfl, rfl, h128⟩ := hR
      have r128 := h128.1
      refine asg rfl rfl ?_
      refine nN ?_
      refine Nb ?_
      refine fun a_ w_ hA hw => ⟨_, _, _, hA.sub ?_, le_20, hw, _, rfl, _, _, _, _, rfl, rfl, r128, rfl⟩
      exact (.cons rfl (.cons rfl (.cons rfl (.cons rfl (.cons rfl (.cons rfl (.nil _)))))))
    · skip
      obtain ⟨a_k2, m_k2, c_k2, N_k2, rfl, rfl, pk20, pk21⟩ := hI
      refine toWp ?_
      have eL111 : D ++ plainTo (zipped fs_GetTelemetrySubscriptionsResponse v true T) v 8 ++ (counted true false (lT (T.at 8)).length 4) ++ ((lT (T.at 8)).take (lT (T.at 8)).length).flatMap (GOf (fs_GetTelemetrySubscriptionsResponse[8]'(by decide)) v true) = D ++ plainTo (zipped fs_GetTelemetrySubscriptionsResponse v true T) v 9 := by rw [List.take_length, List.append_assoc]; exact e_19
      rw [eL111] at pk20 pk21
      subst pk21
      refine sq ?_
      refine sr ?_
      refine mv rfl rfl ?_
      refine nl ?_
      refine cdT rfl (by omega) ?_
      refine sr ?_
      refine mv rfl rfl ?_
      refine mv rfl rfl ?_
      refine nc rfl rfl ?_
      refine fa0 F101_10 rfl rfl ?_
      refine cl rfl rfl rfl (t_lenU (j := 25) (hv.mono (le_8.trans le_21)) rfl (hf2.mono (le_8.trans le_21))) rfl (fun v_ H1 L1 hle hR => ?_)
      obtain ⟨rfl, rfl, rfl⟩ := hR
      have hu138 := hok.u
      have hul138 := hu138.2.1
      obtain ⟨hz138a, hz138b⟩ := part_size_plain (by decide) hu138 hb
      refine cv Try.runUnderlying3 Try.runUnderlying60 rfl (w32u (by omega) (by omega)) rfl ?_
      refine ad rfl rfl ((w32u (by omega) (by omega)).trans (Int.zero_add _)) rfl ?_
      refine cl rfl rfl rfl (k_AppendUvarint (n := T.u.length) (by omega) pk20 hz138a) rfl (fun v_ H1 L1 hle hR => ?_)
      obtain ⟨rfl, a141, c141, N141, rfl, rfl, h141⟩ := hR
      have r141 := h141.1
      refine asg rfl rfl ?_
      refine nl ?_
      refine rg ?_
      refine mv rfl rfl ?_
      refine nc rfl rfl ?_
      refine fa0 F101_10 rfl rfl ?_
      refine mv rfl rfl ?_
      refine cl rfl rfl rfl (t_append_each (j := 25) (hv.mono (le_8.trans le_21)) rfl (hf2.mono (le_8.trans le_21)) (by omega) r141 (fun p hp => by have := hu138.2.2 p hp; omega) hz138b) rfl (fun v_ H1 L1 le_29 hR => ?_)
      obtain ⟨a146, c146, N146, rfl, rfl, h146⟩ := hR
      have r146 := h146.1
      have eP_30 : D ++ plainTo (zipped fs_GetTelemetrySubscriptionsResponse v true T) v 9 ++ uvar T.u.length ++ T.u.flatMap tagU = D ++ partB fs_GetTelemetrySubscriptionsResponse v true T := part_close (B := D) (by decide) hu138
      rw [eP_30] at r146 ⊢
      refine asg rfl rfl ?_
      refine nl ?_
      refine sr ?_
      refine mv rfl rfl ?_
      refine asg rfl rfl ?_
      refine nl ?_
      exact rT rfl rfl (le_8.trans (le_21.trans le_29)) (fun _ _ h => h) (OutB.of r146 rfl)
end Go.Sx

import Derived.Test.YtjpidbdhoiagpaaGreatDoorBUpdateRaftVoterRequest
import Derived.Test.YtjpidbdhoiagpaaGreatDoorKB2
import Derived.Test.YtjpidbdhoiagpaaGreatDoorMkL
import Derived.KernelRfl
set_option linter.unusedVariables false
set_option linter.unusedSimpArgs false
set_option maxRecDepth 100000
set_option maxHeartbeats 20000000
namespace Go.Sx
open Go.Proofs
theorem app_UpdateRaftVoterRequest_t {H : Fz} {L : Own} {a : Option Addr} {cap b : Nat} {D : List UInt8} {N : Chunk} {cs : List Value} {T : Tr} {v : Int} (hr : Row 5 1 a D.length cap (bytesOf D) N) (hv : H.at b 0 cs) (hA : At_UpdateRaftVoterRequest v H T cs) (hok : OkP fs_UpdateRaftVoterRequest v T) (h0 : 0 ≤ v) (h1 : v ≤ 0) (hb : D.length + (partB fs_UpdateRaftVoterRequest v true T).length ≤ LIM) :
  Fn Tryz.prog 204 [.pointer (some ⟨b, 0, none⟩), .slice a D.length cap] H (N :: L) (fun r H' L' => OutB 5 L (D ++ partB fs_UpdateRaftVoterRequest v true T) r L') := by
 obtain ⟨p0, a4, c4, m5_t, mt, rfl, hf0, hf1, hf2, hf3⟩ := hA
 refine Fn.mk Tryz.call204 Tryz.func204 rfl Tryz.ntmps204 rfl ?_
 refine sr ?_
 refine asg rfl rfl ?_
 refine nl ?_
 refine sr ?_
 refine mv rfl rfl ?_
 refine nc rfl rfl ?_
 refine fa0 F104_0 rfl rfl ?_
 refine ld (Says.fz hv) Tryz.isAgg45 rfl (Nat.zero_add _).symm rfl rfl ?_
 refine asg rfl rfl ?_
 refine nl ?_
 refine sr ?_
 refine mv rfl rfl ?_
 refine nl ?_
 refine sr ?_
 refine mv rfl rfl ?_
 refine ge rfl rfl rfl ?_
 refine asg rfl rfl ?_
 refine nl ?_
 refine sr ?_
 refine mv rfl rfl ?_
 refine nl ?_
 refine sq ?_
 refine sr ?_
 refine mv rfl rfl ?_
 refine nc rfl rfl ?_
 refine fa0 F104_1 rfl rfl ?_
 refine ld (Says.fz hv) Tryz.isAgg98 rfl (Nat.zero_add _).symm rfl rfl ?_
 refine asg rfl rfl ?_
 refine nl ?_
 refine sr ?_
 refine mv rfl rfl ?_
 refine nl ?_
 refine cdT rfl (by omega) ?_
 refine rg ?_
 refine mv rfl rfl ?_
 refine mv rfl rfl ?_
 have ok35 := hok.get 0 (by decide) (has_yes (show (0 : Int) ≤ v by omega) (show ((-1) : Int) < 0 ∨ v ≤ (-1) by omega))
 have e_1 : D ++ (counted true (T.at 0).nul (sT (T.at 0)).length 2 ++ sT (T.at 0)) = D ++ plainTo (zipped fs_UpdateRaftVoterRequest v true T) v 1 := fold_first (fs := fs_UpdateRaftVoterRequest) (v := v) (flex := true) (t := T) (B := D) 0 rfl (by decide) (by decide) (has_yes (show (0 : Int) ≤ v by omega) (show ((-1) : Int) < 0 ∨ v ≤ (-1) by omega)) (FB_text (f := (fs_UpdateRaftVoterRequest[0]'(by decide))) (by decide) (by decide) ok35)
 have hs35 := fold_size e_1 (by decide) hb
 refine cl rfl rfl rfl (OutK.cast (k_AppendCompactNullableString hf0 (ok35.s (Or.inl rfl)) hr hs35) e_1) rfl (fun v_ H1 L1 hle hR => ?_)
 obtain ⟨rfl, a35, c35, N35, rfl, rfl, h35⟩ := hR
 have r35 := h35.1
 refine asg rfl rfl ?_
 refine nl ?_
 refine sq ?_
 refine sr ?_
 refine mv rfl rfl ?_
 refine nc rfl rfl ?_
 refine fa0 F104_2 rfl rfl ?_
 refine ld (Says.fz hv) Tryz.isAgg21 rfl (Nat.zero_add _).symm rfl rfl ?_
 refine asg rfl rfl ?_
 refine nl ?_
 refine rg ?_
 refine mv rfl rfl ?_
 refine mv rfl rfl ?_
 have ok45 := hok.get 1 (by decide) (has_yes (show (0 : Int) ≤ v by omega) (show ((-1) : Int) < 0 ∨ v ≤ (-1) by omega))
 have e_2 : D ++ plainTo (zipped fs_UpdateRaftVoterRequest v true T) v 1 ++ (fixed (IntKind.i32.wrap (T.at 1).n) 4) = D ++ plainTo (zipped fs_UpdateRaftVoterRequest v true T) v 2 := fold_yes (fs := fs_UpdateRaftVoterRequest) (v := v) (flex := true) (t := T) (B := D) 1 (by decide) (by decide) (has_yes (show (0 : Int) ≤ v by omega) (show ((-1) : Int) < 0 ∨ v ≤ (-1) by omega)) ((FB_int (f := (fs_UpdateRaftVoterRequest[1]'(by decide))) (by decide) (by decide)).trans (fixed_i32 _).symm)
 have hs45 := fold_size e_2 (by decide) hb
 refine cl rfl rfl rfl (OutK.cast (k_AppendInt32 (u := IntKind.i32.wrap (T.at 1).n) r35 hs45) e_2) rfl (fun v_ H1 L1 hle hR => ?_)
 obtain ⟨rfl, a45, c45, N45, rfl, rfl, h45⟩ := hR
 have r45 := h45.1
 refine asg rfl rfl ?_
 refine nl ?_
 refine sq ?_
 refine sr ?_
 refine mv rfl rfl ?_
 refine nc rfl rfl ?_
 refine fa0 F104_3 rfl rfl ?_
 refine ld (Says.fz hv) Tryz.isAgg21 rfl (Nat.zero_add _).symm rfl rfl ?_
 refine asg rfl rfl ?_
 refine nl ?_
 refine rg ?_
 refine mv rfl rfl ?_
 refine mv rfl rfl ?_
 have ok52 := hok.get 2 (by decide) (has_yes (show (0 : Int) ≤ v by omega) (show ((-1) : Int) < 0 ∨ v ≤ (-1) by omega))
 have e_3 : D ++ plainTo (zipped fs_UpdateRaftVoterRequest v true T) v 2 ++ (fixed (IntKind.i32.wrap (T.at 2).n) 4) = D ++ plainTo (zipped fs_UpdateRaftVoterRequest v true T) v 3 := fold_yes (fs := fs_UpdateRaftVoterRequest) (v := v) (flex := true) (t := T) (B := D) 2 (by decide) (by decide) (has_yes (show (0 : Int) ≤ v by omega) (show ((-1) : Int) < 0 ∨ v ≤ (-1) by omega)) ((FB_int (f := (fs_UpdateRaftVoterRequest[2]'(by decide))) (by decide) (by decide)).trans (fixed_i32 _).symm)
 have hs52 := fold_size e_3 (by decide) hb
 refine cl rfl rfl rfl (OutK.cast (k_AppendInt32 (u := IntKind.i32.wrap (T.at 2).n) r45 hs52) e_3) rfl (fun v_ H1 L1 hle hR => ?_)
 obtain ⟨rfl, a52, c52, N52, rfl, rfl, h52⟩ := hR
 have r52 := h52.1
 refine asg rfl rfl ?_
 refine nl ?_
 refine sq ?_
 refine sr ?_
 refine mv rfl rfl ?_
 refine nc rfl rfl ?_
 refine fa0 F104_4 rfl rfl ?_
 refine la (Says.fz hv) Tryz.isAgg99 Tryz.sizeOf99 rfl (Nat.zero_add _).symm rfl rfl ?_
 refine al Tryz.zeroValue99 rfl rfl (fun b_4 => ?_)
 refine sa Tryz.sizeOf99 rfl rfl rfl rfl rfl .head ?_
 refine nl ?_
 refine rg ?_
 refine mv rfl rfl ?_
 refine la (Says.own .head) Tryz.isAgg99 Tryz.sizeOf99 rfl (Nat.zero_add _).symm rfl rfl ?_
 refine tf (.tail .head) ?_
 have ok59 := hok.get 3 (by decide) (has_yes (show (0 : Int) ≤ v by omega) (show ((-1) : Int) < 0 ∨ v ≤ (-1) by omega))
 have e_5 : D ++ plainTo (zipped fs_UpdateRaftVoterRequest v true T) v 3 ++ (pad16 (T.at 3).s) = D ++ plainTo (zipped fs_UpdateRaftVoterRequest v true T) v 4 := fold_yes (fs := fs_UpdateRaftVoterRequest) (v := v) (flex := true) (t := T) (B := D) 3 (by decide) (by decide) (has_yes (show (0 : Int) ≤ v by omega) (show ((-1) : Int) < 0 ∨ v ≤ (-1) by omega)) (FB_uuid (f := (fs_UpdateRaftVoterRequest[3]'(by decide))) (by decide))
 have hs59 := fold_size e_5 (by decide) hb
 refine cl rfl rfl rfl (OutK.cast (k_AppendUuid (x := (T.at 3).s) r52 hs59) e_5) rfl (fun v_ H1 L1 hle hR => ?_)
 obtain ⟨rfl, a59, c59, N59, rfl, rfl, h59⟩ := hR
 have r59 := h59.1
 refine asg rfl rfl ?_
 refine nl ?_
 refine sq ?_
 refine sr ?_
 refine mv rfl rfl ?_
 refine nc rfl rfl ?_
 refine fa0 F104_5 rfl rfl ?_
 refine ld (Says.fz hv) Tryz.isAgg100 rfl (Nat.zero_add _).symm rfl rfl ?_
 refine asg rfl rfl ?_
 refine nl ?_
 refine sq ?_
 refine sr ?_
 refine mv rfl rfl ?_
 refine nl ?_
 refine cdT rfl (by omega) ?_
 refine rg ?_
 refine mv rfl rfl ?_
 refine mv rfl rfl ?_
 refine ls Tryz.runUnderlying100 rfl rfl ?_
 have ok68 := hok.get 4 (by decide) (has_yes (show (0 : Int) ≤ v by omega) (show ((-1) : Int) < 0 ∨ v ≤ (-1) by omega))
 have ll68 := lT_len (ok68.len rfl)
 have e_6 : D ++ plainTo (zipped fs_UpdateRaftVoterRequest v true T) v 4 ++ (counted true false (lT (T.at 4)).length 4 ++ (lT (T.at 4)).flatMap (GOf (fs_UpdateRaftVoterRequest[4]'(by decide)) v true)) = D ++ plainTo (zipped fs_UpdateRaftVoterRequest v true T) v 5 := fold_yes (fs := fs_UpdateRaftVoterRequest) (v := v) (flex := true) (t := T) (B := D) 4 (by decide) (by decide) (has_yes (show (0 : Int) ≤ v by omega) (show ((-1) : Int) < 0 ∨ v ≤ (-1) by omega)) (FB_list0 (f := (fs_UpdateRaftVoterRequest[4]'(by decide))) (by decide) (by decide) (by decide) ok68)
 have hs68 := fold_size e_6 (by decide) hb
 have hc68 : (D ++ plainTo (zipped fs_UpdateRaftVoterRequest v true T) v 4).length + (counted true false (lT (T.at 4)).length 4).length ≤ LIM := by have h := hs68; simp only [List.length_append] at h ⊢; omega
 refine cl rfl rfl rfl (OutK.cast (k_AppendCompactArrayLen (n := (lT (T.at 4)).length) (by omega) r59 hc68) (show _ = D ++ plainTo (zipped fs_UpdateRaftVoterRequest v true T) v 4 ++ (counted true false (lT (T.at 4)).length 4) from rfl)) rfl (fun v_ H1 L1 hle hR => ?_)
 obtain ⟨rfl, a68, c68, N68, rfl, rfl, h68⟩ := hR
 have r68 := h68.1
 refine asg rfl rfl ?_
 refine nl ?_
 refine sr ?_
 refine mv rfl rfl ?_
 refine ls Tryz.runUnderlying100 rfl rfl ?_
 refine mv rfl rfl ?_
 refine nl ?_
 refine drW (.tail .head) ?_
 refine fr ((lT (T.at 4)).length) (fun k1 l' H' L' => ∃ (a_k1 : Option Addr), ∃ (m_k1 : Nat), ∃ (c_k1 : Nat), ∃ (N_k1 : Chunk), [(0, .pointer (some ⟨b, 0, none⟩)), (1, .slice a_k1 m_k1 c_k1), (6, .bool (decide ((0 : Int) ≤ v))), (11, .slice a4 (lT (T.at 4)).length c4), (74, .int .i64 ((lT (T.at 4)).length : Int))] = l' ∧ N_k1 :: L = L' ∧ Row 5 1 a_k1 m_k1 c_k1 (bytesOf (D ++ plainTo (zipped fs_UpdateRaftVoterRequest v true T) v 4 ++ (counted true false (lT (T.at 4)).length 4) ++ ((lT (T.at 4)).take k1).flatMap (GOf (fs_UpdateRaftVoterRequest[4]'(by decide)) v true))) N_k1 ∧ m_k1 = (D ++ plainTo (zipped fs_UpdateRaftVoterRequest v true T) v 4 ++ (counted true false (lT (T.at 4)).length 4) ++ ((lT (T.at 4)).take k1).flatMap (GOf (fs_UpdateRaftVoterRequest[4]'(by decide)) v true)).length) [(0, .pointer (some ⟨b, 0, none⟩)), (1, .slice _ _ _), (6, .bool (decide ((0 : Int) ≤ v))), (11, .slice a4 (lT (T.at 4)).length c4), (74, .int .i64 ((lT (T.at 4)).length : Int))] (fun k1 l' H' L' h => ?_) (by omega) rfl (.of ⟨rfl, rfl, rfl, rfl, rfl, trivial⟩) ⟨_, _, _, _, rfl, rfl, (by rw [List.take_zero, List.flatMap_nil, List.append_nil]; exact r68), (by rw [List.take_zero, List.flatMap_nil, List.append_nil])⟩ rfl rfl rfl rfl rfl (fun k1 l' H' L' hk1 le_7 hI => ?_) (fun l' H' L' le_8 hI => ?_)
 · obtain ⟨a_k1, m_k1, c_k1, N_k1, rfl, _⟩ := h; exact ⟨rfl, rfl, rfl, rfl⟩
 ·
  obtain ⟨a_k1, m_k1, c_k1, N_k1, rfl, rfl, pk10, pk11⟩ := hI
  subst pk11
  refine sr ?_
  refine mv rfl rfl ?_
  refine asg rfl rfl ?_
  refine nl ?_
  refine sr ?_
  refine mv rfl rfl ?_
  refine mv rfl rfl ?_
  obtain ⟨b_9, o_10, e_11, g_12⟩ := (hf1.mono At_UpdateRaftVoterRequestListener.mono le_7).rows.at_ (ne_nil_of_lt hk1)
  obtain ⟨cs_13, hA_14, hc_15⟩ := g_12 k1 hk1
  refine ix2 Tryz.runUnderlying100 Tryz.sizeOf157 rfl e_11 rfl rfl hk1 rfl ?_
  obtain ⟨m_k1_t, rfl, hf_k1_0⟩ := hA_14
  have oek1 := (ok68.el rfl _ (lT_mem (List.getElem_mem hk1))).2 rfl
  obtain ⟨B_k1, hdk1⟩ : ∃ z : List UInt8, z = D ++ plainTo (zipped fs_UpdateRaftVoterRequest v true T) v 4 ++ (counted true false (lT (T.at 4)).length 4) ++ ((lT (T.at 4)).take k1).flatMap (GOf (fs_UpdateRaftVoterRequest[4]'(by decide)) v true) := ⟨_, rfl⟩
  have rbk1 := pk10
  rw [← hdk1] at rbk1 ⊢
  have hBk1 : B_k1.length + (partB fs_sUpdateRaftVoterRequestListener v true ((lT (T.at 4))[k1])).length ≤ LIM := by rw [hdk1]; exact el_size hs68 hk1 (GOf_part (by decide) _)
  refine asg rfl rfl ?_
  refine nl ?_
  refine sq ?_
  refine sr ?_
  refine mv rfl rfl ?_
  refine nc rfl rfl ?_
  refine fa F157_0 rfl rfl ?_
  refine ld (Says.fz hc_15) Tryz.isAgg9 rfl (Nat.add_zero _).symm rfl rfl ?_
  refine asg rfl rfl ?_
  refine nl ?_
  refine sr ?_
  refine mv rfl rfl ?_
  refine nl ?_
  refine cdT rfl (by omega) ?_
  refine rg ?_
  refine mv rfl rfl ?_
  refine mv rfl rfl ?_
  have ok88 := oek1.get 0 (by decide) (has_yes (show (0 : Int) ≤ v by omega) (show ((-1) : Int) < 0 ∨ v ≤ (-1) by omega))
  have nn88 := ok88.nn (by decide) (by decide) (by decide)
  have e_16 : B_k1 ++ (counted true false (((lT (T.at 4))[k1]).at 0).s.length 2 ++ (((lT (T.at 4))[k1]).at 0).s) = B_k1 ++ plainTo (zipped fs_sUpdateRaftVoterRequestListener v true ((lT (T.at 4))[k1])) v 1 := fold_first (fs := fs_sUpdateRaftVoterRequestListener) (v := v) (flex := true) (t := ((lT (T.at 4))[k1])) (B := B_k1) 0 rfl (by decide) (by decide) (has_yes (show (0 : Int) ≤ v by omega) (show ((-1) : Int) < 0 ∨ v ≤ (-1) by omega)) (by rw [FB_text (f := (fs_sUpdateRaftVoterRequestListener[0]'(by decide))) (by decide) (by decide) ok88, sT_nn nn88, nn88])
  have hs88 := fold_size e_16 (by decide) hBk1
  refine cl rfl rfl rfl (OutK.cast (k_AppendCompactString (x := (((lT (T.at 4))[k1]).at 0).s) (by have := ok88.s (Or.inl rfl); omega) rbk1 hs88) e_16) rfl (fun v_ H1 L1 hle hR => ?_)
  obtain ⟨rfl, a88, c88, N88, rfl, rfl, h88⟩ := hR
  have r88 := h88.1
  refine asg rfl rfl ?_
  refine nl ?_
  refine sq ?_
  refine sr ?_
  refine mv rfl rfl ?_
  refine nc rfl rfl ?_
  refine fa F157_1 rfl rfl ?_
  refine ld (Says.fz hc_15) Tryz.isAgg9 rfl rfl rfl rfl ?_
  refine asg rfl rfl ?_
  refine nl ?_
  refine sr ?_
  refine mv rfl rfl ?_
  refine nl ?_
  refine cdT rfl (by omega) ?_
  refine rg ?_
  refine mv rfl rfl ?_
  refine mv rfl rfl ?_
  have ok99 := oek1.get 1 (by decide) (has_yes (show (0 : Int) ≤ v by omega) (show ((-1) : Int) < 0 ∨ v ≤ (-1) by omega))
  have nn99 := ok99.nn (by decide) (by decide) (by decide)
  have e_17 : B_k1 ++ plainTo (zipped fs_sUpdateRaftVoterRequestListener v true ((lT (T.at 4))[k1])) v 1 ++ (counted true false (((lT (T.at 4))[k1]).at 1).s.length 2 ++ (((lT (T.at 4))[k1]).at 1).s) = B_k1 ++ plainTo (zipped fs_sUpdateRaftVoterRequestListener v true ((lT (T.at 4))[k1])) v 2 := fold_yes (fs := fs_sUpdateRaftVoterRequestListener) (v := v) (flex := true) (t := ((lT (T.at 4))[k1])) (B := B_k1) 1 (by decide) (by decide) (has_yes (show (0 : Int) ≤ v by omega) (show ((-1) : Int) < 0 ∨ v ≤ (-1) by omega)) (by rw [FB_text (f := (fs_sUpdateRaftVoterRequestListener[1]'(by decide))) (by decide) (by decide) ok99, sT_nn nn99, nn99])
  have hs99 := fold_size e_17 (by decide) hBk1
  refine cl rfl rfl rfl (OutK.cast (k_AppendCompactString (x := (((lT (T.at 4))[k1]).at 1).s) (by have := ok99.s (Or.inl rfl); omega) r88 hs99) e_17) rfl (fun v_ H1 L1 hle hR => ?_)
  obtain ⟨rfl, a99, c99, N99, rfl, rfl, h99⟩ := hR
  have r99 := h99.1
  refine asg rfl rfl ?_
  refine nl ?_
  refine sq ?_
  refine sr ?_
  refine mv rfl rfl ?_
  refine nc rfl rfl ?_
  refine fa F157_2 rfl rfl ?_
  refine ld (Says.fz hc_15) Tryz.isAgg155 rfl rfl rfl rfl ?_
  refine asg rfl rfl ?_
  refine nl ?_
  refine rg ?_
  refine mv rfl rfl ?_
  refine mv rfl rfl ?_
  have ok109 := oek1.get 2 (by decide) (has_yes (show (0 : Int) ≤ v by omega) (show ((-1) : Int) < 0 ∨ v ≤ (-1) by omega))
  have e_18 : B_k1 ++ plainTo (zipped fs_sUpdateRaftVoterRequestListener v true ((lT (T.at 4))[k1])) v 2 ++ (fixed (IntKind.u16.wrap (((lT (T.at 4))[k1]).at 2).n) 2) = B_k1 ++ plainTo (zipped fs_sUpdateRaftVoterRequestListener v true ((lT (T.at 4))[k1])) v 3 := fold_yes (fs := fs_sUpdateRaftVoterRequestListener) (v := v) (flex := true) (t := ((lT (T.at 4))[k1])) (B := B_k1) 2 (by decide) (by decide) (has_yes (show (0 : Int) ≤ v by omega) (show ((-1) : Int) < 0 ∨ v ≤ (-1) by omega)) ((FB_int (f := (fs_sUpdateRaftVoterRequestListener[2]'(by decide))) (by decide) (by decide)).trans (fixed_u16 _).symm)
  have hs109 := fold_size e_18 (by decide) hBk1
  refine cl rfl rfl rfl (OutK.cast (k_AppendUint16 (u := IntKind.u16.wrap (((lT (T.at 4))[k1]).at 2).n) r99 hs109) e_18) rfl (fun v_ H1 L1 hle hR => ?_)
  obtain ⟨rfl, a109, c109, N109, rfl, rfl, h109⟩ := hR
  have r109 := h109.1
  refine asg rfl rfl ?_
  refine nl ?_
  refine sr ?_
  refine mv rfl rfl ?_
  refine nl ?_
  refine cdT rfl (by omega) ?_
  refine sr ?_
  refine mv rfl rfl ?_
  refine mv rfl rfl ?_
  refine nc rfl rfl ?_
  refine fa F157_3 rfl rfl ?_
  refine cl rfl rfl rfl (t_lenU (j := 3) hc_15 rfl hf_k1_0) rfl (fun v_ H1 L1 hle hR => ?_)
  obtain ⟨rfl, rfl, rfl⟩ := hR
  have hu115 := oek1.u
  have hul115 := hu115.2.1
  obtain ⟨hz115a, hz115b⟩ := part_size_plain (by decide) hu115 hBk1
  refine cv Tryz.runUnderlying3 Tryz.runUnderlying67 rfl (w32u (by omega) (by omega)) rfl ?_
  refine ad rfl rfl ((w32u (by omega) (by omega)).trans (Int.zero_add _)) rfl ?_
  refine cl rfl rfl rfl (k_AppendUvarint (n := ((lT (T.at 4))[k1]).u.length) (by omega) r109 hz115a) rfl (fun v_ H1 L1 hle hR => ?_)
  obtain ⟨rfl, a118, c118, N118, rfl, rfl, h118⟩ := hR
  have r118 := h118.1
  refine asg rfl rfl ?_
  refine nl ?_
  refine rg ?_
  refine mv rfl rfl ?_
  refine nc rfl rfl ?_
  refine fa F157_3 rfl rfl ?_
  refine mv rfl rfl ?_
  refine cl rfl rfl rfl (t_append_each (j := 3) hc_15 rfl hf_k1_0 (by omega) r118 (fun p hp => by have := hu115.2.2 p hp; omega) hz115b) rfl (fun v_ H1 L1 le_19 hR => ?_)
  obtain ⟨a123, c123, N123, rfl, rfl, h123⟩ := hR
  have r123 := h123.1
  have eP_20 : B_k1 ++ plainTo (zipped fs_sUpdateRaftVoterRequestListener v true ((lT (T.at 4))[k1])) v 3 ++ uvar ((lT (T.at 4))[k1]).u.length ++ ((lT (T.at 4))[k1]).u.flatMap tagU = B_k1 ++ partB fs_sUpdateRaftVoterRequestListener v true ((lT (T.at 4))[k1]) := part_close (B := B_k1) (by decide) hu115
  rw [eP_20] at r123 ⊢
  refine asg rfl rfl ?_
  refine nN ?_
  refine Nb ?_
  have ee_21 : B_k1 ++ partB fs_sUpdateRaftVoterRequestListener v true ((lT (T.at 4))[k1]) = D ++ plainTo (zipped fs_UpdateRaftVoterRequest v true T) v 4 ++ (counted true false (lT (T.at 4)).length 4) ++ ((lT (T.at 4)).take (k1 + 1)).flatMap (GOf (fs_UpdateRaftVoterRequest[4]'(by decide)) v true) := by rw [hdk1]; exact el_end (B0 := D ++ plainTo (zipped fs_UpdateRaftVoterRequest v true T) v 4 ++ (counted true false (lT (T.at 4)).length 4)) (G := (GOf (fs_UpdateRaftVoterRequest[4]'(by decide)) v true)) hk1 (GOf_part (by decide) _)
  refine fun a_ w_ hA hw => ⟨_, _, _, hA.sub ?_, (le_7.trans le_19), hw, _, rfl, _, _, _, _, rfl, rfl, (by rw [← ee_21]; exact r123), (by rw [← ee_21])⟩
  exact (.of ⟨rfl, rfl, rfl, rfl, rfl, rfl, trivial⟩)
 ·
  obtain ⟨a_k1, m_k1, c_k1, N_k1, rfl, rfl, pk10, pk11⟩ := hI
  refine toWp ?_
  have eL68 : D ++ plainTo (zipped fs_UpdateRaftVoterRequest v true T) v 4 ++ (counted true false (lT (T.at 4)).length 4) ++ ((lT (T.at 4)).take (lT (T.at 4)).length).flatMap (GOf (fs_UpdateRaftVoterRequest[4]'(by decide)) v true) = D ++ plainTo (zipped fs_UpdateRaftVoterRequest v true T) v 5 := by rw [List.take_length, List.append_assoc]; exact e_6
  rw [eL68] at pk10 pk11
  subst pk11
  refine sq ?_
  refine sr ?_
  refine mv rfl rfl ?_
  refine nc rfl rfl ?_
  refine fa0 F104_6 rfl rfl ?_
  refine asg rfl rfl ?_
  refine nl ?_
  refine sq ?_
  refine sr ?_
  refine mv rfl rfl ?_
  refine nc rfl rfl ?_
  refine fa F102_0 rfl rfl ?_
  refine ld (Says.fz (hv.mono le_8)) Tryz.isAgg45 rfl (Nat.zero_add _).symm rfl rfl ?_
  refine asg rfl rfl ?_
  refine nl ?_
  refine rg ?_
  refine mv rfl rfl ?_
  refine mv rfl rfl ?_
  have e_22 : D ++ plainTo (zipped fs_UpdateRaftVoterRequest v true T) v 5 ++ (partB fs_sUpdateRaftVoterRequestKRaftVersionFeature v true (T.at 5)) = D ++ plainTo (zipped fs_UpdateRaftVoterRequest v true T) v 6 := fold_yes (fs := fs_UpdateRaftVoterRequest) (v := v) (flex := true) (t := T) (B := D) 5 (by decide) (by decide) (has_yes (show (0 : Int) ≤ v by omega) (show ((-1) : Int) < 0 ∨ v ≤ (-1) by omega)) (FB_part (f := (fs_UpdateRaftVoterRequest[5]'(by decide))) (by decide) (by decide))
  have hB_23 : (D ++ plainTo (zipped fs_UpdateRaftVoterRequest v true T) v 5).length + (partB fs_sUpdateRaftVoterRequestKRaftVersionFeature v true (T.at 5)).length ≤ LIM := fold_size e_22 (by decide) hb
  have ok_24f := (hok.get 5 (by decide) (has_yes (show (0 : Int) ≤ v by omega) (show ((-1) : Int) < 0 ∨ v ≤ (-1) by omega)))
  have ok_24 : OkP fs_sUpdateRaftVoterRequestKRaftVersionFeature v (T.at 5) := ok_24f.part rfl (ok_24f.nn (by decide) (by decide) (by decide))
  obtain ⟨B_25, hdB_25⟩ : ∃ z : List UInt8, z = D ++ plainTo (zipped fs_UpdateRaftVoterRequest v true T) v 5 := ⟨_, rfl⟩
  have rbB_25 := pk10
  rw [← hdB_25] at rbB_25 ⊢
  rw [← hdB_25] at hB_23 e_22
  have ok134 := ok_24.get 0 (by decide) (has_yes (show (0 : Int) ≤ v by omega) (show ((-1) : Int) < 0 ∨ v ≤ (-1) by omega))
  have e_26 : B_25 ++ (fixed (IntKind.i16.wrap ((T.at 5).at 0).n) 2) = B_25 ++ plainTo (zipped fs_sUpdateRaftVoterRequestKRaftVersionFeature v true (T.at 5)) v 1 := fold_first (fs := fs_sUpdateRaftVoterRequestKRaftVersionFeature) (v := v) (flex := true) (t := (T.at 5)) (B := B_25) 0 rfl (by decide) (by decide) (has_yes (show (0 : Int) ≤ v by omega) (show ((-1) : Int) < 0 ∨ v ≤ (-1) by omega)) ((FB_int (f := (fs_sUpdateRaftVoterRequestKRaftVersionFeature[0]'(by decide))) (by decide) (by decide)).trans (fixed_i16 _).symm)
  have hs134 := fold_size e_26 (by decide) hB_23
  refine cl rfl rfl rfl (OutK.cast (k_AppendInt16 (u := IntKind.i16.wrap ((T.at 5).at 0).n) rbB_25 hs134) e_26) rfl (fun v_ H1 L1 hle hR => ?_)
  obtain ⟨rfl, a134, c134, N134, rfl, rfl, h134⟩ := hR
  have r134 := h134.1
  refine asg rfl rfl ?_
  refine nl ?_
  refine sq ?_
  refine sr ?_
  refine mv rfl rfl ?_
  refine nc rfl rfl ?_
  refine fa F102_1 rfl rfl ?_
  refine ld (Says.fz (hv.mono le_8)) Tryz.isAgg45 rfl (Nat.zero_add _).symm rfl rfl ?_
  refine asg rfl rfl ?_
  refine nl ?_
  refine rg ?_
  refine mv rfl rfl ?_
  refine mv rfl rfl ?_
  have ok141 := ok_24.get 1 (by decide) (has_yes (show (0 : Int) ≤ v by omega) (show ((-1) : Int) < 0 ∨ v ≤ (-1) by omega))
  have e_27 : B_25 ++ plainTo (zipped fs_sUpdateRaftVoterRequestKRaftVersionFeature v true (T.at 5)) v 1 ++ (fixed (IntKind.i16.wrap ((T.at 5).at 1).n) 2) = B_25 ++ plainTo (zipped fs_sUpdateRaftVoterRequestKRaftVersionFeature v true (T.at 5)) v 2 := fold_yes (fs := fs_sUpdateRaftVoterRequestKRaftVersionFeature) (v := v) (flex := true) (t := (T.at 5)) (B := B_25) 1 (by decide) (by decide) (has_yes (show (0 : Int) ≤ v by omega) (show ((-1) : Int) < 0 ∨ v ≤ (-1) by omega)) ((FB_int (f := (fs_sUpdateRaftVoterRequestKRaftVersionFeature[1]'(by decide))) (by decide) (by decide)).trans (fixed_i16 _).symm)
  have hs141 := fold_size e_27 (by decide) hB_23
  refine cl rfl rfl rfl (OutK.cast (k_AppendInt16 (u := IntKind.i16.wrap ((T.at 5).at 1).n) r134 hs141) e_27) rfl (fun v_ H1 L1 hle hR => ?_)
  obtain ⟨rfl, a141, c141, N141, rfl, rfl, h141⟩ := hR
  have r141 := h141.1
  refine asg rfl rfl ?_
  refine nl ?_
  refine sr ?_
  refine mv rfl rfl ?_
  refine nl ?_
  refine cdT rfl (by omega) ?_
  refine sr ?_
  refine mv rfl rfl ?_
  refine mv rfl rfl ?_
  refine nc rfl rfl ?_
  refine fa F102_2 rfl rfl ?_
  refine cl rfl rfl rfl (t_lenU (j := 23) (hv.mono le_8) rfl (hf2.mono le_8)) rfl (fun v_ H1 L1 hle hR => ?_)
  obtain ⟨rfl, rfl, rfl⟩ := hR
  have hu147 := ok_24.u
  have hul147 := hu147.2.1
  obtain ⟨hz147a, hz147b⟩ := part_size_plain (by decide) hu147 hB_23
  refine cv Tryz.runUnderlying3 Tryz.runUnderlying67 rfl (w32u (by omega) (by omega)) rfl ?_
  refine ad rfl rfl ((w32u (by omega) (by omega)).trans (Int.zero_add _)) rfl ?_
  refine cl rfl rfl rfl (k_AppendUvarint (n := (T.at 5).u.length) (by omega) r141 hz147a) rfl (fun v_ H1 L1 hle hR => ?_)
  obtain ⟨rfl, a150, c150, N150, rfl, rfl, h150⟩ := hR
  have r150 := h150.1
  refine asg rfl rfl ?_
  refine nl ?_
  refine rg ?_
  refine mv rfl rfl ?_
  refine nc rfl rfl ?_
  refine fa F102_2 rfl rfl ?_
  refine mv rfl rfl ?_
  refine cl rfl rfl rfl (t_append_each (j := 23) (hv.mono le_8) rfl (hf2.mono le_8) (by omega) r150 (fun p hp => by have := hu147.2.2 p hp; omega) hz147b) rfl (fun v_ H1 L1 le_28 hR => ?_)
  obtain ⟨a155, c155, N155, rfl, rfl, h155⟩ := hR
  have r155 := h155.1
  have eP_29 : B_25 ++ plainTo (zipped fs_sUpdateRaftVoterRequestKRaftVersionFeature v true (T.at 5)) v 2 ++ uvar (T.at 5).u.length ++ (T.at 5).u.flatMap tagU = B_25 ++ partB fs_sUpdateRaftVoterRequestKRaftVersionFeature v true (T.at 5) := part_close (B := B_25) (by decide) hu147
  rw [eP_29] at r155 ⊢
  refine asg rfl rfl ?_
  refine nl ?_
  refine sq ?_
  refine sr ?_
  refine mv rfl rfl ?_
  refine nl ?_
  refine cdT rfl (by omega) ?_
  refine sr ?_
  refine mv rfl rfl ?_
  refine mv rfl rfl ?_
  refine nc rfl rfl ?_
  refine fa0 F104_7 rfl rfl ?_
  have rp_30 := r155
  rw [e_22] at rp_30 ⊢
  refine cl rfl rfl rfl (t_lenU (j := 24) (hv.mono (le_8.trans le_28)) rfl (hf3.mono (le_8.trans le_28))) rfl (fun v_ H1 L1 hle hR => ?_)
  obtain ⟨rfl, rfl, rfl⟩ := hR
  have hu161 := hok.u
  have hul161 := hu161.2.1
  obtain ⟨hz161a, hz161b⟩ := part_size_plain (by decide) hu161 hb
  refine cv Tryz.runUnderlying3 Tryz.runUnderlying67 rfl (w32u (by omega) (by omega)) rfl ?_
  refine ad rfl rfl ((w32u (by omega) (by omega)).trans (Int.zero_add _)) rfl ?_
  refine cl rfl rfl rfl (k_AppendUvarint (n := T.u.length) (by omega) rp_30 hz161a) rfl (fun v_ H1 L1 hle hR => ?_)
  obtain ⟨rfl, a164, c164, N164, rfl, rfl, h164⟩ := hR
  have r164 := h164.1
  refine asg rfl rfl ?_
  refine nl ?_
  refine rg ?_
  refine mv rfl rfl ?_
  refine nc rfl rfl ?_
  refine fa0 F104_7 rfl rfl ?_
  refine mv rfl rfl ?_
  refine cl rfl rfl rfl (t_append_each (j := 24) (hv.mono (le_8.trans le_28)) rfl (hf3.mono (le_8.trans le_28)) (by omega) r164 (fun p hp => by have := hu161.2.2 p hp; omega) hz161b) rfl (fun v_ H1 L1 le_31 hR => ?_)
  obtain ⟨a169, c169, N169, rfl, rfl, h169⟩ := hR
  have r169 := h169.1
  have eP_32 : D ++ plainTo (zipped fs_UpdateRaftVoterRequest v true T) v 6 ++ uvar T.u.length ++ T.u.flatMap tagU = D ++ partB fs_UpdateRaftVoterRequest v true T := part_close (B := D) (by decide) hu161
  rw [eP_32] at r169 ⊢
  refine asg rfl rfl ?_
  refine nl ?_
  refine sr ?_
  refine mv rfl rfl ?_
  refine asg rfl rfl ?_
  refine nl ?_
  exact rT rfl rfl (le_8.trans (le_28.trans le_31)) (fun _ _ h => h) (OutB.of r169 rfl)
end Go.Sx

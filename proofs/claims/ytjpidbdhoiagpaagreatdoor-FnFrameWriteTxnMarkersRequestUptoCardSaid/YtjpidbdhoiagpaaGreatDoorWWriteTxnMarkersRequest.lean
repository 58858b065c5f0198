import Derived.Test.YtjpidbdhoiagpaaGreatDoorBWriteTxnMarkersRequest
import Derived.Test.YtjpidbdhoiagpaaGreatDoorKB2
import Derived.Test.YtjpidbdhoiagpaaGreatDoorMkL
import Derived.KernelRfl
set_option linter.unusedVariables false
set_option linter.unusedSimpArgs false
set_option maxRecDepth 100000
set_option maxHeartbeats 20000000
namespace Go.Sx
open Go.Proofs
theorem app_WriteTxnMarkersRequest_f {H : Fz} {L : Own} {a : Option Addr} {cap b : Nat} {D : List UInt8} {N : Chunk} {cs : List Value} {T : Tr} {v : Int} (hr : Row 5 1 a D.length cap (bytesOf D) N) (hv : H.at b 0 cs) (hA : At_WriteTxnMarkersRequest v H T cs) (hok : OkP fs_WriteTxnMarkersRequest v T) (h0 : 0 ≤ v) (h1 : v ≤ 0) (hb : D.length + (partB fs_WriteTxnMarkersRequest v false T).length ≤ LIM) :
  Fn Tryz.prog 197 [.pointer (some ⟨b, 0, none⟩), .slice a D.length cap] H (N :: L) (fun r H' L' => OutB 5 L (D ++ partB fs_WriteTxnMarkersRequest v false T) r L') := by
 obtain ⟨a0, c0, mt, rfl, hf0, hf1⟩ := hA
 refine Fn.mk Tryz.call197 Tryz.func197 rfl Tryz.ntmps197 rfl ?_
 refine sr ?_
 refine asg rfl rfl ?_
 refine nl ?_
 refine sr ?_
 refine mv rfl rfl ?_
 refine nc rfl rfl ?_
 refine fa0 F97_0 rfl rfl ?_
 refine ld (Says.fz hv) Tryz.isAgg45 rfl (Nat.zero_add _).symm rfl rfl ?_
 refine asg rfl rfl ?_
 refine nl ?_
 refine sr ?_
 refine mv rfl rfl ?_
 refine nl ?_
 refine sr ?_
 refine mv rfl rfl ?_
 refine ge rfl rfl rfl ?_
 refine asg rfl rfl ?_
 refine nl ?_
 refine sr ?_
 refine mv rfl rfl ?_
 refine nl ?_
 refine sq ?_
 refine sr ?_
 refine mv rfl rfl ?_
 refine nc rfl rfl ?_
 refine fa0 F97_1 rfl rfl ?_
 refine ld (Says.fz hv) Tryz.isAgg95 rfl (Nat.zero_add _).symm rfl rfl ?_
 refine asg rfl rfl ?_
 refine nl ?_
 refine sq ?_
 refine sr ?_
 refine mv rfl rfl ?_
 refine nl ?_
 refine cdF rfl (by omega) ?_
 refine rg ?_
 refine mv rfl rfl ?_
 refine mv rfl rfl ?_
 refine ls Tryz.runUnderlying95 rfl rfl ?_
 have ok42 := hok.get 0 (by decide) (has_yes (show (0 : Int) ≤ v by omega) (show ((-1) : Int) < 0 ∨ v ≤ (-1) by omega))
 have ll42 := lT_len (ok42.len rfl)
 have e_1 : D ++ (counted false false (lT (T.at 0)).length 4 ++ (lT (T.at 0)).flatMap (GOf (fs_WriteTxnMarkersRequest[0]'(by decide)) v false)) = D ++ plainTo (zipped fs_WriteTxnMarkersRequest v false T) v 1 := fold_first (fs := fs_WriteTxnMarkersRequest) (v := v) (flex := false) (t := T) (B := D) 0 rfl (by decide) (by decide) (has_yes (show (0 : Int) ≤ v by omega) (show ((-1) : Int) < 0 ∨ v ≤ (-1) by omega)) (FB_list0 (f := (fs_WriteTxnMarkersRequest[0]'(by decide))) (by decide) (by decide) (by decide) ok42)
 have hs42 := fold_size e_1 (by decide) hb
 have hc42 : (D).length + (counted false false (lT (T.at 0)).length 4).length ≤ LIM := by have h := hs42; simp only [List.length_append] at h ⊢; omega
 refine cl rfl rfl rfl (OutK.cast (k_AppendArrayLen (u := ((lT (T.at 0)).length : Int)) hr hc42) (show _ = D ++ (counted false false (lT (T.at 0)).length 4) from rfl)) rfl (fun v_ H1 L1 hle hR => ?_)
 obtain ⟨rfl, a42, c42, N42, rfl, rfl, h42⟩ := hR
 have r42 := h42.1
 refine asg rfl rfl ?_
 refine nl ?_
 refine sr ?_
 refine mv rfl rfl ?_
 refine ls Tryz.runUnderlying95 rfl rfl ?_
 refine mv rfl rfl ?_
 refine nl ?_
 refine fr ((lT (T.at 0)).length) (fun k1 l' H' L' => ∃ (a_k1 : Option Addr), ∃ (m_k1 : Nat), ∃ (c_k1 : Nat), ∃ (N_k1 : Chunk), [(0, .pointer (some ⟨b, 0, none⟩)), (1, .slice a_k1 m_k1 c_k1), (5, .int .i16 v), (6, .bool (decide ((1 : Int) ≤ v))), (7, .slice a0 (lT (T.at 0)).length c0), (44, .int .i64 ((lT (T.at 0)).length : Int))] = l' ∧ N_k1 :: L = L' ∧ Row 5 1 a_k1 m_k1 c_k1 (bytesOf (D ++ (counted false false (lT (T.at 0)).length 4) ++ ((lT (T.at 0)).take k1).flatMap (GOf (fs_WriteTxnMarkersRequest[0]'(by decide)) v false))) N_k1 ∧ m_k1 = (D ++ (counted false false (lT (T.at 0)).length 4) ++ ((lT (T.at 0)).take k1).flatMap (GOf (fs_WriteTxnMarkersRequest[0]'(by decide)) v false)).length) [(0, .pointer (some ⟨b, 0, none⟩)), (1, .slice _ _ _), (5, .int .i16 v), (6, .bool (decide ((1 : Int) ≤ v))), (7, .slice a0 (lT (T.at 0)).length c0), (44, .int .i64 ((lT (T.at 0)).length : Int))] (fun k1 l' H' L' h => ?_) (by omega) rfl (.of ⟨rfl, rfl, rfl, rfl, rfl, rfl, trivial⟩) ⟨_, _, _, _, rfl, rfl, (by rw [List.take_zero, List.flatMap_nil, List.append_nil]; exact r42), (by rw [List.take_zero, List.flatMap_nil, List.append_nil])⟩ rfl rfl rfl rfl rfl (fun k1 l' H' L' hk1 le_2 hI => ?_) (fun l' H' L' le_3 hI => ?_)
 · obtain ⟨a_k1, m_k1, c_k1, N_k1, rfl, _⟩ := h; exact ⟨rfl, rfl, rfl, rfl⟩
 ·
  obtain ⟨a_k1, m_k1, c_k1, N_k1, rfl, rfl, pk10, pk11⟩ := hI
  subst pk11
  refine sr ?_
  refine mv rfl rfl ?_
  refine asg rfl rfl ?_
  refine nl ?_
  refine sr ?_
  refine mv rfl rfl ?_
  refine mv rfl rfl ?_
  obtain ⟨b_4, o_5, e_6, g_7⟩ := (hf0.mono At_WriteTxnMarkersRequestMarker.mono le_2).rows.at_ (ne_nil_of_lt hk1)
  obtain ⟨cs_8, hA_9, hc_10⟩ := g_7 k1 hk1
  refine ix2 Tryz.runUnderlying95 Tryz.sizeOf145 rfl e_6 rfl rfl hk1 rfl ?_
  obtain ⟨a_k1_3, c_k1_3, m_k1_t, rfl, hf_k1_0, hf_k1_1⟩ := hA_9
  have oek1 := (ok42.el rfl _ (lT_mem (List.getElem_mem hk1))).2 rfl
  obtain ⟨B_k1, hdk1⟩ : ∃ z : List UInt8, z = D ++ (counted false false (lT (T.at 0)).length 4) ++ ((lT (T.at 0)).take k1).flatMap (GOf (fs_WriteTxnMarkersRequest[0]'(by decide)) v false) := ⟨_, rfl⟩
  have rbk1 := pk10
  rw [← hdk1] at rbk1 ⊢
  have hBk1 : B_k1.length + (partB fs_sWriteTxnMarkersRequestMarker v false ((lT (T.at 0))[k1])).length ≤ LIM := by rw [hdk1]; exact el_size hs42 hk1 (GOf_part (by decide) _)
  refine asg rfl rfl ?_
  refine nl ?_
  refine sq ?_
  refine sr ?_
  refine mv rfl rfl ?_
  refine nc rfl rfl ?_
  refine fa F145_0 rfl rfl ?_
  refine ld (Says.fz hc_10) Tryz.isAgg2 rfl (Nat.add_zero _).symm rfl rfl ?_
  refine asg rfl rfl ?_
  refine nl ?_
  refine rg ?_
  refine mv rfl rfl ?_
  refine mv rfl rfl ?_
  have ok57 := oek1.get 0 (by decide) (has_yes (show (0 : Int) ≤ v by omega) (show ((-1) : Int) < 0 ∨ v ≤ (-1) by omega))
  have e_11 : B_k1 ++ (fixed ((((lT (T.at 0))[k1]).at 0).n) 8) = B_k1 ++ plainTo (zipped fs_sWriteTxnMarkersRequestMarker v false ((lT (T.at 0))[k1])) v 1 := fold_first (fs := fs_sWriteTxnMarkersRequestMarker) (v := v) (flex := false) (t := ((lT (T.at 0))[k1])) (B := B_k1) 0 rfl (by decide) (by decide) (has_yes (show (0 : Int) ≤ v by omega) (show ((-1) : Int) < 0 ∨ v ≤ (-1) by omega)) ((FB_int (f := (fs_sWriteTxnMarkersRequestMarker[0]'(by decide))) (by decide) (by decide)).trans rfl)
  have hs57 := fold_size e_11 (by decide) hBk1
  refine cl rfl rfl rfl (OutK.cast (k_AppendInt64 (u := (((lT (T.at 0))[k1]).at 0).n) rbk1 hs57) e_11) rfl (fun v_ H1 L1 hle hR => ?_)
  obtain ⟨rfl, a57, c57, N57, rfl, rfl, h57⟩ := hR
  have r57 := h57.1
  refine asg rfl rfl ?_
  refine nl ?_
  refine sq ?_
  refine sr ?_
  refine mv rfl rfl ?_
  refine nc rfl rfl ?_
  refine fa F145_1 rfl rfl ?_
  refine ld (Says.fz hc_10) Tryz.isAgg45 rfl rfl rfl rfl ?_
  refine asg rfl rfl ?_
  refine nl ?_
  refine rg ?_
  refine mv rfl rfl ?_
  refine mv rfl rfl ?_
  have ok64 := oek1.get 1 (by decide) (has_yes (show (0 : Int) ≤ v by omega) (show ((-1) : Int) < 0 ∨ v ≤ (-1) by omega))
  have e_12 : B_k1 ++ plainTo (zipped fs_sWriteTxnMarkersRequestMarker v false ((lT (T.at 0))[k1])) v 1 ++ (fixed (IntKind.i16.wrap (((lT (T.at 0))[k1]).at 1).n) 2) = B_k1 ++ plainTo (zipped fs_sWriteTxnMarkersRequestMarker v false ((lT (T.at 0))[k1])) v 2 := fold_yes (fs := fs_sWriteTxnMarkersRequestMarker) (v := v) (flex := false) (t := ((lT (T.at 0))[k1])) (B := B_k1) 1 (by decide) (by decide) (has_yes (show (0 : Int) ≤ v by omega) (show ((-1) : Int) < 0 ∨ v ≤ (-1) by omega)) ((FB_int (f := (fs_sWriteTxnMarkersRequestMarker[1]'(by decide))) (by decide) (by decide)).trans (fixed_i16 _).symm)
  have hs64 := fold_size e_12 (by decide) hBk1
  refine cl rfl rfl rfl (OutK.cast (k_AppendInt16 (u := IntKind.i16.wrap (((lT (T.at 0))[k1]).at 1).n) r57 hs64) e_12) rfl (fun v_ H1 L1 hle hR => ?_)
  obtain ⟨rfl, a64, c64, N64, rfl, rfl, h64⟩ := hR
  have r64 := h64.1
  refine asg rfl rfl ?_
  refine nl ?_
  refine sq ?_
  refine sr ?_
  refine mv rfl rfl ?_
  refine nc rfl rfl ?_
  refine fa F145_2 rfl rfl ?_
  refine ld (Says.fz hc_10) Tryz.isAgg4 rfl rfl rfl rfl ?_
  refine asg rfl rfl ?_
  refine nl ?_
  refine rg ?_
  refine mv rfl rfl ?_
  refine mv rfl rfl ?_
  have ok71 := oek1.get 2 (by decide) (has_yes (show (0 : Int) ≤ v by omega) (show ((-1) : Int) < 0 ∨ v ≤ (-1) by omega))
  have e_13 : B_k1 ++ plainTo (zipped fs_sWriteTxnMarkersRequestMarker v false ((lT (T.at 0))[k1])) v 2 ++ ([if decide ((((lT (T.at 0))[k1]).at 2).n % 2 = 1) then 1 else 0] : List UInt8) = B_k1 ++ plainTo (zipped fs_sWriteTxnMarkersRequestMarker v false ((lT (T.at 0))[k1])) v 3 := fold_yes (fs := fs_sWriteTxnMarkersRequestMarker) (v := v) (flex := false) (t := ((lT (T.at 0))[k1])) (B := B_k1) 2 (by decide) (by decide) (has_yes (show (0 : Int) ≤ v by omega) (show ((-1) : Int) < 0 ∨ v ≤ (-1) by omega)) ((FB_bool (f := (fs_sWriteTxnMarkersRequestMarker[2]'(by decide))) (by decide)).trans (bool_byte _))
  have hs71 := fold_size e_13 (by decide) hBk1
  refine cl rfl rfl rfl (OutK.cast (k_AppendBool (b := decide ((((lT (T.at 0))[k1]).at 2).n % 2 = 1)) r64 hs71) e_13) rfl (fun v_ H1 L1 hle hR => ?_)
  obtain ⟨rfl, a71, c71, N71, rfl, rfl, h71⟩ := hR
  have r71 := h71.1
  refine asg rfl rfl ?_
  refine nl ?_
  refine sq ?_
  refine sr ?_
  refine mv rfl rfl ?_
  refine nc rfl rfl ?_
  refine fa F145_3 rfl rfl ?_
  refine ld (Says.fz hc_10) Tryz.isAgg143 rfl rfl rfl rfl ?_
  refine asg rfl rfl ?_
  refine nl ?_
  refine sq ?_
  refine sr ?_
  refine mv rfl rfl ?_
  refine nl ?_
  refine cdF rfl (by omega) ?_
  refine rg ?_
  refine mv rfl rfl ?_
  refine mv rfl rfl ?_
  refine ls Tryz.runUnderlying143 rfl rfl ?_
  have ok84 := oek1.get 3 (by decide) (has_yes (show (0 : Int) ≤ v by omega) (show ((-1) : Int) < 0 ∨ v ≤ (-1) by omega))
  have ll84 := lT_len (ok84.len rfl)
  have e_14 : B_k1 ++ plainTo (zipped fs_sWriteTxnMarkersRequestMarker v false ((lT (T.at 0))[k1])) v 3 ++ (counted false false (lT (((lT (T.at 0))[k1]).at 3)).length 4 ++ (lT (((lT (T.at 0))[k1]).at 3)).flatMap (GOf (fs_sWriteTxnMarkersRequestMarker[3]'(by decide)) v false)) = B_k1 ++ plainTo (zipped fs_sWriteTxnMarkersRequestMarker v false ((lT (T.at 0))[k1])) v 4 := fold_yes (fs := fs_sWriteTxnMarkersRequestMarker) (v := v) (flex := false) (t := ((lT (T.at 0))[k1])) (B := B_k1) 3 (by decide) (by decide) (has_yes (show (0 : Int) ≤ v by omega) (show ((-1) : Int) < 0 ∨ v ≤ (-1) by omega)) (FB_list0 (f := (fs_sWriteTxnMarkersRequestMarker[3]'(by decide))) (by decide) (by decide) (by decide) ok84)
  have hs84 := fold_size e_14 (by decide) hBk1
  have hc84 : (B_k1 ++ plainTo (zipped fs_sWriteTxnMarkersRequestMarker v false ((lT (T.at 0))[k1])) v 3).length + (counted false false (lT (((lT (T.at 0))[k1]).at 3)).length 4).length ≤ LIM := by have h := hs84; simp only [List.length_append] at h ⊢; omega
  refine cl rfl rfl rfl (OutK.cast (k_AppendArrayLen (u := ((lT (((lT (T.at 0))[k1]).at 3)).length : Int)) r71 hc84) (show _ = B_k1 ++ plainTo (zipped fs_sWriteTxnMarkersRequestMarker v false ((lT (T.at 0))[k1])) v 3 ++ (counted false false (lT (((lT (T.at 0))[k1]).at 3)).length 4) from rfl)) rfl (fun v_ H1 L1 hle hR => ?_)
  obtain ⟨rfl, a84, c84, N84, rfl, rfl, h84⟩ := hR
  have r84 := h84.1
  refine asg rfl rfl ?_
  refine nl ?_
  refine sr ?_
  refine mv rfl rfl ?_
  refine ls Tryz.runUnderlying143 rfl rfl ?_
  refine mv rfl rfl ?_
  refine nl ?_
  refine fr ((lT (((lT (T.at 0))[k1]).at 3)).length) (fun k2 l' H' L' => ∃ (a_k2 : Option Addr), ∃ (m_k2 : Nat), ∃ (c_k2 : Nat), ∃ (N_k2 : Chunk), [(0, .pointer (some ⟨b, 0, none⟩)), (1, .slice a_k2 m_k2 c_k2), (5, .int .i16 v), (6, .bool (decide ((1 : Int) ≤ v))), (7, .slice a0 (lT (T.at 0)).length c0), (9, .pointer (some ⟨b_4, o_5 + k1 * 7, none⟩)), (13, .slice a_k1_3 (lT (((lT (T.at 0))[k1]).at 3)).length c_k1_3), (44, .int .i64 ((lT (T.at 0)).length : Int)), (45, .int .i64 (k1 : Int)), (86, .int .i64 ((lT (((lT (T.at 0))[k1]).at 3)).length : Int))] = l' ∧ N_k2 :: L = L' ∧ Row 5 1 a_k2 m_k2 c_k2 (bytesOf (B_k1 ++ plainTo (zipped fs_sWriteTxnMarkersRequestMarker v false ((lT (T.at 0))[k1])) v 3 ++ (counted false false (lT (((lT (T.at 0))[k1]).at 3)).length 4) ++ ((lT (((lT (T.at 0))[k1]).at 3)).take k2).flatMap (GOf (fs_sWriteTxnMarkersRequestMarker[3]'(by decide)) v false))) N_k2 ∧ m_k2 = (B_k1 ++ plainTo (zipped fs_sWriteTxnMarkersRequestMarker v false ((lT (T.at 0))[k1])) v 3 ++ (counted false false (lT (((lT (T.at 0))[k1]).at 3)).length 4) ++ ((lT (((lT (T.at 0))[k1]).at 3)).take k2).flatMap (GOf (fs_sWriteTxnMarkersRequestMarker[3]'(by decide)) v false)).length) [(0, .pointer (some ⟨b, 0, none⟩)), (1, .slice _ _ _), (5, .int .i16 v), (6, .bool (decide ((1 : Int) ≤ v))), (7, .slice a0 (lT (T.at 0)).length c0), (9, .pointer (some ⟨b_4, o_5 + k1 * 7, none⟩)), (13, .slice a_k1_3 (lT (((lT (T.at 0))[k1]).at 3)).length c_k1_3), (44, .int .i64 ((lT (T.at 0)).length : Int)), (45, .int .i64 (k1 : Int)), (86, .int .i64 ((lT (((lT (T.at 0))[k1]).at 3)).length : Int))] (fun k2 l' H' L' h => ?_) (by omega) rfl (.of ⟨rfl, rfl, rfl, rfl, rfl, rfl, rfl, rfl, rfl, rfl, trivial⟩) ⟨_, _, _, _, rfl, rfl, (by rw [List.take_zero, List.flatMap_nil, List.append_nil]; exact r84), (by rw [List.take_zero, List.flatMap_nil, List.append_nil])⟩ rfl rfl rfl rfl rfl (fun k2 l' H' L' hk2 le_15 hI => ?_) (fun l' H' L' le_16 hI => ?_)
  · obtain ⟨a_k2, m_k2, c_k2, N_k2, rfl, _⟩ := h; exact ⟨rfl, rfl, rfl, rfl⟩
  ·
   obtain ⟨a_k2, m_k2, c_k2, N_k2, rfl, rfl, pk20, pk21⟩ := hI
   subst pk21
   refine sr ?_
   refine mv rfl rfl ?_
   refine asg rfl rfl ?_
   refine nl ?_
   refine sr ?_
   refine mv rfl rfl ?_
   refine mv rfl rfl ?_
   obtain ⟨b_17, o_18, e_19, g_20⟩ := (hf_k1_0.mono At_WriteTxnMarkersRequestMarkerTopic.mono le_15).rows.at_ (ne_nil_of_lt hk2)
   obtain ⟨cs_21, hA_22, hc_23⟩ := g_20 k2 hk2
   refine ix2 Tryz.runUnderlying143 Tryz.sizeOf150 rfl e_19 rfl rfl hk2 rfl ?_
   obtain ⟨a_k2_1, c_k2_1, m_k2_t, rfl, hf_k2_0, hf_k2_1⟩ := hA_22
   have oek2 := (ok84.el rfl _ (lT_mem (List.getElem_mem hk2))).2 rfl
   obtain ⟨B_k2, hdk2⟩ : ∃ z : List UInt8, z = B_k1 ++ plainTo (zipped fs_sWriteTxnMarkersRequestMarker v false ((lT (T.at 0))[k1])) v 3 ++ (counted false false (lT (((lT (T.at 0))[k1]).at 3)).length 4) ++ ((lT (((lT (T.at 0))[k1]).at 3)).take k2).flatMap (GOf (fs_sWriteTxnMarkersRequestMarker[3]'(by decide)) v false) := ⟨_, rfl⟩
   have rbk2 := pk20
   rw [← hdk2] at rbk2 ⊢
   have hBk2 : B_k2.length + (partB fs_sWriteTxnMarkersRequestMarkerTopic v false ((lT (((lT (T.at 0))[k1]).at 3))[k2])).length ≤ LIM := by rw [hdk2]; exact el_size hs84 hk2 (GOf_part (by decide) _)
   refine asg rfl rfl ?_
   refine nl ?_
   refine sq ?_
   refine sr ?_
   refine mv rfl rfl ?_
   refine nc rfl rfl ?_
   refine fa F150_0 rfl rfl ?_
   refine ld (Says.fz hc_23) Tryz.isAgg9 rfl (Nat.add_zero _).symm rfl rfl ?_
   refine asg rfl rfl ?_
   refine nl ?_
   refine sr ?_
   refine mv rfl rfl ?_
   refine nl ?_
   refine cdF rfl (by omega) ?_
   refine rg ?_
   refine mv rfl rfl ?_
   refine mv rfl rfl ?_
   have ok103 := oek2.get 0 (by decide) (has_yes (show (0 : Int) ≤ v by omega) (show ((-1) : Int) < 0 ∨ v ≤ (-1) by omega))
   have nn103 := ok103.nn (by decide) (by decide) (by decide)
   have e_24 : B_k2 ++ (counted false false (((lT (((lT (T.at 0))[k1]).at 3))[k2]).at 0).s.length 2 ++ (((lT (((lT (T.at 0))[k1]).at 3))[k2]).at 0).s) = B_k2 ++ plainTo (zipped fs_sWriteTxnMarkersRequestMarkerTopic v false ((lT (((lT (T.at 0))[k1]).at 3))[k2])) v 1 := fold_first (fs := fs_sWriteTxnMarkersRequestMarkerTopic) (v := v) (flex := false) (t := ((lT (((lT (T.at 0))[k1]).at 3))[k2])) (B := B_k2) 0 rfl (by decide) (by decide) (has_yes (show (0 : Int) ≤ v by omega) (show ((-1) : Int) < 0 ∨ v ≤ (-1) by omega)) (by rw [FB_text (f := (fs_sWriteTxnMarkersRequestMarkerTopic[0]'(by decide))) (by decide) (by decide) ok103, sT_nn nn103, nn103])
   have hs103 := fold_size e_24 (by decide) hBk2
   refine cl rfl rfl rfl (OutK.cast (k_AppendString (x := (((lT (((lT (T.at 0))[k1]).at 3))[k2]).at 0).s) rbk2 hs103) e_24) rfl (fun v_ H1 L1 hle hR => ?_)
   obtain ⟨rfl, a103, c103, N103, rfl, rfl, h103⟩ := hR
   have r103 := h103.1
   refine asg rfl rfl ?_
   refine nl ?_
   refine sq ?_
   refine sr ?_
   refine mv rfl rfl ?_
   refine nc rfl rfl ?_
   refine fa F150_1 rfl rfl ?_
   refine ld (Says.fz hc_23) Tryz.isAgg148 rfl rfl rfl rfl ?_
   refine asg rfl rfl ?_
   refine nl ?_
   refine sq ?_
   refine sr ?_
   refine mv rfl rfl ?_
   refine nl ?_
   refine cdF rfl (by omega) ?_
   refine rg ?_
   refine mv rfl rfl ?_
   refine mv rfl rfl ?_
   refine ls Tryz.runUnderlying148 rfl rfl ?_
   have ok116 := oek2.get 1 (by decide) (has_yes (show (0 : Int) ≤ v by omega) (show ((-1) : Int) < 0 ∨ v ≤ (-1) by omega))
   have ll116 := lT_len (ok116.len rfl)
   have e_25 : B_k2 ++ plainTo (zipped fs_sWriteTxnMarkersRequestMarkerTopic v false ((lT (((lT (T.at 0))[k1]).at 3))[k2])) v 1 ++ (counted false false (lT (((lT (((lT (T.at 0))[k1]).at 3))[k2]).at 1)).length 4 ++ (lT (((lT (((lT (T.at 0))[k1]).at 3))[k2]).at 1)).flatMap (GOf (fs_sWriteTxnMarkersRequestMarkerTopic[1]'(by decide)) v false)) = B_k2 ++ plainTo (zipped fs_sWriteTxnMarkersRequestMarkerTopic v false ((lT (((lT (T.at 0))[k1]).at 3))[k2])) v 2 := fold_yes (fs := fs_sWriteTxnMarkersRequestMarkerTopic) (v := v) (flex := false) (t := ((lT (((lT (T.at 0))[k1]).at 3))[k2])) (B := B_k2) 1 (by decide) (by decide) (has_yes (show (0 : Int) ≤ v by omega) (show ((-1) : Int) < 0 ∨ v ≤ (-1) by omega)) (FB_list0 (f := (fs_sWriteTxnMarkersRequestMarkerTopic[1]'(by decide))) (by decide) (by decide) (by decide) ok116)
   have hs116 := fold_size e_25 (by decide) hBk2
   have hc116 : (B_k2 ++ plainTo (zipped fs_sWriteTxnMarkersRequestMarkerTopic v false ((lT (((lT (T.at 0))[k1]).at 3))[k2])) v 1).length + (counted false false (lT (((lT (((lT (T.at 0))[k1]).at 3))[k2]).at 1)).length 4).length ≤ LIM := by have h := hs116; simp only [List.length_append] at h ⊢; omega
   refine cl rfl rfl rfl (OutK.cast (k_AppendArrayLen (u := ((lT (((lT (((lT (T.at 0))[k1]).at 3))[k2]).at 1)).length : Int)) r103 hc116) (show _ = B_k2 ++ plainTo (zipped fs_sWriteTxnMarkersRequestMarkerTopic v false ((lT (((lT (T.at 0))[k1]).at 3))[k2])) v 1 ++ (counted false false (lT (((lT (((lT (T.at 0))[k1]).at 3))[k2]).at 1)).length 4) from rfl)) rfl (fun v_ H1 L1 hle hR => ?_)
   obtain ⟨rfl, a116, c116, N116, rfl, rfl, h116⟩ := hR
   have r116 := h116.1
   refine asg rfl rfl ?_
   refine nl ?_
   refine sr ?_
   refine mv rfl rfl ?_
   refine ls Tryz.runUnderlying148 rfl rfl ?_
   refine mv rfl rfl ?_
   refine nl ?_
   refine fr ((lT (((lT (((lT (T.at 0))[k1]).at 3))[k2]).at 1)).length) (fun k3 l' H' L' => ∃ (a_k3 : Option Addr), ∃ (m_k3 : Nat), ∃ (c_k3 : Nat), ∃ (N_k3 : Chunk), [(0, .pointer (some ⟨b, 0, none⟩)), (1, .slice a_k3 m_k3 c_k3), (5, .int .i16 v), (6, .bool (decide ((1 : Int) ≤ v))), (7, .slice a0 (lT (T.at 0)).length c0), (9, .pointer (some ⟨b_4, o_5 + k1 * 7, none⟩)), (13, .slice a_k1_3 (lT (((lT (T.at 0))[k1]).at 3)).length c_k1_3), (15, .pointer (some ⟨b_17, o_18 + k2 * 3, none⟩)), (17, .slice a_k2_1 (lT (((lT (((lT (T.at 0))[k1]).at 3))[k2]).at 1)).length c_k2_1), (44, .int .i64 ((lT (T.at 0)).length : Int)), (45, .int .i64 (k1 : Int)), (86, .int .i64 ((lT (((lT (T.at 0))[k1]).at 3)).length : Int)), (87, .int .i64 (k2 : Int)), (118, .int .i64 ((lT (((lT (((lT (T.at 0))[k1]).at 3))[k2]).at 1)).length : Int))] = l' ∧ N_k3 :: L = L' ∧ Row 5 1 a_k3 m_k3 c_k3 (bytesOf (B_k2 ++ plainTo (zipped fs_sWriteTxnMarkersRequestMarkerTopic v false ((lT (((lT (T.at 0))[k1]).at 3))[k2])) v 1 ++ (counted false false (lT (((lT (((lT (T.at 0))[k1]).at 3))[k2]).at 1)).length 4) ++ ((lT (((lT (((lT (T.at 0))[k1]).at 3))[k2]).at 1)).take k3).flatMap (GOf (fs_sWriteTxnMarkersRequestMarkerTopic[1]'(by decide)) v false))) N_k3 ∧ m_k3 = (B_k2 ++ plainTo (zipped fs_sWriteTxnMarkersRequestMarkerTopic v false ((lT (((lT (T.at 0))[k1]).at 3))[k2])) v 1 ++ (counted false false (lT (((lT (((lT (T.at 0))[k1]).at 3))[k2]).at 1)).length 4) ++ ((lT (((lT (((lT (T.at 0))[k1]).at 3))[k2]).at 1)).take k3).flatMap (GOf (fs_sWriteTxnMarkersRequestMarkerTopic[1]'(by decide)) v false)).length) [(0, .pointer (some ⟨b, 0, none⟩)), (1, .slice _ _ _), (5, .int .i16 v), (6, .bool (decide ((1 : Int) ≤ v))), (7, .slice a0 (lT (T.at 0)).length c0), (9, .pointer (some ⟨b_4, o_5 + k1 * 7, none⟩)), (13, .slice a_k1_3 (lT (((lT (T.at 0))[k1]).at 3)).length c_k1_3), (15, .pointer (some ⟨b_17, o_18 + k2 * 3, none⟩)), (17, .slice a_k2_1 (lT (((lT (((lT (T.at 0))[k1]).at 3))[k2]).at 1)).length c_k2_1), (44, .int .i64 ((lT (T.at 0)).length : Int)), (45, .int .i64 (k1 : Int)), (86, .int .i64 ((lT (((lT (T.at 0))[k1]).at 3)).length : Int)), (87, .int .i64 (k2 : Int)), (118, .int .i64 ((lT (((lT (((lT (T.at 0))[k1]).at 3))[k2]).at 1)).length : Int))] (fun k3 l' H' L' h => ?_) (by omega) rfl (.of ⟨rfl, rfl, rfl, rfl, rfl, rfl, rfl, rfl, rfl, rfl, rfl, rfl, rfl, rfl, trivial⟩) ⟨_, _, _, _, rfl, rfl, (by rw [List.take_zero, List.flatMap_nil, List.append_nil]; exact r116), (by rw [List.take_zero, List.flatMap_nil, List.append_nil])⟩ rfl rfl rfl rfl rfl (fun k3 l' H' L' hk3 le_26 hI => ?_) (fun l' H' L' le_27 hI => ?_)
   · obtain ⟨a_k3, m_k3, c_k3, N_k3, rfl, _⟩ := h; exact ⟨rfl, rfl, rfl, rfl⟩
   ·
    obtain ⟨a_k3, m_k3, c_k3, N_k3, rfl, rfl, pk30, pk31⟩ := hI
    subst pk31
    refine sr ?_
    refine mv rfl rfl ?_
    refine asg rfl rfl ?_
    refine nl ?_
    refine sr ?_
    refine mv rfl rfl ?_
    refine mv rfl rfl ?_
    obtain ⟨b_28, o_29, e_30, g_31⟩ := (hf_k2_0.mono RI32.mono le_26).rows.at_ (ne_nil_of_lt hk3)
    obtain ⟨cs_32, hA_33, hc_34⟩ := g_31 k3 hk3
    refine ix2 Tryz.runUnderlying148 Tryz.sizeOf21 rfl e_30 rfl rfl hk3 rfl ?_
    obtain rfl := hA_33
    refine ld (Says.fz hc_34) Tryz.isAgg21 rfl (Nat.add_zero _).symm rfl rfl ?_
    refine asg rfl rfl ?_
    refine nl ?_
    refine rg ?_
    refine mv rfl rfl ?_
    refine mv rfl rfl ?_
    have hp128 : (GOf (fs_sWriteTxnMarkersRequestMarkerTopic[1]'(by decide)) v false) ((lT (((lT (((lT (T.at 0))[k1]).at 3))[k2]).at 1))[k3]) = fixed (IntKind.i32.wrap ((lT (((lT (((lT (T.at 0))[k1]).at 3))[k2]).at 1))[k3]).n) 4 := (G_int (f := (fs_sWriteTxnMarkersRequestMarkerTopic[1]'(by decide))) (by decide) (by decide) _).trans (fixed_i32 _).symm
    have hs128 := el_size hs116 hk3 hp128
    have ee128 := el_end (B0 := B_k2 ++ plainTo (zipped fs_sWriteTxnMarkersRequestMarkerTopic v false ((lT (((lT (T.at 0))[k1]).at 3))[k2])) v 1 ++ (counted false false (lT (((lT (((lT (T.at 0))[k1]).at 3))[k2]).at 1)).length 4)) hk3 hp128
    refine cl rfl rfl rfl (OutK.cast (k_AppendInt32 (u := IntKind.i32.wrap ((lT (((lT (((lT (T.at 0))[k1]).at 3))[k2]).at 1))[k3]).n) pk30 hs128) ee128) rfl (fun v_ H1 L1 hle hR => ?_)
    obtain ⟨rfl, a128, c128, N128, rfl, rfl, h128⟩ := hR
    have r128 := h128.1
    refine asg rfl rfl ?_
    refine nN ?_
    refine Nb ?_
    refine fun a_ w_ hA hw => ⟨_, _, _, hA.sub ?_, le_26, hw, _, rfl, _, _, _, _, rfl, rfl, r128, rfl⟩
    exact (.of ⟨rfl, rfl, rfl, rfl, rfl, rfl, rfl, rfl, rfl, rfl, rfl, rfl, rfl, rfl, rfl, trivial⟩)
   ·
    obtain ⟨a_k3, m_k3, c_k3, N_k3, rfl, rfl, pk30, pk31⟩ := hI
    refine toWp ?_
    have eL116 : B_k2 ++ plainTo (zipped fs_sWriteTxnMarkersRequestMarkerTopic v false ((lT (((lT (T.at 0))[k1]).at 3))[k2])) v 1 ++ (counted false false (lT (((lT (((lT (T.at 0))[k1]).at 3))[k2]).at 1)).length 4) ++ ((lT (((lT (((lT (T.at 0))[k1]).at 3))[k2]).at 1)).take (lT (((lT (((lT (T.at 0))[k1]).at 3))[k2]).at 1)).length).flatMap (GOf (fs_sWriteTxnMarkersRequestMarkerTopic[1]'(by decide)) v false) = B_k2 ++ plainTo (zipped fs_sWriteTxnMarkersRequestMarkerTopic v false ((lT (((lT (T.at 0))[k1]).at 3))[k2])) v 2 := by rw [List.take_length, List.append_assoc]; exact e_25
    rw [eL116] at pk30 pk31
    subst pk31
    refine sr ?_
    refine mv rfl rfl ?_
    refine nl ?_
    refine cdF rfl (by omega) ?_
    refine skN ?_
    refine Nb ?_
    have eP_35 : B_k2 ++ plainTo (zipped fs_sWriteTxnMarkersRequestMarkerTopic v false ((lT (((lT (T.at 0))[k1]).at 3))[k2])) v 2 = B_k2 ++ partB fs_sWriteTxnMarkersRequestMarkerTopic v false ((lT (((lT (T.at 0))[k1]).at 3))[k2]) := by rw [partB_false]; rfl
    have rp_36 := pk30
    rw [eP_35] at rp_36 ⊢
    have ee_37 : B_k2 ++ partB fs_sWriteTxnMarkersRequestMarkerTopic v false ((lT (((lT (T.at 0))[k1]).at 3))[k2]) = B_k1 ++ plainTo (zipped fs_sWriteTxnMarkersRequestMarker v false ((lT (T.at 0))[k1])) v 3 ++ (counted false false (lT (((lT (T.at 0))[k1]).at 3)).length 4) ++ ((lT (((lT (T.at 0))[k1]).at 3)).take (k2 + 1)).flatMap (GOf (fs_sWriteTxnMarkersRequestMarker[3]'(by decide)) v false) := by rw [hdk2]; exact el_end (B0 := B_k1 ++ plainTo (zipped fs_sWriteTxnMarkersRequestMarker v false ((lT (T.at 0))[k1])) v 3 ++ (counted false false (lT (((lT (T.at 0))[k1]).at 3)).length 4)) (G := (GOf (fs_sWriteTxnMarkersRequestMarker[3]'(by decide)) v false)) hk2 (GOf_part (by decide) _)
    refine fun a_ w_ hA hw => ⟨_, _, _, hA.sub ?_, (le_15.trans le_27), hw, _, rfl, _, _, _, _, rfl, rfl, (by rw [← ee_37]; exact rp_36), (by rw [← ee_37])⟩
    exact (.of ⟨rfl, rfl, rfl, rfl, rfl, rfl, rfl, rfl, rfl, rfl, rfl, trivial⟩)
  ·
   obtain ⟨a_k2, m_k2, c_k2, N_k2, rfl, rfl, pk20, pk21⟩ := hI
   refine toWp ?_
   have eL84 : B_k1 ++ plainTo (zipped fs_sWriteTxnMarkersRequestMarker v false ((lT (T.at 0))[k1])) v 3 ++ (counted false false (lT (((lT (T.at 0))[k1]).at 3)).length 4) ++ ((lT (((lT (T.at 0))[k1]).at 3)).take (lT (((lT (T.at 0))[k1]).at 3)).length).flatMap (GOf (fs_sWriteTxnMarkersRequestMarker[3]'(by decide)) v false) = B_k1 ++ plainTo (zipped fs_sWriteTxnMarkersRequestMarker v false ((lT (T.at 0))[k1])) v 4 := by rw [List.take_length, List.append_assoc]; exact e_14
   rw [eL84] at pk20 pk21
   subst pk21
   refine sq ?_
   refine sr ?_
   refine mv rfl rfl ?_
   refine nc rfl rfl ?_
   refine fa F145_4 rfl rfl ?_
   refine ld (Says.fz (hc_10.mono le_16)) Tryz.isAgg21 rfl rfl rfl rfl ?_
   refine asg rfl rfl ?_
   refine nl ?_
   refine rg ?_
   refine mv rfl rfl ?_
   refine mv rfl rfl ?_
   have ok151 := oek1.get 4 (by decide) (has_yes (show (0 : Int) ≤ v by omega) (show ((-1) : Int) < 0 ∨ v ≤ (-1) by omega))
   have e_38 : B_k1 ++ plainTo (zipped fs_sWriteTxnMarkersRequestMarker v false ((lT (T.at 0))[k1])) v 4 ++ (fixed (IntKind.i32.wrap (((lT (T.at 0))[k1]).at 4).n) 4) = B_k1 ++ plainTo (zipped fs_sWriteTxnMarkersRequestMarker v false ((lT (T.at 0))[k1])) v 5 := fold_yes (fs := fs_sWriteTxnMarkersRequestMarker) (v := v) (flex := false) (t := ((lT (T.at 0))[k1])) (B := B_k1) 4 (by decide) (by decide) (has_yes (show (0 : Int) ≤ v by omega) (show ((-1) : Int) < 0 ∨ v ≤ (-1) by omega)) ((FB_int (f := (fs_sWriteTxnMarkersRequestMarker[4]'(by decide))) (by decide) (by decide)).trans (fixed_i32 _).symm)
   have hs151 := fold_size e_38 (by decide) hBk1
   refine cl rfl rfl rfl (OutK.cast (k_AppendInt32 (u := IntKind.i32.wrap (((lT (T.at 0))[k1]).at 4).n) pk20 hs151) e_38) rfl (fun v_ H1 L1 hle hR => ?_)
   obtain ⟨rfl, a151, c151, N151, rfl, rfl, h151⟩ := hR
   have r151 := h151.1
   refine asg rfl rfl ?_
   refine nl ?_
   refine sq ?_
   refine sr ?_
   refine mv rfl rfl ?_
   refine ge rfl rfl rfl ?_
   refine nl ?_
   refine cdF rfl (by omega) ?_
   refine skt ?_
   refine sr ?_
   refine mv rfl rfl ?_
   refine nl ?_
   refine cdF rfl (by omega) ?_
   refine skN ?_
   refine Nb ?_
   have es_39 : plainTo (zipped fs_sWriteTxnMarkersRequestMarker v false ((lT (T.at 0))[k1])) v 6 = plainTo (zipped fs_sWriteTxnMarkersRequestMarker v false ((lT (T.at 0))[k1])) v 5 := (piece_no2 (fs := fs_sWriteTxnMarkersRequestMarker) (v := v) (flex := false) (t := ((lT (T.at 0))[k1])) (k := 5) (by decide) (has_no (show v < (2 : Int) ∨ ((0 : Int) ≤ (-1) ∧ (-1) < v) by omega)))
   have eX_40 : B_k1 ++ plainTo (zipped fs_sWriteTxnMarkersRequestMarker v false ((lT (T.at 0))[k1])) v 5 = B_k1 ++ plainTo (zipped fs_sWriteTxnMarkersRequestMarker v false ((lT (T.at 0))[k1])) v 6 := by rw [es_39]
   have rx_41 := r151
   rw [eX_40] at rx_41 ⊢
   have eP_42 : B_k1 ++ plainTo (zipped fs_sWriteTxnMarkersRequestMarker v false ((lT (T.at 0))[k1])) v 6 = B_k1 ++ partB fs_sWriteTxnMarkersRequestMarker v false ((lT (T.at 0))[k1]) := by rw [partB_false]; rfl
   have rp_43 := rx_41
   rw [eP_42] at rp_43 ⊢
   have ee_44 : B_k1 ++ partB fs_sWriteTxnMarkersRequestMarker v false ((lT (T.at 0))[k1]) = D ++ (counted false false (lT (T.at 0)).length 4) ++ ((lT (T.at 0)).take (k1 + 1)).flatMap (GOf (fs_WriteTxnMarkersRequest[0]'(by decide)) v false) := by rw [hdk1]; exact el_end (B0 := D ++ (counted false false (lT (T.at 0)).length 4)) (G := (GOf (fs_WriteTxnMarkersRequest[0]'(by decide)) v false)) hk1 (GOf_part (by decide) _)
   refine fun a_ w_ hA hw => ⟨_, _, _, hA.sub ?_, (le_2.trans le_16), hw, _, rfl, _, _, _, _, rfl, rfl, (by rw [← ee_44]; exact rp_43), (by rw [← ee_44])⟩
   exact (.of ⟨rfl, rfl, rfl, rfl, rfl, rfl, rfl, trivial⟩)
 ·
  obtain ⟨a_k1, m_k1, c_k1, N_k1, rfl, rfl, pk10, pk11⟩ := hI
  refine toWp ?_
  have eL42 : D ++ (counted false false (lT (T.at 0)).length 4) ++ ((lT (T.at 0)).take (lT (T.at 0)).length).flatMap (GOf (fs_WriteTxnMarkersRequest[0]'(by decide)) v false) = D ++ plainTo (zipped fs_WriteTxnMarkersRequest v false T) v 1 := by rw [List.take_length, List.append_assoc]; exact e_1
  rw [eL42] at pk10 pk11
  subst pk11
  refine sq ?_
  refine sr ?_
  refine mv rfl rfl ?_
  refine nl ?_
  refine cdF rfl (by omega) ?_
  refine skt ?_
  refine sr ?_
  refine mv rfl rfl ?_
  refine asg rfl rfl ?_
  refine nl ?_
  have eP_45 : D ++ plainTo (zipped fs_WriteTxnMarkersRequest v false T) v 1 = D ++ partB fs_WriteTxnMarkersRequest v false T := by rw [partB_false]; rfl
  have rp_46 := pk10
  rw [eP_45] at rp_46 ⊢
  exact rT rfl rfl le_3 (fun _ _ h => h) (OutB.of rp_46 rfl)
theorem app_WriteTxnMarkersRequest_t {H : Fz} {L : Own} {a : Option Addr} {cap b : Nat} {D : List UInt8} {N : Chunk} {cs : List Value} {T : Tr} {v : Int} (hr : Row 5 1 a D.length cap (bytesOf D) N) (hv : H.at b 0 cs) (hA : At_WriteTxnMarkersRequest v H T cs) (hok : OkP fs_WriteTxnMarkersRequest v T) (h0 : 1 ≤ v) (h1 : v ≤ 2) (hb : D.length + (partB fs_WriteTxnMarkersRequest v true T).length ≤ LIM) :
  Fn Tryz.prog 197 [.pointer (some ⟨b, 0, none⟩), .slice a D.length cap] H (N :: L) (fun r H' L' => OutB 5 L (D ++ partB fs_WriteTxnMarkersRequest v true T) r L') := by
 obtain ⟨a0, c0, mt, rfl, hf0, hf1⟩ := hA
 refine Fn.mk Tryz.call197 Tryz.func197 rfl Tryz.ntmps197 rfl ?_
 refine sr ?_
 refine asg rfl rfl ?_
 refine nl ?_
 refine sr ?_
 refine mv rfl rfl ?_
 refine nc rfl rfl ?_
 refine fa0 F97_0 rfl rfl ?_
 refine ld (Says.fz hv) Tryz.isAgg45 rfl (Nat.zero_add _).symm rfl rfl ?_
 refine asg rfl rfl ?_
 refine nl ?_
 refine sr ?_
 refine mv rfl rfl ?_
 refine nl ?_
 refine sr ?_
 refine mv rfl rfl ?_
 refine ge rfl rfl rfl ?_
 refine asg rfl rfl ?_
 refine nl ?_
 refine sr ?_
 refine mv rfl rfl ?_
 refine nl ?_
 refine sq ?_
 refine sr ?_
 refine mv rfl rfl ?_
 refine nc rfl rfl ?_
 refine fa0 F97_1 rfl rfl ?_
 refine ld (Says.fz hv) Tryz.isAgg95 rfl (Nat.zero_add _).symm rfl rfl ?_
 refine asg rfl rfl ?_
 refine nl ?_
 refine sq ?_
 refine sr ?_
 refine mv rfl rfl ?_
 refine nl ?_
 refine cdT rfl (by omega) ?_
 refine rg ?_
 refine mv rfl rfl ?_
 refine mv rfl rfl ?_
 refine ls Tryz.runUnderlying95 rfl rfl ?_
 have ok38 := hok.get 0 (by decide) (has_yes (show (0 : Int) ≤ v by omega) (show ((-1) : Int) < 0 ∨ v ≤ (-1) by omega))
 have ll38 := lT_len (ok38.len rfl)
 have e_1 : D ++ (counted true false (lT (T.at 0)).length 4 ++ (lT (T.at 0)).flatMap (GOf (fs_WriteTxnMarkersRequest[0]'(by decide)) v true)) = D ++ plainTo (zipped fs_WriteTxnMarkersRequest v true T) v 1 := fold_first (fs := fs_WriteTxnMarkersRequest) (v := v) (flex := true) (t := T) (B := D) 0 rfl (by decide) (by decide) (has_yes (show (0 : Int) ≤ v by omega) (show ((-1) : Int) < 0 ∨ v ≤ (-1) by omega)) (FB_list0 (f := (fs_WriteTxnMarkersRequest[0]'(by decide))) (by decide) (by decide) (by decide) ok38)
 have hs38 := fold_size e_1 (by decide) hb
 have hc38 : (D).length + (counted true false (lT (T.at 0)).length 4).length ≤ LIM := by have h := hs38; simp only [List.length_append] at h ⊢; omega
 refine cl rfl rfl rfl (OutK.cast (k_AppendCompactArrayLen (n := (lT (T.at 0)).length) (by omega) hr hc38) (show _ = D ++ (counted true false (lT (T.at 0)).length 4) from rfl)) rfl (fun v_ H1 L1 hle hR => ?_)
 obtain ⟨rfl, a38, c38, N38, rfl, rfl, h38⟩ := hR
 have r38 := h38.1
 refine asg rfl rfl ?_
 refine nl ?_
 refine sr ?_
 refine mv rfl rfl ?_
 refine ls Tryz.runUnderlying95 rfl rfl ?_
 refine mv rfl rfl ?_
 refine nl ?_
 refine fr ((lT (T.at 0)).length) (fun k1 l' H' L' => ∃ (a_k1 : Option Addr), ∃ (m_k1 : Nat), ∃ (c_k1 : Nat), ∃ (N_k1 : Chunk), [(0, .pointer (some ⟨b, 0, none⟩)), (1, .slice a_k1 m_k1 c_k1), (5, .int .i16 v), (6, .bool (decide ((1 : Int) ≤ v))), (7, .slice a0 (lT (T.at 0)).length c0), (44, .int .i64 ((lT (T.at 0)).length : Int))] = l' ∧ N_k1 :: L = L' ∧ Row 5 1 a_k1 m_k1 c_k1 (bytesOf (D ++ (counted true false (lT (T.at 0)).length 4) ++ ((lT (T.at 0)).take k1).flatMap (GOf (fs_WriteTxnMarkersRequest[0]'(by decide)) v true))) N_k1 ∧ m_k1 = (D ++ (counted true false (lT (T.at 0)).length 4) ++ ((lT (T.at 0)).take k1).flatMap (GOf (fs_WriteTxnMarkersRequest[0]'(by decide)) v true)).length) [(0, .pointer (some ⟨b, 0, none⟩)), (1, .slice _ _ _), (5, .int .i16 v), (6, .bool (decide ((1 : Int) ≤ v))), (7, .slice a0 (lT (T.at 0)).length c0), (44, .int .i64 ((lT (T.at 0)).length : Int))] (fun k1 l' H' L' h => ?_) (by omega) rfl (.of ⟨rfl, rfl, rfl, rfl, rfl, rfl, trivial⟩) ⟨_, _, _, _, rfl, rfl, (by rw [List.take_zero, List.flatMap_nil, List.append_nil]; exact r38), (by rw [List.take_zero, List.flatMap_nil, List.append_nil])⟩ rfl rfl rfl rfl rfl (fun k1 l' H' L' hk1 le_2 hI => ?_) (fun l' H' L' le_3 hI => ?_)
 · obtain ⟨a_k1, m_k1, c_k1, N_k1, rfl, _⟩ := h; exact ⟨rfl, rfl, rfl, rfl⟩
 ·
  obtain ⟨a_k1, m_k1, c_k1, N_k1, rfl, rfl, pk10, pk11⟩ := hI
  subst pk11
  refine sr ?_
  refine mv rfl rfl ?_
  refine asg rfl rfl ?_
  refine nl ?_
  refine sr ?_
  refine mv rfl rfl ?_
  refine mv rfl rfl ?_
  obtain ⟨b_4, o_5, e_6, g_7⟩ := (hf0.mono At_WriteTxnMarkersRequestMarker.mono le_2).rows.at_ (ne_nil_of_lt hk1)
  obtain ⟨cs_8, hA_9, hc_10⟩ := g_7 k1 hk1
  refine ix2 Tryz.runUnderlying95 Tryz.sizeOf145 rfl e_6 rfl rfl hk1 rfl ?_
  obtain ⟨a_k1_3, c_k1_3, m_k1_t, rfl, hf_k1_0, hf_k1_1⟩ := hA_9
  have oek1 := (ok38.el rfl _ (lT_mem (List.getElem_mem hk1))).2 rfl
  obtain ⟨B_k1, hdk1⟩ : ∃ z : List UInt8, z = D ++ (counted true false (lT (T.at 0)).length 4) ++ ((lT (T.at 0)).take k1).flatMap (GOf (fs_WriteTxnMarkersRequest[0]'(by decide)) v true) := ⟨_, rfl⟩
  have rbk1 := pk10
  rw [← hdk1] at rbk1 ⊢
  have hBk1 : B_k1.length + (partB fs_sWriteTxnMarkersRequestMarker v true ((lT (T.at 0))[k1])).length ≤ LIM := by rw [hdk1]; exact el_size hs38 hk1 (GOf_part (by decide) _)
  refine asg rfl rfl ?_
  refine nl ?_
  refine sq ?_
  refine sr ?_
  refine mv rfl rfl ?_
  refine nc rfl rfl ?_
  refine fa F145_0 rfl rfl ?_
  refine ld (Says.fz hc_10) Tryz.isAgg2 rfl (Nat.add_zero _).symm rfl rfl ?_
  refine asg rfl rfl ?_
  refine nl ?_
  refine rg ?_
  refine mv rfl rfl ?_
  refine mv rfl rfl ?_
  have ok57 := oek1.get 0 (by decide) (has_yes (show (0 : Int) ≤ v by omega) (show ((-1) : Int) < 0 ∨ v ≤ (-1) by omega))
  have e_11 : B_k1 ++ (fixed ((((lT (T.at 0))[k1]).at 0).n) 8) = B_k1 ++ plainTo (zipped fs_sWriteTxnMarkersRequestMarker v true ((lT (T.at 0))[k1])) v 1 := fold_first (fs := fs_sWriteTxnMarkersRequestMarker) (v := v) (flex := true) (t := ((lT (T.at 0))[k1])) (B := B_k1) 0 rfl (by decide) (by decide) (has_yes (show (0 : Int) ≤ v by omega) (show ((-1) : Int) < 0 ∨ v ≤ (-1) by omega)) ((FB_int (f := (fs_sWriteTxnMarkersRequestMarker[0]'(by decide))) (by decide) (by decide)).trans rfl)
  have hs57 := fold_size e_11 (by decide) hBk1
  refine cl rfl rfl rfl (OutK.cast (k_AppendInt64 (u := (((lT (T.at 0))[k1]).at 0).n) rbk1 hs57) e_11) rfl (fun v_ H1 L1 hle hR => ?_)
  obtain ⟨rfl, a57, c57, N57, rfl, rfl, h57⟩ := hR
  have r57 := h57.1
  refine asg rfl rfl ?_
  refine nl ?_
  refine sq ?_
  refine sr ?_
  refine mv rfl rfl ?_
  refine nc rfl rfl ?_
  refine fa F145_1 rfl rfl ?_
  refine ld (Says.fz hc_10) Tryz.isAgg45 rfl rfl rfl rfl ?_
  refine asg rfl rfl ?_
  refine nl ?_
  refine rg ?_
  refine mv rfl rfl ?_
  refine mv rfl rfl ?_
  have ok64 := oek1.get 1 (by decide) (has_yes (show (0 : Int) ≤ v by omega) (show ((-1) : Int) < 0 ∨ v ≤ (-1) by omega))
  have e_12 : B_k1 ++ plainTo (zipped fs_sWriteTxnMarkersRequestMarker v true ((lT (T.at 0))[k1])) v 1 ++ (fixed (IntKind.i16.wrap (((lT (T.at 0))[k1]).at 1).n) 2) = B_k1 ++ plainTo (zipped fs_sWriteTxnMarkersRequestMarker v true ((lT (T.at 0))[k1])) v 2 := fold_yes (fs := fs_sWriteTxnMarkersRequestMarker) (v := v) (flex := true) (t := ((lT (T.at 0))[k1])) (B := B_k1) 1 (by decide) (by decide) (has_yes (show (0 : Int) ≤ v by omega) (show ((-1) : Int) < 0 ∨ v ≤ (-1) by omega)) ((FB_int (f := (fs_sWriteTxnMarkersRequestMarker[1]'(by decide))) (by decide) (by decide)).trans (fixed_i16 _).symm)
  have hs64 := fold_size e_12 (by decide) hBk1
  refine cl rfl rfl rfl (OutK.cast (k_AppendInt16 (u := IntKind.i16.wrap (((lT (T.at 0))[k1]).at 1).n) r57 hs64) e_12) rfl (fun v_ H1 L1 hle hR => ?_)
  obtain ⟨rfl, a64, c64, N64, rfl, rfl, h64⟩ := hR
  have r64 := h64.1
  refine asg rfl rfl ?_
  refine nl ?_
  refine sq ?_
  refine sr ?_
  refine mv rfl rfl ?_
  refine nc rfl rfl ?_
  refine fa F145_2 rfl rfl ?_
  refine ld (Says.fz hc_10) Tryz.isAgg4 rfl rfl rfl rfl ?_
  refine asg rfl rfl ?_
  refine nl ?_
  refine rg ?_
  refine mv rfl rfl ?_
  refine mv rfl rfl ?_
  have ok71 := oek1.get 2 (by decide) (has_yes (show (0 : Int) ≤ v by omega) (show ((-1) : Int) < 0 ∨ v ≤ (-1) by omega))
  have e_13 : B_k1 ++ plainTo (zipped fs_sWriteTxnMarkersRequestMarker v true ((lT (T.at 0))[k1])) v 2 ++ ([if decide ((((lT (T.at 0))[k1]).at 2).n % 2 = 1) then 1 else 0] : List UInt8) = B_k1 ++ plainTo (zipped fs_sWriteTxnMarkersRequestMarker v true ((lT (T.at 0))[k1])) v 3 := fold_yes (fs := fs_sWriteTxnMarkersRequestMarker) (v := v) (flex := true) (t := ((lT (T.at 0))[k1])) (B := B_k1) 2 (by decide) (by decide) (has_yes (show (0 : Int) ≤ v by omega) (show ((-1) : Int) < 0 ∨ v ≤ (-1) by omega)) ((FB_bool (f := (fs_sWriteTxnMarkersRequestMarker[2]'(by decide))) (by decide)).trans (bool_byte _))
  have hs71 := fold_size e_13 (by decide) hBk1
  refine cl rfl rfl rfl (OutK.cast (k_AppendBool (b := decide ((((lT (T.at 0))[k1]).at 2).n % 2 = 1)) r64 hs71) e_13) rfl (fun v_ H1 L1 hle hR => ?_)
  obtain ⟨rfl, a71, c71, N71, rfl, rfl, h71⟩ := hR
  have r71 := h71.1
  refine asg rfl rfl ?_
  refine nl ?_
  refine sq ?_
  refine sr ?_
  refine mv rfl rfl ?_
  refine nc rfl rfl ?_
  refine fa F145_3 rfl rfl ?_
  refine ld (Says.fz hc_10) Tryz.isAgg143 rfl rfl rfl rfl ?_
  refine asg rfl rfl ?_
  refine nl ?_
  refine sq ?_
  refine sr ?_
  refine mv rfl rfl ?_
  refine nl ?_
  refine cdT rfl (by omega) ?_
  refine rg ?_
  refine mv rfl rfl ?_
  refine mv rfl rfl ?_
  refine ls Tryz.runUnderlying143 rfl rfl ?_
  have ok80 := oek1.get 3 (by decide) (has_yes (show (0 : Int) ≤ v by omega) (show ((-1) : Int) < 0 ∨ v ≤ (-1) by omega))
  have ll80 := lT_len (ok80.len rfl)
  have e_14 : B_k1 ++ plainTo (zipped fs_sWriteTxnMarkersRequestMarker v true ((lT (T.at 0))[k1])) v 3 ++ (counted true false (lT (((lT (T.at 0))[k1]).at 3)).length 4 ++ (lT (((lT (T.at 0))[k1]).at 3)).flatMap (GOf (fs_sWriteTxnMarkersRequestMarker[3]'(by decide)) v true)) = B_k1 ++ plainTo (zipped fs_sWriteTxnMarkersRequestMarker v true ((lT (T.at 0))[k1])) v 4 := fold_yes (fs := fs_sWriteTxnMarkersRequestMarker) (v := v) (flex := true) (t := ((lT (T.at 0))[k1])) (B := B_k1) 3 (by decide) (by decide) (has_yes (show (0 : Int) ≤ v by omega) (show ((-1) : Int) < 0 ∨ v ≤ (-1) by omega)) (FB_list0 (f := (fs_sWriteTxnMarkersRequestMarker[3]'(by decide))) (by decide) (by decide) (by decide) ok80)
  have hs80 := fold_size e_14 (by decide) hBk1
  have hc80 : (B_k1 ++ plainTo (zipped fs_sWriteTxnMarkersRequestMarker v true ((lT (T.at 0))[k1])) v 3).length + (counted true false (lT (((lT (T.at 0))[k1]).at 3)).length 4).length ≤ LIM := by have h := hs80; simp only [List.length_append] at h ⊢; omega
  refine cl rfl rfl rfl (OutK.cast (k_AppendCompactArrayLen (n := (lT (((lT (T.at 0))[k1]).at 3)).length) (by omega) r71 hc80) (show _ = B_k1 ++ plainTo (zipped fs_sWriteTxnMarkersRequestMarker v true ((lT (T.at 0))[k1])) v 3 ++ (counted true false (lT (((lT (T.at 0))[k1]).at 3)).length 4) from rfl)) rfl (fun v_ H1 L1 hle hR => ?_)
  obtain ⟨rfl, a80, c80, N80, rfl, rfl, h80⟩ := hR
  have r80 := h80.1
  refine asg rfl rfl ?_
  refine nl ?_
  refine sr ?_
  refine mv rfl rfl ?_
  refine ls Tryz.runUnderlying143 rfl rfl ?_
  refine mv rfl rfl ?_
  refine nl ?_
  refine fr ((lT (((lT (T.at 0))[k1]).at 3)).length) (fun k2 l' H' L' => ∃ (a_k2 : Option Addr), ∃ (m_k2 : Nat), ∃ (c_k2 : Nat), ∃ (N_k2 : Chunk), [(0, .pointer (some ⟨b, 0, none⟩)), (1, .slice a_k2 m_k2 c_k2), (5, .int .i16 v), (6, .bool (decide ((1 : Int) ≤ v))), (7, .slice a0 (lT (T.at 0)).length c0), (9, .pointer (some ⟨b_4, o_5 + k1 * 7, none⟩)), (13, .slice a_k1_3 (lT (((lT (T.at 0))[k1]).at 3)).length c_k1_3), (44, .int .i64 ((lT (T.at 0)).length : Int)), (45, .int .i64 (k1 : Int)), (86, .int .i64 ((lT (((lT (T.at 0))[k1]).at 3)).length : Int))] = l' ∧ N_k2 :: L = L' ∧ Row 5 1 a_k2 m_k2 c_k2 (bytesOf (B_k1 ++ plainTo (zipped fs_sWriteTxnMarkersRequestMarker v true ((lT (T.at 0))[k1])) v 3 ++ (counted true false (lT (((lT (T.at 0))[k1]).at 3)).length 4) ++ ((lT (((lT (T.at 0))[k1]).at 3)).take k2).flatMap (GOf (fs_sWriteTxnMarkersRequestMarker[3]'(by decide)) v true))) N_k2 ∧ m_k2 = (B_k1 ++ plainTo (zipped fs_sWriteTxnMarkersRequestMarker v true ((lT (T.at 0))[k1])) v 3 ++ (counted true false (lT (((lT (T.at 0))[k1]).at 3)).length 4) ++ ((lT (((lT (T.at 0))[k1]).at 3)).take k2).flatMap (GOf (fs_sWriteTxnMarkersRequestMarker[3]'(by decide)) v true)).length) [(0, .pointer (some ⟨b, 0, none⟩)), (1, .slice _ _ _), (5, .int .i16 v), (6, .bool (decide ((1 : Int) ≤ v))), (7, .slice a0 (lT (T.at 0)).length c0), (9, .pointer (some ⟨b_4, o_5 + k1 * 7, none⟩)), (13, .slice a_k1_3 (lT (((lT (T.at 0))[k1]).at 3)).length c_k1_3), (44, .int .i64 ((lT (T.at 0)).length : Int)), (45, .int .i64 (k1 : Int)), (86, .int .i64 ((lT (((lT (T.at 0))[k1]).at 3)).length : Int))] (fun k2 l' H' L' h => ?_) (by omega) rfl (.of ⟨rfl, rfl, rfl, rfl, rfl, rfl, rfl, rfl, rfl, rfl, trivial⟩) ⟨_, _, _, _, rfl, rfl, (by rw [List.take_zero, List.flatMap_nil, List.append_nil]; exact r80), (by rw [List.take_zero, List.flatMap_nil, List.append_nil])⟩ rfl rfl rfl rfl rfl (fun k2 l' H' L' hk2 le_15 hI => ?_) (fun l' H' L' le_16 hI => ?_)
  · obtain ⟨a_k2, m_k2, c_k2, N_k2, rfl, _⟩ := h; exact ⟨rfl, rfl, rfl, rfl⟩
  ·
   obtain ⟨a_k2, m_k2, c_k2, N_k2, rfl, rfl, pk20, pk21⟩ := hI
   subst pk21
   refine sr ?_
   refine mv rfl rfl ?_
   refine asg rfl rfl ?_
   refine nl ?_
   refine sr ?_
   refine mv rfl rfl ?_
   refine mv rfl rfl ?_
   obtain ⟨b_17, o_18, e_19, g_20⟩ := (hf_k1_0.mono At_WriteTxnMarkersRequestMarkerTopic.mono le_15).rows.at_ (ne_nil_of_lt hk2)
   obtain ⟨cs_21, hA_22, hc_23⟩ := g_20 k2 hk2
   refine ix2 Tryz.runUnderlying143 Tryz.sizeOf150 rfl e_19 rfl rfl hk2 rfl ?_
   obtain ⟨a_k2_1, c_k2_1, m_k2_t, rfl, hf_k2_0, hf_k2_1⟩ := hA_22
   have oek2 := (ok80.el rfl _ (lT_mem (List.getElem_mem hk2))).2 rfl
   obtain ⟨B_k2, hdk2⟩ : ∃ z : List UInt8, z = B_k1 ++ plainTo (zipped fs_sWriteTxnMarkersRequestMarker v true ((lT (T.at 0))[k1])) v 3 ++ (counted true false (lT (((lT (T.at 0))[k1]).at 3)).length 4) ++ ((lT (((lT (T.at 0))[k1]).at 3)).take k2).flatMap (GOf (fs_sWriteTxnMarkersRequestMarker[3]'(by decide)) v true) := ⟨_, rfl⟩
   have rbk2 := pk20
   rw [← hdk2] at rbk2 ⊢
   have hBk2 : B_k2.length + (partB fs_sWriteTxnMarkersRequestMarkerTopic v true ((lT (((lT (T.at 0))[k1]).at 3))[k2])).length ≤ LIM := by rw [hdk2]; exact el_size hs80 hk2 (GOf_part (by decide) _)
   refine asg rfl rfl ?_
   refine nl ?_
   refine sq ?_
   refine sr ?_
   refine mv rfl rfl ?_
   refine nc rfl rfl ?_
   refine fa F150_0 rfl rfl ?_
   refine ld (Says.fz hc_23) Tryz.isAgg9 rfl (Nat.add_zero _).symm rfl rfl ?_
   refine asg rfl rfl ?_
   refine nl ?_
   refine sr ?_
   refine mv rfl rfl ?_
   refine nl ?_
   refine cdT rfl (by omega) ?_
   refine rg ?_
   refine mv rfl rfl ?_
   refine mv rfl rfl ?_
   have ok100 := oek2.get 0 (by decide) (has_yes (show (0 : Int) ≤ v by omega) (show ((-1) : Int) < 0 ∨ v ≤ (-1) by omega))
   have nn100 := ok100.nn (by decide) (by decide) (by decide)
   have e_24 : B_k2 ++ (counted true false (((lT (((lT (T.at 0))[k1]).at 3))[k2]).at 0).s.length 2 ++ (((lT (((lT (T.at 0))[k1]).at 3))[k2]).at 0).s) = B_k2 ++ plainTo (zipped fs_sWriteTxnMarkersRequestMarkerTopic v true ((lT (((lT (T.at 0))[k1]).at 3))[k2])) v 1 := fold_first (fs := fs_sWriteTxnMarkersRequestMarkerTopic) (v := v) (flex := true) (t := ((lT (((lT (T.at 0))[k1]).at 3))[k2])) (B := B_k2) 0 rfl (by decide) (by decide) (has_yes (show (0 : Int) ≤ v by omega) (show ((-1) : Int) < 0 ∨ v ≤ (-1) by omega)) (by rw [FB_text (f := (fs_sWriteTxnMarkersRequestMarkerTopic[0]'(by decide))) (by decide) (by decide) ok100, sT_nn nn100, nn100])
   have hs100 := fold_size e_24 (by decide) hBk2
   refine cl rfl rfl rfl (OutK.cast (k_AppendCompactString (x := (((lT (((lT (T.at 0))[k1]).at 3))[k2]).at 0).s) (by have := ok100.s (Or.inl rfl); omega) rbk2 hs100) e_24) rfl (fun v_ H1 L1 hle hR => ?_)
   obtain ⟨rfl, a100, c100, N100, rfl, rfl, h100⟩ := hR
   have r100 := h100.1
   refine asg rfl rfl ?_
   refine nl ?_
   refine sq ?_
   refine sr ?_
   refine mv rfl rfl ?_
   refine nc rfl rfl ?_
   refine fa F150_1 rfl rfl ?_
   refine ld (Says.fz hc_23) Tryz.isAgg148 rfl rfl rfl rfl ?_
   refine asg rfl rfl ?_
   refine nl ?_
   refine sq ?_
   refine sr ?_
   refine mv rfl rfl ?_
   refine nl ?_
   refine cdT rfl (by omega) ?_
   refine rg ?_
   refine mv rfl rfl ?_
   refine mv rfl rfl ?_
   refine ls Tryz.runUnderlying148 rfl rfl ?_
   have ok112 := oek2.get 1 (by decide) (has_yes (show (0 : Int) ≤ v by omega) (show ((-1) : Int) < 0 ∨ v ≤ (-1) by omega))
   have ll112 := lT_len (ok112.len rfl)
   have e_25 : B_k2 ++ plainTo (zipped fs_sWriteTxnMarkersRequestMarkerTopic v true ((lT (((lT (T.at 0))[k1]).at 3))[k2])) v 1 ++ (counted true false (lT (((lT (((lT (T.at 0))[k1]).at 3))[k2]).at 1)).length 4 ++ (lT (((lT (((lT (T.at 0))[k1]).at 3))[k2]).at 1)).flatMap (GOf (fs_sWriteTxnMarkersRequestMarkerTopic[1]'(by decide)) v true)) = B_k2 ++ plainTo (zipped fs_sWriteTxnMarkersRequestMarkerTopic v true ((lT (((lT (T.at 0))[k1]).at 3))[k2])) v 2 := fold_yes (fs := fs_sWriteTxnMarkersRequestMarkerTopic) (v := v) (flex := true) (t := ((lT (((lT (T.at 0))[k1]).at 3))[k2])) (B := B_k2) 1 (by decide) (by decide) (has_yes (show (0 : Int) ≤ v by omega) (show ((-1) : Int) < 0 ∨ v ≤ (-1) by omega)) (FB_list0 (f := (fs_sWriteTxnMarkersRequestMarkerTopic[1]'(by decide))) (by decide) (by decide) (by decide) ok112)
   have hs112 := fold_size e_25 (by decide) hBk2
   have hc112 : (B_k2 ++ plainTo (zipped fs_sWriteTxnMarkersRequestMarkerTopic v true ((lT (((lT (T.at 0))[k1]).at 3))[k2])) v 1).length + (counted true false (lT (((lT (((lT (T.at 0))[k1]).at 3))[k2]).at 1)).length 4).length ≤ LIM := by have h := hs112; simp only [List.length_append] at h ⊢; omega
   refine cl rfl rfl rfl (OutK.cast (k_AppendCompactArrayLen (n := (lT (((lT (((lT (T.at 0))[k1]).at 3))[k2]).at 1)).length) (by omega) r100 hc112) (show _ = B_k2 ++ plainTo (zipped fs_sWriteTxnMarkersRequestMarkerTopic v true ((lT (((lT (T.at 0))[k1]).at 3))[k2])) v 1 ++ (counted true false (lT (((lT (((lT (T.at 0))[k1]).at 3))[k2]).at 1)).length 4) from rfl)) rfl (fun v_ H1 L1 hle hR => ?_)
   obtain ⟨rfl, a112, c112, N112, rfl, rfl, h112⟩ := hR
   have r112 := h112.1
   refine asg rfl rfl ?_
   refine nl ?_
   refine sr ?_
   refine mv rfl rfl ?_
   refine ls Tryz.runUnderlying148 rfl rfl ?_
   refine mv rfl rfl ?_
   refine nl ?_
   refine fr ((lT (((lT (((lT (T.at 0))[k1]).at 3))[k2]).at 1)).length) (fun k3 l' H' L' => ∃ (a_k3 : Option Addr), ∃ (m_k3 : Nat), ∃ (c_k3 : Nat), ∃ (N_k3 : Chunk), [(0, .pointer (some ⟨b, 0, none⟩)), (1, .slice a_k3 m_k3 c_k3), (5, .int .i16 v), (6, .bool (decide ((1 : Int) ≤ v))), (7, .slice a0 (lT (T.at 0)).length c0), (9, .pointer (some ⟨b_4, o_5 + k1 * 7, none⟩)), (13, .slice a_k1_3 (lT (((lT (T.at 0))[k1]).at 3)).length c_k1_3), (15, .pointer (some ⟨b_17, o_18 + k2 * 3, none⟩)), (17, .slice a_k2_1 (lT (((lT (((lT (T.at 0))[k1]).at 3))[k2]).at 1)).length c_k2_1), (44, .int .i64 ((lT (T.at 0)).length : Int)), (45, .int .i64 (k1 : Int)), (86, .int .i64 ((lT (((lT (T.at 0))[k1]).at 3)).length : Int)), (87, .int .i64 (k2 : Int)), (118, .int .i64 ((lT (((lT (((lT (T.at 0))[k1]).at 3))[k2]).at 1)).length : Int))] = l' ∧ N_k3 :: L = L' ∧ Row 5 1 a_k3 m_k3 c_k3 (bytesOf (B_k2 ++ plainTo (zipped fs_sWriteTxnMarkersRequestMarkerTopic v true ((lT (((lT (T.at 0))[k1]).at 3))[k2])) v 1 ++ (counted true false (lT (((lT (((lT (T.at 0))[k1]).at 3))[k2]).at 1)).length 4) ++ ((lT (((lT (((lT (T.at 0))[k1]).at 3))[k2]).at 1)).take k3).flatMap (GOf (fs_sWriteTxnMarkersRequestMarkerTopic[1]'(by decide)) v true))) N_k3 ∧ m_k3 = (B_k2 ++ plainTo (zipped fs_sWriteTxnMarkersRequestMarkerTopic v true ((lT (((lT (T.at 0))[k1]).at 3))[k2])) v 1 ++ (counted true false (lT (((lT (((lT (T.at 0))[k1]).at 3))[k2]).at 1)).length 4) ++ ((lT (((lT (((lT (T.at 0))[k1]).at 3))[k2]).at 1)).take k3).flatMap (GOf (fs_sWriteTxnMarkersRequestMarkerTopic[1]'(by decide)) v true)).length) [(0, .pointer (some ⟨b, 0, none⟩)), (1, .slice _ _ _), (5, .int .i16 v), (6, .bool (decide ((1 : Int) ≤ v))), (7, .slice a0 (lT (T.at 0)).length c0), (9, .pointer (some ⟨b_4, o_5 + k1 * 7, none⟩)), (13, .slice a_k1_3 (lT (((lT (T.at 0))[k1]).at 3)).length c_k1_3), (15, .pointer (some ⟨b_17, o_18 + k2 * 3, none⟩)), (17, .slice a_k2_1 (lT (((lT (((lT (T.at 0))[k1]).at 3))[k2]).at 1)).length c_k2_1), (44, .int .i64 ((lT (T.at 0)).length : Int)), (45, .int .i64 (k1 : Int)), (86, .int .i64 ((lT (((lT (T.at 0))[k1]).at 3)).length : Int)), (87, .int .i64 (k2 : Int)), (118, .int .i64 ((lT (((lT (((lT (T.at 0))[k1]).at 3))[k2]).at 1)).length : Int))] (fun k3 l' H' L' h => ?_) (by omega) rfl (.of ⟨rfl, rfl, rfl, rfl, rfl, rfl, rfl, rfl, rfl, rfl, rfl, rfl, rfl, rfl, trivial⟩) ⟨_, _, _, _, rfl, rfl, (by rw [List.take_zero, List.flatMap_nil, List.append_nil]; exact r112), (by rw [List.take_zero, List.flatMap_nil, List.append_nil])⟩ rfl rfl rfl rfl rfl (fun k3 l' H' L' hk3 le_26 hI => ?_) (fun l' H' L' le_27 hI => ?_)
   · obtain ⟨a_k3, m_k3, c_k3, N_k3, rfl, _⟩ := h; exact ⟨rfl, rfl, rfl, rfl⟩
   ·
    obtain ⟨a_k3, m_k3, c_k3, N_k3, rfl, rfl, pk30, pk31⟩ := hI
    subst pk31
    refine sr ?_
    refine mv rfl rfl ?_
    refine asg rfl rfl ?_
    refine nl ?_
    refine sr ?_
    refine mv rfl rfl ?_
    refine mv rfl rfl ?_
    obtain ⟨b_28, o_29, e_30, g_31⟩ := (hf_k2_0.mono RI32.mono le_26).rows.at_ (ne_nil_of_lt hk3)
    obtain ⟨cs_32, hA_33, hc_34⟩ := g_31 k3 hk3
    refine ix2 Tryz.runUnderlying148 Tryz.sizeOf21 rfl e_30 rfl rfl hk3 rfl ?_
    obtain rfl := hA_33
    refine ld (Says.fz hc_34) Tryz.isAgg21 rfl (Nat.add_zero _).symm rfl rfl ?_
    refine asg rfl rfl ?_
    refine nl ?_
    refine rg ?_
    refine mv rfl rfl ?_
    refine mv rfl rfl ?_
    have hp128 : (GOf (fs_sWriteTxnMarkersRequestMarkerTopic[1]'(by decide)) v true) ((lT (((lT (((lT (T.at 0))[k1]).at 3))[k2]).at 1))[k3]) = fixed (IntKind.i32.wrap ((lT (((lT (((lT (T.at 0))[k1]).at 3))[k2]).at 1))[k3]).n) 4 := (G_int (f := (fs_sWriteTxnMarkersRequestMarkerTopic[1]'(by decide))) (by decide) (by decide) _).trans (fixed_i32 _).symm
    have hs128 := el_size hs112 hk3 hp128
    have ee128 := el_end (B0 := B_k2 ++ plainTo (zipped fs_sWriteTxnMarkersRequestMarkerTopic v true ((lT (((lT (T.at 0))[k1]).at 3))[k2])) v 1 ++ (counted true false (lT (((lT (((lT (T.at 0))[k1]).at 3))[k2]).at 1)).length 4)) hk3 hp128
    refine cl rfl rfl rfl (OutK.cast (k_AppendInt32 (u := IntKind.i32.wrap ((lT (((lT (((lT (T.at 0))[k1]).at 3))[k2]).at 1))[k3]).n) pk30 hs128) ee128) rfl (fun v_ H1 L1 hle hR => ?_)
    obtain ⟨rfl, a128, c128, N128, rfl, rfl, h128⟩ := hR
    have r128 := h128.1
    refine asg rfl rfl ?_
    refine nN ?_
    refine Nb ?_
    refine fun a_ w_ hA hw => ⟨_, _, _, hA.sub ?_, le_26, hw, _, rfl, _, _, _, _, rfl, rfl, r128, rfl⟩
    exact (.of ⟨rfl, rfl, rfl, rfl, rfl, rfl, rfl, rfl, rfl, rfl, rfl, rfl, rfl, rfl, rfl, trivial⟩)
   ·
    obtain ⟨a_k3, m_k3, c_k3, N_k3, rfl, rfl, pk30, pk31⟩ := hI
    refine toWp ?_
    have eL112 : B_k2 ++ plainTo (zipped fs_sWriteTxnMarkersRequestMarkerTopic v true ((lT (((lT (T.at 0))[k1]).at 3))[k2])) v 1 ++ (counted true false (lT (((lT (((lT (T.at 0))[k1]).at 3))[k2]).at 1)).length 4) ++ ((lT (((lT (((lT (T.at 0))[k1]).at 3))[k2]).at 1)).take (lT (((lT (((lT (T.at 0))[k1]).at 3))[k2]).at 1)).length).flatMap (GOf (fs_sWriteTxnMarkersRequestMarkerTopic[1]'(by decide)) v true) = B_k2 ++ plainTo (zipped fs_sWriteTxnMarkersRequestMarkerTopic v true ((lT (((lT (T.at 0))[k1]).at 3))[k2])) v 2 := by rw [List.take_length, List.append_assoc]; exact e_25
    rw [eL112] at pk30 pk31
    subst pk31
    refine sr ?_
    refine mv rfl rfl ?_
    refine nl ?_
    refine cdT rfl (by omega) ?_
    refine sr ?_
    refine mv rfl rfl ?_
    refine mv rfl rfl ?_
    refine nc rfl rfl ?_
    refine fa F150_2 rfl rfl ?_
    refine cl rfl rfl rfl (t_lenU (j := 2) (hc_23.mono le_27) rfl (hf_k2_1.mono le_27)) rfl (fun v_ H1 L1 hle hR => ?_)
    obtain ⟨rfl, rfl, rfl⟩ := hR
    have hu135 := oek2.u
    have hul135 := hu135.2.1
    obtain ⟨hz135a, hz135b⟩ := part_size_plain (by decide) hu135 hBk2
    refine cv Tryz.runUnderlying3 Tryz.runUnderlying67 rfl (w32u (by omega) (by omega)) rfl ?_
    refine ad rfl rfl ((w32u (by omega) (by omega)).trans (Int.zero_add _)) rfl ?_
    refine cl rfl rfl rfl (k_AppendUvarint (n := ((lT (((lT (T.at 0))[k1]).at 3))[k2]).u.length) (by omega) pk30 hz135a) rfl (fun v_ H1 L1 hle hR => ?_)
    obtain ⟨rfl, a138, c138, N138, rfl, rfl, h138⟩ := hR
    have r138 := h138.1
    refine asg rfl rfl ?_
    refine nl ?_
    refine rg ?_
    refine mv rfl rfl ?_
    refine nc rfl rfl ?_
    refine fa F150_2 rfl rfl ?_
    refine mv rfl rfl ?_
    refine cl rfl rfl rfl (t_append_each (j := 2) (hc_23.mono le_27) rfl (hf_k2_1.mono le_27) (by omega) r138 (fun p hp => by have := hu135.2.2 p hp; omega) hz135b) rfl (fun v_ H1 L1 le_35 hR => ?_)
    obtain ⟨a143, c143, N143, rfl, rfl, h143⟩ := hR
    have r143 := h143.1
    have eP_36 : B_k2 ++ plainTo (zipped fs_sWriteTxnMarkersRequestMarkerTopic v true ((lT (((lT (T.at 0))[k1]).at 3))[k2])) v 2 ++ uvar ((lT (((lT (T.at 0))[k1]).at 3))[k2]).u.length ++ ((lT (((lT (T.at 0))[k1]).at 3))[k2]).u.flatMap tagU = B_k2 ++ partB fs_sWriteTxnMarkersRequestMarkerTopic v true ((lT (((lT (T.at 0))[k1]).at 3))[k2]) := part_close (B := B_k2) (by decide) hu135
    rw [eP_36] at r143 ⊢
    refine asg rfl rfl ?_
    refine nN ?_
    refine Nb ?_
    have ee_37 : B_k2 ++ partB fs_sWriteTxnMarkersRequestMarkerTopic v true ((lT (((lT (T.at 0))[k1]).at 3))[k2]) = B_k1 ++ plainTo (zipped fs_sWriteTxnMarkersRequestMarker v true ((lT (T.at 0))[k1])) v 3 ++ (counted true false (lT (((lT (T.at 0))[k1]).at 3)).length 4) ++ ((lT (((lT (T.at 0))[k1]).at 3)).take (k2 + 1)).flatMap (GOf (fs_sWriteTxnMarkersRequestMarker[3]'(by decide)) v true) := by rw [hdk2]; exact el_end (B0 := B_k1 ++ plainTo (zipped fs_sWriteTxnMarkersRequestMarker v true ((lT (T.at 0))[k1])) v 3 ++ (counted true false (lT (((lT (T.at 0))[k1]).at 3)).length 4)) (G := (GOf (fs_sWriteTxnMarkersRequestMarker[3]'(by decide)) v true)) hk2 (GOf_part (by decide) _)
    refine fun a_ w_ hA hw => ⟨_, _, _, hA.sub ?_, (le_15.trans (le_27.trans le_35)), hw, _, rfl, _, _, _, _, rfl, rfl, (by rw [← ee_37]; exact r143), (by rw [← ee_37])⟩
    exact (.of ⟨rfl, rfl, rfl, rfl, rfl, rfl, rfl, rfl, rfl, rfl, rfl, trivial⟩)
  ·
   obtain ⟨a_k2, m_k2, c_k2, N_k2, rfl, rfl, pk20, pk21⟩ := hI
   refine toWp ?_
   have eL80 : B_k1 ++ plainTo (zipped fs_sWriteTxnMarkersRequestMarker v true ((lT (T.at 0))[k1])) v 3 ++ (counted true false (lT (((lT (T.at 0))[k1]).at 3)).length 4) ++ ((lT (((lT (T.at 0))[k1]).at 3)).take (lT (((lT (T.at 0))[k1]).at 3)).length).flatMap (GOf (fs_sWriteTxnMarkersRequestMarker[3]'(by decide)) v true) = B_k1 ++ plainTo (zipped fs_sWriteTxnMarkersRequestMarker v true ((lT (T.at 0))[k1])) v 4 := by rw [List.take_length, List.append_assoc]; exact e_14
   rw [eL80] at pk20 pk21
   subst pk21
   refine sq ?_
   refine sr ?_
   refine mv rfl rfl ?_
   refine nc rfl rfl ?_
   refine fa F145_4 rfl rfl ?_
   refine ld (Says.fz (hc_10.mono le_16)) Tryz.isAgg21 rfl rfl rfl rfl ?_
   refine asg rfl rfl ?_
   refine nl ?_
   refine rg ?_
   refine mv rfl rfl ?_
   refine mv rfl rfl ?_
   have ok151 := oek1.get 4 (by decide) (has_yes (show (0 : Int) ≤ v by omega) (show ((-1) : Int) < 0 ∨ v ≤ (-1) by omega))
   have e_38 : B_k1 ++ plainTo (zipped fs_sWriteTxnMarkersRequestMarker v true ((lT (T.at 0))[k1])) v 4 ++ (fixed (IntKind.i32.wrap (((lT (T.at 0))[k1]).at 4).n) 4) = B_k1 ++ plainTo (zipped fs_sWriteTxnMarkersRequestMarker v true ((lT (T.at 0))[k1])) v 5 := fold_yes (fs := fs_sWriteTxnMarkersRequestMarker) (v := v) (flex := true) (t := ((lT (T.at 0))[k1])) (B := B_k1) 4 (by decide) (by decide) (has_yes (show (0 : Int) ≤ v by omega) (show ((-1) : Int) < 0 ∨ v ≤ (-1) by omega)) ((FB_int (f := (fs_sWriteTxnMarkersRequestMarker[4]'(by decide))) (by decide) (by decide)).trans (fixed_i32 _).symm)
   have hs151 := fold_size e_38 (by decide) hBk1
   refine cl rfl rfl rfl (OutK.cast (k_AppendInt32 (u := IntKind.i32.wrap (((lT (T.at 0))[k1]).at 4).n) pk20 hs151) e_38) rfl (fun v_ H1 L1 hle hR => ?_)
   obtain ⟨rfl, a151, c151, N151, rfl, rfl, h151⟩ := hR
   have r151 := h151.1
   refine asg rfl rfl ?_
   refine nl ?_
   refine sq ?_
   refine sr ?_
   refine mv rfl rfl ?_
   refine ge rfl rfl rfl ?_
   refine nl ?_
   refine cutT (fun l' H' L' => ∃ (aj_39 : Option Addr), ∃ (mj_39 : Nat), ∃ (cj_39 : Nat), ∃ (Nj_39 : Chunk), [(0, .pointer (some ⟨b, 0, none⟩)), (1, .slice aj_39 mj_39 cj_39), (5, .int .i16 v), (6, .bool (decide ((1 : Int) ≤ v))), (7, .slice a0 (lT (T.at 0)).length c0), (9, .pointer (some ⟨b_4, o_5 + k1 * 7, none⟩)), (44, .int .i64 ((lT (T.at 0)).length : Int)), (45, .int .i64 (k1 : Int))] = l' ∧ Nj_39 :: L = L' ∧ Row 5 1 aj_39 mj_39 cj_39 (bytesOf (B_k1 ++ plainTo (zipped fs_sWriteTxnMarkersRequestMarker v true ((lT (T.at 0))[k1])) v 6)) Nj_39 ∧ mj_39 = (B_k1 ++ plainTo (zipped fs_sWriteTxnMarkersRequestMarker v true ((lT (T.at 0))[k1])) v 6).length) ?_ (fun l' H' L' le_40 hI => ?_)
   ·
    refine cd rfl (fun h153 => ?_) (fun h153 => ?_)
    ·
     refine sr ?_
     refine mv rfl rfl ?_
     refine nc rfl rfl ?_
     refine fa F145_5 rfl rfl ?_
     refine ld (Says.fz (hc_10.mono le_16)) Tryz.isAgg105 rfl rfl rfl rfl ?_
     refine asg rfl rfl ?_
     refine nl ?_
     refine rg ?_
     refine mv rfl rfl ?_
     refine mv rfl rfl ?_
     have ok160 := oek1.get 5 (by decide) (has_yes (show (2 : Int) ≤ v by omega) (show ((-1) : Int) < 0 ∨ v ≤ (-1) by omega))
     have e_41 : B_k1 ++ plainTo (zipped fs_sWriteTxnMarkersRequestMarker v true ((lT (T.at 0))[k1])) v 5 ++ (fixed (IntKind.i8.wrap (((lT (T.at 0))[k1]).at 5).n) 1) = B_k1 ++ plainTo (zipped fs_sWriteTxnMarkersRequestMarker v true ((lT (T.at 0))[k1])) v 6 := fold_yes (fs := fs_sWriteTxnMarkersRequestMarker) (v := v) (flex := true) (t := ((lT (T.at 0))[k1])) (B := B_k1) 5 (by decide) (by decide) (has_yes (show (2 : Int) ≤ v by omega) (show ((-1) : Int) < 0 ∨ v ≤ (-1) by omega)) ((FB_int (f := (fs_sWriteTxnMarkersRequestMarker[5]'(by decide))) (by decide) (by decide)).trans (fixed_i8 _).symm)
     have hs160 := fold_size e_41 (by decide) hBk1
     refine cl rfl rfl rfl (OutK.cast (k_AppendInt8 (u := IntKind.i8.wrap (((lT (T.at 0))[k1]).at 5).n) r151 hs160) e_41) rfl (fun v_ H1 L1 hle hR => ?_)
     obtain ⟨rfl, a160, c160, N160, rfl, rfl, h160⟩ := hR
     have r160 := h160.1
     refine asg rfl rfl ?_
     refine nN ?_
     refine fun a_ w_ hA hw => ⟨_, _, _, hA.sub ?_, ler, hw, _, _, _, _, rfl, rfl, r160, rfl⟩
     exact (.of ⟨rfl, rfl, rfl, rfl, rfl, rfl, rfl, rfl, trivial⟩)
    ·
     refine skN ?_
     have es_42 : plainTo (zipped fs_sWriteTxnMarkersRequestMarker v true ((lT (T.at 0))[k1])) v 6 = plainTo (zipped fs_sWriteTxnMarkersRequestMarker v true ((lT (T.at 0))[k1])) v 5 := (piece_no2 (fs := fs_sWriteTxnMarkersRequestMarker) (v := v) (flex := true) (t := ((lT (T.at 0))[k1])) (k := 5) (by decide) (has_no (show v < (2 : Int) ∨ ((0 : Int) ≤ (-1) ∧ (-1) < v) by omega)))
     have eX_43 : B_k1 ++ plainTo (zipped fs_sWriteTxnMarkersRequestMarker v true ((lT (T.at 0))[k1])) v 5 = B_k1 ++ plainTo (zipped fs_sWriteTxnMarkersRequestMarker v true ((lT (T.at 0))[k1])) v 6 := by rw [es_42]
     refine fun a_ w_ hA hw => ⟨_, _, _, hA.sub ?_, ler, hw, _, _, _, _, rfl, rfl, (by rw [← eX_43]; exact r151), (by rw [← eX_43])⟩
     exact (.of ⟨rfl, rfl, rfl, rfl, rfl, rfl, rfl, rfl, trivial⟩)
   ·
    obtain ⟨aj_39, mj_39, cj_39, Nj_39, rfl, rfl, pj0, pj1⟩ := hI
    subst pj1
    have rj_39 := pj0
    refine sr ?_
    refine mv rfl rfl ?_
    refine nl ?_
    refine cdT rfl (by omega) ?_
    refine sr ?_
    refine mv rfl rfl ?_
    refine mv rfl rfl ?_
    refine nc rfl rfl ?_
    refine fa F145_6 rfl rfl ?_
    refine cl rfl rfl rfl (t_lenU (j := 6) (hc_10.mono (le_16.trans le_40)) rfl (hf_k1_1.mono (le_16.trans le_40))) rfl (fun v_ H1 L1 hle hR => ?_)
    obtain ⟨rfl, rfl, rfl⟩ := hR
    have hu166 := oek1.u
    have hul166 := hu166.2.1
    obtain ⟨hz166a, hz166b⟩ := part_size_plain (by decide) hu166 hBk1
    refine cv Tryz.runUnderlying3 Tryz.runUnderlying67 rfl (w32u (by omega) (by omega)) rfl ?_
    refine ad rfl rfl ((w32u (by omega) (by omega)).trans (Int.zero_add _)) rfl ?_
    refine cl rfl rfl rfl (k_AppendUvarint (n := ((lT (T.at 0))[k1]).u.length) (by omega) rj_39 hz166a) rfl (fun v_ H1 L1 hle hR => ?_)
    obtain ⟨rfl, a169, c169, N169, rfl, rfl, h169⟩ := hR
    have r169 := h169.1
    refine asg rfl rfl ?_
    refine nl ?_
    refine rg ?_
    refine mv rfl rfl ?_
    refine nc rfl rfl ?_
    refine fa F145_6 rfl rfl ?_
    refine mv rfl rfl ?_
    refine cl rfl rfl rfl (t_append_each (j := 6) (hc_10.mono (le_16.trans le_40)) rfl (hf_k1_1.mono (le_16.trans le_40)) (by omega) r169 (fun p hp => by have := hu166.2.2 p hp; omega) hz166b) rfl (fun v_ H1 L1 le_44 hR => ?_)
    obtain ⟨a174, c174, N174, rfl, rfl, h174⟩ := hR
    have r174 := h174.1
    have eP_45 : B_k1 ++ plainTo (zipped fs_sWriteTxnMarkersRequestMarker v true ((lT (T.at 0))[k1])) v 6 ++ uvar ((lT (T.at 0))[k1]).u.length ++ ((lT (T.at 0))[k1]).u.flatMap tagU = B_k1 ++ partB fs_sWriteTxnMarkersRequestMarker v true ((lT (T.at 0))[k1]) := part_close (B := B_k1) (by decide) hu166
    rw [eP_45] at r174 ⊢
    refine asg rfl rfl ?_
    refine nN ?_
    refine Nb ?_
    have ee_46 : B_k1 ++ partB fs_sWriteTxnMarkersRequestMarker v true ((lT (T.at 0))[k1]) = D ++ (counted true false (lT (T.at 0)).length 4) ++ ((lT (T.at 0)).take (k1 + 1)).flatMap (GOf (fs_WriteTxnMarkersRequest[0]'(by decide)) v true) := by rw [hdk1]; exact el_end (B0 := D ++ (counted true false (lT (T.at 0)).length 4)) (G := (GOf (fs_WriteTxnMarkersRequest[0]'(by decide)) v true)) hk1 (GOf_part (by decide) _)
    refine fun a_ w_ hA hw => ⟨_, _, _, hA.sub ?_, (le_2.trans (le_16.trans (le_40.trans le_44))), hw, _, rfl, _, _, _, _, rfl, rfl, (by rw [← ee_46]; exact r174), (by rw [← ee_46])⟩
    exact (.of ⟨rfl, rfl, rfl, rfl, rfl, rfl, rfl, trivial⟩)
 ·
  obtain ⟨a_k1, m_k1, c_k1, N_k1, rfl, rfl, pk10, pk11⟩ := hI
  refine toWp ?_
  have eL38 : D ++ (counted true false (lT (T.at 0)).length 4) ++ ((lT (T.at 0)).take (lT (T.at 0)).length).flatMap (GOf (fs_WriteTxnMarkersRequest[0]'(by decide)) v true) = D ++ plainTo (zipped fs_WriteTxnMarkersRequest v true T) v 1 := by rw [List.take_length, List.append_assoc]; exact e_1
  rw [eL38] at pk10 pk11
  subst pk11
  refine sq ?_
  refine sr ?_
  refine mv rfl rfl ?_
  refine nl ?_
  refine cdT rfl (by omega) ?_
  refine sr ?_
  refine mv rfl rfl ?_
  refine mv rfl rfl ?_
  refine nc rfl rfl ?_
  refine fa0 F97_2 rfl rfl ?_
  refine cl rfl rfl rfl (t_lenU (j := 2) (hv.mono le_3) rfl (hf1.mono le_3)) rfl (fun v_ H1 L1 hle hR => ?_)
  obtain ⟨rfl, rfl, rfl⟩ := hR
  have hu181 := hok.u
  have hul181 := hu181.2.1
  obtain ⟨hz181a, hz181b⟩ := part_size_plain (by decide) hu181 hb
  refine cv Tryz.runUnderlying3 Tryz.runUnderlying67 rfl (w32u (by omega) (by omega)) rfl ?_
  refine ad rfl rfl ((w32u (by omega) (by omega)).trans (Int.zero_add _)) rfl ?_
  refine cl rfl rfl rfl (k_AppendUvarint (n := T.u.length) (by omega) pk10 hz181a) rfl (fun v_ H1 L1 hle hR => ?_)
  obtain ⟨rfl, a184, c184, N184, rfl, rfl, h184⟩ := hR
  have r184 := h184.1
  refine asg rfl rfl ?_
  refine nl ?_
  refine rg ?_
  refine mv rfl rfl ?_
  refine nc rfl rfl ?_
  refine fa0 F97_2 rfl rfl ?_
  refine mv rfl rfl ?_
  refine cl rfl rfl rfl (t_append_each (j := 2) (hv.mono le_3) rfl (hf1.mono le_3) (by omega) r184 (fun p hp => by have := hu181.2.2 p hp; omega) hz181b) rfl (fun v_ H1 L1 le_47 hR => ?_)
  obtain ⟨a189, c189, N189, rfl, rfl, h189⟩ := hR
  have r189 := h189.1
  have eP_48 : D ++ plainTo (zipped fs_WriteTxnMarkersRequest v true T) v 1 ++ uvar T.u.length ++ T.u.flatMap tagU = D ++ partB fs_WriteTxnMarkersRequest v true T := part_close (B := D) (by decide) hu181
  rw [eP_48] at r189 ⊢
  refine asg rfl rfl ?_
  refine nl ?_
  refine sr ?_
  refine mv rfl rfl ?_
  refine asg rfl rfl ?_
  refine nl ?_
  exact rT rfl rfl (le_3.trans le_47) (fun _ _ h => h) (OutB.of r189 rfl)
end Go.Sx

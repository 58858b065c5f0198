import Derived.Test.YtahmkeoedpghjaaBDescribeLogDirsResponse
import Derived.KernelRfl
set_option linter.unusedVariables false
set_option linter.unusedSimpArgs false
set_option maxRecDepth 100000
set_option maxHeartbeats 20000000
namespace Go.Sx
open Go.Proofs
theorem app_DescribeLogDirsResponse_f {H : Fz} {L : Own} {a : Option Addr} {cap b : Nat} {D : List UInt8} {N : Chunk} {cs : List Value} {T : Tr} {v : Int} (hr : Row 5 1 a D.length cap (bytesOf D) N) (hv : H.at b 0 cs) (hA : At_DescribeLogDirsResponse v H T cs) (hok : OkP fs_DescribeLogDirsResponse v T) (h0 : 0 ≤ v) (h1 : v ≤ 1) (hb : D.length + (partB fs_DescribeLogDirsResponse v false T).length ≤ LIM) :
    Fn Try.prog 118 [.pointer (some ⟨b, 0, none⟩), .slice a D.length cap] H (N :: L) (fun r H' L' => OutB 5 L (D ++ partB fs_DescribeLogDirsResponse v false T) r L') := by
  obtain ⟨a2, c2, mt, rfl, hf0, hf1⟩ := hA
  refine Fn.mk Try.call118 Try.func118 rfl Try.ntmps118 rfl ?_
  refine sr ?_
  refine asg rfl rfl ?_
  refine nl ?_
  refine sr ?_
  refine mv rfl rfl ?_
  refine nc rfl rfl ?_
  refine fa0 F125_0 rfl rfl ?_
  refine ld (Says.fz hv) Try.isAgg45 rfl (Nat.zero_add _).symm rfl rfl ?_
  refine asg rfl rfl ?_
  refine nl ?_
  refine sr ?_
  refine mv rfl rfl ?_
  refine nl ?_
  refine sr ?_
  refine mv rfl rfl ?_
  refine ge rfl rfl rfl ?_
  refine asg rfl rfl ?_
  refine nl ?_
  refine sr ?_
  refine mv rfl rfl ?_
  refine nl ?_
  refine sq ?_
  refine sr ?_
  refine mv rfl rfl ?_
  refine nc rfl rfl ?_
  refine fa0 F125_1 rfl rfl ?_
  refine ld (Says.fz hv) Try.isAgg21 rfl (Nat.zero_add _).symm rfl rfl ?_
  refine asg rfl rfl ?_
  refine nl ?_
  refine rg ?_
  refine mv rfl rfl ?_
  refine mv rfl rfl ?_
  have ok42 := hok.get 0 (by decide) (has_yes (show (0 : Int) ≤ v by omega) (show ((-1) : Int) < 0 ∨ v ≤ (-1) by omega))
  have e_1 : D ++ (fixed (IntKind.i32.wrap (T.at 0).n) 4) = D ++ plainTo (zipped fs_DescribeLogDirsResponse v false T) v 1 := fold_first (fs := fs_DescribeLogDirsResponse) (v := v) (flex := false) (t := T) (B := D) 0 rfl (by decide) (by decide) (has_yes (show (0 : Int) ≤ v by omega) (show ((-1) : Int) < 0 ∨ v ≤ (-1) by omega)) ((FB_int (f := (fs_DescribeLogDirsResponse[0]'(by decide))) (by decide) (by decide)).trans (fixed_i32 _).symm)
  have hs42 := fold_size e_1 (by decide) hb
  refine cl rfl rfl rfl (OutK.cast (k_AppendInt32 (u := IntKind.i32.wrap (T.at 0).n) hr hs42) e_1) rfl (fun v_ H1 L1 hle hR => ?_)
  obtain ⟨rfl, a42, c42, N42, rfl, rfl, h42⟩ := hR
  have r42 := h42.1
  refine asg rfl rfl ?_
  refine nl ?_
  refine sq ?_
  refine sr ?_
  refine mv rfl rfl ?_
  refine ge rfl rfl rfl ?_
  refine nl ?_
  refine cdF rfl (by omega) ?_
  refine skt ?_
  refine sq ?_
  refine sr ?_
  refine mv rfl rfl ?_
  refine nc rfl rfl ?_
  refine fa0 F125_3 rfl rfl ?_
  refine ld (Says.fz hv) Try.isAgg123 rfl (Nat.zero_add _).symm rfl rfl ?_
  refine asg rfl rfl ?_
  refine nl ?_
  refine sq ?_
  refine sr ?_
  refine mv rfl rfl ?_
  refine nl ?_
  refine cdF rfl (by omega) ?_
  refine rg ?_
  refine mv rfl rfl ?_
  refine mv rfl rfl ?_
  refine ls Try.runUnderlying123 rfl rfl ?_
  have es_2 : plainTo (zipped fs_DescribeLogDirsResponse v false T) v 2 = plainTo (zipped fs_DescribeLogDirsResponse v false T) v 1 := (piece_no2 (fs := fs_DescribeLogDirsResponse) (v := v) (flex := false) (t := T) (k := 1) (by decide) (has_no (show v < (3 : Int) ∨ ((0 : Int) ≤ (-1) ∧ (-1) < v) by omega)))
  have eX_3 : D ++ plainTo (zipped fs_DescribeLogDirsResponse v false T) v 1 = D ++ plainTo (zipped fs_DescribeLogDirsResponse v false T) v 2 := by rw [es_2]
  have rx_4 := r42
  rw [eX_3] at rx_4 ⊢
  have ok64 := hok.get 2 (by decide) (has_yes (show (0 : Int) ≤ v by omega) (show ((-1) : Int) < 0 ∨ v ≤ (-1) by omega))
  have nn64 := ok64.nn (by decide) (by decide)
  have ll64 := lT_len (ok64.len rfl)
  have e_5 : D ++ plainTo (zipped fs_DescribeLogDirsResponse v false T) v 2 ++ (counted false false (lT (T.at 2)).length 4 ++ (lT (T.at 2)).flatMap (GOf (fs_DescribeLogDirsResponse[2]'(by decide)) v false)) = D ++ plainTo (zipped fs_DescribeLogDirsResponse v false T) v 3 := fold_yes (fs := fs_DescribeLogDirsResponse) (v := v) (flex := false) (t := T) (B := D) 2 (by decide) (by decide) (has_yes (show (0 : Int) ≤ v by omega) (show ((-1) : Int) < 0 ∨ v ≤ (-1) by omega)) (by rw [FB_list (f := (fs_DescribeLogDirsResponse[2]'(by decide))) (by decide) (by decide) ok64, nn64])
  have hs64 := fold_size e_5 (by decide) hb
  have hc64 : (D ++ plainTo (zipped fs_DescribeLogDirsResponse v false T) v 2).length + (counted false false (lT (T.at 2)).length 4).length ≤ LIM := by have h := hs64; simp only [List.length_append] at h ⊢; omega
  refine cl rfl rfl rfl (OutK.cast (k_AppendArrayLen (u := ((lT (T.at 2)).length : Int)) rx_4 hc64) (show _ = D ++ plainTo (zipped fs_DescribeLogDirsResponse v false T) v 2 ++ (counted false false (lT (T.at 2)).length 4) from rfl)) rfl (fun v_ H1 L1 hle hR => ?_)
  obtain ⟨rfl, a64, c64, N64, rfl, rfl, h64⟩ := hR
  have r64 := h64.1
  refine asg rfl rfl ?_
  refine nl ?_
  refine sr ?_
  refine mv rfl rfl ?_
  refine ls Try.runUnderlying123 rfl rfl ?_
  refine mv rfl rfl ?_
  refine nl ?_
  refine fr ((lT (T.at 2)).length) (fun k1 l' H' L' => ∃ (a_k1 : Option Addr), ∃ (m_k1 : Nat), ∃ (c_k1 : Nat), ∃ (N_k1 : Chunk), [(0, .pointer (some ⟨b, 0, none⟩)), (1, .slice a_k1 m_k1 c_k1), (5, .int .i16 v), (6, .bool (decide ((2 : Int) ≤ v))), (9, .slice a2 (lT (T.at 2)).length c2), (66, .int .i64 ((lT (T.at 2)).length : Int))] = l' ∧ N_k1 :: L = L' ∧ Row 5 1 a_k1 m_k1 c_k1 (bytesOf (D ++ plainTo (zipped fs_DescribeLogDirsResponse v false T) v 2 ++ (counted false false (lT (T.at 2)).length 4) ++ ((lT (T.at 2)).take k1).flatMap (GOf (fs_DescribeLogDirsResponse[2]'(by decide)) v false))) N_k1 ∧ m_k1 = (D ++ plainTo (zipped fs_DescribeLogDirsResponse v false T) v 2 ++ (counted false false (lT (T.at 2)).length 4) ++ ((lT (T.at 2)).take k1).flatMap (GOf (fs_DescribeLogDirsResponse[2]'(by decide)) v false)).length) [(0, .pointer (some ⟨b, 0, none⟩)), (1, .slice _ _ _), (5, .int .i16 v), (6, .bool (decide ((2 : Int) ≤ v))), (9, .slice a2 (lT (T.at 2)).length c2), (66, .int .i64 ((lT (T.at 2)).length : Int))] (fun k1 l' H' L' h => ?_) (by omega) rfl (.cons rfl (.cons rfl (.cons rfl (.cons rfl (.cons rfl (.cons rfl (.nil _))))))) ⟨_, _, _, _, rfl, rfl, (by rw [List.take_zero, List.flatMap_nil, List.append_nil]; exact r64), (by rw [List.take_zero, List.flatMap_nil, List.append_nil])⟩ rfl rfl rfl rfl rfl (fun k1 l' H' L' hk1 le_6 hI => ?_) (fun l' H' L' le_7 hI => ?_)
  · obtain ⟨a_k1, m_k1, c_k1, N_k1, rfl, _⟩ := h; exact ⟨rfl, rfl, rfl, rfl⟩
  · skip
    obtain ⟨a_k1, m_k1, c_k1, N_k1, rfl, rfl, pk10, pk11⟩ := hI
    subst pk11
    refine sr ?_
    refine mv rfl rfl ?_
    refine asg rfl rfl ?_
    refine nl ?_
    refine sr ?_
    refine mv rfl rfl ?_
    refine mv rfl rfl ?_
    obtain ⟨b_8, o_9, e_10, g_11⟩ := (hf0.mono At_DescribeLogDirsResponseDir.mono le_6).rows.at_ (ne_nil_of_lt hk1)
    obtain ⟨cs_12, hA_13, hc_14⟩ := g_11 k1 hk1
    refine ix2 Try.runUnderlying123 Try.sizeOf185 rfl e_10 rfl rfl hk1 rfl ?_
    obtain ⟨a_k1_2, c_k1_2, m_k1_t, rfl, hf_k1_0, hf_k1_1⟩ := hA_13
    have oek1 := (ok64.el rfl _ (lT_mem (List.getElem_mem hk1))).2 rfl
    obtain ⟨B_k1, hdk1⟩ : ∃ z : List UInt8, z = D ++ plainTo (zipped fs_DescribeLogDirsResponse v false T) v 2 ++ (counted false false (lT (T.at 2)).length 4) ++ ((lT (T.at 2)).take k1).flatMap (GOf (fs_DescribeLogDirsResponse[2]'(by decide)) v false) := ⟨_, rfl⟩
    have rbk1 := pk10
    rw [← hdk1] at rbk1 ⊢
    have hBk1 : B_k1.length + (partB fs_sDescribeLogDirsResponseDir v false ((lT (T.at 2))[k1])).length ≤ LIM := by rw [hdk1]; exact el_size hs64 hk1 (GOf_part (by decide) _)
    refine asg rfl rfl ?_
    refine nl ?_
    refine sq ?_
    refine sr ?_
    refine mv rfl rfl ?_
    refine nc rfl rfl ?_
    refine fa F185_0 rfl rfl ?_
    refine ld (Says.fz hc_14) Try.isAgg45 rfl (Nat.add_zero _).symm rfl rfl ?_
    refine asg rfl rfl ?_
    refine nl ?_
    refine rg ?_
    refine mv rfl rfl ?_
    refine mv rfl rfl ?_
    have ok79 := oek1.get 0 (by decide) (has_yes (show (0 : Int) ≤ v by omega) (show ((-1) : Int) < 0 ∨ v ≤ (-1) by omega))
    have e_15 : B_k1 ++ (fixed (IntKind.i16.wrap (((lT (T.at 2))[k1]).at 0).n) 2) = B_k1 ++ plainTo (zipped fs_sDescribeLogDirsResponseDir v false ((lT (T.at 2))[k1])) v 1 := fold_first (fs := fs_sDescribeLogDirsResponseDir) (v := v) (flex := false) (t := ((lT (T.at 2))[k1])) (B := B_k1) 0 rfl (by decide) (by decide) (has_yes (show (0 : Int) ≤ v by omega) (show ((-1) : Int) < 0 ∨ v ≤ (-1) by omega)) ((FB_int (f := (fs_sDescribeLogDirsResponseDir[0]'(by decide))) (by decide) (by decide)).trans (fixed_i16 _).symm)
    have hs79 := fold_size e_15 (by decide) hBk1
    refine cl rfl rfl rfl (OutK.cast (k_AppendInt16 (u := IntKind.i16.wrap (((lT (T.at 2))[k1]).at 0).n) rbk1 hs79) e_15) rfl (fun v_ H1 L1 hle hR => ?_)
    obtain ⟨rfl, a79, c79, N79, rfl, rfl, h79⟩ := hR
    have r79 := h79.1
    refine asg rfl rfl ?_
    refine nl ?_
    refine sq ?_
    refine sr ?_
    refine mv rfl rfl ?_
    refine nc rfl rfl ?_
    refine fa F185_1 rfl rfl ?_
    refine ld (Says.fz hc_14) Try.isAgg9 rfl rfl rfl rfl ?_
    refine asg rfl rfl ?_
    refine nl ?_
    refine sr ?_
    refine mv rfl rfl ?_
    refine nl ?_
    refine cdF rfl (by omega) ?_
    refine rg ?_
    refine mv rfl rfl ?_
    refine mv rfl rfl ?_
    have ok90 := oek1.get 1 (by decide) (has_yes (show (0 : Int) ≤ v by omega) (show ((-1) : Int) < 0 ∨ v ≤ (-1) by omega))
    have nn90 := ok90.nn (by decide) (by decide)
    have e_16 : B_k1 ++ plainTo (zipped fs_sDescribeLogDirsResponseDir v false ((lT (T.at 2))[k1])) v 1 ++ (counted false false (((lT (T.at 2))[k1]).at 1).s.length 2 ++ (((lT (T.at 2))[k1]).at 1).s) = B_k1 ++ plainTo (zipped fs_sDescribeLogDirsResponseDir v false ((lT (T.at 2))[k1])) v 2 := fold_yes (fs := fs_sDescribeLogDirsResponseDir) (v := v) (flex := false) (t := ((lT (T.at 2))[k1])) (B := B_k1) 1 (by decide) (by decide) (has_yes (show (0 : Int) ≤ v by omega) (show ((-1) : Int) < 0 ∨ v ≤ (-1) by omega)) (by rw [FB_text (f := (fs_sDescribeLogDirsResponseDir[1]'(by decide))) (by decide) (by decide) ok90, sT_nn nn90, nn90])
    have hs90 := fold_size e_16 (by decide) hBk1
    refine cl rfl rfl rfl (OutK.cast (k_AppendString (x := (((lT (T.at 2))[k1]).at 1).s) r79 hs90) e_16) rfl (fun v_ H1 L1 hle hR => ?_)
    obtain ⟨rfl, a90, c90, N90, rfl, rfl, h90⟩ := hR
    have r90 := h90.1
    refine asg rfl rfl ?_
    refine nl ?_
    refine sq ?_
    refine sr ?_
    refine mv rfl rfl ?_
    refine nc rfl rfl ?_
    refine fa F185_2 rfl rfl ?_
    refine ld (Says.fz hc_14) Try.isAgg183 rfl rfl rfl rfl ?_
    refine asg rfl rfl ?_
    refine nl ?_
    refine sq ?_
    refine sr ?_
    refine mv rfl rfl ?_
    refine nl ?_
    refine cdF rfl (by omega) ?_
    refine rg ?_
    refine mv rfl rfl ?_
    refine mv rfl rfl ?_
    refine ls Try.runUnderlying183 rfl rfl ?_
    have ok103 := oek1.get 2 (by decide) (has_yes (show (0 : Int) ≤ v by omega) (show ((-1) : Int) < 0 ∨ v ≤ (-1) by omega))
    have nn103 := ok103.nn (by decide) (by decide)
    have ll103 := lT_len (ok103.len rfl)
    have e_17 : B_k1 ++ plainTo (zipped fs_sDescribeLogDirsResponseDir v false ((lT (T.at 2))[k1])) v 2 ++ (counted false false (lT (((lT (T.at 2))[k1]).at 2)).length 4 ++ (lT (((lT (T.at 2))[k1]).at 2)).flatMap (GOf (fs_sDescribeLogDirsResponseDir[2]'(by decide)) v false)) = B_k1 ++ plainTo (zipped fs_sDescribeLogDirsResponseDir v false ((lT (T.at 2))[k1])) v 3 := fold_yes (fs := fs_sDescribeLogDirsResponseDir) (v := v) (flex := false) (t := ((lT (T.at 2))[k1])) (B := B_k1) 2 (by decide) (by decide) (has_yes (show (0 : Int) ≤ v by omega) (show ((-1) : Int) < 0 ∨ v ≤ (-1) by omega)) (by rw [FB_list (f := (fs_sDescribeLogDirsResponseDir[2]'(by decide))) (by decide) (by decide) ok103, nn103])
    have hs103 := fold_size e_17 (by decide) hBk1
    have hc103 : (B_k1 ++ plainTo (zipped fs_sDescribeLogDirsResponseDir v false ((lT (T.at 2))[k1])) v 2).length + (counted false false (lT (((lT (T.at 2))[k1]).at 2)).length 4).length ≤ LIM := by have h := hs103; simp only [List.length_append] at h ⊢; omega
    refine cl rfl rfl rfl (OutK.cast (k_AppendArrayLen (u := ((lT (((lT (T.at 2))[k1]).at 2)).length : Int)) r90 hc103) (show _ = B_k1 ++ plainTo (zipped fs_sDescribeLogDirsResponseDir v false ((lT (T.at 2))[k1])) v 2 ++ (counted false false (lT (((lT (T.at 2))[k1]).at 2)).length 4) from rfl)) rfl (fun v_ H1 L1 hle hR => ?_)
    obtain ⟨rfl, a103, c103, N103, rfl, rfl, h103⟩ := hR
    have r103 := h103.1
    refine asg rfl rfl ?_
    refine nl ?_
    refine sr ?_
    refine mv rfl rfl ?_
    refine ls Try.runUnderlying183 rfl rfl ?_
    refine mv rfl rfl ?_
    refine nl ?_
    refine fr ((lT (((lT (T.at 2))[k1]).at 2)).length) (fun k2 l' H' L' => ∃ (a_k2 : Option Addr), ∃ (m_k2 : Nat), ∃ (c_k2 : Nat), ∃ (N_k2 : Chunk), [(0, .pointer (some ⟨b, 0, none⟩)), (1, .slice a_k2 m_k2 c_k2), (5, .int .i16 v), (6, .bool (decide ((2 : Int) ≤ v))), (9, .slice a2 (lT (T.at 2)).length c2), (11, .pointer (some ⟨b_8, o_9 + k1 * 7, none⟩)), (14, .slice a_k1_2 (lT (((lT (T.at 2))[k1]).at 2)).length c_k1_2), (66, .int .i64 ((lT (T.at 2)).length : Int)), (67, .int .i64 (k1 : Int)), (105, .int .i64 ((lT (((lT (T.at 2))[k1]).at 2)).length : Int))] = l' ∧ N_k2 :: L = L' ∧ Row 5 1 a_k2 m_k2 c_k2 (bytesOf (B_k1 ++ plainTo (zipped fs_sDescribeLogDirsResponseDir v false ((lT (T.at 2))[k1])) v 2 ++ (counted false false (lT (((lT (T.at 2))[k1]).at 2)).length 4) ++ ((lT (((lT (T.at 2))[k1]).at 2)).take k2).flatMap (GOf (fs_sDescribeLogDirsResponseDir[2]'(by decide)) v false))) N_k2 ∧ m_k2 = (B_k1 ++ plainTo (zipped fs_sDescribeLogDirsResponseDir v false ((lT (T.at 2))[k1])) v 2 ++ (counted false false (lT (((lT (T.at 2))[k1]).at 2)).length 4) ++ ((lT (((lT (T.at 2))[k1]).at 2)).take k2).flatMap (GOf (fs_sDescribeLogDirsResponseDir[2]'(by decide)) v false)).length) [(0, .pointer (some ⟨b, 0, none⟩)), (1, .slice _ _ _), (5, .int .i16 v), (6, .bool (decide ((2 : Int) ≤ v))), (9, .slice a2 (lT (T.at 2)).length c2), (11, .pointer (some ⟨b_8, o_9 + k1 * 7, none⟩)), (14, .slice a_k1_2 (lT (((lT (T.at 2))[k1]).at 2)).length c_k1_2), (66, .int .i64 ((lT (T.at 2)).length : Int)), (67, .int .i64 (k1 : Int)), (105, .int .i64 ((lT (((lT (T.at 2))[k1]).at 2)).length : Int))] (fun k2 l' H' L' h => ?_) (by omega) rfl (.cons rfl (.cons rfl (.cons rfl (.cons rfl (.cons rfl (.cons rfl (.cons rfl (.cons rfl (.cons rfl (.cons rfl (.nil _))))))))))) ⟨_, _, _, _, rfl, rfl, (by rw [List.take_zero, List.flatMap_nil, List.append_nil]; exact r103), (by rw [List.take_zero, List.flatMap_nil, List.append_nil])⟩ rfl rfl rfl rfl rfl (fun k2 l' H' L' hk2 le_18 hI => ?_) (fun l' H' L' le_19 hI => ?_)
    · obtain ⟨a_k2, m_k2, c_k2, N_k2, rfl, _⟩ := h; exact ⟨rfl, rfl, rfl, rfl⟩
    · skip
      obtain ⟨a_k2, m_k2, c_k2, N_k2, rfl, rfl, pk20, pk21⟩ := hI
      subst pk21
      refine sr ?_
      refine mv rfl rfl ?_
      refine asg rfl rfl ?_
      refine nl ?_
      refine sr ?_
      refine mv rfl rfl ?_
      refine mv rfl rfl ?_
      obtain ⟨b_20, o_21, e_22, g_23⟩ := (hf_k1_0.mono At_DescribeLogDirsResponseDirTopic.mono le_18).rows.at_ (ne_nil_of_lt hk2)
      obtain ⟨cs_24, hA_25, hc_26⟩ := g_23 k2 hk2
      refine ix2 Try.runUnderlying183 Try.sizeOf191 rfl e_22 rfl rfl hk2 rfl ?_
      obtain ⟨a_k2_1, c_k2_1, m_k2_t, rfl, hf_k2_0, hf_k2_1⟩ := hA_25
      have oek2 := (ok103.el rfl _ (lT_mem (List.getElem_mem hk2))).2 rfl
      obtain ⟨B_k2, hdk2⟩ : ∃ z : List UInt8, z = B_k1 ++ plainTo (zipped fs_sDescribeLogDirsResponseDir v false ((lT (T.at 2))[k1])) v 2 ++ (counted false false (lT (((lT (T.at 2))[k1]).at 2)).length 4) ++ ((lT (((lT (T.at 2))[k1]).at 2)).take k2).flatMap (GOf (fs_sDescribeLogDirsResponseDir[2]'(by decide)) v false) := ⟨_, rfl⟩
      have rbk2 := pk20
      rw [← hdk2] at rbk2 ⊢
      have hBk2 : B_k2.length + (partB fs_sDescribeLogDirsResponseDirTopic v false ((lT (((lT (T.at 2))[k1]).at 2))[k2])).length ≤ LIM := by rw [hdk2]; exact el_size hs103 hk2 (GOf_part (by decide) _)
      refine asg rfl rfl ?_
      refine nl ?_
      refine sq ?_
      refine sr ?_
      refine mv rfl rfl ?_
      refine nc rfl rfl ?_
      refine fa F191_0 rfl rfl ?_
      refine ld (Says.fz hc_26) Try.isAgg9 rfl (Nat.add_zero _).symm rfl rfl ?_
      refine asg rfl rfl ?_
      refine nl ?_
      refine sr ?_
      refine mv rfl rfl ?_
      refine nl ?_
      refine cdF rfl (by omega) ?_
      refine rg ?_
      refine mv rfl rfl ?_
      refine mv rfl rfl ?_
      have ok122 := oek2.get 0 (by decide) (has_yes (show (0 : Int) ≤ v by omega) (show ((-1) : Int) < 0 ∨ v ≤ (-1) by omega))
      have nn122 := ok122.nn (by decide) (by decide)
      have e_27 : B_k2 ++ (counted false false (((lT (((lT (T.at 2))[k1]).at 2))[k2]).at 0).s.length 2 ++ (((lT (((lT (T.at 2))[k1]).at 2))[k2]).at 0).s) = B_k2 ++ plainTo (zipped fs_sDescribeLogDirsResponseDirTopic v false ((lT (((lT (T.at 2))[k1]).at 2))[k2])) v 1 := fold_first (fs := fs_sDescribeLogDirsResponseDirTopic) (v := v) (flex := false) (t := ((lT (((lT (T.at 2))[k1]).at 2))[k2])) (B := B_k2) 0 rfl (by decide) (by decide) (has_yes (show (0 : Int) ≤ v by omega) (show ((-1) : Int) < 0 ∨ v ≤ (-1) by omega)) (by rw [FB_text (f := (fs_sDescribeLogDirsResponseDirTopic[0]'(by decide))) (by decide) (by decide) ok122, sT_nn nn122, nn122])
      have hs122 := fold_size e_27 (by decide) hBk2
      refine cl rfl rfl rfl (OutK.cast (k_AppendString (x := (((lT (((lT (T.at 2))[k1]).at 2))[k2]).at 0).s) rbk2 hs122) e_27) rfl (fun v_ H1 L1 hle hR => ?_)
      obtain ⟨rfl, a122, c122, N122, rfl, rfl, h122⟩ := hR
      have r122 := h122.1
      refine asg rfl rfl ?_
      refine nl ?_
      refine sq ?_
      refine sr ?_
      refine mv rfl rfl ?_
      refine nc rfl rfl ?_
      refine fa F191_1 rfl rfl ?_
      refine ld (Says.fz hc_26) Try.isAgg189 rfl rfl rfl rfl ?_
      refine asg rfl rfl ?_
      refine nl ?_
      refine sq ?_
      refine sr ?_
      refine mv rfl rfl ?_
      refine nl ?_
      refine cdF rfl (by omega) ?_
      refine rg ?_
      refine mv rfl rfl ?_
      refine mv rfl rfl ?_
      refine ls Try.runUnderlying189 rfl rfl ?_
      have ok135 := oek2.get 1 (by decide) (has_yes (show (0 : Int) ≤ v by omega) (show ((-1) : Int) < 0 ∨ v ≤ (-1) by omega))
      have nn135 := ok135.nn (by decide) (by decide)
      have ll135 := lT_len (ok135.len rfl)
      have e_28 : B_k2 ++ plainTo (zipped fs_sDescribeLogDirsResponseDirTopic v false ((lT (((lT (T.at 2))[k1]).at 2))[k2])) v 1 ++ (counted false false (lT (((lT (((lT (T.at 2))[k1]).at 2))[k2]).at 1)).length 4 ++ (lT (((lT (((lT (T.at 2))[k1]).at 2))[k2]).at 1)).flatMap (GOf (fs_sDescribeLogDirsResponseDirTopic[1]'(by decide)) v false)) = B_k2 ++ plainTo (zipped fs_sDescribeLogDirsResponseDirTopic v false ((lT (((lT (T.at 2))[k1]).at 2))[k2])) v 2 := fold_yes (fs := fs_sDescribeLogDirsResponseDirTopic) (v := v) (flex := false) (t := ((lT (((lT (T.at 2))[k1]).at 2))[k2])) (B := B_k2) 1 (by decide) (by decide) (has_yes (show (0 : Int) ≤ v by omega) (show ((-1) : Int) < 0 ∨ v ≤ (-1) by omega)) (by rw [FB_list (f := (fs_sDescribeLogDirsResponseDirTopic[1]'(by decide))) (by decide) (by decide) ok135, nn135])
      have hs135 := fold_size e_28 (by decide) hBk2
      have hc135 : (B_k2 ++ plainTo (zipped fs_sDescribeLogDirsResponseDirTopic v false ((lT (((lT (T.at 2))[k1]).at 2))[k2])) v 1).length + (counted false false (lT (((lT (((lT (T.at 2))[k1]).at 2))[k2]).at 1)).length 4).length ≤ LIM := by have h := hs135; simp only [List.length_append] at h ⊢; omega
      refine cl rfl rfl rfl (OutK.cast (k_AppendArrayLen (u := ((lT (((lT (((lT (T.at 2))[k1]).at 2))[k2]).at 1)).length : Int)) r122 hc135) (show _ = B_k2 ++ plainTo (zipped fs_sDescribeLogDirsResponseDirTopic v false ((lT (((lT (T.at 2))[k1]).at 2))[k2])) v 1 ++ (counted false false (lT (((lT (((lT (T.at 2))[k1]).at 2))[k2]).at 1)).length 4) from rfl)) rfl (fun v_ H1 L1 hle hR => ?_)
      obtain ⟨rfl, a135, c135, N135, rfl, rfl, h135⟩ := hR
      have r135 := h135.1
      refine asg rfl rfl ?_
      refine nl ?_
      refine sr ?_
      refine mv rfl rfl ?_
      refine ls Try.runUnderlying189 rfl rfl ?_
      refine mv rfl rfl ?_
      refine nl ?_
      refine fr ((lT (((lT (((lT (T.at 2))[k1]).at 2))[k2]).at 1)).length) (fun k3 l' H' L' => ∃ (a_k3 : Option Addr), ∃ (m_k3 : Nat), ∃ (c_k3 : Nat), ∃ (N_k3 : Chunk), [(0, .pointer (some ⟨b, 0, none⟩)), (1, .slice a_k3 m_k3 c_k3), (5, .int .i16 v), (6, .bool (decide ((2 : Int) ≤ v))), (9, .slice a2 (lT (T.at 2)).length c2), (11, .pointer (some ⟨b_8, o_9 + k1 * 7, none⟩)), (14, .slice a_k1_2 (lT (((lT (T.at 2))[k1]).at 2)).length c_k1_2), (16, .pointer (some ⟨b_20, o_21 + k2 * 3, none⟩)), (18, .slice a_k2_1 (lT (((lT (((lT (T.at 2))[k1]).at 2))[k2]).at 1)).length c_k2_1), (66, .int .i64 ((lT (T.at 2)).length : Int)), (67, .int .i64 (k1 : Int)), (105, .int .i64 ((lT (((lT (T.at 2))[k1]).at 2)).length : Int)), (106, .int .i64 (k2 : Int)), (137, .int .i64 ((lT (((lT (((lT (T.at 2))[k1]).at 2))[k2]).at 1)).length : Int))] = l' ∧ N_k3 :: L = L' ∧ Row 5 1 a_k3 m_k3 c_k3 (bytesOf (B_k2 ++ plainTo (zipped fs_sDescribeLogDirsResponseDirTopic v false ((lT (((lT (T.at 2))[k1]).at 2))[k2])) v 1 ++ (counted false false (lT (((lT (((lT (T.at 2))[k1]).at 2))[k2]).at 1)).length 4) ++ ((lT (((lT (((lT (T.at 2))[k1]).at 2))[k2]).at 1)).take k3).flatMap (GOf (fs_sDescribeLogDirsResponseDirTopic[1]'(by decide)) v false))) N_k3 ∧ m_k3 = (B_k2 ++ plainTo (zipped fs_sDescribeLogDirsResponseDirTopic v false ((lT (((lT (T.at 2))[k1]).at 2))[k2])) v 1 ++ (counted false false (lT (((lT (((lT (T.at 2))[k1]).at 2))[k2]).at 1)).length 4) ++ ((lT (((lT (((lT (T.at 2))[k1]).at 2))[k2]).at 1)).take k3).flatMap (GOf (fs_sDescribeLogDirsResponseDirTopic[1]'(by decide)) v false)).length) [(0, .pointer (some ⟨b, 0, none⟩)), (1, .slice _ _ _), (5, .int .i16 v), (6, .bool (decide ((2 : Int) ≤ v))), (9, .slice a2 (lT (T.at 2)).length c2), (11, .pointer (some ⟨b_8, o_9 + k1 * 7, none⟩)), (14, .slice a_k1_2 (lT (((lT (T.at 2))[k1]).at 2)).length c_k1_2), (16, .pointer (some ⟨b_20, o_21 + k2 * 3, none⟩)), (18, .slice a_k2_1 (lT (((lT (((lT (T.at 2))[k1]).at 2))[k2]).at 1)).length c_k2_1), (66, .int .i64 ((lT (T.at 2)).length : Int)), (67, .int .i64 (k1 : Int)), (105, .int .i64 ((lT (((lT (T.at 2))[k1]).at 2)).length : Int)), (106, .int .i64 (k2 : Int)), (137, .int .i64 ((lT (((lT (((lT (T.at 2))[k1]).at 2))[k2]).at 1)).length : Int))] (fun k3 l' H' L' h => ?_) (by omega) rfl (.cons rfl (.cons rfl (.cons rfl (.cons rfl (.cons rfl (.cons rfl (.cons rfl (.cons rfl (.cons rfl (.cons rfl (.cons rfl (.cons rfl (.cons rfl (.cons rfl (.nil _))))))))))))))) ⟨_, _, _, _, rfl, rfl, (by rw [List.take_zero, List.flatMap_nil, List.append_nil]; exact r135), (by rw [List.take_zero, List.flatMap_nil, List.append_nil])⟩ rfl rfl rfl rfl rfl (fun k3 l' H' L' hk3 le_29 hI => ?_) (fun l' H' L' le_30 hI => ?_)
      · obtain ⟨a_k3, m_k3, c_k3, N_k3, rfl, _⟩ := h; exact ⟨rfl, rfl, rfl, rfl⟩
      · skip
        obtain ⟨a_k3, m_k3, c_k3, N_k3, rfl, rfl, pk30, pk31⟩ := hI
        subst pk31
        refine sr ?_
        refine mv rfl rfl ?_
        refine asg rfl rfl ?_
        refine nl ?_
        refine sr ?_
        refine mv rfl rfl ?_
        refine mv rfl rfl ?_
        obtain ⟨b_31, o_32, e_33, g_34⟩ := (hf_k2_0.mono At_DescribeLogDirsResponseDirTopicPartition.mono le_29).rows.at_ (ne_nil_of_lt hk3)
        obtain ⟨cs_35, hA_36, hc_37⟩ := g_34 k3 hk3
        refine ix2 Try.runUnderlying189 Try.sizeOf194 rfl e_33 rfl rfl hk3 rfl ?_
        obtain ⟨m_k3_t, rfl, hf_k3_0⟩ := hA_36
        have oek3 := (ok135.el rfl _ (lT_mem (List.getElem_mem hk3))).2 rfl
        obtain ⟨B_k3, hdk3⟩ : ∃ z : List UInt8, z = B_k2 ++ plainTo (zipped fs_sDescribeLogDirsResponseDirTopic v false ((lT (((lT (T.at 2))[k1]).at 2))[k2])) v 1 ++ (counted false false (lT (((lT (((lT (T.at 2))[k1]).at 2))[k2]).at 1)).length 4) ++ ((lT (((lT (((lT (T.at 2))[k1]).at 2))[k2]).at 1)).take k3).flatMap (GOf (fs_sDescribeLogDirsResponseDirTopic[1]'(by decide)) v false) := ⟨_, rfl⟩
        have rbk3 := pk30
        rw [← hdk3] at rbk3 ⊢
        have hBk3 : B_k3.length + (partB fs_sDescribeLogDirsResponseDirTopicPartition v false ((lT (((lT (((lT (T.at 2))[k1]).at 2))[k2]).at 1))[k3])).length ≤ LIM := by rw [hdk3]; exact el_size hs135 hk3 (GOf_part (by decide) _)
        refine asg rfl rfl ?_
        refine nl ?_
        refine sq ?_
        refine sr ?_
        refine mv rfl rfl ?_
        refine nc rfl rfl ?_
        refine fa F194_0 rfl rfl ?_
        refine ld (Says.fz hc_37) Try.isAgg21 rfl (Nat.add_zero _).symm rfl rfl ?_
        refine asg rfl rfl ?_
        refine nl ?_
        refine rg ?_
        refine mv rfl rfl ?_
        refine mv rfl rfl ?_
        have ok150 := oek3.get 0 (by decide) (has_yes (show (0 : Int) ≤ v by omega) (show ((-1) : Int) < 0 ∨ v ≤ (-1) by omega))
        have e_38 : B_k3 ++ (fixed (IntKind.i32.wrap (((lT (((lT (((lT (T.at 2))[k1]).at 2))[k2]).at 1))[k3]).at 0).n) 4) = B_k3 ++ plainTo (zipped fs_sDescribeLogDirsResponseDirTopicPartition v false ((lT (((lT (((lT (T.at 2))[k1]).at 2))[k2]).at 1))[k3])) v 1 := fold_first (fs := fs_sDescribeLogDirsResponseDirTopicPartition) (v := v) (flex := false) (t := ((lT (((lT (((lT (T.at 2))[k1]).at 2))[k2]).at 1))[k3])) (B := B_k3) 0 rfl (by decide) (by decide) (has_yes (show (0 : Int) ≤ v by omega) (show ((-1) : Int) < 0 ∨ v ≤ (-1) by omega)) ((FB_int (f := (fs_sDescribeLogDirsResponseDirTopicPartition[0]'(by decide))) (by decide) (by decide)).trans (fixed_i32 _).symm)
        have hs150 := fold_size e_38 (by decide) hBk3
        refine cl rfl rfl rfl (OutK.cast (k_AppendInt32 (u := IntKind.i32.wrap (((lT (((lT (((lT (T.at 2))[k1]).at 2))[k2]).at 1))[k3]).at 0).n) rbk3 hs150) e_38) rfl (fun v_ H1 L1 hle hR => ?_)
        obtain ⟨rfl, a150, c150, N150, rfl, rfl, h150⟩ := hR
        have r150 := h150.1
        refine asg rfl rfl ?_
        refine nl ?_
        refine sq ?_
        refine sr ?_
        refine mv rfl rfl ?_
        refine nc rfl rfl ?_
        refine fa F194_1 rfl rfl ?_
        refine ld (Says.fz hc_37) Try.isAgg2 rfl rfl rfl rfl ?_
        refine asg rfl rfl ?_
        refine nl ?_
        refine rg ?_
        refine mv rfl rfl ?_
        refine mv rfl rfl ?_
        have ok157 := oek3.get 1 (by decide) (has_yes (show (0 : Int) ≤ v by omega) (show ((-1) : Int) < 0 ∨ v ≤ (-1) by omega))
        have e_39 : B_k3 ++ plainTo (zipped fs_sDescribeLogDirsResponseDirTopicPartition v false ((lT (((lT (((lT (T.at 2))[k1]).at 2))[k2]).at 1))[k3])) v 1 ++ (fixed ((((lT (((lT (((lT (T.at 2))[k1]).at 2))[k2]).at 1))[k3]).at 1).n) 8) = B_k3 ++ plainTo (zipped fs_sDescribeLogDirsResponseDirTopicPartition v false ((lT (((lT (((lT (T.at 2))[k1]).at 2))[k2]).at 1))[k3])) v 2 := fold_yes (fs := fs_sDescribeLogDirsResponseDirTopicPartition) (v := v) (flex := false) (t := ((lT (((lT (((lT (T.at 2))[k1]).at 2))[k2]).at 1))[k3])) (B := B_k3) 1 (by decide) (by decide) (has_yes (show (0 : Int) ≤ v by omega) (show ((-1) : Int) < 0 ∨ v ≤ (-1) by omega)) ((FB_int (f := (fs_sDescribeLogDirsResponseDirTopicPartition[1]'(by decide))) (by decide) (by decide)).trans rfl)
        have hs157 := fold_size e_39 (by decide) hBk3
        refine cl rfl rfl rfl (OutK.cast (k_AppendInt64 (u := (((lT (((lT (((lT (T.at 2))[k1]).at 2))[k2]).at 1))[k3]).at 1).n) r150 hs157) e_39) rfl (fun v_ H1 L1 hle hR => ?_)
        obtain ⟨rfl, a157, c157, N157, rfl, rfl, h157⟩ := hR
        have r157 := h157.1
        refine asg rfl rfl ?_
        refine nl ?_
        refine sq ?_
        refine sr ?_
        refine mv rfl rfl ?_
        refine nc rfl rfl ?_
        refine fa F194_2 rfl rfl ?_
        refine ld (Says.fz hc_37) Try.isAgg2 rfl rfl rfl rfl ?_
        refine asg rfl rfl ?_
        refine nl ?_
        refine rg ?_
        refine mv rfl rfl ?_
        refine mv rfl rfl ?_
        have ok164 := oek3.get 2 (by decide) (has_yes (show (0 : Int) ≤ v by omega) (show ((-1) : Int) < 0 ∨ v ≤ (-1) by omega))
        have e_40 : B_k3 ++ plainTo (zipped fs_sDescribeLogDirsResponseDirTopicPartition v false ((lT (((lT (((lT (T.at 2))[k1]).at 2))[k2]).at 1))[k3])) v 2 ++ (fixed ((((lT (((lT (((lT (T.at 2))[k1]).at 2))[k2]).at 1))[k3]).at 2).n) 8) = B_k3 ++ plainTo (zipped fs_sDescribeLogDirsResponseDirTopicPartition v false ((lT (((lT (((lT (T.at 2))[k1]).at 2))[k2]).at 1))[k3])) v 3 := fold_yes (fs := fs_sDescribeLogDirsResponseDirTopicPartition) (v := v) (flex := false) (t := ((lT (((lT (((lT (T.at 2))[k1]).at 2))[k2]).at 1))[k3])) (B := B_k3) 2 (by decide) (by decide) (has_yes (show (0 : Int) ≤ v by omega) (show ((-1) : Int) < 0 ∨ v ≤ (-1) by omega)) ((FB_int (f := (fs_sDescribeLogDirsResponseDirTopicPartition[2]'(by decide))) (by decide) (by decide)).trans rfl)
        have hs164 := fold_size e_40 (by decide) hBk3
        refine cl rfl rfl rfl (OutK.cast (k_AppendInt64 (u := (((lT (((lT (((lT (T.at 2))[k1]).at 2))[k2]).at 1))[k3]).at 2).n) r157 hs164) e_40) rfl (fun v_ H1 L1 hle hR => ?_)
        obtain ⟨rfl, a164, c164, N164, rfl, rfl, h164⟩ := hR
        have r164 := h164.1
        refine asg rfl rfl ?_
        refine nl ?_
        refine sq ?_
        refine sr ?_
        refine mv rfl rfl ?_
        refine nc rfl rfl ?_
        refine fa F194_3 rfl rfl ?_
        refine ld (Says.fz hc_37) Try.isAgg4 rfl rfl rfl rfl ?_
        refine asg rfl rfl ?_
        refine nl ?_
        refine rg ?_
        refine mv rfl rfl ?_
        refine mv rfl rfl ?_
        have ok171 := oek3.get 3 (by decide) (has_yes (show (0 : Int) ≤ v by omega) (show ((-1) : Int) < 0 ∨ v ≤ (-1) by omega))
        have e_41 : B_k3 ++ plainTo (zipped fs_sDescribeLogDirsResponseDirTopicPartition v false ((lT (((lT (((lT (T.at 2))[k1]).at 2))[k2]).at 1))[k3])) v 3 ++ ([if decide ((((lT (((lT (((lT (T.at 2))[k1]).at 2))[k2]).at 1))[k3]).at 3).n % 2 = 1) then 1 else 0] : List UInt8) = B_k3 ++ plainTo (zipped fs_sDescribeLogDirsResponseDirTopicPartition v false ((lT (((lT (((lT (T.at 2))[k1]).at 2))[k2]).at 1))[k3])) v 4 := fold_yes (fs := fs_sDescribeLogDirsResponseDirTopicPartition) (v := v) (flex := false) (t := ((lT (((lT (((lT (T.at 2))[k1]).at 2))[k2]).at 1))[k3])) (B := B_k3) 3 (by decide) (by decide) (has_yes (show (0 : Int) ≤ v by omega) (show ((-1) : Int) < 0 ∨ v ≤ (-1) by omega)) ((FB_bool (f := (fs_sDescribeLogDirsResponseDirTopicPartition[3]'(by decide))) (by decide)).trans (bool_byte _))
        have hs171 := fold_size e_41 (by decide) hBk3
        refine cl rfl rfl rfl (OutK.cast (k_AppendBool (b := decide ((((lT (((lT (((lT (T.at 2))[k1]).at 2))[k2]).at 1))[k3]).at 3).n % 2 = 1)) r164 hs171) e_41) rfl (fun v_ H1 L1 hle hR => ?_)
        obtain ⟨rfl, a171, c171, N171, rfl, rfl, h171⟩ := hR
        have r171 := h171.1
        refine asg rfl rfl ?_
        refine nl ?_
        refine sr ?_
        refine mv rfl rfl ?_
        refine nl ?_
        refine cdF rfl (by omega) ?_
        refine skN ?_
        refine Nb ?_
        have eP_42 : B_k3 ++ plainTo (zipped fs_sDescribeLogDirsResponseDirTopicPartition v false ((lT (((lT (((lT (T.at 2))[k1]).at 2))[k2]).at 1))[k3])) v 4 = B_k3 ++ partB fs_sDescribeLogDirsResponseDirTopicPartition v false ((lT (((lT (((lT (T.at 2))[k1]).at 2))[k2]).at 1))[k3]) := by rw [partB_false]; rfl
        have rp_43 := r171
        rw [eP_42] at rp_43 ⊢
        have ee_44 : B_k3 ++ partB fs_sDescribeLogDirsResponseDirTopicPartition v false ((lT (((lT (((lT (T.at 2))[k1]).at 2))[k2]).at 1))[k3]) = B_k2 ++ plainTo (zipped fs_sDescribeLogDirsResponseDirTopic v false ((lT (((lT (T.at 2))[k1]).at 2))[k2])) v 1 ++ (counted false false (lT (((lT (((lT (T.at 2))[k1]).at 2))[k2]).at 1)).length 4) ++ ((lT (((lT (((lT (T.at 2))[k1]).at 2))[k2]).at 1)).take (k3 + 1)).flatMap (GOf (fs_sDescribeLogDirsResponseDirTopic[1]'(by decide)) v false) := by rw [hdk3]; exact el_end (B0 := B_k2 ++ plainTo (zipped fs_sDescribeLogDirsResponseDirTopic v false ((lT (((lT (T.at 2))[k1]).at 2))[k2])) v 1 ++ (counted false false (lT (((lT (((lT (T.at 2))[k1]).at 2))[k2]).at 1)).length 4)) (G := (GOf (fs_sDescribeLogDirsResponseDirTopic[1]'(by decide)) v false)) hk3 (GOf_part (by decide) _)
        refine fun a_ w_ hA hw => ⟨_, _, _, hA.sub ?_, le_29, hw, _, rfl, _, _, _, _, rfl, rfl, (by rw [← ee_44]; exact rp_43), (by rw [← ee_44])⟩
        exact (.cons rfl (.cons rfl (.cons rfl (.cons rfl (.cons rfl (.cons rfl (.cons rfl (.cons rfl (.cons rfl (.cons rfl (.cons rfl (.cons rfl (.cons rfl (.cons rfl (.cons rfl (.nil _))))))))))))))))
      · skip
        obtain ⟨a_k3, m_k3, c_k3, N_k3, rfl, rfl, pk30, pk31⟩ := hI
        refine toWp ?_
        have eL135 : B_k2 ++ plainTo (zipped fs_sDescribeLogDirsResponseDirTopic v false ((lT (((lT (T.at 2))[k1]).at 2))[k2])) v 1 ++ (counted false false (lT (((lT (((lT (T.at 2))[k1]).at 2))[k2]).at 1)).length 4) ++ ((lT (((lT (((lT (T.at 2))[k1]).at 2))[k2]).at 1)).take (lT (((lT (((lT (T.at 2))[k1]).at 2))[k2]).at 1)).length).flatMap (GOf (fs_sDescribeLogDirsResponseDirTopic[1]'(by decide)) v false) = B_k2 ++ plainTo (zipped fs_sDescribeLogDirsResponseDirTopic v false ((lT (((lT (T.at 2))[k1]).at 2))[k2])) v 2 := by rw [List.take_length, List.append_assoc]; exact e_28
        rw [eL135] at pk30 pk31
        subst pk31
        refine sr ?_
        refine mv rfl rfl ?_
        refine nl ?_
        refine cdF rfl (by omega) ?_
        refine skN ?_
        refine Nb ?_
        have eP_45 : B_k2 ++ plainTo (zipped fs_sDescribeLogDirsResponseDirTopic v false ((lT (((lT (T.at 2))[k1]).at 2))[k2])) v 2 = B_k2 ++ partB fs_sDescribeLogDirsResponseDirTopic v false ((lT (((lT (T.at 2))[k1]).at 2))[k2]) := by rw [partB_false]; rfl
        have rp_46 := pk30
        rw [eP_45] at rp_46 ⊢
        have ee_47 : B_k2 ++ partB fs_sDescribeLogDirsResponseDirTopic v false ((lT (((lT (T.at 2))[k1]).at 2))[k2]) = B_k1 ++ plainTo (zipped fs_sDescribeLogDirsResponseDir v false ((lT (T.at 2))[k1])) v 2 ++ (counted false false (lT (((lT (T.at 2))[k1]).at 2)).length 4) ++ ((lT (((lT (T.at 2))[k1]).at 2)).take (k2 + 1)).flatMap (GOf (fs_sDescribeLogDirsResponseDir[2]'(by decide)) v false) := by rw [hdk2]; exact el_end (B0 := B_k1 ++ plainTo (zipped fs_sDescribeLogDirsResponseDir v false ((lT (T.at 2))[k1])) v 2 ++ (counted false false (lT (((lT (T.at 2))[k1]).at 2)).length 4)) (G := (GOf (fs_sDescribeLogDirsResponseDir[2]'(by decide)) v false)) hk2 (GOf_part (by decide) _)
        refine fun a_ w_ hA hw => ⟨_, _, _, hA.sub ?_, (le_18.trans le_30), hw, _, rfl, _, _, _, _, rfl, rfl, (by rw [← ee_47]; exact rp_46), (by rw [← ee_47])⟩
        exact (.cons rfl (.cons rfl (.cons rfl (.cons rfl (.cons rfl (.cons rfl (.cons rfl (.cons rfl (.cons rfl (.cons rfl (.cons rfl (.nil _))))))))))))
    · skip
      obtain ⟨a_k2, m_k2, c_k2, N_k2, rfl, rfl, pk20, pk21⟩ := hI
      refine toWp ?_
      have eL103 : B_k1 ++ plainTo (zipped fs_sDescribeLogDirsResponseDir v false ((lT (T.at 2))[k1])) v 2 ++ (counted false false (lT (((lT (T.at 2))[k1]).at 2)).length 4) ++ ((lT (((lT (T.at 2))[k1]).at 2)).take (lT (((lT (T.at 2))[k1]).at 2)).length).flatMap (GOf (fs_sDescribeLogDirsResponseDir[2]'(by decide)) v false) = B_k1 ++ plainTo (zipped fs_sDescribeLogDirsResponseDir v false ((lT (T.at 2))[k1])) v 3 := by rw [List.take_length, List.append_assoc]; exact e_17
      rw [eL103] at pk20 pk21
      subst pk21
      refine sq ?_
      refine sr ?_
      refine mv rfl rfl ?_
      refine ge rfl rfl rfl ?_
      refine nl ?_
      refine cdF rfl (by omega) ?_
      refine skt ?_
      refine sq ?_
      refine sr ?_
      refine mv rfl rfl ?_
      refine ge rfl rfl rfl ?_
      refine nl ?_
      refine cdF rfl (by omega) ?_
      refine skt ?_
      refine sq ?_
      refine sr ?_
      refine mv rfl rfl ?_
      refine ge rfl rfl rfl ?_
      refine nl ?_
      refine cdF rfl (by omega) ?_
      refine skt ?_
      refine sr ?_
      refine mv rfl rfl ?_
      refine nl ?_
      refine cdF rfl (by omega) ?_
      refine skN ?_
      refine Nb ?_
      have es_48 : plainTo (zipped fs_sDescribeLogDirsResponseDir v false ((lT (T.at 2))[k1])) v 6 = plainTo (zipped fs_sDescribeLogDirsResponseDir v false ((lT (T.at 2))[k1])) v 3 := (((piece_no2 (fs := fs_sDescribeLogDirsResponseDir) (v := v) (flex := false) (t := ((lT (T.at 2))[k1])) (k := 5) (by decide) (has_no (show v < (5 : Int) ∨ ((0 : Int) ≤ (-1) ∧ (-1) < v) by omega))).trans (piece_no2 (fs := fs_sDescribeLogDirsResponseDir) (v := v) (flex := false) (t := ((lT (T.at 2))[k1])) (k := 4) (by decide) (has_no (show v < (4 : Int) ∨ ((0 : Int) ≤ (-1) ∧ (-1) < v) by omega)))).trans (piece_no2 (fs := fs_sDescribeLogDirsResponseDir) (v := v) (flex := false) (t := ((lT (T.at 2))[k1])) (k := 3) (by decide) (has_no (show v < (4 : Int) ∨ ((0 : Int) ≤ (-1) ∧ (-1) < v) by omega))))
      have eX_49 : B_k1 ++ plainTo (zipped fs_sDescribeLogDirsResponseDir v false ((lT (T.at 2))[k1])) v 3 = B_k1 ++ plainTo (zipped fs_sDescribeLogDirsResponseDir v false ((lT (T.at 2))[k1])) v 6 := by rw [es_48]
      have rx_50 := pk20
      rw [eX_49] at rx_50 ⊢
      have eP_51 : B_k1 ++ plainTo (zipped fs_sDescribeLogDirsResponseDir v false ((lT (T.at 2))[k1])) v 6 = B_k1 ++ partB fs_sDescribeLogDirsResponseDir v false ((lT (T.at 2))[k1]) := by rw [partB_false]; rfl
      have rp_52 := rx_50
      rw [eP_51] at rp_52 ⊢
      have ee_53 : B_k1 ++ partB fs_sDescribeLogDirsResponseDir v false ((lT (T.at 2))[k1]) = D ++ plainTo (zipped fs_DescribeLogDirsResponse v false T) v 2 ++ (counted false false (lT (T.at 2)).length 4) ++ ((lT (T.at 2)).take (k1 + 1)).flatMap (GOf (fs_DescribeLogDirsResponse[2]'(by decide)) v false) := by rw [hdk1]; exact el_end (B0 := D ++ plainTo (zipped fs_DescribeLogDirsResponse v false T) v 2 ++ (counted false false (lT (T.at 2)).length 4)) (G := (GOf (fs_DescribeLogDirsResponse[2]'(by decide)) v false)) hk1 (GOf_part (by decide) _)
      refine fun a_ w_ hA hw => ⟨_, _, _, hA.sub ?_, (le_6.trans le_19), hw, _, rfl, _, _, _, _, rfl, rfl, (by rw [← ee_53]; exact rp_52), (by rw [← ee_53])⟩
      exact (.cons rfl (.cons rfl (.cons rfl (.cons rfl (.cons rfl (.cons rfl (.cons rfl (.nil _))))))))
  · skip
    obtain ⟨a_k1, m_k1, c_k1, N_k1, rfl, rfl, pk10, pk11⟩ := hI
    refine toWp ?_
    have eL64 : D ++ plainTo (zipped fs_DescribeLogDirsResponse v false T) v 2 ++ (counted false false (lT (T.at 2)).length 4) ++ ((lT (T.at 2)).take (lT (T.at 2)).length).flatMap (GOf (fs_DescribeLogDirsResponse[2]'(by decide)) v false) = D ++ plainTo (zipped fs_DescribeLogDirsResponse v false T) v 3 := by rw [List.take_length, List.append_assoc]; exact e_5
    rw [eL64] at pk10 pk11
    subst pk11
    refine sq ?_
    refine sr ?_
    refine mv rfl rfl ?_
    refine nl ?_
    refine cdF rfl (by omega) ?_
    refine skt ?_
    refine sr ?_
    refine mv rfl rfl ?_
    refine asg rfl rfl ?_
    refine nl ?_
    have eP_54 : D ++ plainTo (zipped fs_DescribeLogDirsResponse v false T) v 3 = D ++ partB fs_DescribeLogDirsResponse v false T := by rw [partB_false]; rfl
    have rp_55 := pk10
    rw [eP_54] at rp_55 ⊢
    exact rT rfl rfl le_7 (fun _ _ h => h) (OutB.of rp_55 rfl)
theorem app_DescribeLogDirsResponse_t {H : Fz} {L : Own} {a : Option Addr} {cap b : Nat} {D : List UInt8} {N : Chunk} {cs : List Value} {T : Tr} {v : Int} (hr : Row 5 1 a D.length cap (bytesOf D) N) (hv : H.at b 0 cs) (hA : At_DescribeLogDirsResponse v H T cs) (hok : OkP fs_DescribeLogDirsResponse v T) (h0 : 2 ≤ v) (h1 : v ≤ 5) (hb : D.length + (partB fs_DescribeLogDirsResponse v true T).length ≤ LIM) :
    Fn Try.prog 118 [.pointer (some ⟨b, 0, none⟩), .slice a D.length cap] H (N :: L) (fun r H' L' => OutB 5 L (D ++ partB fs_DescribeLogDirsResponse v true T) r L') := by
  obtain ⟨a2, c2, mt, rfl, hf0, hf1⟩ := hA
  refine Fn.mk Try.call118 Try.func118 rfl Try.ntmps118 rfl ?_
  refine sr ?_
  refine asg rfl rfl ?_
  refine nl ?_
  refine sr ?_
  refine mv rfl rfl ?_
  refine nc rfl rfl ?_
  refine fa0 F125_0 rfl rfl ?_
  refine ld (Says.fz hv) Try.isAgg45 rfl (Nat.zero_add _).symm rfl rfl ?_
  refine asg rfl rfl ?_
  refine nl ?_
  refine sr ?_
  refine mv rfl rfl ?_
  refine nl ?_
  refine sr ?_
  refine mv rfl rfl ?_
  refine ge rfl rfl rfl ?_
  refine asg rfl rfl ?_
  refine nl ?_
  refine sr ?_
  refine mv rfl rfl ?_
  refine nl ?_
  refine sq ?_
  refine sr ?_
  refine mv rfl rfl ?_
  refine nc rfl rfl ?_
  refine fa0 F125_1 rfl rfl ?_
  refine ld (Says.fz hv) Try.isAgg21 rfl (Nat.zero_add _).symm rfl rfl ?_
  refine asg rfl rfl ?_
  refine nl ?_
  refine rg ?_
  refine mv rfl rfl ?_
  refine mv rfl rfl ?_
  have ok42 := hok.get 0 (by decide) (has_yes (show (0 : Int) ≤ v by omega) (show ((-1) : Int) < 0 ∨ v ≤ (-1) by omega))
  have e_1 : D ++ (fixed (IntKind.i32.wrap (T.at 0).n) 4) = D ++ plainTo (zipped fs_DescribeLogDirsResponse v true T) v 1 := fold_first (fs := fs_DescribeLogDirsResponse) (v := v) (flex := true) (t := T) (B := D) 0 rfl (by decide) (by decide) (has_yes (show (0 : Int) ≤ v by omega) (show ((-1) : Int) < 0 ∨ v ≤ (-1) by omega)) ((FB_int (f := (fs_DescribeLogDirsResponse[0]'(by decide))) (by decide) (by decide)).trans (fixed_i32 _).symm)
  have hs42 := fold_size e_1 (by decide) hb
  refine cl rfl rfl rfl (OutK.cast (k_AppendInt32 (u := IntKind.i32.wrap (T.at 0).n) hr hs42) e_1) rfl (fun v_ H1 L1 hle hR => ?_)
  obtain ⟨rfl, a42, c42, N42, rfl, rfl, h42⟩ := hR
  have r42 := h42.1
  refine asg rfl rfl ?_
  refine nl ?_
  refine sq ?_
  refine sr ?_
  refine mv rfl rfl ?_
  refine ge rfl rfl rfl ?_
  refine nl ?_
  refine cutT (fun l' H' L' => ∃ (aj_2 : Option Addr), ∃ (mj_2 : Nat), ∃ (cj_2 : Nat), ∃ (Nj_2 : Chunk), [(0, .pointer (some ⟨b, 0, none⟩)), (1, .slice aj_2 mj_2 cj_2), (5, .int .i16 v), (6, .bool (decide ((2 : Int) ≤ v)))] = l' ∧ Nj_2 :: L = L' ∧ Row 5 1 aj_2 mj_2 cj_2 (bytesOf (D ++ plainTo (zipped fs_DescribeLogDirsResponse v true T) v 2)) Nj_2 ∧ mj_2 = (D ++ plainTo (zipped fs_DescribeLogDirsResponse v true T) v 2).length) ?_ (fun l' H' L' le_3 hI => ?_)
  · skip
    refine cd rfl (fun h44 => ?_) (fun h44 => ?_)
    · skip
      refine sr ?_
      refine mv rfl rfl ?_
      refine nc rfl rfl ?_
      refine fa0 F125_2 rfl rfl ?_
      refine ld (Says.fz hv) Try.isAgg45 rfl (Nat.zero_add _).symm rfl rfl ?_
      refine asg rfl rfl ?_
      refine nl ?_
      refine rg ?_
      refine mv rfl rfl ?_
      refine mv rfl rfl ?_
      have ok51 := hok.get 1 (by decide) (has_yes (show (3 : Int) ≤ v by omega) (show ((-1) : Int) < 0 ∨ v ≤ (-1) by omega))
      have e_4 : D ++ plainTo (zipped fs_DescribeLogDirsResponse v true T) v 1 ++ (fixed (IntKind.i16.wrap (T.at 1).n) 2) = D ++ plainTo (zipped fs_DescribeLogDirsResponse v true T) v 2 := fold_yes (fs := fs_DescribeLogDirsResponse) (v := v) (flex := true) (t := T) (B := D) 1 (by decide) (by decide) (has_yes (show (3 : Int) ≤ v by omega) (show ((-1) : Int) < 0 ∨ v ≤ (-1) by omega)) ((FB_int (f := (fs_DescribeLogDirsResponse[1]'(by decide))) (by decide) (by decide)).trans (fixed_i16 _).symm)
      have hs51 := fold_size e_4 (by decide) hb
      refine cl rfl rfl rfl (OutK.cast (k_AppendInt16 (u := IntKind.i16.wrap (T.at 1).n) r42 hs51) e_4) rfl (fun v_ H1 L1 hle hR => ?_)
      obtain ⟨rfl, a51, c51, N51, rfl, rfl, h51⟩ := hR
      have r51 := h51.1
      refine asg rfl rfl ?_
      refine nN ?_
      refine fun a_ w_ hA hw => ⟨_, _, _, hA.sub ?_, (Fz.le.refl _), hw, _, _, _, _, rfl, rfl, r51, rfl⟩
      exact (.cons rfl (.cons rfl (.cons rfl (.cons rfl (.nil _)))))
    · skip
      refine skN ?_
      have es_5 : plainTo (zipped fs_DescribeLogDirsResponse v true T) v 2 = plainTo (zipped fs_DescribeLogDirsResponse v true T) v 1 := (piece_no2 (fs := fs_DescribeLogDirsResponse) (v := v) (flex := true) (t := T) (k := 1) (by decide) (has_no (show v < (3 : Int) ∨ ((0 : Int) ≤ (-1) ∧ (-1) < v) by omega)))
      have eX_6 : D ++ plainTo (zipped fs_DescribeLogDirsResponse v true T) v 1 = D ++ plainTo (zipped fs_DescribeLogDirsResponse v true T) v 2 := by rw [es_5]
      refine fun a_ w_ hA hw => ⟨_, _, _, hA.sub ?_, (Fz.le.refl _), hw, _, _, _, _, rfl, rfl, (by rw [← eX_6]; exact r42), (by rw [← eX_6])⟩
      exact (.cons rfl (.cons rfl (.cons rfl (.cons rfl (.nil _)))))
  · skip
    obtain ⟨aj_2, mj_2, cj_2, Nj_2, rfl, rfl, pj0, pj1⟩ := hI
    subst pj1
    have rj_2 := pj0
    refine sq ?_
    refine sr ?_
    refine mv rfl rfl ?_
    refine nc rfl rfl ?_
    refine fa0 F125_3 rfl rfl ?_
    refine ld (Says.fz (hv.mono le_3)) Try.isAgg123 rfl (Nat.zero_add _).symm rfl rfl ?_
    refine asg rfl rfl ?_
    refine nl ?_
    refine sq ?_
    refine sr ?_
    refine mv rfl rfl ?_
    refine nl ?_
    refine cdT rfl (by omega) ?_
    refine rg ?_
    refine mv rfl rfl ?_
    refine mv rfl rfl ?_
    refine ls Try.runUnderlying123 rfl rfl ?_
    have ok60 := hok.get 2 (by decide) (has_yes (show (0 : Int) ≤ v by omega) (show ((-1) : Int) < 0 ∨ v ≤ (-1) by omega))
    have nn60 := ok60.nn (by decide) (by decide)
    have ll60 := lT_len (ok60.len rfl)
    have e_7 : D ++ plainTo (zipped fs_DescribeLogDirsResponse v true T) v 2 ++ (counted true false (lT (T.at 2)).length 4 ++ (lT (T.at 2)).flatMap (GOf (fs_DescribeLogDirsResponse[2]'(by decide)) v true)) = D ++ plainTo (zipped fs_DescribeLogDirsResponse v true T) v 3 := fold_yes (fs := fs_DescribeLogDirsResponse) (v := v) (flex := true) (t := T) (B := D) 2 (by decide) (by decide) (has_yes (show (0 : Int) ≤ v by omega) (show ((-1) : Int) < 0 ∨ v ≤ (-1) by omega)) (by rw [FB_list (f := (fs_DescribeLogDirsResponse[2]'(by decide))) (by decide) (by decide) ok60, nn60])
    have hs60 := fold_size e_7 (by decide) hb
    have hc60 : (D ++ plainTo (zipped fs_DescribeLogDirsResponse v true T) v 2).length + (counted true false (lT (T.at 2)).length 4).length ≤ LIM := by have h := hs60; simp only [List.length_append] at h ⊢; omega
    refine cl rfl rfl rfl (OutK.cast (k_AppendCompactArrayLen (n := (lT (T.at 2)).length) (by omega) rj_2 hc60) (show _ = D ++ plainTo (zipped fs_DescribeLogDirsResponse v true T) v 2 ++ (counted true false (lT (T.at 2)).length 4) from rfl)) rfl (fun v_ H1 L1 hle hR => ?_)
    obtain ⟨rfl, a60, c60, N60, rfl, rfl, h60⟩ := hR
    have r60 := h60.1
    refine asg rfl rfl ?_
    refine nl ?_
    refine sr ?_
    refine mv rfl rfl ?_
    refine ls Try.runUnderlying123 rfl rfl ?_
    refine mv rfl rfl ?_
    refine nl ?_
    refine fr ((lT (T.at 2)).length) (fun k1 l' H' L' => ∃ (a_k1 : Option Addr), ∃ (m_k1 : Nat), ∃ (c_k1 : Nat), ∃ (N_k1 : Chunk), [(0, .pointer (some ⟨b, 0, none⟩)), (1, .slice a_k1 m_k1 c_k1), (5, .int .i16 v), (6, .bool (decide ((2 : Int) ≤ v))), (9, .slice a2 (lT (T.at 2)).length c2), (66, .int .i64 ((lT (T.at 2)).length : Int))] = l' ∧ N_k1 :: L = L' ∧ Row 5 1 a_k1 m_k1 c_k1 (bytesOf (D ++ plainTo (zipped fs_DescribeLogDirsResponse v true T) v 2 ++ (counted true false (lT (T.at 2)).length 4) ++ ((lT (T.at 2)).take k1).flatMap (GOf (fs_DescribeLogDirsResponse[2]'(by decide)) v true))) N_k1 ∧ m_k1 = (D ++ plainTo (zipped fs_DescribeLogDirsResponse v true T) v 2 ++ (counted true false (lT (T.at 2)).length 4) ++ ((lT (T.at 2)).take k1).flatMap (GOf (fs_DescribeLogDirsResponse[2]'(by decide)) v true)).length) [(0, .pointer (some ⟨b, 0, none⟩)), (1, .slice _ _ _), (5, .int .i16 v), (6, .bool (decide ((2 : Int) ≤ v))), (9, .slice a2 (lT (T.at 2)).length c2), (66, .int .i64 ((lT (T.at 2)).length : Int))] (fun k1 l' H' L' h => ?_) (by omega) rfl (.cons rfl (.cons rfl (.cons rfl (.cons rfl (.cons rfl (.cons rfl (.nil _))))))) ⟨_, _, _, _, rfl, rfl, (by rw [List.take_zero, List.flatMap_nil, List.append_nil]; exact r60), (by rw [List.take_zero, List.flatMap_nil, List.append_nil])⟩ rfl rfl rfl rfl rfl (fun k1 l' H' L' hk1 le_8 hI => ?_) (fun l' H' L' le_9 hI => ?_)
    · obtain ⟨a_k1, m_k1, c_k1, N_k1, rfl, _⟩ := h; exact ⟨rfl, rfl, rfl, rfl⟩
    · skip
      obtain ⟨a_k1, m_k1, c_k1, N_k1, rfl, rfl, pk10, pk11⟩ := hI
      subst pk11
      refine sr ?_
      refine mv rfl rfl ?_
      refine asg rfl rfl ?_
      refine nl ?_
      refine sr ?_
      refine mv rfl rfl ?_
      refine mv rfl rfl ?_
      obtain ⟨b_10, o_11, e_12, g_13⟩ := (hf0.mono At_DescribeLogDirsResponseDir.mono (le_3.trans le_8)).rows.at_ (ne_nil_of_lt hk1)
      obtain ⟨cs_14, hA_15, hc_16⟩ := g_13 k1 hk1
      refine ix2 Try.runUnderlying123 Try.sizeOf185 rfl e_12 rfl rfl hk1 rfl ?_
      obtain ⟨a_k1_2, c_k1_2, m_k1_t, rfl, hf_k1_0, hf_k1_1⟩ := hA_15
      have oek1 := (ok60.el rfl _ (lT_mem (List.getElem_mem hk1))).2 rfl
      obtain ⟨B_k1, hdk1⟩ : ∃ z : List UInt8, z = D ++ plainTo (zipped fs_DescribeLogDirsResponse v true T) v 2 ++ (counted true false (lT (T.at 2)).length 4) ++ ((lT (T.at 2)).take k1).flatMap (GOf (fs_DescribeLogDirsResponse[2]'(by decide)) v true) := ⟨_, rfl⟩
      have rbk1 := pk10
      rw [← hdk1] at rbk1 ⊢
      have hBk1 : B_k1.length + (partB fs_sDescribeLogDirsResponseDir v true ((lT (T.at 2))[k1])).length ≤ LIM := by rw [hdk1]; exact el_size hs60 hk1 (GOf_part (by decide) _)
      refine asg rfl rfl ?_
      refine nl ?_
      refine sq ?_
      refine sr ?_
      refine mv rfl rfl ?_
      refine nc rfl rfl ?_
      refine fa F185_0 rfl rfl ?_
      refine ld (Says.fz hc_16) Try.isAgg45 rfl (Nat.add_zero _).symm rfl rfl ?_
      refine asg rfl rfl ?_
      refine nl ?_
      refine rg ?_
      refine mv rfl rfl ?_
      refine mv rfl rfl ?_
      have ok79 := oek1.get 0 (by decide) (has_yes (show (0 : Int) ≤ v by omega) (show ((-1) : Int) < 0 ∨ v ≤ (-1) by omega))
      have e_17 : B_k1 ++ (fixed (IntKind.i16.wrap (((lT (T.at 2))[k1]).at 0).n) 2) = B_k1 ++ plainTo (zipped fs_sDescribeLogDirsResponseDir v true ((lT (T.at 2))[k1])) v 1 := fold_first (fs := fs_sDescribeLogDirsResponseDir) (v := v) (flex := true) (t := ((lT (T.at 2))[k1])) (B := B_k1) 0 rfl (by decide) (by decide) (has_yes (show (0 : Int) ≤ v by omega) (show ((-1) : Int) < 0 ∨ v ≤ (-1) by omega)) ((FB_int (f := (fs_sDescribeLogDirsResponseDir[0]'(by decide))) (by decide) (by decide)).trans (fixed_i16 _).symm)
      have hs79 := fold_size e_17 (by decide) hBk1
      refine cl rfl rfl rfl (OutK.cast (k_AppendInt16 (u := IntKind.i16.wrap (((lT (T.at 2))[k1]).at 0).n) rbk1 hs79) e_17) rfl (fun v_ H1 L1 hle hR => ?_)
      obtain ⟨rfl, a79, c79, N79, rfl, rfl, h79⟩ := hR
      have r79 := h79.1
      refine asg rfl rfl ?_
      refine nl ?_
      refine sq ?_
      refine sr ?_
      refine mv rfl rfl ?_
      refine nc rfl rfl ?_
      refine fa F185_1 rfl rfl ?_
      refine ld (Says.fz hc_16) Try.isAgg9 rfl rfl rfl rfl ?_
      refine asg rfl rfl ?_
      refine nl ?_
      refine sr ?_
      refine mv rfl rfl ?_
      refine nl ?_
      refine cdT rfl (by omega) ?_
      refine rg ?_
      refine mv rfl rfl ?_
      refine mv rfl rfl ?_
      have ok87 := oek1.get 1 (by decide) (has_yes (show (0 : Int) ≤ v by omega) (show ((-1) : Int) < 0 ∨ v ≤ (-1) by omega))
      have nn87 := ok87.nn (by decide) (by decide)
      have e_18 : B_k1 ++ plainTo (zipped fs_sDescribeLogDirsResponseDir v true ((lT (T.at 2))[k1])) v 1 ++ (counted true false (((lT (T.at 2))[k1]).at 1).s.length 2 ++ (((lT (T.at 2))[k1]).at 1).s) = B_k1 ++ plainTo (zipped fs_sDescribeLogDirsResponseDir v true ((lT (T.at 2))[k1])) v 2 := fold_yes (fs := fs_sDescribeLogDirsResponseDir) (v := v) (flex := true) (t := ((lT (T.at 2))[k1])) (B := B_k1) 1 (by decide) (by decide) (has_yes (show (0 : Int) ≤ v by omega) (show ((-1) : Int) < 0 ∨ v ≤ (-1) by omega)) (by rw [FB_text (f := (fs_sDescribeLogDirsResponseDir[1]'(by decide))) (by decide) (by decide) ok87, sT_nn nn87, nn87])
      have hs87 := fold_size e_18 (by decide) hBk1
      refine cl rfl rfl rfl (OutK.cast (k_AppendCompactString (x := (((lT (T.at 2))[k1]).at 1).s) (by have := ok87.s (Or.inl rfl); omega) r79 hs87) e_18) rfl (fun v_ H1 L1 hle hR => ?_)
      obtain ⟨rfl, a87, c87, N87, rfl, rfl, h87⟩ := hR
      have r87 := h87.1
      refine asg rfl rfl ?_
      refine nl ?_
      refine sq ?_
      refine sr ?_
      refine mv rfl rfl ?_
      refine nc rfl rfl ?_
      refine fa F185_2 rfl rfl ?_
      refine ld (Says.fz hc_16) Try.isAgg183 rfl rfl rfl rfl ?_
      refine asg rfl rfl ?_
      refine nl ?_
      refine sq ?_
      refine sr ?_
      refine mv rfl rfl ?_
      refine nl ?_
      refine cdT rfl (by omega) ?_
      refine rg ?_
      refine mv rfl rfl ?_
      refine mv rfl rfl ?_
      refine ls Try.runUnderlying183 rfl rfl ?_
      have ok99 := oek1.get 2 (by decide) (has_yes (show (0 : Int) ≤ v by omega) (show ((-1) : Int) < 0 ∨ v ≤ (-1) by omega))
      have nn99 := ok99.nn (by decide) (by decide)
      have ll99 := lT_len (ok99.len rfl)
      have e_19 : B_k1 ++ plainTo (zipped fs_sDescribeLogDirsResponseDir v true ((lT (T.at 2))[k1])) v 2 ++ (counted true false (lT (((lT (T.at 2))[k1]).at 2)).length 4 ++ (lT (((lT (T.at 2))[k1]).at 2)).flatMap (GOf (fs_sDescribeLogDirsResponseDir[2]'(by decide)) v true)) = B_k1 ++ plainTo (zipped fs_sDescribeLogDirsResponseDir v true ((lT (T.at 2))[k1])) v 3 := fold_yes (fs := fs_sDescribeLogDirsResponseDir) (v := v) (flex := true) (t := ((lT (T.at 2))[k1])) (B := B_k1) 2 (by decide) (by decide) (has_yes (show (0 : Int) ≤ v by omega) (show ((-1) : Int) < 0 ∨ v ≤ (-1) by omega)) (by rw [FB_list (f := (fs_sDescribeLogDirsResponseDir[2]'(by decide))) (by decide) (by decide) ok99, nn99])
      have hs99 := fold_size e_19 (by decide) hBk1
      have hc99 : (B_k1 ++ plainTo (zipped fs_sDescribeLogDirsResponseDir v true ((lT (T.at 2))[k1])) v 2).length + (counted true false (lT (((lT (T.at 2))[k1]).at 2)).length 4).length ≤ LIM := by have h := hs99; simp only [List.length_append] at h ⊢; omega
      refine cl rfl rfl rfl (OutK.cast (k_AppendCompactArrayLen (n := (lT (((lT (T.at 2))[k1]).at 2)).length) (by omega) r87 hc99) (show _ = B_k1 ++ plainTo (zipped fs_sDescribeLogDirsResponseDir v true ((lT (T.at 2))[k1])) v 2 ++ (counted true false (lT (((lT (T.at 2))[k1]).at 2)).length 4) from rfl)) rfl (fun v_ H1 L1 hle hR => ?_)
      obtain ⟨rfl, a99, c99, N99, rfl, rfl, h99⟩ := hR
      have r99 := h99.1
      refine asg rfl rfl ?_
      refine nl ?_
      refine sr ?_
      refine mv rfl rfl ?_
      refine ls Try.runUnderlying183 rfl rfl ?_
      refine mv rfl rfl ?_
      refine nl ?_
      refine fr ((lT (((lT (T.at 2))[k1]).at 2)).length) (fun k2 l' H' L' => ∃ (a_k2 : Option Addr), ∃ (m_k2 : Nat), ∃ (c_k2 : Nat), ∃ (N_k2 : Chunk), [(0, .pointer (some ⟨b, 0, none⟩)), (1, .slice a_k2 m_k2 c_k2), (5, .int .i16 v), (6, .bool (decide ((2 : Int) ≤ v))), (9, .slice a2 (lT (T.at 2)).length c2), (11, .pointer (some ⟨b_10, o_11 + k1 * 7, none⟩)), (14, .slice a_k1_2 (lT (((lT (T.at 2))[k1]).at 2)).length c_k1_2), (66, .int .i64 ((lT (T.at 2)).length : Int)), (67, .int .i64 (k1 : Int)), (105, .int .i64 ((lT (((lT (T.at 2))[k1]).at 2)).length : Int))] = l' ∧ N_k2 :: L = L' ∧ Row 5 1 a_k2 m_k2 c_k2 (bytesOf (B_k1 ++ plainTo (zipped fs_sDescribeLogDirsResponseDir v true ((lT (T.at 2))[k1])) v 2 ++ (counted true false (lT (((lT (T.at 2))[k1]).at 2)).length 4) ++ ((lT (((lT (T.at 2))[k1]).at 2)).take k2).flatMap (GOf (fs_sDescribeLogDirsResponseDir[2]'(by decide)) v true))) N_k2 ∧ m_k2 = (B_k1 ++ plainTo (zipped fs_sDescribeLogDirsResponseDir v true ((lT (T.at 2))[k1])) v 2 ++ (counted true false (lT (((lT (T.at 2))[k1]).at 2)).length 4) ++ ((lT (((lT (T.at 2))[k1]).at 2)).take k2).flatMap (GOf (fs_sDescribeLogDirsResponseDir[2]'(by decide)) v true)).length) [(0, .pointer (some ⟨b, 0, none⟩)), (1, .slice _ _ _), (5, .int .i16 v), (6, .bool (decide ((2 : Int) ≤ v))), (9, .slice a2 (lT (T.at 2)).length c2), (11, .pointer (some ⟨b_10, o_11 + k1 * 7, none⟩)), (14, .slice a_k1_2 (lT (((lT (T.at 2))[k1]).at 2)).length c_k1_2), (66, .int .i64 ((lT (T.at 2)).length : Int)), (67, .int .i64 (k1 : Int)), (105, .int .i64 ((lT (((lT (T.at 2))[k1]).at 2)).length : Int))] (fun k2 l' H' L' h => ?_) (by omega) rfl (.cons rfl (.cons rfl (.cons rfl (.cons rfl (.cons rfl (.cons rfl (.cons rfl (.cons rfl (.cons rfl (.cons rfl (.nil _))))))))))) ⟨_, _, _, _, rfl, rfl, (by rw [List.take_zero, List.flatMap_nil, List.append_nil]; exact r99), (by rw [List.take_zero, List.flatMap_nil, List.append_nil])⟩ rfl rfl rfl rfl rfl (fun k2 l' H' L' hk2 le_20 hI => ?_) (fun l' H' L' le_21 hI => ?_)
      · obtain ⟨a_k2, m_k2, c_k2, N_k2, rfl, _⟩ := h; exact ⟨rfl, rfl, rfl, rfl⟩
      · skip
        obtain ⟨a_k2, m_k2, c_k2, N_k2, rfl, rfl, pk20, pk21⟩ := hI
        subst pk21
        refine sr ?_
        refine mv rfl rfl ?_
        refine asg rfl rfl ?_
        refine nl ?_
        refine sr ?_
        refine mv rfl rfl ?_
        refine mv rfl rfl ?_
        obtain ⟨b_22, o_23, e_24, g_25⟩ := (hf_k1_0.mono At_DescribeLogDirsResponseDirTopic.mono le_20).rows.at_ (ne_nil_of_lt hk2)
        obtain ⟨cs_26, hA_27, hc_28⟩ := g_25 k2 hk2
        refine ix2 Try.runUnderlying183 Try.sizeOf191 rfl e_24 rfl rfl hk2 rfl ?_
        obtain ⟨a_k2_1, c_k2_1, m_k2_t, rfl, hf_k2_0, hf_k2_1⟩ := hA_27
        have oek2 := (ok99.el rfl _ (lT_mem (List.getElem_mem hk2))).2 rfl
        obtain ⟨B_k2, hdk2⟩ : ∃ z : List UInt8, z = B_k1 ++ plainTo (zipped fs_sDescribeLogDirsResponseDir v true ((lT (T.at 2))[k1])) v 2 ++ (counted true false (lT (((lT (T.at 2))[k1]).at 2)).length 4) ++ ((lT (((lT (T.at 2))[k1]).at 2)).take k2).flatMap (GOf (fs_sDescribeLogDirsResponseDir[2]'(by decide)) v true) := ⟨_, rfl⟩
        have rbk2 := pk20
        rw [← hdk2] at rbk2 ⊢
        have hBk2 : B_k2.length + (partB fs_sDescribeLogDirsResponseDirTopic v true ((lT (((lT (T.at 2))[k1]).at 2))[k2])).length ≤ LIM := by rw [hdk2]; exact el_size hs99 hk2 (GOf_part (by decide) _)
        refine asg rfl rfl ?_
        refine nl ?_
        refine sq ?_
        refine sr ?_
        refine mv rfl rfl ?_
        refine nc rfl rfl ?_
        refine fa F191_0 rfl rfl ?_
        refine ld (Says.fz hc_28) Try.isAgg9 rfl (Nat.add_zero _).symm rfl rfl ?_
        refine asg rfl rfl ?_
        refine nl ?_
        refine sr ?_
        refine mv rfl rfl ?_
        refine nl ?_
        refine cdT rfl (by omega) ?_
        refine rg ?_
        refine mv rfl rfl ?_
        refine mv rfl rfl ?_
        have ok119 := oek2.get 0 (by decide) (has_yes (show (0 : Int) ≤ v by omega) (show ((-1) : Int) < 0 ∨ v ≤ (-1) by omega))
        have nn119 := ok119.nn (by decide) (by decide)
        have e_29 : B_k2 ++ (counted true false (((lT (((lT (T.at 2))[k1]).at 2))[k2]).at 0).s.length 2 ++ (((lT (((lT (T.at 2))[k1]).at 2))[k2]).at 0).s) = B_k2 ++ plainTo (zipped fs_sDescribeLogDirsResponseDirTopic v true ((lT (((lT (T.at 2))[k1]).at 2))[k2])) v 1 := fold_first (fs := fs_sDescribeLogDirsResponseDirTopic) (v := v) (flex := true) (t := ((lT (((lT (T.at 2))[k1]).at 2))[k2])) (B := B_k2) 0 rfl (by decide) (by decide) (has_yes (show (0 : Int) ≤ v by omega) (show ((-1) : Int) < 0 ∨ v ≤ (-1) by omega)) (by rw [FB_text (f := (fs_sDescribeLogDirsResponseDirTopic[0]'(by decide))) (by decide) (by decide) ok119, sT_nn nn119, nn119])
        have hs119 := fold_size e_29 (by decide) hBk2
        refine cl rfl rfl rfl (OutK.cast (k_AppendCompactString (x := (((lT (((lT (T.at 2))[k1]).at 2))[k2]).at 0).s) (by have := ok119.s (Or.inl rfl); omega) rbk2 hs119) e_29) rfl (fun v_ H1 L1 hle hR => ?_)
        obtain ⟨rfl, a119, c119, N119, rfl, rfl, h119⟩ := hR
        have r119 := h119.1
        refine asg rfl rfl ?_
        refine nl ?_
        refine sq ?_
        refine sr ?_
        refine mv rfl rfl ?_
        refine nc rfl rfl ?_
        refine fa F191_1 rfl rfl ?_
        refine ld (Says.fz hc_28) Try.isAgg189 rfl rfl rfl rfl ?_
        refine asg rfl rfl ?_
        refine nl ?_
        refine sq ?_
        refine sr ?_
        refine mv rfl rfl ?_
        refine nl ?_
        refine cdT rfl (by omega) ?_
        refine rg ?_
        refine mv rfl rfl ?_
        refine mv rfl rfl ?_
        refine ls Try.runUnderlying189 rfl rfl ?_
        have ok131 := oek2.get 1 (by decide) (has_yes (show (0 : Int) ≤ v by omega) (show ((-1) : Int) < 0 ∨ v ≤ (-1) by omega))
        have nn131 := ok131.nn (by decide) (by decide)
        have ll131 := lT_len (ok131.len rfl)
        have e_30 : B_k2 ++ plainTo (zipped fs_sDescribeLogDirsResponseDirTopic v true ((lT (((lT (T.at 2))[k1]).at 2))[k2])) v 1 ++ (counted true false (lT (((lT (((lT (T.at 2))[k1]).at 2))[k2]).at 1)).length 4 ++ (lT (((lT (((lT (T.at 2))[k1]).at 2))[k2]).at 1)).flatMap (GOf (fs_sDescribeLogDirsResponseDirTopic[1]'(by decide)) v true)) = B_k2 ++ plainTo (zipped fs_sDescribeLogDirsResponseDirTopic v true ((lT (((lT (T.at 2))[k1]).at 2))[k2])) v 2 := fold_yes (fs := fs_sDescribeLogDirsResponseDirTopic) (v := v) (flex := true) (t := ((lT (((lT (T.at 2))[k1]).at 2))[k2])) (B := B_k2) 1 (by decide) (by decide) (has_yes (show (0 : Int) ≤ v by omega) (show ((-1) : Int) < 0 ∨ v ≤ (-1) by omega)) (by rw [FB_list (f := (fs_sDescribeLogDirsResponseDirTopic[1]'(by decide))) (by decide) (by decide) ok131, nn131])
        have hs131 := fold_size e_30 (by decide) hBk2
        have hc131 : (B_k2 ++ plainTo (zipped fs_sDescribeLogDirsResponseDirTopic v true ((lT (((lT (T.at 2))[k1]).at 2))[k2])) v 1).length + (counted true false (lT (((lT (((lT (T.at 2))[k1]).at 2))[k2]).at 1)).length 4).length ≤ LIM := by have h := hs131; simp only [List.length_append] at h ⊢; omega
        refine cl rfl rfl rfl (OutK.cast (k_AppendCompactArrayLen (n := (lT (((lT (((lT (T.at 2))[k1]).at 2))[k2]).at 1)).length) (by omega) r119 hc131) (show _ = B_k2 ++ plainTo (zipped fs_sDescribeLogDirsResponseDirTopic v true ((lT (((lT (T.at 2))[k1]).at 2))[k2])) v 1 ++ (counted true false (lT (((lT (((lT (T.at 2))[k1]).at 2))[k2]).at 1)).length 4) from rfl)) rfl (fun v_ H1 L1 hle hR => ?_)
        obtain ⟨rfl, a131, c131, N131, rfl, rfl, h131⟩ := hR
        have r131 := h131.1
        refine asg rfl rfl ?_
        refine nl ?_
        refine sr ?_
        refine mv rfl rfl ?_
        refine ls Try.runUnderlying189 rfl rfl ?_
        refine mv rfl rfl ?_
        refine nl ?_
        refine fr ((lT (((lT (((lT (T.at 2))[k1]).at 2))[k2]).at 1)).length) (fun k3 l' H' L' => ∃ (a_k3 : Option Addr), ∃ (m_k3 : Nat), ∃ (c_k3 : Nat), ∃ (N_k3 : Chunk), [(0, .pointer (some ⟨b, 0, none⟩)), (1, .slice a_k3 m_k3 c_k3), (5, .int .i16 v), (6, .bool (decide ((2 : Int) ≤ v))), (9, .slice a2 (lT (T.at 2)).length c2), (11, .pointer (some ⟨b_10, o_11 + k1 * 7, none⟩)), (14, .slice a_k1_2 (lT (((lT (T.at 2))[k1]).at 2)).length c_k1_2), (16, .pointer (some ⟨b_22, o_23 + k2 * 3, none⟩)), (18, .slice a_k2_1 (lT (((lT (((lT (T.at 2))[k1]).at 2))[k2]).at 1)).length c_k2_1), (66, .int .i64 ((lT (T.at 2)).length : Int)), (67, .int .i64 (k1 : Int)), (105, .int .i64 ((lT (((lT (T.at 2))[k1]).at 2)).length : Int)), (106, .int .i64 (k2 : Int)), (137, .int .i64 ((lT (((lT (((lT (T.at 2))[k1]).at 2))[k2]).at 1)).length : Int))] = l' ∧ N_k3 :: L = L' ∧ Row 5 1 a_k3 m_k3 c_k3 (bytesOf (B_k2 ++ plainTo (zipped fs_sDescribeLogDirsResponseDirTopic v true ((lT (((lT (T.at 2))[k1]).at 2))[k2])) v 1 ++ (counted true false (lT (((lT (((lT (T.at 2))[k1]).at 2))[k2]).at 1)).length 4) ++ ((lT (((lT (((lT (T.at 2))[k1]).at 2))[k2]).at 1)).take k3).flatMap (GOf (fs_sDescribeLogDirsResponseDirTopic[1]'(by decide)) v true))) N_k3 ∧ m_k3 = (B_k2 ++ plainTo (zipped fs_sDescribeLogDirsResponseDirTopic v true ((lT (((lT (T.at 2))[k1]).at 2))[k2])) v 1 ++ (counted true false (lT (((lT (((lT (T.at 2))[k1]).at 2))[k2]).at 1)).length 4) ++ ((lT (((lT (((lT (T.at 2))[k1]).at 2))[k2]).at 1)).take k3).flatMap (GOf (fs_sDescribeLogDirsResponseDirTopic[1]'(by decide)) v true)).length) [(0, .pointer (some ⟨b, 0, none⟩)), (1, .slice _ _ _), (5, .int .i16 v), (6, .bool (decide ((2 : Int) ≤ v))), (9, .slice a2 (lT (T.at 2)).length c2), (11, .pointer (some ⟨b_10, o_11 + k1 * 7, none⟩)), (14, .slice a_k1_2 (lT (((lT (T.at 2))[k1]).at 2)).length c_k1_2), (16, .pointer (some ⟨b_22, o_23 + k2 * 3, none⟩)), (18, .slice a_k2_1 (lT (((lT (((lT (T.at 2))[k1]).at 2))[k2]).at 1)).length c_k2_1), (66, .int .i64 ((lT (T.at 2)).length : Int)), (67, .int .i64 (k1 : Int)), (105, .int .i64 ((lT (((lT (T.at 2))[k1]).at 2)).length : Int)), (106, .int .i64 (k2 : Int)), (137, .int .i64 ((lT (((lT (((lT (T.at 2))[k1]).at 2))[k2]).at 1)).length : Int))] (fun k3 l' H' L' h => ?_) (by omega) rfl (.cons rfl (.cons rfl (.cons rfl (.cons rfl (.cons rfl (.cons rfl (.cons rfl (.cons rfl (.cons rfl (.cons rfl (.cons rfl (.cons rfl (.cons rfl (.cons rfl (.nil _))))))))))))))) ⟨_, _, _, _, rfl, rfl, (by rw [List.take_zero, List.flatMap_nil, List.append_nil]; exact r131), (by rw [List.take_zero, List.flatMap_nil, List.append_nil])⟩ rfl rfl rfl rfl rfl (fun k3 l' H' L' hk3 le_31 hI => ?_) (fun l' H' L' le_32 hI => ?_)
        · obtain ⟨a_k3, m_k3, c_k3, N_k3, rfl, _⟩ := h; exact ⟨rfl, rfl, rfl, rfl⟩
        · skip
          obtain ⟨a_k3, m_k3, c_k3, N_k3, rfl, rfl, pk30, pk31⟩ := hI
          subst pk31
          refine sr ?_
          refine mv rfl rfl ?_
          refine asg rfl rfl ?_
          refine nl ?_
          refine sr ?_
          refine mv rfl rfl ?_
          refine mv rfl rfl ?_
          obtain ⟨b_33, o_34, e_35, g_36⟩ := (hf_k2_0.mono At_DescribeLogDirsResponseDirTopicPartition.mono le_31).rows.at_ (ne_nil_of_lt hk3)
          obtain ⟨cs_37, hA_38, hc_39⟩ := g_36 k3 hk3
          refine ix2 Try.runUnderlying189 Try.sizeOf194 rfl e_35 rfl rfl hk3 rfl ?_
          obtain ⟨m_k3_t, rfl, hf_k3_0⟩ := hA_38
          have oek3 := (ok131.el rfl _ (lT_mem (List.getElem_mem hk3))).2 rfl
          obtain ⟨B_k3, hdk3⟩ : ∃ z : List UInt8, z = B_k2 ++ plainTo (zipped fs_sDescribeLogDirsResponseDirTopic v true ((lT (((lT (T.at 2))[k1]).at 2))[k2])) v 1 ++ (counted true false (lT (((lT (((lT (T.at 2))[k1]).at 2))[k2]).at 1)).length 4) ++ ((lT (((lT (((lT (T.at 2))[k1]).at 2))[k2]).at 1)).take k3).flatMap (GOf (fs_sDescribeLogDirsResponseDirTopic[1]'(by decide)) v true) := ⟨_, rfl⟩
          have rbk3 := pk30
          rw [← hdk3] at rbk3 ⊢
          have hBk3 : B_k3.length + (partB fs_sDescribeLogDirsResponseDirTopicPartition v true ((lT (((lT (((lT (T.at 2))[k1]).at 2))[k2]).at 1))[k3])).length ≤ LIM := by rw [hdk3]; exact el_size hs131 hk3 (GOf_part (by decide) _)
          refine asg rfl rfl ?_
          refine nl ?_
          refine sq ?_
          refine sr ?_
          refine mv rfl rfl ?_
          refine nc rfl rfl ?_
          refine fa F194_0 rfl rfl ?_
          refine ld (Says.fz hc_39) Try.isAgg21 rfl (Nat.add_zero _).symm rfl rfl ?_
          refine asg rfl rfl ?_
          refine nl ?_
          refine rg ?_
          refine mv rfl rfl ?_
          refine mv rfl rfl ?_
          have ok150 := oek3.get 0 (by decide) (has_yes (show (0 : Int) ≤ v by omega) (show ((-1) : Int) < 0 ∨ v ≤ (-1) by omega))
          have e_40 : B_k3 ++ (fixed (IntKind.i32.wrap (((lT (((lT (((lT (T.at 2))[k1]).at 2))[k2]).at 1))[k3]).at 0).n) 4) = B_k3 ++ plainTo (zipped fs_sDescribeLogDirsResponseDirTopicPartition v true ((lT (((lT (((lT (T.at 2))[k1]).at 2))[k2]).at 1))[k3])) v 1 := fold_first (fs := fs_sDescribeLogDirsResponseDirTopicPartition) (v := v) (flex := true) (t := ((lT (((lT (((lT (T.at 2))[k1]).at 2))[k2]).at 1))[k3])) (B := B_k3) 0 rfl (by decide) (by decide) (has_yes (show (0 : Int) ≤ v by omega) (show ((-1) : Int) < 0 ∨ v ≤ (-1) by omega)) ((FB_int (f := (fs_sDescribeLogDirsResponseDirTopicPartition[0]'(by decide))) (by decide) (by decide)).trans (fixed_i32 _).symm)
          have hs150 := fold_size e_40 (by decide) hBk3
          refine cl rfl rfl rfl (OutK.cast (k_AppendInt32 (u := IntKind.i32.wrap (((lT (((lT (((lT (T.at 2))[k1]).at 2))[k2]).at 1))[k3]).at 0).n) rbk3 hs150) e_40) rfl (fun v_ H1 L1 hle hR => ?_)
          obtain ⟨rfl, a150, c150, N150, rfl, rfl, h150⟩ := hR
          have r150 := h150.1
          refine asg rfl rfl ?_
          refine nl ?_
          refine sq ?_
          refine sr ?_
          refine mv rfl rfl ?_
          refine nc rfl rfl ?_
          refine fa F194_1 rfl rfl ?_
          refine ld (Says.fz hc_39) Try.isAgg2 rfl rfl rfl rfl ?_
          refine asg rfl rfl ?_
          refine nl ?_
          refine rg ?_
          refine mv rfl rfl ?_
          refine mv rfl rfl ?_
          have ok157 := oek3.get 1 (by decide) (has_yes (show (0 : Int) ≤ v by omega) (show ((-1) : Int) < 0 ∨ v ≤ (-1) by omega))
          have e_41 : B_k3 ++ plainTo (zipped fs_sDescribeLogDirsResponseDirTopicPartition v true ((lT (((lT (((lT (T.at 2))[k1]).at 2))[k2]).at 1))[k3])) v 1 ++ (fixed ((((lT (((lT (((lT (T.at 2))[k1]).at 2))[k2]).at 1))[k3]).at 1).n) 8) = B_k3 ++ plainTo (zipped fs_sDescribeLogDirsResponseDirTopicPartition v true ((lT (((lT (((lT (T.at 2))[k1]).at 2))[k2]).at 1))[k3])) v 2 := fold_yes (fs := fs_sDescribeLogDirsResponseDirTopicPartition) (v := v) (flex := true) (t := ((lT (((lT (((lT (T.at 2))[k1]).at 2))[k2]).at 1))[k3])) (B := B_k3) 1 (by decide) (by decide) (has_yes (show (0 : Int) ≤ v by omega) (show ((-1) : Int) < 0 ∨ v ≤ (-1) by omega)) ((FB_int (f := (fs_sDescribeLogDirsResponseDirTopicPartition[1]'(by decide))) (by decide) (by decide)).trans rfl)
          have hs157 := fold_size e_41 (by decide) hBk3
          refine cl rfl rfl rfl (OutK.cast (k_AppendInt64 (u := (((lT (((lT (((lT (T.at 2))[k1]).at 2))[k2]).at 1))[k3]).at 1).n) r150 hs157) e_41) rfl (fun v_ H1 L1 hle hR => ?_)
          obtain ⟨rfl, a157, c157, N157, rfl, rfl, h157⟩ := hR
          have r157 := h157.1
          refine asg rfl rfl ?_
          refine nl ?_
          refine sq ?_
          refine sr ?_
          refine mv rfl rfl ?_
          refine nc rfl rfl ?_
          refine fa F194_2 rfl rfl ?_
          refine ld (Says.fz hc_39) Try.isAgg2 rfl rfl rfl rfl ?_
          refine asg rfl rfl ?_
          refine nl ?_
          refine rg ?_
          refine mv rfl rfl ?_
          refine mv rfl rfl ?_
          have ok164 := oek3.get 2 (by decide) (has_yes (show (0 : Int) ≤ v by omega) (show ((-1) : Int) < 0 ∨ v ≤ (-1) by omega))
          have e_42 : B_k3 ++ plainTo (zipped fs_sDescribeLogDirsResponseDirTopicPartition v true ((lT (((lT (((lT (T.at 2))[k1]).at 2))[k2]).at 1))[k3])) v 2 ++ (fixed ((((lT (((lT (((lT (T.at 2))[k1]).at 2))[k2]).at 1))[k3]).at 2).n) 8) = B_k3 ++ plainTo (zipped fs_sDescribeLogDirsResponseDirTopicPartition v true ((lT (((lT (((lT (T.at 2))[k1]).at 2))[k2]).at 1))[k3])) v 3 := fold_yes (fs := fs_sDescribeLogDirsResponseDirTopicPartition) (v := v) (flex := true) (t := ((lT (((lT (((lT (T.at 2))[k1]).at 2))[k2]).at 1))[k3])) (B := B_k3) 2 (by decide) (by decide) (has_yes (show (0 : Int) ≤ v by omega) (show ((-1) : Int) < 0 ∨ v ≤ (-1) by omega)) ((FB_int (f := (fs_sDescribeLogDirsResponseDirTopicPartition[2]'(by decide))) (by decide) (by decide)).trans rfl)
          have hs164 := fold_size e_42 (by decide) hBk3
          refine cl rfl rfl rfl (OutK.cast (k_AppendInt64 (u := (((lT (((lT (((lT (T.at 2))[k1]).at 2))[k2]).at 1))[k3]).at 2).n) r157 hs164) e_42) rfl (fun v_ H1 L1 hle hR => ?_)
          obtain ⟨rfl, a164, c164, N164, rfl, rfl, h164⟩ := hR
          have r164 := h164.1
          refine asg rfl rfl ?_
          refine nl ?_
          refine sq ?_
          refine sr ?_
          refine mv rfl rfl ?_
          refine nc rfl rfl ?_
          refine fa F194_3 rfl rfl ?_
          refine ld (Says.fz hc_39) Try.isAgg4 rfl rfl rfl rfl ?_
          refine asg rfl rfl ?_
          refine nl ?_
          refine rg ?_
          refine mv rfl rfl ?_
          refine mv rfl rfl ?_
          have ok171 := oek3.get 3 (by decide) (has_yes (show (0 : Int) ≤ v by omega) (show ((-1) : Int) < 0 ∨ v ≤ (-1) by omega))
          have e_43 : B_k3 ++ plainTo (zipped fs_sDescribeLogDirsResponseDirTopicPartition v true ((lT (((lT (((lT (T.at 2))[k1]).at 2))[k2]).at 1))[k3])) v 3 ++ ([if decide ((((lT (((lT (((lT (T.at 2))[k1]).at 2))[k2]).at 1))[k3]).at 3).n % 2 = 1) then 1 else 0] : List UInt8) = B_k3 ++ plainTo (zipped fs_sDescribeLogDirsResponseDirTopicPartition v true ((lT (((lT (((lT (T.at 2))[k1]).at 2))[k2]).at 1))[k3])) v 4 := fold_yes (fs := fs_sDescribeLogDirsResponseDirTopicPartition) (v := v) (flex := true) (t := ((lT (((lT (((lT (T.at 2))[k1]).at 2))[k2]).at 1))[k3])) (B := B_k3) 3 (by decide) (by decide) (has_yes (show (0 : Int) ≤ v by omega) (show ((-1) : Int) < 0 ∨ v ≤ (-1) by omega)) ((FB_bool (f := (fs_sDescribeLogDirsResponseDirTopicPartition[3]'(by decide))) (by decide)).trans (bool_byte _))
          have hs171 := fold_size e_43 (by decide) hBk3
          refine cl rfl rfl rfl (OutK.cast (k_AppendBool (b := decide ((((lT (((lT (((lT (T.at 2))[k1]).at 2))[k2]).at 1))[k3]).at 3).n % 2 = 1)) r164 hs171) e_43) rfl (fun v_ H1 L1 hle hR => ?_)
          obtain ⟨rfl, a171, c171, N171, rfl, rfl, h171⟩ := hR
          have r171 := h171.1
          refine asg rfl rfl ?_
          refine nl ?_
          refine sr ?_
          refine mv rfl rfl ?_
          refine nl ?_
          refine cdT rfl (by omega) ?_
          refine sr ?_
          refine mv rfl rfl ?_
          refine mv rfl rfl ?_
          refine nc rfl rfl ?_
          refine fa F194_4 rfl rfl ?_
          refine cl rfl rfl rfl (t_lenU (j := 4) hc_39 rfl hf_k3_0) rfl (fun v_ H1 L1 hle hR => ?_)
          obtain ⟨rfl, rfl, rfl⟩ := hR
          have hu177 := oek3.u
          have hul177 := hu177.2.1
          obtain ⟨hz177a, hz177b⟩ := part_size_plain (by decide) hu177 hBk3
          refine cv Try.runUnderlying3 Try.runUnderlying60 rfl (w32u (by omega) (by omega)) rfl ?_
          refine ad rfl rfl ((w32u (by omega) (by omega)).trans (Int.zero_add _)) rfl ?_
          refine cl rfl rfl rfl (k_AppendUvarint (n := ((lT (((lT (((lT (T.at 2))[k1]).at 2))[k2]).at 1))[k3]).u.length) (by omega) r171 hz177a) rfl (fun v_ H1 L1 hle hR => ?_)
          obtain ⟨rfl, a180, c180, N180, rfl, rfl, h180⟩ := hR
          have r180 := h180.1
          refine asg rfl rfl ?_
          refine nl ?_
          refine rg ?_
          refine mv rfl rfl ?_
          refine nc rfl rfl ?_
          refine fa F194_4 rfl rfl ?_
          refine mv rfl rfl ?_
          refine cl rfl rfl rfl (t_append_each (j := 4) hc_39 rfl hf_k3_0 (by omega) r180 (fun p hp => by have := hu177.2.2 p hp; omega) hz177b) rfl (fun v_ H1 L1 le_44 hR => ?_)
          obtain ⟨a185, c185, N185, rfl, rfl, h185⟩ := hR
          have r185 := h185.1
          have eP_45 : B_k3 ++ plainTo (zipped fs_sDescribeLogDirsResponseDirTopicPartition v true ((lT (((lT (((lT (T.at 2))[k1]).at 2))[k2]).at 1))[k3])) v 4 ++ uvar ((lT (((lT (((lT (T.at 2))[k1]).at 2))[k2]).at 1))[k3]).u.length ++ ((lT (((lT (((lT (T.at 2))[k1]).at 2))[k2]).at 1))[k3]).u.flatMap tagU = B_k3 ++ partB fs_sDescribeLogDirsResponseDirTopicPartition v true ((lT (((lT (((lT (T.at 2))[k1]).at 2))[k2]).at 1))[k3]) := part_close (B := B_k3) (by decide) hu177
          rw [eP_45] at r185 ⊢
          refine asg rfl rfl ?_
          refine nN ?_
          refine Nb ?_
          have ee_46 : B_k3 ++ partB fs_sDescribeLogDirsResponseDirTopicPartition v true ((lT (((lT (((lT (T.at 2))[k1]).at 2))[k2]).at 1))[k3]) = B_k2 ++ plainTo (zipped fs_sDescribeLogDirsResponseDirTopic v true ((lT (((lT (T.at 2))[k1]).at 2))[k2])) v 1 ++ (counted true false (lT (((lT (((lT (T.at 2))[k1]).at 2))[k2]).at 1)).length 4) ++ ((lT (((lT (((lT (T.at 2))[k1]).at 2))[k2]).at 1)).take (k3 + 1)).flatMap (GOf (fs_sDescribeLogDirsResponseDirTopic[1]'(by decide)) v true) := by rw [hdk3]; exact el_end (B0 := B_k2 ++ plainTo (zipped fs_sDescribeLogDirsResponseDirTopic v true ((lT (((lT (T.at 2))[k1]).at 2))[k2])) v 1 ++ (counted true false (lT (((lT (((lT (T.at 2))[k1]).at 2))[k2]).at 1)).length 4)) (G := (GOf (fs_sDescribeLogDirsResponseDirTopic[1]'(by decide)) v true)) hk3 (GOf_part (by decide) _)
          refine fun a_ w_ hA hw => ⟨_, _, _, hA.sub ?_, (le_31.trans le_44), hw, _, rfl, _, _, _, _, rfl, rfl, (by rw [← ee_46]; exact r185), (by rw [← ee_46])⟩
          exact (.cons rfl (.cons rfl (.cons rfl (.cons rfl (.cons rfl (.cons rfl (.cons rfl (.cons rfl (.cons rfl (.cons rfl (.cons rfl (.cons rfl (.cons rfl (.cons rfl (.cons rfl (.nil _))))))))))))))))
        · skip
          obtain ⟨a_k3, m_k3, c_k3, N_k3, rfl, rfl, pk30, pk31⟩ := hI
          refine toWp ?_
          have eL131 : B_k2 ++ plainTo (zipped fs_sDescribeLogDirsResponseDirTopic v true ((lT (((lT (T.at 2))[k1]).at 2))[k2])) v 1 ++ (counted true false (lT (((lT (((lT (T.at 2))[k1]).at 2))[k2]).at 1)).length 4) ++ ((lT (((lT (((lT (T.at 2))[k1]).at 2))[k2]).at 1)).take (lT (((lT (((lT (T.at 2))[k1]).at 2))[k2]).at 1)).length).flatMap (GOf (fs_sDescribeLogDirsResponseDirTopic[1]'(by decide)) v true) = B_k2 ++ plainTo (zipped fs_sDescribeLogDirsResponseDirTopic v true ((lT (((lT (T.at 2))[k1]).at 2))[k2])) v 2 := by rw [List.take_length, List.append_assoc]; exact e_30
          rw [eL131] at pk30 pk31
          subst pk31
          refine sr ?_
          refine mv rfl rfl ?_
          refine nl ?_
          refine cdT rfl (by omega) ?_
          refine sr ?_
          refine mv rfl rfl ?_
          refine mv rfl rfl ?_
          refine nc rfl rfl ?_
          refine fa F191_2 rfl rfl ?_
          refine cl rfl rfl rfl (t_lenU (j := 2) (hc_28.mono le_32) rfl (hf_k2_1.mono le_32)) rfl (fun v_ H1 L1 hle hR => ?_)
          obtain ⟨rfl, rfl, rfl⟩ := hR
          have hu192 := oek2.u
          have hul192 := hu192.2.1
          obtain ⟨hz192a, hz192b⟩ := part_size_plain (by decide) hu192 hBk2
          refine cv Try.runUnderlying3 Try.runUnderlying60 rfl (w32u (by omega) (by omega)) rfl ?_
          refine ad rfl rfl ((w32u (by omega) (by omega)).trans (Int.zero_add _)) rfl ?_
          refine cl rfl rfl rfl (k_AppendUvarint (n := ((lT (((lT (T.at 2))[k1]).at 2))[k2]).u.length) (by omega) pk30 hz192a) rfl (fun v_ H1 L1 hle hR => ?_)
          obtain ⟨rfl, a195, c195, N195, rfl, rfl, h195⟩ := hR
          have r195 := h195.1
          refine asg rfl rfl ?_
          refine nl ?_
          refine rg ?_
          refine mv rfl rfl ?_
          refine nc rfl rfl ?_
          refine fa F191_2 rfl rfl ?_
          refine mv rfl rfl ?_
          refine cl rfl rfl rfl (t_append_each (j := 2) (hc_28.mono le_32) rfl (hf_k2_1.mono le_32) (by omega) r195 (fun p hp => by have := hu192.2.2 p hp; omega) hz192b) rfl (fun v_ H1 L1 le_47 hR => ?_)
          obtain ⟨a200, c200, N200, rfl, rfl, h200⟩ := hR
          have r200 := h200.1
          have eP_48 : B_k2 ++ plainTo (zipped fs_sDescribeLogDirsResponseDirTopic v true ((lT (((lT (T.at 2))[k1]).at 2))[k2])) v 2 ++ uvar ((lT (((lT (T.at 2))[k1]).at 2))[k2]).u.length ++ ((lT (((lT (T.at 2))[k1]).at 2))[k2]).u.flatMap tagU = B_k2 ++ partB fs_sDescribeLogDirsResponseDirTopic v true ((lT (((lT (T.at 2))[k1]).at 2))[k2]) := part_close (B := B_k2) (by decide) hu192
          rw [eP_48] at r200 ⊢
          refine asg rfl rfl ?_
          refine nN ?_
          refine Nb ?_
          have ee_49 : B_k2 ++ partB fs_sDescribeLogDirsResponseDirTopic v true ((lT (((lT (T.at 2))[k1]).at 2))[k2]) = B_k1 ++ plainTo (zipped fs_sDescribeLogDirsResponseDir v true ((lT (T.at 2))[k1])) v 2 ++ (counted true false (lT (((lT (T.at 2))[k1]).at 2)).length 4) ++ ((lT (((lT (T.at 2))[k1]).at 2)).take (k2 + 1)).flatMap (GOf (fs_sDescribeLogDirsResponseDir[2]'(by decide)) v true) := by rw [hdk2]; exact el_end (B0 := B_k1 ++ plainTo (zipped fs_sDescribeLogDirsResponseDir v true ((lT (T.at 2))[k1])) v 2 ++ (counted true false (lT (((lT (T.at 2))[k1]).at 2)).length 4)) (G := (GOf (fs_sDescribeLogDirsResponseDir[2]'(by decide)) v true)) hk2 (GOf_part (by decide) _)
          refine fun a_ w_ hA hw => ⟨_, _, _, hA.sub ?_, (le_20.trans (le_32.trans le_47)), hw, _, rfl, _, _, _, _, rfl, rfl, (by rw [← ee_49]; exact r200), (by rw [← ee_49])⟩
          exact (.cons rfl (.cons rfl (.cons rfl (.cons rfl (.cons rfl (.cons rfl (.cons rfl (.cons rfl (.cons rfl (.cons rfl (.cons rfl (.nil _))))))))))))
      · skip
        obtain ⟨a_k2, m_k2, c_k2, N_k2, rfl, rfl, pk20, pk21⟩ := hI
        refine toWp ?_
        have eL99 : B_k1 ++ plainTo (zipped fs_sDescribeLogDirsResponseDir v true ((lT (T.at 2))[k1])) v 2 ++ (counted true false (lT (((lT (T.at 2))[k1]).at 2)).length 4) ++ ((lT (((lT (T.at 2))[k1]).at 2)).take (lT (((lT (T.at 2))[k1]).at 2)).length).flatMap (GOf (fs_sDescribeLogDirsResponseDir[2]'(by decide)) v true) = B_k1 ++ plainTo (zipped fs_sDescribeLogDirsResponseDir v true ((lT (T.at 2))[k1])) v 3 := by rw [List.take_length, List.append_assoc]; exact e_19
        rw [eL99] at pk20 pk21
        subst pk21
        refine sq ?_
        refine sr ?_
        refine mv rfl rfl ?_
        refine ge rfl rfl rfl ?_
        refine nl ?_
        refine cutT (fun l' H' L' => ∃ (aj_50 : Option Addr), ∃ (mj_50 : Nat), ∃ (cj_50 : Nat), ∃ (Nj_50 : Chunk), [(0, .pointer (some ⟨b, 0, none⟩)), (1, .slice aj_50 mj_50 cj_50), (5, .int .i16 v), (6, .bool (decide ((2 : Int) ≤ v))), (9, .slice a2 (lT (T.at 2)).length c2), (11, .pointer (some ⟨b_10, o_11 + k1 * 7, none⟩)), (66, .int .i64 ((lT (T.at 2)).length : Int)), (67, .int .i64 (k1 : Int))] = l' ∧ Nj_50 :: L = L' ∧ Row 5 1 aj_50 mj_50 cj_50 (bytesOf (B_k1 ++ plainTo (zipped fs_sDescribeLogDirsResponseDir v true ((lT (T.at 2))[k1])) v 4)) Nj_50 ∧ mj_50 = (B_k1 ++ plainTo (zipped fs_sDescribeLogDirsResponseDir v true ((lT (T.at 2))[k1])) v 4).length) ?_ (fun l' H' L' le_51 hI => ?_)
        · skip
          refine cd rfl (fun h203 => ?_) (fun h203 => ?_)
          · skip
            refine sr ?_
            refine mv rfl rfl ?_
            refine nc rfl rfl ?_
            refine fa F185_3 rfl rfl ?_
            refine ld (Says.fz (hc_16.mono le_21)) Try.isAgg2 rfl rfl rfl rfl ?_
            refine asg rfl rfl ?_
            refine nl ?_
            refine rg ?_
            refine mv rfl rfl ?_
            refine mv rfl rfl ?_
            have ok210 := oek1.get 3 (by decide) (has_yes (show (4 : Int) ≤ v by omega) (show ((-1) : Int) < 0 ∨ v ≤ (-1) by omega))
            have e_52 : B_k1 ++ plainTo (zipped fs_sDescribeLogDirsResponseDir v true ((lT (T.at 2))[k1])) v 3 ++ (fixed ((((lT (T.at 2))[k1]).at 3).n) 8) = B_k1 ++ plainTo (zipped fs_sDescribeLogDirsResponseDir v true ((lT (T.at 2))[k1])) v 4 := fold_yes (fs := fs_sDescribeLogDirsResponseDir) (v := v) (flex := true) (t := ((lT (T.at 2))[k1])) (B := B_k1) 3 (by decide) (by decide) (has_yes (show (4 : Int) ≤ v by omega) (show ((-1) : Int) < 0 ∨ v ≤ (-1) by omega)) ((FB_int (f := (fs_sDescribeLogDirsResponseDir[3]'(by decide))) (by decide) (by decide)).trans rfl)
            have hs210 := fold_size e_52 (by decide) hBk1
            refine cl rfl rfl rfl (OutK.cast (k_AppendInt64 (u := (((lT (T.at 2))[k1]).at 3).n) pk20 hs210) e_52) rfl (fun v_ H1 L1 hle hR => ?_)
            obtain ⟨rfl, a210, c210, N210, rfl, rfl, h210⟩ := hR
            have r210 := h210.1
            refine asg rfl rfl ?_
            refine nN ?_
            refine fun a_ w_ hA hw => ⟨_, _, _, hA.sub ?_, (Fz.le.refl _), hw, _, _, _, _, rfl, rfl, r210, rfl⟩
            exact (.cons rfl (.cons rfl (.cons rfl (.cons rfl (.cons rfl (.cons rfl (.cons rfl (.cons rfl (.nil _)))))))))
          · skip
            refine skN ?_
            have es_53 : plainTo (zipped fs_sDescribeLogDirsResponseDir v true ((lT (T.at 2))[k1])) v 4 = plainTo (zipped fs_sDescribeLogDirsResponseDir v true ((lT (T.at 2))[k1])) v 3 := (piece_no2 (fs := fs_sDescribeLogDirsResponseDir) (v := v) (flex := true) (t := ((lT (T.at 2))[k1])) (k := 3) (by decide) (has_no (show v < (4 : Int) ∨ ((0 : Int) ≤ (-1) ∧ (-1) < v) by omega)))
            have eX_54 : B_k1 ++ plainTo (zipped fs_sDescribeLogDirsResponseDir v true ((lT (T.at 2))[k1])) v 3 = B_k1 ++ plainTo (zipped fs_sDescribeLogDirsResponseDir v true ((lT (T.at 2))[k1])) v 4 := by rw [es_53]
            refine fun a_ w_ hA hw => ⟨_, _, _, hA.sub ?_, (Fz.le.refl _), hw, _, _, _, _, rfl, rfl, (by rw [← eX_54]; exact pk20), (by rw [← eX_54])⟩
            exact (.cons rfl (.cons rfl (.cons rfl (.cons rfl (.cons rfl (.cons rfl (.cons rfl (.cons rfl (.nil _)))))))))
        · skip
          obtain ⟨aj_50, mj_50, cj_50, Nj_50, rfl, rfl, pj0, pj1⟩ := hI
          subst pj1
          have rj_50 := pj0
          refine sq ?_
          refine sr ?_
          refine mv rfl rfl ?_
          refine ge rfl rfl rfl ?_
          refine nl ?_
          refine cutT (fun l' H' L' => ∃ (aj_55 : Option Addr), ∃ (mj_55 : Nat), ∃ (cj_55 : Nat), ∃ (Nj_55 : Chunk), [(0, .pointer (some ⟨b, 0, none⟩)), (1, .slice aj_55 mj_55 cj_55), (5, .int .i16 v), (6, .bool (decide ((2 : Int) ≤ v))), (9, .slice a2 (lT (T.at 2)).length c2), (11, .pointer (some ⟨b_10, o_11 + k1 * 7, none⟩)), (66, .int .i64 ((lT (T.at 2)).length : Int)), (67, .int .i64 (k1 : Int))] = l' ∧ Nj_55 :: L = L' ∧ Row 5 1 aj_55 mj_55 cj_55 (bytesOf (B_k1 ++ plainTo (zipped fs_sDescribeLogDirsResponseDir v true ((lT (T.at 2))[k1])) v 5)) Nj_55 ∧ mj_55 = (B_k1 ++ plainTo (zipped fs_sDescribeLogDirsResponseDir v true ((lT (T.at 2))[k1])) v 5).length) ?_ (fun l' H' L' le_56 hI => ?_)
          · skip
            refine cd rfl (fun h212 => ?_) (fun h212 => ?_)
            · skip
              refine sr ?_
              refine mv rfl rfl ?_
              refine nc rfl rfl ?_
              refine fa F185_4 rfl rfl ?_
              refine ld (Says.fz (hc_16.mono (le_21.trans le_51))) Try.isAgg2 rfl rfl rfl rfl ?_
              refine asg rfl rfl ?_
              refine nl ?_
              refine rg ?_
              refine mv rfl rfl ?_
              refine mv rfl rfl ?_
              have ok219 := oek1.get 4 (by decide) (has_yes (show (4 : Int) ≤ v by omega) (show ((-1) : Int) < 0 ∨ v ≤ (-1) by omega))
              have e_57 : B_k1 ++ plainTo (zipped fs_sDescribeLogDirsResponseDir v true ((lT (T.at 2))[k1])) v 4 ++ (fixed ((((lT (T.at 2))[k1]).at 4).n) 8) = B_k1 ++ plainTo (zipped fs_sDescribeLogDirsResponseDir v true ((lT (T.at 2))[k1])) v 5 := fold_yes (fs := fs_sDescribeLogDirsResponseDir) (v := v) (flex := true) (t := ((lT (T.at 2))[k1])) (B := B_k1) 4 (by decide) (by decide) (has_yes (show (4 : Int) ≤ v by omega) (show ((-1) : Int) < 0 ∨ v ≤ (-1) by omega)) ((FB_int (f := (fs_sDescribeLogDirsResponseDir[4]'(by decide))) (by decide) (by decide)).trans rfl)
              have hs219 := fold_size e_57 (by decide) hBk1
              refine cl rfl rfl rfl (OutK.cast (k_AppendInt64 (u := (((lT (T.at 2))[k1]).at 4).n) rj_50 hs219) e_57) rfl (fun v_ H1 L1 hle hR => ?_)
              obtain ⟨rfl, a219, c219, N219, rfl, rfl, h219⟩ := hR
              have r219 := h219.1
              refine asg rfl rfl ?_
              refine nN ?_
              refine fun a_ w_ hA hw => ⟨_, _, _, hA.sub ?_, (Fz.le.refl _), hw, _, _, _, _, rfl, rfl, r219, rfl⟩
              exact (.cons rfl (.cons rfl (.cons rfl (.cons rfl (.cons rfl (.cons rfl (.cons rfl (.cons rfl (.nil _)))))))))
            · skip
              refine skN ?_
              have es_58 : plainTo (zipped fs_sDescribeLogDirsResponseDir v true ((lT (T.at 2))[k1])) v 5 = plainTo (zipped fs_sDescribeLogDirsResponseDir v true ((lT (T.at 2))[k1])) v 4 := (piece_no2 (fs := fs_sDescribeLogDirsResponseDir) (v := v) (flex := true) (t := ((lT (T.at 2))[k1])) (k := 4) (by decide) (has_no (show v < (4 : Int) ∨ ((0 : Int) ≤ (-1) ∧ (-1) < v) by omega)))
              have eX_59 : B_k1 ++ plainTo (zipped fs_sDescribeLogDirsResponseDir v true ((lT (T.at 2))[k1])) v 4 = B_k1 ++ plainTo (zipped fs_sDescribeLogDirsResponseDir v true ((lT (T.at 2))[k1])) v 5 := by rw [es_58]
              refine fun a_ w_ hA hw => ⟨_, _, _, hA.sub ?_, (Fz.le.refl _), hw, _, _, _, _, rfl, rfl, (by rw [← eX_59]; exact rj_50), (by rw [← eX_59])⟩
              exact (.cons rfl (.cons rfl (.cons rfl (.cons rfl (.cons rfl (.cons rfl (.cons rfl (.cons rfl (.nil _)))))))))
          · skip
            obtain ⟨aj_55, mj_55, cj_55, Nj_55, rfl, rfl, pj0, pj1⟩ := hI
            subst pj1
            have rj_55 := pj0
            refine sq ?_
            refine sr ?_
            refine mv rfl rfl ?_
            refine ge rfl rfl rfl ?_
            refine nl ?_
            refine cutT (fun l' H' L' => ∃ (aj_60 : Option Addr), ∃ (mj_60 : Nat), ∃ (cj_60 : Nat), ∃ (Nj_60 : Chunk), [(0, .pointer (some ⟨b, 0, none⟩)), (1, .slice aj_60 mj_60 cj_60), (5, .int .i16 v), (6, .bool (decide ((2 : Int) ≤ v))), (9, .slice a2 (lT (T.at 2)).length c2), (11, .pointer (some ⟨b_10, o_11 + k1 * 7, none⟩)), (66, .int .i64 ((lT (T.at 2)).length : Int)), (67, .int .i64 (k1 : Int))] = l' ∧ Nj_60 :: L = L' ∧ Row 5 1 aj_60 mj_60 cj_60 (bytesOf (B_k1 ++ plainTo (zipped fs_sDescribeLogDirsResponseDir v true ((lT (T.at 2))[k1])) v 6)) Nj_60 ∧ mj_60 = (B_k1 ++ plainTo (zipped fs_sDescribeLogDirsResponseDir v true ((lT (T.at 2))[k1])) v 6).length) ?_ (fun l' H' L' le_61 hI => ?_)
            · skip
              refine cd rfl (fun h221 => ?_) (fun h221 => ?_)
              · skip
                refine sr ?_
                refine mv rfl rfl ?_
                refine nc rfl rfl ?_
                refine fa F185_5 rfl rfl ?_
                refine ld (Says.fz (hc_16.mono (le_21.trans (le_51.trans le_56)))) Try.isAgg4 rfl rfl rfl rfl ?_
                refine asg rfl rfl ?_
                refine nl ?_
                refine rg ?_
                refine mv rfl rfl ?_
                refine mv rfl rfl ?_
                have ok228 := oek1.get 5 (by decide) (has_yes (show (5 : Int) ≤ v by omega) (show ((-1) : Int) < 0 ∨ v ≤ (-1) by omega))
                have e_62 : B_k1 ++ plainTo (zipped fs_sDescribeLogDirsResponseDir v true ((lT (T.at 2))[k1])) v 5 ++ ([if decide ((((lT (T.at 2))[k1]).at 5).n % 2 = 1) then 1 else 0] : List UInt8) = B_k1 ++ plainTo (zipped fs_sDescribeLogDirsResponseDir v true ((lT (T.at 2))[k1])) v 6 := fold_yes (fs := fs_sDescribeLogDirsResponseDir) (v := v) (flex := true) (t := ((lT (T.at 2))[k1])) (B := B_k1) 5 (by decide) (by decide) (has_yes (show (5 : Int) ≤ v by omega) (show ((-1) : Int) < 0 ∨ v ≤ (-1) by omega)) ((FB_bool (f := (fs_sDescribeLogDirsResponseDir[5]'(by decide))) (by decide)).trans (bool_byte _))
                have hs228 := fold_size e_62 (by decide) hBk1
                refine cl rfl rfl rfl (OutK.cast (k_AppendBool (b := decide ((((lT (T.at 2))[k1]).at 5).n % 2 = 1)) rj_55 hs228) e_62) rfl (fun v_ H1 L1 hle hR => ?_)
                obtain ⟨rfl, a228, c228, N228, rfl, rfl, h228⟩ := hR
                have r228 := h228.1
                refine asg rfl rfl ?_
                refine nN ?_
                refine fun a_ w_ hA hw => ⟨_, _, _, hA.sub ?_, (Fz.le.refl _), hw, _, _, _, _, rfl, rfl, r228, rfl⟩
                exact (.cons rfl (.cons rfl (.cons rfl (.cons rfl (.cons rfl (.cons rfl (.cons rfl (.cons rfl (.nil _)))))))))
              · skip
                refine skN ?_
                have es_63 : plainTo (zipped fs_sDescribeLogDirsResponseDir v true ((lT (T.at 2))[k1])) v 6 = plainTo (zipped fs_sDescribeLogDirsResponseDir v true ((lT (T.at 2))[k1])) v 5 := (piece_no2 (fs := fs_sDescribeLogDirsResponseDir) (v := v) (flex := true) (t := ((lT (T.at 2))[k1])) (k := 5) (by decide) (has_no (show v < (5 : Int) ∨ ((0 : Int) ≤ (-1) ∧ (-1) < v) by omega)))
                have eX_64 : B_k1 ++ plainTo (zipped fs_sDescribeLogDirsResponseDir v true ((lT (T.at 2))[k1])) v 5 = B_k1 ++ plainTo (zipped fs_sDescribeLogDirsResponseDir v true ((lT (T.at 2))[k1])) v 6 := by rw [es_63]
                refine fun a_ w_ hA hw => ⟨_, _, _, hA.sub ?_, (Fz.le.refl _), hw, _, _, _, _, rfl, rfl, (by rw [← eX_64]; exact rj_55), (by rw [← eX_64])⟩
                exact (.cons rfl (.cons rfl (.cons rfl (.cons rfl (.cons rfl (.cons rfl (.cons rfl (.cons rfl (.nil _)))))))))
            · skip
              obtain ⟨aj_60, mj_60, cj_60, Nj_60, rfl, rfl, pj0, pj1⟩ := hI
              subst pj1
              have rj_60 := pj0
              refine sr ?_
              refine mv rfl rfl ?_
              refine nl ?_
              refine cdT rfl (by omega) ?_
              refine sr ?_
              refine mv rfl rfl ?_
              refine mv rfl rfl ?_
              refine nc rfl rfl ?_
              refine fa F185_6 rfl rfl ?_
              refine cl rfl rfl rfl (t_lenU (j := 6) (hc_16.mono (le_21.trans (le_51.trans (le_56.trans le_61)))) rfl (hf_k1_1.mono (le_21.trans (le_51.trans (le_56.trans le_61))))) rfl (fun v_ H1 L1 hle hR => ?_)
              obtain ⟨rfl, rfl, rfl⟩ := hR
              have hu234 := oek1.u
              have hul234 := hu234.2.1
              obtain ⟨hz234a, hz234b⟩ := part_size_plain (by decide) hu234 hBk1
              refine cv Try.runUnderlying3 Try.runUnderlying60 rfl (w32u (by omega) (by omega)) rfl ?_
              refine ad rfl rfl ((w32u (by omega) (by omega)).trans (Int.zero_add _)) rfl ?_
              refine cl rfl rfl rfl (k_AppendUvarint (n := ((lT (T.at 2))[k1]).u.length) (by omega) rj_60 hz234a) rfl (fun v_ H1 L1 hle hR => ?_)
              obtain ⟨rfl, a237, c237, N237, rfl, rfl, h237⟩ := hR
              have r237 := h237.1
              refine asg rfl rfl ?_
              refine nl ?_
              refine rg ?_
              refine mv rfl rfl ?_
              refine nc rfl rfl ?_
              refine fa F185_6 rfl rfl ?_
              refine mv rfl rfl ?_
              refine cl rfl rfl rfl (t_append_each (j := 6) (hc_16.mono (le_21.trans (le_51.trans (le_56.trans le_61)))) rfl (hf_k1_1.mono (le_21.trans (le_51.trans (le_56.trans le_61)))) (by omega) r237 (fun p hp => by have := hu234.2.2 p hp; omega) hz234b) rfl (fun v_ H1 L1 le_65 hR => ?_)
              obtain ⟨a242, c242, N242, rfl, rfl, h242⟩ := hR
              have r242 := h242.1
              have eP_66 : B_k1 ++ plainTo (zipped fs_sDescribeLogDirsResponseDir v true ((lT (T.at 2))[k1])) v 6 ++ uvar ((lT (T.at 2))[k1]).u.length ++ ((lT (T.at 2))[k1]).u.flatMap tagU = B_k1 ++ partB fs_sDescribeLogDirsResponseDir v true ((lT (T.at 2))[k1]) := part_close (B := B_k1) (by decide) hu234
              rw [eP_66] at r242 ⊢
              refine asg rfl rfl ?_
              refine nN ?_
              refine Nb ?_
              have ee_67 : B_k1 ++ partB fs_sDescribeLogDirsResponseDir v true ((lT (T.at 2))[k1]) = D ++ plainTo (zipped fs_DescribeLogDirsResponse v true T) v 2 ++ (counted true false (lT (T.at 2)).length 4) ++ ((lT (T.at 2)).take (k1 + 1)).flatMap (GOf (fs_DescribeLogDirsResponse[2]'(by decide)) v true) := by rw [hdk1]; exact el_end (B0 := D ++ plainTo (zipped fs_DescribeLogDirsResponse v true T) v 2 ++ (counted true false (lT (T.at 2)).length 4)) (G := (GOf (fs_DescribeLogDirsResponse[2]'(by decide)) v true)) hk1 (GOf_part (by decide) _)
              refine fun a_ w_ hA hw => ⟨_, _, _, hA.sub ?_, (le_8.trans (le_21.trans (le_51.trans (le_56.trans (le_61.trans le_65))))), hw, _, rfl, _, _, _, _, rfl, rfl, (by rw [← ee_67]; exact r242), (by rw [← ee_67])⟩
              exact (.cons rfl (.cons rfl (.cons rfl (.cons rfl (.cons rfl (.cons rfl (.cons rfl (.nil _))))))))
    · skip
      obtain ⟨a_k1, m_k1, c_k1, N_k1, rfl, rfl, pk10, pk11⟩ := hI
      refine toWp ?_
      have eL60 : D ++ plainTo (zipped fs_DescribeLogDirsResponse v true T) v 2 ++ (counted true false (lT (T.at 2)).length 4) ++ ((lT (T.at 2)).take (lT (T.at 2)).length).flatMap (GOf (fs_DescribeLogDirsResponse[2]'(by decide)) v true) = D ++ plainTo (zipped fs_DescribeLogDirsResponse v true T) v 3 := by rw [List.take_length, List.append_assoc]; exact e_7
      rw [eL60] at pk10 pk11
      subst pk11
      refine sq ?_
      refine sr ?_
      refine mv rfl rfl ?_
      refine nl ?_
      refine cdT rfl (by omega) ?_
      refine sr ?_
      refine mv rfl rfl ?_
      refine mv rfl rfl ?_
      refine nc rfl rfl ?_
      refine fa0 F125_4 rfl rfl ?_
      refine cl rfl rfl rfl (t_lenU (j := 4) (hv.mono (le_3.trans le_9)) rfl (hf1.mono (le_3.trans le_9))) rfl (fun v_ H1 L1 hle hR => ?_)
      obtain ⟨rfl, rfl, rfl⟩ := hR
      have hu249 := hok.u
      have hul249 := hu249.2.1
      obtain ⟨hz249a, hz249b⟩ := part_size_plain (by decide) hu249 hb
      refine cv Try.runUnderlying3 Try.runUnderlying60 rfl (w32u (by omega) (by omega)) rfl ?_
      refine ad rfl rfl ((w32u (by omega) (by omega)).trans (Int.zero_add _)) rfl ?_
      refine cl rfl rfl rfl (k_AppendUvarint (n := T.u.length) (by omega) pk10 hz249a) rfl (fun v_ H1 L1 hle hR => ?_)
      obtain ⟨rfl, a252, c252, N252, rfl, rfl, h252⟩ := hR
      have r252 := h252.1
      refine asg rfl rfl ?_
      refine nl ?_
      refine rg ?_
      refine mv rfl rfl ?_
      refine nc rfl rfl ?_
      refine fa0 F125_4 rfl rfl ?_
      refine mv rfl rfl ?_
      refine cl rfl rfl rfl (t_append_each (j := 4) (hv.mono (le_3.trans le_9)) rfl (hf1.mono (le_3.trans le_9)) (by omega) r252 (fun p hp => by have := hu249.2.2 p hp; omega) hz249b) rfl (fun v_ H1 L1 le_68 hR => ?_)
      obtain ⟨a257, c257, N257, rfl, rfl, h257⟩ := hR
      have r257 := h257.1
      have eP_69 : D ++ plainTo (zipped fs_DescribeLogDirsResponse v true T) v 3 ++ uvar T.u.length ++ T.u.flatMap tagU = D ++ partB fs_DescribeLogDirsResponse v true T := part_close (B := D) (by decide) hu249
      rw [eP_69] at r257 ⊢
      refine asg rfl rfl ?_
      refine nl ?_
      refine sr ?_
      refine mv rfl rfl ?_
      refine asg rfl rfl ?_
      refine nl ?_
      exact rT rfl rfl (le_3.trans (le_9.trans le_68)) (fun _ _ h => h) (OutB.of r257 rfl)
end Go.Sx

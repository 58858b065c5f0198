import Derived.Test.YthgkgbaggjongaaGreatDoorBAlterReplicaLogDirsResponse
import Derived.Test.YthgkgbaggjongaaGreatDoorKB2
import Derived.Test.YthgkgbaggjongaaGreatDoorMkL
import Derived.KernelRfl
set_option linter.unusedVariables false
set_option linter.unusedSimpArgs false
set_option maxRecDepth 100000
set_option maxHeartbeats 20000000
namespace Go.Sx
open Go.Proofs
theorem app_AlterReplicaLogDirsResponse_f {H : Fz} {L : Own} {a : Option Addr} {cap b : Nat} {D : List UInt8} {N : Chunk} {cs : List Value} {T : Tr} {v : Int} (hr : Row 5 1 a D.length cap (bytesOf D) N) (hv : H.at b 0 cs) (hA : At_AlterReplicaLogDirsResponse v H T cs) (hok : OkP fs_AlterReplicaLogDirsResponse v T) (h0 : 0 ≤ v) (h1 : v ≤ 1) (hb : D.length + (partB fs_AlterReplicaLogDirsResponse v false T).length ≤ LIM) :
    Fn Tryz.prog 127 [.pointer (some ⟨b, 0, none⟩), .slice a D.length cap] H (N :: L) (fun r H' L' => OutB 5 L (D ++ partB fs_AlterReplicaLogDirsResponse v false T) r L') := by
  obtain ⟨a1, c1, mt, rfl, hf0, hf1⟩ := hA
  refine Fn.mk Tryz.call127 Tryz.func127 rfl Tryz.ntmps127 rfl ?_
  refine sr ?_
  refine asg rfl rfl ?_
  refine nl ?_
  refine sr ?_
  refine mv rfl rfl ?_
  refine nc rfl rfl ?_
  refine fa0 F211_0 rfl rfl ?_
  refine ld (Says.fz hv) Tryz.isAgg51 rfl (Nat.zero_add _).symm rfl rfl ?_
  refine asg rfl rfl ?_
  refine nl ?_
  refine sr ?_
  refine mv rfl rfl ?_
  refine nl ?_
  refine sr ?_
  refine mv rfl rfl ?_
  refine ge rfl rfl rfl ?_
  refine asg rfl rfl ?_
  refine nl ?_
  refine sr ?_
  refine mv rfl rfl ?_
  refine nl ?_
  refine sq ?_
  refine sr ?_
  refine mv rfl rfl ?_
  refine nc rfl rfl ?_
  refine fa0 F211_1 rfl rfl ?_
  refine ld (Says.fz hv) Tryz.isAgg21 rfl (Nat.zero_add _).symm rfl rfl ?_
  refine asg rfl rfl ?_
  refine nl ?_
  refine rg ?_
  refine mv rfl rfl ?_
  refine mv rfl rfl ?_
  have ok31 := hok.get 0 (by decide) (has_yes (show (0 : Int) ≤ v by omega) (show ((-1) : Int) < 0 ∨ v ≤ (-1) by omega))
  have e_1 : D ++ (fixed (IntKind.i32.wrap (T.at 0).n) 4) = D ++ plainTo (zipped fs_AlterReplicaLogDirsResponse v false T) v 1 := fold_first (fs := fs_AlterReplicaLogDirsResponse) (v := v) (flex := false) (t := T) (B := D) 0 rfl (by decide) (by decide) (has_yes (show (0 : Int) ≤ v by omega) (show ((-1) : Int) < 0 ∨ v ≤ (-1) by omega)) ((FB_int (f := (fs_AlterReplicaLogDirsResponse[0]'(by decide))) (by decide) (by decide)).trans (fixed_i32 _).symm)
  have hs31 := fold_size e_1 (by decide) hb
  refine cl rfl rfl rfl (OutK.cast (k_AppendInt32 (u := IntKind.i32.wrap (T.at 0).n) hr hs31) e_1) rfl (fun v_ H1 L1 hle hR => ?_)
  obtain ⟨rfl, a31, c31, N31, rfl, rfl, h31⟩ := hR
  have r31 := h31.1
  refine asg rfl rfl ?_
  refine nl ?_
  refine sq ?_
  refine sr ?_
  refine mv rfl rfl ?_
  refine nc rfl rfl ?_
  refine fa0 F211_2 rfl rfl ?_
  refine ld (Says.fz hv) Tryz.isAgg209 rfl (Nat.zero_add _).symm rfl rfl ?_
  refine asg rfl rfl ?_
  refine nl ?_
  refine sq ?_
  refine sr ?_
  refine mv rfl rfl ?_
  refine nl ?_
  refine cdF rfl (by omega) ?_
  refine rg ?_
  refine mv rfl rfl ?_
  refine mv rfl rfl ?_
  refine ls Tryz.runUnderlying209 rfl rfl ?_
  have ok44 := hok.get 1 (by decide) (has_yes (show (0 : Int) ≤ v by omega) (show ((-1) : Int) < 0 ∨ v ≤ (-1) by omega))
  have ll44 := lT_len (ok44.len rfl)
  have e_2 : D ++ plainTo (zipped fs_AlterReplicaLogDirsResponse v false T) v 1 ++ (counted false false (lT (T.at 1)).length 4 ++ (lT (T.at 1)).flatMap (GOf (fs_AlterReplicaLogDirsResponse[1]'(by decide)) v false)) = D ++ plainTo (zipped fs_AlterReplicaLogDirsResponse v false T) v 2 := fold_yes (fs := fs_AlterReplicaLogDirsResponse) (v := v) (flex := false) (t := T) (B := D) 1 (by decide) (by decide) (has_yes (show (0 : Int) ≤ v by omega) (show ((-1) : Int) < 0 ∨ v ≤ (-1) by omega)) (FB_list0 (f := (fs_AlterReplicaLogDirsResponse[1]'(by decide))) (by decide) (by decide) (by decide) ok44)
  have hs44 := fold_size e_2 (by decide) hb
  have hc44 : (D ++ plainTo (zipped fs_AlterReplicaLogDirsResponse v false T) v 1).length + (counted false false (lT (T.at 1)).length 4).length ≤ LIM := by have h := hs44; simp only [List.length_append] at h ⊢; omega
  refine cl rfl rfl rfl (OutK.cast (k_AppendArrayLen (u := ((lT (T.at 1)).length : Int)) r31 hc44) (show _ = D ++ plainTo (zipped fs_AlterReplicaLogDirsResponse v false T) v 1 ++ (counted false false (lT (T.at 1)).length 4) from rfl)) rfl (fun v_ H1 L1 hle hR => ?_)
  obtain ⟨rfl, a44, c44, N44, rfl, rfl, h44⟩ := hR
  have r44 := h44.1
  refine asg rfl rfl ?_
  refine nl ?_
  refine sr ?_
  refine mv rfl rfl ?_
  refine ls Tryz.runUnderlying209 rfl rfl ?_
  refine mv rfl rfl ?_
  refine nl ?_
  refine fr ((lT (T.at 1)).length) (fun k1 l' H' L' => ∃ (a_k1 : Option Addr), ∃ (m_k1 : Nat), ∃ (c_k1 : Nat), ∃ (N_k1 : Chunk), [(0, .pointer (some ⟨b, 0, none⟩)), (1, .slice a_k1 m_k1 c_k1), (6, .bool (decide ((2 : Int) ≤ v))), (8, .slice a1 (lT (T.at 1)).length c1), (46, .int .i64 ((lT (T.at 1)).length : Int))] = l' ∧ N_k1 :: L = L' ∧ Row 5 1 a_k1 m_k1 c_k1 (bytesOf (D ++ plainTo (zipped fs_AlterReplicaLogDirsResponse v false T) v 1 ++ (counted false false (lT (T.at 1)).length 4) ++ ((lT (T.at 1)).take k1).flatMap (GOf (fs_AlterReplicaLogDirsResponse[1]'(by decide)) v false))) N_k1 ∧ m_k1 = (D ++ plainTo (zipped fs_AlterReplicaLogDirsResponse v false T) v 1 ++ (counted false false (lT (T.at 1)).length 4) ++ ((lT (T.at 1)).take k1).flatMap (GOf (fs_AlterReplicaLogDirsResponse[1]'(by decide)) v false)).length) [(0, .pointer (some ⟨b, 0, none⟩)), (1, .slice _ _ _), (6, .bool (decide ((2 : Int) ≤ v))), (8, .slice a1 (lT (T.at 1)).length c1), (46, .int .i64 ((lT (T.at 1)).length : Int))] (fun k1 l' H' L' h => ?_) (by omega) rfl (.cons rfl (.cons rfl (.cons rfl (.cons rfl (.cons rfl (.nil _)))))) ⟨_, _, _, _, rfl, rfl, (by rw [List.take_zero, List.flatMap_nil, List.append_nil]; exact r44), (by rw [List.take_zero, List.flatMap_nil, List.append_nil])⟩ rfl rfl rfl rfl rfl (fun k1 l' H' L' hk1 le_3 hI => ?_) (fun l' H' L' le_4 hI => ?_)
  · obtain ⟨a_k1, m_k1, c_k1, N_k1, rfl, _⟩ := h; exact ⟨rfl, rfl, rfl, rfl⟩
  · skip
    obtain ⟨a_k1, m_k1, c_k1, N_k1, rfl, rfl, pk10, pk11⟩ := hI
    subst pk11
    refine sr ?_
    refine mv rfl rfl ?_
    refine asg rfl rfl ?_
    refine nl ?_
    refine sr ?_
    refine mv rfl rfl ?_
    refine mv rfl rfl ?_
    obtain ⟨b_5, o_6, e_7, g_8⟩ := (hf0.mono At_AlterReplicaLogDirsResponseTopic.mono le_3).rows.at_ (ne_nil_of_lt hk1)
    obtain ⟨cs_9, hA_10, hc_11⟩ := g_8 k1 hk1
    refine ix2 Tryz.runUnderlying209 Tryz.sizeOf216 rfl e_7 rfl rfl hk1 rfl ?_
    obtain ⟨a_k1_1, c_k1_1, m_k1_t, rfl, hf_k1_0, hf_k1_1⟩ := hA_10
    have oek1 := (ok44.el rfl _ (lT_mem (List.getElem_mem hk1))).2 rfl
    obtain ⟨B_k1, hdk1⟩ : ∃ z : List UInt8, z = D ++ plainTo (zipped fs_AlterReplicaLogDirsResponse v false T) v 1 ++ (counted false false (lT (T.at 1)).length 4) ++ ((lT (T.at 1)).take k1).flatMap (GOf (fs_AlterReplicaLogDirsResponse[1]'(by decide)) v false) := ⟨_, rfl⟩
    have rbk1 := pk10
    rw [← hdk1] at rbk1 ⊢
    have hBk1 : B_k1.length + (partB fs_sAlterReplicaLogDirsResponseTopic v false ((lT (T.at 1))[k1])).length ≤ LIM := by rw [hdk1]; exact el_size hs44 hk1 (GOf_part (by decide) _)
    refine asg rfl rfl ?_
    refine nl ?_
    refine sq ?_
    refine sr ?_
    refine mv rfl rfl ?_
    refine nc rfl rfl ?_
    refine fa F216_0 rfl rfl ?_
    refine ld (Says.fz hc_11) Tryz.isAgg9 rfl (Nat.add_zero _).symm rfl rfl ?_
    refine asg rfl rfl ?_
    refine nl ?_
    refine sr ?_
    refine mv rfl rfl ?_
    refine nl ?_
    refine cdF rfl (by omega) ?_
    refine rg ?_
    refine mv rfl rfl ?_
    refine mv rfl rfl ?_
    have ok63 := oek1.get 0 (by decide) (has_yes (show (0 : Int) ≤ v by omega) (show ((-1) : Int) < 0 ∨ v ≤ (-1) by omega))
    have nn63 := ok63.nn (by decide) (by decide) (by decide)
    have e_12 : B_k1 ++ (counted false false (((lT (T.at 1))[k1]).at 0).s.length 2 ++ (((lT (T.at 1))[k1]).at 0).s) = B_k1 ++ plainTo (zipped fs_sAlterReplicaLogDirsResponseTopic v false ((lT (T.at 1))[k1])) v 1 := fold_first (fs := fs_sAlterReplicaLogDirsResponseTopic) (v := v) (flex := false) (t := ((lT (T.at 1))[k1])) (B := B_k1) 0 rfl (by decide) (by decide) (has_yes (show (0 : Int) ≤ v by omega) (show ((-1) : Int) < 0 ∨ v ≤ (-1) by omega)) (by rw [FB_text (f := (fs_sAlterReplicaLogDirsResponseTopic[0]'(by decide))) (by decide) (by decide) ok63, sT_nn nn63, nn63])
    have hs63 := fold_size e_12 (by decide) hBk1
    refine cl rfl rfl rfl (OutK.cast (k_AppendString (x := (((lT (T.at 1))[k1]).at 0).s) rbk1 hs63) e_12) rfl (fun v_ H1 L1 hle hR => ?_)
    obtain ⟨rfl, a63, c63, N63, rfl, rfl, h63⟩ := hR
    have r63 := h63.1
    refine asg rfl rfl ?_
    refine nl ?_
    refine sq ?_
    refine sr ?_
    refine mv rfl rfl ?_
    refine nc rfl rfl ?_
    refine fa F216_1 rfl rfl ?_
    refine ld (Says.fz hc_11) Tryz.isAgg214 rfl rfl rfl rfl ?_
    refine asg rfl rfl ?_
    refine nl ?_
    refine sq ?_
    refine sr ?_
    refine mv rfl rfl ?_
    refine nl ?_
    refine cdF rfl (by omega) ?_
    refine rg ?_
    refine mv rfl rfl ?_
    refine mv rfl rfl ?_
    refine ls Tryz.runUnderlying214 rfl rfl ?_
    have ok76 := oek1.get 1 (by decide) (has_yes (show (0 : Int) ≤ v by omega) (show ((-1) : Int) < 0 ∨ v ≤ (-1) by omega))
    have ll76 := lT_len (ok76.len rfl)
    have e_13 : B_k1 ++ plainTo (zipped fs_sAlterReplicaLogDirsResponseTopic v false ((lT (T.at 1))[k1])) v 1 ++ (counted false false (lT (((lT (T.at 1))[k1]).at 1)).length 4 ++ (lT (((lT (T.at 1))[k1]).at 1)).flatMap (GOf (fs_sAlterReplicaLogDirsResponseTopic[1]'(by decide)) v false)) = B_k1 ++ plainTo (zipped fs_sAlterReplicaLogDirsResponseTopic v false ((lT (T.at 1))[k1])) v 2 := fold_yes (fs := fs_sAlterReplicaLogDirsResponseTopic) (v := v) (flex := false) (t := ((lT (T.at 1))[k1])) (B := B_k1) 1 (by decide) (by decide) (has_yes (show (0 : Int) ≤ v by omega) (show ((-1) : Int) < 0 ∨ v ≤ (-1) by omega)) (FB_list0 (f := (fs_sAlterReplicaLogDirsResponseTopic[1]'(by decide))) (by decide) (by decide) (by decide) ok76)
    have hs76 := fold_size e_13 (by decide) hBk1
    have hc76 : (B_k1 ++ plainTo (zipped fs_sAlterReplicaLogDirsResponseTopic v false ((lT (T.at 1))[k1])) v 1).length + (counted false false (lT (((lT (T.at 1))[k1]).at 1)).length 4).length ≤ LIM := by have h := hs76; simp only [List.length_append] at h ⊢; omega
    refine cl rfl rfl rfl (OutK.cast (k_AppendArrayLen (u := ((lT (((lT (T.at 1))[k1]).at 1)).length : Int)) r63 hc76) (show _ = B_k1 ++ plainTo (zipped fs_sAlterReplicaLogDirsResponseTopic v false ((lT (T.at 1))[k1])) v 1 ++ (counted false false (lT (((lT (T.at 1))[k1]).at 1)).length 4) from rfl)) rfl (fun v_ H1 L1 hle hR => ?_)
    obtain ⟨rfl, a76, c76, N76, rfl, rfl, h76⟩ := hR
    have r76 := h76.1
    refine asg rfl rfl ?_
    refine nl ?_
    refine sr ?_
    refine mv rfl rfl ?_
    refine ls Tryz.runUnderlying214 rfl rfl ?_
    refine mv rfl rfl ?_
    refine nl ?_
    refine fr ((lT (((lT (T.at 1))[k1]).at 1)).length) (fun k2 l' H' L' => ∃ (a_k2 : Option Addr), ∃ (m_k2 : Nat), ∃ (c_k2 : Nat), ∃ (N_k2 : Chunk), [(0, .pointer (some ⟨b, 0, none⟩)), (1, .slice a_k2 m_k2 c_k2), (6, .bool (decide ((2 : Int) ≤ v))), (8, .slice a1 (lT (T.at 1)).length c1), (10, .pointer (some ⟨b_5, o_6 + k1 * 3, none⟩)), (12, .slice a_k1_1 (lT (((lT (T.at 1))[k1]).at 1)).length c_k1_1), (46, .int .i64 ((lT (T.at 1)).length : Int)), (47, .int .i64 (k1 : Int)), (78, .int .i64 ((lT (((lT (T.at 1))[k1]).at 1)).length : Int))] = l' ∧ N_k2 :: L = L' ∧ Row 5 1 a_k2 m_k2 c_k2 (bytesOf (B_k1 ++ plainTo (zipped fs_sAlterReplicaLogDirsResponseTopic v false ((lT (T.at 1))[k1])) v 1 ++ (counted false false (lT (((lT (T.at 1))[k1]).at 1)).length 4) ++ ((lT (((lT (T.at 1))[k1]).at 1)).take k2).flatMap (GOf (fs_sAlterReplicaLogDirsResponseTopic[1]'(by decide)) v false))) N_k2 ∧ m_k2 = (B_k1 ++ plainTo (zipped fs_sAlterReplicaLogDirsResponseTopic v false ((lT (T.at 1))[k1])) v 1 ++ (counted false false (lT (((lT (T.at 1))[k1]).at 1)).length 4) ++ ((lT (((lT (T.at 1))[k1]).at 1)).take k2).flatMap (GOf (fs_sAlterReplicaLogDirsResponseTopic[1]'(by decide)) v false)).length) [(0, .pointer (some ⟨b, 0, none⟩)), (1, .slice _ _ _), (6, .bool (decide ((2 : Int) ≤ v))), (8, .slice a1 (lT (T.at 1)).length c1), (10, .pointer (some ⟨b_5, o_6 + k1 * 3, none⟩)), (12, .slice a_k1_1 (lT (((lT (T.at 1))[k1]).at 1)).length c_k1_1), (46, .int .i64 ((lT (T.at 1)).length : Int)), (47, .int .i64 (k1 : Int)), (78, .int .i64 ((lT (((lT (T.at 1))[k1]).at 1)).length : Int))] (fun k2 l' H' L' h => ?_) (by omega) rfl (.cons rfl (.cons rfl (.cons rfl (.cons rfl (.cons rfl (.cons rfl (.cons rfl (.cons rfl (.cons rfl (.nil _)))))))))) ⟨_, _, _, _, rfl, rfl, (by rw [List.take_zero, List.flatMap_nil, List.append_nil]; exact r76), (by rw [List.take_zero, List.flatMap_nil, List.append_nil])⟩ rfl rfl rfl rfl rfl (fun k2 l' H' L' hk2 le_14 hI => ?_) (fun l' H' L' le_15 hI => ?_)
    · obtain ⟨a_k2, m_k2, c_k2, N_k2, rfl, _⟩ := h; exact ⟨rfl, rfl, rfl, rfl⟩
    · skip
      obtain ⟨a_k2, m_k2, c_k2, N_k2, rfl, rfl, pk20, pk21⟩ := hI
      subst pk21
      refine sr ?_
      refine mv rfl rfl ?_
      refine asg rfl rfl ?_
      refine nl ?_
      refine sr ?_
      refine mv rfl rfl ?_
      refine mv rfl rfl ?_
      obtain ⟨b_16, o_17, e_18, g_19⟩ := (hf_k1_0.mono At_AlterReplicaLogDirsResponseTopicPartition.mono le_14).rows.at_ (ne_nil_of_lt hk2)
      obtain ⟨cs_20, hA_21, hc_22⟩ := g_19 k2 hk2
      refine ix2 Tryz.runUnderlying214 Tryz.sizeOf219 rfl e_18 rfl rfl hk2 rfl ?_
      obtain ⟨m_k2_t, rfl, hf_k2_0⟩ := hA_21
      have oek2 := (ok76.el rfl _ (lT_mem (List.getElem_mem hk2))).2 rfl
      obtain ⟨B_k2, hdk2⟩ : ∃ z : List UInt8, z = B_k1 ++ plainTo (zipped fs_sAlterReplicaLogDirsResponseTopic v false ((lT (T.at 1))[k1])) v 1 ++ (counted false false (lT (((lT (T.at 1))[k1]).at 1)).length 4) ++ ((lT (((lT (T.at 1))[k1]).at 1)).take k2).flatMap (GOf (fs_sAlterReplicaLogDirsResponseTopic[1]'(by decide)) v false) := ⟨_, rfl⟩
      have rbk2 := pk20
      rw [← hdk2] at rbk2 ⊢
      have hBk2 : B_k2.length + (partB fs_sAlterReplicaLogDirsResponseTopicPartition v false ((lT (((lT (T.at 1))[k1]).at 1))[k2])).length ≤ LIM := by rw [hdk2]; exact el_size hs76 hk2 (GOf_part (by decide) _)
      refine asg rfl rfl ?_
      refine nl ?_
      refine sq ?_
      refine sr ?_
      refine mv rfl rfl ?_
      refine nc rfl rfl ?_
      refine fa F219_0 rfl rfl ?_
      refine ld (Says.fz hc_22) Tryz.isAgg21 rfl (Nat.add_zero _).symm rfl rfl ?_
      refine asg rfl rfl ?_
      refine nl ?_
      refine rg ?_
      refine mv rfl rfl ?_
      refine mv rfl rfl ?_
      have ok91 := oek2.get 0 (by decide) (has_yes (show (0 : Int) ≤ v by omega) (show ((-1) : Int) < 0 ∨ v ≤ (-1) by omega))
      have e_23 : B_k2 ++ (fixed (IntKind.i32.wrap (((lT (((lT (T.at 1))[k1]).at 1))[k2]).at 0).n) 4) = B_k2 ++ plainTo (zipped fs_sAlterReplicaLogDirsResponseTopicPartition v false ((lT (((lT (T.at 1))[k1]).at 1))[k2])) v 1 := fold_first (fs := fs_sAlterReplicaLogDirsResponseTopicPartition) (v := v) (flex := false) (t := ((lT (((lT (T.at 1))[k1]).at 1))[k2])) (B := B_k2) 0 rfl (by decide) (by decide) (has_yes (show (0 : Int) ≤ v by omega) (show ((-1) : Int) < 0 ∨ v ≤ (-1) by omega)) ((FB_int (f := (fs_sAlterReplicaLogDirsResponseTopicPartition[0]'(by decide))) (by decide) (by decide)).trans (fixed_i32 _).symm)
      have hs91 := fold_size e_23 (by decide) hBk2
      refine cl rfl rfl rfl (OutK.cast (k_AppendInt32 (u := IntKind.i32.wrap (((lT (((lT (T.at 1))[k1]).at 1))[k2]).at 0).n) rbk2 hs91) e_23) rfl (fun v_ H1 L1 hle hR => ?_)
      obtain ⟨rfl, a91, c91, N91, rfl, rfl, h91⟩ := hR
      have r91 := h91.1
      refine asg rfl rfl ?_
      refine nl ?_
      refine sq ?_
      refine sr ?_
      refine mv rfl rfl ?_
      refine nc rfl rfl ?_
      refine fa F219_1 rfl rfl ?_
      refine ld (Says.fz hc_22) Tryz.isAgg51 rfl rfl rfl rfl ?_
      refine asg rfl rfl ?_
      refine nl ?_
      refine rg ?_
      refine mv rfl rfl ?_
      refine mv rfl rfl ?_
      have ok98 := oek2.get 1 (by decide) (has_yes (show (0 : Int) ≤ v by omega) (show ((-1) : Int) < 0 ∨ v ≤ (-1) by omega))
      have e_24 : B_k2 ++ plainTo (zipped fs_sAlterReplicaLogDirsResponseTopicPartition v false ((lT (((lT (T.at 1))[k1]).at 1))[k2])) v 1 ++ (fixed (IntKind.i16.wrap (((lT (((lT (T.at 1))[k1]).at 1))[k2]).at 1).n) 2) = B_k2 ++ plainTo (zipped fs_sAlterReplicaLogDirsResponseTopicPartition v false ((lT (((lT (T.at 1))[k1]).at 1))[k2])) v 2 := fold_yes (fs := fs_sAlterReplicaLogDirsResponseTopicPartition) (v := v) (flex := false) (t := ((lT (((lT (T.at 1))[k1]).at 1))[k2])) (B := B_k2) 1 (by decide) (by decide) (has_yes (show (0 : Int) ≤ v by omega) (show ((-1) : Int) < 0 ∨ v ≤ (-1) by omega)) ((FB_int (f := (fs_sAlterReplicaLogDirsResponseTopicPartition[1]'(by decide))) (by decide) (by decide)).trans (fixed_i16 _).symm)
      have hs98 := fold_size e_24 (by decide) hBk2
      refine cl rfl rfl rfl (OutK.cast (k_AppendInt16 (u := IntKind.i16.wrap (((lT (((lT (T.at 1))[k1]).at 1))[k2]).at 1).n) r91 hs98) e_24) rfl (fun v_ H1 L1 hle hR => ?_)
      obtain ⟨rfl, a98, c98, N98, rfl, rfl, h98⟩ := hR
      have r98 := h98.1
      refine asg rfl rfl ?_
      refine nl ?_
      refine sr ?_
      refine mv rfl rfl ?_
      refine nl ?_
      refine cdF rfl (by omega) ?_
      refine skN ?_
      refine Nb ?_
      have eP_25 : B_k2 ++ plainTo (zipped fs_sAlterReplicaLogDirsResponseTopicPartition v false ((lT (((lT (T.at 1))[k1]).at 1))[k2])) v 2 = B_k2 ++ partB fs_sAlterReplicaLogDirsResponseTopicPartition v false ((lT (((lT (T.at 1))[k1]).at 1))[k2]) := by rw [partB_false]; rfl
      have rp_26 := r98
      rw [eP_25] at rp_26 ⊢
      have ee_27 : B_k2 ++ partB fs_sAlterReplicaLogDirsResponseTopicPartition v false ((lT (((lT (T.at 1))[k1]).at 1))[k2]) = B_k1 ++ plainTo (zipped fs_sAlterReplicaLogDirsResponseTopic v false ((lT (T.at 1))[k1])) v 1 ++ (counted false false (lT (((lT (T.at 1))[k1]).at 1)).length 4) ++ ((lT (((lT (T.at 1))[k1]).at 1)).take (k2 + 1)).flatMap (GOf (fs_sAlterReplicaLogDirsResponseTopic[1]'(by decide)) v false) := by rw [hdk2]; exact el_end (B0 := B_k1 ++ plainTo (zipped fs_sAlterReplicaLogDirsResponseTopic v false ((lT (T.at 1))[k1])) v 1 ++ (counted false false (lT (((lT (T.at 1))[k1]).at 1)).length 4)) (G := (GOf (fs_sAlterReplicaLogDirsResponseTopic[1]'(by decide)) v false)) hk2 (GOf_part (by decide) _)
      refine fun a_ w_ hA hw => ⟨_, _, _, hA.sub ?_, le_14, hw, _, rfl, _, _, _, _, rfl, rfl, (by rw [← ee_27]; exact rp_26), (by rw [← ee_27])⟩
      exact (.cons rfl (.cons rfl (.cons rfl (.cons rfl (.cons rfl (.cons rfl (.cons rfl (.cons rfl (.cons rfl (.cons rfl (.nil _)))))))))))
    · skip
      obtain ⟨a_k2, m_k2, c_k2, N_k2, rfl, rfl, pk20, pk21⟩ := hI
      refine toWp ?_
      have eL76 : B_k1 ++ plainTo (zipped fs_sAlterReplicaLogDirsResponseTopic v false ((lT (T.at 1))[k1])) v 1 ++ (counted false false (lT (((lT (T.at 1))[k1]).at 1)).length 4) ++ ((lT (((lT (T.at 1))[k1]).at 1)).take (lT (((lT (T.at 1))[k1]).at 1)).length).flatMap (GOf (fs_sAlterReplicaLogDirsResponseTopic[1]'(by decide)) v false) = B_k1 ++ plainTo (zipped fs_sAlterReplicaLogDirsResponseTopic v false ((lT (T.at 1))[k1])) v 2 := by rw [List.take_length, List.append_assoc]; exact e_13
      rw [eL76] at pk20 pk21
      subst pk21
      refine sr ?_
      refine mv rfl rfl ?_
      refine nl ?_
      refine cdF rfl (by omega) ?_
      refine skN ?_
      refine Nb ?_
      have eP_28 : B_k1 ++ plainTo (zipped fs_sAlterReplicaLogDirsResponseTopic v false ((lT (T.at 1))[k1])) v 2 = B_k1 ++ partB fs_sAlterReplicaLogDirsResponseTopic v false ((lT (T.at 1))[k1]) := by rw [partB_false]; rfl
      have rp_29 := pk20
      rw [eP_28] at rp_29 ⊢
      have ee_30 : B_k1 ++ partB fs_sAlterReplicaLogDirsResponseTopic v false ((lT (T.at 1))[k1]) = D ++ plainTo (zipped fs_AlterReplicaLogDirsResponse v false T) v 1 ++ (counted false false (lT (T.at 1)).length 4) ++ ((lT (T.at 1)).take (k1 + 1)).flatMap (GOf (fs_AlterReplicaLogDirsResponse[1]'(by decide)) v false) := by rw [hdk1]; exact el_end (B0 := D ++ plainTo (zipped fs_AlterReplicaLogDirsResponse v false T) v 1 ++ (counted false false (lT (T.at 1)).length 4)) (G := (GOf (fs_AlterReplicaLogDirsResponse[1]'(by decide)) v false)) hk1 (GOf_part (by decide) _)
      refine fun a_ w_ hA hw => ⟨_, _, _, hA.sub ?_, (le_3.trans le_15), hw, _, rfl, _, _, _, _, rfl, rfl, (by rw [← ee_30]; exact rp_29), (by rw [← ee_30])⟩
      exact (.cons rfl (.cons rfl (.cons rfl (.cons rfl (.cons rfl (.cons rfl (.nil _)))))))
  · skip
    obtain ⟨a_k1, m_k1, c_k1, N_k1, rfl, rfl, pk10, pk11⟩ := hI
    refine toWp ?_
    have eL44 : D ++ plainTo (zipped fs_AlterReplicaLogDirsResponse v false T) v 1 ++ (counted false false (lT (T.at 1)).length 4) ++ ((lT (T.at 1)).take (lT (T.at 1)).length).flatMap (GOf (fs_AlterReplicaLogDirsResponse[1]'(by decide)) v false) = D ++ plainTo (zipped fs_AlterReplicaLogDirsResponse v false T) v 2 := by rw [List.take_length, List.append_assoc]; exact e_2
    rw [eL44] at pk10 pk11
    subst pk11
    refine sq ?_
    refine sr ?_
    refine mv rfl rfl ?_
    refine nl ?_
    refine cdF rfl (by omega) ?_
    refine skt ?_
    refine sr ?_
    refine mv rfl rfl ?_
    refine asg rfl rfl ?_
    refine nl ?_
    have eP_31 : D ++ plainTo (zipped fs_AlterReplicaLogDirsResponse v false T) v 2 = D ++ partB fs_AlterReplicaLogDirsResponse v false T := by rw [partB_false]; rfl
    have rp_32 := pk10
    rw [eP_31] at rp_32 ⊢
    exact rT rfl rfl le_4 (fun _ _ h => h) (OutB.of rp_32 rfl)
theorem app_AlterReplicaLogDirsResponse_t {H : Fz} {L : Own} {a : Option Addr} {cap b : Nat} {D : List UInt8} {N : Chunk} {cs : List Value} {T : Tr} {v : Int} (hr : Row 5 1 a D.length cap (bytesOf D) N) (hv : H.at b 0 cs) (hA : At_AlterReplicaLogDirsResponse v H T cs) (hok : OkP fs_AlterReplicaLogDirsResponse v T) (h0 : 2 ≤ v) (h1 : v ≤ 2) (hb : D.length + (partB fs_AlterReplicaLogDirsResponse v true T).length ≤ LIM) :
    Fn Tryz.prog 127 [.pointer (some ⟨b, 0, none⟩), .slice a D.length cap] H (N :: L) (fun r H' L' => OutB 5 L (D ++ partB fs_AlterReplicaLogDirsResponse v true T) r L') := by
  obtain ⟨a1, c1, mt, rfl, hf0, hf1⟩ := hA
  refine Fn.mk Tryz.call127 Tryz.func127 rfl Tryz.ntmps127 rfl ?_
  refine sr ?_
  refine asg rfl rfl ?_
  refine nl ?_
  refine sr ?_
  refine mv rfl rfl ?_
  refine nc rfl rfl ?_
  refine fa0 F211_0 rfl rfl ?_
  refine ld (Says.fz hv) Tryz.isAgg51 rfl (Nat.zero_add _).symm rfl rfl ?_
  refine asg rfl rfl ?_
  refine nl ?_
  refine sr ?_
  refine mv rfl rfl ?_
  refine nl ?_
  refine sr ?_
  refine mv rfl rfl ?_
  refine ge rfl rfl rfl ?_
  refine asg rfl rfl ?_
  refine nl ?_
  refine sr ?_
  refine mv rfl rfl ?_
  refine nl ?_
  refine sq ?_
  refine sr ?_
  refine mv rfl rfl ?_
  refine nc rfl rfl ?_
  refine fa0 F211_1 rfl rfl ?_
  refine ld (Says.fz hv) Tryz.isAgg21 rfl (Nat.zero_add _).symm rfl rfl ?_
  refine asg rfl rfl ?_
  refine nl ?_
  refine rg ?_
  refine mv rfl rfl ?_
  refine mv rfl rfl ?_
  have ok31 := hok.get 0 (by decide) (has_yes (show (0 : Int) ≤ v by omega) (show ((-1) : Int) < 0 ∨ v ≤ (-1) by omega))
  have e_1 : D ++ (fixed (IntKind.i32.wrap (T.at 0).n) 4) = D ++ plainTo (zipped fs_AlterReplicaLogDirsResponse v true T) v 1 := fold_first (fs := fs_AlterReplicaLogDirsResponse) (v := v) (flex := true) (t := T) (B := D) 0 rfl (by decide) (by decide) (has_yes (show (0 : Int) ≤ v by omega) (show ((-1) : Int) < 0 ∨ v ≤ (-1) by omega)) ((FB_int (f := (fs_AlterReplicaLogDirsResponse[0]'(by decide))) (by decide) (by decide)).trans (fixed_i32 _).symm)
  have hs31 := fold_size e_1 (by decide) hb
  refine cl rfl rfl rfl (OutK.cast (k_AppendInt32 (u := IntKind.i32.wrap (T.at 0).n) hr hs31) e_1) rfl (fun v_ H1 L1 hle hR => ?_)
  obtain ⟨rfl, a31, c31, N31, rfl, rfl, h31⟩ := hR
  have r31 := h31.1
  refine asg rfl rfl ?_
  refine nl ?_
  refine sq ?_
  refine sr ?_
  refine mv rfl rfl ?_
  refine nc rfl rfl ?_
  refine fa0 F211_2 rfl rfl ?_
  refine ld (Says.fz hv) Tryz.isAgg209 rfl (Nat.zero_add _).symm rfl rfl ?_
  refine asg rfl rfl ?_
  refine nl ?_
  refine sq ?_
  refine sr ?_
  refine mv rfl rfl ?_
  refine nl ?_
  refine cdT rfl (by omega) ?_
  refine rg ?_
  refine mv rfl rfl ?_
  refine mv rfl rfl ?_
  refine ls Tryz.runUnderlying209 rfl rfl ?_
  have ok40 := hok.get 1 (by decide) (has_yes (show (0 : Int) ≤ v by omega) (show ((-1) : Int) < 0 ∨ v ≤ (-1) by omega))
  have ll40 := lT_len (ok40.len rfl)
  have e_2 : D ++ plainTo (zipped fs_AlterReplicaLogDirsResponse v true T) v 1 ++ (counted true false (lT (T.at 1)).length 4 ++ (lT (T.at 1)).flatMap (GOf (fs_AlterReplicaLogDirsResponse[1]'(by decide)) v true)) = D ++ plainTo (zipped fs_AlterReplicaLogDirsResponse v true T) v 2 := fold_yes (fs := fs_AlterReplicaLogDirsResponse) (v := v) (flex := true) (t := T) (B := D) 1 (by decide) (by decide) (has_yes (show (0 : Int) ≤ v by omega) (show ((-1) : Int) < 0 ∨ v ≤ (-1) by omega)) (FB_list0 (f := (fs_AlterReplicaLogDirsResponse[1]'(by decide))) (by decide) (by decide) (by decide) ok40)
  have hs40 := fold_size e_2 (by decide) hb
  have hc40 : (D ++ plainTo (zipped fs_AlterReplicaLogDirsResponse v true T) v 1).length + (counted true false (lT (T.at 1)).length 4).length ≤ LIM := by have h := hs40; simp only [List.length_append] at h ⊢; omega
  refine cl rfl rfl rfl (OutK.cast (k_AppendCompactArrayLen (n := (lT (T.at 1)).length) (by omega) r31 hc40) (show _ = D ++ plainTo (zipped fs_AlterReplicaLogDirsResponse v true T) v 1 ++ (counted true false (lT (T.at 1)).length 4) from rfl)) rfl (fun v_ H1 L1 hle hR => ?_)
  obtain ⟨rfl, a40, c40, N40, rfl, rfl, h40⟩ := hR
  have r40 := h40.1
  refine asg rfl rfl ?_
  refine nl ?_
  refine sr ?_
  refine mv rfl rfl ?_
  refine ls Tryz.runUnderlying209 rfl rfl ?_
  refine mv rfl rfl ?_
  refine nl ?_
  refine fr ((lT (T.at 1)).length) (fun k1 l' H' L' => ∃ (a_k1 : Option Addr), ∃ (m_k1 : Nat), ∃ (c_k1 : Nat), ∃ (N_k1 : Chunk), [(0, .pointer (some ⟨b, 0, none⟩)), (1, .slice a_k1 m_k1 c_k1), (6, .bool (decide ((2 : Int) ≤ v))), (8, .slice a1 (lT (T.at 1)).length c1), (46, .int .i64 ((lT (T.at 1)).length : Int))] = l' ∧ N_k1 :: L = L' ∧ Row 5 1 a_k1 m_k1 c_k1 (bytesOf (D ++ plainTo (zipped fs_AlterReplicaLogDirsResponse v true T) v 1 ++ (counted true false (lT (T.at 1)).length 4) ++ ((lT (T.at 1)).take k1).flatMap (GOf (fs_AlterReplicaLogDirsResponse[1]'(by decide)) v true))) N_k1 ∧ m_k1 = (D ++ plainTo (zipped fs_AlterReplicaLogDirsResponse v true T) v 1 ++ (counted true false (lT (T.at 1)).length 4) ++ ((lT (T.at 1)).take k1).flatMap (GOf (fs_AlterReplicaLogDirsResponse[1]'(by decide)) v true)).length) [(0, .pointer (some ⟨b, 0, none⟩)), (1, .slice _ _ _), (6, .bool (decide ((2 : Int) ≤ v))), (8, .slice a1 (lT (T.at 1)).length c1), (46, .int .i64 ((lT (T.at 1)).length : Int))] (fun k1 l' H' L' h => ?_) (by omega) rfl (.cons rfl (.cons rfl (.cons rfl (.cons rfl (.cons rfl (.nil _)))))) ⟨_, _, _, _, rfl, rfl, (by rw [List.take_zero, List.flatMap_nil, List.append_nil]; exact r40), (by rw [List.take_zero, List.flatMap_nil, List.append_nil])⟩ rfl rfl rfl rfl rfl (fun k1 l' H' L' hk1 le_3 hI => ?_) (fun l' H' L' le_4 hI => ?_)
  · obtain ⟨a_k1, m_k1, c_k1, N_k1, rfl, _⟩ := h; exact ⟨rfl, rfl, rfl, rfl⟩
  · skip
    obtain ⟨a_k1, m_k1, c_k1, N_k1, rfl, rfl, pk10, pk11⟩ := hI
    subst pk11
    refine sr ?_
    refine mv rfl rfl ?_
    refine asg rfl rfl ?_
    refine nl ?_
    refine sr ?_
    refine mv rfl rfl ?_
    refine mv rfl rfl ?_
    obtain ⟨b_5, o_6, e_7, g_8⟩ := (hf0.mono At_AlterReplicaLogDirsResponseTopic.mono le_3).rows.at_ (ne_nil_of_lt hk1)
    obtain ⟨cs_9, hA_10, hc_11⟩ := g_8 k1 hk1
    refine ix2 Tryz.runUnderlying209 Tryz.sizeOf216 rfl e_7 rfl rfl hk1 rfl ?_
    obtain ⟨a_k1_1, c_k1_1, m_k1_t, rfl, hf_k1_0, hf_k1_1⟩ := hA_10
    have oek1 := (ok40.el rfl _ (lT_mem (List.getElem_mem hk1))).2 rfl
    obtain ⟨B_k1, hdk1⟩ : ∃ z : List UInt8, z = D ++ plainTo (zipped fs_AlterReplicaLogDirsResponse v true T) v 1 ++ (counted true false (lT (T.at 1)).length 4) ++ ((lT (T.at 1)).take k1).flatMap (GOf (fs_AlterReplicaLogDirsResponse[1]'(by decide)) v true) := ⟨_, rfl⟩
    have rbk1 := pk10
    rw [← hdk1] at rbk1 ⊢
    have hBk1 : B_k1.length + (partB fs_sAlterReplicaLogDirsResponseTopic v true ((lT (T.at 1))[k1])).length ≤ LIM := by rw [hdk1]; exact el_size hs40 hk1 (GOf_part (by decide) _)
    refine asg rfl rfl ?_
    refine nl ?_
    refine sq ?_
    refine sr ?_
    refine mv rfl rfl ?_
    refine nc rfl rfl ?_
    refine fa F216_0 rfl rfl ?_
    refine ld (Says.fz hc_11) Tryz.isAgg9 rfl (Nat.add_zero _).symm rfl rfl ?_
    refine asg rfl rfl ?_
    refine nl ?_
    refine sr ?_
    refine mv rfl rfl ?_
    refine nl ?_
    refine cdT rfl (by omega) ?_
    refine rg ?_
    refine mv rfl rfl ?_
    refine mv rfl rfl ?_
    have ok60 := oek1.get 0 (by decide) (has_yes (show (0 : Int) ≤ v by omega) (show ((-1) : Int) < 0 ∨ v ≤ (-1) by omega))
    have nn60 := ok60.nn (by decide) (by decide) (by decide)
    have e_12 : B_k1 ++ (counted true false (((lT (T.at 1))[k1]).at 0).s.length 2 ++ (((lT (T.at 1))[k1]).at 0).s) = B_k1 ++ plainTo (zipped fs_sAlterReplicaLogDirsResponseTopic v true ((lT (T.at 1))[k1])) v 1 := fold_first (fs := fs_sAlterReplicaLogDirsResponseTopic) (v := v) (flex := true) (t := ((lT (T.at 1))[k1])) (B := B_k1) 0 rfl (by decide) (by decide) (has_yes (show (0 : Int) ≤ v by omega) (show ((-1) : Int) < 0 ∨ v ≤ (-1) by omega)) (by rw [FB_text (f := (fs_sAlterReplicaLogDirsResponseTopic[0]'(by decide))) (by decide) (by decide) ok60, sT_nn nn60, nn60])
    have hs60 := fold_size e_12 (by decide) hBk1
    refine cl rfl rfl rfl (OutK.cast (k_AppendCompactString (x := (((lT (T.at 1))[k1]).at 0).s) (by have := ok60.s (Or.inl rfl); omega) rbk1 hs60) e_12) rfl (fun v_ H1 L1 hle hR => ?_)
    obtain ⟨rfl, a60, c60, N60, rfl, rfl, h60⟩ := hR
    have r60 := h60.1
    refine asg rfl rfl ?_
    refine nl ?_
    refine sq ?_
    refine sr ?_
    refine mv rfl rfl ?_
    refine nc rfl rfl ?_
    refine fa F216_1 rfl rfl ?_
    refine ld (Says.fz hc_11) Tryz.isAgg214 rfl rfl rfl rfl ?_
    refine asg rfl rfl ?_
    refine nl ?_
    refine sq ?_
    refine sr ?_
    refine mv rfl rfl ?_
    refine nl ?_
    refine cdT rfl (by omega) ?_
    refine rg ?_
    refine mv rfl rfl ?_
    refine mv rfl rfl ?_
    refine ls Tryz.runUnderlying214 rfl rfl ?_
    have ok72 := oek1.get 1 (by decide) (has_yes (show (0 : Int) ≤ v by omega) (show ((-1) : Int) < 0 ∨ v ≤ (-1) by omega))
    have ll72 := lT_len (ok72.len rfl)
    have e_13 : B_k1 ++ plainTo (zipped fs_sAlterReplicaLogDirsResponseTopic v true ((lT (T.at 1))[k1])) v 1 ++ (counted true false (lT (((lT (T.at 1))[k1]).at 1)).length 4 ++ (lT (((lT (T.at 1))[k1]).at 1)).flatMap (GOf (fs_sAlterReplicaLogDirsResponseTopic[1]'(by decide)) v true)) = B_k1 ++ plainTo (zipped fs_sAlterReplicaLogDirsResponseTopic v true ((lT (T.at 1))[k1])) v 2 := fold_yes (fs := fs_sAlterReplicaLogDirsResponseTopic) (v := v) (flex := true) (t := ((lT (T.at 1))[k1])) (B := B_k1) 1 (by decide) (by decide) (has_yes (show (0 : Int) ≤ v by omega) (show ((-1) : Int) < 0 ∨ v ≤ (-1) by omega)) (FB_list0 (f := (fs_sAlterReplicaLogDirsResponseTopic[1]'(by decide))) (by decide) (by decide) (by decide) ok72)
    have hs72 := fold_size e_13 (by decide) hBk1
    have hc72 : (B_k1 ++ plainTo (zipped fs_sAlterReplicaLogDirsResponseTopic v true ((lT (T.at 1))[k1])) v 1).length + (counted true false (lT (((lT (T.at 1))[k1]).at 1)).length 4).length ≤ LIM := by have h := hs72; simp only [List.length_append] at h ⊢; omega
    refine cl rfl rfl rfl (OutK.cast (k_AppendCompactArrayLen (n := (lT (((lT (T.at 1))[k1]).at 1)).length) (by omega) r60 hc72) (show _ = B_k1 ++ plainTo (zipped fs_sAlterReplicaLogDirsResponseTopic v true ((lT (T.at 1))[k1])) v 1 ++ (counted true false (lT (((lT (T.at 1))[k1]).at 1)).length 4) from rfl)) rfl (fun v_ H1 L1 hle hR => ?_)
    obtain ⟨rfl, a72, c72, N72, rfl, rfl, h72⟩ := hR
    have r72 := h72.1
    refine asg rfl rfl ?_
    refine nl ?_
    refine sr ?_
    refine mv rfl rfl ?_
    refine ls Tryz.runUnderlying214 rfl rfl ?_
    refine mv rfl rfl ?_
    refine nl ?_
    refine fr ((lT (((lT (T.at 1))[k1]).at 1)).length) (fun k2 l' H' L' => ∃ (a_k2 : Option Addr), ∃ (m_k2 : Nat), ∃ (c_k2 : Nat), ∃ (N_k2 : Chunk), [(0, .pointer (some ⟨b, 0, none⟩)), (1, .slice a_k2 m_k2 c_k2), (6, .bool (decide ((2 : Int) ≤ v))), (8, .slice a1 (lT (T.at 1)).length c1), (10, .pointer (some ⟨b_5, o_6 + k1 * 3, none⟩)), (12, .slice a_k1_1 (lT (((lT (T.at 1))[k1]).at 1)).length c_k1_1), (46, .int .i64 ((lT (T.at 1)).length : Int)), (47, .int .i64 (k1 : Int)), (78, .int .i64 ((lT (((lT (T.at 1))[k1]).at 1)).length : Int))] = l' ∧ N_k2 :: L = L' ∧ Row 5 1 a_k2 m_k2 c_k2 (bytesOf (B_k1 ++ plainTo (zipped fs_sAlterReplicaLogDirsResponseTopic v true ((lT (T.at 1))[k1])) v 1 ++ (counted true false (lT (((lT (T.at 1))[k1]).at 1)).length 4) ++ ((lT (((lT (T.at 1))[k1]).at 1)).take k2).flatMap (GOf (fs_sAlterReplicaLogDirsResponseTopic[1]'(by decide)) v true))) N_k2 ∧ m_k2 = (B_k1 ++ plainTo (zipped fs_sAlterReplicaLogDirsResponseTopic v true ((lT (T.at 1))[k1])) v 1 ++ (counted true false (lT (((lT (T.at 1))[k1]).at 1)).length 4) ++ ((lT (((lT (T.at 1))[k1]).at 1)).take k2).flatMap (GOf (fs_sAlterReplicaLogDirsResponseTopic[1]'(by decide)) v true)).length) [(0, .pointer (some ⟨b, 0, none⟩)), (1, .slice _ _ _), (6, .bool (decide ((2 : Int) ≤ v))), (8, .slice a1 (lT (T.at 1)).length c1), (10, .pointer (some ⟨b_5, o_6 + k1 * 3, none⟩)), (12, .slice a_k1_1 (lT (((lT (T.at 1))[k1]).at 1)).length c_k1_1), (46, .int .i64 ((lT (T.at 1)).length : Int)), (47, .int .i64 (k1 : Int)), (78, .int .i64 ((lT (((lT (T.at 1))[k1]).at 1)).length : Int))] (fun k2 l' H' L' h => ?_) (by omega) rfl (.cons rfl (.cons rfl (.cons rfl (.cons rfl (.cons rfl (.cons rfl (.cons rfl (.cons rfl (.cons rfl (.nil _)))))))))) ⟨_, _, _, _, rfl, rfl, (by rw [List.take_zero, List.flatMap_nil, List.append_nil]; exact r72), (by rw [List.take_zero, List.flatMap_nil, List.append_nil])⟩ rfl rfl rfl rfl rfl (fun k2 l' H' L' hk2 le_14 hI => ?_) (fun l' H' L' le_15 hI => ?_)
    · obtain ⟨a_k2, m_k2, c_k2, N_k2, rfl, _⟩ := h; exact ⟨rfl, rfl, rfl, rfl⟩
    · skip
      obtain ⟨a_k2, m_k2, c_k2, N_k2, rfl, rfl, pk20, pk21⟩ := hI
      subst pk21
      refine sr ?_
      refine mv rfl rfl ?_
      refine asg rfl rfl ?_
      refine nl ?_
      refine sr ?_
      refine mv rfl rfl ?_
      refine mv rfl rfl ?_
      obtain ⟨b_16, o_17, e_18, g_19⟩ := (hf_k1_0.mono At_AlterReplicaLogDirsResponseTopicPartition.mono le_14).rows.at_ (ne_nil_of_lt hk2)
      obtain ⟨cs_20, hA_21, hc_22⟩ := g_19 k2 hk2
      refine ix2 Tryz.runUnderlying214 Tryz.sizeOf219 rfl e_18 rfl rfl hk2 rfl ?_
      obtain ⟨m_k2_t, rfl, hf_k2_0⟩ := hA_21
      have oek2 := (ok72.el rfl _ (lT_mem (List.getElem_mem hk2))).2 rfl
      obtain ⟨B_k2, hdk2⟩ : ∃ z : List UInt8, z = B_k1 ++ plainTo (zipped fs_sAlterReplicaLogDirsResponseTopic v true ((lT (T.at 1))[k1])) v 1 ++ (counted true false (lT (((lT (T.at 1))[k1]).at 1)).length 4) ++ ((lT (((lT (T.at 1))[k1]).at 1)).take k2).flatMap (GOf (fs_sAlterReplicaLogDirsResponseTopic[1]'(by decide)) v true) := ⟨_, rfl⟩
      have rbk2 := pk20
      rw [← hdk2] at rbk2 ⊢
      have hBk2 : B_k2.length + (partB fs_sAlterReplicaLogDirsResponseTopicPartition v true ((lT (((lT (T.at 1))[k1]).at 1))[k2])).length ≤ LIM := by rw [hdk2]; exact el_size hs72 hk2 (GOf_part (by decide) _)
      refine asg rfl rfl ?_
      refine nl ?_
      refine sq ?_
      refine sr ?_
      refine mv rfl rfl ?_
      refine nc rfl rfl ?_
      refine fa F219_0 rfl rfl ?_
      refine ld (Says.fz hc_22) Tryz.isAgg21 rfl (Nat.add_zero _).symm rfl rfl ?_
      refine asg rfl rfl ?_
      refine nl ?_
      refine rg ?_
      refine mv rfl rfl ?_
      refine mv rfl rfl ?_
      have ok91 := oek2.get 0 (by decide) (has_yes (show (0 : Int) ≤ v by omega) (show ((-1) : Int) < 0 ∨ v ≤ (-1) by omega))
      have e_23 : B_k2 ++ (fixed (IntKind.i32.wrap (((lT (((lT (T.at 1))[k1]).at 1))[k2]).at 0).n) 4) = B_k2 ++ plainTo (zipped fs_sAlterReplicaLogDirsResponseTopicPartition v true ((lT (((lT (T.at 1))[k1]).at 1))[k2])) v 1 := fold_first (fs := fs_sAlterReplicaLogDirsResponseTopicPartition) (v := v) (flex := true) (t := ((lT (((lT (T.at 1))[k1]).at 1))[k2])) (B := B_k2) 0 rfl (by decide) (by decide) (has_yes (show (0 : Int) ≤ v by omega) (show ((-1) : Int) < 0 ∨ v ≤ (-1) by omega)) ((FB_int (f := (fs_sAlterReplicaLogDirsResponseTopicPartition[0]'(by decide))) (by decide) (by decide)).trans (fixed_i32 _).symm)
      have hs91 := fold_size e_23 (by decide) hBk2
      refine cl rfl rfl rfl (OutK.cast (k_AppendInt32 (u := IntKind.i32.wrap (((lT (((lT (T.at 1))[k1]).at 1))[k2]).at 0).n) rbk2 hs91) e_23) rfl (fun v_ H1 L1 hle hR => ?_)
      obtain ⟨rfl, a91, c91, N91, rfl, rfl, h91⟩ := hR
      have r91 := h91.1
      refine asg rfl rfl ?_
      refine nl ?_
      refine sq ?_
      refine sr ?_
      refine mv rfl rfl ?_
      refine nc rfl rfl ?_
      refine fa F219_1 rfl rfl ?_
      refine ld (Says.fz hc_22) Tryz.isAgg51 rfl rfl rfl rfl ?_
      refine asg rfl rfl ?_
      refine nl ?_
      refine rg ?_
      refine mv rfl rfl ?_
      refine mv rfl rfl ?_
      have ok98 := oek2.get 1 (by decide) (has_yes (show (0 : Int) ≤ v by omega) (show ((-1) : Int) < 0 ∨ v ≤ (-1) by omega))
      have e_24 : B_k2 ++ plainTo (zipped fs_sAlterReplicaLogDirsResponseTopicPartition v true ((lT (((lT (T.at 1))[k1]).at 1))[k2])) v 1 ++ (fixed (IntKind.i16.wrap (((lT (((lT (T.at 1))[k1]).at 1))[k2]).at 1).n) 2) = B_k2 ++ plainTo (zipped fs_sAlterReplicaLogDirsResponseTopicPartition v true ((lT (((lT (T.at 1))[k1]).at 1))[k2])) v 2 := fold_yes (fs := fs_sAlterReplicaLogDirsResponseTopicPartition) (v := v) (flex := true) (t := ((lT (((lT (T.at 1))[k1]).at 1))[k2])) (B := B_k2) 1 (by decide) (by decide) (has_yes (show (0 : Int) ≤ v by omega) (show ((-1) : Int) < 0 ∨ v ≤ (-1) by omega)) ((FB_int (f := (fs_sAlterReplicaLogDirsResponseTopicPartition[1]'(by decide))) (by decide) (by decide)).trans (fixed_i16 _).symm)
      have hs98 := fold_size e_24 (by decide) hBk2
      refine cl rfl rfl rfl (OutK.cast (k_AppendInt16 (u := IntKind.i16.wrap (((lT (((lT (T.at 1))[k1]).at 1))[k2]).at 1).n) r91 hs98) e_24) rfl (fun v_ H1 L1 hle hR => ?_)
      obtain ⟨rfl, a98, c98, N98, rfl, rfl, h98⟩ := hR
      have r98 := h98.1
      refine asg rfl rfl ?_
      refine nl ?_
      refine sr ?_
      refine mv rfl rfl ?_
      refine nl ?_
      refine cdT rfl (by omega) ?_
      refine sr ?_
      refine mv rfl rfl ?_
      refine mv rfl rfl ?_
      refine nc rfl rfl ?_
      refine fa F219_2 rfl rfl ?_
      refine cl rfl rfl rfl (t_lenU (j := 2) hc_22 rfl hf_k2_0) rfl (fun v_ H1 L1 hle hR => ?_)
      obtain ⟨rfl, rfl, rfl⟩ := hR
      have hu104 := oek2.u
      have hul104 := hu104.2.1
      obtain ⟨hz104a, hz104b⟩ := part_size_plain (by decide) hu104 hBk2
      refine cv Tryz.runUnderlying3 Tryz.runUnderlying68 rfl (w32u (by omega) (by omega)) rfl ?_
      refine ad rfl rfl ((w32u (by omega) (by omega)).trans (Int.zero_add _)) rfl ?_
      refine cl rfl rfl rfl (k_AppendUvarint (n := ((lT (((lT (T.at 1))[k1]).at 1))[k2]).u.length) (by omega) r98 hz104a) rfl (fun v_ H1 L1 hle hR => ?_)
      obtain ⟨rfl, a107, c107, N107, rfl, rfl, h107⟩ := hR
      have r107 := h107.1
      refine asg rfl rfl ?_
      refine nl ?_
      refine rg ?_
      refine mv rfl rfl ?_
      refine nc rfl rfl ?_
      refine fa F219_2 rfl rfl ?_
      refine mv rfl rfl ?_
      refine cl rfl rfl rfl (t_append_each (j := 2) hc_22 rfl hf_k2_0 (by omega) r107 (fun p hp => by have := hu104.2.2 p hp; omega) hz104b) rfl (fun v_ H1 L1 le_25 hR => ?_)
      obtain ⟨a112, c112, N112, rfl, rfl, h112⟩ := hR
      have r112 := h112.1
      have eP_26 : B_k2 ++ plainTo (zipped fs_sAlterReplicaLogDirsResponseTopicPartition v true ((lT (((lT (T.at 1))[k1]).at 1))[k2])) v 2 ++ uvar ((lT (((lT (T.at 1))[k1]).at 1))[k2]).u.length ++ ((lT (((lT (T.at 1))[k1]).at 1))[k2]).u.flatMap tagU = B_k2 ++ partB fs_sAlterReplicaLogDirsResponseTopicPartition v true ((lT (((lT (T.at 1))[k1]).at 1))[k2]) := part_close (B := B_k2) (by decide) hu104
      rw [eP_26] at r112 ⊢
      refine asg rfl rfl ?_
      refine nN ?_
      refine Nb ?_
      have ee_27 : B_k2 ++ partB fs_sAlterReplicaLogDirsResponseTopicPartition v true ((lT (((lT (T.at 1))[k1]).at 1))[k2]) = B_k1 ++ plainTo (zipped fs_sAlterReplicaLogDirsResponseTopic v true ((lT (T.at 1))[k1])) v 1 ++ (counted true false (lT (((lT (T.at 1))[k1]).at 1)).length 4) ++ ((lT (((lT (T.at 1))[k1]).at 1)).take (k2 + 1)).flatMap (GOf (fs_sAlterReplicaLogDirsResponseTopic[1]'(by decide)) v true) := by rw [hdk2]; exact el_end (B0 := B_k1 ++ plainTo (zipped fs_sAlterReplicaLogDirsResponseTopic v true ((lT (T.at 1))[k1])) v 1 ++ (counted true false (lT (((lT (T.at 1))[k1]).at 1)).length 4)) (G := (GOf (fs_sAlterReplicaLogDirsResponseTopic[1]'(by decide)) v true)) hk2 (GOf_part (by decide) _)
      refine fun a_ w_ hA hw => ⟨_, _, _, hA.sub ?_, (le_14.trans le_25), hw, _, rfl, _, _, _, _, rfl, rfl, (by rw [← ee_27]; exact r112), (by rw [← ee_27])⟩
      exact (.cons rfl (.cons rfl (.cons rfl (.cons rfl (.cons rfl (.cons rfl (.cons rfl (.cons rfl (.cons rfl (.cons rfl (.nil _)))))))))))
    · skip
      obtain ⟨a_k2, m_k2, c_k2, N_k2, rfl, rfl, pk20, pk21⟩ := hI
      refine toWp ?_
      have eL72 : B_k1 ++ plainTo (zipped fs_sAlterReplicaLogDirsResponseTopic v true ((lT (T.at 1))[k1])) v 1 ++ (counted true false (lT (((lT (T.at 1))[k1]).at 1)).length 4) ++ ((lT (((lT (T.at 1))[k1]).at 1)).take (lT (((lT (T.at 1))[k1]).at 1)).length).flatMap (GOf (fs_sAlterReplicaLogDirsResponseTopic[1]'(by decide)) v true) = B_k1 ++ plainTo (zipped fs_sAlterReplicaLogDirsResponseTopic v true ((lT (T.at 1))[k1])) v 2 := by rw [List.take_length, List.append_assoc]; exact e_13
      rw [eL72] at pk20 pk21
      subst pk21
      refine sr ?_
      refine mv rfl rfl ?_
      refine nl ?_
      refine cdT rfl (by omega) ?_
      refine sr ?_
      refine mv rfl rfl ?_
      refine mv rfl rfl ?_
      refine nc rfl rfl ?_
      refine fa F216_2 rfl rfl ?_
      refine cl rfl rfl rfl (t_lenU (j := 2) (hc_11.mono le_15) rfl (hf_k1_1.mono le_15)) rfl (fun v_ H1 L1 hle hR => ?_)
      obtain ⟨rfl, rfl, rfl⟩ := hR
      have hu119 := oek1.u
      have hul119 := hu119.2.1
      obtain ⟨hz119a, hz119b⟩ := part_size_plain (by decide) hu119 hBk1
      refine cv Tryz.runUnderlying3 Tryz.runUnderlying68 rfl (w32u (by omega) (by omega)) rfl ?_
      refine ad rfl rfl ((w32u (by omega) (by omega)).trans (Int.zero_add _)) rfl ?_
      refine cl rfl rfl rfl (k_AppendUvarint (n := ((lT (T.at 1))[k1]).u.length) (by omega) pk20 hz119a) rfl (fun v_ H1 L1 hle hR => ?_)
      obtain ⟨rfl, a122, c122, N122, rfl, rfl, h122⟩ := hR
      have r122 := h122.1
      refine asg rfl rfl ?_
      refine nl ?_
      refine rg ?_
      refine mv rfl rfl ?_
      refine nc rfl rfl ?_
      refine fa F216_2 rfl rfl ?_
      refine mv rfl rfl ?_
      refine cl rfl rfl rfl (t_append_each (j := 2) (hc_11.mono le_15) rfl (hf_k1_1.mono le_15) (by omega) r122 (fun p hp => by have := hu119.2.2 p hp; omega) hz119b) rfl (fun v_ H1 L1 le_28 hR => ?_)
      obtain ⟨a127, c127, N127, rfl, rfl, h127⟩ := hR
      have r127 := h127.1
      have eP_29 : B_k1 ++ plainTo (zipped fs_sAlterReplicaLogDirsResponseTopic v true ((lT (T.at 1))[k1])) v 2 ++ uvar ((lT (T.at 1))[k1]).u.length ++ ((lT (T.at 1))[k1]).u.flatMap tagU = B_k1 ++ partB fs_sAlterReplicaLogDirsResponseTopic v true ((lT (T.at 1))[k1]) := part_close (B := B_k1) (by decide) hu119
      rw [eP_29] at r127 ⊢
      refine asg rfl rfl ?_
      refine nN ?_
      refine Nb ?_
      have ee_30 : B_k1 ++ partB fs_sAlterReplicaLogDirsResponseTopic v true ((lT (T.at 1))[k1]) = D ++ plainTo (zipped fs_AlterReplicaLogDirsResponse v true T) v 1 ++ (counted true false (lT (T.at 1)).length 4) ++ ((lT (T.at 1)).take (k1 + 1)).flatMap (GOf (fs_AlterReplicaLogDirsResponse[1]'(by decide)) v true) := by rw [hdk1]; exact el_end (B0 := D ++ plainTo (zipped fs_AlterReplicaLogDirsResponse v true T) v 1 ++ (counted true false (lT (T.at 1)).length 4)) (G := (GOf (fs_AlterReplicaLogDirsResponse[1]'(by decide)) v true)) hk1 (GOf_part (by decide) _)
      refine fun a_ w_ hA hw => ⟨_, _, _, hA.sub ?_, (le_3.trans (le_15.trans le_28)), hw, _, rfl, _, _, _, _, rfl, rfl, (by rw [← ee_30]; exact r127), (by rw [← ee_30])⟩
      exact (.cons rfl (.cons rfl (.cons rfl (.cons rfl (.cons rfl (.cons rfl (.nil _)))))))
  · skip
    obtain ⟨a_k1, m_k1, c_k1, N_k1, rfl, rfl, pk10, pk11⟩ := hI
    refine toWp ?_
    have eL40 : D ++ plainTo (zipped fs_AlterReplicaLogDirsResponse v true T) v 1 ++ (counted true false (lT (T.at 1)).length 4) ++ ((lT (T.at 1)).take (lT (T.at 1)).length).flatMap (GOf (fs_AlterReplicaLogDirsResponse[1]'(by decide)) v true) = D ++ plainTo (zipped fs_AlterReplicaLogDirsResponse v true T) v 2 := by rw [List.take_length, List.append_assoc]; exact e_2
    rw [eL40] at pk10 pk11
    subst pk11
    refine sq ?_
    refine sr ?_
    refine mv rfl rfl ?_
    refine nl ?_
    refine cdT rfl (by omega) ?_
    refine sr ?_
    refine mv rfl rfl ?_
    refine mv rfl rfl ?_
    refine nc rfl rfl ?_
    refine fa0 F211_3 rfl rfl ?_
    refine cl rfl rfl rfl (t_lenU (j := 3) (hv.mono le_4) rfl (hf1.mono le_4)) rfl (fun v_ H1 L1 hle hR => ?_)
    obtain ⟨rfl, rfl, rfl⟩ := hR
    have hu134 := hok.u
    have hul134 := hu134.2.1
    obtain ⟨hz134a, hz134b⟩ := part_size_plain (by decide) hu134 hb
    refine cv Tryz.runUnderlying3 Tryz.runUnderlying68 rfl (w32u (by omega) (by omega)) rfl ?_
    refine ad rfl rfl ((w32u (by omega) (by omega)).trans (Int.zero_add _)) rfl ?_
    refine cl rfl rfl rfl (k_AppendUvarint (n := T.u.length) (by omega) pk10 hz134a) rfl (fun v_ H1 L1 hle hR => ?_)
    obtain ⟨rfl, a137, c137, N137, rfl, rfl, h137⟩ := hR
    have r137 := h137.1
    refine asg rfl rfl ?_
    refine nl ?_
    refine rg ?_
    refine mv rfl rfl ?_
    refine nc rfl rfl ?_
    refine fa0 F211_3 rfl rfl ?_
    refine mv rfl rfl ?_
    refine cl rfl rfl rfl (t_append_each (j := 3) (hv.mono le_4) rfl (hf1.mono le_4) (by omega) r137 (fun p hp => by have := hu134.2.2 p hp; omega) hz134b) rfl (fun v_ H1 L1 le_31 hR => ?_)
    obtain ⟨a142, c142, N142, rfl, rfl, h142⟩ := hR
    have r142 := h142.1
    have eP_32 : D ++ plainTo (zipped fs_AlterReplicaLogDirsResponse v true T) v 2 ++ uvar T.u.length ++ T.u.flatMap tagU = D ++ partB fs_AlterReplicaLogDirsResponse v true T := part_close (B := D) (by decide) hu134
    rw [eP_32] at r142 ⊢
    refine asg rfl rfl ?_
    refine nl ?_
    refine sr ?_
    refine mv rfl rfl ?_
    refine asg rfl rfl ?_
    refine nl ?_
    exact rT rfl rfl (le_4.trans le_31) (fun _ _ h => h) (OutB.of r142 rfl)
end Go.Sx

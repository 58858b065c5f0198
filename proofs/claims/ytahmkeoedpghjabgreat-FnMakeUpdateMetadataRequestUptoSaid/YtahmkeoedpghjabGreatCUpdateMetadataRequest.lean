import Derived.Test.YtahmkeoedpghjabGreatBUpdateMetadataRequest
import Derived.KernelRfl
set_option linter.unusedVariables false
set_option linter.unusedSimpArgs false
set_option maxRecDepth 100000
set_option maxHeartbeats 20000000
namespace Go.Sx
open Go.Proofs
theorem app_UpdateMetadataRequest_f {H : Fz} {L : Own} {a : Option Addr} {cap b : Nat} {D : List UInt8} {N : Chunk} {cs : List Value} {T : Tr} {v : Int} (hr : Row 5 1 a D.length cap (bytesOf D) N) (hv : H.at b 0 cs) (hA : At_UpdateMetadataRequest v H T cs) (hok : OkP fs_UpdateMetadataRequest v T) (h0 : 0 ≤ v) (h1 : v ≤ 5) (hb : D.length + (partB fs_UpdateMetadataRequest v false T).length ≤ LIM) :
    Fn Tryz.prog 51 [.pointer (some ⟨b, 0, none⟩), .slice a D.length cap] H (N :: L) (fun r H' L' => OutB 5 L (D ++ partB fs_UpdateMetadataRequest v false T) r L') := by
  obtain ⟨a4, c4, a5, c5, a6, c6, mt, rfl, hf0, hf1, hf2, hf3⟩ := hA
  refine Fn.mk Tryz.call51 Tryz.func51 rfl Tryz.ntmps51 rfl ?_
  refine sr ?_
  refine asg rfl rfl ?_
  refine nl ?_
  refine sr ?_
  refine mv rfl rfl ?_
  refine nc rfl rfl ?_
  refine fa0 F85_0 rfl rfl ?_
  refine ld (Says.fz hv) Tryz.isAgg45 rfl (Nat.zero_add _).symm rfl rfl ?_
  refine asg rfl rfl ?_
  refine nl ?_
  refine sr ?_
  refine mv rfl rfl ?_
  refine nl ?_
  refine sr ?_
  refine mv rfl rfl ?_
  refine ge rfl rfl rfl ?_
  refine asg rfl rfl ?_
  refine nl ?_
  refine sr ?_
  refine mv rfl rfl ?_
  refine nl ?_
  refine sq ?_
  refine sr ?_
  refine mv rfl rfl ?_
  refine nc rfl rfl ?_
  refine fa0 F85_1 rfl rfl ?_
  refine ld (Says.fz hv) Tryz.isAgg21 rfl (Nat.zero_add _).symm rfl rfl ?_
  refine asg rfl rfl ?_
  refine nl ?_
  refine rg ?_
  refine mv rfl rfl ?_
  refine mv rfl rfl ?_
  have ok80 := hok.get 0 (by decide) (has_yes (show (0 : Int) ≤ v by omega) (show ((-1) : Int) < 0 ∨ v ≤ (-1) by omega))
  have e_1 : D ++ (fixed (IntKind.i32.wrap (T.at 0).n) 4) = D ++ plainTo (zipped fs_UpdateMetadataRequest v false T) v 1 := fold_first (fs := fs_UpdateMetadataRequest) (v := v) (flex := false) (t := T) (B := D) 0 rfl (by decide) (by decide) (has_yes (show (0 : Int) ≤ v by omega) (show ((-1) : Int) < 0 ∨ v ≤ (-1) by omega)) ((FB_int (f := (fs_UpdateMetadataRequest[0]'(by decide))) (by decide) (by decide)).trans (fixed_i32 _).symm)
  have hs80 := fold_size e_1 (by decide) hb
  refine cl rfl rfl rfl (OutK.cast (k_AppendInt32 (u := IntKind.i32.wrap (T.at 0).n) hr hs80) e_1) rfl (fun v_ H1 L1 hle hR => ?_)
  obtain ⟨rfl, a80, c80, N80, rfl, rfl, h80⟩ := hR
  have r80 := h80.1
  refine asg rfl rfl ?_
  refine nl ?_
  refine sq ?_
  refine sr ?_
  refine mv rfl rfl ?_
  refine ge rfl rfl rfl ?_
  refine nl ?_
  refine cdF rfl (by omega) ?_
  refine skt ?_
  refine sq ?_
  refine sr ?_
  refine mv rfl rfl ?_
  refine nc rfl rfl ?_
  refine fa0 F85_3 rfl rfl ?_
  refine ld (Says.fz hv) Tryz.isAgg21 rfl (Nat.zero_add _).symm rfl rfl ?_
  refine asg rfl rfl ?_
  refine nl ?_
  refine rg ?_
  refine mv rfl rfl ?_
  refine mv rfl rfl ?_
  have es_2 : plainTo (zipped fs_UpdateMetadataRequest v false T) v 2 = plainTo (zipped fs_UpdateMetadataRequest v false T) v 1 := (piece_no2 (fs := fs_UpdateMetadataRequest) (v := v) (flex := false) (t := T) (k := 1) (by decide) (has_no (show v < (8 : Int) ∨ ((0 : Int) ≤ (-1) ∧ (-1) < v) by omega)))
  have eX_3 : D ++ plainTo (zipped fs_UpdateMetadataRequest v false T) v 1 = D ++ plainTo (zipped fs_UpdateMetadataRequest v false T) v 2 := by rw [es_2]
  have rx_4 := r80
  rw [eX_3] at rx_4 ⊢
  have ok96 := hok.get 2 (by decide) (has_yes (show (0 : Int) ≤ v by omega) (show ((-1) : Int) < 0 ∨ v ≤ (-1) by omega))
  have e_5 : D ++ plainTo (zipped fs_UpdateMetadataRequest v false T) v 2 ++ (fixed (IntKind.i32.wrap (T.at 2).n) 4) = D ++ plainTo (zipped fs_UpdateMetadataRequest v false T) v 3 := fold_yes (fs := fs_UpdateMetadataRequest) (v := v) (flex := false) (t := T) (B := D) 2 (by decide) (by decide) (has_yes (show (0 : Int) ≤ v by omega) (show ((-1) : Int) < 0 ∨ v ≤ (-1) by omega)) ((FB_int (f := (fs_UpdateMetadataRequest[2]'(by decide))) (by decide) (by decide)).trans (fixed_i32 _).symm)
  have hs96 := fold_size e_5 (by decide) hb
  refine cl rfl rfl rfl (OutK.cast (k_AppendInt32 (u := IntKind.i32.wrap (T.at 2).n) rx_4 hs96) e_5) rfl (fun v_ H1 L1 hle hR => ?_)
  obtain ⟨rfl, a96, c96, N96, rfl, rfl, h96⟩ := hR
  have r96 := h96.1
  refine asg rfl rfl ?_
  refine nl ?_
  refine sq ?_
  refine sr ?_
  refine mv rfl rfl ?_
  refine ge rfl rfl rfl ?_
  refine nl ?_
  refine cutT (fun l' H' L' => ∃ (aj_6 : Option Addr), ∃ (mj_6 : Nat), ∃ (cj_6 : Nat), ∃ (Nj_6 : Chunk), [(0, .pointer (some ⟨b, 0, none⟩)), (1, .slice aj_6 mj_6 cj_6), (5, .int .i16 v), (6, .bool (decide ((6 : Int) ≤ v)))] = l' ∧ Nj_6 :: L = L' ∧ Row 5 1 aj_6 mj_6 cj_6 (bytesOf (D ++ plainTo (zipped fs_UpdateMetadataRequest v false T) v 4)) Nj_6 ∧ mj_6 = (D ++ plainTo (zipped fs_UpdateMetadataRequest v false T) v 4).length) ?_ (fun l' H' L' le_7 hI => ?_)
  · skip
    refine cd rfl (fun h98 => ?_) (fun h98 => ?_)
    · skip
      refine sr ?_
      refine mv rfl rfl ?_
      refine nc rfl rfl ?_
      refine fa0 F85_4 rfl rfl ?_
      refine ld (Says.fz hv) Tryz.isAgg2 rfl (Nat.zero_add _).symm rfl rfl ?_
      refine asg rfl rfl ?_
      refine nl ?_
      refine rg ?_
      refine mv rfl rfl ?_
      refine mv rfl rfl ?_
      have ok105 := hok.get 3 (by decide) (has_yes (show (5 : Int) ≤ v by omega) (show ((-1) : Int) < 0 ∨ v ≤ (-1) by omega))
      have e_8 : D ++ plainTo (zipped fs_UpdateMetadataRequest v false T) v 3 ++ (fixed ((T.at 3).n) 8) = D ++ plainTo (zipped fs_UpdateMetadataRequest v false T) v 4 := fold_yes (fs := fs_UpdateMetadataRequest) (v := v) (flex := false) (t := T) (B := D) 3 (by decide) (by decide) (has_yes (show (5 : Int) ≤ v by omega) (show ((-1) : Int) < 0 ∨ v ≤ (-1) by omega)) ((FB_int (f := (fs_UpdateMetadataRequest[3]'(by decide))) (by decide) (by decide)).trans rfl)
      have hs105 := fold_size e_8 (by decide) hb
      refine cl rfl rfl rfl (OutK.cast (k_AppendInt64 (u := (T.at 3).n) r96 hs105) e_8) rfl (fun v_ H1 L1 hle hR => ?_)
      obtain ⟨rfl, a105, c105, N105, rfl, rfl, h105⟩ := hR
      have r105 := h105.1
      refine asg rfl rfl ?_
      refine nN ?_
      refine fun a_ w_ hA hw => ⟨_, _, _, hA.sub ?_, (Fz.le.refl _), hw, _, _, _, _, rfl, rfl, r105, rfl⟩
      exact (.cons rfl (.cons rfl (.cons rfl (.cons rfl (.nil _)))))
    · skip
      refine skN ?_
      have es_9 : plainTo (zipped fs_UpdateMetadataRequest v false T) v 4 = plainTo (zipped fs_UpdateMetadataRequest v false T) v 3 := (piece_no2 (fs := fs_UpdateMetadataRequest) (v := v) (flex := false) (t := T) (k := 3) (by decide) (has_no (show v < (5 : Int) ∨ ((0 : Int) ≤ (-1) ∧ (-1) < v) by omega)))
      have eX_10 : D ++ plainTo (zipped fs_UpdateMetadataRequest v false T) v 3 = D ++ plainTo (zipped fs_UpdateMetadataRequest v false T) v 4 := by rw [es_9]
      refine fun a_ w_ hA hw => ⟨_, _, _, hA.sub ?_, (Fz.le.refl _), hw, _, _, _, _, rfl, rfl, (by rw [← eX_10]; exact r96), (by rw [← eX_10])⟩
      exact (.cons rfl (.cons rfl (.cons rfl (.cons rfl (.nil _)))))
  · skip
    obtain ⟨aj_6, mj_6, cj_6, Nj_6, rfl, rfl, pj0, pj1⟩ := hI
    subst pj1
    have rj_6 := pj0
    refine sq ?_
    refine sr ?_
    refine mv rfl rfl ?_
    refine ge rfl rfl rfl ?_
    refine mv rfl rfl ?_
    refine spl (t := 108) rfl (fun _ => ?_) (fun hn_ => absurd (by omega) hn_)
    refine gr rfl rfl ?_
    refine mv rfl rfl ?_
    refine gr rfl rfl ?_
    refine le rfl rfl rfl ?_
    refine pk rfl rfl rfl rfl ?_
    refine nl ?_
    refine cutT (fun l' H' L' => ∃ (aj_11 : Option Addr), ∃ (mj_11 : Nat), ∃ (cj_11 : Nat), ∃ (Nj_11 : Chunk), [(0, .pointer (some ⟨b, 0, none⟩)), (1, .slice aj_11 mj_11 cj_11), (5, .int .i16 v), (6, .bool (decide ((6 : Int) ≤ v)))] = l' ∧ Nj_11 :: L = L' ∧ Row 5 1 aj_11 mj_11 cj_11 (bytesOf (D ++ plainTo (zipped fs_UpdateMetadataRequest v false T) v 5)) Nj_11 ∧ mj_11 = (D ++ plainTo (zipped fs_UpdateMetadataRequest v false T) v 5).length) ?_ (fun l' H' L' le_12 hI => ?_)
    · skip
      refine cd rfl (fun h111 => ?_) (fun h111 => ?_)
      · skip
        refine sr ?_
        refine mv rfl rfl ?_
        refine nc rfl rfl ?_
        refine fa0 F85_5 rfl rfl ?_
        refine ld (Says.fz (hv.mono le_7)) Tryz.isAgg81 rfl (Nat.zero_add _).symm rfl rfl ?_
        refine asg rfl rfl ?_
        refine nl ?_
        refine sq ?_
        refine sr ?_
        refine mv rfl rfl ?_
        refine nl ?_
        refine cdF rfl (by omega) ?_
        refine rg ?_
        refine mv rfl rfl ?_
        refine mv rfl rfl ?_
        refine ls Tryz.runUnderlying81 rfl rfl ?_
        have ok124 := hok.get 4 (by decide) (has_yes (show (0 : Int) ≤ v by omega) (show (4 : Int) < 0 ∨ v ≤ 4 by omega))
        have nn124 := ok124.nn (by decide) (by decide)
        have ll124 := lT_len (ok124.len rfl)
        have e_13 : D ++ plainTo (zipped fs_UpdateMetadataRequest v false T) v 4 ++ (counted false false (lT (T.at 4)).length 4 ++ (lT (T.at 4)).flatMap (GOf (fs_UpdateMetadataRequest[4]'(by decide)) v false)) = D ++ plainTo (zipped fs_UpdateMetadataRequest v false T) v 5 := fold_yes (fs := fs_UpdateMetadataRequest) (v := v) (flex := false) (t := T) (B := D) 4 (by decide) (by decide) (has_yes (show (0 : Int) ≤ v by omega) (show (4 : Int) < 0 ∨ v ≤ 4 by omega)) (by rw [FB_list (f := (fs_UpdateMetadataRequest[4]'(by decide))) (by decide) (by decide) ok124, nn124])
        have hs124 := fold_size e_13 (by decide) hb
        have hc124 : (D ++ plainTo (zipped fs_UpdateMetadataRequest v false T) v 4).length + (counted false false (lT (T.at 4)).length 4).length ≤ LIM := by have h := hs124; simp only [List.length_append] at h ⊢; omega
        refine cl rfl rfl rfl (OutK.cast (k_AppendArrayLen (u := ((lT (T.at 4)).length : Int)) rj_6 hc124) (show _ = D ++ plainTo (zipped fs_UpdateMetadataRequest v false T) v 4 ++ (counted false false (lT (T.at 4)).length 4) from rfl)) rfl (fun v_ H1 L1 hle hR => ?_)
        obtain ⟨rfl, a124, c124, N124, rfl, rfl, h124⟩ := hR
        have r124 := h124.1
        refine asg rfl rfl ?_
        refine nl ?_
        refine sr ?_
        refine mv rfl rfl ?_
        refine ls Tryz.runUnderlying81 rfl rfl ?_
        refine mv rfl rfl ?_
        refine nl ?_
        refine fr ((lT (T.at 4)).length) (fun k1 l' H' L' => ∃ (a_k1 : Option Addr), ∃ (m_k1 : Nat), ∃ (c_k1 : Nat), ∃ (N_k1 : Chunk), [(0, .pointer (some ⟨b, 0, none⟩)), (1, .slice a_k1 m_k1 c_k1), (5, .int .i16 v), (6, .bool (decide ((6 : Int) ≤ v))), (11, .slice a4 (lT (T.at 4)).length c4), (126, .int .i64 ((lT (T.at 4)).length : Int))] = l' ∧ N_k1 :: L = L' ∧ Row 5 1 a_k1 m_k1 c_k1 (bytesOf (D ++ plainTo (zipped fs_UpdateMetadataRequest v false T) v 4 ++ (counted false false (lT (T.at 4)).length 4) ++ ((lT (T.at 4)).take k1).flatMap (GOf (fs_UpdateMetadataRequest[4]'(by decide)) v false))) N_k1 ∧ m_k1 = (D ++ plainTo (zipped fs_UpdateMetadataRequest v false T) v 4 ++ (counted false false (lT (T.at 4)).length 4) ++ ((lT (T.at 4)).take k1).flatMap (GOf (fs_UpdateMetadataRequest[4]'(by decide)) v false)).length) [(0, .pointer (some ⟨b, 0, none⟩)), (1, .slice _ _ _), (5, .int .i16 v), (6, .bool (decide ((6 : Int) ≤ v))), (11, .slice a4 (lT (T.at 4)).length c4), (126, .int .i64 ((lT (T.at 4)).length : Int))] (fun k1 l' H' L' h => ?_) (by omega) rfl (.cons rfl (.cons rfl (.cons rfl (.cons rfl (.cons rfl (.cons rfl (.nil _))))))) ⟨_, _, _, _, rfl, rfl, (by rw [List.take_zero, List.flatMap_nil, List.append_nil]; exact r124), (by rw [List.take_zero, List.flatMap_nil, List.append_nil])⟩ rfl rfl rfl rfl rfl (fun k1 l' H' L' hk1 le_14 hI => ?_) (fun l' H' L' le_15 hI => ?_)
        · obtain ⟨a_k1, m_k1, c_k1, N_k1, rfl, _⟩ := h; exact ⟨rfl, rfl, rfl, rfl⟩
        · skip
          obtain ⟨a_k1, m_k1, c_k1, N_k1, rfl, rfl, pk10, pk11⟩ := hI
          subst pk11
          refine sr ?_
          refine mv rfl rfl ?_
          refine asg rfl rfl ?_
          refine nl ?_
          refine sr ?_
          refine mv rfl rfl ?_
          refine mv rfl rfl ?_
          obtain ⟨b_16, o_17, e_18, g_19⟩ := (hf0.mono At_UpdateMetadataRequestTopicPartition.mono (le_7.trans le_14)).rows.at_ (ne_nil_of_lt hk1)
          obtain ⟨cs_20, hA_21, hc_22⟩ := g_19 k1 hk1
          refine ix2 Tryz.runUnderlying81 Tryz.sizeOf151 rfl e_18 rfl rfl hk1 rfl ?_
          obtain ⟨a_k1_5, c_k1_5, a_k1_7, c_k1_7, a_k1_8, c_k1_8, m_k1_t, rfl, hf_k1_0, hf_k1_1, hf_k1_2, hf_k1_3⟩ := hA_21
          have oek1 := (ok124.el rfl _ (lT_mem (List.getElem_mem hk1))).2 rfl
          obtain ⟨B_k1, hdk1⟩ : ∃ z : List UInt8, z = D ++ plainTo (zipped fs_UpdateMetadataRequest v false T) v 4 ++ (counted false false (lT (T.at 4)).length 4) ++ ((lT (T.at 4)).take k1).flatMap (GOf (fs_UpdateMetadataRequest[4]'(by decide)) v false) := ⟨_, rfl⟩
          have rbk1 := pk10
          rw [← hdk1] at rbk1 ⊢
          have hBk1 : B_k1.length + (partB fs_sUpdateMetadataRequestTopicPartition v false ((lT (T.at 4))[k1])).length ≤ LIM := by rw [hdk1]; exact el_size hs124 hk1 (GOf_part (by decide) _)
          refine asg rfl rfl ?_
          refine nl ?_
          refine sq ?_
          refine sr ?_
          refine mv rfl rfl ?_
          refine ge rfl rfl rfl ?_
          refine mv rfl rfl ?_
          refine spl (t := 135) rfl (fun _ => ?_) (fun hn_ => absurd (by omega) hn_)
          refine gr rfl rfl ?_
          refine mv rfl rfl ?_
          refine gr rfl rfl ?_
          refine le rfl rfl rfl ?_
          refine pk rfl rfl rfl rfl ?_
          refine nl ?_
          refine cdT rfl (by omega) ?_
          refine sr ?_
          refine mv rfl rfl ?_
          refine nc rfl rfl ?_
          refine fa F151_0 rfl rfl ?_
          refine ld (Says.fz hc_22) Tryz.isAgg9 rfl (Nat.add_zero _).symm rfl rfl ?_
          refine asg rfl rfl ?_
          refine nl ?_
          refine sr ?_
          refine mv rfl rfl ?_
          refine nl ?_
          refine cdF rfl (by omega) ?_
          refine rg ?_
          refine mv rfl rfl ?_
          refine mv rfl rfl ?_
          have ok149 := oek1.get 0 (by decide) (has_yes (show (0 : Int) ≤ v by omega) (show (4 : Int) < 0 ∨ v ≤ 4 by omega))
          have nn149 := ok149.nn (by decide) (by decide)
          have e_23 : B_k1 ++ (counted false false (((lT (T.at 4))[k1]).at 0).s.length 2 ++ (((lT (T.at 4))[k1]).at 0).s) = B_k1 ++ plainTo (zipped fs_sUpdateMetadataRequestTopicPartition v false ((lT (T.at 4))[k1])) v 1 := fold_first (fs := fs_sUpdateMetadataRequestTopicPartition) (v := v) (flex := false) (t := ((lT (T.at 4))[k1])) (B := B_k1) 0 rfl (by decide) (by decide) (has_yes (show (0 : Int) ≤ v by omega) (show (4 : Int) < 0 ∨ v ≤ 4 by omega)) (by rw [FB_text (f := (fs_sUpdateMetadataRequestTopicPartition[0]'(by decide))) (by decide) (by decide) ok149, sT_nn nn149, nn149])
          have hs149 := fold_size e_23 (by decide) hBk1
          refine cl rfl rfl rfl (OutK.cast (k_AppendString (x := (((lT (T.at 4))[k1]).at 0).s) rbk1 hs149) e_23) rfl (fun v_ H1 L1 hle hR => ?_)
          obtain ⟨rfl, a149, c149, N149, rfl, rfl, h149⟩ := hR
          have r149 := h149.1
          refine asg rfl rfl ?_
          refine nl ?_
          refine sq ?_
          refine sr ?_
          refine mv rfl rfl ?_
          refine nc rfl rfl ?_
          refine fa F151_1 rfl rfl ?_
          refine ld (Says.fz hc_22) Tryz.isAgg21 rfl rfl rfl rfl ?_
          refine asg rfl rfl ?_
          refine nl ?_
          refine rg ?_
          refine mv rfl rfl ?_
          refine mv rfl rfl ?_
          have ok156 := oek1.get 1 (by decide) (has_yes (show (0 : Int) ≤ v by omega) (show ((-1) : Int) < 0 ∨ v ≤ (-1) by omega))
          have e_24 : B_k1 ++ plainTo (zipped fs_sUpdateMetadataRequestTopicPartition v false ((lT (T.at 4))[k1])) v 1 ++ (fixed (IntKind.i32.wrap (((lT (T.at 4))[k1]).at 1).n) 4) = B_k1 ++ plainTo (zipped fs_sUpdateMetadataRequestTopicPartition v false ((lT (T.at 4))[k1])) v 2 := fold_yes (fs := fs_sUpdateMetadataRequestTopicPartition) (v := v) (flex := false) (t := ((lT (T.at 4))[k1])) (B := B_k1) 1 (by decide) (by decide) (has_yes (show (0 : Int) ≤ v by omega) (show ((-1) : Int) < 0 ∨ v ≤ (-1) by omega)) ((FB_int (f := (fs_sUpdateMetadataRequestTopicPartition[1]'(by decide))) (by decide) (by decide)).trans (fixed_i32 _).symm)
          have hs156 := fold_size e_24 (by decide) hBk1
          refine cl rfl rfl rfl (OutK.cast (k_AppendInt32 (u := IntKind.i32.wrap (((lT (T.at 4))[k1]).at 1).n) r149 hs156) e_24) rfl (fun v_ H1 L1 hle hR => ?_)
          obtain ⟨rfl, a156, c156, N156, rfl, rfl, h156⟩ := hR
          have r156 := h156.1
          refine asg rfl rfl ?_
          refine nl ?_
          refine sq ?_
          refine sr ?_
          refine mv rfl rfl ?_
          refine nc rfl rfl ?_
          refine fa F151_2 rfl rfl ?_
          refine ld (Says.fz hc_22) Tryz.isAgg21 rfl rfl rfl rfl ?_
          refine asg rfl rfl ?_
          refine nl ?_
          refine rg ?_
          refine mv rfl rfl ?_
          refine mv rfl rfl ?_
          have ok163 := oek1.get 2 (by decide) (has_yes (show (0 : Int) ≤ v by omega) (show ((-1) : Int) < 0 ∨ v ≤ (-1) by omega))
          have e_25 : B_k1 ++ plainTo (zipped fs_sUpdateMetadataRequestTopicPartition v false ((lT (T.at 4))[k1])) v 2 ++ (fixed (IntKind.i32.wrap (((lT (T.at 4))[k1]).at 2).n) 4) = B_k1 ++ plainTo (zipped fs_sUpdateMetadataRequestTopicPartition v false ((lT (T.at 4))[k1])) v 3 := fold_yes (fs := fs_sUpdateMetadataRequestTopicPartition) (v := v) (flex := false) (t := ((lT (T.at 4))[k1])) (B := B_k1) 2 (by decide) (by decide) (has_yes (show (0 : Int) ≤ v by omega) (show ((-1) : Int) < 0 ∨ v ≤ (-1) by omega)) ((FB_int (f := (fs_sUpdateMetadataRequestTopicPartition[2]'(by decide))) (by decide) (by decide)).trans (fixed_i32 _).symm)
          have hs163 := fold_size e_25 (by decide) hBk1
          refine cl rfl rfl rfl (OutK.cast (k_AppendInt32 (u := IntKind.i32.wrap (((lT (T.at 4))[k1]).at 2).n) r156 hs163) e_25) rfl (fun v_ H1 L1 hle hR => ?_)
          obtain ⟨rfl, a163, c163, N163, rfl, rfl, h163⟩ := hR
          have r163 := h163.1
          refine asg rfl rfl ?_
          refine nl ?_
          refine sq ?_
          refine sr ?_
          refine mv rfl rfl ?_
          refine nc rfl rfl ?_
          refine fa F151_3 rfl rfl ?_
          refine ld (Says.fz hc_22) Tryz.isAgg21 rfl rfl rfl rfl ?_
          refine asg rfl rfl ?_
          refine nl ?_
          refine rg ?_
          refine mv rfl rfl ?_
          refine mv rfl rfl ?_
          have ok170 := oek1.get 3 (by decide) (has_yes (show (0 : Int) ≤ v by omega) (show ((-1) : Int) < 0 ∨ v ≤ (-1) by omega))
          have e_26 : B_k1 ++ plainTo (zipped fs_sUpdateMetadataRequestTopicPartition v false ((lT (T.at 4))[k1])) v 3 ++ (fixed (IntKind.i32.wrap (((lT (T.at 4))[k1]).at 3).n) 4) = B_k1 ++ plainTo (zipped fs_sUpdateMetadataRequestTopicPartition v false ((lT (T.at 4))[k1])) v 4 := fold_yes (fs := fs_sUpdateMetadataRequestTopicPartition) (v := v) (flex := false) (t := ((lT (T.at 4))[k1])) (B := B_k1) 3 (by decide) (by decide) (has_yes (show (0 : Int) ≤ v by omega) (show ((-1) : Int) < 0 ∨ v ≤ (-1) by omega)) ((FB_int (f := (fs_sUpdateMetadataRequestTopicPartition[3]'(by decide))) (by decide) (by decide)).trans (fixed_i32 _).symm)
          have hs170 := fold_size e_26 (by decide) hBk1
          refine cl rfl rfl rfl (OutK.cast (k_AppendInt32 (u := IntKind.i32.wrap (((lT (T.at 4))[k1]).at 3).n) r163 hs170) e_26) rfl (fun v_ H1 L1 hle hR => ?_)
          obtain ⟨rfl, a170, c170, N170, rfl, rfl, h170⟩ := hR
          have r170 := h170.1
          refine asg rfl rfl ?_
          refine nl ?_
          refine sq ?_
          refine sr ?_
          refine mv rfl rfl ?_
          refine nc rfl rfl ?_
          refine fa F151_4 rfl rfl ?_
          refine ld (Says.fz hc_22) Tryz.isAgg21 rfl rfl rfl rfl ?_
          refine asg rfl rfl ?_
          refine nl ?_
          refine rg ?_
          refine mv rfl rfl ?_
          refine mv rfl rfl ?_
          have ok177 := oek1.get 4 (by decide) (has_yes (show (0 : Int) ≤ v by omega) (show ((-1) : Int) < 0 ∨ v ≤ (-1) by omega))
          have e_27 : B_k1 ++ plainTo (zipped fs_sUpdateMetadataRequestTopicPartition v false ((lT (T.at 4))[k1])) v 4 ++ (fixed (IntKind.i32.wrap (((lT (T.at 4))[k1]).at 4).n) 4) = B_k1 ++ plainTo (zipped fs_sUpdateMetadataRequestTopicPartition v false ((lT (T.at 4))[k1])) v 5 := fold_yes (fs := fs_sUpdateMetadataRequestTopicPartition) (v := v) (flex := false) (t := ((lT (T.at 4))[k1])) (B := B_k1) 4 (by decide) (by decide) (has_yes (show (0 : Int) ≤ v by omega) (show ((-1) : Int) < 0 ∨ v ≤ (-1) by omega)) ((FB_int (f := (fs_sUpdateMetadataRequestTopicPartition[4]'(by decide))) (by decide) (by decide)).trans (fixed_i32 _).symm)
          have hs177 := fold_size e_27 (by decide) hBk1
          refine cl rfl rfl rfl (OutK.cast (k_AppendInt32 (u := IntKind.i32.wrap (((lT (T.at 4))[k1]).at 4).n) r170 hs177) e_27) rfl (fun v_ H1 L1 hle hR => ?_)
          obtain ⟨rfl, a177, c177, N177, rfl, rfl, h177⟩ := hR
          have r177 := h177.1
          refine asg rfl rfl ?_
          refine nl ?_
          refine sq ?_
          refine sr ?_
          refine mv rfl rfl ?_
          refine nc rfl rfl ?_
          refine fa F151_5 rfl rfl ?_
          refine ld (Says.fz hc_22) Tryz.isAgg149 rfl rfl rfl rfl ?_
          refine asg rfl rfl ?_
          refine nl ?_
          refine sq ?_
          refine sr ?_
          refine mv rfl rfl ?_
          refine nl ?_
          refine cdF rfl (by omega) ?_
          refine rg ?_
          refine mv rfl rfl ?_
          refine mv rfl rfl ?_
          refine ls Tryz.runUnderlying149 rfl rfl ?_
          have ok190 := oek1.get 5 (by decide) (has_yes (show (0 : Int) ≤ v by omega) (show ((-1) : Int) < 0 ∨ v ≤ (-1) by omega))
          have nn190 := ok190.nn (by decide) (by decide)
          have ll190 := lT_len (ok190.len rfl)
          have e_28 : B_k1 ++ plainTo (zipped fs_sUpdateMetadataRequestTopicPartition v false ((lT (T.at 4))[k1])) v 5 ++ (counted false false (lT (((lT (T.at 4))[k1]).at 5)).length 4 ++ (lT (((lT (T.at 4))[k1]).at 5)).flatMap (GOf (fs_sUpdateMetadataRequestTopicPartition[5]'(by decide)) v false)) = B_k1 ++ plainTo (zipped fs_sUpdateMetadataRequestTopicPartition v false ((lT (T.at 4))[k1])) v 6 := fold_yes (fs := fs_sUpdateMetadataRequestTopicPartition) (v := v) (flex := false) (t := ((lT (T.at 4))[k1])) (B := B_k1) 5 (by decide) (by decide) (has_yes (show (0 : Int) ≤ v by omega) (show ((-1) : Int) < 0 ∨ v ≤ (-1) by omega)) (by rw [FB_list (f := (fs_sUpdateMetadataRequestTopicPartition[5]'(by decide))) (by decide) (by decide) ok190, nn190])
          have hs190 := fold_size e_28 (by decide) hBk1
          have hc190 : (B_k1 ++ plainTo (zipped fs_sUpdateMetadataRequestTopicPartition v false ((lT (T.at 4))[k1])) v 5).length + (counted false false (lT (((lT (T.at 4))[k1]).at 5)).length 4).length ≤ LIM := by have h := hs190; simp only [List.length_append] at h ⊢; omega
          refine cl rfl rfl rfl (OutK.cast (k_AppendArrayLen (u := ((lT (((lT (T.at 4))[k1]).at 5)).length : Int)) r177 hc190) (show _ = B_k1 ++ plainTo (zipped fs_sUpdateMetadataRequestTopicPartition v false ((lT (T.at 4))[k1])) v 5 ++ (counted false false (lT (((lT (T.at 4))[k1]).at 5)).length 4) from rfl)) rfl (fun v_ H1 L1 hle hR => ?_)
          obtain ⟨rfl, a190, c190, N190, rfl, rfl, h190⟩ := hR
          have r190 := h190.1
          refine asg rfl rfl ?_
          refine nl ?_
          refine sr ?_
          refine mv rfl rfl ?_
          refine ls Tryz.runUnderlying149 rfl rfl ?_
          refine mv rfl rfl ?_
          refine nl ?_
          refine fr ((lT (((lT (T.at 4))[k1]).at 5)).length) (fun k2 l' H' L' => ∃ (a_k2 : Option Addr), ∃ (m_k2 : Nat), ∃ (c_k2 : Nat), ∃ (N_k2 : Chunk), [(0, .pointer (some ⟨b, 0, none⟩)), (1, .slice a_k2 m_k2 c_k2), (5, .int .i16 v), (6, .bool (decide ((6 : Int) ≤ v))), (11, .slice a4 (lT (T.at 4)).length c4), (13, .pointer (some ⟨b_16, o_17 + k1 * 10, none⟩)), (19, .slice a_k1_5 (lT (((lT (T.at 4))[k1]).at 5)).length c_k1_5), (126, .int .i64 ((lT (T.at 4)).length : Int)), (127, .int .i64 (k1 : Int)), (192, .int .i64 ((lT (((lT (T.at 4))[k1]).at 5)).length : Int))] = l' ∧ N_k2 :: L = L' ∧ Row 5 1 a_k2 m_k2 c_k2 (bytesOf (B_k1 ++ plainTo (zipped fs_sUpdateMetadataRequestTopicPartition v false ((lT (T.at 4))[k1])) v 5 ++ (counted false false (lT (((lT (T.at 4))[k1]).at 5)).length 4) ++ ((lT (((lT (T.at 4))[k1]).at 5)).take k2).flatMap (GOf (fs_sUpdateMetadataRequestTopicPartition[5]'(by decide)) v false))) N_k2 ∧ m_k2 = (B_k1 ++ plainTo (zipped fs_sUpdateMetadataRequestTopicPartition v false ((lT (T.at 4))[k1])) v 5 ++ (counted false false (lT (((lT (T.at 4))[k1]).at 5)).length 4) ++ ((lT (((lT (T.at 4))[k1]).at 5)).take k2).flatMap (GOf (fs_sUpdateMetadataRequestTopicPartition[5]'(by decide)) v false)).length) [(0, .pointer (some ⟨b, 0, none⟩)), (1, .slice _ _ _), (5, .int .i16 v), (6, .bool (decide ((6 : Int) ≤ v))), (11, .slice a4 (lT (T.at 4)).length c4), (13, .pointer (some ⟨b_16, o_17 + k1 * 10, none⟩)), (19, .slice a_k1_5 (lT (((lT (T.at 4))[k1]).at 5)).length c_k1_5), (126, .int .i64 ((lT (T.at 4)).length : Int)), (127, .int .i64 (k1 : Int)), (192, .int .i64 ((lT (((lT (T.at 4))[k1]).at 5)).length : Int))] (fun k2 l' H' L' h => ?_) (by omega) rfl (.cons rfl (.cons rfl (.cons rfl (.cons rfl (.cons rfl (.cons rfl (.cons rfl (.cons rfl (.cons rfl (.cons rfl (.nil _))))))))))) ⟨_, _, _, _, rfl, rfl, (by rw [List.take_zero, List.flatMap_nil, List.append_nil]; exact r190), (by rw [List.take_zero, List.flatMap_nil, List.append_nil])⟩ rfl rfl rfl rfl rfl (fun k2 l' H' L' hk2 le_29 hI => ?_) (fun l' H' L' le_30 hI => ?_)
          · obtain ⟨a_k2, m_k2, c_k2, N_k2, rfl, _⟩ := h; exact ⟨rfl, rfl, rfl, rfl⟩
          · skip
            obtain ⟨a_k2, m_k2, c_k2, N_k2, rfl, rfl, pk20, pk21⟩ := hI
            subst pk21
            refine sr ?_
            refine mv rfl rfl ?_
            refine asg rfl rfl ?_
            refine nl ?_
            refine sr ?_
            refine mv rfl rfl ?_
            refine mv rfl rfl ?_
            obtain ⟨b_31, o_32, e_33, g_34⟩ := (hf_k1_0.mono RI32.mono le_29).rows.at_ (ne_nil_of_lt hk2)
            obtain ⟨cs_35, hA_36, hc_37⟩ := g_34 k2 hk2
            refine ix2 Tryz.runUnderlying149 Tryz.sizeOf21 rfl e_33 rfl rfl hk2 rfl ?_
            obtain rfl := hA_36
            refine ld (Says.fz hc_37) Tryz.isAgg21 rfl (Nat.add_zero _).symm rfl rfl ?_
            refine asg rfl rfl ?_
            refine nl ?_
            refine rg ?_
            refine mv rfl rfl ?_
            refine mv rfl rfl ?_
            have hp202 : (GOf (fs_sUpdateMetadataRequestTopicPartition[5]'(by decide)) v false) ((lT (((lT (T.at 4))[k1]).at 5))[k2]) = fixed (IntKind.i32.wrap ((lT (((lT (T.at 4))[k1]).at 5))[k2]).n) 4 := (G_int (f := (fs_sUpdateMetadataRequestTopicPartition[5]'(by decide))) (by decide) (by decide) _).trans (fixed_i32 _).symm
            have hs202 := el_size hs190 hk2 hp202
            have ee202 := el_end (B0 := B_k1 ++ plainTo (zipped fs_sUpdateMetadataRequestTopicPartition v false ((lT (T.at 4))[k1])) v 5 ++ (counted false false (lT (((lT (T.at 4))[k1]).at 5)).length 4)) hk2 hp202
            refine cl rfl rfl rfl (OutK.cast (k_AppendInt32 (u := IntKind.i32.wrap ((lT (((lT (T.at 4))[k1]).at 5))[k2]).n) pk20 hs202) ee202) rfl (fun v_ H1 L1 hle hR => ?_)
            obtain ⟨rfl, a202, c202, N202, rfl, rfl, h202⟩ := hR
            have r202 := h202.1
            refine asg rfl rfl ?_
            refine nN ?_
            refine Nb ?_
            refine fun a_ w_ hA hw => ⟨_, _, _, hA.sub ?_, le_29, hw, _, rfl, _, _, _, _, rfl, rfl, r202, rfl⟩
            exact (.cons rfl (.cons rfl (.cons rfl (.cons rfl (.cons rfl (.cons rfl (.cons rfl (.cons rfl (.cons rfl (.cons rfl (.cons rfl (.nil _))))))))))))
          · skip
            obtain ⟨a_k2, m_k2, c_k2, N_k2, rfl, rfl, pk20, pk21⟩ := hI
            refine toWp ?_
            have eL190 : B_k1 ++ plainTo (zipped fs_sUpdateMetadataRequestTopicPartition v false ((lT (T.at 4))[k1])) v 5 ++ (counted false false (lT (((lT (T.at 4))[k1]).at 5)).length 4) ++ ((lT (((lT (T.at 4))[k1]).at 5)).take (lT (((lT (T.at 4))[k1]).at 5)).length).flatMap (GOf (fs_sUpdateMetadataRequestTopicPartition[5]'(by decide)) v false) = B_k1 ++ plainTo (zipped fs_sUpdateMetadataRequestTopicPartition v false ((lT (T.at 4))[k1])) v 6 := by rw [List.take_length, List.append_assoc]; exact e_28
            rw [eL190] at pk20 pk21
            subst pk21
            refine sq ?_
            refine sr ?_
            refine mv rfl rfl ?_
            refine nc rfl rfl ?_
            refine fa F151_6 rfl rfl ?_
            refine ld (Says.fz (hc_22.mono le_30)) Tryz.isAgg21 rfl rfl rfl rfl ?_
            refine asg rfl rfl ?_
            refine nl ?_
            refine rg ?_
            refine mv rfl rfl ?_
            refine mv rfl rfl ?_
            have ok210 := oek1.get 6 (by decide) (has_yes (show (0 : Int) ≤ v by omega) (show ((-1) : Int) < 0 ∨ v ≤ (-1) by omega))
            have e_38 : B_k1 ++ plainTo (zipped fs_sUpdateMetadataRequestTopicPartition v false ((lT (T.at 4))[k1])) v 6 ++ (fixed (IntKind.i32.wrap (((lT (T.at 4))[k1]).at 6).n) 4) = B_k1 ++ plainTo (zipped fs_sUpdateMetadataRequestTopicPartition v false ((lT (T.at 4))[k1])) v 7 := fold_yes (fs := fs_sUpdateMetadataRequestTopicPartition) (v := v) (flex := false) (t := ((lT (T.at 4))[k1])) (B := B_k1) 6 (by decide) (by decide) (has_yes (show (0 : Int) ≤ v by omega) (show ((-1) : Int) < 0 ∨ v ≤ (-1) by omega)) ((FB_int (f := (fs_sUpdateMetadataRequestTopicPartition[6]'(by decide))) (by decide) (by decide)).trans (fixed_i32 _).symm)
            have hs210 := fold_size e_38 (by decide) hBk1
            refine cl rfl rfl rfl (OutK.cast (k_AppendInt32 (u := IntKind.i32.wrap (((lT (T.at 4))[k1]).at 6).n) pk20 hs210) e_38) rfl (fun v_ H1 L1 hle hR => ?_)
            obtain ⟨rfl, a210, c210, N210, rfl, rfl, h210⟩ := hR
            have r210 := h210.1
            refine asg rfl rfl ?_
            refine nl ?_
            refine sq ?_
            refine sr ?_
            refine mv rfl rfl ?_
            refine nc rfl rfl ?_
            refine fa F151_7 rfl rfl ?_
            refine ld (Says.fz (hc_22.mono le_30)) Tryz.isAgg149 rfl rfl rfl rfl ?_
            refine asg rfl rfl ?_
            refine nl ?_
            refine sq ?_
            refine sr ?_
            refine mv rfl rfl ?_
            refine nl ?_
            refine cdF rfl (by omega) ?_
            refine rg ?_
            refine mv rfl rfl ?_
            refine mv rfl rfl ?_
            refine ls Tryz.runUnderlying149 rfl rfl ?_
            have ok223 := oek1.get 7 (by decide) (has_yes (show (0 : Int) ≤ v by omega) (show ((-1) : Int) < 0 ∨ v ≤ (-1) by omega))
            have nn223 := ok223.nn (by decide) (by decide)
            have ll223 := lT_len (ok223.len rfl)
            have e_39 : B_k1 ++ plainTo (zipped fs_sUpdateMetadataRequestTopicPartition v false ((lT (T.at 4))[k1])) v 7 ++ (counted false false (lT (((lT (T.at 4))[k1]).at 7)).length 4 ++ (lT (((lT (T.at 4))[k1]).at 7)).flatMap (GOf (fs_sUpdateMetadataRequestTopicPartition[7]'(by decide)) v false)) = B_k1 ++ plainTo (zipped fs_sUpdateMetadataRequestTopicPartition v false ((lT (T.at 4))[k1])) v 8 := fold_yes (fs := fs_sUpdateMetadataRequestTopicPartition) (v := v) (flex := false) (t := ((lT (T.at 4))[k1])) (B := B_k1) 7 (by decide) (by decide) (has_yes (show (0 : Int) ≤ v by omega) (show ((-1) : Int) < 0 ∨ v ≤ (-1) by omega)) (by rw [FB_list (f := (fs_sUpdateMetadataRequestTopicPartition[7]'(by decide))) (by decide) (by decide) ok223, nn223])
            have hs223 := fold_size e_39 (by decide) hBk1
            have hc223 : (B_k1 ++ plainTo (zipped fs_sUpdateMetadataRequestTopicPartition v false ((lT (T.at 4))[k1])) v 7).length + (counted false false (lT (((lT (T.at 4))[k1]).at 7)).length 4).length ≤ LIM := by have h := hs223; simp only [List.length_append] at h ⊢; omega
            refine cl rfl rfl rfl (OutK.cast (k_AppendArrayLen (u := ((lT (((lT (T.at 4))[k1]).at 7)).length : Int)) r210 hc223) (show _ = B_k1 ++ plainTo (zipped fs_sUpdateMetadataRequestTopicPartition v false ((lT (T.at 4))[k1])) v 7 ++ (counted false false (lT (((lT (T.at 4))[k1]).at 7)).length 4) from rfl)) rfl (fun v_ H1 L1 hle hR => ?_)
            obtain ⟨rfl, a223, c223, N223, rfl, rfl, h223⟩ := hR
            have r223 := h223.1
            refine asg rfl rfl ?_
            refine nl ?_
            refine sr ?_
            refine mv rfl rfl ?_
            refine ls Tryz.runUnderlying149 rfl rfl ?_
            refine mv rfl rfl ?_
            refine nl ?_
            refine fr ((lT (((lT (T.at 4))[k1]).at 7)).length) (fun k3 l' H' L' => ∃ (a_k3 : Option Addr), ∃ (m_k3 : Nat), ∃ (c_k3 : Nat), ∃ (N_k3 : Chunk), [(0, .pointer (some ⟨b, 0, none⟩)), (1, .slice a_k3 m_k3 c_k3), (5, .int .i16 v), (6, .bool (decide ((6 : Int) ≤ v))), (11, .slice a4 (lT (T.at 4)).length c4), (13, .pointer (some ⟨b_16, o_17 + k1 * 10, none⟩)), (23, .slice a_k1_7 (lT (((lT (T.at 4))[k1]).at 7)).length c_k1_7), (126, .int .i64 ((lT (T.at 4)).length : Int)), (127, .int .i64 (k1 : Int)), (225, .int .i64 ((lT (((lT (T.at 4))[k1]).at 7)).length : Int))] = l' ∧ N_k3 :: L = L' ∧ Row 5 1 a_k3 m_k3 c_k3 (bytesOf (B_k1 ++ plainTo (zipped fs_sUpdateMetadataRequestTopicPartition v false ((lT (T.at 4))[k1])) v 7 ++ (counted false false (lT (((lT (T.at 4))[k1]).at 7)).length 4) ++ ((lT (((lT (T.at 4))[k1]).at 7)).take k3).flatMap (GOf (fs_sUpdateMetadataRequestTopicPartition[7]'(by decide)) v false))) N_k3 ∧ m_k3 = (B_k1 ++ plainTo (zipped fs_sUpdateMetadataRequestTopicPartition v false ((lT (T.at 4))[k1])) v 7 ++ (counted false false (lT (((lT (T.at 4))[k1]).at 7)).length 4) ++ ((lT (((lT (T.at 4))[k1]).at 7)).take k3).flatMap (GOf (fs_sUpdateMetadataRequestTopicPartition[7]'(by decide)) v false)).length) [(0, .pointer (some ⟨b, 0, none⟩)), (1, .slice _ _ _), (5, .int .i16 v), (6, .bool (decide ((6 : Int) ≤ v))), (11, .slice a4 (lT (T.at 4)).length c4), (13, .pointer (some ⟨b_16, o_17 + k1 * 10, none⟩)), (23, .slice a_k1_7 (lT (((lT (T.at 4))[k1]).at 7)).length c_k1_7), (126, .int .i64 ((lT (T.at 4)).length : Int)), (127, .int .i64 (k1 : Int)), (225, .int .i64 ((lT (((lT (T.at 4))[k1]).at 7)).length : Int))] (fun k3 l' H' L' h => ?_) (by omega) rfl (.cons rfl (.cons rfl (.cons rfl (.cons rfl (.cons rfl (.cons rfl (.cons rfl (.cons rfl (.cons rfl (.cons rfl (.nil _))))))))))) ⟨_, _, _, _, rfl, rfl, (by rw [List.take_zero, List.flatMap_nil, List.append_nil]; exact r223), (by rw [List.take_zero, List.flatMap_nil, List.append_nil])⟩ rfl rfl rfl rfl rfl (fun k3 l' H' L' hk3 le_40 hI => ?_) (fun l' H' L' le_41 hI => ?_)
            · obtain ⟨a_k3, m_k3, c_k3, N_k3, rfl, _⟩ := h; exact ⟨rfl, rfl, rfl, rfl⟩
            · skip
              obtain ⟨a_k3, m_k3, c_k3, N_k3, rfl, rfl, pk30, pk31⟩ := hI
              subst pk31
              refine sr ?_
              refine mv rfl rfl ?_
              refine asg rfl rfl ?_
              refine nl ?_
              refine sr ?_
              refine mv rfl rfl ?_
              refine mv rfl rfl ?_
              obtain ⟨b_42, o_43, e_44, g_45⟩ := (hf_k1_1.mono RI32.mono (le_30.trans le_40)).rows.at_ (ne_nil_of_lt hk3)
              obtain ⟨cs_46, hA_47, hc_48⟩ := g_45 k3 hk3
              refine ix2 Tryz.runUnderlying149 Tryz.sizeOf21 rfl e_44 rfl rfl hk3 rfl ?_
              obtain rfl := hA_47
              refine ld (Says.fz hc_48) Tryz.isAgg21 rfl (Nat.add_zero _).symm rfl rfl ?_
              refine asg rfl rfl ?_
              refine nl ?_
              refine rg ?_
              refine mv rfl rfl ?_
              refine mv rfl rfl ?_
              have hp235 : (GOf (fs_sUpdateMetadataRequestTopicPartition[7]'(by decide)) v false) ((lT (((lT (T.at 4))[k1]).at 7))[k3]) = fixed (IntKind.i32.wrap ((lT (((lT (T.at 4))[k1]).at 7))[k3]).n) 4 := (G_int (f := (fs_sUpdateMetadataRequestTopicPartition[7]'(by decide))) (by decide) (by decide) _).trans (fixed_i32 _).symm
              have hs235 := el_size hs223 hk3 hp235
              have ee235 := el_end (B0 := B_k1 ++ plainTo (zipped fs_sUpdateMetadataRequestTopicPartition v false ((lT (T.at 4))[k1])) v 7 ++ (counted false false (lT (((lT (T.at 4))[k1]).at 7)).length 4)) hk3 hp235
              refine cl rfl rfl rfl (OutK.cast (k_AppendInt32 (u := IntKind.i32.wrap ((lT (((lT (T.at 4))[k1]).at 7))[k3]).n) pk30 hs235) ee235) rfl (fun v_ H1 L1 hle hR => ?_)
              obtain ⟨rfl, a235, c235, N235, rfl, rfl, h235⟩ := hR
              have r235 := h235.1
              refine asg rfl rfl ?_
              refine nN ?_
              refine Nb ?_
              refine fun a_ w_ hA hw => ⟨_, _, _, hA.sub ?_, le_40, hw, _, rfl, _, _, _, _, rfl, rfl, r235, rfl⟩
              exact (.cons rfl (.cons rfl (.cons rfl (.cons rfl (.cons rfl (.cons rfl (.cons rfl (.cons rfl (.cons rfl (.cons rfl (.cons rfl (.nil _))))))))))))
            · skip
              obtain ⟨a_k3, m_k3, c_k3, N_k3, rfl, rfl, pk30, pk31⟩ := hI
              refine toWp ?_
              have eL223 : B_k1 ++ plainTo (zipped fs_sUpdateMetadataRequestTopicPartition v false ((lT (T.at 4))[k1])) v 7 ++ (counted false false (lT (((lT (T.at 4))[k1]).at 7)).length 4) ++ ((lT (((lT (T.at 4))[k1]).at 7)).take (lT (((lT (T.at 4))[k1]).at 7)).length).flatMap (GOf (fs_sUpdateMetadataRequestTopicPartition[7]'(by decide)) v false) = B_k1 ++ plainTo (zipped fs_sUpdateMetadataRequestTopicPartition v false ((lT (T.at 4))[k1])) v 8 := by rw [List.take_length, List.append_assoc]; exact e_39
              rw [eL223] at pk30 pk31
              subst pk31
              refine sq ?_
              refine sr ?_
              refine mv rfl rfl ?_
              refine ge rfl rfl rfl ?_
              refine nl ?_
              refine cutT (fun l' H' L' => ∃ (aj_49 : Option Addr), ∃ (mj_49 : Nat), ∃ (cj_49 : Nat), ∃ (Nj_49 : Chunk), [(0, .pointer (some ⟨b, 0, none⟩)), (1, .slice aj_49 mj_49 cj_49), (5, .int .i16 v), (6, .bool (decide ((6 : Int) ≤ v))), (11, .slice a4 (lT (T.at 4)).length c4), (13, .pointer (some ⟨b_16, o_17 + k1 * 10, none⟩)), (126, .int .i64 ((lT (T.at 4)).length : Int)), (127, .int .i64 (k1 : Int))] = l' ∧ Nj_49 :: L = L' ∧ Row 5 1 aj_49 mj_49 cj_49 (bytesOf (B_k1 ++ plainTo (zipped fs_sUpdateMetadataRequestTopicPartition v false ((lT (T.at 4))[k1])) v 9)) Nj_49 ∧ mj_49 = (B_k1 ++ plainTo (zipped fs_sUpdateMetadataRequestTopicPartition v false ((lT (T.at 4))[k1])) v 9).length) ?_ (fun l' H' L' le_50 hI => ?_)
              · skip
                refine cd rfl (fun h238 => ?_) (fun h238 => ?_)
                · skip
                  refine sr ?_
                  refine mv rfl rfl ?_
                  refine nc rfl rfl ?_
                  refine fa F151_8 rfl rfl ?_
                  refine ld (Says.fz (hc_22.mono (le_30.trans le_41))) Tryz.isAgg149 rfl rfl rfl rfl ?_
                  refine asg rfl rfl ?_
                  refine nl ?_
                  refine sq ?_
                  refine sr ?_
                  refine mv rfl rfl ?_
                  refine nl ?_
                  refine cdF rfl (by omega) ?_
                  refine rg ?_
                  refine mv rfl rfl ?_
                  refine mv rfl rfl ?_
                  refine ls Tryz.runUnderlying149 rfl rfl ?_
                  have ok251 := oek1.get 8 (by decide) (has_yes (show (4 : Int) ≤ v by omega) (show ((-1) : Int) < 0 ∨ v ≤ (-1) by omega))
                  have nn251 := ok251.nn (by decide) (by decide)
                  have ll251 := lT_len (ok251.len rfl)
                  have e_51 : B_k1 ++ plainTo (zipped fs_sUpdateMetadataRequestTopicPartition v false ((lT (T.at 4))[k1])) v 8 ++ (counted false false (lT (((lT (T.at 4))[k1]).at 8)).length 4 ++ (lT (((lT (T.at 4))[k1]).at 8)).flatMap (GOf (fs_sUpdateMetadataRequestTopicPartition[8]'(by decide)) v false)) = B_k1 ++ plainTo (zipped fs_sUpdateMetadataRequestTopicPartition v false ((lT (T.at 4))[k1])) v 9 := fold_yes (fs := fs_sUpdateMetadataRequestTopicPartition) (v := v) (flex := false) (t := ((lT (T.at 4))[k1])) (B := B_k1) 8 (by decide) (by decide) (has_yes (show (4 : Int) ≤ v by omega) (show ((-1) : Int) < 0 ∨ v ≤ (-1) by omega)) (by rw [FB_list (f := (fs_sUpdateMetadataRequestTopicPartition[8]'(by decide))) (by decide) (by decide) ok251, nn251])
                  have hs251 := fold_size e_51 (by decide) hBk1
                  have hc251 : (B_k1 ++ plainTo (zipped fs_sUpdateMetadataRequestTopicPartition v false ((lT (T.at 4))[k1])) v 8).length + (counted false false (lT (((lT (T.at 4))[k1]).at 8)).length 4).length ≤ LIM := by have h := hs251; simp only [List.length_append] at h ⊢; omega
                  refine cl rfl rfl rfl (OutK.cast (k_AppendArrayLen (u := ((lT (((lT (T.at 4))[k1]).at 8)).length : Int)) pk30 hc251) (show _ = B_k1 ++ plainTo (zipped fs_sUpdateMetadataRequestTopicPartition v false ((lT (T.at 4))[k1])) v 8 ++ (counted false false (lT (((lT (T.at 4))[k1]).at 8)).length 4) from rfl)) rfl (fun v_ H1 L1 hle hR => ?_)
                  obtain ⟨rfl, a251, c251, N251, rfl, rfl, h251⟩ := hR
                  have r251 := h251.1
                  refine asg rfl rfl ?_
                  refine nl ?_
                  refine sr ?_
                  refine mv rfl rfl ?_
                  refine ls Tryz.runUnderlying149 rfl rfl ?_
                  refine mv rfl rfl ?_
                  refine nl ?_
                  refine fr ((lT (((lT (T.at 4))[k1]).at 8)).length) (fun k4 l' H' L' => ∃ (a_k4 : Option Addr), ∃ (m_k4 : Nat), ∃ (c_k4 : Nat), ∃ (N_k4 : Chunk), [(0, .pointer (some ⟨b, 0, none⟩)), (1, .slice a_k4 m_k4 c_k4), (5, .int .i16 v), (6, .bool (decide ((6 : Int) ≤ v))), (11, .slice a4 (lT (T.at 4)).length c4), (13, .pointer (some ⟨b_16, o_17 + k1 * 10, none⟩)), (26, .slice a_k1_8 (lT (((lT (T.at 4))[k1]).at 8)).length c_k1_8), (126, .int .i64 ((lT (T.at 4)).length : Int)), (127, .int .i64 (k1 : Int)), (253, .int .i64 ((lT (((lT (T.at 4))[k1]).at 8)).length : Int))] = l' ∧ N_k4 :: L = L' ∧ Row 5 1 a_k4 m_k4 c_k4 (bytesOf (B_k1 ++ plainTo (zipped fs_sUpdateMetadataRequestTopicPartition v false ((lT (T.at 4))[k1])) v 8 ++ (counted false false (lT (((lT (T.at 4))[k1]).at 8)).length 4) ++ ((lT (((lT (T.at 4))[k1]).at 8)).take k4).flatMap (GOf (fs_sUpdateMetadataRequestTopicPartition[8]'(by decide)) v false))) N_k4 ∧ m_k4 = (B_k1 ++ plainTo (zipped fs_sUpdateMetadataRequestTopicPartition v false ((lT (T.at 4))[k1])) v 8 ++ (counted false false (lT (((lT (T.at 4))[k1]).at 8)).length 4) ++ ((lT (((lT (T.at 4))[k1]).at 8)).take k4).flatMap (GOf (fs_sUpdateMetadataRequestTopicPartition[8]'(by decide)) v false)).length) [(0, .pointer (some ⟨b, 0, none⟩)), (1, .slice _ _ _), (5, .int .i16 v), (6, .bool (decide ((6 : Int) ≤ v))), (11, .slice a4 (lT (T.at 4)).length c4), (13, .pointer (some ⟨b_16, o_17 + k1 * 10, none⟩)), (26, .slice a_k1_8 (lT (((lT (T.at 4))[k1]).at 8)).length c_k1_8), (126, .int .i64 ((lT (T.at 4)).length : Int)), (127, .int .i64 (k1 : Int)), (253, .int .i64 ((lT (((lT (T.at 4))[k1]).at 8)).length : Int))] (fun k4 l' H' L' h => ?_) (by omega) rfl (.cons rfl (.cons rfl (.cons rfl (.cons rfl (.cons rfl (.cons rfl (.cons rfl (.cons rfl (.cons rfl (.cons rfl (.nil _))))))))))) ⟨_, _, _, _, rfl, rfl, (by rw [List.take_zero, List.flatMap_nil, List.append_nil]; exact r251), (by rw [List.take_zero, List.flatMap_nil, List.append_nil])⟩ rfl rfl rfl rfl rfl (fun k4 l' H' L' hk4 le_52 hI => ?_) (fun l' H' L' le_53 hI => ?_)
                  · obtain ⟨a_k4, m_k4, c_k4, N_k4, rfl, _⟩ := h; exact ⟨rfl, rfl, rfl, rfl⟩
                  · skip
                    obtain ⟨a_k4, m_k4, c_k4, N_k4, rfl, rfl, pk40, pk41⟩ := hI
                    subst pk41
                    refine sr ?_
                    refine mv rfl rfl ?_
                    refine asg rfl rfl ?_
                    refine nl ?_
                    refine sr ?_
                    refine mv rfl rfl ?_
                    refine mv rfl rfl ?_
                    obtain ⟨b_54, o_55, e_56, g_57⟩ := (hf_k1_2.mono RI32.mono (le_30.trans (le_41.trans le_52))).rows.at_ (ne_nil_of_lt hk4)
                    obtain ⟨cs_58, hA_59, hc_60⟩ := g_57 k4 hk4
                    refine ix2 Tryz.runUnderlying149 Tryz.sizeOf21 rfl e_56 rfl rfl hk4 rfl ?_
                    obtain rfl := hA_59
                    refine ld (Says.fz hc_60) Tryz.isAgg21 rfl (Nat.add_zero _).symm rfl rfl ?_
                    refine asg rfl rfl ?_
                    refine nl ?_
                    refine rg ?_
                    refine mv rfl rfl ?_
                    refine mv rfl rfl ?_
                    have hp263 : (GOf (fs_sUpdateMetadataRequestTopicPartition[8]'(by decide)) v false) ((lT (((lT (T.at 4))[k1]).at 8))[k4]) = fixed (IntKind.i32.wrap ((lT (((lT (T.at 4))[k1]).at 8))[k4]).n) 4 := (G_int (f := (fs_sUpdateMetadataRequestTopicPartition[8]'(by decide))) (by decide) (by decide) _).trans (fixed_i32 _).symm
                    have hs263 := el_size hs251 hk4 hp263
                    have ee263 := el_end (B0 := B_k1 ++ plainTo (zipped fs_sUpdateMetadataRequestTopicPartition v false ((lT (T.at 4))[k1])) v 8 ++ (counted false false (lT (((lT (T.at 4))[k1]).at 8)).length 4)) hk4 hp263
                    refine cl rfl rfl rfl (OutK.cast (k_AppendInt32 (u := IntKind.i32.wrap ((lT (((lT (T.at 4))[k1]).at 8))[k4]).n) pk40 hs263) ee263) rfl (fun v_ H1 L1 hle hR => ?_)
                    obtain ⟨rfl, a263, c263, N263, rfl, rfl, h263⟩ := hR
                    have r263 := h263.1
                    refine asg rfl rfl ?_
                    refine nN ?_
                    refine Nb ?_
                    refine fun a_ w_ hA hw => ⟨_, _, _, hA.sub ?_, le_52, hw, _, rfl, _, _, _, _, rfl, rfl, r263, rfl⟩
                    exact (.cons rfl (.cons rfl (.cons rfl (.cons rfl (.cons rfl (.cons rfl (.cons rfl (.cons rfl (.cons rfl (.cons rfl (.cons rfl (.nil _))))))))))))
                  · skip
                    obtain ⟨a_k4, m_k4, c_k4, N_k4, rfl, rfl, pk40, pk41⟩ := hI
                    refine toNn ?_
                    have eL251 : B_k1 ++ plainTo (zipped fs_sUpdateMetadataRequestTopicPartition v false ((lT (T.at 4))[k1])) v 8 ++ (counted false false (lT (((lT (T.at 4))[k1]).at 8)).length 4) ++ ((lT (((lT (T.at 4))[k1]).at 8)).take (lT (((lT (T.at 4))[k1]).at 8)).length).flatMap (GOf (fs_sUpdateMetadataRequestTopicPartition[8]'(by decide)) v false) = B_k1 ++ plainTo (zipped fs_sUpdateMetadataRequestTopicPartition v false ((lT (T.at 4))[k1])) v 9 := by rw [List.take_length, List.append_assoc]; exact e_51
                    rw [eL251] at pk40 pk41
                    subst pk41
                    refine fun a_ w_ hA hw => ⟨_, _, _, hA.sub ?_, le_53, hw, _, _, _, _, rfl, rfl, pk40, rfl⟩
                    exact (.cons rfl (.cons rfl (.cons rfl (.cons rfl (.cons rfl (.cons rfl (.cons rfl (.cons rfl (.nil _)))))))))
                · skip
                  refine skN ?_
                  have es_61 : plainTo (zipped fs_sUpdateMetadataRequestTopicPartition v false ((lT (T.at 4))[k1])) v 9 = plainTo (zipped fs_sUpdateMetadataRequestTopicPartition v false ((lT (T.at 4))[k1])) v 8 := (piece_no2 (fs := fs_sUpdateMetadataRequestTopicPartition) (v := v) (flex := false) (t := ((lT (T.at 4))[k1])) (k := 8) (by decide) (has_no (show v < (4 : Int) ∨ ((0 : Int) ≤ (-1) ∧ (-1) < v) by omega)))
                  have eX_62 : B_k1 ++ plainTo (zipped fs_sUpdateMetadataRequestTopicPartition v false ((lT (T.at 4))[k1])) v 8 = B_k1 ++ plainTo (zipped fs_sUpdateMetadataRequestTopicPartition v false ((lT (T.at 4))[k1])) v 9 := by rw [es_61]
                  refine fun a_ w_ hA hw => ⟨_, _, _, hA.sub ?_, (Fz.le.refl _), hw, _, _, _, _, rfl, rfl, (by rw [← eX_62]; exact pk30), (by rw [← eX_62])⟩
                  exact (.cons rfl (.cons rfl (.cons rfl (.cons rfl (.cons rfl (.cons rfl (.cons rfl (.cons rfl (.nil _)))))))))
              · skip
                obtain ⟨aj_49, mj_49, cj_49, Nj_49, rfl, rfl, pj0, pj1⟩ := hI
                subst pj1
                have rj_49 := pj0
                refine sr ?_
                refine mv rfl rfl ?_
                refine nl ?_
                refine cdF rfl (by omega) ?_
                refine skN ?_
                refine Nb ?_
                have eP_63 : B_k1 ++ plainTo (zipped fs_sUpdateMetadataRequestTopicPartition v false ((lT (T.at 4))[k1])) v 9 = B_k1 ++ partB fs_sUpdateMetadataRequestTopicPartition v false ((lT (T.at 4))[k1]) := by rw [partB_false]; rfl
                have rp_64 := rj_49
                rw [eP_63] at rp_64 ⊢
                have ee_65 : B_k1 ++ partB fs_sUpdateMetadataRequestTopicPartition v false ((lT (T.at 4))[k1]) = D ++ plainTo (zipped fs_UpdateMetadataRequest v false T) v 4 ++ (counted false false (lT (T.at 4)).length 4) ++ ((lT (T.at 4)).take (k1 + 1)).flatMap (GOf (fs_UpdateMetadataRequest[4]'(by decide)) v false) := by rw [hdk1]; exact el_end (B0 := D ++ plainTo (zipped fs_UpdateMetadataRequest v false T) v 4 ++ (counted false false (lT (T.at 4)).length 4)) (G := (GOf (fs_UpdateMetadataRequest[4]'(by decide)) v false)) hk1 (GOf_part (by decide) _)
                refine fun a_ w_ hA hw => ⟨_, _, _, hA.sub ?_, (le_14.trans (le_30.trans (le_41.trans le_50))), hw, _, rfl, _, _, _, _, rfl, rfl, (by rw [← ee_65]; exact rp_64), (by rw [← ee_65])⟩
                exact (.cons rfl (.cons rfl (.cons rfl (.cons rfl (.cons rfl (.cons rfl (.cons rfl (.nil _))))))))
        · skip
          obtain ⟨a_k1, m_k1, c_k1, N_k1, rfl, rfl, pk10, pk11⟩ := hI
          refine toNn ?_
          have eL124 : D ++ plainTo (zipped fs_UpdateMetadataRequest v false T) v 4 ++ (counted false false (lT (T.at 4)).length 4) ++ ((lT (T.at 4)).take (lT (T.at 4)).length).flatMap (GOf (fs_UpdateMetadataRequest[4]'(by decide)) v false) = D ++ plainTo (zipped fs_UpdateMetadataRequest v false T) v 5 := by rw [List.take_length, List.append_assoc]; exact e_13
          rw [eL124] at pk10 pk11
          subst pk11
          refine fun a_ w_ hA hw => ⟨_, _, _, hA.sub ?_, le_15, hw, _, _, _, _, rfl, rfl, pk10, rfl⟩
          exact (.cons rfl (.cons rfl (.cons rfl (.cons rfl (.nil _)))))
      · skip
        refine skN ?_
        have es_66 : plainTo (zipped fs_UpdateMetadataRequest v false T) v 5 = plainTo (zipped fs_UpdateMetadataRequest v false T) v 4 := (piece_no2 (fs := fs_UpdateMetadataRequest) (v := v) (flex := false) (t := T) (k := 4) (by decide) (has_no (show v < (0 : Int) ∨ ((0 : Int) ≤ 4 ∧ 4 < v) by omega)))
        have eX_67 : D ++ plainTo (zipped fs_UpdateMetadataRequest v false T) v 4 = D ++ plainTo (zipped fs_UpdateMetadataRequest v false T) v 5 := by rw [es_66]
        refine fun a_ w_ hA hw => ⟨_, _, _, hA.sub ?_, (Fz.le.refl _), hw, _, _, _, _, rfl, rfl, (by rw [← eX_67]; exact rj_6), (by rw [← eX_67])⟩
        exact (.cons rfl (.cons rfl (.cons rfl (.cons rfl (.nil _)))))
    · skip
      obtain ⟨aj_11, mj_11, cj_11, Nj_11, rfl, rfl, pj0, pj1⟩ := hI
      subst pj1
      have rj_11 := pj0
      refine sq ?_
      refine sr ?_
      refine mv rfl rfl ?_
      refine ge rfl rfl rfl ?_
      refine nl ?_
      refine cutT (fun l' H' L' => ∃ (aj_68 : Option Addr), ∃ (mj_68 : Nat), ∃ (cj_68 : Nat), ∃ (Nj_68 : Chunk), [(0, .pointer (some ⟨b, 0, none⟩)), (1, .slice aj_68 mj_68 cj_68), (5, .int .i16 v), (6, .bool (decide ((6 : Int) ≤ v)))] = l' ∧ Nj_68 :: L = L' ∧ Row 5 1 aj_68 mj_68 cj_68 (bytesOf (D ++ plainTo (zipped fs_UpdateMetadataRequest v false T) v 6)) Nj_68 ∧ mj_68 = (D ++ plainTo (zipped fs_UpdateMetadataRequest v false T) v 6).length) ?_ (fun l' H' L' le_69 hI => ?_)
      · skip
        refine cd rfl (fun h281 => ?_) (fun h281 => ?_)
        · skip
          refine sr ?_
          refine mv rfl rfl ?_
          refine nc rfl rfl ?_
          refine fa0 F85_6 rfl rfl ?_
          refine ld (Says.fz (hv.mono (le_7.trans le_12))) Tryz.isAgg82 rfl (Nat.zero_add _).symm rfl rfl ?_
          refine asg rfl rfl ?_
          refine nl ?_
          refine sq ?_
          refine sr ?_
          refine mv rfl rfl ?_
          refine nl ?_
          refine cdF rfl (by omega) ?_
          refine rg ?_
          refine mv rfl rfl ?_
          refine mv rfl rfl ?_
          refine ls Tryz.runUnderlying82 rfl rfl ?_
          have ok294 := hok.get 5 (by decide) (has_yes (show (5 : Int) ≤ v by omega) (show ((-1) : Int) < 0 ∨ v ≤ (-1) by omega))
          have nn294 := ok294.nn (by decide) (by decide)
          have ll294 := lT_len (ok294.len rfl)
          have e_70 : D ++ plainTo (zipped fs_UpdateMetadataRequest v false T) v 5 ++ (counted false false (lT (T.at 5)).length 4 ++ (lT (T.at 5)).flatMap (GOf (fs_UpdateMetadataRequest[5]'(by decide)) v false)) = D ++ plainTo (zipped fs_UpdateMetadataRequest v false T) v 6 := fold_yes (fs := fs_UpdateMetadataRequest) (v := v) (flex := false) (t := T) (B := D) 5 (by decide) (by decide) (has_yes (show (5 : Int) ≤ v by omega) (show ((-1) : Int) < 0 ∨ v ≤ (-1) by omega)) (by rw [FB_list (f := (fs_UpdateMetadataRequest[5]'(by decide))) (by decide) (by decide) ok294, nn294])
          have hs294 := fold_size e_70 (by decide) hb
          have hc294 : (D ++ plainTo (zipped fs_UpdateMetadataRequest v false T) v 5).length + (counted false false (lT (T.at 5)).length 4).length ≤ LIM := by have h := hs294; simp only [List.length_append] at h ⊢; omega
          refine cl rfl rfl rfl (OutK.cast (k_AppendArrayLen (u := ((lT (T.at 5)).length : Int)) rj_11 hc294) (show _ = D ++ plainTo (zipped fs_UpdateMetadataRequest v false T) v 5 ++ (counted false false (lT (T.at 5)).length 4) from rfl)) rfl (fun v_ H1 L1 hle hR => ?_)
          obtain ⟨rfl, a294, c294, N294, rfl, rfl, h294⟩ := hR
          have r294 := h294.1
          refine asg rfl rfl ?_
          refine nl ?_
          refine sr ?_
          refine mv rfl rfl ?_
          refine ls Tryz.runUnderlying82 rfl rfl ?_
          refine mv rfl rfl ?_
          refine nl ?_
          refine fr ((lT (T.at 5)).length) (fun k5 l' H' L' => ∃ (a_k5 : Option Addr), ∃ (m_k5 : Nat), ∃ (c_k5 : Nat), ∃ (N_k5 : Chunk), [(0, .pointer (some ⟨b, 0, none⟩)), (1, .slice a_k5 m_k5 c_k5), (5, .int .i16 v), (6, .bool (decide ((6 : Int) ≤ v))), (29, .slice a5 (lT (T.at 5)).length c5), (296, .int .i64 ((lT (T.at 5)).length : Int))] = l' ∧ N_k5 :: L = L' ∧ Row 5 1 a_k5 m_k5 c_k5 (bytesOf (D ++ plainTo (zipped fs_UpdateMetadataRequest v false T) v 5 ++ (counted false false (lT (T.at 5)).length 4) ++ ((lT (T.at 5)).take k5).flatMap (GOf (fs_UpdateMetadataRequest[5]'(by decide)) v false))) N_k5 ∧ m_k5 = (D ++ plainTo (zipped fs_UpdateMetadataRequest v false T) v 5 ++ (counted false false (lT (T.at 5)).length 4) ++ ((lT (T.at 5)).take k5).flatMap (GOf (fs_UpdateMetadataRequest[5]'(by decide)) v false)).length) [(0, .pointer (some ⟨b, 0, none⟩)), (1, .slice _ _ _), (5, .int .i16 v), (6, .bool (decide ((6 : Int) ≤ v))), (29, .slice a5 (lT (T.at 5)).length c5), (296, .int .i64 ((lT (T.at 5)).length : Int))] (fun k5 l' H' L' h => ?_) (by omega) rfl (.cons rfl (.cons rfl (.cons rfl (.cons rfl (.cons rfl (.cons rfl (.nil _))))))) ⟨_, _, _, _, rfl, rfl, (by rw [List.take_zero, List.flatMap_nil, List.append_nil]; exact r294), (by rw [List.take_zero, List.flatMap_nil, List.append_nil])⟩ rfl rfl rfl rfl rfl (fun k5 l' H' L' hk5 le_71 hI => ?_) (fun l' H' L' le_72 hI => ?_)
          · obtain ⟨a_k5, m_k5, c_k5, N_k5, rfl, _⟩ := h; exact ⟨rfl, rfl, rfl, rfl⟩
          · skip
            obtain ⟨a_k5, m_k5, c_k5, N_k5, rfl, rfl, pk50, pk51⟩ := hI
            subst pk51
            refine sr ?_
            refine mv rfl rfl ?_
            refine asg rfl rfl ?_
            refine nl ?_
            refine sr ?_
            refine mv rfl rfl ?_
            refine mv rfl rfl ?_
            obtain ⟨b_73, o_74, e_75, g_76⟩ := (hf1.mono At_UpdateMetadataRequestTopicState.mono (le_7.trans (le_12.trans le_71))).rows.at_ (ne_nil_of_lt hk5)
            obtain ⟨cs_77, hA_78, hc_79⟩ := g_76 k5 hk5
            refine ix2 Tryz.runUnderlying82 Tryz.sizeOf154 rfl e_75 rfl rfl hk5 rfl ?_
            obtain ⟨a_k5_2, c_k5_2, m_k5_t, rfl, hf_k5_0, hf_k5_1⟩ := hA_78
            have oek5 := (ok294.el rfl _ (lT_mem (List.getElem_mem hk5))).2 rfl
            obtain ⟨B_k5, hdk5⟩ : ∃ z : List UInt8, z = D ++ plainTo (zipped fs_UpdateMetadataRequest v false T) v 5 ++ (counted false false (lT (T.at 5)).length 4) ++ ((lT (T.at 5)).take k5).flatMap (GOf (fs_UpdateMetadataRequest[5]'(by decide)) v false) := ⟨_, rfl⟩
            have rbk5 := pk50
            rw [← hdk5] at rbk5 ⊢
            have hBk5 : B_k5.length + (partB fs_sUpdateMetadataRequestTopicState v false ((lT (T.at 5))[k5])).length ≤ LIM := by rw [hdk5]; exact el_size hs294 hk5 (GOf_part (by decide) _)
            refine asg rfl rfl ?_
            refine nl ?_
            refine sq ?_
            refine sr ?_
            refine mv rfl rfl ?_
            refine nc rfl rfl ?_
            refine fa F154_0 rfl rfl ?_
            refine ld (Says.fz hc_79) Tryz.isAgg9 rfl (Nat.add_zero _).symm rfl rfl ?_
            refine asg rfl rfl ?_
            refine nl ?_
            refine sr ?_
            refine mv rfl rfl ?_
            refine nl ?_
            refine cdF rfl (by omega) ?_
            refine rg ?_
            refine mv rfl rfl ?_
            refine mv rfl rfl ?_
            have ok313 := oek5.get 0 (by decide) (has_yes (show (0 : Int) ≤ v by omega) (show ((-1) : Int) < 0 ∨ v ≤ (-1) by omega))
            have nn313 := ok313.nn (by decide) (by decide)
            have e_80 : B_k5 ++ (counted false false (((lT (T.at 5))[k5]).at 0).s.length 2 ++ (((lT (T.at 5))[k5]).at 0).s) = B_k5 ++ plainTo (zipped fs_sUpdateMetadataRequestTopicState v false ((lT (T.at 5))[k5])) v 1 := fold_first (fs := fs_sUpdateMetadataRequestTopicState) (v := v) (flex := false) (t := ((lT (T.at 5))[k5])) (B := B_k5) 0 rfl (by decide) (by decide) (has_yes (show (0 : Int) ≤ v by omega) (show ((-1) : Int) < 0 ∨ v ≤ (-1) by omega)) (by rw [FB_text (f := (fs_sUpdateMetadataRequestTopicState[0]'(by decide))) (by decide) (by decide) ok313, sT_nn nn313, nn313])
            have hs313 := fold_size e_80 (by decide) hBk5
            refine cl rfl rfl rfl (OutK.cast (k_AppendString (x := (((lT (T.at 5))[k5]).at 0).s) rbk5 hs313) e_80) rfl (fun v_ H1 L1 hle hR => ?_)
            obtain ⟨rfl, a313, c313, N313, rfl, rfl, h313⟩ := hR
            have r313 := h313.1
            refine asg rfl rfl ?_
            refine nl ?_
            refine sq ?_
            refine sr ?_
            refine mv rfl rfl ?_
            refine ge rfl rfl rfl ?_
            refine nl ?_
            refine cdF rfl (by omega) ?_
            refine skt ?_
            refine sq ?_
            refine sr ?_
            refine mv rfl rfl ?_
            refine nc rfl rfl ?_
            refine fa F154_2 rfl rfl ?_
            refine ld (Says.fz hc_79) Tryz.isAgg81 rfl rfl rfl rfl ?_
            refine asg rfl rfl ?_
            refine nl ?_
            refine sq ?_
            refine sr ?_
            refine mv rfl rfl ?_
            refine nl ?_
            refine cdF rfl (by omega) ?_
            refine rg ?_
            refine mv rfl rfl ?_
            refine mv rfl rfl ?_
            refine ls Tryz.runUnderlying81 rfl rfl ?_
            have es_81 : plainTo (zipped fs_sUpdateMetadataRequestTopicState v false ((lT (T.at 5))[k5])) v 2 = plainTo (zipped fs_sUpdateMetadataRequestTopicState v false ((lT (T.at 5))[k5])) v 1 := (piece_no2 (fs := fs_sUpdateMetadataRequestTopicState) (v := v) (flex := false) (t := ((lT (T.at 5))[k5])) (k := 1) (by decide) (has_no (show v < (7 : Int) ∨ ((0 : Int) ≤ (-1) ∧ (-1) < v) by omega)))
            have eX_82 : B_k5 ++ plainTo (zipped fs_sUpdateMetadataRequestTopicState v false ((lT (T.at 5))[k5])) v 1 = B_k5 ++ plainTo (zipped fs_sUpdateMetadataRequestTopicState v false ((lT (T.at 5))[k5])) v 2 := by rw [es_81]
            have rx_83 := r313
            rw [eX_82] at rx_83 ⊢
            have ok335 := oek5.get 2 (by decide) (has_yes (show (0 : Int) ≤ v by omega) (show ((-1) : Int) < 0 ∨ v ≤ (-1) by omega))
            have nn335 := ok335.nn (by decide) (by decide)
            have ll335 := lT_len (ok335.len rfl)
            have e_84 : B_k5 ++ plainTo (zipped fs_sUpdateMetadataRequestTopicState v false ((lT (T.at 5))[k5])) v 2 ++ (counted false false (lT (((lT (T.at 5))[k5]).at 2)).length 4 ++ (lT (((lT (T.at 5))[k5]).at 2)).flatMap (GOf (fs_sUpdateMetadataRequestTopicState[2]'(by decide)) v false)) = B_k5 ++ plainTo (zipped fs_sUpdateMetadataRequestTopicState v false ((lT (T.at 5))[k5])) v 3 := fold_yes (fs := fs_sUpdateMetadataRequestTopicState) (v := v) (flex := false) (t := ((lT (T.at 5))[k5])) (B := B_k5) 2 (by decide) (by decide) (has_yes (show (0 : Int) ≤ v by omega) (show ((-1) : Int) < 0 ∨ v ≤ (-1) by omega)) (by rw [FB_list (f := (fs_sUpdateMetadataRequestTopicState[2]'(by decide))) (by decide) (by decide) ok335, nn335])
            have hs335 := fold_size e_84 (by decide) hBk5
            have hc335 : (B_k5 ++ plainTo (zipped fs_sUpdateMetadataRequestTopicState v false ((lT (T.at 5))[k5])) v 2).length + (counted false false (lT (((lT (T.at 5))[k5]).at 2)).length 4).length ≤ LIM := by have h := hs335; simp only [List.length_append] at h ⊢; omega
            refine cl rfl rfl rfl (OutK.cast (k_AppendArrayLen (u := ((lT (((lT (T.at 5))[k5]).at 2)).length : Int)) rx_83 hc335) (show _ = B_k5 ++ plainTo (zipped fs_sUpdateMetadataRequestTopicState v false ((lT (T.at 5))[k5])) v 2 ++ (counted false false (lT (((lT (T.at 5))[k5]).at 2)).length 4) from rfl)) rfl (fun v_ H1 L1 hle hR => ?_)
            obtain ⟨rfl, a335, c335, N335, rfl, rfl, h335⟩ := hR
            have r335 := h335.1
            refine asg rfl rfl ?_
            refine nl ?_
            refine sr ?_
            refine mv rfl rfl ?_
            refine ls Tryz.runUnderlying81 rfl rfl ?_
            refine mv rfl rfl ?_
            refine nl ?_
            refine fr ((lT (((lT (T.at 5))[k5]).at 2)).length) (fun k6 l' H' L' => ∃ (a_k6 : Option Addr), ∃ (m_k6 : Nat), ∃ (c_k6 : Nat), ∃ (N_k6 : Chunk), [(0, .pointer (some ⟨b, 0, none⟩)), (1, .slice a_k6 m_k6 c_k6), (5, .int .i16 v), (6, .bool (decide ((6 : Int) ≤ v))), (29, .slice a5 (lT (T.at 5)).length c5), (31, .pointer (some ⟨b_73, o_74 + k5 * 19, none⟩)), (34, .slice a_k5_2 (lT (((lT (T.at 5))[k5]).at 2)).length c_k5_2), (296, .int .i64 ((lT (T.at 5)).length : Int)), (297, .int .i64 (k5 : Int)), (337, .int .i64 ((lT (((lT (T.at 5))[k5]).at 2)).length : Int))] = l' ∧ N_k6 :: L = L' ∧ Row 5 1 a_k6 m_k6 c_k6 (bytesOf (B_k5 ++ plainTo (zipped fs_sUpdateMetadataRequestTopicState v false ((lT (T.at 5))[k5])) v 2 ++ (counted false false (lT (((lT (T.at 5))[k5]).at 2)).length 4) ++ ((lT (((lT (T.at 5))[k5]).at 2)).take k6).flatMap (GOf (fs_sUpdateMetadataRequestTopicState[2]'(by decide)) v false))) N_k6 ∧ m_k6 = (B_k5 ++ plainTo (zipped fs_sUpdateMetadataRequestTopicState v false ((lT (T.at 5))[k5])) v 2 ++ (counted false false (lT (((lT (T.at 5))[k5]).at 2)).length 4) ++ ((lT (((lT (T.at 5))[k5]).at 2)).take k6).flatMap (GOf (fs_sUpdateMetadataRequestTopicState[2]'(by decide)) v false)).length) [(0, .pointer (some ⟨b, 0, none⟩)), (1, .slice _ _ _), (5, .int .i16 v), (6, .bool (decide ((6 : Int) ≤ v))), (29, .slice a5 (lT (T.at 5)).length c5), (31, .pointer (some ⟨b_73, o_74 + k5 * 19, none⟩)), (34, .slice a_k5_2 (lT (((lT (T.at 5))[k5]).at 2)).length c_k5_2), (296, .int .i64 ((lT (T.at 5)).length : Int)), (297, .int .i64 (k5 : Int)), (337, .int .i64 ((lT (((lT (T.at 5))[k5]).at 2)).length : Int))] (fun k6 l' H' L' h => ?_) (by omega) rfl (.cons rfl (.cons rfl (.cons rfl (.cons rfl (.cons rfl (.cons rfl (.cons rfl (.cons rfl (.cons rfl (.cons rfl (.nil _))))))))))) ⟨_, _, _, _, rfl, rfl, (by rw [List.take_zero, List.flatMap_nil, List.append_nil]; exact r335), (by rw [List.take_zero, List.flatMap_nil, List.append_nil])⟩ rfl rfl rfl rfl rfl (fun k6 l' H' L' hk6 le_85 hI => ?_) (fun l' H' L' le_86 hI => ?_)
            · obtain ⟨a_k6, m_k6, c_k6, N_k6, rfl, _⟩ := h; exact ⟨rfl, rfl, rfl, rfl⟩
            · skip
              obtain ⟨a_k6, m_k6, c_k6, N_k6, rfl, rfl, pk60, pk61⟩ := hI
              subst pk61
              refine sr ?_
              refine mv rfl rfl ?_
              refine asg rfl rfl ?_
              refine nl ?_
              refine sr ?_
              refine mv rfl rfl ?_
              refine mv rfl rfl ?_
              obtain ⟨b_87, o_88, e_89, g_90⟩ := (hf_k5_0.mono At_UpdateMetadataRequestTopicPartition.mono le_85).rows.at_ (ne_nil_of_lt hk6)
              obtain ⟨cs_91, hA_92, hc_93⟩ := g_90 k6 hk6
              refine ix2 Tryz.runUnderlying81 Tryz.sizeOf151 rfl e_89 rfl rfl hk6 rfl ?_
              obtain ⟨a_k6_5, c_k6_5, a_k6_7, c_k6_7, a_k6_8, c_k6_8, m_k6_t, rfl, hf_k6_0, hf_k6_1, hf_k6_2, hf_k6_3⟩ := hA_92
              have oek6 := (ok335.el rfl _ (lT_mem (List.getElem_mem hk6))).2 rfl
              obtain ⟨B_k6, hdk6⟩ : ∃ z : List UInt8, z = B_k5 ++ plainTo (zipped fs_sUpdateMetadataRequestTopicState v false ((lT (T.at 5))[k5])) v 2 ++ (counted false false (lT (((lT (T.at 5))[k5]).at 2)).length 4) ++ ((lT (((lT (T.at 5))[k5]).at 2)).take k6).flatMap (GOf (fs_sUpdateMetadataRequestTopicState[2]'(by decide)) v false) := ⟨_, rfl⟩
              have rbk6 := pk60
              rw [← hdk6] at rbk6 ⊢
              have hBk6 : B_k6.length + (partB fs_sUpdateMetadataRequestTopicPartition v false ((lT (((lT (T.at 5))[k5]).at 2))[k6])).length ≤ LIM := by rw [hdk6]; exact el_size hs335 hk6 (GOf_part (by decide) _)
              refine asg rfl rfl ?_
              refine nl ?_
              refine sq ?_
              refine sr ?_
              refine mv rfl rfl ?_
              refine ge rfl rfl rfl ?_
              refine mv rfl rfl ?_
              refine spl (t := 346) rfl (fun _ => ?_) (fun hn_ => absurd (by omega) hn_)
              refine gr rfl rfl ?_
              refine mv rfl rfl ?_
              refine gr rfl rfl ?_
              refine le rfl rfl rfl ?_
              refine pk rfl rfl rfl rfl ?_
              refine nl ?_
              refine cdF rfl (by omega) ?_
              refine skt ?_
              refine sq ?_
              refine sr ?_
              refine mv rfl rfl ?_
              refine nc rfl rfl ?_
              refine fa F151_1 rfl rfl ?_
              refine ld (Says.fz hc_93) Tryz.isAgg21 rfl rfl rfl rfl ?_
              refine asg rfl rfl ?_
              refine nl ?_
              refine rg ?_
              refine mv rfl rfl ?_
              refine mv rfl rfl ?_
              have es_94 : plainTo (zipped fs_sUpdateMetadataRequestTopicPartition v false ((lT (((lT (T.at 5))[k5]).at 2))[k6])) v 1 = plainTo (zipped fs_sUpdateMetadataRequestTopicPartition v false ((lT (((lT (T.at 5))[k5]).at 2))[k6])) v 0 := (piece_no2 (fs := fs_sUpdateMetadataRequestTopicPartition) (v := v) (flex := false) (t := ((lT (((lT (T.at 5))[k5]).at 2))[k6])) (k := 0) (by decide) (has_no (show v < (0 : Int) ∨ ((0 : Int) ≤ 4 ∧ 4 < v) by omega)))
              have ok367 := oek6.get 1 (by decide) (has_yes (show (0 : Int) ≤ v by omega) (show ((-1) : Int) < 0 ∨ v ≤ (-1) by omega))
              have e_95 : B_k6 ++ (fixed (IntKind.i32.wrap (((lT (((lT (T.at 5))[k5]).at 2))[k6]).at 1).n) 4) = B_k6 ++ plainTo (zipped fs_sUpdateMetadataRequestTopicPartition v false ((lT (((lT (T.at 5))[k5]).at 2))[k6])) v 2 := fold_first (fs := fs_sUpdateMetadataRequestTopicPartition) (v := v) (flex := false) (t := ((lT (((lT (T.at 5))[k5]).at 2))[k6])) (B := B_k6) 1 (by rw [es_94]; rfl) (by decide) (by decide) (has_yes (show (0 : Int) ≤ v by omega) (show ((-1) : Int) < 0 ∨ v ≤ (-1) by omega)) ((FB_int (f := (fs_sUpdateMetadataRequestTopicPartition[1]'(by decide))) (by decide) (by decide)).trans (fixed_i32 _).symm)
              have hs367 := fold_size e_95 (by decide) hBk6
              refine cl rfl rfl rfl (OutK.cast (k_AppendInt32 (u := IntKind.i32.wrap (((lT (((lT (T.at 5))[k5]).at 2))[k6]).at 1).n) rbk6 hs367) e_95) rfl (fun v_ H1 L1 hle hR => ?_)
              obtain ⟨rfl, a367, c367, N367, rfl, rfl, h367⟩ := hR
              have r367 := h367.1
              refine asg rfl rfl ?_
              refine nl ?_
              refine sq ?_
              refine sr ?_
              refine mv rfl rfl ?_
              refine nc rfl rfl ?_
              refine fa F151_2 rfl rfl ?_
              refine ld (Says.fz hc_93) Tryz.isAgg21 rfl rfl rfl rfl ?_
              refine asg rfl rfl ?_
              refine nl ?_
              refine rg ?_
              refine mv rfl rfl ?_
              refine mv rfl rfl ?_
              have ok374 := oek6.get 2 (by decide) (has_yes (show (0 : Int) ≤ v by omega) (show ((-1) : Int) < 0 ∨ v ≤ (-1) by omega))
              have e_96 : B_k6 ++ plainTo (zipped fs_sUpdateMetadataRequestTopicPartition v false ((lT (((lT (T.at 5))[k5]).at 2))[k6])) v 2 ++ (fixed (IntKind.i32.wrap (((lT (((lT (T.at 5))[k5]).at 2))[k6]).at 2).n) 4) = B_k6 ++ plainTo (zipped fs_sUpdateMetadataRequestTopicPartition v false ((lT (((lT (T.at 5))[k5]).at 2))[k6])) v 3 := fold_yes (fs := fs_sUpdateMetadataRequestTopicPartition) (v := v) (flex := false) (t := ((lT (((lT (T.at 5))[k5]).at 2))[k6])) (B := B_k6) 2 (by decide) (by decide) (has_yes (show (0 : Int) ≤ v by omega) (show ((-1) : Int) < 0 ∨ v ≤ (-1) by omega)) ((FB_int (f := (fs_sUpdateMetadataRequestTopicPartition[2]'(by decide))) (by decide) (by decide)).trans (fixed_i32 _).symm)
              have hs374 := fold_size e_96 (by decide) hBk6
              refine cl rfl rfl rfl (OutK.cast (k_AppendInt32 (u := IntKind.i32.wrap (((lT (((lT (T.at 5))[k5]).at 2))[k6]).at 2).n) r367 hs374) e_96) rfl (fun v_ H1 L1 hle hR => ?_)
              obtain ⟨rfl, a374, c374, N374, rfl, rfl, h374⟩ := hR
              have r374 := h374.1
              refine asg rfl rfl ?_
              refine nl ?_
              refine sq ?_
              refine sr ?_
              refine mv rfl rfl ?_
              refine nc rfl rfl ?_
              refine fa F151_3 rfl rfl ?_
              refine ld (Says.fz hc_93) Tryz.isAgg21 rfl rfl rfl rfl ?_
              refine asg rfl rfl ?_
              refine nl ?_
              refine rg ?_
              refine mv rfl rfl ?_
              refine mv rfl rfl ?_
              have ok381 := oek6.get 3 (by decide) (has_yes (show (0 : Int) ≤ v by omega) (show ((-1) : Int) < 0 ∨ v ≤ (-1) by omega))
              have e_97 : B_k6 ++ plainTo (zipped fs_sUpdateMetadataRequestTopicPartition v false ((lT (((lT (T.at 5))[k5]).at 2))[k6])) v 3 ++ (fixed (IntKind.i32.wrap (((lT (((lT (T.at 5))[k5]).at 2))[k6]).at 3).n) 4) = B_k6 ++ plainTo (zipped fs_sUpdateMetadataRequestTopicPartition v false ((lT (((lT (T.at 5))[k5]).at 2))[k6])) v 4 := fold_yes (fs := fs_sUpdateMetadataRequestTopicPartition) (v := v) (flex := false) (t := ((lT (((lT (T.at 5))[k5]).at 2))[k6])) (B := B_k6) 3 (by decide) (by decide) (has_yes (show (0 : Int) ≤ v by omega) (show ((-1) : Int) < 0 ∨ v ≤ (-1) by omega)) ((FB_int (f := (fs_sUpdateMetadataRequestTopicPartition[3]'(by decide))) (by decide) (by decide)).trans (fixed_i32 _).symm)
              have hs381 := fold_size e_97 (by decide) hBk6
              refine cl rfl rfl rfl (OutK.cast (k_AppendInt32 (u := IntKind.i32.wrap (((lT (((lT (T.at 5))[k5]).at 2))[k6]).at 3).n) r374 hs381) e_97) rfl (fun v_ H1 L1 hle hR => ?_)
              obtain ⟨rfl, a381, c381, N381, rfl, rfl, h381⟩ := hR
              have r381 := h381.1
              refine asg rfl rfl ?_
              refine nl ?_
              refine sq ?_
              refine sr ?_
              refine mv rfl rfl ?_
              refine nc rfl rfl ?_
              refine fa F151_4 rfl rfl ?_
              refine ld (Says.fz hc_93) Tryz.isAgg21 rfl rfl rfl rfl ?_
              refine asg rfl rfl ?_
              refine nl ?_
              refine rg ?_
              refine mv rfl rfl ?_
              refine mv rfl rfl ?_
              have ok388 := oek6.get 4 (by decide) (has_yes (show (0 : Int) ≤ v by omega) (show ((-1) : Int) < 0 ∨ v ≤ (-1) by omega))
              have e_98 : B_k6 ++ plainTo (zipped fs_sUpdateMetadataRequestTopicPartition v false ((lT (((lT (T.at 5))[k5]).at 2))[k6])) v 4 ++ (fixed (IntKind.i32.wrap (((lT (((lT (T.at 5))[k5]).at 2))[k6]).at 4).n) 4) = B_k6 ++ plainTo (zipped fs_sUpdateMetadataRequestTopicPartition v false ((lT (((lT (T.at 5))[k5]).at 2))[k6])) v 5 := fold_yes (fs := fs_sUpdateMetadataRequestTopicPartition) (v := v) (flex := false) (t := ((lT (((lT (T.at 5))[k5]).at 2))[k6])) (B := B_k6) 4 (by decide) (by decide) (has_yes (show (0 : Int) ≤ v by omega) (show ((-1) : Int) < 0 ∨ v ≤ (-1) by omega)) ((FB_int (f := (fs_sUpdateMetadataRequestTopicPartition[4]'(by decide))) (by decide) (by decide)).trans (fixed_i32 _).symm)
              have hs388 := fold_size e_98 (by decide) hBk6
              refine cl rfl rfl rfl (OutK.cast (k_AppendInt32 (u := IntKind.i32.wrap (((lT (((lT (T.at 5))[k5]).at 2))[k6]).at 4).n) r381 hs388) e_98) rfl (fun v_ H1 L1 hle hR => ?_)
              obtain ⟨rfl, a388, c388, N388, rfl, rfl, h388⟩ := hR
              have r388 := h388.1
              refine asg rfl rfl ?_
              refine nl ?_
              refine sq ?_
              refine sr ?_
              refine mv rfl rfl ?_
              refine nc rfl rfl ?_
              refine fa F151_5 rfl rfl ?_
              refine ld (Says.fz hc_93) Tryz.isAgg149 rfl rfl rfl rfl ?_
              refine asg rfl rfl ?_
              refine nl ?_
              refine sq ?_
              refine sr ?_
              refine mv rfl rfl ?_
              refine nl ?_
              refine cdF rfl (by omega) ?_
              refine rg ?_
              refine mv rfl rfl ?_
              refine mv rfl rfl ?_
              refine ls Tryz.runUnderlying149 rfl rfl ?_
              have ok401 := oek6.get 5 (by decide) (has_yes (show (0 : Int) ≤ v by omega) (show ((-1) : Int) < 0 ∨ v ≤ (-1) by omega))
              have nn401 := ok401.nn (by decide) (by decide)
              have ll401 := lT_len (ok401.len rfl)
              have e_99 : B_k6 ++ plainTo (zipped fs_sUpdateMetadataRequestTopicPartition v false ((lT (((lT (T.at 5))[k5]).at 2))[k6])) v 5 ++ (counted false false (lT (((lT (((lT (T.at 5))[k5]).at 2))[k6]).at 5)).length 4 ++ (lT (((lT (((lT (T.at 5))[k5]).at 2))[k6]).at 5)).flatMap (GOf (fs_sUpdateMetadataRequestTopicPartition[5]'(by decide)) v false)) = B_k6 ++ plainTo (zipped fs_sUpdateMetadataRequestTopicPartition v false ((lT (((lT (T.at 5))[k5]).at 2))[k6])) v 6 := fold_yes (fs := fs_sUpdateMetadataRequestTopicPartition) (v := v) (flex := false) (t := ((lT (((lT (T.at 5))[k5]).at 2))[k6])) (B := B_k6) 5 (by decide) (by decide) (has_yes (show (0 : Int) ≤ v by omega) (show ((-1) : Int) < 0 ∨ v ≤ (-1) by omega)) (by rw [FB_list (f := (fs_sUpdateMetadataRequestTopicPartition[5]'(by decide))) (by decide) (by decide) ok401, nn401])
              have hs401 := fold_size e_99 (by decide) hBk6
              have hc401 : (B_k6 ++ plainTo (zipped fs_sUpdateMetadataRequestTopicPartition v false ((lT (((lT (T.at 5))[k5]).at 2))[k6])) v 5).length + (counted false false (lT (((lT (((lT (T.at 5))[k5]).at 2))[k6]).at 5)).length 4).length ≤ LIM := by have h := hs401; simp only [List.length_append] at h ⊢; omega
              refine cl rfl rfl rfl (OutK.cast (k_AppendArrayLen (u := ((lT (((lT (((lT (T.at 5))[k5]).at 2))[k6]).at 5)).length : Int)) r388 hc401) (show _ = B_k6 ++ plainTo (zipped fs_sUpdateMetadataRequestTopicPartition v false ((lT (((lT (T.at 5))[k5]).at 2))[k6])) v 5 ++ (counted false false (lT (((lT (((lT (T.at 5))[k5]).at 2))[k6]).at 5)).length 4) from rfl)) rfl (fun v_ H1 L1 hle hR => ?_)
              obtain ⟨rfl, a401, c401, N401, rfl, rfl, h401⟩ := hR
              have r401 := h401.1
              refine asg rfl rfl ?_
              refine nl ?_
              refine sr ?_
              refine mv rfl rfl ?_
              refine ls Tryz.runUnderlying149 rfl rfl ?_
              refine mv rfl rfl ?_
              refine nl ?_
              refine fr ((lT (((lT (((lT (T.at 5))[k5]).at 2))[k6]).at 5)).length) (fun k7 l' H' L' => ∃ (a_k7 : Option Addr), ∃ (m_k7 : Nat), ∃ (c_k7 : Nat), ∃ (N_k7 : Chunk), [(0, .pointer (some ⟨b, 0, none⟩)), (1, .slice a_k7 m_k7 c_k7), (5, .int .i16 v), (6, .bool (decide ((6 : Int) ≤ v))), (29, .slice a5 (lT (T.at 5)).length c5), (31, .pointer (some ⟨b_73, o_74 + k5 * 19, none⟩)), (34, .slice a_k5_2 (lT (((lT (T.at 5))[k5]).at 2)).length c_k5_2), (36, .pointer (some ⟨b_87, o_88 + k6 * 10, none⟩)), (42, .slice a_k6_5 (lT (((lT (((lT (T.at 5))[k5]).at 2))[k6]).at 5)).length c_k6_5), (296, .int .i64 ((lT (T.at 5)).length : Int)), (297, .int .i64 (k5 : Int)), (337, .int .i64 ((lT (((lT (T.at 5))[k5]).at 2)).length : Int)), (338, .int .i64 (k6 : Int)), (403, .int .i64 ((lT (((lT (((lT (T.at 5))[k5]).at 2))[k6]).at 5)).length : Int))] = l' ∧ N_k7 :: L = L' ∧ Row 5 1 a_k7 m_k7 c_k7 (bytesOf (B_k6 ++ plainTo (zipped fs_sUpdateMetadataRequestTopicPartition v false ((lT (((lT (T.at 5))[k5]).at 2))[k6])) v 5 ++ (counted false false (lT (((lT (((lT (T.at 5))[k5]).at 2))[k6]).at 5)).length 4) ++ ((lT (((lT (((lT (T.at 5))[k5]).at 2))[k6]).at 5)).take k7).flatMap (GOf (fs_sUpdateMetadataRequestTopicPartition[5]'(by decide)) v false))) N_k7 ∧ m_k7 = (B_k6 ++ plainTo (zipped fs_sUpdateMetadataRequestTopicPartition v false ((lT (((lT (T.at 5))[k5]).at 2))[k6])) v 5 ++ (counted false false (lT (((lT (((lT (T.at 5))[k5]).at 2))[k6]).at 5)).length 4) ++ ((lT (((lT (((lT (T.at 5))[k5]).at 2))[k6]).at 5)).take k7).flatMap (GOf (fs_sUpdateMetadataRequestTopicPartition[5]'(by decide)) v false)).length) [(0, .pointer (some ⟨b, 0, none⟩)), (1, .slice _ _ _), (5, .int .i16 v), (6, .bool (decide ((6 : Int) ≤ v))), (29, .slice a5 (lT (T.at 5)).length c5), (31, .pointer (some ⟨b_73, o_74 + k5 * 19, none⟩)), (34, .slice a_k5_2 (lT (((lT (T.at 5))[k5]).at 2)).length c_k5_2), (36, .pointer (some ⟨b_87, o_88 + k6 * 10, none⟩)), (42, .slice a_k6_5 (lT (((lT (((lT (T.at 5))[k5]).at 2))[k6]).at 5)).length c_k6_5), (296, .int .i64 ((lT (T.at 5)).length : Int)), (297, .int .i64 (k5 : Int)), (337, .int .i64 ((lT (((lT (T.at 5))[k5]).at 2)).length : Int)), (338, .int .i64 (k6 : Int)), (403, .int .i64 ((lT (((lT (((lT (T.at 5))[k5]).at 2))[k6]).at 5)).length : Int))] (fun k7 l' H' L' h => ?_) (by omega) rfl (.cons rfl (.cons rfl (.cons rfl (.cons rfl (.cons rfl (.cons rfl (.cons rfl (.cons rfl (.cons rfl (.cons rfl (.cons rfl (.cons rfl (.cons rfl (.cons rfl (.nil _))))))))))))))) ⟨_, _, _, _, rfl, rfl, (by rw [List.take_zero, List.flatMap_nil, List.append_nil]; exact r401), (by rw [List.take_zero, List.flatMap_nil, List.append_nil])⟩ rfl rfl rfl rfl rfl (fun k7 l' H' L' hk7 le_100 hI => ?_) (fun l' H' L' le_101 hI => ?_)
              · obtain ⟨a_k7, m_k7, c_k7, N_k7, rfl, _⟩ := h; exact ⟨rfl, rfl, rfl, rfl⟩
              · skip
                obtain ⟨a_k7, m_k7, c_k7, N_k7, rfl, rfl, pk70, pk71⟩ := hI
                subst pk71
                refine sr ?_
                refine mv rfl rfl ?_
                refine asg rfl rfl ?_
                refine nl ?_
                refine sr ?_
                refine mv rfl rfl ?_
                refine mv rfl rfl ?_
                obtain ⟨b_102, o_103, e_104, g_105⟩ := (hf_k6_0.mono RI32.mono le_100).rows.at_ (ne_nil_of_lt hk7)
                obtain ⟨cs_106, hA_107, hc_108⟩ := g_105 k7 hk7
                refine ix2 Tryz.runUnderlying149 Tryz.sizeOf21 rfl e_104 rfl rfl hk7 rfl ?_
                obtain rfl := hA_107
                refine ld (Says.fz hc_108) Tryz.isAgg21 rfl (Nat.add_zero _).symm rfl rfl ?_
                refine asg rfl rfl ?_
                refine nl ?_
                refine rg ?_
                refine mv rfl rfl ?_
                refine mv rfl rfl ?_
                have hp413 : (GOf (fs_sUpdateMetadataRequestTopicPartition[5]'(by decide)) v false) ((lT (((lT (((lT (T.at 5))[k5]).at 2))[k6]).at 5))[k7]) = fixed (IntKind.i32.wrap ((lT (((lT (((lT (T.at 5))[k5]).at 2))[k6]).at 5))[k7]).n) 4 := (G_int (f := (fs_sUpdateMetadataRequestTopicPartition[5]'(by decide))) (by decide) (by decide) _).trans (fixed_i32 _).symm
                have hs413 := el_size hs401 hk7 hp413
                have ee413 := el_end (B0 := B_k6 ++ plainTo (zipped fs_sUpdateMetadataRequestTopicPartition v false ((lT (((lT (T.at 5))[k5]).at 2))[k6])) v 5 ++ (counted false false (lT (((lT (((lT (T.at 5))[k5]).at 2))[k6]).at 5)).length 4)) hk7 hp413
                refine cl rfl rfl rfl (OutK.cast (k_AppendInt32 (u := IntKind.i32.wrap ((lT (((lT (((lT (T.at 5))[k5]).at 2))[k6]).at 5))[k7]).n) pk70 hs413) ee413) rfl (fun v_ H1 L1 hle hR => ?_)
                obtain ⟨rfl, a413, c413, N413, rfl, rfl, h413⟩ := hR
                have r413 := h413.1
                refine asg rfl rfl ?_
                refine nN ?_
                refine Nb ?_
                refine fun a_ w_ hA hw => ⟨_, _, _, hA.sub ?_, le_100, hw, _, rfl, _, _, _, _, rfl, rfl, r413, rfl⟩
                exact (.cons rfl (.cons rfl (.cons rfl (.cons rfl (.cons rfl (.cons rfl (.cons rfl (.cons rfl (.cons rfl (.cons rfl (.cons rfl (.cons rfl (.cons rfl (.cons rfl (.cons rfl (.nil _))))))))))))))))
              · skip
                obtain ⟨a_k7, m_k7, c_k7, N_k7, rfl, rfl, pk70, pk71⟩ := hI
                refine toWp ?_
                have eL401 : B_k6 ++ plainTo (zipped fs_sUpdateMetadataRequestTopicPartition v false ((lT (((lT (T.at 5))[k5]).at 2))[k6])) v 5 ++ (counted false false (lT (((lT (((lT (T.at 5))[k5]).at 2))[k6]).at 5)).length 4) ++ ((lT (((lT (((lT (T.at 5))[k5]).at 2))[k6]).at 5)).take (lT (((lT (((lT (T.at 5))[k5]).at 2))[k6]).at 5)).length).flatMap (GOf (fs_sUpdateMetadataRequestTopicPartition[5]'(by decide)) v false) = B_k6 ++ plainTo (zipped fs_sUpdateMetadataRequestTopicPartition v false ((lT (((lT (T.at 5))[k5]).at 2))[k6])) v 6 := by rw [List.take_length, List.append_assoc]; exact e_99
                rw [eL401] at pk70 pk71
                subst pk71
                refine sq ?_
                refine sr ?_
                refine mv rfl rfl ?_
                refine nc rfl rfl ?_
                refine fa F151_6 rfl rfl ?_
                refine ld (Says.fz (hc_93.mono le_101)) Tryz.isAgg21 rfl rfl rfl rfl ?_
                refine asg rfl rfl ?_
                refine nl ?_
                refine rg ?_
                refine mv rfl rfl ?_
                refine mv rfl rfl ?_
                have ok421 := oek6.get 6 (by decide) (has_yes (show (0 : Int) ≤ v by omega) (show ((-1) : Int) < 0 ∨ v ≤ (-1) by omega))
                have e_109 : B_k6 ++ plainTo (zipped fs_sUpdateMetadataRequestTopicPartition v false ((lT (((lT (T.at 5))[k5]).at 2))[k6])) v 6 ++ (fixed (IntKind.i32.wrap (((lT (((lT (T.at 5))[k5]).at 2))[k6]).at 6).n) 4) = B_k6 ++ plainTo (zipped fs_sUpdateMetadataRequestTopicPartition v false ((lT (((lT (T.at 5))[k5]).at 2))[k6])) v 7 := fold_yes (fs := fs_sUpdateMetadataRequestTopicPartition) (v := v) (flex := false) (t := ((lT (((lT (T.at 5))[k5]).at 2))[k6])) (B := B_k6) 6 (by decide) (by decide) (has_yes (show (0 : Int) ≤ v by omega) (show ((-1) : Int) < 0 ∨ v ≤ (-1) by omega)) ((FB_int (f := (fs_sUpdateMetadataRequestTopicPartition[6]'(by decide))) (by decide) (by decide)).trans (fixed_i32 _).symm)
                have hs421 := fold_size e_109 (by decide) hBk6
                refine cl rfl rfl rfl (OutK.cast (k_AppendInt32 (u := IntKind.i32.wrap (((lT (((lT (T.at 5))[k5]).at 2))[k6]).at 6).n) pk70 hs421) e_109) rfl (fun v_ H1 L1 hle hR => ?_)
                obtain ⟨rfl, a421, c421, N421, rfl, rfl, h421⟩ := hR
                have r421 := h421.1
                refine asg rfl rfl ?_
                refine nl ?_
                refine sq ?_
                refine sr ?_
                refine mv rfl rfl ?_
                refine nc rfl rfl ?_
                refine fa F151_7 rfl rfl ?_
                refine ld (Says.fz (hc_93.mono le_101)) Tryz.isAgg149 rfl rfl rfl rfl ?_
                refine asg rfl rfl ?_
                refine nl ?_
                refine sq ?_
                refine sr ?_
                refine mv rfl rfl ?_
                refine nl ?_
                refine cdF rfl (by omega) ?_
                refine rg ?_
                refine mv rfl rfl ?_
                refine mv rfl rfl ?_
                refine ls Tryz.runUnderlying149 rfl rfl ?_
                have ok434 := oek6.get 7 (by decide) (has_yes (show (0 : Int) ≤ v by omega) (show ((-1) : Int) < 0 ∨ v ≤ (-1) by omega))
                have nn434 := ok434.nn (by decide) (by decide)
                have ll434 := lT_len (ok434.len rfl)
                have e_110 : B_k6 ++ plainTo (zipped fs_sUpdateMetadataRequestTopicPartition v false ((lT (((lT (T.at 5))[k5]).at 2))[k6])) v 7 ++ (counted false false (lT (((lT (((lT (T.at 5))[k5]).at 2))[k6]).at 7)).length 4 ++ (lT (((lT (((lT (T.at 5))[k5]).at 2))[k6]).at 7)).flatMap (GOf (fs_sUpdateMetadataRequestTopicPartition[7]'(by decide)) v false)) = B_k6 ++ plainTo (zipped fs_sUpdateMetadataRequestTopicPartition v false ((lT (((lT (T.at 5))[k5]).at 2))[k6])) v 8 := fold_yes (fs := fs_sUpdateMetadataRequestTopicPartition) (v := v) (flex := false) (t := ((lT (((lT (T.at 5))[k5]).at 2))[k6])) (B := B_k6) 7 (by decide) (by decide) (has_yes (show (0 : Int) ≤ v by omega) (show ((-1) : Int) < 0 ∨ v ≤ (-1) by omega)) (by rw [FB_list (f := (fs_sUpdateMetadataRequestTopicPartition[7]'(by decide))) (by decide) (by decide) ok434, nn434])
                have hs434 := fold_size e_110 (by decide) hBk6
                have hc434 : (B_k6 ++ plainTo (zipped fs_sUpdateMetadataRequestTopicPartition v false ((lT (((lT (T.at 5))[k5]).at 2))[k6])) v 7).length + (counted false false (lT (((lT (((lT (T.at 5))[k5]).at 2))[k6]).at 7)).length 4).length ≤ LIM := by have h := hs434; simp only [List.length_append] at h ⊢; omega
                refine cl rfl rfl rfl (OutK.cast (k_AppendArrayLen (u := ((lT (((lT (((lT (T.at 5))[k5]).at 2))[k6]).at 7)).length : Int)) r421 hc434) (show _ = B_k6 ++ plainTo (zipped fs_sUpdateMetadataRequestTopicPartition v false ((lT (((lT (T.at 5))[k5]).at 2))[k6])) v 7 ++ (counted false false (lT (((lT (((lT (T.at 5))[k5]).at 2))[k6]).at 7)).length 4) from rfl)) rfl (fun v_ H1 L1 hle hR => ?_)
                obtain ⟨rfl, a434, c434, N434, rfl, rfl, h434⟩ := hR
                have r434 := h434.1
                refine asg rfl rfl ?_
                refine nl ?_
                refine sr ?_
                refine mv rfl rfl ?_
                refine ls Tryz.runUnderlying149 rfl rfl ?_
                refine mv rfl rfl ?_
                refine nl ?_
                refine fr ((lT (((lT (((lT (T.at 5))[k5]).at 2))[k6]).at 7)).length) (fun k8 l' H' L' => ∃ (a_k8 : Option Addr), ∃ (m_k8 : Nat), ∃ (c_k8 : Nat), ∃ (N_k8 : Chunk), [(0, .pointer (some ⟨b, 0, none⟩)), (1, .slice a_k8 m_k8 c_k8), (5, .int .i16 v), (6, .bool (decide ((6 : Int) ≤ v))), (29, .slice a5 (lT (T.at 5)).length c5), (31, .pointer (some ⟨b_73, o_74 + k5 * 19, none⟩)), (34, .slice a_k5_2 (lT (((lT (T.at 5))[k5]).at 2)).length c_k5_2), (36, .pointer (some ⟨b_87, o_88 + k6 * 10, none⟩)), (46, .slice a_k6_7 (lT (((lT (((lT (T.at 5))[k5]).at 2))[k6]).at 7)).length c_k6_7), (296, .int .i64 ((lT (T.at 5)).length : Int)), (297, .int .i64 (k5 : Int)), (337, .int .i64 ((lT (((lT (T.at 5))[k5]).at 2)).length : Int)), (338, .int .i64 (k6 : Int)), (436, .int .i64 ((lT (((lT (((lT (T.at 5))[k5]).at 2))[k6]).at 7)).length : Int))] = l' ∧ N_k8 :: L = L' ∧ Row 5 1 a_k8 m_k8 c_k8 (bytesOf (B_k6 ++ plainTo (zipped fs_sUpdateMetadataRequestTopicPartition v false ((lT (((lT (T.at 5))[k5]).at 2))[k6])) v 7 ++ (counted false false (lT (((lT (((lT (T.at 5))[k5]).at 2))[k6]).at 7)).length 4) ++ ((lT (((lT (((lT (T.at 5))[k5]).at 2))[k6]).at 7)).take k8).flatMap (GOf (fs_sUpdateMetadataRequestTopicPartition[7]'(by decide)) v false))) N_k8 ∧ m_k8 = (B_k6 ++ plainTo (zipped fs_sUpdateMetadataRequestTopicPartition v false ((lT (((lT (T.at 5))[k5]).at 2))[k6])) v 7 ++ (counted false false (lT (((lT (((lT (T.at 5))[k5]).at 2))[k6]).at 7)).length 4) ++ ((lT (((lT (((lT (T.at 5))[k5]).at 2))[k6]).at 7)).take k8).flatMap (GOf (fs_sUpdateMetadataRequestTopicPartition[7]'(by decide)) v false)).length) [(0, .pointer (some ⟨b, 0, none⟩)), (1, .slice _ _ _), (5, .int .i16 v), (6, .bool (decide ((6 : Int) ≤ v))), (29, .slice a5 (lT (T.at 5)).length c5), (31, .pointer (some ⟨b_73, o_74 + k5 * 19, none⟩)), (34, .slice a_k5_2 (lT (((lT (T.at 5))[k5]).at 2)).length c_k5_2), (36, .pointer (some ⟨b_87, o_88 + k6 * 10, none⟩)), (46, .slice a_k6_7 (lT (((lT (((lT (T.at 5))[k5]).at 2))[k6]).at 7)).length c_k6_7), (296, .int .i64 ((lT (T.at 5)).length : Int)), (297, .int .i64 (k5 : Int)), (337, .int .i64 ((lT (((lT (T.at 5))[k5]).at 2)).length : Int)), (338, .int .i64 (k6 : Int)), (436, .int .i64 ((lT (((lT (((lT (T.at 5))[k5]).at 2))[k6]).at 7)).length : Int))] (fun k8 l' H' L' h => ?_) (by omega) rfl (.cons rfl (.cons rfl (.cons rfl (.cons rfl (.cons rfl (.cons rfl (.cons rfl (.cons rfl (.cons rfl (.cons rfl (.cons rfl (.cons rfl (.cons rfl (.cons rfl (.nil _))))))))))))))) ⟨_, _, _, _, rfl, rfl, (by rw [List.take_zero, List.flatMap_nil, List.append_nil]; exact r434), (by rw [List.take_zero, List.flatMap_nil, List.append_nil])⟩ rfl rfl rfl rfl rfl (fun k8 l' H' L' hk8 le_111 hI => ?_) (fun l' H' L' le_112 hI => ?_)
                · obtain ⟨a_k8, m_k8, c_k8, N_k8, rfl, _⟩ := h; exact ⟨rfl, rfl, rfl, rfl⟩
                · skip
                  obtain ⟨a_k8, m_k8, c_k8, N_k8, rfl, rfl, pk80, pk81⟩ := hI
                  subst pk81
                  refine sr ?_
                  refine mv rfl rfl ?_
                  refine asg rfl rfl ?_
                  refine nl ?_
                  refine sr ?_
                  refine mv rfl rfl ?_
                  refine mv rfl rfl ?_
                  obtain ⟨b_113, o_114, e_115, g_116⟩ := (hf_k6_1.mono RI32.mono (le_101.trans le_111)).rows.at_ (ne_nil_of_lt hk8)
                  obtain ⟨cs_117, hA_118, hc_119⟩ := g_116 k8 hk8
                  refine ix2 Tryz.runUnderlying149 Tryz.sizeOf21 rfl e_115 rfl rfl hk8 rfl ?_
                  obtain rfl := hA_118
                  refine ld (Says.fz hc_119) Tryz.isAgg21 rfl (Nat.add_zero _).symm rfl rfl ?_
                  refine asg rfl rfl ?_
                  refine nl ?_
                  refine rg ?_
                  refine mv rfl rfl ?_
                  refine mv rfl rfl ?_
                  have hp446 : (GOf (fs_sUpdateMetadataRequestTopicPartition[7]'(by decide)) v false) ((lT (((lT (((lT (T.at 5))[k5]).at 2))[k6]).at 7))[k8]) = fixed (IntKind.i32.wrap ((lT (((lT (((lT (T.at 5))[k5]).at 2))[k6]).at 7))[k8]).n) 4 := (G_int (f := (fs_sUpdateMetadataRequestTopicPartition[7]'(by decide))) (by decide) (by decide) _).trans (fixed_i32 _).symm
                  have hs446 := el_size hs434 hk8 hp446
                  have ee446 := el_end (B0 := B_k6 ++ plainTo (zipped fs_sUpdateMetadataRequestTopicPartition v false ((lT (((lT (T.at 5))[k5]).at 2))[k6])) v 7 ++ (counted false false (lT (((lT (((lT (T.at 5))[k5]).at 2))[k6]).at 7)).length 4)) hk8 hp446
                  refine cl rfl rfl rfl (OutK.cast (k_AppendInt32 (u := IntKind.i32.wrap ((lT (((lT (((lT (T.at 5))[k5]).at 2))[k6]).at 7))[k8]).n) pk80 hs446) ee446) rfl (fun v_ H1 L1 hle hR => ?_)
                  obtain ⟨rfl, a446, c446, N446, rfl, rfl, h446⟩ := hR
                  have r446 := h446.1
                  refine asg rfl rfl ?_
                  refine nN ?_
                  refine Nb ?_
                  refine fun a_ w_ hA hw => ⟨_, _, _, hA.sub ?_, le_111, hw, _, rfl, _, _, _, _, rfl, rfl, r446, rfl⟩
                  exact (.cons rfl (.cons rfl (.cons rfl (.cons rfl (.cons rfl (.cons rfl (.cons rfl (.cons rfl (.cons rfl (.cons rfl (.cons rfl (.cons rfl (.cons rfl (.cons rfl (.cons rfl (.nil _))))))))))))))))
                · skip
                  obtain ⟨a_k8, m_k8, c_k8, N_k8, rfl, rfl, pk80, pk81⟩ := hI
                  refine toWp ?_
                  have eL434 : B_k6 ++ plainTo (zipped fs_sUpdateMetadataRequestTopicPartition v false ((lT (((lT (T.at 5))[k5]).at 2))[k6])) v 7 ++ (counted false false (lT (((lT (((lT (T.at 5))[k5]).at 2))[k6]).at 7)).length 4) ++ ((lT (((lT (((lT (T.at 5))[k5]).at 2))[k6]).at 7)).take (lT (((lT (((lT (T.at 5))[k5]).at 2))[k6]).at 7)).length).flatMap (GOf (fs_sUpdateMetadataRequestTopicPartition[7]'(by decide)) v false) = B_k6 ++ plainTo (zipped fs_sUpdateMetadataRequestTopicPartition v false ((lT (((lT (T.at 5))[k5]).at 2))[k6])) v 8 := by rw [List.take_length, List.append_assoc]; exact e_110
                  rw [eL434] at pk80 pk81
                  subst pk81
                  refine sq ?_
                  refine sr ?_
                  refine mv rfl rfl ?_
                  refine ge rfl rfl rfl ?_
                  refine nl ?_
                  refine cdT rfl (by omega) ?_
                  refine sr ?_
                  refine mv rfl rfl ?_
                  refine nc rfl rfl ?_
                  refine fa F151_8 rfl rfl ?_
                  refine ld (Says.fz (hc_93.mono (le_101.trans le_112))) Tryz.isAgg149 rfl rfl rfl rfl ?_
                  refine asg rfl rfl ?_
                  refine nl ?_
                  refine sq ?_
                  refine sr ?_
                  refine mv rfl rfl ?_
                  refine nl ?_
                  refine cdF rfl (by omega) ?_
                  refine rg ?_
                  refine mv rfl rfl ?_
                  refine mv rfl rfl ?_
                  refine ls Tryz.runUnderlying149 rfl rfl ?_
                  have ok462 := oek6.get 8 (by decide) (has_yes (show (4 : Int) ≤ v by omega) (show ((-1) : Int) < 0 ∨ v ≤ (-1) by omega))
                  have nn462 := ok462.nn (by decide) (by decide)
                  have ll462 := lT_len (ok462.len rfl)
                  have e_120 : B_k6 ++ plainTo (zipped fs_sUpdateMetadataRequestTopicPartition v false ((lT (((lT (T.at 5))[k5]).at 2))[k6])) v 8 ++ (counted false false (lT (((lT (((lT (T.at 5))[k5]).at 2))[k6]).at 8)).length 4 ++ (lT (((lT (((lT (T.at 5))[k5]).at 2))[k6]).at 8)).flatMap (GOf (fs_sUpdateMetadataRequestTopicPartition[8]'(by decide)) v false)) = B_k6 ++ plainTo (zipped fs_sUpdateMetadataRequestTopicPartition v false ((lT (((lT (T.at 5))[k5]).at 2))[k6])) v 9 := fold_yes (fs := fs_sUpdateMetadataRequestTopicPartition) (v := v) (flex := false) (t := ((lT (((lT (T.at 5))[k5]).at 2))[k6])) (B := B_k6) 8 (by decide) (by decide) (has_yes (show (4 : Int) ≤ v by omega) (show ((-1) : Int) < 0 ∨ v ≤ (-1) by omega)) (by rw [FB_list (f := (fs_sUpdateMetadataRequestTopicPartition[8]'(by decide))) (by decide) (by decide) ok462, nn462])
                  have hs462 := fold_size e_120 (by decide) hBk6
                  have hc462 : (B_k6 ++ plainTo (zipped fs_sUpdateMetadataRequestTopicPartition v false ((lT (((lT (T.at 5))[k5]).at 2))[k6])) v 8).length + (counted false false (lT (((lT (((lT (T.at 5))[k5]).at 2))[k6]).at 8)).length 4).length ≤ LIM := by have h := hs462; simp only [List.length_append] at h ⊢; omega
                  refine cl rfl rfl rfl (OutK.cast (k_AppendArrayLen (u := ((lT (((lT (((lT (T.at 5))[k5]).at 2))[k6]).at 8)).length : Int)) pk80 hc462) (show _ = B_k6 ++ plainTo (zipped fs_sUpdateMetadataRequestTopicPartition v false ((lT (((lT (T.at 5))[k5]).at 2))[k6])) v 8 ++ (counted false false (lT (((lT (((lT (T.at 5))[k5]).at 2))[k6]).at 8)).length 4) from rfl)) rfl (fun v_ H1 L1 hle hR => ?_)
                  obtain ⟨rfl, a462, c462, N462, rfl, rfl, h462⟩ := hR
                  have r462 := h462.1
                  refine asg rfl rfl ?_
                  refine nl ?_
                  refine sr ?_
                  refine mv rfl rfl ?_
                  refine ls Tryz.runUnderlying149 rfl rfl ?_
                  refine mv rfl rfl ?_
                  refine nl ?_
                  refine fr ((lT (((lT (((lT (T.at 5))[k5]).at 2))[k6]).at 8)).length) (fun k9 l' H' L' => ∃ (a_k9 : Option Addr), ∃ (m_k9 : Nat), ∃ (c_k9 : Nat), ∃ (N_k9 : Chunk), [(0, .pointer (some ⟨b, 0, none⟩)), (1, .slice a_k9 m_k9 c_k9), (5, .int .i16 v), (6, .bool (decide ((6 : Int) ≤ v))), (29, .slice a5 (lT (T.at 5)).length c5), (31, .pointer (some ⟨b_73, o_74 + k5 * 19, none⟩)), (34, .slice a_k5_2 (lT (((lT (T.at 5))[k5]).at 2)).length c_k5_2), (36, .pointer (some ⟨b_87, o_88 + k6 * 10, none⟩)), (49, .slice a_k6_8 (lT (((lT (((lT (T.at 5))[k5]).at 2))[k6]).at 8)).length c_k6_8), (296, .int .i64 ((lT (T.at 5)).length : Int)), (297, .int .i64 (k5 : Int)), (337, .int .i64 ((lT (((lT (T.at 5))[k5]).at 2)).length : Int)), (338, .int .i64 (k6 : Int)), (464, .int .i64 ((lT (((lT (((lT (T.at 5))[k5]).at 2))[k6]).at 8)).length : Int))] = l' ∧ N_k9 :: L = L' ∧ Row 5 1 a_k9 m_k9 c_k9 (bytesOf (B_k6 ++ plainTo (zipped fs_sUpdateMetadataRequestTopicPartition v false ((lT (((lT (T.at 5))[k5]).at 2))[k6])) v 8 ++ (counted false false (lT (((lT (((lT (T.at 5))[k5]).at 2))[k6]).at 8)).length 4) ++ ((lT (((lT (((lT (T.at 5))[k5]).at 2))[k6]).at 8)).take k9).flatMap (GOf (fs_sUpdateMetadataRequestTopicPartition[8]'(by decide)) v false))) N_k9 ∧ m_k9 = (B_k6 ++ plainTo (zipped fs_sUpdateMetadataRequestTopicPartition v false ((lT (((lT (T.at 5))[k5]).at 2))[k6])) v 8 ++ (counted false false (lT (((lT (((lT (T.at 5))[k5]).at 2))[k6]).at 8)).length 4) ++ ((lT (((lT (((lT (T.at 5))[k5]).at 2))[k6]).at 8)).take k9).flatMap (GOf (fs_sUpdateMetadataRequestTopicPartition[8]'(by decide)) v false)).length) [(0, .pointer (some ⟨b, 0, none⟩)), (1, .slice _ _ _), (5, .int .i16 v), (6, .bool (decide ((6 : Int) ≤ v))), (29, .slice a5 (lT (T.at 5)).length c5), (31, .pointer (some ⟨b_73, o_74 + k5 * 19, none⟩)), (34, .slice a_k5_2 (lT (((lT (T.at 5))[k5]).at 2)).length c_k5_2), (36, .pointer (some ⟨b_87, o_88 + k6 * 10, none⟩)), (49, .slice a_k6_8 (lT (((lT (((lT (T.at 5))[k5]).at 2))[k6]).at 8)).length c_k6_8), (296, .int .i64 ((lT (T.at 5)).length : Int)), (297, .int .i64 (k5 : Int)), (337, .int .i64 ((lT (((lT (T.at 5))[k5]).at 2)).length : Int)), (338, .int .i64 (k6 : Int)), (464, .int .i64 ((lT (((lT (((lT (T.at 5))[k5]).at 2))[k6]).at 8)).length : Int))] (fun k9 l' H' L' h => ?_) (by omega) rfl (.cons rfl (.cons rfl (.cons rfl (.cons rfl (.cons rfl (.cons rfl (.cons rfl (.cons rfl (.cons rfl (.cons rfl (.cons rfl (.cons rfl (.cons rfl (.cons rfl (.nil _))))))))))))))) ⟨_, _, _, _, rfl, rfl, (by rw [List.take_zero, List.flatMap_nil, List.append_nil]; exact r462), (by rw [List.take_zero, List.flatMap_nil, List.append_nil])⟩ rfl rfl rfl rfl rfl (fun k9 l' H' L' hk9 le_121 hI => ?_) (fun l' H' L' le_122 hI => ?_)
                  · obtain ⟨a_k9, m_k9, c_k9, N_k9, rfl, _⟩ := h; exact ⟨rfl, rfl, rfl, rfl⟩
                  · skip
                    obtain ⟨a_k9, m_k9, c_k9, N_k9, rfl, rfl, pk90, pk91⟩ := hI
                    subst pk91
                    refine sr ?_
                    refine mv rfl rfl ?_
                    refine asg rfl rfl ?_
                    refine nl ?_
                    refine sr ?_
                    refine mv rfl rfl ?_
                    refine mv rfl rfl ?_
                    obtain ⟨b_123, o_124, e_125, g_126⟩ := (hf_k6_2.mono RI32.mono (le_101.trans (le_112.trans le_121))).rows.at_ (ne_nil_of_lt hk9)
                    obtain ⟨cs_127, hA_128, hc_129⟩ := g_126 k9 hk9
                    refine ix2 Tryz.runUnderlying149 Tryz.sizeOf21 rfl e_125 rfl rfl hk9 rfl ?_
                    obtain rfl := hA_128
                    refine ld (Says.fz hc_129) Tryz.isAgg21 rfl (Nat.add_zero _).symm rfl rfl ?_
                    refine asg rfl rfl ?_
                    refine nl ?_
                    refine rg ?_
                    refine mv rfl rfl ?_
                    refine mv rfl rfl ?_
                    have hp474 : (GOf (fs_sUpdateMetadataRequestTopicPartition[8]'(by decide)) v false) ((lT (((lT (((lT (T.at 5))[k5]).at 2))[k6]).at 8))[k9]) = fixed (IntKind.i32.wrap ((lT (((lT (((lT (T.at 5))[k5]).at 2))[k6]).at 8))[k9]).n) 4 := (G_int (f := (fs_sUpdateMetadataRequestTopicPartition[8]'(by decide))) (by decide) (by decide) _).trans (fixed_i32 _).symm
                    have hs474 := el_size hs462 hk9 hp474
                    have ee474 := el_end (B0 := B_k6 ++ plainTo (zipped fs_sUpdateMetadataRequestTopicPartition v false ((lT (((lT (T.at 5))[k5]).at 2))[k6])) v 8 ++ (counted false false (lT (((lT (((lT (T.at 5))[k5]).at 2))[k6]).at 8)).length 4)) hk9 hp474
                    refine cl rfl rfl rfl (OutK.cast (k_AppendInt32 (u := IntKind.i32.wrap ((lT (((lT (((lT (T.at 5))[k5]).at 2))[k6]).at 8))[k9]).n) pk90 hs474) ee474) rfl (fun v_ H1 L1 hle hR => ?_)
                    obtain ⟨rfl, a474, c474, N474, rfl, rfl, h474⟩ := hR
                    have r474 := h474.1
                    refine asg rfl rfl ?_
                    refine nN ?_
                    refine Nb ?_
                    refine fun a_ w_ hA hw => ⟨_, _, _, hA.sub ?_, le_121, hw, _, rfl, _, _, _, _, rfl, rfl, r474, rfl⟩
                    exact (.cons rfl (.cons rfl (.cons rfl (.cons rfl (.cons rfl (.cons rfl (.cons rfl (.cons rfl (.cons rfl (.cons rfl (.cons rfl (.cons rfl (.cons rfl (.cons rfl (.cons rfl (.nil _))))))))))))))))
                  · skip
                    obtain ⟨a_k9, m_k9, c_k9, N_k9, rfl, rfl, pk90, pk91⟩ := hI
                    refine toWp ?_
                    have eL462 : B_k6 ++ plainTo (zipped fs_sUpdateMetadataRequestTopicPartition v false ((lT (((lT (T.at 5))[k5]).at 2))[k6])) v 8 ++ (counted false false (lT (((lT (((lT (T.at 5))[k5]).at 2))[k6]).at 8)).length 4) ++ ((lT (((lT (((lT (T.at 5))[k5]).at 2))[k6]).at 8)).take (lT (((lT (((lT (T.at 5))[k5]).at 2))[k6]).at 8)).length).flatMap (GOf (fs_sUpdateMetadataRequestTopicPartition[8]'(by decide)) v false) = B_k6 ++ plainTo (zipped fs_sUpdateMetadataRequestTopicPartition v false ((lT (((lT (T.at 5))[k5]).at 2))[k6])) v 9 := by rw [List.take_length, List.append_assoc]; exact e_120
                    rw [eL462] at pk90 pk91
                    subst pk91
                    refine sr ?_
                    refine mv rfl rfl ?_
                    refine nl ?_
                    refine cdF rfl (by omega) ?_
                    refine skN ?_
                    refine Nb ?_
                    have eP_130 : B_k6 ++ plainTo (zipped fs_sUpdateMetadataRequestTopicPartition v false ((lT (((lT (T.at 5))[k5]).at 2))[k6])) v 9 = B_k6 ++ partB fs_sUpdateMetadataRequestTopicPartition v false ((lT (((lT (T.at 5))[k5]).at 2))[k6]) := by rw [partB_false]; rfl
                    have rp_131 := pk90
                    rw [eP_130] at rp_131 ⊢
                    have ee_132 : B_k6 ++ partB fs_sUpdateMetadataRequestTopicPartition v false ((lT (((lT (T.at 5))[k5]).at 2))[k6]) = B_k5 ++ plainTo (zipped fs_sUpdateMetadataRequestTopicState v false ((lT (T.at 5))[k5])) v 2 ++ (counted false false (lT (((lT (T.at 5))[k5]).at 2)).length 4) ++ ((lT (((lT (T.at 5))[k5]).at 2)).take (k6 + 1)).flatMap (GOf (fs_sUpdateMetadataRequestTopicState[2]'(by decide)) v false) := by rw [hdk6]; exact el_end (B0 := B_k5 ++ plainTo (zipped fs_sUpdateMetadataRequestTopicState v false ((lT (T.at 5))[k5])) v 2 ++ (counted false false (lT (((lT (T.at 5))[k5]).at 2)).length 4)) (G := (GOf (fs_sUpdateMetadataRequestTopicState[2]'(by decide)) v false)) hk6 (GOf_part (by decide) _)
                    refine fun a_ w_ hA hw => ⟨_, _, _, hA.sub ?_, (le_85.trans (le_101.trans (le_112.trans le_122))), hw, _, rfl, _, _, _, _, rfl, rfl, (by rw [← ee_132]; exact rp_131), (by rw [← ee_132])⟩
                    exact (.cons rfl (.cons rfl (.cons rfl (.cons rfl (.cons rfl (.cons rfl (.cons rfl (.cons rfl (.cons rfl (.cons rfl (.cons rfl (.nil _))))))))))))
            · skip
              obtain ⟨a_k6, m_k6, c_k6, N_k6, rfl, rfl, pk60, pk61⟩ := hI
              refine toWp ?_
              have eL335 : B_k5 ++ plainTo (zipped fs_sUpdateMetadataRequestTopicState v false ((lT (T.at 5))[k5])) v 2 ++ (counted false false (lT (((lT (T.at 5))[k5]).at 2)).length 4) ++ ((lT (((lT (T.at 5))[k5]).at 2)).take (lT (((lT (T.at 5))[k5]).at 2)).length).flatMap (GOf (fs_sUpdateMetadataRequestTopicState[2]'(by decide)) v false) = B_k5 ++ plainTo (zipped fs_sUpdateMetadataRequestTopicState v false ((lT (T.at 5))[k5])) v 3 := by rw [List.take_length, List.append_assoc]; exact e_84
              rw [eL335] at pk60 pk61
              subst pk61
              refine sr ?_
              refine mv rfl rfl ?_
              refine nl ?_
              refine cdF rfl (by omega) ?_
              refine skN ?_
              refine Nb ?_
              have eP_133 : B_k5 ++ plainTo (zipped fs_sUpdateMetadataRequestTopicState v false ((lT (T.at 5))[k5])) v 3 = B_k5 ++ partB fs_sUpdateMetadataRequestTopicState v false ((lT (T.at 5))[k5]) := by rw [partB_false]; rfl
              have rp_134 := pk60
              rw [eP_133] at rp_134 ⊢
              have ee_135 : B_k5 ++ partB fs_sUpdateMetadataRequestTopicState v false ((lT (T.at 5))[k5]) = D ++ plainTo (zipped fs_UpdateMetadataRequest v false T) v 5 ++ (counted false false (lT (T.at 5)).length 4) ++ ((lT (T.at 5)).take (k5 + 1)).flatMap (GOf (fs_UpdateMetadataRequest[5]'(by decide)) v false) := by rw [hdk5]; exact el_end (B0 := D ++ plainTo (zipped fs_UpdateMetadataRequest v false T) v 5 ++ (counted false false (lT (T.at 5)).length 4)) (G := (GOf (fs_UpdateMetadataRequest[5]'(by decide)) v false)) hk5 (GOf_part (by decide) _)
              refine fun a_ w_ hA hw => ⟨_, _, _, hA.sub ?_, (le_71.trans le_86), hw, _, rfl, _, _, _, _, rfl, rfl, (by rw [← ee_135]; exact rp_134), (by rw [← ee_135])⟩
              exact (.cons rfl (.cons rfl (.cons rfl (.cons rfl (.cons rfl (.cons rfl (.cons rfl (.nil _))))))))
          · skip
            obtain ⟨a_k5, m_k5, c_k5, N_k5, rfl, rfl, pk50, pk51⟩ := hI
            refine toNn ?_
            have eL294 : D ++ plainTo (zipped fs_UpdateMetadataRequest v false T) v 5 ++ (counted false false (lT (T.at 5)).length 4) ++ ((lT (T.at 5)).take (lT (T.at 5)).length).flatMap (GOf (fs_UpdateMetadataRequest[5]'(by decide)) v false) = D ++ plainTo (zipped fs_UpdateMetadataRequest v false T) v 6 := by rw [List.take_length, List.append_assoc]; exact e_70
            rw [eL294] at pk50 pk51
            subst pk51
            refine fun a_ w_ hA hw => ⟨_, _, _, hA.sub ?_, le_72, hw, _, _, _, _, rfl, rfl, pk50, rfl⟩
            exact (.cons rfl (.cons rfl (.cons rfl (.cons rfl (.nil _)))))
        · skip
          refine skN ?_
          have es_136 : plainTo (zipped fs_UpdateMetadataRequest v false T) v 6 = plainTo (zipped fs_UpdateMetadataRequest v false T) v 5 := (piece_no2 (fs := fs_UpdateMetadataRequest) (v := v) (flex := false) (t := T) (k := 5) (by decide) (has_no (show v < (5 : Int) ∨ ((0 : Int) ≤ (-1) ∧ (-1) < v) by omega)))
          have eX_137 : D ++ plainTo (zipped fs_UpdateMetadataRequest v false T) v 5 = D ++ plainTo (zipped fs_UpdateMetadataRequest v false T) v 6 := by rw [es_136]
          refine fun a_ w_ hA hw => ⟨_, _, _, hA.sub ?_, (Fz.le.refl _), hw, _, _, _, _, rfl, rfl, (by rw [← eX_137]; exact rj_11), (by rw [← eX_137])⟩
          exact (.cons rfl (.cons rfl (.cons rfl (.cons rfl (.nil _)))))
      · skip
        obtain ⟨aj_68, mj_68, cj_68, Nj_68, rfl, rfl, pj0, pj1⟩ := hI
        subst pj1
        have rj_68 := pj0
        refine sq ?_
        refine sr ?_
        refine mv rfl rfl ?_
        refine nc rfl rfl ?_
        refine fa0 F85_7 rfl rfl ?_
        refine ld (Says.fz (hv.mono (le_7.trans (le_12.trans le_69)))) Tryz.isAgg83 rfl (Nat.zero_add _).symm rfl rfl ?_
        refine asg rfl rfl ?_
        refine nl ?_
        refine sq ?_
        refine sr ?_
        refine mv rfl rfl ?_
        refine nl ?_
        refine cdF rfl (by omega) ?_
        refine rg ?_
        refine mv rfl rfl ?_
        refine mv rfl rfl ?_
        refine ls Tryz.runUnderlying83 rfl rfl ?_
        have ok518 := hok.get 6 (by decide) (has_yes (show (0 : Int) ≤ v by omega) (show ((-1) : Int) < 0 ∨ v ≤ (-1) by omega))
        have nn518 := ok518.nn (by decide) (by decide)
        have ll518 := lT_len (ok518.len rfl)
        have e_138 : D ++ plainTo (zipped fs_UpdateMetadataRequest v false T) v 6 ++ (counted false false (lT (T.at 6)).length 4 ++ (lT (T.at 6)).flatMap (GOf (fs_UpdateMetadataRequest[6]'(by decide)) v false)) = D ++ plainTo (zipped fs_UpdateMetadataRequest v false T) v 7 := fold_yes (fs := fs_UpdateMetadataRequest) (v := v) (flex := false) (t := T) (B := D) 6 (by decide) (by decide) (has_yes (show (0 : Int) ≤ v by omega) (show ((-1) : Int) < 0 ∨ v ≤ (-1) by omega)) (by rw [FB_list (f := (fs_UpdateMetadataRequest[6]'(by decide))) (by decide) (by decide) ok518, nn518])
        have hs518 := fold_size e_138 (by decide) hb
        have hc518 : (D ++ plainTo (zipped fs_UpdateMetadataRequest v false T) v 6).length + (counted false false (lT (T.at 6)).length 4).length ≤ LIM := by have h := hs518; simp only [List.length_append] at h ⊢; omega
        refine cl rfl rfl rfl (OutK.cast (k_AppendArrayLen (u := ((lT (T.at 6)).length : Int)) rj_68 hc518) (show _ = D ++ plainTo (zipped fs_UpdateMetadataRequest v false T) v 6 ++ (counted false false (lT (T.at 6)).length 4) from rfl)) rfl (fun v_ H1 L1 hle hR => ?_)
        obtain ⟨rfl, a518, c518, N518, rfl, rfl, h518⟩ := hR
        have r518 := h518.1
        refine asg rfl rfl ?_
        refine nl ?_
        refine sr ?_
        refine mv rfl rfl ?_
        refine ls Tryz.runUnderlying83 rfl rfl ?_
        refine mv rfl rfl ?_
        refine nl ?_
        refine fr ((lT (T.at 6)).length) (fun k10 l' H' L' => ∃ (a_k10 : Option Addr), ∃ (m_k10 : Nat), ∃ (c_k10 : Nat), ∃ (N_k10 : Chunk), [(0, .pointer (some ⟨b, 0, none⟩)), (1, .slice a_k10 m_k10 c_k10), (5, .int .i16 v), (6, .bool (decide ((6 : Int) ≤ v))), (52, .slice a6 (lT (T.at 6)).length c6), (520, .int .i64 ((lT (T.at 6)).length : Int))] = l' ∧ N_k10 :: L = L' ∧ Row 5 1 a_k10 m_k10 c_k10 (bytesOf (D ++ plainTo (zipped fs_UpdateMetadataRequest v false T) v 6 ++ (counted false false (lT (T.at 6)).length 4) ++ ((lT (T.at 6)).take k10).flatMap (GOf (fs_UpdateMetadataRequest[6]'(by decide)) v false))) N_k10 ∧ m_k10 = (D ++ plainTo (zipped fs_UpdateMetadataRequest v false T) v 6 ++ (counted false false (lT (T.at 6)).length 4) ++ ((lT (T.at 6)).take k10).flatMap (GOf (fs_UpdateMetadataRequest[6]'(by decide)) v false)).length) [(0, .pointer (some ⟨b, 0, none⟩)), (1, .slice _ _ _), (5, .int .i16 v), (6, .bool (decide ((6 : Int) ≤ v))), (52, .slice a6 (lT (T.at 6)).length c6), (520, .int .i64 ((lT (T.at 6)).length : Int))] (fun k10 l' H' L' h => ?_) (by omega) rfl (.cons rfl (.cons rfl (.cons rfl (.cons rfl (.cons rfl (.cons rfl (.nil _))))))) ⟨_, _, _, _, rfl, rfl, (by rw [List.take_zero, List.flatMap_nil, List.append_nil]; exact r518), (by rw [List.take_zero, List.flatMap_nil, List.append_nil])⟩ rfl rfl rfl rfl rfl (fun k10 l' H' L' hk10 le_139 hI => ?_) (fun l' H' L' le_140 hI => ?_)
        · obtain ⟨a_k10, m_k10, c_k10, N_k10, rfl, _⟩ := h; exact ⟨rfl, rfl, rfl, rfl⟩
        · skip
          obtain ⟨a_k10, m_k10, c_k10, N_k10, rfl, rfl, pk100, pk101⟩ := hI
          subst pk101
          refine sr ?_
          refine mv rfl rfl ?_
          refine asg rfl rfl ?_
          refine nl ?_
          refine sr ?_
          refine mv rfl rfl ?_
          refine mv rfl rfl ?_
          obtain ⟨b_141, o_142, e_143, g_144⟩ := (hf2.mono At_UpdateMetadataRequestLiveBroker.mono (le_7.trans (le_12.trans (le_69.trans le_139)))).rows.at_ (ne_nil_of_lt hk10)
          obtain ⟨cs_145, hA_146, hc_147⟩ := g_144 k10 hk10
          refine ix2 Tryz.runUnderlying83 Tryz.sizeOf158 rfl e_143 rfl rfl hk10 rfl ?_
          obtain ⟨a_k10_3, c_k10_3, p_k10_4, m_k10_t, rfl, hf_k10_0, hf_k10_1, hf_k10_2⟩ := hA_146
          have oek10 := (ok518.el rfl _ (lT_mem (List.getElem_mem hk10))).2 rfl
          obtain ⟨B_k10, hdk10⟩ : ∃ z : List UInt8, z = D ++ plainTo (zipped fs_UpdateMetadataRequest v false T) v 6 ++ (counted false false (lT (T.at 6)).length 4) ++ ((lT (T.at 6)).take k10).flatMap (GOf (fs_UpdateMetadataRequest[6]'(by decide)) v false) := ⟨_, rfl⟩
          have rbk10 := pk100
          rw [← hdk10] at rbk10 ⊢
          have hBk10 : B_k10.length + (partB fs_sUpdateMetadataRequestLiveBroker v false ((lT (T.at 6))[k10])).length ≤ LIM := by rw [hdk10]; exact el_size hs518 hk10 (GOf_part (by decide) _)
          refine asg rfl rfl ?_
          refine nl ?_
          refine sq ?_
          refine sr ?_
          refine mv rfl rfl ?_
          refine nc rfl rfl ?_
          refine fa F158_0 rfl rfl ?_
          refine ld (Says.fz hc_147) Tryz.isAgg21 rfl (Nat.add_zero _).symm rfl rfl ?_
          refine asg rfl rfl ?_
          refine nl ?_
          refine rg ?_
          refine mv rfl rfl ?_
          refine mv rfl rfl ?_
          have ok533 := oek10.get 0 (by decide) (has_yes (show (0 : Int) ≤ v by omega) (show ((-1) : Int) < 0 ∨ v ≤ (-1) by omega))
          have e_148 : B_k10 ++ (fixed (IntKind.i32.wrap (((lT (T.at 6))[k10]).at 0).n) 4) = B_k10 ++ plainTo (zipped fs_sUpdateMetadataRequestLiveBroker v false ((lT (T.at 6))[k10])) v 1 := fold_first (fs := fs_sUpdateMetadataRequestLiveBroker) (v := v) (flex := false) (t := ((lT (T.at 6))[k10])) (B := B_k10) 0 rfl (by decide) (by decide) (has_yes (show (0 : Int) ≤ v by omega) (show ((-1) : Int) < 0 ∨ v ≤ (-1) by omega)) ((FB_int (f := (fs_sUpdateMetadataRequestLiveBroker[0]'(by decide))) (by decide) (by decide)).trans (fixed_i32 _).symm)
          have hs533 := fold_size e_148 (by decide) hBk10
          refine cl rfl rfl rfl (OutK.cast (k_AppendInt32 (u := IntKind.i32.wrap (((lT (T.at 6))[k10]).at 0).n) rbk10 hs533) e_148) rfl (fun v_ H1 L1 hle hR => ?_)
          obtain ⟨rfl, a533, c533, N533, rfl, rfl, h533⟩ := hR
          have r533 := h533.1
          refine asg rfl rfl ?_
          refine nl ?_
          refine sq ?_
          refine sr ?_
          refine mv rfl rfl ?_
          refine ge rfl rfl rfl ?_
          refine mv rfl rfl ?_
          refine spl (t := 536) rfl (fun _ => ?_) (fun hn_ => absurd (by omega) hn_)
          refine gr rfl rfl ?_
          refine mv rfl rfl ?_
          refine gr rfl rfl ?_
          refine le rfl rfl rfl ?_
          refine pk rfl rfl rfl rfl ?_
          refine nl ?_
          refine cutT (fun l' H' L' => ∃ (aj_149 : Option Addr), ∃ (mj_149 : Nat), ∃ (cj_149 : Nat), ∃ (Nj_149 : Chunk), [(0, .pointer (some ⟨b, 0, none⟩)), (1, .slice aj_149 mj_149 cj_149), (5, .int .i16 v), (6, .bool (decide ((6 : Int) ≤ v))), (52, .slice a6 (lT (T.at 6)).length c6), (54, .pointer (some ⟨b_141, o_142 + k10 * 6, none⟩)), (520, .int .i64 ((lT (T.at 6)).length : Int)), (521, .int .i64 (k10 : Int))] = l' ∧ Nj_149 :: L = L' ∧ Row 5 1 aj_149 mj_149 cj_149 (bytesOf (B_k10 ++ plainTo (zipped fs_sUpdateMetadataRequestLiveBroker v false ((lT (T.at 6))[k10])) v 2)) Nj_149 ∧ mj_149 = (B_k10 ++ plainTo (zipped fs_sUpdateMetadataRequestLiveBroker v false ((lT (T.at 6))[k10])) v 2).length) ?_ (fun l' H' L' le_150 hI => ?_)
          · skip
            refine cd rfl (fun h539 => ?_) (fun h539 => ?_)
            · skip
              refine sr ?_
              refine mv rfl rfl ?_
              refine nc rfl rfl ?_
              refine fa F158_1 rfl rfl ?_
              refine ld (Says.fz hc_147) Tryz.isAgg9 rfl rfl rfl rfl ?_
              refine asg rfl rfl ?_
              refine nl ?_
              refine sr ?_
              refine mv rfl rfl ?_
              refine nl ?_
              refine cdF rfl (by omega) ?_
              refine rg ?_
              refine mv rfl rfl ?_
              refine mv rfl rfl ?_
              have ok550 := oek10.get 1 (by decide) (has_yes (show (0 : Int) ≤ v by omega) (show (0 : Int) < 0 ∨ v ≤ 0 by omega))
              have nn550 := ok550.nn (by decide) (by decide)
              have e_151 : B_k10 ++ plainTo (zipped fs_sUpdateMetadataRequestLiveBroker v false ((lT (T.at 6))[k10])) v 1 ++ (counted false false (((lT (T.at 6))[k10]).at 1).s.length 2 ++ (((lT (T.at 6))[k10]).at 1).s) = B_k10 ++ plainTo (zipped fs_sUpdateMetadataRequestLiveBroker v false ((lT (T.at 6))[k10])) v 2 := fold_yes (fs := fs_sUpdateMetadataRequestLiveBroker) (v := v) (flex := false) (t := ((lT (T.at 6))[k10])) (B := B_k10) 1 (by decide) (by decide) (has_yes (show (0 : Int) ≤ v by omega) (show (0 : Int) < 0 ∨ v ≤ 0 by omega)) (by rw [FB_text (f := (fs_sUpdateMetadataRequestLiveBroker[1]'(by decide))) (by decide) (by decide) ok550, sT_nn nn550, nn550])
              have hs550 := fold_size e_151 (by decide) hBk10
              refine cl rfl rfl rfl (OutK.cast (k_AppendString (x := (((lT (T.at 6))[k10]).at 1).s) r533 hs550) e_151) rfl (fun v_ H1 L1 hle hR => ?_)
              obtain ⟨rfl, a550, c550, N550, rfl, rfl, h550⟩ := hR
              have r550 := h550.1
              refine asg rfl rfl ?_
              refine nN ?_
              refine fun a_ w_ hA hw => ⟨_, _, _, hA.sub ?_, (Fz.le.refl _), hw, _, _, _, _, rfl, rfl, r550, rfl⟩
              exact (.cons rfl (.cons rfl (.cons rfl (.cons rfl (.cons rfl (.cons rfl (.cons rfl (.cons rfl (.nil _)))))))))
            · skip
              refine skN ?_
              have es_152 : plainTo (zipped fs_sUpdateMetadataRequestLiveBroker v false ((lT (T.at 6))[k10])) v 2 = plainTo (zipped fs_sUpdateMetadataRequestLiveBroker v false ((lT (T.at 6))[k10])) v 1 := (piece_no2 (fs := fs_sUpdateMetadataRequestLiveBroker) (v := v) (flex := false) (t := ((lT (T.at 6))[k10])) (k := 1) (by decide) (has_no (show v < (0 : Int) ∨ ((0 : Int) ≤ 0 ∧ 0 < v) by omega)))
              have eX_153 : B_k10 ++ plainTo (zipped fs_sUpdateMetadataRequestLiveBroker v false ((lT (T.at 6))[k10])) v 1 = B_k10 ++ plainTo (zipped fs_sUpdateMetadataRequestLiveBroker v false ((lT (T.at 6))[k10])) v 2 := by rw [es_152]
              refine fun a_ w_ hA hw => ⟨_, _, _, hA.sub ?_, (Fz.le.refl _), hw, _, _, _, _, rfl, rfl, (by rw [← eX_153]; exact r533), (by rw [← eX_153])⟩
              exact (.cons rfl (.cons rfl (.cons rfl (.cons rfl (.cons rfl (.cons rfl (.cons rfl (.cons rfl (.nil _)))))))))
          · skip
            obtain ⟨aj_149, mj_149, cj_149, Nj_149, rfl, rfl, pj0, pj1⟩ := hI
            subst pj1
            have rj_149 := pj0
            refine sq ?_
            refine sr ?_
            refine mv rfl rfl ?_
            refine ge rfl rfl rfl ?_
            refine mv rfl rfl ?_
            refine spl (t := 553) rfl (fun _ => ?_) (fun hn_ => absurd (by omega) hn_)
            refine gr rfl rfl ?_
            refine mv rfl rfl ?_
            refine gr rfl rfl ?_
            refine le rfl rfl rfl ?_
            refine pk rfl rfl rfl rfl ?_
            refine nl ?_
            refine cutT (fun l' H' L' => ∃ (aj_154 : Option Addr), ∃ (mj_154 : Nat), ∃ (cj_154 : Nat), ∃ (Nj_154 : Chunk), [(0, .pointer (some ⟨b, 0, none⟩)), (1, .slice aj_154 mj_154 cj_154), (5, .int .i16 v), (6, .bool (decide ((6 : Int) ≤ v))), (52, .slice a6 (lT (T.at 6)).length c6), (54, .pointer (some ⟨b_141, o_142 + k10 * 6, none⟩)), (520, .int .i64 ((lT (T.at 6)).length : Int)), (521, .int .i64 (k10 : Int))] = l' ∧ Nj_154 :: L = L' ∧ Row 5 1 aj_154 mj_154 cj_154 (bytesOf (B_k10 ++ plainTo (zipped fs_sUpdateMetadataRequestLiveBroker v false ((lT (T.at 6))[k10])) v 3)) Nj_154 ∧ mj_154 = (B_k10 ++ plainTo (zipped fs_sUpdateMetadataRequestLiveBroker v false ((lT (T.at 6))[k10])) v 3).length) ?_ (fun l' H' L' le_155 hI => ?_)
            · skip
              refine cd rfl (fun h556 => ?_) (fun h556 => ?_)
              · skip
                refine sr ?_
                refine mv rfl rfl ?_
                refine nc rfl rfl ?_
                refine fa F158_2 rfl rfl ?_
                refine ld (Says.fz (hc_147.mono le_150)) Tryz.isAgg21 rfl rfl rfl rfl ?_
                refine asg rfl rfl ?_
                refine nl ?_
                refine rg ?_
                refine mv rfl rfl ?_
                refine mv rfl rfl ?_
                have ok563 := oek10.get 2 (by decide) (has_yes (show (0 : Int) ≤ v by omega) (show (0 : Int) < 0 ∨ v ≤ 0 by omega))
                have e_156 : B_k10 ++ plainTo (zipped fs_sUpdateMetadataRequestLiveBroker v false ((lT (T.at 6))[k10])) v 2 ++ (fixed (IntKind.i32.wrap (((lT (T.at 6))[k10]).at 2).n) 4) = B_k10 ++ plainTo (zipped fs_sUpdateMetadataRequestLiveBroker v false ((lT (T.at 6))[k10])) v 3 := fold_yes (fs := fs_sUpdateMetadataRequestLiveBroker) (v := v) (flex := false) (t := ((lT (T.at 6))[k10])) (B := B_k10) 2 (by decide) (by decide) (has_yes (show (0 : Int) ≤ v by omega) (show (0 : Int) < 0 ∨ v ≤ 0 by omega)) ((FB_int (f := (fs_sUpdateMetadataRequestLiveBroker[2]'(by decide))) (by decide) (by decide)).trans (fixed_i32 _).symm)
                have hs563 := fold_size e_156 (by decide) hBk10
                refine cl rfl rfl rfl (OutK.cast (k_AppendInt32 (u := IntKind.i32.wrap (((lT (T.at 6))[k10]).at 2).n) rj_149 hs563) e_156) rfl (fun v_ H1 L1 hle hR => ?_)
                obtain ⟨rfl, a563, c563, N563, rfl, rfl, h563⟩ := hR
                have r563 := h563.1
                refine asg rfl rfl ?_
                refine nN ?_
                refine fun a_ w_ hA hw => ⟨_, _, _, hA.sub ?_, (Fz.le.refl _), hw, _, _, _, _, rfl, rfl, r563, rfl⟩
                exact (.cons rfl (.cons rfl (.cons rfl (.cons rfl (.cons rfl (.cons rfl (.cons rfl (.cons rfl (.nil _)))))))))
              · skip
                refine skN ?_
                have es_157 : plainTo (zipped fs_sUpdateMetadataRequestLiveBroker v false ((lT (T.at 6))[k10])) v 3 = plainTo (zipped fs_sUpdateMetadataRequestLiveBroker v false ((lT (T.at 6))[k10])) v 2 := (piece_no2 (fs := fs_sUpdateMetadataRequestLiveBroker) (v := v) (flex := false) (t := ((lT (T.at 6))[k10])) (k := 2) (by decide) (has_no (show v < (0 : Int) ∨ ((0 : Int) ≤ 0 ∧ 0 < v) by omega)))
                have eX_158 : B_k10 ++ plainTo (zipped fs_sUpdateMetadataRequestLiveBroker v false ((lT (T.at 6))[k10])) v 2 = B_k10 ++ plainTo (zipped fs_sUpdateMetadataRequestLiveBroker v false ((lT (T.at 6))[k10])) v 3 := by rw [es_157]
                refine fun a_ w_ hA hw => ⟨_, _, _, hA.sub ?_, (Fz.le.refl _), hw, _, _, _, _, rfl, rfl, (by rw [← eX_158]; exact rj_149), (by rw [← eX_158])⟩
                exact (.cons rfl (.cons rfl (.cons rfl (.cons rfl (.cons rfl (.cons rfl (.cons rfl (.cons rfl (.nil _)))))))))
            · skip
              obtain ⟨aj_154, mj_154, cj_154, Nj_154, rfl, rfl, pj0, pj1⟩ := hI
              subst pj1
              have rj_154 := pj0
              refine sq ?_
              refine sr ?_
              refine mv rfl rfl ?_
              refine ge rfl rfl rfl ?_
              refine nl ?_
              refine cutT (fun l' H' L' => ∃ (aj_159 : Option Addr), ∃ (mj_159 : Nat), ∃ (cj_159 : Nat), ∃ (Nj_159 : Chunk), [(0, .pointer (some ⟨b, 0, none⟩)), (1, .slice aj_159 mj_159 cj_159), (5, .int .i16 v), (6, .bool (decide ((6 : Int) ≤ v))), (52, .slice a6 (lT (T.at 6)).length c6), (54, .pointer (some ⟨b_141, o_142 + k10 * 6, none⟩)), (520, .int .i64 ((lT (T.at 6)).length : Int)), (521, .int .i64 (k10 : Int))] = l' ∧ Nj_159 :: L = L' ∧ Row 5 1 aj_159 mj_159 cj_159 (bytesOf (B_k10 ++ plainTo (zipped fs_sUpdateMetadataRequestLiveBroker v false ((lT (T.at 6))[k10])) v 4)) Nj_159 ∧ mj_159 = (B_k10 ++ plainTo (zipped fs_sUpdateMetadataRequestLiveBroker v false ((lT (T.at 6))[k10])) v 4).length) ?_ (fun l' H' L' le_160 hI => ?_)
              · skip
                refine cd rfl (fun h565 => ?_) (fun h565 => ?_)
                · skip
                  refine sr ?_
                  refine mv rfl rfl ?_
                  refine nc rfl rfl ?_
                  refine fa F158_3 rfl rfl ?_
                  refine ld (Says.fz (hc_147.mono (le_150.trans le_155))) Tryz.isAgg156 rfl rfl rfl rfl ?_
                  refine asg rfl rfl ?_
                  refine nl ?_
                  refine sq ?_
                  refine sr ?_
                  refine mv rfl rfl ?_
                  refine nl ?_
                  refine cdF rfl (by omega) ?_
                  refine rg ?_
                  refine mv rfl rfl ?_
                  refine mv rfl rfl ?_
                  refine ls Tryz.runUnderlying156 rfl rfl ?_
                  have ok578 := oek10.get 3 (by decide) (has_yes (show (1 : Int) ≤ v by omega) (show ((-1) : Int) < 0 ∨ v ≤ (-1) by omega))
                  have nn578 := ok578.nn (by decide) (by decide)
                  have ll578 := lT_len (ok578.len rfl)
                  have e_161 : B_k10 ++ plainTo (zipped fs_sUpdateMetadataRequestLiveBroker v false ((lT (T.at 6))[k10])) v 3 ++ (counted false false (lT (((lT (T.at 6))[k10]).at 3)).length 4 ++ (lT (((lT (T.at 6))[k10]).at 3)).flatMap (GOf (fs_sUpdateMetadataRequestLiveBroker[3]'(by decide)) v false)) = B_k10 ++ plainTo (zipped fs_sUpdateMetadataRequestLiveBroker v false ((lT (T.at 6))[k10])) v 4 := fold_yes (fs := fs_sUpdateMetadataRequestLiveBroker) (v := v) (flex := false) (t := ((lT (T.at 6))[k10])) (B := B_k10) 3 (by decide) (by decide) (has_yes (show (1 : Int) ≤ v by omega) (show ((-1) : Int) < 0 ∨ v ≤ (-1) by omega)) (by rw [FB_list (f := (fs_sUpdateMetadataRequestLiveBroker[3]'(by decide))) (by decide) (by decide) ok578, nn578])
                  have hs578 := fold_size e_161 (by decide) hBk10
                  have hc578 : (B_k10 ++ plainTo (zipped fs_sUpdateMetadataRequestLiveBroker v false ((lT (T.at 6))[k10])) v 3).length + (counted false false (lT (((lT (T.at 6))[k10]).at 3)).length 4).length ≤ LIM := by have h := hs578; simp only [List.length_append] at h ⊢; omega
                  refine cl rfl rfl rfl (OutK.cast (k_AppendArrayLen (u := ((lT (((lT (T.at 6))[k10]).at 3)).length : Int)) rj_154 hc578) (show _ = B_k10 ++ plainTo (zipped fs_sUpdateMetadataRequestLiveBroker v false ((lT (T.at 6))[k10])) v 3 ++ (counted false false (lT (((lT (T.at 6))[k10]).at 3)).length 4) from rfl)) rfl (fun v_ H1 L1 hle hR => ?_)
                  obtain ⟨rfl, a578, c578, N578, rfl, rfl, h578⟩ := hR
                  have r578 := h578.1
                  refine asg rfl rfl ?_
                  refine nl ?_
                  refine sr ?_
                  refine mv rfl rfl ?_
                  refine ls Tryz.runUnderlying156 rfl rfl ?_
                  refine mv rfl rfl ?_
                  refine nl ?_
                  refine fr ((lT (((lT (T.at 6))[k10]).at 3)).length) (fun k11 l' H' L' => ∃ (a_k11 : Option Addr), ∃ (m_k11 : Nat), ∃ (c_k11 : Nat), ∃ (N_k11 : Chunk), [(0, .pointer (some ⟨b, 0, none⟩)), (1, .slice a_k11 m_k11 c_k11), (5, .int .i16 v), (6, .bool (decide ((6 : Int) ≤ v))), (52, .slice a6 (lT (T.at 6)).length c6), (54, .pointer (some ⟨b_141, o_142 + k10 * 6, none⟩)), (58, .slice a_k10_3 (lT (((lT (T.at 6))[k10]).at 3)).length c_k10_3), (520, .int .i64 ((lT (T.at 6)).length : Int)), (521, .int .i64 (k10 : Int)), (580, .int .i64 ((lT (((lT (T.at 6))[k10]).at 3)).length : Int))] = l' ∧ N_k11 :: L = L' ∧ Row 5 1 a_k11 m_k11 c_k11 (bytesOf (B_k10 ++ plainTo (zipped fs_sUpdateMetadataRequestLiveBroker v false ((lT (T.at 6))[k10])) v 3 ++ (counted false false (lT (((lT (T.at 6))[k10]).at 3)).length 4) ++ ((lT (((lT (T.at 6))[k10]).at 3)).take k11).flatMap (GOf (fs_sUpdateMetadataRequestLiveBroker[3]'(by decide)) v false))) N_k11 ∧ m_k11 = (B_k10 ++ plainTo (zipped fs_sUpdateMetadataRequestLiveBroker v false ((lT (T.at 6))[k10])) v 3 ++ (counted false false (lT (((lT (T.at 6))[k10]).at 3)).length 4) ++ ((lT (((lT (T.at 6))[k10]).at 3)).take k11).flatMap (GOf (fs_sUpdateMetadataRequestLiveBroker[3]'(by decide)) v false)).length) [(0, .pointer (some ⟨b, 0, none⟩)), (1, .slice _ _ _), (5, .int .i16 v), (6, .bool (decide ((6 : Int) ≤ v))), (52, .slice a6 (lT (T.at 6)).length c6), (54, .pointer (some ⟨b_141, o_142 + k10 * 6, none⟩)), (58, .slice a_k10_3 (lT (((lT (T.at 6))[k10]).at 3)).length c_k10_3), (520, .int .i64 ((lT (T.at 6)).length : Int)), (521, .int .i64 (k10 : Int)), (580, .int .i64 ((lT (((lT (T.at 6))[k10]).at 3)).length : Int))] (fun k11 l' H' L' h => ?_) (by omega) rfl (.cons rfl (.cons rfl (.cons rfl (.cons rfl (.cons rfl (.cons rfl (.cons rfl (.cons rfl (.cons rfl (.cons rfl (.nil _))))))))))) ⟨_, _, _, _, rfl, rfl, (by rw [List.take_zero, List.flatMap_nil, List.append_nil]; exact r578), (by rw [List.take_zero, List.flatMap_nil, List.append_nil])⟩ rfl rfl rfl rfl rfl (fun k11 l' H' L' hk11 le_162 hI => ?_) (fun l' H' L' le_163 hI => ?_)
                  · obtain ⟨a_k11, m_k11, c_k11, N_k11, rfl, _⟩ := h; exact ⟨rfl, rfl, rfl, rfl⟩
                  · skip
                    obtain ⟨a_k11, m_k11, c_k11, N_k11, rfl, rfl, pk110, pk111⟩ := hI
                    subst pk111
                    refine sr ?_
                    refine mv rfl rfl ?_
                    refine asg rfl rfl ?_
                    refine nl ?_
                    refine sr ?_
                    refine mv rfl rfl ?_
                    refine mv rfl rfl ?_
                    obtain ⟨b_164, o_165, e_166, g_167⟩ := (hf_k10_0.mono At_UpdateMetadataRequestLiveBrokerEndpoint.mono (le_150.trans (le_155.trans le_162))).rows.at_ (ne_nil_of_lt hk11)
                    obtain ⟨cs_168, hA_169, hc_170⟩ := g_167 k11 hk11
                    refine ix2 Tryz.runUnderlying156 Tryz.sizeOf166 rfl e_166 rfl rfl hk11 rfl ?_
                    obtain ⟨m_k11_t, rfl, hf_k11_0⟩ := hA_169
                    have oek11 := (ok578.el rfl _ (lT_mem (List.getElem_mem hk11))).2 rfl
                    obtain ⟨B_k11, hdk11⟩ : ∃ z : List UInt8, z = B_k10 ++ plainTo (zipped fs_sUpdateMetadataRequestLiveBroker v false ((lT (T.at 6))[k10])) v 3 ++ (counted false false (lT (((lT (T.at 6))[k10]).at 3)).length 4) ++ ((lT (((lT (T.at 6))[k10]).at 3)).take k11).flatMap (GOf (fs_sUpdateMetadataRequestLiveBroker[3]'(by decide)) v false) := ⟨_, rfl⟩
                    have rbk11 := pk110
                    rw [← hdk11] at rbk11 ⊢
                    have hBk11 : B_k11.length + (partB fs_sUpdateMetadataRequestLiveBrokerEndpoint v false ((lT (((lT (T.at 6))[k10]).at 3))[k11])).length ≤ LIM := by rw [hdk11]; exact el_size hs578 hk11 (GOf_part (by decide) _)
                    refine asg rfl rfl ?_
                    refine nl ?_
                    refine sq ?_
                    refine sr ?_
                    refine mv rfl rfl ?_
                    refine nc rfl rfl ?_
                    refine fa F166_0 rfl rfl ?_
                    refine ld (Says.fz hc_170) Tryz.isAgg21 rfl (Nat.add_zero _).symm rfl rfl ?_
                    refine asg rfl rfl ?_
                    refine nl ?_
                    refine rg ?_
                    refine mv rfl rfl ?_
                    refine mv rfl rfl ?_
                    have ok593 := oek11.get 0 (by decide) (has_yes (show (0 : Int) ≤ v by omega) (show ((-1) : Int) < 0 ∨ v ≤ (-1) by omega))
                    have e_171 : B_k11 ++ (fixed (IntKind.i32.wrap (((lT (((lT (T.at 6))[k10]).at 3))[k11]).at 0).n) 4) = B_k11 ++ plainTo (zipped fs_sUpdateMetadataRequestLiveBrokerEndpoint v false ((lT (((lT (T.at 6))[k10]).at 3))[k11])) v 1 := fold_first (fs := fs_sUpdateMetadataRequestLiveBrokerEndpoint) (v := v) (flex := false) (t := ((lT (((lT (T.at 6))[k10]).at 3))[k11])) (B := B_k11) 0 rfl (by decide) (by decide) (has_yes (show (0 : Int) ≤ v by omega) (show ((-1) : Int) < 0 ∨ v ≤ (-1) by omega)) ((FB_int (f := (fs_sUpdateMetadataRequestLiveBrokerEndpoint[0]'(by decide))) (by decide) (by decide)).trans (fixed_i32 _).symm)
                    have hs593 := fold_size e_171 (by decide) hBk11
                    refine cl rfl rfl rfl (OutK.cast (k_AppendInt32 (u := IntKind.i32.wrap (((lT (((lT (T.at 6))[k10]).at 3))[k11]).at 0).n) rbk11 hs593) e_171) rfl (fun v_ H1 L1 hle hR => ?_)
                    obtain ⟨rfl, a593, c593, N593, rfl, rfl, h593⟩ := hR
                    have r593 := h593.1
                    refine asg rfl rfl ?_
                    refine nl ?_
                    refine sq ?_
                    refine sr ?_
                    refine mv rfl rfl ?_
                    refine nc rfl rfl ?_
                    refine fa F166_1 rfl rfl ?_
                    refine ld (Says.fz hc_170) Tryz.isAgg9 rfl rfl rfl rfl ?_
                    refine asg rfl rfl ?_
                    refine nl ?_
                    refine sr ?_
                    refine mv rfl rfl ?_
                    refine nl ?_
                    refine cdF rfl (by omega) ?_
                    refine rg ?_
                    refine mv rfl rfl ?_
                    refine mv rfl rfl ?_
                    have ok604 := oek11.get 1 (by decide) (has_yes (show (0 : Int) ≤ v by omega) (show ((-1) : Int) < 0 ∨ v ≤ (-1) by omega))
                    have nn604 := ok604.nn (by decide) (by decide)
                    have e_172 : B_k11 ++ plainTo (zipped fs_sUpdateMetadataRequestLiveBrokerEndpoint v false ((lT (((lT (T.at 6))[k10]).at 3))[k11])) v 1 ++ (counted false false (((lT (((lT (T.at 6))[k10]).at 3))[k11]).at 1).s.length 2 ++ (((lT (((lT (T.at 6))[k10]).at 3))[k11]).at 1).s) = B_k11 ++ plainTo (zipped fs_sUpdateMetadataRequestLiveBrokerEndpoint v false ((lT (((lT (T.at 6))[k10]).at 3))[k11])) v 2 := fold_yes (fs := fs_sUpdateMetadataRequestLiveBrokerEndpoint) (v := v) (flex := false) (t := ((lT (((lT (T.at 6))[k10]).at 3))[k11])) (B := B_k11) 1 (by decide) (by decide) (has_yes (show (0 : Int) ≤ v by omega) (show ((-1) : Int) < 0 ∨ v ≤ (-1) by omega)) (by rw [FB_text (f := (fs_sUpdateMetadataRequestLiveBrokerEndpoint[1]'(by decide))) (by decide) (by decide) ok604, sT_nn nn604, nn604])
                    have hs604 := fold_size e_172 (by decide) hBk11
                    refine cl rfl rfl rfl (OutK.cast (k_AppendString (x := (((lT (((lT (T.at 6))[k10]).at 3))[k11]).at 1).s) r593 hs604) e_172) rfl (fun v_ H1 L1 hle hR => ?_)
                    obtain ⟨rfl, a604, c604, N604, rfl, rfl, h604⟩ := hR
                    have r604 := h604.1
                    refine asg rfl rfl ?_
                    refine nl ?_
                    refine sq ?_
                    refine sr ?_
                    refine mv rfl rfl ?_
                    refine ge rfl rfl rfl ?_
                    refine nl ?_
                    refine cutT (fun l' H' L' => ∃ (aj_173 : Option Addr), ∃ (mj_173 : Nat), ∃ (cj_173 : Nat), ∃ (Nj_173 : Chunk), [(0, .pointer (some ⟨b, 0, none⟩)), (1, .slice aj_173 mj_173 cj_173), (5, .int .i16 v), (6, .bool (decide ((6 : Int) ≤ v))), (52, .slice a6 (lT (T.at 6)).length c6), (54, .pointer (some ⟨b_141, o_142 + k10 * 6, none⟩)), (58, .slice a_k10_3 (lT (((lT (T.at 6))[k10]).at 3)).length c_k10_3), (60, .pointer (some ⟨b_164, o_165 + k11 * 5, none⟩)), (520, .int .i64 ((lT (T.at 6)).length : Int)), (521, .int .i64 (k10 : Int)), (580, .int .i64 ((lT (((lT (T.at 6))[k10]).at 3)).length : Int)), (581, .int .i64 (k11 : Int))] = l' ∧ Nj_173 :: L = L' ∧ Row 5 1 aj_173 mj_173 cj_173 (bytesOf (B_k11 ++ plainTo (zipped fs_sUpdateMetadataRequestLiveBrokerEndpoint v false ((lT (((lT (T.at 6))[k10]).at 3))[k11])) v 3)) Nj_173 ∧ mj_173 = (B_k11 ++ plainTo (zipped fs_sUpdateMetadataRequestLiveBrokerEndpoint v false ((lT (((lT (T.at 6))[k10]).at 3))[k11])) v 3).length) ?_ (fun l' H' L' le_174 hI => ?_)
                    · skip
                      refine cd rfl (fun h606 => ?_) (fun h606 => ?_)
                      · skip
                        refine sr ?_
                        refine mv rfl rfl ?_
                        refine nc rfl rfl ?_
                        refine fa F166_2 rfl rfl ?_
                        refine ld (Says.fz hc_170) Tryz.isAgg9 rfl rfl rfl rfl ?_
                        refine asg rfl rfl ?_
                        refine nl ?_
                        refine sr ?_
                        refine mv rfl rfl ?_
                        refine nl ?_
                        refine cdF rfl (by omega) ?_
                        refine rg ?_
                        refine mv rfl rfl ?_
                        refine mv rfl rfl ?_
                        have ok617 := oek11.get 2 (by decide) (has_yes (show (3 : Int) ≤ v by omega) (show ((-1) : Int) < 0 ∨ v ≤ (-1) by omega))
                        have nn617 := ok617.nn (by decide) (by decide)
                        have e_175 : B_k11 ++ plainTo (zipped fs_sUpdateMetadataRequestLiveBrokerEndpoint v false ((lT (((lT (T.at 6))[k10]).at 3))[k11])) v 2 ++ (counted false false (((lT (((lT (T.at 6))[k10]).at 3))[k11]).at 2).s.length 2 ++ (((lT (((lT (T.at 6))[k10]).at 3))[k11]).at 2).s) = B_k11 ++ plainTo (zipped fs_sUpdateMetadataRequestLiveBrokerEndpoint v false ((lT (((lT (T.at 6))[k10]).at 3))[k11])) v 3 := fold_yes (fs := fs_sUpdateMetadataRequestLiveBrokerEndpoint) (v := v) (flex := false) (t := ((lT (((lT (T.at 6))[k10]).at 3))[k11])) (B := B_k11) 2 (by decide) (by decide) (has_yes (show (3 : Int) ≤ v by omega) (show ((-1) : Int) < 0 ∨ v ≤ (-1) by omega)) (by rw [FB_text (f := (fs_sUpdateMetadataRequestLiveBrokerEndpoint[2]'(by decide))) (by decide) (by decide) ok617, sT_nn nn617, nn617])
                        have hs617 := fold_size e_175 (by decide) hBk11
                        refine cl rfl rfl rfl (OutK.cast (k_AppendString (x := (((lT (((lT (T.at 6))[k10]).at 3))[k11]).at 2).s) r604 hs617) e_175) rfl (fun v_ H1 L1 hle hR => ?_)
                        obtain ⟨rfl, a617, c617, N617, rfl, rfl, h617⟩ := hR
                        have r617 := h617.1
                        refine asg rfl rfl ?_
                        refine nN ?_
                        refine fun a_ w_ hA hw => ⟨_, _, _, hA.sub ?_, (Fz.le.refl _), hw, _, _, _, _, rfl, rfl, r617, rfl⟩
                        exact (.cons rfl (.cons rfl (.cons rfl (.cons rfl (.cons rfl (.cons rfl (.cons rfl (.cons rfl (.cons rfl (.cons rfl (.cons rfl (.cons rfl (.nil _)))))))))))))
                      · skip
                        refine skN ?_
                        have es_176 : plainTo (zipped fs_sUpdateMetadataRequestLiveBrokerEndpoint v false ((lT (((lT (T.at 6))[k10]).at 3))[k11])) v 3 = plainTo (zipped fs_sUpdateMetadataRequestLiveBrokerEndpoint v false ((lT (((lT (T.at 6))[k10]).at 3))[k11])) v 2 := (piece_no2 (fs := fs_sUpdateMetadataRequestLiveBrokerEndpoint) (v := v) (flex := false) (t := ((lT (((lT (T.at 6))[k10]).at 3))[k11])) (k := 2) (by decide) (has_no (show v < (3 : Int) ∨ ((0 : Int) ≤ (-1) ∧ (-1) < v) by omega)))
                        have eX_177 : B_k11 ++ plainTo (zipped fs_sUpdateMetadataRequestLiveBrokerEndpoint v false ((lT (((lT (T.at 6))[k10]).at 3))[k11])) v 2 = B_k11 ++ plainTo (zipped fs_sUpdateMetadataRequestLiveBrokerEndpoint v false ((lT (((lT (T.at 6))[k10]).at 3))[k11])) v 3 := by rw [es_176]
                        refine fun a_ w_ hA hw => ⟨_, _, _, hA.sub ?_, (Fz.le.refl _), hw, _, _, _, _, rfl, rfl, (by rw [← eX_177]; exact r604), (by rw [← eX_177])⟩
                        exact (.cons rfl (.cons rfl (.cons rfl (.cons rfl (.cons rfl (.cons rfl (.cons rfl (.cons rfl (.cons rfl (.cons rfl (.cons rfl (.cons rfl (.nil _)))))))))))))
                    · skip
                      obtain ⟨aj_173, mj_173, cj_173, Nj_173, rfl, rfl, pj0, pj1⟩ := hI
                      subst pj1
                      have rj_173 := pj0
                      refine sq ?_
                      refine sr ?_
                      refine mv rfl rfl ?_
                      refine nc rfl rfl ?_
                      refine fa F166_3 rfl rfl ?_
                      refine ld (Says.fz (hc_170.mono le_174)) Tryz.isAgg45 rfl rfl rfl rfl ?_
                      refine asg rfl rfl ?_
                      refine nl ?_
                      refine rg ?_
                      refine mv rfl rfl ?_
                      refine mv rfl rfl ?_
                      have ok624 := oek11.get 3 (by decide) (has_yes (show (0 : Int) ≤ v by omega) (show ((-1) : Int) < 0 ∨ v ≤ (-1) by omega))
                      have e_178 : B_k11 ++ plainTo (zipped fs_sUpdateMetadataRequestLiveBrokerEndpoint v false ((lT (((lT (T.at 6))[k10]).at 3))[k11])) v 3 ++ (fixed (IntKind.i16.wrap (((lT (((lT (T.at 6))[k10]).at 3))[k11]).at 3).n) 2) = B_k11 ++ plainTo (zipped fs_sUpdateMetadataRequestLiveBrokerEndpoint v false ((lT (((lT (T.at 6))[k10]).at 3))[k11])) v 4 := fold_yes (fs := fs_sUpdateMetadataRequestLiveBrokerEndpoint) (v := v) (flex := false) (t := ((lT (((lT (T.at 6))[k10]).at 3))[k11])) (B := B_k11) 3 (by decide) (by decide) (has_yes (show (0 : Int) ≤ v by omega) (show ((-1) : Int) < 0 ∨ v ≤ (-1) by omega)) ((FB_int (f := (fs_sUpdateMetadataRequestLiveBrokerEndpoint[3]'(by decide))) (by decide) (by decide)).trans (fixed_i16 _).symm)
                      have hs624 := fold_size e_178 (by decide) hBk11
                      refine cl rfl rfl rfl (OutK.cast (k_AppendInt16 (u := IntKind.i16.wrap (((lT (((lT (T.at 6))[k10]).at 3))[k11]).at 3).n) rj_173 hs624) e_178) rfl (fun v_ H1 L1 hle hR => ?_)
                      obtain ⟨rfl, a624, c624, N624, rfl, rfl, h624⟩ := hR
                      have r624 := h624.1
                      refine asg rfl rfl ?_
                      refine nl ?_
                      refine sr ?_
                      refine mv rfl rfl ?_
                      refine nl ?_
                      refine cdF rfl (by omega) ?_
                      refine skN ?_
                      refine Nb ?_
                      have eP_179 : B_k11 ++ plainTo (zipped fs_sUpdateMetadataRequestLiveBrokerEndpoint v false ((lT (((lT (T.at 6))[k10]).at 3))[k11])) v 4 = B_k11 ++ partB fs_sUpdateMetadataRequestLiveBrokerEndpoint v false ((lT (((lT (T.at 6))[k10]).at 3))[k11]) := by rw [partB_false]; rfl
                      have rp_180 := r624
                      rw [eP_179] at rp_180 ⊢
                      have ee_181 : B_k11 ++ partB fs_sUpdateMetadataRequestLiveBrokerEndpoint v false ((lT (((lT (T.at 6))[k10]).at 3))[k11]) = B_k10 ++ plainTo (zipped fs_sUpdateMetadataRequestLiveBroker v false ((lT (T.at 6))[k10])) v 3 ++ (counted false false (lT (((lT (T.at 6))[k10]).at 3)).length 4) ++ ((lT (((lT (T.at 6))[k10]).at 3)).take (k11 + 1)).flatMap (GOf (fs_sUpdateMetadataRequestLiveBroker[3]'(by decide)) v false) := by rw [hdk11]; exact el_end (B0 := B_k10 ++ plainTo (zipped fs_sUpdateMetadataRequestLiveBroker v false ((lT (T.at 6))[k10])) v 3 ++ (counted false false (lT (((lT (T.at 6))[k10]).at 3)).length 4)) (G := (GOf (fs_sUpdateMetadataRequestLiveBroker[3]'(by decide)) v false)) hk11 (GOf_part (by decide) _)
                      refine fun a_ w_ hA hw => ⟨_, _, _, hA.sub ?_, (le_162.trans le_174), hw, _, rfl, _, _, _, _, rfl, rfl, (by rw [← ee_181]; exact rp_180), (by rw [← ee_181])⟩
                      exact (.cons rfl (.cons rfl (.cons rfl (.cons rfl (.cons rfl (.cons rfl (.cons rfl (.cons rfl (.cons rfl (.cons rfl (.cons rfl (.nil _))))))))))))
                  · skip
                    obtain ⟨a_k11, m_k11, c_k11, N_k11, rfl, rfl, pk110, pk111⟩ := hI
                    refine toNn ?_
                    have eL578 : B_k10 ++ plainTo (zipped fs_sUpdateMetadataRequestLiveBroker v false ((lT (T.at 6))[k10])) v 3 ++ (counted false false (lT (((lT (T.at 6))[k10]).at 3)).length 4) ++ ((lT (((lT (T.at 6))[k10]).at 3)).take (lT (((lT (T.at 6))[k10]).at 3)).length).flatMap (GOf (fs_sUpdateMetadataRequestLiveBroker[3]'(by decide)) v false) = B_k10 ++ plainTo (zipped fs_sUpdateMetadataRequestLiveBroker v false ((lT (T.at 6))[k10])) v 4 := by rw [List.take_length, List.append_assoc]; exact e_161
                    rw [eL578] at pk110 pk111
                    subst pk111
                    refine fun a_ w_ hA hw => ⟨_, _, _, hA.sub ?_, le_163, hw, _, _, _, _, rfl, rfl, pk110, rfl⟩
                    exact (.cons rfl (.cons rfl (.cons rfl (.cons rfl (.cons rfl (.cons rfl (.cons rfl (.cons rfl (.nil _)))))))))
                · skip
                  refine skN ?_
                  have es_182 : plainTo (zipped fs_sUpdateMetadataRequestLiveBroker v false ((lT (T.at 6))[k10])) v 4 = plainTo (zipped fs_sUpdateMetadataRequestLiveBroker v false ((lT (T.at 6))[k10])) v 3 := (piece_no2 (fs := fs_sUpdateMetadataRequestLiveBroker) (v := v) (flex := false) (t := ((lT (T.at 6))[k10])) (k := 3) (by decide) (has_no (show v < (1 : Int) ∨ ((0 : Int) ≤ (-1) ∧ (-1) < v) by omega)))
                  have eX_183 : B_k10 ++ plainTo (zipped fs_sUpdateMetadataRequestLiveBroker v false ((lT (T.at 6))[k10])) v 3 = B_k10 ++ plainTo (zipped fs_sUpdateMetadataRequestLiveBroker v false ((lT (T.at 6))[k10])) v 4 := by rw [es_182]
                  refine fun a_ w_ hA hw => ⟨_, _, _, hA.sub ?_, (Fz.le.refl _), hw, _, _, _, _, rfl, rfl, (by rw [← eX_183]; exact rj_154), (by rw [← eX_183])⟩
                  exact (.cons rfl (.cons rfl (.cons rfl (.cons rfl (.cons rfl (.cons rfl (.cons rfl (.cons rfl (.nil _)))))))))
              · skip
                obtain ⟨aj_159, mj_159, cj_159, Nj_159, rfl, rfl, pj0, pj1⟩ := hI
                subst pj1
                have rj_159 := pj0
                refine sq ?_
                refine sr ?_
                refine mv rfl rfl ?_
                refine ge rfl rfl rfl ?_
                refine nl ?_
                refine cutT (fun l' H' L' => ∃ (aj_184 : Option Addr), ∃ (mj_184 : Nat), ∃ (cj_184 : Nat), ∃ (Nj_184 : Chunk), [(0, .pointer (some ⟨b, 0, none⟩)), (1, .slice aj_184 mj_184 cj_184), (5, .int .i16 v), (6, .bool (decide ((6 : Int) ≤ v))), (52, .slice a6 (lT (T.at 6)).length c6), (54, .pointer (some ⟨b_141, o_142 + k10 * 6, none⟩)), (520, .int .i64 ((lT (T.at 6)).length : Int)), (521, .int .i64 (k10 : Int))] = l' ∧ Nj_184 :: L = L' ∧ Row 5 1 aj_184 mj_184 cj_184 (bytesOf (B_k10 ++ plainTo (zipped fs_sUpdateMetadataRequestLiveBroker v false ((lT (T.at 6))[k10])) v 5)) Nj_184 ∧ mj_184 = (B_k10 ++ plainTo (zipped fs_sUpdateMetadataRequestLiveBroker v false ((lT (T.at 6))[k10])) v 5).length) ?_ (fun l' H' L' le_185 hI => ?_)
                · skip
                  refine cd rfl (fun h641 => ?_) (fun h641 => ?_)
                  · skip
                    refine sr ?_
                    refine mv rfl rfl ?_
                    refine nc rfl rfl ?_
                    refine fa F158_4 rfl rfl ?_
                    refine ld (Says.fz (hc_147.mono (le_150.trans (le_155.trans le_160)))) Tryz.isAgg110 rfl rfl rfl rfl ?_
                    refine asg rfl rfl ?_
                    refine nl ?_
                    refine sr ?_
                    refine mv rfl rfl ?_
                    refine nl ?_
                    refine cdF rfl (by omega) ?_
                    refine rg ?_
                    refine mv rfl rfl ?_
                    refine mv rfl rfl ?_
                    have ok652 := oek10.get 4 (by decide) (has_yes (show (2 : Int) ≤ v by omega) (show ((-1) : Int) < 0 ∨ v ≤ (-1) by omega))
                    have e_186 : B_k10 ++ plainTo (zipped fs_sUpdateMetadataRequestLiveBroker v false ((lT (T.at 6))[k10])) v 4 ++ (counted false (((lT (T.at 6))[k10]).at 4).nul (sT (((lT (T.at 6))[k10]).at 4)).length 2 ++ sT (((lT (T.at 6))[k10]).at 4)) = B_k10 ++ plainTo (zipped fs_sUpdateMetadataRequestLiveBroker v false ((lT (T.at 6))[k10])) v 5 := fold_yes (fs := fs_sUpdateMetadataRequestLiveBroker) (v := v) (flex := false) (t := ((lT (T.at 6))[k10])) (B := B_k10) 4 (by decide) (by decide) (has_yes (show (2 : Int) ≤ v by omega) (show ((-1) : Int) < 0 ∨ v ≤ (-1) by omega)) (FB_text (f := (fs_sUpdateMetadataRequestLiveBroker[4]'(by decide))) (by decide) (by decide) ok652)
                    have hs652 := fold_size e_186 (by decide) hBk10
                    refine cl rfl rfl rfl (OutK.cast (k_AppendNullableString (hf_k10_1.mono (le_150.trans (le_155.trans le_160))) (ok652.s (Or.inl rfl)) rj_159 hs652) e_186) rfl (fun v_ H1 L1 hle hR => ?_)
                    obtain ⟨rfl, a652, c652, N652, rfl, rfl, h652⟩ := hR
                    have r652 := h652.1
                    refine asg rfl rfl ?_
                    refine nN ?_
                    refine fun a_ w_ hA hw => ⟨_, _, _, hA.sub ?_, (Fz.le.refl _), hw, _, _, _, _, rfl, rfl, r652, rfl⟩
                    exact (.cons rfl (.cons rfl (.cons rfl (.cons rfl (.cons rfl (.cons rfl (.cons rfl (.cons rfl (.nil _)))))))))
                  · skip
                    refine skN ?_
                    have es_187 : plainTo (zipped fs_sUpdateMetadataRequestLiveBroker v false ((lT (T.at 6))[k10])) v 5 = plainTo (zipped fs_sUpdateMetadataRequestLiveBroker v false ((lT (T.at 6))[k10])) v 4 := (piece_no2 (fs := fs_sUpdateMetadataRequestLiveBroker) (v := v) (flex := false) (t := ((lT (T.at 6))[k10])) (k := 4) (by decide) (has_no (show v < (2 : Int) ∨ ((0 : Int) ≤ (-1) ∧ (-1) < v) by omega)))
                    have eX_188 : B_k10 ++ plainTo (zipped fs_sUpdateMetadataRequestLiveBroker v false ((lT (T.at 6))[k10])) v 4 = B_k10 ++ plainTo (zipped fs_sUpdateMetadataRequestLiveBroker v false ((lT (T.at 6))[k10])) v 5 := by rw [es_187]
                    refine fun a_ w_ hA hw => ⟨_, _, _, hA.sub ?_, (Fz.le.refl _), hw, _, _, _, _, rfl, rfl, (by rw [← eX_188]; exact rj_159), (by rw [← eX_188])⟩
                    exact (.cons rfl (.cons rfl (.cons rfl (.cons rfl (.cons rfl (.cons rfl (.cons rfl (.cons rfl (.nil _)))))))))
                · skip
                  obtain ⟨aj_184, mj_184, cj_184, Nj_184, rfl, rfl, pj0, pj1⟩ := hI
                  subst pj1
                  have rj_184 := pj0
                  refine sr ?_
                  refine mv rfl rfl ?_
                  refine nl ?_
                  refine cdF rfl (by omega) ?_
                  refine skN ?_
                  refine Nb ?_
                  have eP_189 : B_k10 ++ plainTo (zipped fs_sUpdateMetadataRequestLiveBroker v false ((lT (T.at 6))[k10])) v 5 = B_k10 ++ partB fs_sUpdateMetadataRequestLiveBroker v false ((lT (T.at 6))[k10]) := by rw [partB_false]; rfl
                  have rp_190 := rj_184
                  rw [eP_189] at rp_190 ⊢
                  have ee_191 : B_k10 ++ partB fs_sUpdateMetadataRequestLiveBroker v false ((lT (T.at 6))[k10]) = D ++ plainTo (zipped fs_UpdateMetadataRequest v false T) v 6 ++ (counted false false (lT (T.at 6)).length 4) ++ ((lT (T.at 6)).take (k10 + 1)).flatMap (GOf (fs_UpdateMetadataRequest[6]'(by decide)) v false) := by rw [hdk10]; exact el_end (B0 := D ++ plainTo (zipped fs_UpdateMetadataRequest v false T) v 6 ++ (counted false false (lT (T.at 6)).length 4)) (G := (GOf (fs_UpdateMetadataRequest[6]'(by decide)) v false)) hk10 (GOf_part (by decide) _)
                  refine fun a_ w_ hA hw => ⟨_, _, _, hA.sub ?_, (le_139.trans (le_150.trans (le_155.trans (le_160.trans le_185)))), hw, _, rfl, _, _, _, _, rfl, rfl, (by rw [← ee_191]; exact rp_190), (by rw [← ee_191])⟩
                  exact (.cons rfl (.cons rfl (.cons rfl (.cons rfl (.cons rfl (.cons rfl (.cons rfl (.nil _))))))))
        · skip
          obtain ⟨a_k10, m_k10, c_k10, N_k10, rfl, rfl, pk100, pk101⟩ := hI
          refine toWp ?_
          have eL518 : D ++ plainTo (zipped fs_UpdateMetadataRequest v false T) v 6 ++ (counted false false (lT (T.at 6)).length 4) ++ ((lT (T.at 6)).take (lT (T.at 6)).length).flatMap (GOf (fs_UpdateMetadataRequest[6]'(by decide)) v false) = D ++ plainTo (zipped fs_UpdateMetadataRequest v false T) v 7 := by rw [List.take_length, List.append_assoc]; exact e_138
          rw [eL518] at pk100 pk101
          subst pk101
          refine sq ?_
          refine sr ?_
          refine mv rfl rfl ?_
          refine nl ?_
          refine cdF rfl (by omega) ?_
          refine skt ?_
          refine sr ?_
          refine mv rfl rfl ?_
          refine asg rfl rfl ?_
          refine nl ?_
          have eP_192 : D ++ plainTo (zipped fs_UpdateMetadataRequest v false T) v 7 = D ++ partB fs_UpdateMetadataRequest v false T := by rw [partB_false]; rfl
          have rp_193 := pk100
          rw [eP_192] at rp_193 ⊢
          exact rT rfl rfl (le_7.trans (le_12.trans (le_69.trans le_140))) (fun _ _ h => h) (OutB.of rp_193 rfl)
theorem app_UpdateMetadataRequest_t {H : Fz} {L : Own} {a : Option Addr} {cap b : Nat} {D : List UInt8} {N : Chunk} {cs : List Value} {T : Tr} {v : Int} (hr : Row 5 1 a D.length cap (bytesOf D) N) (hv : H.at b 0 cs) (hA : At_UpdateMetadataRequest v H T cs) (hok : OkP fs_UpdateMetadataRequest v T) (h0 : 6 ≤ v) (h1 : v ≤ 8) (hb : D.length + (partB fs_UpdateMetadataRequest v true T).length ≤ LIM) :
    Fn Tryz.prog 51 [.pointer (some ⟨b, 0, none⟩), .slice a D.length cap] H (N :: L) (fun r H' L' => OutB 5 L (D ++ partB fs_UpdateMetadataRequest v true T) r L') := by
  obtain ⟨a4, c4, a5, c5, a6, c6, mt, rfl, hf0, hf1, hf2, hf3⟩ := hA
  refine Fn.mk Tryz.call51 Tryz.func51 rfl Tryz.ntmps51 rfl ?_
  refine sr ?_
  refine asg rfl rfl ?_
  refine nl ?_
  refine sr ?_
  refine mv rfl rfl ?_
  refine nc rfl rfl ?_
  refine fa0 F85_0 rfl rfl ?_
  refine ld (Says.fz hv) Tryz.isAgg45 rfl (Nat.zero_add _).symm rfl rfl ?_
  refine asg rfl rfl ?_
  refine nl ?_
  refine sr ?_
  refine mv rfl rfl ?_
  refine nl ?_
  refine sr ?_
  refine mv rfl rfl ?_
  refine ge rfl rfl rfl ?_
  refine asg rfl rfl ?_
  refine nl ?_
  refine sr ?_
  refine mv rfl rfl ?_
  refine nl ?_
  refine sq ?_
  refine sr ?_
  refine mv rfl rfl ?_
  refine nc rfl rfl ?_
  refine fa0 F85_1 rfl rfl ?_
  refine ld (Says.fz hv) Tryz.isAgg21 rfl (Nat.zero_add _).symm rfl rfl ?_
  refine asg rfl rfl ?_
  refine nl ?_
  refine rg ?_
  refine mv rfl rfl ?_
  refine mv rfl rfl ?_
  have ok80 := hok.get 0 (by decide) (has_yes (show (0 : Int) ≤ v by omega) (show ((-1) : Int) < 0 ∨ v ≤ (-1) by omega))
  have e_1 : D ++ (fixed (IntKind.i32.wrap (T.at 0).n) 4) = D ++ plainTo (zipped fs_UpdateMetadataRequest v true T) v 1 := fold_first (fs := fs_UpdateMetadataRequest) (v := v) (flex := true) (t := T) (B := D) 0 rfl (by decide) (by decide) (has_yes (show (0 : Int) ≤ v by omega) (show ((-1) : Int) < 0 ∨ v ≤ (-1) by omega)) ((FB_int (f := (fs_UpdateMetadataRequest[0]'(by decide))) (by decide) (by decide)).trans (fixed_i32 _).symm)
  have hs80 := fold_size e_1 (by decide) hb
  refine cl rfl rfl rfl (OutK.cast (k_AppendInt32 (u := IntKind.i32.wrap (T.at 0).n) hr hs80) e_1) rfl (fun v_ H1 L1 hle hR => ?_)
  obtain ⟨rfl, a80, c80, N80, rfl, rfl, h80⟩ := hR
  have r80 := h80.1
  refine asg rfl rfl ?_
  refine nl ?_
  refine sq ?_
  refine sr ?_
  refine mv rfl rfl ?_
  refine ge rfl rfl rfl ?_
  refine nl ?_
  refine cutT (fun l' H' L' => ∃ (aj_2 : Option Addr), ∃ (mj_2 : Nat), ∃ (cj_2 : Nat), ∃ (Nj_2 : Chunk), [(0, .pointer (some ⟨b, 0, none⟩)), (1, .slice aj_2 mj_2 cj_2), (5, .int .i16 v), (6, .bool (decide ((6 : Int) ≤ v)))] = l' ∧ Nj_2 :: L = L' ∧ Row 5 1 aj_2 mj_2 cj_2 (bytesOf (D ++ plainTo (zipped fs_UpdateMetadataRequest v true T) v 2)) Nj_2 ∧ mj_2 = (D ++ plainTo (zipped fs_UpdateMetadataRequest v true T) v 2).length) ?_ (fun l' H' L' le_3 hI => ?_)
  · skip
    refine cd rfl (fun h82 => ?_) (fun h82 => ?_)
    · skip
      refine sr ?_
      refine mv rfl rfl ?_
      refine nc rfl rfl ?_
      refine fa0 F85_2 rfl rfl ?_
      refine ld (Says.fz hv) Tryz.isAgg4 rfl (Nat.zero_add _).symm rfl rfl ?_
      refine asg rfl rfl ?_
      refine nl ?_
      refine rg ?_
      refine mv rfl rfl ?_
      refine mv rfl rfl ?_
      have ok89 := hok.get 1 (by decide) (has_yes (show (8 : Int) ≤ v by omega) (show ((-1) : Int) < 0 ∨ v ≤ (-1) by omega))
      have e_4 : D ++ plainTo (zipped fs_UpdateMetadataRequest v true T) v 1 ++ ([if decide ((T.at 1).n % 2 = 1) then 1 else 0] : List UInt8) = D ++ plainTo (zipped fs_UpdateMetadataRequest v true T) v 2 := fold_yes (fs := fs_UpdateMetadataRequest) (v := v) (flex := true) (t := T) (B := D) 1 (by decide) (by decide) (has_yes (show (8 : Int) ≤ v by omega) (show ((-1) : Int) < 0 ∨ v ≤ (-1) by omega)) ((FB_bool (f := (fs_UpdateMetadataRequest[1]'(by decide))) (by decide)).trans (bool_byte _))
      have hs89 := fold_size e_4 (by decide) hb
      refine cl rfl rfl rfl (OutK.cast (k_AppendBool (b := decide ((T.at 1).n % 2 = 1)) r80 hs89) e_4) rfl (fun v_ H1 L1 hle hR => ?_)
      obtain ⟨rfl, a89, c89, N89, rfl, rfl, h89⟩ := hR
      have r89 := h89.1
      refine asg rfl rfl ?_
      refine nN ?_
      refine fun a_ w_ hA hw => ⟨_, _, _, hA.sub ?_, (Fz.le.refl _), hw, _, _, _, _, rfl, rfl, r89, rfl⟩
      exact (.cons rfl (.cons rfl (.cons rfl (.cons rfl (.nil _)))))
    · skip
      refine skN ?_
      have es_5 : plainTo (zipped fs_UpdateMetadataRequest v true T) v 2 = plainTo (zipped fs_UpdateMetadataRequest v true T) v 1 := (piece_no2 (fs := fs_UpdateMetadataRequest) (v := v) (flex := true) (t := T) (k := 1) (by decide) (has_no (show v < (8 : Int) ∨ ((0 : Int) ≤ (-1) ∧ (-1) < v) by omega)))
      have eX_6 : D ++ plainTo (zipped fs_UpdateMetadataRequest v true T) v 1 = D ++ plainTo (zipped fs_UpdateMetadataRequest v true T) v 2 := by rw [es_5]
      refine fun a_ w_ hA hw => ⟨_, _, _, hA.sub ?_, (Fz.le.refl _), hw, _, _, _, _, rfl, rfl, (by rw [← eX_6]; exact r80), (by rw [← eX_6])⟩
      exact (.cons rfl (.cons rfl (.cons rfl (.cons rfl (.nil _)))))
  · skip
    obtain ⟨aj_2, mj_2, cj_2, Nj_2, rfl, rfl, pj0, pj1⟩ := hI
    subst pj1
    have rj_2 := pj0
    refine sq ?_
    refine sr ?_
    refine mv rfl rfl ?_
    refine nc rfl rfl ?_
    refine fa0 F85_3 rfl rfl ?_
    refine ld (Says.fz (hv.mono le_3)) Tryz.isAgg21 rfl (Nat.zero_add _).symm rfl rfl ?_
    refine asg rfl rfl ?_
    refine nl ?_
    refine rg ?_
    refine mv rfl rfl ?_
    refine mv rfl rfl ?_
    have ok96 := hok.get 2 (by decide) (has_yes (show (0 : Int) ≤ v by omega) (show ((-1) : Int) < 0 ∨ v ≤ (-1) by omega))
    have e_7 : D ++ plainTo (zipped fs_UpdateMetadataRequest v true T) v 2 ++ (fixed (IntKind.i32.wrap (T.at 2).n) 4) = D ++ plainTo (zipped fs_UpdateMetadataRequest v true T) v 3 := fold_yes (fs := fs_UpdateMetadataRequest) (v := v) (flex := true) (t := T) (B := D) 2 (by decide) (by decide) (has_yes (show (0 : Int) ≤ v by omega) (show ((-1) : Int) < 0 ∨ v ≤ (-1) by omega)) ((FB_int (f := (fs_UpdateMetadataRequest[2]'(by decide))) (by decide) (by decide)).trans (fixed_i32 _).symm)
    have hs96 := fold_size e_7 (by decide) hb
    refine cl rfl rfl rfl (OutK.cast (k_AppendInt32 (u := IntKind.i32.wrap (T.at 2).n) rj_2 hs96) e_7) rfl (fun v_ H1 L1 hle hR => ?_)
    obtain ⟨rfl, a96, c96, N96, rfl, rfl, h96⟩ := hR
    have r96 := h96.1
    refine asg rfl rfl ?_
    refine nl ?_
    refine sq ?_
    refine sr ?_
    refine mv rfl rfl ?_
    refine ge rfl rfl rfl ?_
    refine nl ?_
    refine cdT rfl (by omega) ?_
    refine sr ?_
    refine mv rfl rfl ?_
    refine nc rfl rfl ?_
    refine fa0 F85_4 rfl rfl ?_
    refine ld (Says.fz (hv.mono le_3)) Tryz.isAgg2 rfl (Nat.zero_add _).symm rfl rfl ?_
    refine asg rfl rfl ?_
    refine nl ?_
    refine rg ?_
    refine mv rfl rfl ?_
    refine mv rfl rfl ?_
    have ok105 := hok.get 3 (by decide) (has_yes (show (5 : Int) ≤ v by omega) (show ((-1) : Int) < 0 ∨ v ≤ (-1) by omega))
    have e_8 : D ++ plainTo (zipped fs_UpdateMetadataRequest v true T) v 3 ++ (fixed ((T.at 3).n) 8) = D ++ plainTo (zipped fs_UpdateMetadataRequest v true T) v 4 := fold_yes (fs := fs_UpdateMetadataRequest) (v := v) (flex := true) (t := T) (B := D) 3 (by decide) (by decide) (has_yes (show (5 : Int) ≤ v by omega) (show ((-1) : Int) < 0 ∨ v ≤ (-1) by omega)) ((FB_int (f := (fs_UpdateMetadataRequest[3]'(by decide))) (by decide) (by decide)).trans rfl)
    have hs105 := fold_size e_8 (by decide) hb
    refine cl rfl rfl rfl (OutK.cast (k_AppendInt64 (u := (T.at 3).n) r96 hs105) e_8) rfl (fun v_ H1 L1 hle hR => ?_)
    obtain ⟨rfl, a105, c105, N105, rfl, rfl, h105⟩ := hR
    have r105 := h105.1
    refine asg rfl rfl ?_
    refine nl ?_
    refine sq ?_
    refine sr ?_
    refine mv rfl rfl ?_
    refine ge rfl rfl rfl ?_
    refine mv rfl rfl ?_
    refine spl (t := 108) rfl (fun _ => ?_) (fun hn_ => absurd (by omega) hn_)
    refine gr rfl rfl ?_
    refine mv rfl rfl ?_
    refine gr rfl rfl ?_
    refine le rfl rfl rfl ?_
    refine pk rfl rfl rfl rfl ?_
    refine nl ?_
    refine cdF rfl (by omega) ?_
    refine skt ?_
    refine sq ?_
    refine sr ?_
    refine mv rfl rfl ?_
    refine ge rfl rfl rfl ?_
    refine nl ?_
    refine cdT rfl (by omega) ?_
    refine sr ?_
    refine mv rfl rfl ?_
    refine nc rfl rfl ?_
    refine fa0 F85_6 rfl rfl ?_
    refine ld (Says.fz (hv.mono le_3)) Tryz.isAgg82 rfl (Nat.zero_add _).symm rfl rfl ?_
    refine asg rfl rfl ?_
    refine nl ?_
    refine sq ?_
    refine sr ?_
    refine mv rfl rfl ?_
    refine nl ?_
    refine cdT rfl (by omega) ?_
    refine rg ?_
    refine mv rfl rfl ?_
    refine mv rfl rfl ?_
    refine ls Tryz.runUnderlying82 rfl rfl ?_
    have es_9 : plainTo (zipped fs_UpdateMetadataRequest v true T) v 5 = plainTo (zipped fs_UpdateMetadataRequest v true T) v 4 := (piece_no2 (fs := fs_UpdateMetadataRequest) (v := v) (flex := true) (t := T) (k := 4) (by decide) (has_no (show v < (0 : Int) ∨ ((0 : Int) ≤ 4 ∧ 4 < v) by omega)))
    have eX_10 : D ++ plainTo (zipped fs_UpdateMetadataRequest v true T) v 4 = D ++ plainTo (zipped fs_UpdateMetadataRequest v true T) v 5 := by rw [es_9]
    have rx_11 := r105
    rw [eX_10] at rx_11 ⊢
    have ok290 := hok.get 5 (by decide) (has_yes (show (5 : Int) ≤ v by omega) (show ((-1) : Int) < 0 ∨ v ≤ (-1) by omega))
    have nn290 := ok290.nn (by decide) (by decide)
    have ll290 := lT_len (ok290.len rfl)
    have e_12 : D ++ plainTo (zipped fs_UpdateMetadataRequest v true T) v 5 ++ (counted true false (lT (T.at 5)).length 4 ++ (lT (T.at 5)).flatMap (GOf (fs_UpdateMetadataRequest[5]'(by decide)) v true)) = D ++ plainTo (zipped fs_UpdateMetadataRequest v true T) v 6 := fold_yes (fs := fs_UpdateMetadataRequest) (v := v) (flex := true) (t := T) (B := D) 5 (by decide) (by decide) (has_yes (show (5 : Int) ≤ v by omega) (show ((-1) : Int) < 0 ∨ v ≤ (-1) by omega)) (by rw [FB_list (f := (fs_UpdateMetadataRequest[5]'(by decide))) (by decide) (by decide) ok290, nn290])
    have hs290 := fold_size e_12 (by decide) hb
    have hc290 : (D ++ plainTo (zipped fs_UpdateMetadataRequest v true T) v 5).length + (counted true false (lT (T.at 5)).length 4).length ≤ LIM := by have h := hs290; simp only [List.length_append] at h ⊢; omega
    refine cl rfl rfl rfl (OutK.cast (k_AppendCompactArrayLen (n := (lT (T.at 5)).length) (by omega) rx_11 hc290) (show _ = D ++ plainTo (zipped fs_UpdateMetadataRequest v true T) v 5 ++ (counted true false (lT (T.at 5)).length 4) from rfl)) rfl (fun v_ H1 L1 hle hR => ?_)
    obtain ⟨rfl, a290, c290, N290, rfl, rfl, h290⟩ := hR
    have r290 := h290.1
    refine asg rfl rfl ?_
    refine nl ?_
    refine sr ?_
    refine mv rfl rfl ?_
    refine ls Tryz.runUnderlying82 rfl rfl ?_
    refine mv rfl rfl ?_
    refine nl ?_
    refine fr ((lT (T.at 5)).length) (fun k1 l' H' L' => ∃ (a_k1 : Option Addr), ∃ (m_k1 : Nat), ∃ (c_k1 : Nat), ∃ (N_k1 : Chunk), [(0, .pointer (some ⟨b, 0, none⟩)), (1, .slice a_k1 m_k1 c_k1), (5, .int .i16 v), (6, .bool (decide ((6 : Int) ≤ v))), (29, .slice a5 (lT (T.at 5)).length c5), (296, .int .i64 ((lT (T.at 5)).length : Int))] = l' ∧ N_k1 :: L = L' ∧ Row 5 1 a_k1 m_k1 c_k1 (bytesOf (D ++ plainTo (zipped fs_UpdateMetadataRequest v true T) v 5 ++ (counted true false (lT (T.at 5)).length 4) ++ ((lT (T.at 5)).take k1).flatMap (GOf (fs_UpdateMetadataRequest[5]'(by decide)) v true))) N_k1 ∧ m_k1 = (D ++ plainTo (zipped fs_UpdateMetadataRequest v true T) v 5 ++ (counted true false (lT (T.at 5)).length 4) ++ ((lT (T.at 5)).take k1).flatMap (GOf (fs_UpdateMetadataRequest[5]'(by decide)) v true)).length) [(0, .pointer (some ⟨b, 0, none⟩)), (1, .slice _ _ _), (5, .int .i16 v), (6, .bool (decide ((6 : Int) ≤ v))), (29, .slice a5 (lT (T.at 5)).length c5), (296, .int .i64 ((lT (T.at 5)).length : Int))] (fun k1 l' H' L' h => ?_) (by omega) rfl (.cons rfl (.cons rfl (.cons rfl (.cons rfl (.cons rfl (.cons rfl (.nil _))))))) ⟨_, _, _, _, rfl, rfl, (by rw [List.take_zero, List.flatMap_nil, List.append_nil]; exact r290), (by rw [List.take_zero, List.flatMap_nil, List.append_nil])⟩ rfl rfl rfl rfl rfl (fun k1 l' H' L' hk1 le_13 hI => ?_) (fun l' H' L' le_14 hI => ?_)
    · obtain ⟨a_k1, m_k1, c_k1, N_k1, rfl, _⟩ := h; exact ⟨rfl, rfl, rfl, rfl⟩
    · skip
      obtain ⟨a_k1, m_k1, c_k1, N_k1, rfl, rfl, pk10, pk11⟩ := hI
      subst pk11
      refine sr ?_
      refine mv rfl rfl ?_
      refine asg rfl rfl ?_
      refine nl ?_
      refine sr ?_
      refine mv rfl rfl ?_
      refine mv rfl rfl ?_
      obtain ⟨b_15, o_16, e_17, g_18⟩ := (hf1.mono At_UpdateMetadataRequestTopicState.mono (le_3.trans le_13)).rows.at_ (ne_nil_of_lt hk1)
      obtain ⟨cs_19, hA_20, hc_21⟩ := g_18 k1 hk1
      refine ix2 Tryz.runUnderlying82 Tryz.sizeOf154 rfl e_17 rfl rfl hk1 rfl ?_
      obtain ⟨a_k1_2, c_k1_2, m_k1_t, rfl, hf_k1_0, hf_k1_1⟩ := hA_20
      have oek1 := (ok290.el rfl _ (lT_mem (List.getElem_mem hk1))).2 rfl
      obtain ⟨B_k1, hdk1⟩ : ∃ z : List UInt8, z = D ++ plainTo (zipped fs_UpdateMetadataRequest v true T) v 5 ++ (counted true false (lT (T.at 5)).length 4) ++ ((lT (T.at 5)).take k1).flatMap (GOf (fs_UpdateMetadataRequest[5]'(by decide)) v true) := ⟨_, rfl⟩
      have rbk1 := pk10
      rw [← hdk1] at rbk1 ⊢
      have hBk1 : B_k1.length + (partB fs_sUpdateMetadataRequestTopicState v true ((lT (T.at 5))[k1])).length ≤ LIM := by rw [hdk1]; exact el_size hs290 hk1 (GOf_part (by decide) _)
      refine asg rfl rfl ?_
      refine nl ?_
      refine sq ?_
      refine sr ?_
      refine mv rfl rfl ?_
      refine nc rfl rfl ?_
      refine fa F154_0 rfl rfl ?_
      refine ld (Says.fz hc_21) Tryz.isAgg9 rfl (Nat.add_zero _).symm rfl rfl ?_
      refine asg rfl rfl ?_
      refine nl ?_
      refine sr ?_
      refine mv rfl rfl ?_
      refine nl ?_
      refine cdT rfl (by omega) ?_
      refine rg ?_
      refine mv rfl rfl ?_
      refine mv rfl rfl ?_
      have ok310 := oek1.get 0 (by decide) (has_yes (show (0 : Int) ≤ v by omega) (show ((-1) : Int) < 0 ∨ v ≤ (-1) by omega))
      have nn310 := ok310.nn (by decide) (by decide)
      have e_22 : B_k1 ++ (counted true false (((lT (T.at 5))[k1]).at 0).s.length 2 ++ (((lT (T.at 5))[k1]).at 0).s) = B_k1 ++ plainTo (zipped fs_sUpdateMetadataRequestTopicState v true ((lT (T.at 5))[k1])) v 1 := fold_first (fs := fs_sUpdateMetadataRequestTopicState) (v := v) (flex := true) (t := ((lT (T.at 5))[k1])) (B := B_k1) 0 rfl (by decide) (by decide) (has_yes (show (0 : Int) ≤ v by omega) (show ((-1) : Int) < 0 ∨ v ≤ (-1) by omega)) (by rw [FB_text (f := (fs_sUpdateMetadataRequestTopicState[0]'(by decide))) (by decide) (by decide) ok310, sT_nn nn310, nn310])
      have hs310 := fold_size e_22 (by decide) hBk1
      refine cl rfl rfl rfl (OutK.cast (k_AppendCompactString (x := (((lT (T.at 5))[k1]).at 0).s) (by have := ok310.s (Or.inl rfl); omega) rbk1 hs310) e_22) rfl (fun v_ H1 L1 hle hR => ?_)
      obtain ⟨rfl, a310, c310, N310, rfl, rfl, h310⟩ := hR
      have r310 := h310.1
      refine asg rfl rfl ?_
      refine nl ?_
      refine sq ?_
      refine sr ?_
      refine mv rfl rfl ?_
      refine ge rfl rfl rfl ?_
      refine nl ?_
      refine cutT (fun l' H' L' => ∃ (aj_23 : Option Addr), ∃ (mj_23 : Nat), ∃ (cj_23 : Nat), ∃ (Nj_23 : Chunk), [(0, .pointer (some ⟨b, 0, none⟩)), (1, .slice aj_23 mj_23 cj_23), (5, .int .i16 v), (6, .bool (decide ((6 : Int) ≤ v))), (29, .slice a5 (lT (T.at 5)).length c5), (31, .pointer (some ⟨b_15, o_16 + k1 * 19, none⟩)), (296, .int .i64 ((lT (T.at 5)).length : Int)), (297, .int .i64 (k1 : Int))] = l' ∧ Nj_23 :: L = L' ∧ Row 5 1 aj_23 mj_23 cj_23 (bytesOf (B_k1 ++ plainTo (zipped fs_sUpdateMetadataRequestTopicState v true ((lT (T.at 5))[k1])) v 2)) Nj_23 ∧ mj_23 = (B_k1 ++ plainTo (zipped fs_sUpdateMetadataRequestTopicState v true ((lT (T.at 5))[k1])) v 2).length) ?_ (fun l' H' L' le_24 hI => ?_)
      · skip
        refine cd rfl (fun h315 => ?_) (fun h315 => ?_)
        · skip
          refine sr ?_
          refine mv rfl rfl ?_
          refine nc rfl rfl ?_
          refine fa F154_1 rfl rfl ?_
          refine la (Says.fz hc_21) Tryz.isAgg119 Tryz.sizeOf119 rfl rfl rfl rfl ?_
          refine al Tryz.zeroValue119 rfl rfl (fun b_25 => ?_)
          refine sa Tryz.sizeOf119 rfl rfl rfl rfl rfl .head ?_
          refine nl ?_
          refine rg ?_
          refine mv rfl rfl ?_
          refine la (Says.own .head) Tryz.isAgg119 Tryz.sizeOf119 rfl (Nat.zero_add _).symm rfl rfl ?_
          refine tf (.tail .head) ?_
          have ok322 := oek1.get 1 (by decide) (has_yes (show (7 : Int) ≤ v by omega) (show ((-1) : Int) < 0 ∨ v ≤ (-1) by omega))
          have e_26 : B_k1 ++ plainTo (zipped fs_sUpdateMetadataRequestTopicState v true ((lT (T.at 5))[k1])) v 1 ++ (pad16 (((lT (T.at 5))[k1]).at 1).s) = B_k1 ++ plainTo (zipped fs_sUpdateMetadataRequestTopicState v true ((lT (T.at 5))[k1])) v 2 := fold_yes (fs := fs_sUpdateMetadataRequestTopicState) (v := v) (flex := true) (t := ((lT (T.at 5))[k1])) (B := B_k1) 1 (by decide) (by decide) (has_yes (show (7 : Int) ≤ v by omega) (show ((-1) : Int) < 0 ∨ v ≤ (-1) by omega)) (FB_uuid (f := (fs_sUpdateMetadataRequestTopicState[1]'(by decide))) (by decide))
          have hs322 := fold_size e_26 (by decide) hBk1
          refine cl rfl rfl rfl (OutK.cast (k_AppendUuid (x := (((lT (T.at 5))[k1]).at 1).s) r310 hs322) e_26) rfl (fun v_ H1 L1 hle hR => ?_)
          obtain ⟨rfl, a322, c322, N322, rfl, rfl, h322⟩ := hR
          have r322 := h322.1
          refine asg rfl rfl ?_
          refine nN ?_
          refine drN (.tail .head) ?_
          refine fun a_ w_ hA hw => ⟨_, _, _, hA.sub ?_, (Fz.le.refl _), hw, _, _, _, _, rfl, rfl, r322, rfl⟩
          exact (.cons rfl (.cons rfl (.cons rfl (.cons rfl (.cons rfl (.cons rfl (.cons rfl (.cons rfl (.nil _)))))))))
        · skip
          refine skN ?_
          have es_27 : plainTo (zipped fs_sUpdateMetadataRequestTopicState v true ((lT (T.at 5))[k1])) v 2 = plainTo (zipped fs_sUpdateMetadataRequestTopicState v true ((lT (T.at 5))[k1])) v 1 := (piece_no2 (fs := fs_sUpdateMetadataRequestTopicState) (v := v) (flex := true) (t := ((lT (T.at 5))[k1])) (k := 1) (by decide) (has_no (show v < (7 : Int) ∨ ((0 : Int) ≤ (-1) ∧ (-1) < v) by omega)))
          have eX_28 : B_k1 ++ plainTo (zipped fs_sUpdateMetadataRequestTopicState v true ((lT (T.at 5))[k1])) v 1 = B_k1 ++ plainTo (zipped fs_sUpdateMetadataRequestTopicState v true ((lT (T.at 5))[k1])) v 2 := by rw [es_27]
          refine fun a_ w_ hA hw => ⟨_, _, _, hA.sub ?_, (Fz.le.refl _), hw, _, _, _, _, rfl, rfl, (by rw [← eX_28]; exact r310), (by rw [← eX_28])⟩
          exact (.cons rfl (.cons rfl (.cons rfl (.cons rfl (.cons rfl (.cons rfl (.cons rfl (.cons rfl (.nil _)))))))))
      · skip
        obtain ⟨aj_23, mj_23, cj_23, Nj_23, rfl, rfl, pj0, pj1⟩ := hI
        subst pj1
        have rj_23 := pj0
        refine sq ?_
        refine sr ?_
        refine mv rfl rfl ?_
        refine nc rfl rfl ?_
        refine fa F154_2 rfl rfl ?_
        refine ld (Says.fz (hc_21.mono le_24)) Tryz.isAgg81 rfl rfl rfl rfl ?_
        refine asg rfl rfl ?_
        refine nl ?_
        refine sq ?_
        refine sr ?_
        refine mv rfl rfl ?_
        refine nl ?_
        refine cdT rfl (by omega) ?_
        refine rg ?_
        refine mv rfl rfl ?_
        refine mv rfl rfl ?_
        refine ls Tryz.runUnderlying81 rfl rfl ?_
        have ok331 := oek1.get 2 (by decide) (has_yes (show (0 : Int) ≤ v by omega) (show ((-1) : Int) < 0 ∨ v ≤ (-1) by omega))
        have nn331 := ok331.nn (by decide) (by decide)
        have ll331 := lT_len (ok331.len rfl)
        have e_29 : B_k1 ++ plainTo (zipped fs_sUpdateMetadataRequestTopicState v true ((lT (T.at 5))[k1])) v 2 ++ (counted true false (lT (((lT (T.at 5))[k1]).at 2)).length 4 ++ (lT (((lT (T.at 5))[k1]).at 2)).flatMap (GOf (fs_sUpdateMetadataRequestTopicState[2]'(by decide)) v true)) = B_k1 ++ plainTo (zipped fs_sUpdateMetadataRequestTopicState v true ((lT (T.at 5))[k1])) v 3 := fold_yes (fs := fs_sUpdateMetadataRequestTopicState) (v := v) (flex := true) (t := ((lT (T.at 5))[k1])) (B := B_k1) 2 (by decide) (by decide) (has_yes (show (0 : Int) ≤ v by omega) (show ((-1) : Int) < 0 ∨ v ≤ (-1) by omega)) (by rw [FB_list (f := (fs_sUpdateMetadataRequestTopicState[2]'(by decide))) (by decide) (by decide) ok331, nn331])
        have hs331 := fold_size e_29 (by decide) hBk1
        have hc331 : (B_k1 ++ plainTo (zipped fs_sUpdateMetadataRequestTopicState v true ((lT (T.at 5))[k1])) v 2).length + (counted true false (lT (((lT (T.at 5))[k1]).at 2)).length 4).length ≤ LIM := by have h := hs331; simp only [List.length_append] at h ⊢; omega
        refine cl rfl rfl rfl (OutK.cast (k_AppendCompactArrayLen (n := (lT (((lT (T.at 5))[k1]).at 2)).length) (by omega) rj_23 hc331) (show _ = B_k1 ++ plainTo (zipped fs_sUpdateMetadataRequestTopicState v true ((lT (T.at 5))[k1])) v 2 ++ (counted true false (lT (((lT (T.at 5))[k1]).at 2)).length 4) from rfl)) rfl (fun v_ H1 L1 hle hR => ?_)
        obtain ⟨rfl, a331, c331, N331, rfl, rfl, h331⟩ := hR
        have r331 := h331.1
        refine asg rfl rfl ?_
        refine nl ?_
        refine sr ?_
        refine mv rfl rfl ?_
        refine ls Tryz.runUnderlying81 rfl rfl ?_
        refine mv rfl rfl ?_
        refine nl ?_
        refine fr ((lT (((lT (T.at 5))[k1]).at 2)).length) (fun k2 l' H' L' => ∃ (a_k2 : Option Addr), ∃ (m_k2 : Nat), ∃ (c_k2 : Nat), ∃ (N_k2 : Chunk), [(0, .pointer (some ⟨b, 0, none⟩)), (1, .slice a_k2 m_k2 c_k2), (5, .int .i16 v), (6, .bool (decide ((6 : Int) ≤ v))), (29, .slice a5 (lT (T.at 5)).length c5), (31, .pointer (some ⟨b_15, o_16 + k1 * 19, none⟩)), (34, .slice a_k1_2 (lT (((lT (T.at 5))[k1]).at 2)).length c_k1_2), (296, .int .i64 ((lT (T.at 5)).length : Int)), (297, .int .i64 (k1 : Int)), (337, .int .i64 ((lT (((lT (T.at 5))[k1]).at 2)).length : Int))] = l' ∧ N_k2 :: L = L' ∧ Row 5 1 a_k2 m_k2 c_k2 (bytesOf (B_k1 ++ plainTo (zipped fs_sUpdateMetadataRequestTopicState v true ((lT (T.at 5))[k1])) v 2 ++ (counted true false (lT (((lT (T.at 5))[k1]).at 2)).length 4) ++ ((lT (((lT (T.at 5))[k1]).at 2)).take k2).flatMap (GOf (fs_sUpdateMetadataRequestTopicState[2]'(by decide)) v true))) N_k2 ∧ m_k2 = (B_k1 ++ plainTo (zipped fs_sUpdateMetadataRequestTopicState v true ((lT (T.at 5))[k1])) v 2 ++ (counted true false (lT (((lT (T.at 5))[k1]).at 2)).length 4) ++ ((lT (((lT (T.at 5))[k1]).at 2)).take k2).flatMap (GOf (fs_sUpdateMetadataRequestTopicState[2]'(by decide)) v true)).length) [(0, .pointer (some ⟨b, 0, none⟩)), (1, .slice _ _ _), (5, .int .i16 v), (6, .bool (decide ((6 : Int) ≤ v))), (29, .slice a5 (lT (T.at 5)).length c5), (31, .pointer (some ⟨b_15, o_16 + k1 * 19, none⟩)), (34, .slice a_k1_2 (lT (((lT (T.at 5))[k1]).at 2)).length c_k1_2), (296, .int .i64 ((lT (T.at 5)).length : Int)), (297, .int .i64 (k1 : Int)), (337, .int .i64 ((lT (((lT (T.at 5))[k1]).at 2)).length : Int))] (fun k2 l' H' L' h => ?_) (by omega) rfl (.cons rfl (.cons rfl (.cons rfl (.cons rfl (.cons rfl (.cons rfl (.cons rfl (.cons rfl (.cons rfl (.cons rfl (.nil _))))))))))) ⟨_, _, _, _, rfl, rfl, (by rw [List.take_zero, List.flatMap_nil, List.append_nil]; exact r331), (by rw [List.take_zero, List.flatMap_nil, List.append_nil])⟩ rfl rfl rfl rfl rfl (fun k2 l' H' L' hk2 le_30 hI => ?_) (fun l' H' L' le_31 hI => ?_)
        · obtain ⟨a_k2, m_k2, c_k2, N_k2, rfl, _⟩ := h; exact ⟨rfl, rfl, rfl, rfl⟩
        · skip
          obtain ⟨a_k2, m_k2, c_k2, N_k2, rfl, rfl, pk20, pk21⟩ := hI
          subst pk21
          refine sr ?_
          refine mv rfl rfl ?_
          refine asg rfl rfl ?_
          refine nl ?_
          refine sr ?_
          refine mv rfl rfl ?_
          refine mv rfl rfl ?_
          obtain ⟨b_32, o_33, e_34, g_35⟩ := (hf_k1_0.mono At_UpdateMetadataRequestTopicPartition.mono (le_24.trans le_30)).rows.at_ (ne_nil_of_lt hk2)
          obtain ⟨cs_36, hA_37, hc_38⟩ := g_35 k2 hk2
          refine ix2 Tryz.runUnderlying81 Tryz.sizeOf151 rfl e_34 rfl rfl hk2 rfl ?_
          obtain ⟨a_k2_5, c_k2_5, a_k2_7, c_k2_7, a_k2_8, c_k2_8, m_k2_t, rfl, hf_k2_0, hf_k2_1, hf_k2_2, hf_k2_3⟩ := hA_37
          have oek2 := (ok331.el rfl _ (lT_mem (List.getElem_mem hk2))).2 rfl
          obtain ⟨B_k2, hdk2⟩ : ∃ z : List UInt8, z = B_k1 ++ plainTo (zipped fs_sUpdateMetadataRequestTopicState v true ((lT (T.at 5))[k1])) v 2 ++ (counted true false (lT (((lT (T.at 5))[k1]).at 2)).length 4) ++ ((lT (((lT (T.at 5))[k1]).at 2)).take k2).flatMap (GOf (fs_sUpdateMetadataRequestTopicState[2]'(by decide)) v true) := ⟨_, rfl⟩
          have rbk2 := pk20
          rw [← hdk2] at rbk2 ⊢
          have hBk2 : B_k2.length + (partB fs_sUpdateMetadataRequestTopicPartition v true ((lT (((lT (T.at 5))[k1]).at 2))[k2])).length ≤ LIM := by rw [hdk2]; exact el_size hs331 hk2 (GOf_part (by decide) _)
          refine asg rfl rfl ?_
          refine nl ?_
          refine sq ?_
          refine sr ?_
          refine mv rfl rfl ?_
          refine ge rfl rfl rfl ?_
          refine mv rfl rfl ?_
          refine spl (t := 346) rfl (fun _ => ?_) (fun hn_ => absurd (by omega) hn_)
          refine gr rfl rfl ?_
          refine mv rfl rfl ?_
          refine gr rfl rfl ?_
          refine le rfl rfl rfl ?_
          refine pk rfl rfl rfl rfl ?_
          refine nl ?_
          refine cdF rfl (by omega) ?_
          refine skt ?_
          refine sq ?_
          refine sr ?_
          refine mv rfl rfl ?_
          refine nc rfl rfl ?_
          refine fa F151_1 rfl rfl ?_
          refine ld (Says.fz hc_38) Tryz.isAgg21 rfl rfl rfl rfl ?_
          refine asg rfl rfl ?_
          refine nl ?_
          refine rg ?_
          refine mv rfl rfl ?_
          refine mv rfl rfl ?_
          have es_39 : plainTo (zipped fs_sUpdateMetadataRequestTopicPartition v true ((lT (((lT (T.at 5))[k1]).at 2))[k2])) v 1 = plainTo (zipped fs_sUpdateMetadataRequestTopicPartition v true ((lT (((lT (T.at 5))[k1]).at 2))[k2])) v 0 := (piece_no2 (fs := fs_sUpdateMetadataRequestTopicPartition) (v := v) (flex := true) (t := ((lT (((lT (T.at 5))[k1]).at 2))[k2])) (k := 0) (by decide) (has_no (show v < (0 : Int) ∨ ((0 : Int) ≤ 4 ∧ 4 < v) by omega)))
          have ok367 := oek2.get 1 (by decide) (has_yes (show (0 : Int) ≤ v by omega) (show ((-1) : Int) < 0 ∨ v ≤ (-1) by omega))
          have e_40 : B_k2 ++ (fixed (IntKind.i32.wrap (((lT (((lT (T.at 5))[k1]).at 2))[k2]).at 1).n) 4) = B_k2 ++ plainTo (zipped fs_sUpdateMetadataRequestTopicPartition v true ((lT (((lT (T.at 5))[k1]).at 2))[k2])) v 2 := fold_first (fs := fs_sUpdateMetadataRequestTopicPartition) (v := v) (flex := true) (t := ((lT (((lT (T.at 5))[k1]).at 2))[k2])) (B := B_k2) 1 (by rw [es_39]; rfl) (by decide) (by decide) (has_yes (show (0 : Int) ≤ v by omega) (show ((-1) : Int) < 0 ∨ v ≤ (-1) by omega)) ((FB_int (f := (fs_sUpdateMetadataRequestTopicPartition[1]'(by decide))) (by decide) (by decide)).trans (fixed_i32 _).symm)
          have hs367 := fold_size e_40 (by decide) hBk2
          refine cl rfl rfl rfl (OutK.cast (k_AppendInt32 (u := IntKind.i32.wrap (((lT (((lT (T.at 5))[k1]).at 2))[k2]).at 1).n) rbk2 hs367) e_40) rfl (fun v_ H1 L1 hle hR => ?_)
          obtain ⟨rfl, a367, c367, N367, rfl, rfl, h367⟩ := hR
          have r367 := h367.1
          refine asg rfl rfl ?_
          refine nl ?_
          refine sq ?_
          refine sr ?_
          refine mv rfl rfl ?_
          refine nc rfl rfl ?_
          refine fa F151_2 rfl rfl ?_
          refine ld (Says.fz hc_38) Tryz.isAgg21 rfl rfl rfl rfl ?_
          refine asg rfl rfl ?_
          refine nl ?_
          refine rg ?_
          refine mv rfl rfl ?_
          refine mv rfl rfl ?_
          have ok374 := oek2.get 2 (by decide) (has_yes (show (0 : Int) ≤ v by omega) (show ((-1) : Int) < 0 ∨ v ≤ (-1) by omega))
          have e_41 : B_k2 ++ plainTo (zipped fs_sUpdateMetadataRequestTopicPartition v true ((lT (((lT (T.at 5))[k1]).at 2))[k2])) v 2 ++ (fixed (IntKind.i32.wrap (((lT (((lT (T.at 5))[k1]).at 2))[k2]).at 2).n) 4) = B_k2 ++ plainTo (zipped fs_sUpdateMetadataRequestTopicPartition v true ((lT (((lT (T.at 5))[k1]).at 2))[k2])) v 3 := fold_yes (fs := fs_sUpdateMetadataRequestTopicPartition) (v := v) (flex := true) (t := ((lT (((lT (T.at 5))[k1]).at 2))[k2])) (B := B_k2) 2 (by decide) (by decide) (has_yes (show (0 : Int) ≤ v by omega) (show ((-1) : Int) < 0 ∨ v ≤ (-1) by omega)) ((FB_int (f := (fs_sUpdateMetadataRequestTopicPartition[2]'(by decide))) (by decide) (by decide)).trans (fixed_i32 _).symm)
          have hs374 := fold_size e_41 (by decide) hBk2
          refine cl rfl rfl rfl (OutK.cast (k_AppendInt32 (u := IntKind.i32.wrap (((lT (((lT (T.at 5))[k1]).at 2))[k2]).at 2).n) r367 hs374) e_41) rfl (fun v_ H1 L1 hle hR => ?_)
          obtain ⟨rfl, a374, c374, N374, rfl, rfl, h374⟩ := hR
          have r374 := h374.1
          refine asg rfl rfl ?_
          refine nl ?_
          refine sq ?_
          refine sr ?_
          refine mv rfl rfl ?_
          refine nc rfl rfl ?_
          refine fa F151_3 rfl rfl ?_
          refine ld (Says.fz hc_38) Tryz.isAgg21 rfl rfl rfl rfl ?_
          refine asg rfl rfl ?_
          refine nl ?_
          refine rg ?_
          refine mv rfl rfl ?_
          refine mv rfl rfl ?_
          have ok381 := oek2.get 3 (by decide) (has_yes (show (0 : Int) ≤ v by omega) (show ((-1) : Int) < 0 ∨ v ≤ (-1) by omega))
          have e_42 : B_k2 ++ plainTo (zipped fs_sUpdateMetadataRequestTopicPartition v true ((lT (((lT (T.at 5))[k1]).at 2))[k2])) v 3 ++ (fixed (IntKind.i32.wrap (((lT (((lT (T.at 5))[k1]).at 2))[k2]).at 3).n) 4) = B_k2 ++ plainTo (zipped fs_sUpdateMetadataRequestTopicPartition v true ((lT (((lT (T.at 5))[k1]).at 2))[k2])) v 4 := fold_yes (fs := fs_sUpdateMetadataRequestTopicPartition) (v := v) (flex := true) (t := ((lT (((lT (T.at 5))[k1]).at 2))[k2])) (B := B_k2) 3 (by decide) (by decide) (has_yes (show (0 : Int) ≤ v by omega) (show ((-1) : Int) < 0 ∨ v ≤ (-1) by omega)) ((FB_int (f := (fs_sUpdateMetadataRequestTopicPartition[3]'(by decide))) (by decide) (by decide)).trans (fixed_i32 _).symm)
          have hs381 := fold_size e_42 (by decide) hBk2
          refine cl rfl rfl rfl (OutK.cast (k_AppendInt32 (u := IntKind.i32.wrap (((lT (((lT (T.at 5))[k1]).at 2))[k2]).at 3).n) r374 hs381) e_42) rfl (fun v_ H1 L1 hle hR => ?_)
          obtain ⟨rfl, a381, c381, N381, rfl, rfl, h381⟩ := hR
          have r381 := h381.1
          refine asg rfl rfl ?_
          refine nl ?_
          refine sq ?_
          refine sr ?_
          refine mv rfl rfl ?_
          refine nc rfl rfl ?_
          refine fa F151_4 rfl rfl ?_
          refine ld (Says.fz hc_38) Tryz.isAgg21 rfl rfl rfl rfl ?_
          refine asg rfl rfl ?_
          refine nl ?_
          refine rg ?_
          refine mv rfl rfl ?_
          refine mv rfl rfl ?_
          have ok388 := oek2.get 4 (by decide) (has_yes (show (0 : Int) ≤ v by omega) (show ((-1) : Int) < 0 ∨ v ≤ (-1) by omega))
          have e_43 : B_k2 ++ plainTo (zipped fs_sUpdateMetadataRequestTopicPartition v true ((lT (((lT (T.at 5))[k1]).at 2))[k2])) v 4 ++ (fixed (IntKind.i32.wrap (((lT (((lT (T.at 5))[k1]).at 2))[k2]).at 4).n) 4) = B_k2 ++ plainTo (zipped fs_sUpdateMetadataRequestTopicPartition v true ((lT (((lT (T.at 5))[k1]).at 2))[k2])) v 5 := fold_yes (fs := fs_sUpdateMetadataRequestTopicPartition) (v := v) (flex := true) (t := ((lT (((lT (T.at 5))[k1]).at 2))[k2])) (B := B_k2) 4 (by decide) (by decide) (has_yes (show (0 : Int) ≤ v by omega) (show ((-1) : Int) < 0 ∨ v ≤ (-1) by omega)) ((FB_int (f := (fs_sUpdateMetadataRequestTopicPartition[4]'(by decide))) (by decide) (by decide)).trans (fixed_i32 _).symm)
          have hs388 := fold_size e_43 (by decide) hBk2
          refine cl rfl rfl rfl (OutK.cast (k_AppendInt32 (u := IntKind.i32.wrap (((lT (((lT (T.at 5))[k1]).at 2))[k2]).at 4).n) r381 hs388) e_43) rfl (fun v_ H1 L1 hle hR => ?_)
          obtain ⟨rfl, a388, c388, N388, rfl, rfl, h388⟩ := hR
          have r388 := h388.1
          refine asg rfl rfl ?_
          refine nl ?_
          refine sq ?_
          refine sr ?_
          refine mv rfl rfl ?_
          refine nc rfl rfl ?_
          refine fa F151_5 rfl rfl ?_
          refine ld (Says.fz hc_38) Tryz.isAgg149 rfl rfl rfl rfl ?_
          refine asg rfl rfl ?_
          refine nl ?_
          refine sq ?_
          refine sr ?_
          refine mv rfl rfl ?_
          refine nl ?_
          refine cdT rfl (by omega) ?_
          refine rg ?_
          refine mv rfl rfl ?_
          refine mv rfl rfl ?_
          refine ls Tryz.runUnderlying149 rfl rfl ?_
          have ok397 := oek2.get 5 (by decide) (has_yes (show (0 : Int) ≤ v by omega) (show ((-1) : Int) < 0 ∨ v ≤ (-1) by omega))
          have nn397 := ok397.nn (by decide) (by decide)
          have ll397 := lT_len (ok397.len rfl)
          have e_44 : B_k2 ++ plainTo (zipped fs_sUpdateMetadataRequestTopicPartition v true ((lT (((lT (T.at 5))[k1]).at 2))[k2])) v 5 ++ (counted true false (lT (((lT (((lT (T.at 5))[k1]).at 2))[k2]).at 5)).length 4 ++ (lT (((lT (((lT (T.at 5))[k1]).at 2))[k2]).at 5)).flatMap (GOf (fs_sUpdateMetadataRequestTopicPartition[5]'(by decide)) v true)) = B_k2 ++ plainTo (zipped fs_sUpdateMetadataRequestTopicPartition v true ((lT (((lT (T.at 5))[k1]).at 2))[k2])) v 6 := fold_yes (fs := fs_sUpdateMetadataRequestTopicPartition) (v := v) (flex := true) (t := ((lT (((lT (T.at 5))[k1]).at 2))[k2])) (B := B_k2) 5 (by decide) (by decide) (has_yes (show (0 : Int) ≤ v by omega) (show ((-1) : Int) < 0 ∨ v ≤ (-1) by omega)) (by rw [FB_list (f := (fs_sUpdateMetadataRequestTopicPartition[5]'(by decide))) (by decide) (by decide) ok397, nn397])
          have hs397 := fold_size e_44 (by decide) hBk2
          have hc397 : (B_k2 ++ plainTo (zipped fs_sUpdateMetadataRequestTopicPartition v true ((lT (((lT (T.at 5))[k1]).at 2))[k2])) v 5).length + (counted true false (lT (((lT (((lT (T.at 5))[k1]).at 2))[k2]).at 5)).length 4).length ≤ LIM := by have h := hs397; simp only [List.length_append] at h ⊢; omega
          refine cl rfl rfl rfl (OutK.cast (k_AppendCompactArrayLen (n := (lT (((lT (((lT (T.at 5))[k1]).at 2))[k2]).at 5)).length) (by omega) r388 hc397) (show _ = B_k2 ++ plainTo (zipped fs_sUpdateMetadataRequestTopicPartition v true ((lT (((lT (T.at 5))[k1]).at 2))[k2])) v 5 ++ (counted true false (lT (((lT (((lT (T.at 5))[k1]).at 2))[k2]).at 5)).length 4) from rfl)) rfl (fun v_ H1 L1 hle hR => ?_)
          obtain ⟨rfl, a397, c397, N397, rfl, rfl, h397⟩ := hR
          have r397 := h397.1
          refine asg rfl rfl ?_
          refine nl ?_
          refine sr ?_
          refine mv rfl rfl ?_
          refine ls Tryz.runUnderlying149 rfl rfl ?_
          refine mv rfl rfl ?_
          refine nl ?_
          refine fr ((lT (((lT (((lT (T.at 5))[k1]).at 2))[k2]).at 5)).length) (fun k3 l' H' L' => ∃ (a_k3 : Option Addr), ∃ (m_k3 : Nat), ∃ (c_k3 : Nat), ∃ (N_k3 : Chunk), [(0, .pointer (some ⟨b, 0, none⟩)), (1, .slice a_k3 m_k3 c_k3), (5, .int .i16 v), (6, .bool (decide ((6 : Int) ≤ v))), (29, .slice a5 (lT (T.at 5)).length c5), (31, .pointer (some ⟨b_15, o_16 + k1 * 19, none⟩)), (34, .slice a_k1_2 (lT (((lT (T.at 5))[k1]).at 2)).length c_k1_2), (36, .pointer (some ⟨b_32, o_33 + k2 * 10, none⟩)), (42, .slice a_k2_5 (lT (((lT (((lT (T.at 5))[k1]).at 2))[k2]).at 5)).length c_k2_5), (296, .int .i64 ((lT (T.at 5)).length : Int)), (297, .int .i64 (k1 : Int)), (337, .int .i64 ((lT (((lT (T.at 5))[k1]).at 2)).length : Int)), (338, .int .i64 (k2 : Int)), (403, .int .i64 ((lT (((lT (((lT (T.at 5))[k1]).at 2))[k2]).at 5)).length : Int))] = l' ∧ N_k3 :: L = L' ∧ Row 5 1 a_k3 m_k3 c_k3 (bytesOf (B_k2 ++ plainTo (zipped fs_sUpdateMetadataRequestTopicPartition v true ((lT (((lT (T.at 5))[k1]).at 2))[k2])) v 5 ++ (counted true false (lT (((lT (((lT (T.at 5))[k1]).at 2))[k2]).at 5)).length 4) ++ ((lT (((lT (((lT (T.at 5))[k1]).at 2))[k2]).at 5)).take k3).flatMap (GOf (fs_sUpdateMetadataRequestTopicPartition[5]'(by decide)) v true))) N_k3 ∧ m_k3 = (B_k2 ++ plainTo (zipped fs_sUpdateMetadataRequestTopicPartition v true ((lT (((lT (T.at 5))[k1]).at 2))[k2])) v 5 ++ (counted true false (lT (((lT (((lT (T.at 5))[k1]).at 2))[k2]).at 5)).length 4) ++ ((lT (((lT (((lT (T.at 5))[k1]).at 2))[k2]).at 5)).take k3).flatMap (GOf (fs_sUpdateMetadataRequestTopicPartition[5]'(by decide)) v true)).length) [(0, .pointer (some ⟨b, 0, none⟩)), (1, .slice _ _ _), (5, .int .i16 v), (6, .bool (decide ((6 : Int) ≤ v))), (29, .slice a5 (lT (T.at 5)).length c5), (31, .pointer (some ⟨b_15, o_16 + k1 * 19, none⟩)), (34, .slice a_k1_2 (lT (((lT (T.at 5))[k1]).at 2)).length c_k1_2), (36, .pointer (some ⟨b_32, o_33 + k2 * 10, none⟩)), (42, .slice a_k2_5 (lT (((lT (((lT (T.at 5))[k1]).at 2))[k2]).at 5)).length c_k2_5), (296, .int .i64 ((lT (T.at 5)).length : Int)), (297, .int .i64 (k1 : Int)), (337, .int .i64 ((lT (((lT (T.at 5))[k1]).at 2)).length : Int)), (338, .int .i64 (k2 : Int)), (403, .int .i64 ((lT (((lT (((lT (T.at 5))[k1]).at 2))[k2]).at 5)).length : Int))] (fun k3 l' H' L' h => ?_) (by omega) rfl (.cons rfl (.cons rfl (.cons rfl (.cons rfl (.cons rfl (.cons rfl (.cons rfl (.cons rfl (.cons rfl (.cons rfl (.cons rfl (.cons rfl (.cons rfl (.cons rfl (.nil _))))))))))))))) ⟨_, _, _, _, rfl, rfl, (by rw [List.take_zero, List.flatMap_nil, List.append_nil]; exact r397), (by rw [List.take_zero, List.flatMap_nil, List.append_nil])⟩ rfl rfl rfl rfl rfl (fun k3 l' H' L' hk3 le_45 hI => ?_) (fun l' H' L' le_46 hI => ?_)
          · obtain ⟨a_k3, m_k3, c_k3, N_k3, rfl, _⟩ := h; exact ⟨rfl, rfl, rfl, rfl⟩
          · skip
            obtain ⟨a_k3, m_k3, c_k3, N_k3, rfl, rfl, pk30, pk31⟩ := hI
            subst pk31
            refine sr ?_
            refine mv rfl rfl ?_
            refine asg rfl rfl ?_
            refine nl ?_
            refine sr ?_
            refine mv rfl rfl ?_
            refine mv rfl rfl ?_
            obtain ⟨b_47, o_48, e_49, g_50⟩ := (hf_k2_0.mono RI32.mono le_45).rows.at_ (ne_nil_of_lt hk3)
            obtain ⟨cs_51, hA_52, hc_53⟩ := g_50 k3 hk3
            refine ix2 Tryz.runUnderlying149 Tryz.sizeOf21 rfl e_49 rfl rfl hk3 rfl ?_
            obtain rfl := hA_52
            refine ld (Says.fz hc_53) Tryz.isAgg21 rfl (Nat.add_zero _).symm rfl rfl ?_
            refine asg rfl rfl ?_
            refine nl ?_
            refine rg ?_
            refine mv rfl rfl ?_
            refine mv rfl rfl ?_
            have hp413 : (GOf (fs_sUpdateMetadataRequestTopicPartition[5]'(by decide)) v true) ((lT (((lT (((lT (T.at 5))[k1]).at 2))[k2]).at 5))[k3]) = fixed (IntKind.i32.wrap ((lT (((lT (((lT (T.at 5))[k1]).at 2))[k2]).at 5))[k3]).n) 4 := (G_int (f := (fs_sUpdateMetadataRequestTopicPartition[5]'(by decide))) (by decide) (by decide) _).trans (fixed_i32 _).symm
            have hs413 := el_size hs397 hk3 hp413
            have ee413 := el_end (B0 := B_k2 ++ plainTo (zipped fs_sUpdateMetadataRequestTopicPartition v true ((lT (((lT (T.at 5))[k1]).at 2))[k2])) v 5 ++ (counted true false (lT (((lT (((lT (T.at 5))[k1]).at 2))[k2]).at 5)).length 4)) hk3 hp413
            refine cl rfl rfl rfl (OutK.cast (k_AppendInt32 (u := IntKind.i32.wrap ((lT (((lT (((lT (T.at 5))[k1]).at 2))[k2]).at 5))[k3]).n) pk30 hs413) ee413) rfl (fun v_ H1 L1 hle hR => ?_)
            obtain ⟨rfl, a413, c413, N413, rfl, rfl, h413⟩ := hR
            have r413 := h413.1
            refine asg rfl rfl ?_
            refine nN ?_
            refine Nb ?_
            refine fun a_ w_ hA hw => ⟨_, _, _, hA.sub ?_, le_45, hw, _, rfl, _, _, _, _, rfl, rfl, r413, rfl⟩
            exact (.cons rfl (.cons rfl (.cons rfl (.cons rfl (.cons rfl (.cons rfl (.cons rfl (.cons rfl (.cons rfl (.cons rfl (.cons rfl (.cons rfl (.cons rfl (.cons rfl (.cons rfl (.nil _))))))))))))))))
          · skip
            obtain ⟨a_k3, m_k3, c_k3, N_k3, rfl, rfl, pk30, pk31⟩ := hI
            refine toWp ?_
            have eL397 : B_k2 ++ plainTo (zipped fs_sUpdateMetadataRequestTopicPartition v true ((lT (((lT (T.at 5))[k1]).at 2))[k2])) v 5 ++ (counted true false (lT (((lT (((lT (T.at 5))[k1]).at 2))[k2]).at 5)).length 4) ++ ((lT (((lT (((lT (T.at 5))[k1]).at 2))[k2]).at 5)).take (lT (((lT (((lT (T.at 5))[k1]).at 2))[k2]).at 5)).length).flatMap (GOf (fs_sUpdateMetadataRequestTopicPartition[5]'(by decide)) v true) = B_k2 ++ plainTo (zipped fs_sUpdateMetadataRequestTopicPartition v true ((lT (((lT (T.at 5))[k1]).at 2))[k2])) v 6 := by rw [List.take_length, List.append_assoc]; exact e_44
            rw [eL397] at pk30 pk31
            subst pk31
            refine sq ?_
            refine sr ?_
            refine mv rfl rfl ?_
            refine nc rfl rfl ?_
            refine fa F151_6 rfl rfl ?_
            refine ld (Says.fz (hc_38.mono le_46)) Tryz.isAgg21 rfl rfl rfl rfl ?_
            refine asg rfl rfl ?_
            refine nl ?_
            refine rg ?_
            refine mv rfl rfl ?_
            refine mv rfl rfl ?_
            have ok421 := oek2.get 6 (by decide) (has_yes (show (0 : Int) ≤ v by omega) (show ((-1) : Int) < 0 ∨ v ≤ (-1) by omega))
            have e_54 : B_k2 ++ plainTo (zipped fs_sUpdateMetadataRequestTopicPartition v true ((lT (((lT (T.at 5))[k1]).at 2))[k2])) v 6 ++ (fixed (IntKind.i32.wrap (((lT (((lT (T.at 5))[k1]).at 2))[k2]).at 6).n) 4) = B_k2 ++ plainTo (zipped fs_sUpdateMetadataRequestTopicPartition v true ((lT (((lT (T.at 5))[k1]).at 2))[k2])) v 7 := fold_yes (fs := fs_sUpdateMetadataRequestTopicPartition) (v := v) (flex := true) (t := ((lT (((lT (T.at 5))[k1]).at 2))[k2])) (B := B_k2) 6 (by decide) (by decide) (has_yes (show (0 : Int) ≤ v by omega) (show ((-1) : Int) < 0 ∨ v ≤ (-1) by omega)) ((FB_int (f := (fs_sUpdateMetadataRequestTopicPartition[6]'(by decide))) (by decide) (by decide)).trans (fixed_i32 _).symm)
            have hs421 := fold_size e_54 (by decide) hBk2
            refine cl rfl rfl rfl (OutK.cast (k_AppendInt32 (u := IntKind.i32.wrap (((lT (((lT (T.at 5))[k1]).at 2))[k2]).at 6).n) pk30 hs421) e_54) rfl (fun v_ H1 L1 hle hR => ?_)
            obtain ⟨rfl, a421, c421, N421, rfl, rfl, h421⟩ := hR
            have r421 := h421.1
            refine asg rfl rfl ?_
            refine nl ?_
            refine sq ?_
            refine sr ?_
            refine mv rfl rfl ?_
            refine nc rfl rfl ?_
            refine fa F151_7 rfl rfl ?_
            refine ld (Says.fz (hc_38.mono le_46)) Tryz.isAgg149 rfl rfl rfl rfl ?_
            refine asg rfl rfl ?_
            refine nl ?_
            refine sq ?_
            refine sr ?_
            refine mv rfl rfl ?_
            refine nl ?_
            refine cdT rfl (by omega) ?_
            refine rg ?_
            refine mv rfl rfl ?_
            refine mv rfl rfl ?_
            refine ls Tryz.runUnderlying149 rfl rfl ?_
            have ok430 := oek2.get 7 (by decide) (has_yes (show (0 : Int) ≤ v by omega) (show ((-1) : Int) < 0 ∨ v ≤ (-1) by omega))
            have nn430 := ok430.nn (by decide) (by decide)
            have ll430 := lT_len (ok430.len rfl)
            have e_55 : B_k2 ++ plainTo (zipped fs_sUpdateMetadataRequestTopicPartition v true ((lT (((lT (T.at 5))[k1]).at 2))[k2])) v 7 ++ (counted true false (lT (((lT (((lT (T.at 5))[k1]).at 2))[k2]).at 7)).length 4 ++ (lT (((lT (((lT (T.at 5))[k1]).at 2))[k2]).at 7)).flatMap (GOf (fs_sUpdateMetadataRequestTopicPartition[7]'(by decide)) v true)) = B_k2 ++ plainTo (zipped fs_sUpdateMetadataRequestTopicPartition v true ((lT (((lT (T.at 5))[k1]).at 2))[k2])) v 8 := fold_yes (fs := fs_sUpdateMetadataRequestTopicPartition) (v := v) (flex := true) (t := ((lT (((lT (T.at 5))[k1]).at 2))[k2])) (B := B_k2) 7 (by decide) (by decide) (has_yes (show (0 : Int) ≤ v by omega) (show ((-1) : Int) < 0 ∨ v ≤ (-1) by omega)) (by rw [FB_list (f := (fs_sUpdateMetadataRequestTopicPartition[7]'(by decide))) (by decide) (by decide) ok430, nn430])
            have hs430 := fold_size e_55 (by decide) hBk2
            have hc430 : (B_k2 ++ plainTo (zipped fs_sUpdateMetadataRequestTopicPartition v true ((lT (((lT (T.at 5))[k1]).at 2))[k2])) v 7).length + (counted true false (lT (((lT (((lT (T.at 5))[k1]).at 2))[k2]).at 7)).length 4).length ≤ LIM := by have h := hs430; simp only [List.length_append] at h ⊢; omega
            refine cl rfl rfl rfl (OutK.cast (k_AppendCompactArrayLen (n := (lT (((lT (((lT (T.at 5))[k1]).at 2))[k2]).at 7)).length) (by omega) r421 hc430) (show _ = B_k2 ++ plainTo (zipped fs_sUpdateMetadataRequestTopicPartition v true ((lT (((lT (T.at 5))[k1]).at 2))[k2])) v 7 ++ (counted true false (lT (((lT (((lT (T.at 5))[k1]).at 2))[k2]).at 7)).length 4) from rfl)) rfl (fun v_ H1 L1 hle hR => ?_)
            obtain ⟨rfl, a430, c430, N430, rfl, rfl, h430⟩ := hR
            have r430 := h430.1
            refine asg rfl rfl ?_
            refine nl ?_
            refine sr ?_
            refine mv rfl rfl ?_
            refine ls Tryz.runUnderlying149 rfl rfl ?_
            refine mv rfl rfl ?_
            refine nl ?_
            refine fr ((lT (((lT (((lT (T.at 5))[k1]).at 2))[k2]).at 7)).length) (fun k4 l' H' L' => ∃ (a_k4 : Option Addr), ∃ (m_k4 : Nat), ∃ (c_k4 : Nat), ∃ (N_k4 : Chunk), [(0, .pointer (some ⟨b, 0, none⟩)), (1, .slice a_k4 m_k4 c_k4), (5, .int .i16 v), (6, .bool (decide ((6 : Int) ≤ v))), (29, .slice a5 (lT (T.at 5)).length c5), (31, .pointer (some ⟨b_15, o_16 + k1 * 19, none⟩)), (34, .slice a_k1_2 (lT (((lT (T.at 5))[k1]).at 2)).length c_k1_2), (36, .pointer (some ⟨b_32, o_33 + k2 * 10, none⟩)), (46, .slice a_k2_7 (lT (((lT (((lT (T.at 5))[k1]).at 2))[k2]).at 7)).length c_k2_7), (296, .int .i64 ((lT (T.at 5)).length : Int)), (297, .int .i64 (k1 : Int)), (337, .int .i64 ((lT (((lT (T.at 5))[k1]).at 2)).length : Int)), (338, .int .i64 (k2 : Int)), (436, .int .i64 ((lT (((lT (((lT (T.at 5))[k1]).at 2))[k2]).at 7)).length : Int))] = l' ∧ N_k4 :: L = L' ∧ Row 5 1 a_k4 m_k4 c_k4 (bytesOf (B_k2 ++ plainTo (zipped fs_sUpdateMetadataRequestTopicPartition v true ((lT (((lT (T.at 5))[k1]).at 2))[k2])) v 7 ++ (counted true false (lT (((lT (((lT (T.at 5))[k1]).at 2))[k2]).at 7)).length 4) ++ ((lT (((lT (((lT (T.at 5))[k1]).at 2))[k2]).at 7)).take k4).flatMap (GOf (fs_sUpdateMetadataRequestTopicPartition[7]'(by decide)) v true))) N_k4 ∧ m_k4 = (B_k2 ++ plainTo (zipped fs_sUpdateMetadataRequestTopicPartition v true ((lT (((lT (T.at 5))[k1]).at 2))[k2])) v 7 ++ (counted true false (lT (((lT (((lT (T.at 5))[k1]).at 2))[k2]).at 7)).length 4) ++ ((lT (((lT (((lT (T.at 5))[k1]).at 2))[k2]).at 7)).take k4).flatMap (GOf (fs_sUpdateMetadataRequestTopicPartition[7]'(by decide)) v true)).length) [(0, .pointer (some ⟨b, 0, none⟩)), (1, .slice _ _ _), (5, .int .i16 v), (6, .bool (decide ((6 : Int) ≤ v))), (29, .slice a5 (lT (T.at 5)).length c5), (31, .pointer (some ⟨b_15, o_16 + k1 * 19, none⟩)), (34, .slice a_k1_2 (lT (((lT (T.at 5))[k1]).at 2)).length c_k1_2), (36, .pointer (some ⟨b_32, o_33 + k2 * 10, none⟩)), (46, .slice a_k2_7 (lT (((lT (((lT (T.at 5))[k1]).at 2))[k2]).at 7)).length c_k2_7), (296, .int .i64 ((lT (T.at 5)).length : Int)), (297, .int .i64 (k1 : Int)), (337, .int .i64 ((lT (((lT (T.at 5))[k1]).at 2)).length : Int)), (338, .int .i64 (k2 : Int)), (436, .int .i64 ((lT (((lT (((lT (T.at 5))[k1]).at 2))[k2]).at 7)).length : Int))] (fun k4 l' H' L' h => ?_) (by omega) rfl (.cons rfl (.cons rfl (.cons rfl (.cons rfl (.cons rfl (.cons rfl (.cons rfl (.cons rfl (.cons rfl (.cons rfl (.cons rfl (.cons rfl (.cons rfl (.cons rfl (.nil _))))))))))))))) ⟨_, _, _, _, rfl, rfl, (by rw [List.take_zero, List.flatMap_nil, List.append_nil]; exact r430), (by rw [List.take_zero, List.flatMap_nil, List.append_nil])⟩ rfl rfl rfl rfl rfl (fun k4 l' H' L' hk4 le_56 hI => ?_) (fun l' H' L' le_57 hI => ?_)
            · obtain ⟨a_k4, m_k4, c_k4, N_k4, rfl, _⟩ := h; exact ⟨rfl, rfl, rfl, rfl⟩
            · skip
              obtain ⟨a_k4, m_k4, c_k4, N_k4, rfl, rfl, pk40, pk41⟩ := hI
              subst pk41
              refine sr ?_
              refine mv rfl rfl ?_
              refine asg rfl rfl ?_
              refine nl ?_
              refine sr ?_
              refine mv rfl rfl ?_
              refine mv rfl rfl ?_
              obtain ⟨b_58, o_59, e_60, g_61⟩ := (hf_k2_1.mono RI32.mono (le_46.trans le_56)).rows.at_ (ne_nil_of_lt hk4)
              obtain ⟨cs_62, hA_63, hc_64⟩ := g_61 k4 hk4
              refine ix2 Tryz.runUnderlying149 Tryz.sizeOf21 rfl e_60 rfl rfl hk4 rfl ?_
              obtain rfl := hA_63
              refine ld (Says.fz hc_64) Tryz.isAgg21 rfl (Nat.add_zero _).symm rfl rfl ?_
              refine asg rfl rfl ?_
              refine nl ?_
              refine rg ?_
              refine mv rfl rfl ?_
              refine mv rfl rfl ?_
              have hp446 : (GOf (fs_sUpdateMetadataRequestTopicPartition[7]'(by decide)) v true) ((lT (((lT (((lT (T.at 5))[k1]).at 2))[k2]).at 7))[k4]) = fixed (IntKind.i32.wrap ((lT (((lT (((lT (T.at 5))[k1]).at 2))[k2]).at 7))[k4]).n) 4 := (G_int (f := (fs_sUpdateMetadataRequestTopicPartition[7]'(by decide))) (by decide) (by decide) _).trans (fixed_i32 _).symm
              have hs446 := el_size hs430 hk4 hp446
              have ee446 := el_end (B0 := B_k2 ++ plainTo (zipped fs_sUpdateMetadataRequestTopicPartition v true ((lT (((lT (T.at 5))[k1]).at 2))[k2])) v 7 ++ (counted true false (lT (((lT (((lT (T.at 5))[k1]).at 2))[k2]).at 7)).length 4)) hk4 hp446
              refine cl rfl rfl rfl (OutK.cast (k_AppendInt32 (u := IntKind.i32.wrap ((lT (((lT (((lT (T.at 5))[k1]).at 2))[k2]).at 7))[k4]).n) pk40 hs446) ee446) rfl (fun v_ H1 L1 hle hR => ?_)
              obtain ⟨rfl, a446, c446, N446, rfl, rfl, h446⟩ := hR
              have r446 := h446.1
              refine asg rfl rfl ?_
              refine nN ?_
              refine Nb ?_
              refine fun a_ w_ hA hw => ⟨_, _, _, hA.sub ?_, le_56, hw, _, rfl, _, _, _, _, rfl, rfl, r446, rfl⟩
              exact (.cons rfl (.cons rfl (.cons rfl (.cons rfl (.cons rfl (.cons rfl (.cons rfl (.cons rfl (.cons rfl (.cons rfl (.cons rfl (.cons rfl (.cons rfl (.cons rfl (.cons rfl (.nil _))))))))))))))))
            · skip
              obtain ⟨a_k4, m_k4, c_k4, N_k4, rfl, rfl, pk40, pk41⟩ := hI
              refine toWp ?_
              have eL430 : B_k2 ++ plainTo (zipped fs_sUpdateMetadataRequestTopicPartition v true ((lT (((lT (T.at 5))[k1]).at 2))[k2])) v 7 ++ (counted true false (lT (((lT (((lT (T.at 5))[k1]).at 2))[k2]).at 7)).length 4) ++ ((lT (((lT (((lT (T.at 5))[k1]).at 2))[k2]).at 7)).take (lT (((lT (((lT (T.at 5))[k1]).at 2))[k2]).at 7)).length).flatMap (GOf (fs_sUpdateMetadataRequestTopicPartition[7]'(by decide)) v true) = B_k2 ++ plainTo (zipped fs_sUpdateMetadataRequestTopicPartition v true ((lT (((lT (T.at 5))[k1]).at 2))[k2])) v 8 := by rw [List.take_length, List.append_assoc]; exact e_55
              rw [eL430] at pk40 pk41
              subst pk41
              refine sq ?_
              refine sr ?_
              refine mv rfl rfl ?_
              refine ge rfl rfl rfl ?_
              refine nl ?_
              refine cdT rfl (by omega) ?_
              refine sr ?_
              refine mv rfl rfl ?_
              refine nc rfl rfl ?_
              refine fa F151_8 rfl rfl ?_
              refine ld (Says.fz (hc_38.mono (le_46.trans le_57))) Tryz.isAgg149 rfl rfl rfl rfl ?_
              refine asg rfl rfl ?_
              refine nl ?_
              refine sq ?_
              refine sr ?_
              refine mv rfl rfl ?_
              refine nl ?_
              refine cdT rfl (by omega) ?_
              refine rg ?_
              refine mv rfl rfl ?_
              refine mv rfl rfl ?_
              refine ls Tryz.runUnderlying149 rfl rfl ?_
              have ok458 := oek2.get 8 (by decide) (has_yes (show (4 : Int) ≤ v by omega) (show ((-1) : Int) < 0 ∨ v ≤ (-1) by omega))
              have nn458 := ok458.nn (by decide) (by decide)
              have ll458 := lT_len (ok458.len rfl)
              have e_65 : B_k2 ++ plainTo (zipped fs_sUpdateMetadataRequestTopicPartition v true ((lT (((lT (T.at 5))[k1]).at 2))[k2])) v 8 ++ (counted true false (lT (((lT (((lT (T.at 5))[k1]).at 2))[k2]).at 8)).length 4 ++ (lT (((lT (((lT (T.at 5))[k1]).at 2))[k2]).at 8)).flatMap (GOf (fs_sUpdateMetadataRequestTopicPartition[8]'(by decide)) v true)) = B_k2 ++ plainTo (zipped fs_sUpdateMetadataRequestTopicPartition v true ((lT (((lT (T.at 5))[k1]).at 2))[k2])) v 9 := fold_yes (fs := fs_sUpdateMetadataRequestTopicPartition) (v := v) (flex := true) (t := ((lT (((lT (T.at 5))[k1]).at 2))[k2])) (B := B_k2) 8 (by decide) (by decide) (has_yes (show (4 : Int) ≤ v by omega) (show ((-1) : Int) < 0 ∨ v ≤ (-1) by omega)) (by rw [FB_list (f := (fs_sUpdateMetadataRequestTopicPartition[8]'(by decide))) (by decide) (by decide) ok458, nn458])
              have hs458 := fold_size e_65 (by decide) hBk2
              have hc458 : (B_k2 ++ plainTo (zipped fs_sUpdateMetadataRequestTopicPartition v true ((lT (((lT (T.at 5))[k1]).at 2))[k2])) v 8).length + (counted true false (lT (((lT (((lT (T.at 5))[k1]).at 2))[k2]).at 8)).length 4).length ≤ LIM := by have h := hs458; simp only [List.length_append] at h ⊢; omega
              refine cl rfl rfl rfl (OutK.cast (k_AppendCompactArrayLen (n := (lT (((lT (((lT (T.at 5))[k1]).at 2))[k2]).at 8)).length) (by omega) pk40 hc458) (show _ = B_k2 ++ plainTo (zipped fs_sUpdateMetadataRequestTopicPartition v true ((lT (((lT (T.at 5))[k1]).at 2))[k2])) v 8 ++ (counted true false (lT (((lT (((lT (T.at 5))[k1]).at 2))[k2]).at 8)).length 4) from rfl)) rfl (fun v_ H1 L1 hle hR => ?_)
              obtain ⟨rfl, a458, c458, N458, rfl, rfl, h458⟩ := hR
              have r458 := h458.1
              refine asg rfl rfl ?_
              refine nl ?_
              refine sr ?_
              refine mv rfl rfl ?_
              refine ls Tryz.runUnderlying149 rfl rfl ?_
              refine mv rfl rfl ?_
              refine nl ?_
              refine fr ((lT (((lT (((lT (T.at 5))[k1]).at 2))[k2]).at 8)).length) (fun k5 l' H' L' => ∃ (a_k5 : Option Addr), ∃ (m_k5 : Nat), ∃ (c_k5 : Nat), ∃ (N_k5 : Chunk), [(0, .pointer (some ⟨b, 0, none⟩)), (1, .slice a_k5 m_k5 c_k5), (5, .int .i16 v), (6, .bool (decide ((6 : Int) ≤ v))), (29, .slice a5 (lT (T.at 5)).length c5), (31, .pointer (some ⟨b_15, o_16 + k1 * 19, none⟩)), (34, .slice a_k1_2 (lT (((lT (T.at 5))[k1]).at 2)).length c_k1_2), (36, .pointer (some ⟨b_32, o_33 + k2 * 10, none⟩)), (49, .slice a_k2_8 (lT (((lT (((lT (T.at 5))[k1]).at 2))[k2]).at 8)).length c_k2_8), (296, .int .i64 ((lT (T.at 5)).length : Int)), (297, .int .i64 (k1 : Int)), (337, .int .i64 ((lT (((lT (T.at 5))[k1]).at 2)).length : Int)), (338, .int .i64 (k2 : Int)), (464, .int .i64 ((lT (((lT (((lT (T.at 5))[k1]).at 2))[k2]).at 8)).length : Int))] = l' ∧ N_k5 :: L = L' ∧ Row 5 1 a_k5 m_k5 c_k5 (bytesOf (B_k2 ++ plainTo (zipped fs_sUpdateMetadataRequestTopicPartition v true ((lT (((lT (T.at 5))[k1]).at 2))[k2])) v 8 ++ (counted true false (lT (((lT (((lT (T.at 5))[k1]).at 2))[k2]).at 8)).length 4) ++ ((lT (((lT (((lT (T.at 5))[k1]).at 2))[k2]).at 8)).take k5).flatMap (GOf (fs_sUpdateMetadataRequestTopicPartition[8]'(by decide)) v true))) N_k5 ∧ m_k5 = (B_k2 ++ plainTo (zipped fs_sUpdateMetadataRequestTopicPartition v true ((lT (((lT (T.at 5))[k1]).at 2))[k2])) v 8 ++ (counted true false (lT (((lT (((lT (T.at 5))[k1]).at 2))[k2]).at 8)).length 4) ++ ((lT (((lT (((lT (T.at 5))[k1]).at 2))[k2]).at 8)).take k5).flatMap (GOf (fs_sUpdateMetadataRequestTopicPartition[8]'(by decide)) v true)).length) [(0, .pointer (some ⟨b, 0, none⟩)), (1, .slice _ _ _), (5, .int .i16 v), (6, .bool (decide ((6 : Int) ≤ v))), (29, .slice a5 (lT (T.at 5)).length c5), (31, .pointer (some ⟨b_15, o_16 + k1 * 19, none⟩)), (34, .slice a_k1_2 (lT (((lT (T.at 5))[k1]).at 2)).length c_k1_2), (36, .pointer (some ⟨b_32, o_33 + k2 * 10, none⟩)), (49, .slice a_k2_8 (lT (((lT (((lT (T.at 5))[k1]).at 2))[k2]).at 8)).length c_k2_8), (296, .int .i64 ((lT (T.at 5)).length : Int)), (297, .int .i64 (k1 : Int)), (337, .int .i64 ((lT (((lT (T.at 5))[k1]).at 2)).length : Int)), (338, .int .i64 (k2 : Int)), (464, .int .i64 ((lT (((lT (((lT (T.at 5))[k1]).at 2))[k2]).at 8)).length : Int))] (fun k5 l' H' L' h => ?_) (by omega) rfl (.cons rfl (.cons rfl (.cons rfl (.cons rfl (.cons rfl (.cons rfl (.cons rfl (.cons rfl (.cons rfl (.cons rfl (.cons rfl (.cons rfl (.cons rfl (.cons rfl (.nil _))))))))))))))) ⟨_, _, _, _, rfl, rfl, (by rw [List.take_zero, List.flatMap_nil, List.append_nil]; exact r458), (by rw [List.take_zero, List.flatMap_nil, List.append_nil])⟩ rfl rfl rfl rfl rfl (fun k5 l' H' L' hk5 le_66 hI => ?_) (fun l' H' L' le_67 hI => ?_)
              · obtain ⟨a_k5, m_k5, c_k5, N_k5, rfl, _⟩ := h; exact ⟨rfl, rfl, rfl, rfl⟩
              · skip
                obtain ⟨a_k5, m_k5, c_k5, N_k5, rfl, rfl, pk50, pk51⟩ := hI
                subst pk51
                refine sr ?_
                refine mv rfl rfl ?_
                refine asg rfl rfl ?_
                refine nl ?_
                refine sr ?_
                refine mv rfl rfl ?_
                refine mv rfl rfl ?_
                obtain ⟨b_68, o_69, e_70, g_71⟩ := (hf_k2_2.mono RI32.mono (le_46.trans (le_57.trans le_66))).rows.at_ (ne_nil_of_lt hk5)
                obtain ⟨cs_72, hA_73, hc_74⟩ := g_71 k5 hk5
                refine ix2 Tryz.runUnderlying149 Tryz.sizeOf21 rfl e_70 rfl rfl hk5 rfl ?_
                obtain rfl := hA_73
                refine ld (Says.fz hc_74) Tryz.isAgg21 rfl (Nat.add_zero _).symm rfl rfl ?_
                refine asg rfl rfl ?_
                refine nl ?_
                refine rg ?_
                refine mv rfl rfl ?_
                refine mv rfl rfl ?_
                have hp474 : (GOf (fs_sUpdateMetadataRequestTopicPartition[8]'(by decide)) v true) ((lT (((lT (((lT (T.at 5))[k1]).at 2))[k2]).at 8))[k5]) = fixed (IntKind.i32.wrap ((lT (((lT (((lT (T.at 5))[k1]).at 2))[k2]).at 8))[k5]).n) 4 := (G_int (f := (fs_sUpdateMetadataRequestTopicPartition[8]'(by decide))) (by decide) (by decide) _).trans (fixed_i32 _).symm
                have hs474 := el_size hs458 hk5 hp474
                have ee474 := el_end (B0 := B_k2 ++ plainTo (zipped fs_sUpdateMetadataRequestTopicPartition v true ((lT (((lT (T.at 5))[k1]).at 2))[k2])) v 8 ++ (counted true false (lT (((lT (((lT (T.at 5))[k1]).at 2))[k2]).at 8)).length 4)) hk5 hp474
                refine cl rfl rfl rfl (OutK.cast (k_AppendInt32 (u := IntKind.i32.wrap ((lT (((lT (((lT (T.at 5))[k1]).at 2))[k2]).at 8))[k5]).n) pk50 hs474) ee474) rfl (fun v_ H1 L1 hle hR => ?_)
                obtain ⟨rfl, a474, c474, N474, rfl, rfl, h474⟩ := hR
                have r474 := h474.1
                refine asg rfl rfl ?_
                refine nN ?_
                refine Nb ?_
                refine fun a_ w_ hA hw => ⟨_, _, _, hA.sub ?_, le_66, hw, _, rfl, _, _, _, _, rfl, rfl, r474, rfl⟩
                exact (.cons rfl (.cons rfl (.cons rfl (.cons rfl (.cons rfl (.cons rfl (.cons rfl (.cons rfl (.cons rfl (.cons rfl (.cons rfl (.cons rfl (.cons rfl (.cons rfl (.cons rfl (.nil _))))))))))))))))
              · skip
                obtain ⟨a_k5, m_k5, c_k5, N_k5, rfl, rfl, pk50, pk51⟩ := hI
                refine toWp ?_
                have eL458 : B_k2 ++ plainTo (zipped fs_sUpdateMetadataRequestTopicPartition v true ((lT (((lT (T.at 5))[k1]).at 2))[k2])) v 8 ++ (counted true false (lT (((lT (((lT (T.at 5))[k1]).at 2))[k2]).at 8)).length 4) ++ ((lT (((lT (((lT (T.at 5))[k1]).at 2))[k2]).at 8)).take (lT (((lT (((lT (T.at 5))[k1]).at 2))[k2]).at 8)).length).flatMap (GOf (fs_sUpdateMetadataRequestTopicPartition[8]'(by decide)) v true) = B_k2 ++ plainTo (zipped fs_sUpdateMetadataRequestTopicPartition v true ((lT (((lT (T.at 5))[k1]).at 2))[k2])) v 9 := by rw [List.take_length, List.append_assoc]; exact e_65
                rw [eL458] at pk50 pk51
                subst pk51
                refine sr ?_
                refine mv rfl rfl ?_
                refine nl ?_
                refine cdT rfl (by omega) ?_
                refine sr ?_
                refine mv rfl rfl ?_
                refine mv rfl rfl ?_
                refine nc rfl rfl ?_
                refine fa F151_9 rfl rfl ?_
                refine cl rfl rfl rfl (t_lenU (j := 9) (hc_38.mono (le_46.trans (le_57.trans le_67))) rfl (hf_k2_3.mono (le_46.trans (le_57.trans le_67)))) rfl (fun v_ H1 L1 hle hR => ?_)
                obtain ⟨rfl, rfl, rfl⟩ := hR
                have hu481 := oek2.u
                have hul481 := hu481.2.1
                obtain ⟨hz481a, hz481b⟩ := part_size_plain (by decide) hu481 hBk2
                refine cv Tryz.runUnderlying3 Tryz.runUnderlying62 rfl (w32u (by omega) (by omega)) rfl ?_
                refine ad rfl rfl ((w32u (by omega) (by omega)).trans (Int.zero_add _)) rfl ?_
                refine cl rfl rfl rfl (k_AppendUvarint (n := ((lT (((lT (T.at 5))[k1]).at 2))[k2]).u.length) (by omega) pk50 hz481a) rfl (fun v_ H1 L1 hle hR => ?_)
                obtain ⟨rfl, a484, c484, N484, rfl, rfl, h484⟩ := hR
                have r484 := h484.1
                refine asg rfl rfl ?_
                refine nl ?_
                refine rg ?_
                refine mv rfl rfl ?_
                refine nc rfl rfl ?_
                refine fa F151_9 rfl rfl ?_
                refine mv rfl rfl ?_
                refine cl rfl rfl rfl (t_append_each (j := 9) (hc_38.mono (le_46.trans (le_57.trans le_67))) rfl (hf_k2_3.mono (le_46.trans (le_57.trans le_67))) (by omega) r484 (fun p hp => by have := hu481.2.2 p hp; omega) hz481b) rfl (fun v_ H1 L1 le_75 hR => ?_)
                obtain ⟨a489, c489, N489, rfl, rfl, h489⟩ := hR
                have r489 := h489.1
                have eP_76 : B_k2 ++ plainTo (zipped fs_sUpdateMetadataRequestTopicPartition v true ((lT (((lT (T.at 5))[k1]).at 2))[k2])) v 9 ++ uvar ((lT (((lT (T.at 5))[k1]).at 2))[k2]).u.length ++ ((lT (((lT (T.at 5))[k1]).at 2))[k2]).u.flatMap tagU = B_k2 ++ partB fs_sUpdateMetadataRequestTopicPartition v true ((lT (((lT (T.at 5))[k1]).at 2))[k2]) := part_close (B := B_k2) (by decide) hu481
                rw [eP_76] at r489 ⊢
                refine asg rfl rfl ?_
                refine nN ?_
                refine Nb ?_
                have ee_77 : B_k2 ++ partB fs_sUpdateMetadataRequestTopicPartition v true ((lT (((lT (T.at 5))[k1]).at 2))[k2]) = B_k1 ++ plainTo (zipped fs_sUpdateMetadataRequestTopicState v true ((lT (T.at 5))[k1])) v 2 ++ (counted true false (lT (((lT (T.at 5))[k1]).at 2)).length 4) ++ ((lT (((lT (T.at 5))[k1]).at 2)).take (k2 + 1)).flatMap (GOf (fs_sUpdateMetadataRequestTopicState[2]'(by decide)) v true) := by rw [hdk2]; exact el_end (B0 := B_k1 ++ plainTo (zipped fs_sUpdateMetadataRequestTopicState v true ((lT (T.at 5))[k1])) v 2 ++ (counted true false (lT (((lT (T.at 5))[k1]).at 2)).length 4)) (G := (GOf (fs_sUpdateMetadataRequestTopicState[2]'(by decide)) v true)) hk2 (GOf_part (by decide) _)
                refine fun a_ w_ hA hw => ⟨_, _, _, hA.sub ?_, (le_30.trans (le_46.trans (le_57.trans (le_67.trans le_75)))), hw, _, rfl, _, _, _, _, rfl, rfl, (by rw [← ee_77]; exact r489), (by rw [← ee_77])⟩
                exact (.cons rfl (.cons rfl (.cons rfl (.cons rfl (.cons rfl (.cons rfl (.cons rfl (.cons rfl (.cons rfl (.cons rfl (.cons rfl (.nil _))))))))))))
        · skip
          obtain ⟨a_k2, m_k2, c_k2, N_k2, rfl, rfl, pk20, pk21⟩ := hI
          refine toWp ?_
          have eL331 : B_k1 ++ plainTo (zipped fs_sUpdateMetadataRequestTopicState v true ((lT (T.at 5))[k1])) v 2 ++ (counted true false (lT (((lT (T.at 5))[k1]).at 2)).length 4) ++ ((lT (((lT (T.at 5))[k1]).at 2)).take (lT (((lT (T.at 5))[k1]).at 2)).length).flatMap (GOf (fs_sUpdateMetadataRequestTopicState[2]'(by decide)) v true) = B_k1 ++ plainTo (zipped fs_sUpdateMetadataRequestTopicState v true ((lT (T.at 5))[k1])) v 3 := by rw [List.take_length, List.append_assoc]; exact e_29
          rw [eL331] at pk20 pk21
          subst pk21
          refine sr ?_
          refine mv rfl rfl ?_
          refine nl ?_
          refine cdT rfl (by omega) ?_
          refine sr ?_
          refine mv rfl rfl ?_
          refine mv rfl rfl ?_
          refine nc rfl rfl ?_
          refine fa F154_3 rfl rfl ?_
          refine cl rfl rfl rfl (t_lenU (j := 18) (hc_21.mono (le_24.trans le_31)) rfl (hf_k1_1.mono (le_24.trans le_31))) rfl (fun v_ H1 L1 hle hR => ?_)
          obtain ⟨rfl, rfl, rfl⟩ := hR
          have hu496 := oek1.u
          have hul496 := hu496.2.1
          obtain ⟨hz496a, hz496b⟩ := part_size_plain (by decide) hu496 hBk1
          refine cv Tryz.runUnderlying3 Tryz.runUnderlying62 rfl (w32u (by omega) (by omega)) rfl ?_
          refine ad rfl rfl ((w32u (by omega) (by omega)).trans (Int.zero_add _)) rfl ?_
          refine cl rfl rfl rfl (k_AppendUvarint (n := ((lT (T.at 5))[k1]).u.length) (by omega) pk20 hz496a) rfl (fun v_ H1 L1 hle hR => ?_)
          obtain ⟨rfl, a499, c499, N499, rfl, rfl, h499⟩ := hR
          have r499 := h499.1
          refine asg rfl rfl ?_
          refine nl ?_
          refine rg ?_
          refine mv rfl rfl ?_
          refine nc rfl rfl ?_
          refine fa F154_3 rfl rfl ?_
          refine mv rfl rfl ?_
          refine cl rfl rfl rfl (t_append_each (j := 18) (hc_21.mono (le_24.trans le_31)) rfl (hf_k1_1.mono (le_24.trans le_31)) (by omega) r499 (fun p hp => by have := hu496.2.2 p hp; omega) hz496b) rfl (fun v_ H1 L1 le_78 hR => ?_)
          obtain ⟨a504, c504, N504, rfl, rfl, h504⟩ := hR
          have r504 := h504.1
          have eP_79 : B_k1 ++ plainTo (zipped fs_sUpdateMetadataRequestTopicState v true ((lT (T.at 5))[k1])) v 3 ++ uvar ((lT (T.at 5))[k1]).u.length ++ ((lT (T.at 5))[k1]).u.flatMap tagU = B_k1 ++ partB fs_sUpdateMetadataRequestTopicState v true ((lT (T.at 5))[k1]) := part_close (B := B_k1) (by decide) hu496
          rw [eP_79] at r504 ⊢
          refine asg rfl rfl ?_
          refine nN ?_
          refine Nb ?_
          have ee_80 : B_k1 ++ partB fs_sUpdateMetadataRequestTopicState v true ((lT (T.at 5))[k1]) = D ++ plainTo (zipped fs_UpdateMetadataRequest v true T) v 5 ++ (counted true false (lT (T.at 5)).length 4) ++ ((lT (T.at 5)).take (k1 + 1)).flatMap (GOf (fs_UpdateMetadataRequest[5]'(by decide)) v true) := by rw [hdk1]; exact el_end (B0 := D ++ plainTo (zipped fs_UpdateMetadataRequest v true T) v 5 ++ (counted true false (lT (T.at 5)).length 4)) (G := (GOf (fs_UpdateMetadataRequest[5]'(by decide)) v true)) hk1 (GOf_part (by decide) _)
          refine fun a_ w_ hA hw => ⟨_, _, _, hA.sub ?_, (le_13.trans (le_24.trans (le_31.trans le_78))), hw, _, rfl, _, _, _, _, rfl, rfl, (by rw [← ee_80]; exact r504), (by rw [← ee_80])⟩
          exact (.cons rfl (.cons rfl (.cons rfl (.cons rfl (.cons rfl (.cons rfl (.cons rfl (.nil _))))))))
    · skip
      obtain ⟨a_k1, m_k1, c_k1, N_k1, rfl, rfl, pk10, pk11⟩ := hI
      refine toWp ?_
      have eL290 : D ++ plainTo (zipped fs_UpdateMetadataRequest v true T) v 5 ++ (counted true false (lT (T.at 5)).length 4) ++ ((lT (T.at 5)).take (lT (T.at 5)).length).flatMap (GOf (fs_UpdateMetadataRequest[5]'(by decide)) v true) = D ++ plainTo (zipped fs_UpdateMetadataRequest v true T) v 6 := by rw [List.take_length, List.append_assoc]; exact e_12
      rw [eL290] at pk10 pk11
      subst pk11
      refine sq ?_
      refine sr ?_
      refine mv rfl rfl ?_
      refine nc rfl rfl ?_
      refine fa0 F85_7 rfl rfl ?_
      refine ld (Says.fz (hv.mono (le_3.trans le_14))) Tryz.isAgg83 rfl (Nat.zero_add _).symm rfl rfl ?_
      refine asg rfl rfl ?_
      refine nl ?_
      refine sq ?_
      refine sr ?_
      refine mv rfl rfl ?_
      refine nl ?_
      refine cdT rfl (by omega) ?_
      refine rg ?_
      refine mv rfl rfl ?_
      refine mv rfl rfl ?_
      refine ls Tryz.runUnderlying83 rfl rfl ?_
      have ok514 := hok.get 6 (by decide) (has_yes (show (0 : Int) ≤ v by omega) (show ((-1) : Int) < 0 ∨ v ≤ (-1) by omega))
      have nn514 := ok514.nn (by decide) (by decide)
      have ll514 := lT_len (ok514.len rfl)
      have e_81 : D ++ plainTo (zipped fs_UpdateMetadataRequest v true T) v 6 ++ (counted true false (lT (T.at 6)).length 4 ++ (lT (T.at 6)).flatMap (GOf (fs_UpdateMetadataRequest[6]'(by decide)) v true)) = D ++ plainTo (zipped fs_UpdateMetadataRequest v true T) v 7 := fold_yes (fs := fs_UpdateMetadataRequest) (v := v) (flex := true) (t := T) (B := D) 6 (by decide) (by decide) (has_yes (show (0 : Int) ≤ v by omega) (show ((-1) : Int) < 0 ∨ v ≤ (-1) by omega)) (by rw [FB_list (f := (fs_UpdateMetadataRequest[6]'(by decide))) (by decide) (by decide) ok514, nn514])
      have hs514 := fold_size e_81 (by decide) hb
      have hc514 : (D ++ plainTo (zipped fs_UpdateMetadataRequest v true T) v 6).length + (counted true false (lT (T.at 6)).length 4).length ≤ LIM := by have h := hs514; simp only [List.length_append] at h ⊢; omega
      refine cl rfl rfl rfl (OutK.cast (k_AppendCompactArrayLen (n := (lT (T.at 6)).length) (by omega) pk10 hc514) (show _ = D ++ plainTo (zipped fs_UpdateMetadataRequest v true T) v 6 ++ (counted true false (lT (T.at 6)).length 4) from rfl)) rfl (fun v_ H1 L1 hle hR => ?_)
      obtain ⟨rfl, a514, c514, N514, rfl, rfl, h514⟩ := hR
      have r514 := h514.1
      refine asg rfl rfl ?_
      refine nl ?_
      refine sr ?_
      refine mv rfl rfl ?_
      refine ls Tryz.runUnderlying83 rfl rfl ?_
      refine mv rfl rfl ?_
      refine nl ?_
      refine fr ((lT (T.at 6)).length) (fun k6 l' H' L' => ∃ (a_k6 : Option Addr), ∃ (m_k6 : Nat), ∃ (c_k6 : Nat), ∃ (N_k6 : Chunk), [(0, .pointer (some ⟨b, 0, none⟩)), (1, .slice a_k6 m_k6 c_k6), (5, .int .i16 v), (6, .bool (decide ((6 : Int) ≤ v))), (52, .slice a6 (lT (T.at 6)).length c6), (520, .int .i64 ((lT (T.at 6)).length : Int))] = l' ∧ N_k6 :: L = L' ∧ Row 5 1 a_k6 m_k6 c_k6 (bytesOf (D ++ plainTo (zipped fs_UpdateMetadataRequest v true T) v 6 ++ (counted true false (lT (T.at 6)).length 4) ++ ((lT (T.at 6)).take k6).flatMap (GOf (fs_UpdateMetadataRequest[6]'(by decide)) v true))) N_k6 ∧ m_k6 = (D ++ plainTo (zipped fs_UpdateMetadataRequest v true T) v 6 ++ (counted true false (lT (T.at 6)).length 4) ++ ((lT (T.at 6)).take k6).flatMap (GOf (fs_UpdateMetadataRequest[6]'(by decide)) v true)).length) [(0, .pointer (some ⟨b, 0, none⟩)), (1, .slice _ _ _), (5, .int .i16 v), (6, .bool (decide ((6 : Int) ≤ v))), (52, .slice a6 (lT (T.at 6)).length c6), (520, .int .i64 ((lT (T.at 6)).length : Int))] (fun k6 l' H' L' h => ?_) (by omega) rfl (.cons rfl (.cons rfl (.cons rfl (.cons rfl (.cons rfl (.cons rfl (.nil _))))))) ⟨_, _, _, _, rfl, rfl, (by rw [List.take_zero, List.flatMap_nil, List.append_nil]; exact r514), (by rw [List.take_zero, List.flatMap_nil, List.append_nil])⟩ rfl rfl rfl rfl rfl (fun k6 l' H' L' hk6 le_82 hI => ?_) (fun l' H' L' le_83 hI => ?_)
      · obtain ⟨a_k6, m_k6, c_k6, N_k6, rfl, _⟩ := h; exact ⟨rfl, rfl, rfl, rfl⟩
      · skip
        obtain ⟨a_k6, m_k6, c_k6, N_k6, rfl, rfl, pk60, pk61⟩ := hI
        subst pk61
        refine sr ?_
        refine mv rfl rfl ?_
        refine asg rfl rfl ?_
        refine nl ?_
        refine sr ?_
        refine mv rfl rfl ?_
        refine mv rfl rfl ?_
        obtain ⟨b_84, o_85, e_86, g_87⟩ := (hf2.mono At_UpdateMetadataRequestLiveBroker.mono (le_3.trans (le_14.trans le_82))).rows.at_ (ne_nil_of_lt hk6)
        obtain ⟨cs_88, hA_89, hc_90⟩ := g_87 k6 hk6
        refine ix2 Tryz.runUnderlying83 Tryz.sizeOf158 rfl e_86 rfl rfl hk6 rfl ?_
        obtain ⟨a_k6_3, c_k6_3, p_k6_4, m_k6_t, rfl, hf_k6_0, hf_k6_1, hf_k6_2⟩ := hA_89
        have oek6 := (ok514.el rfl _ (lT_mem (List.getElem_mem hk6))).2 rfl
        obtain ⟨B_k6, hdk6⟩ : ∃ z : List UInt8, z = D ++ plainTo (zipped fs_UpdateMetadataRequest v true T) v 6 ++ (counted true false (lT (T.at 6)).length 4) ++ ((lT (T.at 6)).take k6).flatMap (GOf (fs_UpdateMetadataRequest[6]'(by decide)) v true) := ⟨_, rfl⟩
        have rbk6 := pk60
        rw [← hdk6] at rbk6 ⊢
        have hBk6 : B_k6.length + (partB fs_sUpdateMetadataRequestLiveBroker v true ((lT (T.at 6))[k6])).length ≤ LIM := by rw [hdk6]; exact el_size hs514 hk6 (GOf_part (by decide) _)
        refine asg rfl rfl ?_
        refine nl ?_
        refine sq ?_
        refine sr ?_
        refine mv rfl rfl ?_
        refine nc rfl rfl ?_
        refine fa F158_0 rfl rfl ?_
        refine ld (Says.fz hc_90) Tryz.isAgg21 rfl (Nat.add_zero _).symm rfl rfl ?_
        refine asg rfl rfl ?_
        refine nl ?_
        refine rg ?_
        refine mv rfl rfl ?_
        refine mv rfl rfl ?_
        have ok533 := oek6.get 0 (by decide) (has_yes (show (0 : Int) ≤ v by omega) (show ((-1) : Int) < 0 ∨ v ≤ (-1) by omega))
        have e_91 : B_k6 ++ (fixed (IntKind.i32.wrap (((lT (T.at 6))[k6]).at 0).n) 4) = B_k6 ++ plainTo (zipped fs_sUpdateMetadataRequestLiveBroker v true ((lT (T.at 6))[k6])) v 1 := fold_first (fs := fs_sUpdateMetadataRequestLiveBroker) (v := v) (flex := true) (t := ((lT (T.at 6))[k6])) (B := B_k6) 0 rfl (by decide) (by decide) (has_yes (show (0 : Int) ≤ v by omega) (show ((-1) : Int) < 0 ∨ v ≤ (-1) by omega)) ((FB_int (f := (fs_sUpdateMetadataRequestLiveBroker[0]'(by decide))) (by decide) (by decide)).trans (fixed_i32 _).symm)
        have hs533 := fold_size e_91 (by decide) hBk6
        refine cl rfl rfl rfl (OutK.cast (k_AppendInt32 (u := IntKind.i32.wrap (((lT (T.at 6))[k6]).at 0).n) rbk6 hs533) e_91) rfl (fun v_ H1 L1 hle hR => ?_)
        obtain ⟨rfl, a533, c533, N533, rfl, rfl, h533⟩ := hR
        have r533 := h533.1
        refine asg rfl rfl ?_
        refine nl ?_
        refine sq ?_
        refine sr ?_
        refine mv rfl rfl ?_
        refine ge rfl rfl rfl ?_
        refine mv rfl rfl ?_
        refine spl (t := 536) rfl (fun _ => ?_) (fun hn_ => absurd (by omega) hn_)
        refine gr rfl rfl ?_
        refine mv rfl rfl ?_
        refine gr rfl rfl ?_
        refine le rfl rfl rfl ?_
        refine pk rfl rfl rfl rfl ?_
        refine nl ?_
        refine cdF rfl (by omega) ?_
        refine skt ?_
        refine sq ?_
        refine sr ?_
        refine mv rfl rfl ?_
        refine ge rfl rfl rfl ?_
        refine mv rfl rfl ?_
        refine spl (t := 553) rfl (fun _ => ?_) (fun hn_ => absurd (by omega) hn_)
        refine gr rfl rfl ?_
        refine mv rfl rfl ?_
        refine gr rfl rfl ?_
        refine le rfl rfl rfl ?_
        refine pk rfl rfl rfl rfl ?_
        refine nl ?_
        refine cdF rfl (by omega) ?_
        refine skt ?_
        refine sq ?_
        refine sr ?_
        refine mv rfl rfl ?_
        refine ge rfl rfl rfl ?_
        refine nl ?_
        refine cdT rfl (by omega) ?_
        refine sr ?_
        refine mv rfl rfl ?_
        refine nc rfl rfl ?_
        refine fa F158_3 rfl rfl ?_
        refine ld (Says.fz hc_90) Tryz.isAgg156 rfl rfl rfl rfl ?_
        refine asg rfl rfl ?_
        refine nl ?_
        refine sq ?_
        refine sr ?_
        refine mv rfl rfl ?_
        refine nl ?_
        refine cdT rfl (by omega) ?_
        refine rg ?_
        refine mv rfl rfl ?_
        refine mv rfl rfl ?_
        refine ls Tryz.runUnderlying156 rfl rfl ?_
        have es_92 : plainTo (zipped fs_sUpdateMetadataRequestLiveBroker v true ((lT (T.at 6))[k6])) v 3 = plainTo (zipped fs_sUpdateMetadataRequestLiveBroker v true ((lT (T.at 6))[k6])) v 1 := ((piece_no2 (fs := fs_sUpdateMetadataRequestLiveBroker) (v := v) (flex := true) (t := ((lT (T.at 6))[k6])) (k := 2) (by decide) (has_no (show v < (0 : Int) ∨ ((0 : Int) ≤ 0 ∧ 0 < v) by omega))).trans (piece_no2 (fs := fs_sUpdateMetadataRequestLiveBroker) (v := v) (flex := true) (t := ((lT (T.at 6))[k6])) (k := 1) (by decide) (has_no (show v < (0 : Int) ∨ ((0 : Int) ≤ 0 ∧ 0 < v) by omega))))
        have eX_93 : B_k6 ++ plainTo (zipped fs_sUpdateMetadataRequestLiveBroker v true ((lT (T.at 6))[k6])) v 1 = B_k6 ++ plainTo (zipped fs_sUpdateMetadataRequestLiveBroker v true ((lT (T.at 6))[k6])) v 3 := by rw [es_92]
        have rx_94 := r533
        rw [eX_93] at rx_94 ⊢
        have ok574 := oek6.get 3 (by decide) (has_yes (show (1 : Int) ≤ v by omega) (show ((-1) : Int) < 0 ∨ v ≤ (-1) by omega))
        have nn574 := ok574.nn (by decide) (by decide)
        have ll574 := lT_len (ok574.len rfl)
        have e_95 : B_k6 ++ plainTo (zipped fs_sUpdateMetadataRequestLiveBroker v true ((lT (T.at 6))[k6])) v 3 ++ (counted true false (lT (((lT (T.at 6))[k6]).at 3)).length 4 ++ (lT (((lT (T.at 6))[k6]).at 3)).flatMap (GOf (fs_sUpdateMetadataRequestLiveBroker[3]'(by decide)) v true)) = B_k6 ++ plainTo (zipped fs_sUpdateMetadataRequestLiveBroker v true ((lT (T.at 6))[k6])) v 4 := fold_yes (fs := fs_sUpdateMetadataRequestLiveBroker) (v := v) (flex := true) (t := ((lT (T.at 6))[k6])) (B := B_k6) 3 (by decide) (by decide) (has_yes (show (1 : Int) ≤ v by omega) (show ((-1) : Int) < 0 ∨ v ≤ (-1) by omega)) (by rw [FB_list (f := (fs_sUpdateMetadataRequestLiveBroker[3]'(by decide))) (by decide) (by decide) ok574, nn574])
        have hs574 := fold_size e_95 (by decide) hBk6
        have hc574 : (B_k6 ++ plainTo (zipped fs_sUpdateMetadataRequestLiveBroker v true ((lT (T.at 6))[k6])) v 3).length + (counted true false (lT (((lT (T.at 6))[k6]).at 3)).length 4).length ≤ LIM := by have h := hs574; simp only [List.length_append] at h ⊢; omega
        refine cl rfl rfl rfl (OutK.cast (k_AppendCompactArrayLen (n := (lT (((lT (T.at 6))[k6]).at 3)).length) (by omega) rx_94 hc574) (show _ = B_k6 ++ plainTo (zipped fs_sUpdateMetadataRequestLiveBroker v true ((lT (T.at 6))[k6])) v 3 ++ (counted true false (lT (((lT (T.at 6))[k6]).at 3)).length 4) from rfl)) rfl (fun v_ H1 L1 hle hR => ?_)
        obtain ⟨rfl, a574, c574, N574, rfl, rfl, h574⟩ := hR
        have r574 := h574.1
        refine asg rfl rfl ?_
        refine nl ?_
        refine sr ?_
        refine mv rfl rfl ?_
        refine ls Tryz.runUnderlying156 rfl rfl ?_
        refine mv rfl rfl ?_
        refine nl ?_
        refine fr ((lT (((lT (T.at 6))[k6]).at 3)).length) (fun k7 l' H' L' => ∃ (a_k7 : Option Addr), ∃ (m_k7 : Nat), ∃ (c_k7 : Nat), ∃ (N_k7 : Chunk), [(0, .pointer (some ⟨b, 0, none⟩)), (1, .slice a_k7 m_k7 c_k7), (5, .int .i16 v), (6, .bool (decide ((6 : Int) ≤ v))), (52, .slice a6 (lT (T.at 6)).length c6), (54, .pointer (some ⟨b_84, o_85 + k6 * 6, none⟩)), (58, .slice a_k6_3 (lT (((lT (T.at 6))[k6]).at 3)).length c_k6_3), (520, .int .i64 ((lT (T.at 6)).length : Int)), (521, .int .i64 (k6 : Int)), (580, .int .i64 ((lT (((lT (T.at 6))[k6]).at 3)).length : Int))] = l' ∧ N_k7 :: L = L' ∧ Row 5 1 a_k7 m_k7 c_k7 (bytesOf (B_k6 ++ plainTo (zipped fs_sUpdateMetadataRequestLiveBroker v true ((lT (T.at 6))[k6])) v 3 ++ (counted true false (lT (((lT (T.at 6))[k6]).at 3)).length 4) ++ ((lT (((lT (T.at 6))[k6]).at 3)).take k7).flatMap (GOf (fs_sUpdateMetadataRequestLiveBroker[3]'(by decide)) v true))) N_k7 ∧ m_k7 = (B_k6 ++ plainTo (zipped fs_sUpdateMetadataRequestLiveBroker v true ((lT (T.at 6))[k6])) v 3 ++ (counted true false (lT (((lT (T.at 6))[k6]).at 3)).length 4) ++ ((lT (((lT (T.at 6))[k6]).at 3)).take k7).flatMap (GOf (fs_sUpdateMetadataRequestLiveBroker[3]'(by decide)) v true)).length) [(0, .pointer (some ⟨b, 0, none⟩)), (1, .slice _ _ _), (5, .int .i16 v), (6, .bool (decide ((6 : Int) ≤ v))), (52, .slice a6 (lT (T.at 6)).length c6), (54, .pointer (some ⟨b_84, o_85 + k6 * 6, none⟩)), (58, .slice a_k6_3 (lT (((lT (T.at 6))[k6]).at 3)).length c_k6_3), (520, .int .i64 ((lT (T.at 6)).length : Int)), (521, .int .i64 (k6 : Int)), (580, .int .i64 ((lT (((lT (T.at 6))[k6]).at 3)).length : Int))] (fun k7 l' H' L' h => ?_) (by omega) rfl (.cons rfl (.cons rfl (.cons rfl (.cons rfl (.cons rfl (.cons rfl (.cons rfl (.cons rfl (.cons rfl (.cons rfl (.nil _))))))))))) ⟨_, _, _, _, rfl, rfl, (by rw [List.take_zero, List.flatMap_nil, List.append_nil]; exact r574), (by rw [List.take_zero, List.flatMap_nil, List.append_nil])⟩ rfl rfl rfl rfl rfl (fun k7 l' H' L' hk7 le_96 hI => ?_) (fun l' H' L' le_97 hI => ?_)
        · obtain ⟨a_k7, m_k7, c_k7, N_k7, rfl, _⟩ := h; exact ⟨rfl, rfl, rfl, rfl⟩
        · skip
          obtain ⟨a_k7, m_k7, c_k7, N_k7, rfl, rfl, pk70, pk71⟩ := hI
          subst pk71
          refine sr ?_
          refine mv rfl rfl ?_
          refine asg rfl rfl ?_
          refine nl ?_
          refine sr ?_
          refine mv rfl rfl ?_
          refine mv rfl rfl ?_
          obtain ⟨b_98, o_99, e_100, g_101⟩ := (hf_k6_0.mono At_UpdateMetadataRequestLiveBrokerEndpoint.mono le_96).rows.at_ (ne_nil_of_lt hk7)
          obtain ⟨cs_102, hA_103, hc_104⟩ := g_101 k7 hk7
          refine ix2 Tryz.runUnderlying156 Tryz.sizeOf166 rfl e_100 rfl rfl hk7 rfl ?_
          obtain ⟨m_k7_t, rfl, hf_k7_0⟩ := hA_103
          have oek7 := (ok574.el rfl _ (lT_mem (List.getElem_mem hk7))).2 rfl
          obtain ⟨B_k7, hdk7⟩ : ∃ z : List UInt8, z = B_k6 ++ plainTo (zipped fs_sUpdateMetadataRequestLiveBroker v true ((lT (T.at 6))[k6])) v 3 ++ (counted true false (lT (((lT (T.at 6))[k6]).at 3)).length 4) ++ ((lT (((lT (T.at 6))[k6]).at 3)).take k7).flatMap (GOf (fs_sUpdateMetadataRequestLiveBroker[3]'(by decide)) v true) := ⟨_, rfl⟩
          have rbk7 := pk70
          rw [← hdk7] at rbk7 ⊢
          have hBk7 : B_k7.length + (partB fs_sUpdateMetadataRequestLiveBrokerEndpoint v true ((lT (((lT (T.at 6))[k6]).at 3))[k7])).length ≤ LIM := by rw [hdk7]; exact el_size hs574 hk7 (GOf_part (by decide) _)
          refine asg rfl rfl ?_
          refine nl ?_
          refine sq ?_
          refine sr ?_
          refine mv rfl rfl ?_
          refine nc rfl rfl ?_
          refine fa F166_0 rfl rfl ?_
          refine ld (Says.fz hc_104) Tryz.isAgg21 rfl (Nat.add_zero _).symm rfl rfl ?_
          refine asg rfl rfl ?_
          refine nl ?_
          refine rg ?_
          refine mv rfl rfl ?_
          refine mv rfl rfl ?_
          have ok593 := oek7.get 0 (by decide) (has_yes (show (0 : Int) ≤ v by omega) (show ((-1) : Int) < 0 ∨ v ≤ (-1) by omega))
          have e_105 : B_k7 ++ (fixed (IntKind.i32.wrap (((lT (((lT (T.at 6))[k6]).at 3))[k7]).at 0).n) 4) = B_k7 ++ plainTo (zipped fs_sUpdateMetadataRequestLiveBrokerEndpoint v true ((lT (((lT (T.at 6))[k6]).at 3))[k7])) v 1 := fold_first (fs := fs_sUpdateMetadataRequestLiveBrokerEndpoint) (v := v) (flex := true) (t := ((lT (((lT (T.at 6))[k6]).at 3))[k7])) (B := B_k7) 0 rfl (by decide) (by decide) (has_yes (show (0 : Int) ≤ v by omega) (show ((-1) : Int) < 0 ∨ v ≤ (-1) by omega)) ((FB_int (f := (fs_sUpdateMetadataRequestLiveBrokerEndpoint[0]'(by decide))) (by decide) (by decide)).trans (fixed_i32 _).symm)
          have hs593 := fold_size e_105 (by decide) hBk7
          refine cl rfl rfl rfl (OutK.cast (k_AppendInt32 (u := IntKind.i32.wrap (((lT (((lT (T.at 6))[k6]).at 3))[k7]).at 0).n) rbk7 hs593) e_105) rfl (fun v_ H1 L1 hle hR => ?_)
          obtain ⟨rfl, a593, c593, N593, rfl, rfl, h593⟩ := hR
          have r593 := h593.1
          refine asg rfl rfl ?_
          refine nl ?_
          refine sq ?_
          refine sr ?_
          refine mv rfl rfl ?_
          refine nc rfl rfl ?_
          refine fa F166_1 rfl rfl ?_
          refine ld (Says.fz hc_104) Tryz.isAgg9 rfl rfl rfl rfl ?_
          refine asg rfl rfl ?_
          refine nl ?_
          refine sr ?_
          refine mv rfl rfl ?_
          refine nl ?_
          refine cdT rfl (by omega) ?_
          refine rg ?_
          refine mv rfl rfl ?_
          refine mv rfl rfl ?_
          have ok601 := oek7.get 1 (by decide) (has_yes (show (0 : Int) ≤ v by omega) (show ((-1) : Int) < 0 ∨ v ≤ (-1) by omega))
          have nn601 := ok601.nn (by decide) (by decide)
          have e_106 : B_k7 ++ plainTo (zipped fs_sUpdateMetadataRequestLiveBrokerEndpoint v true ((lT (((lT (T.at 6))[k6]).at 3))[k7])) v 1 ++ (counted true false (((lT (((lT (T.at 6))[k6]).at 3))[k7]).at 1).s.length 2 ++ (((lT (((lT (T.at 6))[k6]).at 3))[k7]).at 1).s) = B_k7 ++ plainTo (zipped fs_sUpdateMetadataRequestLiveBrokerEndpoint v true ((lT (((lT (T.at 6))[k6]).at 3))[k7])) v 2 := fold_yes (fs := fs_sUpdateMetadataRequestLiveBrokerEndpoint) (v := v) (flex := true) (t := ((lT (((lT (T.at 6))[k6]).at 3))[k7])) (B := B_k7) 1 (by decide) (by decide) (has_yes (show (0 : Int) ≤ v by omega) (show ((-1) : Int) < 0 ∨ v ≤ (-1) by omega)) (by rw [FB_text (f := (fs_sUpdateMetadataRequestLiveBrokerEndpoint[1]'(by decide))) (by decide) (by decide) ok601, sT_nn nn601, nn601])
          have hs601 := fold_size e_106 (by decide) hBk7
          refine cl rfl rfl rfl (OutK.cast (k_AppendCompactString (x := (((lT (((lT (T.at 6))[k6]).at 3))[k7]).at 1).s) (by have := ok601.s (Or.inl rfl); omega) r593 hs601) e_106) rfl (fun v_ H1 L1 hle hR => ?_)
          obtain ⟨rfl, a601, c601, N601, rfl, rfl, h601⟩ := hR
          have r601 := h601.1
          refine asg rfl rfl ?_
          refine nl ?_
          refine sq ?_
          refine sr ?_
          refine mv rfl rfl ?_
          refine ge rfl rfl rfl ?_
          refine nl ?_
          refine cdT rfl (by omega) ?_
          refine sr ?_
          refine mv rfl rfl ?_
          refine nc rfl rfl ?_
          refine fa F166_2 rfl rfl ?_
          refine ld (Says.fz hc_104) Tryz.isAgg9 rfl rfl rfl rfl ?_
          refine asg rfl rfl ?_
          refine nl ?_
          refine sr ?_
          refine mv rfl rfl ?_
          refine nl ?_
          refine cdT rfl (by omega) ?_
          refine rg ?_
          refine mv rfl rfl ?_
          refine mv rfl rfl ?_
          have ok614 := oek7.get 2 (by decide) (has_yes (show (3 : Int) ≤ v by omega) (show ((-1) : Int) < 0 ∨ v ≤ (-1) by omega))
          have nn614 := ok614.nn (by decide) (by decide)
          have e_107 : B_k7 ++ plainTo (zipped fs_sUpdateMetadataRequestLiveBrokerEndpoint v true ((lT (((lT (T.at 6))[k6]).at 3))[k7])) v 2 ++ (counted true false (((lT (((lT (T.at 6))[k6]).at 3))[k7]).at 2).s.length 2 ++ (((lT (((lT (T.at 6))[k6]).at 3))[k7]).at 2).s) = B_k7 ++ plainTo (zipped fs_sUpdateMetadataRequestLiveBrokerEndpoint v true ((lT (((lT (T.at 6))[k6]).at 3))[k7])) v 3 := fold_yes (fs := fs_sUpdateMetadataRequestLiveBrokerEndpoint) (v := v) (flex := true) (t := ((lT (((lT (T.at 6))[k6]).at 3))[k7])) (B := B_k7) 2 (by decide) (by decide) (has_yes (show (3 : Int) ≤ v by omega) (show ((-1) : Int) < 0 ∨ v ≤ (-1) by omega)) (by rw [FB_text (f := (fs_sUpdateMetadataRequestLiveBrokerEndpoint[2]'(by decide))) (by decide) (by decide) ok614, sT_nn nn614, nn614])
          have hs614 := fold_size e_107 (by decide) hBk7
          refine cl rfl rfl rfl (OutK.cast (k_AppendCompactString (x := (((lT (((lT (T.at 6))[k6]).at 3))[k7]).at 2).s) (by have := ok614.s (Or.inl rfl); omega) r601 hs614) e_107) rfl (fun v_ H1 L1 hle hR => ?_)
          obtain ⟨rfl, a614, c614, N614, rfl, rfl, h614⟩ := hR
          have r614 := h614.1
          refine asg rfl rfl ?_
          refine nl ?_
          refine sq ?_
          refine sr ?_
          refine mv rfl rfl ?_
          refine nc rfl rfl ?_
          refine fa F166_3 rfl rfl ?_
          refine ld (Says.fz hc_104) Tryz.isAgg45 rfl rfl rfl rfl ?_
          refine asg rfl rfl ?_
          refine nl ?_
          refine rg ?_
          refine mv rfl rfl ?_
          refine mv rfl rfl ?_
          have ok624 := oek7.get 3 (by decide) (has_yes (show (0 : Int) ≤ v by omega) (show ((-1) : Int) < 0 ∨ v ≤ (-1) by omega))
          have e_108 : B_k7 ++ plainTo (zipped fs_sUpdateMetadataRequestLiveBrokerEndpoint v true ((lT (((lT (T.at 6))[k6]).at 3))[k7])) v 3 ++ (fixed (IntKind.i16.wrap (((lT (((lT (T.at 6))[k6]).at 3))[k7]).at 3).n) 2) = B_k7 ++ plainTo (zipped fs_sUpdateMetadataRequestLiveBrokerEndpoint v true ((lT (((lT (T.at 6))[k6]).at 3))[k7])) v 4 := fold_yes (fs := fs_sUpdateMetadataRequestLiveBrokerEndpoint) (v := v) (flex := true) (t := ((lT (((lT (T.at 6))[k6]).at 3))[k7])) (B := B_k7) 3 (by decide) (by decide) (has_yes (show (0 : Int) ≤ v by omega) (show ((-1) : Int) < 0 ∨ v ≤ (-1) by omega)) ((FB_int (f := (fs_sUpdateMetadataRequestLiveBrokerEndpoint[3]'(by decide))) (by decide) (by decide)).trans (fixed_i16 _).symm)
          have hs624 := fold_size e_108 (by decide) hBk7
          refine cl rfl rfl rfl (OutK.cast (k_AppendInt16 (u := IntKind.i16.wrap (((lT (((lT (T.at 6))[k6]).at 3))[k7]).at 3).n) r614 hs624) e_108) rfl (fun v_ H1 L1 hle hR => ?_)
          obtain ⟨rfl, a624, c624, N624, rfl, rfl, h624⟩ := hR
          have r624 := h624.1
          refine asg rfl rfl ?_
          refine nl ?_
          refine sr ?_
          refine mv rfl rfl ?_
          refine nl ?_
          refine cdT rfl (by omega) ?_
          refine sr ?_
          refine mv rfl rfl ?_
          refine mv rfl rfl ?_
          refine nc rfl rfl ?_
          refine fa F166_4 rfl rfl ?_
          refine cl rfl rfl rfl (t_lenU (j := 4) hc_104 rfl hf_k7_0) rfl (fun v_ H1 L1 hle hR => ?_)
          obtain ⟨rfl, rfl, rfl⟩ := hR
          have hu630 := oek7.u
          have hul630 := hu630.2.1
          obtain ⟨hz630a, hz630b⟩ := part_size_plain (by decide) hu630 hBk7
          refine cv Tryz.runUnderlying3 Tryz.runUnderlying62 rfl (w32u (by omega) (by omega)) rfl ?_
          refine ad rfl rfl ((w32u (by omega) (by omega)).trans (Int.zero_add _)) rfl ?_
          refine cl rfl rfl rfl (k_AppendUvarint (n := ((lT (((lT (T.at 6))[k6]).at 3))[k7]).u.length) (by omega) r624 hz630a) rfl (fun v_ H1 L1 hle hR => ?_)
          obtain ⟨rfl, a633, c633, N633, rfl, rfl, h633⟩ := hR
          have r633 := h633.1
          refine asg rfl rfl ?_
          refine nl ?_
          refine rg ?_
          refine mv rfl rfl ?_
          refine nc rfl rfl ?_
          refine fa F166_4 rfl rfl ?_
          refine mv rfl rfl ?_
          refine cl rfl rfl rfl (t_append_each (j := 4) hc_104 rfl hf_k7_0 (by omega) r633 (fun p hp => by have := hu630.2.2 p hp; omega) hz630b) rfl (fun v_ H1 L1 le_109 hR => ?_)
          obtain ⟨a638, c638, N638, rfl, rfl, h638⟩ := hR
          have r638 := h638.1
          have eP_110 : B_k7 ++ plainTo (zipped fs_sUpdateMetadataRequestLiveBrokerEndpoint v true ((lT (((lT (T.at 6))[k6]).at 3))[k7])) v 4 ++ uvar ((lT (((lT (T.at 6))[k6]).at 3))[k7]).u.length ++ ((lT (((lT (T.at 6))[k6]).at 3))[k7]).u.flatMap tagU = B_k7 ++ partB fs_sUpdateMetadataRequestLiveBrokerEndpoint v true ((lT (((lT (T.at 6))[k6]).at 3))[k7]) := part_close (B := B_k7) (by decide) hu630
          rw [eP_110] at r638 ⊢
          refine asg rfl rfl ?_
          refine nN ?_
          refine Nb ?_
          have ee_111 : B_k7 ++ partB fs_sUpdateMetadataRequestLiveBrokerEndpoint v true ((lT (((lT (T.at 6))[k6]).at 3))[k7]) = B_k6 ++ plainTo (zipped fs_sUpdateMetadataRequestLiveBroker v true ((lT (T.at 6))[k6])) v 3 ++ (counted true false (lT (((lT (T.at 6))[k6]).at 3)).length 4) ++ ((lT (((lT (T.at 6))[k6]).at 3)).take (k7 + 1)).flatMap (GOf (fs_sUpdateMetadataRequestLiveBroker[3]'(by decide)) v true) := by rw [hdk7]; exact el_end (B0 := B_k6 ++ plainTo (zipped fs_sUpdateMetadataRequestLiveBroker v true ((lT (T.at 6))[k6])) v 3 ++ (counted true false (lT (((lT (T.at 6))[k6]).at 3)).length 4)) (G := (GOf (fs_sUpdateMetadataRequestLiveBroker[3]'(by decide)) v true)) hk7 (GOf_part (by decide) _)
          refine fun a_ w_ hA hw => ⟨_, _, _, hA.sub ?_, (le_96.trans le_109), hw, _, rfl, _, _, _, _, rfl, rfl, (by rw [← ee_111]; exact r638), (by rw [← ee_111])⟩
          exact (.cons rfl (.cons rfl (.cons rfl (.cons rfl (.cons rfl (.cons rfl (.cons rfl (.cons rfl (.cons rfl (.cons rfl (.cons rfl (.nil _))))))))))))
        · skip
          obtain ⟨a_k7, m_k7, c_k7, N_k7, rfl, rfl, pk70, pk71⟩ := hI
          refine toWp ?_
          have eL574 : B_k6 ++ plainTo (zipped fs_sUpdateMetadataRequestLiveBroker v true ((lT (T.at 6))[k6])) v 3 ++ (counted true false (lT (((lT (T.at 6))[k6]).at 3)).length 4) ++ ((lT (((lT (T.at 6))[k6]).at 3)).take (lT (((lT (T.at 6))[k6]).at 3)).length).flatMap (GOf (fs_sUpdateMetadataRequestLiveBroker[3]'(by decide)) v true) = B_k6 ++ plainTo (zipped fs_sUpdateMetadataRequestLiveBroker v true ((lT (T.at 6))[k6])) v 4 := by rw [List.take_length, List.append_assoc]; exact e_95
          rw [eL574] at pk70 pk71
          subst pk71
          refine sq ?_
          refine sr ?_
          refine mv rfl rfl ?_
          refine ge rfl rfl rfl ?_
          refine nl ?_
          refine cdT rfl (by omega) ?_
          refine sr ?_
          refine mv rfl rfl ?_
          refine nc rfl rfl ?_
          refine fa F158_4 rfl rfl ?_
          refine ld (Says.fz (hc_90.mono le_97)) Tryz.isAgg110 rfl rfl rfl rfl ?_
          refine asg rfl rfl ?_
          refine nl ?_
          refine sr ?_
          refine mv rfl rfl ?_
          refine nl ?_
          refine cdT rfl (by omega) ?_
          refine rg ?_
          refine mv rfl rfl ?_
          refine mv rfl rfl ?_
          have ok649 := oek6.get 4 (by decide) (has_yes (show (2 : Int) ≤ v by omega) (show ((-1) : Int) < 0 ∨ v ≤ (-1) by omega))
          have e_112 : B_k6 ++ plainTo (zipped fs_sUpdateMetadataRequestLiveBroker v true ((lT (T.at 6))[k6])) v 4 ++ (counted true (((lT (T.at 6))[k6]).at 4).nul (sT (((lT (T.at 6))[k6]).at 4)).length 2 ++ sT (((lT (T.at 6))[k6]).at 4)) = B_k6 ++ plainTo (zipped fs_sUpdateMetadataRequestLiveBroker v true ((lT (T.at 6))[k6])) v 5 := fold_yes (fs := fs_sUpdateMetadataRequestLiveBroker) (v := v) (flex := true) (t := ((lT (T.at 6))[k6])) (B := B_k6) 4 (by decide) (by decide) (has_yes (show (2 : Int) ≤ v by omega) (show ((-1) : Int) < 0 ∨ v ≤ (-1) by omega)) (FB_text (f := (fs_sUpdateMetadataRequestLiveBroker[4]'(by decide))) (by decide) (by decide) ok649)
          have hs649 := fold_size e_112 (by decide) hBk6
          refine cl rfl rfl rfl (OutK.cast (k_AppendCompactNullableString (hf_k6_1.mono le_97) (ok649.s (Or.inl rfl)) pk70 hs649) e_112) rfl (fun v_ H1 L1 hle hR => ?_)
          obtain ⟨rfl, a649, c649, N649, rfl, rfl, h649⟩ := hR
          have r649 := h649.1
          refine asg rfl rfl ?_
          refine nl ?_
          refine sr ?_
          refine mv rfl rfl ?_
          refine nl ?_
          refine cdT rfl (by omega) ?_
          refine sr ?_
          refine mv rfl rfl ?_
          refine mv rfl rfl ?_
          refine nc rfl rfl ?_
          refine fa F158_5 rfl rfl ?_
          refine cl rfl rfl rfl (t_lenU (j := 5) (hc_90.mono le_97) rfl (hf_k6_2.mono le_97)) rfl (fun v_ H1 L1 hle hR => ?_)
          obtain ⟨rfl, rfl, rfl⟩ := hR
          have hu658 := oek6.u
          have hul658 := hu658.2.1
          obtain ⟨hz658a, hz658b⟩ := part_size_plain (by decide) hu658 hBk6
          refine cv Tryz.runUnderlying3 Tryz.runUnderlying62 rfl (w32u (by omega) (by omega)) rfl ?_
          refine ad rfl rfl ((w32u (by omega) (by omega)).trans (Int.zero_add _)) rfl ?_
          refine cl rfl rfl rfl (k_AppendUvarint (n := ((lT (T.at 6))[k6]).u.length) (by omega) r649 hz658a) rfl (fun v_ H1 L1 hle hR => ?_)
          obtain ⟨rfl, a661, c661, N661, rfl, rfl, h661⟩ := hR
          have r661 := h661.1
          refine asg rfl rfl ?_
          refine nl ?_
          refine rg ?_
          refine mv rfl rfl ?_
          refine nc rfl rfl ?_
          refine fa F158_5 rfl rfl ?_
          refine mv rfl rfl ?_
          refine cl rfl rfl rfl (t_append_each (j := 5) (hc_90.mono le_97) rfl (hf_k6_2.mono le_97) (by omega) r661 (fun p hp => by have := hu658.2.2 p hp; omega) hz658b) rfl (fun v_ H1 L1 le_113 hR => ?_)
          obtain ⟨a666, c666, N666, rfl, rfl, h666⟩ := hR
          have r666 := h666.1
          have eP_114 : B_k6 ++ plainTo (zipped fs_sUpdateMetadataRequestLiveBroker v true ((lT (T.at 6))[k6])) v 5 ++ uvar ((lT (T.at 6))[k6]).u.length ++ ((lT (T.at 6))[k6]).u.flatMap tagU = B_k6 ++ partB fs_sUpdateMetadataRequestLiveBroker v true ((lT (T.at 6))[k6]) := part_close (B := B_k6) (by decide) hu658
          rw [eP_114] at r666 ⊢
          refine asg rfl rfl ?_
          refine nN ?_
          refine Nb ?_
          have ee_115 : B_k6 ++ partB fs_sUpdateMetadataRequestLiveBroker v true ((lT (T.at 6))[k6]) = D ++ plainTo (zipped fs_UpdateMetadataRequest v true T) v 6 ++ (counted true false (lT (T.at 6)).length 4) ++ ((lT (T.at 6)).take (k6 + 1)).flatMap (GOf (fs_UpdateMetadataRequest[6]'(by decide)) v true) := by rw [hdk6]; exact el_end (B0 := D ++ plainTo (zipped fs_UpdateMetadataRequest v true T) v 6 ++ (counted true false (lT (T.at 6)).length 4)) (G := (GOf (fs_UpdateMetadataRequest[6]'(by decide)) v true)) hk6 (GOf_part (by decide) _)
          refine fun a_ w_ hA hw => ⟨_, _, _, hA.sub ?_, (le_82.trans (le_97.trans le_113)), hw, _, rfl, _, _, _, _, rfl, rfl, (by rw [← ee_115]; exact r666), (by rw [← ee_115])⟩
          exact (.cons rfl (.cons rfl (.cons rfl (.cons rfl (.cons rfl (.cons rfl (.cons rfl (.nil _))))))))
      · skip
        obtain ⟨a_k6, m_k6, c_k6, N_k6, rfl, rfl, pk60, pk61⟩ := hI
        refine toWp ?_
        have eL514 : D ++ plainTo (zipped fs_UpdateMetadataRequest v true T) v 6 ++ (counted true false (lT (T.at 6)).length 4) ++ ((lT (T.at 6)).take (lT (T.at 6)).length).flatMap (GOf (fs_UpdateMetadataRequest[6]'(by decide)) v true) = D ++ plainTo (zipped fs_UpdateMetadataRequest v true T) v 7 := by rw [List.take_length, List.append_assoc]; exact e_81
        rw [eL514] at pk60 pk61
        subst pk61
        refine sq ?_
        refine sr ?_
        refine mv rfl rfl ?_
        refine nl ?_
        refine cdT rfl (by omega) ?_
        refine sr ?_
        refine mv rfl rfl ?_
        refine mv rfl rfl ?_
        refine nc rfl rfl ?_
        refine fa0 F85_8 rfl rfl ?_
        refine cl rfl rfl rfl (t_lenU (j := 8) (hv.mono (le_3.trans (le_14.trans le_83))) rfl (hf3.mono (le_3.trans (le_14.trans le_83)))) rfl (fun v_ H1 L1 hle hR => ?_)
        obtain ⟨rfl, rfl, rfl⟩ := hR
        have hu673 := hok.u
        have hul673 := hu673.2.1
        obtain ⟨hz673a, hz673b⟩ := part_size_plain (by decide) hu673 hb
        refine cv Tryz.runUnderlying3 Tryz.runUnderlying62 rfl (w32u (by omega) (by omega)) rfl ?_
        refine ad rfl rfl ((w32u (by omega) (by omega)).trans (Int.zero_add _)) rfl ?_
        refine cl rfl rfl rfl (k_AppendUvarint (n := T.u.length) (by omega) pk60 hz673a) rfl (fun v_ H1 L1 hle hR => ?_)
        obtain ⟨rfl, a676, c676, N676, rfl, rfl, h676⟩ := hR
        have r676 := h676.1
        refine asg rfl rfl ?_
        refine nl ?_
        refine rg ?_
        refine mv rfl rfl ?_
        refine nc rfl rfl ?_
        refine fa0 F85_8 rfl rfl ?_
        refine mv rfl rfl ?_
        refine cl rfl rfl rfl (t_append_each (j := 8) (hv.mono (le_3.trans (le_14.trans le_83))) rfl (hf3.mono (le_3.trans (le_14.trans le_83))) (by omega) r676 (fun p hp => by have := hu673.2.2 p hp; omega) hz673b) rfl (fun v_ H1 L1 le_116 hR => ?_)
        obtain ⟨a681, c681, N681, rfl, rfl, h681⟩ := hR
        have r681 := h681.1
        have eP_117 : D ++ plainTo (zipped fs_UpdateMetadataRequest v true T) v 7 ++ uvar T.u.length ++ T.u.flatMap tagU = D ++ partB fs_UpdateMetadataRequest v true T := part_close (B := D) (by decide) hu673
        rw [eP_117] at r681 ⊢
        refine asg rfl rfl ?_
        refine nl ?_
        refine sr ?_
        refine mv rfl rfl ?_
        refine asg rfl rfl ?_
        refine nl ?_
        exact rT rfl rfl (le_3.trans (le_14.trans (le_83.trans le_116))) (fun _ _ h => h) (OutB.of r681 rfl)
end Go.Sx

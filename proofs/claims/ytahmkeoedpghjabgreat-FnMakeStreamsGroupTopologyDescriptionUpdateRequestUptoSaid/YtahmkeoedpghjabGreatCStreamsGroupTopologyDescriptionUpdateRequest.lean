import Derived.Test.YtahmkeoedpghjabGreatBStreamsGroupTopologyDescriptionUpdateRequest
import Derived.KernelRfl
set_option linter.unusedVariables false
set_option linter.unusedSimpArgs false
set_option maxRecDepth 100000
set_option maxHeartbeats 20000000
namespace Go.Sx
open Go.Proofs
theorem app_StreamsGroupTopologyDescriptionUpdateRequest_t {H : Fz} {L : Own} {a : Option Addr} {cap b : Nat} {D : List UInt8} {N : Chunk} {cs : List Value} {T : Tr} {v : Int} (hr : Row 5 1 a D.length cap (bytesOf D) N) (hv : H.at b 0 cs) (hA : At_StreamsGroupTopologyDescriptionUpdateRequest v H T cs) (hok : OkP fs_StreamsGroupTopologyDescriptionUpdateRequest v T) (h0 : 0 ≤ v) (h1 : v ≤ 0) (hb : D.length + (partB fs_StreamsGroupTopologyDescriptionUpdateRequest v true T).length ≤ LIM) :
    Fn Tryz.prog 43 [.pointer (some ⟨b, 0, none⟩), .slice a D.length cap] H (N :: L) (fun r H' L' => OutB 5 L (D ++ partB fs_StreamsGroupTopologyDescriptionUpdateRequest v true T) r L') := by
  obtain ⟨a3_0, c3_0, a3_1, c3_1, m3_t, mt, rfl, hf0, hf1, hf2, hf3⟩ := hA
  refine Fn.mk Tryz.call43 Tryz.func43 rfl Tryz.ntmps43 rfl ?_
  refine sr ?_
  refine asg rfl rfl ?_
  refine nl ?_
  refine sr ?_
  refine mv rfl rfl ?_
  refine nc rfl rfl ?_
  refine fa0 F77_0 rfl rfl ?_
  refine ld (Says.fz hv) Tryz.isAgg45 rfl (Nat.zero_add _).symm rfl rfl ?_
  refine asg rfl rfl ?_
  refine nl ?_
  refine sr ?_
  refine mv rfl rfl ?_
  refine nl ?_
  refine sr ?_
  refine mv rfl rfl ?_
  refine ge rfl rfl rfl ?_
  refine asg rfl rfl ?_
  refine nl ?_
  refine sr ?_
  refine mv rfl rfl ?_
  refine nl ?_
  refine sq ?_
  refine sr ?_
  refine mv rfl rfl ?_
  refine nc rfl rfl ?_
  refine fa0 F77_1 rfl rfl ?_
  refine ld (Says.fz hv) Tryz.isAgg9 rfl (Nat.zero_add _).symm rfl rfl ?_
  refine asg rfl rfl ?_
  refine nl ?_
  refine sr ?_
  refine mv rfl rfl ?_
  refine nl ?_
  refine cdT rfl (by omega) ?_
  refine rg ?_
  refine mv rfl rfl ?_
  refine mv rfl rfl ?_
  have ok74 := hok.get 0 (by decide) (has_yes (show (0 : Int) ≤ v by omega) (show ((-1) : Int) < 0 ∨ v ≤ (-1) by omega))
  have nn74 := ok74.nn (by decide) (by decide)
  have e_1 : D ++ (counted true false (T.at 0).s.length 2 ++ (T.at 0).s) = D ++ plainTo (zipped fs_StreamsGroupTopologyDescriptionUpdateRequest v true T) v 1 := fold_first (fs := fs_StreamsGroupTopologyDescriptionUpdateRequest) (v := v) (flex := true) (t := T) (B := D) 0 rfl (by decide) (by decide) (has_yes (show (0 : Int) ≤ v by omega) (show ((-1) : Int) < 0 ∨ v ≤ (-1) by omega)) (by rw [FB_text (f := (fs_StreamsGroupTopologyDescriptionUpdateRequest[0]'(by decide))) (by decide) (by decide) ok74, sT_nn nn74, nn74])
  have hs74 := fold_size e_1 (by decide) hb
  refine cl rfl rfl rfl (OutK.cast (k_AppendCompactString (x := (T.at 0).s) (by have := ok74.s (Or.inl rfl); omega) hr hs74) e_1) rfl (fun v_ H1 L1 hle hR => ?_)
  obtain ⟨rfl, a74, c74, N74, rfl, rfl, h74⟩ := hR
  have r74 := h74.1
  refine asg rfl rfl ?_
  refine nl ?_
  refine sq ?_
  refine sr ?_
  refine mv rfl rfl ?_
  refine nc rfl rfl ?_
  refine fa0 F77_2 rfl rfl ?_
  refine ld (Says.fz hv) Tryz.isAgg9 rfl (Nat.zero_add _).symm rfl rfl ?_
  refine asg rfl rfl ?_
  refine nl ?_
  refine sr ?_
  refine mv rfl rfl ?_
  refine nl ?_
  refine cdT rfl (by omega) ?_
  refine rg ?_
  refine mv rfl rfl ?_
  refine mv rfl rfl ?_
  have ok85 := hok.get 1 (by decide) (has_yes (show (0 : Int) ≤ v by omega) (show ((-1) : Int) < 0 ∨ v ≤ (-1) by omega))
  have nn85 := ok85.nn (by decide) (by decide)
  have e_2 : D ++ plainTo (zipped fs_StreamsGroupTopologyDescriptionUpdateRequest v true T) v 1 ++ (counted true false (T.at 1).s.length 2 ++ (T.at 1).s) = D ++ plainTo (zipped fs_StreamsGroupTopologyDescriptionUpdateRequest v true T) v 2 := fold_yes (fs := fs_StreamsGroupTopologyDescriptionUpdateRequest) (v := v) (flex := true) (t := T) (B := D) 1 (by decide) (by decide) (has_yes (show (0 : Int) ≤ v by omega) (show ((-1) : Int) < 0 ∨ v ≤ (-1) by omega)) (by rw [FB_text (f := (fs_StreamsGroupTopologyDescriptionUpdateRequest[1]'(by decide))) (by decide) (by decide) ok85, sT_nn nn85, nn85])
  have hs85 := fold_size e_2 (by decide) hb
  refine cl rfl rfl rfl (OutK.cast (k_AppendCompactString (x := (T.at 1).s) (by have := ok85.s (Or.inl rfl); omega) r74 hs85) e_2) rfl (fun v_ H1 L1 hle hR => ?_)
  obtain ⟨rfl, a85, c85, N85, rfl, rfl, h85⟩ := hR
  have r85 := h85.1
  refine asg rfl rfl ?_
  refine nl ?_
  refine sq ?_
  refine sr ?_
  refine mv rfl rfl ?_
  refine nc rfl rfl ?_
  refine fa0 F77_3 rfl rfl ?_
  refine ld (Says.fz hv) Tryz.isAgg21 rfl (Nat.zero_add _).symm rfl rfl ?_
  refine asg rfl rfl ?_
  refine nl ?_
  refine rg ?_
  refine mv rfl rfl ?_
  refine mv rfl rfl ?_
  have ok95 := hok.get 2 (by decide) (has_yes (show (0 : Int) ≤ v by omega) (show ((-1) : Int) < 0 ∨ v ≤ (-1) by omega))
  have e_3 : D ++ plainTo (zipped fs_StreamsGroupTopologyDescriptionUpdateRequest v true T) v 2 ++ (fixed (IntKind.i32.wrap (T.at 2).n) 4) = D ++ plainTo (zipped fs_StreamsGroupTopologyDescriptionUpdateRequest v true T) v 3 := fold_yes (fs := fs_StreamsGroupTopologyDescriptionUpdateRequest) (v := v) (flex := true) (t := T) (B := D) 2 (by decide) (by decide) (has_yes (show (0 : Int) ≤ v by omega) (show ((-1) : Int) < 0 ∨ v ≤ (-1) by omega)) ((FB_int (f := (fs_StreamsGroupTopologyDescriptionUpdateRequest[2]'(by decide))) (by decide) (by decide)).trans (fixed_i32 _).symm)
  have hs95 := fold_size e_3 (by decide) hb
  refine cl rfl rfl rfl (OutK.cast (k_AppendInt32 (u := IntKind.i32.wrap (T.at 2).n) r85 hs95) e_3) rfl (fun v_ H1 L1 hle hR => ?_)
  obtain ⟨rfl, a95, c95, N95, rfl, rfl, h95⟩ := hR
  have r95 := h95.1
  refine asg rfl rfl ?_
  refine nl ?_
  refine sq ?_
  refine sr ?_
  refine mv rfl rfl ?_
  refine nc rfl rfl ?_
  refine fa0 F77_4 rfl rfl ?_
  refine asg rfl rfl ?_
  refine nl ?_
  refine sq ?_
  refine sr ?_
  refine mv rfl rfl ?_
  refine nc rfl rfl ?_
  refine fa F75_0 rfl rfl ?_
  refine ld (Says.fz hv) Tryz.isAgg72 rfl (Nat.zero_add _).symm rfl rfl ?_
  refine asg rfl rfl ?_
  refine nl ?_
  refine sq ?_
  refine sr ?_
  refine mv rfl rfl ?_
  refine nl ?_
  refine cdT rfl (by omega) ?_
  refine rg ?_
  refine mv rfl rfl ?_
  refine mv rfl rfl ?_
  refine ls Tryz.runUnderlying72 rfl rfl ?_
  have e_4 : D ++ plainTo (zipped fs_StreamsGroupTopologyDescriptionUpdateRequest v true T) v 3 ++ (partB fs_sTopologyDescription v true (T.at 3)) = D ++ plainTo (zipped fs_StreamsGroupTopologyDescriptionUpdateRequest v true T) v 4 := fold_yes (fs := fs_StreamsGroupTopologyDescriptionUpdateRequest) (v := v) (flex := true) (t := T) (B := D) 3 (by decide) (by decide) (has_yes (show (0 : Int) ≤ v by omega) (show ((-1) : Int) < 0 ∨ v ≤ (-1) by omega)) (FB_part (f := (fs_StreamsGroupTopologyDescriptionUpdateRequest[3]'(by decide))) (by decide) (by decide))
  have hB_5 : (D ++ plainTo (zipped fs_StreamsGroupTopologyDescriptionUpdateRequest v true T) v 3).length + (partB fs_sTopologyDescription v true (T.at 3)).length ≤ LIM := fold_size e_4 (by decide) hb
  have ok_6f := (hok.get 3 (by decide) (has_yes (show (0 : Int) ≤ v by omega) (show ((-1) : Int) < 0 ∨ v ≤ (-1) by omega)))
  have ok_6 : OkP fs_sTopologyDescription v (T.at 3) := ok_6f.part rfl (ok_6f.nn (by decide) (by decide))
  obtain ⟨B_7, hdB_7⟩ : ∃ z : List UInt8, z = D ++ plainTo (zipped fs_StreamsGroupTopologyDescriptionUpdateRequest v true T) v 3 := ⟨_, rfl⟩
  have rbB_7 := r95
  rw [← hdB_7] at rbB_7 ⊢
  rw [← hdB_7] at hB_5 e_4
  have ok107 := ok_6.get 0 (by decide) (has_yes (show (0 : Int) ≤ v by omega) (show ((-1) : Int) < 0 ∨ v ≤ (-1) by omega))
  have nn107 := ok107.nn (by decide) (by decide)
  have ll107 := lT_len (ok107.len rfl)
  have e_8 : B_7 ++ (counted true false (lT ((T.at 3).at 0)).length 4 ++ (lT ((T.at 3).at 0)).flatMap (GOf (fs_sTopologyDescription[0]'(by decide)) v true)) = B_7 ++ plainTo (zipped fs_sTopologyDescription v true (T.at 3)) v 1 := fold_first (fs := fs_sTopologyDescription) (v := v) (flex := true) (t := (T.at 3)) (B := B_7) 0 rfl (by decide) (by decide) (has_yes (show (0 : Int) ≤ v by omega) (show ((-1) : Int) < 0 ∨ v ≤ (-1) by omega)) (by rw [FB_list (f := (fs_sTopologyDescription[0]'(by decide))) (by decide) (by decide) ok107, nn107])
  have hs107 := fold_size e_8 (by decide) hB_5
  have hc107 : (B_7).length + (counted true false (lT ((T.at 3).at 0)).length 4).length ≤ LIM := by have h := hs107; simp only [List.length_append] at h ⊢; omega
  refine cl rfl rfl rfl (OutK.cast (k_AppendCompactArrayLen (n := (lT ((T.at 3).at 0)).length) (by omega) rbB_7 hc107) (show _ = B_7 ++ (counted true false (lT ((T.at 3).at 0)).length 4) from rfl)) rfl (fun v_ H1 L1 hle hR => ?_)
  obtain ⟨rfl, a107, c107, N107, rfl, rfl, h107⟩ := hR
  have r107 := h107.1
  refine asg rfl rfl ?_
  refine nl ?_
  refine sr ?_
  refine mv rfl rfl ?_
  refine ls Tryz.runUnderlying72 rfl rfl ?_
  refine mv rfl rfl ?_
  refine nl ?_
  refine fr ((lT ((T.at 3).at 0)).length) (fun k1 l' H' L' => ∃ (a_k1 : Option Addr), ∃ (m_k1 : Nat), ∃ (c_k1 : Nat), ∃ (N_k1 : Chunk), [(0, .pointer (some ⟨b, 0, none⟩)), (1, .slice a_k1 m_k1 c_k1), (6, .bool (decide ((0 : Int) ≤ v))), (10, .pointer (some ⟨b, 4, none⟩)), (11, .slice a3_0 (lT ((T.at 3).at 0)).length c3_0), (113, .int .i64 ((lT ((T.at 3).at 0)).length : Int))] = l' ∧ N_k1 :: L = L' ∧ Row 5 1 a_k1 m_k1 c_k1 (bytesOf (B_7 ++ (counted true false (lT ((T.at 3).at 0)).length 4) ++ ((lT ((T.at 3).at 0)).take k1).flatMap (GOf (fs_sTopologyDescription[0]'(by decide)) v true))) N_k1 ∧ m_k1 = (B_7 ++ (counted true false (lT ((T.at 3).at 0)).length 4) ++ ((lT ((T.at 3).at 0)).take k1).flatMap (GOf (fs_sTopologyDescription[0]'(by decide)) v true)).length) [(0, .pointer (some ⟨b, 0, none⟩)), (1, .slice _ _ _), (6, .bool (decide ((0 : Int) ≤ v))), (10, .pointer (some ⟨b, 4, none⟩)), (11, .slice a3_0 (lT ((T.at 3).at 0)).length c3_0), (113, .int .i64 ((lT ((T.at 3).at 0)).length : Int))] (fun k1 l' H' L' h => ?_) (by omega) rfl (.cons rfl (.cons rfl (.cons rfl (.cons rfl (.cons rfl (.cons rfl (.nil _))))))) ⟨_, _, _, _, rfl, rfl, (by rw [List.take_zero, List.flatMap_nil, List.append_nil]; exact r107), (by rw [List.take_zero, List.flatMap_nil, List.append_nil])⟩ rfl rfl rfl rfl rfl (fun k1 l' H' L' hk1 le_9 hI => ?_) (fun l' H' L' le_10 hI => ?_)
  · obtain ⟨a_k1, m_k1, c_k1, N_k1, rfl, _⟩ := h; exact ⟨rfl, rfl, rfl, rfl⟩
  · skip
    obtain ⟨a_k1, m_k1, c_k1, N_k1, rfl, rfl, pk10, pk11⟩ := hI
    subst pk11
    refine sr ?_
    refine mv rfl rfl ?_
    refine asg rfl rfl ?_
    refine nl ?_
    refine sr ?_
    refine mv rfl rfl ?_
    refine mv rfl rfl ?_
    obtain ⟨b_11, o_12, e_13, g_14⟩ := (hf0.mono At_TopologyDescriptionSubtopology.mono le_9).rows.at_ (ne_nil_of_lt hk1)
    obtain ⟨cs_15, hA_16, hc_17⟩ := g_14 k1 hk1
    refine ix2 Tryz.runUnderlying72 Tryz.sizeOf139 rfl e_13 rfl rfl hk1 rfl ?_
    obtain ⟨a_k1_1, c_k1_1, m_k1_t, rfl, hf_k1_0, hf_k1_1⟩ := hA_16
    have oek1 := (ok107.el rfl _ (lT_mem (List.getElem_mem hk1))).2 rfl
    obtain ⟨B_k1, hdk1⟩ : ∃ z : List UInt8, z = B_7 ++ (counted true false (lT ((T.at 3).at 0)).length 4) ++ ((lT ((T.at 3).at 0)).take k1).flatMap (GOf (fs_sTopologyDescription[0]'(by decide)) v true) := ⟨_, rfl⟩
    have rbk1 := pk10
    rw [← hdk1] at rbk1 ⊢
    have hBk1 : B_k1.length + (partB fs_sTopologyDescriptionSubtopology v true ((lT ((T.at 3).at 0))[k1])).length ≤ LIM := by rw [hdk1]; exact el_size hs107 hk1 (GOf_part (by decide) _)
    refine asg rfl rfl ?_
    refine nl ?_
    refine sq ?_
    refine sr ?_
    refine mv rfl rfl ?_
    refine nc rfl rfl ?_
    refine fa F139_0 rfl rfl ?_
    refine ld (Says.fz hc_17) Tryz.isAgg9 rfl (Nat.add_zero _).symm rfl rfl ?_
    refine asg rfl rfl ?_
    refine nl ?_
    refine sr ?_
    refine mv rfl rfl ?_
    refine nl ?_
    refine cdT rfl (by omega) ?_
    refine rg ?_
    refine mv rfl rfl ?_
    refine mv rfl rfl ?_
    have ok127 := oek1.get 0 (by decide) (has_yes (show (0 : Int) ≤ v by omega) (show ((-1) : Int) < 0 ∨ v ≤ (-1) by omega))
    have nn127 := ok127.nn (by decide) (by decide)
    have e_18 : B_k1 ++ (counted true false (((lT ((T.at 3).at 0))[k1]).at 0).s.length 2 ++ (((lT ((T.at 3).at 0))[k1]).at 0).s) = B_k1 ++ plainTo (zipped fs_sTopologyDescriptionSubtopology v true ((lT ((T.at 3).at 0))[k1])) v 1 := fold_first (fs := fs_sTopologyDescriptionSubtopology) (v := v) (flex := true) (t := ((lT ((T.at 3).at 0))[k1])) (B := B_k1) 0 rfl (by decide) (by decide) (has_yes (show (0 : Int) ≤ v by omega) (show ((-1) : Int) < 0 ∨ v ≤ (-1) by omega)) (by rw [FB_text (f := (fs_sTopologyDescriptionSubtopology[0]'(by decide))) (by decide) (by decide) ok127, sT_nn nn127, nn127])
    have hs127 := fold_size e_18 (by decide) hBk1
    refine cl rfl rfl rfl (OutK.cast (k_AppendCompactString (x := (((lT ((T.at 3).at 0))[k1]).at 0).s) (by have := ok127.s (Or.inl rfl); omega) rbk1 hs127) e_18) rfl (fun v_ H1 L1 hle hR => ?_)
    obtain ⟨rfl, a127, c127, N127, rfl, rfl, h127⟩ := hR
    have r127 := h127.1
    refine asg rfl rfl ?_
    refine nl ?_
    refine sq ?_
    refine sr ?_
    refine mv rfl rfl ?_
    refine nc rfl rfl ?_
    refine fa F139_1 rfl rfl ?_
    refine ld (Says.fz hc_17) Tryz.isAgg137 rfl rfl rfl rfl ?_
    refine asg rfl rfl ?_
    refine nl ?_
    refine sq ?_
    refine sr ?_
    refine mv rfl rfl ?_
    refine nl ?_
    refine cdT rfl (by omega) ?_
    refine rg ?_
    refine mv rfl rfl ?_
    refine mv rfl rfl ?_
    refine ls Tryz.runUnderlying137 rfl rfl ?_
    have ok139 := oek1.get 1 (by decide) (has_yes (show (0 : Int) ≤ v by omega) (show ((-1) : Int) < 0 ∨ v ≤ (-1) by omega))
    have nn139 := ok139.nn (by decide) (by decide)
    have ll139 := lT_len (ok139.len rfl)
    have e_19 : B_k1 ++ plainTo (zipped fs_sTopologyDescriptionSubtopology v true ((lT ((T.at 3).at 0))[k1])) v 1 ++ (counted true false (lT (((lT ((T.at 3).at 0))[k1]).at 1)).length 4 ++ (lT (((lT ((T.at 3).at 0))[k1]).at 1)).flatMap (GOf (fs_sTopologyDescriptionSubtopology[1]'(by decide)) v true)) = B_k1 ++ plainTo (zipped fs_sTopologyDescriptionSubtopology v true ((lT ((T.at 3).at 0))[k1])) v 2 := fold_yes (fs := fs_sTopologyDescriptionSubtopology) (v := v) (flex := true) (t := ((lT ((T.at 3).at 0))[k1])) (B := B_k1) 1 (by decide) (by decide) (has_yes (show (0 : Int) ≤ v by omega) (show ((-1) : Int) < 0 ∨ v ≤ (-1) by omega)) (by rw [FB_list (f := (fs_sTopologyDescriptionSubtopology[1]'(by decide))) (by decide) (by decide) ok139, nn139])
    have hs139 := fold_size e_19 (by decide) hBk1
    have hc139 : (B_k1 ++ plainTo (zipped fs_sTopologyDescriptionSubtopology v true ((lT ((T.at 3).at 0))[k1])) v 1).length + (counted true false (lT (((lT ((T.at 3).at 0))[k1]).at 1)).length 4).length ≤ LIM := by have h := hs139; simp only [List.length_append] at h ⊢; omega
    refine cl rfl rfl rfl (OutK.cast (k_AppendCompactArrayLen (n := (lT (((lT ((T.at 3).at 0))[k1]).at 1)).length) (by omega) r127 hc139) (show _ = B_k1 ++ plainTo (zipped fs_sTopologyDescriptionSubtopology v true ((lT ((T.at 3).at 0))[k1])) v 1 ++ (counted true false (lT (((lT ((T.at 3).at 0))[k1]).at 1)).length 4) from rfl)) rfl (fun v_ H1 L1 hle hR => ?_)
    obtain ⟨rfl, a139, c139, N139, rfl, rfl, h139⟩ := hR
    have r139 := h139.1
    refine asg rfl rfl ?_
    refine nl ?_
    refine sr ?_
    refine mv rfl rfl ?_
    refine ls Tryz.runUnderlying137 rfl rfl ?_
    refine mv rfl rfl ?_
    refine nl ?_
    refine fr ((lT (((lT ((T.at 3).at 0))[k1]).at 1)).length) (fun k2 l' H' L' => ∃ (a_k2 : Option Addr), ∃ (m_k2 : Nat), ∃ (c_k2 : Nat), ∃ (N_k2 : Chunk), [(0, .pointer (some ⟨b, 0, none⟩)), (1, .slice a_k2 m_k2 c_k2), (6, .bool (decide ((0 : Int) ≤ v))), (10, .pointer (some ⟨b, 4, none⟩)), (11, .slice a3_0 (lT ((T.at 3).at 0)).length c3_0), (13, .pointer (some ⟨b_11, o_12 + k1 * 3, none⟩)), (15, .slice a_k1_1 (lT (((lT ((T.at 3).at 0))[k1]).at 1)).length c_k1_1), (113, .int .i64 ((lT ((T.at 3).at 0)).length : Int)), (114, .int .i64 (k1 : Int)), (145, .int .i64 ((lT (((lT ((T.at 3).at 0))[k1]).at 1)).length : Int))] = l' ∧ N_k2 :: L = L' ∧ Row 5 1 a_k2 m_k2 c_k2 (bytesOf (B_k1 ++ plainTo (zipped fs_sTopologyDescriptionSubtopology v true ((lT ((T.at 3).at 0))[k1])) v 1 ++ (counted true false (lT (((lT ((T.at 3).at 0))[k1]).at 1)).length 4) ++ ((lT (((lT ((T.at 3).at 0))[k1]).at 1)).take k2).flatMap (GOf (fs_sTopologyDescriptionSubtopology[1]'(by decide)) v true))) N_k2 ∧ m_k2 = (B_k1 ++ plainTo (zipped fs_sTopologyDescriptionSubtopology v true ((lT ((T.at 3).at 0))[k1])) v 1 ++ (counted true false (lT (((lT ((T.at 3).at 0))[k1]).at 1)).length 4) ++ ((lT (((lT ((T.at 3).at 0))[k1]).at 1)).take k2).flatMap (GOf (fs_sTopologyDescriptionSubtopology[1]'(by decide)) v true)).length) [(0, .pointer (some ⟨b, 0, none⟩)), (1, .slice _ _ _), (6, .bool (decide ((0 : Int) ≤ v))), (10, .pointer (some ⟨b, 4, none⟩)), (11, .slice a3_0 (lT ((T.at 3).at 0)).length c3_0), (13, .pointer (some ⟨b_11, o_12 + k1 * 3, none⟩)), (15, .slice a_k1_1 (lT (((lT ((T.at 3).at 0))[k1]).at 1)).length c_k1_1), (113, .int .i64 ((lT ((T.at 3).at 0)).length : Int)), (114, .int .i64 (k1 : Int)), (145, .int .i64 ((lT (((lT ((T.at 3).at 0))[k1]).at 1)).length : Int))] (fun k2 l' H' L' h => ?_) (by omega) rfl (.cons rfl (.cons rfl (.cons rfl (.cons rfl (.cons rfl (.cons rfl (.cons rfl (.cons rfl (.cons rfl (.cons rfl (.nil _))))))))))) ⟨_, _, _, _, rfl, rfl, (by rw [List.take_zero, List.flatMap_nil, List.append_nil]; exact r139), (by rw [List.take_zero, List.flatMap_nil, List.append_nil])⟩ rfl rfl rfl rfl rfl (fun k2 l' H' L' hk2 le_20 hI => ?_) (fun l' H' L' le_21 hI => ?_)
    · obtain ⟨a_k2, m_k2, c_k2, N_k2, rfl, _⟩ := h; exact ⟨rfl, rfl, rfl, rfl⟩
    · skip
      obtain ⟨a_k2, m_k2, c_k2, N_k2, rfl, rfl, pk20, pk21⟩ := hI
      subst pk21
      refine sr ?_
      refine mv rfl rfl ?_
      refine asg rfl rfl ?_
      refine nl ?_
      refine sr ?_
      refine mv rfl rfl ?_
      refine mv rfl rfl ?_
      obtain ⟨b_22, o_23, e_24, g_25⟩ := (hf_k1_0.mono At_TopologyDescriptionNode.mono le_20).rows.at_ (ne_nil_of_lt hk2)
      obtain ⟨cs_26, hA_27, hc_28⟩ := g_25 k2 hk2
      refine ix2 Tryz.runUnderlying137 Tryz.sizeOf144 rfl e_24 rfl rfl hk2 rfl ?_
      obtain ⟨a_k2_2, c_k2_2, p_k2_3, a_k2_4, c_k2_4, a_k2_5, c_k2_5, m_k2_t, rfl, hf_k2_0, hf_k2_1, hf_k2_2, hf_k2_3, hf_k2_4⟩ := hA_27
      have oek2 := (ok139.el rfl _ (lT_mem (List.getElem_mem hk2))).2 rfl
      obtain ⟨B_k2, hdk2⟩ : ∃ z : List UInt8, z = B_k1 ++ plainTo (zipped fs_sTopologyDescriptionSubtopology v true ((lT ((T.at 3).at 0))[k1])) v 1 ++ (counted true false (lT (((lT ((T.at 3).at 0))[k1]).at 1)).length 4) ++ ((lT (((lT ((T.at 3).at 0))[k1]).at 1)).take k2).flatMap (GOf (fs_sTopologyDescriptionSubtopology[1]'(by decide)) v true) := ⟨_, rfl⟩
      have rbk2 := pk20
      rw [← hdk2] at rbk2 ⊢
      have hBk2 : B_k2.length + (partB fs_sTopologyDescriptionNode v true ((lT (((lT ((T.at 3).at 0))[k1]).at 1))[k2])).length ≤ LIM := by rw [hdk2]; exact el_size hs139 hk2 (GOf_part (by decide) _)
      refine asg rfl rfl ?_
      refine nl ?_
      refine sq ?_
      refine sr ?_
      refine mv rfl rfl ?_
      refine nc rfl rfl ?_
      refine fa F144_0 rfl rfl ?_
      refine ld (Says.fz hc_28) Tryz.isAgg9 rfl (Nat.add_zero _).symm rfl rfl ?_
      refine asg rfl rfl ?_
      refine nl ?_
      refine sr ?_
      refine mv rfl rfl ?_
      refine nl ?_
      refine cdT rfl (by omega) ?_
      refine rg ?_
      refine mv rfl rfl ?_
      refine mv rfl rfl ?_
      have ok159 := oek2.get 0 (by decide) (has_yes (show (0 : Int) ≤ v by omega) (show ((-1) : Int) < 0 ∨ v ≤ (-1) by omega))
      have nn159 := ok159.nn (by decide) (by decide)
      have e_29 : B_k2 ++ (counted true false (((lT (((lT ((T.at 3).at 0))[k1]).at 1))[k2]).at 0).s.length 2 ++ (((lT (((lT ((T.at 3).at 0))[k1]).at 1))[k2]).at 0).s) = B_k2 ++ plainTo (zipped fs_sTopologyDescriptionNode v true ((lT (((lT ((T.at 3).at 0))[k1]).at 1))[k2])) v 1 := fold_first (fs := fs_sTopologyDescriptionNode) (v := v) (flex := true) (t := ((lT (((lT ((T.at 3).at 0))[k1]).at 1))[k2])) (B := B_k2) 0 rfl (by decide) (by decide) (has_yes (show (0 : Int) ≤ v by omega) (show ((-1) : Int) < 0 ∨ v ≤ (-1) by omega)) (by rw [FB_text (f := (fs_sTopologyDescriptionNode[0]'(by decide))) (by decide) (by decide) ok159, sT_nn nn159, nn159])
      have hs159 := fold_size e_29 (by decide) hBk2
      refine cl rfl rfl rfl (OutK.cast (k_AppendCompactString (x := (((lT (((lT ((T.at 3).at 0))[k1]).at 1))[k2]).at 0).s) (by have := ok159.s (Or.inl rfl); omega) rbk2 hs159) e_29) rfl (fun v_ H1 L1 hle hR => ?_)
      obtain ⟨rfl, a159, c159, N159, rfl, rfl, h159⟩ := hR
      have r159 := h159.1
      refine asg rfl rfl ?_
      refine nl ?_
      refine sq ?_
      refine sr ?_
      refine mv rfl rfl ?_
      refine nc rfl rfl ?_
      refine fa F144_1 rfl rfl ?_
      refine ld (Says.fz hc_28) Tryz.isAgg141 rfl rfl rfl rfl ?_
      refine asg rfl rfl ?_
      refine nl ?_
      refine rg ?_
      refine mv rfl rfl ?_
      refine mv rfl rfl ?_
      have ok169 := oek2.get 1 (by decide) (has_yes (show (0 : Int) ≤ v by omega) (show ((-1) : Int) < 0 ∨ v ≤ (-1) by omega))
      have e_30 : B_k2 ++ plainTo (zipped fs_sTopologyDescriptionNode v true ((lT (((lT ((T.at 3).at 0))[k1]).at 1))[k2])) v 1 ++ (fixed (IntKind.i8.wrap (((lT (((lT ((T.at 3).at 0))[k1]).at 1))[k2]).at 1).n) 1) = B_k2 ++ plainTo (zipped fs_sTopologyDescriptionNode v true ((lT (((lT ((T.at 3).at 0))[k1]).at 1))[k2])) v 2 := fold_yes (fs := fs_sTopologyDescriptionNode) (v := v) (flex := true) (t := ((lT (((lT ((T.at 3).at 0))[k1]).at 1))[k2])) (B := B_k2) 1 (by decide) (by decide) (has_yes (show (0 : Int) ≤ v by omega) (show ((-1) : Int) < 0 ∨ v ≤ (-1) by omega)) ((FB_int (f := (fs_sTopologyDescriptionNode[1]'(by decide))) (by decide) (by decide)).trans (fixed_i8 _).symm)
      have hs169 := fold_size e_30 (by decide) hBk2
      refine cl rfl rfl rfl (OutK.cast (k_AppendInt8 (u := IntKind.i8.wrap (((lT (((lT ((T.at 3).at 0))[k1]).at 1))[k2]).at 1).n) r159 hs169) e_30) rfl (fun v_ H1 L1 hle hR => ?_)
      obtain ⟨rfl, a169, c169, N169, rfl, rfl, h169⟩ := hR
      have r169 := h169.1
      refine asg rfl rfl ?_
      refine nl ?_
      refine sq ?_
      refine sr ?_
      refine mv rfl rfl ?_
      refine nc rfl rfl ?_
      refine fa F144_2 rfl rfl ?_
      refine ld (Says.fz hc_28) Tryz.isAgg142 rfl rfl rfl rfl ?_
      refine asg rfl rfl ?_
      refine nl ?_
      refine sq ?_
      refine sr ?_
      refine mv rfl rfl ?_
      refine nl ?_
      refine cdT rfl (by omega) ?_
      refine rg ?_
      refine mv rfl rfl ?_
      refine mv rfl rfl ?_
      refine ls Tryz.runUnderlying142 rfl rfl ?_
      have ok178 := oek2.get 2 (by decide) (has_yes (show (0 : Int) ≤ v by omega) (show ((-1) : Int) < 0 ∨ v ≤ (-1) by omega))
      have nn178 := ok178.nn (by decide) (by decide)
      have ll178 := lT_len (ok178.len rfl)
      have e_31 : B_k2 ++ plainTo (zipped fs_sTopologyDescriptionNode v true ((lT (((lT ((T.at 3).at 0))[k1]).at 1))[k2])) v 2 ++ (counted true false (lT (((lT (((lT ((T.at 3).at 0))[k1]).at 1))[k2]).at 2)).length 4 ++ (lT (((lT (((lT ((T.at 3).at 0))[k1]).at 1))[k2]).at 2)).flatMap (GOf (fs_sTopologyDescriptionNode[2]'(by decide)) v true)) = B_k2 ++ plainTo (zipped fs_sTopologyDescriptionNode v true ((lT (((lT ((T.at 3).at 0))[k1]).at 1))[k2])) v 3 := fold_yes (fs := fs_sTopologyDescriptionNode) (v := v) (flex := true) (t := ((lT (((lT ((T.at 3).at 0))[k1]).at 1))[k2])) (B := B_k2) 2 (by decide) (by decide) (has_yes (show (0 : Int) ≤ v by omega) (show ((-1) : Int) < 0 ∨ v ≤ (-1) by omega)) (by rw [FB_list (f := (fs_sTopologyDescriptionNode[2]'(by decide))) (by decide) (by decide) ok178, nn178])
      have hs178 := fold_size e_31 (by decide) hBk2
      have hc178 : (B_k2 ++ plainTo (zipped fs_sTopologyDescriptionNode v true ((lT (((lT ((T.at 3).at 0))[k1]).at 1))[k2])) v 2).length + (counted true false (lT (((lT (((lT ((T.at 3).at 0))[k1]).at 1))[k2]).at 2)).length 4).length ≤ LIM := by have h := hs178; simp only [List.length_append] at h ⊢; omega
      refine cl rfl rfl rfl (OutK.cast (k_AppendCompactArrayLen (n := (lT (((lT (((lT ((T.at 3).at 0))[k1]).at 1))[k2]).at 2)).length) (by omega) r169 hc178) (show _ = B_k2 ++ plainTo (zipped fs_sTopologyDescriptionNode v true ((lT (((lT ((T.at 3).at 0))[k1]).at 1))[k2])) v 2 ++ (counted true false (lT (((lT (((lT ((T.at 3).at 0))[k1]).at 1))[k2]).at 2)).length 4) from rfl)) rfl (fun v_ H1 L1 hle hR => ?_)
      obtain ⟨rfl, a178, c178, N178, rfl, rfl, h178⟩ := hR
      have r178 := h178.1
      refine asg rfl rfl ?_
      refine nl ?_
      refine sr ?_
      refine mv rfl rfl ?_
      refine ls Tryz.runUnderlying142 rfl rfl ?_
      refine mv rfl rfl ?_
      refine nl ?_
      refine fr ((lT (((lT (((lT ((T.at 3).at 0))[k1]).at 1))[k2]).at 2)).length) (fun k3 l' H' L' => ∃ (a_k3 : Option Addr), ∃ (m_k3 : Nat), ∃ (c_k3 : Nat), ∃ (N_k3 : Chunk), [(0, .pointer (some ⟨b, 0, none⟩)), (1, .slice a_k3 m_k3 c_k3), (6, .bool (decide ((0 : Int) ≤ v))), (10, .pointer (some ⟨b, 4, none⟩)), (11, .slice a3_0 (lT ((T.at 3).at 0)).length c3_0), (13, .pointer (some ⟨b_11, o_12 + k1 * 3, none⟩)), (15, .slice a_k1_1 (lT (((lT ((T.at 3).at 0))[k1]).at 1)).length c_k1_1), (17, .pointer (some ⟨b_22, o_23 + k2 * 7, none⟩)), (20, .slice a_k2_2 (lT (((lT (((lT ((T.at 3).at 0))[k1]).at 1))[k2]).at 2)).length c_k2_2), (113, .int .i64 ((lT ((T.at 3).at 0)).length : Int)), (114, .int .i64 (k1 : Int)), (145, .int .i64 ((lT (((lT ((T.at 3).at 0))[k1]).at 1)).length : Int)), (146, .int .i64 (k2 : Int)), (184, .int .i64 ((lT (((lT (((lT ((T.at 3).at 0))[k1]).at 1))[k2]).at 2)).length : Int))] = l' ∧ N_k3 :: L = L' ∧ Row 5 1 a_k3 m_k3 c_k3 (bytesOf (B_k2 ++ plainTo (zipped fs_sTopologyDescriptionNode v true ((lT (((lT ((T.at 3).at 0))[k1]).at 1))[k2])) v 2 ++ (counted true false (lT (((lT (((lT ((T.at 3).at 0))[k1]).at 1))[k2]).at 2)).length 4) ++ ((lT (((lT (((lT ((T.at 3).at 0))[k1]).at 1))[k2]).at 2)).take k3).flatMap (GOf (fs_sTopologyDescriptionNode[2]'(by decide)) v true))) N_k3 ∧ m_k3 = (B_k2 ++ plainTo (zipped fs_sTopologyDescriptionNode v true ((lT (((lT ((T.at 3).at 0))[k1]).at 1))[k2])) v 2 ++ (counted true false (lT (((lT (((lT ((T.at 3).at 0))[k1]).at 1))[k2]).at 2)).length 4) ++ ((lT (((lT (((lT ((T.at 3).at 0))[k1]).at 1))[k2]).at 2)).take k3).flatMap (GOf (fs_sTopologyDescriptionNode[2]'(by decide)) v true)).length) [(0, .pointer (some ⟨b, 0, none⟩)), (1, .slice _ _ _), (6, .bool (decide ((0 : Int) ≤ v))), (10, .pointer (some ⟨b, 4, none⟩)), (11, .slice a3_0 (lT ((T.at 3).at 0)).length c3_0), (13, .pointer (some ⟨b_11, o_12 + k1 * 3, none⟩)), (15, .slice a_k1_1 (lT (((lT ((T.at 3).at 0))[k1]).at 1)).length c_k1_1), (17, .pointer (some ⟨b_22, o_23 + k2 * 7, none⟩)), (20, .slice a_k2_2 (lT (((lT (((lT ((T.at 3).at 0))[k1]).at 1))[k2]).at 2)).length c_k2_2), (113, .int .i64 ((lT ((T.at 3).at 0)).length : Int)), (114, .int .i64 (k1 : Int)), (145, .int .i64 ((lT (((lT ((T.at 3).at 0))[k1]).at 1)).length : Int)), (146, .int .i64 (k2 : Int)), (184, .int .i64 ((lT (((lT (((lT ((T.at 3).at 0))[k1]).at 1))[k2]).at 2)).length : Int))] (fun k3 l' H' L' h => ?_) (by omega) rfl (.cons rfl (.cons rfl (.cons rfl (.cons rfl (.cons rfl (.cons rfl (.cons rfl (.cons rfl (.cons rfl (.cons rfl (.cons rfl (.cons rfl (.cons rfl (.cons rfl (.nil _))))))))))))))) ⟨_, _, _, _, rfl, rfl, (by rw [List.take_zero, List.flatMap_nil, List.append_nil]; exact r178), (by rw [List.take_zero, List.flatMap_nil, List.append_nil])⟩ rfl rfl rfl rfl rfl (fun k3 l' H' L' hk3 le_32 hI => ?_) (fun l' H' L' le_33 hI => ?_)
      · obtain ⟨a_k3, m_k3, c_k3, N_k3, rfl, _⟩ := h; exact ⟨rfl, rfl, rfl, rfl⟩
      · skip
        obtain ⟨a_k3, m_k3, c_k3, N_k3, rfl, rfl, pk30, pk31⟩ := hI
        subst pk31
        refine sr ?_
        refine mv rfl rfl ?_
        refine asg rfl rfl ?_
        refine nl ?_
        refine sr ?_
        refine mv rfl rfl ?_
        refine mv rfl rfl ?_
        obtain ⟨b_34, o_35, e_36, g_37⟩ := (hf_k2_0.mono RText.mono le_32).rows.at_ (ne_nil_of_lt hk3)
        obtain ⟨cs_38, hA_39, hc_40⟩ := g_37 k3 hk3
        refine ix2 Tryz.runUnderlying142 Tryz.sizeOf9 rfl e_36 rfl rfl hk3 rfl ?_
        obtain rfl := hA_39
        refine ld (Says.fz hc_40) Tryz.isAgg9 rfl (Nat.add_zero _).symm rfl rfl ?_
        refine asg rfl rfl ?_
        refine nl ?_
        refine sr ?_
        refine mv rfl rfl ?_
        refine nl ?_
        refine cdT rfl (by omega) ?_
        refine rg ?_
        refine mv rfl rfl ?_
        refine mv rfl rfl ?_
        have oe195 := (ok178.el rfl _ (lT_mem (List.getElem_mem hk3))).1 (by decide)
        have hp195 : (GOf (fs_sTopologyDescriptionNode[2]'(by decide)) v true) ((lT (((lT (((lT ((T.at 3).at 0))[k1]).at 1))[k2]).at 2))[k3]) = counted true false ((lT (((lT (((lT ((T.at 3).at 0))[k1]).at 1))[k2]).at 2))[k3]).s.length 2 ++ ((lT (((lT (((lT ((T.at 3).at 0))[k1]).at 1))[k2]).at 2))[k3]).s := G_text (f := (fs_sTopologyDescriptionNode[2]'(by decide))) (by decide) oe195
        have hs195 := el_size hs178 hk3 hp195
        have ee195 := el_end (B0 := B_k2 ++ plainTo (zipped fs_sTopologyDescriptionNode v true ((lT (((lT ((T.at 3).at 0))[k1]).at 1))[k2])) v 2 ++ (counted true false (lT (((lT (((lT ((T.at 3).at 0))[k1]).at 1))[k2]).at 2)).length 4)) hk3 hp195
        refine cl rfl rfl rfl (OutK.cast (k_AppendCompactString (x := ((lT (((lT (((lT ((T.at 3).at 0))[k1]).at 1))[k2]).at 2))[k3]).s) (by omega) pk30 hs195) ee195) rfl (fun v_ H1 L1 hle hR => ?_)
        obtain ⟨rfl, a195, c195, N195, rfl, rfl, h195⟩ := hR
        have r195 := h195.1
        refine asg rfl rfl ?_
        refine nN ?_
        refine Nb ?_
        refine fun a_ w_ hA hw => ⟨_, _, _, hA.sub ?_, le_32, hw, _, rfl, _, _, _, _, rfl, rfl, r195, rfl⟩
        exact (.cons rfl (.cons rfl (.cons rfl (.cons rfl (.cons rfl (.cons rfl (.cons rfl (.cons rfl (.cons rfl (.cons rfl (.cons rfl (.cons rfl (.cons rfl (.cons rfl (.cons rfl (.nil _))))))))))))))))
      · skip
        obtain ⟨a_k3, m_k3, c_k3, N_k3, rfl, rfl, pk30, pk31⟩ := hI
        refine toWp ?_
        have eL178 : B_k2 ++ plainTo (zipped fs_sTopologyDescriptionNode v true ((lT (((lT ((T.at 3).at 0))[k1]).at 1))[k2])) v 2 ++ (counted true false (lT (((lT (((lT ((T.at 3).at 0))[k1]).at 1))[k2]).at 2)).length 4) ++ ((lT (((lT (((lT ((T.at 3).at 0))[k1]).at 1))[k2]).at 2)).take (lT (((lT (((lT ((T.at 3).at 0))[k1]).at 1))[k2]).at 2)).length).flatMap (GOf (fs_sTopologyDescriptionNode[2]'(by decide)) v true) = B_k2 ++ plainTo (zipped fs_sTopologyDescriptionNode v true ((lT (((lT ((T.at 3).at 0))[k1]).at 1))[k2])) v 3 := by rw [List.take_length, List.append_assoc]; exact e_31
        rw [eL178] at pk30 pk31
        subst pk31
        refine sq ?_
        refine sr ?_
        refine mv rfl rfl ?_
        refine nc rfl rfl ?_
        refine fa F144_3 rfl rfl ?_
        refine ld (Says.fz (hc_28.mono le_33)) Tryz.isAgg110 rfl rfl rfl rfl ?_
        refine asg rfl rfl ?_
        refine nl ?_
        refine sr ?_
        refine mv rfl rfl ?_
        refine nl ?_
        refine cdT rfl (by omega) ?_
        refine rg ?_
        refine mv rfl rfl ?_
        refine mv rfl rfl ?_
        have ok207 := oek2.get 3 (by decide) (has_yes (show (0 : Int) ≤ v by omega) (show ((-1) : Int) < 0 ∨ v ≤ (-1) by omega))
        have e_41 : B_k2 ++ plainTo (zipped fs_sTopologyDescriptionNode v true ((lT (((lT ((T.at 3).at 0))[k1]).at 1))[k2])) v 3 ++ (counted true (((lT (((lT ((T.at 3).at 0))[k1]).at 1))[k2]).at 3).nul (sT (((lT (((lT ((T.at 3).at 0))[k1]).at 1))[k2]).at 3)).length 2 ++ sT (((lT (((lT ((T.at 3).at 0))[k1]).at 1))[k2]).at 3)) = B_k2 ++ plainTo (zipped fs_sTopologyDescriptionNode v true ((lT (((lT ((T.at 3).at 0))[k1]).at 1))[k2])) v 4 := fold_yes (fs := fs_sTopologyDescriptionNode) (v := v) (flex := true) (t := ((lT (((lT ((T.at 3).at 0))[k1]).at 1))[k2])) (B := B_k2) 3 (by decide) (by decide) (has_yes (show (0 : Int) ≤ v by omega) (show ((-1) : Int) < 0 ∨ v ≤ (-1) by omega)) (FB_text (f := (fs_sTopologyDescriptionNode[3]'(by decide))) (by decide) (by decide) ok207)
        have hs207 := fold_size e_41 (by decide) hBk2
        refine cl rfl rfl rfl (OutK.cast (k_AppendCompactNullableString (hf_k2_1.mono le_33) (ok207.s (Or.inl rfl)) pk30 hs207) e_41) rfl (fun v_ H1 L1 hle hR => ?_)
        obtain ⟨rfl, a207, c207, N207, rfl, rfl, h207⟩ := hR
        have r207 := h207.1
        refine asg rfl rfl ?_
        refine nl ?_
        refine sq ?_
        refine sr ?_
        refine mv rfl rfl ?_
        refine nc rfl rfl ?_
        refine fa F144_4 rfl rfl ?_
        refine ld (Says.fz (hc_28.mono le_33)) Tryz.isAgg142 rfl rfl rfl rfl ?_
        refine asg rfl rfl ?_
        refine nl ?_
        refine sq ?_
        refine sr ?_
        refine mv rfl rfl ?_
        refine nl ?_
        refine cdT rfl (by omega) ?_
        refine rg ?_
        refine mv rfl rfl ?_
        refine mv rfl rfl ?_
        refine ls Tryz.runUnderlying142 rfl rfl ?_
        have ok219 := oek2.get 4 (by decide) (has_yes (show (0 : Int) ≤ v by omega) (show ((-1) : Int) < 0 ∨ v ≤ (-1) by omega))
        have nn219 := ok219.nn (by decide) (by decide)
        have ll219 := lT_len (ok219.len rfl)
        have e_42 : B_k2 ++ plainTo (zipped fs_sTopologyDescriptionNode v true ((lT (((lT ((T.at 3).at 0))[k1]).at 1))[k2])) v 4 ++ (counted true false (lT (((lT (((lT ((T.at 3).at 0))[k1]).at 1))[k2]).at 4)).length 4 ++ (lT (((lT (((lT ((T.at 3).at 0))[k1]).at 1))[k2]).at 4)).flatMap (GOf (fs_sTopologyDescriptionNode[4]'(by decide)) v true)) = B_k2 ++ plainTo (zipped fs_sTopologyDescriptionNode v true ((lT (((lT ((T.at 3).at 0))[k1]).at 1))[k2])) v 5 := fold_yes (fs := fs_sTopologyDescriptionNode) (v := v) (flex := true) (t := ((lT (((lT ((T.at 3).at 0))[k1]).at 1))[k2])) (B := B_k2) 4 (by decide) (by decide) (has_yes (show (0 : Int) ≤ v by omega) (show ((-1) : Int) < 0 ∨ v ≤ (-1) by omega)) (by rw [FB_list (f := (fs_sTopologyDescriptionNode[4]'(by decide))) (by decide) (by decide) ok219, nn219])
        have hs219 := fold_size e_42 (by decide) hBk2
        have hc219 : (B_k2 ++ plainTo (zipped fs_sTopologyDescriptionNode v true ((lT (((lT ((T.at 3).at 0))[k1]).at 1))[k2])) v 4).length + (counted true false (lT (((lT (((lT ((T.at 3).at 0))[k1]).at 1))[k2]).at 4)).length 4).length ≤ LIM := by have h := hs219; simp only [List.length_append] at h ⊢; omega
        refine cl rfl rfl rfl (OutK.cast (k_AppendCompactArrayLen (n := (lT (((lT (((lT ((T.at 3).at 0))[k1]).at 1))[k2]).at 4)).length) (by omega) r207 hc219) (show _ = B_k2 ++ plainTo (zipped fs_sTopologyDescriptionNode v true ((lT (((lT ((T.at 3).at 0))[k1]).at 1))[k2])) v 4 ++ (counted true false (lT (((lT (((lT ((T.at 3).at 0))[k1]).at 1))[k2]).at 4)).length 4) from rfl)) rfl (fun v_ H1 L1 hle hR => ?_)
        obtain ⟨rfl, a219, c219, N219, rfl, rfl, h219⟩ := hR
        have r219 := h219.1
        refine asg rfl rfl ?_
        refine nl ?_
        refine sr ?_
        refine mv rfl rfl ?_
        refine ls Tryz.runUnderlying142 rfl rfl ?_
        refine mv rfl rfl ?_
        refine nl ?_
        refine fr ((lT (((lT (((lT ((T.at 3).at 0))[k1]).at 1))[k2]).at 4)).length) (fun k4 l' H' L' => ∃ (a_k4 : Option Addr), ∃ (m_k4 : Nat), ∃ (c_k4 : Nat), ∃ (N_k4 : Chunk), [(0, .pointer (some ⟨b, 0, none⟩)), (1, .slice a_k4 m_k4 c_k4), (6, .bool (decide ((0 : Int) ≤ v))), (10, .pointer (some ⟨b, 4, none⟩)), (11, .slice a3_0 (lT ((T.at 3).at 0)).length c3_0), (13, .pointer (some ⟨b_11, o_12 + k1 * 3, none⟩)), (15, .slice a_k1_1 (lT (((lT ((T.at 3).at 0))[k1]).at 1)).length c_k1_1), (17, .pointer (some ⟨b_22, o_23 + k2 * 7, none⟩)), (24, .slice a_k2_4 (lT (((lT (((lT ((T.at 3).at 0))[k1]).at 1))[k2]).at 4)).length c_k2_4), (113, .int .i64 ((lT ((T.at 3).at 0)).length : Int)), (114, .int .i64 (k1 : Int)), (145, .int .i64 ((lT (((lT ((T.at 3).at 0))[k1]).at 1)).length : Int)), (146, .int .i64 (k2 : Int)), (225, .int .i64 ((lT (((lT (((lT ((T.at 3).at 0))[k1]).at 1))[k2]).at 4)).length : Int))] = l' ∧ N_k4 :: L = L' ∧ Row 5 1 a_k4 m_k4 c_k4 (bytesOf (B_k2 ++ plainTo (zipped fs_sTopologyDescriptionNode v true ((lT (((lT ((T.at 3).at 0))[k1]).at 1))[k2])) v 4 ++ (counted true false (lT (((lT (((lT ((T.at 3).at 0))[k1]).at 1))[k2]).at 4)).length 4) ++ ((lT (((lT (((lT ((T.at 3).at 0))[k1]).at 1))[k2]).at 4)).take k4).flatMap (GOf (fs_sTopologyDescriptionNode[4]'(by decide)) v true))) N_k4 ∧ m_k4 = (B_k2 ++ plainTo (zipped fs_sTopologyDescriptionNode v true ((lT (((lT ((T.at 3).at 0))[k1]).at 1))[k2])) v 4 ++ (counted true false (lT (((lT (((lT ((T.at 3).at 0))[k1]).at 1))[k2]).at 4)).length 4) ++ ((lT (((lT (((lT ((T.at 3).at 0))[k1]).at 1))[k2]).at 4)).take k4).flatMap (GOf (fs_sTopologyDescriptionNode[4]'(by decide)) v true)).length) [(0, .pointer (some ⟨b, 0, none⟩)), (1, .slice _ _ _), (6, .bool (decide ((0 : Int) ≤ v))), (10, .pointer (some ⟨b, 4, none⟩)), (11, .slice a3_0 (lT ((T.at 3).at 0)).length c3_0), (13, .pointer (some ⟨b_11, o_12 + k1 * 3, none⟩)), (15, .slice a_k1_1 (lT (((lT ((T.at 3).at 0))[k1]).at 1)).length c_k1_1), (17, .pointer (some ⟨b_22, o_23 + k2 * 7, none⟩)), (24, .slice a_k2_4 (lT (((lT (((lT ((T.at 3).at 0))[k1]).at 1))[k2]).at 4)).length c_k2_4), (113, .int .i64 ((lT ((T.at 3).at 0)).length : Int)), (114, .int .i64 (k1 : Int)), (145, .int .i64 ((lT (((lT ((T.at 3).at 0))[k1]).at 1)).length : Int)), (146, .int .i64 (k2 : Int)), (225, .int .i64 ((lT (((lT (((lT ((T.at 3).at 0))[k1]).at 1))[k2]).at 4)).length : Int))] (fun k4 l' H' L' h => ?_) (by omega) rfl (.cons rfl (.cons rfl (.cons rfl (.cons rfl (.cons rfl (.cons rfl (.cons rfl (.cons rfl (.cons rfl (.cons rfl (.cons rfl (.cons rfl (.cons rfl (.cons rfl (.nil _))))))))))))))) ⟨_, _, _, _, rfl, rfl, (by rw [List.take_zero, List.flatMap_nil, List.append_nil]; exact r219), (by rw [List.take_zero, List.flatMap_nil, List.append_nil])⟩ rfl rfl rfl rfl rfl (fun k4 l' H' L' hk4 le_43 hI => ?_) (fun l' H' L' le_44 hI => ?_)
        · obtain ⟨a_k4, m_k4, c_k4, N_k4, rfl, _⟩ := h; exact ⟨rfl, rfl, rfl, rfl⟩
        · skip
          obtain ⟨a_k4, m_k4, c_k4, N_k4, rfl, rfl, pk40, pk41⟩ := hI
          subst pk41
          refine sr ?_
          refine mv rfl rfl ?_
          refine asg rfl rfl ?_
          refine nl ?_
          refine sr ?_
          refine mv rfl rfl ?_
          refine mv rfl rfl ?_
          obtain ⟨b_45, o_46, e_47, g_48⟩ := (hf_k2_2.mono RText.mono (le_33.trans le_43)).rows.at_ (ne_nil_of_lt hk4)
          obtain ⟨cs_49, hA_50, hc_51⟩ := g_48 k4 hk4
          refine ix2 Tryz.runUnderlying142 Tryz.sizeOf9 rfl e_47 rfl rfl hk4 rfl ?_
          obtain rfl := hA_50
          refine ld (Says.fz hc_51) Tryz.isAgg9 rfl (Nat.add_zero _).symm rfl rfl ?_
          refine asg rfl rfl ?_
          refine nl ?_
          refine sr ?_
          refine mv rfl rfl ?_
          refine nl ?_
          refine cdT rfl (by omega) ?_
          refine rg ?_
          refine mv rfl rfl ?_
          refine mv rfl rfl ?_
          have oe236 := (ok219.el rfl _ (lT_mem (List.getElem_mem hk4))).1 (by decide)
          have hp236 : (GOf (fs_sTopologyDescriptionNode[4]'(by decide)) v true) ((lT (((lT (((lT ((T.at 3).at 0))[k1]).at 1))[k2]).at 4))[k4]) = counted true false ((lT (((lT (((lT ((T.at 3).at 0))[k1]).at 1))[k2]).at 4))[k4]).s.length 2 ++ ((lT (((lT (((lT ((T.at 3).at 0))[k1]).at 1))[k2]).at 4))[k4]).s := G_text (f := (fs_sTopologyDescriptionNode[4]'(by decide))) (by decide) oe236
          have hs236 := el_size hs219 hk4 hp236
          have ee236 := el_end (B0 := B_k2 ++ plainTo (zipped fs_sTopologyDescriptionNode v true ((lT (((lT ((T.at 3).at 0))[k1]).at 1))[k2])) v 4 ++ (counted true false (lT (((lT (((lT ((T.at 3).at 0))[k1]).at 1))[k2]).at 4)).length 4)) hk4 hp236
          refine cl rfl rfl rfl (OutK.cast (k_AppendCompactString (x := ((lT (((lT (((lT ((T.at 3).at 0))[k1]).at 1))[k2]).at 4))[k4]).s) (by omega) pk40 hs236) ee236) rfl (fun v_ H1 L1 hle hR => ?_)
          obtain ⟨rfl, a236, c236, N236, rfl, rfl, h236⟩ := hR
          have r236 := h236.1
          refine asg rfl rfl ?_
          refine nN ?_
          refine Nb ?_
          refine fun a_ w_ hA hw => ⟨_, _, _, hA.sub ?_, le_43, hw, _, rfl, _, _, _, _, rfl, rfl, r236, rfl⟩
          exact (.cons rfl (.cons rfl (.cons rfl (.cons rfl (.cons rfl (.cons rfl (.cons rfl (.cons rfl (.cons rfl (.cons rfl (.cons rfl (.cons rfl (.cons rfl (.cons rfl (.cons rfl (.nil _))))))))))))))))
        · skip
          obtain ⟨a_k4, m_k4, c_k4, N_k4, rfl, rfl, pk40, pk41⟩ := hI
          refine toWp ?_
          have eL219 : B_k2 ++ plainTo (zipped fs_sTopologyDescriptionNode v true ((lT (((lT ((T.at 3).at 0))[k1]).at 1))[k2])) v 4 ++ (counted true false (lT (((lT (((lT ((T.at 3).at 0))[k1]).at 1))[k2]).at 4)).length 4) ++ ((lT (((lT (((lT ((T.at 3).at 0))[k1]).at 1))[k2]).at 4)).take (lT (((lT (((lT ((T.at 3).at 0))[k1]).at 1))[k2]).at 4)).length).flatMap (GOf (fs_sTopologyDescriptionNode[4]'(by decide)) v true) = B_k2 ++ plainTo (zipped fs_sTopologyDescriptionNode v true ((lT (((lT ((T.at 3).at 0))[k1]).at 1))[k2])) v 5 := by rw [List.take_length, List.append_assoc]; exact e_42
          rw [eL219] at pk40 pk41
          subst pk41
          refine sq ?_
          refine sr ?_
          refine mv rfl rfl ?_
          refine nc rfl rfl ?_
          refine fa F144_5 rfl rfl ?_
          refine ld (Says.fz (hc_28.mono (le_33.trans le_44))) Tryz.isAgg142 rfl rfl rfl rfl ?_
          refine asg rfl rfl ?_
          refine nl ?_
          refine sq ?_
          refine sr ?_
          refine mv rfl rfl ?_
          refine nl ?_
          refine cdT rfl (by omega) ?_
          refine rg ?_
          refine mv rfl rfl ?_
          refine mv rfl rfl ?_
          refine ls Tryz.runUnderlying142 rfl rfl ?_
          have ok249 := oek2.get 5 (by decide) (has_yes (show (0 : Int) ≤ v by omega) (show ((-1) : Int) < 0 ∨ v ≤ (-1) by omega))
          have nn249 := ok249.nn (by decide) (by decide)
          have ll249 := lT_len (ok249.len rfl)
          have e_52 : B_k2 ++ plainTo (zipped fs_sTopologyDescriptionNode v true ((lT (((lT ((T.at 3).at 0))[k1]).at 1))[k2])) v 5 ++ (counted true false (lT (((lT (((lT ((T.at 3).at 0))[k1]).at 1))[k2]).at 5)).length 4 ++ (lT (((lT (((lT ((T.at 3).at 0))[k1]).at 1))[k2]).at 5)).flatMap (GOf (fs_sTopologyDescriptionNode[5]'(by decide)) v true)) = B_k2 ++ plainTo (zipped fs_sTopologyDescriptionNode v true ((lT (((lT ((T.at 3).at 0))[k1]).at 1))[k2])) v 6 := fold_yes (fs := fs_sTopologyDescriptionNode) (v := v) (flex := true) (t := ((lT (((lT ((T.at 3).at 0))[k1]).at 1))[k2])) (B := B_k2) 5 (by decide) (by decide) (has_yes (show (0 : Int) ≤ v by omega) (show ((-1) : Int) < 0 ∨ v ≤ (-1) by omega)) (by rw [FB_list (f := (fs_sTopologyDescriptionNode[5]'(by decide))) (by decide) (by decide) ok249, nn249])
          have hs249 := fold_size e_52 (by decide) hBk2
          have hc249 : (B_k2 ++ plainTo (zipped fs_sTopologyDescriptionNode v true ((lT (((lT ((T.at 3).at 0))[k1]).at 1))[k2])) v 5).length + (counted true false (lT (((lT (((lT ((T.at 3).at 0))[k1]).at 1))[k2]).at 5)).length 4).length ≤ LIM := by have h := hs249; simp only [List.length_append] at h ⊢; omega
          refine cl rfl rfl rfl (OutK.cast (k_AppendCompactArrayLen (n := (lT (((lT (((lT ((T.at 3).at 0))[k1]).at 1))[k2]).at 5)).length) (by omega) pk40 hc249) (show _ = B_k2 ++ plainTo (zipped fs_sTopologyDescriptionNode v true ((lT (((lT ((T.at 3).at 0))[k1]).at 1))[k2])) v 5 ++ (counted true false (lT (((lT (((lT ((T.at 3).at 0))[k1]).at 1))[k2]).at 5)).length 4) from rfl)) rfl (fun v_ H1 L1 hle hR => ?_)
          obtain ⟨rfl, a249, c249, N249, rfl, rfl, h249⟩ := hR
          have r249 := h249.1
          refine asg rfl rfl ?_
          refine nl ?_
          refine sr ?_
          refine mv rfl rfl ?_
          refine ls Tryz.runUnderlying142 rfl rfl ?_
          refine mv rfl rfl ?_
          refine nl ?_
          refine fr ((lT (((lT (((lT ((T.at 3).at 0))[k1]).at 1))[k2]).at 5)).length) (fun k5 l' H' L' => ∃ (a_k5 : Option Addr), ∃ (m_k5 : Nat), ∃ (c_k5 : Nat), ∃ (N_k5 : Chunk), [(0, .pointer (some ⟨b, 0, none⟩)), (1, .slice a_k5 m_k5 c_k5), (6, .bool (decide ((0 : Int) ≤ v))), (10, .pointer (some ⟨b, 4, none⟩)), (11, .slice a3_0 (lT ((T.at 3).at 0)).length c3_0), (13, .pointer (some ⟨b_11, o_12 + k1 * 3, none⟩)), (15, .slice a_k1_1 (lT (((lT ((T.at 3).at 0))[k1]).at 1)).length c_k1_1), (17, .pointer (some ⟨b_22, o_23 + k2 * 7, none⟩)), (27, .slice a_k2_5 (lT (((lT (((lT ((T.at 3).at 0))[k1]).at 1))[k2]).at 5)).length c_k2_5), (113, .int .i64 ((lT ((T.at 3).at 0)).length : Int)), (114, .int .i64 (k1 : Int)), (145, .int .i64 ((lT (((lT ((T.at 3).at 0))[k1]).at 1)).length : Int)), (146, .int .i64 (k2 : Int)), (255, .int .i64 ((lT (((lT (((lT ((T.at 3).at 0))[k1]).at 1))[k2]).at 5)).length : Int))] = l' ∧ N_k5 :: L = L' ∧ Row 5 1 a_k5 m_k5 c_k5 (bytesOf (B_k2 ++ plainTo (zipped fs_sTopologyDescriptionNode v true ((lT (((lT ((T.at 3).at 0))[k1]).at 1))[k2])) v 5 ++ (counted true false (lT (((lT (((lT ((T.at 3).at 0))[k1]).at 1))[k2]).at 5)).length 4) ++ ((lT (((lT (((lT ((T.at 3).at 0))[k1]).at 1))[k2]).at 5)).take k5).flatMap (GOf (fs_sTopologyDescriptionNode[5]'(by decide)) v true))) N_k5 ∧ m_k5 = (B_k2 ++ plainTo (zipped fs_sTopologyDescriptionNode v true ((lT (((lT ((T.at 3).at 0))[k1]).at 1))[k2])) v 5 ++ (counted true false (lT (((lT (((lT ((T.at 3).at 0))[k1]).at 1))[k2]).at 5)).length 4) ++ ((lT (((lT (((lT ((T.at 3).at 0))[k1]).at 1))[k2]).at 5)).take k5).flatMap (GOf (fs_sTopologyDescriptionNode[5]'(by decide)) v true)).length) [(0, .pointer (some ⟨b, 0, none⟩)), (1, .slice _ _ _), (6, .bool (decide ((0 : Int) ≤ v))), (10, .pointer (some ⟨b, 4, none⟩)), (11, .slice a3_0 (lT ((T.at 3).at 0)).length c3_0), (13, .pointer (some ⟨b_11, o_12 + k1 * 3, none⟩)), (15, .slice a_k1_1 (lT (((lT ((T.at 3).at 0))[k1]).at 1)).length c_k1_1), (17, .pointer (some ⟨b_22, o_23 + k2 * 7, none⟩)), (27, .slice a_k2_5 (lT (((lT (((lT ((T.at 3).at 0))[k1]).at 1))[k2]).at 5)).length c_k2_5), (113, .int .i64 ((lT ((T.at 3).at 0)).length : Int)), (114, .int .i64 (k1 : Int)), (145, .int .i64 ((lT (((lT ((T.at 3).at 0))[k1]).at 1)).length : Int)), (146, .int .i64 (k2 : Int)), (255, .int .i64 ((lT (((lT (((lT ((T.at 3).at 0))[k1]).at 1))[k2]).at 5)).length : Int))] (fun k5 l' H' L' h => ?_) (by omega) rfl (.cons rfl (.cons rfl (.cons rfl (.cons rfl (.cons rfl (.cons rfl (.cons rfl (.cons rfl (.cons rfl (.cons rfl (.cons rfl (.cons rfl (.cons rfl (.cons rfl (.nil _))))))))))))))) ⟨_, _, _, _, rfl, rfl, (by rw [List.take_zero, List.flatMap_nil, List.append_nil]; exact r249), (by rw [List.take_zero, List.flatMap_nil, List.append_nil])⟩ rfl rfl rfl rfl rfl (fun k5 l' H' L' hk5 le_53 hI => ?_) (fun l' H' L' le_54 hI => ?_)
          · obtain ⟨a_k5, m_k5, c_k5, N_k5, rfl, _⟩ := h; exact ⟨rfl, rfl, rfl, rfl⟩
          · skip
            obtain ⟨a_k5, m_k5, c_k5, N_k5, rfl, rfl, pk50, pk51⟩ := hI
            subst pk51
            refine sr ?_
            refine mv rfl rfl ?_
            refine asg rfl rfl ?_
            refine nl ?_
            refine sr ?_
            refine mv rfl rfl ?_
            refine mv rfl rfl ?_
            obtain ⟨b_55, o_56, e_57, g_58⟩ := (hf_k2_3.mono RText.mono (le_33.trans (le_44.trans le_53))).rows.at_ (ne_nil_of_lt hk5)
            obtain ⟨cs_59, hA_60, hc_61⟩ := g_58 k5 hk5
            refine ix2 Tryz.runUnderlying142 Tryz.sizeOf9 rfl e_57 rfl rfl hk5 rfl ?_
            obtain rfl := hA_60
            refine ld (Says.fz hc_61) Tryz.isAgg9 rfl (Nat.add_zero _).symm rfl rfl ?_
            refine asg rfl rfl ?_
            refine nl ?_
            refine sr ?_
            refine mv rfl rfl ?_
            refine nl ?_
            refine cdT rfl (by omega) ?_
            refine rg ?_
            refine mv rfl rfl ?_
            refine mv rfl rfl ?_
            have oe266 := (ok249.el rfl _ (lT_mem (List.getElem_mem hk5))).1 (by decide)
            have hp266 : (GOf (fs_sTopologyDescriptionNode[5]'(by decide)) v true) ((lT (((lT (((lT ((T.at 3).at 0))[k1]).at 1))[k2]).at 5))[k5]) = counted true false ((lT (((lT (((lT ((T.at 3).at 0))[k1]).at 1))[k2]).at 5))[k5]).s.length 2 ++ ((lT (((lT (((lT ((T.at 3).at 0))[k1]).at 1))[k2]).at 5))[k5]).s := G_text (f := (fs_sTopologyDescriptionNode[5]'(by decide))) (by decide) oe266
            have hs266 := el_size hs249 hk5 hp266
            have ee266 := el_end (B0 := B_k2 ++ plainTo (zipped fs_sTopologyDescriptionNode v true ((lT (((lT ((T.at 3).at 0))[k1]).at 1))[k2])) v 5 ++ (counted true false (lT (((lT (((lT ((T.at 3).at 0))[k1]).at 1))[k2]).at 5)).length 4)) hk5 hp266
            refine cl rfl rfl rfl (OutK.cast (k_AppendCompactString (x := ((lT (((lT (((lT ((T.at 3).at 0))[k1]).at 1))[k2]).at 5))[k5]).s) (by omega) pk50 hs266) ee266) rfl (fun v_ H1 L1 hle hR => ?_)
            obtain ⟨rfl, a266, c266, N266, rfl, rfl, h266⟩ := hR
            have r266 := h266.1
            refine asg rfl rfl ?_
            refine nN ?_
            refine Nb ?_
            refine fun a_ w_ hA hw => ⟨_, _, _, hA.sub ?_, le_53, hw, _, rfl, _, _, _, _, rfl, rfl, r266, rfl⟩
            exact (.cons rfl (.cons rfl (.cons rfl (.cons rfl (.cons rfl (.cons rfl (.cons rfl (.cons rfl (.cons rfl (.cons rfl (.cons rfl (.cons rfl (.cons rfl (.cons rfl (.cons rfl (.nil _))))))))))))))))
          · skip
            obtain ⟨a_k5, m_k5, c_k5, N_k5, rfl, rfl, pk50, pk51⟩ := hI
            refine toWp ?_
            have eL249 : B_k2 ++ plainTo (zipped fs_sTopologyDescriptionNode v true ((lT (((lT ((T.at 3).at 0))[k1]).at 1))[k2])) v 5 ++ (counted true false (lT (((lT (((lT ((T.at 3).at 0))[k1]).at 1))[k2]).at 5)).length 4) ++ ((lT (((lT (((lT ((T.at 3).at 0))[k1]).at 1))[k2]).at 5)).take (lT (((lT (((lT ((T.at 3).at 0))[k1]).at 1))[k2]).at 5)).length).flatMap (GOf (fs_sTopologyDescriptionNode[5]'(by decide)) v true) = B_k2 ++ plainTo (zipped fs_sTopologyDescriptionNode v true ((lT (((lT ((T.at 3).at 0))[k1]).at 1))[k2])) v 6 := by rw [List.take_length, List.append_assoc]; exact e_52
            rw [eL249] at pk50 pk51
            subst pk51
            refine sr ?_
            refine mv rfl rfl ?_
            refine nl ?_
            refine cdT rfl (by omega) ?_
            refine sr ?_
            refine mv rfl rfl ?_
            refine mv rfl rfl ?_
            refine nc rfl rfl ?_
            refine fa F144_6 rfl rfl ?_
            refine cl rfl rfl rfl (t_lenU (j := 6) (hc_28.mono (le_33.trans (le_44.trans le_54))) rfl (hf_k2_4.mono (le_33.trans (le_44.trans le_54)))) rfl (fun v_ H1 L1 hle hR => ?_)
            obtain ⟨rfl, rfl, rfl⟩ := hR
            have hu276 := oek2.u
            have hul276 := hu276.2.1
            obtain ⟨hz276a, hz276b⟩ := part_size_plain (by decide) hu276 hBk2
            refine cv Tryz.runUnderlying3 Tryz.runUnderlying62 rfl (w32u (by omega) (by omega)) rfl ?_
            refine ad rfl rfl ((w32u (by omega) (by omega)).trans (Int.zero_add _)) rfl ?_
            refine cl rfl rfl rfl (k_AppendUvarint (n := ((lT (((lT ((T.at 3).at 0))[k1]).at 1))[k2]).u.length) (by omega) pk50 hz276a) rfl (fun v_ H1 L1 hle hR => ?_)
            obtain ⟨rfl, a279, c279, N279, rfl, rfl, h279⟩ := hR
            have r279 := h279.1
            refine asg rfl rfl ?_
            refine nl ?_
            refine rg ?_
            refine mv rfl rfl ?_
            refine nc rfl rfl ?_
            refine fa F144_6 rfl rfl ?_
            refine mv rfl rfl ?_
            refine cl rfl rfl rfl (t_append_each (j := 6) (hc_28.mono (le_33.trans (le_44.trans le_54))) rfl (hf_k2_4.mono (le_33.trans (le_44.trans le_54))) (by omega) r279 (fun p hp => by have := hu276.2.2 p hp; omega) hz276b) rfl (fun v_ H1 L1 le_62 hR => ?_)
            obtain ⟨a284, c284, N284, rfl, rfl, h284⟩ := hR
            have r284 := h284.1
            have eP_63 : B_k2 ++ plainTo (zipped fs_sTopologyDescriptionNode v true ((lT (((lT ((T.at 3).at 0))[k1]).at 1))[k2])) v 6 ++ uvar ((lT (((lT ((T.at 3).at 0))[k1]).at 1))[k2]).u.length ++ ((lT (((lT ((T.at 3).at 0))[k1]).at 1))[k2]).u.flatMap tagU = B_k2 ++ partB fs_sTopologyDescriptionNode v true ((lT (((lT ((T.at 3).at 0))[k1]).at 1))[k2]) := part_close (B := B_k2) (by decide) hu276
            rw [eP_63] at r284 ⊢
            refine asg rfl rfl ?_
            refine nN ?_
            refine Nb ?_
            have ee_64 : B_k2 ++ partB fs_sTopologyDescriptionNode v true ((lT (((lT ((T.at 3).at 0))[k1]).at 1))[k2]) = B_k1 ++ plainTo (zipped fs_sTopologyDescriptionSubtopology v true ((lT ((T.at 3).at 0))[k1])) v 1 ++ (counted true false (lT (((lT ((T.at 3).at 0))[k1]).at 1)).length 4) ++ ((lT (((lT ((T.at 3).at 0))[k1]).at 1)).take (k2 + 1)).flatMap (GOf (fs_sTopologyDescriptionSubtopology[1]'(by decide)) v true) := by rw [hdk2]; exact el_end (B0 := B_k1 ++ plainTo (zipped fs_sTopologyDescriptionSubtopology v true ((lT ((T.at 3).at 0))[k1])) v 1 ++ (counted true false (lT (((lT ((T.at 3).at 0))[k1]).at 1)).length 4)) (G := (GOf (fs_sTopologyDescriptionSubtopology[1]'(by decide)) v true)) hk2 (GOf_part (by decide) _)
            refine fun a_ w_ hA hw => ⟨_, _, _, hA.sub ?_, (le_20.trans (le_33.trans (le_44.trans (le_54.trans le_62)))), hw, _, rfl, _, _, _, _, rfl, rfl, (by rw [← ee_64]; exact r284), (by rw [← ee_64])⟩
            exact (.cons rfl (.cons rfl (.cons rfl (.cons rfl (.cons rfl (.cons rfl (.cons rfl (.cons rfl (.cons rfl (.cons rfl (.cons rfl (.nil _))))))))))))
    · skip
      obtain ⟨a_k2, m_k2, c_k2, N_k2, rfl, rfl, pk20, pk21⟩ := hI
      refine toWp ?_
      have eL139 : B_k1 ++ plainTo (zipped fs_sTopologyDescriptionSubtopology v true ((lT ((T.at 3).at 0))[k1])) v 1 ++ (counted true false (lT (((lT ((T.at 3).at 0))[k1]).at 1)).length 4) ++ ((lT (((lT ((T.at 3).at 0))[k1]).at 1)).take (lT (((lT ((T.at 3).at 0))[k1]).at 1)).length).flatMap (GOf (fs_sTopologyDescriptionSubtopology[1]'(by decide)) v true) = B_k1 ++ plainTo (zipped fs_sTopologyDescriptionSubtopology v true ((lT ((T.at 3).at 0))[k1])) v 2 := by rw [List.take_length, List.append_assoc]; exact e_19
      rw [eL139] at pk20 pk21
      subst pk21
      refine sr ?_
      refine mv rfl rfl ?_
      refine nl ?_
      refine cdT rfl (by omega) ?_
      refine sr ?_
      refine mv rfl rfl ?_
      refine mv rfl rfl ?_
      refine nc rfl rfl ?_
      refine fa F139_2 rfl rfl ?_
      refine cl rfl rfl rfl (t_lenU (j := 2) (hc_17.mono le_21) rfl (hf_k1_1.mono le_21)) rfl (fun v_ H1 L1 hle hR => ?_)
      obtain ⟨rfl, rfl, rfl⟩ := hR
      have hu291 := oek1.u
      have hul291 := hu291.2.1
      obtain ⟨hz291a, hz291b⟩ := part_size_plain (by decide) hu291 hBk1
      refine cv Tryz.runUnderlying3 Tryz.runUnderlying62 rfl (w32u (by omega) (by omega)) rfl ?_
      refine ad rfl rfl ((w32u (by omega) (by omega)).trans (Int.zero_add _)) rfl ?_
      refine cl rfl rfl rfl (k_AppendUvarint (n := ((lT ((T.at 3).at 0))[k1]).u.length) (by omega) pk20 hz291a) rfl (fun v_ H1 L1 hle hR => ?_)
      obtain ⟨rfl, a294, c294, N294, rfl, rfl, h294⟩ := hR
      have r294 := h294.1
      refine asg rfl rfl ?_
      refine nl ?_
      refine rg ?_
      refine mv rfl rfl ?_
      refine nc rfl rfl ?_
      refine fa F139_2 rfl rfl ?_
      refine mv rfl rfl ?_
      refine cl rfl rfl rfl (t_append_each (j := 2) (hc_17.mono le_21) rfl (hf_k1_1.mono le_21) (by omega) r294 (fun p hp => by have := hu291.2.2 p hp; omega) hz291b) rfl (fun v_ H1 L1 le_65 hR => ?_)
      obtain ⟨a299, c299, N299, rfl, rfl, h299⟩ := hR
      have r299 := h299.1
      have eP_66 : B_k1 ++ plainTo (zipped fs_sTopologyDescriptionSubtopology v true ((lT ((T.at 3).at 0))[k1])) v 2 ++ uvar ((lT ((T.at 3).at 0))[k1]).u.length ++ ((lT ((T.at 3).at 0))[k1]).u.flatMap tagU = B_k1 ++ partB fs_sTopologyDescriptionSubtopology v true ((lT ((T.at 3).at 0))[k1]) := part_close (B := B_k1) (by decide) hu291
      rw [eP_66] at r299 ⊢
      refine asg rfl rfl ?_
      refine nN ?_
      refine Nb ?_
      have ee_67 : B_k1 ++ partB fs_sTopologyDescriptionSubtopology v true ((lT ((T.at 3).at 0))[k1]) = B_7 ++ (counted true false (lT ((T.at 3).at 0)).length 4) ++ ((lT ((T.at 3).at 0)).take (k1 + 1)).flatMap (GOf (fs_sTopologyDescription[0]'(by decide)) v true) := by rw [hdk1]; exact el_end (B0 := B_7 ++ (counted true false (lT ((T.at 3).at 0)).length 4)) (G := (GOf (fs_sTopologyDescription[0]'(by decide)) v true)) hk1 (GOf_part (by decide) _)
      refine fun a_ w_ hA hw => ⟨_, _, _, hA.sub ?_, (le_9.trans (le_21.trans le_65)), hw, _, rfl, _, _, _, _, rfl, rfl, (by rw [← ee_67]; exact r299), (by rw [← ee_67])⟩
      exact (.cons rfl (.cons rfl (.cons rfl (.cons rfl (.cons rfl (.cons rfl (.cons rfl (.nil _))))))))
  · skip
    obtain ⟨a_k1, m_k1, c_k1, N_k1, rfl, rfl, pk10, pk11⟩ := hI
    refine toWp ?_
    have eL107 : B_7 ++ (counted true false (lT ((T.at 3).at 0)).length 4) ++ ((lT ((T.at 3).at 0)).take (lT ((T.at 3).at 0)).length).flatMap (GOf (fs_sTopologyDescription[0]'(by decide)) v true) = B_7 ++ plainTo (zipped fs_sTopologyDescription v true (T.at 3)) v 1 := by rw [List.take_length, List.append_assoc]; exact e_8
    rw [eL107] at pk10 pk11
    subst pk11
    refine sq ?_
    refine sr ?_
    refine mv rfl rfl ?_
    refine nc rfl rfl ?_
    refine fa F75_1 rfl rfl ?_
    refine ld (Says.fz (hv.mono le_10)) Tryz.isAgg73 rfl (Nat.zero_add _).symm rfl rfl ?_
    refine asg rfl rfl ?_
    refine nl ?_
    refine sq ?_
    refine sr ?_
    refine mv rfl rfl ?_
    refine nl ?_
    refine cdT rfl (by omega) ?_
    refine rg ?_
    refine mv rfl rfl ?_
    refine mv rfl rfl ?_
    refine ls Tryz.runUnderlying73 rfl rfl ?_
    have ok309 := ok_6.get 1 (by decide) (has_yes (show (0 : Int) ≤ v by omega) (show ((-1) : Int) < 0 ∨ v ≤ (-1) by omega))
    have nn309 := ok309.nn (by decide) (by decide)
    have ll309 := lT_len (ok309.len rfl)
    have e_68 : B_7 ++ plainTo (zipped fs_sTopologyDescription v true (T.at 3)) v 1 ++ (counted true false (lT ((T.at 3).at 1)).length 4 ++ (lT ((T.at 3).at 1)).flatMap (GOf (fs_sTopologyDescription[1]'(by decide)) v true)) = B_7 ++ plainTo (zipped fs_sTopologyDescription v true (T.at 3)) v 2 := fold_yes (fs := fs_sTopologyDescription) (v := v) (flex := true) (t := (T.at 3)) (B := B_7) 1 (by decide) (by decide) (has_yes (show (0 : Int) ≤ v by omega) (show ((-1) : Int) < 0 ∨ v ≤ (-1) by omega)) (by rw [FB_list (f := (fs_sTopologyDescription[1]'(by decide))) (by decide) (by decide) ok309, nn309])
    have hs309 := fold_size e_68 (by decide) hB_5
    have hc309 : (B_7 ++ plainTo (zipped fs_sTopologyDescription v true (T.at 3)) v 1).length + (counted true false (lT ((T.at 3).at 1)).length 4).length ≤ LIM := by have h := hs309; simp only [List.length_append] at h ⊢; omega
    refine cl rfl rfl rfl (OutK.cast (k_AppendCompactArrayLen (n := (lT ((T.at 3).at 1)).length) (by omega) pk10 hc309) (show _ = B_7 ++ plainTo (zipped fs_sTopologyDescription v true (T.at 3)) v 1 ++ (counted true false (lT ((T.at 3).at 1)).length 4) from rfl)) rfl (fun v_ H1 L1 hle hR => ?_)
    obtain ⟨rfl, a309, c309, N309, rfl, rfl, h309⟩ := hR
    have r309 := h309.1
    refine asg rfl rfl ?_
    refine nl ?_
    refine sr ?_
    refine mv rfl rfl ?_
    refine ls Tryz.runUnderlying73 rfl rfl ?_
    refine mv rfl rfl ?_
    refine nl ?_
    refine fr ((lT ((T.at 3).at 1)).length) (fun k6 l' H' L' => ∃ (a_k6 : Option Addr), ∃ (m_k6 : Nat), ∃ (c_k6 : Nat), ∃ (N_k6 : Chunk), [(0, .pointer (some ⟨b, 0, none⟩)), (1, .slice a_k6 m_k6 c_k6), (6, .bool (decide ((0 : Int) ≤ v))), (10, .pointer (some ⟨b, 4, none⟩)), (30, .slice a3_1 (lT ((T.at 3).at 1)).length c3_1), (315, .int .i64 ((lT ((T.at 3).at 1)).length : Int))] = l' ∧ N_k6 :: L = L' ∧ Row 5 1 a_k6 m_k6 c_k6 (bytesOf (B_7 ++ plainTo (zipped fs_sTopologyDescription v true (T.at 3)) v 1 ++ (counted true false (lT ((T.at 3).at 1)).length 4) ++ ((lT ((T.at 3).at 1)).take k6).flatMap (GOf (fs_sTopologyDescription[1]'(by decide)) v true))) N_k6 ∧ m_k6 = (B_7 ++ plainTo (zipped fs_sTopologyDescription v true (T.at 3)) v 1 ++ (counted true false (lT ((T.at 3).at 1)).length 4) ++ ((lT ((T.at 3).at 1)).take k6).flatMap (GOf (fs_sTopologyDescription[1]'(by decide)) v true)).length) [(0, .pointer (some ⟨b, 0, none⟩)), (1, .slice _ _ _), (6, .bool (decide ((0 : Int) ≤ v))), (10, .pointer (some ⟨b, 4, none⟩)), (30, .slice a3_1 (lT ((T.at 3).at 1)).length c3_1), (315, .int .i64 ((lT ((T.at 3).at 1)).length : Int))] (fun k6 l' H' L' h => ?_) (by omega) rfl (.cons rfl (.cons rfl (.cons rfl (.cons rfl (.cons rfl (.cons rfl (.nil _))))))) ⟨_, _, _, _, rfl, rfl, (by rw [List.take_zero, List.flatMap_nil, List.append_nil]; exact r309), (by rw [List.take_zero, List.flatMap_nil, List.append_nil])⟩ rfl rfl rfl rfl rfl (fun k6 l' H' L' hk6 le_69 hI => ?_) (fun l' H' L' le_70 hI => ?_)
    · obtain ⟨a_k6, m_k6, c_k6, N_k6, rfl, _⟩ := h; exact ⟨rfl, rfl, rfl, rfl⟩
    · skip
      obtain ⟨a_k6, m_k6, c_k6, N_k6, rfl, rfl, pk60, pk61⟩ := hI
      subst pk61
      refine sr ?_
      refine mv rfl rfl ?_
      refine asg rfl rfl ?_
      refine nl ?_
      refine sr ?_
      refine mv rfl rfl ?_
      refine mv rfl rfl ?_
      obtain ⟨b_71, o_72, e_73, g_74⟩ := (hf1.mono At_TopologyDescriptionGlobalStore.mono (le_10.trans le_69)).rows.at_ (ne_nil_of_lt hk6)
      obtain ⟨cs_75, hA_76, hc_77⟩ := g_74 k6 hk6
      refine ix2 Tryz.runUnderlying73 Tryz.sizeOf148 rfl e_73 rfl rfl hk6 rfl ?_
      obtain ⟨a_k6_0_2, c_k6_0_2, p_k6_0_3, a_k6_0_4, c_k6_0_4, a_k6_0_5, c_k6_0_5, m_k6_0_t, a_k6_1_2, c_k6_1_2, p_k6_1_3, a_k6_1_4, c_k6_1_4, a_k6_1_5, c_k6_1_5, m_k6_1_t, m_k6_t, rfl, hf_k6_0, hf_k6_1, hf_k6_2, hf_k6_3, hf_k6_4, hf_k6_5, hf_k6_6, hf_k6_7, hf_k6_8, hf_k6_9, hf_k6_10⟩ := hA_76
      have oek6 := (ok309.el rfl _ (lT_mem (List.getElem_mem hk6))).2 rfl
      obtain ⟨B_k6, hdk6⟩ : ∃ z : List UInt8, z = B_7 ++ plainTo (zipped fs_sTopologyDescription v true (T.at 3)) v 1 ++ (counted true false (lT ((T.at 3).at 1)).length 4) ++ ((lT ((T.at 3).at 1)).take k6).flatMap (GOf (fs_sTopologyDescription[1]'(by decide)) v true) := ⟨_, rfl⟩
      have rbk6 := pk60
      rw [← hdk6] at rbk6 ⊢
      have hBk6 : B_k6.length + (partB fs_sTopologyDescriptionGlobalStore v true ((lT ((T.at 3).at 1))[k6])).length ≤ LIM := by rw [hdk6]; exact el_size hs309 hk6 (GOf_part (by decide) _)
      refine asg rfl rfl ?_
      refine nl ?_
      refine sq ?_
      refine sr ?_
      refine mv rfl rfl ?_
      refine nc rfl rfl ?_
      refine fa F148_0 rfl rfl ?_
      refine asg rfl rfl ?_
      refine nl ?_
      refine sq ?_
      refine sr ?_
      refine mv rfl rfl ?_
      refine nc rfl rfl ?_
      refine fa F144_0 rfl rfl ?_
      refine ld (Says.fz hc_77) Tryz.isAgg9 rfl (Nat.add_zero _).symm rfl rfl ?_
      refine asg rfl rfl ?_
      refine nl ?_
      refine sr ?_
      refine mv rfl rfl ?_
      refine nl ?_
      refine cdT rfl (by omega) ?_
      refine rg ?_
      refine mv rfl rfl ?_
      refine mv rfl rfl ?_
      have e_78 : B_k6 ++ (partB fs_sTopologyDescriptionNode v true (((lT ((T.at 3).at 1))[k6]).at 0)) = B_k6 ++ plainTo (zipped fs_sTopologyDescriptionGlobalStore v true ((lT ((T.at 3).at 1))[k6])) v 1 := fold_first (fs := fs_sTopologyDescriptionGlobalStore) (v := v) (flex := true) (t := ((lT ((T.at 3).at 1))[k6])) (B := B_k6) 0 rfl (by decide) (by decide) (has_yes (show (0 : Int) ≤ v by omega) (show ((-1) : Int) < 0 ∨ v ≤ (-1) by omega)) (FB_part (f := (fs_sTopologyDescriptionGlobalStore[0]'(by decide))) (by decide) (by decide))
      have hB_79 : (B_k6).length + (partB fs_sTopologyDescriptionNode v true (((lT ((T.at 3).at 1))[k6]).at 0)).length ≤ LIM := fold_size e_78 (by decide) hBk6
      have ok_80f := (oek6.get 0 (by decide) (has_yes (show (0 : Int) ≤ v by omega) (show ((-1) : Int) < 0 ∨ v ≤ (-1) by omega)))
      have ok_80 : OkP fs_sTopologyDescriptionNode v (((lT ((T.at 3).at 1))[k6]).at 0) := ok_80f.part rfl (ok_80f.nn (by decide) (by decide))
      have ok332 := ok_80.get 0 (by decide) (has_yes (show (0 : Int) ≤ v by omega) (show ((-1) : Int) < 0 ∨ v ≤ (-1) by omega))
      have nn332 := ok332.nn (by decide) (by decide)
      have e_81 : B_k6 ++ (counted true false ((((lT ((T.at 3).at 1))[k6]).at 0).at 0).s.length 2 ++ ((((lT ((T.at 3).at 1))[k6]).at 0).at 0).s) = B_k6 ++ plainTo (zipped fs_sTopologyDescriptionNode v true (((lT ((T.at 3).at 1))[k6]).at 0)) v 1 := fold_first (fs := fs_sTopologyDescriptionNode) (v := v) (flex := true) (t := (((lT ((T.at 3).at 1))[k6]).at 0)) (B := B_k6) 0 rfl (by decide) (by decide) (has_yes (show (0 : Int) ≤ v by omega) (show ((-1) : Int) < 0 ∨ v ≤ (-1) by omega)) (by rw [FB_text (f := (fs_sTopologyDescriptionNode[0]'(by decide))) (by decide) (by decide) ok332, sT_nn nn332, nn332])
      have hs332 := fold_size e_81 (by decide) hB_79
      refine cl rfl rfl rfl (OutK.cast (k_AppendCompactString (x := ((((lT ((T.at 3).at 1))[k6]).at 0).at 0).s) (by have := ok332.s (Or.inl rfl); omega) rbk6 hs332) e_81) rfl (fun v_ H1 L1 hle hR => ?_)
      obtain ⟨rfl, a332, c332, N332, rfl, rfl, h332⟩ := hR
      have r332 := h332.1
      refine asg rfl rfl ?_
      refine nl ?_
      refine sq ?_
      refine sr ?_
      refine mv rfl rfl ?_
      refine nc rfl rfl ?_
      refine fa F144_1 rfl rfl ?_
      refine ld (Says.fz hc_77) Tryz.isAgg141 rfl rfl rfl rfl ?_
      refine asg rfl rfl ?_
      refine nl ?_
      refine rg ?_
      refine mv rfl rfl ?_
      refine mv rfl rfl ?_
      have ok342 := ok_80.get 1 (by decide) (has_yes (show (0 : Int) ≤ v by omega) (show ((-1) : Int) < 0 ∨ v ≤ (-1) by omega))
      have e_82 : B_k6 ++ plainTo (zipped fs_sTopologyDescriptionNode v true (((lT ((T.at 3).at 1))[k6]).at 0)) v 1 ++ (fixed (IntKind.i8.wrap ((((lT ((T.at 3).at 1))[k6]).at 0).at 1).n) 1) = B_k6 ++ plainTo (zipped fs_sTopologyDescriptionNode v true (((lT ((T.at 3).at 1))[k6]).at 0)) v 2 := fold_yes (fs := fs_sTopologyDescriptionNode) (v := v) (flex := true) (t := (((lT ((T.at 3).at 1))[k6]).at 0)) (B := B_k6) 1 (by decide) (by decide) (has_yes (show (0 : Int) ≤ v by omega) (show ((-1) : Int) < 0 ∨ v ≤ (-1) by omega)) ((FB_int (f := (fs_sTopologyDescriptionNode[1]'(by decide))) (by decide) (by decide)).trans (fixed_i8 _).symm)
      have hs342 := fold_size e_82 (by decide) hB_79
      refine cl rfl rfl rfl (OutK.cast (k_AppendInt8 (u := IntKind.i8.wrap ((((lT ((T.at 3).at 1))[k6]).at 0).at 1).n) r332 hs342) e_82) rfl (fun v_ H1 L1 hle hR => ?_)
      obtain ⟨rfl, a342, c342, N342, rfl, rfl, h342⟩ := hR
      have r342 := h342.1
      refine asg rfl rfl ?_
      refine nl ?_
      refine sq ?_
      refine sr ?_
      refine mv rfl rfl ?_
      refine nc rfl rfl ?_
      refine fa F144_2 rfl rfl ?_
      refine ld (Says.fz hc_77) Tryz.isAgg142 rfl rfl rfl rfl ?_
      refine asg rfl rfl ?_
      refine nl ?_
      refine sq ?_
      refine sr ?_
      refine mv rfl rfl ?_
      refine nl ?_
      refine cdT rfl (by omega) ?_
      refine rg ?_
      refine mv rfl rfl ?_
      refine mv rfl rfl ?_
      refine ls Tryz.runUnderlying142 rfl rfl ?_
      have ok351 := ok_80.get 2 (by decide) (has_yes (show (0 : Int) ≤ v by omega) (show ((-1) : Int) < 0 ∨ v ≤ (-1) by omega))
      have nn351 := ok351.nn (by decide) (by decide)
      have ll351 := lT_len (ok351.len rfl)
      have e_83 : B_k6 ++ plainTo (zipped fs_sTopologyDescriptionNode v true (((lT ((T.at 3).at 1))[k6]).at 0)) v 2 ++ (counted true false (lT ((((lT ((T.at 3).at 1))[k6]).at 0).at 2)).length 4 ++ (lT ((((lT ((T.at 3).at 1))[k6]).at 0).at 2)).flatMap (GOf (fs_sTopologyDescriptionNode[2]'(by decide)) v true)) = B_k6 ++ plainTo (zipped fs_sTopologyDescriptionNode v true (((lT ((T.at 3).at 1))[k6]).at 0)) v 3 := fold_yes (fs := fs_sTopologyDescriptionNode) (v := v) (flex := true) (t := (((lT ((T.at 3).at 1))[k6]).at 0)) (B := B_k6) 2 (by decide) (by decide) (has_yes (show (0 : Int) ≤ v by omega) (show ((-1) : Int) < 0 ∨ v ≤ (-1) by omega)) (by rw [FB_list (f := (fs_sTopologyDescriptionNode[2]'(by decide))) (by decide) (by decide) ok351, nn351])
      have hs351 := fold_size e_83 (by decide) hB_79
      have hc351 : (B_k6 ++ plainTo (zipped fs_sTopologyDescriptionNode v true (((lT ((T.at 3).at 1))[k6]).at 0)) v 2).length + (counted true false (lT ((((lT ((T.at 3).at 1))[k6]).at 0).at 2)).length 4).length ≤ LIM := by have h := hs351; simp only [List.length_append] at h ⊢; omega
      refine cl rfl rfl rfl (OutK.cast (k_AppendCompactArrayLen (n := (lT ((((lT ((T.at 3).at 1))[k6]).at 0).at 2)).length) (by omega) r342 hc351) (show _ = B_k6 ++ plainTo (zipped fs_sTopologyDescriptionNode v true (((lT ((T.at 3).at 1))[k6]).at 0)) v 2 ++ (counted true false (lT ((((lT ((T.at 3).at 1))[k6]).at 0).at 2)).length 4) from rfl)) rfl (fun v_ H1 L1 hle hR => ?_)
      obtain ⟨rfl, a351, c351, N351, rfl, rfl, h351⟩ := hR
      have r351 := h351.1
      refine asg rfl rfl ?_
      refine nl ?_
      refine sr ?_
      refine mv rfl rfl ?_
      refine ls Tryz.runUnderlying142 rfl rfl ?_
      refine mv rfl rfl ?_
      refine nl ?_
      refine fr ((lT ((((lT ((T.at 3).at 1))[k6]).at 0).at 2)).length) (fun k7 l' H' L' => ∃ (a_k7 : Option Addr), ∃ (m_k7 : Nat), ∃ (c_k7 : Nat), ∃ (N_k7 : Chunk), [(0, .pointer (some ⟨b, 0, none⟩)), (1, .slice a_k7 m_k7 c_k7), (6, .bool (decide ((0 : Int) ≤ v))), (10, .pointer (some ⟨b, 4, none⟩)), (30, .slice a3_1 (lT ((T.at 3).at 1)).length c3_1), (32, .pointer (some ⟨b_71, o_72 + k6 * 15, none⟩)), (33, .pointer (some ⟨b_71, o_72 + k6 * 15 + 0, none⟩)), (36, .slice a_k6_0_2 (lT ((((lT ((T.at 3).at 1))[k6]).at 0).at 2)).length c_k6_0_2), (315, .int .i64 ((lT ((T.at 3).at 1)).length : Int)), (316, .int .i64 (k6 : Int)), (357, .int .i64 ((lT ((((lT ((T.at 3).at 1))[k6]).at 0).at 2)).length : Int))] = l' ∧ N_k7 :: L = L' ∧ Row 5 1 a_k7 m_k7 c_k7 (bytesOf (B_k6 ++ plainTo (zipped fs_sTopologyDescriptionNode v true (((lT ((T.at 3).at 1))[k6]).at 0)) v 2 ++ (counted true false (lT ((((lT ((T.at 3).at 1))[k6]).at 0).at 2)).length 4) ++ ((lT ((((lT ((T.at 3).at 1))[k6]).at 0).at 2)).take k7).flatMap (GOf (fs_sTopologyDescriptionNode[2]'(by decide)) v true))) N_k7 ∧ m_k7 = (B_k6 ++ plainTo (zipped fs_sTopologyDescriptionNode v true (((lT ((T.at 3).at 1))[k6]).at 0)) v 2 ++ (counted true false (lT ((((lT ((T.at 3).at 1))[k6]).at 0).at 2)).length 4) ++ ((lT ((((lT ((T.at 3).at 1))[k6]).at 0).at 2)).take k7).flatMap (GOf (fs_sTopologyDescriptionNode[2]'(by decide)) v true)).length) [(0, .pointer (some ⟨b, 0, none⟩)), (1, .slice _ _ _), (6, .bool (decide ((0 : Int) ≤ v))), (10, .pointer (some ⟨b, 4, none⟩)), (30, .slice a3_1 (lT ((T.at 3).at 1)).length c3_1), (32, .pointer (some ⟨b_71, o_72 + k6 * 15, none⟩)), (33, .pointer (some ⟨b_71, o_72 + k6 * 15 + 0, none⟩)), (36, .slice a_k6_0_2 (lT ((((lT ((T.at 3).at 1))[k6]).at 0).at 2)).length c_k6_0_2), (315, .int .i64 ((lT ((T.at 3).at 1)).length : Int)), (316, .int .i64 (k6 : Int)), (357, .int .i64 ((lT ((((lT ((T.at 3).at 1))[k6]).at 0).at 2)).length : Int))] (fun k7 l' H' L' h => ?_) (by omega) rfl (.cons rfl (.cons rfl (.cons rfl (.cons rfl (.cons rfl (.cons rfl (.cons rfl (.cons rfl (.cons rfl (.cons rfl (.cons rfl (.nil _)))))))))))) ⟨_, _, _, _, rfl, rfl, (by rw [List.take_zero, List.flatMap_nil, List.append_nil]; exact r351), (by rw [List.take_zero, List.flatMap_nil, List.append_nil])⟩ rfl rfl rfl rfl rfl (fun k7 l' H' L' hk7 le_84 hI => ?_) (fun l' H' L' le_85 hI => ?_)
      · obtain ⟨a_k7, m_k7, c_k7, N_k7, rfl, _⟩ := h; exact ⟨rfl, rfl, rfl, rfl⟩
      · skip
        obtain ⟨a_k7, m_k7, c_k7, N_k7, rfl, rfl, pk70, pk71⟩ := hI
        subst pk71
        refine sr ?_
        refine mv rfl rfl ?_
        refine asg rfl rfl ?_
        refine nl ?_
        refine sr ?_
        refine mv rfl rfl ?_
        refine mv rfl rfl ?_
        obtain ⟨b_86, o_87, e_88, g_89⟩ := (hf_k6_0.mono RText.mono le_84).rows.at_ (ne_nil_of_lt hk7)
        obtain ⟨cs_90, hA_91, hc_92⟩ := g_89 k7 hk7
        refine ix2 Tryz.runUnderlying142 Tryz.sizeOf9 rfl e_88 rfl rfl hk7 rfl ?_
        obtain rfl := hA_91
        refine ld (Says.fz hc_92) Tryz.isAgg9 rfl (Nat.add_zero _).symm rfl rfl ?_
        refine asg rfl rfl ?_
        refine nl ?_
        refine sr ?_
        refine mv rfl rfl ?_
        refine nl ?_
        refine cdT rfl (by omega) ?_
        refine rg ?_
        refine mv rfl rfl ?_
        refine mv rfl rfl ?_
        have oe368 := (ok351.el rfl _ (lT_mem (List.getElem_mem hk7))).1 (by decide)
        have hp368 : (GOf (fs_sTopologyDescriptionNode[2]'(by decide)) v true) ((lT ((((lT ((T.at 3).at 1))[k6]).at 0).at 2))[k7]) = counted true false ((lT ((((lT ((T.at 3).at 1))[k6]).at 0).at 2))[k7]).s.length 2 ++ ((lT ((((lT ((T.at 3).at 1))[k6]).at 0).at 2))[k7]).s := G_text (f := (fs_sTopologyDescriptionNode[2]'(by decide))) (by decide) oe368
        have hs368 := el_size hs351 hk7 hp368
        have ee368 := el_end (B0 := B_k6 ++ plainTo (zipped fs_sTopologyDescriptionNode v true (((lT ((T.at 3).at 1))[k6]).at 0)) v 2 ++ (counted true false (lT ((((lT ((T.at 3).at 1))[k6]).at 0).at 2)).length 4)) hk7 hp368
        refine cl rfl rfl rfl (OutK.cast (k_AppendCompactString (x := ((lT ((((lT ((T.at 3).at 1))[k6]).at 0).at 2))[k7]).s) (by omega) pk70 hs368) ee368) rfl (fun v_ H1 L1 hle hR => ?_)
        obtain ⟨rfl, a368, c368, N368, rfl, rfl, h368⟩ := hR
        have r368 := h368.1
        refine asg rfl rfl ?_
        refine nN ?_
        refine Nb ?_
        refine fun a_ w_ hA hw => ⟨_, _, _, hA.sub ?_, le_84, hw, _, rfl, _, _, _, _, rfl, rfl, r368, rfl⟩
        exact (.cons rfl (.cons rfl (.cons rfl (.cons rfl (.cons rfl (.cons rfl (.cons rfl (.cons rfl (.cons rfl (.cons rfl (.cons rfl (.cons rfl (.nil _)))))))))))))
      · skip
        obtain ⟨a_k7, m_k7, c_k7, N_k7, rfl, rfl, pk70, pk71⟩ := hI
        refine toWp ?_
        have eL351 : B_k6 ++ plainTo (zipped fs_sTopologyDescriptionNode v true (((lT ((T.at 3).at 1))[k6]).at 0)) v 2 ++ (counted true false (lT ((((lT ((T.at 3).at 1))[k6]).at 0).at 2)).length 4) ++ ((lT ((((lT ((T.at 3).at 1))[k6]).at 0).at 2)).take (lT ((((lT ((T.at 3).at 1))[k6]).at 0).at 2)).length).flatMap (GOf (fs_sTopologyDescriptionNode[2]'(by decide)) v true) = B_k6 ++ plainTo (zipped fs_sTopologyDescriptionNode v true (((lT ((T.at 3).at 1))[k6]).at 0)) v 3 := by rw [List.take_length, List.append_assoc]; exact e_83
        rw [eL351] at pk70 pk71
        subst pk71
        refine sq ?_
        refine sr ?_
        refine mv rfl rfl ?_
        refine nc rfl rfl ?_
        refine fa F144_3 rfl rfl ?_
        refine ld (Says.fz (hc_77.mono le_85)) Tryz.isAgg110 rfl rfl rfl rfl ?_
        refine asg rfl rfl ?_
        refine nl ?_
        refine sr ?_
        refine mv rfl rfl ?_
        refine nl ?_
        refine cdT rfl (by omega) ?_
        refine rg ?_
        refine mv rfl rfl ?_
        refine mv rfl rfl ?_
        have ok380 := ok_80.get 3 (by decide) (has_yes (show (0 : Int) ≤ v by omega) (show ((-1) : Int) < 0 ∨ v ≤ (-1) by omega))
        have e_93 : B_k6 ++ plainTo (zipped fs_sTopologyDescriptionNode v true (((lT ((T.at 3).at 1))[k6]).at 0)) v 3 ++ (counted true ((((lT ((T.at 3).at 1))[k6]).at 0).at 3).nul (sT ((((lT ((T.at 3).at 1))[k6]).at 0).at 3)).length 2 ++ sT ((((lT ((T.at 3).at 1))[k6]).at 0).at 3)) = B_k6 ++ plainTo (zipped fs_sTopologyDescriptionNode v true (((lT ((T.at 3).at 1))[k6]).at 0)) v 4 := fold_yes (fs := fs_sTopologyDescriptionNode) (v := v) (flex := true) (t := (((lT ((T.at 3).at 1))[k6]).at 0)) (B := B_k6) 3 (by decide) (by decide) (has_yes (show (0 : Int) ≤ v by omega) (show ((-1) : Int) < 0 ∨ v ≤ (-1) by omega)) (FB_text (f := (fs_sTopologyDescriptionNode[3]'(by decide))) (by decide) (by decide) ok380)
        have hs380 := fold_size e_93 (by decide) hB_79
        refine cl rfl rfl rfl (OutK.cast (k_AppendCompactNullableString (hf_k6_1.mono le_85) (ok380.s (Or.inl rfl)) pk70 hs380) e_93) rfl (fun v_ H1 L1 hle hR => ?_)
        obtain ⟨rfl, a380, c380, N380, rfl, rfl, h380⟩ := hR
        have r380 := h380.1
        refine asg rfl rfl ?_
        refine nl ?_
        refine sq ?_
        refine sr ?_
        refine mv rfl rfl ?_
        refine nc rfl rfl ?_
        refine fa F144_4 rfl rfl ?_
        refine ld (Says.fz (hc_77.mono le_85)) Tryz.isAgg142 rfl rfl rfl rfl ?_
        refine asg rfl rfl ?_
        refine nl ?_
        refine sq ?_
        refine sr ?_
        refine mv rfl rfl ?_
        refine nl ?_
        refine cdT rfl (by omega) ?_
        refine rg ?_
        refine mv rfl rfl ?_
        refine mv rfl rfl ?_
        refine ls Tryz.runUnderlying142 rfl rfl ?_
        have ok392 := ok_80.get 4 (by decide) (has_yes (show (0 : Int) ≤ v by omega) (show ((-1) : Int) < 0 ∨ v ≤ (-1) by omega))
        have nn392 := ok392.nn (by decide) (by decide)
        have ll392 := lT_len (ok392.len rfl)
        have e_94 : B_k6 ++ plainTo (zipped fs_sTopologyDescriptionNode v true (((lT ((T.at 3).at 1))[k6]).at 0)) v 4 ++ (counted true false (lT ((((lT ((T.at 3).at 1))[k6]).at 0).at 4)).length 4 ++ (lT ((((lT ((T.at 3).at 1))[k6]).at 0).at 4)).flatMap (GOf (fs_sTopologyDescriptionNode[4]'(by decide)) v true)) = B_k6 ++ plainTo (zipped fs_sTopologyDescriptionNode v true (((lT ((T.at 3).at 1))[k6]).at 0)) v 5 := fold_yes (fs := fs_sTopologyDescriptionNode) (v := v) (flex := true) (t := (((lT ((T.at 3).at 1))[k6]).at 0)) (B := B_k6) 4 (by decide) (by decide) (has_yes (show (0 : Int) ≤ v by omega) (show ((-1) : Int) < 0 ∨ v ≤ (-1) by omega)) (by rw [FB_list (f := (fs_sTopologyDescriptionNode[4]'(by decide))) (by decide) (by decide) ok392, nn392])
        have hs392 := fold_size e_94 (by decide) hB_79
        have hc392 : (B_k6 ++ plainTo (zipped fs_sTopologyDescriptionNode v true (((lT ((T.at 3).at 1))[k6]).at 0)) v 4).length + (counted true false (lT ((((lT ((T.at 3).at 1))[k6]).at 0).at 4)).length 4).length ≤ LIM := by have h := hs392; simp only [List.length_append] at h ⊢; omega
        refine cl rfl rfl rfl (OutK.cast (k_AppendCompactArrayLen (n := (lT ((((lT ((T.at 3).at 1))[k6]).at 0).at 4)).length) (by omega) r380 hc392) (show _ = B_k6 ++ plainTo (zipped fs_sTopologyDescriptionNode v true (((lT ((T.at 3).at 1))[k6]).at 0)) v 4 ++ (counted true false (lT ((((lT ((T.at 3).at 1))[k6]).at 0).at 4)).length 4) from rfl)) rfl (fun v_ H1 L1 hle hR => ?_)
        obtain ⟨rfl, a392, c392, N392, rfl, rfl, h392⟩ := hR
        have r392 := h392.1
        refine asg rfl rfl ?_
        refine nl ?_
        refine sr ?_
        refine mv rfl rfl ?_
        refine ls Tryz.runUnderlying142 rfl rfl ?_
        refine mv rfl rfl ?_
        refine nl ?_
        refine fr ((lT ((((lT ((T.at 3).at 1))[k6]).at 0).at 4)).length) (fun k8 l' H' L' => ∃ (a_k8 : Option Addr), ∃ (m_k8 : Nat), ∃ (c_k8 : Nat), ∃ (N_k8 : Chunk), [(0, .pointer (some ⟨b, 0, none⟩)), (1, .slice a_k8 m_k8 c_k8), (6, .bool (decide ((0 : Int) ≤ v))), (10, .pointer (some ⟨b, 4, none⟩)), (30, .slice a3_1 (lT ((T.at 3).at 1)).length c3_1), (32, .pointer (some ⟨b_71, o_72 + k6 * 15, none⟩)), (33, .pointer (some ⟨b_71, o_72 + k6 * 15 + 0, none⟩)), (40, .slice a_k6_0_4 (lT ((((lT ((T.at 3).at 1))[k6]).at 0).at 4)).length c_k6_0_4), (315, .int .i64 ((lT ((T.at 3).at 1)).length : Int)), (316, .int .i64 (k6 : Int)), (398, .int .i64 ((lT ((((lT ((T.at 3).at 1))[k6]).at 0).at 4)).length : Int))] = l' ∧ N_k8 :: L = L' ∧ Row 5 1 a_k8 m_k8 c_k8 (bytesOf (B_k6 ++ plainTo (zipped fs_sTopologyDescriptionNode v true (((lT ((T.at 3).at 1))[k6]).at 0)) v 4 ++ (counted true false (lT ((((lT ((T.at 3).at 1))[k6]).at 0).at 4)).length 4) ++ ((lT ((((lT ((T.at 3).at 1))[k6]).at 0).at 4)).take k8).flatMap (GOf (fs_sTopologyDescriptionNode[4]'(by decide)) v true))) N_k8 ∧ m_k8 = (B_k6 ++ plainTo (zipped fs_sTopologyDescriptionNode v true (((lT ((T.at 3).at 1))[k6]).at 0)) v 4 ++ (counted true false (lT ((((lT ((T.at 3).at 1))[k6]).at 0).at 4)).length 4) ++ ((lT ((((lT ((T.at 3).at 1))[k6]).at 0).at 4)).take k8).flatMap (GOf (fs_sTopologyDescriptionNode[4]'(by decide)) v true)).length) [(0, .pointer (some ⟨b, 0, none⟩)), (1, .slice _ _ _), (6, .bool (decide ((0 : Int) ≤ v))), (10, .pointer (some ⟨b, 4, none⟩)), (30, .slice a3_1 (lT ((T.at 3).at 1)).length c3_1), (32, .pointer (some ⟨b_71, o_72 + k6 * 15, none⟩)), (33, .pointer (some ⟨b_71, o_72 + k6 * 15 + 0, none⟩)), (40, .slice a_k6_0_4 (lT ((((lT ((T.at 3).at 1))[k6]).at 0).at 4)).length c_k6_0_4), (315, .int .i64 ((lT ((T.at 3).at 1)).length : Int)), (316, .int .i64 (k6 : Int)), (398, .int .i64 ((lT ((((lT ((T.at 3).at 1))[k6]).at 0).at 4)).length : Int))] (fun k8 l' H' L' h => ?_) (by omega) rfl (.cons rfl (.cons rfl (.cons rfl (.cons rfl (.cons rfl (.cons rfl (.cons rfl (.cons rfl (.cons rfl (.cons rfl (.cons rfl (.nil _)))))))))))) ⟨_, _, _, _, rfl, rfl, (by rw [List.take_zero, List.flatMap_nil, List.append_nil]; exact r392), (by rw [List.take_zero, List.flatMap_nil, List.append_nil])⟩ rfl rfl rfl rfl rfl (fun k8 l' H' L' hk8 le_95 hI => ?_) (fun l' H' L' le_96 hI => ?_)
        · obtain ⟨a_k8, m_k8, c_k8, N_k8, rfl, _⟩ := h; exact ⟨rfl, rfl, rfl, rfl⟩
        · skip
          obtain ⟨a_k8, m_k8, c_k8, N_k8, rfl, rfl, pk80, pk81⟩ := hI
          subst pk81
          refine sr ?_
          refine mv rfl rfl ?_
          refine asg rfl rfl ?_
          refine nl ?_
          refine sr ?_
          refine mv rfl rfl ?_
          refine mv rfl rfl ?_
          obtain ⟨b_97, o_98, e_99, g_100⟩ := (hf_k6_2.mono RText.mono (le_85.trans le_95)).rows.at_ (ne_nil_of_lt hk8)
          obtain ⟨cs_101, hA_102, hc_103⟩ := g_100 k8 hk8
          refine ix2 Tryz.runUnderlying142 Tryz.sizeOf9 rfl e_99 rfl rfl hk8 rfl ?_
          obtain rfl := hA_102
          refine ld (Says.fz hc_103) Tryz.isAgg9 rfl (Nat.add_zero _).symm rfl rfl ?_
          refine asg rfl rfl ?_
          refine nl ?_
          refine sr ?_
          refine mv rfl rfl ?_
          refine nl ?_
          refine cdT rfl (by omega) ?_
          refine rg ?_
          refine mv rfl rfl ?_
          refine mv rfl rfl ?_
          have oe409 := (ok392.el rfl _ (lT_mem (List.getElem_mem hk8))).1 (by decide)
          have hp409 : (GOf (fs_sTopologyDescriptionNode[4]'(by decide)) v true) ((lT ((((lT ((T.at 3).at 1))[k6]).at 0).at 4))[k8]) = counted true false ((lT ((((lT ((T.at 3).at 1))[k6]).at 0).at 4))[k8]).s.length 2 ++ ((lT ((((lT ((T.at 3).at 1))[k6]).at 0).at 4))[k8]).s := G_text (f := (fs_sTopologyDescriptionNode[4]'(by decide))) (by decide) oe409
          have hs409 := el_size hs392 hk8 hp409
          have ee409 := el_end (B0 := B_k6 ++ plainTo (zipped fs_sTopologyDescriptionNode v true (((lT ((T.at 3).at 1))[k6]).at 0)) v 4 ++ (counted true false (lT ((((lT ((T.at 3).at 1))[k6]).at 0).at 4)).length 4)) hk8 hp409
          refine cl rfl rfl rfl (OutK.cast (k_AppendCompactString (x := ((lT ((((lT ((T.at 3).at 1))[k6]).at 0).at 4))[k8]).s) (by omega) pk80 hs409) ee409) rfl (fun v_ H1 L1 hle hR => ?_)
          obtain ⟨rfl, a409, c409, N409, rfl, rfl, h409⟩ := hR
          have r409 := h409.1
          refine asg rfl rfl ?_
          refine nN ?_
          refine Nb ?_
          refine fun a_ w_ hA hw => ⟨_, _, _, hA.sub ?_, le_95, hw, _, rfl, _, _, _, _, rfl, rfl, r409, rfl⟩
          exact (.cons rfl (.cons rfl (.cons rfl (.cons rfl (.cons rfl (.cons rfl (.cons rfl (.cons rfl (.cons rfl (.cons rfl (.cons rfl (.cons rfl (.nil _)))))))))))))
        · skip
          obtain ⟨a_k8, m_k8, c_k8, N_k8, rfl, rfl, pk80, pk81⟩ := hI
          refine toWp ?_
          have eL392 : B_k6 ++ plainTo (zipped fs_sTopologyDescriptionNode v true (((lT ((T.at 3).at 1))[k6]).at 0)) v 4 ++ (counted true false (lT ((((lT ((T.at 3).at 1))[k6]).at 0).at 4)).length 4) ++ ((lT ((((lT ((T.at 3).at 1))[k6]).at 0).at 4)).take (lT ((((lT ((T.at 3).at 1))[k6]).at 0).at 4)).length).flatMap (GOf (fs_sTopologyDescriptionNode[4]'(by decide)) v true) = B_k6 ++ plainTo (zipped fs_sTopologyDescriptionNode v true (((lT ((T.at 3).at 1))[k6]).at 0)) v 5 := by rw [List.take_length, List.append_assoc]; exact e_94
          rw [eL392] at pk80 pk81
          subst pk81
          refine sq ?_
          refine sr ?_
          refine mv rfl rfl ?_
          refine nc rfl rfl ?_
          refine fa F144_5 rfl rfl ?_
          refine ld (Says.fz (hc_77.mono (le_85.trans le_96))) Tryz.isAgg142 rfl rfl rfl rfl ?_
          refine asg rfl rfl ?_
          refine nl ?_
          refine sq ?_
          refine sr ?_
          refine mv rfl rfl ?_
          refine nl ?_
          refine cdT rfl (by omega) ?_
          refine rg ?_
          refine mv rfl rfl ?_
          refine mv rfl rfl ?_
          refine ls Tryz.runUnderlying142 rfl rfl ?_
          have ok422 := ok_80.get 5 (by decide) (has_yes (show (0 : Int) ≤ v by omega) (show ((-1) : Int) < 0 ∨ v ≤ (-1) by omega))
          have nn422 := ok422.nn (by decide) (by decide)
          have ll422 := lT_len (ok422.len rfl)
          have e_104 : B_k6 ++ plainTo (zipped fs_sTopologyDescriptionNode v true (((lT ((T.at 3).at 1))[k6]).at 0)) v 5 ++ (counted true false (lT ((((lT ((T.at 3).at 1))[k6]).at 0).at 5)).length 4 ++ (lT ((((lT ((T.at 3).at 1))[k6]).at 0).at 5)).flatMap (GOf (fs_sTopologyDescriptionNode[5]'(by decide)) v true)) = B_k6 ++ plainTo (zipped fs_sTopologyDescriptionNode v true (((lT ((T.at 3).at 1))[k6]).at 0)) v 6 := fold_yes (fs := fs_sTopologyDescriptionNode) (v := v) (flex := true) (t := (((lT ((T.at 3).at 1))[k6]).at 0)) (B := B_k6) 5 (by decide) (by decide) (has_yes (show (0 : Int) ≤ v by omega) (show ((-1) : Int) < 0 ∨ v ≤ (-1) by omega)) (by rw [FB_list (f := (fs_sTopologyDescriptionNode[5]'(by decide))) (by decide) (by decide) ok422, nn422])
          have hs422 := fold_size e_104 (by decide) hB_79
          have hc422 : (B_k6 ++ plainTo (zipped fs_sTopologyDescriptionNode v true (((lT ((T.at 3).at 1))[k6]).at 0)) v 5).length + (counted true false (lT ((((lT ((T.at 3).at 1))[k6]).at 0).at 5)).length 4).length ≤ LIM := by have h := hs422; simp only [List.length_append] at h ⊢; omega
          refine cl rfl rfl rfl (OutK.cast (k_AppendCompactArrayLen (n := (lT ((((lT ((T.at 3).at 1))[k6]).at 0).at 5)).length) (by omega) pk80 hc422) (show _ = B_k6 ++ plainTo (zipped fs_sTopologyDescriptionNode v true (((lT ((T.at 3).at 1))[k6]).at 0)) v 5 ++ (counted true false (lT ((((lT ((T.at 3).at 1))[k6]).at 0).at 5)).length 4) from rfl)) rfl (fun v_ H1 L1 hle hR => ?_)
          obtain ⟨rfl, a422, c422, N422, rfl, rfl, h422⟩ := hR
          have r422 := h422.1
          refine asg rfl rfl ?_
          refine nl ?_
          refine sr ?_
          refine mv rfl rfl ?_
          refine ls Tryz.runUnderlying142 rfl rfl ?_
          refine mv rfl rfl ?_
          refine nl ?_
          refine fr ((lT ((((lT ((T.at 3).at 1))[k6]).at 0).at 5)).length) (fun k9 l' H' L' => ∃ (a_k9 : Option Addr), ∃ (m_k9 : Nat), ∃ (c_k9 : Nat), ∃ (N_k9 : Chunk), [(0, .pointer (some ⟨b, 0, none⟩)), (1, .slice a_k9 m_k9 c_k9), (6, .bool (decide ((0 : Int) ≤ v))), (10, .pointer (some ⟨b, 4, none⟩)), (30, .slice a3_1 (lT ((T.at 3).at 1)).length c3_1), (32, .pointer (some ⟨b_71, o_72 + k6 * 15, none⟩)), (33, .pointer (some ⟨b_71, o_72 + k6 * 15 + 0, none⟩)), (43, .slice a_k6_0_5 (lT ((((lT ((T.at 3).at 1))[k6]).at 0).at 5)).length c_k6_0_5), (315, .int .i64 ((lT ((T.at 3).at 1)).length : Int)), (316, .int .i64 (k6 : Int)), (428, .int .i64 ((lT ((((lT ((T.at 3).at 1))[k6]).at 0).at 5)).length : Int))] = l' ∧ N_k9 :: L = L' ∧ Row 5 1 a_k9 m_k9 c_k9 (bytesOf (B_k6 ++ plainTo (zipped fs_sTopologyDescriptionNode v true (((lT ((T.at 3).at 1))[k6]).at 0)) v 5 ++ (counted true false (lT ((((lT ((T.at 3).at 1))[k6]).at 0).at 5)).length 4) ++ ((lT ((((lT ((T.at 3).at 1))[k6]).at 0).at 5)).take k9).flatMap (GOf (fs_sTopologyDescriptionNode[5]'(by decide)) v true))) N_k9 ∧ m_k9 = (B_k6 ++ plainTo (zipped fs_sTopologyDescriptionNode v true (((lT ((T.at 3).at 1))[k6]).at 0)) v 5 ++ (counted true false (lT ((((lT ((T.at 3).at 1))[k6]).at 0).at 5)).length 4) ++ ((lT ((((lT ((T.at 3).at 1))[k6]).at 0).at 5)).take k9).flatMap (GOf (fs_sTopologyDescriptionNode[5]'(by decide)) v true)).length) [(0, .pointer (some ⟨b, 0, none⟩)), (1, .slice _ _ _), (6, .bool (decide ((0 : Int) ≤ v))), (10, .pointer (some ⟨b, 4, none⟩)), (30, .slice a3_1 (lT ((T.at 3).at 1)).length c3_1), (32, .pointer (some ⟨b_71, o_72 + k6 * 15, none⟩)), (33, .pointer (some ⟨b_71, o_72 + k6 * 15 + 0, none⟩)), (43, .slice a_k6_0_5 (lT ((((lT ((T.at 3).at 1))[k6]).at 0).at 5)).length c_k6_0_5), (315, .int .i64 ((lT ((T.at 3).at 1)).length : Int)), (316, .int .i64 (k6 : Int)), (428, .int .i64 ((lT ((((lT ((T.at 3).at 1))[k6]).at 0).at 5)).length : Int))] (fun k9 l' H' L' h => ?_) (by omega) rfl (.cons rfl (.cons rfl (.cons rfl (.cons rfl (.cons rfl (.cons rfl (.cons rfl (.cons rfl (.cons rfl (.cons rfl (.cons rfl (.nil _)))))))))))) ⟨_, _, _, _, rfl, rfl, (by rw [List.take_zero, List.flatMap_nil, List.append_nil]; exact r422), (by rw [List.take_zero, List.flatMap_nil, List.append_nil])⟩ rfl rfl rfl rfl rfl (fun k9 l' H' L' hk9 le_105 hI => ?_) (fun l' H' L' le_106 hI => ?_)
          · obtain ⟨a_k9, m_k9, c_k9, N_k9, rfl, _⟩ := h; exact ⟨rfl, rfl, rfl, rfl⟩
          · skip
            obtain ⟨a_k9, m_k9, c_k9, N_k9, rfl, rfl, pk90, pk91⟩ := hI
            subst pk91
            refine sr ?_
            refine mv rfl rfl ?_
            refine asg rfl rfl ?_
            refine nl ?_
            refine sr ?_
            refine mv rfl rfl ?_
            refine mv rfl rfl ?_
            obtain ⟨b_107, o_108, e_109, g_110⟩ := (hf_k6_3.mono RText.mono (le_85.trans (le_96.trans le_105))).rows.at_ (ne_nil_of_lt hk9)
            obtain ⟨cs_111, hA_112, hc_113⟩ := g_110 k9 hk9
            refine ix2 Tryz.runUnderlying142 Tryz.sizeOf9 rfl e_109 rfl rfl hk9 rfl ?_
            obtain rfl := hA_112
            refine ld (Says.fz hc_113) Tryz.isAgg9 rfl (Nat.add_zero _).symm rfl rfl ?_
            refine asg rfl rfl ?_
            refine nl ?_
            refine sr ?_
            refine mv rfl rfl ?_
            refine nl ?_
            refine cdT rfl (by omega) ?_
            refine rg ?_
            refine mv rfl rfl ?_
            refine mv rfl rfl ?_
            have oe439 := (ok422.el rfl _ (lT_mem (List.getElem_mem hk9))).1 (by decide)
            have hp439 : (GOf (fs_sTopologyDescriptionNode[5]'(by decide)) v true) ((lT ((((lT ((T.at 3).at 1))[k6]).at 0).at 5))[k9]) = counted true false ((lT ((((lT ((T.at 3).at 1))[k6]).at 0).at 5))[k9]).s.length 2 ++ ((lT ((((lT ((T.at 3).at 1))[k6]).at 0).at 5))[k9]).s := G_text (f := (fs_sTopologyDescriptionNode[5]'(by decide))) (by decide) oe439
            have hs439 := el_size hs422 hk9 hp439
            have ee439 := el_end (B0 := B_k6 ++ plainTo (zipped fs_sTopologyDescriptionNode v true (((lT ((T.at 3).at 1))[k6]).at 0)) v 5 ++ (counted true false (lT ((((lT ((T.at 3).at 1))[k6]).at 0).at 5)).length 4)) hk9 hp439
            refine cl rfl rfl rfl (OutK.cast (k_AppendCompactString (x := ((lT ((((lT ((T.at 3).at 1))[k6]).at 0).at 5))[k9]).s) (by omega) pk90 hs439) ee439) rfl (fun v_ H1 L1 hle hR => ?_)
            obtain ⟨rfl, a439, c439, N439, rfl, rfl, h439⟩ := hR
            have r439 := h439.1
            refine asg rfl rfl ?_
            refine nN ?_
            refine Nb ?_
            refine fun a_ w_ hA hw => ⟨_, _, _, hA.sub ?_, le_105, hw, _, rfl, _, _, _, _, rfl, rfl, r439, rfl⟩
            exact (.cons rfl (.cons rfl (.cons rfl (.cons rfl (.cons rfl (.cons rfl (.cons rfl (.cons rfl (.cons rfl (.cons rfl (.cons rfl (.cons rfl (.nil _)))))))))))))
          · skip
            obtain ⟨a_k9, m_k9, c_k9, N_k9, rfl, rfl, pk90, pk91⟩ := hI
            refine toWp ?_
            have eL422 : B_k6 ++ plainTo (zipped fs_sTopologyDescriptionNode v true (((lT ((T.at 3).at 1))[k6]).at 0)) v 5 ++ (counted true false (lT ((((lT ((T.at 3).at 1))[k6]).at 0).at 5)).length 4) ++ ((lT ((((lT ((T.at 3).at 1))[k6]).at 0).at 5)).take (lT ((((lT ((T.at 3).at 1))[k6]).at 0).at 5)).length).flatMap (GOf (fs_sTopologyDescriptionNode[5]'(by decide)) v true) = B_k6 ++ plainTo (zipped fs_sTopologyDescriptionNode v true (((lT ((T.at 3).at 1))[k6]).at 0)) v 6 := by rw [List.take_length, List.append_assoc]; exact e_104
            rw [eL422] at pk90 pk91
            subst pk91
            refine sr ?_
            refine mv rfl rfl ?_
            refine nl ?_
            refine cdT rfl (by omega) ?_
            refine sr ?_
            refine mv rfl rfl ?_
            refine mv rfl rfl ?_
            refine nc rfl rfl ?_
            refine fa F144_6 rfl rfl ?_
            refine cl rfl rfl rfl (t_lenU (j := 6) (hc_77.mono (le_85.trans (le_96.trans le_106))) rfl (hf_k6_4.mono (le_85.trans (le_96.trans le_106)))) rfl (fun v_ H1 L1 hle hR => ?_)
            obtain ⟨rfl, rfl, rfl⟩ := hR
            have hu449 := ok_80.u
            have hul449 := hu449.2.1
            obtain ⟨hz449a, hz449b⟩ := part_size_plain (by decide) hu449 hB_79
            refine cv Tryz.runUnderlying3 Tryz.runUnderlying62 rfl (w32u (by omega) (by omega)) rfl ?_
            refine ad rfl rfl ((w32u (by omega) (by omega)).trans (Int.zero_add _)) rfl ?_
            refine cl rfl rfl rfl (k_AppendUvarint (n := (((lT ((T.at 3).at 1))[k6]).at 0).u.length) (by omega) pk90 hz449a) rfl (fun v_ H1 L1 hle hR => ?_)
            obtain ⟨rfl, a452, c452, N452, rfl, rfl, h452⟩ := hR
            have r452 := h452.1
            refine asg rfl rfl ?_
            refine nl ?_
            refine rg ?_
            refine mv rfl rfl ?_
            refine nc rfl rfl ?_
            refine fa F144_6 rfl rfl ?_
            refine mv rfl rfl ?_
            refine cl rfl rfl rfl (t_append_each (j := 6) (hc_77.mono (le_85.trans (le_96.trans le_106))) rfl (hf_k6_4.mono (le_85.trans (le_96.trans le_106))) (by omega) r452 (fun p hp => by have := hu449.2.2 p hp; omega) hz449b) rfl (fun v_ H1 L1 le_114 hR => ?_)
            obtain ⟨a457, c457, N457, rfl, rfl, h457⟩ := hR
            have r457 := h457.1
            have eP_115 : B_k6 ++ plainTo (zipped fs_sTopologyDescriptionNode v true (((lT ((T.at 3).at 1))[k6]).at 0)) v 6 ++ uvar (((lT ((T.at 3).at 1))[k6]).at 0).u.length ++ (((lT ((T.at 3).at 1))[k6]).at 0).u.flatMap tagU = B_k6 ++ partB fs_sTopologyDescriptionNode v true (((lT ((T.at 3).at 1))[k6]).at 0) := part_close (B := B_k6) (by decide) hu449
            rw [eP_115] at r457 ⊢
            refine asg rfl rfl ?_
            refine nl ?_
            refine sq ?_
            refine sr ?_
            refine mv rfl rfl ?_
            refine nc rfl rfl ?_
            refine fa F148_1 rfl rfl ?_
            refine asg rfl rfl ?_
            refine nl ?_
            refine sq ?_
            refine sr ?_
            refine mv rfl rfl ?_
            refine nc rfl rfl ?_
            refine fa F144_0 rfl rfl ?_
            refine ld (j := 7) (Says.fz (hc_77.mono (le_85.trans (le_96.trans (le_106.trans le_114))))) Tryz.isAgg9 rfl rfl rfl rfl ?_
            refine asg rfl rfl ?_
            refine nl ?_
            refine sr ?_
            refine mv rfl rfl ?_
            refine nl ?_
            refine cdT rfl (by omega) ?_
            refine rg ?_
            refine mv rfl rfl ?_
            refine mv rfl rfl ?_
            have rp_116 := r457
            rw [e_78] at rp_116 ⊢
            have e_117 : B_k6 ++ plainTo (zipped fs_sTopologyDescriptionGlobalStore v true ((lT ((T.at 3).at 1))[k6])) v 1 ++ (partB fs_sTopologyDescriptionNode v true (((lT ((T.at 3).at 1))[k6]).at 1)) = B_k6 ++ plainTo (zipped fs_sTopologyDescriptionGlobalStore v true ((lT ((T.at 3).at 1))[k6])) v 2 := fold_yes (fs := fs_sTopologyDescriptionGlobalStore) (v := v) (flex := true) (t := ((lT ((T.at 3).at 1))[k6])) (B := B_k6) 1 (by decide) (by decide) (has_yes (show (0 : Int) ≤ v by omega) (show ((-1) : Int) < 0 ∨ v ≤ (-1) by omega)) (FB_part (f := (fs_sTopologyDescriptionGlobalStore[1]'(by decide))) (by decide) (by decide))
            have hB_118 : (B_k6 ++ plainTo (zipped fs_sTopologyDescriptionGlobalStore v true ((lT ((T.at 3).at 1))[k6])) v 1).length + (partB fs_sTopologyDescriptionNode v true (((lT ((T.at 3).at 1))[k6]).at 1)).length ≤ LIM := fold_size e_117 (by decide) hBk6
            have ok_119f := (oek6.get 1 (by decide) (has_yes (show (0 : Int) ≤ v by omega) (show ((-1) : Int) < 0 ∨ v ≤ (-1) by omega)))
            have ok_119 : OkP fs_sTopologyDescriptionNode v (((lT ((T.at 3).at 1))[k6]).at 1) := ok_119f.part rfl (ok_119f.nn (by decide) (by decide))
            obtain ⟨B_120, hdB_120⟩ : ∃ z : List UInt8, z = B_k6 ++ plainTo (zipped fs_sTopologyDescriptionGlobalStore v true ((lT ((T.at 3).at 1))[k6])) v 1 := ⟨_, rfl⟩
            have rbB_120 := rp_116
            rw [← hdB_120] at rbB_120 ⊢
            rw [← hdB_120] at hB_118 e_117
            have ok468 := ok_119.get 0 (by decide) (has_yes (show (0 : Int) ≤ v by omega) (show ((-1) : Int) < 0 ∨ v ≤ (-1) by omega))
            have nn468 := ok468.nn (by decide) (by decide)
            have e_121 : B_120 ++ (counted true false ((((lT ((T.at 3).at 1))[k6]).at 1).at 0).s.length 2 ++ ((((lT ((T.at 3).at 1))[k6]).at 1).at 0).s) = B_120 ++ plainTo (zipped fs_sTopologyDescriptionNode v true (((lT ((T.at 3).at 1))[k6]).at 1)) v 1 := fold_first (fs := fs_sTopologyDescriptionNode) (v := v) (flex := true) (t := (((lT ((T.at 3).at 1))[k6]).at 1)) (B := B_120) 0 rfl (by decide) (by decide) (has_yes (show (0 : Int) ≤ v by omega) (show ((-1) : Int) < 0 ∨ v ≤ (-1) by omega)) (by rw [FB_text (f := (fs_sTopologyDescriptionNode[0]'(by decide))) (by decide) (by decide) ok468, sT_nn nn468, nn468])
            have hs468 := fold_size e_121 (by decide) hB_118
            refine cl rfl rfl rfl (OutK.cast (k_AppendCompactString (x := ((((lT ((T.at 3).at 1))[k6]).at 1).at 0).s) (by have := ok468.s (Or.inl rfl); omega) rbB_120 hs468) e_121) rfl (fun v_ H1 L1 hle hR => ?_)
            obtain ⟨rfl, a468, c468, N468, rfl, rfl, h468⟩ := hR
            have r468 := h468.1
            refine asg rfl rfl ?_
            refine nl ?_
            refine sq ?_
            refine sr ?_
            refine mv rfl rfl ?_
            refine nc rfl rfl ?_
            refine fa F144_1 rfl rfl ?_
            refine ld (j := 8) (Says.fz (hc_77.mono (le_85.trans (le_96.trans (le_106.trans le_114))))) Tryz.isAgg141 rfl rfl rfl rfl ?_
            refine asg rfl rfl ?_
            refine nl ?_
            refine rg ?_
            refine mv rfl rfl ?_
            refine mv rfl rfl ?_
            have ok478 := ok_119.get 1 (by decide) (has_yes (show (0 : Int) ≤ v by omega) (show ((-1) : Int) < 0 ∨ v ≤ (-1) by omega))
            have e_122 : B_120 ++ plainTo (zipped fs_sTopologyDescriptionNode v true (((lT ((T.at 3).at 1))[k6]).at 1)) v 1 ++ (fixed (IntKind.i8.wrap ((((lT ((T.at 3).at 1))[k6]).at 1).at 1).n) 1) = B_120 ++ plainTo (zipped fs_sTopologyDescriptionNode v true (((lT ((T.at 3).at 1))[k6]).at 1)) v 2 := fold_yes (fs := fs_sTopologyDescriptionNode) (v := v) (flex := true) (t := (((lT ((T.at 3).at 1))[k6]).at 1)) (B := B_120) 1 (by decide) (by decide) (has_yes (show (0 : Int) ≤ v by omega) (show ((-1) : Int) < 0 ∨ v ≤ (-1) by omega)) ((FB_int (f := (fs_sTopologyDescriptionNode[1]'(by decide))) (by decide) (by decide)).trans (fixed_i8 _).symm)
            have hs478 := fold_size e_122 (by decide) hB_118
            refine cl rfl rfl rfl (OutK.cast (k_AppendInt8 (u := IntKind.i8.wrap ((((lT ((T.at 3).at 1))[k6]).at 1).at 1).n) r468 hs478) e_122) rfl (fun v_ H1 L1 hle hR => ?_)
            obtain ⟨rfl, a478, c478, N478, rfl, rfl, h478⟩ := hR
            have r478 := h478.1
            refine asg rfl rfl ?_
            refine nl ?_
            refine sq ?_
            refine sr ?_
            refine mv rfl rfl ?_
            refine nc rfl rfl ?_
            refine fa F144_2 rfl rfl ?_
            refine ld (j := 9) (Says.fz (hc_77.mono (le_85.trans (le_96.trans (le_106.trans le_114))))) Tryz.isAgg142 rfl rfl rfl rfl ?_
            refine asg rfl rfl ?_
            refine nl ?_
            refine sq ?_
            refine sr ?_
            refine mv rfl rfl ?_
            refine nl ?_
            refine cdT rfl (by omega) ?_
            refine rg ?_
            refine mv rfl rfl ?_
            refine mv rfl rfl ?_
            refine ls Tryz.runUnderlying142 rfl rfl ?_
            have ok487 := ok_119.get 2 (by decide) (has_yes (show (0 : Int) ≤ v by omega) (show ((-1) : Int) < 0 ∨ v ≤ (-1) by omega))
            have nn487 := ok487.nn (by decide) (by decide)
            have ll487 := lT_len (ok487.len rfl)
            have e_123 : B_120 ++ plainTo (zipped fs_sTopologyDescriptionNode v true (((lT ((T.at 3).at 1))[k6]).at 1)) v 2 ++ (counted true false (lT ((((lT ((T.at 3).at 1))[k6]).at 1).at 2)).length 4 ++ (lT ((((lT ((T.at 3).at 1))[k6]).at 1).at 2)).flatMap (GOf (fs_sTopologyDescriptionNode[2]'(by decide)) v true)) = B_120 ++ plainTo (zipped fs_sTopologyDescriptionNode v true (((lT ((T.at 3).at 1))[k6]).at 1)) v 3 := fold_yes (fs := fs_sTopologyDescriptionNode) (v := v) (flex := true) (t := (((lT ((T.at 3).at 1))[k6]).at 1)) (B := B_120) 2 (by decide) (by decide) (has_yes (show (0 : Int) ≤ v by omega) (show ((-1) : Int) < 0 ∨ v ≤ (-1) by omega)) (by rw [FB_list (f := (fs_sTopologyDescriptionNode[2]'(by decide))) (by decide) (by decide) ok487, nn487])
            have hs487 := fold_size e_123 (by decide) hB_118
            have hc487 : (B_120 ++ plainTo (zipped fs_sTopologyDescriptionNode v true (((lT ((T.at 3).at 1))[k6]).at 1)) v 2).length + (counted true false (lT ((((lT ((T.at 3).at 1))[k6]).at 1).at 2)).length 4).length ≤ LIM := by have h := hs487; simp only [List.length_append] at h ⊢; omega
            refine cl rfl rfl rfl (OutK.cast (k_AppendCompactArrayLen (n := (lT ((((lT ((T.at 3).at 1))[k6]).at 1).at 2)).length) (by omega) r478 hc487) (show _ = B_120 ++ plainTo (zipped fs_sTopologyDescriptionNode v true (((lT ((T.at 3).at 1))[k6]).at 1)) v 2 ++ (counted true false (lT ((((lT ((T.at 3).at 1))[k6]).at 1).at 2)).length 4) from rfl)) rfl (fun v_ H1 L1 hle hR => ?_)
            obtain ⟨rfl, a487, c487, N487, rfl, rfl, h487⟩ := hR
            have r487 := h487.1
            refine asg rfl rfl ?_
            refine nl ?_
            refine sr ?_
            refine mv rfl rfl ?_
            refine ls Tryz.runUnderlying142 rfl rfl ?_
            refine mv rfl rfl ?_
            refine nl ?_
            refine fr ((lT ((((lT ((T.at 3).at 1))[k6]).at 1).at 2)).length) (fun k10 l' H' L' => ∃ (a_k10 : Option Addr), ∃ (m_k10 : Nat), ∃ (c_k10 : Nat), ∃ (N_k10 : Chunk), [(0, .pointer (some ⟨b, 0, none⟩)), (1, .slice a_k10 m_k10 c_k10), (6, .bool (decide ((0 : Int) ≤ v))), (10, .pointer (some ⟨b, 4, none⟩)), (30, .slice a3_1 (lT ((T.at 3).at 1)).length c3_1), (32, .pointer (some ⟨b_71, o_72 + k6 * 15, none⟩)), (46, .pointer (some ⟨b_71, o_72 + k6 * 15 + 7, none⟩)), (49, .slice a_k6_1_2 (lT ((((lT ((T.at 3).at 1))[k6]).at 1).at 2)).length c_k6_1_2), (315, .int .i64 ((lT ((T.at 3).at 1)).length : Int)), (316, .int .i64 (k6 : Int)), (493, .int .i64 ((lT ((((lT ((T.at 3).at 1))[k6]).at 1).at 2)).length : Int))] = l' ∧ N_k10 :: L = L' ∧ Row 5 1 a_k10 m_k10 c_k10 (bytesOf (B_120 ++ plainTo (zipped fs_sTopologyDescriptionNode v true (((lT ((T.at 3).at 1))[k6]).at 1)) v 2 ++ (counted true false (lT ((((lT ((T.at 3).at 1))[k6]).at 1).at 2)).length 4) ++ ((lT ((((lT ((T.at 3).at 1))[k6]).at 1).at 2)).take k10).flatMap (GOf (fs_sTopologyDescriptionNode[2]'(by decide)) v true))) N_k10 ∧ m_k10 = (B_120 ++ plainTo (zipped fs_sTopologyDescriptionNode v true (((lT ((T.at 3).at 1))[k6]).at 1)) v 2 ++ (counted true false (lT ((((lT ((T.at 3).at 1))[k6]).at 1).at 2)).length 4) ++ ((lT ((((lT ((T.at 3).at 1))[k6]).at 1).at 2)).take k10).flatMap (GOf (fs_sTopologyDescriptionNode[2]'(by decide)) v true)).length) [(0, .pointer (some ⟨b, 0, none⟩)), (1, .slice _ _ _), (6, .bool (decide ((0 : Int) ≤ v))), (10, .pointer (some ⟨b, 4, none⟩)), (30, .slice a3_1 (lT ((T.at 3).at 1)).length c3_1), (32, .pointer (some ⟨b_71, o_72 + k6 * 15, none⟩)), (46, .pointer (some ⟨b_71, o_72 + k6 * 15 + 7, none⟩)), (49, .slice a_k6_1_2 (lT ((((lT ((T.at 3).at 1))[k6]).at 1).at 2)).length c_k6_1_2), (315, .int .i64 ((lT ((T.at 3).at 1)).length : Int)), (316, .int .i64 (k6 : Int)), (493, .int .i64 ((lT ((((lT ((T.at 3).at 1))[k6]).at 1).at 2)).length : Int))] (fun k10 l' H' L' h => ?_) (by omega) rfl (.cons rfl (.cons rfl (.cons rfl (.cons rfl (.cons rfl (.cons rfl (.cons rfl (.cons rfl (.cons rfl (.cons rfl (.cons rfl (.nil _)))))))))))) ⟨_, _, _, _, rfl, rfl, (by rw [List.take_zero, List.flatMap_nil, List.append_nil]; exact r487), (by rw [List.take_zero, List.flatMap_nil, List.append_nil])⟩ rfl rfl rfl rfl rfl (fun k10 l' H' L' hk10 le_124 hI => ?_) (fun l' H' L' le_125 hI => ?_)
            · obtain ⟨a_k10, m_k10, c_k10, N_k10, rfl, _⟩ := h; exact ⟨rfl, rfl, rfl, rfl⟩
            · skip
              obtain ⟨a_k10, m_k10, c_k10, N_k10, rfl, rfl, pk100, pk101⟩ := hI
              subst pk101
              refine sr ?_
              refine mv rfl rfl ?_
              refine asg rfl rfl ?_
              refine nl ?_
              refine sr ?_
              refine mv rfl rfl ?_
              refine mv rfl rfl ?_
              obtain ⟨b_126, o_127, e_128, g_129⟩ := (hf_k6_5.mono RText.mono (le_85.trans (le_96.trans (le_106.trans (le_114.trans le_124))))).rows.at_ (ne_nil_of_lt hk10)
              obtain ⟨cs_130, hA_131, hc_132⟩ := g_129 k10 hk10
              refine ix2 Tryz.runUnderlying142 Tryz.sizeOf9 rfl e_128 rfl rfl hk10 rfl ?_
              obtain rfl := hA_131
              refine ld (Says.fz hc_132) Tryz.isAgg9 rfl (Nat.add_zero _).symm rfl rfl ?_
              refine asg rfl rfl ?_
              refine nl ?_
              refine sr ?_
              refine mv rfl rfl ?_
              refine nl ?_
              refine cdT rfl (by omega) ?_
              refine rg ?_
              refine mv rfl rfl ?_
              refine mv rfl rfl ?_
              have oe504 := (ok487.el rfl _ (lT_mem (List.getElem_mem hk10))).1 (by decide)
              have hp504 : (GOf (fs_sTopologyDescriptionNode[2]'(by decide)) v true) ((lT ((((lT ((T.at 3).at 1))[k6]).at 1).at 2))[k10]) = counted true false ((lT ((((lT ((T.at 3).at 1))[k6]).at 1).at 2))[k10]).s.length 2 ++ ((lT ((((lT ((T.at 3).at 1))[k6]).at 1).at 2))[k10]).s := G_text (f := (fs_sTopologyDescriptionNode[2]'(by decide))) (by decide) oe504
              have hs504 := el_size hs487 hk10 hp504
              have ee504 := el_end (B0 := B_120 ++ plainTo (zipped fs_sTopologyDescriptionNode v true (((lT ((T.at 3).at 1))[k6]).at 1)) v 2 ++ (counted true false (lT ((((lT ((T.at 3).at 1))[k6]).at 1).at 2)).length 4)) hk10 hp504
              refine cl rfl rfl rfl (OutK.cast (k_AppendCompactString (x := ((lT ((((lT ((T.at 3).at 1))[k6]).at 1).at 2))[k10]).s) (by omega) pk100 hs504) ee504) rfl (fun v_ H1 L1 hle hR => ?_)
              obtain ⟨rfl, a504, c504, N504, rfl, rfl, h504⟩ := hR
              have r504 := h504.1
              refine asg rfl rfl ?_
              refine nN ?_
              refine Nb ?_
              refine fun a_ w_ hA hw => ⟨_, _, _, hA.sub ?_, le_124, hw, _, rfl, _, _, _, _, rfl, rfl, r504, rfl⟩
              exact (.cons rfl (.cons rfl (.cons rfl (.cons rfl (.cons rfl (.cons rfl (.cons rfl (.cons rfl (.cons rfl (.cons rfl (.cons rfl (.cons rfl (.nil _)))))))))))))
            · skip
              obtain ⟨a_k10, m_k10, c_k10, N_k10, rfl, rfl, pk100, pk101⟩ := hI
              refine toWp ?_
              have eL487 : B_120 ++ plainTo (zipped fs_sTopologyDescriptionNode v true (((lT ((T.at 3).at 1))[k6]).at 1)) v 2 ++ (counted true false (lT ((((lT ((T.at 3).at 1))[k6]).at 1).at 2)).length 4) ++ ((lT ((((lT ((T.at 3).at 1))[k6]).at 1).at 2)).take (lT ((((lT ((T.at 3).at 1))[k6]).at 1).at 2)).length).flatMap (GOf (fs_sTopologyDescriptionNode[2]'(by decide)) v true) = B_120 ++ plainTo (zipped fs_sTopologyDescriptionNode v true (((lT ((T.at 3).at 1))[k6]).at 1)) v 3 := by rw [List.take_length, List.append_assoc]; exact e_123
              rw [eL487] at pk100 pk101
              subst pk101
              refine sq ?_
              refine sr ?_
              refine mv rfl rfl ?_
              refine nc rfl rfl ?_
              refine fa F144_3 rfl rfl ?_
              refine ld (j := 10) (Says.fz (hc_77.mono (le_85.trans (le_96.trans (le_106.trans (le_114.trans le_125)))))) Tryz.isAgg110 rfl rfl rfl rfl ?_
              refine asg rfl rfl ?_
              refine nl ?_
              refine sr ?_
              refine mv rfl rfl ?_
              refine nl ?_
              refine cdT rfl (by omega) ?_
              refine rg ?_
              refine mv rfl rfl ?_
              refine mv rfl rfl ?_
              have ok516 := ok_119.get 3 (by decide) (has_yes (show (0 : Int) ≤ v by omega) (show ((-1) : Int) < 0 ∨ v ≤ (-1) by omega))
              have e_133 : B_120 ++ plainTo (zipped fs_sTopologyDescriptionNode v true (((lT ((T.at 3).at 1))[k6]).at 1)) v 3 ++ (counted true ((((lT ((T.at 3).at 1))[k6]).at 1).at 3).nul (sT ((((lT ((T.at 3).at 1))[k6]).at 1).at 3)).length 2 ++ sT ((((lT ((T.at 3).at 1))[k6]).at 1).at 3)) = B_120 ++ plainTo (zipped fs_sTopologyDescriptionNode v true (((lT ((T.at 3).at 1))[k6]).at 1)) v 4 := fold_yes (fs := fs_sTopologyDescriptionNode) (v := v) (flex := true) (t := (((lT ((T.at 3).at 1))[k6]).at 1)) (B := B_120) 3 (by decide) (by decide) (has_yes (show (0 : Int) ≤ v by omega) (show ((-1) : Int) < 0 ∨ v ≤ (-1) by omega)) (FB_text (f := (fs_sTopologyDescriptionNode[3]'(by decide))) (by decide) (by decide) ok516)
              have hs516 := fold_size e_133 (by decide) hB_118
              refine cl rfl rfl rfl (OutK.cast (k_AppendCompactNullableString (hf_k6_6.mono (le_85.trans (le_96.trans (le_106.trans (le_114.trans le_125))))) (ok516.s (Or.inl rfl)) pk100 hs516) e_133) rfl (fun v_ H1 L1 hle hR => ?_)
              obtain ⟨rfl, a516, c516, N516, rfl, rfl, h516⟩ := hR
              have r516 := h516.1
              refine asg rfl rfl ?_
              refine nl ?_
              refine sq ?_
              refine sr ?_
              refine mv rfl rfl ?_
              refine nc rfl rfl ?_
              refine fa F144_4 rfl rfl ?_
              refine ld (j := 11) (Says.fz (hc_77.mono (le_85.trans (le_96.trans (le_106.trans (le_114.trans le_125)))))) Tryz.isAgg142 rfl rfl rfl rfl ?_
              refine asg rfl rfl ?_
              refine nl ?_
              refine sq ?_
              refine sr ?_
              refine mv rfl rfl ?_
              refine nl ?_
              refine cdT rfl (by omega) ?_
              refine rg ?_
              refine mv rfl rfl ?_
              refine mv rfl rfl ?_
              refine ls Tryz.runUnderlying142 rfl rfl ?_
              have ok528 := ok_119.get 4 (by decide) (has_yes (show (0 : Int) ≤ v by omega) (show ((-1) : Int) < 0 ∨ v ≤ (-1) by omega))
              have nn528 := ok528.nn (by decide) (by decide)
              have ll528 := lT_len (ok528.len rfl)
              have e_134 : B_120 ++ plainTo (zipped fs_sTopologyDescriptionNode v true (((lT ((T.at 3).at 1))[k6]).at 1)) v 4 ++ (counted true false (lT ((((lT ((T.at 3).at 1))[k6]).at 1).at 4)).length 4 ++ (lT ((((lT ((T.at 3).at 1))[k6]).at 1).at 4)).flatMap (GOf (fs_sTopologyDescriptionNode[4]'(by decide)) v true)) = B_120 ++ plainTo (zipped fs_sTopologyDescriptionNode v true (((lT ((T.at 3).at 1))[k6]).at 1)) v 5 := fold_yes (fs := fs_sTopologyDescriptionNode) (v := v) (flex := true) (t := (((lT ((T.at 3).at 1))[k6]).at 1)) (B := B_120) 4 (by decide) (by decide) (has_yes (show (0 : Int) ≤ v by omega) (show ((-1) : Int) < 0 ∨ v ≤ (-1) by omega)) (by rw [FB_list (f := (fs_sTopologyDescriptionNode[4]'(by decide))) (by decide) (by decide) ok528, nn528])
              have hs528 := fold_size e_134 (by decide) hB_118
              have hc528 : (B_120 ++ plainTo (zipped fs_sTopologyDescriptionNode v true (((lT ((T.at 3).at 1))[k6]).at 1)) v 4).length + (counted true false (lT ((((lT ((T.at 3).at 1))[k6]).at 1).at 4)).length 4).length ≤ LIM := by have h := hs528; simp only [List.length_append] at h ⊢; omega
              refine cl rfl rfl rfl (OutK.cast (k_AppendCompactArrayLen (n := (lT ((((lT ((T.at 3).at 1))[k6]).at 1).at 4)).length) (by omega) r516 hc528) (show _ = B_120 ++ plainTo (zipped fs_sTopologyDescriptionNode v true (((lT ((T.at 3).at 1))[k6]).at 1)) v 4 ++ (counted true false (lT ((((lT ((T.at 3).at 1))[k6]).at 1).at 4)).length 4) from rfl)) rfl (fun v_ H1 L1 hle hR => ?_)
              obtain ⟨rfl, a528, c528, N528, rfl, rfl, h528⟩ := hR
              have r528 := h528.1
              refine asg rfl rfl ?_
              refine nl ?_
              refine sr ?_
              refine mv rfl rfl ?_
              refine ls Tryz.runUnderlying142 rfl rfl ?_
              refine mv rfl rfl ?_
              refine nl ?_
              refine fr ((lT ((((lT ((T.at 3).at 1))[k6]).at 1).at 4)).length) (fun k11 l' H' L' => ∃ (a_k11 : Option Addr), ∃ (m_k11 : Nat), ∃ (c_k11 : Nat), ∃ (N_k11 : Chunk), [(0, .pointer (some ⟨b, 0, none⟩)), (1, .slice a_k11 m_k11 c_k11), (6, .bool (decide ((0 : Int) ≤ v))), (10, .pointer (some ⟨b, 4, none⟩)), (30, .slice a3_1 (lT ((T.at 3).at 1)).length c3_1), (32, .pointer (some ⟨b_71, o_72 + k6 * 15, none⟩)), (46, .pointer (some ⟨b_71, o_72 + k6 * 15 + 7, none⟩)), (53, .slice a_k6_1_4 (lT ((((lT ((T.at 3).at 1))[k6]).at 1).at 4)).length c_k6_1_4), (315, .int .i64 ((lT ((T.at 3).at 1)).length : Int)), (316, .int .i64 (k6 : Int)), (534, .int .i64 ((lT ((((lT ((T.at 3).at 1))[k6]).at 1).at 4)).length : Int))] = l' ∧ N_k11 :: L = L' ∧ Row 5 1 a_k11 m_k11 c_k11 (bytesOf (B_120 ++ plainTo (zipped fs_sTopologyDescriptionNode v true (((lT ((T.at 3).at 1))[k6]).at 1)) v 4 ++ (counted true false (lT ((((lT ((T.at 3).at 1))[k6]).at 1).at 4)).length 4) ++ ((lT ((((lT ((T.at 3).at 1))[k6]).at 1).at 4)).take k11).flatMap (GOf (fs_sTopologyDescriptionNode[4]'(by decide)) v true))) N_k11 ∧ m_k11 = (B_120 ++ plainTo (zipped fs_sTopologyDescriptionNode v true (((lT ((T.at 3).at 1))[k6]).at 1)) v 4 ++ (counted true false (lT ((((lT ((T.at 3).at 1))[k6]).at 1).at 4)).length 4) ++ ((lT ((((lT ((T.at 3).at 1))[k6]).at 1).at 4)).take k11).flatMap (GOf (fs_sTopologyDescriptionNode[4]'(by decide)) v true)).length) [(0, .pointer (some ⟨b, 0, none⟩)), (1, .slice _ _ _), (6, .bool (decide ((0 : Int) ≤ v))), (10, .pointer (some ⟨b, 4, none⟩)), (30, .slice a3_1 (lT ((T.at 3).at 1)).length c3_1), (32, .pointer (some ⟨b_71, o_72 + k6 * 15, none⟩)), (46, .pointer (some ⟨b_71, o_72 + k6 * 15 + 7, none⟩)), (53, .slice a_k6_1_4 (lT ((((lT ((T.at 3).at 1))[k6]).at 1).at 4)).length c_k6_1_4), (315, .int .i64 ((lT ((T.at 3).at 1)).length : Int)), (316, .int .i64 (k6 : Int)), (534, .int .i64 ((lT ((((lT ((T.at 3).at 1))[k6]).at 1).at 4)).length : Int))] (fun k11 l' H' L' h => ?_) (by omega) rfl (.cons rfl (.cons rfl (.cons rfl (.cons rfl (.cons rfl (.cons rfl (.cons rfl (.cons rfl (.cons rfl (.cons rfl (.cons rfl (.nil _)))))))))))) ⟨_, _, _, _, rfl, rfl, (by rw [List.take_zero, List.flatMap_nil, List.append_nil]; exact r528), (by rw [List.take_zero, List.flatMap_nil, List.append_nil])⟩ rfl rfl rfl rfl rfl (fun k11 l' H' L' hk11 le_135 hI => ?_) (fun l' H' L' le_136 hI => ?_)
              · obtain ⟨a_k11, m_k11, c_k11, N_k11, rfl, _⟩ := h; exact ⟨rfl, rfl, rfl, rfl⟩
              · skip
                obtain ⟨a_k11, m_k11, c_k11, N_k11, rfl, rfl, pk110, pk111⟩ := hI
                subst pk111
                refine sr ?_
                refine mv rfl rfl ?_
                refine asg rfl rfl ?_
                refine nl ?_
                refine sr ?_
                refine mv rfl rfl ?_
                refine mv rfl rfl ?_
                obtain ⟨b_137, o_138, e_139, g_140⟩ := (hf_k6_7.mono RText.mono (le_85.trans (le_96.trans (le_106.trans (le_114.trans (le_125.trans le_135)))))).rows.at_ (ne_nil_of_lt hk11)
                obtain ⟨cs_141, hA_142, hc_143⟩ := g_140 k11 hk11
                refine ix2 Tryz.runUnderlying142 Tryz.sizeOf9 rfl e_139 rfl rfl hk11 rfl ?_
                obtain rfl := hA_142
                refine ld (Says.fz hc_143) Tryz.isAgg9 rfl (Nat.add_zero _).symm rfl rfl ?_
                refine asg rfl rfl ?_
                refine nl ?_
                refine sr ?_
                refine mv rfl rfl ?_
                refine nl ?_
                refine cdT rfl (by omega) ?_
                refine rg ?_
                refine mv rfl rfl ?_
                refine mv rfl rfl ?_
                have oe545 := (ok528.el rfl _ (lT_mem (List.getElem_mem hk11))).1 (by decide)
                have hp545 : (GOf (fs_sTopologyDescriptionNode[4]'(by decide)) v true) ((lT ((((lT ((T.at 3).at 1))[k6]).at 1).at 4))[k11]) = counted true false ((lT ((((lT ((T.at 3).at 1))[k6]).at 1).at 4))[k11]).s.length 2 ++ ((lT ((((lT ((T.at 3).at 1))[k6]).at 1).at 4))[k11]).s := G_text (f := (fs_sTopologyDescriptionNode[4]'(by decide))) (by decide) oe545
                have hs545 := el_size hs528 hk11 hp545
                have ee545 := el_end (B0 := B_120 ++ plainTo (zipped fs_sTopologyDescriptionNode v true (((lT ((T.at 3).at 1))[k6]).at 1)) v 4 ++ (counted true false (lT ((((lT ((T.at 3).at 1))[k6]).at 1).at 4)).length 4)) hk11 hp545
                refine cl rfl rfl rfl (OutK.cast (k_AppendCompactString (x := ((lT ((((lT ((T.at 3).at 1))[k6]).at 1).at 4))[k11]).s) (by omega) pk110 hs545) ee545) rfl (fun v_ H1 L1 hle hR => ?_)
                obtain ⟨rfl, a545, c545, N545, rfl, rfl, h545⟩ := hR
                have r545 := h545.1
                refine asg rfl rfl ?_
                refine nN ?_
                refine Nb ?_
                refine fun a_ w_ hA hw => ⟨_, _, _, hA.sub ?_, le_135, hw, _, rfl, _, _, _, _, rfl, rfl, r545, rfl⟩
                exact (.cons rfl (.cons rfl (.cons rfl (.cons rfl (.cons rfl (.cons rfl (.cons rfl (.cons rfl (.cons rfl (.cons rfl (.cons rfl (.cons rfl (.nil _)))))))))))))
              · skip
                obtain ⟨a_k11, m_k11, c_k11, N_k11, rfl, rfl, pk110, pk111⟩ := hI
                refine toWp ?_
                have eL528 : B_120 ++ plainTo (zipped fs_sTopologyDescriptionNode v true (((lT ((T.at 3).at 1))[k6]).at 1)) v 4 ++ (counted true false (lT ((((lT ((T.at 3).at 1))[k6]).at 1).at 4)).length 4) ++ ((lT ((((lT ((T.at 3).at 1))[k6]).at 1).at 4)).take (lT ((((lT ((T.at 3).at 1))[k6]).at 1).at 4)).length).flatMap (GOf (fs_sTopologyDescriptionNode[4]'(by decide)) v true) = B_120 ++ plainTo (zipped fs_sTopologyDescriptionNode v true (((lT ((T.at 3).at 1))[k6]).at 1)) v 5 := by rw [List.take_length, List.append_assoc]; exact e_134
                rw [eL528] at pk110 pk111
                subst pk111
                refine sq ?_
                refine sr ?_
                refine mv rfl rfl ?_
                refine nc rfl rfl ?_
                refine fa F144_5 rfl rfl ?_
                refine ld (j := 12) (Says.fz (hc_77.mono (le_85.trans (le_96.trans (le_106.trans (le_114.trans (le_125.trans le_136))))))) Tryz.isAgg142 rfl rfl rfl rfl ?_
                refine asg rfl rfl ?_
                refine nl ?_
                refine sq ?_
                refine sr ?_
                refine mv rfl rfl ?_
                refine nl ?_
                refine cdT rfl (by omega) ?_
                refine rg ?_
                refine mv rfl rfl ?_
                refine mv rfl rfl ?_
                refine ls Tryz.runUnderlying142 rfl rfl ?_
                have ok558 := ok_119.get 5 (by decide) (has_yes (show (0 : Int) ≤ v by omega) (show ((-1) : Int) < 0 ∨ v ≤ (-1) by omega))
                have nn558 := ok558.nn (by decide) (by decide)
                have ll558 := lT_len (ok558.len rfl)
                have e_144 : B_120 ++ plainTo (zipped fs_sTopologyDescriptionNode v true (((lT ((T.at 3).at 1))[k6]).at 1)) v 5 ++ (counted true false (lT ((((lT ((T.at 3).at 1))[k6]).at 1).at 5)).length 4 ++ (lT ((((lT ((T.at 3).at 1))[k6]).at 1).at 5)).flatMap (GOf (fs_sTopologyDescriptionNode[5]'(by decide)) v true)) = B_120 ++ plainTo (zipped fs_sTopologyDescriptionNode v true (((lT ((T.at 3).at 1))[k6]).at 1)) v 6 := fold_yes (fs := fs_sTopologyDescriptionNode) (v := v) (flex := true) (t := (((lT ((T.at 3).at 1))[k6]).at 1)) (B := B_120) 5 (by decide) (by decide) (has_yes (show (0 : Int) ≤ v by omega) (show ((-1) : Int) < 0 ∨ v ≤ (-1) by omega)) (by rw [FB_list (f := (fs_sTopologyDescriptionNode[5]'(by decide))) (by decide) (by decide) ok558, nn558])
                have hs558 := fold_size e_144 (by decide) hB_118
                have hc558 : (B_120 ++ plainTo (zipped fs_sTopologyDescriptionNode v true (((lT ((T.at 3).at 1))[k6]).at 1)) v 5).length + (counted true false (lT ((((lT ((T.at 3).at 1))[k6]).at 1).at 5)).length 4).length ≤ LIM := by have h := hs558; simp only [List.length_append] at h ⊢; omega
                refine cl rfl rfl rfl (OutK.cast (k_AppendCompactArrayLen (n := (lT ((((lT ((T.at 3).at 1))[k6]).at 1).at 5)).length) (by omega) pk110 hc558) (show _ = B_120 ++ plainTo (zipped fs_sTopologyDescriptionNode v true (((lT ((T.at 3).at 1))[k6]).at 1)) v 5 ++ (counted true false (lT ((((lT ((T.at 3).at 1))[k6]).at 1).at 5)).length 4) from rfl)) rfl (fun v_ H1 L1 hle hR => ?_)
                obtain ⟨rfl, a558, c558, N558, rfl, rfl, h558⟩ := hR
                have r558 := h558.1
                refine asg rfl rfl ?_
                refine nl ?_
                refine sr ?_
                refine mv rfl rfl ?_
                refine ls Tryz.runUnderlying142 rfl rfl ?_
                refine mv rfl rfl ?_
                refine nl ?_
                refine fr ((lT ((((lT ((T.at 3).at 1))[k6]).at 1).at 5)).length) (fun k12 l' H' L' => ∃ (a_k12 : Option Addr), ∃ (m_k12 : Nat), ∃ (c_k12 : Nat), ∃ (N_k12 : Chunk), [(0, .pointer (some ⟨b, 0, none⟩)), (1, .slice a_k12 m_k12 c_k12), (6, .bool (decide ((0 : Int) ≤ v))), (10, .pointer (some ⟨b, 4, none⟩)), (30, .slice a3_1 (lT ((T.at 3).at 1)).length c3_1), (32, .pointer (some ⟨b_71, o_72 + k6 * 15, none⟩)), (46, .pointer (some ⟨b_71, o_72 + k6 * 15 + 7, none⟩)), (56, .slice a_k6_1_5 (lT ((((lT ((T.at 3).at 1))[k6]).at 1).at 5)).length c_k6_1_5), (315, .int .i64 ((lT ((T.at 3).at 1)).length : Int)), (316, .int .i64 (k6 : Int)), (564, .int .i64 ((lT ((((lT ((T.at 3).at 1))[k6]).at 1).at 5)).length : Int))] = l' ∧ N_k12 :: L = L' ∧ Row 5 1 a_k12 m_k12 c_k12 (bytesOf (B_120 ++ plainTo (zipped fs_sTopologyDescriptionNode v true (((lT ((T.at 3).at 1))[k6]).at 1)) v 5 ++ (counted true false (lT ((((lT ((T.at 3).at 1))[k6]).at 1).at 5)).length 4) ++ ((lT ((((lT ((T.at 3).at 1))[k6]).at 1).at 5)).take k12).flatMap (GOf (fs_sTopologyDescriptionNode[5]'(by decide)) v true))) N_k12 ∧ m_k12 = (B_120 ++ plainTo (zipped fs_sTopologyDescriptionNode v true (((lT ((T.at 3).at 1))[k6]).at 1)) v 5 ++ (counted true false (lT ((((lT ((T.at 3).at 1))[k6]).at 1).at 5)).length 4) ++ ((lT ((((lT ((T.at 3).at 1))[k6]).at 1).at 5)).take k12).flatMap (GOf (fs_sTopologyDescriptionNode[5]'(by decide)) v true)).length) [(0, .pointer (some ⟨b, 0, none⟩)), (1, .slice _ _ _), (6, .bool (decide ((0 : Int) ≤ v))), (10, .pointer (some ⟨b, 4, none⟩)), (30, .slice a3_1 (lT ((T.at 3).at 1)).length c3_1), (32, .pointer (some ⟨b_71, o_72 + k6 * 15, none⟩)), (46, .pointer (some ⟨b_71, o_72 + k6 * 15 + 7, none⟩)), (56, .slice a_k6_1_5 (lT ((((lT ((T.at 3).at 1))[k6]).at 1).at 5)).length c_k6_1_5), (315, .int .i64 ((lT ((T.at 3).at 1)).length : Int)), (316, .int .i64 (k6 : Int)), (564, .int .i64 ((lT ((((lT ((T.at 3).at 1))[k6]).at 1).at 5)).length : Int))] (fun k12 l' H' L' h => ?_) (by omega) rfl (.cons rfl (.cons rfl (.cons rfl (.cons rfl (.cons rfl (.cons rfl (.cons rfl (.cons rfl (.cons rfl (.cons rfl (.cons rfl (.nil _)))))))))))) ⟨_, _, _, _, rfl, rfl, (by rw [List.take_zero, List.flatMap_nil, List.append_nil]; exact r558), (by rw [List.take_zero, List.flatMap_nil, List.append_nil])⟩ rfl rfl rfl rfl rfl (fun k12 l' H' L' hk12 le_145 hI => ?_) (fun l' H' L' le_146 hI => ?_)
                · obtain ⟨a_k12, m_k12, c_k12, N_k12, rfl, _⟩ := h; exact ⟨rfl, rfl, rfl, rfl⟩
                · skip
                  obtain ⟨a_k12, m_k12, c_k12, N_k12, rfl, rfl, pk120, pk121⟩ := hI
                  subst pk121
                  refine sr ?_
                  refine mv rfl rfl ?_
                  refine asg rfl rfl ?_
                  refine nl ?_
                  refine sr ?_
                  refine mv rfl rfl ?_
                  refine mv rfl rfl ?_
                  obtain ⟨b_147, o_148, e_149, g_150⟩ := (hf_k6_8.mono RText.mono (le_85.trans (le_96.trans (le_106.trans (le_114.trans (le_125.trans (le_136.trans le_145))))))).rows.at_ (ne_nil_of_lt hk12)
                  obtain ⟨cs_151, hA_152, hc_153⟩ := g_150 k12 hk12
                  refine ix2 Tryz.runUnderlying142 Tryz.sizeOf9 rfl e_149 rfl rfl hk12 rfl ?_
                  obtain rfl := hA_152
                  refine ld (Says.fz hc_153) Tryz.isAgg9 rfl (Nat.add_zero _).symm rfl rfl ?_
                  refine asg rfl rfl ?_
                  refine nl ?_
                  refine sr ?_
                  refine mv rfl rfl ?_
                  refine nl ?_
                  refine cdT rfl (by omega) ?_
                  refine rg ?_
                  refine mv rfl rfl ?_
                  refine mv rfl rfl ?_
                  have oe575 := (ok558.el rfl _ (lT_mem (List.getElem_mem hk12))).1 (by decide)
                  have hp575 : (GOf (fs_sTopologyDescriptionNode[5]'(by decide)) v true) ((lT ((((lT ((T.at 3).at 1))[k6]).at 1).at 5))[k12]) = counted true false ((lT ((((lT ((T.at 3).at 1))[k6]).at 1).at 5))[k12]).s.length 2 ++ ((lT ((((lT ((T.at 3).at 1))[k6]).at 1).at 5))[k12]).s := G_text (f := (fs_sTopologyDescriptionNode[5]'(by decide))) (by decide) oe575
                  have hs575 := el_size hs558 hk12 hp575
                  have ee575 := el_end (B0 := B_120 ++ plainTo (zipped fs_sTopologyDescriptionNode v true (((lT ((T.at 3).at 1))[k6]).at 1)) v 5 ++ (counted true false (lT ((((lT ((T.at 3).at 1))[k6]).at 1).at 5)).length 4)) hk12 hp575
                  refine cl rfl rfl rfl (OutK.cast (k_AppendCompactString (x := ((lT ((((lT ((T.at 3).at 1))[k6]).at 1).at 5))[k12]).s) (by omega) pk120 hs575) ee575) rfl (fun v_ H1 L1 hle hR => ?_)
                  obtain ⟨rfl, a575, c575, N575, rfl, rfl, h575⟩ := hR
                  have r575 := h575.1
                  refine asg rfl rfl ?_
                  refine nN ?_
                  refine Nb ?_
                  refine fun a_ w_ hA hw => ⟨_, _, _, hA.sub ?_, le_145, hw, _, rfl, _, _, _, _, rfl, rfl, r575, rfl⟩
                  exact (.cons rfl (.cons rfl (.cons rfl (.cons rfl (.cons rfl (.cons rfl (.cons rfl (.cons rfl (.cons rfl (.cons rfl (.cons rfl (.cons rfl (.nil _)))))))))))))
                · skip
                  obtain ⟨a_k12, m_k12, c_k12, N_k12, rfl, rfl, pk120, pk121⟩ := hI
                  refine toWp ?_
                  have eL558 : B_120 ++ plainTo (zipped fs_sTopologyDescriptionNode v true (((lT ((T.at 3).at 1))[k6]).at 1)) v 5 ++ (counted true false (lT ((((lT ((T.at 3).at 1))[k6]).at 1).at 5)).length 4) ++ ((lT ((((lT ((T.at 3).at 1))[k6]).at 1).at 5)).take (lT ((((lT ((T.at 3).at 1))[k6]).at 1).at 5)).length).flatMap (GOf (fs_sTopologyDescriptionNode[5]'(by decide)) v true) = B_120 ++ plainTo (zipped fs_sTopologyDescriptionNode v true (((lT ((T.at 3).at 1))[k6]).at 1)) v 6 := by rw [List.take_length, List.append_assoc]; exact e_144
                  rw [eL558] at pk120 pk121
                  subst pk121
                  refine sr ?_
                  refine mv rfl rfl ?_
                  refine nl ?_
                  refine cdT rfl (by omega) ?_
                  refine sr ?_
                  refine mv rfl rfl ?_
                  refine mv rfl rfl ?_
                  refine nc rfl rfl ?_
                  refine fa F144_6 rfl rfl ?_
                  refine cl rfl rfl rfl (t_lenU (j := 13) (hc_77.mono (le_85.trans (le_96.trans (le_106.trans (le_114.trans (le_125.trans (le_136.trans le_146))))))) rfl (hf_k6_9.mono (le_85.trans (le_96.trans (le_106.trans (le_114.trans (le_125.trans (le_136.trans le_146)))))))) rfl (fun v_ H1 L1 hle hR => ?_)
                  obtain ⟨rfl, rfl, rfl⟩ := hR
                  have hu585 := ok_119.u
                  have hul585 := hu585.2.1
                  obtain ⟨hz585a, hz585b⟩ := part_size_plain (by decide) hu585 hB_118
                  refine cv Tryz.runUnderlying3 Tryz.runUnderlying62 rfl (w32u (by omega) (by omega)) rfl ?_
                  refine ad rfl rfl ((w32u (by omega) (by omega)).trans (Int.zero_add _)) rfl ?_
                  refine cl rfl rfl rfl (k_AppendUvarint (n := (((lT ((T.at 3).at 1))[k6]).at 1).u.length) (by omega) pk120 hz585a) rfl (fun v_ H1 L1 hle hR => ?_)
                  obtain ⟨rfl, a588, c588, N588, rfl, rfl, h588⟩ := hR
                  have r588 := h588.1
                  refine asg rfl rfl ?_
                  refine nl ?_
                  refine rg ?_
                  refine mv rfl rfl ?_
                  refine nc rfl rfl ?_
                  refine fa F144_6 rfl rfl ?_
                  refine mv rfl rfl ?_
                  refine cl rfl rfl rfl (t_append_each (j := 13) (hc_77.mono (le_85.trans (le_96.trans (le_106.trans (le_114.trans (le_125.trans (le_136.trans le_146))))))) rfl (hf_k6_9.mono (le_85.trans (le_96.trans (le_106.trans (le_114.trans (le_125.trans (le_136.trans le_146))))))) (by omega) r588 (fun p hp => by have := hu585.2.2 p hp; omega) hz585b) rfl (fun v_ H1 L1 le_154 hR => ?_)
                  obtain ⟨a593, c593, N593, rfl, rfl, h593⟩ := hR
                  have r593 := h593.1
                  have eP_155 : B_120 ++ plainTo (zipped fs_sTopologyDescriptionNode v true (((lT ((T.at 3).at 1))[k6]).at 1)) v 6 ++ uvar (((lT ((T.at 3).at 1))[k6]).at 1).u.length ++ (((lT ((T.at 3).at 1))[k6]).at 1).u.flatMap tagU = B_120 ++ partB fs_sTopologyDescriptionNode v true (((lT ((T.at 3).at 1))[k6]).at 1) := part_close (B := B_120) (by decide) hu585
                  rw [eP_155] at r593 ⊢
                  refine asg rfl rfl ?_
                  refine nl ?_
                  refine sr ?_
                  refine mv rfl rfl ?_
                  refine nl ?_
                  refine cdT rfl (by omega) ?_
                  refine sr ?_
                  refine mv rfl rfl ?_
                  refine mv rfl rfl ?_
                  refine nc rfl rfl ?_
                  refine fa F148_2 rfl rfl ?_
                  have rp_156 := r593
                  rw [e_117] at rp_156 ⊢
                  refine cl rfl rfl rfl (t_lenU (j := 14) (hc_77.mono (le_85.trans (le_96.trans (le_106.trans (le_114.trans (le_125.trans (le_136.trans (le_146.trans le_154)))))))) rfl (hf_k6_10.mono (le_85.trans (le_96.trans (le_106.trans (le_114.trans (le_125.trans (le_136.trans (le_146.trans le_154))))))))) rfl (fun v_ H1 L1 hle hR => ?_)
                  obtain ⟨rfl, rfl, rfl⟩ := hR
                  have hu599 := oek6.u
                  have hul599 := hu599.2.1
                  obtain ⟨hz599a, hz599b⟩ := part_size_plain (by decide) hu599 hBk6
                  refine cv Tryz.runUnderlying3 Tryz.runUnderlying62 rfl (w32u (by omega) (by omega)) rfl ?_
                  refine ad rfl rfl ((w32u (by omega) (by omega)).trans (Int.zero_add _)) rfl ?_
                  refine cl rfl rfl rfl (k_AppendUvarint (n := ((lT ((T.at 3).at 1))[k6]).u.length) (by omega) rp_156 hz599a) rfl (fun v_ H1 L1 hle hR => ?_)
                  obtain ⟨rfl, a602, c602, N602, rfl, rfl, h602⟩ := hR
                  have r602 := h602.1
                  refine asg rfl rfl ?_
                  refine nl ?_
                  refine rg ?_
                  refine mv rfl rfl ?_
                  refine nc rfl rfl ?_
                  refine fa F148_2 rfl rfl ?_
                  refine mv rfl rfl ?_
                  refine cl rfl rfl rfl (t_append_each (j := 14) (hc_77.mono (le_85.trans (le_96.trans (le_106.trans (le_114.trans (le_125.trans (le_136.trans (le_146.trans le_154)))))))) rfl (hf_k6_10.mono (le_85.trans (le_96.trans (le_106.trans (le_114.trans (le_125.trans (le_136.trans (le_146.trans le_154)))))))) (by omega) r602 (fun p hp => by have := hu599.2.2 p hp; omega) hz599b) rfl (fun v_ H1 L1 le_157 hR => ?_)
                  obtain ⟨a607, c607, N607, rfl, rfl, h607⟩ := hR
                  have r607 := h607.1
                  have eP_158 : B_k6 ++ plainTo (zipped fs_sTopologyDescriptionGlobalStore v true ((lT ((T.at 3).at 1))[k6])) v 2 ++ uvar ((lT ((T.at 3).at 1))[k6]).u.length ++ ((lT ((T.at 3).at 1))[k6]).u.flatMap tagU = B_k6 ++ partB fs_sTopologyDescriptionGlobalStore v true ((lT ((T.at 3).at 1))[k6]) := part_close (B := B_k6) (by decide) hu599
                  rw [eP_158] at r607 ⊢
                  refine asg rfl rfl ?_
                  refine nN ?_
                  refine Nb ?_
                  have ee_159 : B_k6 ++ partB fs_sTopologyDescriptionGlobalStore v true ((lT ((T.at 3).at 1))[k6]) = B_7 ++ plainTo (zipped fs_sTopologyDescription v true (T.at 3)) v 1 ++ (counted true false (lT ((T.at 3).at 1)).length 4) ++ ((lT ((T.at 3).at 1)).take (k6 + 1)).flatMap (GOf (fs_sTopologyDescription[1]'(by decide)) v true) := by rw [hdk6]; exact el_end (B0 := B_7 ++ plainTo (zipped fs_sTopologyDescription v true (T.at 3)) v 1 ++ (counted true false (lT ((T.at 3).at 1)).length 4)) (G := (GOf (fs_sTopologyDescription[1]'(by decide)) v true)) hk6 (GOf_part (by decide) _)
                  refine fun a_ w_ hA hw => ⟨_, _, _, hA.sub ?_, (le_69.trans (le_85.trans (le_96.trans (le_106.trans (le_114.trans (le_125.trans (le_136.trans (le_146.trans (le_154.trans le_157))))))))), hw, _, rfl, _, _, _, _, rfl, rfl, (by rw [← ee_159]; exact r607), (by rw [← ee_159])⟩
                  exact (.cons rfl (.cons rfl (.cons rfl (.cons rfl (.cons rfl (.cons rfl (.cons rfl (.nil _))))))))
    · skip
      obtain ⟨a_k6, m_k6, c_k6, N_k6, rfl, rfl, pk60, pk61⟩ := hI
      refine toWp ?_
      have eL309 : B_7 ++ plainTo (zipped fs_sTopologyDescription v true (T.at 3)) v 1 ++ (counted true false (lT ((T.at 3).at 1)).length 4) ++ ((lT ((T.at 3).at 1)).take (lT ((T.at 3).at 1)).length).flatMap (GOf (fs_sTopologyDescription[1]'(by decide)) v true) = B_7 ++ plainTo (zipped fs_sTopologyDescription v true (T.at 3)) v 2 := by rw [List.take_length, List.append_assoc]; exact e_68
      rw [eL309] at pk60 pk61
      subst pk61
      refine sr ?_
      refine mv rfl rfl ?_
      refine nl ?_
      refine cdT rfl (by omega) ?_
      refine sr ?_
      refine mv rfl rfl ?_
      refine mv rfl rfl ?_
      refine nc rfl rfl ?_
      refine fa F75_2 rfl rfl ?_
      refine cl rfl rfl rfl (t_lenU (j := 6) (hv.mono (le_10.trans le_70)) rfl (hf2.mono (le_10.trans le_70))) rfl (fun v_ H1 L1 hle hR => ?_)
      obtain ⟨rfl, rfl, rfl⟩ := hR
      have hu614 := ok_6.u
      have hul614 := hu614.2.1
      obtain ⟨hz614a, hz614b⟩ := part_size_plain (by decide) hu614 hB_5
      refine cv Tryz.runUnderlying3 Tryz.runUnderlying62 rfl (w32u (by omega) (by omega)) rfl ?_
      refine ad rfl rfl ((w32u (by omega) (by omega)).trans (Int.zero_add _)) rfl ?_
      refine cl rfl rfl rfl (k_AppendUvarint (n := (T.at 3).u.length) (by omega) pk60 hz614a) rfl (fun v_ H1 L1 hle hR => ?_)
      obtain ⟨rfl, a617, c617, N617, rfl, rfl, h617⟩ := hR
      have r617 := h617.1
      refine asg rfl rfl ?_
      refine nl ?_
      refine rg ?_
      refine mv rfl rfl ?_
      refine nc rfl rfl ?_
      refine fa F75_2 rfl rfl ?_
      refine mv rfl rfl ?_
      refine cl rfl rfl rfl (t_append_each (j := 6) (hv.mono (le_10.trans le_70)) rfl (hf2.mono (le_10.trans le_70)) (by omega) r617 (fun p hp => by have := hu614.2.2 p hp; omega) hz614b) rfl (fun v_ H1 L1 le_160 hR => ?_)
      obtain ⟨a622, c622, N622, rfl, rfl, h622⟩ := hR
      have r622 := h622.1
      have eP_161 : B_7 ++ plainTo (zipped fs_sTopologyDescription v true (T.at 3)) v 2 ++ uvar (T.at 3).u.length ++ (T.at 3).u.flatMap tagU = B_7 ++ partB fs_sTopologyDescription v true (T.at 3) := part_close (B := B_7) (by decide) hu614
      rw [eP_161] at r622 ⊢
      refine asg rfl rfl ?_
      refine nl ?_
      refine sq ?_
      refine sr ?_
      refine mv rfl rfl ?_
      refine nl ?_
      refine cdT rfl (by omega) ?_
      refine sr ?_
      refine mv rfl rfl ?_
      refine mv rfl rfl ?_
      refine nc rfl rfl ?_
      refine fa0 F77_5 rfl rfl ?_
      have rp_162 := r622
      rw [e_4] at rp_162 ⊢
      refine cl rfl rfl rfl (t_lenU (j := 7) (hv.mono (le_10.trans (le_70.trans le_160))) rfl (hf3.mono (le_10.trans (le_70.trans le_160)))) rfl (fun v_ H1 L1 hle hR => ?_)
      obtain ⟨rfl, rfl, rfl⟩ := hR
      have hu628 := hok.u
      have hul628 := hu628.2.1
      obtain ⟨hz628a, hz628b⟩ := part_size_plain (by decide) hu628 hb
      refine cv Tryz.runUnderlying3 Tryz.runUnderlying62 rfl (w32u (by omega) (by omega)) rfl ?_
      refine ad rfl rfl ((w32u (by omega) (by omega)).trans (Int.zero_add _)) rfl ?_
      refine cl rfl rfl rfl (k_AppendUvarint (n := T.u.length) (by omega) rp_162 hz628a) rfl (fun v_ H1 L1 hle hR => ?_)
      obtain ⟨rfl, a631, c631, N631, rfl, rfl, h631⟩ := hR
      have r631 := h631.1
      refine asg rfl rfl ?_
      refine nl ?_
      refine rg ?_
      refine mv rfl rfl ?_
      refine nc rfl rfl ?_
      refine fa0 F77_5 rfl rfl ?_
      refine mv rfl rfl ?_
      refine cl rfl rfl rfl (t_append_each (j := 7) (hv.mono (le_10.trans (le_70.trans le_160))) rfl (hf3.mono (le_10.trans (le_70.trans le_160))) (by omega) r631 (fun p hp => by have := hu628.2.2 p hp; omega) hz628b) rfl (fun v_ H1 L1 le_163 hR => ?_)
      obtain ⟨a636, c636, N636, rfl, rfl, h636⟩ := hR
      have r636 := h636.1
      have eP_164 : D ++ plainTo (zipped fs_StreamsGroupTopologyDescriptionUpdateRequest v true T) v 4 ++ uvar T.u.length ++ T.u.flatMap tagU = D ++ partB fs_StreamsGroupTopologyDescriptionUpdateRequest v true T := part_close (B := D) (by decide) hu628
      rw [eP_164] at r636 ⊢
      refine asg rfl rfl ?_
      refine nl ?_
      refine sr ?_
      refine mv rfl rfl ?_
      refine asg rfl rfl ?_
      refine nl ?_
      exact rT rfl rfl (le_10.trans (le_70.trans (le_160.trans le_163))) (fun _ _ h => h) (OutB.of r636 rfl)
end Go.Sx

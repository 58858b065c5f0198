import Derived.Test.YtahmkeoedpghjabGreatBOffsetFetchResponse
import Derived.KernelRfl
set_option linter.unusedVariables false
set_option linter.unusedSimpArgs false
set_option maxRecDepth 100000
set_option maxHeartbeats 20000000
namespace Go.Sx
open Go.Proofs
theorem app_OffsetFetchResponse_f {H : Fz} {L : Own} {a : Option Addr} {cap b : Nat} {D : List UInt8} {N : Chunk} {cs : List Value} {T : Tr} {v : Int} (hr : Row 5 1 a D.length cap (bytesOf D) N) (hv : H.at b 0 cs) (hA : At_OffsetFetchResponse v H T cs) (hok : OkP fs_OffsetFetchResponse v T) (h0 : 0 ≤ v) (h1 : v ≤ 5) (hb : D.length + (partB fs_OffsetFetchResponse v false T).length ≤ LIM) :
    Fn Tryz.prog 32 [.pointer (some ⟨b, 0, none⟩), .slice a D.length cap] H (N :: L) (fun r H' L' => OutB 5 L (D ++ partB fs_OffsetFetchResponse v false T) r L') := by
  obtain ⟨a1, c1, a3, c3, mt, rfl, hf0, hf1, hf2⟩ := hA
  refine Fn.mk Tryz.call32 Tryz.func32 rfl Tryz.ntmps32 rfl ?_
  refine sr ?_
  refine asg rfl rfl ?_
  refine nl ?_
  refine sr ?_
  refine mv rfl rfl ?_
  refine nc rfl rfl ?_
  refine fa0 F58_0 rfl rfl ?_
  refine ld (Says.fz hv) Tryz.isAgg45 rfl (Nat.zero_add _).symm rfl rfl ?_
  refine asg rfl rfl ?_
  refine nl ?_
  refine sr ?_
  refine mv rfl rfl ?_
  refine nl ?_
  refine sr ?_
  refine mv rfl rfl ?_
  refine ge rfl rfl rfl ?_
  refine asg rfl rfl ?_
  refine nl ?_
  refine sr ?_
  refine mv rfl rfl ?_
  refine nl ?_
  refine sq ?_
  refine sr ?_
  refine mv rfl rfl ?_
  refine ge rfl rfl rfl ?_
  refine nl ?_
  refine cutT (fun l' H' L' => ∃ (aj_1 : Option Addr), ∃ (mj_1 : Nat), ∃ (cj_1 : Nat), ∃ (Nj_1 : Chunk), [(0, .pointer (some ⟨b, 0, none⟩)), (1, .slice aj_1 mj_1 cj_1), (5, .int .i16 v), (6, .bool (decide ((6 : Int) ≤ v)))] = l' ∧ Nj_1 :: L = L' ∧ Row 5 1 aj_1 mj_1 cj_1 (bytesOf (D ++ plainTo (zipped fs_OffsetFetchResponse v false T) v 1)) Nj_1 ∧ mj_1 = (D ++ plainTo (zipped fs_OffsetFetchResponse v false T) v 1).length) ?_ (fun l' H' L' le_2 hI => ?_)
  · skip
    refine cd rfl (fun h48 => ?_) (fun h48 => ?_)
    · skip
      refine sr ?_
      refine mv rfl rfl ?_
      refine nc rfl rfl ?_
      refine fa0 F58_1 rfl rfl ?_
      refine ld (Says.fz hv) Tryz.isAgg21 rfl (Nat.zero_add _).symm rfl rfl ?_
      refine asg rfl rfl ?_
      refine nl ?_
      refine rg ?_
      refine mv rfl rfl ?_
      refine mv rfl rfl ?_
      have ok55 := hok.get 0 (by decide) (has_yes (show (3 : Int) ≤ v by omega) (show ((-1) : Int) < 0 ∨ v ≤ (-1) by omega))
      have e_3 : D ++ (fixed (IntKind.i32.wrap (T.at 0).n) 4) = D ++ plainTo (zipped fs_OffsetFetchResponse v false T) v 1 := fold_first (fs := fs_OffsetFetchResponse) (v := v) (flex := false) (t := T) (B := D) 0 rfl (by decide) (by decide) (has_yes (show (3 : Int) ≤ v by omega) (show ((-1) : Int) < 0 ∨ v ≤ (-1) by omega)) ((FB_int (f := (fs_OffsetFetchResponse[0]'(by decide))) (by decide) (by decide)).trans (fixed_i32 _).symm)
      have hs55 := fold_size e_3 (by decide) hb
      refine cl rfl rfl rfl (OutK.cast (k_AppendInt32 (u := IntKind.i32.wrap (T.at 0).n) hr hs55) e_3) rfl (fun v_ H1 L1 hle hR => ?_)
      obtain ⟨rfl, a55, c55, N55, rfl, rfl, h55⟩ := hR
      have r55 := h55.1
      refine asg rfl rfl ?_
      refine nN ?_
      refine fun a_ w_ hA hw => ⟨_, _, _, hA.sub ?_, (Fz.le.refl _), hw, _, _, _, _, rfl, rfl, r55, rfl⟩
      exact (.cons rfl (.cons rfl (.cons rfl (.cons rfl (.nil _)))))
    · skip
      refine skN ?_
      have es_4 : plainTo (zipped fs_OffsetFetchResponse v false T) v 1 = plainTo (zipped fs_OffsetFetchResponse v false T) v 0 := (piece_no2 (fs := fs_OffsetFetchResponse) (v := v) (flex := false) (t := T) (k := 0) (by decide) (has_no (show v < (3 : Int) ∨ ((0 : Int) ≤ (-1) ∧ (-1) < v) by omega)))
      have eX_5 : D = D ++ plainTo (zipped fs_OffsetFetchResponse v false T) v 1 := by rw [es_4, plain0, List.append_nil]
      refine fun a_ w_ hA hw => ⟨_, _, _, hA.sub ?_, (Fz.le.refl _), hw, _, _, _, _, rfl, rfl, (by rw [← eX_5]; exact hr), (by rw [← eX_5])⟩
      exact (.cons rfl (.cons rfl (.cons rfl (.cons rfl (.nil _)))))
  · skip
    obtain ⟨aj_1, mj_1, cj_1, Nj_1, rfl, rfl, pj0, pj1⟩ := hI
    subst pj1
    have rj_1 := pj0
    refine sq ?_
    refine sr ?_
    refine mv rfl rfl ?_
    refine ge rfl rfl rfl ?_
    refine mv rfl rfl ?_
    refine spl (t := 58) rfl (fun _ => ?_) (fun hn_ => absurd (by omega) hn_)
    refine gr rfl rfl ?_
    refine mv rfl rfl ?_
    refine gr rfl rfl ?_
    refine le rfl rfl rfl ?_
    refine pk rfl rfl rfl rfl ?_
    refine nl ?_
    refine cdT rfl (by omega) ?_
    refine sr ?_
    refine mv rfl rfl ?_
    refine nc rfl rfl ?_
    refine fa0 F58_2 rfl rfl ?_
    refine ld (Says.fz (hv.mono le_2)) Tryz.isAgg52 rfl (Nat.zero_add _).symm rfl rfl ?_
    refine asg rfl rfl ?_
    refine nl ?_
    refine sq ?_
    refine sr ?_
    refine mv rfl rfl ?_
    refine nl ?_
    refine cdF rfl (by omega) ?_
    refine rg ?_
    refine mv rfl rfl ?_
    refine mv rfl rfl ?_
    refine ls Tryz.runUnderlying52 rfl rfl ?_
    have ok74 := hok.get 1 (by decide) (has_yes (show (0 : Int) ≤ v by omega) (show (7 : Int) < 0 ∨ v ≤ 7 by omega))
    have nn74 := ok74.nn (by decide) (by decide)
    have ll74 := lT_len (ok74.len rfl)
    have e_6 : D ++ plainTo (zipped fs_OffsetFetchResponse v false T) v 1 ++ (counted false false (lT (T.at 1)).length 4 ++ (lT (T.at 1)).flatMap (GOf (fs_OffsetFetchResponse[1]'(by decide)) v false)) = D ++ plainTo (zipped fs_OffsetFetchResponse v false T) v 2 := fold_yes (fs := fs_OffsetFetchResponse) (v := v) (flex := false) (t := T) (B := D) 1 (by decide) (by decide) (has_yes (show (0 : Int) ≤ v by omega) (show (7 : Int) < 0 ∨ v ≤ 7 by omega)) (by rw [FB_list (f := (fs_OffsetFetchResponse[1]'(by decide))) (by decide) (by decide) ok74, nn74])
    have hs74 := fold_size e_6 (by decide) hb
    have hc74 : (D ++ plainTo (zipped fs_OffsetFetchResponse v false T) v 1).length + (counted false false (lT (T.at 1)).length 4).length ≤ LIM := by have h := hs74; simp only [List.length_append] at h ⊢; omega
    refine cl rfl rfl rfl (OutK.cast (k_AppendArrayLen (u := ((lT (T.at 1)).length : Int)) rj_1 hc74) (show _ = D ++ plainTo (zipped fs_OffsetFetchResponse v false T) v 1 ++ (counted false false (lT (T.at 1)).length 4) from rfl)) rfl (fun v_ H1 L1 hle hR => ?_)
    obtain ⟨rfl, a74, c74, N74, rfl, rfl, h74⟩ := hR
    have r74 := h74.1
    refine asg rfl rfl ?_
    refine nl ?_
    refine sr ?_
    refine mv rfl rfl ?_
    refine ls Tryz.runUnderlying52 rfl rfl ?_
    refine mv rfl rfl ?_
    refine nl ?_
    refine fr ((lT (T.at 1)).length) (fun k1 l' H' L' => ∃ (a_k1 : Option Addr), ∃ (m_k1 : Nat), ∃ (c_k1 : Nat), ∃ (N_k1 : Chunk), [(0, .pointer (some ⟨b, 0, none⟩)), (1, .slice a_k1 m_k1 c_k1), (5, .int .i16 v), (6, .bool (decide ((6 : Int) ≤ v))), (8, .slice a1 (lT (T.at 1)).length c1), (76, .int .i64 ((lT (T.at 1)).length : Int))] = l' ∧ N_k1 :: L = L' ∧ Row 5 1 a_k1 m_k1 c_k1 (bytesOf (D ++ plainTo (zipped fs_OffsetFetchResponse v false T) v 1 ++ (counted false false (lT (T.at 1)).length 4) ++ ((lT (T.at 1)).take k1).flatMap (GOf (fs_OffsetFetchResponse[1]'(by decide)) v false))) N_k1 ∧ m_k1 = (D ++ plainTo (zipped fs_OffsetFetchResponse v false T) v 1 ++ (counted false false (lT (T.at 1)).length 4) ++ ((lT (T.at 1)).take k1).flatMap (GOf (fs_OffsetFetchResponse[1]'(by decide)) v false)).length) [(0, .pointer (some ⟨b, 0, none⟩)), (1, .slice _ _ _), (5, .int .i16 v), (6, .bool (decide ((6 : Int) ≤ v))), (8, .slice a1 (lT (T.at 1)).length c1), (76, .int .i64 ((lT (T.at 1)).length : Int))] (fun k1 l' H' L' h => ?_) (by omega) rfl (.cons rfl (.cons rfl (.cons rfl (.cons rfl (.cons rfl (.cons rfl (.nil _))))))) ⟨_, _, _, _, rfl, rfl, (by rw [List.take_zero, List.flatMap_nil, List.append_nil]; exact r74), (by rw [List.take_zero, List.flatMap_nil, List.append_nil])⟩ rfl rfl rfl rfl rfl (fun k1 l' H' L' hk1 le_7 hI => ?_) (fun l' H' L' le_8 hI => ?_)
    · obtain ⟨a_k1, m_k1, c_k1, N_k1, rfl, _⟩ := h; exact ⟨rfl, rfl, rfl, rfl⟩
    · skip
      obtain ⟨a_k1, m_k1, c_k1, N_k1, rfl, rfl, pk10, pk11⟩ := hI
      subst pk11
      refine sr ?_
      refine mv rfl rfl ?_
      refine asg rfl rfl ?_
      refine nl ?_
      refine sr ?_
      refine mv rfl rfl ?_
      refine mv rfl rfl ?_
      obtain ⟨b_9, o_10, e_11, g_12⟩ := (hf0.mono At_OffsetFetchResponseTopic.mono (le_2.trans le_7)).rows.at_ (ne_nil_of_lt hk1)
      obtain ⟨cs_13, hA_14, hc_15⟩ := g_12 k1 hk1
      refine ix2 Tryz.runUnderlying52 Tryz.sizeOf98 rfl e_11 rfl rfl hk1 rfl ?_
      obtain ⟨a_k1_1, c_k1_1, m_k1_t, rfl, hf_k1_0, hf_k1_1⟩ := hA_14
      have oek1 := (ok74.el rfl _ (lT_mem (List.getElem_mem hk1))).2 rfl
      obtain ⟨B_k1, hdk1⟩ : ∃ z : List UInt8, z = D ++ plainTo (zipped fs_OffsetFetchResponse v false T) v 1 ++ (counted false false (lT (T.at 1)).length 4) ++ ((lT (T.at 1)).take k1).flatMap (GOf (fs_OffsetFetchResponse[1]'(by decide)) v false) := ⟨_, rfl⟩
      have rbk1 := pk10
      rw [← hdk1] at rbk1 ⊢
      have hBk1 : B_k1.length + (partB fs_sOffsetFetchResponseTopic v false ((lT (T.at 1))[k1])).length ≤ LIM := by rw [hdk1]; exact el_size hs74 hk1 (GOf_part (by decide) _)
      refine asg rfl rfl ?_
      refine nl ?_
      refine sq ?_
      refine sr ?_
      refine mv rfl rfl ?_
      refine nc rfl rfl ?_
      refine fa F98_0 rfl rfl ?_
      refine ld (Says.fz hc_15) Tryz.isAgg9 rfl (Nat.add_zero _).symm rfl rfl ?_
      refine asg rfl rfl ?_
      refine nl ?_
      refine sr ?_
      refine mv rfl rfl ?_
      refine nl ?_
      refine cdF rfl (by omega) ?_
      refine rg ?_
      refine mv rfl rfl ?_
      refine mv rfl rfl ?_
      have ok93 := oek1.get 0 (by decide) (has_yes (show (0 : Int) ≤ v by omega) (show ((-1) : Int) < 0 ∨ v ≤ (-1) by omega))
      have nn93 := ok93.nn (by decide) (by decide)
      have e_16 : B_k1 ++ (counted false false (((lT (T.at 1))[k1]).at 0).s.length 2 ++ (((lT (T.at 1))[k1]).at 0).s) = B_k1 ++ plainTo (zipped fs_sOffsetFetchResponseTopic v false ((lT (T.at 1))[k1])) v 1 := fold_first (fs := fs_sOffsetFetchResponseTopic) (v := v) (flex := false) (t := ((lT (T.at 1))[k1])) (B := B_k1) 0 rfl (by decide) (by decide) (has_yes (show (0 : Int) ≤ v by omega) (show ((-1) : Int) < 0 ∨ v ≤ (-1) by omega)) (by rw [FB_text (f := (fs_sOffsetFetchResponseTopic[0]'(by decide))) (by decide) (by decide) ok93, sT_nn nn93, nn93])
      have hs93 := fold_size e_16 (by decide) hBk1
      refine cl rfl rfl rfl (OutK.cast (k_AppendString (x := (((lT (T.at 1))[k1]).at 0).s) rbk1 hs93) e_16) rfl (fun v_ H1 L1 hle hR => ?_)
      obtain ⟨rfl, a93, c93, N93, rfl, rfl, h93⟩ := hR
      have r93 := h93.1
      refine asg rfl rfl ?_
      refine nl ?_
      refine sq ?_
      refine sr ?_
      refine mv rfl rfl ?_
      refine nc rfl rfl ?_
      refine fa F98_1 rfl rfl ?_
      refine ld (Says.fz hc_15) Tryz.isAgg96 rfl rfl rfl rfl ?_
      refine asg rfl rfl ?_
      refine nl ?_
      refine sq ?_
      refine sr ?_
      refine mv rfl rfl ?_
      refine nl ?_
      refine cdF rfl (by omega) ?_
      refine rg ?_
      refine mv rfl rfl ?_
      refine mv rfl rfl ?_
      refine ls Tryz.runUnderlying96 rfl rfl ?_
      have ok106 := oek1.get 1 (by decide) (has_yes (show (0 : Int) ≤ v by omega) (show ((-1) : Int) < 0 ∨ v ≤ (-1) by omega))
      have nn106 := ok106.nn (by decide) (by decide)
      have ll106 := lT_len (ok106.len rfl)
      have e_17 : B_k1 ++ plainTo (zipped fs_sOffsetFetchResponseTopic v false ((lT (T.at 1))[k1])) v 1 ++ (counted false false (lT (((lT (T.at 1))[k1]).at 1)).length 4 ++ (lT (((lT (T.at 1))[k1]).at 1)).flatMap (GOf (fs_sOffsetFetchResponseTopic[1]'(by decide)) v false)) = B_k1 ++ plainTo (zipped fs_sOffsetFetchResponseTopic v false ((lT (T.at 1))[k1])) v 2 := fold_yes (fs := fs_sOffsetFetchResponseTopic) (v := v) (flex := false) (t := ((lT (T.at 1))[k1])) (B := B_k1) 1 (by decide) (by decide) (has_yes (show (0 : Int) ≤ v by omega) (show ((-1) : Int) < 0 ∨ v ≤ (-1) by omega)) (by rw [FB_list (f := (fs_sOffsetFetchResponseTopic[1]'(by decide))) (by decide) (by decide) ok106, nn106])
      have hs106 := fold_size e_17 (by decide) hBk1
      have hc106 : (B_k1 ++ plainTo (zipped fs_sOffsetFetchResponseTopic v false ((lT (T.at 1))[k1])) v 1).length + (counted false false (lT (((lT (T.at 1))[k1]).at 1)).length 4).length ≤ LIM := by have h := hs106; simp only [List.length_append] at h ⊢; omega
      refine cl rfl rfl rfl (OutK.cast (k_AppendArrayLen (u := ((lT (((lT (T.at 1))[k1]).at 1)).length : Int)) r93 hc106) (show _ = B_k1 ++ plainTo (zipped fs_sOffsetFetchResponseTopic v false ((lT (T.at 1))[k1])) v 1 ++ (counted false false (lT (((lT (T.at 1))[k1]).at 1)).length 4) from rfl)) rfl (fun v_ H1 L1 hle hR => ?_)
      obtain ⟨rfl, a106, c106, N106, rfl, rfl, h106⟩ := hR
      have r106 := h106.1
      refine asg rfl rfl ?_
      refine nl ?_
      refine sr ?_
      refine mv rfl rfl ?_
      refine ls Tryz.runUnderlying96 rfl rfl ?_
      refine mv rfl rfl ?_
      refine nl ?_
      refine fr ((lT (((lT (T.at 1))[k1]).at 1)).length) (fun k2 l' H' L' => ∃ (a_k2 : Option Addr), ∃ (m_k2 : Nat), ∃ (c_k2 : Nat), ∃ (N_k2 : Chunk), [(0, .pointer (some ⟨b, 0, none⟩)), (1, .slice a_k2 m_k2 c_k2), (5, .int .i16 v), (6, .bool (decide ((6 : Int) ≤ v))), (8, .slice a1 (lT (T.at 1)).length c1), (10, .pointer (some ⟨b_9, o_10 + k1 * 3, none⟩)), (12, .slice a_k1_1 (lT (((lT (T.at 1))[k1]).at 1)).length c_k1_1), (76, .int .i64 ((lT (T.at 1)).length : Int)), (77, .int .i64 (k1 : Int)), (108, .int .i64 ((lT (((lT (T.at 1))[k1]).at 1)).length : Int))] = l' ∧ N_k2 :: L = L' ∧ Row 5 1 a_k2 m_k2 c_k2 (bytesOf (B_k1 ++ plainTo (zipped fs_sOffsetFetchResponseTopic v false ((lT (T.at 1))[k1])) v 1 ++ (counted false false (lT (((lT (T.at 1))[k1]).at 1)).length 4) ++ ((lT (((lT (T.at 1))[k1]).at 1)).take k2).flatMap (GOf (fs_sOffsetFetchResponseTopic[1]'(by decide)) v false))) N_k2 ∧ m_k2 = (B_k1 ++ plainTo (zipped fs_sOffsetFetchResponseTopic v false ((lT (T.at 1))[k1])) v 1 ++ (counted false false (lT (((lT (T.at 1))[k1]).at 1)).length 4) ++ ((lT (((lT (T.at 1))[k1]).at 1)).take k2).flatMap (GOf (fs_sOffsetFetchResponseTopic[1]'(by decide)) v false)).length) [(0, .pointer (some ⟨b, 0, none⟩)), (1, .slice _ _ _), (5, .int .i16 v), (6, .bool (decide ((6 : Int) ≤ v))), (8, .slice a1 (lT (T.at 1)).length c1), (10, .pointer (some ⟨b_9, o_10 + k1 * 3, none⟩)), (12, .slice a_k1_1 (lT (((lT (T.at 1))[k1]).at 1)).length c_k1_1), (76, .int .i64 ((lT (T.at 1)).length : Int)), (77, .int .i64 (k1 : Int)), (108, .int .i64 ((lT (((lT (T.at 1))[k1]).at 1)).length : Int))] (fun k2 l' H' L' h => ?_) (by omega) rfl (.cons rfl (.cons rfl (.cons rfl (.cons rfl (.cons rfl (.cons rfl (.cons rfl (.cons rfl (.cons rfl (.cons rfl (.nil _))))))))))) ⟨_, _, _, _, rfl, rfl, (by rw [List.take_zero, List.flatMap_nil, List.append_nil]; exact r106), (by rw [List.take_zero, List.flatMap_nil, List.append_nil])⟩ rfl rfl rfl rfl rfl (fun k2 l' H' L' hk2 le_18 hI => ?_) (fun l' H' L' le_19 hI => ?_)
      · obtain ⟨a_k2, m_k2, c_k2, N_k2, rfl, _⟩ := h; exact ⟨rfl, rfl, rfl, rfl⟩
      · skip
        obtain ⟨a_k2, m_k2, c_k2, N_k2, rfl, rfl, pk20, pk21⟩ := hI
        subst pk21
        refine sr ?_
        refine mv rfl rfl ?_
        refine asg rfl rfl ?_
        refine nl ?_
        refine sr ?_
        refine mv rfl rfl ?_
        refine mv rfl rfl ?_
        obtain ⟨b_20, o_21, e_22, g_23⟩ := (hf_k1_0.mono At_OffsetFetchResponseTopicPartition.mono le_18).rows.at_ (ne_nil_of_lt hk2)
        obtain ⟨cs_24, hA_25, hc_26⟩ := g_23 k2 hk2
        refine ix2 Tryz.runUnderlying96 Tryz.sizeOf112 rfl e_22 rfl rfl hk2 rfl ?_
        obtain ⟨p_k2_3, m_k2_t, rfl, hf_k2_0, hf_k2_1⟩ := hA_25
        have oek2 := (ok106.el rfl _ (lT_mem (List.getElem_mem hk2))).2 rfl
        obtain ⟨B_k2, hdk2⟩ : ∃ z : List UInt8, z = B_k1 ++ plainTo (zipped fs_sOffsetFetchResponseTopic v false ((lT (T.at 1))[k1])) v 1 ++ (counted false false (lT (((lT (T.at 1))[k1]).at 1)).length 4) ++ ((lT (((lT (T.at 1))[k1]).at 1)).take k2).flatMap (GOf (fs_sOffsetFetchResponseTopic[1]'(by decide)) v false) := ⟨_, rfl⟩
        have rbk2 := pk20
        rw [← hdk2] at rbk2 ⊢
        have hBk2 : B_k2.length + (partB fs_sOffsetFetchResponseTopicPartition v false ((lT (((lT (T.at 1))[k1]).at 1))[k2])).length ≤ LIM := by rw [hdk2]; exact el_size hs106 hk2 (GOf_part (by decide) _)
        refine asg rfl rfl ?_
        refine nl ?_
        refine sq ?_
        refine sr ?_
        refine mv rfl rfl ?_
        refine nc rfl rfl ?_
        refine fa F112_0 rfl rfl ?_
        refine ld (Says.fz hc_26) Tryz.isAgg21 rfl (Nat.add_zero _).symm rfl rfl ?_
        refine asg rfl rfl ?_
        refine nl ?_
        refine rg ?_
        refine mv rfl rfl ?_
        refine mv rfl rfl ?_
        have ok121 := oek2.get 0 (by decide) (has_yes (show (0 : Int) ≤ v by omega) (show ((-1) : Int) < 0 ∨ v ≤ (-1) by omega))
        have e_27 : B_k2 ++ (fixed (IntKind.i32.wrap (((lT (((lT (T.at 1))[k1]).at 1))[k2]).at 0).n) 4) = B_k2 ++ plainTo (zipped fs_sOffsetFetchResponseTopicPartition v false ((lT (((lT (T.at 1))[k1]).at 1))[k2])) v 1 := fold_first (fs := fs_sOffsetFetchResponseTopicPartition) (v := v) (flex := false) (t := ((lT (((lT (T.at 1))[k1]).at 1))[k2])) (B := B_k2) 0 rfl (by decide) (by decide) (has_yes (show (0 : Int) ≤ v by omega) (show ((-1) : Int) < 0 ∨ v ≤ (-1) by omega)) ((FB_int (f := (fs_sOffsetFetchResponseTopicPartition[0]'(by decide))) (by decide) (by decide)).trans (fixed_i32 _).symm)
        have hs121 := fold_size e_27 (by decide) hBk2
        refine cl rfl rfl rfl (OutK.cast (k_AppendInt32 (u := IntKind.i32.wrap (((lT (((lT (T.at 1))[k1]).at 1))[k2]).at 0).n) rbk2 hs121) e_27) rfl (fun v_ H1 L1 hle hR => ?_)
        obtain ⟨rfl, a121, c121, N121, rfl, rfl, h121⟩ := hR
        have r121 := h121.1
        refine asg rfl rfl ?_
        refine nl ?_
        refine sq ?_
        refine sr ?_
        refine mv rfl rfl ?_
        refine nc rfl rfl ?_
        refine fa F112_1 rfl rfl ?_
        refine ld (Says.fz hc_26) Tryz.isAgg2 rfl rfl rfl rfl ?_
        refine asg rfl rfl ?_
        refine nl ?_
        refine rg ?_
        refine mv rfl rfl ?_
        refine mv rfl rfl ?_
        have ok128 := oek2.get 1 (by decide) (has_yes (show (0 : Int) ≤ v by omega) (show ((-1) : Int) < 0 ∨ v ≤ (-1) by omega))
        have e_28 : B_k2 ++ plainTo (zipped fs_sOffsetFetchResponseTopicPartition v false ((lT (((lT (T.at 1))[k1]).at 1))[k2])) v 1 ++ (fixed ((((lT (((lT (T.at 1))[k1]).at 1))[k2]).at 1).n) 8) = B_k2 ++ plainTo (zipped fs_sOffsetFetchResponseTopicPartition v false ((lT (((lT (T.at 1))[k1]).at 1))[k2])) v 2 := fold_yes (fs := fs_sOffsetFetchResponseTopicPartition) (v := v) (flex := false) (t := ((lT (((lT (T.at 1))[k1]).at 1))[k2])) (B := B_k2) 1 (by decide) (by decide) (has_yes (show (0 : Int) ≤ v by omega) (show ((-1) : Int) < 0 ∨ v ≤ (-1) by omega)) ((FB_int (f := (fs_sOffsetFetchResponseTopicPartition[1]'(by decide))) (by decide) (by decide)).trans rfl)
        have hs128 := fold_size e_28 (by decide) hBk2
        refine cl rfl rfl rfl (OutK.cast (k_AppendInt64 (u := (((lT (((lT (T.at 1))[k1]).at 1))[k2]).at 1).n) r121 hs128) e_28) rfl (fun v_ H1 L1 hle hR => ?_)
        obtain ⟨rfl, a128, c128, N128, rfl, rfl, h128⟩ := hR
        have r128 := h128.1
        refine asg rfl rfl ?_
        refine nl ?_
        refine sq ?_
        refine sr ?_
        refine mv rfl rfl ?_
        refine ge rfl rfl rfl ?_
        refine nl ?_
        refine cutT (fun l' H' L' => ∃ (aj_29 : Option Addr), ∃ (mj_29 : Nat), ∃ (cj_29 : Nat), ∃ (Nj_29 : Chunk), [(0, .pointer (some ⟨b, 0, none⟩)), (1, .slice aj_29 mj_29 cj_29), (5, .int .i16 v), (6, .bool (decide ((6 : Int) ≤ v))), (8, .slice a1 (lT (T.at 1)).length c1), (10, .pointer (some ⟨b_9, o_10 + k1 * 3, none⟩)), (12, .slice a_k1_1 (lT (((lT (T.at 1))[k1]).at 1)).length c_k1_1), (14, .pointer (some ⟨b_20, o_21 + k2 * 6, none⟩)), (76, .int .i64 ((lT (T.at 1)).length : Int)), (77, .int .i64 (k1 : Int)), (108, .int .i64 ((lT (((lT (T.at 1))[k1]).at 1)).length : Int)), (109, .int .i64 (k2 : Int))] = l' ∧ Nj_29 :: L = L' ∧ Row 5 1 aj_29 mj_29 cj_29 (bytesOf (B_k2 ++ plainTo (zipped fs_sOffsetFetchResponseTopicPartition v false ((lT (((lT (T.at 1))[k1]).at 1))[k2])) v 3)) Nj_29 ∧ mj_29 = (B_k2 ++ plainTo (zipped fs_sOffsetFetchResponseTopicPartition v false ((lT (((lT (T.at 1))[k1]).at 1))[k2])) v 3).length) ?_ (fun l' H' L' le_30 hI => ?_)
        · skip
          refine cd rfl (fun h130 => ?_) (fun h130 => ?_)
          · skip
            refine sr ?_
            refine mv rfl rfl ?_
            refine nc rfl rfl ?_
            refine fa F112_2 rfl rfl ?_
            refine ld (Says.fz hc_26) Tryz.isAgg21 rfl rfl rfl rfl ?_
            refine asg rfl rfl ?_
            refine nl ?_
            refine rg ?_
            refine mv rfl rfl ?_
            refine mv rfl rfl ?_
            have ok137 := oek2.get 2 (by decide) (has_yes (show (5 : Int) ≤ v by omega) (show ((-1) : Int) < 0 ∨ v ≤ (-1) by omega))
            have e_31 : B_k2 ++ plainTo (zipped fs_sOffsetFetchResponseTopicPartition v false ((lT (((lT (T.at 1))[k1]).at 1))[k2])) v 2 ++ (fixed (IntKind.i32.wrap (((lT (((lT (T.at 1))[k1]).at 1))[k2]).at 2).n) 4) = B_k2 ++ plainTo (zipped fs_sOffsetFetchResponseTopicPartition v false ((lT (((lT (T.at 1))[k1]).at 1))[k2])) v 3 := fold_yes (fs := fs_sOffsetFetchResponseTopicPartition) (v := v) (flex := false) (t := ((lT (((lT (T.at 1))[k1]).at 1))[k2])) (B := B_k2) 2 (by decide) (by decide) (has_yes (show (5 : Int) ≤ v by omega) (show ((-1) : Int) < 0 ∨ v ≤ (-1) by omega)) ((FB_int (f := (fs_sOffsetFetchResponseTopicPartition[2]'(by decide))) (by decide) (by decide)).trans (fixed_i32 _).symm)
            have hs137 := fold_size e_31 (by decide) hBk2
            refine cl rfl rfl rfl (OutK.cast (k_AppendInt32 (u := IntKind.i32.wrap (((lT (((lT (T.at 1))[k1]).at 1))[k2]).at 2).n) r128 hs137) e_31) rfl (fun v_ H1 L1 hle hR => ?_)
            obtain ⟨rfl, a137, c137, N137, rfl, rfl, h137⟩ := hR
            have r137 := h137.1
            refine asg rfl rfl ?_
            refine nN ?_
            refine fun a_ w_ hA hw => ⟨_, _, _, hA.sub ?_, (Fz.le.refl _), hw, _, _, _, _, rfl, rfl, r137, rfl⟩
            exact (.cons rfl (.cons rfl (.cons rfl (.cons rfl (.cons rfl (.cons rfl (.cons rfl (.cons rfl (.cons rfl (.cons rfl (.cons rfl (.cons rfl (.nil _)))))))))))))
          · skip
            refine skN ?_
            have es_32 : plainTo (zipped fs_sOffsetFetchResponseTopicPartition v false ((lT (((lT (T.at 1))[k1]).at 1))[k2])) v 3 = plainTo (zipped fs_sOffsetFetchResponseTopicPartition v false ((lT (((lT (T.at 1))[k1]).at 1))[k2])) v 2 := (piece_no2 (fs := fs_sOffsetFetchResponseTopicPartition) (v := v) (flex := false) (t := ((lT (((lT (T.at 1))[k1]).at 1))[k2])) (k := 2) (by decide) (has_no (show v < (5 : Int) ∨ ((0 : Int) ≤ (-1) ∧ (-1) < v) by omega)))
            have eX_33 : B_k2 ++ plainTo (zipped fs_sOffsetFetchResponseTopicPartition v false ((lT (((lT (T.at 1))[k1]).at 1))[k2])) v 2 = B_k2 ++ plainTo (zipped fs_sOffsetFetchResponseTopicPartition v false ((lT (((lT (T.at 1))[k1]).at 1))[k2])) v 3 := by rw [es_32]
            refine fun a_ w_ hA hw => ⟨_, _, _, hA.sub ?_, (Fz.le.refl _), hw, _, _, _, _, rfl, rfl, (by rw [← eX_33]; exact r128), (by rw [← eX_33])⟩
            exact (.cons rfl (.cons rfl (.cons rfl (.cons rfl (.cons rfl (.cons rfl (.cons rfl (.cons rfl (.cons rfl (.cons rfl (.cons rfl (.cons rfl (.nil _)))))))))))))
        · skip
          obtain ⟨aj_29, mj_29, cj_29, Nj_29, rfl, rfl, pj0, pj1⟩ := hI
          subst pj1
          have rj_29 := pj0
          refine sq ?_
          refine sr ?_
          refine mv rfl rfl ?_
          refine nc rfl rfl ?_
          refine fa F112_3 rfl rfl ?_
          refine ld (Says.fz (hc_26.mono le_30)) Tryz.isAgg110 rfl rfl rfl rfl ?_
          refine asg rfl rfl ?_
          refine nl ?_
          refine sr ?_
          refine mv rfl rfl ?_
          refine nl ?_
          refine cdF rfl (by omega) ?_
          refine rg ?_
          refine mv rfl rfl ?_
          refine mv rfl rfl ?_
          have ok148 := oek2.get 3 (by decide) (has_yes (show (0 : Int) ≤ v by omega) (show ((-1) : Int) < 0 ∨ v ≤ (-1) by omega))
          have e_34 : B_k2 ++ plainTo (zipped fs_sOffsetFetchResponseTopicPartition v false ((lT (((lT (T.at 1))[k1]).at 1))[k2])) v 3 ++ (counted false (((lT (((lT (T.at 1))[k1]).at 1))[k2]).at 3).nul (sT (((lT (((lT (T.at 1))[k1]).at 1))[k2]).at 3)).length 2 ++ sT (((lT (((lT (T.at 1))[k1]).at 1))[k2]).at 3)) = B_k2 ++ plainTo (zipped fs_sOffsetFetchResponseTopicPartition v false ((lT (((lT (T.at 1))[k1]).at 1))[k2])) v 4 := fold_yes (fs := fs_sOffsetFetchResponseTopicPartition) (v := v) (flex := false) (t := ((lT (((lT (T.at 1))[k1]).at 1))[k2])) (B := B_k2) 3 (by decide) (by decide) (has_yes (show (0 : Int) ≤ v by omega) (show ((-1) : Int) < 0 ∨ v ≤ (-1) by omega)) (FB_text (f := (fs_sOffsetFetchResponseTopicPartition[3]'(by decide))) (by decide) (by decide) ok148)
          have hs148 := fold_size e_34 (by decide) hBk2
          refine cl rfl rfl rfl (OutK.cast (k_AppendNullableString (hf_k2_0.mono le_30) (ok148.s (Or.inl rfl)) rj_29 hs148) e_34) rfl (fun v_ H1 L1 hle hR => ?_)
          obtain ⟨rfl, a148, c148, N148, rfl, rfl, h148⟩ := hR
          have r148 := h148.1
          refine asg rfl rfl ?_
          refine nl ?_
          refine sq ?_
          refine sr ?_
          refine mv rfl rfl ?_
          refine nc rfl rfl ?_
          refine fa F112_4 rfl rfl ?_
          refine ld (Says.fz (hc_26.mono le_30)) Tryz.isAgg45 rfl rfl rfl rfl ?_
          refine asg rfl rfl ?_
          refine nl ?_
          refine rg ?_
          refine mv rfl rfl ?_
          refine mv rfl rfl ?_
          have ok155 := oek2.get 4 (by decide) (has_yes (show (0 : Int) ≤ v by omega) (show ((-1) : Int) < 0 ∨ v ≤ (-1) by omega))
          have e_35 : B_k2 ++ plainTo (zipped fs_sOffsetFetchResponseTopicPartition v false ((lT (((lT (T.at 1))[k1]).at 1))[k2])) v 4 ++ (fixed (IntKind.i16.wrap (((lT (((lT (T.at 1))[k1]).at 1))[k2]).at 4).n) 2) = B_k2 ++ plainTo (zipped fs_sOffsetFetchResponseTopicPartition v false ((lT (((lT (T.at 1))[k1]).at 1))[k2])) v 5 := fold_yes (fs := fs_sOffsetFetchResponseTopicPartition) (v := v) (flex := false) (t := ((lT (((lT (T.at 1))[k1]).at 1))[k2])) (B := B_k2) 4 (by decide) (by decide) (has_yes (show (0 : Int) ≤ v by omega) (show ((-1) : Int) < 0 ∨ v ≤ (-1) by omega)) ((FB_int (f := (fs_sOffsetFetchResponseTopicPartition[4]'(by decide))) (by decide) (by decide)).trans (fixed_i16 _).symm)
          have hs155 := fold_size e_35 (by decide) hBk2
          refine cl rfl rfl rfl (OutK.cast (k_AppendInt16 (u := IntKind.i16.wrap (((lT (((lT (T.at 1))[k1]).at 1))[k2]).at 4).n) r148 hs155) e_35) rfl (fun v_ H1 L1 hle hR => ?_)
          obtain ⟨rfl, a155, c155, N155, rfl, rfl, h155⟩ := hR
          have r155 := h155.1
          refine asg rfl rfl ?_
          refine nl ?_
          refine sr ?_
          refine mv rfl rfl ?_
          refine nl ?_
          refine cdF rfl (by omega) ?_
          refine skN ?_
          refine Nb ?_
          have eP_36 : B_k2 ++ plainTo (zipped fs_sOffsetFetchResponseTopicPartition v false ((lT (((lT (T.at 1))[k1]).at 1))[k2])) v 5 = B_k2 ++ partB fs_sOffsetFetchResponseTopicPartition v false ((lT (((lT (T.at 1))[k1]).at 1))[k2]) := by rw [partB_false]; rfl
          have rp_37 := r155
          rw [eP_36] at rp_37 ⊢
          have ee_38 : B_k2 ++ partB fs_sOffsetFetchResponseTopicPartition v false ((lT (((lT (T.at 1))[k1]).at 1))[k2]) = B_k1 ++ plainTo (zipped fs_sOffsetFetchResponseTopic v false ((lT (T.at 1))[k1])) v 1 ++ (counted false false (lT (((lT (T.at 1))[k1]).at 1)).length 4) ++ ((lT (((lT (T.at 1))[k1]).at 1)).take (k2 + 1)).flatMap (GOf (fs_sOffsetFetchResponseTopic[1]'(by decide)) v false) := by rw [hdk2]; exact el_end (B0 := B_k1 ++ plainTo (zipped fs_sOffsetFetchResponseTopic v false ((lT (T.at 1))[k1])) v 1 ++ (counted false false (lT (((lT (T.at 1))[k1]).at 1)).length 4)) (G := (GOf (fs_sOffsetFetchResponseTopic[1]'(by decide)) v false)) hk2 (GOf_part (by decide) _)
          refine fun a_ w_ hA hw => ⟨_, _, _, hA.sub ?_, (le_18.trans le_30), hw, _, rfl, _, _, _, _, rfl, rfl, (by rw [← ee_38]; exact rp_37), (by rw [← ee_38])⟩
          exact (.cons rfl (.cons rfl (.cons rfl (.cons rfl (.cons rfl (.cons rfl (.cons rfl (.cons rfl (.cons rfl (.cons rfl (.cons rfl (.nil _))))))))))))
      · skip
        obtain ⟨a_k2, m_k2, c_k2, N_k2, rfl, rfl, pk20, pk21⟩ := hI
        refine toWp ?_
        have eL106 : B_k1 ++ plainTo (zipped fs_sOffsetFetchResponseTopic v false ((lT (T.at 1))[k1])) v 1 ++ (counted false false (lT (((lT (T.at 1))[k1]).at 1)).length 4) ++ ((lT (((lT (T.at 1))[k1]).at 1)).take (lT (((lT (T.at 1))[k1]).at 1)).length).flatMap (GOf (fs_sOffsetFetchResponseTopic[1]'(by decide)) v false) = B_k1 ++ plainTo (zipped fs_sOffsetFetchResponseTopic v false ((lT (T.at 1))[k1])) v 2 := by rw [List.take_length, List.append_assoc]; exact e_17
        rw [eL106] at pk20 pk21
        subst pk21
        refine sr ?_
        refine mv rfl rfl ?_
        refine nl ?_
        refine cdF rfl (by omega) ?_
        refine skN ?_
        refine Nb ?_
        have eP_39 : B_k1 ++ plainTo (zipped fs_sOffsetFetchResponseTopic v false ((lT (T.at 1))[k1])) v 2 = B_k1 ++ partB fs_sOffsetFetchResponseTopic v false ((lT (T.at 1))[k1]) := by rw [partB_false]; rfl
        have rp_40 := pk20
        rw [eP_39] at rp_40 ⊢
        have ee_41 : B_k1 ++ partB fs_sOffsetFetchResponseTopic v false ((lT (T.at 1))[k1]) = D ++ plainTo (zipped fs_OffsetFetchResponse v false T) v 1 ++ (counted false false (lT (T.at 1)).length 4) ++ ((lT (T.at 1)).take (k1 + 1)).flatMap (GOf (fs_OffsetFetchResponse[1]'(by decide)) v false) := by rw [hdk1]; exact el_end (B0 := D ++ plainTo (zipped fs_OffsetFetchResponse v false T) v 1 ++ (counted false false (lT (T.at 1)).length 4)) (G := (GOf (fs_OffsetFetchResponse[1]'(by decide)) v false)) hk1 (GOf_part (by decide) _)
        refine fun a_ w_ hA hw => ⟨_, _, _, hA.sub ?_, (le_7.trans le_19), hw, _, rfl, _, _, _, _, rfl, rfl, (by rw [← ee_41]; exact rp_40), (by rw [← ee_41])⟩
        exact (.cons rfl (.cons rfl (.cons rfl (.cons rfl (.cons rfl (.cons rfl (.cons rfl (.nil _))))))))
    · skip
      obtain ⟨a_k1, m_k1, c_k1, N_k1, rfl, rfl, pk10, pk11⟩ := hI
      refine toWp ?_
      have eL74 : D ++ plainTo (zipped fs_OffsetFetchResponse v false T) v 1 ++ (counted false false (lT (T.at 1)).length 4) ++ ((lT (T.at 1)).take (lT (T.at 1)).length).flatMap (GOf (fs_OffsetFetchResponse[1]'(by decide)) v false) = D ++ plainTo (zipped fs_OffsetFetchResponse v false T) v 2 := by rw [List.take_length, List.append_assoc]; exact e_6
      rw [eL74] at pk10 pk11
      subst pk11
      refine sq ?_
      refine sr ?_
      refine mv rfl rfl ?_
      refine ge rfl rfl rfl ?_
      refine mv rfl rfl ?_
      refine spl (t := 188) rfl (fun h188 => ?_) (fun h188 => ?_)
      · skip
        refine gr rfl rfl ?_
        refine mv rfl rfl ?_
        refine gr rfl rfl ?_
        refine le rfl rfl rfl ?_
        refine pk rfl rfl rfl rfl ?_
        refine nl ?_
        refine cdT rfl (by omega) ?_
        refine sr ?_
        refine mv rfl rfl ?_
        refine nc rfl rfl ?_
        refine fa0 F58_3 rfl rfl ?_
        refine ld (Says.fz (hv.mono (le_2.trans le_8))) Tryz.isAgg45 rfl (Nat.zero_add _).symm rfl rfl ?_
        refine asg rfl rfl ?_
        refine nl ?_
        refine rg ?_
        refine mv rfl rfl ?_
        refine mv rfl rfl ?_
        have ok198 := hok.get 2 (by decide) (has_yes (show (2 : Int) ≤ v by omega) (show (7 : Int) < 0 ∨ v ≤ 7 by omega))
        have e_42 : D ++ plainTo (zipped fs_OffsetFetchResponse v false T) v 2 ++ (fixed (IntKind.i16.wrap (T.at 2).n) 2) = D ++ plainTo (zipped fs_OffsetFetchResponse v false T) v 3 := fold_yes (fs := fs_OffsetFetchResponse) (v := v) (flex := false) (t := T) (B := D) 2 (by decide) (by decide) (has_yes (show (2 : Int) ≤ v by omega) (show (7 : Int) < 0 ∨ v ≤ 7 by omega)) ((FB_int (f := (fs_OffsetFetchResponse[2]'(by decide))) (by decide) (by decide)).trans (fixed_i16 _).symm)
        have hs198 := fold_size e_42 (by decide) hb
        refine cl rfl rfl rfl (OutK.cast (k_AppendInt16 (u := IntKind.i16.wrap (T.at 2).n) pk10 hs198) e_42) rfl (fun v_ H1 L1 hle hR => ?_)
        obtain ⟨rfl, a198, c198, N198, rfl, rfl, h198⟩ := hR
        have r198 := h198.1
        refine asg rfl rfl ?_
        refine nl ?_
        refine sq ?_
        refine sr ?_
        refine mv rfl rfl ?_
        refine ge rfl rfl rfl ?_
        refine nl ?_
        refine cdF rfl (by omega) ?_
        refine skt ?_
        refine sq ?_
        refine sr ?_
        refine mv rfl rfl ?_
        refine nl ?_
        refine cdF rfl (by omega) ?_
        refine skt ?_
        refine sr ?_
        refine mv rfl rfl ?_
        refine asg rfl rfl ?_
        refine nl ?_
        have es_43 : plainTo (zipped fs_OffsetFetchResponse v false T) v 4 = plainTo (zipped fs_OffsetFetchResponse v false T) v 3 := (piece_no2 (fs := fs_OffsetFetchResponse) (v := v) (flex := false) (t := T) (k := 3) (by decide) (has_no (show v < (8 : Int) ∨ ((0 : Int) ≤ (-1) ∧ (-1) < v) by omega)))
        have eX_44 : D ++ plainTo (zipped fs_OffsetFetchResponse v false T) v 3 = D ++ plainTo (zipped fs_OffsetFetchResponse v false T) v 4 := by rw [es_43]
        have rx_45 := r198
        rw [eX_44] at rx_45 ⊢
        have eP_46 : D ++ plainTo (zipped fs_OffsetFetchResponse v false T) v 4 = D ++ partB fs_OffsetFetchResponse v false T := by rw [partB_false]; rfl
        have rp_47 := rx_45
        rw [eP_46] at rp_47 ⊢
        exact rT rfl rfl (le_2.trans le_8) (fun _ _ h => h) (OutB.of rp_47 rfl)
      · skip
        refine gs rfl rfl rfl rfl ?_
        refine gs rfl rfl rfl rfl ?_
        refine pk rfl rfl rfl rfl ?_
        refine nl ?_
        refine cF rfl ?_
        refine skt ?_
        refine sq ?_
        refine sr ?_
        refine mv rfl rfl ?_
        refine ge rfl rfl rfl ?_
        refine nl ?_
        refine cdF rfl (by omega) ?_
        refine skt ?_
        refine sq ?_
        refine sr ?_
        refine mv rfl rfl ?_
        refine nl ?_
        refine cdF rfl (by omega) ?_
        refine skt ?_
        refine sr ?_
        refine mv rfl rfl ?_
        refine asg rfl rfl ?_
        refine nl ?_
        have es_48 : plainTo (zipped fs_OffsetFetchResponse v false T) v 4 = plainTo (zipped fs_OffsetFetchResponse v false T) v 2 := ((piece_no2 (fs := fs_OffsetFetchResponse) (v := v) (flex := false) (t := T) (k := 3) (by decide) (has_no (show v < (8 : Int) ∨ ((0 : Int) ≤ (-1) ∧ (-1) < v) by omega))).trans (piece_no2 (fs := fs_OffsetFetchResponse) (v := v) (flex := false) (t := T) (k := 2) (by decide) (has_no (show v < (2 : Int) ∨ ((0 : Int) ≤ 7 ∧ 7 < v) by omega))))
        have eX_49 : D ++ plainTo (zipped fs_OffsetFetchResponse v false T) v 2 = D ++ plainTo (zipped fs_OffsetFetchResponse v false T) v 4 := by rw [es_48]
        have rx_50 := pk10
        rw [eX_49] at rx_50 ⊢
        have eP_51 : D ++ plainTo (zipped fs_OffsetFetchResponse v false T) v 4 = D ++ partB fs_OffsetFetchResponse v false T := by rw [partB_false]; rfl
        have rp_52 := rx_50
        rw [eP_51] at rp_52 ⊢
        exact rT rfl rfl (le_2.trans le_8) (fun _ _ h => h) (OutB.of rp_52 rfl)
theorem app_OffsetFetchResponse_t {H : Fz} {L : Own} {a : Option Addr} {cap b : Nat} {D : List UInt8} {N : Chunk} {cs : List Value} {T : Tr} {v : Int} (hr : Row 5 1 a D.length cap (bytesOf D) N) (hv : H.at b 0 cs) (hA : At_OffsetFetchResponse v H T cs) (hok : OkP fs_OffsetFetchResponse v T) (h0 : 6 ≤ v) (h1 : v ≤ 10) (hb : D.length + (partB fs_OffsetFetchResponse v true T).length ≤ LIM) :
    Fn Tryz.prog 32 [.pointer (some ⟨b, 0, none⟩), .slice a D.length cap] H (N :: L) (fun r H' L' => OutB 5 L (D ++ partB fs_OffsetFetchResponse v true T) r L') := by
  obtain ⟨a1, c1, a3, c3, mt, rfl, hf0, hf1, hf2⟩ := hA
  refine Fn.mk Tryz.call32 Tryz.func32 rfl Tryz.ntmps32 rfl ?_
  refine sr ?_
  refine asg rfl rfl ?_
  refine nl ?_
  refine sr ?_
  refine mv rfl rfl ?_
  refine nc rfl rfl ?_
  refine fa0 F58_0 rfl rfl ?_
  refine ld (Says.fz hv) Tryz.isAgg45 rfl (Nat.zero_add _).symm rfl rfl ?_
  refine asg rfl rfl ?_
  refine nl ?_
  refine sr ?_
  refine mv rfl rfl ?_
  refine nl ?_
  refine sr ?_
  refine mv rfl rfl ?_
  refine ge rfl rfl rfl ?_
  refine asg rfl rfl ?_
  refine nl ?_
  refine sr ?_
  refine mv rfl rfl ?_
  refine nl ?_
  refine sq ?_
  refine sr ?_
  refine mv rfl rfl ?_
  refine ge rfl rfl rfl ?_
  refine nl ?_
  refine cdT rfl (by omega) ?_
  refine sr ?_
  refine mv rfl rfl ?_
  refine nc rfl rfl ?_
  refine fa0 F58_1 rfl rfl ?_
  refine ld (Says.fz hv) Tryz.isAgg21 rfl (Nat.zero_add _).symm rfl rfl ?_
  refine asg rfl rfl ?_
  refine nl ?_
  refine rg ?_
  refine mv rfl rfl ?_
  refine mv rfl rfl ?_
  have ok55 := hok.get 0 (by decide) (has_yes (show (3 : Int) ≤ v by omega) (show ((-1) : Int) < 0 ∨ v ≤ (-1) by omega))
  have e_1 : D ++ (fixed (IntKind.i32.wrap (T.at 0).n) 4) = D ++ plainTo (zipped fs_OffsetFetchResponse v true T) v 1 := fold_first (fs := fs_OffsetFetchResponse) (v := v) (flex := true) (t := T) (B := D) 0 rfl (by decide) (by decide) (has_yes (show (3 : Int) ≤ v by omega) (show ((-1) : Int) < 0 ∨ v ≤ (-1) by omega)) ((FB_int (f := (fs_OffsetFetchResponse[0]'(by decide))) (by decide) (by decide)).trans (fixed_i32 _).symm)
  have hs55 := fold_size e_1 (by decide) hb
  refine cl rfl rfl rfl (OutK.cast (k_AppendInt32 (u := IntKind.i32.wrap (T.at 0).n) hr hs55) e_1) rfl (fun v_ H1 L1 hle hR => ?_)
  obtain ⟨rfl, a55, c55, N55, rfl, rfl, h55⟩ := hR
  have r55 := h55.1
  refine asg rfl rfl ?_
  refine nl ?_
  refine sq ?_
  refine sr ?_
  refine mv rfl rfl ?_
  refine ge rfl rfl rfl ?_
  refine mv rfl rfl ?_
  refine spl (t := 58) rfl (fun _ => ?_) (fun hn_ => absurd (by omega) hn_)
  refine gr rfl rfl ?_
  refine mv rfl rfl ?_
  refine gr rfl rfl ?_
  refine le rfl rfl rfl ?_
  refine pk rfl rfl rfl rfl ?_
  refine nl ?_
  refine cutT (fun l' H' L' => ∃ (aj_2 : Option Addr), ∃ (mj_2 : Nat), ∃ (cj_2 : Nat), ∃ (Nj_2 : Chunk), [(0, .pointer (some ⟨b, 0, none⟩)), (1, .slice aj_2 mj_2 cj_2), (5, .int .i16 v), (6, .bool (decide ((6 : Int) ≤ v)))] = l' ∧ Nj_2 :: L = L' ∧ Row 5 1 aj_2 mj_2 cj_2 (bytesOf (D ++ plainTo (zipped fs_OffsetFetchResponse v true T) v 2)) Nj_2 ∧ mj_2 = (D ++ plainTo (zipped fs_OffsetFetchResponse v true T) v 2).length) ?_ (fun l' H' L' le_3 hI => ?_)
  · skip
    refine cd rfl (fun h61 => ?_) (fun h61 => ?_)
    · skip
      refine sr ?_
      refine mv rfl rfl ?_
      refine nc rfl rfl ?_
      refine fa0 F58_2 rfl rfl ?_
      refine ld (Says.fz hv) Tryz.isAgg52 rfl (Nat.zero_add _).symm rfl rfl ?_
      refine asg rfl rfl ?_
      refine nl ?_
      refine sq ?_
      refine sr ?_
      refine mv rfl rfl ?_
      refine nl ?_
      refine cdT rfl (by omega) ?_
      refine rg ?_
      refine mv rfl rfl ?_
      refine mv rfl rfl ?_
      refine ls Tryz.runUnderlying52 rfl rfl ?_
      have ok70 := hok.get 1 (by decide) (has_yes (show (0 : Int) ≤ v by omega) (show (7 : Int) < 0 ∨ v ≤ 7 by omega))
      have nn70 := ok70.nn (by decide) (by decide)
      have ll70 := lT_len (ok70.len rfl)
      have e_4 : D ++ plainTo (zipped fs_OffsetFetchResponse v true T) v 1 ++ (counted true false (lT (T.at 1)).length 4 ++ (lT (T.at 1)).flatMap (GOf (fs_OffsetFetchResponse[1]'(by decide)) v true)) = D ++ plainTo (zipped fs_OffsetFetchResponse v true T) v 2 := fold_yes (fs := fs_OffsetFetchResponse) (v := v) (flex := true) (t := T) (B := D) 1 (by decide) (by decide) (has_yes (show (0 : Int) ≤ v by omega) (show (7 : Int) < 0 ∨ v ≤ 7 by omega)) (by rw [FB_list (f := (fs_OffsetFetchResponse[1]'(by decide))) (by decide) (by decide) ok70, nn70])
      have hs70 := fold_size e_4 (by decide) hb
      have hc70 : (D ++ plainTo (zipped fs_OffsetFetchResponse v true T) v 1).length + (counted true false (lT (T.at 1)).length 4).length ≤ LIM := by have h := hs70; simp only [List.length_append] at h ⊢; omega
      refine cl rfl rfl rfl (OutK.cast (k_AppendCompactArrayLen (n := (lT (T.at 1)).length) (by omega) r55 hc70) (show _ = D ++ plainTo (zipped fs_OffsetFetchResponse v true T) v 1 ++ (counted true false (lT (T.at 1)).length 4) from rfl)) rfl (fun v_ H1 L1 hle hR => ?_)
      obtain ⟨rfl, a70, c70, N70, rfl, rfl, h70⟩ := hR
      have r70 := h70.1
      refine asg rfl rfl ?_
      refine nl ?_
      refine sr ?_
      refine mv rfl rfl ?_
      refine ls Tryz.runUnderlying52 rfl rfl ?_
      refine mv rfl rfl ?_
      refine nl ?_
      refine fr ((lT (T.at 1)).length) (fun k1 l' H' L' => ∃ (a_k1 : Option Addr), ∃ (m_k1 : Nat), ∃ (c_k1 : Nat), ∃ (N_k1 : Chunk), [(0, .pointer (some ⟨b, 0, none⟩)), (1, .slice a_k1 m_k1 c_k1), (5, .int .i16 v), (6, .bool (decide ((6 : Int) ≤ v))), (8, .slice a1 (lT (T.at 1)).length c1), (76, .int .i64 ((lT (T.at 1)).length : Int))] = l' ∧ N_k1 :: L = L' ∧ Row 5 1 a_k1 m_k1 c_k1 (bytesOf (D ++ plainTo (zipped fs_OffsetFetchResponse v true T) v 1 ++ (counted true false (lT (T.at 1)).length 4) ++ ((lT (T.at 1)).take k1).flatMap (GOf (fs_OffsetFetchResponse[1]'(by decide)) v true))) N_k1 ∧ m_k1 = (D ++ plainTo (zipped fs_OffsetFetchResponse v true T) v 1 ++ (counted true false (lT (T.at 1)).length 4) ++ ((lT (T.at 1)).take k1).flatMap (GOf (fs_OffsetFetchResponse[1]'(by decide)) v true)).length) [(0, .pointer (some ⟨b, 0, none⟩)), (1, .slice _ _ _), (5, .int .i16 v), (6, .bool (decide ((6 : Int) ≤ v))), (8, .slice a1 (lT (T.at 1)).length c1), (76, .int .i64 ((lT (T.at 1)).length : Int))] (fun k1 l' H' L' h => ?_) (by omega) rfl (.cons rfl (.cons rfl (.cons rfl (.cons rfl (.cons rfl (.cons rfl (.nil _))))))) ⟨_, _, _, _, rfl, rfl, (by rw [List.take_zero, List.flatMap_nil, List.append_nil]; exact r70), (by rw [List.take_zero, List.flatMap_nil, List.append_nil])⟩ rfl rfl rfl rfl rfl (fun k1 l' H' L' hk1 le_5 hI => ?_) (fun l' H' L' le_6 hI => ?_)
      · obtain ⟨a_k1, m_k1, c_k1, N_k1, rfl, _⟩ := h; exact ⟨rfl, rfl, rfl, rfl⟩
      · skip
        obtain ⟨a_k1, m_k1, c_k1, N_k1, rfl, rfl, pk10, pk11⟩ := hI
        subst pk11
        refine sr ?_
        refine mv rfl rfl ?_
        refine asg rfl rfl ?_
        refine nl ?_
        refine sr ?_
        refine mv rfl rfl ?_
        refine mv rfl rfl ?_
        obtain ⟨b_7, o_8, e_9, g_10⟩ := (hf0.mono At_OffsetFetchResponseTopic.mono le_5).rows.at_ (ne_nil_of_lt hk1)
        obtain ⟨cs_11, hA_12, hc_13⟩ := g_10 k1 hk1
        refine ix2 Tryz.runUnderlying52 Tryz.sizeOf98 rfl e_9 rfl rfl hk1 rfl ?_
        obtain ⟨a_k1_1, c_k1_1, m_k1_t, rfl, hf_k1_0, hf_k1_1⟩ := hA_12
        have oek1 := (ok70.el rfl _ (lT_mem (List.getElem_mem hk1))).2 rfl
        obtain ⟨B_k1, hdk1⟩ : ∃ z : List UInt8, z = D ++ plainTo (zipped fs_OffsetFetchResponse v true T) v 1 ++ (counted true false (lT (T.at 1)).length 4) ++ ((lT (T.at 1)).take k1).flatMap (GOf (fs_OffsetFetchResponse[1]'(by decide)) v true) := ⟨_, rfl⟩
        have rbk1 := pk10
        rw [← hdk1] at rbk1 ⊢
        have hBk1 : B_k1.length + (partB fs_sOffsetFetchResponseTopic v true ((lT (T.at 1))[k1])).length ≤ LIM := by rw [hdk1]; exact el_size hs70 hk1 (GOf_part (by decide) _)
        refine asg rfl rfl ?_
        refine nl ?_
        refine sq ?_
        refine sr ?_
        refine mv rfl rfl ?_
        refine nc rfl rfl ?_
        refine fa F98_0 rfl rfl ?_
        refine ld (Says.fz hc_13) Tryz.isAgg9 rfl (Nat.add_zero _).symm rfl rfl ?_
        refine asg rfl rfl ?_
        refine nl ?_
        refine sr ?_
        refine mv rfl rfl ?_
        refine nl ?_
        refine cdT rfl (by omega) ?_
        refine rg ?_
        refine mv rfl rfl ?_
        refine mv rfl rfl ?_
        have ok90 := oek1.get 0 (by decide) (has_yes (show (0 : Int) ≤ v by omega) (show ((-1) : Int) < 0 ∨ v ≤ (-1) by omega))
        have nn90 := ok90.nn (by decide) (by decide)
        have e_14 : B_k1 ++ (counted true false (((lT (T.at 1))[k1]).at 0).s.length 2 ++ (((lT (T.at 1))[k1]).at 0).s) = B_k1 ++ plainTo (zipped fs_sOffsetFetchResponseTopic v true ((lT (T.at 1))[k1])) v 1 := fold_first (fs := fs_sOffsetFetchResponseTopic) (v := v) (flex := true) (t := ((lT (T.at 1))[k1])) (B := B_k1) 0 rfl (by decide) (by decide) (has_yes (show (0 : Int) ≤ v by omega) (show ((-1) : Int) < 0 ∨ v ≤ (-1) by omega)) (by rw [FB_text (f := (fs_sOffsetFetchResponseTopic[0]'(by decide))) (by decide) (by decide) ok90, sT_nn nn90, nn90])
        have hs90 := fold_size e_14 (by decide) hBk1
        refine cl rfl rfl rfl (OutK.cast (k_AppendCompactString (x := (((lT (T.at 1))[k1]).at 0).s) (by have := ok90.s (Or.inl rfl); omega) rbk1 hs90) e_14) rfl (fun v_ H1 L1 hle hR => ?_)
        obtain ⟨rfl, a90, c90, N90, rfl, rfl, h90⟩ := hR
        have r90 := h90.1
        refine asg rfl rfl ?_
        refine nl ?_
        refine sq ?_
        refine sr ?_
        refine mv rfl rfl ?_
        refine nc rfl rfl ?_
        refine fa F98_1 rfl rfl ?_
        refine ld (Says.fz hc_13) Tryz.isAgg96 rfl rfl rfl rfl ?_
        refine asg rfl rfl ?_
        refine nl ?_
        refine sq ?_
        refine sr ?_
        refine mv rfl rfl ?_
        refine nl ?_
        refine cdT rfl (by omega) ?_
        refine rg ?_
        refine mv rfl rfl ?_
        refine mv rfl rfl ?_
        refine ls Tryz.runUnderlying96 rfl rfl ?_
        have ok102 := oek1.get 1 (by decide) (has_yes (show (0 : Int) ≤ v by omega) (show ((-1) : Int) < 0 ∨ v ≤ (-1) by omega))
        have nn102 := ok102.nn (by decide) (by decide)
        have ll102 := lT_len (ok102.len rfl)
        have e_15 : B_k1 ++ plainTo (zipped fs_sOffsetFetchResponseTopic v true ((lT (T.at 1))[k1])) v 1 ++ (counted true false (lT (((lT (T.at 1))[k1]).at 1)).length 4 ++ (lT (((lT (T.at 1))[k1]).at 1)).flatMap (GOf (fs_sOffsetFetchResponseTopic[1]'(by decide)) v true)) = B_k1 ++ plainTo (zipped fs_sOffsetFetchResponseTopic v true ((lT (T.at 1))[k1])) v 2 := fold_yes (fs := fs_sOffsetFetchResponseTopic) (v := v) (flex := true) (t := ((lT (T.at 1))[k1])) (B := B_k1) 1 (by decide) (by decide) (has_yes (show (0 : Int) ≤ v by omega) (show ((-1) : Int) < 0 ∨ v ≤ (-1) by omega)) (by rw [FB_list (f := (fs_sOffsetFetchResponseTopic[1]'(by decide))) (by decide) (by decide) ok102, nn102])
        have hs102 := fold_size e_15 (by decide) hBk1
        have hc102 : (B_k1 ++ plainTo (zipped fs_sOffsetFetchResponseTopic v true ((lT (T.at 1))[k1])) v 1).length + (counted true false (lT (((lT (T.at 1))[k1]).at 1)).length 4).length ≤ LIM := by have h := hs102; simp only [List.length_append] at h ⊢; omega
        refine cl rfl rfl rfl (OutK.cast (k_AppendCompactArrayLen (n := (lT (((lT (T.at 1))[k1]).at 1)).length) (by omega) r90 hc102) (show _ = B_k1 ++ plainTo (zipped fs_sOffsetFetchResponseTopic v true ((lT (T.at 1))[k1])) v 1 ++ (counted true false (lT (((lT (T.at 1))[k1]).at 1)).length 4) from rfl)) rfl (fun v_ H1 L1 hle hR => ?_)
        obtain ⟨rfl, a102, c102, N102, rfl, rfl, h102⟩ := hR
        have r102 := h102.1
        refine asg rfl rfl ?_
        refine nl ?_
        refine sr ?_
        refine mv rfl rfl ?_
        refine ls Tryz.runUnderlying96 rfl rfl ?_
        refine mv rfl rfl ?_
        refine nl ?_
        refine fr ((lT (((lT (T.at 1))[k1]).at 1)).length) (fun k2 l' H' L' => ∃ (a_k2 : Option Addr), ∃ (m_k2 : Nat), ∃ (c_k2 : Nat), ∃ (N_k2 : Chunk), [(0, .pointer (some ⟨b, 0, none⟩)), (1, .slice a_k2 m_k2 c_k2), (5, .int .i16 v), (6, .bool (decide ((6 : Int) ≤ v))), (8, .slice a1 (lT (T.at 1)).length c1), (10, .pointer (some ⟨b_7, o_8 + k1 * 3, none⟩)), (12, .slice a_k1_1 (lT (((lT (T.at 1))[k1]).at 1)).length c_k1_1), (76, .int .i64 ((lT (T.at 1)).length : Int)), (77, .int .i64 (k1 : Int)), (108, .int .i64 ((lT (((lT (T.at 1))[k1]).at 1)).length : Int))] = l' ∧ N_k2 :: L = L' ∧ Row 5 1 a_k2 m_k2 c_k2 (bytesOf (B_k1 ++ plainTo (zipped fs_sOffsetFetchResponseTopic v true ((lT (T.at 1))[k1])) v 1 ++ (counted true false (lT (((lT (T.at 1))[k1]).at 1)).length 4) ++ ((lT (((lT (T.at 1))[k1]).at 1)).take k2).flatMap (GOf (fs_sOffsetFetchResponseTopic[1]'(by decide)) v true))) N_k2 ∧ m_k2 = (B_k1 ++ plainTo (zipped fs_sOffsetFetchResponseTopic v true ((lT (T.at 1))[k1])) v 1 ++ (counted true false (lT (((lT (T.at 1))[k1]).at 1)).length 4) ++ ((lT (((lT (T.at 1))[k1]).at 1)).take k2).flatMap (GOf (fs_sOffsetFetchResponseTopic[1]'(by decide)) v true)).length) [(0, .pointer (some ⟨b, 0, none⟩)), (1, .slice _ _ _), (5, .int .i16 v), (6, .bool (decide ((6 : Int) ≤ v))), (8, .slice a1 (lT (T.at 1)).length c1), (10, .pointer (some ⟨b_7, o_8 + k1 * 3, none⟩)), (12, .slice a_k1_1 (lT (((lT (T.at 1))[k1]).at 1)).length c_k1_1), (76, .int .i64 ((lT (T.at 1)).length : Int)), (77, .int .i64 (k1 : Int)), (108, .int .i64 ((lT (((lT (T.at 1))[k1]).at 1)).length : Int))] (fun k2 l' H' L' h => ?_) (by omega) rfl (.cons rfl (.cons rfl (.cons rfl (.cons rfl (.cons rfl (.cons rfl (.cons rfl (.cons rfl (.cons rfl (.cons rfl (.nil _))))))))))) ⟨_, _, _, _, rfl, rfl, (by rw [List.take_zero, List.flatMap_nil, List.append_nil]; exact r102), (by rw [List.take_zero, List.flatMap_nil, List.append_nil])⟩ rfl rfl rfl rfl rfl (fun k2 l' H' L' hk2 le_16 hI => ?_) (fun l' H' L' le_17 hI => ?_)
        · obtain ⟨a_k2, m_k2, c_k2, N_k2, rfl, _⟩ := h; exact ⟨rfl, rfl, rfl, rfl⟩
        · skip
          obtain ⟨a_k2, m_k2, c_k2, N_k2, rfl, rfl, pk20, pk21⟩ := hI
          subst pk21
          refine sr ?_
          refine mv rfl rfl ?_
          refine asg rfl rfl ?_
          refine nl ?_
          refine sr ?_
          refine mv rfl rfl ?_
          refine mv rfl rfl ?_
          obtain ⟨b_18, o_19, e_20, g_21⟩ := (hf_k1_0.mono At_OffsetFetchResponseTopicPartition.mono le_16).rows.at_ (ne_nil_of_lt hk2)
          obtain ⟨cs_22, hA_23, hc_24⟩ := g_21 k2 hk2
          refine ix2 Tryz.runUnderlying96 Tryz.sizeOf112 rfl e_20 rfl rfl hk2 rfl ?_
          obtain ⟨p_k2_3, m_k2_t, rfl, hf_k2_0, hf_k2_1⟩ := hA_23
          have oek2 := (ok102.el rfl _ (lT_mem (List.getElem_mem hk2))).2 rfl
          obtain ⟨B_k2, hdk2⟩ : ∃ z : List UInt8, z = B_k1 ++ plainTo (zipped fs_sOffsetFetchResponseTopic v true ((lT (T.at 1))[k1])) v 1 ++ (counted true false (lT (((lT (T.at 1))[k1]).at 1)).length 4) ++ ((lT (((lT (T.at 1))[k1]).at 1)).take k2).flatMap (GOf (fs_sOffsetFetchResponseTopic[1]'(by decide)) v true) := ⟨_, rfl⟩
          have rbk2 := pk20
          rw [← hdk2] at rbk2 ⊢
          have hBk2 : B_k2.length + (partB fs_sOffsetFetchResponseTopicPartition v true ((lT (((lT (T.at 1))[k1]).at 1))[k2])).length ≤ LIM := by rw [hdk2]; exact el_size hs102 hk2 (GOf_part (by decide) _)
          refine asg rfl rfl ?_
          refine nl ?_
          refine sq ?_
          refine sr ?_
          refine mv rfl rfl ?_
          refine nc rfl rfl ?_
          refine fa F112_0 rfl rfl ?_
          refine ld (Says.fz hc_24) Tryz.isAgg21 rfl (Nat.add_zero _).symm rfl rfl ?_
          refine asg rfl rfl ?_
          refine nl ?_
          refine rg ?_
          refine mv rfl rfl ?_
          refine mv rfl rfl ?_
          have ok121 := oek2.get 0 (by decide) (has_yes (show (0 : Int) ≤ v by omega) (show ((-1) : Int) < 0 ∨ v ≤ (-1) by omega))
          have e_25 : B_k2 ++ (fixed (IntKind.i32.wrap (((lT (((lT (T.at 1))[k1]).at 1))[k2]).at 0).n) 4) = B_k2 ++ plainTo (zipped fs_sOffsetFetchResponseTopicPartition v true ((lT (((lT (T.at 1))[k1]).at 1))[k2])) v 1 := fold_first (fs := fs_sOffsetFetchResponseTopicPartition) (v := v) (flex := true) (t := ((lT (((lT (T.at 1))[k1]).at 1))[k2])) (B := B_k2) 0 rfl (by decide) (by decide) (has_yes (show (0 : Int) ≤ v by omega) (show ((-1) : Int) < 0 ∨ v ≤ (-1) by omega)) ((FB_int (f := (fs_sOffsetFetchResponseTopicPartition[0]'(by decide))) (by decide) (by decide)).trans (fixed_i32 _).symm)
          have hs121 := fold_size e_25 (by decide) hBk2
          refine cl rfl rfl rfl (OutK.cast (k_AppendInt32 (u := IntKind.i32.wrap (((lT (((lT (T.at 1))[k1]).at 1))[k2]).at 0).n) rbk2 hs121) e_25) rfl (fun v_ H1 L1 hle hR => ?_)
          obtain ⟨rfl, a121, c121, N121, rfl, rfl, h121⟩ := hR
          have r121 := h121.1
          refine asg rfl rfl ?_
          refine nl ?_
          refine sq ?_
          refine sr ?_
          refine mv rfl rfl ?_
          refine nc rfl rfl ?_
          refine fa F112_1 rfl rfl ?_
          refine ld (Says.fz hc_24) Tryz.isAgg2 rfl rfl rfl rfl ?_
          refine asg rfl rfl ?_
          refine nl ?_
          refine rg ?_
          refine mv rfl rfl ?_
          refine mv rfl rfl ?_
          have ok128 := oek2.get 1 (by decide) (has_yes (show (0 : Int) ≤ v by omega) (show ((-1) : Int) < 0 ∨ v ≤ (-1) by omega))
          have e_26 : B_k2 ++ plainTo (zipped fs_sOffsetFetchResponseTopicPartition v true ((lT (((lT (T.at 1))[k1]).at 1))[k2])) v 1 ++ (fixed ((((lT (((lT (T.at 1))[k1]).at 1))[k2]).at 1).n) 8) = B_k2 ++ plainTo (zipped fs_sOffsetFetchResponseTopicPartition v true ((lT (((lT (T.at 1))[k1]).at 1))[k2])) v 2 := fold_yes (fs := fs_sOffsetFetchResponseTopicPartition) (v := v) (flex := true) (t := ((lT (((lT (T.at 1))[k1]).at 1))[k2])) (B := B_k2) 1 (by decide) (by decide) (has_yes (show (0 : Int) ≤ v by omega) (show ((-1) : Int) < 0 ∨ v ≤ (-1) by omega)) ((FB_int (f := (fs_sOffsetFetchResponseTopicPartition[1]'(by decide))) (by decide) (by decide)).trans rfl)
          have hs128 := fold_size e_26 (by decide) hBk2
          refine cl rfl rfl rfl (OutK.cast (k_AppendInt64 (u := (((lT (((lT (T.at 1))[k1]).at 1))[k2]).at 1).n) r121 hs128) e_26) rfl (fun v_ H1 L1 hle hR => ?_)
          obtain ⟨rfl, a128, c128, N128, rfl, rfl, h128⟩ := hR
          have r128 := h128.1
          refine asg rfl rfl ?_
          refine nl ?_
          refine sq ?_
          refine sr ?_
          refine mv rfl rfl ?_
          refine ge rfl rfl rfl ?_
          refine nl ?_
          refine cdT rfl (by omega) ?_
          refine sr ?_
          refine mv rfl rfl ?_
          refine nc rfl rfl ?_
          refine fa F112_2 rfl rfl ?_
          refine ld (Says.fz hc_24) Tryz.isAgg21 rfl rfl rfl rfl ?_
          refine asg rfl rfl ?_
          refine nl ?_
          refine rg ?_
          refine mv rfl rfl ?_
          refine mv rfl rfl ?_
          have ok137 := oek2.get 2 (by decide) (has_yes (show (5 : Int) ≤ v by omega) (show ((-1) : Int) < 0 ∨ v ≤ (-1) by omega))
          have e_27 : B_k2 ++ plainTo (zipped fs_sOffsetFetchResponseTopicPartition v true ((lT (((lT (T.at 1))[k1]).at 1))[k2])) v 2 ++ (fixed (IntKind.i32.wrap (((lT (((lT (T.at 1))[k1]).at 1))[k2]).at 2).n) 4) = B_k2 ++ plainTo (zipped fs_sOffsetFetchResponseTopicPartition v true ((lT (((lT (T.at 1))[k1]).at 1))[k2])) v 3 := fold_yes (fs := fs_sOffsetFetchResponseTopicPartition) (v := v) (flex := true) (t := ((lT (((lT (T.at 1))[k1]).at 1))[k2])) (B := B_k2) 2 (by decide) (by decide) (has_yes (show (5 : Int) ≤ v by omega) (show ((-1) : Int) < 0 ∨ v ≤ (-1) by omega)) ((FB_int (f := (fs_sOffsetFetchResponseTopicPartition[2]'(by decide))) (by decide) (by decide)).trans (fixed_i32 _).symm)
          have hs137 := fold_size e_27 (by decide) hBk2
          refine cl rfl rfl rfl (OutK.cast (k_AppendInt32 (u := IntKind.i32.wrap (((lT (((lT (T.at 1))[k1]).at 1))[k2]).at 2).n) r128 hs137) e_27) rfl (fun v_ H1 L1 hle hR => ?_)
          obtain ⟨rfl, a137, c137, N137, rfl, rfl, h137⟩ := hR
          have r137 := h137.1
          refine asg rfl rfl ?_
          refine nl ?_
          refine sq ?_
          refine sr ?_
          refine mv rfl rfl ?_
          refine nc rfl rfl ?_
          refine fa F112_3 rfl rfl ?_
          refine ld (Says.fz hc_24) Tryz.isAgg110 rfl rfl rfl rfl ?_
          refine asg rfl rfl ?_
          refine nl ?_
          refine sr ?_
          refine mv rfl rfl ?_
          refine nl ?_
          refine cdT rfl (by omega) ?_
          refine rg ?_
          refine mv rfl rfl ?_
          refine mv rfl rfl ?_
          have ok145 := oek2.get 3 (by decide) (has_yes (show (0 : Int) ≤ v by omega) (show ((-1) : Int) < 0 ∨ v ≤ (-1) by omega))
          have e_28 : B_k2 ++ plainTo (zipped fs_sOffsetFetchResponseTopicPartition v true ((lT (((lT (T.at 1))[k1]).at 1))[k2])) v 3 ++ (counted true (((lT (((lT (T.at 1))[k1]).at 1))[k2]).at 3).nul (sT (((lT (((lT (T.at 1))[k1]).at 1))[k2]).at 3)).length 2 ++ sT (((lT (((lT (T.at 1))[k1]).at 1))[k2]).at 3)) = B_k2 ++ plainTo (zipped fs_sOffsetFetchResponseTopicPartition v true ((lT (((lT (T.at 1))[k1]).at 1))[k2])) v 4 := fold_yes (fs := fs_sOffsetFetchResponseTopicPartition) (v := v) (flex := true) (t := ((lT (((lT (T.at 1))[k1]).at 1))[k2])) (B := B_k2) 3 (by decide) (by decide) (has_yes (show (0 : Int) ≤ v by omega) (show ((-1) : Int) < 0 ∨ v ≤ (-1) by omega)) (FB_text (f := (fs_sOffsetFetchResponseTopicPartition[3]'(by decide))) (by decide) (by decide) ok145)
          have hs145 := fold_size e_28 (by decide) hBk2
          refine cl rfl rfl rfl (OutK.cast (k_AppendCompactNullableString hf_k2_0 (ok145.s (Or.inl rfl)) r137 hs145) e_28) rfl (fun v_ H1 L1 hle hR => ?_)
          obtain ⟨rfl, a145, c145, N145, rfl, rfl, h145⟩ := hR
          have r145 := h145.1
          refine asg rfl rfl ?_
          refine nl ?_
          refine sq ?_
          refine sr ?_
          refine mv rfl rfl ?_
          refine nc rfl rfl ?_
          refine fa F112_4 rfl rfl ?_
          refine ld (Says.fz hc_24) Tryz.isAgg45 rfl rfl rfl rfl ?_
          refine asg rfl rfl ?_
          refine nl ?_
          refine rg ?_
          refine mv rfl rfl ?_
          refine mv rfl rfl ?_
          have ok155 := oek2.get 4 (by decide) (has_yes (show (0 : Int) ≤ v by omega) (show ((-1) : Int) < 0 ∨ v ≤ (-1) by omega))
          have e_29 : B_k2 ++ plainTo (zipped fs_sOffsetFetchResponseTopicPartition v true ((lT (((lT (T.at 1))[k1]).at 1))[k2])) v 4 ++ (fixed (IntKind.i16.wrap (((lT (((lT (T.at 1))[k1]).at 1))[k2]).at 4).n) 2) = B_k2 ++ plainTo (zipped fs_sOffsetFetchResponseTopicPartition v true ((lT (((lT (T.at 1))[k1]).at 1))[k2])) v 5 := fold_yes (fs := fs_sOffsetFetchResponseTopicPartition) (v := v) (flex := true) (t := ((lT (((lT (T.at 1))[k1]).at 1))[k2])) (B := B_k2) 4 (by decide) (by decide) (has_yes (show (0 : Int) ≤ v by omega) (show ((-1) : Int) < 0 ∨ v ≤ (-1) by omega)) ((FB_int (f := (fs_sOffsetFetchResponseTopicPartition[4]'(by decide))) (by decide) (by decide)).trans (fixed_i16 _).symm)
          have hs155 := fold_size e_29 (by decide) hBk2
          refine cl rfl rfl rfl (OutK.cast (k_AppendInt16 (u := IntKind.i16.wrap (((lT (((lT (T.at 1))[k1]).at 1))[k2]).at 4).n) r145 hs155) e_29) rfl (fun v_ H1 L1 hle hR => ?_)
          obtain ⟨rfl, a155, c155, N155, rfl, rfl, h155⟩ := hR
          have r155 := h155.1
          refine asg rfl rfl ?_
          refine nl ?_
          refine sr ?_
          refine mv rfl rfl ?_
          refine nl ?_
          refine cdT rfl (by omega) ?_
          refine sr ?_
          refine mv rfl rfl ?_
          refine mv rfl rfl ?_
          refine nc rfl rfl ?_
          refine fa F112_5 rfl rfl ?_
          refine cl rfl rfl rfl (t_lenU (j := 5) hc_24 rfl hf_k2_1) rfl (fun v_ H1 L1 hle hR => ?_)
          obtain ⟨rfl, rfl, rfl⟩ := hR
          have hu161 := oek2.u
          have hul161 := hu161.2.1
          obtain ⟨hz161a, hz161b⟩ := part_size_plain (by decide) hu161 hBk2
          refine cv Tryz.runUnderlying3 Tryz.runUnderlying62 rfl (w32u (by omega) (by omega)) rfl ?_
          refine ad rfl rfl ((w32u (by omega) (by omega)).trans (Int.zero_add _)) rfl ?_
          refine cl rfl rfl rfl (k_AppendUvarint (n := ((lT (((lT (T.at 1))[k1]).at 1))[k2]).u.length) (by omega) r155 hz161a) rfl (fun v_ H1 L1 hle hR => ?_)
          obtain ⟨rfl, a164, c164, N164, rfl, rfl, h164⟩ := hR
          have r164 := h164.1
          refine asg rfl rfl ?_
          refine nl ?_
          refine rg ?_
          refine mv rfl rfl ?_
          refine nc rfl rfl ?_
          refine fa F112_5 rfl rfl ?_
          refine mv rfl rfl ?_
          refine cl rfl rfl rfl (t_append_each (j := 5) hc_24 rfl hf_k2_1 (by omega) r164 (fun p hp => by have := hu161.2.2 p hp; omega) hz161b) rfl (fun v_ H1 L1 le_30 hR => ?_)
          obtain ⟨a169, c169, N169, rfl, rfl, h169⟩ := hR
          have r169 := h169.1
          have eP_31 : B_k2 ++ plainTo (zipped fs_sOffsetFetchResponseTopicPartition v true ((lT (((lT (T.at 1))[k1]).at 1))[k2])) v 5 ++ uvar ((lT (((lT (T.at 1))[k1]).at 1))[k2]).u.length ++ ((lT (((lT (T.at 1))[k1]).at 1))[k2]).u.flatMap tagU = B_k2 ++ partB fs_sOffsetFetchResponseTopicPartition v true ((lT (((lT (T.at 1))[k1]).at 1))[k2]) := part_close (B := B_k2) (by decide) hu161
          rw [eP_31] at r169 ⊢
          refine asg rfl rfl ?_
          refine nN ?_
          refine Nb ?_
          have ee_32 : B_k2 ++ partB fs_sOffsetFetchResponseTopicPartition v true ((lT (((lT (T.at 1))[k1]).at 1))[k2]) = B_k1 ++ plainTo (zipped fs_sOffsetFetchResponseTopic v true ((lT (T.at 1))[k1])) v 1 ++ (counted true false (lT (((lT (T.at 1))[k1]).at 1)).length 4) ++ ((lT (((lT (T.at 1))[k1]).at 1)).take (k2 + 1)).flatMap (GOf (fs_sOffsetFetchResponseTopic[1]'(by decide)) v true) := by rw [hdk2]; exact el_end (B0 := B_k1 ++ plainTo (zipped fs_sOffsetFetchResponseTopic v true ((lT (T.at 1))[k1])) v 1 ++ (counted true false (lT (((lT (T.at 1))[k1]).at 1)).length 4)) (G := (GOf (fs_sOffsetFetchResponseTopic[1]'(by decide)) v true)) hk2 (GOf_part (by decide) _)
          refine fun a_ w_ hA hw => ⟨_, _, _, hA.sub ?_, (le_16.trans le_30), hw, _, rfl, _, _, _, _, rfl, rfl, (by rw [← ee_32]; exact r169), (by rw [← ee_32])⟩
          exact (.cons rfl (.cons rfl (.cons rfl (.cons rfl (.cons rfl (.cons rfl (.cons rfl (.cons rfl (.cons rfl (.cons rfl (.cons rfl (.nil _))))))))))))
        · skip
          obtain ⟨a_k2, m_k2, c_k2, N_k2, rfl, rfl, pk20, pk21⟩ := hI
          refine toWp ?_
          have eL102 : B_k1 ++ plainTo (zipped fs_sOffsetFetchResponseTopic v true ((lT (T.at 1))[k1])) v 1 ++ (counted true false (lT (((lT (T.at 1))[k1]).at 1)).length 4) ++ ((lT (((lT (T.at 1))[k1]).at 1)).take (lT (((lT (T.at 1))[k1]).at 1)).length).flatMap (GOf (fs_sOffsetFetchResponseTopic[1]'(by decide)) v true) = B_k1 ++ plainTo (zipped fs_sOffsetFetchResponseTopic v true ((lT (T.at 1))[k1])) v 2 := by rw [List.take_length, List.append_assoc]; exact e_15
          rw [eL102] at pk20 pk21
          subst pk21
          refine sr ?_
          refine mv rfl rfl ?_
          refine nl ?_
          refine cdT rfl (by omega) ?_
          refine sr ?_
          refine mv rfl rfl ?_
          refine mv rfl rfl ?_
          refine nc rfl rfl ?_
          refine fa F98_2 rfl rfl ?_
          refine cl rfl rfl rfl (t_lenU (j := 2) (hc_13.mono le_17) rfl (hf_k1_1.mono le_17)) rfl (fun v_ H1 L1 hle hR => ?_)
          obtain ⟨rfl, rfl, rfl⟩ := hR
          have hu176 := oek1.u
          have hul176 := hu176.2.1
          obtain ⟨hz176a, hz176b⟩ := part_size_plain (by decide) hu176 hBk1
          refine cv Tryz.runUnderlying3 Tryz.runUnderlying62 rfl (w32u (by omega) (by omega)) rfl ?_
          refine ad rfl rfl ((w32u (by omega) (by omega)).trans (Int.zero_add _)) rfl ?_
          refine cl rfl rfl rfl (k_AppendUvarint (n := ((lT (T.at 1))[k1]).u.length) (by omega) pk20 hz176a) rfl (fun v_ H1 L1 hle hR => ?_)
          obtain ⟨rfl, a179, c179, N179, rfl, rfl, h179⟩ := hR
          have r179 := h179.1
          refine asg rfl rfl ?_
          refine nl ?_
          refine rg ?_
          refine mv rfl rfl ?_
          refine nc rfl rfl ?_
          refine fa F98_2 rfl rfl ?_
          refine mv rfl rfl ?_
          refine cl rfl rfl rfl (t_append_each (j := 2) (hc_13.mono le_17) rfl (hf_k1_1.mono le_17) (by omega) r179 (fun p hp => by have := hu176.2.2 p hp; omega) hz176b) rfl (fun v_ H1 L1 le_33 hR => ?_)
          obtain ⟨a184, c184, N184, rfl, rfl, h184⟩ := hR
          have r184 := h184.1
          have eP_34 : B_k1 ++ plainTo (zipped fs_sOffsetFetchResponseTopic v true ((lT (T.at 1))[k1])) v 2 ++ uvar ((lT (T.at 1))[k1]).u.length ++ ((lT (T.at 1))[k1]).u.flatMap tagU = B_k1 ++ partB fs_sOffsetFetchResponseTopic v true ((lT (T.at 1))[k1]) := part_close (B := B_k1) (by decide) hu176
          rw [eP_34] at r184 ⊢
          refine asg rfl rfl ?_
          refine nN ?_
          refine Nb ?_
          have ee_35 : B_k1 ++ partB fs_sOffsetFetchResponseTopic v true ((lT (T.at 1))[k1]) = D ++ plainTo (zipped fs_OffsetFetchResponse v true T) v 1 ++ (counted true false (lT (T.at 1)).length 4) ++ ((lT (T.at 1)).take (k1 + 1)).flatMap (GOf (fs_OffsetFetchResponse[1]'(by decide)) v true) := by rw [hdk1]; exact el_end (B0 := D ++ plainTo (zipped fs_OffsetFetchResponse v true T) v 1 ++ (counted true false (lT (T.at 1)).length 4)) (G := (GOf (fs_OffsetFetchResponse[1]'(by decide)) v true)) hk1 (GOf_part (by decide) _)
          refine fun a_ w_ hA hw => ⟨_, _, _, hA.sub ?_, (le_5.trans (le_17.trans le_33)), hw, _, rfl, _, _, _, _, rfl, rfl, (by rw [← ee_35]; exact r184), (by rw [← ee_35])⟩
          exact (.cons rfl (.cons rfl (.cons rfl (.cons rfl (.cons rfl (.cons rfl (.cons rfl (.nil _))))))))
      · skip
        obtain ⟨a_k1, m_k1, c_k1, N_k1, rfl, rfl, pk10, pk11⟩ := hI
        refine toNn ?_
        have eL70 : D ++ plainTo (zipped fs_OffsetFetchResponse v true T) v 1 ++ (counted true false (lT (T.at 1)).length 4) ++ ((lT (T.at 1)).take (lT (T.at 1)).length).flatMap (GOf (fs_OffsetFetchResponse[1]'(by decide)) v true) = D ++ plainTo (zipped fs_OffsetFetchResponse v true T) v 2 := by rw [List.take_length, List.append_assoc]; exact e_4
        rw [eL70] at pk10 pk11
        subst pk11
        refine fun a_ w_ hA hw => ⟨_, _, _, hA.sub ?_, le_6, hw, _, _, _, _, rfl, rfl, pk10, rfl⟩
        exact (.cons rfl (.cons rfl (.cons rfl (.cons rfl (.nil _)))))
    · skip
      refine skN ?_
      have es_36 : plainTo (zipped fs_OffsetFetchResponse v true T) v 2 = plainTo (zipped fs_OffsetFetchResponse v true T) v 1 := (piece_no2 (fs := fs_OffsetFetchResponse) (v := v) (flex := true) (t := T) (k := 1) (by decide) (has_no (show v < (0 : Int) ∨ ((0 : Int) ≤ 7 ∧ 7 < v) by omega)))
      have eX_37 : D ++ plainTo (zipped fs_OffsetFetchResponse v true T) v 1 = D ++ plainTo (zipped fs_OffsetFetchResponse v true T) v 2 := by rw [es_36]
      refine fun a_ w_ hA hw => ⟨_, _, _, hA.sub ?_, (Fz.le.refl _), hw, _, _, _, _, rfl, rfl, (by rw [← eX_37]; exact r55), (by rw [← eX_37])⟩
      exact (.cons rfl (.cons rfl (.cons rfl (.cons rfl (.nil _)))))
  · skip
    obtain ⟨aj_2, mj_2, cj_2, Nj_2, rfl, rfl, pj0, pj1⟩ := hI
    subst pj1
    have rj_2 := pj0
    refine sq ?_
    refine sr ?_
    refine mv rfl rfl ?_
    refine ge rfl rfl rfl ?_
    refine mv rfl rfl ?_
    refine spl (t := 188) rfl (fun _ => ?_) (fun hn_ => absurd (by omega) hn_)
    refine gr rfl rfl ?_
    refine mv rfl rfl ?_
    refine gr rfl rfl ?_
    refine le rfl rfl rfl ?_
    refine pk rfl rfl rfl rfl ?_
    refine nl ?_
    refine cutT (fun l' H' L' => ∃ (aj_38 : Option Addr), ∃ (mj_38 : Nat), ∃ (cj_38 : Nat), ∃ (Nj_38 : Chunk), [(0, .pointer (some ⟨b, 0, none⟩)), (1, .slice aj_38 mj_38 cj_38), (5, .int .i16 v), (6, .bool (decide ((6 : Int) ≤ v)))] = l' ∧ Nj_38 :: L = L' ∧ Row 5 1 aj_38 mj_38 cj_38 (bytesOf (D ++ plainTo (zipped fs_OffsetFetchResponse v true T) v 3)) Nj_38 ∧ mj_38 = (D ++ plainTo (zipped fs_OffsetFetchResponse v true T) v 3).length) ?_ (fun l' H' L' le_39 hI => ?_)
    · skip
      refine cd rfl (fun h191 => ?_) (fun h191 => ?_)
      · skip
        refine sr ?_
        refine mv rfl rfl ?_
        refine nc rfl rfl ?_
        refine fa0 F58_3 rfl rfl ?_
        refine ld (Says.fz (hv.mono le_3)) Tryz.isAgg45 rfl (Nat.zero_add _).symm rfl rfl ?_
        refine asg rfl rfl ?_
        refine nl ?_
        refine rg ?_
        refine mv rfl rfl ?_
        refine mv rfl rfl ?_
        have ok198 := hok.get 2 (by decide) (has_yes (show (2 : Int) ≤ v by omega) (show (7 : Int) < 0 ∨ v ≤ 7 by omega))
        have e_40 : D ++ plainTo (zipped fs_OffsetFetchResponse v true T) v 2 ++ (fixed (IntKind.i16.wrap (T.at 2).n) 2) = D ++ plainTo (zipped fs_OffsetFetchResponse v true T) v 3 := fold_yes (fs := fs_OffsetFetchResponse) (v := v) (flex := true) (t := T) (B := D) 2 (by decide) (by decide) (has_yes (show (2 : Int) ≤ v by omega) (show (7 : Int) < 0 ∨ v ≤ 7 by omega)) ((FB_int (f := (fs_OffsetFetchResponse[2]'(by decide))) (by decide) (by decide)).trans (fixed_i16 _).symm)
        have hs198 := fold_size e_40 (by decide) hb
        refine cl rfl rfl rfl (OutK.cast (k_AppendInt16 (u := IntKind.i16.wrap (T.at 2).n) rj_2 hs198) e_40) rfl (fun v_ H1 L1 hle hR => ?_)
        obtain ⟨rfl, a198, c198, N198, rfl, rfl, h198⟩ := hR
        have r198 := h198.1
        refine asg rfl rfl ?_
        refine nN ?_
        refine fun a_ w_ hA hw => ⟨_, _, _, hA.sub ?_, (Fz.le.refl _), hw, _, _, _, _, rfl, rfl, r198, rfl⟩
        exact (.cons rfl (.cons rfl (.cons rfl (.cons rfl (.nil _)))))
      · skip
        refine skN ?_
        have es_41 : plainTo (zipped fs_OffsetFetchResponse v true T) v 3 = plainTo (zipped fs_OffsetFetchResponse v true T) v 2 := (piece_no2 (fs := fs_OffsetFetchResponse) (v := v) (flex := true) (t := T) (k := 2) (by decide) (has_no (show v < (2 : Int) ∨ ((0 : Int) ≤ 7 ∧ 7 < v) by omega)))
        have eX_42 : D ++ plainTo (zipped fs_OffsetFetchResponse v true T) v 2 = D ++ plainTo (zipped fs_OffsetFetchResponse v true T) v 3 := by rw [es_41]
        refine fun a_ w_ hA hw => ⟨_, _, _, hA.sub ?_, (Fz.le.refl _), hw, _, _, _, _, rfl, rfl, (by rw [← eX_42]; exact rj_2), (by rw [← eX_42])⟩
        exact (.cons rfl (.cons rfl (.cons rfl (.cons rfl (.nil _)))))
    · skip
      obtain ⟨aj_38, mj_38, cj_38, Nj_38, rfl, rfl, pj0, pj1⟩ := hI
      subst pj1
      have rj_38 := pj0
      refine sq ?_
      refine sr ?_
      refine mv rfl rfl ?_
      refine ge rfl rfl rfl ?_
      refine nl ?_
      refine cutT (fun l' H' L' => ∃ (aj_43 : Option Addr), ∃ (mj_43 : Nat), ∃ (cj_43 : Nat), ∃ (Nj_43 : Chunk), [(0, .pointer (some ⟨b, 0, none⟩)), (1, .slice aj_43 mj_43 cj_43), (6, .bool (decide ((6 : Int) ≤ v)))] = l' ∧ Nj_43 :: L = L' ∧ Row 5 1 aj_43 mj_43 cj_43 (bytesOf (D ++ plainTo (zipped fs_OffsetFetchResponse v true T) v 4)) Nj_43 ∧ mj_43 = (D ++ plainTo (zipped fs_OffsetFetchResponse v true T) v 4).length) ?_ (fun l' H' L' le_44 hI => ?_)
      · skip
        refine cd rfl (fun h200 => ?_) (fun h200 => ?_)
        · skip
          refine sr ?_
          refine mv rfl rfl ?_
          refine nc rfl rfl ?_
          refine fa0 F58_4 rfl rfl ?_
          refine ld (Says.fz (hv.mono (le_3.trans le_39))) Tryz.isAgg53 rfl (Nat.zero_add _).symm rfl rfl ?_
          refine asg rfl rfl ?_
          refine nl ?_
          refine sq ?_
          refine sr ?_
          refine mv rfl rfl ?_
          refine nl ?_
          refine cdT rfl (by omega) ?_
          refine rg ?_
          refine mv rfl rfl ?_
          refine mv rfl rfl ?_
          refine ls Tryz.runUnderlying53 rfl rfl ?_
          have ok209 := hok.get 3 (by decide) (has_yes (show (8 : Int) ≤ v by omega) (show ((-1) : Int) < 0 ∨ v ≤ (-1) by omega))
          have nn209 := ok209.nn (by decide) (by decide)
          have ll209 := lT_len (ok209.len rfl)
          have e_45 : D ++ plainTo (zipped fs_OffsetFetchResponse v true T) v 3 ++ (counted true false (lT (T.at 3)).length 4 ++ (lT (T.at 3)).flatMap (GOf (fs_OffsetFetchResponse[3]'(by decide)) v true)) = D ++ plainTo (zipped fs_OffsetFetchResponse v true T) v 4 := fold_yes (fs := fs_OffsetFetchResponse) (v := v) (flex := true) (t := T) (B := D) 3 (by decide) (by decide) (has_yes (show (8 : Int) ≤ v by omega) (show ((-1) : Int) < 0 ∨ v ≤ (-1) by omega)) (by rw [FB_list (f := (fs_OffsetFetchResponse[3]'(by decide))) (by decide) (by decide) ok209, nn209])
          have hs209 := fold_size e_45 (by decide) hb
          have hc209 : (D ++ plainTo (zipped fs_OffsetFetchResponse v true T) v 3).length + (counted true false (lT (T.at 3)).length 4).length ≤ LIM := by have h := hs209; simp only [List.length_append] at h ⊢; omega
          refine cl rfl rfl rfl (OutK.cast (k_AppendCompactArrayLen (n := (lT (T.at 3)).length) (by omega) rj_38 hc209) (show _ = D ++ plainTo (zipped fs_OffsetFetchResponse v true T) v 3 ++ (counted true false (lT (T.at 3)).length 4) from rfl)) rfl (fun v_ H1 L1 hle hR => ?_)
          obtain ⟨rfl, a209, c209, N209, rfl, rfl, h209⟩ := hR
          have r209 := h209.1
          refine asg rfl rfl ?_
          refine nl ?_
          refine sr ?_
          refine mv rfl rfl ?_
          refine ls Tryz.runUnderlying53 rfl rfl ?_
          refine mv rfl rfl ?_
          refine nl ?_
          refine fr ((lT (T.at 3)).length) (fun k3 l' H' L' => ∃ (a_k3 : Option Addr), ∃ (m_k3 : Nat), ∃ (c_k3 : Nat), ∃ (N_k3 : Chunk), [(0, .pointer (some ⟨b, 0, none⟩)), (1, .slice a_k3 m_k3 c_k3), (5, .int .i16 v), (6, .bool (decide ((6 : Int) ≤ v))), (21, .slice a3 (lT (T.at 3)).length c3), (215, .int .i64 ((lT (T.at 3)).length : Int))] = l' ∧ N_k3 :: L = L' ∧ Row 5 1 a_k3 m_k3 c_k3 (bytesOf (D ++ plainTo (zipped fs_OffsetFetchResponse v true T) v 3 ++ (counted true false (lT (T.at 3)).length 4) ++ ((lT (T.at 3)).take k3).flatMap (GOf (fs_OffsetFetchResponse[3]'(by decide)) v true))) N_k3 ∧ m_k3 = (D ++ plainTo (zipped fs_OffsetFetchResponse v true T) v 3 ++ (counted true false (lT (T.at 3)).length 4) ++ ((lT (T.at 3)).take k3).flatMap (GOf (fs_OffsetFetchResponse[3]'(by decide)) v true)).length) [(0, .pointer (some ⟨b, 0, none⟩)), (1, .slice _ _ _), (5, .int .i16 v), (6, .bool (decide ((6 : Int) ≤ v))), (21, .slice a3 (lT (T.at 3)).length c3), (215, .int .i64 ((lT (T.at 3)).length : Int))] (fun k3 l' H' L' h => ?_) (by omega) rfl (.cons rfl (.cons rfl (.cons rfl (.cons rfl (.cons rfl (.cons rfl (.nil _))))))) ⟨_, _, _, _, rfl, rfl, (by rw [List.take_zero, List.flatMap_nil, List.append_nil]; exact r209), (by rw [List.take_zero, List.flatMap_nil, List.append_nil])⟩ rfl rfl rfl rfl rfl (fun k3 l' H' L' hk3 le_46 hI => ?_) (fun l' H' L' le_47 hI => ?_)
          · obtain ⟨a_k3, m_k3, c_k3, N_k3, rfl, _⟩ := h; exact ⟨rfl, rfl, rfl, rfl⟩
          · skip
            obtain ⟨a_k3, m_k3, c_k3, N_k3, rfl, rfl, pk30, pk31⟩ := hI
            subst pk31
            refine sr ?_
            refine mv rfl rfl ?_
            refine asg rfl rfl ?_
            refine nl ?_
            refine sr ?_
            refine mv rfl rfl ?_
            refine mv rfl rfl ?_
            obtain ⟨b_48, o_49, e_50, g_51⟩ := (hf1.mono At_OffsetFetchResponseGroup.mono (le_3.trans (le_39.trans le_46))).rows.at_ (ne_nil_of_lt hk3)
            obtain ⟨cs_52, hA_53, hc_54⟩ := g_51 k3 hk3
            refine ix2 Tryz.runUnderlying53 Tryz.sizeOf102 rfl e_50 rfl rfl hk3 rfl ?_
            obtain ⟨a_k3_1, c_k3_1, m_k3_t, rfl, hf_k3_0, hf_k3_1⟩ := hA_53
            have oek3 := (ok209.el rfl _ (lT_mem (List.getElem_mem hk3))).2 rfl
            obtain ⟨B_k3, hdk3⟩ : ∃ z : List UInt8, z = D ++ plainTo (zipped fs_OffsetFetchResponse v true T) v 3 ++ (counted true false (lT (T.at 3)).length 4) ++ ((lT (T.at 3)).take k3).flatMap (GOf (fs_OffsetFetchResponse[3]'(by decide)) v true) := ⟨_, rfl⟩
            have rbk3 := pk30
            rw [← hdk3] at rbk3 ⊢
            have hBk3 : B_k3.length + (partB fs_sOffsetFetchResponseGroup v true ((lT (T.at 3))[k3])).length ≤ LIM := by rw [hdk3]; exact el_size hs209 hk3 (GOf_part (by decide) _)
            refine asg rfl rfl ?_
            refine nl ?_
            refine sq ?_
            refine sr ?_
            refine mv rfl rfl ?_
            refine nc rfl rfl ?_
            refine fa F102_0 rfl rfl ?_
            refine ld (Says.fz hc_54) Tryz.isAgg9 rfl (Nat.add_zero _).symm rfl rfl ?_
            refine asg rfl rfl ?_
            refine nl ?_
            refine sr ?_
            refine mv rfl rfl ?_
            refine nl ?_
            refine cdT rfl (by omega) ?_
            refine rg ?_
            refine mv rfl rfl ?_
            refine mv rfl rfl ?_
            have ok229 := oek3.get 0 (by decide) (has_yes (show (0 : Int) ≤ v by omega) (show ((-1) : Int) < 0 ∨ v ≤ (-1) by omega))
            have nn229 := ok229.nn (by decide) (by decide)
            have e_55 : B_k3 ++ (counted true false (((lT (T.at 3))[k3]).at 0).s.length 2 ++ (((lT (T.at 3))[k3]).at 0).s) = B_k3 ++ plainTo (zipped fs_sOffsetFetchResponseGroup v true ((lT (T.at 3))[k3])) v 1 := fold_first (fs := fs_sOffsetFetchResponseGroup) (v := v) (flex := true) (t := ((lT (T.at 3))[k3])) (B := B_k3) 0 rfl (by decide) (by decide) (has_yes (show (0 : Int) ≤ v by omega) (show ((-1) : Int) < 0 ∨ v ≤ (-1) by omega)) (by rw [FB_text (f := (fs_sOffsetFetchResponseGroup[0]'(by decide))) (by decide) (by decide) ok229, sT_nn nn229, nn229])
            have hs229 := fold_size e_55 (by decide) hBk3
            refine cl rfl rfl rfl (OutK.cast (k_AppendCompactString (x := (((lT (T.at 3))[k3]).at 0).s) (by have := ok229.s (Or.inl rfl); omega) rbk3 hs229) e_55) rfl (fun v_ H1 L1 hle hR => ?_)
            obtain ⟨rfl, a229, c229, N229, rfl, rfl, h229⟩ := hR
            have r229 := h229.1
            refine asg rfl rfl ?_
            refine nl ?_
            refine sq ?_
            refine sr ?_
            refine mv rfl rfl ?_
            refine nc rfl rfl ?_
            refine fa F102_1 rfl rfl ?_
            refine ld (Says.fz hc_54) Tryz.isAgg100 rfl rfl rfl rfl ?_
            refine asg rfl rfl ?_
            refine nl ?_
            refine sq ?_
            refine sr ?_
            refine mv rfl rfl ?_
            refine nl ?_
            refine cdT rfl (by omega) ?_
            refine rg ?_
            refine mv rfl rfl ?_
            refine mv rfl rfl ?_
            refine ls Tryz.runUnderlying100 rfl rfl ?_
            have ok241 := oek3.get 1 (by decide) (has_yes (show (0 : Int) ≤ v by omega) (show ((-1) : Int) < 0 ∨ v ≤ (-1) by omega))
            have nn241 := ok241.nn (by decide) (by decide)
            have ll241 := lT_len (ok241.len rfl)
            have e_56 : B_k3 ++ plainTo (zipped fs_sOffsetFetchResponseGroup v true ((lT (T.at 3))[k3])) v 1 ++ (counted true false (lT (((lT (T.at 3))[k3]).at 1)).length 4 ++ (lT (((lT (T.at 3))[k3]).at 1)).flatMap (GOf (fs_sOffsetFetchResponseGroup[1]'(by decide)) v true)) = B_k3 ++ plainTo (zipped fs_sOffsetFetchResponseGroup v true ((lT (T.at 3))[k3])) v 2 := fold_yes (fs := fs_sOffsetFetchResponseGroup) (v := v) (flex := true) (t := ((lT (T.at 3))[k3])) (B := B_k3) 1 (by decide) (by decide) (has_yes (show (0 : Int) ≤ v by omega) (show ((-1) : Int) < 0 ∨ v ≤ (-1) by omega)) (by rw [FB_list (f := (fs_sOffsetFetchResponseGroup[1]'(by decide))) (by decide) (by decide) ok241, nn241])
            have hs241 := fold_size e_56 (by decide) hBk3
            have hc241 : (B_k3 ++ plainTo (zipped fs_sOffsetFetchResponseGroup v true ((lT (T.at 3))[k3])) v 1).length + (counted true false (lT (((lT (T.at 3))[k3]).at 1)).length 4).length ≤ LIM := by have h := hs241; simp only [List.length_append] at h ⊢; omega
            refine cl rfl rfl rfl (OutK.cast (k_AppendCompactArrayLen (n := (lT (((lT (T.at 3))[k3]).at 1)).length) (by omega) r229 hc241) (show _ = B_k3 ++ plainTo (zipped fs_sOffsetFetchResponseGroup v true ((lT (T.at 3))[k3])) v 1 ++ (counted true false (lT (((lT (T.at 3))[k3]).at 1)).length 4) from rfl)) rfl (fun v_ H1 L1 hle hR => ?_)
            obtain ⟨rfl, a241, c241, N241, rfl, rfl, h241⟩ := hR
            have r241 := h241.1
            refine asg rfl rfl ?_
            refine nl ?_
            refine sr ?_
            refine mv rfl rfl ?_
            refine ls Tryz.runUnderlying100 rfl rfl ?_
            refine mv rfl rfl ?_
            refine nl ?_
            refine fr ((lT (((lT (T.at 3))[k3]).at 1)).length) (fun k4 l' H' L' => ∃ (a_k4 : Option Addr), ∃ (m_k4 : Nat), ∃ (c_k4 : Nat), ∃ (N_k4 : Chunk), [(0, .pointer (some ⟨b, 0, none⟩)), (1, .slice a_k4 m_k4 c_k4), (5, .int .i16 v), (6, .bool (decide ((6 : Int) ≤ v))), (21, .slice a3 (lT (T.at 3)).length c3), (23, .pointer (some ⟨b_48, o_49 + k3 * 4, none⟩)), (25, .slice a_k3_1 (lT (((lT (T.at 3))[k3]).at 1)).length c_k3_1), (215, .int .i64 ((lT (T.at 3)).length : Int)), (216, .int .i64 (k3 : Int)), (247, .int .i64 ((lT (((lT (T.at 3))[k3]).at 1)).length : Int))] = l' ∧ N_k4 :: L = L' ∧ Row 5 1 a_k4 m_k4 c_k4 (bytesOf (B_k3 ++ plainTo (zipped fs_sOffsetFetchResponseGroup v true ((lT (T.at 3))[k3])) v 1 ++ (counted true false (lT (((lT (T.at 3))[k3]).at 1)).length 4) ++ ((lT (((lT (T.at 3))[k3]).at 1)).take k4).flatMap (GOf (fs_sOffsetFetchResponseGroup[1]'(by decide)) v true))) N_k4 ∧ m_k4 = (B_k3 ++ plainTo (zipped fs_sOffsetFetchResponseGroup v true ((lT (T.at 3))[k3])) v 1 ++ (counted true false (lT (((lT (T.at 3))[k3]).at 1)).length 4) ++ ((lT (((lT (T.at 3))[k3]).at 1)).take k4).flatMap (GOf (fs_sOffsetFetchResponseGroup[1]'(by decide)) v true)).length) [(0, .pointer (some ⟨b, 0, none⟩)), (1, .slice _ _ _), (5, .int .i16 v), (6, .bool (decide ((6 : Int) ≤ v))), (21, .slice a3 (lT (T.at 3)).length c3), (23, .pointer (some ⟨b_48, o_49 + k3 * 4, none⟩)), (25, .slice a_k3_1 (lT (((lT (T.at 3))[k3]).at 1)).length c_k3_1), (215, .int .i64 ((lT (T.at 3)).length : Int)), (216, .int .i64 (k3 : Int)), (247, .int .i64 ((lT (((lT (T.at 3))[k3]).at 1)).length : Int))] (fun k4 l' H' L' h => ?_) (by omega) rfl (.cons rfl (.cons rfl (.cons rfl (.cons rfl (.cons rfl (.cons rfl (.cons rfl (.cons rfl (.cons rfl (.cons rfl (.nil _))))))))))) ⟨_, _, _, _, rfl, rfl, (by rw [List.take_zero, List.flatMap_nil, List.append_nil]; exact r241), (by rw [List.take_zero, List.flatMap_nil, List.append_nil])⟩ rfl rfl rfl rfl rfl (fun k4 l' H' L' hk4 le_57 hI => ?_) (fun l' H' L' le_58 hI => ?_)
            · obtain ⟨a_k4, m_k4, c_k4, N_k4, rfl, _⟩ := h; exact ⟨rfl, rfl, rfl, rfl⟩
            · skip
              obtain ⟨a_k4, m_k4, c_k4, N_k4, rfl, rfl, pk40, pk41⟩ := hI
              subst pk41
              refine sr ?_
              refine mv rfl rfl ?_
              refine asg rfl rfl ?_
              refine nl ?_
              refine sr ?_
              refine mv rfl rfl ?_
              refine mv rfl rfl ?_
              obtain ⟨b_59, o_60, e_61, g_62⟩ := (hf_k3_0.mono At_OffsetFetchResponseGroupTopic.mono le_57).rows.at_ (ne_nil_of_lt hk4)
              obtain ⟨cs_63, hA_64, hc_65⟩ := g_62 k4 hk4
              refine ix2 Tryz.runUnderlying100 Tryz.sizeOf122 rfl e_61 rfl rfl hk4 rfl ?_
              obtain ⟨a_k4_2, c_k4_2, m_k4_t, rfl, hf_k4_0, hf_k4_1⟩ := hA_64
              have oek4 := (ok241.el rfl _ (lT_mem (List.getElem_mem hk4))).2 rfl
              obtain ⟨B_k4, hdk4⟩ : ∃ z : List UInt8, z = B_k3 ++ plainTo (zipped fs_sOffsetFetchResponseGroup v true ((lT (T.at 3))[k3])) v 1 ++ (counted true false (lT (((lT (T.at 3))[k3]).at 1)).length 4) ++ ((lT (((lT (T.at 3))[k3]).at 1)).take k4).flatMap (GOf (fs_sOffsetFetchResponseGroup[1]'(by decide)) v true) := ⟨_, rfl⟩
              have rbk4 := pk40
              rw [← hdk4] at rbk4 ⊢
              have hBk4 : B_k4.length + (partB fs_sOffsetFetchResponseGroupTopic v true ((lT (((lT (T.at 3))[k3]).at 1))[k4])).length ≤ LIM := by rw [hdk4]; exact el_size hs241 hk4 (GOf_part (by decide) _)
              refine asg rfl rfl ?_
              refine nl ?_
              refine sq ?_
              refine sr ?_
              refine mv rfl rfl ?_
              refine ge rfl rfl rfl ?_
              refine mv rfl rfl ?_
              refine spl (t := 256) rfl (fun _ => ?_) (fun hn_ => absurd (by omega) hn_)
              refine gr rfl rfl ?_
              refine mv rfl rfl ?_
              refine gr rfl rfl ?_
              refine le rfl rfl rfl ?_
              refine pk rfl rfl rfl rfl ?_
              refine nl ?_
              refine cutT (fun l' H' L' => ∃ (aj_66 : Option Addr), ∃ (mj_66 : Nat), ∃ (cj_66 : Nat), ∃ (Nj_66 : Chunk), [(0, .pointer (some ⟨b, 0, none⟩)), (1, .slice aj_66 mj_66 cj_66), (5, .int .i16 v), (6, .bool (decide ((6 : Int) ≤ v))), (21, .slice a3 (lT (T.at 3)).length c3), (23, .pointer (some ⟨b_48, o_49 + k3 * 4, none⟩)), (25, .slice a_k3_1 (lT (((lT (T.at 3))[k3]).at 1)).length c_k3_1), (27, .pointer (some ⟨b_59, o_60 + k4 * 19, none⟩)), (215, .int .i64 ((lT (T.at 3)).length : Int)), (216, .int .i64 (k3 : Int)), (247, .int .i64 ((lT (((lT (T.at 3))[k3]).at 1)).length : Int)), (248, .int .i64 (k4 : Int))] = l' ∧ Nj_66 :: L = L' ∧ Row 5 1 aj_66 mj_66 cj_66 (bytesOf (B_k4 ++ plainTo (zipped fs_sOffsetFetchResponseGroupTopic v true ((lT (((lT (T.at 3))[k3]).at 1))[k4])) v 1)) Nj_66 ∧ mj_66 = (B_k4 ++ plainTo (zipped fs_sOffsetFetchResponseGroupTopic v true ((lT (((lT (T.at 3))[k3]).at 1))[k4])) v 1).length) ?_ (fun l' H' L' le_67 hI => ?_)
              · skip
                refine cd rfl (fun h259 => ?_) (fun h259 => ?_)
                · skip
                  refine sr ?_
                  refine mv rfl rfl ?_
                  refine nc rfl rfl ?_
                  refine fa F122_0 rfl rfl ?_
                  refine ld (Says.fz hc_65) Tryz.isAgg9 rfl (Nat.add_zero _).symm rfl rfl ?_
                  refine asg rfl rfl ?_
                  refine nl ?_
                  refine sr ?_
                  refine mv rfl rfl ?_
                  refine nl ?_
                  refine cdT rfl (by omega) ?_
                  refine rg ?_
                  refine mv rfl rfl ?_
                  refine mv rfl rfl ?_
                  have ok267 := oek4.get 0 (by decide) (has_yes (show (8 : Int) ≤ v by omega) (show (9 : Int) < 0 ∨ v ≤ 9 by omega))
                  have nn267 := ok267.nn (by decide) (by decide)
                  have e_68 : B_k4 ++ (counted true false (((lT (((lT (T.at 3))[k3]).at 1))[k4]).at 0).s.length 2 ++ (((lT (((lT (T.at 3))[k3]).at 1))[k4]).at 0).s) = B_k4 ++ plainTo (zipped fs_sOffsetFetchResponseGroupTopic v true ((lT (((lT (T.at 3))[k3]).at 1))[k4])) v 1 := fold_first (fs := fs_sOffsetFetchResponseGroupTopic) (v := v) (flex := true) (t := ((lT (((lT (T.at 3))[k3]).at 1))[k4])) (B := B_k4) 0 rfl (by decide) (by decide) (has_yes (show (8 : Int) ≤ v by omega) (show (9 : Int) < 0 ∨ v ≤ 9 by omega)) (by rw [FB_text (f := (fs_sOffsetFetchResponseGroupTopic[0]'(by decide))) (by decide) (by decide) ok267, sT_nn nn267, nn267])
                  have hs267 := fold_size e_68 (by decide) hBk4
                  refine cl rfl rfl rfl (OutK.cast (k_AppendCompactString (x := (((lT (((lT (T.at 3))[k3]).at 1))[k4]).at 0).s) (by have := ok267.s (Or.inl rfl); omega) rbk4 hs267) e_68) rfl (fun v_ H1 L1 hle hR => ?_)
                  obtain ⟨rfl, a267, c267, N267, rfl, rfl, h267⟩ := hR
                  have r267 := h267.1
                  refine asg rfl rfl ?_
                  refine nN ?_
                  refine fun a_ w_ hA hw => ⟨_, _, _, hA.sub ?_, (Fz.le.refl _), hw, _, _, _, _, rfl, rfl, r267, rfl⟩
                  exact (.cons rfl (.cons rfl (.cons rfl (.cons rfl (.cons rfl (.cons rfl (.cons rfl (.cons rfl (.cons rfl (.cons rfl (.cons rfl (.cons rfl (.nil _)))))))))))))
                · skip
                  refine skN ?_
                  have es_69 : plainTo (zipped fs_sOffsetFetchResponseGroupTopic v true ((lT (((lT (T.at 3))[k3]).at 1))[k4])) v 1 = plainTo (zipped fs_sOffsetFetchResponseGroupTopic v true ((lT (((lT (T.at 3))[k3]).at 1))[k4])) v 0 := (piece_no2 (fs := fs_sOffsetFetchResponseGroupTopic) (v := v) (flex := true) (t := ((lT (((lT (T.at 3))[k3]).at 1))[k4])) (k := 0) (by decide) (has_no (show v < (8 : Int) ∨ ((0 : Int) ≤ 9 ∧ 9 < v) by omega)))
                  have eX_70 : B_k4 = B_k4 ++ plainTo (zipped fs_sOffsetFetchResponseGroupTopic v true ((lT (((lT (T.at 3))[k3]).at 1))[k4])) v 1 := by rw [es_69, plain0, List.append_nil]
                  refine fun a_ w_ hA hw => ⟨_, _, _, hA.sub ?_, (Fz.le.refl _), hw, _, _, _, _, rfl, rfl, (by rw [← eX_70]; exact rbk4), (by rw [← eX_70])⟩
                  exact (.cons rfl (.cons rfl (.cons rfl (.cons rfl (.cons rfl (.cons rfl (.cons rfl (.cons rfl (.cons rfl (.cons rfl (.cons rfl (.cons rfl (.nil _)))))))))))))
              · skip
                obtain ⟨aj_66, mj_66, cj_66, Nj_66, rfl, rfl, pj0, pj1⟩ := hI
                subst pj1
                have rj_66 := pj0
                refine sq ?_
                refine sr ?_
                refine mv rfl rfl ?_
                refine ge rfl rfl rfl ?_
                refine nl ?_
                refine cutT (fun l' H' L' => ∃ (aj_71 : Option Addr), ∃ (mj_71 : Nat), ∃ (cj_71 : Nat), ∃ (Nj_71 : Chunk), [(0, .pointer (some ⟨b, 0, none⟩)), (1, .slice aj_71 mj_71 cj_71), (5, .int .i16 v), (6, .bool (decide ((6 : Int) ≤ v))), (21, .slice a3 (lT (T.at 3)).length c3), (23, .pointer (some ⟨b_48, o_49 + k3 * 4, none⟩)), (25, .slice a_k3_1 (lT (((lT (T.at 3))[k3]).at 1)).length c_k3_1), (27, .pointer (some ⟨b_59, o_60 + k4 * 19, none⟩)), (215, .int .i64 ((lT (T.at 3)).length : Int)), (216, .int .i64 (k3 : Int)), (247, .int .i64 ((lT (((lT (T.at 3))[k3]).at 1)).length : Int)), (248, .int .i64 (k4 : Int))] = l' ∧ Nj_71 :: L = L' ∧ Row 5 1 aj_71 mj_71 cj_71 (bytesOf (B_k4 ++ plainTo (zipped fs_sOffsetFetchResponseGroupTopic v true ((lT (((lT (T.at 3))[k3]).at 1))[k4])) v 2)) Nj_71 ∧ mj_71 = (B_k4 ++ plainTo (zipped fs_sOffsetFetchResponseGroupTopic v true ((lT (((lT (T.at 3))[k3]).at 1))[k4])) v 2).length) ?_ (fun l' H' L' le_72 hI => ?_)
                · skip
                  refine cd rfl (fun h272 => ?_) (fun h272 => ?_)
                  · skip
                    refine sr ?_
                    refine mv rfl rfl ?_
                    refine nc rfl rfl ?_
                    refine fa F122_1 rfl rfl ?_
                    refine la (Says.fz (hc_65.mono le_67)) Tryz.isAgg119 Tryz.sizeOf119 rfl rfl rfl rfl ?_
                    refine al Tryz.zeroValue119 rfl rfl (fun b_73 => ?_)
                    refine sa Tryz.sizeOf119 rfl rfl rfl rfl rfl .head ?_
                    refine nl ?_
                    refine rg ?_
                    refine mv rfl rfl ?_
                    refine la (Says.own .head) Tryz.isAgg119 Tryz.sizeOf119 rfl (Nat.zero_add _).symm rfl rfl ?_
                    refine tf (.tail .head) ?_
                    have ok279 := oek4.get 1 (by decide) (has_yes (show (10 : Int) ≤ v by omega) (show ((-1) : Int) < 0 ∨ v ≤ (-1) by omega))
                    have e_74 : B_k4 ++ plainTo (zipped fs_sOffsetFetchResponseGroupTopic v true ((lT (((lT (T.at 3))[k3]).at 1))[k4])) v 1 ++ (pad16 (((lT (((lT (T.at 3))[k3]).at 1))[k4]).at 1).s) = B_k4 ++ plainTo (zipped fs_sOffsetFetchResponseGroupTopic v true ((lT (((lT (T.at 3))[k3]).at 1))[k4])) v 2 := fold_yes (fs := fs_sOffsetFetchResponseGroupTopic) (v := v) (flex := true) (t := ((lT (((lT (T.at 3))[k3]).at 1))[k4])) (B := B_k4) 1 (by decide) (by decide) (has_yes (show (10 : Int) ≤ v by omega) (show ((-1) : Int) < 0 ∨ v ≤ (-1) by omega)) (FB_uuid (f := (fs_sOffsetFetchResponseGroupTopic[1]'(by decide))) (by decide))
                    have hs279 := fold_size e_74 (by decide) hBk4
                    refine cl rfl rfl rfl (OutK.cast (k_AppendUuid (x := (((lT (((lT (T.at 3))[k3]).at 1))[k4]).at 1).s) rj_66 hs279) e_74) rfl (fun v_ H1 L1 hle hR => ?_)
                    obtain ⟨rfl, a279, c279, N279, rfl, rfl, h279⟩ := hR
                    have r279 := h279.1
                    refine asg rfl rfl ?_
                    refine nN ?_
                    refine drN (.tail .head) ?_
                    refine fun a_ w_ hA hw => ⟨_, _, _, hA.sub ?_, (Fz.le.refl _), hw, _, _, _, _, rfl, rfl, r279, rfl⟩
                    exact (.cons rfl (.cons rfl (.cons rfl (.cons rfl (.cons rfl (.cons rfl (.cons rfl (.cons rfl (.cons rfl (.cons rfl (.cons rfl (.cons rfl (.nil _)))))))))))))
                  · skip
                    refine skN ?_
                    have es_75 : plainTo (zipped fs_sOffsetFetchResponseGroupTopic v true ((lT (((lT (T.at 3))[k3]).at 1))[k4])) v 2 = plainTo (zipped fs_sOffsetFetchResponseGroupTopic v true ((lT (((lT (T.at 3))[k3]).at 1))[k4])) v 1 := (piece_no2 (fs := fs_sOffsetFetchResponseGroupTopic) (v := v) (flex := true) (t := ((lT (((lT (T.at 3))[k3]).at 1))[k4])) (k := 1) (by decide) (has_no (show v < (10 : Int) ∨ ((0 : Int) ≤ (-1) ∧ (-1) < v) by omega)))
                    have eX_76 : B_k4 ++ plainTo (zipped fs_sOffsetFetchResponseGroupTopic v true ((lT (((lT (T.at 3))[k3]).at 1))[k4])) v 1 = B_k4 ++ plainTo (zipped fs_sOffsetFetchResponseGroupTopic v true ((lT (((lT (T.at 3))[k3]).at 1))[k4])) v 2 := by rw [es_75]
                    refine fun a_ w_ hA hw => ⟨_, _, _, hA.sub ?_, (Fz.le.refl _), hw, _, _, _, _, rfl, rfl, (by rw [← eX_76]; exact rj_66), (by rw [← eX_76])⟩
                    exact (.cons rfl (.cons rfl (.cons rfl (.cons rfl (.cons rfl (.cons rfl (.cons rfl (.cons rfl (.cons rfl (.cons rfl (.cons rfl (.cons rfl (.nil _)))))))))))))
                · skip
                  obtain ⟨aj_71, mj_71, cj_71, Nj_71, rfl, rfl, pj0, pj1⟩ := hI
                  subst pj1
                  have rj_71 := pj0
                  refine sq ?_
                  refine sr ?_
                  refine mv rfl rfl ?_
                  refine nc rfl rfl ?_
                  refine fa F122_2 rfl rfl ?_
                  refine ld (Says.fz (hc_65.mono (le_67.trans le_72))) Tryz.isAgg120 rfl rfl rfl rfl ?_
                  refine asg rfl rfl ?_
                  refine nl ?_
                  refine sq ?_
                  refine sr ?_
                  refine mv rfl rfl ?_
                  refine nl ?_
                  refine cdT rfl (by omega) ?_
                  refine rg ?_
                  refine mv rfl rfl ?_
                  refine mv rfl rfl ?_
                  refine ls Tryz.runUnderlying120 rfl rfl ?_
                  have ok288 := oek4.get 2 (by decide) (has_yes (show (0 : Int) ≤ v by omega) (show ((-1) : Int) < 0 ∨ v ≤ (-1) by omega))
                  have nn288 := ok288.nn (by decide) (by decide)
                  have ll288 := lT_len (ok288.len rfl)
                  have e_77 : B_k4 ++ plainTo (zipped fs_sOffsetFetchResponseGroupTopic v true ((lT (((lT (T.at 3))[k3]).at 1))[k4])) v 2 ++ (counted true false (lT (((lT (((lT (T.at 3))[k3]).at 1))[k4]).at 2)).length 4 ++ (lT (((lT (((lT (T.at 3))[k3]).at 1))[k4]).at 2)).flatMap (GOf (fs_sOffsetFetchResponseGroupTopic[2]'(by decide)) v true)) = B_k4 ++ plainTo (zipped fs_sOffsetFetchResponseGroupTopic v true ((lT (((lT (T.at 3))[k3]).at 1))[k4])) v 3 := fold_yes (fs := fs_sOffsetFetchResponseGroupTopic) (v := v) (flex := true) (t := ((lT (((lT (T.at 3))[k3]).at 1))[k4])) (B := B_k4) 2 (by decide) (by decide) (has_yes (show (0 : Int) ≤ v by omega) (show ((-1) : Int) < 0 ∨ v ≤ (-1) by omega)) (by rw [FB_list (f := (fs_sOffsetFetchResponseGroupTopic[2]'(by decide))) (by decide) (by decide) ok288, nn288])
                  have hs288 := fold_size e_77 (by decide) hBk4
                  have hc288 : (B_k4 ++ plainTo (zipped fs_sOffsetFetchResponseGroupTopic v true ((lT (((lT (T.at 3))[k3]).at 1))[k4])) v 2).length + (counted true false (lT (((lT (((lT (T.at 3))[k3]).at 1))[k4]).at 2)).length 4).length ≤ LIM := by have h := hs288; simp only [List.length_append] at h ⊢; omega
                  refine cl rfl rfl rfl (OutK.cast (k_AppendCompactArrayLen (n := (lT (((lT (((lT (T.at 3))[k3]).at 1))[k4]).at 2)).length) (by omega) rj_71 hc288) (show _ = B_k4 ++ plainTo (zipped fs_sOffsetFetchResponseGroupTopic v true ((lT (((lT (T.at 3))[k3]).at 1))[k4])) v 2 ++ (counted true false (lT (((lT (((lT (T.at 3))[k3]).at 1))[k4]).at 2)).length 4) from rfl)) rfl (fun v_ H1 L1 hle hR => ?_)
                  obtain ⟨rfl, a288, c288, N288, rfl, rfl, h288⟩ := hR
                  have r288 := h288.1
                  refine asg rfl rfl ?_
                  refine nl ?_
                  refine sr ?_
                  refine mv rfl rfl ?_
                  refine ls Tryz.runUnderlying120 rfl rfl ?_
                  refine mv rfl rfl ?_
                  refine nl ?_
                  refine fr ((lT (((lT (((lT (T.at 3))[k3]).at 1))[k4]).at 2)).length) (fun k5 l' H' L' => ∃ (a_k5 : Option Addr), ∃ (m_k5 : Nat), ∃ (c_k5 : Nat), ∃ (N_k5 : Chunk), [(0, .pointer (some ⟨b, 0, none⟩)), (1, .slice a_k5 m_k5 c_k5), (5, .int .i16 v), (6, .bool (decide ((6 : Int) ≤ v))), (21, .slice a3 (lT (T.at 3)).length c3), (23, .pointer (some ⟨b_48, o_49 + k3 * 4, none⟩)), (25, .slice a_k3_1 (lT (((lT (T.at 3))[k3]).at 1)).length c_k3_1), (27, .pointer (some ⟨b_59, o_60 + k4 * 19, none⟩)), (30, .slice a_k4_2 (lT (((lT (((lT (T.at 3))[k3]).at 1))[k4]).at 2)).length c_k4_2), (215, .int .i64 ((lT (T.at 3)).length : Int)), (216, .int .i64 (k3 : Int)), (247, .int .i64 ((lT (((lT (T.at 3))[k3]).at 1)).length : Int)), (248, .int .i64 (k4 : Int)), (294, .int .i64 ((lT (((lT (((lT (T.at 3))[k3]).at 1))[k4]).at 2)).length : Int))] = l' ∧ N_k5 :: L = L' ∧ Row 5 1 a_k5 m_k5 c_k5 (bytesOf (B_k4 ++ plainTo (zipped fs_sOffsetFetchResponseGroupTopic v true ((lT (((lT (T.at 3))[k3]).at 1))[k4])) v 2 ++ (counted true false (lT (((lT (((lT (T.at 3))[k3]).at 1))[k4]).at 2)).length 4) ++ ((lT (((lT (((lT (T.at 3))[k3]).at 1))[k4]).at 2)).take k5).flatMap (GOf (fs_sOffsetFetchResponseGroupTopic[2]'(by decide)) v true))) N_k5 ∧ m_k5 = (B_k4 ++ plainTo (zipped fs_sOffsetFetchResponseGroupTopic v true ((lT (((lT (T.at 3))[k3]).at 1))[k4])) v 2 ++ (counted true false (lT (((lT (((lT (T.at 3))[k3]).at 1))[k4]).at 2)).length 4) ++ ((lT (((lT (((lT (T.at 3))[k3]).at 1))[k4]).at 2)).take k5).flatMap (GOf (fs_sOffsetFetchResponseGroupTopic[2]'(by decide)) v true)).length) [(0, .pointer (some ⟨b, 0, none⟩)), (1, .slice _ _ _), (5, .int .i16 v), (6, .bool (decide ((6 : Int) ≤ v))), (21, .slice a3 (lT (T.at 3)).length c3), (23, .pointer (some ⟨b_48, o_49 + k3 * 4, none⟩)), (25, .slice a_k3_1 (lT (((lT (T.at 3))[k3]).at 1)).length c_k3_1), (27, .pointer (some ⟨b_59, o_60 + k4 * 19, none⟩)), (30, .slice a_k4_2 (lT (((lT (((lT (T.at 3))[k3]).at 1))[k4]).at 2)).length c_k4_2), (215, .int .i64 ((lT (T.at 3)).length : Int)), (216, .int .i64 (k3 : Int)), (247, .int .i64 ((lT (((lT (T.at 3))[k3]).at 1)).length : Int)), (248, .int .i64 (k4 : Int)), (294, .int .i64 ((lT (((lT (((lT (T.at 3))[k3]).at 1))[k4]).at 2)).length : Int))] (fun k5 l' H' L' h => ?_) (by omega) rfl (.cons rfl (.cons rfl (.cons rfl (.cons rfl (.cons rfl (.cons rfl (.cons rfl (.cons rfl (.cons rfl (.cons rfl (.cons rfl (.cons rfl (.cons rfl (.cons rfl (.nil _))))))))))))))) ⟨_, _, _, _, rfl, rfl, (by rw [List.take_zero, List.flatMap_nil, List.append_nil]; exact r288), (by rw [List.take_zero, List.flatMap_nil, List.append_nil])⟩ rfl rfl rfl rfl rfl (fun k5 l' H' L' hk5 le_78 hI => ?_) (fun l' H' L' le_79 hI => ?_)
                  · obtain ⟨a_k5, m_k5, c_k5, N_k5, rfl, _⟩ := h; exact ⟨rfl, rfl, rfl, rfl⟩
                  · skip
                    obtain ⟨a_k5, m_k5, c_k5, N_k5, rfl, rfl, pk50, pk51⟩ := hI
                    subst pk51
                    refine sr ?_
                    refine mv rfl rfl ?_
                    refine asg rfl rfl ?_
                    refine nl ?_
                    refine sr ?_
                    refine mv rfl rfl ?_
                    refine mv rfl rfl ?_
                    obtain ⟨b_80, o_81, e_82, g_83⟩ := (hf_k4_0.mono At_OffsetFetchResponseGroupTopicPartition.mono (le_67.trans (le_72.trans le_78))).rows.at_ (ne_nil_of_lt hk5)
                    obtain ⟨cs_84, hA_85, hc_86⟩ := g_83 k5 hk5
                    refine ix2 Tryz.runUnderlying120 Tryz.sizeOf125 rfl e_82 rfl rfl hk5 rfl ?_
                    obtain ⟨p_k5_3, m_k5_t, rfl, hf_k5_0, hf_k5_1⟩ := hA_85
                    have oek5 := (ok288.el rfl _ (lT_mem (List.getElem_mem hk5))).2 rfl
                    obtain ⟨B_k5, hdk5⟩ : ∃ z : List UInt8, z = B_k4 ++ plainTo (zipped fs_sOffsetFetchResponseGroupTopic v true ((lT (((lT (T.at 3))[k3]).at 1))[k4])) v 2 ++ (counted true false (lT (((lT (((lT (T.at 3))[k3]).at 1))[k4]).at 2)).length 4) ++ ((lT (((lT (((lT (T.at 3))[k3]).at 1))[k4]).at 2)).take k5).flatMap (GOf (fs_sOffsetFetchResponseGroupTopic[2]'(by decide)) v true) := ⟨_, rfl⟩
                    have rbk5 := pk50
                    rw [← hdk5] at rbk5 ⊢
                    have hBk5 : B_k5.length + (partB fs_sOffsetFetchResponseGroupTopicPartition v true ((lT (((lT (((lT (T.at 3))[k3]).at 1))[k4]).at 2))[k5])).length ≤ LIM := by rw [hdk5]; exact el_size hs288 hk5 (GOf_part (by decide) _)
                    refine asg rfl rfl ?_
                    refine nl ?_
                    refine sq ?_
                    refine sr ?_
                    refine mv rfl rfl ?_
                    refine nc rfl rfl ?_
                    refine fa F125_0 rfl rfl ?_
                    refine ld (Says.fz hc_86) Tryz.isAgg21 rfl (Nat.add_zero _).symm rfl rfl ?_
                    refine asg rfl rfl ?_
                    refine nl ?_
                    refine rg ?_
                    refine mv rfl rfl ?_
                    refine mv rfl rfl ?_
                    have ok307 := oek5.get 0 (by decide) (has_yes (show (0 : Int) ≤ v by omega) (show ((-1) : Int) < 0 ∨ v ≤ (-1) by omega))
                    have e_87 : B_k5 ++ (fixed (IntKind.i32.wrap (((lT (((lT (((lT (T.at 3))[k3]).at 1))[k4]).at 2))[k5]).at 0).n) 4) = B_k5 ++ plainTo (zipped fs_sOffsetFetchResponseGroupTopicPartition v true ((lT (((lT (((lT (T.at 3))[k3]).at 1))[k4]).at 2))[k5])) v 1 := fold_first (fs := fs_sOffsetFetchResponseGroupTopicPartition) (v := v) (flex := true) (t := ((lT (((lT (((lT (T.at 3))[k3]).at 1))[k4]).at 2))[k5])) (B := B_k5) 0 rfl (by decide) (by decide) (has_yes (show (0 : Int) ≤ v by omega) (show ((-1) : Int) < 0 ∨ v ≤ (-1) by omega)) ((FB_int (f := (fs_sOffsetFetchResponseGroupTopicPartition[0]'(by decide))) (by decide) (by decide)).trans (fixed_i32 _).symm)
                    have hs307 := fold_size e_87 (by decide) hBk5
                    refine cl rfl rfl rfl (OutK.cast (k_AppendInt32 (u := IntKind.i32.wrap (((lT (((lT (((lT (T.at 3))[k3]).at 1))[k4]).at 2))[k5]).at 0).n) rbk5 hs307) e_87) rfl (fun v_ H1 L1 hle hR => ?_)
                    obtain ⟨rfl, a307, c307, N307, rfl, rfl, h307⟩ := hR
                    have r307 := h307.1
                    refine asg rfl rfl ?_
                    refine nl ?_
                    refine sq ?_
                    refine sr ?_
                    refine mv rfl rfl ?_
                    refine nc rfl rfl ?_
                    refine fa F125_1 rfl rfl ?_
                    refine ld (Says.fz hc_86) Tryz.isAgg2 rfl rfl rfl rfl ?_
                    refine asg rfl rfl ?_
                    refine nl ?_
                    refine rg ?_
                    refine mv rfl rfl ?_
                    refine mv rfl rfl ?_
                    have ok314 := oek5.get 1 (by decide) (has_yes (show (0 : Int) ≤ v by omega) (show ((-1) : Int) < 0 ∨ v ≤ (-1) by omega))
                    have e_88 : B_k5 ++ plainTo (zipped fs_sOffsetFetchResponseGroupTopicPartition v true ((lT (((lT (((lT (T.at 3))[k3]).at 1))[k4]).at 2))[k5])) v 1 ++ (fixed ((((lT (((lT (((lT (T.at 3))[k3]).at 1))[k4]).at 2))[k5]).at 1).n) 8) = B_k5 ++ plainTo (zipped fs_sOffsetFetchResponseGroupTopicPartition v true ((lT (((lT (((lT (T.at 3))[k3]).at 1))[k4]).at 2))[k5])) v 2 := fold_yes (fs := fs_sOffsetFetchResponseGroupTopicPartition) (v := v) (flex := true) (t := ((lT (((lT (((lT (T.at 3))[k3]).at 1))[k4]).at 2))[k5])) (B := B_k5) 1 (by decide) (by decide) (has_yes (show (0 : Int) ≤ v by omega) (show ((-1) : Int) < 0 ∨ v ≤ (-1) by omega)) ((FB_int (f := (fs_sOffsetFetchResponseGroupTopicPartition[1]'(by decide))) (by decide) (by decide)).trans rfl)
                    have hs314 := fold_size e_88 (by decide) hBk5
                    refine cl rfl rfl rfl (OutK.cast (k_AppendInt64 (u := (((lT (((lT (((lT (T.at 3))[k3]).at 1))[k4]).at 2))[k5]).at 1).n) r307 hs314) e_88) rfl (fun v_ H1 L1 hle hR => ?_)
                    obtain ⟨rfl, a314, c314, N314, rfl, rfl, h314⟩ := hR
                    have r314 := h314.1
                    refine asg rfl rfl ?_
                    refine nl ?_
                    refine sq ?_
                    refine sr ?_
                    refine mv rfl rfl ?_
                    refine nc rfl rfl ?_
                    refine fa F125_2 rfl rfl ?_
                    refine ld (Says.fz hc_86) Tryz.isAgg21 rfl rfl rfl rfl ?_
                    refine asg rfl rfl ?_
                    refine nl ?_
                    refine rg ?_
                    refine mv rfl rfl ?_
                    refine mv rfl rfl ?_
                    have ok321 := oek5.get 2 (by decide) (has_yes (show (0 : Int) ≤ v by omega) (show ((-1) : Int) < 0 ∨ v ≤ (-1) by omega))
                    have e_89 : B_k5 ++ plainTo (zipped fs_sOffsetFetchResponseGroupTopicPartition v true ((lT (((lT (((lT (T.at 3))[k3]).at 1))[k4]).at 2))[k5])) v 2 ++ (fixed (IntKind.i32.wrap (((lT (((lT (((lT (T.at 3))[k3]).at 1))[k4]).at 2))[k5]).at 2).n) 4) = B_k5 ++ plainTo (zipped fs_sOffsetFetchResponseGroupTopicPartition v true ((lT (((lT (((lT (T.at 3))[k3]).at 1))[k4]).at 2))[k5])) v 3 := fold_yes (fs := fs_sOffsetFetchResponseGroupTopicPartition) (v := v) (flex := true) (t := ((lT (((lT (((lT (T.at 3))[k3]).at 1))[k4]).at 2))[k5])) (B := B_k5) 2 (by decide) (by decide) (has_yes (show (0 : Int) ≤ v by omega) (show ((-1) : Int) < 0 ∨ v ≤ (-1) by omega)) ((FB_int (f := (fs_sOffsetFetchResponseGroupTopicPartition[2]'(by decide))) (by decide) (by decide)).trans (fixed_i32 _).symm)
                    have hs321 := fold_size e_89 (by decide) hBk5
                    refine cl rfl rfl rfl (OutK.cast (k_AppendInt32 (u := IntKind.i32.wrap (((lT (((lT (((lT (T.at 3))[k3]).at 1))[k4]).at 2))[k5]).at 2).n) r314 hs321) e_89) rfl (fun v_ H1 L1 hle hR => ?_)
                    obtain ⟨rfl, a321, c321, N321, rfl, rfl, h321⟩ := hR
                    have r321 := h321.1
                    refine asg rfl rfl ?_
                    refine nl ?_
                    refine sq ?_
                    refine sr ?_
                    refine mv rfl rfl ?_
                    refine nc rfl rfl ?_
                    refine fa F125_3 rfl rfl ?_
                    refine ld (Says.fz hc_86) Tryz.isAgg110 rfl rfl rfl rfl ?_
                    refine asg rfl rfl ?_
                    refine nl ?_
                    refine sr ?_
                    refine mv rfl rfl ?_
                    refine nl ?_
                    refine cdT rfl (by omega) ?_
                    refine rg ?_
                    refine mv rfl rfl ?_
                    refine mv rfl rfl ?_
                    have ok329 := oek5.get 3 (by decide) (has_yes (show (0 : Int) ≤ v by omega) (show ((-1) : Int) < 0 ∨ v ≤ (-1) by omega))
                    have e_90 : B_k5 ++ plainTo (zipped fs_sOffsetFetchResponseGroupTopicPartition v true ((lT (((lT (((lT (T.at 3))[k3]).at 1))[k4]).at 2))[k5])) v 3 ++ (counted true (((lT (((lT (((lT (T.at 3))[k3]).at 1))[k4]).at 2))[k5]).at 3).nul (sT (((lT (((lT (((lT (T.at 3))[k3]).at 1))[k4]).at 2))[k5]).at 3)).length 2 ++ sT (((lT (((lT (((lT (T.at 3))[k3]).at 1))[k4]).at 2))[k5]).at 3)) = B_k5 ++ plainTo (zipped fs_sOffsetFetchResponseGroupTopicPartition v true ((lT (((lT (((lT (T.at 3))[k3]).at 1))[k4]).at 2))[k5])) v 4 := fold_yes (fs := fs_sOffsetFetchResponseGroupTopicPartition) (v := v) (flex := true) (t := ((lT (((lT (((lT (T.at 3))[k3]).at 1))[k4]).at 2))[k5])) (B := B_k5) 3 (by decide) (by decide) (has_yes (show (0 : Int) ≤ v by omega) (show ((-1) : Int) < 0 ∨ v ≤ (-1) by omega)) (FB_text (f := (fs_sOffsetFetchResponseGroupTopicPartition[3]'(by decide))) (by decide) (by decide) ok329)
                    have hs329 := fold_size e_90 (by decide) hBk5
                    refine cl rfl rfl rfl (OutK.cast (k_AppendCompactNullableString hf_k5_0 (ok329.s (Or.inl rfl)) r321 hs329) e_90) rfl (fun v_ H1 L1 hle hR => ?_)
                    obtain ⟨rfl, a329, c329, N329, rfl, rfl, h329⟩ := hR
                    have r329 := h329.1
                    refine asg rfl rfl ?_
                    refine nl ?_
                    refine sq ?_
                    refine sr ?_
                    refine mv rfl rfl ?_
                    refine nc rfl rfl ?_
                    refine fa F125_4 rfl rfl ?_
                    refine ld (Says.fz hc_86) Tryz.isAgg45 rfl rfl rfl rfl ?_
                    refine asg rfl rfl ?_
                    refine nl ?_
                    refine rg ?_
                    refine mv rfl rfl ?_
                    refine mv rfl rfl ?_
                    have ok339 := oek5.get 4 (by decide) (has_yes (show (0 : Int) ≤ v by omega) (show ((-1) : Int) < 0 ∨ v ≤ (-1) by omega))
                    have e_91 : B_k5 ++ plainTo (zipped fs_sOffsetFetchResponseGroupTopicPartition v true ((lT (((lT (((lT (T.at 3))[k3]).at 1))[k4]).at 2))[k5])) v 4 ++ (fixed (IntKind.i16.wrap (((lT (((lT (((lT (T.at 3))[k3]).at 1))[k4]).at 2))[k5]).at 4).n) 2) = B_k5 ++ plainTo (zipped fs_sOffsetFetchResponseGroupTopicPartition v true ((lT (((lT (((lT (T.at 3))[k3]).at 1))[k4]).at 2))[k5])) v 5 := fold_yes (fs := fs_sOffsetFetchResponseGroupTopicPartition) (v := v) (flex := true) (t := ((lT (((lT (((lT (T.at 3))[k3]).at 1))[k4]).at 2))[k5])) (B := B_k5) 4 (by decide) (by decide) (has_yes (show (0 : Int) ≤ v by omega) (show ((-1) : Int) < 0 ∨ v ≤ (-1) by omega)) ((FB_int (f := (fs_sOffsetFetchResponseGroupTopicPartition[4]'(by decide))) (by decide) (by decide)).trans (fixed_i16 _).symm)
                    have hs339 := fold_size e_91 (by decide) hBk5
                    refine cl rfl rfl rfl (OutK.cast (k_AppendInt16 (u := IntKind.i16.wrap (((lT (((lT (((lT (T.at 3))[k3]).at 1))[k4]).at 2))[k5]).at 4).n) r329 hs339) e_91) rfl (fun v_ H1 L1 hle hR => ?_)
                    obtain ⟨rfl, a339, c339, N339, rfl, rfl, h339⟩ := hR
                    have r339 := h339.1
                    refine asg rfl rfl ?_
                    refine nl ?_
                    refine sr ?_
                    refine mv rfl rfl ?_
                    refine nl ?_
                    refine cdT rfl (by omega) ?_
                    refine sr ?_
                    refine mv rfl rfl ?_
                    refine mv rfl rfl ?_
                    refine nc rfl rfl ?_
                    refine fa F125_5 rfl rfl ?_
                    refine cl rfl rfl rfl (t_lenU (j := 5) hc_86 rfl hf_k5_1) rfl (fun v_ H1 L1 hle hR => ?_)
                    obtain ⟨rfl, rfl, rfl⟩ := hR
                    have hu345 := oek5.u
                    have hul345 := hu345.2.1
                    obtain ⟨hz345a, hz345b⟩ := part_size_plain (by decide) hu345 hBk5
                    refine cv Tryz.runUnderlying3 Tryz.runUnderlying62 rfl (w32u (by omega) (by omega)) rfl ?_
                    refine ad rfl rfl ((w32u (by omega) (by omega)).trans (Int.zero_add _)) rfl ?_
                    refine cl rfl rfl rfl (k_AppendUvarint (n := ((lT (((lT (((lT (T.at 3))[k3]).at 1))[k4]).at 2))[k5]).u.length) (by omega) r339 hz345a) rfl (fun v_ H1 L1 hle hR => ?_)
                    obtain ⟨rfl, a348, c348, N348, rfl, rfl, h348⟩ := hR
                    have r348 := h348.1
                    refine asg rfl rfl ?_
                    refine nl ?_
                    refine rg ?_
                    refine mv rfl rfl ?_
                    refine nc rfl rfl ?_
                    refine fa F125_5 rfl rfl ?_
                    refine mv rfl rfl ?_
                    refine cl rfl rfl rfl (t_append_each (j := 5) hc_86 rfl hf_k5_1 (by omega) r348 (fun p hp => by have := hu345.2.2 p hp; omega) hz345b) rfl (fun v_ H1 L1 le_92 hR => ?_)
                    obtain ⟨a353, c353, N353, rfl, rfl, h353⟩ := hR
                    have r353 := h353.1
                    have eP_93 : B_k5 ++ plainTo (zipped fs_sOffsetFetchResponseGroupTopicPartition v true ((lT (((lT (((lT (T.at 3))[k3]).at 1))[k4]).at 2))[k5])) v 5 ++ uvar ((lT (((lT (((lT (T.at 3))[k3]).at 1))[k4]).at 2))[k5]).u.length ++ ((lT (((lT (((lT (T.at 3))[k3]).at 1))[k4]).at 2))[k5]).u.flatMap tagU = B_k5 ++ partB fs_sOffsetFetchResponseGroupTopicPartition v true ((lT (((lT (((lT (T.at 3))[k3]).at 1))[k4]).at 2))[k5]) := part_close (B := B_k5) (by decide) hu345
                    rw [eP_93] at r353 ⊢
                    refine asg rfl rfl ?_
                    refine nN ?_
                    refine Nb ?_
                    have ee_94 : B_k5 ++ partB fs_sOffsetFetchResponseGroupTopicPartition v true ((lT (((lT (((lT (T.at 3))[k3]).at 1))[k4]).at 2))[k5]) = B_k4 ++ plainTo (zipped fs_sOffsetFetchResponseGroupTopic v true ((lT (((lT (T.at 3))[k3]).at 1))[k4])) v 2 ++ (counted true false (lT (((lT (((lT (T.at 3))[k3]).at 1))[k4]).at 2)).length 4) ++ ((lT (((lT (((lT (T.at 3))[k3]).at 1))[k4]).at 2)).take (k5 + 1)).flatMap (GOf (fs_sOffsetFetchResponseGroupTopic[2]'(by decide)) v true) := by rw [hdk5]; exact el_end (B0 := B_k4 ++ plainTo (zipped fs_sOffsetFetchResponseGroupTopic v true ((lT (((lT (T.at 3))[k3]).at 1))[k4])) v 2 ++ (counted true false (lT (((lT (((lT (T.at 3))[k3]).at 1))[k4]).at 2)).length 4)) (G := (GOf (fs_sOffsetFetchResponseGroupTopic[2]'(by decide)) v true)) hk5 (GOf_part (by decide) _)
                    refine fun a_ w_ hA hw => ⟨_, _, _, hA.sub ?_, (le_78.trans le_92), hw, _, rfl, _, _, _, _, rfl, rfl, (by rw [← ee_94]; exact r353), (by rw [← ee_94])⟩
                    exact (.cons rfl (.cons rfl (.cons rfl (.cons rfl (.cons rfl (.cons rfl (.cons rfl (.cons rfl (.cons rfl (.cons rfl (.cons rfl (.cons rfl (.cons rfl (.cons rfl (.cons rfl (.nil _))))))))))))))))
                  · skip
                    obtain ⟨a_k5, m_k5, c_k5, N_k5, rfl, rfl, pk50, pk51⟩ := hI
                    refine toWp ?_
                    have eL288 : B_k4 ++ plainTo (zipped fs_sOffsetFetchResponseGroupTopic v true ((lT (((lT (T.at 3))[k3]).at 1))[k4])) v 2 ++ (counted true false (lT (((lT (((lT (T.at 3))[k3]).at 1))[k4]).at 2)).length 4) ++ ((lT (((lT (((lT (T.at 3))[k3]).at 1))[k4]).at 2)).take (lT (((lT (((lT (T.at 3))[k3]).at 1))[k4]).at 2)).length).flatMap (GOf (fs_sOffsetFetchResponseGroupTopic[2]'(by decide)) v true) = B_k4 ++ plainTo (zipped fs_sOffsetFetchResponseGroupTopic v true ((lT (((lT (T.at 3))[k3]).at 1))[k4])) v 3 := by rw [List.take_length, List.append_assoc]; exact e_77
                    rw [eL288] at pk50 pk51
                    subst pk51
                    refine sr ?_
                    refine mv rfl rfl ?_
                    refine nl ?_
                    refine cdT rfl (by omega) ?_
                    refine sr ?_
                    refine mv rfl rfl ?_
                    refine mv rfl rfl ?_
                    refine nc rfl rfl ?_
                    refine fa F122_3 rfl rfl ?_
                    refine cl rfl rfl rfl (t_lenU (j := 18) (hc_65.mono (le_67.trans (le_72.trans le_79))) rfl (hf_k4_1.mono (le_67.trans (le_72.trans le_79)))) rfl (fun v_ H1 L1 hle hR => ?_)
                    obtain ⟨rfl, rfl, rfl⟩ := hR
                    have hu360 := oek4.u
                    have hul360 := hu360.2.1
                    obtain ⟨hz360a, hz360b⟩ := part_size_plain (by decide) hu360 hBk4
                    refine cv Tryz.runUnderlying3 Tryz.runUnderlying62 rfl (w32u (by omega) (by omega)) rfl ?_
                    refine ad rfl rfl ((w32u (by omega) (by omega)).trans (Int.zero_add _)) rfl ?_
                    refine cl rfl rfl rfl (k_AppendUvarint (n := ((lT (((lT (T.at 3))[k3]).at 1))[k4]).u.length) (by omega) pk50 hz360a) rfl (fun v_ H1 L1 hle hR => ?_)
                    obtain ⟨rfl, a363, c363, N363, rfl, rfl, h363⟩ := hR
                    have r363 := h363.1
                    refine asg rfl rfl ?_
                    refine nl ?_
                    refine rg ?_
                    refine mv rfl rfl ?_
                    refine nc rfl rfl ?_
                    refine fa F122_3 rfl rfl ?_
                    refine mv rfl rfl ?_
                    refine cl rfl rfl rfl (t_append_each (j := 18) (hc_65.mono (le_67.trans (le_72.trans le_79))) rfl (hf_k4_1.mono (le_67.trans (le_72.trans le_79))) (by omega) r363 (fun p hp => by have := hu360.2.2 p hp; omega) hz360b) rfl (fun v_ H1 L1 le_95 hR => ?_)
                    obtain ⟨a368, c368, N368, rfl, rfl, h368⟩ := hR
                    have r368 := h368.1
                    have eP_96 : B_k4 ++ plainTo (zipped fs_sOffsetFetchResponseGroupTopic v true ((lT (((lT (T.at 3))[k3]).at 1))[k4])) v 3 ++ uvar ((lT (((lT (T.at 3))[k3]).at 1))[k4]).u.length ++ ((lT (((lT (T.at 3))[k3]).at 1))[k4]).u.flatMap tagU = B_k4 ++ partB fs_sOffsetFetchResponseGroupTopic v true ((lT (((lT (T.at 3))[k3]).at 1))[k4]) := part_close (B := B_k4) (by decide) hu360
                    rw [eP_96] at r368 ⊢
                    refine asg rfl rfl ?_
                    refine nN ?_
                    refine Nb ?_
                    have ee_97 : B_k4 ++ partB fs_sOffsetFetchResponseGroupTopic v true ((lT (((lT (T.at 3))[k3]).at 1))[k4]) = B_k3 ++ plainTo (zipped fs_sOffsetFetchResponseGroup v true ((lT (T.at 3))[k3])) v 1 ++ (counted true false (lT (((lT (T.at 3))[k3]).at 1)).length 4) ++ ((lT (((lT (T.at 3))[k3]).at 1)).take (k4 + 1)).flatMap (GOf (fs_sOffsetFetchResponseGroup[1]'(by decide)) v true) := by rw [hdk4]; exact el_end (B0 := B_k3 ++ plainTo (zipped fs_sOffsetFetchResponseGroup v true ((lT (T.at 3))[k3])) v 1 ++ (counted true false (lT (((lT (T.at 3))[k3]).at 1)).length 4)) (G := (GOf (fs_sOffsetFetchResponseGroup[1]'(by decide)) v true)) hk4 (GOf_part (by decide) _)
                    refine fun a_ w_ hA hw => ⟨_, _, _, hA.sub ?_, (le_57.trans (le_67.trans (le_72.trans (le_79.trans le_95)))), hw, _, rfl, _, _, _, _, rfl, rfl, (by rw [← ee_97]; exact r368), (by rw [← ee_97])⟩
                    exact (.cons rfl (.cons rfl (.cons rfl (.cons rfl (.cons rfl (.cons rfl (.cons rfl (.cons rfl (.cons rfl (.cons rfl (.cons rfl (.nil _))))))))))))
            · skip
              obtain ⟨a_k4, m_k4, c_k4, N_k4, rfl, rfl, pk40, pk41⟩ := hI
              refine toWp ?_
              have eL241 : B_k3 ++ plainTo (zipped fs_sOffsetFetchResponseGroup v true ((lT (T.at 3))[k3])) v 1 ++ (counted true false (lT (((lT (T.at 3))[k3]).at 1)).length 4) ++ ((lT (((lT (T.at 3))[k3]).at 1)).take (lT (((lT (T.at 3))[k3]).at 1)).length).flatMap (GOf (fs_sOffsetFetchResponseGroup[1]'(by decide)) v true) = B_k3 ++ plainTo (zipped fs_sOffsetFetchResponseGroup v true ((lT (T.at 3))[k3])) v 2 := by rw [List.take_length, List.append_assoc]; exact e_56
              rw [eL241] at pk40 pk41
              subst pk41
              refine sq ?_
              refine sr ?_
              refine mv rfl rfl ?_
              refine nc rfl rfl ?_
              refine fa F102_2 rfl rfl ?_
              refine ld (Says.fz (hc_54.mono le_58)) Tryz.isAgg45 rfl rfl rfl rfl ?_
              refine asg rfl rfl ?_
              refine nl ?_
              refine rg ?_
              refine mv rfl rfl ?_
              refine mv rfl rfl ?_
              have ok376 := oek3.get 2 (by decide) (has_yes (show (0 : Int) ≤ v by omega) (show ((-1) : Int) < 0 ∨ v ≤ (-1) by omega))
              have e_98 : B_k3 ++ plainTo (zipped fs_sOffsetFetchResponseGroup v true ((lT (T.at 3))[k3])) v 2 ++ (fixed (IntKind.i16.wrap (((lT (T.at 3))[k3]).at 2).n) 2) = B_k3 ++ plainTo (zipped fs_sOffsetFetchResponseGroup v true ((lT (T.at 3))[k3])) v 3 := fold_yes (fs := fs_sOffsetFetchResponseGroup) (v := v) (flex := true) (t := ((lT (T.at 3))[k3])) (B := B_k3) 2 (by decide) (by decide) (has_yes (show (0 : Int) ≤ v by omega) (show ((-1) : Int) < 0 ∨ v ≤ (-1) by omega)) ((FB_int (f := (fs_sOffsetFetchResponseGroup[2]'(by decide))) (by decide) (by decide)).trans (fixed_i16 _).symm)
              have hs376 := fold_size e_98 (by decide) hBk3
              refine cl rfl rfl rfl (OutK.cast (k_AppendInt16 (u := IntKind.i16.wrap (((lT (T.at 3))[k3]).at 2).n) pk40 hs376) e_98) rfl (fun v_ H1 L1 hle hR => ?_)
              obtain ⟨rfl, a376, c376, N376, rfl, rfl, h376⟩ := hR
              have r376 := h376.1
              refine asg rfl rfl ?_
              refine nl ?_
              refine sr ?_
              refine mv rfl rfl ?_
              refine nl ?_
              refine cdT rfl (by omega) ?_
              refine sr ?_
              refine mv rfl rfl ?_
              refine mv rfl rfl ?_
              refine nc rfl rfl ?_
              refine fa F102_3 rfl rfl ?_
              refine cl rfl rfl rfl (t_lenU (j := 3) (hc_54.mono le_58) rfl (hf_k3_1.mono le_58)) rfl (fun v_ H1 L1 hle hR => ?_)
              obtain ⟨rfl, rfl, rfl⟩ := hR
              have hu382 := oek3.u
              have hul382 := hu382.2.1
              obtain ⟨hz382a, hz382b⟩ := part_size_plain (by decide) hu382 hBk3
              refine cv Tryz.runUnderlying3 Tryz.runUnderlying62 rfl (w32u (by omega) (by omega)) rfl ?_
              refine ad rfl rfl ((w32u (by omega) (by omega)).trans (Int.zero_add _)) rfl ?_
              refine cl rfl rfl rfl (k_AppendUvarint (n := ((lT (T.at 3))[k3]).u.length) (by omega) r376 hz382a) rfl (fun v_ H1 L1 hle hR => ?_)
              obtain ⟨rfl, a385, c385, N385, rfl, rfl, h385⟩ := hR
              have r385 := h385.1
              refine asg rfl rfl ?_
              refine nl ?_
              refine rg ?_
              refine mv rfl rfl ?_
              refine nc rfl rfl ?_
              refine fa F102_3 rfl rfl ?_
              refine mv rfl rfl ?_
              refine cl rfl rfl rfl (t_append_each (j := 3) (hc_54.mono le_58) rfl (hf_k3_1.mono le_58) (by omega) r385 (fun p hp => by have := hu382.2.2 p hp; omega) hz382b) rfl (fun v_ H1 L1 le_99 hR => ?_)
              obtain ⟨a390, c390, N390, rfl, rfl, h390⟩ := hR
              have r390 := h390.1
              have eP_100 : B_k3 ++ plainTo (zipped fs_sOffsetFetchResponseGroup v true ((lT (T.at 3))[k3])) v 3 ++ uvar ((lT (T.at 3))[k3]).u.length ++ ((lT (T.at 3))[k3]).u.flatMap tagU = B_k3 ++ partB fs_sOffsetFetchResponseGroup v true ((lT (T.at 3))[k3]) := part_close (B := B_k3) (by decide) hu382
              rw [eP_100] at r390 ⊢
              refine asg rfl rfl ?_
              refine nN ?_
              refine Nb ?_
              have ee_101 : B_k3 ++ partB fs_sOffsetFetchResponseGroup v true ((lT (T.at 3))[k3]) = D ++ plainTo (zipped fs_OffsetFetchResponse v true T) v 3 ++ (counted true false (lT (T.at 3)).length 4) ++ ((lT (T.at 3)).take (k3 + 1)).flatMap (GOf (fs_OffsetFetchResponse[3]'(by decide)) v true) := by rw [hdk3]; exact el_end (B0 := D ++ plainTo (zipped fs_OffsetFetchResponse v true T) v 3 ++ (counted true false (lT (T.at 3)).length 4)) (G := (GOf (fs_OffsetFetchResponse[3]'(by decide)) v true)) hk3 (GOf_part (by decide) _)
              refine fun a_ w_ hA hw => ⟨_, _, _, hA.sub ?_, (le_46.trans (le_58.trans le_99)), hw, _, rfl, _, _, _, _, rfl, rfl, (by rw [← ee_101]; exact r390), (by rw [← ee_101])⟩
              exact (.cons rfl (.cons rfl (.cons rfl (.cons rfl (.cons rfl (.cons rfl (.cons rfl (.nil _))))))))
          · skip
            obtain ⟨a_k3, m_k3, c_k3, N_k3, rfl, rfl, pk30, pk31⟩ := hI
            refine toNn ?_
            have eL209 : D ++ plainTo (zipped fs_OffsetFetchResponse v true T) v 3 ++ (counted true false (lT (T.at 3)).length 4) ++ ((lT (T.at 3)).take (lT (T.at 3)).length).flatMap (GOf (fs_OffsetFetchResponse[3]'(by decide)) v true) = D ++ plainTo (zipped fs_OffsetFetchResponse v true T) v 4 := by rw [List.take_length, List.append_assoc]; exact e_45
            rw [eL209] at pk30 pk31
            subst pk31
            refine fun a_ w_ hA hw => ⟨_, _, _, hA.sub ?_, le_47, hw, _, _, _, _, rfl, rfl, pk30, rfl⟩
            exact (.cons rfl (.cons rfl (.cons rfl (.nil _))))
        · skip
          refine skN ?_
          have es_102 : plainTo (zipped fs_OffsetFetchResponse v true T) v 4 = plainTo (zipped fs_OffsetFetchResponse v true T) v 3 := (piece_no2 (fs := fs_OffsetFetchResponse) (v := v) (flex := true) (t := T) (k := 3) (by decide) (has_no (show v < (8 : Int) ∨ ((0 : Int) ≤ (-1) ∧ (-1) < v) by omega)))
          have eX_103 : D ++ plainTo (zipped fs_OffsetFetchResponse v true T) v 3 = D ++ plainTo (zipped fs_OffsetFetchResponse v true T) v 4 := by rw [es_102]
          refine fun a_ w_ hA hw => ⟨_, _, _, hA.sub ?_, (Fz.le.refl _), hw, _, _, _, _, rfl, rfl, (by rw [← eX_103]; exact rj_38), (by rw [← eX_103])⟩
          exact (.cons rfl (.cons rfl (.cons rfl (.nil _))))
      · skip
        obtain ⟨aj_43, mj_43, cj_43, Nj_43, rfl, rfl, pj0, pj1⟩ := hI
        subst pj1
        have rj_43 := pj0
        refine sq ?_
        refine sr ?_
        refine mv rfl rfl ?_
        refine nl ?_
        refine cdT rfl (by omega) ?_
        refine sr ?_
        refine mv rfl rfl ?_
        refine mv rfl rfl ?_
        refine nc rfl rfl ?_
        refine fa0 F58_5 rfl rfl ?_
        refine cl rfl rfl rfl (t_lenU (j := 5) (hv.mono (le_3.trans (le_39.trans le_44))) rfl (hf2.mono (le_3.trans (le_39.trans le_44)))) rfl (fun v_ H1 L1 hle hR => ?_)
        obtain ⟨rfl, rfl, rfl⟩ := hR
        have hu397 := hok.u
        have hul397 := hu397.2.1
        obtain ⟨hz397a, hz397b⟩ := part_size_plain (by decide) hu397 hb
        refine cv Tryz.runUnderlying3 Tryz.runUnderlying62 rfl (w32u (by omega) (by omega)) rfl ?_
        refine ad rfl rfl ((w32u (by omega) (by omega)).trans (Int.zero_add _)) rfl ?_
        refine cl rfl rfl rfl (k_AppendUvarint (n := T.u.length) (by omega) rj_43 hz397a) rfl (fun v_ H1 L1 hle hR => ?_)
        obtain ⟨rfl, a400, c400, N400, rfl, rfl, h400⟩ := hR
        have r400 := h400.1
        refine asg rfl rfl ?_
        refine nl ?_
        refine rg ?_
        refine mv rfl rfl ?_
        refine nc rfl rfl ?_
        refine fa0 F58_5 rfl rfl ?_
        refine mv rfl rfl ?_
        refine cl rfl rfl rfl (t_append_each (j := 5) (hv.mono (le_3.trans (le_39.trans le_44))) rfl (hf2.mono (le_3.trans (le_39.trans le_44))) (by omega) r400 (fun p hp => by have := hu397.2.2 p hp; omega) hz397b) rfl (fun v_ H1 L1 le_104 hR => ?_)
        obtain ⟨a405, c405, N405, rfl, rfl, h405⟩ := hR
        have r405 := h405.1
        have eP_105 : D ++ plainTo (zipped fs_OffsetFetchResponse v true T) v 4 ++ uvar T.u.length ++ T.u.flatMap tagU = D ++ partB fs_OffsetFetchResponse v true T := part_close (B := D) (by decide) hu397
        rw [eP_105] at r405 ⊢
        refine asg rfl rfl ?_
        refine nl ?_
        refine sr ?_
        refine mv rfl rfl ?_
        refine asg rfl rfl ?_
        refine nl ?_
        exact rT rfl rfl (le_3.trans (le_39.trans (le_44.trans le_104))) (fun _ _ h => h) (OutB.of r405 rfl)
end Go.Sx

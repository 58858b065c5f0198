import Derived.Test.YtbmkefmfhmbenaaBConsumerMemberMetadata
import Derived.KernelRfl
set_option linter.unusedVariables false
set_option linter.unusedSimpArgs false
set_option maxRecDepth 100000
set_option maxHeartbeats 20000000
namespace Go.Sx
open Go.Proofs
theorem app_ConsumerMemberMetadata_f {H : Fz} {L : Own} {a : Option Addr} {cap b : Nat} {D : List UInt8} {N : Chunk} {cs : List Value} {T : Tr} {v : Int} (hr : Row 5 1 a D.length cap (bytesOf D) N) (hv : H.at b 0 cs) (hA : At_ConsumerMemberMetadata v H T cs) (hok : OkP fs_ConsumerMemberMetadata v T) (h0 : 0 ≤ v) (h1 : v ≤ 3) (hb : (D ++ fixed v 2).length + (partB fs_ConsumerMemberMetadata v false T).length ≤ LIM) :
    Fn Try.prog 43 [.pointer (some ⟨b, 0, none⟩), .slice a D.length cap] H (N :: L) (fun r H' L' => OutB 5 L ((D ++ fixed v 2) ++ partB fs_ConsumerMemberMetadata v false T) r L') := by
  obtain ⟨a0, c0, a1, c1, a2, c2, p4, rfl, hf0, hf1, hf2, hf3⟩ := hA
  refine Fn.mk Try.call43 Try.func43 rfl Try.ntmps43 rfl ?_
  refine sr ?_
  refine asg rfl rfl ?_
  refine nl ?_
  refine sr ?_
  refine mv rfl rfl ?_
  refine nc rfl rfl ?_
  refine fa0 F71_0 rfl rfl ?_
  refine ld (Says.fz hv) Try.isAgg45 rfl (Nat.zero_add _).symm rfl rfl ?_
  refine asg rfl rfl ?_
  refine nl ?_
  refine sr ?_
  refine mv rfl rfl ?_
  refine nl ?_
  refine sq ?_
  refine sr ?_
  refine mv rfl rfl ?_
  refine nc rfl rfl ?_
  refine fa0 F71_0 rfl rfl ?_
  refine ld (Says.fz hv) Try.isAgg45 rfl (Nat.zero_add _).symm rfl rfl ?_
  refine asg rfl rfl ?_
  refine nl ?_
  refine rg ?_
  refine mv rfl rfl ?_
  refine mv rfl rfl ?_
  refine cl rfl rfl rfl (k_AppendInt16 (u := v) hr (by rw [List.length_append, fixed_length] at hb; rw [fixed_length]; unfold LIM at hb; omega)) rfl (fun v_ H1 L1 hle hR => ?_)
  obtain ⟨rfl, a31, c31, N31, rfl, rfl, h31⟩ := hR
  have r31 := h31.1
  refine asg rfl rfl ?_
  refine nl ?_
  refine sq ?_
  refine sr ?_
  refine mv rfl rfl ?_
  refine nc rfl rfl ?_
  refine fa0 F71_1 rfl rfl ?_
  refine ld (Says.fz hv) Try.isAgg67 rfl (Nat.zero_add _).symm rfl rfl ?_
  refine asg rfl rfl ?_
  refine nl ?_
  refine sr ?_
  refine mv rfl rfl ?_
  refine mv rfl rfl ?_
  refine ls Try.runUnderlying67 rfl rfl ?_
  have ok39 := hok.get 0 (by decide) (has_yes (show (0 : Int) ≤ v by omega) (show ((-1) : Int) < 0 ∨ v ≤ (-1) by omega))
  have nn39 := ok39.nn (by decide) (by decide)
  have ll39 := lT_len (ok39.len rfl)
  have e_1 : (D ++ fixed v 2) ++ (counted false false (lT (T.at 0)).length 4 ++ (lT (T.at 0)).flatMap (GOf (fs_ConsumerMemberMetadata[0]'(by decide)) v false)) = (D ++ fixed v 2) ++ plainTo (zipped fs_ConsumerMemberMetadata v false T) v 1 := fold_first (fs := fs_ConsumerMemberMetadata) (v := v) (flex := false) (t := T) (B := (D ++ fixed v 2)) 0 rfl (by decide) (by decide) (has_yes (show (0 : Int) ≤ v by omega) (show ((-1) : Int) < 0 ∨ v ≤ (-1) by omega)) (by rw [FB_list (f := (fs_ConsumerMemberMetadata[0]'(by decide))) (by decide) (by decide) ok39, nn39])
  have hs39 := fold_size e_1 (by decide) hb
  have hc39 : ((D ++ fixed v 2)).length + (counted false false (lT (T.at 0)).length 4).length ≤ LIM := by have h := hs39; simp only [List.length_append] at h ⊢; omega
  refine cl rfl rfl rfl (OutK.cast (k_AppendArrayLen (u := ((lT (T.at 0)).length : Int)) r31 hc39) (show _ = (D ++ fixed v 2) ++ (counted false false (lT (T.at 0)).length 4) from rfl)) rfl (fun v_ H1 L1 hle hR => ?_)
  obtain ⟨rfl, a39, c39, N39, rfl, rfl, h39⟩ := hR
  have r39 := h39.1
  refine asg rfl rfl ?_
  refine nl ?_
  refine sr ?_
  refine mv rfl rfl ?_
  refine ls Try.runUnderlying67 rfl rfl ?_
  refine mv rfl rfl ?_
  refine nl ?_
  refine fr ((lT (T.at 0)).length) (fun k1 l' H' L' => ∃ (a_k1 : Option Addr), ∃ (m_k1 : Nat), ∃ (c_k1 : Nat), ∃ (N_k1 : Chunk), [(0, .pointer (some ⟨b, 0, none⟩)), (1, .slice a_k1 m_k1 c_k1), (5, .int .i16 v), (7, .slice a0 (lT (T.at 0)).length c0), (41, .int .i64 ((lT (T.at 0)).length : Int))] = l' ∧ N_k1 :: L = L' ∧ Row 5 1 a_k1 m_k1 c_k1 (bytesOf ((D ++ fixed v 2) ++ (counted false false (lT (T.at 0)).length 4) ++ ((lT (T.at 0)).take k1).flatMap (GOf (fs_ConsumerMemberMetadata[0]'(by decide)) v false))) N_k1 ∧ m_k1 = ((D ++ fixed v 2) ++ (counted false false (lT (T.at 0)).length 4) ++ ((lT (T.at 0)).take k1).flatMap (GOf (fs_ConsumerMemberMetadata[0]'(by decide)) v false)).length) [(0, .pointer (some ⟨b, 0, none⟩)), (1, .slice _ _ _), (5, .int .i16 v), (7, .slice a0 (lT (T.at 0)).length c0), (41, .int .i64 ((lT (T.at 0)).length : Int))] (fun k1 l' H' L' h => ?_) (by omega) rfl (.cons rfl (.cons rfl (.cons rfl (.cons rfl (.cons rfl (.nil _)))))) ⟨_, _, _, _, rfl, rfl, (by rw [List.take_zero, List.flatMap_nil, List.append_nil]; exact r39), (by rw [List.take_zero, List.flatMap_nil, List.append_nil])⟩ rfl rfl rfl rfl rfl (fun k1 l' H' L' hk1 le_2 hI => ?_) (fun l' H' L' le_3 hI => ?_)
  · obtain ⟨a_k1, m_k1, c_k1, N_k1, rfl, _⟩ := h; exact ⟨rfl, rfl, rfl, rfl⟩
  · skip
    obtain ⟨a_k1, m_k1, c_k1, N_k1, rfl, rfl, pk10, pk11⟩ := hI
    subst pk11
    refine sr ?_
    refine mv rfl rfl ?_
    refine asg rfl rfl ?_
    refine nl ?_
    refine sr ?_
    refine mv rfl rfl ?_
    refine mv rfl rfl ?_
    obtain ⟨b_4, o_5, e_6, g_7⟩ := (hf0.mono RText.mono le_2).rows.at_ (ne_nil_of_lt hk1)
    obtain ⟨cs_8, hA_9, hc_10⟩ := g_7 k1 hk1
    refine ix2 Try.runUnderlying67 Try.sizeOf9 rfl e_6 rfl rfl hk1 rfl ?_
    obtain rfl := hA_9
    refine ld (Says.fz hc_10) Try.isAgg9 rfl (Nat.add_zero _).symm rfl rfl ?_
    refine asg rfl rfl ?_
    refine nl ?_
    refine rg ?_
    refine mv rfl rfl ?_
    refine mv rfl rfl ?_
    have oe51 := (ok39.el rfl _ (lT_mem (List.getElem_mem hk1))).1 (by decide)
    have hp51 : (GOf (fs_ConsumerMemberMetadata[0]'(by decide)) v false) ((lT (T.at 0))[k1]) = counted false false ((lT (T.at 0))[k1]).s.length 2 ++ ((lT (T.at 0))[k1]).s := G_text (f := (fs_ConsumerMemberMetadata[0]'(by decide))) (by decide) oe51
    have hs51 := el_size hs39 hk1 hp51
    have ee51 := el_end (B0 := (D ++ fixed v 2) ++ (counted false false (lT (T.at 0)).length 4)) hk1 hp51
    refine cl rfl rfl rfl (OutK.cast (k_AppendString (x := ((lT (T.at 0))[k1]).s) pk10 hs51) ee51) rfl (fun v_ H1 L1 hle hR => ?_)
    obtain ⟨rfl, a51, c51, N51, rfl, rfl, h51⟩ := hR
    have r51 := h51.1
    refine asg rfl rfl ?_
    refine nN ?_
    refine Nb ?_
    refine fun a_ w_ hA hw => ⟨_, _, _, hA.sub ?_, le_2, hw, _, rfl, _, _, _, _, rfl, rfl, r51, rfl⟩
    exact (.cons rfl (.cons rfl (.cons rfl (.cons rfl (.cons rfl (.cons rfl (.nil _)))))))
  · skip
    obtain ⟨a_k1, m_k1, c_k1, N_k1, rfl, rfl, pk10, pk11⟩ := hI
    refine toWp ?_
    have eL39 : (D ++ fixed v 2) ++ (counted false false (lT (T.at 0)).length 4) ++ ((lT (T.at 0)).take (lT (T.at 0)).length).flatMap (GOf (fs_ConsumerMemberMetadata[0]'(by decide)) v false) = (D ++ fixed v 2) ++ plainTo (zipped fs_ConsumerMemberMetadata v false T) v 1 := by rw [List.take_length, List.append_assoc]; exact e_1
    rw [eL39] at pk10 pk11
    subst pk11
    refine sq ?_
    refine sr ?_
    refine mv rfl rfl ?_
    refine nc rfl rfl ?_
    refine fa0 F71_2 rfl rfl ?_
    refine ld (Says.fz (hv.mono le_3)) Try.isAgg22 rfl (Nat.zero_add _).symm rfl rfl ?_
    refine asg rfl rfl ?_
    refine nl ?_
    refine rg ?_
    refine mv rfl rfl ?_
    refine mv rfl rfl ?_
    have ok59 := hok.get 1 (by decide) (has_yes (show (0 : Int) ≤ v by omega) (show ((-1) : Int) < 0 ∨ v ≤ (-1) by omega))
    have nn59 := ok59.nn (by decide) (by decide)
    have e_11 : (D ++ fixed v 2) ++ plainTo (zipped fs_ConsumerMemberMetadata v false T) v 1 ++ (counted false (T.at 1).nul (sT (T.at 1)).length 4 ++ sT (T.at 1)) = (D ++ fixed v 2) ++ plainTo (zipped fs_ConsumerMemberMetadata v false T) v 2 := fold_yes (fs := fs_ConsumerMemberMetadata) (v := v) (flex := false) (t := T) (B := (D ++ fixed v 2)) 1 (by decide) (by decide) (has_yes (show (0 : Int) ≤ v by omega) (show ((-1) : Int) < 0 ∨ v ≤ (-1) by omega)) (FB_bytes (f := (fs_ConsumerMemberMetadata[1]'(by decide))) (by decide) (by decide) ok59)
    have hs59 := fold_size e_11 (by decide) hb
    refine cl rfl rfl rfl (OutK.cast (k_AppendNullableBytes (hf1.mono le_3) (ok59.s (Or.inr rfl)) pk10 hs59) e_11) rfl (fun v_ H1 L1 hle hR => ?_)
    obtain ⟨rfl, a59, c59, N59, rfl, rfl, h59⟩ := hR
    have r59 := h59.1
    refine asg rfl rfl ?_
    refine nl ?_
    refine sq ?_
    refine sr ?_
    refine mv rfl rfl ?_
    refine ge rfl rfl rfl ?_
    refine nl ?_
    refine cutT (fun l' H' L' => ∃ (aj_12 : Option Addr), ∃ (mj_12 : Nat), ∃ (cj_12 : Nat), ∃ (Nj_12 : Chunk), [(0, .pointer (some ⟨b, 0, none⟩)), (1, .slice aj_12 mj_12 cj_12), (5, .int .i16 v)] = l' ∧ Nj_12 :: L = L' ∧ Row 5 1 aj_12 mj_12 cj_12 (bytesOf ((D ++ fixed v 2) ++ plainTo (zipped fs_ConsumerMemberMetadata v false T) v 3)) Nj_12 ∧ mj_12 = ((D ++ fixed v 2) ++ plainTo (zipped fs_ConsumerMemberMetadata v false T) v 3).length) ?_ (fun l' H' L' le_13 hI => ?_)
    · skip
      refine cd rfl (fun h61 => ?_) (fun h61 => ?_)
      · skip
        refine sr ?_
        refine mv rfl rfl ?_
        refine nc rfl rfl ?_
        refine fa0 F71_3 rfl rfl ?_
        refine ld (Says.fz (hv.mono le_3)) Try.isAgg68 rfl (Nat.zero_add _).symm rfl rfl ?_
        refine asg rfl rfl ?_
        refine nl ?_
        refine sr ?_
        refine mv rfl rfl ?_
        refine mv rfl rfl ?_
        refine ls Try.runUnderlying68 rfl rfl ?_
        have ok69 := hok.get 2 (by decide) (has_yes (show (1 : Int) ≤ v by omega) (show ((-1) : Int) < 0 ∨ v ≤ (-1) by omega))
        have nn69 := ok69.nn (by decide) (by decide)
        have ll69 := lT_len (ok69.len rfl)
        have e_14 : (D ++ fixed v 2) ++ plainTo (zipped fs_ConsumerMemberMetadata v false T) v 2 ++ (counted false false (lT (T.at 2)).length 4 ++ (lT (T.at 2)).flatMap (GOf (fs_ConsumerMemberMetadata[2]'(by decide)) v false)) = (D ++ fixed v 2) ++ plainTo (zipped fs_ConsumerMemberMetadata v false T) v 3 := fold_yes (fs := fs_ConsumerMemberMetadata) (v := v) (flex := false) (t := T) (B := (D ++ fixed v 2)) 2 (by decide) (by decide) (has_yes (show (1 : Int) ≤ v by omega) (show ((-1) : Int) < 0 ∨ v ≤ (-1) by omega)) (by rw [FB_list (f := (fs_ConsumerMemberMetadata[2]'(by decide))) (by decide) (by decide) ok69, nn69])
        have hs69 := fold_size e_14 (by decide) hb
        have hc69 : ((D ++ fixed v 2) ++ plainTo (zipped fs_ConsumerMemberMetadata v false T) v 2).length + (counted false false (lT (T.at 2)).length 4).length ≤ LIM := by have h := hs69; simp only [List.length_append] at h ⊢; omega
        refine cl rfl rfl rfl (OutK.cast (k_AppendArrayLen (u := ((lT (T.at 2)).length : Int)) r59 hc69) (show _ = (D ++ fixed v 2) ++ plainTo (zipped fs_ConsumerMemberMetadata v false T) v 2 ++ (counted false false (lT (T.at 2)).length 4) from rfl)) rfl (fun v_ H1 L1 hle hR => ?_)
        obtain ⟨rfl, a69, c69, N69, rfl, rfl, h69⟩ := hR
        have r69 := h69.1
        refine asg rfl rfl ?_
        refine nl ?_
        refine sr ?_
        refine mv rfl rfl ?_
        refine ls Try.runUnderlying68 rfl rfl ?_
        refine mv rfl rfl ?_
        refine nl ?_
        refine fr ((lT (T.at 2)).length) (fun k2 l' H' L' => ∃ (a_k2 : Option Addr), ∃ (m_k2 : Nat), ∃ (c_k2 : Nat), ∃ (N_k2 : Chunk), [(0, .pointer (some ⟨b, 0, none⟩)), (1, .slice a_k2 m_k2 c_k2), (5, .int .i16 v), (11, .slice a2 (lT (T.at 2)).length c2), (71, .int .i64 ((lT (T.at 2)).length : Int))] = l' ∧ N_k2 :: L = L' ∧ Row 5 1 a_k2 m_k2 c_k2 (bytesOf ((D ++ fixed v 2) ++ plainTo (zipped fs_ConsumerMemberMetadata v false T) v 2 ++ (counted false false (lT (T.at 2)).length 4) ++ ((lT (T.at 2)).take k2).flatMap (GOf (fs_ConsumerMemberMetadata[2]'(by decide)) v false))) N_k2 ∧ m_k2 = ((D ++ fixed v 2) ++ plainTo (zipped fs_ConsumerMemberMetadata v false T) v 2 ++ (counted false false (lT (T.at 2)).length 4) ++ ((lT (T.at 2)).take k2).flatMap (GOf (fs_ConsumerMemberMetadata[2]'(by decide)) v false)).length) [(0, .pointer (some ⟨b, 0, none⟩)), (1, .slice _ _ _), (5, .int .i16 v), (11, .slice a2 (lT (T.at 2)).length c2), (71, .int .i64 ((lT (T.at 2)).length : Int))] (fun k2 l' H' L' h => ?_) (by omega) rfl (.cons rfl (.cons rfl (.cons rfl (.cons rfl (.cons rfl (.nil _)))))) ⟨_, _, _, _, rfl, rfl, (by rw [List.take_zero, List.flatMap_nil, List.append_nil]; exact r69), (by rw [List.take_zero, List.flatMap_nil, List.append_nil])⟩ rfl rfl rfl rfl rfl (fun k2 l' H' L' hk2 le_15 hI => ?_) (fun l' H' L' le_16 hI => ?_)
        · obtain ⟨a_k2, m_k2, c_k2, N_k2, rfl, _⟩ := h; exact ⟨rfl, rfl, rfl, rfl⟩
        · skip
          obtain ⟨a_k2, m_k2, c_k2, N_k2, rfl, rfl, pk20, pk21⟩ := hI
          subst pk21
          refine sr ?_
          refine mv rfl rfl ?_
          refine asg rfl rfl ?_
          refine nl ?_
          refine sr ?_
          refine mv rfl rfl ?_
          refine mv rfl rfl ?_
          obtain ⟨b_17, o_18, e_19, g_20⟩ := (hf2.mono At_ConsumerMemberMetadataOwnedPartition.mono (le_3.trans le_15)).rows.at_ (ne_nil_of_lt hk2)
          obtain ⟨cs_21, hA_22, hc_23⟩ := g_20 k2 hk2
          refine ix2 Try.runUnderlying68 Try.sizeOf116 rfl e_19 rfl rfl hk2 rfl ?_
          obtain ⟨a_k2_1, c_k2_1, rfl, hf_k2_0⟩ := hA_22
          have oek2 := (ok69.el rfl _ (lT_mem (List.getElem_mem hk2))).2 rfl
          obtain ⟨B_k2, hdk2⟩ : ∃ z : List UInt8, z = (D ++ fixed v 2) ++ plainTo (zipped fs_ConsumerMemberMetadata v false T) v 2 ++ (counted false false (lT (T.at 2)).length 4) ++ ((lT (T.at 2)).take k2).flatMap (GOf (fs_ConsumerMemberMetadata[2]'(by decide)) v false) := ⟨_, rfl⟩
          have rbk2 := pk20
          rw [← hdk2] at rbk2 ⊢
          have hBk2 : B_k2.length + (partB fs_sConsumerMemberMetadataOwnedPartition v false ((lT (T.at 2))[k2])).length ≤ LIM := by rw [hdk2]; exact el_size hs69 hk2 (GOf_part (by decide) _)
          refine asg rfl rfl ?_
          refine nl ?_
          refine sq ?_
          refine sr ?_
          refine mv rfl rfl ?_
          refine nc rfl rfl ?_
          refine fa F116_0 rfl rfl ?_
          refine ld (Says.fz hc_23) Try.isAgg9 rfl (Nat.add_zero _).symm rfl rfl ?_
          refine asg rfl rfl ?_
          refine nl ?_
          refine rg ?_
          refine mv rfl rfl ?_
          refine mv rfl rfl ?_
          have ok84 := oek2.get 0 (by decide) (has_yes (show (0 : Int) ≤ v by omega) (show ((-1) : Int) < 0 ∨ v ≤ (-1) by omega))
          have nn84 := ok84.nn (by decide) (by decide)
          have e_24 : B_k2 ++ (counted false false (((lT (T.at 2))[k2]).at 0).s.length 2 ++ (((lT (T.at 2))[k2]).at 0).s) = B_k2 ++ plainTo (zipped fs_sConsumerMemberMetadataOwnedPartition v false ((lT (T.at 2))[k2])) v 1 := fold_first (fs := fs_sConsumerMemberMetadataOwnedPartition) (v := v) (flex := false) (t := ((lT (T.at 2))[k2])) (B := B_k2) 0 rfl (by decide) (by decide) (has_yes (show (0 : Int) ≤ v by omega) (show ((-1) : Int) < 0 ∨ v ≤ (-1) by omega)) (by rw [FB_text (f := (fs_sConsumerMemberMetadataOwnedPartition[0]'(by decide))) (by decide) (by decide) ok84, sT_nn nn84, nn84])
          have hs84 := fold_size e_24 (by decide) hBk2
          refine cl rfl rfl rfl (OutK.cast (k_AppendString (x := (((lT (T.at 2))[k2]).at 0).s) rbk2 hs84) e_24) rfl (fun v_ H1 L1 hle hR => ?_)
          obtain ⟨rfl, a84, c84, N84, rfl, rfl, h84⟩ := hR
          have r84 := h84.1
          refine asg rfl rfl ?_
          refine nl ?_
          refine sr ?_
          refine mv rfl rfl ?_
          refine nc rfl rfl ?_
          refine fa F116_1 rfl rfl ?_
          refine ld (Says.fz hc_23) Try.isAgg114 rfl rfl rfl rfl ?_
          refine asg rfl rfl ?_
          refine nl ?_
          refine sr ?_
          refine mv rfl rfl ?_
          refine mv rfl rfl ?_
          refine ls Try.runUnderlying114 rfl rfl ?_
          have ok92 := oek2.get 1 (by decide) (has_yes (show (0 : Int) ≤ v by omega) (show ((-1) : Int) < 0 ∨ v ≤ (-1) by omega))
          have nn92 := ok92.nn (by decide) (by decide)
          have ll92 := lT_len (ok92.len rfl)
          have e_25 : B_k2 ++ plainTo (zipped fs_sConsumerMemberMetadataOwnedPartition v false ((lT (T.at 2))[k2])) v 1 ++ (counted false false (lT (((lT (T.at 2))[k2]).at 1)).length 4 ++ (lT (((lT (T.at 2))[k2]).at 1)).flatMap (GOf (fs_sConsumerMemberMetadataOwnedPartition[1]'(by decide)) v false)) = B_k2 ++ plainTo (zipped fs_sConsumerMemberMetadataOwnedPartition v false ((lT (T.at 2))[k2])) v 2 := fold_yes (fs := fs_sConsumerMemberMetadataOwnedPartition) (v := v) (flex := false) (t := ((lT (T.at 2))[k2])) (B := B_k2) 1 (by decide) (by decide) (has_yes (show (0 : Int) ≤ v by omega) (show ((-1) : Int) < 0 ∨ v ≤ (-1) by omega)) (by rw [FB_list (f := (fs_sConsumerMemberMetadataOwnedPartition[1]'(by decide))) (by decide) (by decide) ok92, nn92])
          have hs92 := fold_size e_25 (by decide) hBk2
          have hc92 : (B_k2 ++ plainTo (zipped fs_sConsumerMemberMetadataOwnedPartition v false ((lT (T.at 2))[k2])) v 1).length + (counted false false (lT (((lT (T.at 2))[k2]).at 1)).length 4).length ≤ LIM := by have h := hs92; simp only [List.length_append] at h ⊢; omega
          refine cl rfl rfl rfl (OutK.cast (k_AppendArrayLen (u := ((lT (((lT (T.at 2))[k2]).at 1)).length : Int)) r84 hc92) (show _ = B_k2 ++ plainTo (zipped fs_sConsumerMemberMetadataOwnedPartition v false ((lT (T.at 2))[k2])) v 1 ++ (counted false false (lT (((lT (T.at 2))[k2]).at 1)).length 4) from rfl)) rfl (fun v_ H1 L1 hle hR => ?_)
          obtain ⟨rfl, a92, c92, N92, rfl, rfl, h92⟩ := hR
          have r92 := h92.1
          refine asg rfl rfl ?_
          refine nl ?_
          refine sr ?_
          refine mv rfl rfl ?_
          refine ls Try.runUnderlying114 rfl rfl ?_
          refine mv rfl rfl ?_
          refine nl ?_
          refine fr ((lT (((lT (T.at 2))[k2]).at 1)).length) (fun k3 l' H' L' => ∃ (a_k3 : Option Addr), ∃ (m_k3 : Nat), ∃ (c_k3 : Nat), ∃ (N_k3 : Chunk), [(0, .pointer (some ⟨b, 0, none⟩)), (1, .slice a_k3 m_k3 c_k3), (5, .int .i16 v), (11, .slice a2 (lT (T.at 2)).length c2), (15, .slice a_k2_1 (lT (((lT (T.at 2))[k2]).at 1)).length c_k2_1), (71, .int .i64 ((lT (T.at 2)).length : Int)), (72, .int .i64 (k2 : Int)), (94, .int .i64 ((lT (((lT (T.at 2))[k2]).at 1)).length : Int))] = l' ∧ N_k3 :: L = L' ∧ Row 5 1 a_k3 m_k3 c_k3 (bytesOf (B_k2 ++ plainTo (zipped fs_sConsumerMemberMetadataOwnedPartition v false ((lT (T.at 2))[k2])) v 1 ++ (counted false false (lT (((lT (T.at 2))[k2]).at 1)).length 4) ++ ((lT (((lT (T.at 2))[k2]).at 1)).take k3).flatMap (GOf (fs_sConsumerMemberMetadataOwnedPartition[1]'(by decide)) v false))) N_k3 ∧ m_k3 = (B_k2 ++ plainTo (zipped fs_sConsumerMemberMetadataOwnedPartition v false ((lT (T.at 2))[k2])) v 1 ++ (counted false false (lT (((lT (T.at 2))[k2]).at 1)).length 4) ++ ((lT (((lT (T.at 2))[k2]).at 1)).take k3).flatMap (GOf (fs_sConsumerMemberMetadataOwnedPartition[1]'(by decide)) v false)).length) [(0, .pointer (some ⟨b, 0, none⟩)), (1, .slice _ _ _), (5, .int .i16 v), (11, .slice a2 (lT (T.at 2)).length c2), (15, .slice a_k2_1 (lT (((lT (T.at 2))[k2]).at 1)).length c_k2_1), (71, .int .i64 ((lT (T.at 2)).length : Int)), (72, .int .i64 (k2 : Int)), (94, .int .i64 ((lT (((lT (T.at 2))[k2]).at 1)).length : Int))] (fun k3 l' H' L' h => ?_) (by omega) rfl (.cons rfl (.cons rfl (.cons rfl (.cons rfl (.cons rfl (.cons rfl (.cons rfl (.cons rfl (.nil _))))))))) ⟨_, _, _, _, rfl, rfl, (by rw [List.take_zero, List.flatMap_nil, List.append_nil]; exact r92), (by rw [List.take_zero, List.flatMap_nil, List.append_nil])⟩ rfl rfl rfl rfl rfl (fun k3 l' H' L' hk3 le_26 hI => ?_) (fun l' H' L' le_27 hI => ?_)
          · obtain ⟨a_k3, m_k3, c_k3, N_k3, rfl, _⟩ := h; exact ⟨rfl, rfl, rfl, rfl⟩
          · skip
            obtain ⟨a_k3, m_k3, c_k3, N_k3, rfl, rfl, pk30, pk31⟩ := hI
            subst pk31
            refine sr ?_
            refine mv rfl rfl ?_
            refine asg rfl rfl ?_
            refine nl ?_
            refine sr ?_
            refine mv rfl rfl ?_
            refine mv rfl rfl ?_
            obtain ⟨b_28, o_29, e_30, g_31⟩ := (hf_k2_0.mono RI32.mono le_26).rows.at_ (ne_nil_of_lt hk3)
            obtain ⟨cs_32, hA_33, hc_34⟩ := g_31 k3 hk3
            refine ix2 Try.runUnderlying114 Try.sizeOf21 rfl e_30 rfl rfl hk3 rfl ?_
            obtain rfl := hA_33
            refine ld (Says.fz hc_34) Try.isAgg21 rfl (Nat.add_zero _).symm rfl rfl ?_
            refine asg rfl rfl ?_
            refine nl ?_
            refine rg ?_
            refine mv rfl rfl ?_
            refine mv rfl rfl ?_
            have hp104 : (GOf (fs_sConsumerMemberMetadataOwnedPartition[1]'(by decide)) v false) ((lT (((lT (T.at 2))[k2]).at 1))[k3]) = fixed (IntKind.i32.wrap ((lT (((lT (T.at 2))[k2]).at 1))[k3]).n) 4 := (G_int (f := (fs_sConsumerMemberMetadataOwnedPartition[1]'(by decide))) (by decide) (by decide) _).trans (fixed_i32 _).symm
            have hs104 := el_size hs92 hk3 hp104
            have ee104 := el_end (B0 := B_k2 ++ plainTo (zipped fs_sConsumerMemberMetadataOwnedPartition v false ((lT (T.at 2))[k2])) v 1 ++ (counted false false (lT (((lT (T.at 2))[k2]).at 1)).length 4)) hk3 hp104
            refine cl rfl rfl rfl (OutK.cast (k_AppendInt32 (u := IntKind.i32.wrap ((lT (((lT (T.at 2))[k2]).at 1))[k3]).n) pk30 hs104) ee104) rfl (fun v_ H1 L1 hle hR => ?_)
            obtain ⟨rfl, a104, c104, N104, rfl, rfl, h104⟩ := hR
            have r104 := h104.1
            refine asg rfl rfl ?_
            refine nN ?_
            refine Nb ?_
            refine fun a_ w_ hA hw => ⟨_, _, _, hA.sub ?_, le_26, hw, _, rfl, _, _, _, _, rfl, rfl, r104, rfl⟩
            exact (.cons rfl (.cons rfl (.cons rfl (.cons rfl (.cons rfl (.cons rfl (.cons rfl (.cons rfl (.cons rfl (.nil _))))))))))
          · skip
            obtain ⟨a_k3, m_k3, c_k3, N_k3, rfl, rfl, pk30, pk31⟩ := hI
            refine toNn ?_
            have eL92 : B_k2 ++ plainTo (zipped fs_sConsumerMemberMetadataOwnedPartition v false ((lT (T.at 2))[k2])) v 1 ++ (counted false false (lT (((lT (T.at 2))[k2]).at 1)).length 4) ++ ((lT (((lT (T.at 2))[k2]).at 1)).take (lT (((lT (T.at 2))[k2]).at 1)).length).flatMap (GOf (fs_sConsumerMemberMetadataOwnedPartition[1]'(by decide)) v false) = B_k2 ++ plainTo (zipped fs_sConsumerMemberMetadataOwnedPartition v false ((lT (T.at 2))[k2])) v 2 := by rw [List.take_length, List.append_assoc]; exact e_25
            rw [eL92] at pk30 pk31
            subst pk31
            refine Nb ?_
            have eP_35 : B_k2 ++ plainTo (zipped fs_sConsumerMemberMetadataOwnedPartition v false ((lT (T.at 2))[k2])) v 2 = B_k2 ++ partB fs_sConsumerMemberMetadataOwnedPartition v false ((lT (T.at 2))[k2]) := by rw [partB_false]; rfl
            have rp_36 := pk30
            rw [eP_35] at rp_36 ⊢
            have ee_37 : B_k2 ++ partB fs_sConsumerMemberMetadataOwnedPartition v false ((lT (T.at 2))[k2]) = (D ++ fixed v 2) ++ plainTo (zipped fs_ConsumerMemberMetadata v false T) v 2 ++ (counted false false (lT (T.at 2)).length 4) ++ ((lT (T.at 2)).take (k2 + 1)).flatMap (GOf (fs_ConsumerMemberMetadata[2]'(by decide)) v false) := by rw [hdk2]; exact el_end (B0 := (D ++ fixed v 2) ++ plainTo (zipped fs_ConsumerMemberMetadata v false T) v 2 ++ (counted false false (lT (T.at 2)).length 4)) (G := (GOf (fs_ConsumerMemberMetadata[2]'(by decide)) v false)) hk2 (GOf_part (by decide) _)
            refine fun a_ w_ hA hw => ⟨_, _, _, hA.sub ?_, (le_15.trans le_27), hw, _, rfl, _, _, _, _, rfl, rfl, (by rw [← ee_37]; exact rp_36), (by rw [← ee_37])⟩
            exact (.cons rfl (.cons rfl (.cons rfl (.cons rfl (.cons rfl (.cons rfl (.nil _)))))))
        · skip
          obtain ⟨a_k2, m_k2, c_k2, N_k2, rfl, rfl, pk20, pk21⟩ := hI
          refine toNn ?_
          have eL69 : (D ++ fixed v 2) ++ plainTo (zipped fs_ConsumerMemberMetadata v false T) v 2 ++ (counted false false (lT (T.at 2)).length 4) ++ ((lT (T.at 2)).take (lT (T.at 2)).length).flatMap (GOf (fs_ConsumerMemberMetadata[2]'(by decide)) v false) = (D ++ fixed v 2) ++ plainTo (zipped fs_ConsumerMemberMetadata v false T) v 3 := by rw [List.take_length, List.append_assoc]; exact e_14
          rw [eL69] at pk20 pk21
          subst pk21
          refine fun a_ w_ hA hw => ⟨_, _, _, hA.sub ?_, le_16, hw, _, _, _, _, rfl, rfl, pk20, rfl⟩
          exact (.cons rfl (.cons rfl (.cons rfl (.nil _))))
      · skip
        refine skN ?_
        have es_38 : plainTo (zipped fs_ConsumerMemberMetadata v false T) v 3 = plainTo (zipped fs_ConsumerMemberMetadata v false T) v 2 := (piece_no2 (fs := fs_ConsumerMemberMetadata) (v := v) (flex := false) (t := T) (k := 2) (by decide) (has_no (show v < (1 : Int) ∨ ((0 : Int) ≤ (-1) ∧ (-1) < v) by omega)))
        have eX_39 : (D ++ fixed v 2) ++ plainTo (zipped fs_ConsumerMemberMetadata v false T) v 2 = (D ++ fixed v 2) ++ plainTo (zipped fs_ConsumerMemberMetadata v false T) v 3 := by rw [es_38]
        refine fun a_ w_ hA hw => ⟨_, _, _, hA.sub ?_, (Fz.le.refl _), hw, _, _, _, _, rfl, rfl, (by rw [← eX_39]; exact r59), (by rw [← eX_39])⟩
        exact (.cons rfl (.cons rfl (.cons rfl (.nil _))))
    · skip
      obtain ⟨aj_12, mj_12, cj_12, Nj_12, rfl, rfl, pj0, pj1⟩ := hI
      subst pj1
      have rj_12 := pj0
      refine sq ?_
      refine sr ?_
      refine mv rfl rfl ?_
      refine ge rfl rfl rfl ?_
      refine nl ?_
      refine cutT (fun l' H' L' => ∃ (aj_40 : Option Addr), ∃ (mj_40 : Nat), ∃ (cj_40 : Nat), ∃ (Nj_40 : Chunk), [(0, .pointer (some ⟨b, 0, none⟩)), (1, .slice aj_40 mj_40 cj_40), (5, .int .i16 v)] = l' ∧ Nj_40 :: L = L' ∧ Row 5 1 aj_40 mj_40 cj_40 (bytesOf ((D ++ fixed v 2) ++ plainTo (zipped fs_ConsumerMemberMetadata v false T) v 4)) Nj_40 ∧ mj_40 = ((D ++ fixed v 2) ++ plainTo (zipped fs_ConsumerMemberMetadata v false T) v 4).length) ?_ (fun l' H' L' le_41 hI => ?_)
      · skip
        refine cd rfl (fun h108 => ?_) (fun h108 => ?_)
        · skip
          refine sr ?_
          refine mv rfl rfl ?_
          refine nc rfl rfl ?_
          refine fa0 F71_4 rfl rfl ?_
          refine ld (Says.fz (hv.mono (le_3.trans le_13))) Try.isAgg21 rfl (Nat.zero_add _).symm rfl rfl ?_
          refine asg rfl rfl ?_
          refine nl ?_
          refine rg ?_
          refine mv rfl rfl ?_
          refine mv rfl rfl ?_
          have ok115 := hok.get 3 (by decide) (has_yes (show (2 : Int) ≤ v by omega) (show ((-1) : Int) < 0 ∨ v ≤ (-1) by omega))
          have e_42 : (D ++ fixed v 2) ++ plainTo (zipped fs_ConsumerMemberMetadata v false T) v 3 ++ (fixed (IntKind.i32.wrap (T.at 3).n) 4) = (D ++ fixed v 2) ++ plainTo (zipped fs_ConsumerMemberMetadata v false T) v 4 := fold_yes (fs := fs_ConsumerMemberMetadata) (v := v) (flex := false) (t := T) (B := (D ++ fixed v 2)) 3 (by decide) (by decide) (has_yes (show (2 : Int) ≤ v by omega) (show ((-1) : Int) < 0 ∨ v ≤ (-1) by omega)) ((FB_int (f := (fs_ConsumerMemberMetadata[3]'(by decide))) (by decide) (by decide)).trans (fixed_i32 _).symm)
          have hs115 := fold_size e_42 (by decide) hb
          refine cl rfl rfl rfl (OutK.cast (k_AppendInt32 (u := IntKind.i32.wrap (T.at 3).n) rj_12 hs115) e_42) rfl (fun v_ H1 L1 hle hR => ?_)
          obtain ⟨rfl, a115, c115, N115, rfl, rfl, h115⟩ := hR
          have r115 := h115.1
          refine asg rfl rfl ?_
          refine nN ?_
          refine fun a_ w_ hA hw => ⟨_, _, _, hA.sub ?_, (Fz.le.refl _), hw, _, _, _, _, rfl, rfl, r115, rfl⟩
          exact (.cons rfl (.cons rfl (.cons rfl (.nil _))))
        · skip
          refine skN ?_
          have es_43 : plainTo (zipped fs_ConsumerMemberMetadata v false T) v 4 = plainTo (zipped fs_ConsumerMemberMetadata v false T) v 3 := (piece_no2 (fs := fs_ConsumerMemberMetadata) (v := v) (flex := false) (t := T) (k := 3) (by decide) (has_no (show v < (2 : Int) ∨ ((0 : Int) ≤ (-1) ∧ (-1) < v) by omega)))
          have eX_44 : (D ++ fixed v 2) ++ plainTo (zipped fs_ConsumerMemberMetadata v false T) v 3 = (D ++ fixed v 2) ++ plainTo (zipped fs_ConsumerMemberMetadata v false T) v 4 := by rw [es_43]
          refine fun a_ w_ hA hw => ⟨_, _, _, hA.sub ?_, (Fz.le.refl _), hw, _, _, _, _, rfl, rfl, (by rw [← eX_44]; exact rj_12), (by rw [← eX_44])⟩
          exact (.cons rfl (.cons rfl (.cons rfl (.nil _))))
      · skip
        obtain ⟨aj_40, mj_40, cj_40, Nj_40, rfl, rfl, pj0, pj1⟩ := hI
        subst pj1
        have rj_40 := pj0
        refine sq ?_
        refine sr ?_
        refine mv rfl rfl ?_
        refine ge rfl rfl rfl ?_
        refine nl ?_
        refine cutT (fun l' H' L' => ∃ (aj_45 : Option Addr), ∃ (mj_45 : Nat), ∃ (cj_45 : Nat), ∃ (Nj_45 : Chunk), [(1, .slice aj_45 mj_45 cj_45)] = l' ∧ Nj_45 :: L = L' ∧ Row 5 1 aj_45 mj_45 cj_45 (bytesOf ((D ++ fixed v 2) ++ plainTo (zipped fs_ConsumerMemberMetadata v false T) v 5)) Nj_45 ∧ mj_45 = ((D ++ fixed v 2) ++ plainTo (zipped fs_ConsumerMemberMetadata v false T) v 5).length) ?_ (fun l' H' L' le_46 hI => ?_)
        · skip
          refine cd rfl (fun h117 => ?_) (fun h117 => ?_)
          · skip
            refine sr ?_
            refine mv rfl rfl ?_
            refine nc rfl rfl ?_
            refine fa0 F71_5 rfl rfl ?_
            refine ld (Says.fz (hv.mono (le_3.trans (le_13.trans le_41)))) Try.isAgg69 rfl (Nat.zero_add _).symm rfl rfl ?_
            refine asg rfl rfl ?_
            refine nl ?_
            refine rg ?_
            refine mv rfl rfl ?_
            refine mv rfl rfl ?_
            have ok124 := hok.get 4 (by decide) (has_yes (show (3 : Int) ≤ v by omega) (show ((-1) : Int) < 0 ∨ v ≤ (-1) by omega))
            have e_47 : (D ++ fixed v 2) ++ plainTo (zipped fs_ConsumerMemberMetadata v false T) v 4 ++ (counted false (T.at 4).nul (sT (T.at 4)).length 2 ++ sT (T.at 4)) = (D ++ fixed v 2) ++ plainTo (zipped fs_ConsumerMemberMetadata v false T) v 5 := fold_yes (fs := fs_ConsumerMemberMetadata) (v := v) (flex := false) (t := T) (B := (D ++ fixed v 2)) 4 (by decide) (by decide) (has_yes (show (3 : Int) ≤ v by omega) (show ((-1) : Int) < 0 ∨ v ≤ (-1) by omega)) (FB_text (f := (fs_ConsumerMemberMetadata[4]'(by decide))) (by decide) (by decide) ok124)
            have hs124 := fold_size e_47 (by decide) hb
            refine cl rfl rfl rfl (OutK.cast (k_AppendNullableString (hf3.mono (le_3.trans (le_13.trans le_41))) (ok124.s (Or.inl rfl)) rj_40 hs124) e_47) rfl (fun v_ H1 L1 hle hR => ?_)
            obtain ⟨rfl, a124, c124, N124, rfl, rfl, h124⟩ := hR
            have r124 := h124.1
            refine asg rfl rfl ?_
            refine nN ?_
            refine fun a_ w_ hA hw => ⟨_, _, _, hA.sub ?_, (Fz.le.refl _), hw, _, _, _, _, rfl, rfl, r124, rfl⟩
            exact (.cons rfl (.nil _))
          · skip
            refine skN ?_
            have es_48 : plainTo (zipped fs_ConsumerMemberMetadata v false T) v 5 = plainTo (zipped fs_ConsumerMemberMetadata v false T) v 4 := (piece_no2 (fs := fs_ConsumerMemberMetadata) (v := v) (flex := false) (t := T) (k := 4) (by decide) (has_no (show v < (3 : Int) ∨ ((0 : Int) ≤ (-1) ∧ (-1) < v) by omega)))
            have eX_49 : (D ++ fixed v 2) ++ plainTo (zipped fs_ConsumerMemberMetadata v false T) v 4 = (D ++ fixed v 2) ++ plainTo (zipped fs_ConsumerMemberMetadata v false T) v 5 := by rw [es_48]
            refine fun a_ w_ hA hw => ⟨_, _, _, hA.sub ?_, (Fz.le.refl _), hw, _, _, _, _, rfl, rfl, (by rw [← eX_49]; exact rj_40), (by rw [← eX_49])⟩
            exact (.cons rfl (.nil _))
        · skip
          obtain ⟨aj_45, mj_45, cj_45, Nj_45, rfl, rfl, pj0, pj1⟩ := hI
          subst pj1
          have rj_45 := pj0
          refine sr ?_
          refine mv rfl rfl ?_
          refine asg rfl rfl ?_
          refine nl ?_
          have eP_50 : (D ++ fixed v 2) ++ plainTo (zipped fs_ConsumerMemberMetadata v false T) v 5 = (D ++ fixed v 2) ++ partB fs_ConsumerMemberMetadata v false T := by rw [partB_false]; rfl
          have rp_51 := rj_45
          rw [eP_50] at rp_51 ⊢
          exact rT rfl rfl (le_3.trans (le_13.trans (le_41.trans le_46))) (fun _ _ h => h) (OutB.of rp_51 rfl)
end Go.Sx

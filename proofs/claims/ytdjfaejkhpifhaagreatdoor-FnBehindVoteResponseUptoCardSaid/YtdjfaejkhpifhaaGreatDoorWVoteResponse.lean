import Derived.Test.YtdjfaejkhpifhaaGreatDoorBVoteResponse
import Derived.Test.YtdjfaejkhpifhaaGreatDoorKB2
import Derived.Test.YtdjfaejkhpifhaaGreatDoorMkL
import Derived.Test.YtdjfaejkhpifhaaGreatDoorTVoteResponse
import Derived.Test.YtdjfaejkhpifhaaGreatDoorFrB
import Derived.KernelRfl
set_option linter.unusedVariables false
set_option linter.unusedSimpArgs false
set_option maxRecDepth 100000
set_option maxHeartbeats 20000000
namespace Go.Sx
open Go.Proofs
theorem app_VoteResponse_t {H : Fz} {L : Own} {a : Option Addr} {cap b : Nat} {D : List UInt8} {N : Chunk} {cs : List Value} {T : Tr} {v : Int} (hr : Row 5 1 a D.length cap (bytesOf D) N) (hv : H.at b 0 cs) (hA : At_VoteResponse v H T cs) (hok : OkP fs_VoteResponse v T) (h0 : 0 ≤ v) (h1 : v ≤ 2) (hb : D.length + (partB fs_VoteResponse v true T).length ≤ LIM) :
  Fn Tryz.prog 23 [.pointer (some ⟨b, 0, none⟩), .slice a D.length cap] H (N :: L) (fun r H' L' => OutB 5 L (D ++ partB fs_VoteResponse v true T) r L') := by
 obtain ⟨a1, c1, a2, c2, mt, rfl, hf0, hf1, hf2⟩ := hA
 refine Fn.mk Tryz.call23 Tryz.func23 rfl Tryz.ntmps23 rfl ?_
 refine sr ?_
 refine asg rfl rfl ?_
 refine nl ?_
 refine sr ?_
 refine mv rfl rfl ?_
 refine nc rfl rfl ?_
 refine fa0 F65_0 rfl rfl ?_
 refine ld (Says.fz hv) Tryz.isAgg40 rfl (Nat.zero_add _).symm rfl rfl ?_
 refine asg rfl rfl ?_
 refine nl ?_
 refine sr ?_
 refine mv rfl rfl ?_
 refine nl ?_
 refine sr ?_
 refine mv rfl rfl ?_
 refine ge rfl rfl rfl ?_
 refine asg rfl rfl ?_
 refine nl ?_
 refine sr ?_
 refine mv rfl rfl ?_
 refine nl ?_
 refine sq ?_
 refine sr ?_
 refine mv rfl rfl ?_
 refine nc rfl rfl ?_
 refine fa0 F65_1 rfl rfl ?_
 refine ld (Says.fz hv) Tryz.isAgg40 rfl (Nat.zero_add _).symm rfl rfl ?_
 refine asg rfl rfl ?_
 refine nl ?_
 refine rg ?_
 refine mv rfl rfl ?_
 refine mv rfl rfl ?_
 have ok45 := hok.get 0 (by decide) (has_yes (show (0 : Int) ≤ v by omega) (show ((-1) : Int) < 0 ∨ v ≤ (-1) by omega))
 have e_1 : D ++ (fixed (IntKind.i16.wrap (T.at 0).n) 2) = D ++ plainTo (zipped fs_VoteResponse v true T) v 1 := fold_first (fs := fs_VoteResponse) (v := v) (flex := true) (t := T) (B := D) 0 rfl (by decide) (by decide) (has_yes (show (0 : Int) ≤ v by omega) (show ((-1) : Int) < 0 ∨ v ≤ (-1) by omega)) ((FB_int (f := (fs_VoteResponse[0]'(by decide))) (by decide) (by decide)).trans (fixed_i16 _).symm)
 have hs45 := fold_size e_1 (by decide) hb
 refine cl rfl rfl rfl (OutK.cast (k_AppendInt16 (u := IntKind.i16.wrap (T.at 0).n) hr hs45) e_1) rfl (fun v_ H1 L1 hle hR => ?_)
 obtain ⟨rfl, a45, c45, N45, rfl, rfl, h45⟩ := hR
 have r45 := h45.1
 refine asg rfl rfl ?_
 refine nl ?_
 refine sq ?_
 refine sr ?_
 refine mv rfl rfl ?_
 refine nc rfl rfl ?_
 refine fa0 F65_2 rfl rfl ?_
 refine ld (Says.fz hv) Tryz.isAgg59 rfl (Nat.zero_add _).symm rfl rfl ?_
 refine asg rfl rfl ?_
 refine nl ?_
 refine sq ?_
 refine sr ?_
 refine mv rfl rfl ?_
 refine nl ?_
 refine cdT rfl (by omega) ?_
 refine rg ?_
 refine mv rfl rfl ?_
 refine mv rfl rfl ?_
 refine ls Tryz.runUnderlying59 rfl rfl ?_
 have ok54 := hok.get 1 (by decide) (has_yes (show (0 : Int) ≤ v by omega) (show ((-1) : Int) < 0 ∨ v ≤ (-1) by omega))
 have ll54 := lT_len (ok54.len rfl)
 have e_2 : D ++ plainTo (zipped fs_VoteResponse v true T) v 1 ++ (counted true false (lT (T.at 1)).length 4 ++ (lT (T.at 1)).flatMap (GOf (fs_VoteResponse[1]'(by decide)) v true)) = D ++ plainTo (zipped fs_VoteResponse v true T) v 2 := fold_yes (fs := fs_VoteResponse) (v := v) (flex := true) (t := T) (B := D) 1 (by decide) (by decide) (has_yes (show (0 : Int) ≤ v by omega) (show ((-1) : Int) < 0 ∨ v ≤ (-1) by omega)) (FB_list0 (f := (fs_VoteResponse[1]'(by decide))) (by decide) (by decide) (by decide) ok54)
 have hs54 := fold_size e_2 (by decide) hb
 have hc54 : (D ++ plainTo (zipped fs_VoteResponse v true T) v 1).length + (counted true false (lT (T.at 1)).length 4).length ≤ LIM := by have h := hs54; simp only [List.length_append] at h ⊢; omega
 refine cl rfl rfl rfl (OutK.cast (k_AppendCompactArrayLen (n := (lT (T.at 1)).length) (by omega) r45 hc54) (show _ = D ++ plainTo (zipped fs_VoteResponse v true T) v 1 ++ (counted true false (lT (T.at 1)).length 4) from rfl)) rfl (fun v_ H1 L1 hle hR => ?_)
 obtain ⟨rfl, a54, c54, N54, rfl, rfl, h54⟩ := hR
 have r54 := h54.1
 refine asg rfl rfl ?_
 refine nl ?_
 refine sr ?_
 refine mv rfl rfl ?_
 refine ls Tryz.runUnderlying59 rfl rfl ?_
 refine mv rfl rfl ?_
 refine nl ?_
 refine fr ((lT (T.at 1)).length) (fun k1 l' H' L' => ∃ (a_k1 : Option Addr), ∃ (m_k1 : Nat), ∃ (c_k1 : Nat), ∃ (N_k1 : Chunk), [(0, .pointer (some ⟨b, 0, none⟩)), (1, .slice a_k1 m_k1 c_k1), (5, .int .i16 v), (6, .bool (decide ((0 : Int) ≤ v))), (8, .slice a1 (lT (T.at 1)).length c1), (60, .int .i64 ((lT (T.at 1)).length : Int))] = l' ∧ N_k1 :: L = L' ∧ Row 5 1 a_k1 m_k1 c_k1 (bytesOf (D ++ plainTo (zipped fs_VoteResponse v true T) v 1 ++ (counted true false (lT (T.at 1)).length 4) ++ ((lT (T.at 1)).take k1).flatMap (GOf (fs_VoteResponse[1]'(by decide)) v true))) N_k1 ∧ m_k1 = (D ++ plainTo (zipped fs_VoteResponse v true T) v 1 ++ (counted true false (lT (T.at 1)).length 4) ++ ((lT (T.at 1)).take k1).flatMap (GOf (fs_VoteResponse[1]'(by decide)) v true)).length) [(0, .pointer (some ⟨b, 0, none⟩)), (1, .slice _ _ _), (5, .int .i16 v), (6, .bool (decide ((0 : Int) ≤ v))), (8, .slice a1 (lT (T.at 1)).length c1), (60, .int .i64 ((lT (T.at 1)).length : Int))] (fun k1 l' H' L' h => ?_) (by omega) rfl (.of ⟨rfl, rfl, rfl, rfl, rfl, rfl, trivial⟩) ⟨_, _, _, _, rfl, rfl, (by rw [List.take_zero, List.flatMap_nil, List.append_nil]; exact r54), (by rw [List.take_zero, List.flatMap_nil, List.append_nil])⟩ rfl rfl rfl rfl rfl (fun k1 l' H' L' hk1 le_3 hI => ?_) (fun l' H' L' le_4 hI => ?_)
 · obtain ⟨a_k1, m_k1, c_k1, N_k1, rfl, _⟩ := h; exact ⟨rfl, rfl, rfl, rfl⟩
 ·
  obtain ⟨a_k1, m_k1, c_k1, N_k1, rfl, rfl, pk10, pk11⟩ := hI
  subst pk11
  refine sr ?_
  refine mv rfl rfl ?_
  refine asg rfl rfl ?_
  refine nl ?_
  refine sr ?_
  refine mv rfl rfl ?_
  refine mv rfl rfl ?_
  obtain ⟨b_5, o_6, e_7, g_8⟩ := (hf0.mono At_VoteResponseTopic.mono le_3).rows.at_ (ne_nil_of_lt hk1)
  obtain ⟨cs_9, hA_10, hc_11⟩ := g_8 k1 hk1
  refine ix2 Tryz.runUnderlying59 Tryz.sizeOf80 rfl e_7 rfl rfl hk1 rfl ?_
  obtain ⟨a_k1_1, c_k1_1, m_k1_t, rfl, hf_k1_0, hf_k1_1⟩ := hA_10
  have oek1 := (ok54.el rfl _ (lT_mem (List.getElem_mem hk1))).2 rfl
  obtain ⟨B_k1, hdk1⟩ : ∃ z : List UInt8, z = D ++ plainTo (zipped fs_VoteResponse v true T) v 1 ++ (counted true false (lT (T.at 1)).length 4) ++ ((lT (T.at 1)).take k1).flatMap (GOf (fs_VoteResponse[1]'(by decide)) v true) := ⟨_, rfl⟩
  have rbk1 := pk10
  rw [← hdk1] at rbk1 ⊢
  have hBk1 : B_k1.length + (partB fs_sVoteResponseTopic v true ((lT (T.at 1))[k1])).length ≤ LIM := by rw [hdk1]; exact el_size hs54 hk1 (GOf_part (by decide) _)
  refine asg rfl rfl ?_
  refine nl ?_
  refine sq ?_
  refine sr ?_
  refine mv rfl rfl ?_
  refine nc rfl rfl ?_
  refine fa F80_0 rfl rfl ?_
  refine ld (Says.fz hc_11) Tryz.isAgg9 rfl (Nat.add_zero _).symm rfl rfl ?_
  refine asg rfl rfl ?_
  refine nl ?_
  refine sr ?_
  refine mv rfl rfl ?_
  refine nl ?_
  refine cdT rfl (by omega) ?_
  refine rg ?_
  refine mv rfl rfl ?_
  refine mv rfl rfl ?_
  have ok74 := oek1.get 0 (by decide) (has_yes (show (0 : Int) ≤ v by omega) (show ((-1) : Int) < 0 ∨ v ≤ (-1) by omega))
  have nn74 := ok74.nn (by decide) (by decide) (by decide)
  have e_12 : B_k1 ++ (counted true false (((lT (T.at 1))[k1]).at 0).s.length 2 ++ (((lT (T.at 1))[k1]).at 0).s) = B_k1 ++ plainTo (zipped fs_sVoteResponseTopic v true ((lT (T.at 1))[k1])) v 1 := fold_first (fs := fs_sVoteResponseTopic) (v := v) (flex := true) (t := ((lT (T.at 1))[k1])) (B := B_k1) 0 rfl (by decide) (by decide) (has_yes (show (0 : Int) ≤ v by omega) (show ((-1) : Int) < 0 ∨ v ≤ (-1) by omega)) (by rw [FB_text (f := (fs_sVoteResponseTopic[0]'(by decide))) (by decide) (by decide) ok74, sT_nn nn74, nn74])
  have hs74 := fold_size e_12 (by decide) hBk1
  refine cl rfl rfl rfl (OutK.cast (k_AppendCompactString (x := (((lT (T.at 1))[k1]).at 0).s) (by have := ok74.s (Or.inl rfl); omega) rbk1 hs74) e_12) rfl (fun v_ H1 L1 hle hR => ?_)
  obtain ⟨rfl, a74, c74, N74, rfl, rfl, h74⟩ := hR
  have r74 := h74.1
  refine asg rfl rfl ?_
  refine nl ?_
  refine sq ?_
  refine sr ?_
  refine mv rfl rfl ?_
  refine nc rfl rfl ?_
  refine fa F80_1 rfl rfl ?_
  refine ld (Says.fz hc_11) Tryz.isAgg78 rfl rfl rfl rfl ?_
  refine asg rfl rfl ?_
  refine nl ?_
  refine sq ?_
  refine sr ?_
  refine mv rfl rfl ?_
  refine nl ?_
  refine cdT rfl (by omega) ?_
  refine rg ?_
  refine mv rfl rfl ?_
  refine mv rfl rfl ?_
  refine ls Tryz.runUnderlying78 rfl rfl ?_
  have ok86 := oek1.get 1 (by decide) (has_yes (show (0 : Int) ≤ v by omega) (show ((-1) : Int) < 0 ∨ v ≤ (-1) by omega))
  have ll86 := lT_len (ok86.len rfl)
  have e_13 : B_k1 ++ plainTo (zipped fs_sVoteResponseTopic v true ((lT (T.at 1))[k1])) v 1 ++ (counted true false (lT (((lT (T.at 1))[k1]).at 1)).length 4 ++ (lT (((lT (T.at 1))[k1]).at 1)).flatMap (GOf (fs_sVoteResponseTopic[1]'(by decide)) v true)) = B_k1 ++ plainTo (zipped fs_sVoteResponseTopic v true ((lT (T.at 1))[k1])) v 2 := fold_yes (fs := fs_sVoteResponseTopic) (v := v) (flex := true) (t := ((lT (T.at 1))[k1])) (B := B_k1) 1 (by decide) (by decide) (has_yes (show (0 : Int) ≤ v by omega) (show ((-1) : Int) < 0 ∨ v ≤ (-1) by omega)) (FB_list0 (f := (fs_sVoteResponseTopic[1]'(by decide))) (by decide) (by decide) (by decide) ok86)
  have hs86 := fold_size e_13 (by decide) hBk1
  have hc86 : (B_k1 ++ plainTo (zipped fs_sVoteResponseTopic v true ((lT (T.at 1))[k1])) v 1).length + (counted true false (lT (((lT (T.at 1))[k1]).at 1)).length 4).length ≤ LIM := by have h := hs86; simp only [List.length_append] at h ⊢; omega
  refine cl rfl rfl rfl (OutK.cast (k_AppendCompactArrayLen (n := (lT (((lT (T.at 1))[k1]).at 1)).length) (by omega) r74 hc86) (show _ = B_k1 ++ plainTo (zipped fs_sVoteResponseTopic v true ((lT (T.at 1))[k1])) v 1 ++ (counted true false (lT (((lT (T.at 1))[k1]).at 1)).length 4) from rfl)) rfl (fun v_ H1 L1 hle hR => ?_)
  obtain ⟨rfl, a86, c86, N86, rfl, rfl, h86⟩ := hR
  have r86 := h86.1
  refine asg rfl rfl ?_
  refine nl ?_
  refine sr ?_
  refine mv rfl rfl ?_
  refine ls Tryz.runUnderlying78 rfl rfl ?_
  refine mv rfl rfl ?_
  refine nl ?_
  refine fr ((lT (((lT (T.at 1))[k1]).at 1)).length) (fun k2 l' H' L' => ∃ (a_k2 : Option Addr), ∃ (m_k2 : Nat), ∃ (c_k2 : Nat), ∃ (N_k2 : Chunk), [(0, .pointer (some ⟨b, 0, none⟩)), (1, .slice a_k2 m_k2 c_k2), (5, .int .i16 v), (6, .bool (decide ((0 : Int) ≤ v))), (8, .slice a1 (lT (T.at 1)).length c1), (10, .pointer (some ⟨b_5, o_6 + k1 * 3, none⟩)), (12, .slice a_k1_1 (lT (((lT (T.at 1))[k1]).at 1)).length c_k1_1), (60, .int .i64 ((lT (T.at 1)).length : Int)), (61, .int .i64 (k1 : Int)), (92, .int .i64 ((lT (((lT (T.at 1))[k1]).at 1)).length : Int))] = l' ∧ N_k2 :: L = L' ∧ Row 5 1 a_k2 m_k2 c_k2 (bytesOf (B_k1 ++ plainTo (zipped fs_sVoteResponseTopic v true ((lT (T.at 1))[k1])) v 1 ++ (counted true false (lT (((lT (T.at 1))[k1]).at 1)).length 4) ++ ((lT (((lT (T.at 1))[k1]).at 1)).take k2).flatMap (GOf (fs_sVoteResponseTopic[1]'(by decide)) v true))) N_k2 ∧ m_k2 = (B_k1 ++ plainTo (zipped fs_sVoteResponseTopic v true ((lT (T.at 1))[k1])) v 1 ++ (counted true false (lT (((lT (T.at 1))[k1]).at 1)).length 4) ++ ((lT (((lT (T.at 1))[k1]).at 1)).take k2).flatMap (GOf (fs_sVoteResponseTopic[1]'(by decide)) v true)).length) [(0, .pointer (some ⟨b, 0, none⟩)), (1, .slice _ _ _), (5, .int .i16 v), (6, .bool (decide ((0 : Int) ≤ v))), (8, .slice a1 (lT (T.at 1)).length c1), (10, .pointer (some ⟨b_5, o_6 + k1 * 3, none⟩)), (12, .slice a_k1_1 (lT (((lT (T.at 1))[k1]).at 1)).length c_k1_1), (60, .int .i64 ((lT (T.at 1)).length : Int)), (61, .int .i64 (k1 : Int)), (92, .int .i64 ((lT (((lT (T.at 1))[k1]).at 1)).length : Int))] (fun k2 l' H' L' h => ?_) (by omega) rfl (.of ⟨rfl, rfl, rfl, rfl, rfl, rfl, rfl, rfl, rfl, rfl, trivial⟩) ⟨_, _, _, _, rfl, rfl, (by rw [List.take_zero, List.flatMap_nil, List.append_nil]; exact r86), (by rw [List.take_zero, List.flatMap_nil, List.append_nil])⟩ rfl rfl rfl rfl rfl (fun k2 l' H' L' hk2 le_14 hI => ?_) (fun l' H' L' le_15 hI => ?_)
  · obtain ⟨a_k2, m_k2, c_k2, N_k2, rfl, _⟩ := h; exact ⟨rfl, rfl, rfl, rfl⟩
  ·
   obtain ⟨a_k2, m_k2, c_k2, N_k2, rfl, rfl, pk20, pk21⟩ := hI
   subst pk21
   refine sr ?_
   refine mv rfl rfl ?_
   refine asg rfl rfl ?_
   refine nl ?_
   refine sr ?_
   refine mv rfl rfl ?_
   refine mv rfl rfl ?_
   obtain ⟨b_16, o_17, e_18, g_19⟩ := (hf_k1_0.mono At_VoteResponseTopicPartition.mono le_14).rows.at_ (ne_nil_of_lt hk2)
   obtain ⟨cs_20, hA_21, hc_22⟩ := g_19 k2 hk2
   refine ix2 Tryz.runUnderlying78 Tryz.sizeOf84 rfl e_18 rfl rfl hk2 rfl ?_
   obtain ⟨m_k2_t, rfl, hf_k2_0⟩ := hA_21
   have oek2 := (ok86.el rfl _ (lT_mem (List.getElem_mem hk2))).2 rfl
   obtain ⟨B_k2, hdk2⟩ : ∃ z : List UInt8, z = B_k1 ++ plainTo (zipped fs_sVoteResponseTopic v true ((lT (T.at 1))[k1])) v 1 ++ (counted true false (lT (((lT (T.at 1))[k1]).at 1)).length 4) ++ ((lT (((lT (T.at 1))[k1]).at 1)).take k2).flatMap (GOf (fs_sVoteResponseTopic[1]'(by decide)) v true) := ⟨_, rfl⟩
   have rbk2 := pk20
   rw [← hdk2] at rbk2 ⊢
   have hBk2 : B_k2.length + (partB fs_sVoteResponseTopicPartition v true ((lT (((lT (T.at 1))[k1]).at 1))[k2])).length ≤ LIM := by rw [hdk2]; exact el_size hs86 hk2 (GOf_part (by decide) _)
   refine asg rfl rfl ?_
   refine nl ?_
   refine sq ?_
   refine sr ?_
   refine mv rfl rfl ?_
   refine nc rfl rfl ?_
   refine fa F84_0 rfl rfl ?_
   refine ld (Says.fz hc_22) Tryz.isAgg21 rfl (Nat.add_zero _).symm rfl rfl ?_
   refine asg rfl rfl ?_
   refine nl ?_
   refine rg ?_
   refine mv rfl rfl ?_
   refine mv rfl rfl ?_
   have ok105 := oek2.get 0 (by decide) (has_yes (show (0 : Int) ≤ v by omega) (show ((-1) : Int) < 0 ∨ v ≤ (-1) by omega))
   have e_23 : B_k2 ++ (fixed (IntKind.i32.wrap (((lT (((lT (T.at 1))[k1]).at 1))[k2]).at 0).n) 4) = B_k2 ++ plainTo (zipped fs_sVoteResponseTopicPartition v true ((lT (((lT (T.at 1))[k1]).at 1))[k2])) v 1 := fold_first (fs := fs_sVoteResponseTopicPartition) (v := v) (flex := true) (t := ((lT (((lT (T.at 1))[k1]).at 1))[k2])) (B := B_k2) 0 rfl (by decide) (by decide) (has_yes (show (0 : Int) ≤ v by omega) (show ((-1) : Int) < 0 ∨ v ≤ (-1) by omega)) ((FB_int (f := (fs_sVoteResponseTopicPartition[0]'(by decide))) (by decide) (by decide)).trans (fixed_i32 _).symm)
   have hs105 := fold_size e_23 (by decide) hBk2
   refine cl rfl rfl rfl (OutK.cast (k_AppendInt32 (u := IntKind.i32.wrap (((lT (((lT (T.at 1))[k1]).at 1))[k2]).at 0).n) rbk2 hs105) e_23) rfl (fun v_ H1 L1 hle hR => ?_)
   obtain ⟨rfl, a105, c105, N105, rfl, rfl, h105⟩ := hR
   have r105 := h105.1
   refine asg rfl rfl ?_
   refine nl ?_
   refine sq ?_
   refine sr ?_
   refine mv rfl rfl ?_
   refine nc rfl rfl ?_
   refine fa F84_1 rfl rfl ?_
   refine ld (Says.fz hc_22) Tryz.isAgg40 rfl rfl rfl rfl ?_
   refine asg rfl rfl ?_
   refine nl ?_
   refine rg ?_
   refine mv rfl rfl ?_
   refine mv rfl rfl ?_
   have ok112 := oek2.get 1 (by decide) (has_yes (show (0 : Int) ≤ v by omega) (show ((-1) : Int) < 0 ∨ v ≤ (-1) by omega))
   have e_24 : B_k2 ++ plainTo (zipped fs_sVoteResponseTopicPartition v true ((lT (((lT (T.at 1))[k1]).at 1))[k2])) v 1 ++ (fixed (IntKind.i16.wrap (((lT (((lT (T.at 1))[k1]).at 1))[k2]).at 1).n) 2) = B_k2 ++ plainTo (zipped fs_sVoteResponseTopicPartition v true ((lT (((lT (T.at 1))[k1]).at 1))[k2])) v 2 := fold_yes (fs := fs_sVoteResponseTopicPartition) (v := v) (flex := true) (t := ((lT (((lT (T.at 1))[k1]).at 1))[k2])) (B := B_k2) 1 (by decide) (by decide) (has_yes (show (0 : Int) ≤ v by omega) (show ((-1) : Int) < 0 ∨ v ≤ (-1) by omega)) ((FB_int (f := (fs_sVoteResponseTopicPartition[1]'(by decide))) (by decide) (by decide)).trans (fixed_i16 _).symm)
   have hs112 := fold_size e_24 (by decide) hBk2
   refine cl rfl rfl rfl (OutK.cast (k_AppendInt16 (u := IntKind.i16.wrap (((lT (((lT (T.at 1))[k1]).at 1))[k2]).at 1).n) r105 hs112) e_24) rfl (fun v_ H1 L1 hle hR => ?_)
   obtain ⟨rfl, a112, c112, N112, rfl, rfl, h112⟩ := hR
   have r112 := h112.1
   refine asg rfl rfl ?_
   refine nl ?_
   refine sq ?_
   refine sr ?_
   refine mv rfl rfl ?_
   refine nc rfl rfl ?_
   refine fa F84_2 rfl rfl ?_
   refine ld (Says.fz hc_22) Tryz.isAgg21 rfl rfl rfl rfl ?_
   refine asg rfl rfl ?_
   refine nl ?_
   refine rg ?_
   refine mv rfl rfl ?_
   refine mv rfl rfl ?_
   have ok119 := oek2.get 2 (by decide) (has_yes (show (0 : Int) ≤ v by omega) (show ((-1) : Int) < 0 ∨ v ≤ (-1) by omega))
   have e_25 : B_k2 ++ plainTo (zipped fs_sVoteResponseTopicPartition v true ((lT (((lT (T.at 1))[k1]).at 1))[k2])) v 2 ++ (fixed (IntKind.i32.wrap (((lT (((lT (T.at 1))[k1]).at 1))[k2]).at 2).n) 4) = B_k2 ++ plainTo (zipped fs_sVoteResponseTopicPartition v true ((lT (((lT (T.at 1))[k1]).at 1))[k2])) v 3 := fold_yes (fs := fs_sVoteResponseTopicPartition) (v := v) (flex := true) (t := ((lT (((lT (T.at 1))[k1]).at 1))[k2])) (B := B_k2) 2 (by decide) (by decide) (has_yes (show (0 : Int) ≤ v by omega) (show ((-1) : Int) < 0 ∨ v ≤ (-1) by omega)) ((FB_int (f := (fs_sVoteResponseTopicPartition[2]'(by decide))) (by decide) (by decide)).trans (fixed_i32 _).symm)
   have hs119 := fold_size e_25 (by decide) hBk2
   refine cl rfl rfl rfl (OutK.cast (k_AppendInt32 (u := IntKind.i32.wrap (((lT (((lT (T.at 1))[k1]).at 1))[k2]).at 2).n) r112 hs119) e_25) rfl (fun v_ H1 L1 hle hR => ?_)
   obtain ⟨rfl, a119, c119, N119, rfl, rfl, h119⟩ := hR
   have r119 := h119.1
   refine asg rfl rfl ?_
   refine nl ?_
   refine sq ?_
   refine sr ?_
   refine mv rfl rfl ?_
   refine nc rfl rfl ?_
   refine fa F84_3 rfl rfl ?_
   refine ld (Says.fz hc_22) Tryz.isAgg21 rfl rfl rfl rfl ?_
   refine asg rfl rfl ?_
   refine nl ?_
   refine rg ?_
   refine mv rfl rfl ?_
   refine mv rfl rfl ?_
   have ok126 := oek2.get 3 (by decide) (has_yes (show (0 : Int) ≤ v by omega) (show ((-1) : Int) < 0 ∨ v ≤ (-1) by omega))
   have e_26 : B_k2 ++ plainTo (zipped fs_sVoteResponseTopicPartition v true ((lT (((lT (T.at 1))[k1]).at 1))[k2])) v 3 ++ (fixed (IntKind.i32.wrap (((lT (((lT (T.at 1))[k1]).at 1))[k2]).at 3).n) 4) = B_k2 ++ plainTo (zipped fs_sVoteResponseTopicPartition v true ((lT (((lT (T.at 1))[k1]).at 1))[k2])) v 4 := fold_yes (fs := fs_sVoteResponseTopicPartition) (v := v) (flex := true) (t := ((lT (((lT (T.at 1))[k1]).at 1))[k2])) (B := B_k2) 3 (by decide) (by decide) (has_yes (show (0 : Int) ≤ v by omega) (show ((-1) : Int) < 0 ∨ v ≤ (-1) by omega)) ((FB_int (f := (fs_sVoteResponseTopicPartition[3]'(by decide))) (by decide) (by decide)).trans (fixed_i32 _).symm)
   have hs126 := fold_size e_26 (by decide) hBk2
   refine cl rfl rfl rfl (OutK.cast (k_AppendInt32 (u := IntKind.i32.wrap (((lT (((lT (T.at 1))[k1]).at 1))[k2]).at 3).n) r119 hs126) e_26) rfl (fun v_ H1 L1 hle hR => ?_)
   obtain ⟨rfl, a126, c126, N126, rfl, rfl, h126⟩ := hR
   have r126 := h126.1
   refine asg rfl rfl ?_
   refine nl ?_
   refine sq ?_
   refine sr ?_
   refine mv rfl rfl ?_
   refine nc rfl rfl ?_
   refine fa F84_4 rfl rfl ?_
   refine ld (Says.fz hc_22) Tryz.isAgg4 rfl rfl rfl rfl ?_
   refine asg rfl rfl ?_
   refine nl ?_
   refine rg ?_
   refine mv rfl rfl ?_
   refine mv rfl rfl ?_
   have ok133 := oek2.get 4 (by decide) (has_yes (show (0 : Int) ≤ v by omega) (show ((-1) : Int) < 0 ∨ v ≤ (-1) by omega))
   have e_27 : B_k2 ++ plainTo (zipped fs_sVoteResponseTopicPartition v true ((lT (((lT (T.at 1))[k1]).at 1))[k2])) v 4 ++ ([if decide ((((lT (((lT (T.at 1))[k1]).at 1))[k2]).at 4).n % 2 = 1) then 1 else 0] : List UInt8) = B_k2 ++ plainTo (zipped fs_sVoteResponseTopicPartition v true ((lT (((lT (T.at 1))[k1]).at 1))[k2])) v 5 := fold_yes (fs := fs_sVoteResponseTopicPartition) (v := v) (flex := true) (t := ((lT (((lT (T.at 1))[k1]).at 1))[k2])) (B := B_k2) 4 (by decide) (by decide) (has_yes (show (0 : Int) ≤ v by omega) (show ((-1) : Int) < 0 ∨ v ≤ (-1) by omega)) ((FB_bool (f := (fs_sVoteResponseTopicPartition[4]'(by decide))) (by decide)).trans (bool_byte _))
   have hs133 := fold_size e_27 (by decide) hBk2
   refine cl rfl rfl rfl (OutK.cast (k_AppendBool (b := decide ((((lT (((lT (T.at 1))[k1]).at 1))[k2]).at 4).n % 2 = 1)) r126 hs133) e_27) rfl (fun v_ H1 L1 hle hR => ?_)
   obtain ⟨rfl, a133, c133, N133, rfl, rfl, h133⟩ := hR
   have r133 := h133.1
   refine asg rfl rfl ?_
   refine nl ?_
   refine sr ?_
   refine mv rfl rfl ?_
   refine nl ?_
   refine cdT rfl (by omega) ?_
   refine sr ?_
   refine mv rfl rfl ?_
   refine mv rfl rfl ?_
   refine nc rfl rfl ?_
   refine fa F84_5 rfl rfl ?_
   refine cl rfl rfl rfl (t_lenU (j := 5) hc_22 rfl hf_k2_0) rfl (fun v_ H1 L1 hle hR => ?_)
   obtain ⟨rfl, rfl, rfl⟩ := hR
   have hu139 := oek2.u
   have hul139 := hu139.2.1
   obtain ⟨hz139a, hz139b⟩ := part_size_plain (by decide) hu139 hBk2
   refine cv Tryz.runUnderlying3 Tryz.runUnderlying55 rfl (w32u (by omega) (by omega)) rfl ?_
   refine ad rfl rfl ((w32u (by omega) (by omega)).trans (Int.zero_add _)) rfl ?_
   refine cl rfl rfl rfl (k_AppendUvarint (n := ((lT (((lT (T.at 1))[k1]).at 1))[k2]).u.length) (by omega) r133 hz139a) rfl (fun v_ H1 L1 hle hR => ?_)
   obtain ⟨rfl, a142, c142, N142, rfl, rfl, h142⟩ := hR
   have r142 := h142.1
   refine asg rfl rfl ?_
   refine nl ?_
   refine rg ?_
   refine mv rfl rfl ?_
   refine nc rfl rfl ?_
   refine fa F84_5 rfl rfl ?_
   refine mv rfl rfl ?_
   refine cl rfl rfl rfl (t_append_each (j := 5) hc_22 rfl hf_k2_0 (by omega) r142 (fun p hp => by have := hu139.2.2 p hp; omega) hz139b) rfl (fun v_ H1 L1 le_28 hR => ?_)
   obtain ⟨a147, c147, N147, rfl, rfl, h147⟩ := hR
   have r147 := h147.1
   have eP_29 : B_k2 ++ plainTo (zipped fs_sVoteResponseTopicPartition v true ((lT (((lT (T.at 1))[k1]).at 1))[k2])) v 5 ++ uvar ((lT (((lT (T.at 1))[k1]).at 1))[k2]).u.length ++ ((lT (((lT (T.at 1))[k1]).at 1))[k2]).u.flatMap tagU = B_k2 ++ partB fs_sVoteResponseTopicPartition v true ((lT (((lT (T.at 1))[k1]).at 1))[k2]) := part_close (B := B_k2) (by decide) hu139
   rw [eP_29] at r147 ⊢
   refine asg rfl rfl ?_
   refine nN ?_
   refine Nb ?_
   have ee_30 : B_k2 ++ partB fs_sVoteResponseTopicPartition v true ((lT (((lT (T.at 1))[k1]).at 1))[k2]) = B_k1 ++ plainTo (zipped fs_sVoteResponseTopic v true ((lT (T.at 1))[k1])) v 1 ++ (counted true false (lT (((lT (T.at 1))[k1]).at 1)).length 4) ++ ((lT (((lT (T.at 1))[k1]).at 1)).take (k2 + 1)).flatMap (GOf (fs_sVoteResponseTopic[1]'(by decide)) v true) := by rw [hdk2]; exact el_end (B0 := B_k1 ++ plainTo (zipped fs_sVoteResponseTopic v true ((lT (T.at 1))[k1])) v 1 ++ (counted true false (lT (((lT (T.at 1))[k1]).at 1)).length 4)) (G := (GOf (fs_sVoteResponseTopic[1]'(by decide)) v true)) hk2 (GOf_part (by decide) _)
   refine fun a_ w_ hA hw => ⟨_, _, _, hA.sub ?_, (le_14.trans le_28), hw, _, rfl, _, _, _, _, rfl, rfl, (by rw [← ee_30]; exact r147), (by rw [← ee_30])⟩
   exact (.of ⟨rfl, rfl, rfl, rfl, rfl, rfl, rfl, rfl, rfl, rfl, rfl, trivial⟩)
  ·
   obtain ⟨a_k2, m_k2, c_k2, N_k2, rfl, rfl, pk20, pk21⟩ := hI
   refine toWp ?_
   have eL86 : B_k1 ++ plainTo (zipped fs_sVoteResponseTopic v true ((lT (T.at 1))[k1])) v 1 ++ (counted true false (lT (((lT (T.at 1))[k1]).at 1)).length 4) ++ ((lT (((lT (T.at 1))[k1]).at 1)).take (lT (((lT (T.at 1))[k1]).at 1)).length).flatMap (GOf (fs_sVoteResponseTopic[1]'(by decide)) v true) = B_k1 ++ plainTo (zipped fs_sVoteResponseTopic v true ((lT (T.at 1))[k1])) v 2 := by rw [List.take_length, List.append_assoc]; exact e_13
   rw [eL86] at pk20 pk21
   subst pk21
   refine sr ?_
   refine mv rfl rfl ?_
   refine nl ?_
   refine cdT rfl (by omega) ?_
   refine sr ?_
   refine mv rfl rfl ?_
   refine mv rfl rfl ?_
   refine nc rfl rfl ?_
   refine fa F80_2 rfl rfl ?_
   refine cl rfl rfl rfl (t_lenU (j := 2) (hc_11.mono le_15) rfl (hf_k1_1.mono le_15)) rfl (fun v_ H1 L1 hle hR => ?_)
   obtain ⟨rfl, rfl, rfl⟩ := hR
   have hu154 := oek1.u
   have hul154 := hu154.2.1
   obtain ⟨hz154a, hz154b⟩ := part_size_plain (by decide) hu154 hBk1
   refine cv Tryz.runUnderlying3 Tryz.runUnderlying55 rfl (w32u (by omega) (by omega)) rfl ?_
   refine ad rfl rfl ((w32u (by omega) (by omega)).trans (Int.zero_add _)) rfl ?_
   refine cl rfl rfl rfl (k_AppendUvarint (n := ((lT (T.at 1))[k1]).u.length) (by omega) pk20 hz154a) rfl (fun v_ H1 L1 hle hR => ?_)
   obtain ⟨rfl, a157, c157, N157, rfl, rfl, h157⟩ := hR
   have r157 := h157.1
   refine asg rfl rfl ?_
   refine nl ?_
   refine rg ?_
   refine mv rfl rfl ?_
   refine nc rfl rfl ?_
   refine fa F80_2 rfl rfl ?_
   refine mv rfl rfl ?_
   refine cl rfl rfl rfl (t_append_each (j := 2) (hc_11.mono le_15) rfl (hf_k1_1.mono le_15) (by omega) r157 (fun p hp => by have := hu154.2.2 p hp; omega) hz154b) rfl (fun v_ H1 L1 le_31 hR => ?_)
   obtain ⟨a162, c162, N162, rfl, rfl, h162⟩ := hR
   have r162 := h162.1
   have eP_32 : B_k1 ++ plainTo (zipped fs_sVoteResponseTopic v true ((lT (T.at 1))[k1])) v 2 ++ uvar ((lT (T.at 1))[k1]).u.length ++ ((lT (T.at 1))[k1]).u.flatMap tagU = B_k1 ++ partB fs_sVoteResponseTopic v true ((lT (T.at 1))[k1]) := part_close (B := B_k1) (by decide) hu154
   rw [eP_32] at r162 ⊢
   refine asg rfl rfl ?_
   refine nN ?_
   refine Nb ?_
   have ee_33 : B_k1 ++ partB fs_sVoteResponseTopic v true ((lT (T.at 1))[k1]) = D ++ plainTo (zipped fs_VoteResponse v true T) v 1 ++ (counted true false (lT (T.at 1)).length 4) ++ ((lT (T.at 1)).take (k1 + 1)).flatMap (GOf (fs_VoteResponse[1]'(by decide)) v true) := by rw [hdk1]; exact el_end (B0 := D ++ plainTo (zipped fs_VoteResponse v true T) v 1 ++ (counted true false (lT (T.at 1)).length 4)) (G := (GOf (fs_VoteResponse[1]'(by decide)) v true)) hk1 (GOf_part (by decide) _)
   refine fun a_ w_ hA hw => ⟨_, _, _, hA.sub ?_, (le_3.trans (le_15.trans le_31)), hw, _, rfl, _, _, _, _, rfl, rfl, (by rw [← ee_33]; exact r162), (by rw [← ee_33])⟩
   exact (.of ⟨rfl, rfl, rfl, rfl, rfl, rfl, rfl, trivial⟩)
 ·
  obtain ⟨a_k1, m_k1, c_k1, N_k1, rfl, rfl, pk10, pk11⟩ := hI
  refine toWp ?_
  have eL54 : D ++ plainTo (zipped fs_VoteResponse v true T) v 1 ++ (counted true false (lT (T.at 1)).length 4) ++ ((lT (T.at 1)).take (lT (T.at 1)).length).flatMap (GOf (fs_VoteResponse[1]'(by decide)) v true) = D ++ plainTo (zipped fs_VoteResponse v true T) v 2 := by rw [List.take_length, List.append_assoc]; exact e_2
  rw [eL54] at pk10 pk11
  subst pk11
  refine sq ?_
  refine sr ?_
  refine mv rfl rfl ?_
  refine nl ?_
  refine cdT rfl (by omega) ?_
  refine sr ?_
  have es_34 : plainTo (zipped fs_VoteResponse v true T) v 3 = plainTo (zipped fs_VoteResponse v true T) v 2 := (piece_no1 (fs := fs_VoteResponse) (v := v) (flex := true) (t := T) (k := 2) (by decide) (by decide))
  have eX_35 : D ++ plainTo (zipped fs_VoteResponse v true T) v 2 = D ++ plainTo (zipped fs_VoteResponse v true T) v 3 := by rw [es_34]
  have rx_36 := pk10
  rw [eX_35] at rx_36 ⊢
  have hug_37 := hok.u
  have hulg_37 := hug_37.2.1
  obtain ⟨hzg_37a, hzg_37b, hzg_37c⟩ := tagsW_size on_fs_VoteResponse hug_37 hb
  rw [kn_fs_VoteResponse] at hzg_37b hzg_37c
  rw [show fs_VoteResponse.length = 3 from rfl] at hzg_37a hzg_37b hzg_37c
  refine nilL ?_
  refine asg rfl rfl ?_
  refine nl ?_
  refine sq ?_
  refine sr ?_
  refine mv rfl rfl ?_
  refine nc rfl rfl ?_
  refine fa0 F65_3 rfl rfl ?_
  refine ld (Says.fz (hv.mono le_4)) Tryz.isAgg60 rfl (Nat.zero_add _).symm rfl rfl ?_
  refine ls Tryz.runUnderlying60 rfl rfl ?_
  refine gt rfl rfl rfl ?_
  refine nl ?_
  have okt_38 := hok.get 2 (by decide) (has_yes (show (0 : Int) ≤ v by omega) (show ((-1) : Int) < 0 ∨ v ≤ (-1) by omega))
  refine cutT (fun l' H' L' => ∃ (at_38 : Option Addr), ∃ (mt_38 : Nat), ∃ (ct_38 : Nat), ∃ (Nt_38 : Chunk), ∃ (et_38 : Option Addr), ∃ (nt_38 : Nat), ∃ (dt_38 : Nat), ∃ (NEt_38 : Chunk), [(0, .pointer (some ⟨b, 0, none⟩)), (1, .slice at_38 mt_38 ct_38), (5, .int .i16 v), (6, .bool (decide ((0 : Int) ≤ v))), (20, .slice et_38 nt_38 dt_38)] = l' ∧ NEt_38 :: Nt_38 :: L = L' ∧ Row 5 1 at_38 mt_38 ct_38 (bytesOf (D ++ plainTo (zipped fs_VoteResponse v true T) v 3)) Nt_38 ∧ mt_38 = (D ++ plainTo (zipped fs_VoteResponse v true T) v 3).length ∧ Row 55 1 et_38 nt_38 dt_38 (u32L (encT (tgU fs_VoteResponse T) 1)) NEt_38 ∧ nt_38 = (encT (tgU fs_VoteResponse T) 1).length) ?_ (fun l' H' L' le_39 hI => ?_)
  ·
   refine cd rfl (fun h170 => ?_) (fun h170 => ?_)
   ·
    refine rg ?_
    refine mv rfl rfl ?_
    refine bs' L88 rfl rfl rfl rfl (fun b_40 => ?_)
    refine ap (k := 1) (news := [.int .u32 ((0 : Nat) : Int)]) Tryz.underlying88 I55 rfl rfl (Row.nil _ _) (fun _ => (.tail .head)) (src_says Tryz.underlying88 rfl (fun _ => Says.own .head) (by intro u hu; simp at hu; subst hu; rfl)) (by have := encT_len (tgU fs_VoteResponse T) 0; omega) (by have := encT_len (tgU fs_VoteResponse T) 0; unfold maxLen; omega) rfl (fun a173 c173 N173 r173 z173 => ?_)
    have q173 : Row 55 1 a173 (0 + 1) c173 (u32L ((encT (tgU fs_VoteResponse T) 0) ++ [0])) N173 := by rw [← u32L_snoc]; exact r173
    refine asg rfl rfl ?_
    refine nN ?_
    refine drN .head ?_
    have utt_38 : (tgU fs_VoteResponse T) 0 = false := (tu_fs_VoteResponse_0 _).trans (FU_list_no okt_38 (by decide) (by decide) h170)
    have uet_38 := encT_yes utt_38
    refine fun a_ w_ hA hw => ⟨_, _, _, hA.sub ?_, ler, hw, _, _, _, N_k1, _, _, _, N173, rfl, rfl, rx_36, rfl, (by rw [uet_38]; exact q173), (by rw [uet_38, List.length_append]; rfl)⟩
    exact (.of ⟨rfl, rfl, rfl, rfl, rfl, trivial⟩)
   ·
    refine skN ?_
    have utt_38 : (tgU fs_VoteResponse T) 0 = true := (tu_fs_VoteResponse_0 _).trans (FU_list_yes okt_38 (by decide) (by decide) h170)
    have uet_38 := encT_no utt_38
    refine fun a_ w_ hA hw => ⟨_, _, _, hA.sub ?_, ler, hw, _, _, _, N_k1, _, _, _, [], rfl, rfl, rx_36, rfl, (by rw [uet_38]; exact (Row.nil _ _)), (by rw [uet_38]; exact rfl)⟩
    exact (.of ⟨rfl, rfl, rfl, rfl, rfl, trivial⟩)
  ·
   obtain ⟨at_38, mt_38, ct_38, Nt_38, et_38, nt_38, dt_38, NEt_38, rfl, rfl, pj0, pj1, pj2, pj3⟩ := hI
   subst pj1
   subst pj3
   have rt_38 := pj0
   have rEt_38 := pj2
   have helg_37 := encT_len (tgU fs_VoteResponse T) 1
   refine sr ?_
   refine mv rfl rfl ?_
   refine mv rfl rfl ?_
   refine ls Tryz.runUnderlying88 rfl rfl ?_
   refine mv rfl rfl ?_
   refine nc rfl rfl ?_
   refine fa0 F65_4 rfl rfl ?_
   refine cl rfl rfl rfl (t_lenU (j := 4) (hv.mono (le_4.trans le_39)) rfl (hf2.mono (le_4.trans le_39))) rfl (fun v_ H1 L1 hle hR => ?_)
   obtain ⟨rfl, rfl, rfl⟩ := hR
   refine ad rfl rfl (tgN_add kn_fs_VoteResponse (by omega)) rfl ?_
   refine cv Tryz.runUnderlying3 Tryz.runUnderlying55 rfl (w32u (by omega) (by unfold tgN; rw [kn_fs_VoteResponse]; omega)) rfl ?_
   refine tf (.tail .head) ?_
   refine cl rfl rfl rfl (k_AppendUvarint (n := tgN fs_VoteResponse T) (by unfold tgN; rw [kn_fs_VoteResponse]; omega) rt_38 hzg_37a) rfl (fun v_ H1 L1 hle hR => ?_)
   obtain ⟨rfl, a183, c183, N183, rfl, rfl, h183⟩ := hR
   have r183 := h183.1
   refine asg rfl rfl ?_
   refine nl ?_
   refine sq ?_
   refine sr ?_
   refine mv rfl rfl ?_
   refine ls Tryz.runUnderlying88 rfl rfl ?_
   refine mv rfl rfl ?_
   refine nl ?_
   refine frW rEt_38 (.tail .head) (fun HEg_37 lEg_37 zEg_37 => ?_)
   refine fr ((encT (tgU fs_VoteResponse T) 1).length) (fun k3 l' H' L' => ∃ (a_k3 : Option Addr), ∃ (m_k3 : Nat), ∃ (c_k3 : Nat), ∃ (N_k3 : Chunk), [(0, .pointer (some ⟨b, 0, none⟩)), (1, .slice a_k3 m_k3 c_k3), (5, .int .i16 v), (6, .bool (decide ((0 : Int) ≤ v))), (184, .slice et_38 (encT (tgU fs_VoteResponse T) 1).length dt_38), (185, .int .i64 ((encT (tgU fs_VoteResponse T) 1).length : Int))] = l' ∧ N_k3 :: L = L' ∧ Row 5 1 a_k3 m_k3 c_k3 (bytesOf (D ++ plainTo (zipped fs_VoteResponse v true T) v 3 ++ uvar (tgN fs_VoteResponse T) ++ ((encT (tgU fs_VoteResponse T) 1).take k3).flatMap (tgO fs_VoteResponse v T))) N_k3 ∧ m_k3 = (D ++ plainTo (zipped fs_VoteResponse v true T) v 3 ++ uvar (tgN fs_VoteResponse T) ++ ((encT (tgU fs_VoteResponse T) 1).take k3).flatMap (tgO fs_VoteResponse v T)).length) [(0, .pointer (some ⟨b, 0, none⟩)), (1, .slice _ _ _), (5, .int .i16 v), (6, .bool (decide ((0 : Int) ≤ v))), (184, .slice et_38 (encT (tgU fs_VoteResponse T) 1).length dt_38), (185, .int .i64 ((encT (tgU fs_VoteResponse T) 1).length : Int))] (fun k3 l' H' L' h => ?_) (by have := helg_37; omega) rfl (.of ⟨rfl, rfl, rfl, rfl, rfl, rfl, trivial⟩) ⟨_, _, _, _, rfl, rfl, (by rw [List.take_zero, List.flatMap_nil, List.append_nil]; exact r183), (by rw [List.take_zero, List.flatMap_nil, List.append_nil])⟩ rfl rfl rfl rfl rfl (fun k3 l' H' L' hk3 le_41 hI => ?_) (fun l' H' L' le_42 hI => ?_)
   · obtain ⟨a_k3, m_k3, c_k3, N_k3, rfl, _⟩ := h; exact ⟨rfl, rfl, rfl, rfl⟩
   ·
    obtain ⟨a_k3, m_k3, c_k3, N_k3, rfl, rfl, pk30, pk31⟩ := hI
    subst pk31
    refine sr ?_
    obtain ⟨g_43, eg_43, hg_43⟩ := enc_at zEg_37 rfl hk3
    refine ix2 Tryz.runUnderlying88 Tryz.sizeOf55 rfl eg_43 rfl rfl hk3 rfl ?_
    refine ld (j := k3) (Says.fz (hg_43.mono le_41)) Tryz.isAgg55 rfl (by omega) (u32L_nth hk3) rfl ?_
    refine asg rfl rfl ?_
    refine nl ?_
    refine sr ?_
    refine mv rfl rfl ?_
    refine nl ?_
    refine bl ?_
    refine sr ?_
    refine eq' rfl rfl rfl ?_
    refine asg rfl rfl ?_
    refine nl ?_
    refine cd rfl (fun hsk3_0 => ?_) (fun hsk3_0 => ?_)
    ·
     have hck3 : (encT (tgU fs_VoteResponse T) 1)[k3] = 0 := by omega
     have hsk3 := hzg_37b k3 hk3
     rw [hck3, to_fs_VoteResponse_0] at hsk3
     obtain ⟨Xk3, hdXk3⟩ : ∃ z : List UInt8, z = D ++ plainTo (zipped fs_VoteResponse v true T) v 3 ++ uvar (tgN fs_VoteResponse T) ++ ((encT (tgU fs_VoteResponse T) 1).take k3).flatMap (tgO fs_VoteResponse v T) := ⟨_, rfl⟩
     have rbXk3 := pk30
     rw [← hdXk3] at rbXk3 ⊢
     rw [← hdXk3] at hsk3
     obtain ⟨Bs_44, hds_44⟩ : ∃ z : List UInt8, z = Xk3 ++ uvar 0 := ⟨_, rfl⟩
     have hBs_44 : Bs_44.length + (fieldB (fs_VoteResponse[2]'(by decide)) v true (T.at 2)).length ≤ LIM := by have h := hsk3; rw [tagB_len] at h; rw [hds_44]; simp only [List.length_append]; omega
     have h32s_44 : (fieldB (fs_VoteResponse[2]'(by decide)) v true (T.at 2)).length < 4294967296 := by have h := hBs_44; unfold LIM at h; omega
     refine scT 0 (fun l' H' L' => ∃ (as_44 : Option Addr) (ms_44 cs_44 : Nat) (Ns_44 : Chunk), [(0, .pointer (some ⟨b, 0, none⟩)), (1, .slice as_44 ms_44 cs_44), (5, .int .i16 v), (6, .bool (decide ((0 : Int) ≤ v))), (23, .slice a2 (lT (T.at 2)).length c2), (24, .bool true), (25, .int .i64 ((Bs_44).length : Int)), (184, .slice et_38 (encT (tgU fs_VoteResponse T) 1).length dt_38), (185, .int .i64 ((encT (tgU fs_VoteResponse T) 1).length : Int)), (186, .int .i64 (k3 : Int))] = l' ∧ Ns_44 :: L = L' ∧ Row 5 1 as_44 ms_44 cs_44 (bytesOf (Bs_44 ++ uvar (fieldB (fs_VoteResponse[2]'(by decide)) v true (T.at 2)).length)) Ns_44 ∧ ms_44 = (Bs_44 ++ uvar (fieldB (fs_VoteResponse[2]'(by decide)) v true (T.at 2)).length).length) rfl ?_ (fun l' H' L' les_44 hI => ?_)
     ·
      refine sr ?_
      refine mv rfl rfl ?_
      refine nc rfl rfl ?_
      refine fa0 F65_3 rfl rfl ?_
      refine ld (Says.fz (hv.mono (le_4.trans (le_39.trans (lEg_37.trans le_41))))) Tryz.isAgg60 rfl (Nat.zero_add _).symm rfl rfl ?_
      refine asg rfl rfl ?_
      refine nl ?_
      refine sr ?_
      refine mv rfl rfl ?_
      refine cl rfl rfl rfl (k_AppendUvarint (n := 0) (by omega) rbXk3 (by have h := hsk3; rw [tagB_len] at h; unfold LIM at h; omega)) rfl (fun v_ H1 L1 hle hR => ?_)
      obtain ⟨rfl, a198, c198, N198, rfl, rfl, h198⟩ := hR
      have r198 := h198.1
      have rbs_44 := r198
      rw [← hds_44] at rbs_44 ⊢
      refine asg rfl rfl ?_
      refine nl ?_
      refine sr ?_
      refine asg rfl rfl ?_
      refine nl ?_
      refine sr ?_
      refine mv rfl rfl ?_
      refine ls Tryz.runUnderlying22 rfl rfl ?_
      refine asg rfl rfl ?_
      refine nl ?_
      refine sq ?_
      refine lb ?_
      refine Nt ?_
      refine sq ?_
      refine sr ?_
      refine mv rfl rfl ?_
      refine nl ?_
      refine cdT rfl (by omega) ?_
      refine rg ?_
      refine mv rfl rfl ?_
      refine mv rfl rfl ?_
      refine ls Tryz.runUnderlying60 rfl rfl ?_
      have ok205 := hok.get 2 (by decide) (has_yes (show (0 : Int) ≤ v by omega) (show ((-1) : Int) < 0 ∨ v ≤ (-1) by omega))
      have ll205 := lT_len (ok205.len rfl)
      have e_45 : Bs_44 ++ (counted true false (lT (T.at 2)).length 4 ++ (lT (T.at 2)).flatMap (GOf (fs_VoteResponse[2]'(by decide)) v true)) = Bs_44 ++ (fieldB (fs_VoteResponse[2]'(by decide)) v true (T.at 2)) := congrArg (Bs_44 ++ ·) ((FB_listT (f := (fs_VoteResponse[2]'(by decide))) (by decide) (by decide) ok205)).symm
      have hs205 : (Bs_44).length + (counted true false (lT (T.at 2)).length 4 ++ (lT (T.at 2)).flatMap (GOf (fs_VoteResponse[2]'(by decide)) v true)).length ≤ LIM := by rw [← (FB_listT (f := (fs_VoteResponse[2]'(by decide))) (by decide) (by decide) ok205)]; exact hBs_44
      have hc205 : (Bs_44).length + (counted true false (lT (T.at 2)).length 4).length ≤ LIM := by have h := hs205; simp only [List.length_append] at h ⊢; omega
      refine cl rfl rfl rfl (OutK.cast (k_AppendCompactArrayLen (n := (lT (T.at 2)).length) (by omega) rbs_44 hc205) (show _ = Bs_44 ++ (counted true false (lT (T.at 2)).length 4) from rfl)) rfl (fun v_ H1 L1 hle hR => ?_)
      obtain ⟨rfl, a205, c205, N205, rfl, rfl, h205⟩ := hR
      have r205 := h205.1
      refine asg rfl rfl ?_
      refine nl ?_
      refine sq ?_
      refine sr ?_
      refine mv rfl rfl ?_
      refine ls Tryz.runUnderlying60 rfl rfl ?_
      refine mv rfl rfl ?_
      refine nl ?_
      refine fr ((lT (T.at 2)).length) (fun k4 l' H' L' => ∃ (a_k4 : Option Addr), ∃ (m_k4 : Nat), ∃ (c_k4 : Nat), ∃ (N_k4 : Chunk), [(0, .pointer (some ⟨b, 0, none⟩)), (1, .slice a_k4 m_k4 c_k4), (5, .int .i16 v), (6, .bool (decide ((0 : Int) ≤ v))), (23, .slice a2 (lT (T.at 2)).length c2), (24, .bool false), (25, .int .i64 ((Bs_44).length : Int)), (184, .slice et_38 (encT (tgU fs_VoteResponse T) 1).length dt_38), (185, .int .i64 ((encT (tgU fs_VoteResponse T) 1).length : Int)), (186, .int .i64 (k3 : Int)), (201, .bool (decide ((0 : Int) ≤ v))), (203, .slice a2 (lT (T.at 2)).length c2), (204, .int .i64 ((lT (T.at 2)).length : Int)), (210, .slice a2 (lT (T.at 2)).length c2), (211, .int .i64 ((lT (T.at 2)).length : Int))] = l' ∧ N_k4 :: L = L' ∧ Row 5 1 a_k4 m_k4 c_k4 (bytesOf (Bs_44 ++ (counted true false (lT (T.at 2)).length 4) ++ ((lT (T.at 2)).take k4).flatMap (GOf (fs_VoteResponse[2]'(by decide)) v true))) N_k4 ∧ m_k4 = (Bs_44 ++ (counted true false (lT (T.at 2)).length 4) ++ ((lT (T.at 2)).take k4).flatMap (GOf (fs_VoteResponse[2]'(by decide)) v true)).length) [(0, .pointer (some ⟨b, 0, none⟩)), (1, .slice _ _ _), (5, .int .i16 v), (6, .bool (decide ((0 : Int) ≤ v))), (23, .slice a2 (lT (T.at 2)).length c2), (24, .bool false), (25, .int .i64 ((Bs_44).length : Int)), (184, .slice et_38 (encT (tgU fs_VoteResponse T) 1).length dt_38), (185, .int .i64 ((encT (tgU fs_VoteResponse T) 1).length : Int)), (186, .int .i64 (k3 : Int)), (201, .bool (decide ((0 : Int) ≤ v))), (203, .slice a2 (lT (T.at 2)).length c2), (204, .int .i64 ((lT (T.at 2)).length : Int)), (210, .slice a2 (lT (T.at 2)).length c2), (211, .int .i64 ((lT (T.at 2)).length : Int))] (fun k4 l' H' L' h => ?_) (by omega) rfl (.of ⟨rfl, rfl, rfl, rfl, rfl, rfl, rfl, rfl, rfl, rfl, rfl, rfl, rfl, rfl, rfl, trivial⟩) ⟨_, _, _, _, rfl, rfl, (by rw [List.take_zero, List.flatMap_nil, List.append_nil]; exact r205), (by rw [List.take_zero, List.flatMap_nil, List.append_nil])⟩ rfl rfl rfl rfl rfl (fun k4 l' H' L' hk4 le_46 hI => ?_) (fun l' H' L' le_47 hI => ?_)
      · obtain ⟨a_k4, m_k4, c_k4, N_k4, rfl, _⟩ := h; exact ⟨rfl, rfl, rfl, rfl⟩
      ·
       obtain ⟨a_k4, m_k4, c_k4, N_k4, rfl, rfl, pk40, pk41⟩ := hI
       subst pk41
       refine sr ?_
       refine mv rfl rfl ?_
       refine asg rfl rfl ?_
       refine nl ?_
       refine sr ?_
       refine mv rfl rfl ?_
       refine mv rfl rfl ?_
       obtain ⟨b_48, o_49, e_50, g_51⟩ := (hf1.mono At_VoteResponseNodeEndpoint.mono (le_4.trans (le_39.trans (lEg_37.trans (le_41.trans le_46))))).rows.at_ (ne_nil_of_lt hk4)
       obtain ⟨cs_52, hA_53, hc_54⟩ := g_51 k4 hk4
       refine ix2 Tryz.runUnderlying60 Tryz.sizeOf92 rfl e_50 rfl rfl hk4 rfl ?_
       obtain ⟨m_k4_t, rfl, hf_k4_0⟩ := hA_53
       have oek4 := (ok205.el rfl _ (lT_mem (List.getElem_mem hk4))).2 rfl
       obtain ⟨B_k4, hdk4⟩ : ∃ z : List UInt8, z = Bs_44 ++ (counted true false (lT (T.at 2)).length 4) ++ ((lT (T.at 2)).take k4).flatMap (GOf (fs_VoteResponse[2]'(by decide)) v true) := ⟨_, rfl⟩
       have rbk4 := pk40
       rw [← hdk4] at rbk4 ⊢
       have hBk4 : B_k4.length + (partB fs_sVoteResponseNodeEndpoint v true ((lT (T.at 2))[k4])).length ≤ LIM := by rw [hdk4]; exact el_size hs205 hk4 (GOf_part (by decide) _)
       refine asg rfl rfl ?_
       refine nl ?_
       refine sq ?_
       refine sr ?_
       refine mv rfl rfl ?_
       refine ge rfl rfl rfl ?_
       refine nl ?_
       refine cutT (fun l' H' L' => ∃ (aj_55 : Option Addr), ∃ (mj_55 : Nat), ∃ (cj_55 : Nat), ∃ (Nj_55 : Chunk), [(0, .pointer (some ⟨b, 0, none⟩)), (1, .slice aj_55 mj_55 cj_55), (5, .int .i16 v), (6, .bool (decide ((0 : Int) ≤ v))), (23, .slice a2 (lT (T.at 2)).length c2), (24, .bool false), (25, .int .i64 ((Bs_44).length : Int)), (26, .int .i64 (k4 : Int)), (27, .pointer (some ⟨b_48, o_49 + k4 * 4, none⟩)), (184, .slice et_38 (encT (tgU fs_VoteResponse T) 1).length dt_38), (185, .int .i64 ((encT (tgU fs_VoteResponse T) 1).length : Int)), (186, .int .i64 (k3 : Int)), (201, .bool (decide ((0 : Int) ≤ v))), (203, .slice a2 (lT (T.at 2)).length c2), (204, .int .i64 ((lT (T.at 2)).length : Int)), (210, .slice a2 (lT (T.at 2)).length c2), (211, .int .i64 ((lT (T.at 2)).length : Int)), (212, .int .i64 (k4 : Int)), (214, .int .i64 (k4 : Int)), (215, .slice a2 (lT (T.at 2)).length c2), (216, .int .i64 (k4 : Int)), (217, .pointer (some ⟨b_48, o_49 + k4 * 4, none⟩)), (218, .int .i16 v), (219, .bool (decide ((1 : Int) ≤ v)))] = l' ∧ Nj_55 :: L = L' ∧ Row 5 1 aj_55 mj_55 cj_55 (bytesOf (B_k4 ++ plainTo (zipped fs_sVoteResponseNodeEndpoint v true ((lT (T.at 2))[k4])) v 1)) Nj_55 ∧ mj_55 = (B_k4 ++ plainTo (zipped fs_sVoteResponseNodeEndpoint v true ((lT (T.at 2))[k4])) v 1).length) ?_ (fun l' H' L' le_56 hI => ?_)
       ·
        refine cd rfl (fun h219 => ?_) (fun h219 => ?_)
        ·
         refine sr ?_
         refine mv rfl rfl ?_
         refine nc rfl rfl ?_
         refine fa F92_0 rfl rfl ?_
         refine ld (Says.fz hc_54) Tryz.isAgg21 rfl (Nat.add_zero _).symm rfl rfl ?_
         refine asg rfl rfl ?_
         refine nl ?_
         refine rg ?_
         refine mv rfl rfl ?_
         refine mv rfl rfl ?_
         have ok226 := oek4.get 0 (by decide) (has_yes (show (1 : Int) ≤ v by omega) (show ((-1) : Int) < 0 ∨ v ≤ (-1) by omega))
         have e_57 : B_k4 ++ (fixed (IntKind.i32.wrap (((lT (T.at 2))[k4]).at 0).n) 4) = B_k4 ++ plainTo (zipped fs_sVoteResponseNodeEndpoint v true ((lT (T.at 2))[k4])) v 1 := fold_first (fs := fs_sVoteResponseNodeEndpoint) (v := v) (flex := true) (t := ((lT (T.at 2))[k4])) (B := B_k4) 0 rfl (by decide) (by decide) (has_yes (show (1 : Int) ≤ v by omega) (show ((-1) : Int) < 0 ∨ v ≤ (-1) by omega)) ((FB_int (f := (fs_sVoteResponseNodeEndpoint[0]'(by decide))) (by decide) (by decide)).trans (fixed_i32 _).symm)
         have hs226 := fold_size e_57 (by decide) hBk4
         refine cl rfl rfl rfl (OutK.cast (k_AppendInt32 (u := IntKind.i32.wrap (((lT (T.at 2))[k4]).at 0).n) rbk4 hs226) e_57) rfl (fun v_ H1 L1 hle hR => ?_)
         obtain ⟨rfl, a226, c226, N226, rfl, rfl, h226⟩ := hR
         have r226 := h226.1
         refine asg rfl rfl ?_
         refine nN ?_
         refine fun a_ w_ hA hw => ⟨_, _, _, hA.sub ?_, ler, hw, _, _, _, _, rfl, rfl, r226, rfl⟩
         exact (.of ⟨rfl, rfl, rfl, rfl, rfl, rfl, rfl, rfl, rfl, rfl, rfl, rfl, rfl, rfl, rfl, rfl, rfl, rfl, rfl, rfl, rfl, rfl, rfl, rfl, trivial⟩)
        ·
         refine skN ?_
         have es_58 : plainTo (zipped fs_sVoteResponseNodeEndpoint v true ((lT (T.at 2))[k4])) v 1 = plainTo (zipped fs_sVoteResponseNodeEndpoint v true ((lT (T.at 2))[k4])) v 0 := (piece_no2 (fs := fs_sVoteResponseNodeEndpoint) (v := v) (flex := true) (t := ((lT (T.at 2))[k4])) (k := 0) (by decide) (has_no (show v < (1 : Int) ∨ ((0 : Int) ≤ (-1) ∧ (-1) < v) by omega)))
         have eX_59 : B_k4 = B_k4 ++ plainTo (zipped fs_sVoteResponseNodeEndpoint v true ((lT (T.at 2))[k4])) v 1 := by rw [es_58, plain0, List.append_nil]
         refine fun a_ w_ hA hw => ⟨_, _, _, hA.sub ?_, ler, hw, _, _, _, _, rfl, rfl, (by rw [← eX_59]; exact rbk4), (by rw [← eX_59])⟩
         exact (.of ⟨rfl, rfl, rfl, rfl, rfl, rfl, rfl, rfl, rfl, rfl, rfl, rfl, rfl, rfl, rfl, rfl, rfl, rfl, rfl, rfl, rfl, rfl, rfl, rfl, trivial⟩)
       ·
        obtain ⟨aj_55, mj_55, cj_55, Nj_55, rfl, rfl, pj0, pj1⟩ := hI
        subst pj1
        have rj_55 := pj0
        refine sq ?_
        refine sr ?_
        refine mv rfl rfl ?_
        refine ge rfl rfl rfl ?_
        refine nl ?_
        refine cutT (fun l' H' L' => ∃ (aj_60 : Option Addr), ∃ (mj_60 : Nat), ∃ (cj_60 : Nat), ∃ (Nj_60 : Chunk), [(0, .pointer (some ⟨b, 0, none⟩)), (1, .slice aj_60 mj_60 cj_60), (5, .int .i16 v), (6, .bool (decide ((0 : Int) ≤ v))), (23, .slice a2 (lT (T.at 2)).length c2), (24, .bool false), (25, .int .i64 ((Bs_44).length : Int)), (26, .int .i64 (k4 : Int)), (27, .pointer (some ⟨b_48, o_49 + k4 * 4, none⟩)), (184, .slice et_38 (encT (tgU fs_VoteResponse T) 1).length dt_38), (185, .int .i64 ((encT (tgU fs_VoteResponse T) 1).length : Int)), (186, .int .i64 (k3 : Int)), (201, .bool (decide ((0 : Int) ≤ v))), (203, .slice a2 (lT (T.at 2)).length c2), (204, .int .i64 ((lT (T.at 2)).length : Int)), (210, .slice a2 (lT (T.at 2)).length c2), (211, .int .i64 ((lT (T.at 2)).length : Int)), (212, .int .i64 (k4 : Int)), (214, .int .i64 (k4 : Int)), (215, .slice a2 (lT (T.at 2)).length c2), (216, .int .i64 (k4 : Int)), (217, .pointer (some ⟨b_48, o_49 + k4 * 4, none⟩)), (218, .int .i16 v), (219, .bool (decide ((1 : Int) ≤ v))), (227, .int .i16 v), (228, .bool (decide ((1 : Int) ≤ v)))] = l' ∧ Nj_60 :: L = L' ∧ Row 5 1 aj_60 mj_60 cj_60 (bytesOf (B_k4 ++ plainTo (zipped fs_sVoteResponseNodeEndpoint v true ((lT (T.at 2))[k4])) v 2)) Nj_60 ∧ mj_60 = (B_k4 ++ plainTo (zipped fs_sVoteResponseNodeEndpoint v true ((lT (T.at 2))[k4])) v 2).length) ?_ (fun l' H' L' le_61 hI => ?_)
        ·
         refine cd rfl (fun h228 => ?_) (fun h228 => ?_)
         ·
          refine sr ?_
          refine mv rfl rfl ?_
          refine nc rfl rfl ?_
          refine fa F92_1 rfl rfl ?_
          refine ld (Says.fz (hc_54.mono le_56)) Tryz.isAgg9 rfl rfl rfl rfl ?_
          refine asg rfl rfl ?_
          refine nl ?_
          refine sr ?_
          refine mv rfl rfl ?_
          refine nl ?_
          refine cdT rfl (by omega) ?_
          refine rg ?_
          refine mv rfl rfl ?_
          refine mv rfl rfl ?_
          have ok236 := oek4.get 1 (by decide) (has_yes (show (1 : Int) ≤ v by omega) (show ((-1) : Int) < 0 ∨ v ≤ (-1) by omega))
          have nn236 := ok236.nn (by decide) (by decide) (by decide)
          have e_62 : B_k4 ++ plainTo (zipped fs_sVoteResponseNodeEndpoint v true ((lT (T.at 2))[k4])) v 1 ++ (counted true false (((lT (T.at 2))[k4]).at 1).s.length 2 ++ (((lT (T.at 2))[k4]).at 1).s) = B_k4 ++ plainTo (zipped fs_sVoteResponseNodeEndpoint v true ((lT (T.at 2))[k4])) v 2 := fold_yes (fs := fs_sVoteResponseNodeEndpoint) (v := v) (flex := true) (t := ((lT (T.at 2))[k4])) (B := B_k4) 1 (by decide) (by decide) (has_yes (show (1 : Int) ≤ v by omega) (show ((-1) : Int) < 0 ∨ v ≤ (-1) by omega)) (by rw [FB_text (f := (fs_sVoteResponseNodeEndpoint[1]'(by decide))) (by decide) (by decide) ok236, sT_nn nn236, nn236])
          have hs236 := fold_size e_62 (by decide) hBk4
          refine cl rfl rfl rfl (OutK.cast (k_AppendCompactString (x := (((lT (T.at 2))[k4]).at 1).s) (by have := ok236.s (Or.inl rfl); omega) rj_55 hs236) e_62) rfl (fun v_ H1 L1 hle hR => ?_)
          obtain ⟨rfl, a236, c236, N236, rfl, rfl, h236⟩ := hR
          have r236 := h236.1
          refine asg rfl rfl ?_
          refine nN ?_
          refine fun a_ w_ hA hw => ⟨_, _, _, hA.sub ?_, ler, hw, _, _, _, _, rfl, rfl, r236, rfl⟩
          exact (.of ⟨rfl, rfl, rfl, rfl, rfl, rfl, rfl, rfl, rfl, rfl, rfl, rfl, rfl, rfl, rfl, rfl, rfl, rfl, rfl, rfl, rfl, rfl, rfl, rfl, rfl, rfl, trivial⟩)
         ·
          refine skN ?_
          have es_63 : plainTo (zipped fs_sVoteResponseNodeEndpoint v true ((lT (T.at 2))[k4])) v 2 = plainTo (zipped fs_sVoteResponseNodeEndpoint v true ((lT (T.at 2))[k4])) v 1 := (piece_no2 (fs := fs_sVoteResponseNodeEndpoint) (v := v) (flex := true) (t := ((lT (T.at 2))[k4])) (k := 1) (by decide) (has_no (show v < (1 : Int) ∨ ((0 : Int) ≤ (-1) ∧ (-1) < v) by omega)))
          have eX_64 : B_k4 ++ plainTo (zipped fs_sVoteResponseNodeEndpoint v true ((lT (T.at 2))[k4])) v 1 = B_k4 ++ plainTo (zipped fs_sVoteResponseNodeEndpoint v true ((lT (T.at 2))[k4])) v 2 := by rw [es_63]
          refine fun a_ w_ hA hw => ⟨_, _, _, hA.sub ?_, ler, hw, _, _, _, _, rfl, rfl, (by rw [← eX_64]; exact rj_55), (by rw [← eX_64])⟩
          exact (.of ⟨rfl, rfl, rfl, rfl, rfl, rfl, rfl, rfl, rfl, rfl, rfl, rfl, rfl, rfl, rfl, rfl, rfl, rfl, rfl, rfl, rfl, rfl, rfl, rfl, rfl, rfl, trivial⟩)
        ·
         obtain ⟨aj_60, mj_60, cj_60, Nj_60, rfl, rfl, pj0, pj1⟩ := hI
         subst pj1
         have rj_60 := pj0
         refine sq ?_
         refine sr ?_
         refine mv rfl rfl ?_
         refine ge rfl rfl rfl ?_
         refine nl ?_
         refine cutT (fun l' H' L' => ∃ (aj_65 : Option Addr), ∃ (mj_65 : Nat), ∃ (cj_65 : Nat), ∃ (Nj_65 : Chunk), [(0, .pointer (some ⟨b, 0, none⟩)), (1, .slice aj_65 mj_65 cj_65), (5, .int .i16 v), (6, .bool (decide ((0 : Int) ≤ v))), (23, .slice a2 (lT (T.at 2)).length c2), (24, .bool false), (25, .int .i64 ((Bs_44).length : Int)), (26, .int .i64 (k4 : Int)), (27, .pointer (some ⟨b_48, o_49 + k4 * 4, none⟩)), (184, .slice et_38 (encT (tgU fs_VoteResponse T) 1).length dt_38), (185, .int .i64 ((encT (tgU fs_VoteResponse T) 1).length : Int)), (186, .int .i64 (k3 : Int)), (201, .bool (decide ((0 : Int) ≤ v))), (203, .slice a2 (lT (T.at 2)).length c2), (204, .int .i64 ((lT (T.at 2)).length : Int)), (210, .slice a2 (lT (T.at 2)).length c2), (211, .int .i64 ((lT (T.at 2)).length : Int)), (212, .int .i64 (k4 : Int)), (214, .int .i64 (k4 : Int)), (215, .slice a2 (lT (T.at 2)).length c2), (216, .int .i64 (k4 : Int)), (217, .pointer (some ⟨b_48, o_49 + k4 * 4, none⟩)), (218, .int .i16 v), (219, .bool (decide ((1 : Int) ≤ v))), (227, .int .i16 v), (228, .bool (decide ((1 : Int) ≤ v))), (240, .int .i16 v), (241, .bool (decide ((1 : Int) ≤ v)))] = l' ∧ Nj_65 :: L = L' ∧ Row 5 1 aj_65 mj_65 cj_65 (bytesOf (B_k4 ++ plainTo (zipped fs_sVoteResponseNodeEndpoint v true ((lT (T.at 2))[k4])) v 3)) Nj_65 ∧ mj_65 = (B_k4 ++ plainTo (zipped fs_sVoteResponseNodeEndpoint v true ((lT (T.at 2))[k4])) v 3).length) ?_ (fun l' H' L' le_66 hI => ?_)
         ·
          refine cd rfl (fun h241 => ?_) (fun h241 => ?_)
          ·
           refine sr ?_
           refine mv rfl rfl ?_
           refine nc rfl rfl ?_
           refine fa F92_2 rfl rfl ?_
           refine ld (Says.fz (hc_54.mono (le_56.trans le_61))) Tryz.isAgg90 rfl rfl rfl rfl ?_
           refine asg rfl rfl ?_
           refine nl ?_
           refine rg ?_
           refine mv rfl rfl ?_
           refine mv rfl rfl ?_
           have ok248 := oek4.get 2 (by decide) (has_yes (show (1 : Int) ≤ v by omega) (show ((-1) : Int) < 0 ∨ v ≤ (-1) by omega))
           have e_67 : B_k4 ++ plainTo (zipped fs_sVoteResponseNodeEndpoint v true ((lT (T.at 2))[k4])) v 2 ++ (fixed (IntKind.u16.wrap (((lT (T.at 2))[k4]).at 2).n) 2) = B_k4 ++ plainTo (zipped fs_sVoteResponseNodeEndpoint v true ((lT (T.at 2))[k4])) v 3 := fold_yes (fs := fs_sVoteResponseNodeEndpoint) (v := v) (flex := true) (t := ((lT (T.at 2))[k4])) (B := B_k4) 2 (by decide) (by decide) (has_yes (show (1 : Int) ≤ v by omega) (show ((-1) : Int) < 0 ∨ v ≤ (-1) by omega)) ((FB_int (f := (fs_sVoteResponseNodeEndpoint[2]'(by decide))) (by decide) (by decide)).trans (fixed_u16 _).symm)
           have hs248 := fold_size e_67 (by decide) hBk4
           refine cl rfl rfl rfl (OutK.cast (k_AppendUint16 (u := IntKind.u16.wrap (((lT (T.at 2))[k4]).at 2).n) rj_60 hs248) e_67) rfl (fun v_ H1 L1 hle hR => ?_)
           obtain ⟨rfl, a248, c248, N248, rfl, rfl, h248⟩ := hR
           have r248 := h248.1
           refine asg rfl rfl ?_
           refine nN ?_
           refine fun a_ w_ hA hw => ⟨_, _, _, hA.sub ?_, ler, hw, _, _, _, _, rfl, rfl, r248, rfl⟩
           exact (.of ⟨rfl, rfl, rfl, rfl, rfl, rfl, rfl, rfl, rfl, rfl, rfl, rfl, rfl, rfl, rfl, rfl, rfl, rfl, rfl, rfl, rfl, rfl, rfl, rfl, rfl, rfl, rfl, rfl, trivial⟩)
          ·
           refine skN ?_
           have es_68 : plainTo (zipped fs_sVoteResponseNodeEndpoint v true ((lT (T.at 2))[k4])) v 3 = plainTo (zipped fs_sVoteResponseNodeEndpoint v true ((lT (T.at 2))[k4])) v 2 := (piece_no2 (fs := fs_sVoteResponseNodeEndpoint) (v := v) (flex := true) (t := ((lT (T.at 2))[k4])) (k := 2) (by decide) (has_no (show v < (1 : Int) ∨ ((0 : Int) ≤ (-1) ∧ (-1) < v) by omega)))
           have eX_69 : B_k4 ++ plainTo (zipped fs_sVoteResponseNodeEndpoint v true ((lT (T.at 2))[k4])) v 2 = B_k4 ++ plainTo (zipped fs_sVoteResponseNodeEndpoint v true ((lT (T.at 2))[k4])) v 3 := by rw [es_68]
           refine fun a_ w_ hA hw => ⟨_, _, _, hA.sub ?_, ler, hw, _, _, _, _, rfl, rfl, (by rw [← eX_69]; exact rj_60), (by rw [← eX_69])⟩
           exact (.of ⟨rfl, rfl, rfl, rfl, rfl, rfl, rfl, rfl, rfl, rfl, rfl, rfl, rfl, rfl, rfl, rfl, rfl, rfl, rfl, rfl, rfl, rfl, rfl, rfl, rfl, rfl, rfl, rfl, trivial⟩)
         ·
          obtain ⟨aj_65, mj_65, cj_65, Nj_65, rfl, rfl, pj0, pj1⟩ := hI
          subst pj1
          have rj_65 := pj0
          refine sr ?_
          refine mv rfl rfl ?_
          refine nl ?_
          refine cdT rfl (by omega) ?_
          refine sr ?_
          refine mv rfl rfl ?_
          refine mv rfl rfl ?_
          refine nc rfl rfl ?_
          refine fa F92_3 rfl rfl ?_
          refine cl rfl rfl rfl (t_lenU (j := 3) (hc_54.mono (le_56.trans (le_61.trans le_66))) rfl (hf_k4_0.mono (le_56.trans (le_61.trans le_66)))) rfl (fun v_ H1 L1 hle hR => ?_)
          obtain ⟨rfl, rfl, rfl⟩ := hR
          have hu254 := oek4.u
          have hul254 := hu254.2.1
          obtain ⟨hz254a, hz254b⟩ := part_size_plain (by decide) hu254 hBk4
          refine cv Tryz.runUnderlying3 Tryz.runUnderlying55 rfl (w32u (by omega) (by omega)) rfl ?_
          refine ad rfl rfl ((w32u (by omega) (by omega)).trans (Int.zero_add _)) rfl ?_
          refine cl rfl rfl rfl (k_AppendUvarint (n := ((lT (T.at 2))[k4]).u.length) (by omega) rj_65 hz254a) rfl (fun v_ H1 L1 hle hR => ?_)
          obtain ⟨rfl, a257, c257, N257, rfl, rfl, h257⟩ := hR
          have r257 := h257.1
          refine asg rfl rfl ?_
          refine nl ?_
          refine rg ?_
          refine mv rfl rfl ?_
          refine nc rfl rfl ?_
          refine fa F92_3 rfl rfl ?_
          refine mv rfl rfl ?_
          refine cl rfl rfl rfl (t_append_each (j := 3) (hc_54.mono (le_56.trans (le_61.trans le_66))) rfl (hf_k4_0.mono (le_56.trans (le_61.trans le_66))) (by omega) r257 (fun p hp => by have := hu254.2.2 p hp; omega) hz254b) rfl (fun v_ H1 L1 le_70 hR => ?_)
          obtain ⟨a262, c262, N262, rfl, rfl, h262⟩ := hR
          have r262 := h262.1
          have eP_71 : B_k4 ++ plainTo (zipped fs_sVoteResponseNodeEndpoint v true ((lT (T.at 2))[k4])) v 3 ++ uvar ((lT (T.at 2))[k4]).u.length ++ ((lT (T.at 2))[k4]).u.flatMap tagU = B_k4 ++ partB fs_sVoteResponseNodeEndpoint v true ((lT (T.at 2))[k4]) := part_close (B := B_k4) (by decide) hu254
          rw [eP_71] at r262 ⊢
          refine asg rfl rfl ?_
          refine nN ?_
          refine Nb ?_
          have ee_72 : B_k4 ++ partB fs_sVoteResponseNodeEndpoint v true ((lT (T.at 2))[k4]) = Bs_44 ++ (counted true false (lT (T.at 2)).length 4) ++ ((lT (T.at 2)).take (k4 + 1)).flatMap (GOf (fs_VoteResponse[2]'(by decide)) v true) := by rw [hdk4]; exact el_end (B0 := Bs_44 ++ (counted true false (lT (T.at 2)).length 4)) (G := (GOf (fs_VoteResponse[2]'(by decide)) v true)) hk4 (GOf_part (by decide) _)
          refine fun a_ w_ hA hw => ⟨_, _, _, hA.sub ?_, (le_46.trans (le_56.trans (le_61.trans (le_66.trans le_70)))), hw, _, rfl, _, _, _, _, rfl, rfl, (by rw [← ee_72]; exact r262), (by rw [← ee_72])⟩
          exact (.of ⟨rfl, rfl, rfl, rfl, rfl, rfl, rfl, rfl, rfl, rfl, rfl, rfl, rfl, rfl, rfl, rfl, trivial⟩)
      ·
       obtain ⟨a_k4, m_k4, c_k4, N_k4, rfl, rfl, pk40, pk41⟩ := hI
       refine toWp ?_
       have eL205 : Bs_44 ++ (counted true false (lT (T.at 2)).length 4) ++ ((lT (T.at 2)).take (lT (T.at 2)).length).flatMap (GOf (fs_VoteResponse[2]'(by decide)) v true) = Bs_44 ++ (fieldB (fs_VoteResponse[2]'(by decide)) v true (T.at 2)) := by rw [List.take_length, List.append_assoc]; exact e_45
       rw [eL205] at pk40 pk41
       subst pk41
       refine sr ?_
       refine mv rfl rfl ?_
       refine nt rfl rfl ?_
       refine nl ?_
       refine cT rfl ?_
       refine sq ?_
       have hzs_44 := And.intro (show Bs_44.length ≤ (Bs_44 ++ (fieldB (fs_VoteResponse[2]'(by decide)) v true (T.at 2))).length by rw [List.length_append]; omega) (Row.le pk40).1
       refine rgD 10 .nil mixed ?_
       refine dU 0 rfl rfl rfl (y_mv rfl) .nil ler ?_
       refine dU 1 rfl rfl rfl (y_mv rfl) .nil ler ?_
       refine dU 2 rfl rfl rfl (y_slh (j := Bs_44.length) Tryz.runUnderlying22 Tryz.sizeOf5 rfl rfl rfl (Nat.le_trans hzs_44.1 hzs_44.2)) .nil ler ?_
       refine dU 3 rfl rfl rfl (y_mv rfl) .nil ler ?_
       refine dU 4 rfl rfl rfl (y_mv rfl) .nil ler ?_
       refine dU 5 rfl rfl rfl (y_slo (j := Bs_44.length) Tryz.runUnderlying22 Tryz.sizeOf5 rfl rfl rfl hzs_44.1 hzs_44.2) .nil ler ?_
       refine dU 6 rfl rfl rfl (y_ls Tryz.runUnderlying22 rfl) .nil ler ?_
       refine dU 7 rfl rfl rfl (y_cvI Tryz.runUnderlying3 Tryz.runUnderlying55 rfl (resz_len h32s_44)) .nil ler ?_
       refine dE 8 (by kernel_rfl) rfl ?_
       refine cl rfl rfl rfl (k_AppendUvarint (n := (fieldB (fs_VoteResponse[2]'(by decide)) v true (T.at 2)).length) h32s_44 (Row.cut pk40) (by have h := hsk3; rw [tagB_len] at h; unfold LIM at h; rw [hds_44]; simp only [List.length_append]; omega)) rfl (fun v_ H1 L1 hle hR => ?_)
       obtain ⟨rfl, a274, c274, N274, rfl, rfl, h274⟩ := hR
       have r274 := h274.1
       refine dN .nil ler ?_
       refine dU 9 rfl rfl rfl (y_asg rfl) .nil ler ?_
       refine dD (by kernel_rfl) ?_
       refine Nt ?_
       refine sr ?_
       refine asg rfl rfl ?_
       refine nl ?_
       refine gt0 (fun a_ w_ hA hw => show _ ∧ _ from ⟨rfl, _, _, _, hA.sub ?_, le_47, hw, _, _, _, _, rfl, rfl, r274, rfl⟩)
       exact (.of ⟨rfl, rfl, rfl, rfl, rfl, rfl, rfl, rfl, rfl, rfl, trivial⟩)
     ·
      obtain ⟨as_44, ms_44, cs_44, Ns_44, rfl, rfl, pss_44, qss_44⟩ := hI
      subst qss_44
      obtain ⟨Cs_44, hdCs_44⟩ : ∃ z : List UInt8, z = Bs_44 ++ uvar (fieldB (fs_VoteResponse[2]'(by decide)) v true (T.at 2)).length := ⟨_, rfl⟩
      have rbCs_44 := pss_44
      rw [← hdCs_44] at rbCs_44 ⊢
      have hBCs_44 : Cs_44.length + (fieldB (fs_VoteResponse[2]'(by decide)) v true (T.at 2)).length ≤ LIM := by have h := hsk3; rw [tagB_len] at h; rw [hdCs_44, hds_44]; simp only [List.length_append]; omega
      refine sq ?_
      refine skt ?_
      refine sq ?_
      refine sr ?_
      refine mv rfl rfl ?_
      refine nl ?_
      refine cdT rfl (by omega) ?_
      refine rg ?_
      refine mv rfl rfl ?_
      refine mv rfl rfl ?_
      refine ls Tryz.runUnderlying60 rfl rfl ?_
      have ok205 := hok.get 2 (by decide) (has_yes (show (0 : Int) ≤ v by omega) (show ((-1) : Int) < 0 ∨ v ≤ (-1) by omega))
      have ll205 := lT_len (ok205.len rfl)
      have e_73 : Cs_44 ++ (counted true false (lT (T.at 2)).length 4 ++ (lT (T.at 2)).flatMap (GOf (fs_VoteResponse[2]'(by decide)) v true)) = Cs_44 ++ (fieldB (fs_VoteResponse[2]'(by decide)) v true (T.at 2)) := congrArg (Cs_44 ++ ·) ((FB_listT (f := (fs_VoteResponse[2]'(by decide))) (by decide) (by decide) ok205)).symm
      have hs205 : (Cs_44).length + (counted true false (lT (T.at 2)).length 4 ++ (lT (T.at 2)).flatMap (GOf (fs_VoteResponse[2]'(by decide)) v true)).length ≤ LIM := by rw [← (FB_listT (f := (fs_VoteResponse[2]'(by decide))) (by decide) (by decide) ok205)]; exact hBCs_44
      have hc205 : (Cs_44).length + (counted true false (lT (T.at 2)).length 4).length ≤ LIM := by have h := hs205; simp only [List.length_append] at h ⊢; omega
      refine cl rfl rfl rfl (OutK.cast (k_AppendCompactArrayLen (n := (lT (T.at 2)).length) (by omega) rbCs_44 hc205) (show _ = Cs_44 ++ (counted true false (lT (T.at 2)).length 4) from rfl)) rfl (fun v_ H1 L1 hle hR => ?_)
      obtain ⟨rfl, a205, c205, N205, rfl, rfl, h205⟩ := hR
      have r205 := h205.1
      refine asg rfl rfl ?_
      refine nl ?_
      refine sq ?_
      refine sr ?_
      refine mv rfl rfl ?_
      refine ls Tryz.runUnderlying60 rfl rfl ?_
      refine mv rfl rfl ?_
      refine nl ?_
      refine fr ((lT (T.at 2)).length) (fun k5 l' H' L' => ∃ (a_k5 : Option Addr), ∃ (m_k5 : Nat), ∃ (c_k5 : Nat), ∃ (N_k5 : Chunk), [(0, .pointer (some ⟨b, 0, none⟩)), (1, .slice a_k5 m_k5 c_k5), (5, .int .i16 v), (6, .bool (decide ((0 : Int) ≤ v))), (23, .slice a2 (lT (T.at 2)).length c2), (24, .bool true), (25, .int .i64 ((Bs_44).length : Int)), (184, .slice et_38 (encT (tgU fs_VoteResponse T) 1).length dt_38), (185, .int .i64 ((encT (tgU fs_VoteResponse T) 1).length : Int)), (186, .int .i64 (k3 : Int)), (211, .int .i64 ((lT (T.at 2)).length : Int))] = l' ∧ N_k5 :: L = L' ∧ Row 5 1 a_k5 m_k5 c_k5 (bytesOf (Cs_44 ++ (counted true false (lT (T.at 2)).length 4) ++ ((lT (T.at 2)).take k5).flatMap (GOf (fs_VoteResponse[2]'(by decide)) v true))) N_k5 ∧ m_k5 = (Cs_44 ++ (counted true false (lT (T.at 2)).length 4) ++ ((lT (T.at 2)).take k5).flatMap (GOf (fs_VoteResponse[2]'(by decide)) v true)).length) [(0, .pointer (some ⟨b, 0, none⟩)), (1, .slice _ _ _), (5, .int .i16 v), (6, .bool (decide ((0 : Int) ≤ v))), (23, .slice a2 (lT (T.at 2)).length c2), (24, .bool true), (25, .int .i64 ((Bs_44).length : Int)), (184, .slice et_38 (encT (tgU fs_VoteResponse T) 1).length dt_38), (185, .int .i64 ((encT (tgU fs_VoteResponse T) 1).length : Int)), (186, .int .i64 (k3 : Int)), (211, .int .i64 ((lT (T.at 2)).length : Int))] (fun k5 l' H' L' h => ?_) (by omega) rfl (.of ⟨rfl, rfl, rfl, rfl, rfl, rfl, rfl, rfl, rfl, rfl, rfl, trivial⟩) ⟨_, _, _, _, rfl, rfl, (by rw [List.take_zero, List.flatMap_nil, List.append_nil]; exact r205), (by rw [List.take_zero, List.flatMap_nil, List.append_nil])⟩ rfl rfl rfl rfl rfl (fun k5 l' H' L' hk5 le_74 hI => ?_) (fun l' H' L' le_75 hI => ?_)
      · obtain ⟨a_k5, m_k5, c_k5, N_k5, rfl, _⟩ := h; exact ⟨rfl, rfl, rfl, rfl⟩
      ·
       obtain ⟨a_k5, m_k5, c_k5, N_k5, rfl, rfl, pk50, pk51⟩ := hI
       subst pk51
       refine sr ?_
       refine mv rfl rfl ?_
       refine asg rfl rfl ?_
       refine nl ?_
       refine sr ?_
       refine mv rfl rfl ?_
       refine mv rfl rfl ?_
       obtain ⟨b_76, o_77, e_78, g_79⟩ := (hf1.mono At_VoteResponseNodeEndpoint.mono (le_4.trans (le_39.trans (lEg_37.trans (le_41.trans (les_44.trans le_74)))))).rows.at_ (ne_nil_of_lt hk5)
       obtain ⟨cs_80, hA_81, hc_82⟩ := g_79 k5 hk5
       refine ix2 Tryz.runUnderlying60 Tryz.sizeOf92 rfl e_78 rfl rfl hk5 rfl ?_
       obtain ⟨m_k5_t, rfl, hf_k5_0⟩ := hA_81
       have oek5 := (ok205.el rfl _ (lT_mem (List.getElem_mem hk5))).2 rfl
       obtain ⟨B_k5, hdk5⟩ : ∃ z : List UInt8, z = Cs_44 ++ (counted true false (lT (T.at 2)).length 4) ++ ((lT (T.at 2)).take k5).flatMap (GOf (fs_VoteResponse[2]'(by decide)) v true) := ⟨_, rfl⟩
       have rbk5 := pk50
       rw [← hdk5] at rbk5 ⊢
       have hBk5 : B_k5.length + (partB fs_sVoteResponseNodeEndpoint v true ((lT (T.at 2))[k5])).length ≤ LIM := by rw [hdk5]; exact el_size hs205 hk5 (GOf_part (by decide) _)
       refine asg rfl rfl ?_
       refine nl ?_
       refine sq ?_
       refine sr ?_
       refine mv rfl rfl ?_
       refine ge rfl rfl rfl ?_
       refine nl ?_
       refine cutT (fun l' H' L' => ∃ (aj_83 : Option Addr), ∃ (mj_83 : Nat), ∃ (cj_83 : Nat), ∃ (Nj_83 : Chunk), [(0, .pointer (some ⟨b, 0, none⟩)), (1, .slice aj_83 mj_83 cj_83), (5, .int .i16 v), (6, .bool (decide ((0 : Int) ≤ v))), (23, .slice a2 (lT (T.at 2)).length c2), (24, .bool true), (25, .int .i64 ((Bs_44).length : Int)), (27, .pointer (some ⟨b_76, o_77 + k5 * 4, none⟩)), (184, .slice et_38 (encT (tgU fs_VoteResponse T) 1).length dt_38), (185, .int .i64 ((encT (tgU fs_VoteResponse T) 1).length : Int)), (186, .int .i64 (k3 : Int)), (211, .int .i64 ((lT (T.at 2)).length : Int)), (212, .int .i64 (k5 : Int))] = l' ∧ Nj_83 :: L = L' ∧ Row 5 1 aj_83 mj_83 cj_83 (bytesOf (B_k5 ++ plainTo (zipped fs_sVoteResponseNodeEndpoint v true ((lT (T.at 2))[k5])) v 1)) Nj_83 ∧ mj_83 = (B_k5 ++ plainTo (zipped fs_sVoteResponseNodeEndpoint v true ((lT (T.at 2))[k5])) v 1).length) ?_ (fun l' H' L' le_84 hI => ?_)
       ·
        refine cd rfl (fun h219 => ?_) (fun h219 => ?_)
        ·
         refine sr ?_
         refine mv rfl rfl ?_
         refine nc rfl rfl ?_
         refine fa F92_0 rfl rfl ?_
         refine ld (Says.fz hc_82) Tryz.isAgg21 rfl (Nat.add_zero _).symm rfl rfl ?_
         refine asg rfl rfl ?_
         refine nl ?_
         refine rg ?_
         refine mv rfl rfl ?_
         refine mv rfl rfl ?_
         have ok226 := oek5.get 0 (by decide) (has_yes (show (1 : Int) ≤ v by omega) (show ((-1) : Int) < 0 ∨ v ≤ (-1) by omega))
         have e_85 : B_k5 ++ (fixed (IntKind.i32.wrap (((lT (T.at 2))[k5]).at 0).n) 4) = B_k5 ++ plainTo (zipped fs_sVoteResponseNodeEndpoint v true ((lT (T.at 2))[k5])) v 1 := fold_first (fs := fs_sVoteResponseNodeEndpoint) (v := v) (flex := true) (t := ((lT (T.at 2))[k5])) (B := B_k5) 0 rfl (by decide) (by decide) (has_yes (show (1 : Int) ≤ v by omega) (show ((-1) : Int) < 0 ∨ v ≤ (-1) by omega)) ((FB_int (f := (fs_sVoteResponseNodeEndpoint[0]'(by decide))) (by decide) (by decide)).trans (fixed_i32 _).symm)
         have hs226 := fold_size e_85 (by decide) hBk5
         refine cl rfl rfl rfl (OutK.cast (k_AppendInt32 (u := IntKind.i32.wrap (((lT (T.at 2))[k5]).at 0).n) rbk5 hs226) e_85) rfl (fun v_ H1 L1 hle hR => ?_)
         obtain ⟨rfl, a226, c226, N226, rfl, rfl, h226⟩ := hR
         have r226 := h226.1
         refine asg rfl rfl ?_
         refine nN ?_
         refine fun a_ w_ hA hw => ⟨_, _, _, hA.sub ?_, ler, hw, _, _, _, _, rfl, rfl, r226, rfl⟩
         exact (.of ⟨rfl, rfl, rfl, rfl, rfl, rfl, rfl, rfl, rfl, rfl, rfl, rfl, rfl, trivial⟩)
        ·
         refine skN ?_
         have es_86 : plainTo (zipped fs_sVoteResponseNodeEndpoint v true ((lT (T.at 2))[k5])) v 1 = plainTo (zipped fs_sVoteResponseNodeEndpoint v true ((lT (T.at 2))[k5])) v 0 := (piece_no2 (fs := fs_sVoteResponseNodeEndpoint) (v := v) (flex := true) (t := ((lT (T.at 2))[k5])) (k := 0) (by decide) (has_no (show v < (1 : Int) ∨ ((0 : Int) ≤ (-1) ∧ (-1) < v) by omega)))
         have eX_87 : B_k5 = B_k5 ++ plainTo (zipped fs_sVoteResponseNodeEndpoint v true ((lT (T.at 2))[k5])) v 1 := by rw [es_86, plain0, List.append_nil]
         refine fun a_ w_ hA hw => ⟨_, _, _, hA.sub ?_, ler, hw, _, _, _, _, rfl, rfl, (by rw [← eX_87]; exact rbk5), (by rw [← eX_87])⟩
         exact (.of ⟨rfl, rfl, rfl, rfl, rfl, rfl, rfl, rfl, rfl, rfl, rfl, rfl, rfl, trivial⟩)
       ·
        obtain ⟨aj_83, mj_83, cj_83, Nj_83, rfl, rfl, pj0, pj1⟩ := hI
        subst pj1
        have rj_83 := pj0
        refine sq ?_
        refine sr ?_
        refine mv rfl rfl ?_
        refine ge rfl rfl rfl ?_
        refine nl ?_
        refine cutT (fun l' H' L' => ∃ (aj_88 : Option Addr), ∃ (mj_88 : Nat), ∃ (cj_88 : Nat), ∃ (Nj_88 : Chunk), [(0, .pointer (some ⟨b, 0, none⟩)), (1, .slice aj_88 mj_88 cj_88), (5, .int .i16 v), (6, .bool (decide ((0 : Int) ≤ v))), (23, .slice a2 (lT (T.at 2)).length c2), (24, .bool true), (25, .int .i64 ((Bs_44).length : Int)), (27, .pointer (some ⟨b_76, o_77 + k5 * 4, none⟩)), (184, .slice et_38 (encT (tgU fs_VoteResponse T) 1).length dt_38), (185, .int .i64 ((encT (tgU fs_VoteResponse T) 1).length : Int)), (186, .int .i64 (k3 : Int)), (211, .int .i64 ((lT (T.at 2)).length : Int)), (212, .int .i64 (k5 : Int))] = l' ∧ Nj_88 :: L = L' ∧ Row 5 1 aj_88 mj_88 cj_88 (bytesOf (B_k5 ++ plainTo (zipped fs_sVoteResponseNodeEndpoint v true ((lT (T.at 2))[k5])) v 2)) Nj_88 ∧ mj_88 = (B_k5 ++ plainTo (zipped fs_sVoteResponseNodeEndpoint v true ((lT (T.at 2))[k5])) v 2).length) ?_ (fun l' H' L' le_89 hI => ?_)
        ·
         refine cd rfl (fun h228 => ?_) (fun h228 => ?_)
         ·
          refine sr ?_
          refine mv rfl rfl ?_
          refine nc rfl rfl ?_
          refine fa F92_1 rfl rfl ?_
          refine ld (Says.fz (hc_82.mono le_84)) Tryz.isAgg9 rfl rfl rfl rfl ?_
          refine asg rfl rfl ?_
          refine nl ?_
          refine sr ?_
          refine mv rfl rfl ?_
          refine nl ?_
          refine cdT rfl (by omega) ?_
          refine rg ?_
          refine mv rfl rfl ?_
          refine mv rfl rfl ?_
          have ok236 := oek5.get 1 (by decide) (has_yes (show (1 : Int) ≤ v by omega) (show ((-1) : Int) < 0 ∨ v ≤ (-1) by omega))
          have nn236 := ok236.nn (by decide) (by decide) (by decide)
          have e_90 : B_k5 ++ plainTo (zipped fs_sVoteResponseNodeEndpoint v true ((lT (T.at 2))[k5])) v 1 ++ (counted true false (((lT (T.at 2))[k5]).at 1).s.length 2 ++ (((lT (T.at 2))[k5]).at 1).s) = B_k5 ++ plainTo (zipped fs_sVoteResponseNodeEndpoint v true ((lT (T.at 2))[k5])) v 2 := fold_yes (fs := fs_sVoteResponseNodeEndpoint) (v := v) (flex := true) (t := ((lT (T.at 2))[k5])) (B := B_k5) 1 (by decide) (by decide) (has_yes (show (1 : Int) ≤ v by omega) (show ((-1) : Int) < 0 ∨ v ≤ (-1) by omega)) (by rw [FB_text (f := (fs_sVoteResponseNodeEndpoint[1]'(by decide))) (by decide) (by decide) ok236, sT_nn nn236, nn236])
          have hs236 := fold_size e_90 (by decide) hBk5
          refine cl rfl rfl rfl (OutK.cast (k_AppendCompactString (x := (((lT (T.at 2))[k5]).at 1).s) (by have := ok236.s (Or.inl rfl); omega) rj_83 hs236) e_90) rfl (fun v_ H1 L1 hle hR => ?_)
          obtain ⟨rfl, a236, c236, N236, rfl, rfl, h236⟩ := hR
          have r236 := h236.1
          refine asg rfl rfl ?_
          refine nN ?_
          refine fun a_ w_ hA hw => ⟨_, _, _, hA.sub ?_, ler, hw, _, _, _, _, rfl, rfl, r236, rfl⟩
          exact (.of ⟨rfl, rfl, rfl, rfl, rfl, rfl, rfl, rfl, rfl, rfl, rfl, rfl, rfl, trivial⟩)
         ·
          refine skN ?_
          have es_91 : plainTo (zipped fs_sVoteResponseNodeEndpoint v true ((lT (T.at 2))[k5])) v 2 = plainTo (zipped fs_sVoteResponseNodeEndpoint v true ((lT (T.at 2))[k5])) v 1 := (piece_no2 (fs := fs_sVoteResponseNodeEndpoint) (v := v) (flex := true) (t := ((lT (T.at 2))[k5])) (k := 1) (by decide) (has_no (show v < (1 : Int) ∨ ((0 : Int) ≤ (-1) ∧ (-1) < v) by omega)))
          have eX_92 : B_k5 ++ plainTo (zipped fs_sVoteResponseNodeEndpoint v true ((lT (T.at 2))[k5])) v 1 = B_k5 ++ plainTo (zipped fs_sVoteResponseNodeEndpoint v true ((lT (T.at 2))[k5])) v 2 := by rw [es_91]
          refine fun a_ w_ hA hw => ⟨_, _, _, hA.sub ?_, ler, hw, _, _, _, _, rfl, rfl, (by rw [← eX_92]; exact rj_83), (by rw [← eX_92])⟩
          exact (.of ⟨rfl, rfl, rfl, rfl, rfl, rfl, rfl, rfl, rfl, rfl, rfl, rfl, rfl, trivial⟩)
        ·
         obtain ⟨aj_88, mj_88, cj_88, Nj_88, rfl, rfl, pj0, pj1⟩ := hI
         subst pj1
         have rj_88 := pj0
         refine sq ?_
         refine sr ?_
         refine mv rfl rfl ?_
         refine ge rfl rfl rfl ?_
         refine nl ?_
         refine cutT (fun l' H' L' => ∃ (aj_93 : Option Addr), ∃ (mj_93 : Nat), ∃ (cj_93 : Nat), ∃ (Nj_93 : Chunk), [(0, .pointer (some ⟨b, 0, none⟩)), (1, .slice aj_93 mj_93 cj_93), (5, .int .i16 v), (6, .bool (decide ((0 : Int) ≤ v))), (23, .slice a2 (lT (T.at 2)).length c2), (24, .bool true), (25, .int .i64 ((Bs_44).length : Int)), (27, .pointer (some ⟨b_76, o_77 + k5 * 4, none⟩)), (184, .slice et_38 (encT (tgU fs_VoteResponse T) 1).length dt_38), (185, .int .i64 ((encT (tgU fs_VoteResponse T) 1).length : Int)), (186, .int .i64 (k3 : Int)), (211, .int .i64 ((lT (T.at 2)).length : Int)), (212, .int .i64 (k5 : Int))] = l' ∧ Nj_93 :: L = L' ∧ Row 5 1 aj_93 mj_93 cj_93 (bytesOf (B_k5 ++ plainTo (zipped fs_sVoteResponseNodeEndpoint v true ((lT (T.at 2))[k5])) v 3)) Nj_93 ∧ mj_93 = (B_k5 ++ plainTo (zipped fs_sVoteResponseNodeEndpoint v true ((lT (T.at 2))[k5])) v 3).length) ?_ (fun l' H' L' le_94 hI => ?_)
         ·
          refine cd rfl (fun h241 => ?_) (fun h241 => ?_)
          ·
           refine sr ?_
           refine mv rfl rfl ?_
           refine nc rfl rfl ?_
           refine fa F92_2 rfl rfl ?_
           refine ld (Says.fz (hc_82.mono (le_84.trans le_89))) Tryz.isAgg90 rfl rfl rfl rfl ?_
           refine asg rfl rfl ?_
           refine nl ?_
           refine rg ?_
           refine mv rfl rfl ?_
           refine mv rfl rfl ?_
           have ok248 := oek5.get 2 (by decide) (has_yes (show (1 : Int) ≤ v by omega) (show ((-1) : Int) < 0 ∨ v ≤ (-1) by omega))
           have e_95 : B_k5 ++ plainTo (zipped fs_sVoteResponseNodeEndpoint v true ((lT (T.at 2))[k5])) v 2 ++ (fixed (IntKind.u16.wrap (((lT (T.at 2))[k5]).at 2).n) 2) = B_k5 ++ plainTo (zipped fs_sVoteResponseNodeEndpoint v true ((lT (T.at 2))[k5])) v 3 := fold_yes (fs := fs_sVoteResponseNodeEndpoint) (v := v) (flex := true) (t := ((lT (T.at 2))[k5])) (B := B_k5) 2 (by decide) (by decide) (has_yes (show (1 : Int) ≤ v by omega) (show ((-1) : Int) < 0 ∨ v ≤ (-1) by omega)) ((FB_int (f := (fs_sVoteResponseNodeEndpoint[2]'(by decide))) (by decide) (by decide)).trans (fixed_u16 _).symm)
           have hs248 := fold_size e_95 (by decide) hBk5
           refine cl rfl rfl rfl (OutK.cast (k_AppendUint16 (u := IntKind.u16.wrap (((lT (T.at 2))[k5]).at 2).n) rj_88 hs248) e_95) rfl (fun v_ H1 L1 hle hR => ?_)
           obtain ⟨rfl, a248, c248, N248, rfl, rfl, h248⟩ := hR
           have r248 := h248.1
           refine asg rfl rfl ?_
           refine nN ?_
           refine fun a_ w_ hA hw => ⟨_, _, _, hA.sub ?_, ler, hw, _, _, _, _, rfl, rfl, r248, rfl⟩
           exact (.of ⟨rfl, rfl, rfl, rfl, rfl, rfl, rfl, rfl, rfl, rfl, rfl, rfl, rfl, trivial⟩)
          ·
           refine skN ?_
           have es_96 : plainTo (zipped fs_sVoteResponseNodeEndpoint v true ((lT (T.at 2))[k5])) v 3 = plainTo (zipped fs_sVoteResponseNodeEndpoint v true ((lT (T.at 2))[k5])) v 2 := (piece_no2 (fs := fs_sVoteResponseNodeEndpoint) (v := v) (flex := true) (t := ((lT (T.at 2))[k5])) (k := 2) (by decide) (has_no (show v < (1 : Int) ∨ ((0 : Int) ≤ (-1) ∧ (-1) < v) by omega)))
           have eX_97 : B_k5 ++ plainTo (zipped fs_sVoteResponseNodeEndpoint v true ((lT (T.at 2))[k5])) v 2 = B_k5 ++ plainTo (zipped fs_sVoteResponseNodeEndpoint v true ((lT (T.at 2))[k5])) v 3 := by rw [es_96]
           refine fun a_ w_ hA hw => ⟨_, _, _, hA.sub ?_, ler, hw, _, _, _, _, rfl, rfl, (by rw [← eX_97]; exact rj_88), (by rw [← eX_97])⟩
           exact (.of ⟨rfl, rfl, rfl, rfl, rfl, rfl, rfl, rfl, rfl, rfl, rfl, rfl, rfl, trivial⟩)
         ·
          obtain ⟨aj_93, mj_93, cj_93, Nj_93, rfl, rfl, pj0, pj1⟩ := hI
          subst pj1
          have rj_93 := pj0
          refine sr ?_
          refine mv rfl rfl ?_
          refine nl ?_
          refine cdT rfl (by omega) ?_
          refine sr ?_
          refine mv rfl rfl ?_
          refine mv rfl rfl ?_
          refine nc rfl rfl ?_
          refine fa F92_3 rfl rfl ?_
          refine cl rfl rfl rfl (t_lenU (j := 3) (hc_82.mono (le_84.trans (le_89.trans le_94))) rfl (hf_k5_0.mono (le_84.trans (le_89.trans le_94)))) rfl (fun v_ H1 L1 hle hR => ?_)
          obtain ⟨rfl, rfl, rfl⟩ := hR
          have hu254 := oek5.u
          have hul254 := hu254.2.1
          obtain ⟨hz254a, hz254b⟩ := part_size_plain (by decide) hu254 hBk5
          refine cv Tryz.runUnderlying3 Tryz.runUnderlying55 rfl (w32u (by omega) (by omega)) rfl ?_
          refine ad rfl rfl ((w32u (by omega) (by omega)).trans (Int.zero_add _)) rfl ?_
          refine cl rfl rfl rfl (k_AppendUvarint (n := ((lT (T.at 2))[k5]).u.length) (by omega) rj_93 hz254a) rfl (fun v_ H1 L1 hle hR => ?_)
          obtain ⟨rfl, a257, c257, N257, rfl, rfl, h257⟩ := hR
          have r257 := h257.1
          refine asg rfl rfl ?_
          refine nl ?_
          refine rg ?_
          refine mv rfl rfl ?_
          refine nc rfl rfl ?_
          refine fa F92_3 rfl rfl ?_
          refine mv rfl rfl ?_
          refine cl rfl rfl rfl (t_append_each (j := 3) (hc_82.mono (le_84.trans (le_89.trans le_94))) rfl (hf_k5_0.mono (le_84.trans (le_89.trans le_94))) (by omega) r257 (fun p hp => by have := hu254.2.2 p hp; omega) hz254b) rfl (fun v_ H1 L1 le_98 hR => ?_)
          obtain ⟨a262, c262, N262, rfl, rfl, h262⟩ := hR
          have r262 := h262.1
          have eP_99 : B_k5 ++ plainTo (zipped fs_sVoteResponseNodeEndpoint v true ((lT (T.at 2))[k5])) v 3 ++ uvar ((lT (T.at 2))[k5]).u.length ++ ((lT (T.at 2))[k5]).u.flatMap tagU = B_k5 ++ partB fs_sVoteResponseNodeEndpoint v true ((lT (T.at 2))[k5]) := part_close (B := B_k5) (by decide) hu254
          rw [eP_99] at r262 ⊢
          refine asg rfl rfl ?_
          refine nN ?_
          refine Nb ?_
          have ee_100 : B_k5 ++ partB fs_sVoteResponseNodeEndpoint v true ((lT (T.at 2))[k5]) = Cs_44 ++ (counted true false (lT (T.at 2)).length 4) ++ ((lT (T.at 2)).take (k5 + 1)).flatMap (GOf (fs_VoteResponse[2]'(by decide)) v true) := by rw [hdk5]; exact el_end (B0 := Cs_44 ++ (counted true false (lT (T.at 2)).length 4)) (G := (GOf (fs_VoteResponse[2]'(by decide)) v true)) hk5 (GOf_part (by decide) _)
          refine fun a_ w_ hA hw => ⟨_, _, _, hA.sub ?_, (le_74.trans (le_84.trans (le_89.trans (le_94.trans le_98)))), hw, _, rfl, _, _, _, _, rfl, rfl, (by rw [← ee_100]; exact r262), (by rw [← ee_100])⟩
          exact (.of ⟨rfl, rfl, rfl, rfl, rfl, rfl, rfl, rfl, rfl, rfl, rfl, rfl, trivial⟩)
      ·
       obtain ⟨a_k5, m_k5, c_k5, N_k5, rfl, rfl, pk50, pk51⟩ := hI
       refine toWp ?_
       have eL205 : Cs_44 ++ (counted true false (lT (T.at 2)).length 4) ++ ((lT (T.at 2)).take (lT (T.at 2)).length).flatMap (GOf (fs_VoteResponse[2]'(by decide)) v true) = Cs_44 ++ (fieldB (fs_VoteResponse[2]'(by decide)) v true (T.at 2)) := by rw [List.take_length, List.append_assoc]; exact e_73
       rw [eL205] at pk50 pk51
       subst pk51
       refine sr ?_
       refine mv rfl rfl ?_
       refine nt rfl rfl ?_
       refine nl ?_
       refine cF rfl ?_
       refine skN ?_
       refine scN ?_
       have et_101 : Cs_44 ++ (fieldB (fs_VoteResponse[2]'(by decide)) v true (T.at 2)) = Xk3 ++ tagB 0 (fieldB (fs_VoteResponse[2]'(by decide)) v true (T.at 2)) := by rw [hdCs_44, hds_44]; unfold tagB; simp only [List.append_assoc]
       have rt_102 := pk50
       rw [et_101] at rt_102 ⊢
       refine Nb ?_
       refine Nb ?_
       have ee_103 : Xk3 ++ tagB 0 (fieldB (fs_VoteResponse[2]'(by decide)) v true (T.at 2)) = D ++ plainTo (zipped fs_VoteResponse v true T) v 3 ++ uvar (tgN fs_VoteResponse T) ++ ((encT (tgU fs_VoteResponse T) 1).take (k3 + 1)).flatMap (tgO fs_VoteResponse v T) := by rw [hdXk3]; exact el_end (B0 := D ++ plainTo (zipped fs_VoteResponse v true T) v 3 ++ uvar (tgN fs_VoteResponse T)) (G := (tgO fs_VoteResponse v T)) hk3 (by rw [hck3, to_fs_VoteResponse_0])
       refine fun a_ w_ hA hw => ⟨_, _, _, hA.sub ?_, (le_41.trans (les_44.trans le_75)), hw, _, rfl, _, _, _, _, rfl, rfl, (by rw [← ee_103]; exact rt_102), (by rw [← ee_103])⟩
       exact (.of ⟨rfl, rfl, rfl, rfl, rfl, rfl, rfl, trivial⟩)
    ·
     exact absurd (encT_mem (List.getElem_mem hk3)).1 (by omega)
   ·
    obtain ⟨a_k3, m_k3, c_k3, N_k3, rfl, rfl, pk30, pk31⟩ := hI
    refine toWp ?_
    have eLg_37 : D ++ plainTo (zipped fs_VoteResponse v true T) v 3 ++ uvar (tgN fs_VoteResponse T) ++ ((encT (tgU fs_VoteResponse T) 1).take (encT (tgU fs_VoteResponse T) 1).length).flatMap (tgO fs_VoteResponse v T) = D ++ plainTo (zipped fs_VoteResponse v true T) v 3 ++ uvar (tgN fs_VoteResponse T) ++ (encT (tgU fs_VoteResponse T) 1).flatMap (tgO fs_VoteResponse v T) := by rw [List.take_length]
    rw [eLg_37] at pk30 pk31
    subst pk31
    refine rg ?_
    refine mv rfl rfl ?_
    refine nc rfl rfl ?_
    refine fa0 F65_4 rfl rfl ?_
    refine mv rfl rfl ?_
    refine cl rfl rfl rfl (t_append_each (j := 4) (hv.mono (le_4.trans (le_39.trans (lEg_37.trans le_42)))) rfl (hf2.mono (le_4.trans (le_39.trans (lEg_37.trans le_42)))) (by omega) pk30 (fun p hp => by have := hug_37.2.2 p hp; omega) hzg_37c) rfl (fun v_ H1 L1 le_104 hR => ?_)
    obtain ⟨a280, c280, N280, rfl, rfl, h280⟩ := hR
    have r280 := h280.1
    have eP_105 : D ++ plainTo (zipped fs_VoteResponse v true T) v 3 ++ uvar (tgN fs_VoteResponse T) ++ (encT (tgU fs_VoteResponse T) 1).flatMap (tgO fs_VoteResponse v T) ++ T.u.flatMap tagU = D ++ partB fs_VoteResponse v true T := by
     have h := tags_close (v := v) (B := D) on_fs_VoteResponse hug_37
     rw [kn_fs_VoteResponse] at h; exact h
    rw [eP_105] at r280 ⊢
    refine asg rfl rfl ?_
    refine nl ?_
    refine sr ?_
    refine mv rfl rfl ?_
    refine asg rfl rfl ?_
    refine nl ?_
    exact rT rfl rfl (le_4.trans (le_39.trans (lEg_37.trans (le_42.trans le_104)))) (fun _ _ h => h) (OutB.of r280 rfl)
end Go.Sx

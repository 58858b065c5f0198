import Derived.Test.YthgkgbaggjongaaGreatDoorBListGroupsRequest
import Derived.Test.YthgkgbaggjongaaGreatDoorKB2
import Derived.Test.YthgkgbaggjongaaGreatDoorMkL
import Derived.KernelRfl
set_option linter.unusedVariables false
set_option linter.unusedSimpArgs false
set_option maxRecDepth 100000
set_option maxHeartbeats 20000000
namespace Go.Sx
open Go.Proofs
theorem app_ListGroupsRequest_f {H : Fz} {L : Own} {a : Option Addr} {cap b : Nat} {D : List UInt8} {N : Chunk} {cs : List Value} {T : Tr} {v : Int} (hr : Row 5 1 a D.length cap (bytesOf D) N) (hv : H.at b 0 cs) (hA : At_ListGroupsRequest v H T cs) (hok : OkP fs_ListGroupsRequest v T) (h0 : 0 ≤ v) (h1 : v ≤ 2) (hb : D.length + (partB fs_ListGroupsRequest v false T).length ≤ LIM) :
  Fn Tryz.prog 121 [.pointer (some ⟨b, 0, none⟩), .slice a D.length cap] H (N :: L) (fun r H' L' => OutB 5 L (D ++ partB fs_ListGroupsRequest v false T) r L') := by
 obtain ⟨a0, c0, a1, c1, mt, rfl, hf0, hf1, hf2⟩ := hA
 refine Fn.mk Tryz.call121 Tryz.func121 rfl Tryz.ntmps121 rfl ?_
 refine sr ?_
 refine asg rfl rfl ?_
 refine nl ?_
 refine sr ?_
 refine mv rfl rfl ?_
 refine nc rfl rfl ?_
 refine fa0 F205_0 rfl rfl ?_
 refine ld (Says.fz hv) Tryz.isAgg51 rfl (Nat.zero_add _).symm rfl rfl ?_
 refine asg rfl rfl ?_
 refine nl ?_
 refine sr ?_
 refine mv rfl rfl ?_
 refine nl ?_
 refine sr ?_
 refine mv rfl rfl ?_
 refine ge rfl rfl rfl ?_
 refine asg rfl rfl ?_
 refine nl ?_
 refine sr ?_
 refine mv rfl rfl ?_
 refine nl ?_
 refine sq ?_
 refine sr ?_
 refine mv rfl rfl ?_
 refine ge rfl rfl rfl ?_
 refine nl ?_
 refine cdF rfl (by omega) ?_
 refine skt ?_
 refine sq ?_
 refine sr ?_
 refine mv rfl rfl ?_
 refine ge rfl rfl rfl ?_
 refine nl ?_
 refine cdF rfl (by omega) ?_
 refine skt ?_
 refine sq ?_
 refine sr ?_
 refine mv rfl rfl ?_
 refine nl ?_
 refine cdF rfl (by omega) ?_
 refine skt ?_
 refine sr ?_
 refine mv rfl rfl ?_
 refine asg rfl rfl ?_
 refine nl ?_
 have es_1 : plainTo (zipped fs_ListGroupsRequest v false T) v 2 = plainTo (zipped fs_ListGroupsRequest v false T) v 0 := ((piece_no2 (fs := fs_ListGroupsRequest) (v := v) (flex := false) (t := T) (k := 1) (by decide) (has_no (show v < (5 : Int) ∨ ((0 : Int) ≤ (-1) ∧ (-1) < v) by omega))).trans (piece_no2 (fs := fs_ListGroupsRequest) (v := v) (flex := false) (t := T) (k := 0) (by decide) (has_no (show v < (4 : Int) ∨ ((0 : Int) ≤ (-1) ∧ (-1) < v) by omega))))
 have eP_2 : D = D ++ partB fs_ListGroupsRequest v false T := by
  rw [partB_false]
  show D = D ++ plainTo (zipped fs_ListGroupsRequest v false T) v 2
  rw [es_1]; exact (List.append_nil _).symm
 exact rT rfl rfl (Fz.le.refl _) (fun _ _ h => h) (OutB.of hr eP_2.symm)
theorem app_ListGroupsRequest_t {H : Fz} {L : Own} {a : Option Addr} {cap b : Nat} {D : List UInt8} {N : Chunk} {cs : List Value} {T : Tr} {v : Int} (hr : Row 5 1 a D.length cap (bytesOf D) N) (hv : H.at b 0 cs) (hA : At_ListGroupsRequest v H T cs) (hok : OkP fs_ListGroupsRequest v T) (h0 : 3 ≤ v) (h1 : v ≤ 5) (hb : D.length + (partB fs_ListGroupsRequest v true T).length ≤ LIM) :
  Fn Tryz.prog 121 [.pointer (some ⟨b, 0, none⟩), .slice a D.length cap] H (N :: L) (fun r H' L' => OutB 5 L (D ++ partB fs_ListGroupsRequest v true T) r L') := by
 obtain ⟨a0, c0, a1, c1, mt, rfl, hf0, hf1, hf2⟩ := hA
 refine Fn.mk Tryz.call121 Tryz.func121 rfl Tryz.ntmps121 rfl ?_
 refine sr ?_
 refine asg rfl rfl ?_
 refine nl ?_
 refine sr ?_
 refine mv rfl rfl ?_
 refine nc rfl rfl ?_
 refine fa0 F205_0 rfl rfl ?_
 refine ld (Says.fz hv) Tryz.isAgg51 rfl (Nat.zero_add _).symm rfl rfl ?_
 refine asg rfl rfl ?_
 refine nl ?_
 refine sr ?_
 refine mv rfl rfl ?_
 refine nl ?_
 refine sr ?_
 refine mv rfl rfl ?_
 refine ge rfl rfl rfl ?_
 refine asg rfl rfl ?_
 refine nl ?_
 refine sr ?_
 refine mv rfl rfl ?_
 refine nl ?_
 refine sq ?_
 refine sr ?_
 refine mv rfl rfl ?_
 refine ge rfl rfl rfl ?_
 refine nl ?_
 refine cutT (fun l' H' L' => ∃ (aj_1 : Option Addr), ∃ (mj_1 : Nat), ∃ (cj_1 : Nat), ∃ (Nj_1 : Chunk), [(0, .pointer (some ⟨b, 0, none⟩)), (1, .slice aj_1 mj_1 cj_1), (5, .int .i16 v), (6, .bool (decide ((3 : Int) ≤ v)))] = l' ∧ Nj_1 :: L = L' ∧ Row 5 1 aj_1 mj_1 cj_1 (bytesOf (D ++ plainTo (zipped fs_ListGroupsRequest v true T) v 1)) Nj_1 ∧ mj_1 = (D ++ plainTo (zipped fs_ListGroupsRequest v true T) v 1).length) ?_ (fun l' H' L' le_2 hI => ?_)
 ·
  refine cd rfl (fun h22 => ?_) (fun h22 => ?_)
  ·
   refine sr ?_
   refine mv rfl rfl ?_
   refine nc rfl rfl ?_
   refine fa0 F205_1 rfl rfl ?_
   refine ld (Says.fz hv) Tryz.isAgg203 rfl (Nat.zero_add _).symm rfl rfl ?_
   refine asg rfl rfl ?_
   refine nl ?_
   refine sq ?_
   refine sr ?_
   refine mv rfl rfl ?_
   refine nl ?_
   refine cdT rfl (by omega) ?_
   refine rg ?_
   refine mv rfl rfl ?_
   refine mv rfl rfl ?_
   refine ls Tryz.runUnderlying203 rfl rfl ?_
   have ok31 := hok.get 0 (by decide) (has_yes (show (4 : Int) ≤ v by omega) (show ((-1) : Int) < 0 ∨ v ≤ (-1) by omega))
   have ll31 := lT_len (ok31.len rfl)
   have e_3 : D ++ (counted true false (lT (T.at 0)).length 4 ++ (lT (T.at 0)).flatMap (GOf (fs_ListGroupsRequest[0]'(by decide)) v true)) = D ++ plainTo (zipped fs_ListGroupsRequest v true T) v 1 := fold_first (fs := fs_ListGroupsRequest) (v := v) (flex := true) (t := T) (B := D) 0 rfl (by decide) (by decide) (has_yes (show (4 : Int) ≤ v by omega) (show ((-1) : Int) < 0 ∨ v ≤ (-1) by omega)) (FB_list0 (f := (fs_ListGroupsRequest[0]'(by decide))) (by decide) (by decide) (by decide) ok31)
   have hs31 := fold_size e_3 (by decide) hb
   have hc31 : (D).length + (counted true false (lT (T.at 0)).length 4).length ≤ LIM := by have h := hs31; simp only [List.length_append] at h ⊢; omega
   refine cl rfl rfl rfl (OutK.cast (k_AppendCompactArrayLen (n := (lT (T.at 0)).length) (by omega) hr hc31) (show _ = D ++ (counted true false (lT (T.at 0)).length 4) from rfl)) rfl (fun v_ H1 L1 hle hR => ?_)
   obtain ⟨rfl, a31, c31, N31, rfl, rfl, h31⟩ := hR
   have r31 := h31.1
   refine asg rfl rfl ?_
   refine nl ?_
   refine sr ?_
   refine mv rfl rfl ?_
   refine ls Tryz.runUnderlying203 rfl rfl ?_
   refine mv rfl rfl ?_
   refine nl ?_
   refine fr ((lT (T.at 0)).length) (fun k1 l' H' L' => ∃ (a_k1 : Option Addr), ∃ (m_k1 : Nat), ∃ (c_k1 : Nat), ∃ (N_k1 : Chunk), [(0, .pointer (some ⟨b, 0, none⟩)), (1, .slice a_k1 m_k1 c_k1), (5, .int .i16 v), (6, .bool (decide ((3 : Int) ≤ v))), (7, .slice a0 (lT (T.at 0)).length c0), (37, .int .i64 ((lT (T.at 0)).length : Int))] = l' ∧ N_k1 :: L = L' ∧ Row 5 1 a_k1 m_k1 c_k1 (bytesOf (D ++ (counted true false (lT (T.at 0)).length 4) ++ ((lT (T.at 0)).take k1).flatMap (GOf (fs_ListGroupsRequest[0]'(by decide)) v true))) N_k1 ∧ m_k1 = (D ++ (counted true false (lT (T.at 0)).length 4) ++ ((lT (T.at 0)).take k1).flatMap (GOf (fs_ListGroupsRequest[0]'(by decide)) v true)).length) [(0, .pointer (some ⟨b, 0, none⟩)), (1, .slice _ _ _), (5, .int .i16 v), (6, .bool (decide ((3 : Int) ≤ v))), (7, .slice a0 (lT (T.at 0)).length c0), (37, .int .i64 ((lT (T.at 0)).length : Int))] (fun k1 l' H' L' h => ?_) (by omega) rfl (.cons rfl (.cons rfl (.cons rfl (.cons rfl (.cons rfl (.cons rfl (.nil _))))))) ⟨_, _, _, _, rfl, rfl, (by rw [List.take_zero, List.flatMap_nil, List.append_nil]; exact r31), (by rw [List.take_zero, List.flatMap_nil, List.append_nil])⟩ rfl rfl rfl rfl rfl (fun k1 l' H' L' hk1 le_4 hI => ?_) (fun l' H' L' le_5 hI => ?_)
   · obtain ⟨a_k1, m_k1, c_k1, N_k1, rfl, _⟩ := h; exact ⟨rfl, rfl, rfl, rfl⟩
   ·
    obtain ⟨a_k1, m_k1, c_k1, N_k1, rfl, rfl, pk10, pk11⟩ := hI
    subst pk11
    refine sr ?_
    refine mv rfl rfl ?_
    refine asg rfl rfl ?_
    refine nl ?_
    refine sr ?_
    refine mv rfl rfl ?_
    refine mv rfl rfl ?_
    obtain ⟨b_6, o_7, e_8, g_9⟩ := (hf0.mono RText.mono le_4).rows.at_ (ne_nil_of_lt hk1)
    obtain ⟨cs_10, hA_11, hc_12⟩ := g_9 k1 hk1
    refine ix2 Tryz.runUnderlying203 Tryz.sizeOf9 rfl e_8 rfl rfl hk1 rfl ?_
    obtain rfl := hA_11
    refine ld (Says.fz hc_12) Tryz.isAgg9 rfl (Nat.add_zero _).symm rfl rfl ?_
    refine asg rfl rfl ?_
    refine nl ?_
    refine sr ?_
    refine mv rfl rfl ?_
    refine nl ?_
    refine cdT rfl (by omega) ?_
    refine rg ?_
    refine mv rfl rfl ?_
    refine mv rfl rfl ?_
    have oe48 := (ok31.el rfl _ (lT_mem (List.getElem_mem hk1))).1 (by decide)
    have hp48 : (GOf (fs_ListGroupsRequest[0]'(by decide)) v true) ((lT (T.at 0))[k1]) = counted true false ((lT (T.at 0))[k1]).s.length 2 ++ ((lT (T.at 0))[k1]).s := G_text (f := (fs_ListGroupsRequest[0]'(by decide))) (by decide) oe48
    have hs48 := el_size hs31 hk1 hp48
    have ee48 := el_end (B0 := D ++ (counted true false (lT (T.at 0)).length 4)) hk1 hp48
    refine cl rfl rfl rfl (OutK.cast (k_AppendCompactString (x := ((lT (T.at 0))[k1]).s) (by omega) pk10 hs48) ee48) rfl (fun v_ H1 L1 hle hR => ?_)
    obtain ⟨rfl, a48, c48, N48, rfl, rfl, h48⟩ := hR
    have r48 := h48.1
    refine asg rfl rfl ?_
    refine nN ?_
    refine Nb ?_
    refine fun a_ w_ hA hw => ⟨_, _, _, hA.sub ?_, le_4, hw, _, rfl, _, _, _, _, rfl, rfl, r48, rfl⟩
    exact (.cons rfl (.cons rfl (.cons rfl (.cons rfl (.cons rfl (.cons rfl (.cons rfl (.nil _))))))))
   ·
    obtain ⟨a_k1, m_k1, c_k1, N_k1, rfl, rfl, pk10, pk11⟩ := hI
    refine toNn ?_
    have eL31 : D ++ (counted true false (lT (T.at 0)).length 4) ++ ((lT (T.at 0)).take (lT (T.at 0)).length).flatMap (GOf (fs_ListGroupsRequest[0]'(by decide)) v true) = D ++ plainTo (zipped fs_ListGroupsRequest v true T) v 1 := by rw [List.take_length, List.append_assoc]; exact e_3
    rw [eL31] at pk10 pk11
    subst pk11
    refine fun a_ w_ hA hw => ⟨_, _, _, hA.sub ?_, le_5, hw, _, _, _, _, rfl, rfl, pk10, rfl⟩
    exact (.cons rfl (.cons rfl (.cons rfl (.cons rfl (.nil _)))))
  ·
   refine skN ?_
   have es_13 : plainTo (zipped fs_ListGroupsRequest v true T) v 1 = plainTo (zipped fs_ListGroupsRequest v true T) v 0 := (piece_no2 (fs := fs_ListGroupsRequest) (v := v) (flex := true) (t := T) (k := 0) (by decide) (has_no (show v < (4 : Int) ∨ ((0 : Int) ≤ (-1) ∧ (-1) < v) by omega)))
   have eX_14 : D = D ++ plainTo (zipped fs_ListGroupsRequest v true T) v 1 := by rw [es_13, plain0, List.append_nil]
   refine fun a_ w_ hA hw => ⟨_, _, _, hA.sub ?_, (Fz.le.refl _), hw, _, _, _, _, rfl, rfl, (by rw [← eX_14]; exact hr), (by rw [← eX_14])⟩
   exact (.cons rfl (.cons rfl (.cons rfl (.cons rfl (.nil _)))))
 ·
  obtain ⟨aj_1, mj_1, cj_1, Nj_1, rfl, rfl, pj0, pj1⟩ := hI
  subst pj1
  have rj_1 := pj0
  refine sq ?_
  refine sr ?_
  refine mv rfl rfl ?_
  refine ge rfl rfl rfl ?_
  refine nl ?_
  refine cutT (fun l' H' L' => ∃ (aj_15 : Option Addr), ∃ (mj_15 : Nat), ∃ (cj_15 : Nat), ∃ (Nj_15 : Chunk), [(0, .pointer (some ⟨b, 0, none⟩)), (1, .slice aj_15 mj_15 cj_15), (6, .bool (decide ((3 : Int) ≤ v)))] = l' ∧ Nj_15 :: L = L' ∧ Row 5 1 aj_15 mj_15 cj_15 (bytesOf (D ++ plainTo (zipped fs_ListGroupsRequest v true T) v 2)) Nj_15 ∧ mj_15 = (D ++ plainTo (zipped fs_ListGroupsRequest v true T) v 2).length) ?_ (fun l' H' L' le_16 hI => ?_)
  ·
   refine cd rfl (fun h54 => ?_) (fun h54 => ?_)
   ·
    refine sr ?_
    refine mv rfl rfl ?_
    refine nc rfl rfl ?_
    refine fa0 F205_2 rfl rfl ?_
    refine ld (Says.fz (hv.mono le_2)) Tryz.isAgg203 rfl (Nat.zero_add _).symm rfl rfl ?_
    refine asg rfl rfl ?_
    refine nl ?_
    refine sq ?_
    refine sr ?_
    refine mv rfl rfl ?_
    refine nl ?_
    refine cdT rfl (by omega) ?_
    refine rg ?_
    refine mv rfl rfl ?_
    refine mv rfl rfl ?_
    refine ls Tryz.runUnderlying203 rfl rfl ?_
    have ok63 := hok.get 1 (by decide) (has_yes (show (5 : Int) ≤ v by omega) (show ((-1) : Int) < 0 ∨ v ≤ (-1) by omega))
    have ll63 := lT_len (ok63.len rfl)
    have e_17 : D ++ plainTo (zipped fs_ListGroupsRequest v true T) v 1 ++ (counted true false (lT (T.at 1)).length 4 ++ (lT (T.at 1)).flatMap (GOf (fs_ListGroupsRequest[1]'(by decide)) v true)) = D ++ plainTo (zipped fs_ListGroupsRequest v true T) v 2 := fold_yes (fs := fs_ListGroupsRequest) (v := v) (flex := true) (t := T) (B := D) 1 (by decide) (by decide) (has_yes (show (5 : Int) ≤ v by omega) (show ((-1) : Int) < 0 ∨ v ≤ (-1) by omega)) (FB_list0 (f := (fs_ListGroupsRequest[1]'(by decide))) (by decide) (by decide) (by decide) ok63)
    have hs63 := fold_size e_17 (by decide) hb
    have hc63 : (D ++ plainTo (zipped fs_ListGroupsRequest v true T) v 1).length + (counted true false (lT (T.at 1)).length 4).length ≤ LIM := by have h := hs63; simp only [List.length_append] at h ⊢; omega
    refine cl rfl rfl rfl (OutK.cast (k_AppendCompactArrayLen (n := (lT (T.at 1)).length) (by omega) rj_1 hc63) (show _ = D ++ plainTo (zipped fs_ListGroupsRequest v true T) v 1 ++ (counted true false (lT (T.at 1)).length 4) from rfl)) rfl (fun v_ H1 L1 hle hR => ?_)
    obtain ⟨rfl, a63, c63, N63, rfl, rfl, h63⟩ := hR
    have r63 := h63.1
    refine asg rfl rfl ?_
    refine nl ?_
    refine sr ?_
    refine mv rfl rfl ?_
    refine ls Tryz.runUnderlying203 rfl rfl ?_
    refine mv rfl rfl ?_
    refine nl ?_
    refine fr ((lT (T.at 1)).length) (fun k2 l' H' L' => ∃ (a_k2 : Option Addr), ∃ (m_k2 : Nat), ∃ (c_k2 : Nat), ∃ (N_k2 : Chunk), [(0, .pointer (some ⟨b, 0, none⟩)), (1, .slice a_k2 m_k2 c_k2), (6, .bool (decide ((3 : Int) ≤ v))), (10, .slice a1 (lT (T.at 1)).length c1), (69, .int .i64 ((lT (T.at 1)).length : Int))] = l' ∧ N_k2 :: L = L' ∧ Row 5 1 a_k2 m_k2 c_k2 (bytesOf (D ++ plainTo (zipped fs_ListGroupsRequest v true T) v 1 ++ (counted true false (lT (T.at 1)).length 4) ++ ((lT (T.at 1)).take k2).flatMap (GOf (fs_ListGroupsRequest[1]'(by decide)) v true))) N_k2 ∧ m_k2 = (D ++ plainTo (zipped fs_ListGroupsRequest v true T) v 1 ++ (counted true false (lT (T.at 1)).length 4) ++ ((lT (T.at 1)).take k2).flatMap (GOf (fs_ListGroupsRequest[1]'(by decide)) v true)).length) [(0, .pointer (some ⟨b, 0, none⟩)), (1, .slice _ _ _), (6, .bool (decide ((3 : Int) ≤ v))), (10, .slice a1 (lT (T.at 1)).length c1), (69, .int .i64 ((lT (T.at 1)).length : Int))] (fun k2 l' H' L' h => ?_) (by omega) rfl (.cons rfl (.cons rfl (.cons rfl (.cons rfl (.cons rfl (.nil _)))))) ⟨_, _, _, _, rfl, rfl, (by rw [List.take_zero, List.flatMap_nil, List.append_nil]; exact r63), (by rw [List.take_zero, List.flatMap_nil, List.append_nil])⟩ rfl rfl rfl rfl rfl (fun k2 l' H' L' hk2 le_18 hI => ?_) (fun l' H' L' le_19 hI => ?_)
    · obtain ⟨a_k2, m_k2, c_k2, N_k2, rfl, _⟩ := h; exact ⟨rfl, rfl, rfl, rfl⟩
    ·
     obtain ⟨a_k2, m_k2, c_k2, N_k2, rfl, rfl, pk20, pk21⟩ := hI
     subst pk21
     refine sr ?_
     refine mv rfl rfl ?_
     refine asg rfl rfl ?_
     refine nl ?_
     refine sr ?_
     refine mv rfl rfl ?_
     refine mv rfl rfl ?_
     obtain ⟨b_20, o_21, e_22, g_23⟩ := (hf1.mono RText.mono (le_2.trans le_18)).rows.at_ (ne_nil_of_lt hk2)
     obtain ⟨cs_24, hA_25, hc_26⟩ := g_23 k2 hk2
     refine ix2 Tryz.runUnderlying203 Tryz.sizeOf9 rfl e_22 rfl rfl hk2 rfl ?_
     obtain rfl := hA_25
     refine ld (Says.fz hc_26) Tryz.isAgg9 rfl (Nat.add_zero _).symm rfl rfl ?_
     refine asg rfl rfl ?_
     refine nl ?_
     refine sr ?_
     refine mv rfl rfl ?_
     refine nl ?_
     refine cdT rfl (by omega) ?_
     refine rg ?_
     refine mv rfl rfl ?_
     refine mv rfl rfl ?_
     have oe80 := (ok63.el rfl _ (lT_mem (List.getElem_mem hk2))).1 (by decide)
     have hp80 : (GOf (fs_ListGroupsRequest[1]'(by decide)) v true) ((lT (T.at 1))[k2]) = counted true false ((lT (T.at 1))[k2]).s.length 2 ++ ((lT (T.at 1))[k2]).s := G_text (f := (fs_ListGroupsRequest[1]'(by decide))) (by decide) oe80
     have hs80 := el_size hs63 hk2 hp80
     have ee80 := el_end (B0 := D ++ plainTo (zipped fs_ListGroupsRequest v true T) v 1 ++ (counted true false (lT (T.at 1)).length 4)) hk2 hp80
     refine cl rfl rfl rfl (OutK.cast (k_AppendCompactString (x := ((lT (T.at 1))[k2]).s) (by omega) pk20 hs80) ee80) rfl (fun v_ H1 L1 hle hR => ?_)
     obtain ⟨rfl, a80, c80, N80, rfl, rfl, h80⟩ := hR
     have r80 := h80.1
     refine asg rfl rfl ?_
     refine nN ?_
     refine Nb ?_
     refine fun a_ w_ hA hw => ⟨_, _, _, hA.sub ?_, le_18, hw, _, rfl, _, _, _, _, rfl, rfl, r80, rfl⟩
     exact (.cons rfl (.cons rfl (.cons rfl (.cons rfl (.cons rfl (.cons rfl (.nil _)))))))
    ·
     obtain ⟨a_k2, m_k2, c_k2, N_k2, rfl, rfl, pk20, pk21⟩ := hI
     refine toNn ?_
     have eL63 : D ++ plainTo (zipped fs_ListGroupsRequest v true T) v 1 ++ (counted true false (lT (T.at 1)).length 4) ++ ((lT (T.at 1)).take (lT (T.at 1)).length).flatMap (GOf (fs_ListGroupsRequest[1]'(by decide)) v true) = D ++ plainTo (zipped fs_ListGroupsRequest v true T) v 2 := by rw [List.take_length, List.append_assoc]; exact e_17
     rw [eL63] at pk20 pk21
     subst pk21
     refine fun a_ w_ hA hw => ⟨_, _, _, hA.sub ?_, le_19, hw, _, _, _, _, rfl, rfl, pk20, rfl⟩
     exact (.cons rfl (.cons rfl (.cons rfl (.nil _))))
   ·
    refine skN ?_
    have es_27 : plainTo (zipped fs_ListGroupsRequest v true T) v 2 = plainTo (zipped fs_ListGroupsRequest v true T) v 1 := (piece_no2 (fs := fs_ListGroupsRequest) (v := v) (flex := true) (t := T) (k := 1) (by decide) (has_no (show v < (5 : Int) ∨ ((0 : Int) ≤ (-1) ∧ (-1) < v) by omega)))
    have eX_28 : D ++ plainTo (zipped fs_ListGroupsRequest v true T) v 1 = D ++ plainTo (zipped fs_ListGroupsRequest v true T) v 2 := by rw [es_27]
    refine fun a_ w_ hA hw => ⟨_, _, _, hA.sub ?_, (Fz.le.refl _), hw, _, _, _, _, rfl, rfl, (by rw [← eX_28]; exact rj_1), (by rw [← eX_28])⟩
    exact (.cons rfl (.cons rfl (.cons rfl (.nil _))))
  ·
   obtain ⟨aj_15, mj_15, cj_15, Nj_15, rfl, rfl, pj0, pj1⟩ := hI
   subst pj1
   have rj_15 := pj0
   refine sq ?_
   refine sr ?_
   refine mv rfl rfl ?_
   refine nl ?_
   refine cdT rfl (by omega) ?_
   refine sr ?_
   refine mv rfl rfl ?_
   refine mv rfl rfl ?_
   refine nc rfl rfl ?_
   refine fa0 F205_3 rfl rfl ?_
   refine cl rfl rfl rfl (t_lenU (j := 3) (hv.mono (le_2.trans le_16)) rfl (hf2.mono (le_2.trans le_16))) rfl (fun v_ H1 L1 hle hR => ?_)
   obtain ⟨rfl, rfl, rfl⟩ := hR
   have hu90 := hok.u
   have hul90 := hu90.2.1
   obtain ⟨hz90a, hz90b⟩ := part_size_plain (by decide) hu90 hb
   refine cv Tryz.runUnderlying3 Tryz.runUnderlying68 rfl (w32u (by omega) (by omega)) rfl ?_
   refine ad rfl rfl ((w32u (by omega) (by omega)).trans (Int.zero_add _)) rfl ?_
   refine cl rfl rfl rfl (k_AppendUvarint (n := T.u.length) (by omega) rj_15 hz90a) rfl (fun v_ H1 L1 hle hR => ?_)
   obtain ⟨rfl, a93, c93, N93, rfl, rfl, h93⟩ := hR
   have r93 := h93.1
   refine asg rfl rfl ?_
   refine nl ?_
   refine rg ?_
   refine mv rfl rfl ?_
   refine nc rfl rfl ?_
   refine fa0 F205_3 rfl rfl ?_
   refine mv rfl rfl ?_
   refine cl rfl rfl rfl (t_append_each (j := 3) (hv.mono (le_2.trans le_16)) rfl (hf2.mono (le_2.trans le_16)) (by omega) r93 (fun p hp => by have := hu90.2.2 p hp; omega) hz90b) rfl (fun v_ H1 L1 le_29 hR => ?_)
   obtain ⟨a98, c98, N98, rfl, rfl, h98⟩ := hR
   have r98 := h98.1
   have eP_30 : D ++ plainTo (zipped fs_ListGroupsRequest v true T) v 2 ++ uvar T.u.length ++ T.u.flatMap tagU = D ++ partB fs_ListGroupsRequest v true T := part_close (B := D) (by decide) hu90
   rw [eP_30] at r98 ⊢
   refine asg rfl rfl ?_
   refine nl ?_
   refine sr ?_
   refine mv rfl rfl ?_
   refine asg rfl rfl ?_
   refine nl ?_
   exact rT rfl rfl (le_2.trans (le_16.trans le_29)) (fun _ _ h => h) (OutB.of r98 rfl)
end Go.Sx

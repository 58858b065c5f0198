import Derived.Test.YtahmkeoedpghjaaBDescribeGroupsRequest
import Derived.KernelRfl
set_option linter.unusedVariables false
set_option linter.unusedSimpArgs false
set_option maxRecDepth 100000
set_option maxHeartbeats 20000000
namespace Go.Sx
open Go.Proofs
theorem app_DescribeGroupsRequest_f {H : Fz} {L : Own} {a : Option Addr} {cap b : Nat} {D : List UInt8} {N : Chunk} {cs : List Value} {T : Tr} {v : Int} (hr : Row 5 1 a D.length cap (bytesOf D) N) (hv : H.at b 0 cs) (hA : At_DescribeGroupsRequest v H T cs) (hok : OkP fs_DescribeGroupsRequest v T) (h0 : 0 ≤ v) (h1 : v ≤ 4) (hb : D.length + (partB fs_DescribeGroupsRequest v false T).length ≤ LIM) :
    Fn Try.prog 73 [.pointer (some ⟨b, 0, none⟩), .slice a D.length cap] H (N :: L) (fun r H' L' => OutB 5 L (D ++ partB fs_DescribeGroupsRequest v false T) r L') := by
  obtain ⟨a0, c0, mt, rfl, hf0, hf1⟩ := hA
  refine Fn.mk Try.call73 Try.func73 rfl Try.ntmps73 rfl ?_
  refine sr ?_
  refine asg rfl rfl ?_
  refine nl ?_
  refine sr ?_
  refine mv rfl rfl ?_
  refine nc rfl rfl ?_
  refine fa0 F76_0 rfl rfl ?_
  refine ld (Says.fz hv) Try.isAgg45 rfl (Nat.zero_add _).symm rfl rfl ?_
  refine asg rfl rfl ?_
  refine nl ?_
  refine sr ?_
  refine mv rfl rfl ?_
  refine nl ?_
  refine sr ?_
  refine mv rfl rfl ?_
  refine ge rfl rfl rfl ?_
  refine asg rfl rfl ?_
  refine nl ?_
  refine sr ?_
  refine mv rfl rfl ?_
  refine nl ?_
  refine sq ?_
  refine sr ?_
  refine mv rfl rfl ?_
  refine nc rfl rfl ?_
  refine fa0 F76_1 rfl rfl ?_
  refine ld (Says.fz hv) Try.isAgg74 rfl (Nat.zero_add _).symm rfl rfl ?_
  refine asg rfl rfl ?_
  refine nl ?_
  refine sq ?_
  refine sr ?_
  refine mv rfl rfl ?_
  refine nl ?_
  refine cdF rfl (by omega) ?_
  refine rg ?_
  refine mv rfl rfl ?_
  refine mv rfl rfl ?_
  refine ls Try.runUnderlying74 rfl rfl ?_
  have ok31 := hok.get 0 (by decide) (has_yes (show (0 : Int) ≤ v by omega) (show ((-1) : Int) < 0 ∨ v ≤ (-1) by omega))
  have nn31 := ok31.nn (by decide) (by decide)
  have ll31 := lT_len (ok31.len rfl)
  have e_1 : D ++ (counted false false (lT (T.at 0)).length 4 ++ (lT (T.at 0)).flatMap (GOf (fs_DescribeGroupsRequest[0]'(by decide)) v false)) = D ++ plainTo (zipped fs_DescribeGroupsRequest v false T) v 1 := fold_first (fs := fs_DescribeGroupsRequest) (v := v) (flex := false) (t := T) (B := D) 0 rfl (by decide) (by decide) (has_yes (show (0 : Int) ≤ v by omega) (show ((-1) : Int) < 0 ∨ v ≤ (-1) by omega)) (by rw [FB_list (f := (fs_DescribeGroupsRequest[0]'(by decide))) (by decide) (by decide) ok31, nn31])
  have hs31 := fold_size e_1 (by decide) hb
  have hc31 : (D).length + (counted false false (lT (T.at 0)).length 4).length ≤ LIM := by have h := hs31; simp only [List.length_append] at h ⊢; omega
  refine cl rfl rfl rfl (OutK.cast (k_AppendArrayLen (u := ((lT (T.at 0)).length : Int)) hr hc31) (show _ = D ++ (counted false false (lT (T.at 0)).length 4) from rfl)) rfl (fun v_ H1 L1 hle hR => ?_)
  obtain ⟨rfl, a31, c31, N31, rfl, rfl, h31⟩ := hR
  have r31 := h31.1
  refine asg rfl rfl ?_
  refine nl ?_
  refine sr ?_
  refine mv rfl rfl ?_
  refine ls Try.runUnderlying74 rfl rfl ?_
  refine mv rfl rfl ?_
  refine nl ?_
  refine fr ((lT (T.at 0)).length) (fun k1 l' H' L' => ∃ (a_k1 : Option Addr), ∃ (m_k1 : Nat), ∃ (c_k1 : Nat), ∃ (N_k1 : Chunk), [(0, .pointer (some ⟨b, 0, none⟩)), (1, .slice a_k1 m_k1 c_k1), (5, .int .i16 v), (6, .bool (decide ((5 : Int) ≤ v))), (7, .slice a0 (lT (T.at 0)).length c0), (33, .int .i64 ((lT (T.at 0)).length : Int))] = l' ∧ N_k1 :: L = L' ∧ Row 5 1 a_k1 m_k1 c_k1 (bytesOf (D ++ (counted false false (lT (T.at 0)).length 4) ++ ((lT (T.at 0)).take k1).flatMap (GOf (fs_DescribeGroupsRequest[0]'(by decide)) v false))) N_k1 ∧ m_k1 = (D ++ (counted false false (lT (T.at 0)).length 4) ++ ((lT (T.at 0)).take k1).flatMap (GOf (fs_DescribeGroupsRequest[0]'(by decide)) v false)).length) [(0, .pointer (some ⟨b, 0, none⟩)), (1, .slice _ _ _), (5, .int .i16 v), (6, .bool (decide ((5 : Int) ≤ v))), (7, .slice a0 (lT (T.at 0)).length c0), (33, .int .i64 ((lT (T.at 0)).length : Int))] (fun k1 l' H' L' h => ?_) (by omega) rfl (.cons rfl (.cons rfl (.cons rfl (.cons rfl (.cons rfl (.cons rfl (.nil _))))))) ⟨_, _, _, _, rfl, rfl, (by rw [List.take_zero, List.flatMap_nil, List.append_nil]; exact r31), (by rw [List.take_zero, List.flatMap_nil, List.append_nil])⟩ rfl rfl rfl rfl rfl (fun k1 l' H' L' hk1 le_2 hI => ?_) (fun l' H' L' le_3 hI => ?_)
  · obtain ⟨a_k1, m_k1, c_k1, N_k1, rfl, _⟩ := h; exact ⟨rfl, rfl, rfl, rfl⟩
  · skip
    obtain ⟨a_k1, m_k1, c_k1, N_k1, rfl, rfl, pk10, pk11⟩ := hI
    subst pk11
    refine sr ?_
    refine mv rfl rfl ?_
    refine asg rfl rfl ?_
    refine nl ?_
    refine sr ?_
    refine mv rfl rfl ?_
    refine mv rfl rfl ?_
    obtain ⟨b_4, o_5, e_6, g_7⟩ := (hf0.mono RText.mono le_2).rows.at_ (ne_nil_of_lt hk1)
    obtain ⟨cs_8, hA_9, hc_10⟩ := g_7 k1 hk1
    refine ix2 Try.runUnderlying74 Try.sizeOf9 rfl e_6 rfl rfl hk1 rfl ?_
    obtain rfl := hA_9
    refine ld (Says.fz hc_10) Try.isAgg9 rfl (Nat.add_zero _).symm rfl rfl ?_
    refine asg rfl rfl ?_
    refine nl ?_
    refine sr ?_
    refine mv rfl rfl ?_
    refine nl ?_
    refine cdF rfl (by omega) ?_
    refine rg ?_
    refine mv rfl rfl ?_
    refine mv rfl rfl ?_
    have oe47 := (ok31.el rfl _ (lT_mem (List.getElem_mem hk1))).1 (by decide)
    have hp47 : (GOf (fs_DescribeGroupsRequest[0]'(by decide)) v false) ((lT (T.at 0))[k1]) = counted false false ((lT (T.at 0))[k1]).s.length 2 ++ ((lT (T.at 0))[k1]).s := G_text (f := (fs_DescribeGroupsRequest[0]'(by decide))) (by decide) oe47
    have hs47 := el_size hs31 hk1 hp47
    have ee47 := el_end (B0 := D ++ (counted false false (lT (T.at 0)).length 4)) hk1 hp47
    refine cl rfl rfl rfl (OutK.cast (k_AppendString (x := ((lT (T.at 0))[k1]).s) pk10 hs47) ee47) rfl (fun v_ H1 L1 hle hR => ?_)
    obtain ⟨rfl, a47, c47, N47, rfl, rfl, h47⟩ := hR
    have r47 := h47.1
    refine asg rfl rfl ?_
    refine nN ?_
    refine Nb ?_
    refine fun a_ w_ hA hw => ⟨_, _, _, hA.sub ?_, le_2, hw, _, rfl, _, _, _, _, rfl, rfl, r47, rfl⟩
    exact (.cons rfl (.cons rfl (.cons rfl (.cons rfl (.cons rfl (.cons rfl (.cons rfl (.nil _))))))))
  · skip
    obtain ⟨a_k1, m_k1, c_k1, N_k1, rfl, rfl, pk10, pk11⟩ := hI
    refine toWp ?_
    have eL31 : D ++ (counted false false (lT (T.at 0)).length 4) ++ ((lT (T.at 0)).take (lT (T.at 0)).length).flatMap (GOf (fs_DescribeGroupsRequest[0]'(by decide)) v false) = D ++ plainTo (zipped fs_DescribeGroupsRequest v false T) v 1 := by rw [List.take_length, List.append_assoc]; exact e_1
    rw [eL31] at pk10 pk11
    subst pk11
    refine sq ?_
    refine sr ?_
    refine mv rfl rfl ?_
    refine ge rfl rfl rfl ?_
    refine nl ?_
    refine cutT (fun l' H' L' => ∃ (aj_11 : Option Addr), ∃ (mj_11 : Nat), ∃ (cj_11 : Nat), ∃ (Nj_11 : Chunk), [(0, .pointer (some ⟨b, 0, none⟩)), (1, .slice aj_11 mj_11 cj_11), (6, .bool (decide ((5 : Int) ≤ v)))] = l' ∧ Nj_11 :: L = L' ∧ Row 5 1 aj_11 mj_11 cj_11 (bytesOf (D ++ plainTo (zipped fs_DescribeGroupsRequest v false T) v 2)) Nj_11 ∧ mj_11 = (D ++ plainTo (zipped fs_DescribeGroupsRequest v false T) v 2).length) ?_ (fun l' H' L' le_12 hI => ?_)
    · skip
      refine cd rfl (fun h50 => ?_) (fun h50 => ?_)
      · skip
        refine sr ?_
        refine mv rfl rfl ?_
        refine nc rfl rfl ?_
        refine fa0 F76_2 rfl rfl ?_
        refine ld (Says.fz (hv.mono le_3)) Try.isAgg4 rfl (Nat.zero_add _).symm rfl rfl ?_
        refine asg rfl rfl ?_
        refine nl ?_
        refine rg ?_
        refine mv rfl rfl ?_
        refine mv rfl rfl ?_
        have ok57 := hok.get 1 (by decide) (has_yes (show (3 : Int) ≤ v by omega) (show ((-1) : Int) < 0 ∨ v ≤ (-1) by omega))
        have e_13 : D ++ plainTo (zipped fs_DescribeGroupsRequest v false T) v 1 ++ ([if decide ((T.at 1).n % 2 = 1) then 1 else 0] : List UInt8) = D ++ plainTo (zipped fs_DescribeGroupsRequest v false T) v 2 := fold_yes (fs := fs_DescribeGroupsRequest) (v := v) (flex := false) (t := T) (B := D) 1 (by decide) (by decide) (has_yes (show (3 : Int) ≤ v by omega) (show ((-1) : Int) < 0 ∨ v ≤ (-1) by omega)) ((FB_bool (f := (fs_DescribeGroupsRequest[1]'(by decide))) (by decide)).trans (bool_byte _))
        have hs57 := fold_size e_13 (by decide) hb
        refine cl rfl rfl rfl (OutK.cast (k_AppendBool (b := decide ((T.at 1).n % 2 = 1)) pk10 hs57) e_13) rfl (fun v_ H1 L1 hle hR => ?_)
        obtain ⟨rfl, a57, c57, N57, rfl, rfl, h57⟩ := hR
        have r57 := h57.1
        refine asg rfl rfl ?_
        refine nN ?_
        refine fun a_ w_ hA hw => ⟨_, _, _, hA.sub ?_, (Fz.le.refl _), hw, _, _, _, _, rfl, rfl, r57, rfl⟩
        exact (.cons rfl (.cons rfl (.cons rfl (.nil _))))
      · skip
        refine skN ?_
        have es_14 : plainTo (zipped fs_DescribeGroupsRequest v false T) v 2 = plainTo (zipped fs_DescribeGroupsRequest v false T) v 1 := (piece_no2 (fs := fs_DescribeGroupsRequest) (v := v) (flex := false) (t := T) (k := 1) (by decide) (has_no (show v < (3 : Int) ∨ ((0 : Int) ≤ (-1) ∧ (-1) < v) by omega)))
        have eX_15 : D ++ plainTo (zipped fs_DescribeGroupsRequest v false T) v 1 = D ++ plainTo (zipped fs_DescribeGroupsRequest v false T) v 2 := by rw [es_14]
        refine fun a_ w_ hA hw => ⟨_, _, _, hA.sub ?_, (Fz.le.refl _), hw, _, _, _, _, rfl, rfl, (by rw [← eX_15]; exact pk10), (by rw [← eX_15])⟩
        exact (.cons rfl (.cons rfl (.cons rfl (.nil _))))
    · skip
      obtain ⟨aj_11, mj_11, cj_11, Nj_11, rfl, rfl, pj0, pj1⟩ := hI
      subst pj1
      have rj_11 := pj0
      refine sq ?_
      refine sr ?_
      refine mv rfl rfl ?_
      refine nl ?_
      refine cdF rfl (by omega) ?_
      refine skt ?_
      refine sr ?_
      refine mv rfl rfl ?_
      refine asg rfl rfl ?_
      refine nl ?_
      have eP_16 : D ++ plainTo (zipped fs_DescribeGroupsRequest v false T) v 2 = D ++ partB fs_DescribeGroupsRequest v false T := by rw [partB_false]; rfl
      have rp_17 := rj_11
      rw [eP_16] at rp_17 ⊢
      exact rT rfl rfl (le_3.trans le_12) (fun _ _ h => h) (OutB.of rp_17 rfl)
theorem app_DescribeGroupsRequest_t {H : Fz} {L : Own} {a : Option Addr} {cap b : Nat} {D : List UInt8} {N : Chunk} {cs : List Value} {T : Tr} {v : Int} (hr : Row 5 1 a D.length cap (bytesOf D) N) (hv : H.at b 0 cs) (hA : At_DescribeGroupsRequest v H T cs) (hok : OkP fs_DescribeGroupsRequest v T) (h0 : 5 ≤ v) (h1 : v ≤ 6) (hb : D.length + (partB fs_DescribeGroupsRequest v true T).length ≤ LIM) :
    Fn Try.prog 73 [.pointer (some ⟨b, 0, none⟩), .slice a D.length cap] H (N :: L) (fun r H' L' => OutB 5 L (D ++ partB fs_DescribeGroupsRequest v true T) r L') := by
  obtain ⟨a0, c0, mt, rfl, hf0, hf1⟩ := hA
  refine Fn.mk Try.call73 Try.func73 rfl Try.ntmps73 rfl ?_
  refine sr ?_
  refine asg rfl rfl ?_
  refine nl ?_
  refine sr ?_
  refine mv rfl rfl ?_
  refine nc rfl rfl ?_
  refine fa0 F76_0 rfl rfl ?_
  refine ld (Says.fz hv) Try.isAgg45 rfl (Nat.zero_add _).symm rfl rfl ?_
  refine asg rfl rfl ?_
  refine nl ?_
  refine sr ?_
  refine mv rfl rfl ?_
  refine nl ?_
  refine sr ?_
  refine mv rfl rfl ?_
  refine ge rfl rfl rfl ?_
  refine asg rfl rfl ?_
  refine nl ?_
  refine sr ?_
  refine mv rfl rfl ?_
  refine nl ?_
  refine sq ?_
  refine sr ?_
  refine mv rfl rfl ?_
  refine nc rfl rfl ?_
  refine fa0 F76_1 rfl rfl ?_
  refine ld (Says.fz hv) Try.isAgg74 rfl (Nat.zero_add _).symm rfl rfl ?_
  refine asg rfl rfl ?_
  refine nl ?_
  refine sq ?_
  refine sr ?_
  refine mv rfl rfl ?_
  refine nl ?_
  refine cdT rfl (by omega) ?_
  refine rg ?_
  refine mv rfl rfl ?_
  refine mv rfl rfl ?_
  refine ls Try.runUnderlying74 rfl rfl ?_
  have ok27 := hok.get 0 (by decide) (has_yes (show (0 : Int) ≤ v by omega) (show ((-1) : Int) < 0 ∨ v ≤ (-1) by omega))
  have nn27 := ok27.nn (by decide) (by decide)
  have ll27 := lT_len (ok27.len rfl)
  have e_1 : D ++ (counted true false (lT (T.at 0)).length 4 ++ (lT (T.at 0)).flatMap (GOf (fs_DescribeGroupsRequest[0]'(by decide)) v true)) = D ++ plainTo (zipped fs_DescribeGroupsRequest v true T) v 1 := fold_first (fs := fs_DescribeGroupsRequest) (v := v) (flex := true) (t := T) (B := D) 0 rfl (by decide) (by decide) (has_yes (show (0 : Int) ≤ v by omega) (show ((-1) : Int) < 0 ∨ v ≤ (-1) by omega)) (by rw [FB_list (f := (fs_DescribeGroupsRequest[0]'(by decide))) (by decide) (by decide) ok27, nn27])
  have hs27 := fold_size e_1 (by decide) hb
  have hc27 : (D).length + (counted true false (lT (T.at 0)).length 4).length ≤ LIM := by have h := hs27; simp only [List.length_append] at h ⊢; omega
  refine cl rfl rfl rfl (OutK.cast (k_AppendCompactArrayLen (n := (lT (T.at 0)).length) (by omega) hr hc27) (show _ = D ++ (counted true false (lT (T.at 0)).length 4) from rfl)) rfl (fun v_ H1 L1 hle hR => ?_)
  obtain ⟨rfl, a27, c27, N27, rfl, rfl, h27⟩ := hR
  have r27 := h27.1
  refine asg rfl rfl ?_
  refine nl ?_
  refine sr ?_
  refine mv rfl rfl ?_
  refine ls Try.runUnderlying74 rfl rfl ?_
  refine mv rfl rfl ?_
  refine nl ?_
  refine fr ((lT (T.at 0)).length) (fun k1 l' H' L' => ∃ (a_k1 : Option Addr), ∃ (m_k1 : Nat), ∃ (c_k1 : Nat), ∃ (N_k1 : Chunk), [(0, .pointer (some ⟨b, 0, none⟩)), (1, .slice a_k1 m_k1 c_k1), (5, .int .i16 v), (6, .bool (decide ((5 : Int) ≤ v))), (7, .slice a0 (lT (T.at 0)).length c0), (33, .int .i64 ((lT (T.at 0)).length : Int))] = l' ∧ N_k1 :: L = L' ∧ Row 5 1 a_k1 m_k1 c_k1 (bytesOf (D ++ (counted true false (lT (T.at 0)).length 4) ++ ((lT (T.at 0)).take k1).flatMap (GOf (fs_DescribeGroupsRequest[0]'(by decide)) v true))) N_k1 ∧ m_k1 = (D ++ (counted true false (lT (T.at 0)).length 4) ++ ((lT (T.at 0)).take k1).flatMap (GOf (fs_DescribeGroupsRequest[0]'(by decide)) v true)).length) [(0, .pointer (some ⟨b, 0, none⟩)), (1, .slice _ _ _), (5, .int .i16 v), (6, .bool (decide ((5 : Int) ≤ v))), (7, .slice a0 (lT (T.at 0)).length c0), (33, .int .i64 ((lT (T.at 0)).length : Int))] (fun k1 l' H' L' h => ?_) (by omega) rfl (.cons rfl (.cons rfl (.cons rfl (.cons rfl (.cons rfl (.cons rfl (.nil _))))))) ⟨_, _, _, _, rfl, rfl, (by rw [List.take_zero, List.flatMap_nil, List.append_nil]; exact r27), (by rw [List.take_zero, List.flatMap_nil, List.append_nil])⟩ rfl rfl rfl rfl rfl (fun k1 l' H' L' hk1 le_2 hI => ?_) (fun l' H' L' le_3 hI => ?_)
  · obtain ⟨a_k1, m_k1, c_k1, N_k1, rfl, _⟩ := h; exact ⟨rfl, rfl, rfl, rfl⟩
  · skip
    obtain ⟨a_k1, m_k1, c_k1, N_k1, rfl, rfl, pk10, pk11⟩ := hI
    subst pk11
    refine sr ?_
    refine mv rfl rfl ?_
    refine asg rfl rfl ?_
    refine nl ?_
    refine sr ?_
    refine mv rfl rfl ?_
    refine mv rfl rfl ?_
    obtain ⟨b_4, o_5, e_6, g_7⟩ := (hf0.mono RText.mono le_2).rows.at_ (ne_nil_of_lt hk1)
    obtain ⟨cs_8, hA_9, hc_10⟩ := g_7 k1 hk1
    refine ix2 Try.runUnderlying74 Try.sizeOf9 rfl e_6 rfl rfl hk1 rfl ?_
    obtain rfl := hA_9
    refine ld (Says.fz hc_10) Try.isAgg9 rfl (Nat.add_zero _).symm rfl rfl ?_
    refine asg rfl rfl ?_
    refine nl ?_
    refine sr ?_
    refine mv rfl rfl ?_
    refine nl ?_
    refine cdT rfl (by omega) ?_
    refine rg ?_
    refine mv rfl rfl ?_
    refine mv rfl rfl ?_
    have oe44 := (ok27.el rfl _ (lT_mem (List.getElem_mem hk1))).1 (by decide)
    have hp44 : (GOf (fs_DescribeGroupsRequest[0]'(by decide)) v true) ((lT (T.at 0))[k1]) = counted true false ((lT (T.at 0))[k1]).s.length 2 ++ ((lT (T.at 0))[k1]).s := G_text (f := (fs_DescribeGroupsRequest[0]'(by decide))) (by decide) oe44
    have hs44 := el_size hs27 hk1 hp44
    have ee44 := el_end (B0 := D ++ (counted true false (lT (T.at 0)).length 4)) hk1 hp44
    refine cl rfl rfl rfl (OutK.cast (k_AppendCompactString (x := ((lT (T.at 0))[k1]).s) (by omega) pk10 hs44) ee44) rfl (fun v_ H1 L1 hle hR => ?_)
    obtain ⟨rfl, a44, c44, N44, rfl, rfl, h44⟩ := hR
    have r44 := h44.1
    refine asg rfl rfl ?_
    refine nN ?_
    refine Nb ?_
    refine fun a_ w_ hA hw => ⟨_, _, _, hA.sub ?_, le_2, hw, _, rfl, _, _, _, _, rfl, rfl, r44, rfl⟩
    exact (.cons rfl (.cons rfl (.cons rfl (.cons rfl (.cons rfl (.cons rfl (.cons rfl (.nil _))))))))
  · skip
    obtain ⟨a_k1, m_k1, c_k1, N_k1, rfl, rfl, pk10, pk11⟩ := hI
    refine toWp ?_
    have eL27 : D ++ (counted true false (lT (T.at 0)).length 4) ++ ((lT (T.at 0)).take (lT (T.at 0)).length).flatMap (GOf (fs_DescribeGroupsRequest[0]'(by decide)) v true) = D ++ plainTo (zipped fs_DescribeGroupsRequest v true T) v 1 := by rw [List.take_length, List.append_assoc]; exact e_1
    rw [eL27] at pk10 pk11
    subst pk11
    refine sq ?_
    refine sr ?_
    refine mv rfl rfl ?_
    refine ge rfl rfl rfl ?_
    refine nl ?_
    refine cdT rfl (by omega) ?_
    refine sr ?_
    refine mv rfl rfl ?_
    refine nc rfl rfl ?_
    refine fa0 F76_2 rfl rfl ?_
    refine ld (Says.fz (hv.mono le_3)) Try.isAgg4 rfl (Nat.zero_add _).symm rfl rfl ?_
    refine asg rfl rfl ?_
    refine nl ?_
    refine rg ?_
    refine mv rfl rfl ?_
    refine mv rfl rfl ?_
    have ok57 := hok.get 1 (by decide) (has_yes (show (3 : Int) ≤ v by omega) (show ((-1) : Int) < 0 ∨ v ≤ (-1) by omega))
    have e_11 : D ++ plainTo (zipped fs_DescribeGroupsRequest v true T) v 1 ++ ([if decide ((T.at 1).n % 2 = 1) then 1 else 0] : List UInt8) = D ++ plainTo (zipped fs_DescribeGroupsRequest v true T) v 2 := fold_yes (fs := fs_DescribeGroupsRequest) (v := v) (flex := true) (t := T) (B := D) 1 (by decide) (by decide) (has_yes (show (3 : Int) ≤ v by omega) (show ((-1) : Int) < 0 ∨ v ≤ (-1) by omega)) ((FB_bool (f := (fs_DescribeGroupsRequest[1]'(by decide))) (by decide)).trans (bool_byte _))
    have hs57 := fold_size e_11 (by decide) hb
    refine cl rfl rfl rfl (OutK.cast (k_AppendBool (b := decide ((T.at 1).n % 2 = 1)) pk10 hs57) e_11) rfl (fun v_ H1 L1 hle hR => ?_)
    obtain ⟨rfl, a57, c57, N57, rfl, rfl, h57⟩ := hR
    have r57 := h57.1
    refine asg rfl rfl ?_
    refine nl ?_
    refine sq ?_
    refine sr ?_
    refine mv rfl rfl ?_
    refine nl ?_
    refine cdT rfl (by omega) ?_
    refine sr ?_
    refine mv rfl rfl ?_
    refine mv rfl rfl ?_
    refine nc rfl rfl ?_
    refine fa0 F76_3 rfl rfl ?_
    refine cl rfl rfl rfl (t_lenU (j := 3) (hv.mono le_3) rfl (hf1.mono le_3)) rfl (fun v_ H1 L1 hle hR => ?_)
    obtain ⟨rfl, rfl, rfl⟩ := hR
    have hu63 := hok.u
    have hul63 := hu63.2.1
    obtain ⟨hz63a, hz63b⟩ := part_size_plain (by decide) hu63 hb
    refine cv Try.runUnderlying3 Try.runUnderlying60 rfl (w32u (by omega) (by omega)) rfl ?_
    refine ad rfl rfl ((w32u (by omega) (by omega)).trans (Int.zero_add _)) rfl ?_
    refine cl rfl rfl rfl (k_AppendUvarint (n := T.u.length) (by omega) r57 hz63a) rfl (fun v_ H1 L1 hle hR => ?_)
    obtain ⟨rfl, a66, c66, N66, rfl, rfl, h66⟩ := hR
    have r66 := h66.1
    refine asg rfl rfl ?_
    refine nl ?_
    refine rg ?_
    refine mv rfl rfl ?_
    refine nc rfl rfl ?_
    refine fa0 F76_3 rfl rfl ?_
    refine mv rfl rfl ?_
    refine cl rfl rfl rfl (t_append_each (j := 3) (hv.mono le_3) rfl (hf1.mono le_3) (by omega) r66 (fun p hp => by have := hu63.2.2 p hp; omega) hz63b) rfl (fun v_ H1 L1 le_12 hR => ?_)
    obtain ⟨a71, c71, N71, rfl, rfl, h71⟩ := hR
    have r71 := h71.1
    have eP_13 : D ++ plainTo (zipped fs_DescribeGroupsRequest v true T) v 2 ++ uvar T.u.length ++ T.u.flatMap tagU = D ++ partB fs_DescribeGroupsRequest v true T := part_close (B := D) (by decide) hu63
    rw [eP_13] at r71 ⊢
    refine asg rfl rfl ?_
    refine nl ?_
    refine sr ?_
    refine mv rfl rfl ?_
    refine asg rfl rfl ?_
    refine nl ?_
    exact rT rfl rfl (le_3.trans le_12) (fun _ _ h => h) (OutB.of r71 rfl)
end Go.Sx

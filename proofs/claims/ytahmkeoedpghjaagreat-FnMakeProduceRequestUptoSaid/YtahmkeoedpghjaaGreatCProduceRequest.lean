import Derived.Test.YtahmkeoedpghjaaGreatBProduceRequest
import Derived.KernelRfl
set_option linter.unusedVariables false
set_option linter.unusedSimpArgs false
set_option maxRecDepth 100000
set_option maxHeartbeats 20000000
namespace Go.Sx
open Go.Proofs
theorem app_ProduceRequest_f {H : Fz} {L : Own} {a : Option Addr} {cap b : Nat} {D : List UInt8} {N : Chunk} {cs : List Value} {T : Tr} {v : Int} (hr : Row 5 1 a D.length cap (bytesOf D) N) (hv : H.at b 0 cs) (hA : At_ProduceRequest v H T cs) (hok : OkP fs_ProduceRequest v T) (h0 : 0 ≤ v) (h1 : v ≤ 8) (hb : D.length + (partB fs_ProduceRequest v false T).length ≤ LIM) :
    Fn Tryz.prog 19 [.pointer (some ⟨b, 0, none⟩), .slice a D.length cap] H (N :: L) (fun r H' L' => OutB 5 L (D ++ partB fs_ProduceRequest v false T) r L') := by
  obtain ⟨p0, a3, c3, mt, rfl, hf0, hf1, hf2⟩ := hA
  refine Fn.mk Tryz.call19 Tryz.func19 rfl Tryz.ntmps19 rfl ?_
  refine sr ?_
  refine asg rfl rfl ?_
  refine nl ?_
  refine sr ?_
  refine mv rfl rfl ?_
  refine nc rfl rfl ?_
  refine fa0 F58_0 rfl rfl ?_
  refine ld (Says.fz hv) Tryz.isAgg45 rfl (Nat.zero_add _).symm rfl rfl ?_
  refine asg rfl rfl ?_
  refine nl ?_
  refine sr ?_
  refine mv rfl rfl ?_
  refine nl ?_
  refine sr ?_
  refine mv rfl rfl ?_
  refine ge rfl rfl rfl ?_
  refine asg rfl rfl ?_
  refine nl ?_
  refine sr ?_
  refine mv rfl rfl ?_
  refine nl ?_
  refine sq ?_
  refine sr ?_
  refine mv rfl rfl ?_
  refine ge rfl rfl rfl ?_
  refine nl ?_
  refine cutT (fun l' H' L' => ∃ (aj_1 : Option Addr), ∃ (mj_1 : Nat), ∃ (cj_1 : Nat), ∃ (Nj_1 : Chunk), [(0, .pointer (some ⟨b, 0, none⟩)), (1, .slice aj_1 mj_1 cj_1), (5, .int .i16 v), (6, .bool (decide ((9 : Int) ≤ v)))] = l' ∧ Nj_1 :: L = L' ∧ Row 5 1 aj_1 mj_1 cj_1 (bytesOf (D ++ plainTo (zipped fs_ProduceRequest v false T) v 1)) Nj_1 ∧ mj_1 = (D ++ plainTo (zipped fs_ProduceRequest v false T) v 1).length) ?_ (fun l' H' L' le_2 hI => ?_)
  · skip
    refine cd rfl (fun h29 => ?_) (fun h29 => ?_)
    · skip
      refine sr ?_
      refine mv rfl rfl ?_
      refine nc rfl rfl ?_
      refine fa0 F58_1 rfl rfl ?_
      refine ld (Says.fz hv) Tryz.isAgg52 rfl (Nat.zero_add _).symm rfl rfl ?_
      refine asg rfl rfl ?_
      refine nl ?_
      refine sr ?_
      refine mv rfl rfl ?_
      refine nl ?_
      refine cdF rfl (by omega) ?_
      refine rg ?_
      refine mv rfl rfl ?_
      refine mv rfl rfl ?_
      have ok40 := hok.get 0 (by decide) (has_yes (show (3 : Int) ≤ v by omega) (show ((-1) : Int) < 0 ∨ v ≤ (-1) by omega))
      have e_3 : D ++ (counted false (T.at 0).nul (sT (T.at 0)).length 2 ++ sT (T.at 0)) = D ++ plainTo (zipped fs_ProduceRequest v false T) v 1 := fold_first (fs := fs_ProduceRequest) (v := v) (flex := false) (t := T) (B := D) 0 rfl (by decide) (by decide) (has_yes (show (3 : Int) ≤ v by omega) (show ((-1) : Int) < 0 ∨ v ≤ (-1) by omega)) (FB_text (f := (fs_ProduceRequest[0]'(by decide))) (by decide) (by decide) ok40)
      have hs40 := fold_size e_3 (by decide) hb
      refine cl rfl rfl rfl (OutK.cast (k_AppendNullableString hf0 (ok40.s (Or.inl rfl)) hr hs40) e_3) rfl (fun v_ H1 L1 hle hR => ?_)
      obtain ⟨rfl, a40, c40, N40, rfl, rfl, h40⟩ := hR
      have r40 := h40.1
      refine asg rfl rfl ?_
      refine nN ?_
      refine fun a_ w_ hA hw => ⟨_, _, _, hA.sub ?_, (Fz.le.refl _), hw, _, _, _, _, rfl, rfl, r40, rfl⟩
      exact (.cons rfl (.cons rfl (.cons rfl (.cons rfl (.nil _)))))
    · skip
      refine skN ?_
      have es_4 : plainTo (zipped fs_ProduceRequest v false T) v 1 = plainTo (zipped fs_ProduceRequest v false T) v 0 := (piece_no2 (fs := fs_ProduceRequest) (v := v) (flex := false) (t := T) (k := 0) (by decide) (has_no (show v < (3 : Int) ∨ ((0 : Int) ≤ (-1) ∧ (-1) < v) by omega)))
      have eX_5 : D = D ++ plainTo (zipped fs_ProduceRequest v false T) v 1 := by rw [es_4, plain0, List.append_nil]
      refine fun a_ w_ hA hw => ⟨_, _, _, hA.sub ?_, (Fz.le.refl _), hw, _, _, _, _, rfl, rfl, (by rw [← eX_5]; exact hr), (by rw [← eX_5])⟩
      exact (.cons rfl (.cons rfl (.cons rfl (.cons rfl (.nil _)))))
  · skip
    obtain ⟨aj_1, mj_1, cj_1, Nj_1, rfl, rfl, pj0, pj1⟩ := hI
    subst pj1
    have rj_1 := pj0
    refine sq ?_
    refine sr ?_
    refine mv rfl rfl ?_
    refine nc rfl rfl ?_
    refine fa0 F58_2 rfl rfl ?_
    refine ld (Says.fz (hv.mono le_2)) Tryz.isAgg45 rfl (Nat.zero_add _).symm rfl rfl ?_
    refine asg rfl rfl ?_
    refine nl ?_
    refine rg ?_
    refine mv rfl rfl ?_
    refine mv rfl rfl ?_
    have ok47 := hok.get 1 (by decide) (has_yes (show (0 : Int) ≤ v by omega) (show ((-1) : Int) < 0 ∨ v ≤ (-1) by omega))
    have e_6 : D ++ plainTo (zipped fs_ProduceRequest v false T) v 1 ++ (fixed (IntKind.i16.wrap (T.at 1).n) 2) = D ++ plainTo (zipped fs_ProduceRequest v false T) v 2 := fold_yes (fs := fs_ProduceRequest) (v := v) (flex := false) (t := T) (B := D) 1 (by decide) (by decide) (has_yes (show (0 : Int) ≤ v by omega) (show ((-1) : Int) < 0 ∨ v ≤ (-1) by omega)) ((FB_int (f := (fs_ProduceRequest[1]'(by decide))) (by decide) (by decide)).trans (fixed_i16 _).symm)
    have hs47 := fold_size e_6 (by decide) hb
    refine cl rfl rfl rfl (OutK.cast (k_AppendInt16 (u := IntKind.i16.wrap (T.at 1).n) rj_1 hs47) e_6) rfl (fun v_ H1 L1 hle hR => ?_)
    obtain ⟨rfl, a47, c47, N47, rfl, rfl, h47⟩ := hR
    have r47 := h47.1
    refine asg rfl rfl ?_
    refine nl ?_
    refine sq ?_
    refine sr ?_
    refine mv rfl rfl ?_
    refine nc rfl rfl ?_
    refine fa0 F58_3 rfl rfl ?_
    refine ld (Says.fz (hv.mono le_2)) Tryz.isAgg21 rfl (Nat.zero_add _).symm rfl rfl ?_
    refine asg rfl rfl ?_
    refine nl ?_
    refine rg ?_
    refine mv rfl rfl ?_
    refine mv rfl rfl ?_
    have ok54 := hok.get 2 (by decide) (has_yes (show (0 : Int) ≤ v by omega) (show ((-1) : Int) < 0 ∨ v ≤ (-1) by omega))
    have e_7 : D ++ plainTo (zipped fs_ProduceRequest v false T) v 2 ++ (fixed (IntKind.i32.wrap (T.at 2).n) 4) = D ++ plainTo (zipped fs_ProduceRequest v false T) v 3 := fold_yes (fs := fs_ProduceRequest) (v := v) (flex := false) (t := T) (B := D) 2 (by decide) (by decide) (has_yes (show (0 : Int) ≤ v by omega) (show ((-1) : Int) < 0 ∨ v ≤ (-1) by omega)) ((FB_int (f := (fs_ProduceRequest[2]'(by decide))) (by decide) (by decide)).trans (fixed_i32 _).symm)
    have hs54 := fold_size e_7 (by decide) hb
    refine cl rfl rfl rfl (OutK.cast (k_AppendInt32 (u := IntKind.i32.wrap (T.at 2).n) r47 hs54) e_7) rfl (fun v_ H1 L1 hle hR => ?_)
    obtain ⟨rfl, a54, c54, N54, rfl, rfl, h54⟩ := hR
    have r54 := h54.1
    refine asg rfl rfl ?_
    refine nl ?_
    refine sq ?_
    refine sr ?_
    refine mv rfl rfl ?_
    refine nc rfl rfl ?_
    refine fa0 F58_4 rfl rfl ?_
    refine ld (Says.fz (hv.mono le_2)) Tryz.isAgg53 rfl (Nat.zero_add _).symm rfl rfl ?_
    refine asg rfl rfl ?_
    refine nl ?_
    refine sq ?_
    refine sr ?_
    refine mv rfl rfl ?_
    refine nl ?_
    refine cdF rfl (by omega) ?_
    refine rg ?_
    refine mv rfl rfl ?_
    refine mv rfl rfl ?_
    refine ls Tryz.runUnderlying53 rfl rfl ?_
    have ok67 := hok.get 3 (by decide) (has_yes (show (0 : Int) ≤ v by omega) (show ((-1) : Int) < 0 ∨ v ≤ (-1) by omega))
    have nn67 := ok67.nn (by decide) (by decide)
    have ll67 := lT_len (ok67.len rfl)
    have e_8 : D ++ plainTo (zipped fs_ProduceRequest v false T) v 3 ++ (counted false false (lT (T.at 3)).length 4 ++ (lT (T.at 3)).flatMap (GOf (fs_ProduceRequest[3]'(by decide)) v false)) = D ++ plainTo (zipped fs_ProduceRequest v false T) v 4 := fold_yes (fs := fs_ProduceRequest) (v := v) (flex := false) (t := T) (B := D) 3 (by decide) (by decide) (has_yes (show (0 : Int) ≤ v by omega) (show ((-1) : Int) < 0 ∨ v ≤ (-1) by omega)) (by rw [FB_list (f := (fs_ProduceRequest[3]'(by decide))) (by decide) (by decide) ok67, nn67])
    have hs67 := fold_size e_8 (by decide) hb
    have hc67 : (D ++ plainTo (zipped fs_ProduceRequest v false T) v 3).length + (counted false false (lT (T.at 3)).length 4).length ≤ LIM := by have h := hs67; simp only [List.length_append] at h ⊢; omega
    refine cl rfl rfl rfl (OutK.cast (k_AppendArrayLen (u := ((lT (T.at 3)).length : Int)) r54 hc67) (show _ = D ++ plainTo (zipped fs_ProduceRequest v false T) v 3 ++ (counted false false (lT (T.at 3)).length 4) from rfl)) rfl (fun v_ H1 L1 hle hR => ?_)
    obtain ⟨rfl, a67, c67, N67, rfl, rfl, h67⟩ := hR
    have r67 := h67.1
    refine asg rfl rfl ?_
    refine nl ?_
    refine sr ?_
    refine mv rfl rfl ?_
    refine ls Tryz.runUnderlying53 rfl rfl ?_
    refine mv rfl rfl ?_
    refine nl ?_
    refine fr ((lT (T.at 3)).length) (fun k1 l' H' L' => ∃ (a_k1 : Option Addr), ∃ (m_k1 : Nat), ∃ (c_k1 : Nat), ∃ (N_k1 : Chunk), [(0, .pointer (some ⟨b, 0, none⟩)), (1, .slice a_k1 m_k1 c_k1), (5, .int .i16 v), (6, .bool (decide ((9 : Int) ≤ v))), (10, .slice a3 (lT (T.at 3)).length c3), (69, .int .i64 ((lT (T.at 3)).length : Int))] = l' ∧ N_k1 :: L = L' ∧ Row 5 1 a_k1 m_k1 c_k1 (bytesOf (D ++ plainTo (zipped fs_ProduceRequest v false T) v 3 ++ (counted false false (lT (T.at 3)).length 4) ++ ((lT (T.at 3)).take k1).flatMap (GOf (fs_ProduceRequest[3]'(by decide)) v false))) N_k1 ∧ m_k1 = (D ++ plainTo (zipped fs_ProduceRequest v false T) v 3 ++ (counted false false (lT (T.at 3)).length 4) ++ ((lT (T.at 3)).take k1).flatMap (GOf (fs_ProduceRequest[3]'(by decide)) v false)).length) [(0, .pointer (some ⟨b, 0, none⟩)), (1, .slice _ _ _), (5, .int .i16 v), (6, .bool (decide ((9 : Int) ≤ v))), (10, .slice a3 (lT (T.at 3)).length c3), (69, .int .i64 ((lT (T.at 3)).length : Int))] (fun k1 l' H' L' h => ?_) (by omega) rfl (.cons rfl (.cons rfl (.cons rfl (.cons rfl (.cons rfl (.cons rfl (.nil _))))))) ⟨_, _, _, _, rfl, rfl, (by rw [List.take_zero, List.flatMap_nil, List.append_nil]; exact r67), (by rw [List.take_zero, List.flatMap_nil, List.append_nil])⟩ rfl rfl rfl rfl rfl (fun k1 l' H' L' hk1 le_9 hI => ?_) (fun l' H' L' le_10 hI => ?_)
    · obtain ⟨a_k1, m_k1, c_k1, N_k1, rfl, _⟩ := h; exact ⟨rfl, rfl, rfl, rfl⟩
    · skip
      obtain ⟨a_k1, m_k1, c_k1, N_k1, rfl, rfl, pk10, pk11⟩ := hI
      subst pk11
      refine sr ?_
      refine mv rfl rfl ?_
      refine asg rfl rfl ?_
      refine nl ?_
      refine sr ?_
      refine mv rfl rfl ?_
      refine mv rfl rfl ?_
      obtain ⟨b_11, o_12, e_13, g_14⟩ := (hf1.mono At_ProduceRequestTopic.mono (le_2.trans le_9)).rows.at_ (ne_nil_of_lt hk1)
      obtain ⟨cs_15, hA_16, hc_17⟩ := g_14 k1 hk1
      refine ix2 Tryz.runUnderlying53 Tryz.sizeOf76 rfl e_13 rfl rfl hk1 rfl ?_
      obtain ⟨a_k1_2, c_k1_2, m_k1_t, rfl, hf_k1_0, hf_k1_1⟩ := hA_16
      have oek1 := (ok67.el rfl _ (lT_mem (List.getElem_mem hk1))).2 rfl
      obtain ⟨B_k1, hdk1⟩ : ∃ z : List UInt8, z = D ++ plainTo (zipped fs_ProduceRequest v false T) v 3 ++ (counted false false (lT (T.at 3)).length 4) ++ ((lT (T.at 3)).take k1).flatMap (GOf (fs_ProduceRequest[3]'(by decide)) v false) := ⟨_, rfl⟩
      have rbk1 := pk10
      rw [← hdk1] at rbk1 ⊢
      have hBk1 : B_k1.length + (partB fs_sProduceRequestTopic v false ((lT (T.at 3))[k1])).length ≤ LIM := by rw [hdk1]; exact el_size hs67 hk1 (GOf_part (by decide) _)
      refine asg rfl rfl ?_
      refine nl ?_
      refine sq ?_
      refine sr ?_
      refine mv rfl rfl ?_
      refine ge rfl rfl rfl ?_
      refine mv rfl rfl ?_
      refine spl (t := 78) rfl (fun _ => ?_) (fun hn_ => absurd (by omega) hn_)
      refine gr rfl rfl ?_
      refine mv rfl rfl ?_
      refine gr rfl rfl ?_
      refine le rfl rfl rfl ?_
      refine pk rfl rfl rfl rfl ?_
      refine nl ?_
      refine cdT rfl (by omega) ?_
      refine sr ?_
      refine mv rfl rfl ?_
      refine nc rfl rfl ?_
      refine fa F76_0 rfl rfl ?_
      refine ld (Says.fz hc_17) Tryz.isAgg9 rfl (Nat.add_zero _).symm rfl rfl ?_
      refine asg rfl rfl ?_
      refine nl ?_
      refine sr ?_
      refine mv rfl rfl ?_
      refine nl ?_
      refine cdF rfl (by omega) ?_
      refine rg ?_
      refine mv rfl rfl ?_
      refine mv rfl rfl ?_
      have ok92 := oek1.get 0 (by decide) (has_yes (show (0 : Int) ≤ v by omega) (show (12 : Int) < 0 ∨ v ≤ 12 by omega))
      have nn92 := ok92.nn (by decide) (by decide)
      have e_18 : B_k1 ++ (counted false false (((lT (T.at 3))[k1]).at 0).s.length 2 ++ (((lT (T.at 3))[k1]).at 0).s) = B_k1 ++ plainTo (zipped fs_sProduceRequestTopic v false ((lT (T.at 3))[k1])) v 1 := fold_first (fs := fs_sProduceRequestTopic) (v := v) (flex := false) (t := ((lT (T.at 3))[k1])) (B := B_k1) 0 rfl (by decide) (by decide) (has_yes (show (0 : Int) ≤ v by omega) (show (12 : Int) < 0 ∨ v ≤ 12 by omega)) (by rw [FB_text (f := (fs_sProduceRequestTopic[0]'(by decide))) (by decide) (by decide) ok92, sT_nn nn92, nn92])
      have hs92 := fold_size e_18 (by decide) hBk1
      refine cl rfl rfl rfl (OutK.cast (k_AppendString (x := (((lT (T.at 3))[k1]).at 0).s) rbk1 hs92) e_18) rfl (fun v_ H1 L1 hle hR => ?_)
      obtain ⟨rfl, a92, c92, N92, rfl, rfl, h92⟩ := hR
      have r92 := h92.1
      refine asg rfl rfl ?_
      refine nl ?_
      refine sq ?_
      refine sr ?_
      refine mv rfl rfl ?_
      refine ge rfl rfl rfl ?_
      refine nl ?_
      refine cdF rfl (by omega) ?_
      refine skt ?_
      refine sq ?_
      refine sr ?_
      refine mv rfl rfl ?_
      refine nc rfl rfl ?_
      refine fa F76_2 rfl rfl ?_
      refine ld (Says.fz hc_17) Tryz.isAgg74 rfl rfl rfl rfl ?_
      refine asg rfl rfl ?_
      refine nl ?_
      refine sq ?_
      refine sr ?_
      refine mv rfl rfl ?_
      refine nl ?_
      refine cdF rfl (by omega) ?_
      refine rg ?_
      refine mv rfl rfl ?_
      refine mv rfl rfl ?_
      refine ls Tryz.runUnderlying74 rfl rfl ?_
      have es_19 : plainTo (zipped fs_sProduceRequestTopic v false ((lT (T.at 3))[k1])) v 2 = plainTo (zipped fs_sProduceRequestTopic v false ((lT (T.at 3))[k1])) v 1 := (piece_no2 (fs := fs_sProduceRequestTopic) (v := v) (flex := false) (t := ((lT (T.at 3))[k1])) (k := 1) (by decide) (has_no (show v < (13 : Int) ∨ ((0 : Int) ≤ (-1) ∧ (-1) < v) by omega)))
      have eX_20 : B_k1 ++ plainTo (zipped fs_sProduceRequestTopic v false ((lT (T.at 3))[k1])) v 1 = B_k1 ++ plainTo (zipped fs_sProduceRequestTopic v false ((lT (T.at 3))[k1])) v 2 := by rw [es_19]
      have rx_21 := r92
      rw [eX_20] at rx_21 ⊢
      have ok114 := oek1.get 2 (by decide) (has_yes (show (0 : Int) ≤ v by omega) (show ((-1) : Int) < 0 ∨ v ≤ (-1) by omega))
      have nn114 := ok114.nn (by decide) (by decide)
      have ll114 := lT_len (ok114.len rfl)
      have e_22 : B_k1 ++ plainTo (zipped fs_sProduceRequestTopic v false ((lT (T.at 3))[k1])) v 2 ++ (counted false false (lT (((lT (T.at 3))[k1]).at 2)).length 4 ++ (lT (((lT (T.at 3))[k1]).at 2)).flatMap (GOf (fs_sProduceRequestTopic[2]'(by decide)) v false)) = B_k1 ++ plainTo (zipped fs_sProduceRequestTopic v false ((lT (T.at 3))[k1])) v 3 := fold_yes (fs := fs_sProduceRequestTopic) (v := v) (flex := false) (t := ((lT (T.at 3))[k1])) (B := B_k1) 2 (by decide) (by decide) (has_yes (show (0 : Int) ≤ v by omega) (show ((-1) : Int) < 0 ∨ v ≤ (-1) by omega)) (by rw [FB_list (f := (fs_sProduceRequestTopic[2]'(by decide))) (by decide) (by decide) ok114, nn114])
      have hs114 := fold_size e_22 (by decide) hBk1
      have hc114 : (B_k1 ++ plainTo (zipped fs_sProduceRequestTopic v false ((lT (T.at 3))[k1])) v 2).length + (counted false false (lT (((lT (T.at 3))[k1]).at 2)).length 4).length ≤ LIM := by have h := hs114; simp only [List.length_append] at h ⊢; omega
      refine cl rfl rfl rfl (OutK.cast (k_AppendArrayLen (u := ((lT (((lT (T.at 3))[k1]).at 2)).length : Int)) rx_21 hc114) (show _ = B_k1 ++ plainTo (zipped fs_sProduceRequestTopic v false ((lT (T.at 3))[k1])) v 2 ++ (counted false false (lT (((lT (T.at 3))[k1]).at 2)).length 4) from rfl)) rfl (fun v_ H1 L1 hle hR => ?_)
      obtain ⟨rfl, a114, c114, N114, rfl, rfl, h114⟩ := hR
      have r114 := h114.1
      refine asg rfl rfl ?_
      refine nl ?_
      refine sr ?_
      refine mv rfl rfl ?_
      refine ls Tryz.runUnderlying74 rfl rfl ?_
      refine mv rfl rfl ?_
      refine nl ?_
      refine fr ((lT (((lT (T.at 3))[k1]).at 2)).length) (fun k2 l' H' L' => ∃ (a_k2 : Option Addr), ∃ (m_k2 : Nat), ∃ (c_k2 : Nat), ∃ (N_k2 : Chunk), [(0, .pointer (some ⟨b, 0, none⟩)), (1, .slice a_k2 m_k2 c_k2), (5, .int .i16 v), (6, .bool (decide ((9 : Int) ≤ v))), (10, .slice a3 (lT (T.at 3)).length c3), (12, .pointer (some ⟨b_11, o_12 + k1 * 19, none⟩)), (15, .slice a_k1_2 (lT (((lT (T.at 3))[k1]).at 2)).length c_k1_2), (69, .int .i64 ((lT (T.at 3)).length : Int)), (70, .int .i64 (k1 : Int)), (116, .int .i64 ((lT (((lT (T.at 3))[k1]).at 2)).length : Int))] = l' ∧ N_k2 :: L = L' ∧ Row 5 1 a_k2 m_k2 c_k2 (bytesOf (B_k1 ++ plainTo (zipped fs_sProduceRequestTopic v false ((lT (T.at 3))[k1])) v 2 ++ (counted false false (lT (((lT (T.at 3))[k1]).at 2)).length 4) ++ ((lT (((lT (T.at 3))[k1]).at 2)).take k2).flatMap (GOf (fs_sProduceRequestTopic[2]'(by decide)) v false))) N_k2 ∧ m_k2 = (B_k1 ++ plainTo (zipped fs_sProduceRequestTopic v false ((lT (T.at 3))[k1])) v 2 ++ (counted false false (lT (((lT (T.at 3))[k1]).at 2)).length 4) ++ ((lT (((lT (T.at 3))[k1]).at 2)).take k2).flatMap (GOf (fs_sProduceRequestTopic[2]'(by decide)) v false)).length) [(0, .pointer (some ⟨b, 0, none⟩)), (1, .slice _ _ _), (5, .int .i16 v), (6, .bool (decide ((9 : Int) ≤ v))), (10, .slice a3 (lT (T.at 3)).length c3), (12, .pointer (some ⟨b_11, o_12 + k1 * 19, none⟩)), (15, .slice a_k1_2 (lT (((lT (T.at 3))[k1]).at 2)).length c_k1_2), (69, .int .i64 ((lT (T.at 3)).length : Int)), (70, .int .i64 (k1 : Int)), (116, .int .i64 ((lT (((lT (T.at 3))[k1]).at 2)).length : Int))] (fun k2 l' H' L' h => ?_) (by omega) rfl (.cons rfl (.cons rfl (.cons rfl (.cons rfl (.cons rfl (.cons rfl (.cons rfl (.cons rfl (.cons rfl (.cons rfl (.nil _))))))))))) ⟨_, _, _, _, rfl, rfl, (by rw [List.take_zero, List.flatMap_nil, List.append_nil]; exact r114), (by rw [List.take_zero, List.flatMap_nil, List.append_nil])⟩ rfl rfl rfl rfl rfl (fun k2 l' H' L' hk2 le_23 hI => ?_) (fun l' H' L' le_24 hI => ?_)
      · obtain ⟨a_k2, m_k2, c_k2, N_k2, rfl, _⟩ := h; exact ⟨rfl, rfl, rfl, rfl⟩
      · skip
        obtain ⟨a_k2, m_k2, c_k2, N_k2, rfl, rfl, pk20, pk21⟩ := hI
        subst pk21
        refine sr ?_
        refine mv rfl rfl ?_
        refine asg rfl rfl ?_
        refine nl ?_
        refine sr ?_
        refine mv rfl rfl ?_
        refine mv rfl rfl ?_
        obtain ⟨b_25, o_26, e_27, g_28⟩ := (hf_k1_0.mono At_ProduceRequestTopicPartition.mono le_23).rows.at_ (ne_nil_of_lt hk2)
        obtain ⟨cs_29, hA_30, hc_31⟩ := g_28 k2 hk2
        refine ix2 Tryz.runUnderlying74 Tryz.sizeOf88 rfl e_27 rfl rfl hk2 rfl ?_
        obtain ⟨a_k2_1, c_k2_1, m_k2_t, rfl, hf_k2_0, hf_k2_1⟩ := hA_30
        have oek2 := (ok114.el rfl _ (lT_mem (List.getElem_mem hk2))).2 rfl
        obtain ⟨B_k2, hdk2⟩ : ∃ z : List UInt8, z = B_k1 ++ plainTo (zipped fs_sProduceRequestTopic v false ((lT (T.at 3))[k1])) v 2 ++ (counted false false (lT (((lT (T.at 3))[k1]).at 2)).length 4) ++ ((lT (((lT (T.at 3))[k1]).at 2)).take k2).flatMap (GOf (fs_sProduceRequestTopic[2]'(by decide)) v false) := ⟨_, rfl⟩
        have rbk2 := pk20
        rw [← hdk2] at rbk2 ⊢
        have hBk2 : B_k2.length + (partB fs_sProduceRequestTopicPartition v false ((lT (((lT (T.at 3))[k1]).at 2))[k2])).length ≤ LIM := by rw [hdk2]; exact el_size hs114 hk2 (GOf_part (by decide) _)
        refine asg rfl rfl ?_
        refine nl ?_
        refine sq ?_
        refine sr ?_
        refine mv rfl rfl ?_
        refine nc rfl rfl ?_
        refine fa F88_0 rfl rfl ?_
        refine ld (Says.fz hc_31) Tryz.isAgg21 rfl (Nat.add_zero _).symm rfl rfl ?_
        refine asg rfl rfl ?_
        refine nl ?_
        refine rg ?_
        refine mv rfl rfl ?_
        refine mv rfl rfl ?_
        have ok129 := oek2.get 0 (by decide) (has_yes (show (0 : Int) ≤ v by omega) (show ((-1) : Int) < 0 ∨ v ≤ (-1) by omega))
        have e_32 : B_k2 ++ (fixed (IntKind.i32.wrap (((lT (((lT (T.at 3))[k1]).at 2))[k2]).at 0).n) 4) = B_k2 ++ plainTo (zipped fs_sProduceRequestTopicPartition v false ((lT (((lT (T.at 3))[k1]).at 2))[k2])) v 1 := fold_first (fs := fs_sProduceRequestTopicPartition) (v := v) (flex := false) (t := ((lT (((lT (T.at 3))[k1]).at 2))[k2])) (B := B_k2) 0 rfl (by decide) (by decide) (has_yes (show (0 : Int) ≤ v by omega) (show ((-1) : Int) < 0 ∨ v ≤ (-1) by omega)) ((FB_int (f := (fs_sProduceRequestTopicPartition[0]'(by decide))) (by decide) (by decide)).trans (fixed_i32 _).symm)
        have hs129 := fold_size e_32 (by decide) hBk2
        refine cl rfl rfl rfl (OutK.cast (k_AppendInt32 (u := IntKind.i32.wrap (((lT (((lT (T.at 3))[k1]).at 2))[k2]).at 0).n) rbk2 hs129) e_32) rfl (fun v_ H1 L1 hle hR => ?_)
        obtain ⟨rfl, a129, c129, N129, rfl, rfl, h129⟩ := hR
        have r129 := h129.1
        refine asg rfl rfl ?_
        refine nl ?_
        refine sq ?_
        refine sr ?_
        refine mv rfl rfl ?_
        refine nc rfl rfl ?_
        refine fa F88_1 rfl rfl ?_
        refine ld (Says.fz hc_31) Tryz.isAgg22 rfl rfl rfl rfl ?_
        refine asg rfl rfl ?_
        refine nl ?_
        refine sr ?_
        refine mv rfl rfl ?_
        refine nl ?_
        refine cdF rfl (by omega) ?_
        refine rg ?_
        refine mv rfl rfl ?_
        refine mv rfl rfl ?_
        have ok140 := oek2.get 1 (by decide) (has_yes (show (0 : Int) ≤ v by omega) (show ((-1) : Int) < 0 ∨ v ≤ (-1) by omega))
        have e_33 : B_k2 ++ plainTo (zipped fs_sProduceRequestTopicPartition v false ((lT (((lT (T.at 3))[k1]).at 2))[k2])) v 1 ++ (counted false (((lT (((lT (T.at 3))[k1]).at 2))[k2]).at 1).nul (sT (((lT (((lT (T.at 3))[k1]).at 2))[k2]).at 1)).length 4 ++ sT (((lT (((lT (T.at 3))[k1]).at 2))[k2]).at 1)) = B_k2 ++ plainTo (zipped fs_sProduceRequestTopicPartition v false ((lT (((lT (T.at 3))[k1]).at 2))[k2])) v 2 := fold_yes (fs := fs_sProduceRequestTopicPartition) (v := v) (flex := false) (t := ((lT (((lT (T.at 3))[k1]).at 2))[k2])) (B := B_k2) 1 (by decide) (by decide) (has_yes (show (0 : Int) ≤ v by omega) (show ((-1) : Int) < 0 ∨ v ≤ (-1) by omega)) (FB_bytes (f := (fs_sProduceRequestTopicPartition[1]'(by decide))) (by decide) (by decide) ok140)
        have hs140 := fold_size e_33 (by decide) hBk2
        refine cl rfl rfl rfl (OutK.cast (k_AppendNullableBytes hf_k2_0 (ok140.s (Or.inr rfl)) r129 hs140) e_33) rfl (fun v_ H1 L1 hle hR => ?_)
        obtain ⟨rfl, a140, c140, N140, rfl, rfl, h140⟩ := hR
        have r140 := h140.1
        refine asg rfl rfl ?_
        refine nl ?_
        refine sr ?_
        refine mv rfl rfl ?_
        refine nl ?_
        refine cdF rfl (by omega) ?_
        refine skN ?_
        refine Nb ?_
        have eP_34 : B_k2 ++ plainTo (zipped fs_sProduceRequestTopicPartition v false ((lT (((lT (T.at 3))[k1]).at 2))[k2])) v 2 = B_k2 ++ partB fs_sProduceRequestTopicPartition v false ((lT (((lT (T.at 3))[k1]).at 2))[k2]) := by rw [partB_false]; rfl
        have rp_35 := r140
        rw [eP_34] at rp_35 ⊢
        have ee_36 : B_k2 ++ partB fs_sProduceRequestTopicPartition v false ((lT (((lT (T.at 3))[k1]).at 2))[k2]) = B_k1 ++ plainTo (zipped fs_sProduceRequestTopic v false ((lT (T.at 3))[k1])) v 2 ++ (counted false false (lT (((lT (T.at 3))[k1]).at 2)).length 4) ++ ((lT (((lT (T.at 3))[k1]).at 2)).take (k2 + 1)).flatMap (GOf (fs_sProduceRequestTopic[2]'(by decide)) v false) := by rw [hdk2]; exact el_end (B0 := B_k1 ++ plainTo (zipped fs_sProduceRequestTopic v false ((lT (T.at 3))[k1])) v 2 ++ (counted false false (lT (((lT (T.at 3))[k1]).at 2)).length 4)) (G := (GOf (fs_sProduceRequestTopic[2]'(by decide)) v false)) hk2 (GOf_part (by decide) _)
        refine fun a_ w_ hA hw => ⟨_, _, _, hA.sub ?_, le_23, hw, _, rfl, _, _, _, _, rfl, rfl, (by rw [← ee_36]; exact rp_35), (by rw [← ee_36])⟩
        exact (.cons rfl (.cons rfl (.cons rfl (.cons rfl (.cons rfl (.cons rfl (.cons rfl (.cons rfl (.cons rfl (.cons rfl (.cons rfl (.nil _))))))))))))
      · skip
        obtain ⟨a_k2, m_k2, c_k2, N_k2, rfl, rfl, pk20, pk21⟩ := hI
        refine toWp ?_
        have eL114 : B_k1 ++ plainTo (zipped fs_sProduceRequestTopic v false ((lT (T.at 3))[k1])) v 2 ++ (counted false false (lT (((lT (T.at 3))[k1]).at 2)).length 4) ++ ((lT (((lT (T.at 3))[k1]).at 2)).take (lT (((lT (T.at 3))[k1]).at 2)).length).flatMap (GOf (fs_sProduceRequestTopic[2]'(by decide)) v false) = B_k1 ++ plainTo (zipped fs_sProduceRequestTopic v false ((lT (T.at 3))[k1])) v 3 := by rw [List.take_length, List.append_assoc]; exact e_22
        rw [eL114] at pk20 pk21
        subst pk21
        refine sr ?_
        refine mv rfl rfl ?_
        refine nl ?_
        refine cdF rfl (by omega) ?_
        refine skN ?_
        refine Nb ?_
        have eP_37 : B_k1 ++ plainTo (zipped fs_sProduceRequestTopic v false ((lT (T.at 3))[k1])) v 3 = B_k1 ++ partB fs_sProduceRequestTopic v false ((lT (T.at 3))[k1]) := by rw [partB_false]; rfl
        have rp_38 := pk20
        rw [eP_37] at rp_38 ⊢
        have ee_39 : B_k1 ++ partB fs_sProduceRequestTopic v false ((lT (T.at 3))[k1]) = D ++ plainTo (zipped fs_ProduceRequest v false T) v 3 ++ (counted false false (lT (T.at 3)).length 4) ++ ((lT (T.at 3)).take (k1 + 1)).flatMap (GOf (fs_ProduceRequest[3]'(by decide)) v false) := by rw [hdk1]; exact el_end (B0 := D ++ plainTo (zipped fs_ProduceRequest v false T) v 3 ++ (counted false false (lT (T.at 3)).length 4)) (G := (GOf (fs_ProduceRequest[3]'(by decide)) v false)) hk1 (GOf_part (by decide) _)
        refine fun a_ w_ hA hw => ⟨_, _, _, hA.sub ?_, (le_9.trans le_24), hw, _, rfl, _, _, _, _, rfl, rfl, (by rw [← ee_39]; exact rp_38), (by rw [← ee_39])⟩
        exact (.cons rfl (.cons rfl (.cons rfl (.cons rfl (.cons rfl (.cons rfl (.cons rfl (.nil _))))))))
    · skip
      obtain ⟨a_k1, m_k1, c_k1, N_k1, rfl, rfl, pk10, pk11⟩ := hI
      refine toWp ?_
      have eL67 : D ++ plainTo (zipped fs_ProduceRequest v false T) v 3 ++ (counted false false (lT (T.at 3)).length 4) ++ ((lT (T.at 3)).take (lT (T.at 3)).length).flatMap (GOf (fs_ProduceRequest[3]'(by decide)) v false) = D ++ plainTo (zipped fs_ProduceRequest v false T) v 4 := by rw [List.take_length, List.append_assoc]; exact e_8
      rw [eL67] at pk10 pk11
      subst pk11
      refine sq ?_
      refine sr ?_
      refine mv rfl rfl ?_
      refine nl ?_
      refine cdF rfl (by omega) ?_
      refine skt ?_
      refine sr ?_
      refine mv rfl rfl ?_
      refine asg rfl rfl ?_
      refine nl ?_
      have eP_40 : D ++ plainTo (zipped fs_ProduceRequest v false T) v 4 = D ++ partB fs_ProduceRequest v false T := by rw [partB_false]; rfl
      have rp_41 := pk10
      rw [eP_40] at rp_41 ⊢
      exact rT rfl rfl (le_2.trans le_10) (fun _ _ h => h) (OutB.of rp_41 rfl)
theorem app_ProduceRequest_t {H : Fz} {L : Own} {a : Option Addr} {cap b : Nat} {D : List UInt8} {N : Chunk} {cs : List Value} {T : Tr} {v : Int} (hr : Row 5 1 a D.length cap (bytesOf D) N) (hv : H.at b 0 cs) (hA : At_ProduceRequest v H T cs) (hok : OkP fs_ProduceRequest v T) (h0 : 9 ≤ v) (h1 : v ≤ 13) (hb : D.length + (partB fs_ProduceRequest v true T).length ≤ LIM) :
    Fn Tryz.prog 19 [.pointer (some ⟨b, 0, none⟩), .slice a D.length cap] H (N :: L) (fun r H' L' => OutB 5 L (D ++ partB fs_ProduceRequest v true T) r L') := by
  obtain ⟨p0, a3, c3, mt, rfl, hf0, hf1, hf2⟩ := hA
  refine Fn.mk Tryz.call19 Tryz.func19 rfl Tryz.ntmps19 rfl ?_
  refine sr ?_
  refine asg rfl rfl ?_
  refine nl ?_
  refine sr ?_
  refine mv rfl rfl ?_
  refine nc rfl rfl ?_
  refine fa0 F58_0 rfl rfl ?_
  refine ld (Says.fz hv) Tryz.isAgg45 rfl (Nat.zero_add _).symm rfl rfl ?_
  refine asg rfl rfl ?_
  refine nl ?_
  refine sr ?_
  refine mv rfl rfl ?_
  refine nl ?_
  refine sr ?_
  refine mv rfl rfl ?_
  refine ge rfl rfl rfl ?_
  refine asg rfl rfl ?_
  refine nl ?_
  refine sr ?_
  refine mv rfl rfl ?_
  refine nl ?_
  refine sq ?_
  refine sr ?_
  refine mv rfl rfl ?_
  refine ge rfl rfl rfl ?_
  refine nl ?_
  refine cdT rfl (by omega) ?_
  refine sr ?_
  refine mv rfl rfl ?_
  refine nc rfl rfl ?_
  refine fa0 F58_1 rfl rfl ?_
  refine ld (Says.fz hv) Tryz.isAgg52 rfl (Nat.zero_add _).symm rfl rfl ?_
  refine asg rfl rfl ?_
  refine nl ?_
  refine sr ?_
  refine mv rfl rfl ?_
  refine nl ?_
  refine cdT rfl (by omega) ?_
  refine rg ?_
  refine mv rfl rfl ?_
  refine mv rfl rfl ?_
  have ok37 := hok.get 0 (by decide) (has_yes (show (3 : Int) ≤ v by omega) (show ((-1) : Int) < 0 ∨ v ≤ (-1) by omega))
  have e_1 : D ++ (counted true (T.at 0).nul (sT (T.at 0)).length 2 ++ sT (T.at 0)) = D ++ plainTo (zipped fs_ProduceRequest v true T) v 1 := fold_first (fs := fs_ProduceRequest) (v := v) (flex := true) (t := T) (B := D) 0 rfl (by decide) (by decide) (has_yes (show (3 : Int) ≤ v by omega) (show ((-1) : Int) < 0 ∨ v ≤ (-1) by omega)) (FB_text (f := (fs_ProduceRequest[0]'(by decide))) (by decide) (by decide) ok37)
  have hs37 := fold_size e_1 (by decide) hb
  refine cl rfl rfl rfl (OutK.cast (k_AppendCompactNullableString hf0 (ok37.s (Or.inl rfl)) hr hs37) e_1) rfl (fun v_ H1 L1 hle hR => ?_)
  obtain ⟨rfl, a37, c37, N37, rfl, rfl, h37⟩ := hR
  have r37 := h37.1
  refine asg rfl rfl ?_
  refine nl ?_
  refine sq ?_
  refine sr ?_
  refine mv rfl rfl ?_
  refine nc rfl rfl ?_
  refine fa0 F58_2 rfl rfl ?_
  refine ld (Says.fz hv) Tryz.isAgg45 rfl (Nat.zero_add _).symm rfl rfl ?_
  refine asg rfl rfl ?_
  refine nl ?_
  refine rg ?_
  refine mv rfl rfl ?_
  refine mv rfl rfl ?_
  have ok47 := hok.get 1 (by decide) (has_yes (show (0 : Int) ≤ v by omega) (show ((-1) : Int) < 0 ∨ v ≤ (-1) by omega))
  have e_2 : D ++ plainTo (zipped fs_ProduceRequest v true T) v 1 ++ (fixed (IntKind.i16.wrap (T.at 1).n) 2) = D ++ plainTo (zipped fs_ProduceRequest v true T) v 2 := fold_yes (fs := fs_ProduceRequest) (v := v) (flex := true) (t := T) (B := D) 1 (by decide) (by decide) (has_yes (show (0 : Int) ≤ v by omega) (show ((-1) : Int) < 0 ∨ v ≤ (-1) by omega)) ((FB_int (f := (fs_ProduceRequest[1]'(by decide))) (by decide) (by decide)).trans (fixed_i16 _).symm)
  have hs47 := fold_size e_2 (by decide) hb
  refine cl rfl rfl rfl (OutK.cast (k_AppendInt16 (u := IntKind.i16.wrap (T.at 1).n) r37 hs47) e_2) rfl (fun v_ H1 L1 hle hR => ?_)
  obtain ⟨rfl, a47, c47, N47, rfl, rfl, h47⟩ := hR
  have r47 := h47.1
  refine asg rfl rfl ?_
  refine nl ?_
  refine sq ?_
  refine sr ?_
  refine mv rfl rfl ?_
  refine nc rfl rfl ?_
  refine fa0 F58_3 rfl rfl ?_
  refine ld (Says.fz hv) Tryz.isAgg21 rfl (Nat.zero_add _).symm rfl rfl ?_
  refine asg rfl rfl ?_
  refine nl ?_
  refine rg ?_
  refine mv rfl rfl ?_
  refine mv rfl rfl ?_
  have ok54 := hok.get 2 (by decide) (has_yes (show (0 : Int) ≤ v by omega) (show ((-1) : Int) < 0 ∨ v ≤ (-1) by omega))
  have e_3 : D ++ plainTo (zipped fs_ProduceRequest v true T) v 2 ++ (fixed (IntKind.i32.wrap (T.at 2).n) 4) = D ++ plainTo (zipped fs_ProduceRequest v true T) v 3 := fold_yes (fs := fs_ProduceRequest) (v := v) (flex := true) (t := T) (B := D) 2 (by decide) (by decide) (has_yes (show (0 : Int) ≤ v by omega) (show ((-1) : Int) < 0 ∨ v ≤ (-1) by omega)) ((FB_int (f := (fs_ProduceRequest[2]'(by decide))) (by decide) (by decide)).trans (fixed_i32 _).symm)
  have hs54 := fold_size e_3 (by decide) hb
  refine cl rfl rfl rfl (OutK.cast (k_AppendInt32 (u := IntKind.i32.wrap (T.at 2).n) r47 hs54) e_3) rfl (fun v_ H1 L1 hle hR => ?_)
  obtain ⟨rfl, a54, c54, N54, rfl, rfl, h54⟩ := hR
  have r54 := h54.1
  refine asg rfl rfl ?_
  refine nl ?_
  refine sq ?_
  refine sr ?_
  refine mv rfl rfl ?_
  refine nc rfl rfl ?_
  refine fa0 F58_4 rfl rfl ?_
  refine ld (Says.fz hv) Tryz.isAgg53 rfl (Nat.zero_add _).symm rfl rfl ?_
  refine asg rfl rfl ?_
  refine nl ?_
  refine sq ?_
  refine sr ?_
  refine mv rfl rfl ?_
  refine nl ?_
  refine cdT rfl (by omega) ?_
  refine rg ?_
  refine mv rfl rfl ?_
  refine mv rfl rfl ?_
  refine ls Tryz.runUnderlying53 rfl rfl ?_
  have ok63 := hok.get 3 (by decide) (has_yes (show (0 : Int) ≤ v by omega) (show ((-1) : Int) < 0 ∨ v ≤ (-1) by omega))
  have nn63 := ok63.nn (by decide) (by decide)
  have ll63 := lT_len (ok63.len rfl)
  have e_4 : D ++ plainTo (zipped fs_ProduceRequest v true T) v 3 ++ (counted true false (lT (T.at 3)).length 4 ++ (lT (T.at 3)).flatMap (GOf (fs_ProduceRequest[3]'(by decide)) v true)) = D ++ plainTo (zipped fs_ProduceRequest v true T) v 4 := fold_yes (fs := fs_ProduceRequest) (v := v) (flex := true) (t := T) (B := D) 3 (by decide) (by decide) (has_yes (show (0 : Int) ≤ v by omega) (show ((-1) : Int) < 0 ∨ v ≤ (-1) by omega)) (by rw [FB_list (f := (fs_ProduceRequest[3]'(by decide))) (by decide) (by decide) ok63, nn63])
  have hs63 := fold_size e_4 (by decide) hb
  have hc63 : (D ++ plainTo (zipped fs_ProduceRequest v true T) v 3).length + (counted true false (lT (T.at 3)).length 4).length ≤ LIM := by have h := hs63; simp only [List.length_append] at h ⊢; omega
  refine cl rfl rfl rfl (OutK.cast (k_AppendCompactArrayLen (n := (lT (T.at 3)).length) (by omega) r54 hc63) (show _ = D ++ plainTo (zipped fs_ProduceRequest v true T) v 3 ++ (counted true false (lT (T.at 3)).length 4) from rfl)) rfl (fun v_ H1 L1 hle hR => ?_)
  obtain ⟨rfl, a63, c63, N63, rfl, rfl, h63⟩ := hR
  have r63 := h63.1
  refine asg rfl rfl ?_
  refine nl ?_
  refine sr ?_
  refine mv rfl rfl ?_
  refine ls Tryz.runUnderlying53 rfl rfl ?_
  refine mv rfl rfl ?_
  refine nl ?_
  refine fr ((lT (T.at 3)).length) (fun k1 l' H' L' => ∃ (a_k1 : Option Addr), ∃ (m_k1 : Nat), ∃ (c_k1 : Nat), ∃ (N_k1 : Chunk), [(0, .pointer (some ⟨b, 0, none⟩)), (1, .slice a_k1 m_k1 c_k1), (5, .int .i16 v), (6, .bool (decide ((9 : Int) ≤ v))), (10, .slice a3 (lT (T.at 3)).length c3), (69, .int .i64 ((lT (T.at 3)).length : Int))] = l' ∧ N_k1 :: L = L' ∧ Row 5 1 a_k1 m_k1 c_k1 (bytesOf (D ++ plainTo (zipped fs_ProduceRequest v true T) v 3 ++ (counted true false (lT (T.at 3)).length 4) ++ ((lT (T.at 3)).take k1).flatMap (GOf (fs_ProduceRequest[3]'(by decide)) v true))) N_k1 ∧ m_k1 = (D ++ plainTo (zipped fs_ProduceRequest v true T) v 3 ++ (counted true false (lT (T.at 3)).length 4) ++ ((lT (T.at 3)).take k1).flatMap (GOf (fs_ProduceRequest[3]'(by decide)) v true)).length) [(0, .pointer (some ⟨b, 0, none⟩)), (1, .slice _ _ _), (5, .int .i16 v), (6, .bool (decide ((9 : Int) ≤ v))), (10, .slice a3 (lT (T.at 3)).length c3), (69, .int .i64 ((lT (T.at 3)).length : Int))] (fun k1 l' H' L' h => ?_) (by omega) rfl (.cons rfl (.cons rfl (.cons rfl (.cons rfl (.cons rfl (.cons rfl (.nil _))))))) ⟨_, _, _, _, rfl, rfl, (by rw [List.take_zero, List.flatMap_nil, List.append_nil]; exact r63), (by rw [List.take_zero, List.flatMap_nil, List.append_nil])⟩ rfl rfl rfl rfl rfl (fun k1 l' H' L' hk1 le_5 hI => ?_) (fun l' H' L' le_6 hI => ?_)
  · obtain ⟨a_k1, m_k1, c_k1, N_k1, rfl, _⟩ := h; exact ⟨rfl, rfl, rfl, rfl⟩
  · skip
    obtain ⟨a_k1, m_k1, c_k1, N_k1, rfl, rfl, pk10, pk11⟩ := hI
    subst pk11
    refine sr ?_
    refine mv rfl rfl ?_
    refine asg rfl rfl ?_
    refine nl ?_
    refine sr ?_
    refine mv rfl rfl ?_
    refine mv rfl rfl ?_
    obtain ⟨b_7, o_8, e_9, g_10⟩ := (hf1.mono At_ProduceRequestTopic.mono le_5).rows.at_ (ne_nil_of_lt hk1)
    obtain ⟨cs_11, hA_12, hc_13⟩ := g_10 k1 hk1
    refine ix2 Tryz.runUnderlying53 Tryz.sizeOf76 rfl e_9 rfl rfl hk1 rfl ?_
    obtain ⟨a_k1_2, c_k1_2, m_k1_t, rfl, hf_k1_0, hf_k1_1⟩ := hA_12
    have oek1 := (ok63.el rfl _ (lT_mem (List.getElem_mem hk1))).2 rfl
    obtain ⟨B_k1, hdk1⟩ : ∃ z : List UInt8, z = D ++ plainTo (zipped fs_ProduceRequest v true T) v 3 ++ (counted true false (lT (T.at 3)).length 4) ++ ((lT (T.at 3)).take k1).flatMap (GOf (fs_ProduceRequest[3]'(by decide)) v true) := ⟨_, rfl⟩
    have rbk1 := pk10
    rw [← hdk1] at rbk1 ⊢
    have hBk1 : B_k1.length + (partB fs_sProduceRequestTopic v true ((lT (T.at 3))[k1])).length ≤ LIM := by rw [hdk1]; exact el_size hs63 hk1 (GOf_part (by decide) _)
    refine asg rfl rfl ?_
    refine nl ?_
    refine sq ?_
    refine sr ?_
    refine mv rfl rfl ?_
    refine ge rfl rfl rfl ?_
    refine mv rfl rfl ?_
    refine spl (t := 78) rfl (fun _ => ?_) (fun hn_ => absurd (by omega) hn_)
    refine gr rfl rfl ?_
    refine mv rfl rfl ?_
    refine gr rfl rfl ?_
    refine le rfl rfl rfl ?_
    refine pk rfl rfl rfl rfl ?_
    refine nl ?_
    refine cutT (fun l' H' L' => ∃ (aj_14 : Option Addr), ∃ (mj_14 : Nat), ∃ (cj_14 : Nat), ∃ (Nj_14 : Chunk), [(0, .pointer (some ⟨b, 0, none⟩)), (1, .slice aj_14 mj_14 cj_14), (5, .int .i16 v), (6, .bool (decide ((9 : Int) ≤ v))), (10, .slice a3 (lT (T.at 3)).length c3), (12, .pointer (some ⟨b_7, o_8 + k1 * 19, none⟩)), (69, .int .i64 ((lT (T.at 3)).length : Int)), (70, .int .i64 (k1 : Int))] = l' ∧ Nj_14 :: L = L' ∧ Row 5 1 aj_14 mj_14 cj_14 (bytesOf (B_k1 ++ plainTo (zipped fs_sProduceRequestTopic v true ((lT (T.at 3))[k1])) v 1)) Nj_14 ∧ mj_14 = (B_k1 ++ plainTo (zipped fs_sProduceRequestTopic v true ((lT (T.at 3))[k1])) v 1).length) ?_ (fun l' H' L' le_15 hI => ?_)
    · skip
      refine cd rfl (fun h81 => ?_) (fun h81 => ?_)
      · skip
        refine sr ?_
        refine mv rfl rfl ?_
        refine nc rfl rfl ?_
        refine fa F76_0 rfl rfl ?_
        refine ld (Says.fz hc_13) Tryz.isAgg9 rfl (Nat.add_zero _).symm rfl rfl ?_
        refine asg rfl rfl ?_
        refine nl ?_
        refine sr ?_
        refine mv rfl rfl ?_
        refine nl ?_
        refine cdT rfl (by omega) ?_
        refine rg ?_
        refine mv rfl rfl ?_
        refine mv rfl rfl ?_
        have ok89 := oek1.get 0 (by decide) (has_yes (show (0 : Int) ≤ v by omega) (show (12 : Int) < 0 ∨ v ≤ 12 by omega))
        have nn89 := ok89.nn (by decide) (by decide)
        have e_16 : B_k1 ++ (counted true false (((lT (T.at 3))[k1]).at 0).s.length 2 ++ (((lT (T.at 3))[k1]).at 0).s) = B_k1 ++ plainTo (zipped fs_sProduceRequestTopic v true ((lT (T.at 3))[k1])) v 1 := fold_first (fs := fs_sProduceRequestTopic) (v := v) (flex := true) (t := ((lT (T.at 3))[k1])) (B := B_k1) 0 rfl (by decide) (by decide) (has_yes (show (0 : Int) ≤ v by omega) (show (12 : Int) < 0 ∨ v ≤ 12 by omega)) (by rw [FB_text (f := (fs_sProduceRequestTopic[0]'(by decide))) (by decide) (by decide) ok89, sT_nn nn89, nn89])
        have hs89 := fold_size e_16 (by decide) hBk1
        refine cl rfl rfl rfl (OutK.cast (k_AppendCompactString (x := (((lT (T.at 3))[k1]).at 0).s) (by have := ok89.s (Or.inl rfl); omega) rbk1 hs89) e_16) rfl (fun v_ H1 L1 hle hR => ?_)
        obtain ⟨rfl, a89, c89, N89, rfl, rfl, h89⟩ := hR
        have r89 := h89.1
        refine asg rfl rfl ?_
        refine nN ?_
        refine fun a_ w_ hA hw => ⟨_, _, _, hA.sub ?_, (Fz.le.refl _), hw, _, _, _, _, rfl, rfl, r89, rfl⟩
        exact (.cons rfl (.cons rfl (.cons rfl (.cons rfl (.cons rfl (.cons rfl (.cons rfl (.cons rfl (.nil _)))))))))
      · skip
        refine skN ?_
        have es_17 : plainTo (zipped fs_sProduceRequestTopic v true ((lT (T.at 3))[k1])) v 1 = plainTo (zipped fs_sProduceRequestTopic v true ((lT (T.at 3))[k1])) v 0 := (piece_no2 (fs := fs_sProduceRequestTopic) (v := v) (flex := true) (t := ((lT (T.at 3))[k1])) (k := 0) (by decide) (has_no (show v < (0 : Int) ∨ ((0 : Int) ≤ 12 ∧ 12 < v) by omega)))
        have eX_18 : B_k1 = B_k1 ++ plainTo (zipped fs_sProduceRequestTopic v true ((lT (T.at 3))[k1])) v 1 := by rw [es_17, plain0, List.append_nil]
        refine fun a_ w_ hA hw => ⟨_, _, _, hA.sub ?_, (Fz.le.refl _), hw, _, _, _, _, rfl, rfl, (by rw [← eX_18]; exact rbk1), (by rw [← eX_18])⟩
        exact (.cons rfl (.cons rfl (.cons rfl (.cons rfl (.cons rfl (.cons rfl (.cons rfl (.cons rfl (.nil _)))))))))
    · skip
      obtain ⟨aj_14, mj_14, cj_14, Nj_14, rfl, rfl, pj0, pj1⟩ := hI
      subst pj1
      have rj_14 := pj0
      refine sq ?_
      refine sr ?_
      refine mv rfl rfl ?_
      refine ge rfl rfl rfl ?_
      refine nl ?_
      refine cutT (fun l' H' L' => ∃ (aj_19 : Option Addr), ∃ (mj_19 : Nat), ∃ (cj_19 : Nat), ∃ (Nj_19 : Chunk), [(0, .pointer (some ⟨b, 0, none⟩)), (1, .slice aj_19 mj_19 cj_19), (5, .int .i16 v), (6, .bool (decide ((9 : Int) ≤ v))), (10, .slice a3 (lT (T.at 3)).length c3), (12, .pointer (some ⟨b_7, o_8 + k1 * 19, none⟩)), (69, .int .i64 ((lT (T.at 3)).length : Int)), (70, .int .i64 (k1 : Int))] = l' ∧ Nj_19 :: L = L' ∧ Row 5 1 aj_19 mj_19 cj_19 (bytesOf (B_k1 ++ plainTo (zipped fs_sProduceRequestTopic v true ((lT (T.at 3))[k1])) v 2)) Nj_19 ∧ mj_19 = (B_k1 ++ plainTo (zipped fs_sProduceRequestTopic v true ((lT (T.at 3))[k1])) v 2).length) ?_ (fun l' H' L' le_20 hI => ?_)
      · skip
        refine cd rfl (fun h94 => ?_) (fun h94 => ?_)
        · skip
          refine sr ?_
          refine mv rfl rfl ?_
          refine nc rfl rfl ?_
          refine fa F76_1 rfl rfl ?_
          refine la (Says.fz (hc_13.mono le_15)) Tryz.isAgg73 Tryz.sizeOf73 rfl rfl rfl rfl ?_
          refine al Tryz.zeroValue73 rfl rfl (fun b_21 => ?_)
          refine sa Tryz.sizeOf73 rfl rfl rfl rfl rfl .head ?_
          refine nl ?_
          refine rg ?_
          refine mv rfl rfl ?_
          refine la (Says.own .head) Tryz.isAgg73 Tryz.sizeOf73 rfl (Nat.zero_add _).symm rfl rfl ?_
          refine tf (.tail .head) ?_
          have ok101 := oek1.get 1 (by decide) (has_yes (show (13 : Int) ≤ v by omega) (show ((-1) : Int) < 0 ∨ v ≤ (-1) by omega))
          have e_22 : B_k1 ++ plainTo (zipped fs_sProduceRequestTopic v true ((lT (T.at 3))[k1])) v 1 ++ (pad16 (((lT (T.at 3))[k1]).at 1).s) = B_k1 ++ plainTo (zipped fs_sProduceRequestTopic v true ((lT (T.at 3))[k1])) v 2 := fold_yes (fs := fs_sProduceRequestTopic) (v := v) (flex := true) (t := ((lT (T.at 3))[k1])) (B := B_k1) 1 (by decide) (by decide) (has_yes (show (13 : Int) ≤ v by omega) (show ((-1) : Int) < 0 ∨ v ≤ (-1) by omega)) (FB_uuid (f := (fs_sProduceRequestTopic[1]'(by decide))) (by decide))
          have hs101 := fold_size e_22 (by decide) hBk1
          refine cl rfl rfl rfl (OutK.cast (k_AppendUuid (x := (((lT (T.at 3))[k1]).at 1).s) rj_14 hs101) e_22) rfl (fun v_ H1 L1 hle hR => ?_)
          obtain ⟨rfl, a101, c101, N101, rfl, rfl, h101⟩ := hR
          have r101 := h101.1
          refine asg rfl rfl ?_
          refine nN ?_
          refine drN (.tail .head) ?_
          refine fun a_ w_ hA hw => ⟨_, _, _, hA.sub ?_, (Fz.le.refl _), hw, _, _, _, _, rfl, rfl, r101, rfl⟩
          exact (.cons rfl (.cons rfl (.cons rfl (.cons rfl (.cons rfl (.cons rfl (.cons rfl (.cons rfl (.nil _)))))))))
        · skip
          refine skN ?_
          have es_23 : plainTo (zipped fs_sProduceRequestTopic v true ((lT (T.at 3))[k1])) v 2 = plainTo (zipped fs_sProduceRequestTopic v true ((lT (T.at 3))[k1])) v 1 := (piece_no2 (fs := fs_sProduceRequestTopic) (v := v) (flex := true) (t := ((lT (T.at 3))[k1])) (k := 1) (by decide) (has_no (show v < (13 : Int) ∨ ((0 : Int) ≤ (-1) ∧ (-1) < v) by omega)))
          have eX_24 : B_k1 ++ plainTo (zipped fs_sProduceRequestTopic v true ((lT (T.at 3))[k1])) v 1 = B_k1 ++ plainTo (zipped fs_sProduceRequestTopic v true ((lT (T.at 3))[k1])) v 2 := by rw [es_23]
          refine fun a_ w_ hA hw => ⟨_, _, _, hA.sub ?_, (Fz.le.refl _), hw, _, _, _, _, rfl, rfl, (by rw [← eX_24]; exact rj_14), (by rw [← eX_24])⟩
          exact (.cons rfl (.cons rfl (.cons rfl (.cons rfl (.cons rfl (.cons rfl (.cons rfl (.cons rfl (.nil _)))))))))
      · skip
        obtain ⟨aj_19, mj_19, cj_19, Nj_19, rfl, rfl, pj0, pj1⟩ := hI
        subst pj1
        have rj_19 := pj0
        refine sq ?_
        refine sr ?_
        refine mv rfl rfl ?_
        refine nc rfl rfl ?_
        refine fa F76_2 rfl rfl ?_
        refine ld (Says.fz (hc_13.mono (le_15.trans le_20))) Tryz.isAgg74 rfl rfl rfl rfl ?_
        refine asg rfl rfl ?_
        refine nl ?_
        refine sq ?_
        refine sr ?_
        refine mv rfl rfl ?_
        refine nl ?_
        refine cdT rfl (by omega) ?_
        refine rg ?_
        refine mv rfl rfl ?_
        refine mv rfl rfl ?_
        refine ls Tryz.runUnderlying74 rfl rfl ?_
        have ok110 := oek1.get 2 (by decide) (has_yes (show (0 : Int) ≤ v by omega) (show ((-1) : Int) < 0 ∨ v ≤ (-1) by omega))
        have nn110 := ok110.nn (by decide) (by decide)
        have ll110 := lT_len (ok110.len rfl)
        have e_25 : B_k1 ++ plainTo (zipped fs_sProduceRequestTopic v true ((lT (T.at 3))[k1])) v 2 ++ (counted true false (lT (((lT (T.at 3))[k1]).at 2)).length 4 ++ (lT (((lT (T.at 3))[k1]).at 2)).flatMap (GOf (fs_sProduceRequestTopic[2]'(by decide)) v true)) = B_k1 ++ plainTo (zipped fs_sProduceRequestTopic v true ((lT (T.at 3))[k1])) v 3 := fold_yes (fs := fs_sProduceRequestTopic) (v := v) (flex := true) (t := ((lT (T.at 3))[k1])) (B := B_k1) 2 (by decide) (by decide) (has_yes (show (0 : Int) ≤ v by omega) (show ((-1) : Int) < 0 ∨ v ≤ (-1) by omega)) (by rw [FB_list (f := (fs_sProduceRequestTopic[2]'(by decide))) (by decide) (by decide) ok110, nn110])
        have hs110 := fold_size e_25 (by decide) hBk1
        have hc110 : (B_k1 ++ plainTo (zipped fs_sProduceRequestTopic v true ((lT (T.at 3))[k1])) v 2).length + (counted true false (lT (((lT (T.at 3))[k1]).at 2)).length 4).length ≤ LIM := by have h := hs110; simp only [List.length_append] at h ⊢; omega
        refine cl rfl rfl rfl (OutK.cast (k_AppendCompactArrayLen (n := (lT (((lT (T.at 3))[k1]).at 2)).length) (by omega) rj_19 hc110) (show _ = B_k1 ++ plainTo (zipped fs_sProduceRequestTopic v true ((lT (T.at 3))[k1])) v 2 ++ (counted true false (lT (((lT (T.at 3))[k1]).at 2)).length 4) from rfl)) rfl (fun v_ H1 L1 hle hR => ?_)
        obtain ⟨rfl, a110, c110, N110, rfl, rfl, h110⟩ := hR
        have r110 := h110.1
        refine asg rfl rfl ?_
        refine nl ?_
        refine sr ?_
        refine mv rfl rfl ?_
        refine ls Tryz.runUnderlying74 rfl rfl ?_
        refine mv rfl rfl ?_
        refine nl ?_
        refine fr ((lT (((lT (T.at 3))[k1]).at 2)).length) (fun k2 l' H' L' => ∃ (a_k2 : Option Addr), ∃ (m_k2 : Nat), ∃ (c_k2 : Nat), ∃ (N_k2 : Chunk), [(0, .pointer (some ⟨b, 0, none⟩)), (1, .slice a_k2 m_k2 c_k2), (5, .int .i16 v), (6, .bool (decide ((9 : Int) ≤ v))), (10, .slice a3 (lT (T.at 3)).length c3), (12, .pointer (some ⟨b_7, o_8 + k1 * 19, none⟩)), (15, .slice a_k1_2 (lT (((lT (T.at 3))[k1]).at 2)).length c_k1_2), (69, .int .i64 ((lT (T.at 3)).length : Int)), (70, .int .i64 (k1 : Int)), (116, .int .i64 ((lT (((lT (T.at 3))[k1]).at 2)).length : Int))] = l' ∧ N_k2 :: L = L' ∧ Row 5 1 a_k2 m_k2 c_k2 (bytesOf (B_k1 ++ plainTo (zipped fs_sProduceRequestTopic v true ((lT (T.at 3))[k1])) v 2 ++ (counted true false (lT (((lT (T.at 3))[k1]).at 2)).length 4) ++ ((lT (((lT (T.at 3))[k1]).at 2)).take k2).flatMap (GOf (fs_sProduceRequestTopic[2]'(by decide)) v true))) N_k2 ∧ m_k2 = (B_k1 ++ plainTo (zipped fs_sProduceRequestTopic v true ((lT (T.at 3))[k1])) v 2 ++ (counted true false (lT (((lT (T.at 3))[k1]).at 2)).length 4) ++ ((lT (((lT (T.at 3))[k1]).at 2)).take k2).flatMap (GOf (fs_sProduceRequestTopic[2]'(by decide)) v true)).length) [(0, .pointer (some ⟨b, 0, none⟩)), (1, .slice _ _ _), (5, .int .i16 v), (6, .bool (decide ((9 : Int) ≤ v))), (10, .slice a3 (lT (T.at 3)).length c3), (12, .pointer (some ⟨b_7, o_8 + k1 * 19, none⟩)), (15, .slice a_k1_2 (lT (((lT (T.at 3))[k1]).at 2)).length c_k1_2), (69, .int .i64 ((lT (T.at 3)).length : Int)), (70, .int .i64 (k1 : Int)), (116, .int .i64 ((lT (((lT (T.at 3))[k1]).at 2)).length : Int))] (fun k2 l' H' L' h => ?_) (by omega) rfl (.cons rfl (.cons rfl (.cons rfl (.cons rfl (.cons rfl (.cons rfl (.cons rfl (.cons rfl (.cons rfl (.cons rfl (.nil _))))))))))) ⟨_, _, _, _, rfl, rfl, (by rw [List.take_zero, List.flatMap_nil, List.append_nil]; exact r110), (by rw [List.take_zero, List.flatMap_nil, List.append_nil])⟩ rfl rfl rfl rfl rfl (fun k2 l' H' L' hk2 le_26 hI => ?_) (fun l' H' L' le_27 hI => ?_)
        · obtain ⟨a_k2, m_k2, c_k2, N_k2, rfl, _⟩ := h; exact ⟨rfl, rfl, rfl, rfl⟩
        · skip
          obtain ⟨a_k2, m_k2, c_k2, N_k2, rfl, rfl, pk20, pk21⟩ := hI
          subst pk21
          refine sr ?_
          refine mv rfl rfl ?_
          refine asg rfl rfl ?_
          refine nl ?_
          refine sr ?_
          refine mv rfl rfl ?_
          refine mv rfl rfl ?_
          obtain ⟨b_28, o_29, e_30, g_31⟩ := (hf_k1_0.mono At_ProduceRequestTopicPartition.mono (le_15.trans (le_20.trans le_26))).rows.at_ (ne_nil_of_lt hk2)
          obtain ⟨cs_32, hA_33, hc_34⟩ := g_31 k2 hk2
          refine ix2 Tryz.runUnderlying74 Tryz.sizeOf88 rfl e_30 rfl rfl hk2 rfl ?_
          obtain ⟨a_k2_1, c_k2_1, m_k2_t, rfl, hf_k2_0, hf_k2_1⟩ := hA_33
          have oek2 := (ok110.el rfl _ (lT_mem (List.getElem_mem hk2))).2 rfl
          obtain ⟨B_k2, hdk2⟩ : ∃ z : List UInt8, z = B_k1 ++ plainTo (zipped fs_sProduceRequestTopic v true ((lT (T.at 3))[k1])) v 2 ++ (counted true false (lT (((lT (T.at 3))[k1]).at 2)).length 4) ++ ((lT (((lT (T.at 3))[k1]).at 2)).take k2).flatMap (GOf (fs_sProduceRequestTopic[2]'(by decide)) v true) := ⟨_, rfl⟩
          have rbk2 := pk20
          rw [← hdk2] at rbk2 ⊢
          have hBk2 : B_k2.length + (partB fs_sProduceRequestTopicPartition v true ((lT (((lT (T.at 3))[k1]).at 2))[k2])).length ≤ LIM := by rw [hdk2]; exact el_size hs110 hk2 (GOf_part (by decide) _)
          refine asg rfl rfl ?_
          refine nl ?_
          refine sq ?_
          refine sr ?_
          refine mv rfl rfl ?_
          refine nc rfl rfl ?_
          refine fa F88_0 rfl rfl ?_
          refine ld (Says.fz hc_34) Tryz.isAgg21 rfl (Nat.add_zero _).symm rfl rfl ?_
          refine asg rfl rfl ?_
          refine nl ?_
          refine rg ?_
          refine mv rfl rfl ?_
          refine mv rfl rfl ?_
          have ok129 := oek2.get 0 (by decide) (has_yes (show (0 : Int) ≤ v by omega) (show ((-1) : Int) < 0 ∨ v ≤ (-1) by omega))
          have e_35 : B_k2 ++ (fixed (IntKind.i32.wrap (((lT (((lT (T.at 3))[k1]).at 2))[k2]).at 0).n) 4) = B_k2 ++ plainTo (zipped fs_sProduceRequestTopicPartition v true ((lT (((lT (T.at 3))[k1]).at 2))[k2])) v 1 := fold_first (fs := fs_sProduceRequestTopicPartition) (v := v) (flex := true) (t := ((lT (((lT (T.at 3))[k1]).at 2))[k2])) (B := B_k2) 0 rfl (by decide) (by decide) (has_yes (show (0 : Int) ≤ v by omega) (show ((-1) : Int) < 0 ∨ v ≤ (-1) by omega)) ((FB_int (f := (fs_sProduceRequestTopicPartition[0]'(by decide))) (by decide) (by decide)).trans (fixed_i32 _).symm)
          have hs129 := fold_size e_35 (by decide) hBk2
          refine cl rfl rfl rfl (OutK.cast (k_AppendInt32 (u := IntKind.i32.wrap (((lT (((lT (T.at 3))[k1]).at 2))[k2]).at 0).n) rbk2 hs129) e_35) rfl (fun v_ H1 L1 hle hR => ?_)
          obtain ⟨rfl, a129, c129, N129, rfl, rfl, h129⟩ := hR
          have r129 := h129.1
          refine asg rfl rfl ?_
          refine nl ?_
          refine sq ?_
          refine sr ?_
          refine mv rfl rfl ?_
          refine nc rfl rfl ?_
          refine fa F88_1 rfl rfl ?_
          refine ld (Says.fz hc_34) Tryz.isAgg22 rfl rfl rfl rfl ?_
          refine asg rfl rfl ?_
          refine nl ?_
          refine sr ?_
          refine mv rfl rfl ?_
          refine nl ?_
          refine cdT rfl (by omega) ?_
          refine rg ?_
          refine mv rfl rfl ?_
          refine mv rfl rfl ?_
          have ok137 := oek2.get 1 (by decide) (has_yes (show (0 : Int) ≤ v by omega) (show ((-1) : Int) < 0 ∨ v ≤ (-1) by omega))
          have e_36 : B_k2 ++ plainTo (zipped fs_sProduceRequestTopicPartition v true ((lT (((lT (T.at 3))[k1]).at 2))[k2])) v 1 ++ (counted true (((lT (((lT (T.at 3))[k1]).at 2))[k2]).at 1).nul (sT (((lT (((lT (T.at 3))[k1]).at 2))[k2]).at 1)).length 4 ++ sT (((lT (((lT (T.at 3))[k1]).at 2))[k2]).at 1)) = B_k2 ++ plainTo (zipped fs_sProduceRequestTopicPartition v true ((lT (((lT (T.at 3))[k1]).at 2))[k2])) v 2 := fold_yes (fs := fs_sProduceRequestTopicPartition) (v := v) (flex := true) (t := ((lT (((lT (T.at 3))[k1]).at 2))[k2])) (B := B_k2) 1 (by decide) (by decide) (has_yes (show (0 : Int) ≤ v by omega) (show ((-1) : Int) < 0 ∨ v ≤ (-1) by omega)) (FB_bytes (f := (fs_sProduceRequestTopicPartition[1]'(by decide))) (by decide) (by decide) ok137)
          have hs137 := fold_size e_36 (by decide) hBk2
          refine cl rfl rfl rfl (OutK.cast (k_AppendCompactNullableBytes hf_k2_0 (ok137.s (Or.inr rfl)) r129 hs137) e_36) rfl (fun v_ H1 L1 hle hR => ?_)
          obtain ⟨rfl, a137, c137, N137, rfl, rfl, h137⟩ := hR
          have r137 := h137.1
          refine asg rfl rfl ?_
          refine nl ?_
          refine sr ?_
          refine mv rfl rfl ?_
          refine nl ?_
          refine cdT rfl (by omega) ?_
          refine sr ?_
          refine mv rfl rfl ?_
          refine mv rfl rfl ?_
          refine nc rfl rfl ?_
          refine fa F88_2 rfl rfl ?_
          refine cl rfl rfl rfl (t_lenU (j := 2) hc_34 rfl hf_k2_1) rfl (fun v_ H1 L1 hle hR => ?_)
          obtain ⟨rfl, rfl, rfl⟩ := hR
          have hu146 := oek2.u
          have hul146 := hu146.2.1
          obtain ⟨hz146a, hz146b⟩ := part_size_plain (by decide) hu146 hBk2
          refine cv Tryz.runUnderlying3 Tryz.runUnderlying62 rfl (w32u (by omega) (by omega)) rfl ?_
          refine ad rfl rfl ((w32u (by omega) (by omega)).trans (Int.zero_add _)) rfl ?_
          refine cl rfl rfl rfl (k_AppendUvarint (n := ((lT (((lT (T.at 3))[k1]).at 2))[k2]).u.length) (by omega) r137 hz146a) rfl (fun v_ H1 L1 hle hR => ?_)
          obtain ⟨rfl, a149, c149, N149, rfl, rfl, h149⟩ := hR
          have r149 := h149.1
          refine asg rfl rfl ?_
          refine nl ?_
          refine rg ?_
          refine mv rfl rfl ?_
          refine nc rfl rfl ?_
          refine fa F88_2 rfl rfl ?_
          refine mv rfl rfl ?_
          refine cl rfl rfl rfl (t_append_each (j := 2) hc_34 rfl hf_k2_1 (by omega) r149 (fun p hp => by have := hu146.2.2 p hp; omega) hz146b) rfl (fun v_ H1 L1 le_37 hR => ?_)
          obtain ⟨a154, c154, N154, rfl, rfl, h154⟩ := hR
          have r154 := h154.1
          have eP_38 : B_k2 ++ plainTo (zipped fs_sProduceRequestTopicPartition v true ((lT (((lT (T.at 3))[k1]).at 2))[k2])) v 2 ++ uvar ((lT (((lT (T.at 3))[k1]).at 2))[k2]).u.length ++ ((lT (((lT (T.at 3))[k1]).at 2))[k2]).u.flatMap tagU = B_k2 ++ partB fs_sProduceRequestTopicPartition v true ((lT (((lT (T.at 3))[k1]).at 2))[k2]) := part_close (B := B_k2) (by decide) hu146
          rw [eP_38] at r154 ⊢
          refine asg rfl rfl ?_
          refine nN ?_
          refine Nb ?_
          have ee_39 : B_k2 ++ partB fs_sProduceRequestTopicPartition v true ((lT (((lT (T.at 3))[k1]).at 2))[k2]) = B_k1 ++ plainTo (zipped fs_sProduceRequestTopic v true ((lT (T.at 3))[k1])) v 2 ++ (counted true false (lT (((lT (T.at 3))[k1]).at 2)).length 4) ++ ((lT (((lT (T.at 3))[k1]).at 2)).take (k2 + 1)).flatMap (GOf (fs_sProduceRequestTopic[2]'(by decide)) v true) := by rw [hdk2]; exact el_end (B0 := B_k1 ++ plainTo (zipped fs_sProduceRequestTopic v true ((lT (T.at 3))[k1])) v 2 ++ (counted true false (lT (((lT (T.at 3))[k1]).at 2)).length 4)) (G := (GOf (fs_sProduceRequestTopic[2]'(by decide)) v true)) hk2 (GOf_part (by decide) _)
          refine fun a_ w_ hA hw => ⟨_, _, _, hA.sub ?_, (le_26.trans le_37), hw, _, rfl, _, _, _, _, rfl, rfl, (by rw [← ee_39]; exact r154), (by rw [← ee_39])⟩
          exact (.cons rfl (.cons rfl (.cons rfl (.cons rfl (.cons rfl (.cons rfl (.cons rfl (.cons rfl (.cons rfl (.cons rfl (.cons rfl (.nil _))))))))))))
        · skip
          obtain ⟨a_k2, m_k2, c_k2, N_k2, rfl, rfl, pk20, pk21⟩ := hI
          refine toWp ?_
          have eL110 : B_k1 ++ plainTo (zipped fs_sProduceRequestTopic v true ((lT (T.at 3))[k1])) v 2 ++ (counted true false (lT (((lT (T.at 3))[k1]).at 2)).length 4) ++ ((lT (((lT (T.at 3))[k1]).at 2)).take (lT (((lT (T.at 3))[k1]).at 2)).length).flatMap (GOf (fs_sProduceRequestTopic[2]'(by decide)) v true) = B_k1 ++ plainTo (zipped fs_sProduceRequestTopic v true ((lT (T.at 3))[k1])) v 3 := by rw [List.take_length, List.append_assoc]; exact e_25
          rw [eL110] at pk20 pk21
          subst pk21
          refine sr ?_
          refine mv rfl rfl ?_
          refine nl ?_
          refine cdT rfl (by omega) ?_
          refine sr ?_
          refine mv rfl rfl ?_
          refine mv rfl rfl ?_
          refine nc rfl rfl ?_
          refine fa F76_3 rfl rfl ?_
          refine cl rfl rfl rfl (t_lenU (j := 18) (hc_13.mono (le_15.trans (le_20.trans le_27))) rfl (hf_k1_1.mono (le_15.trans (le_20.trans le_27)))) rfl (fun v_ H1 L1 hle hR => ?_)
          obtain ⟨rfl, rfl, rfl⟩ := hR
          have hu161 := oek1.u
          have hul161 := hu161.2.1
          obtain ⟨hz161a, hz161b⟩ := part_size_plain (by decide) hu161 hBk1
          refine cv Tryz.runUnderlying3 Tryz.runUnderlying62 rfl (w32u (by omega) (by omega)) rfl ?_
          refine ad rfl rfl ((w32u (by omega) (by omega)).trans (Int.zero_add _)) rfl ?_
          refine cl rfl rfl rfl (k_AppendUvarint (n := ((lT (T.at 3))[k1]).u.length) (by omega) pk20 hz161a) rfl (fun v_ H1 L1 hle hR => ?_)
          obtain ⟨rfl, a164, c164, N164, rfl, rfl, h164⟩ := hR
          have r164 := h164.1
          refine asg rfl rfl ?_
          refine nl ?_
          refine rg ?_
          refine mv rfl rfl ?_
          refine nc rfl rfl ?_
          refine fa F76_3 rfl rfl ?_
          refine mv rfl rfl ?_
          refine cl rfl rfl rfl (t_append_each (j := 18) (hc_13.mono (le_15.trans (le_20.trans le_27))) rfl (hf_k1_1.mono (le_15.trans (le_20.trans le_27))) (by omega) r164 (fun p hp => by have := hu161.2.2 p hp; omega) hz161b) rfl (fun v_ H1 L1 le_40 hR => ?_)
          obtain ⟨a169, c169, N169, rfl, rfl, h169⟩ := hR
          have r169 := h169.1
          have eP_41 : B_k1 ++ plainTo (zipped fs_sProduceRequestTopic v true ((lT (T.at 3))[k1])) v 3 ++ uvar ((lT (T.at 3))[k1]).u.length ++ ((lT (T.at 3))[k1]).u.flatMap tagU = B_k1 ++ partB fs_sProduceRequestTopic v true ((lT (T.at 3))[k1]) := part_close (B := B_k1) (by decide) hu161
          rw [eP_41] at r169 ⊢
          refine asg rfl rfl ?_
          refine nN ?_
          refine Nb ?_
          have ee_42 : B_k1 ++ partB fs_sProduceRequestTopic v true ((lT (T.at 3))[k1]) = D ++ plainTo (zipped fs_ProduceRequest v true T) v 3 ++ (counted true false (lT (T.at 3)).length 4) ++ ((lT (T.at 3)).take (k1 + 1)).flatMap (GOf (fs_ProduceRequest[3]'(by decide)) v true) := by rw [hdk1]; exact el_end (B0 := D ++ plainTo (zipped fs_ProduceRequest v true T) v 3 ++ (counted true false (lT (T.at 3)).length 4)) (G := (GOf (fs_ProduceRequest[3]'(by decide)) v true)) hk1 (GOf_part (by decide) _)
          refine fun a_ w_ hA hw => ⟨_, _, _, hA.sub ?_, (le_5.trans (le_15.trans (le_20.trans (le_27.trans le_40)))), hw, _, rfl, _, _, _, _, rfl, rfl, (by rw [← ee_42]; exact r169), (by rw [← ee_42])⟩
          exact (.cons rfl (.cons rfl (.cons rfl (.cons rfl (.cons rfl (.cons rfl (.cons rfl (.nil _))))))))
  · skip
    obtain ⟨a_k1, m_k1, c_k1, N_k1, rfl, rfl, pk10, pk11⟩ := hI
    refine toWp ?_
    have eL63 : D ++ plainTo (zipped fs_ProduceRequest v true T) v 3 ++ (counted true false (lT (T.at 3)).length 4) ++ ((lT (T.at 3)).take (lT (T.at 3)).length).flatMap (GOf (fs_ProduceRequest[3]'(by decide)) v true) = D ++ plainTo (zipped fs_ProduceRequest v true T) v 4 := by rw [List.take_length, List.append_assoc]; exact e_4
    rw [eL63] at pk10 pk11
    subst pk11
    refine sq ?_
    refine sr ?_
    refine mv rfl rfl ?_
    refine nl ?_
    refine cdT rfl (by omega) ?_
    refine sr ?_
    refine mv rfl rfl ?_
    refine mv rfl rfl ?_
    refine nc rfl rfl ?_
    refine fa0 F58_5 rfl rfl ?_
    refine cl rfl rfl rfl (t_lenU (j := 5) (hv.mono le_6) rfl (hf2.mono le_6)) rfl (fun v_ H1 L1 hle hR => ?_)
    obtain ⟨rfl, rfl, rfl⟩ := hR
    have hu176 := hok.u
    have hul176 := hu176.2.1
    obtain ⟨hz176a, hz176b⟩ := part_size_plain (by decide) hu176 hb
    refine cv Tryz.runUnderlying3 Tryz.runUnderlying62 rfl (w32u (by omega) (by omega)) rfl ?_
    refine ad rfl rfl ((w32u (by omega) (by omega)).trans (Int.zero_add _)) rfl ?_
    refine cl rfl rfl rfl (k_AppendUvarint (n := T.u.length) (by omega) pk10 hz176a) rfl (fun v_ H1 L1 hle hR => ?_)
    obtain ⟨rfl, a179, c179, N179, rfl, rfl, h179⟩ := hR
    have r179 := h179.1
    refine asg rfl rfl ?_
    refine nl ?_
    refine rg ?_
    refine mv rfl rfl ?_
    refine nc rfl rfl ?_
    refine fa0 F58_5 rfl rfl ?_
    refine mv rfl rfl ?_
    refine cl rfl rfl rfl (t_append_each (j := 5) (hv.mono le_6) rfl (hf2.mono le_6) (by omega) r179 (fun p hp => by have := hu176.2.2 p hp; omega) hz176b) rfl (fun v_ H1 L1 le_43 hR => ?_)
    obtain ⟨a184, c184, N184, rfl, rfl, h184⟩ := hR
    have r184 := h184.1
    have eP_44 : D ++ plainTo (zipped fs_ProduceRequest v true T) v 4 ++ uvar T.u.length ++ T.u.flatMap tagU = D ++ partB fs_ProduceRequest v true T := part_close (B := D) (by decide) hu176
    rw [eP_44] at r184 ⊢
    refine asg rfl rfl ?_
    refine nl ?_
    refine sr ?_
    refine mv rfl rfl ?_
    refine asg rfl rfl ?_
    refine nl ?_
    exact rT rfl rfl (le_6.trans le_43) (fun _ _ h => h) (OutB.of r184 rfl)
end Go.Sx

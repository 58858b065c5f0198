import Derived.Test.YtahmkeoedpghjaaBAlterClientQuotasResponse
import Derived.KernelRfl
set_option linter.unusedVariables false
set_option linter.unusedSimpArgs false
set_option maxRecDepth 100000
set_option maxHeartbeats 20000000
namespace Go.Sx
open Go.Proofs
theorem app_AlterClientQuotasResponse_f {H : Fz} {L : Own} {a : Option Addr} {cap b : Nat} {D : List UInt8} {N : Chunk} {cs : List Value} {T : Tr} {v : Int} (hr : Row 5 1 a D.length cap (bytesOf D) N) (hv : H.at b 0 cs) (hA : At_AlterClientQuotasResponse v H T cs) (hok : OkP fs_AlterClientQuotasResponse v T) (h0 : 0 ≤ v) (h1 : v ≤ 0) (hb : D.length + (partB fs_AlterClientQuotasResponse v false T).length ≤ LIM) :
    Fn Try.prog 100 [.pointer (some ⟨b, 0, none⟩), .slice a D.length cap] H (N :: L) (fun r H' L' => OutB 5 L (D ++ partB fs_AlterClientQuotasResponse v false T) r L') := by
  obtain ⟨a1, c1, mt, rfl, hf0, hf1⟩ := hA
  refine Fn.mk Try.call100 Try.func100 rfl Try.ntmps100 rfl ?_
  refine sr ?_
  refine asg rfl rfl ?_
  refine nl ?_
  refine sr ?_
  refine mv rfl rfl ?_
  refine nc rfl rfl ?_
  refine fa0 F107_0 rfl rfl ?_
  refine ld (Says.fz hv) Try.isAgg45 rfl (Nat.zero_add _).symm rfl rfl ?_
  refine asg rfl rfl ?_
  refine nl ?_
  refine sr ?_
  refine mv rfl rfl ?_
  refine nl ?_
  refine sr ?_
  refine mv rfl rfl ?_
  refine ge rfl rfl rfl ?_
  refine asg rfl rfl ?_
  refine nl ?_
  refine sr ?_
  refine mv rfl rfl ?_
  refine nl ?_
  refine sq ?_
  refine sr ?_
  refine mv rfl rfl ?_
  refine nc rfl rfl ?_
  refine fa0 F107_1 rfl rfl ?_
  refine ld (Says.fz hv) Try.isAgg21 rfl (Nat.zero_add _).symm rfl rfl ?_
  refine asg rfl rfl ?_
  refine nl ?_
  refine rg ?_
  refine mv rfl rfl ?_
  refine mv rfl rfl ?_
  have ok32 := hok.get 0 (by decide) (has_yes (show (0 : Int) ≤ v by omega) (show ((-1) : Int) < 0 ∨ v ≤ (-1) by omega))
  have e_1 : D ++ (fixed (IntKind.i32.wrap (T.at 0).n) 4) = D ++ plainTo (zipped fs_AlterClientQuotasResponse v false T) v 1 := fold_first (fs := fs_AlterClientQuotasResponse) (v := v) (flex := false) (t := T) (B := D) 0 rfl (by decide) (by decide) (has_yes (show (0 : Int) ≤ v by omega) (show ((-1) : Int) < 0 ∨ v ≤ (-1) by omega)) ((FB_int (f := (fs_AlterClientQuotasResponse[0]'(by decide))) (by decide) (by decide)).trans (fixed_i32 _).symm)
  have hs32 := fold_size e_1 (by decide) hb
  refine cl rfl rfl rfl (OutK.cast (k_AppendInt32 (u := IntKind.i32.wrap (T.at 0).n) hr hs32) e_1) rfl (fun v_ H1 L1 hle hR => ?_)
  obtain ⟨rfl, a32, c32, N32, rfl, rfl, h32⟩ := hR
  have r32 := h32.1
  refine asg rfl rfl ?_
  refine nl ?_
  refine sq ?_
  refine sr ?_
  refine mv rfl rfl ?_
  refine nc rfl rfl ?_
  refine fa0 F107_2 rfl rfl ?_
  refine ld (Says.fz hv) Try.isAgg105 rfl (Nat.zero_add _).symm rfl rfl ?_
  refine asg rfl rfl ?_
  refine nl ?_
  refine sq ?_
  refine sr ?_
  refine mv rfl rfl ?_
  refine nl ?_
  refine cdF rfl (by omega) ?_
  refine rg ?_
  refine mv rfl rfl ?_
  refine mv rfl rfl ?_
  refine ls Try.runUnderlying105 rfl rfl ?_
  have ok45 := hok.get 1 (by decide) (has_yes (show (0 : Int) ≤ v by omega) (show ((-1) : Int) < 0 ∨ v ≤ (-1) by omega))
  have nn45 := ok45.nn (by decide) (by decide)
  have ll45 := lT_len (ok45.len rfl)
  have e_2 : D ++ plainTo (zipped fs_AlterClientQuotasResponse v false T) v 1 ++ (counted false false (lT (T.at 1)).length 4 ++ (lT (T.at 1)).flatMap (GOf (fs_AlterClientQuotasResponse[1]'(by decide)) v false)) = D ++ plainTo (zipped fs_AlterClientQuotasResponse v false T) v 2 := fold_yes (fs := fs_AlterClientQuotasResponse) (v := v) (flex := false) (t := T) (B := D) 1 (by decide) (by decide) (has_yes (show (0 : Int) ≤ v by omega) (show ((-1) : Int) < 0 ∨ v ≤ (-1) by omega)) (by rw [FB_list (f := (fs_AlterClientQuotasResponse[1]'(by decide))) (by decide) (by decide) ok45, nn45])
  have hs45 := fold_size e_2 (by decide) hb
  have hc45 : (D ++ plainTo (zipped fs_AlterClientQuotasResponse v false T) v 1).length + (counted false false (lT (T.at 1)).length 4).length ≤ LIM := by have h := hs45; simp only [List.length_append] at h ⊢; omega
  refine cl rfl rfl rfl (OutK.cast (k_AppendArrayLen (u := ((lT (T.at 1)).length : Int)) r32 hc45) (show _ = D ++ plainTo (zipped fs_AlterClientQuotasResponse v false T) v 1 ++ (counted false false (lT (T.at 1)).length 4) from rfl)) rfl (fun v_ H1 L1 hle hR => ?_)
  obtain ⟨rfl, a45, c45, N45, rfl, rfl, h45⟩ := hR
  have r45 := h45.1
  refine asg rfl rfl ?_
  refine nl ?_
  refine sr ?_
  refine mv rfl rfl ?_
  refine ls Try.runUnderlying105 rfl rfl ?_
  refine mv rfl rfl ?_
  refine nl ?_
  refine fr ((lT (T.at 1)).length) (fun k1 l' H' L' => ∃ (a_k1 : Option Addr), ∃ (m_k1 : Nat), ∃ (c_k1 : Nat), ∃ (N_k1 : Chunk), [(0, .pointer (some ⟨b, 0, none⟩)), (1, .slice a_k1 m_k1 c_k1), (6, .bool (decide ((1 : Int) ≤ v))), (8, .slice a1 (lT (T.at 1)).length c1), (47, .int .i64 ((lT (T.at 1)).length : Int))] = l' ∧ N_k1 :: L = L' ∧ Row 5 1 a_k1 m_k1 c_k1 (bytesOf (D ++ plainTo (zipped fs_AlterClientQuotasResponse v false T) v 1 ++ (counted false false (lT (T.at 1)).length 4) ++ ((lT (T.at 1)).take k1).flatMap (GOf (fs_AlterClientQuotasResponse[1]'(by decide)) v false))) N_k1 ∧ m_k1 = (D ++ plainTo (zipped fs_AlterClientQuotasResponse v false T) v 1 ++ (counted false false (lT (T.at 1)).length 4) ++ ((lT (T.at 1)).take k1).flatMap (GOf (fs_AlterClientQuotasResponse[1]'(by decide)) v false)).length) [(0, .pointer (some ⟨b, 0, none⟩)), (1, .slice _ _ _), (6, .bool (decide ((1 : Int) ≤ v))), (8, .slice a1 (lT (T.at 1)).length c1), (47, .int .i64 ((lT (T.at 1)).length : Int))] (fun k1 l' H' L' h => ?_) (by omega) rfl (.cons rfl (.cons rfl (.cons rfl (.cons rfl (.cons rfl (.nil _)))))) ⟨_, _, _, _, rfl, rfl, (by rw [List.take_zero, List.flatMap_nil, List.append_nil]; exact r45), (by rw [List.take_zero, List.flatMap_nil, List.append_nil])⟩ rfl rfl rfl rfl rfl (fun k1 l' H' L' hk1 le_3 hI => ?_) (fun l' H' L' le_4 hI => ?_)
  · obtain ⟨a_k1, m_k1, c_k1, N_k1, rfl, _⟩ := h; exact ⟨rfl, rfl, rfl, rfl⟩
  · skip
    obtain ⟨a_k1, m_k1, c_k1, N_k1, rfl, rfl, pk10, pk11⟩ := hI
    subst pk11
    refine sr ?_
    refine mv rfl rfl ?_
    refine asg rfl rfl ?_
    refine nl ?_
    refine sr ?_
    refine mv rfl rfl ?_
    refine mv rfl rfl ?_
    obtain ⟨b_5, o_6, e_7, g_8⟩ := (hf0.mono At_AlterClientQuotasResponseEntry.mono le_3).rows.at_ (ne_nil_of_lt hk1)
    obtain ⟨cs_9, hA_10, hc_11⟩ := g_8 k1 hk1
    refine ix2 Try.runUnderlying105 Try.sizeOf161 rfl e_7 rfl rfl hk1 rfl ?_
    obtain ⟨p_k1_1, a_k1_2, c_k1_2, m_k1_t, rfl, hf_k1_0, hf_k1_1, hf_k1_2⟩ := hA_10
    have oek1 := (ok45.el rfl _ (lT_mem (List.getElem_mem hk1))).2 rfl
    obtain ⟨B_k1, hdk1⟩ : ∃ z : List UInt8, z = D ++ plainTo (zipped fs_AlterClientQuotasResponse v false T) v 1 ++ (counted false false (lT (T.at 1)).length 4) ++ ((lT (T.at 1)).take k1).flatMap (GOf (fs_AlterClientQuotasResponse[1]'(by decide)) v false) := ⟨_, rfl⟩
    have rbk1 := pk10
    rw [← hdk1] at rbk1 ⊢
    have hBk1 : B_k1.length + (partB fs_sAlterClientQuotasResponseEntry v false ((lT (T.at 1))[k1])).length ≤ LIM := by rw [hdk1]; exact el_size hs45 hk1 (GOf_part (by decide) _)
    refine asg rfl rfl ?_
    refine nl ?_
    refine sq ?_
    refine sr ?_
    refine mv rfl rfl ?_
    refine nc rfl rfl ?_
    refine fa F161_0 rfl rfl ?_
    refine ld (Says.fz hc_11) Try.isAgg45 rfl (Nat.add_zero _).symm rfl rfl ?_
    refine asg rfl rfl ?_
    refine nl ?_
    refine rg ?_
    refine mv rfl rfl ?_
    refine mv rfl rfl ?_
    have ok60 := oek1.get 0 (by decide) (has_yes (show (0 : Int) ≤ v by omega) (show ((-1) : Int) < 0 ∨ v ≤ (-1) by omega))
    have e_12 : B_k1 ++ (fixed (IntKind.i16.wrap (((lT (T.at 1))[k1]).at 0).n) 2) = B_k1 ++ plainTo (zipped fs_sAlterClientQuotasResponseEntry v false ((lT (T.at 1))[k1])) v 1 := fold_first (fs := fs_sAlterClientQuotasResponseEntry) (v := v) (flex := false) (t := ((lT (T.at 1))[k1])) (B := B_k1) 0 rfl (by decide) (by decide) (has_yes (show (0 : Int) ≤ v by omega) (show ((-1) : Int) < 0 ∨ v ≤ (-1) by omega)) ((FB_int (f := (fs_sAlterClientQuotasResponseEntry[0]'(by decide))) (by decide) (by decide)).trans (fixed_i16 _).symm)
    have hs60 := fold_size e_12 (by decide) hBk1
    refine cl rfl rfl rfl (OutK.cast (k_AppendInt16 (u := IntKind.i16.wrap (((lT (T.at 1))[k1]).at 0).n) rbk1 hs60) e_12) rfl (fun v_ H1 L1 hle hR => ?_)
    obtain ⟨rfl, a60, c60, N60, rfl, rfl, h60⟩ := hR
    have r60 := h60.1
    refine asg rfl rfl ?_
    refine nl ?_
    refine sq ?_
    refine sr ?_
    refine mv rfl rfl ?_
    refine nc rfl rfl ?_
    refine fa F161_1 rfl rfl ?_
    refine ld (Says.fz hc_11) Try.isAgg51 rfl rfl rfl rfl ?_
    refine asg rfl rfl ?_
    refine nl ?_
    refine sr ?_
    refine mv rfl rfl ?_
    refine nl ?_
    refine cdF rfl (by omega) ?_
    refine rg ?_
    refine mv rfl rfl ?_
    refine mv rfl rfl ?_
    have ok71 := oek1.get 1 (by decide) (has_yes (show (0 : Int) ≤ v by omega) (show ((-1) : Int) < 0 ∨ v ≤ (-1) by omega))
    have e_13 : B_k1 ++ plainTo (zipped fs_sAlterClientQuotasResponseEntry v false ((lT (T.at 1))[k1])) v 1 ++ (counted false (((lT (T.at 1))[k1]).at 1).nul (sT (((lT (T.at 1))[k1]).at 1)).length 2 ++ sT (((lT (T.at 1))[k1]).at 1)) = B_k1 ++ plainTo (zipped fs_sAlterClientQuotasResponseEntry v false ((lT (T.at 1))[k1])) v 2 := fold_yes (fs := fs_sAlterClientQuotasResponseEntry) (v := v) (flex := false) (t := ((lT (T.at 1))[k1])) (B := B_k1) 1 (by decide) (by decide) (has_yes (show (0 : Int) ≤ v by omega) (show ((-1) : Int) < 0 ∨ v ≤ (-1) by omega)) (FB_text (f := (fs_sAlterClientQuotasResponseEntry[1]'(by decide))) (by decide) (by decide) ok71)
    have hs71 := fold_size e_13 (by decide) hBk1
    refine cl rfl rfl rfl (OutK.cast (k_AppendNullableString hf_k1_0 (ok71.s (Or.inl rfl)) r60 hs71) e_13) rfl (fun v_ H1 L1 hle hR => ?_)
    obtain ⟨rfl, a71, c71, N71, rfl, rfl, h71⟩ := hR
    have r71 := h71.1
    refine asg rfl rfl ?_
    refine nl ?_
    refine sq ?_
    refine sr ?_
    refine mv rfl rfl ?_
    refine nc rfl rfl ?_
    refine fa F161_2 rfl rfl ?_
    refine ld (Says.fz hc_11) Try.isAgg159 rfl rfl rfl rfl ?_
    refine asg rfl rfl ?_
    refine nl ?_
    refine sq ?_
    refine sr ?_
    refine mv rfl rfl ?_
    refine nl ?_
    refine cdF rfl (by omega) ?_
    refine rg ?_
    refine mv rfl rfl ?_
    refine mv rfl rfl ?_
    refine ls Try.runUnderlying159 rfl rfl ?_
    have ok84 := oek1.get 2 (by decide) (has_yes (show (0 : Int) ≤ v by omega) (show ((-1) : Int) < 0 ∨ v ≤ (-1) by omega))
    have nn84 := ok84.nn (by decide) (by decide)
    have ll84 := lT_len (ok84.len rfl)
    have e_14 : B_k1 ++ plainTo (zipped fs_sAlterClientQuotasResponseEntry v false ((lT (T.at 1))[k1])) v 2 ++ (counted false false (lT (((lT (T.at 1))[k1]).at 2)).length 4 ++ (lT (((lT (T.at 1))[k1]).at 2)).flatMap (GOf (fs_sAlterClientQuotasResponseEntry[2]'(by decide)) v false)) = B_k1 ++ plainTo (zipped fs_sAlterClientQuotasResponseEntry v false ((lT (T.at 1))[k1])) v 3 := fold_yes (fs := fs_sAlterClientQuotasResponseEntry) (v := v) (flex := false) (t := ((lT (T.at 1))[k1])) (B := B_k1) 2 (by decide) (by decide) (has_yes (show (0 : Int) ≤ v by omega) (show ((-1) : Int) < 0 ∨ v ≤ (-1) by omega)) (by rw [FB_list (f := (fs_sAlterClientQuotasResponseEntry[2]'(by decide))) (by decide) (by decide) ok84, nn84])
    have hs84 := fold_size e_14 (by decide) hBk1
    have hc84 : (B_k1 ++ plainTo (zipped fs_sAlterClientQuotasResponseEntry v false ((lT (T.at 1))[k1])) v 2).length + (counted false false (lT (((lT (T.at 1))[k1]).at 2)).length 4).length ≤ LIM := by have h := hs84; simp only [List.length_append] at h ⊢; omega
    refine cl rfl rfl rfl (OutK.cast (k_AppendArrayLen (u := ((lT (((lT (T.at 1))[k1]).at 2)).length : Int)) r71 hc84) (show _ = B_k1 ++ plainTo (zipped fs_sAlterClientQuotasResponseEntry v false ((lT (T.at 1))[k1])) v 2 ++ (counted false false (lT (((lT (T.at 1))[k1]).at 2)).length 4) from rfl)) rfl (fun v_ H1 L1 hle hR => ?_)
    obtain ⟨rfl, a84, c84, N84, rfl, rfl, h84⟩ := hR
    have r84 := h84.1
    refine asg rfl rfl ?_
    refine nl ?_
    refine sr ?_
    refine mv rfl rfl ?_
    refine ls Try.runUnderlying159 rfl rfl ?_
    refine mv rfl rfl ?_
    refine nl ?_
    refine fr ((lT (((lT (T.at 1))[k1]).at 2)).length) (fun k2 l' H' L' => ∃ (a_k2 : Option Addr), ∃ (m_k2 : Nat), ∃ (c_k2 : Nat), ∃ (N_k2 : Chunk), [(0, .pointer (some ⟨b, 0, none⟩)), (1, .slice a_k2 m_k2 c_k2), (6, .bool (decide ((1 : Int) ≤ v))), (8, .slice a1 (lT (T.at 1)).length c1), (10, .pointer (some ⟨b_5, o_6 + k1 * 4, none⟩)), (13, .slice a_k1_2 (lT (((lT (T.at 1))[k1]).at 2)).length c_k1_2), (47, .int .i64 ((lT (T.at 1)).length : Int)), (48, .int .i64 (k1 : Int)), (86, .int .i64 ((lT (((lT (T.at 1))[k1]).at 2)).length : Int))] = l' ∧ N_k2 :: L = L' ∧ Row 5 1 a_k2 m_k2 c_k2 (bytesOf (B_k1 ++ plainTo (zipped fs_sAlterClientQuotasResponseEntry v false ((lT (T.at 1))[k1])) v 2 ++ (counted false false (lT (((lT (T.at 1))[k1]).at 2)).length 4) ++ ((lT (((lT (T.at 1))[k1]).at 2)).take k2).flatMap (GOf (fs_sAlterClientQuotasResponseEntry[2]'(by decide)) v false))) N_k2 ∧ m_k2 = (B_k1 ++ plainTo (zipped fs_sAlterClientQuotasResponseEntry v false ((lT (T.at 1))[k1])) v 2 ++ (counted false false (lT (((lT (T.at 1))[k1]).at 2)).length 4) ++ ((lT (((lT (T.at 1))[k1]).at 2)).take k2).flatMap (GOf (fs_sAlterClientQuotasResponseEntry[2]'(by decide)) v false)).length) [(0, .pointer (some ⟨b, 0, none⟩)), (1, .slice _ _ _), (6, .bool (decide ((1 : Int) ≤ v))), (8, .slice a1 (lT (T.at 1)).length c1), (10, .pointer (some ⟨b_5, o_6 + k1 * 4, none⟩)), (13, .slice a_k1_2 (lT (((lT (T.at 1))[k1]).at 2)).length c_k1_2), (47, .int .i64 ((lT (T.at 1)).length : Int)), (48, .int .i64 (k1 : Int)), (86, .int .i64 ((lT (((lT (T.at 1))[k1]).at 2)).length : Int))] (fun k2 l' H' L' h => ?_) (by omega) rfl (.cons rfl (.cons rfl (.cons rfl (.cons rfl (.cons rfl (.cons rfl (.cons rfl (.cons rfl (.cons rfl (.nil _)))))))))) ⟨_, _, _, _, rfl, rfl, (by rw [List.take_zero, List.flatMap_nil, List.append_nil]; exact r84), (by rw [List.take_zero, List.flatMap_nil, List.append_nil])⟩ rfl rfl rfl rfl rfl (fun k2 l' H' L' hk2 le_15 hI => ?_) (fun l' H' L' le_16 hI => ?_)
    · obtain ⟨a_k2, m_k2, c_k2, N_k2, rfl, _⟩ := h; exact ⟨rfl, rfl, rfl, rfl⟩
    · skip
      obtain ⟨a_k2, m_k2, c_k2, N_k2, rfl, rfl, pk20, pk21⟩ := hI
      subst pk21
      refine sr ?_
      refine mv rfl rfl ?_
      refine asg rfl rfl ?_
      refine nl ?_
      refine sr ?_
      refine mv rfl rfl ?_
      refine mv rfl rfl ?_
      obtain ⟨b_17, o_18, e_19, g_20⟩ := (hf_k1_1.mono At_AlterClientQuotasResponseEntryEntity.mono le_15).rows.at_ (ne_nil_of_lt hk2)
      obtain ⟨cs_21, hA_22, hc_23⟩ := g_20 k2 hk2
      refine ix2 Try.runUnderlying159 Try.sizeOf166 rfl e_19 rfl rfl hk2 rfl ?_
      obtain ⟨p_k2_1, m_k2_t, rfl, hf_k2_0, hf_k2_1⟩ := hA_22
      have oek2 := (ok84.el rfl _ (lT_mem (List.getElem_mem hk2))).2 rfl
      obtain ⟨B_k2, hdk2⟩ : ∃ z : List UInt8, z = B_k1 ++ plainTo (zipped fs_sAlterClientQuotasResponseEntry v false ((lT (T.at 1))[k1])) v 2 ++ (counted false false (lT (((lT (T.at 1))[k1]).at 2)).length 4) ++ ((lT (((lT (T.at 1))[k1]).at 2)).take k2).flatMap (GOf (fs_sAlterClientQuotasResponseEntry[2]'(by decide)) v false) := ⟨_, rfl⟩
      have rbk2 := pk20
      rw [← hdk2] at rbk2 ⊢
      have hBk2 : B_k2.length + (partB fs_sAlterClientQuotasResponseEntryEntity v false ((lT (((lT (T.at 1))[k1]).at 2))[k2])).length ≤ LIM := by rw [hdk2]; exact el_size hs84 hk2 (GOf_part (by decide) _)
      refine asg rfl rfl ?_
      refine nl ?_
      refine sq ?_
      refine sr ?_
      refine mv rfl rfl ?_
      refine nc rfl rfl ?_
      refine fa F166_0 rfl rfl ?_
      refine ld (Says.fz hc_23) Try.isAgg9 rfl (Nat.add_zero _).symm rfl rfl ?_
      refine asg rfl rfl ?_
      refine nl ?_
      refine sr ?_
      refine mv rfl rfl ?_
      refine nl ?_
      refine cdF rfl (by omega) ?_
      refine rg ?_
      refine mv rfl rfl ?_
      refine mv rfl rfl ?_
      have ok103 := oek2.get 0 (by decide) (has_yes (show (0 : Int) ≤ v by omega) (show ((-1) : Int) < 0 ∨ v ≤ (-1) by omega))
      have nn103 := ok103.nn (by decide) (by decide)
      have e_24 : B_k2 ++ (counted false false (((lT (((lT (T.at 1))[k1]).at 2))[k2]).at 0).s.length 2 ++ (((lT (((lT (T.at 1))[k1]).at 2))[k2]).at 0).s) = B_k2 ++ plainTo (zipped fs_sAlterClientQuotasResponseEntryEntity v false ((lT (((lT (T.at 1))[k1]).at 2))[k2])) v 1 := fold_first (fs := fs_sAlterClientQuotasResponseEntryEntity) (v := v) (flex := false) (t := ((lT (((lT (T.at 1))[k1]).at 2))[k2])) (B := B_k2) 0 rfl (by decide) (by decide) (has_yes (show (0 : Int) ≤ v by omega) (show ((-1) : Int) < 0 ∨ v ≤ (-1) by omega)) (by rw [FB_text (f := (fs_sAlterClientQuotasResponseEntryEntity[0]'(by decide))) (by decide) (by decide) ok103, sT_nn nn103, nn103])
      have hs103 := fold_size e_24 (by decide) hBk2
      refine cl rfl rfl rfl (OutK.cast (k_AppendString (x := (((lT (((lT (T.at 1))[k1]).at 2))[k2]).at 0).s) rbk2 hs103) e_24) rfl (fun v_ H1 L1 hle hR => ?_)
      obtain ⟨rfl, a103, c103, N103, rfl, rfl, h103⟩ := hR
      have r103 := h103.1
      refine asg rfl rfl ?_
      refine nl ?_
      refine sq ?_
      refine sr ?_
      refine mv rfl rfl ?_
      refine nc rfl rfl ?_
      refine fa F166_1 rfl rfl ?_
      refine ld (Says.fz hc_23) Try.isAgg51 rfl rfl rfl rfl ?_
      refine asg rfl rfl ?_
      refine nl ?_
      refine sr ?_
      refine mv rfl rfl ?_
      refine nl ?_
      refine cdF rfl (by omega) ?_
      refine rg ?_
      refine mv rfl rfl ?_
      refine mv rfl rfl ?_
      have ok114 := oek2.get 1 (by decide) (has_yes (show (0 : Int) ≤ v by omega) (show ((-1) : Int) < 0 ∨ v ≤ (-1) by omega))
      have e_25 : B_k2 ++ plainTo (zipped fs_sAlterClientQuotasResponseEntryEntity v false ((lT (((lT (T.at 1))[k1]).at 2))[k2])) v 1 ++ (counted false (((lT (((lT (T.at 1))[k1]).at 2))[k2]).at 1).nul (sT (((lT (((lT (T.at 1))[k1]).at 2))[k2]).at 1)).length 2 ++ sT (((lT (((lT (T.at 1))[k1]).at 2))[k2]).at 1)) = B_k2 ++ plainTo (zipped fs_sAlterClientQuotasResponseEntryEntity v false ((lT (((lT (T.at 1))[k1]).at 2))[k2])) v 2 := fold_yes (fs := fs_sAlterClientQuotasResponseEntryEntity) (v := v) (flex := false) (t := ((lT (((lT (T.at 1))[k1]).at 2))[k2])) (B := B_k2) 1 (by decide) (by decide) (has_yes (show (0 : Int) ≤ v by omega) (show ((-1) : Int) < 0 ∨ v ≤ (-1) by omega)) (FB_text (f := (fs_sAlterClientQuotasResponseEntryEntity[1]'(by decide))) (by decide) (by decide) ok114)
      have hs114 := fold_size e_25 (by decide) hBk2
      refine cl rfl rfl rfl (OutK.cast (k_AppendNullableString hf_k2_0 (ok114.s (Or.inl rfl)) r103 hs114) e_25) rfl (fun v_ H1 L1 hle hR => ?_)
      obtain ⟨rfl, a114, c114, N114, rfl, rfl, h114⟩ := hR
      have r114 := h114.1
      refine asg rfl rfl ?_
      refine nl ?_
      refine sr ?_
      refine mv rfl rfl ?_
      refine nl ?_
      refine cdF rfl (by omega) ?_
      refine skN ?_
      refine Nb ?_
      have eP_26 : B_k2 ++ plainTo (zipped fs_sAlterClientQuotasResponseEntryEntity v false ((lT (((lT (T.at 1))[k1]).at 2))[k2])) v 2 = B_k2 ++ partB fs_sAlterClientQuotasResponseEntryEntity v false ((lT (((lT (T.at 1))[k1]).at 2))[k2]) := by rw [partB_false]; rfl
      have rp_27 := r114
      rw [eP_26] at rp_27 ⊢
      have ee_28 : B_k2 ++ partB fs_sAlterClientQuotasResponseEntryEntity v false ((lT (((lT (T.at 1))[k1]).at 2))[k2]) = B_k1 ++ plainTo (zipped fs_sAlterClientQuotasResponseEntry v false ((lT (T.at 1))[k1])) v 2 ++ (counted false false (lT (((lT (T.at 1))[k1]).at 2)).length 4) ++ ((lT (((lT (T.at 1))[k1]).at 2)).take (k2 + 1)).flatMap (GOf (fs_sAlterClientQuotasResponseEntry[2]'(by decide)) v false) := by rw [hdk2]; exact el_end (B0 := B_k1 ++ plainTo (zipped fs_sAlterClientQuotasResponseEntry v false ((lT (T.at 1))[k1])) v 2 ++ (counted false false (lT (((lT (T.at 1))[k1]).at 2)).length 4)) (G := (GOf (fs_sAlterClientQuotasResponseEntry[2]'(by decide)) v false)) hk2 (GOf_part (by decide) _)
      refine fun a_ w_ hA hw => ⟨_, _, _, hA.sub ?_, le_15, hw, _, rfl, _, _, _, _, rfl, rfl, (by rw [← ee_28]; exact rp_27), (by rw [← ee_28])⟩
      exact (.cons rfl (.cons rfl (.cons rfl (.cons rfl (.cons rfl (.cons rfl (.cons rfl (.cons rfl (.cons rfl (.cons rfl (.nil _)))))))))))
    · skip
      obtain ⟨a_k2, m_k2, c_k2, N_k2, rfl, rfl, pk20, pk21⟩ := hI
      refine toWp ?_
      have eL84 : B_k1 ++ plainTo (zipped fs_sAlterClientQuotasResponseEntry v false ((lT (T.at 1))[k1])) v 2 ++ (counted false false (lT (((lT (T.at 1))[k1]).at 2)).length 4) ++ ((lT (((lT (T.at 1))[k1]).at 2)).take (lT (((lT (T.at 1))[k1]).at 2)).length).flatMap (GOf (fs_sAlterClientQuotasResponseEntry[2]'(by decide)) v false) = B_k1 ++ plainTo (zipped fs_sAlterClientQuotasResponseEntry v false ((lT (T.at 1))[k1])) v 3 := by rw [List.take_length, List.append_assoc]; exact e_14
      rw [eL84] at pk20 pk21
      subst pk21
      refine sr ?_
      refine mv rfl rfl ?_
      refine nl ?_
      refine cdF rfl (by omega) ?_
      refine skN ?_
      refine Nb ?_
      have eP_29 : B_k1 ++ plainTo (zipped fs_sAlterClientQuotasResponseEntry v false ((lT (T.at 1))[k1])) v 3 = B_k1 ++ partB fs_sAlterClientQuotasResponseEntry v false ((lT (T.at 1))[k1]) := by rw [partB_false]; rfl
      have rp_30 := pk20
      rw [eP_29] at rp_30 ⊢
      have ee_31 : B_k1 ++ partB fs_sAlterClientQuotasResponseEntry v false ((lT (T.at 1))[k1]) = D ++ plainTo (zipped fs_AlterClientQuotasResponse v false T) v 1 ++ (counted false false (lT (T.at 1)).length 4) ++ ((lT (T.at 1)).take (k1 + 1)).flatMap (GOf (fs_AlterClientQuotasResponse[1]'(by decide)) v false) := by rw [hdk1]; exact el_end (B0 := D ++ plainTo (zipped fs_AlterClientQuotasResponse v false T) v 1 ++ (counted false false (lT (T.at 1)).length 4)) (G := (GOf (fs_AlterClientQuotasResponse[1]'(by decide)) v false)) hk1 (GOf_part (by decide) _)
      refine fun a_ w_ hA hw => ⟨_, _, _, hA.sub ?_, (le_3.trans le_16), hw, _, rfl, _, _, _, _, rfl, rfl, (by rw [← ee_31]; exact rp_30), (by rw [← ee_31])⟩
      exact (.cons rfl (.cons rfl (.cons rfl (.cons rfl (.cons rfl (.cons rfl (.nil _)))))))
  · skip
    obtain ⟨a_k1, m_k1, c_k1, N_k1, rfl, rfl, pk10, pk11⟩ := hI
    refine toWp ?_
    have eL45 : D ++ plainTo (zipped fs_AlterClientQuotasResponse v false T) v 1 ++ (counted false false (lT (T.at 1)).length 4) ++ ((lT (T.at 1)).take (lT (T.at 1)).length).flatMap (GOf (fs_AlterClientQuotasResponse[1]'(by decide)) v false) = D ++ plainTo (zipped fs_AlterClientQuotasResponse v false T) v 2 := by rw [List.take_length, List.append_assoc]; exact e_2
    rw [eL45] at pk10 pk11
    subst pk11
    refine sq ?_
    refine sr ?_
    refine mv rfl rfl ?_
    refine nl ?_
    refine cdF rfl (by omega) ?_
    refine skt ?_
    refine sr ?_
    refine mv rfl rfl ?_
    refine asg rfl rfl ?_
    refine nl ?_
    have eP_32 : D ++ plainTo (zipped fs_AlterClientQuotasResponse v false T) v 2 = D ++ partB fs_AlterClientQuotasResponse v false T := by rw [partB_false]; rfl
    have rp_33 := pk10
    rw [eP_32] at rp_33 ⊢
    exact rT rfl rfl le_4 (fun _ _ h => h) (OutB.of rp_33 rfl)
theorem app_AlterClientQuotasResponse_t {H : Fz} {L : Own} {a : Option Addr} {cap b : Nat} {D : List UInt8} {N : Chunk} {cs : List Value} {T : Tr} {v : Int} (hr : Row 5 1 a D.length cap (bytesOf D) N) (hv : H.at b 0 cs) (hA : At_AlterClientQuotasResponse v H T cs) (hok : OkP fs_AlterClientQuotasResponse v T) (h0 : 1 ≤ v) (h1 : v ≤ 1) (hb : D.length + (partB fs_AlterClientQuotasResponse v true T).length ≤ LIM) :
    Fn Try.prog 100 [.pointer (some ⟨b, 0, none⟩), .slice a D.length cap] H (N :: L) (fun r H' L' => OutB 5 L (D ++ partB fs_AlterClientQuotasResponse v true T) r L') := by
  obtain ⟨a1, c1, mt, rfl, hf0, hf1⟩ := hA
  refine Fn.mk Try.call100 Try.func100 rfl Try.ntmps100 rfl ?_
  refine sr ?_
  refine asg rfl rfl ?_
  refine nl ?_
  refine sr ?_
  refine mv rfl rfl ?_
  refine nc rfl rfl ?_
  refine fa0 F107_0 rfl rfl ?_
  refine ld (Says.fz hv) Try.isAgg45 rfl (Nat.zero_add _).symm rfl rfl ?_
  refine asg rfl rfl ?_
  refine nl ?_
  refine sr ?_
  refine mv rfl rfl ?_
  refine nl ?_
  refine sr ?_
  refine mv rfl rfl ?_
  refine ge rfl rfl rfl ?_
  refine asg rfl rfl ?_
  refine nl ?_
  refine sr ?_
  refine mv rfl rfl ?_
  refine nl ?_
  refine sq ?_
  refine sr ?_
  refine mv rfl rfl ?_
  refine nc rfl rfl ?_
  refine fa0 F107_1 rfl rfl ?_
  refine ld (Says.fz hv) Try.isAgg21 rfl (Nat.zero_add _).symm rfl rfl ?_
  refine asg rfl rfl ?_
  refine nl ?_
  refine rg ?_
  refine mv rfl rfl ?_
  refine mv rfl rfl ?_
  have ok32 := hok.get 0 (by decide) (has_yes (show (0 : Int) ≤ v by omega) (show ((-1) : Int) < 0 ∨ v ≤ (-1) by omega))
  have e_1 : D ++ (fixed (IntKind.i32.wrap (T.at 0).n) 4) = D ++ plainTo (zipped fs_AlterClientQuotasResponse v true T) v 1 := fold_first (fs := fs_AlterClientQuotasResponse) (v := v) (flex := true) (t := T) (B := D) 0 rfl (by decide) (by decide) (has_yes (show (0 : Int) ≤ v by omega) (show ((-1) : Int) < 0 ∨ v ≤ (-1) by omega)) ((FB_int (f := (fs_AlterClientQuotasResponse[0]'(by decide))) (by decide) (by decide)).trans (fixed_i32 _).symm)
  have hs32 := fold_size e_1 (by decide) hb
  refine cl rfl rfl rfl (OutK.cast (k_AppendInt32 (u := IntKind.i32.wrap (T.at 0).n) hr hs32) e_1) rfl (fun v_ H1 L1 hle hR => ?_)
  obtain ⟨rfl, a32, c32, N32, rfl, rfl, h32⟩ := hR
  have r32 := h32.1
  refine asg rfl rfl ?_
  refine nl ?_
  refine sq ?_
  refine sr ?_
  refine mv rfl rfl ?_
  refine nc rfl rfl ?_
  refine fa0 F107_2 rfl rfl ?_
  refine ld (Says.fz hv) Try.isAgg105 rfl (Nat.zero_add _).symm rfl rfl ?_
  refine asg rfl rfl ?_
  refine nl ?_
  refine sq ?_
  refine sr ?_
  refine mv rfl rfl ?_
  refine nl ?_
  refine cdT rfl (by omega) ?_
  refine rg ?_
  refine mv rfl rfl ?_
  refine mv rfl rfl ?_
  refine ls Try.runUnderlying105 rfl rfl ?_
  have ok41 := hok.get 1 (by decide) (has_yes (show (0 : Int) ≤ v by omega) (show ((-1) : Int) < 0 ∨ v ≤ (-1) by omega))
  have nn41 := ok41.nn (by decide) (by decide)
  have ll41 := lT_len (ok41.len rfl)
  have e_2 : D ++ plainTo (zipped fs_AlterClientQuotasResponse v true T) v 1 ++ (counted true false (lT (T.at 1)).length 4 ++ (lT (T.at 1)).flatMap (GOf (fs_AlterClientQuotasResponse[1]'(by decide)) v true)) = D ++ plainTo (zipped fs_AlterClientQuotasResponse v true T) v 2 := fold_yes (fs := fs_AlterClientQuotasResponse) (v := v) (flex := true) (t := T) (B := D) 1 (by decide) (by decide) (has_yes (show (0 : Int) ≤ v by omega) (show ((-1) : Int) < 0 ∨ v ≤ (-1) by omega)) (by rw [FB_list (f := (fs_AlterClientQuotasResponse[1]'(by decide))) (by decide) (by decide) ok41, nn41])
  have hs41 := fold_size e_2 (by decide) hb
  have hc41 : (D ++ plainTo (zipped fs_AlterClientQuotasResponse v true T) v 1).length + (counted true false (lT (T.at 1)).length 4).length ≤ LIM := by have h := hs41; simp only [List.length_append] at h ⊢; omega
  refine cl rfl rfl rfl (OutK.cast (k_AppendCompactArrayLen (n := (lT (T.at 1)).length) (by omega) r32 hc41) (show _ = D ++ plainTo (zipped fs_AlterClientQuotasResponse v true T) v 1 ++ (counted true false (lT (T.at 1)).length 4) from rfl)) rfl (fun v_ H1 L1 hle hR => ?_)
  obtain ⟨rfl, a41, c41, N41, rfl, rfl, h41⟩ := hR
  have r41 := h41.1
  refine asg rfl rfl ?_
  refine nl ?_
  refine sr ?_
  refine mv rfl rfl ?_
  refine ls Try.runUnderlying105 rfl rfl ?_
  refine mv rfl rfl ?_
  refine nl ?_
  refine fr ((lT (T.at 1)).length) (fun k1 l' H' L' => ∃ (a_k1 : Option Addr), ∃ (m_k1 : Nat), ∃ (c_k1 : Nat), ∃ (N_k1 : Chunk), [(0, .pointer (some ⟨b, 0, none⟩)), (1, .slice a_k1 m_k1 c_k1), (6, .bool (decide ((1 : Int) ≤ v))), (8, .slice a1 (lT (T.at 1)).length c1), (47, .int .i64 ((lT (T.at 1)).length : Int))] = l' ∧ N_k1 :: L = L' ∧ Row 5 1 a_k1 m_k1 c_k1 (bytesOf (D ++ plainTo (zipped fs_AlterClientQuotasResponse v true T) v 1 ++ (counted true false (lT (T.at 1)).length 4) ++ ((lT (T.at 1)).take k1).flatMap (GOf (fs_AlterClientQuotasResponse[1]'(by decide)) v true))) N_k1 ∧ m_k1 = (D ++ plainTo (zipped fs_AlterClientQuotasResponse v true T) v 1 ++ (counted true false (lT (T.at 1)).length 4) ++ ((lT (T.at 1)).take k1).flatMap (GOf (fs_AlterClientQuotasResponse[1]'(by decide)) v true)).length) [(0, .pointer (some ⟨b, 0, none⟩)), (1, .slice _ _ _), (6, .bool (decide ((1 : Int) ≤ v))), (8, .slice a1 (lT (T.at 1)).length c1), (47, .int .i64 ((lT (T.at 1)).length : Int))] (fun k1 l' H' L' h => ?_) (by omega) rfl (.cons rfl (.cons rfl (.cons rfl (.cons rfl (.cons rfl (.nil _)))))) ⟨_, _, _, _, rfl, rfl, (by rw [List.take_zero, List.flatMap_nil, List.append_nil]; exact r41), (by rw [List.take_zero, List.flatMap_nil, List.append_nil])⟩ rfl rfl rfl rfl rfl (fun k1 l' H' L' hk1 le_3 hI => ?_) (fun l' H' L' le_4 hI => ?_)
  · obtain ⟨a_k1, m_k1, c_k1, N_k1, rfl, _⟩ := h; exact ⟨rfl, rfl, rfl, rfl⟩
  · skip
    obtain ⟨a_k1, m_k1, c_k1, N_k1, rfl, rfl, pk10, pk11⟩ := hI
    subst pk11
    refine sr ?_
    refine mv rfl rfl ?_
    refine asg rfl rfl ?_
    refine nl ?_
    refine sr ?_
    refine mv rfl rfl ?_
    refine mv rfl rfl ?_
    obtain ⟨b_5, o_6, e_7, g_8⟩ := (hf0.mono At_AlterClientQuotasResponseEntry.mono le_3).rows.at_ (ne_nil_of_lt hk1)
    obtain ⟨cs_9, hA_10, hc_11⟩ := g_8 k1 hk1
    refine ix2 Try.runUnderlying105 Try.sizeOf161 rfl e_7 rfl rfl hk1 rfl ?_
    obtain ⟨p_k1_1, a_k1_2, c_k1_2, m_k1_t, rfl, hf_k1_0, hf_k1_1, hf_k1_2⟩ := hA_10
    have oek1 := (ok41.el rfl _ (lT_mem (List.getElem_mem hk1))).2 rfl
    obtain ⟨B_k1, hdk1⟩ : ∃ z : List UInt8, z = D ++ plainTo (zipped fs_AlterClientQuotasResponse v true T) v 1 ++ (counted true false (lT (T.at 1)).length 4) ++ ((lT (T.at 1)).take k1).flatMap (GOf (fs_AlterClientQuotasResponse[1]'(by decide)) v true) := ⟨_, rfl⟩
    have rbk1 := pk10
    rw [← hdk1] at rbk1 ⊢
    have hBk1 : B_k1.length + (partB fs_sAlterClientQuotasResponseEntry v true ((lT (T.at 1))[k1])).length ≤ LIM := by rw [hdk1]; exact el_size hs41 hk1 (GOf_part (by decide) _)
    refine asg rfl rfl ?_
    refine nl ?_
    refine sq ?_
    refine sr ?_
    refine mv rfl rfl ?_
    refine nc rfl rfl ?_
    refine fa F161_0 rfl rfl ?_
    refine ld (Says.fz hc_11) Try.isAgg45 rfl (Nat.add_zero _).symm rfl rfl ?_
    refine asg rfl rfl ?_
    refine nl ?_
    refine rg ?_
    refine mv rfl rfl ?_
    refine mv rfl rfl ?_
    have ok60 := oek1.get 0 (by decide) (has_yes (show (0 : Int) ≤ v by omega) (show ((-1) : Int) < 0 ∨ v ≤ (-1) by omega))
    have e_12 : B_k1 ++ (fixed (IntKind.i16.wrap (((lT (T.at 1))[k1]).at 0).n) 2) = B_k1 ++ plainTo (zipped fs_sAlterClientQuotasResponseEntry v true ((lT (T.at 1))[k1])) v 1 := fold_first (fs := fs_sAlterClientQuotasResponseEntry) (v := v) (flex := true) (t := ((lT (T.at 1))[k1])) (B := B_k1) 0 rfl (by decide) (by decide) (has_yes (show (0 : Int) ≤ v by omega) (show ((-1) : Int) < 0 ∨ v ≤ (-1) by omega)) ((FB_int (f := (fs_sAlterClientQuotasResponseEntry[0]'(by decide))) (by decide) (by decide)).trans (fixed_i16 _).symm)
    have hs60 := fold_size e_12 (by decide) hBk1
    refine cl rfl rfl rfl (OutK.cast (k_AppendInt16 (u := IntKind.i16.wrap (((lT (T.at 1))[k1]).at 0).n) rbk1 hs60) e_12) rfl (fun v_ H1 L1 hle hR => ?_)
    obtain ⟨rfl, a60, c60, N60, rfl, rfl, h60⟩ := hR
    have r60 := h60.1
    refine asg rfl rfl ?_
    refine nl ?_
    refine sq ?_
    refine sr ?_
    refine mv rfl rfl ?_
    refine nc rfl rfl ?_
    refine fa F161_1 rfl rfl ?_
    refine ld (Says.fz hc_11) Try.isAgg51 rfl rfl rfl rfl ?_
    refine asg rfl rfl ?_
    refine nl ?_
    refine sr ?_
    refine mv rfl rfl ?_
    refine nl ?_
    refine cdT rfl (by omega) ?_
    refine rg ?_
    refine mv rfl rfl ?_
    refine mv rfl rfl ?_
    have ok68 := oek1.get 1 (by decide) (has_yes (show (0 : Int) ≤ v by omega) (show ((-1) : Int) < 0 ∨ v ≤ (-1) by omega))
    have e_13 : B_k1 ++ plainTo (zipped fs_sAlterClientQuotasResponseEntry v true ((lT (T.at 1))[k1])) v 1 ++ (counted true (((lT (T.at 1))[k1]).at 1).nul (sT (((lT (T.at 1))[k1]).at 1)).length 2 ++ sT (((lT (T.at 1))[k1]).at 1)) = B_k1 ++ plainTo (zipped fs_sAlterClientQuotasResponseEntry v true ((lT (T.at 1))[k1])) v 2 := fold_yes (fs := fs_sAlterClientQuotasResponseEntry) (v := v) (flex := true) (t := ((lT (T.at 1))[k1])) (B := B_k1) 1 (by decide) (by decide) (has_yes (show (0 : Int) ≤ v by omega) (show ((-1) : Int) < 0 ∨ v ≤ (-1) by omega)) (FB_text (f := (fs_sAlterClientQuotasResponseEntry[1]'(by decide))) (by decide) (by decide) ok68)
    have hs68 := fold_size e_13 (by decide) hBk1
    refine cl rfl rfl rfl (OutK.cast (k_AppendCompactNullableString hf_k1_0 (ok68.s (Or.inl rfl)) r60 hs68) e_13) rfl (fun v_ H1 L1 hle hR => ?_)
    obtain ⟨rfl, a68, c68, N68, rfl, rfl, h68⟩ := hR
    have r68 := h68.1
    refine asg rfl rfl ?_
    refine nl ?_
    refine sq ?_
    refine sr ?_
    refine mv rfl rfl ?_
    refine nc rfl rfl ?_
    refine fa F161_2 rfl rfl ?_
    refine ld (Says.fz hc_11) Try.isAgg159 rfl rfl rfl rfl ?_
    refine asg rfl rfl ?_
    refine nl ?_
    refine sq ?_
    refine sr ?_
    refine mv rfl rfl ?_
    refine nl ?_
    refine cdT rfl (by omega) ?_
    refine rg ?_
    refine mv rfl rfl ?_
    refine mv rfl rfl ?_
    refine ls Try.runUnderlying159 rfl rfl ?_
    have ok80 := oek1.get 2 (by decide) (has_yes (show (0 : Int) ≤ v by omega) (show ((-1) : Int) < 0 ∨ v ≤ (-1) by omega))
    have nn80 := ok80.nn (by decide) (by decide)
    have ll80 := lT_len (ok80.len rfl)
    have e_14 : B_k1 ++ plainTo (zipped fs_sAlterClientQuotasResponseEntry v true ((lT (T.at 1))[k1])) v 2 ++ (counted true false (lT (((lT (T.at 1))[k1]).at 2)).length 4 ++ (lT (((lT (T.at 1))[k1]).at 2)).flatMap (GOf (fs_sAlterClientQuotasResponseEntry[2]'(by decide)) v true)) = B_k1 ++ plainTo (zipped fs_sAlterClientQuotasResponseEntry v true ((lT (T.at 1))[k1])) v 3 := fold_yes (fs := fs_sAlterClientQuotasResponseEntry) (v := v) (flex := true) (t := ((lT (T.at 1))[k1])) (B := B_k1) 2 (by decide) (by decide) (has_yes (show (0 : Int) ≤ v by omega) (show ((-1) : Int) < 0 ∨ v ≤ (-1) by omega)) (by rw [FB_list (f := (fs_sAlterClientQuotasResponseEntry[2]'(by decide))) (by decide) (by decide) ok80, nn80])
    have hs80 := fold_size e_14 (by decide) hBk1
    have hc80 : (B_k1 ++ plainTo (zipped fs_sAlterClientQuotasResponseEntry v true ((lT (T.at 1))[k1])) v 2).length + (counted true false (lT (((lT (T.at 1))[k1]).at 2)).length 4).length ≤ LIM := by have h := hs80; simp only [List.length_append] at h ⊢; omega
    refine cl rfl rfl rfl (OutK.cast (k_AppendCompactArrayLen (n := (lT (((lT (T.at 1))[k1]).at 2)).length) (by omega) r68 hc80) (show _ = B_k1 ++ plainTo (zipped fs_sAlterClientQuotasResponseEntry v true ((lT (T.at 1))[k1])) v 2 ++ (counted true false (lT (((lT (T.at 1))[k1]).at 2)).length 4) from rfl)) rfl (fun v_ H1 L1 hle hR => ?_)
    obtain ⟨rfl, a80, c80, N80, rfl, rfl, h80⟩ := hR
    have r80 := h80.1
    refine asg rfl rfl ?_
    refine nl ?_
    refine sr ?_
    refine mv rfl rfl ?_
    refine ls Try.runUnderlying159 rfl rfl ?_
    refine mv rfl rfl ?_
    refine nl ?_
    refine fr ((lT (((lT (T.at 1))[k1]).at 2)).length) (fun k2 l' H' L' => ∃ (a_k2 : Option Addr), ∃ (m_k2 : Nat), ∃ (c_k2 : Nat), ∃ (N_k2 : Chunk), [(0, .pointer (some ⟨b, 0, none⟩)), (1, .slice a_k2 m_k2 c_k2), (6, .bool (decide ((1 : Int) ≤ v))), (8, .slice a1 (lT (T.at 1)).length c1), (10, .pointer (some ⟨b_5, o_6 + k1 * 4, none⟩)), (13, .slice a_k1_2 (lT (((lT (T.at 1))[k1]).at 2)).length c_k1_2), (47, .int .i64 ((lT (T.at 1)).length : Int)), (48, .int .i64 (k1 : Int)), (86, .int .i64 ((lT (((lT (T.at 1))[k1]).at 2)).length : Int))] = l' ∧ N_k2 :: L = L' ∧ Row 5 1 a_k2 m_k2 c_k2 (bytesOf (B_k1 ++ plainTo (zipped fs_sAlterClientQuotasResponseEntry v true ((lT (T.at 1))[k1])) v 2 ++ (counted true false (lT (((lT (T.at 1))[k1]).at 2)).length 4) ++ ((lT (((lT (T.at 1))[k1]).at 2)).take k2).flatMap (GOf (fs_sAlterClientQuotasResponseEntry[2]'(by decide)) v true))) N_k2 ∧ m_k2 = (B_k1 ++ plainTo (zipped fs_sAlterClientQuotasResponseEntry v true ((lT (T.at 1))[k1])) v 2 ++ (counted true false (lT (((lT (T.at 1))[k1]).at 2)).length 4) ++ ((lT (((lT (T.at 1))[k1]).at 2)).take k2).flatMap (GOf (fs_sAlterClientQuotasResponseEntry[2]'(by decide)) v true)).length) [(0, .pointer (some ⟨b, 0, none⟩)), (1, .slice _ _ _), (6, .bool (decide ((1 : Int) ≤ v))), (8, .slice a1 (lT (T.at 1)).length c1), (10, .pointer (some ⟨b_5, o_6 + k1 * 4, none⟩)), (13, .slice a_k1_2 (lT (((lT (T.at 1))[k1]).at 2)).length c_k1_2), (47, .int .i64 ((lT (T.at 1)).length : Int)), (48, .int .i64 (k1 : Int)), (86, .int .i64 ((lT (((lT (T.at 1))[k1]).at 2)).length : Int))] (fun k2 l' H' L' h => ?_) (by omega) rfl (.cons rfl (.cons rfl (.cons rfl (.cons rfl (.cons rfl (.cons rfl (.cons rfl (.cons rfl (.cons rfl (.nil _)))))))))) ⟨_, _, _, _, rfl, rfl, (by rw [List.take_zero, List.flatMap_nil, List.append_nil]; exact r80), (by rw [List.take_zero, List.flatMap_nil, List.append_nil])⟩ rfl rfl rfl rfl rfl (fun k2 l' H' L' hk2 le_15 hI => ?_) (fun l' H' L' le_16 hI => ?_)
    · obtain ⟨a_k2, m_k2, c_k2, N_k2, rfl, _⟩ := h; exact ⟨rfl, rfl, rfl, rfl⟩
    · skip
      obtain ⟨a_k2, m_k2, c_k2, N_k2, rfl, rfl, pk20, pk21⟩ := hI
      subst pk21
      refine sr ?_
      refine mv rfl rfl ?_
      refine asg rfl rfl ?_
      refine nl ?_
      refine sr ?_
      refine mv rfl rfl ?_
      refine mv rfl rfl ?_
      obtain ⟨b_17, o_18, e_19, g_20⟩ := (hf_k1_1.mono At_AlterClientQuotasResponseEntryEntity.mono le_15).rows.at_ (ne_nil_of_lt hk2)
      obtain ⟨cs_21, hA_22, hc_23⟩ := g_20 k2 hk2
      refine ix2 Try.runUnderlying159 Try.sizeOf166 rfl e_19 rfl rfl hk2 rfl ?_
      obtain ⟨p_k2_1, m_k2_t, rfl, hf_k2_0, hf_k2_1⟩ := hA_22
      have oek2 := (ok80.el rfl _ (lT_mem (List.getElem_mem hk2))).2 rfl
      obtain ⟨B_k2, hdk2⟩ : ∃ z : List UInt8, z = B_k1 ++ plainTo (zipped fs_sAlterClientQuotasResponseEntry v true ((lT (T.at 1))[k1])) v 2 ++ (counted true false (lT (((lT (T.at 1))[k1]).at 2)).length 4) ++ ((lT (((lT (T.at 1))[k1]).at 2)).take k2).flatMap (GOf (fs_sAlterClientQuotasResponseEntry[2]'(by decide)) v true) := ⟨_, rfl⟩
      have rbk2 := pk20
      rw [← hdk2] at rbk2 ⊢
      have hBk2 : B_k2.length + (partB fs_sAlterClientQuotasResponseEntryEntity v true ((lT (((lT (T.at 1))[k1]).at 2))[k2])).length ≤ LIM := by rw [hdk2]; exact el_size hs80 hk2 (GOf_part (by decide) _)
      refine asg rfl rfl ?_
      refine nl ?_
      refine sq ?_
      refine sr ?_
      refine mv rfl rfl ?_
      refine nc rfl rfl ?_
      refine fa F166_0 rfl rfl ?_
      refine ld (Says.fz hc_23) Try.isAgg9 rfl (Nat.add_zero _).symm rfl rfl ?_
      refine asg rfl rfl ?_
      refine nl ?_
      refine sr ?_
      refine mv rfl rfl ?_
      refine nl ?_
      refine cdT rfl (by omega) ?_
      refine rg ?_
      refine mv rfl rfl ?_
      refine mv rfl rfl ?_
      have ok100 := oek2.get 0 (by decide) (has_yes (show (0 : Int) ≤ v by omega) (show ((-1) : Int) < 0 ∨ v ≤ (-1) by omega))
      have nn100 := ok100.nn (by decide) (by decide)
      have e_24 : B_k2 ++ (counted true false (((lT (((lT (T.at 1))[k1]).at 2))[k2]).at 0).s.length 2 ++ (((lT (((lT (T.at 1))[k1]).at 2))[k2]).at 0).s) = B_k2 ++ plainTo (zipped fs_sAlterClientQuotasResponseEntryEntity v true ((lT (((lT (T.at 1))[k1]).at 2))[k2])) v 1 := fold_first (fs := fs_sAlterClientQuotasResponseEntryEntity) (v := v) (flex := true) (t := ((lT (((lT (T.at 1))[k1]).at 2))[k2])) (B := B_k2) 0 rfl (by decide) (by decide) (has_yes (show (0 : Int) ≤ v by omega) (show ((-1) : Int) < 0 ∨ v ≤ (-1) by omega)) (by rw [FB_text (f := (fs_sAlterClientQuotasResponseEntryEntity[0]'(by decide))) (by decide) (by decide) ok100, sT_nn nn100, nn100])
      have hs100 := fold_size e_24 (by decide) hBk2
      refine cl rfl rfl rfl (OutK.cast (k_AppendCompactString (x := (((lT (((lT (T.at 1))[k1]).at 2))[k2]).at 0).s) (by have := ok100.s (Or.inl rfl); omega) rbk2 hs100) e_24) rfl (fun v_ H1 L1 hle hR => ?_)
      obtain ⟨rfl, a100, c100, N100, rfl, rfl, h100⟩ := hR
      have r100 := h100.1
      refine asg rfl rfl ?_
      refine nl ?_
      refine sq ?_
      refine sr ?_
      refine mv rfl rfl ?_
      refine nc rfl rfl ?_
      refine fa F166_1 rfl rfl ?_
      refine ld (Says.fz hc_23) Try.isAgg51 rfl rfl rfl rfl ?_
      refine asg rfl rfl ?_
      refine nl ?_
      refine sr ?_
      refine mv rfl rfl ?_
      refine nl ?_
      refine cdT rfl (by omega) ?_
      refine rg ?_
      refine mv rfl rfl ?_
      refine mv rfl rfl ?_
      have ok111 := oek2.get 1 (by decide) (has_yes (show (0 : Int) ≤ v by omega) (show ((-1) : Int) < 0 ∨ v ≤ (-1) by omega))
      have e_25 : B_k2 ++ plainTo (zipped fs_sAlterClientQuotasResponseEntryEntity v true ((lT (((lT (T.at 1))[k1]).at 2))[k2])) v 1 ++ (counted true (((lT (((lT (T.at 1))[k1]).at 2))[k2]).at 1).nul (sT (((lT (((lT (T.at 1))[k1]).at 2))[k2]).at 1)).length 2 ++ sT (((lT (((lT (T.at 1))[k1]).at 2))[k2]).at 1)) = B_k2 ++ plainTo (zipped fs_sAlterClientQuotasResponseEntryEntity v true ((lT (((lT (T.at 1))[k1]).at 2))[k2])) v 2 := fold_yes (fs := fs_sAlterClientQuotasResponseEntryEntity) (v := v) (flex := true) (t := ((lT (((lT (T.at 1))[k1]).at 2))[k2])) (B := B_k2) 1 (by decide) (by decide) (has_yes (show (0 : Int) ≤ v by omega) (show ((-1) : Int) < 0 ∨ v ≤ (-1) by omega)) (FB_text (f := (fs_sAlterClientQuotasResponseEntryEntity[1]'(by decide))) (by decide) (by decide) ok111)
      have hs111 := fold_size e_25 (by decide) hBk2
      refine cl rfl rfl rfl (OutK.cast (k_AppendCompactNullableString hf_k2_0 (ok111.s (Or.inl rfl)) r100 hs111) e_25) rfl (fun v_ H1 L1 hle hR => ?_)
      obtain ⟨rfl, a111, c111, N111, rfl, rfl, h111⟩ := hR
      have r111 := h111.1
      refine asg rfl rfl ?_
      refine nl ?_
      refine sr ?_
      refine mv rfl rfl ?_
      refine nl ?_
      refine cdT rfl (by omega) ?_
      refine sr ?_
      refine mv rfl rfl ?_
      refine mv rfl rfl ?_
      refine nc rfl rfl ?_
      refine fa F166_2 rfl rfl ?_
      refine cl rfl rfl rfl (t_lenU (j := 2) hc_23 rfl hf_k2_1) rfl (fun v_ H1 L1 hle hR => ?_)
      obtain ⟨rfl, rfl, rfl⟩ := hR
      have hu120 := oek2.u
      have hul120 := hu120.2.1
      obtain ⟨hz120a, hz120b⟩ := part_size_plain (by decide) hu120 hBk2
      refine cv Try.runUnderlying3 Try.runUnderlying60 rfl (w32u (by omega) (by omega)) rfl ?_
      refine ad rfl rfl ((w32u (by omega) (by omega)).trans (Int.zero_add _)) rfl ?_
      refine cl rfl rfl rfl (k_AppendUvarint (n := ((lT (((lT (T.at 1))[k1]).at 2))[k2]).u.length) (by omega) r111 hz120a) rfl (fun v_ H1 L1 hle hR => ?_)
      obtain ⟨rfl, a123, c123, N123, rfl, rfl, h123⟩ := hR
      have r123 := h123.1
      refine asg rfl rfl ?_
      refine nl ?_
      refine rg ?_
      refine mv rfl rfl ?_
      refine nc rfl rfl ?_
      refine fa F166_2 rfl rfl ?_
      refine mv rfl rfl ?_
      refine cl rfl rfl rfl (t_append_each (j := 2) hc_23 rfl hf_k2_1 (by omega) r123 (fun p hp => by have := hu120.2.2 p hp; omega) hz120b) rfl (fun v_ H1 L1 le_26 hR => ?_)
      obtain ⟨a128, c128, N128, rfl, rfl, h128⟩ := hR
      have r128 := h128.1
      have eP_27 : B_k2 ++ plainTo (zipped fs_sAlterClientQuotasResponseEntryEntity v true ((lT (((lT (T.at 1))[k1]).at 2))[k2])) v 2 ++ uvar ((lT (((lT (T.at 1))[k1]).at 2))[k2]).u.length ++ ((lT (((lT (T.at 1))[k1]).at 2))[k2]).u.flatMap tagU = B_k2 ++ partB fs_sAlterClientQuotasResponseEntryEntity v true ((lT (((lT (T.at 1))[k1]).at 2))[k2]) := part_close (B := B_k2) (by decide) hu120
      rw [eP_27] at r128 ⊢
      refine asg rfl rfl ?_
      refine nN ?_
      refine Nb ?_
      have ee_28 : B_k2 ++ partB fs_sAlterClientQuotasResponseEntryEntity v true ((lT (((lT (T.at 1))[k1]).at 2))[k2]) = B_k1 ++ plainTo (zipped fs_sAlterClientQuotasResponseEntry v true ((lT (T.at 1))[k1])) v 2 ++ (counted true false (lT (((lT (T.at 1))[k1]).at 2)).length 4) ++ ((lT (((lT (T.at 1))[k1]).at 2)).take (k2 + 1)).flatMap (GOf (fs_sAlterClientQuotasResponseEntry[2]'(by decide)) v true) := by rw [hdk2]; exact el_end (B0 := B_k1 ++ plainTo (zipped fs_sAlterClientQuotasResponseEntry v true ((lT (T.at 1))[k1])) v 2 ++ (counted true false (lT (((lT (T.at 1))[k1]).at 2)).length 4)) (G := (GOf (fs_sAlterClientQuotasResponseEntry[2]'(by decide)) v true)) hk2 (GOf_part (by decide) _)
      refine fun a_ w_ hA hw => ⟨_, _, _, hA.sub ?_, (le_15.trans le_26), hw, _, rfl, _, _, _, _, rfl, rfl, (by rw [← ee_28]; exact r128), (by rw [← ee_28])⟩
      exact (.cons rfl (.cons rfl (.cons rfl (.cons rfl (.cons rfl (.cons rfl (.cons rfl (.cons rfl (.cons rfl (.cons rfl (.nil _)))))))))))
    · skip
      obtain ⟨a_k2, m_k2, c_k2, N_k2, rfl, rfl, pk20, pk21⟩ := hI
      refine toWp ?_
      have eL80 : B_k1 ++ plainTo (zipped fs_sAlterClientQuotasResponseEntry v true ((lT (T.at 1))[k1])) v 2 ++ (counted true false (lT (((lT (T.at 1))[k1]).at 2)).length 4) ++ ((lT (((lT (T.at 1))[k1]).at 2)).take (lT (((lT (T.at 1))[k1]).at 2)).length).flatMap (GOf (fs_sAlterClientQuotasResponseEntry[2]'(by decide)) v true) = B_k1 ++ plainTo (zipped fs_sAlterClientQuotasResponseEntry v true ((lT (T.at 1))[k1])) v 3 := by rw [List.take_length, List.append_assoc]; exact e_14
      rw [eL80] at pk20 pk21
      subst pk21
      refine sr ?_
      refine mv rfl rfl ?_
      refine nl ?_
      refine cdT rfl (by omega) ?_
      refine sr ?_
      refine mv rfl rfl ?_
      refine mv rfl rfl ?_
      refine nc rfl rfl ?_
      refine fa F161_3 rfl rfl ?_
      refine cl rfl rfl rfl (t_lenU (j := 3) (hc_11.mono le_16) rfl (hf_k1_2.mono le_16)) rfl (fun v_ H1 L1 hle hR => ?_)
      obtain ⟨rfl, rfl, rfl⟩ := hR
      have hu135 := oek1.u
      have hul135 := hu135.2.1
      obtain ⟨hz135a, hz135b⟩ := part_size_plain (by decide) hu135 hBk1
      refine cv Try.runUnderlying3 Try.runUnderlying60 rfl (w32u (by omega) (by omega)) rfl ?_
      refine ad rfl rfl ((w32u (by omega) (by omega)).trans (Int.zero_add _)) rfl ?_
      refine cl rfl rfl rfl (k_AppendUvarint (n := ((lT (T.at 1))[k1]).u.length) (by omega) pk20 hz135a) rfl (fun v_ H1 L1 hle hR => ?_)
      obtain ⟨rfl, a138, c138, N138, rfl, rfl, h138⟩ := hR
      have r138 := h138.1
      refine asg rfl rfl ?_
      refine nl ?_
      refine rg ?_
      refine mv rfl rfl ?_
      refine nc rfl rfl ?_
      refine fa F161_3 rfl rfl ?_
      refine mv rfl rfl ?_
      refine cl rfl rfl rfl (t_append_each (j := 3) (hc_11.mono le_16) rfl (hf_k1_2.mono le_16) (by omega) r138 (fun p hp => by have := hu135.2.2 p hp; omega) hz135b) rfl (fun v_ H1 L1 le_29 hR => ?_)
      obtain ⟨a143, c143, N143, rfl, rfl, h143⟩ := hR
      have r143 := h143.1
      have eP_30 : B_k1 ++ plainTo (zipped fs_sAlterClientQuotasResponseEntry v true ((lT (T.at 1))[k1])) v 3 ++ uvar ((lT (T.at 1))[k1]).u.length ++ ((lT (T.at 1))[k1]).u.flatMap tagU = B_k1 ++ partB fs_sAlterClientQuotasResponseEntry v true ((lT (T.at 1))[k1]) := part_close (B := B_k1) (by decide) hu135
      rw [eP_30] at r143 ⊢
      refine asg rfl rfl ?_
      refine nN ?_
      refine Nb ?_
      have ee_31 : B_k1 ++ partB fs_sAlterClientQuotasResponseEntry v true ((lT (T.at 1))[k1]) = D ++ plainTo (zipped fs_AlterClientQuotasResponse v true T) v 1 ++ (counted true false (lT (T.at 1)).length 4) ++ ((lT (T.at 1)).take (k1 + 1)).flatMap (GOf (fs_AlterClientQuotasResponse[1]'(by decide)) v true) := by rw [hdk1]; exact el_end (B0 := D ++ plainTo (zipped fs_AlterClientQuotasResponse v true T) v 1 ++ (counted true false (lT (T.at 1)).length 4)) (G := (GOf (fs_AlterClientQuotasResponse[1]'(by decide)) v true)) hk1 (GOf_part (by decide) _)
      refine fun a_ w_ hA hw => ⟨_, _, _, hA.sub ?_, (le_3.trans (le_16.trans le_29)), hw, _, rfl, _, _, _, _, rfl, rfl, (by rw [← ee_31]; exact r143), (by rw [← ee_31])⟩
      exact (.cons rfl (.cons rfl (.cons rfl (.cons rfl (.cons rfl (.cons rfl (.nil _)))))))
  · skip
    obtain ⟨a_k1, m_k1, c_k1, N_k1, rfl, rfl, pk10, pk11⟩ := hI
    refine toWp ?_
    have eL41 : D ++ plainTo (zipped fs_AlterClientQuotasResponse v true T) v 1 ++ (counted true false (lT (T.at 1)).length 4) ++ ((lT (T.at 1)).take (lT (T.at 1)).length).flatMap (GOf (fs_AlterClientQuotasResponse[1]'(by decide)) v true) = D ++ plainTo (zipped fs_AlterClientQuotasResponse v true T) v 2 := by rw [List.take_length, List.append_assoc]; exact e_2
    rw [eL41] at pk10 pk11
    subst pk11
    refine sq ?_
    refine sr ?_
    refine mv rfl rfl ?_
    refine nl ?_
    refine cdT rfl (by omega) ?_
    refine sr ?_
    refine mv rfl rfl ?_
    refine mv rfl rfl ?_
    refine nc rfl rfl ?_
    refine fa0 F107_3 rfl rfl ?_
    refine cl rfl rfl rfl (t_lenU (j := 3) (hv.mono le_4) rfl (hf1.mono le_4)) rfl (fun v_ H1 L1 hle hR => ?_)
    obtain ⟨rfl, rfl, rfl⟩ := hR
    have hu150 := hok.u
    have hul150 := hu150.2.1
    obtain ⟨hz150a, hz150b⟩ := part_size_plain (by decide) hu150 hb
    refine cv Try.runUnderlying3 Try.runUnderlying60 rfl (w32u (by omega) (by omega)) rfl ?_
    refine ad rfl rfl ((w32u (by omega) (by omega)).trans (Int.zero_add _)) rfl ?_
    refine cl rfl rfl rfl (k_AppendUvarint (n := T.u.length) (by omega) pk10 hz150a) rfl (fun v_ H1 L1 hle hR => ?_)
    obtain ⟨rfl, a153, c153, N153, rfl, rfl, h153⟩ := hR
    have r153 := h153.1
    refine asg rfl rfl ?_
    refine nl ?_
    refine rg ?_
    refine mv rfl rfl ?_
    refine nc rfl rfl ?_
    refine fa0 F107_3 rfl rfl ?_
    refine mv rfl rfl ?_
    refine cl rfl rfl rfl (t_append_each (j := 3) (hv.mono le_4) rfl (hf1.mono le_4) (by omega) r153 (fun p hp => by have := hu150.2.2 p hp; omega) hz150b) rfl (fun v_ H1 L1 le_32 hR => ?_)
    obtain ⟨a158, c158, N158, rfl, rfl, h158⟩ := hR
    have r158 := h158.1
    have eP_33 : D ++ plainTo (zipped fs_AlterClientQuotasResponse v true T) v 2 ++ uvar T.u.length ++ T.u.flatMap tagU = D ++ partB fs_AlterClientQuotasResponse v true T := part_close (B := D) (by decide) hu150
    rw [eP_33] at r158 ⊢
    refine asg rfl rfl ?_
    refine nl ?_
    refine sr ?_
    refine mv rfl rfl ?_
    refine asg rfl rfl ?_
    refine nl ?_
    exact rT rfl rfl (le_4.trans le_32) (fun _ _ h => h) (OutB.of r158 rfl)
end Go.Sx

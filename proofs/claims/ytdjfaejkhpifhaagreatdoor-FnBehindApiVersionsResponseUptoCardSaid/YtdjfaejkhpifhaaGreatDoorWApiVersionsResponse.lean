import Derived.Test.YtdjfaejkhpifhaaGreatDoorBApiVersionsResponse
import Derived.Test.YtdjfaejkhpifhaaGreatDoorKB2
import Derived.Test.YtdjfaejkhpifhaaGreatDoorMkL
import Derived.Test.YtdjfaejkhpifhaaGreatDoorTApiVersionsResponse
import Derived.Test.YtdjfaejkhpifhaaGreatDoorFrB
import Derived.KernelRfl
set_option linter.unusedVariables false
set_option linter.unusedSimpArgs false
set_option maxRecDepth 100000
set_option maxHeartbeats 20000000
namespace Go.Sx
open Go.Proofs
theorem app_ApiVersionsResponse_f {H : Fz} {L : Own} {a : Option Addr} {cap b : Nat} {D : List UInt8} {N : Chunk} {cs : List Value} {T : Tr} {v : Int} (hr : Row 5 1 a D.length cap (bytesOf D) N) (hv : H.at b 0 cs) (hA : At_ApiVersionsResponse v H T cs) (hok : OkP fs_ApiVersionsResponse v T) (h0 : 0 ≤ v) (h1 : v ≤ 2) (hb : D.length + (partB fs_ApiVersionsResponse v false T).length ≤ LIM) :
  Fn Tryz.prog 31 [.pointer (some ⟨b, 0, none⟩), .slice a D.length cap] H (N :: L) (fun r H' L' => OutB 5 L (D ++ partB fs_ApiVersionsResponse v false T) r L') := by
 obtain ⟨a1, c1, a3, c3, a5, c5, mt, rfl, hf0, hf1, hf2, hf3⟩ := hA
 refine Fn.mk Tryz.call31 Tryz.func31 rfl Tryz.ntmps31 rfl ?_
 refine sr ?_
 refine asg rfl rfl ?_
 refine nl ?_
 refine sr ?_
 refine mv rfl rfl ?_
 refine nc rfl rfl ?_
 refine fa0 F98_0 rfl rfl ?_
 refine ld (Says.fz hv) Tryz.isAgg40 rfl (Nat.zero_add _).symm rfl rfl ?_
 refine asg rfl rfl ?_
 refine nl ?_
 refine sr ?_
 refine mv rfl rfl ?_
 refine nl ?_
 refine sr ?_
 refine mv rfl rfl ?_
 refine ge rfl rfl rfl ?_
 refine asg rfl rfl ?_
 refine nl ?_
 refine sr ?_
 refine mv rfl rfl ?_
 refine nl ?_
 refine sq ?_
 refine sr ?_
 refine mv rfl rfl ?_
 refine nc rfl rfl ?_
 refine fa0 F98_1 rfl rfl ?_
 refine ld (Says.fz hv) Tryz.isAgg40 rfl (Nat.zero_add _).symm rfl rfl ?_
 refine asg rfl rfl ?_
 refine nl ?_
 refine rg ?_
 refine mv rfl rfl ?_
 refine mv rfl rfl ?_
 have ok50 := hok.get 0 (by decide) (has_yes (show (0 : Int) ≤ v by omega) (show ((-1) : Int) < 0 ∨ v ≤ (-1) by omega))
 have e_1 : D ++ (fixed (IntKind.i16.wrap (T.at 0).n) 2) = D ++ plainTo (zipped fs_ApiVersionsResponse v false T) v 1 := fold_first (fs := fs_ApiVersionsResponse) (v := v) (flex := false) (t := T) (B := D) 0 rfl (by decide) (by decide) (has_yes (show (0 : Int) ≤ v by omega) (show ((-1) : Int) < 0 ∨ v ≤ (-1) by omega)) ((FB_int (f := (fs_ApiVersionsResponse[0]'(by decide))) (by decide) (by decide)).trans (fixed_i16 _).symm)
 have hs50 := fold_size e_1 (by decide) hb
 refine cl rfl rfl rfl (OutK.cast (k_AppendInt16 (u := IntKind.i16.wrap (T.at 0).n) hr hs50) e_1) rfl (fun v_ H1 L1 hle hR => ?_)
 obtain ⟨rfl, a50, c50, N50, rfl, rfl, h50⟩ := hR
 have r50 := h50.1
 refine asg rfl rfl ?_
 refine nl ?_
 refine sq ?_
 refine sr ?_
 refine mv rfl rfl ?_
 refine nc rfl rfl ?_
 refine fa0 F98_2 rfl rfl ?_
 refine ld (Says.fz hv) Tryz.isAgg94 rfl (Nat.zero_add _).symm rfl rfl ?_
 refine asg rfl rfl ?_
 refine nl ?_
 refine sq ?_
 refine sr ?_
 refine mv rfl rfl ?_
 refine nl ?_
 refine cdF rfl (by omega) ?_
 refine rg ?_
 refine mv rfl rfl ?_
 refine mv rfl rfl ?_
 refine ls Tryz.runUnderlying94 rfl rfl ?_
 have ok63 := hok.get 1 (by decide) (has_yes (show (0 : Int) ≤ v by omega) (show ((-1) : Int) < 0 ∨ v ≤ (-1) by omega))
 have ll63 := lT_len (ok63.len rfl)
 have e_2 : D ++ plainTo (zipped fs_ApiVersionsResponse v false T) v 1 ++ (counted false false (lT (T.at 1)).length 4 ++ (lT (T.at 1)).flatMap (GOf (fs_ApiVersionsResponse[1]'(by decide)) v false)) = D ++ plainTo (zipped fs_ApiVersionsResponse v false T) v 2 := fold_yes (fs := fs_ApiVersionsResponse) (v := v) (flex := false) (t := T) (B := D) 1 (by decide) (by decide) (has_yes (show (0 : Int) ≤ v by omega) (show ((-1) : Int) < 0 ∨ v ≤ (-1) by omega)) (FB_list0 (f := (fs_ApiVersionsResponse[1]'(by decide))) (by decide) (by decide) (by decide) ok63)
 have hs63 := fold_size e_2 (by decide) hb
 have hc63 : (D ++ plainTo (zipped fs_ApiVersionsResponse v false T) v 1).length + (counted false false (lT (T.at 1)).length 4).length ≤ LIM := by have h := hs63; simp only [List.length_append] at h ⊢; omega
 refine cl rfl rfl rfl (OutK.cast (k_AppendArrayLen (u := ((lT (T.at 1)).length : Int)) r50 hc63) (show _ = D ++ plainTo (zipped fs_ApiVersionsResponse v false T) v 1 ++ (counted false false (lT (T.at 1)).length 4) from rfl)) rfl (fun v_ H1 L1 hle hR => ?_)
 obtain ⟨rfl, a63, c63, N63, rfl, rfl, h63⟩ := hR
 have r63 := h63.1
 refine asg rfl rfl ?_
 refine nl ?_
 refine sr ?_
 refine mv rfl rfl ?_
 refine ls Tryz.runUnderlying94 rfl rfl ?_
 refine mv rfl rfl ?_
 refine nl ?_
 refine fr ((lT (T.at 1)).length) (fun k1 l' H' L' => ∃ (a_k1 : Option Addr), ∃ (m_k1 : Nat), ∃ (c_k1 : Nat), ∃ (N_k1 : Chunk), [(0, .pointer (some ⟨b, 0, none⟩)), (1, .slice a_k1 m_k1 c_k1), (5, .int .i16 v), (6, .bool (decide ((3 : Int) ≤ v))), (8, .slice a1 (lT (T.at 1)).length c1), (65, .int .i64 ((lT (T.at 1)).length : Int))] = l' ∧ N_k1 :: L = L' ∧ Row 5 1 a_k1 m_k1 c_k1 (bytesOf (D ++ plainTo (zipped fs_ApiVersionsResponse v false T) v 1 ++ (counted false false (lT (T.at 1)).length 4) ++ ((lT (T.at 1)).take k1).flatMap (GOf (fs_ApiVersionsResponse[1]'(by decide)) v false))) N_k1 ∧ m_k1 = (D ++ plainTo (zipped fs_ApiVersionsResponse v false T) v 1 ++ (counted false false (lT (T.at 1)).length 4) ++ ((lT (T.at 1)).take k1).flatMap (GOf (fs_ApiVersionsResponse[1]'(by decide)) v false)).length) [(0, .pointer (some ⟨b, 0, none⟩)), (1, .slice _ _ _), (5, .int .i16 v), (6, .bool (decide ((3 : Int) ≤ v))), (8, .slice a1 (lT (T.at 1)).length c1), (65, .int .i64 ((lT (T.at 1)).length : Int))] (fun k1 l' H' L' h => ?_) (by omega) rfl (.of ⟨rfl, rfl, rfl, rfl, rfl, rfl, trivial⟩) ⟨_, _, _, _, rfl, rfl, (by rw [List.take_zero, List.flatMap_nil, List.append_nil]; exact r63), (by rw [List.take_zero, List.flatMap_nil, List.append_nil])⟩ rfl rfl rfl rfl rfl (fun k1 l' H' L' hk1 le_3 hI => ?_) (fun l' H' L' le_4 hI => ?_)
 · obtain ⟨a_k1, m_k1, c_k1, N_k1, rfl, _⟩ := h; exact ⟨rfl, rfl, rfl, rfl⟩
 ·
  obtain ⟨a_k1, m_k1, c_k1, N_k1, rfl, rfl, pk10, pk11⟩ := hI
  subst pk11
  refine sr ?_
  refine mv rfl rfl ?_
  refine asg rfl rfl ?_
  refine nl ?_
  refine sr ?_
  refine mv rfl rfl ?_
  refine mv rfl rfl ?_
  obtain ⟨b_5, o_6, e_7, g_8⟩ := (hf0.mono At_ApiVersionsResponseApiKey.mono le_3).rows.at_ (ne_nil_of_lt hk1)
  obtain ⟨cs_9, hA_10, hc_11⟩ := g_8 k1 hk1
  refine ix2 Tryz.runUnderlying94 Tryz.sizeOf101 rfl e_7 rfl rfl hk1 rfl ?_
  obtain ⟨m_k1_t, rfl, hf_k1_0⟩ := hA_10
  have oek1 := (ok63.el rfl _ (lT_mem (List.getElem_mem hk1))).2 rfl
  obtain ⟨B_k1, hdk1⟩ : ∃ z : List UInt8, z = D ++ plainTo (zipped fs_ApiVersionsResponse v false T) v 1 ++ (counted false false (lT (T.at 1)).length 4) ++ ((lT (T.at 1)).take k1).flatMap (GOf (fs_ApiVersionsResponse[1]'(by decide)) v false) := ⟨_, rfl⟩
  have rbk1 := pk10
  rw [← hdk1] at rbk1 ⊢
  have hBk1 : B_k1.length + (partB fs_sApiVersionsResponseApiKey v false ((lT (T.at 1))[k1])).length ≤ LIM := by rw [hdk1]; exact el_size hs63 hk1 (GOf_part (by decide) _)
  refine asg rfl rfl ?_
  refine nl ?_
  refine sq ?_
  refine sr ?_
  refine mv rfl rfl ?_
  refine nc rfl rfl ?_
  refine fa F101_0 rfl rfl ?_
  refine ld (Says.fz hc_11) Tryz.isAgg40 rfl (Nat.add_zero _).symm rfl rfl ?_
  refine asg rfl rfl ?_
  refine nl ?_
  refine rg ?_
  refine mv rfl rfl ?_
  refine mv rfl rfl ?_
  have ok78 := oek1.get 0 (by decide) (has_yes (show (0 : Int) ≤ v by omega) (show ((-1) : Int) < 0 ∨ v ≤ (-1) by omega))
  have e_12 : B_k1 ++ (fixed (IntKind.i16.wrap (((lT (T.at 1))[k1]).at 0).n) 2) = B_k1 ++ plainTo (zipped fs_sApiVersionsResponseApiKey v false ((lT (T.at 1))[k1])) v 1 := fold_first (fs := fs_sApiVersionsResponseApiKey) (v := v) (flex := false) (t := ((lT (T.at 1))[k1])) (B := B_k1) 0 rfl (by decide) (by decide) (has_yes (show (0 : Int) ≤ v by omega) (show ((-1) : Int) < 0 ∨ v ≤ (-1) by omega)) ((FB_int (f := (fs_sApiVersionsResponseApiKey[0]'(by decide))) (by decide) (by decide)).trans (fixed_i16 _).symm)
  have hs78 := fold_size e_12 (by decide) hBk1
  refine cl rfl rfl rfl (OutK.cast (k_AppendInt16 (u := IntKind.i16.wrap (((lT (T.at 1))[k1]).at 0).n) rbk1 hs78) e_12) rfl (fun v_ H1 L1 hle hR => ?_)
  obtain ⟨rfl, a78, c78, N78, rfl, rfl, h78⟩ := hR
  have r78 := h78.1
  refine asg rfl rfl ?_
  refine nl ?_
  refine sq ?_
  refine sr ?_
  refine mv rfl rfl ?_
  refine nc rfl rfl ?_
  refine fa F101_1 rfl rfl ?_
  refine ld (Says.fz hc_11) Tryz.isAgg40 rfl rfl rfl rfl ?_
  refine asg rfl rfl ?_
  refine nl ?_
  refine rg ?_
  refine mv rfl rfl ?_
  refine mv rfl rfl ?_
  have ok85 := oek1.get 1 (by decide) (has_yes (show (0 : Int) ≤ v by omega) (show ((-1) : Int) < 0 ∨ v ≤ (-1) by omega))
  have e_13 : B_k1 ++ plainTo (zipped fs_sApiVersionsResponseApiKey v false ((lT (T.at 1))[k1])) v 1 ++ (fixed (IntKind.i16.wrap (((lT (T.at 1))[k1]).at 1).n) 2) = B_k1 ++ plainTo (zipped fs_sApiVersionsResponseApiKey v false ((lT (T.at 1))[k1])) v 2 := fold_yes (fs := fs_sApiVersionsResponseApiKey) (v := v) (flex := false) (t := ((lT (T.at 1))[k1])) (B := B_k1) 1 (by decide) (by decide) (has_yes (show (0 : Int) ≤ v by omega) (show ((-1) : Int) < 0 ∨ v ≤ (-1) by omega)) ((FB_int (f := (fs_sApiVersionsResponseApiKey[1]'(by decide))) (by decide) (by decide)).trans (fixed_i16 _).symm)
  have hs85 := fold_size e_13 (by decide) hBk1
  refine cl rfl rfl rfl (OutK.cast (k_AppendInt16 (u := IntKind.i16.wrap (((lT (T.at 1))[k1]).at 1).n) r78 hs85) e_13) rfl (fun v_ H1 L1 hle hR => ?_)
  obtain ⟨rfl, a85, c85, N85, rfl, rfl, h85⟩ := hR
  have r85 := h85.1
  refine asg rfl rfl ?_
  refine nl ?_
  refine sq ?_
  refine sr ?_
  refine mv rfl rfl ?_
  refine nc rfl rfl ?_
  refine fa F101_2 rfl rfl ?_
  refine ld (Says.fz hc_11) Tryz.isAgg40 rfl rfl rfl rfl ?_
  refine asg rfl rfl ?_
  refine nl ?_
  refine rg ?_
  refine mv rfl rfl ?_
  refine mv rfl rfl ?_
  have ok92 := oek1.get 2 (by decide) (has_yes (show (0 : Int) ≤ v by omega) (show ((-1) : Int) < 0 ∨ v ≤ (-1) by omega))
  have e_14 : B_k1 ++ plainTo (zipped fs_sApiVersionsResponseApiKey v false ((lT (T.at 1))[k1])) v 2 ++ (fixed (IntKind.i16.wrap (((lT (T.at 1))[k1]).at 2).n) 2) = B_k1 ++ plainTo (zipped fs_sApiVersionsResponseApiKey v false ((lT (T.at 1))[k1])) v 3 := fold_yes (fs := fs_sApiVersionsResponseApiKey) (v := v) (flex := false) (t := ((lT (T.at 1))[k1])) (B := B_k1) 2 (by decide) (by decide) (has_yes (show (0 : Int) ≤ v by omega) (show ((-1) : Int) < 0 ∨ v ≤ (-1) by omega)) ((FB_int (f := (fs_sApiVersionsResponseApiKey[2]'(by decide))) (by decide) (by decide)).trans (fixed_i16 _).symm)
  have hs92 := fold_size e_14 (by decide) hBk1
  refine cl rfl rfl rfl (OutK.cast (k_AppendInt16 (u := IntKind.i16.wrap (((lT (T.at 1))[k1]).at 2).n) r85 hs92) e_14) rfl (fun v_ H1 L1 hle hR => ?_)
  obtain ⟨rfl, a92, c92, N92, rfl, rfl, h92⟩ := hR
  have r92 := h92.1
  refine asg rfl rfl ?_
  refine nl ?_
  refine sr ?_
  refine mv rfl rfl ?_
  refine nl ?_
  refine cdF rfl (by omega) ?_
  refine skN ?_
  refine Nb ?_
  have eP_15 : B_k1 ++ plainTo (zipped fs_sApiVersionsResponseApiKey v false ((lT (T.at 1))[k1])) v 3 = B_k1 ++ partB fs_sApiVersionsResponseApiKey v false ((lT (T.at 1))[k1]) := by rw [partB_false]; rfl
  have rp_16 := r92
  rw [eP_15] at rp_16 ⊢
  have ee_17 : B_k1 ++ partB fs_sApiVersionsResponseApiKey v false ((lT (T.at 1))[k1]) = D ++ plainTo (zipped fs_ApiVersionsResponse v false T) v 1 ++ (counted false false (lT (T.at 1)).length 4) ++ ((lT (T.at 1)).take (k1 + 1)).flatMap (GOf (fs_ApiVersionsResponse[1]'(by decide)) v false) := by rw [hdk1]; exact el_end (B0 := D ++ plainTo (zipped fs_ApiVersionsResponse v false T) v 1 ++ (counted false false (lT (T.at 1)).length 4)) (G := (GOf (fs_ApiVersionsResponse[1]'(by decide)) v false)) hk1 (GOf_part (by decide) _)
  refine fun a_ w_ hA hw => ⟨_, _, _, hA.sub ?_, le_3, hw, _, rfl, _, _, _, _, rfl, rfl, (by rw [← ee_17]; exact rp_16), (by rw [← ee_17])⟩
  exact (.of ⟨rfl, rfl, rfl, rfl, rfl, rfl, rfl, trivial⟩)
 ·
  obtain ⟨a_k1, m_k1, c_k1, N_k1, rfl, rfl, pk10, pk11⟩ := hI
  refine toWp ?_
  have eL63 : D ++ plainTo (zipped fs_ApiVersionsResponse v false T) v 1 ++ (counted false false (lT (T.at 1)).length 4) ++ ((lT (T.at 1)).take (lT (T.at 1)).length).flatMap (GOf (fs_ApiVersionsResponse[1]'(by decide)) v false) = D ++ plainTo (zipped fs_ApiVersionsResponse v false T) v 2 := by rw [List.take_length, List.append_assoc]; exact e_2
  rw [eL63] at pk10 pk11
  subst pk11
  refine sq ?_
  refine sr ?_
  refine mv rfl rfl ?_
  refine ge rfl rfl rfl ?_
  refine nl ?_
  refine cutT (fun l' H' L' => ∃ (aj_18 : Option Addr), ∃ (mj_18 : Nat), ∃ (cj_18 : Nat), ∃ (Nj_18 : Chunk), [(0, .pointer (some ⟨b, 0, none⟩)), (1, .slice aj_18 mj_18 cj_18), (6, .bool (decide ((3 : Int) ≤ v)))] = l' ∧ Nj_18 :: L = L' ∧ Row 5 1 aj_18 mj_18 cj_18 (bytesOf (D ++ plainTo (zipped fs_ApiVersionsResponse v false T) v 3)) Nj_18 ∧ mj_18 = (D ++ plainTo (zipped fs_ApiVersionsResponse v false T) v 3).length) ?_ (fun l' H' L' le_19 hI => ?_)
  ·
   refine cd rfl (fun h109 => ?_) (fun h109 => ?_)
   ·
    refine sr ?_
    refine mv rfl rfl ?_
    refine nc rfl rfl ?_
    refine fa0 F98_3 rfl rfl ?_
    refine ld (Says.fz (hv.mono le_4)) Tryz.isAgg21 rfl (Nat.zero_add _).symm rfl rfl ?_
    refine asg rfl rfl ?_
    refine nl ?_
    refine rg ?_
    refine mv rfl rfl ?_
    refine mv rfl rfl ?_
    have ok116 := hok.get 2 (by decide) (has_yes (show (1 : Int) ≤ v by omega) (show ((-1) : Int) < 0 ∨ v ≤ (-1) by omega))
    have e_20 : D ++ plainTo (zipped fs_ApiVersionsResponse v false T) v 2 ++ (fixed (IntKind.i32.wrap (T.at 2).n) 4) = D ++ plainTo (zipped fs_ApiVersionsResponse v false T) v 3 := fold_yes (fs := fs_ApiVersionsResponse) (v := v) (flex := false) (t := T) (B := D) 2 (by decide) (by decide) (has_yes (show (1 : Int) ≤ v by omega) (show ((-1) : Int) < 0 ∨ v ≤ (-1) by omega)) ((FB_int (f := (fs_ApiVersionsResponse[2]'(by decide))) (by decide) (by decide)).trans (fixed_i32 _).symm)
    have hs116 := fold_size e_20 (by decide) hb
    refine cl rfl rfl rfl (OutK.cast (k_AppendInt32 (u := IntKind.i32.wrap (T.at 2).n) pk10 hs116) e_20) rfl (fun v_ H1 L1 hle hR => ?_)
    obtain ⟨rfl, a116, c116, N116, rfl, rfl, h116⟩ := hR
    have r116 := h116.1
    refine asg rfl rfl ?_
    refine nN ?_
    refine fun a_ w_ hA hw => ⟨_, _, _, hA.sub ?_, ler, hw, _, _, _, _, rfl, rfl, r116, rfl⟩
    exact (.of ⟨rfl, rfl, rfl, trivial⟩)
   ·
    refine skN ?_
    have es_21 : plainTo (zipped fs_ApiVersionsResponse v false T) v 3 = plainTo (zipped fs_ApiVersionsResponse v false T) v 2 := (piece_no2 (fs := fs_ApiVersionsResponse) (v := v) (flex := false) (t := T) (k := 2) (by decide) (has_no (show v < (1 : Int) ∨ ((0 : Int) ≤ (-1) ∧ (-1) < v) by omega)))
    have eX_22 : D ++ plainTo (zipped fs_ApiVersionsResponse v false T) v 2 = D ++ plainTo (zipped fs_ApiVersionsResponse v false T) v 3 := by rw [es_21]
    refine fun a_ w_ hA hw => ⟨_, _, _, hA.sub ?_, ler, hw, _, _, _, _, rfl, rfl, (by rw [← eX_22]; exact pk10), (by rw [← eX_22])⟩
    exact (.of ⟨rfl, rfl, rfl, trivial⟩)
  ·
   obtain ⟨aj_18, mj_18, cj_18, Nj_18, rfl, rfl, pj0, pj1⟩ := hI
   subst pj1
   have rj_18 := pj0
   refine sq ?_
   refine sr ?_
   refine mv rfl rfl ?_
   refine nl ?_
   refine cdF rfl (by omega) ?_
   refine skt ?_
   refine sr ?_
   refine mv rfl rfl ?_
   refine asg rfl rfl ?_
   refine nl ?_
   have es_23 : plainTo (zipped fs_ApiVersionsResponse v false T) v 7 = plainTo (zipped fs_ApiVersionsResponse v false T) v 3 := ((((piece_no1 (fs := fs_ApiVersionsResponse) (v := v) (flex := false) (t := T) (k := 6) (by decide) (by decide)).trans (piece_no1 (fs := fs_ApiVersionsResponse) (v := v) (flex := false) (t := T) (k := 5) (by decide) (by decide))).trans (piece_no1 (fs := fs_ApiVersionsResponse) (v := v) (flex := false) (t := T) (k := 4) (by decide) (by decide))).trans (piece_no1 (fs := fs_ApiVersionsResponse) (v := v) (flex := false) (t := T) (k := 3) (by decide) (by decide)))
   have eX_24 : D ++ plainTo (zipped fs_ApiVersionsResponse v false T) v 3 = D ++ plainTo (zipped fs_ApiVersionsResponse v false T) v 7 := by rw [es_23]
   have rx_25 := rj_18
   rw [eX_24] at rx_25 ⊢
   have eP_26 : D ++ plainTo (zipped fs_ApiVersionsResponse v false T) v 7 = D ++ partB fs_ApiVersionsResponse v false T := by rw [partB_false]; rfl
   have rp_27 := rx_25
   rw [eP_26] at rp_27 ⊢
   exact rT rfl rfl (le_4.trans le_19) (fun _ _ h => h) (OutB.of rp_27 rfl)
theorem app_ApiVersionsResponse_t {H : Fz} {L : Own} {a : Option Addr} {cap b : Nat} {D : List UInt8} {N : Chunk} {cs : List Value} {T : Tr} {v : Int} (hr : Row 5 1 a D.length cap (bytesOf D) N) (hv : H.at b 0 cs) (hA : At_ApiVersionsResponse v H T cs) (hok : OkP fs_ApiVersionsResponse v T) (h0 : 3 ≤ v) (h1 : v ≤ 5) (hb : D.length + (partB fs_ApiVersionsResponse v true T).length ≤ LIM) (hRn4 : -9223372036854775808 ≤ (T.at 4).n ∧ (T.at 4).n ≤ 9223372036854775807) :
  Fn Tryz.prog 31 [.pointer (some ⟨b, 0, none⟩), .slice a D.length cap] H (N :: L) (fun r H' L' => OutB 5 L (D ++ partB fs_ApiVersionsResponse v true T) r L') := by
 obtain ⟨a1, c1, a3, c3, a5, c5, mt, rfl, hf0, hf1, hf2, hf3⟩ := hA
 refine Fn.mk Tryz.call31 Tryz.func31 rfl Tryz.ntmps31 rfl ?_
 refine sr ?_
 refine asg rfl rfl ?_
 refine nl ?_
 refine sr ?_
 refine mv rfl rfl ?_
 refine nc rfl rfl ?_
 refine fa0 F98_0 rfl rfl ?_
 refine ld (Says.fz hv) Tryz.isAgg40 rfl (Nat.zero_add _).symm rfl rfl ?_
 refine asg rfl rfl ?_
 refine nl ?_
 refine sr ?_
 refine mv rfl rfl ?_
 refine nl ?_
 refine sr ?_
 refine mv rfl rfl ?_
 refine ge rfl rfl rfl ?_
 refine asg rfl rfl ?_
 refine nl ?_
 refine sr ?_
 refine mv rfl rfl ?_
 refine nl ?_
 refine sq ?_
 refine sr ?_
 refine mv rfl rfl ?_
 refine nc rfl rfl ?_
 refine fa0 F98_1 rfl rfl ?_
 refine ld (Says.fz hv) Tryz.isAgg40 rfl (Nat.zero_add _).symm rfl rfl ?_
 refine asg rfl rfl ?_
 refine nl ?_
 refine rg ?_
 refine mv rfl rfl ?_
 refine mv rfl rfl ?_
 have ok50 := hok.get 0 (by decide) (has_yes (show (0 : Int) ≤ v by omega) (show ((-1) : Int) < 0 ∨ v ≤ (-1) by omega))
 have e_1 : D ++ (fixed (IntKind.i16.wrap (T.at 0).n) 2) = D ++ plainTo (zipped fs_ApiVersionsResponse v true T) v 1 := fold_first (fs := fs_ApiVersionsResponse) (v := v) (flex := true) (t := T) (B := D) 0 rfl (by decide) (by decide) (has_yes (show (0 : Int) ≤ v by omega) (show ((-1) : Int) < 0 ∨ v ≤ (-1) by omega)) ((FB_int (f := (fs_ApiVersionsResponse[0]'(by decide))) (by decide) (by decide)).trans (fixed_i16 _).symm)
 have hs50 := fold_size e_1 (by decide) hb
 refine cl rfl rfl rfl (OutK.cast (k_AppendInt16 (u := IntKind.i16.wrap (T.at 0).n) hr hs50) e_1) rfl (fun v_ H1 L1 hle hR => ?_)
 obtain ⟨rfl, a50, c50, N50, rfl, rfl, h50⟩ := hR
 have r50 := h50.1
 refine asg rfl rfl ?_
 refine nl ?_
 refine sq ?_
 refine sr ?_
 refine mv rfl rfl ?_
 refine nc rfl rfl ?_
 refine fa0 F98_2 rfl rfl ?_
 refine ld (Says.fz hv) Tryz.isAgg94 rfl (Nat.zero_add _).symm rfl rfl ?_
 refine asg rfl rfl ?_
 refine nl ?_
 refine sq ?_
 refine sr ?_
 refine mv rfl rfl ?_
 refine nl ?_
 refine cdT rfl (by omega) ?_
 refine rg ?_
 refine mv rfl rfl ?_
 refine mv rfl rfl ?_
 refine ls Tryz.runUnderlying94 rfl rfl ?_
 have ok59 := hok.get 1 (by decide) (has_yes (show (0 : Int) ≤ v by omega) (show ((-1) : Int) < 0 ∨ v ≤ (-1) by omega))
 have ll59 := lT_len (ok59.len rfl)
 have e_2 : D ++ plainTo (zipped fs_ApiVersionsResponse v true T) v 1 ++ (counted true false (lT (T.at 1)).length 4 ++ (lT (T.at 1)).flatMap (GOf (fs_ApiVersionsResponse[1]'(by decide)) v true)) = D ++ plainTo (zipped fs_ApiVersionsResponse v true T) v 2 := fold_yes (fs := fs_ApiVersionsResponse) (v := v) (flex := true) (t := T) (B := D) 1 (by decide) (by decide) (has_yes (show (0 : Int) ≤ v by omega) (show ((-1) : Int) < 0 ∨ v ≤ (-1) by omega)) (FB_list0 (f := (fs_ApiVersionsResponse[1]'(by decide))) (by decide) (by decide) (by decide) ok59)
 have hs59 := fold_size e_2 (by decide) hb
 have hc59 : (D ++ plainTo (zipped fs_ApiVersionsResponse v true T) v 1).length + (counted true false (lT (T.at 1)).length 4).length ≤ LIM := by have h := hs59; simp only [List.length_append] at h ⊢; omega
 refine cl rfl rfl rfl (OutK.cast (k_AppendCompactArrayLen (n := (lT (T.at 1)).length) (by omega) r50 hc59) (show _ = D ++ plainTo (zipped fs_ApiVersionsResponse v true T) v 1 ++ (counted true false (lT (T.at 1)).length 4) from rfl)) rfl (fun v_ H1 L1 hle hR => ?_)
 obtain ⟨rfl, a59, c59, N59, rfl, rfl, h59⟩ := hR
 have r59 := h59.1
 refine asg rfl rfl ?_
 refine nl ?_
 refine sr ?_
 refine mv rfl rfl ?_
 refine ls Tryz.runUnderlying94 rfl rfl ?_
 refine mv rfl rfl ?_
 refine nl ?_
 refine fr ((lT (T.at 1)).length) (fun k1 l' H' L' => ∃ (a_k1 : Option Addr), ∃ (m_k1 : Nat), ∃ (c_k1 : Nat), ∃ (N_k1 : Chunk), [(0, .pointer (some ⟨b, 0, none⟩)), (1, .slice a_k1 m_k1 c_k1), (5, .int .i16 v), (6, .bool (decide ((3 : Int) ≤ v))), (8, .slice a1 (lT (T.at 1)).length c1), (65, .int .i64 ((lT (T.at 1)).length : Int))] = l' ∧ N_k1 :: L = L' ∧ Row 5 1 a_k1 m_k1 c_k1 (bytesOf (D ++ plainTo (zipped fs_ApiVersionsResponse v true T) v 1 ++ (counted true false (lT (T.at 1)).length 4) ++ ((lT (T.at 1)).take k1).flatMap (GOf (fs_ApiVersionsResponse[1]'(by decide)) v true))) N_k1 ∧ m_k1 = (D ++ plainTo (zipped fs_ApiVersionsResponse v true T) v 1 ++ (counted true false (lT (T.at 1)).length 4) ++ ((lT (T.at 1)).take k1).flatMap (GOf (fs_ApiVersionsResponse[1]'(by decide)) v true)).length) [(0, .pointer (some ⟨b, 0, none⟩)), (1, .slice _ _ _), (5, .int .i16 v), (6, .bool (decide ((3 : Int) ≤ v))), (8, .slice a1 (lT (T.at 1)).length c1), (65, .int .i64 ((lT (T.at 1)).length : Int))] (fun k1 l' H' L' h => ?_) (by omega) rfl (.of ⟨rfl, rfl, rfl, rfl, rfl, rfl, trivial⟩) ⟨_, _, _, _, rfl, rfl, (by rw [List.take_zero, List.flatMap_nil, List.append_nil]; exact r59), (by rw [List.take_zero, List.flatMap_nil, List.append_nil])⟩ rfl rfl rfl rfl rfl (fun k1 l' H' L' hk1 le_3 hI => ?_) (fun l' H' L' le_4 hI => ?_)
 · obtain ⟨a_k1, m_k1, c_k1, N_k1, rfl, _⟩ := h; exact ⟨rfl, rfl, rfl, rfl⟩
 ·
  obtain ⟨a_k1, m_k1, c_k1, N_k1, rfl, rfl, pk10, pk11⟩ := hI
  subst pk11
  refine sr ?_
  refine mv rfl rfl ?_
  refine asg rfl rfl ?_
  refine nl ?_
  refine sr ?_
  refine mv rfl rfl ?_
  refine mv rfl rfl ?_
  obtain ⟨b_5, o_6, e_7, g_8⟩ := (hf0.mono At_ApiVersionsResponseApiKey.mono le_3).rows.at_ (ne_nil_of_lt hk1)
  obtain ⟨cs_9, hA_10, hc_11⟩ := g_8 k1 hk1
  refine ix2 Tryz.runUnderlying94 Tryz.sizeOf101 rfl e_7 rfl rfl hk1 rfl ?_
  obtain ⟨m_k1_t, rfl, hf_k1_0⟩ := hA_10
  have oek1 := (ok59.el rfl _ (lT_mem (List.getElem_mem hk1))).2 rfl
  obtain ⟨B_k1, hdk1⟩ : ∃ z : List UInt8, z = D ++ plainTo (zipped fs_ApiVersionsResponse v true T) v 1 ++ (counted true false (lT (T.at 1)).length 4) ++ ((lT (T.at 1)).take k1).flatMap (GOf (fs_ApiVersionsResponse[1]'(by decide)) v true) := ⟨_, rfl⟩
  have rbk1 := pk10
  rw [← hdk1] at rbk1 ⊢
  have hBk1 : B_k1.length + (partB fs_sApiVersionsResponseApiKey v true ((lT (T.at 1))[k1])).length ≤ LIM := by rw [hdk1]; exact el_size hs59 hk1 (GOf_part (by decide) _)
  refine asg rfl rfl ?_
  refine nl ?_
  refine sq ?_
  refine sr ?_
  refine mv rfl rfl ?_
  refine nc rfl rfl ?_
  refine fa F101_0 rfl rfl ?_
  refine ld (Says.fz hc_11) Tryz.isAgg40 rfl (Nat.add_zero _).symm rfl rfl ?_
  refine asg rfl rfl ?_
  refine nl ?_
  refine rg ?_
  refine mv rfl rfl ?_
  refine mv rfl rfl ?_
  have ok78 := oek1.get 0 (by decide) (has_yes (show (0 : Int) ≤ v by omega) (show ((-1) : Int) < 0 ∨ v ≤ (-1) by omega))
  have e_12 : B_k1 ++ (fixed (IntKind.i16.wrap (((lT (T.at 1))[k1]).at 0).n) 2) = B_k1 ++ plainTo (zipped fs_sApiVersionsResponseApiKey v true ((lT (T.at 1))[k1])) v 1 := fold_first (fs := fs_sApiVersionsResponseApiKey) (v := v) (flex := true) (t := ((lT (T.at 1))[k1])) (B := B_k1) 0 rfl (by decide) (by decide) (has_yes (show (0 : Int) ≤ v by omega) (show ((-1) : Int) < 0 ∨ v ≤ (-1) by omega)) ((FB_int (f := (fs_sApiVersionsResponseApiKey[0]'(by decide))) (by decide) (by decide)).trans (fixed_i16 _).symm)
  have hs78 := fold_size e_12 (by decide) hBk1
  refine cl rfl rfl rfl (OutK.cast (k_AppendInt16 (u := IntKind.i16.wrap (((lT (T.at 1))[k1]).at 0).n) rbk1 hs78) e_12) rfl (fun v_ H1 L1 hle hR => ?_)
  obtain ⟨rfl, a78, c78, N78, rfl, rfl, h78⟩ := hR
  have r78 := h78.1
  refine asg rfl rfl ?_
  refine nl ?_
  refine sq ?_
  refine sr ?_
  refine mv rfl rfl ?_
  refine nc rfl rfl ?_
  refine fa F101_1 rfl rfl ?_
  refine ld (Says.fz hc_11) Tryz.isAgg40 rfl rfl rfl rfl ?_
  refine asg rfl rfl ?_
  refine nl ?_
  refine rg ?_
  refine mv rfl rfl ?_
  refine mv rfl rfl ?_
  have ok85 := oek1.get 1 (by decide) (has_yes (show (0 : Int) ≤ v by omega) (show ((-1) : Int) < 0 ∨ v ≤ (-1) by omega))
  have e_13 : B_k1 ++ plainTo (zipped fs_sApiVersionsResponseApiKey v true ((lT (T.at 1))[k1])) v 1 ++ (fixed (IntKind.i16.wrap (((lT (T.at 1))[k1]).at 1).n) 2) = B_k1 ++ plainTo (zipped fs_sApiVersionsResponseApiKey v true ((lT (T.at 1))[k1])) v 2 := fold_yes (fs := fs_sApiVersionsResponseApiKey) (v := v) (flex := true) (t := ((lT (T.at 1))[k1])) (B := B_k1) 1 (by decide) (by decide) (has_yes (show (0 : Int) ≤ v by omega) (show ((-1) : Int) < 0 ∨ v ≤ (-1) by omega)) ((FB_int (f := (fs_sApiVersionsResponseApiKey[1]'(by decide))) (by decide) (by decide)).trans (fixed_i16 _).symm)
  have hs85 := fold_size e_13 (by decide) hBk1
  refine cl rfl rfl rfl (OutK.cast (k_AppendInt16 (u := IntKind.i16.wrap (((lT (T.at 1))[k1]).at 1).n) r78 hs85) e_13) rfl (fun v_ H1 L1 hle hR => ?_)
  obtain ⟨rfl, a85, c85, N85, rfl, rfl, h85⟩ := hR
  have r85 := h85.1
  refine asg rfl rfl ?_
  refine nl ?_
  refine sq ?_
  refine sr ?_
  refine mv rfl rfl ?_
  refine nc rfl rfl ?_
  refine fa F101_2 rfl rfl ?_
  refine ld (Says.fz hc_11) Tryz.isAgg40 rfl rfl rfl rfl ?_
  refine asg rfl rfl ?_
  refine nl ?_
  refine rg ?_
  refine mv rfl rfl ?_
  refine mv rfl rfl ?_
  have ok92 := oek1.get 2 (by decide) (has_yes (show (0 : Int) ≤ v by omega) (show ((-1) : Int) < 0 ∨ v ≤ (-1) by omega))
  have e_14 : B_k1 ++ plainTo (zipped fs_sApiVersionsResponseApiKey v true ((lT (T.at 1))[k1])) v 2 ++ (fixed (IntKind.i16.wrap (((lT (T.at 1))[k1]).at 2).n) 2) = B_k1 ++ plainTo (zipped fs_sApiVersionsResponseApiKey v true ((lT (T.at 1))[k1])) v 3 := fold_yes (fs := fs_sApiVersionsResponseApiKey) (v := v) (flex := true) (t := ((lT (T.at 1))[k1])) (B := B_k1) 2 (by decide) (by decide) (has_yes (show (0 : Int) ≤ v by omega) (show ((-1) : Int) < 0 ∨ v ≤ (-1) by omega)) ((FB_int (f := (fs_sApiVersionsResponseApiKey[2]'(by decide))) (by decide) (by decide)).trans (fixed_i16 _).symm)
  have hs92 := fold_size e_14 (by decide) hBk1
  refine cl rfl rfl rfl (OutK.cast (k_AppendInt16 (u := IntKind.i16.wrap (((lT (T.at 1))[k1]).at 2).n) r85 hs92) e_14) rfl (fun v_ H1 L1 hle hR => ?_)
  obtain ⟨rfl, a92, c92, N92, rfl, rfl, h92⟩ := hR
  have r92 := h92.1
  refine asg rfl rfl ?_
  refine nl ?_
  refine sr ?_
  refine mv rfl rfl ?_
  refine nl ?_
  refine cdT rfl (by omega) ?_
  refine sr ?_
  refine mv rfl rfl ?_
  refine mv rfl rfl ?_
  refine nc rfl rfl ?_
  refine fa F101_3 rfl rfl ?_
  refine cl rfl rfl rfl (t_lenU (j := 3) hc_11 rfl hf_k1_0) rfl (fun v_ H1 L1 hle hR => ?_)
  obtain ⟨rfl, rfl, rfl⟩ := hR
  have hu98 := oek1.u
  have hul98 := hu98.2.1
  obtain ⟨hz98a, hz98b⟩ := part_size_plain (by decide) hu98 hBk1
  refine cv Tryz.runUnderlying3 Tryz.runUnderlying55 rfl (w32u (by omega) (by omega)) rfl ?_
  refine ad rfl rfl ((w32u (by omega) (by omega)).trans (Int.zero_add _)) rfl ?_
  refine cl rfl rfl rfl (k_AppendUvarint (n := ((lT (T.at 1))[k1]).u.length) (by omega) r92 hz98a) rfl (fun v_ H1 L1 hle hR => ?_)
  obtain ⟨rfl, a101, c101, N101, rfl, rfl, h101⟩ := hR
  have r101 := h101.1
  refine asg rfl rfl ?_
  refine nl ?_
  refine rg ?_
  refine mv rfl rfl ?_
  refine nc rfl rfl ?_
  refine fa F101_3 rfl rfl ?_
  refine mv rfl rfl ?_
  refine cl rfl rfl rfl (t_append_each (j := 3) hc_11 rfl hf_k1_0 (by omega) r101 (fun p hp => by have := hu98.2.2 p hp; omega) hz98b) rfl (fun v_ H1 L1 le_15 hR => ?_)
  obtain ⟨a106, c106, N106, rfl, rfl, h106⟩ := hR
  have r106 := h106.1
  have eP_16 : B_k1 ++ plainTo (zipped fs_sApiVersionsResponseApiKey v true ((lT (T.at 1))[k1])) v 3 ++ uvar ((lT (T.at 1))[k1]).u.length ++ ((lT (T.at 1))[k1]).u.flatMap tagU = B_k1 ++ partB fs_sApiVersionsResponseApiKey v true ((lT (T.at 1))[k1]) := part_close (B := B_k1) (by decide) hu98
  rw [eP_16] at r106 ⊢
  refine asg rfl rfl ?_
  refine nN ?_
  refine Nb ?_
  have ee_17 : B_k1 ++ partB fs_sApiVersionsResponseApiKey v true ((lT (T.at 1))[k1]) = D ++ plainTo (zipped fs_ApiVersionsResponse v true T) v 1 ++ (counted true false (lT (T.at 1)).length 4) ++ ((lT (T.at 1)).take (k1 + 1)).flatMap (GOf (fs_ApiVersionsResponse[1]'(by decide)) v true) := by rw [hdk1]; exact el_end (B0 := D ++ plainTo (zipped fs_ApiVersionsResponse v true T) v 1 ++ (counted true false (lT (T.at 1)).length 4)) (G := (GOf (fs_ApiVersionsResponse[1]'(by decide)) v true)) hk1 (GOf_part (by decide) _)
  refine fun a_ w_ hA hw => ⟨_, _, _, hA.sub ?_, (le_3.trans le_15), hw, _, rfl, _, _, _, _, rfl, rfl, (by rw [← ee_17]; exact r106), (by rw [← ee_17])⟩
  exact (.of ⟨rfl, rfl, rfl, rfl, rfl, rfl, rfl, trivial⟩)
 ·
  obtain ⟨a_k1, m_k1, c_k1, N_k1, rfl, rfl, pk10, pk11⟩ := hI
  refine toWp ?_
  have eL59 : D ++ plainTo (zipped fs_ApiVersionsResponse v true T) v 1 ++ (counted true false (lT (T.at 1)).length 4) ++ ((lT (T.at 1)).take (lT (T.at 1)).length).flatMap (GOf (fs_ApiVersionsResponse[1]'(by decide)) v true) = D ++ plainTo (zipped fs_ApiVersionsResponse v true T) v 2 := by rw [List.take_length, List.append_assoc]; exact e_2
  rw [eL59] at pk10 pk11
  subst pk11
  refine sq ?_
  refine sr ?_
  refine mv rfl rfl ?_
  refine ge rfl rfl rfl ?_
  refine nl ?_
  refine cdT rfl (by omega) ?_
  refine sr ?_
  refine mv rfl rfl ?_
  refine nc rfl rfl ?_
  refine fa0 F98_3 rfl rfl ?_
  refine ld (Says.fz (hv.mono le_4)) Tryz.isAgg21 rfl (Nat.zero_add _).symm rfl rfl ?_
  refine asg rfl rfl ?_
  refine nl ?_
  refine rg ?_
  refine mv rfl rfl ?_
  refine mv rfl rfl ?_
  have ok116 := hok.get 2 (by decide) (has_yes (show (1 : Int) ≤ v by omega) (show ((-1) : Int) < 0 ∨ v ≤ (-1) by omega))
  have e_18 : D ++ plainTo (zipped fs_ApiVersionsResponse v true T) v 2 ++ (fixed (IntKind.i32.wrap (T.at 2).n) 4) = D ++ plainTo (zipped fs_ApiVersionsResponse v true T) v 3 := fold_yes (fs := fs_ApiVersionsResponse) (v := v) (flex := true) (t := T) (B := D) 2 (by decide) (by decide) (has_yes (show (1 : Int) ≤ v by omega) (show ((-1) : Int) < 0 ∨ v ≤ (-1) by omega)) ((FB_int (f := (fs_ApiVersionsResponse[2]'(by decide))) (by decide) (by decide)).trans (fixed_i32 _).symm)
  have hs116 := fold_size e_18 (by decide) hb
  refine cl rfl rfl rfl (OutK.cast (k_AppendInt32 (u := IntKind.i32.wrap (T.at 2).n) pk10 hs116) e_18) rfl (fun v_ H1 L1 hle hR => ?_)
  obtain ⟨rfl, a116, c116, N116, rfl, rfl, h116⟩ := hR
  have r116 := h116.1
  refine asg rfl rfl ?_
  refine nl ?_
  refine sq ?_
  refine sr ?_
  refine mv rfl rfl ?_
  refine nl ?_
  refine cdT rfl (by omega) ?_
  refine sr ?_
  have es_19 : plainTo (zipped fs_ApiVersionsResponse v true T) v 7 = plainTo (zipped fs_ApiVersionsResponse v true T) v 3 := ((((piece_no1 (fs := fs_ApiVersionsResponse) (v := v) (flex := true) (t := T) (k := 6) (by decide) (by decide)).trans (piece_no1 (fs := fs_ApiVersionsResponse) (v := v) (flex := true) (t := T) (k := 5) (by decide) (by decide))).trans (piece_no1 (fs := fs_ApiVersionsResponse) (v := v) (flex := true) (t := T) (k := 4) (by decide) (by decide))).trans (piece_no1 (fs := fs_ApiVersionsResponse) (v := v) (flex := true) (t := T) (k := 3) (by decide) (by decide)))
  have eX_20 : D ++ plainTo (zipped fs_ApiVersionsResponse v true T) v 3 = D ++ plainTo (zipped fs_ApiVersionsResponse v true T) v 7 := by rw [es_19]
  have rx_21 := r116
  rw [eX_20] at rx_21 ⊢
  have hug_22 := hok.u
  have hulg_22 := hug_22.2.1
  obtain ⟨hzg_22a, hzg_22b, hzg_22c⟩ := tagsW_size on_fs_ApiVersionsResponse hug_22 hb
  rw [kn_fs_ApiVersionsResponse] at hzg_22b hzg_22c
  rw [show fs_ApiVersionsResponse.length = 7 from rfl] at hzg_22a hzg_22b hzg_22c
  refine nilL ?_
  refine asg rfl rfl ?_
  refine nl ?_
  refine sq ?_
  refine sr ?_
  refine mv rfl rfl ?_
  refine nc rfl rfl ?_
  refine fa0 F98_4 rfl rfl ?_
  refine ld (Says.fz (hv.mono le_4)) Tryz.isAgg95 rfl (Nat.zero_add _).symm rfl rfl ?_
  refine ls Tryz.runUnderlying95 rfl rfl ?_
  refine gt rfl rfl rfl ?_
  refine nl ?_
  have okt_23 := hok.get 3 (by decide) (has_yes (show (0 : Int) ≤ v by omega) (show ((-1) : Int) < 0 ∨ v ≤ (-1) by omega))
  refine cutT (fun l' H' L' => ∃ (at_23 : Option Addr), ∃ (mt_23 : Nat), ∃ (ct_23 : Nat), ∃ (Nt_23 : Chunk), ∃ (et_23 : Option Addr), ∃ (nt_23 : Nat), ∃ (dt_23 : Nat), ∃ (NEt_23 : Chunk), [(0, .pointer (some ⟨b, 0, none⟩)), (1, .slice at_23 mt_23 ct_23), (6, .bool (decide ((3 : Int) ≤ v))), (15, .slice et_23 nt_23 dt_23)] = l' ∧ NEt_23 :: Nt_23 :: L = L' ∧ Row 5 1 at_23 mt_23 ct_23 (bytesOf (D ++ plainTo (zipped fs_ApiVersionsResponse v true T) v 7)) Nt_23 ∧ mt_23 = (D ++ plainTo (zipped fs_ApiVersionsResponse v true T) v 7).length ∧ Row 55 1 et_23 nt_23 dt_23 (u32L (encT (tgU fs_ApiVersionsResponse T) 1)) NEt_23 ∧ nt_23 = (encT (tgU fs_ApiVersionsResponse T) 1).length) ?_ (fun l' H' L' le_24 hI => ?_)
  ·
   refine cd rfl (fun h123 => ?_) (fun h123 => ?_)
   ·
    refine rg ?_
    refine mv rfl rfl ?_
    refine bs' L88 rfl rfl rfl rfl (fun b_25 => ?_)
    refine ap (k := 1) (news := [.int .u32 ((0 : Nat) : Int)]) Tryz.underlying88 I55 rfl rfl (Row.nil _ _) (fun _ => (.tail .head)) (src_says Tryz.underlying88 rfl (fun _ => Says.own .head) (by intro u hu; simp at hu; subst hu; rfl)) (by have := encT_len (tgU fs_ApiVersionsResponse T) 0; omega) (by have := encT_len (tgU fs_ApiVersionsResponse T) 0; unfold maxLen; omega) rfl (fun a126 c126 N126 r126 z126 => ?_)
    have q126 : Row 55 1 a126 (0 + 1) c126 (u32L ((encT (tgU fs_ApiVersionsResponse T) 0) ++ [0])) N126 := by rw [← u32L_snoc]; exact r126
    refine asg rfl rfl ?_
    refine nN ?_
    refine drN .head ?_
    have utt_23 : (tgU fs_ApiVersionsResponse T) 0 = false := (tu_fs_ApiVersionsResponse_0 _).trans (FU_list_no okt_23 (by decide) (by decide) h123)
    have uet_23 := encT_yes utt_23
    refine fun a_ w_ hA hw => ⟨_, _, _, hA.sub ?_, ler, hw, _, _, _, N116, _, _, _, N126, rfl, rfl, rx_21, rfl, (by rw [uet_23]; exact q126), (by rw [uet_23, List.length_append]; rfl)⟩
    exact (.of ⟨rfl, rfl, rfl, rfl, trivial⟩)
   ·
    refine skN ?_
    have utt_23 : (tgU fs_ApiVersionsResponse T) 0 = true := (tu_fs_ApiVersionsResponse_0 _).trans (FU_list_yes okt_23 (by decide) (by decide) h123)
    have uet_23 := encT_no utt_23
    refine fun a_ w_ hA hw => ⟨_, _, _, hA.sub ?_, ler, hw, _, _, _, N116, _, _, _, [], rfl, rfl, rx_21, rfl, (by rw [uet_23]; exact (Row.nil _ _)), (by rw [uet_23]; exact rfl)⟩
    exact (.of ⟨rfl, rfl, rfl, rfl, trivial⟩)
  ·
   obtain ⟨at_23, mt_23, ct_23, Nt_23, et_23, nt_23, dt_23, NEt_23, rfl, rfl, pj0, pj1, pj2, pj3⟩ := hI
   subst pj1
   subst pj3
   have rt_23 := pj0
   have rEt_23 := pj2
   refine sq ?_
   refine sr ?_
   refine mv rfl rfl ?_
   refine nc rfl rfl ?_
   refine fa0 F98_5 rfl rfl ?_
   refine ld (Says.fz (hv.mono (le_4.trans le_24))) Tryz.isAgg2 rfl (Nat.zero_add _).symm rfl rfl ?_
   refine ne' rfl rfl rfl ?_
   refine nl ?_
   have okt_26 := hok.get 4 (by decide) (has_yes (show (0 : Int) ≤ v by omega) (show ((-1) : Int) < 0 ∨ v ≤ (-1) by omega))
   refine cutT (fun l' H' L' => ∃ (at_26 : Option Addr), ∃ (mt_26 : Nat), ∃ (ct_26 : Nat), ∃ (Nt_26 : Chunk), ∃ (et_26 : Option Addr), ∃ (nt_26 : Nat), ∃ (dt_26 : Nat), ∃ (NEt_26 : Chunk), [(0, .pointer (some ⟨b, 0, none⟩)), (1, .slice at_26 mt_26 ct_26), (6, .bool (decide ((3 : Int) ≤ v))), (15, .slice et_26 nt_26 dt_26)] = l' ∧ NEt_26 :: Nt_26 :: L = L' ∧ Row 5 1 at_26 mt_26 ct_26 (bytesOf (D ++ plainTo (zipped fs_ApiVersionsResponse v true T) v 7)) Nt_26 ∧ mt_26 = (D ++ plainTo (zipped fs_ApiVersionsResponse v true T) v 7).length ∧ Row 55 1 et_26 nt_26 dt_26 (u32L (encT (tgU fs_ApiVersionsResponse T) 2)) NEt_26 ∧ nt_26 = (encT (tgU fs_ApiVersionsResponse T) 2).length) ?_ (fun l' H' L' le_27 hI => ?_)
   ·
    refine cd rfl (fun h131 => ?_) (fun h131 => ?_)
    ·
     refine rg ?_
     refine mv rfl rfl ?_
     refine bs' L88 rfl rfl rfl rfl (fun b_28 => ?_)
     refine ap (k := 1) (news := [.int .u32 ((1 : Nat) : Int)]) Tryz.underlying88 I55 rfl rfl rEt_23 (fun _ => (.tail .head)) (src_says Tryz.underlying88 rfl (fun _ => Says.own .head) (by intro u hu; simp at hu; subst hu; rfl)) (by have := encT_len (tgU fs_ApiVersionsResponse T) 1; omega) (by have := encT_len (tgU fs_ApiVersionsResponse T) 1; unfold maxLen; omega) rfl (fun a134 c134 N134 r134 z134 => ?_)
     have q134 : Row 55 1 a134 ((encT (tgU fs_ApiVersionsResponse T) 1).length + 1) c134 (u32L ((encT (tgU fs_ApiVersionsResponse T) 1) ++ [1])) N134 := by rw [← u32L_snoc]; exact r134
     refine asg rfl rfl ?_
     refine nN ?_
     refine drN .head ?_
     have utt_26 : (tgU fs_ApiVersionsResponse T) 1 = false := (tu_fs_ApiVersionsResponse_1 _).trans ((FU_i64 rfl hRn4 (by decide)).trans (decide_eq_false h131))
     have uet_26 := encT_yes utt_26
     refine fun a_ w_ hA hw => ⟨_, _, _, hA.sub ?_, ler, hw, _, _, _, Nt_23, _, _, _, N134, rfl, rfl, rt_23, rfl, (by rw [uet_26]; exact q134), (by rw [uet_26, List.length_append]; rfl)⟩
     exact (.of ⟨rfl, rfl, rfl, rfl, trivial⟩)
    ·
     refine skN ?_
     have utt_26 : (tgU fs_ApiVersionsResponse T) 1 = true := (tu_fs_ApiVersionsResponse_1 _).trans ((FU_i64 rfl hRn4 (by decide)).trans (decide_eq_true (Decidable.not_not.1 h131)))
     have uet_26 := encT_no utt_26
     refine fun a_ w_ hA hw => ⟨_, _, _, hA.sub ?_, ler, hw, _, _, _, Nt_23, _, _, _, NEt_23, rfl, rfl, rt_23, rfl, (by rw [uet_26]; exact rEt_23), (by rw [uet_26])⟩
     exact (.of ⟨rfl, rfl, rfl, rfl, trivial⟩)
   ·
    obtain ⟨at_26, mt_26, ct_26, Nt_26, et_26, nt_26, dt_26, NEt_26, rfl, rfl, pj0, pj1, pj2, pj3⟩ := hI
    subst pj1
    subst pj3
    have rt_26 := pj0
    have rEt_26 := pj2
    refine sq ?_
    refine sr ?_
    refine mv rfl rfl ?_
    refine nc rfl rfl ?_
    refine fa0 F98_6 rfl rfl ?_
    refine ld (Says.fz (hv.mono (le_4.trans (le_24.trans le_27)))) Tryz.isAgg96 rfl (Nat.zero_add _).symm rfl rfl ?_
    refine ls Tryz.runUnderlying96 rfl rfl ?_
    refine gt rfl rfl rfl ?_
    refine nl ?_
    have okt_29 := hok.get 5 (by decide) (has_yes (show (0 : Int) ≤ v by omega) (show ((-1) : Int) < 0 ∨ v ≤ (-1) by omega))
    refine cutT (fun l' H' L' => ∃ (at_29 : Option Addr), ∃ (mt_29 : Nat), ∃ (ct_29 : Nat), ∃ (Nt_29 : Chunk), ∃ (et_29 : Option Addr), ∃ (nt_29 : Nat), ∃ (dt_29 : Nat), ∃ (NEt_29 : Chunk), [(0, .pointer (some ⟨b, 0, none⟩)), (1, .slice at_29 mt_29 ct_29), (6, .bool (decide ((3 : Int) ≤ v))), (15, .slice et_29 nt_29 dt_29)] = l' ∧ NEt_29 :: Nt_29 :: L = L' ∧ Row 5 1 at_29 mt_29 ct_29 (bytesOf (D ++ plainTo (zipped fs_ApiVersionsResponse v true T) v 7)) Nt_29 ∧ mt_29 = (D ++ plainTo (zipped fs_ApiVersionsResponse v true T) v 7).length ∧ Row 55 1 et_29 nt_29 dt_29 (u32L (encT (tgU fs_ApiVersionsResponse T) 3)) NEt_29 ∧ nt_29 = (encT (tgU fs_ApiVersionsResponse T) 3).length) ?_ (fun l' H' L' le_30 hI => ?_)
    ·
     refine cd rfl (fun h140 => ?_) (fun h140 => ?_)
     ·
      refine rg ?_
      refine mv rfl rfl ?_
      refine bs' L88 rfl rfl rfl rfl (fun b_31 => ?_)
      refine ap (k := 1) (news := [.int .u32 ((2 : Nat) : Int)]) Tryz.underlying88 I55 rfl rfl rEt_26 (fun _ => (.tail .head)) (src_says Tryz.underlying88 rfl (fun _ => Says.own .head) (by intro u hu; simp at hu; subst hu; rfl)) (by have := encT_len (tgU fs_ApiVersionsResponse T) 2; omega) (by have := encT_len (tgU fs_ApiVersionsResponse T) 2; unfold maxLen; omega) rfl (fun a143 c143 N143 r143 z143 => ?_)
      have q143 : Row 55 1 a143 ((encT (tgU fs_ApiVersionsResponse T) 2).length + 1) c143 (u32L ((encT (tgU fs_ApiVersionsResponse T) 2) ++ [2])) N143 := by rw [← u32L_snoc]; exact r143
      refine asg rfl rfl ?_
      refine nN ?_
      refine drN .head ?_
      have utt_29 : (tgU fs_ApiVersionsResponse T) 2 = false := (tu_fs_ApiVersionsResponse_2 _).trans (FU_list_no okt_29 (by decide) (by decide) h140)
      have uet_29 := encT_yes utt_29
      refine fun a_ w_ hA hw => ⟨_, _, _, hA.sub ?_, ler, hw, _, _, _, Nt_26, _, _, _, N143, rfl, rfl, rt_26, rfl, (by rw [uet_29]; exact q143), (by rw [uet_29, List.length_append]; rfl)⟩
      exact (.of ⟨rfl, rfl, rfl, rfl, trivial⟩)
     ·
      refine skN ?_
      have utt_29 : (tgU fs_ApiVersionsResponse T) 2 = true := (tu_fs_ApiVersionsResponse_2 _).trans (FU_list_yes okt_29 (by decide) (by decide) h140)
      have uet_29 := encT_no utt_29
      refine fun a_ w_ hA hw => ⟨_, _, _, hA.sub ?_, ler, hw, _, _, _, Nt_26, _, _, _, NEt_26, rfl, rfl, rt_26, rfl, (by rw [uet_29]; exact rEt_26), (by rw [uet_29])⟩
      exact (.of ⟨rfl, rfl, rfl, rfl, trivial⟩)
    ·
     obtain ⟨at_29, mt_29, ct_29, Nt_29, et_29, nt_29, dt_29, NEt_29, rfl, rfl, pj0, pj1, pj2, pj3⟩ := hI
     subst pj1
     subst pj3
     have rt_29 := pj0
     have rEt_29 := pj2
     refine sq ?_
     refine sr ?_
     refine mv rfl rfl ?_
     refine nc rfl rfl ?_
     refine fa0 F98_7 rfl rfl ?_
     refine ld (Says.fz (hv.mono (le_4.trans (le_24.trans (le_27.trans le_30))))) Tryz.isAgg4 rfl (Nat.zero_add _).symm rfl rfl ?_
     refine nbF Tryz.underlying4 rfl rfl ?_
     refine nl ?_
     have okt_32 := hok.get 6 (by decide) (has_yes (show (0 : Int) ≤ v by omega) (show ((-1) : Int) < 0 ∨ v ≤ (-1) by omega))
     refine cutT (fun l' H' L' => ∃ (at_32 : Option Addr), ∃ (mt_32 : Nat), ∃ (ct_32 : Nat), ∃ (Nt_32 : Chunk), ∃ (et_32 : Option Addr), ∃ (nt_32 : Nat), ∃ (dt_32 : Nat), ∃ (NEt_32 : Chunk), [(0, .pointer (some ⟨b, 0, none⟩)), (1, .slice at_32 mt_32 ct_32), (6, .bool (decide ((3 : Int) ≤ v))), (15, .slice et_32 nt_32 dt_32)] = l' ∧ NEt_32 :: Nt_32 :: L = L' ∧ Row 5 1 at_32 mt_32 ct_32 (bytesOf (D ++ plainTo (zipped fs_ApiVersionsResponse v true T) v 7)) Nt_32 ∧ mt_32 = (D ++ plainTo (zipped fs_ApiVersionsResponse v true T) v 7).length ∧ Row 55 1 et_32 nt_32 dt_32 (u32L (encT (tgU fs_ApiVersionsResponse T) 4)) NEt_32 ∧ nt_32 = (encT (tgU fs_ApiVersionsResponse T) 4).length) ?_ (fun l' H' L' le_33 hI => ?_)
     ·
      refine cd rfl (fun h148 => ?_) (fun h148 => ?_)
      ·
       refine rg ?_
       refine mv rfl rfl ?_
       refine bs' L88 rfl rfl rfl rfl (fun b_34 => ?_)
       refine ap (k := 1) (news := [.int .u32 ((3 : Nat) : Int)]) Tryz.underlying88 I55 rfl rfl rEt_29 (fun _ => (.tail .head)) (src_says Tryz.underlying88 rfl (fun _ => Says.own .head) (by intro u hu; simp at hu; subst hu; rfl)) (by have := encT_len (tgU fs_ApiVersionsResponse T) 3; omega) (by have := encT_len (tgU fs_ApiVersionsResponse T) 3; unfold maxLen; omega) rfl (fun a151 c151 N151 r151 z151 => ?_)
       have q151 : Row 55 1 a151 ((encT (tgU fs_ApiVersionsResponse T) 3).length + 1) c151 (u32L ((encT (tgU fs_ApiVersionsResponse T) 3) ++ [3])) N151 := by rw [← u32L_snoc]; exact r151
       refine asg rfl rfl ?_
       refine nN ?_
       refine drN .head ?_
       have utt_32 : (tgU fs_ApiVersionsResponse T) 3 = false := (tu_fs_ApiVersionsResponse_3 _).trans ((FU_bool rfl).trans (decide_eq_false (show ¬ (T.at 6).n % 2 = (0 : Int) by omega)))
       have uet_32 := encT_yes utt_32
       refine fun a_ w_ hA hw => ⟨_, _, _, hA.sub ?_, ler, hw, _, _, _, Nt_29, _, _, _, N151, rfl, rfl, rt_29, rfl, (by rw [uet_32]; exact q151), (by rw [uet_32, List.length_append]; rfl)⟩
       exact (.of ⟨rfl, rfl, rfl, rfl, trivial⟩)
      ·
       refine skN ?_
       have utt_32 : (tgU fs_ApiVersionsResponse T) 3 = true := (tu_fs_ApiVersionsResponse_3 _).trans ((FU_bool rfl).trans (decide_eq_true (show (T.at 6).n % 2 = (0 : Int) by omega)))
       have uet_32 := encT_no utt_32
       refine fun a_ w_ hA hw => ⟨_, _, _, hA.sub ?_, ler, hw, _, _, _, Nt_29, _, _, _, NEt_29, rfl, rfl, rt_29, rfl, (by rw [uet_32]; exact rEt_29), (by rw [uet_32])⟩
       exact (.of ⟨rfl, rfl, rfl, rfl, trivial⟩)
     ·
      obtain ⟨at_32, mt_32, ct_32, Nt_32, et_32, nt_32, dt_32, NEt_32, rfl, rfl, pj0, pj1, pj2, pj3⟩ := hI
      subst pj1
      subst pj3
      have rt_32 := pj0
      have rEt_32 := pj2
      have helg_22 := encT_len (tgU fs_ApiVersionsResponse T) 4
      refine sr ?_
      refine mv rfl rfl ?_
      refine mv rfl rfl ?_
      refine ls Tryz.runUnderlying88 rfl rfl ?_
      refine mv rfl rfl ?_
      refine nc rfl rfl ?_
      refine fa0 F98_8 rfl rfl ?_
      refine cl rfl rfl rfl (t_lenU (j := 8) (hv.mono (le_4.trans (le_24.trans (le_27.trans (le_30.trans le_33))))) rfl (hf3.mono (le_4.trans (le_24.trans (le_27.trans (le_30.trans le_33)))))) rfl (fun v_ H1 L1 hle hR => ?_)
      obtain ⟨rfl, rfl, rfl⟩ := hR
      refine ad rfl rfl (tgN_add kn_fs_ApiVersionsResponse (by omega)) rfl ?_
      refine cv Tryz.runUnderlying3 Tryz.runUnderlying55 rfl (w32u (by omega) (by unfold tgN; rw [kn_fs_ApiVersionsResponse]; omega)) rfl ?_
      refine tf (.tail .head) ?_
      refine cl rfl rfl rfl (k_AppendUvarint (n := tgN fs_ApiVersionsResponse T) (by unfold tgN; rw [kn_fs_ApiVersionsResponse]; omega) rt_32 hzg_22a) rfl (fun v_ H1 L1 hle hR => ?_)
      obtain ⟨rfl, a161, c161, N161, rfl, rfl, h161⟩ := hR
      have r161 := h161.1
      refine asg rfl rfl ?_
      refine nl ?_
      refine sq ?_
      refine sr ?_
      refine mv rfl rfl ?_
      refine ls Tryz.runUnderlying88 rfl rfl ?_
      refine mv rfl rfl ?_
      refine nl ?_
      refine frW rEt_32 (.tail .head) (fun HEg_22 lEg_22 zEg_22 => ?_)
      refine fr ((encT (tgU fs_ApiVersionsResponse T) 4).length) (fun k2 l' H' L' => ∃ (a_k2 : Option Addr), ∃ (m_k2 : Nat), ∃ (c_k2 : Nat), ∃ (N_k2 : Chunk), [(0, .pointer (some ⟨b, 0, none⟩)), (1, .slice a_k2 m_k2 c_k2), (6, .bool (decide ((3 : Int) ≤ v))), (162, .slice et_32 (encT (tgU fs_ApiVersionsResponse T) 4).length dt_32), (163, .int .i64 ((encT (tgU fs_ApiVersionsResponse T) 4).length : Int))] = l' ∧ N_k2 :: L = L' ∧ Row 5 1 a_k2 m_k2 c_k2 (bytesOf (D ++ plainTo (zipped fs_ApiVersionsResponse v true T) v 7 ++ uvar (tgN fs_ApiVersionsResponse T) ++ ((encT (tgU fs_ApiVersionsResponse T) 4).take k2).flatMap (tgO fs_ApiVersionsResponse v T))) N_k2 ∧ m_k2 = (D ++ plainTo (zipped fs_ApiVersionsResponse v true T) v 7 ++ uvar (tgN fs_ApiVersionsResponse T) ++ ((encT (tgU fs_ApiVersionsResponse T) 4).take k2).flatMap (tgO fs_ApiVersionsResponse v T)).length) [(0, .pointer (some ⟨b, 0, none⟩)), (1, .slice _ _ _), (6, .bool (decide ((3 : Int) ≤ v))), (162, .slice et_32 (encT (tgU fs_ApiVersionsResponse T) 4).length dt_32), (163, .int .i64 ((encT (tgU fs_ApiVersionsResponse T) 4).length : Int))] (fun k2 l' H' L' h => ?_) (by have := helg_22; omega) rfl (.of ⟨rfl, rfl, rfl, rfl, rfl, trivial⟩) ⟨_, _, _, _, rfl, rfl, (by rw [List.take_zero, List.flatMap_nil, List.append_nil]; exact r161), (by rw [List.take_zero, List.flatMap_nil, List.append_nil])⟩ rfl rfl rfl rfl rfl (fun k2 l' H' L' hk2 le_35 hI => ?_) (fun l' H' L' le_36 hI => ?_)
      · obtain ⟨a_k2, m_k2, c_k2, N_k2, rfl, _⟩ := h; exact ⟨rfl, rfl, rfl, rfl⟩
      ·
       obtain ⟨a_k2, m_k2, c_k2, N_k2, rfl, rfl, pk20, pk21⟩ := hI
       subst pk21
       refine sr ?_
       obtain ⟨g_37, eg_37, hg_37⟩ := enc_at zEg_22 rfl hk2
       refine ix2 Tryz.runUnderlying88 Tryz.sizeOf55 rfl eg_37 rfl rfl hk2 rfl ?_
       refine ld (j := k2) (Says.fz (hg_37.mono le_35)) Tryz.isAgg55 rfl (by omega) (u32L_nth hk2) rfl ?_
       refine asg rfl rfl ?_
       refine nl ?_
       refine sr ?_
       refine mv rfl rfl ?_
       refine nl ?_
       refine bl ?_
       refine sr ?_
       refine eq' rfl rfl rfl ?_
       refine asg rfl rfl ?_
       refine nl ?_
       refine cd rfl (fun hsk2_0 => ?_) (fun hsk2_0 => ?_)
       ·
        have hck2 : (encT (tgU fs_ApiVersionsResponse T) 4)[k2] = 0 := by omega
        have hsk2 := hzg_22b k2 hk2
        rw [hck2, to_fs_ApiVersionsResponse_0] at hsk2
        obtain ⟨Xk2, hdXk2⟩ : ∃ z : List UInt8, z = D ++ plainTo (zipped fs_ApiVersionsResponse v true T) v 7 ++ uvar (tgN fs_ApiVersionsResponse T) ++ ((encT (tgU fs_ApiVersionsResponse T) 4).take k2).flatMap (tgO fs_ApiVersionsResponse v T) := ⟨_, rfl⟩
        have rbXk2 := pk20
        rw [← hdXk2] at rbXk2 ⊢
        rw [← hdXk2] at hsk2
        obtain ⟨Bs_38, hds_38⟩ : ∃ z : List UInt8, z = Xk2 ++ uvar 0 := ⟨_, rfl⟩
        have hBs_38 : Bs_38.length + (fieldB (fs_ApiVersionsResponse[3]'(by decide)) v true (T.at 3)).length ≤ LIM := by have h := hsk2; rw [tagB_len] at h; rw [hds_38]; simp only [List.length_append]; omega
        have h32s_38 : (fieldB (fs_ApiVersionsResponse[3]'(by decide)) v true (T.at 3)).length < 4294967296 := by have h := hBs_38; unfold LIM at h; omega
        refine scT 0 (fun l' H' L' => ∃ (as_38 : Option Addr) (ms_38 cs_38 : Nat) (Ns_38 : Chunk), [(0, .pointer (some ⟨b, 0, none⟩)), (1, .slice as_38 ms_38 cs_38), (6, .bool (decide ((3 : Int) ≤ v))), (18, .slice a3 (lT (T.at 3)).length c3), (19, .bool true), (20, .int .i64 ((Bs_38).length : Int)), (162, .slice et_32 (encT (tgU fs_ApiVersionsResponse T) 4).length dt_32), (163, .int .i64 ((encT (tgU fs_ApiVersionsResponse T) 4).length : Int)), (164, .int .i64 (k2 : Int))] = l' ∧ Ns_38 :: L = L' ∧ Row 5 1 as_38 ms_38 cs_38 (bytesOf (Bs_38 ++ uvar (fieldB (fs_ApiVersionsResponse[3]'(by decide)) v true (T.at 3)).length)) Ns_38 ∧ ms_38 = (Bs_38 ++ uvar (fieldB (fs_ApiVersionsResponse[3]'(by decide)) v true (T.at 3)).length).length) rfl ?_ (fun l' H' L' les_38 hI => ?_)
        ·
         refine sr ?_
         refine mv rfl rfl ?_
         refine nc rfl rfl ?_
         refine fa0 F98_4 rfl rfl ?_
         refine ld (Says.fz (hv.mono (le_4.trans (le_24.trans (le_27.trans (le_30.trans (le_33.trans (lEg_22.trans le_35)))))))) Tryz.isAgg95 rfl (Nat.zero_add _).symm rfl rfl ?_
         refine asg rfl rfl ?_
         refine nl ?_
         refine sr ?_
         refine mv rfl rfl ?_
         refine cl rfl rfl rfl (k_AppendUvarint (n := 0) (by omega) rbXk2 (by have h := hsk2; rw [tagB_len] at h; unfold LIM at h; omega)) rfl (fun v_ H1 L1 hle hR => ?_)
         obtain ⟨rfl, a176, c176, N176, rfl, rfl, h176⟩ := hR
         have r176 := h176.1
         have rbs_38 := r176
         rw [← hds_38] at rbs_38 ⊢
         refine asg rfl rfl ?_
         refine nl ?_
         refine sr ?_
         refine asg rfl rfl ?_
         refine nl ?_
         refine sr ?_
         refine mv rfl rfl ?_
         refine ls Tryz.runUnderlying22 rfl rfl ?_
         refine asg rfl rfl ?_
         refine nl ?_
         refine sq ?_
         refine lb ?_
         refine Nt ?_
         refine sq ?_
         refine sr ?_
         refine mv rfl rfl ?_
         refine nl ?_
         refine cdT rfl (by omega) ?_
         refine rg ?_
         refine mv rfl rfl ?_
         refine mv rfl rfl ?_
         refine ls Tryz.runUnderlying95 rfl rfl ?_
         have ok183 := hok.get 3 (by decide) (has_yes (show (0 : Int) ≤ v by omega) (show ((-1) : Int) < 0 ∨ v ≤ (-1) by omega))
         have ll183 := lT_len (ok183.len rfl)
         have e_39 : Bs_38 ++ (counted true false (lT (T.at 3)).length 4 ++ (lT (T.at 3)).flatMap (GOf (fs_ApiVersionsResponse[3]'(by decide)) v true)) = Bs_38 ++ (fieldB (fs_ApiVersionsResponse[3]'(by decide)) v true (T.at 3)) := congrArg (Bs_38 ++ ·) ((FB_listT (f := (fs_ApiVersionsResponse[3]'(by decide))) (by decide) (by decide) ok183)).symm
         have hs183 : (Bs_38).length + (counted true false (lT (T.at 3)).length 4 ++ (lT (T.at 3)).flatMap (GOf (fs_ApiVersionsResponse[3]'(by decide)) v true)).length ≤ LIM := by rw [← (FB_listT (f := (fs_ApiVersionsResponse[3]'(by decide))) (by decide) (by decide) ok183)]; exact hBs_38
         have hc183 : (Bs_38).length + (counted true false (lT (T.at 3)).length 4).length ≤ LIM := by have h := hs183; simp only [List.length_append] at h ⊢; omega
         refine cl rfl rfl rfl (OutK.cast (k_AppendCompactArrayLen (n := (lT (T.at 3)).length) (by omega) rbs_38 hc183) (show _ = Bs_38 ++ (counted true false (lT (T.at 3)).length 4) from rfl)) rfl (fun v_ H1 L1 hle hR => ?_)
         obtain ⟨rfl, a183, c183, N183, rfl, rfl, h183⟩ := hR
         have r183 := h183.1
         refine asg rfl rfl ?_
         refine nl ?_
         refine sq ?_
         refine sr ?_
         refine mv rfl rfl ?_
         refine ls Tryz.runUnderlying95 rfl rfl ?_
         refine mv rfl rfl ?_
         refine nl ?_
         refine fr ((lT (T.at 3)).length) (fun k3 l' H' L' => ∃ (a_k3 : Option Addr), ∃ (m_k3 : Nat), ∃ (c_k3 : Nat), ∃ (N_k3 : Chunk), [(0, .pointer (some ⟨b, 0, none⟩)), (1, .slice a_k3 m_k3 c_k3), (6, .bool (decide ((3 : Int) ≤ v))), (18, .slice a3 (lT (T.at 3)).length c3), (19, .bool false), (20, .int .i64 ((Bs_38).length : Int)), (162, .slice et_32 (encT (tgU fs_ApiVersionsResponse T) 4).length dt_32), (163, .int .i64 ((encT (tgU fs_ApiVersionsResponse T) 4).length : Int)), (164, .int .i64 (k2 : Int)), (179, .bool (decide ((3 : Int) ≤ v))), (181, .slice a3 (lT (T.at 3)).length c3), (182, .int .i64 ((lT (T.at 3)).length : Int)), (188, .slice a3 (lT (T.at 3)).length c3), (189, .int .i64 ((lT (T.at 3)).length : Int))] = l' ∧ N_k3 :: L = L' ∧ Row 5 1 a_k3 m_k3 c_k3 (bytesOf (Bs_38 ++ (counted true false (lT (T.at 3)).length 4) ++ ((lT (T.at 3)).take k3).flatMap (GOf (fs_ApiVersionsResponse[3]'(by decide)) v true))) N_k3 ∧ m_k3 = (Bs_38 ++ (counted true false (lT (T.at 3)).length 4) ++ ((lT (T.at 3)).take k3).flatMap (GOf (fs_ApiVersionsResponse[3]'(by decide)) v true)).length) [(0, .pointer (some ⟨b, 0, none⟩)), (1, .slice _ _ _), (6, .bool (decide ((3 : Int) ≤ v))), (18, .slice a3 (lT (T.at 3)).length c3), (19, .bool false), (20, .int .i64 ((Bs_38).length : Int)), (162, .slice et_32 (encT (tgU fs_ApiVersionsResponse T) 4).length dt_32), (163, .int .i64 ((encT (tgU fs_ApiVersionsResponse T) 4).length : Int)), (164, .int .i64 (k2 : Int)), (179, .bool (decide ((3 : Int) ≤ v))), (181, .slice a3 (lT (T.at 3)).length c3), (182, .int .i64 ((lT (T.at 3)).length : Int)), (188, .slice a3 (lT (T.at 3)).length c3), (189, .int .i64 ((lT (T.at 3)).length : Int))] (fun k3 l' H' L' h => ?_) (by omega) rfl (.of ⟨rfl, rfl, rfl, rfl, rfl, rfl, rfl, rfl, rfl, rfl, rfl, rfl, rfl, rfl, trivial⟩) ⟨_, _, _, _, rfl, rfl, (by rw [List.take_zero, List.flatMap_nil, List.append_nil]; exact r183), (by rw [List.take_zero, List.flatMap_nil, List.append_nil])⟩ rfl rfl rfl rfl rfl (fun k3 l' H' L' hk3 le_40 hI => ?_) (fun l' H' L' le_41 hI => ?_)
         · obtain ⟨a_k3, m_k3, c_k3, N_k3, rfl, _⟩ := h; exact ⟨rfl, rfl, rfl, rfl⟩
         ·
          obtain ⟨a_k3, m_k3, c_k3, N_k3, rfl, rfl, pk30, pk31⟩ := hI
          subst pk31
          refine sr ?_
          refine mv rfl rfl ?_
          refine asg rfl rfl ?_
          refine nl ?_
          refine sr ?_
          refine mv rfl rfl ?_
          refine mv rfl rfl ?_
          obtain ⟨b_42, o_43, e_44, g_45⟩ := (hf1.mono At_ApiVersionsResponseSupportedFeature.mono (le_4.trans (le_24.trans (le_27.trans (le_30.trans (le_33.trans (lEg_22.trans (le_35.trans le_40)))))))).rows.at_ (ne_nil_of_lt hk3)
          obtain ⟨cs_46, hA_47, hc_48⟩ := g_45 k3 hk3
          refine ix2 Tryz.runUnderlying95 Tryz.sizeOf104 rfl e_44 rfl rfl hk3 rfl ?_
          obtain ⟨m_k3_t, rfl, hf_k3_0⟩ := hA_47
          have oek3 := (ok183.el rfl _ (lT_mem (List.getElem_mem hk3))).2 rfl
          obtain ⟨B_k3, hdk3⟩ : ∃ z : List UInt8, z = Bs_38 ++ (counted true false (lT (T.at 3)).length 4) ++ ((lT (T.at 3)).take k3).flatMap (GOf (fs_ApiVersionsResponse[3]'(by decide)) v true) := ⟨_, rfl⟩
          have rbk3 := pk30
          rw [← hdk3] at rbk3 ⊢
          have hBk3 : B_k3.length + (partB fs_sApiVersionsResponseSupportedFeature v true ((lT (T.at 3))[k3])).length ≤ LIM := by rw [hdk3]; exact el_size hs183 hk3 (GOf_part (by decide) _)
          refine asg rfl rfl ?_
          refine nl ?_
          refine sq ?_
          refine sr ?_
          refine mv rfl rfl ?_
          refine nc rfl rfl ?_
          refine fa F104_0 rfl rfl ?_
          refine ld (Says.fz hc_48) Tryz.isAgg9 rfl (Nat.add_zero _).symm rfl rfl ?_
          refine asg rfl rfl ?_
          refine nl ?_
          refine sr ?_
          refine mv rfl rfl ?_
          refine nl ?_
          refine cdT rfl (by omega) ?_
          refine rg ?_
          refine mv rfl rfl ?_
          refine mv rfl rfl ?_
          have ok203 := oek3.get 0 (by decide) (has_yes (show (0 : Int) ≤ v by omega) (show ((-1) : Int) < 0 ∨ v ≤ (-1) by omega))
          have nn203 := ok203.nn (by decide) (by decide) (by decide)
          have e_49 : B_k3 ++ (counted true false (((lT (T.at 3))[k3]).at 0).s.length 2 ++ (((lT (T.at 3))[k3]).at 0).s) = B_k3 ++ plainTo (zipped fs_sApiVersionsResponseSupportedFeature v true ((lT (T.at 3))[k3])) v 1 := fold_first (fs := fs_sApiVersionsResponseSupportedFeature) (v := v) (flex := true) (t := ((lT (T.at 3))[k3])) (B := B_k3) 0 rfl (by decide) (by decide) (has_yes (show (0 : Int) ≤ v by omega) (show ((-1) : Int) < 0 ∨ v ≤ (-1) by omega)) (by rw [FB_text (f := (fs_sApiVersionsResponseSupportedFeature[0]'(by decide))) (by decide) (by decide) ok203, sT_nn nn203, nn203])
          have hs203 := fold_size e_49 (by decide) hBk3
          refine cl rfl rfl rfl (OutK.cast (k_AppendCompactString (x := (((lT (T.at 3))[k3]).at 0).s) (by have := ok203.s (Or.inl rfl); omega) rbk3 hs203) e_49) rfl (fun v_ H1 L1 hle hR => ?_)
          obtain ⟨rfl, a203, c203, N203, rfl, rfl, h203⟩ := hR
          have r203 := h203.1
          refine asg rfl rfl ?_
          refine nl ?_
          refine sq ?_
          refine sr ?_
          refine mv rfl rfl ?_
          refine nc rfl rfl ?_
          refine fa F104_1 rfl rfl ?_
          refine ld (Says.fz hc_48) Tryz.isAgg40 rfl rfl rfl rfl ?_
          refine asg rfl rfl ?_
          refine nl ?_
          refine rg ?_
          refine mv rfl rfl ?_
          refine mv rfl rfl ?_
          have ok213 := oek3.get 1 (by decide) (has_yes (show (0 : Int) ≤ v by omega) (show ((-1) : Int) < 0 ∨ v ≤ (-1) by omega))
          have e_50 : B_k3 ++ plainTo (zipped fs_sApiVersionsResponseSupportedFeature v true ((lT (T.at 3))[k3])) v 1 ++ (fixed (IntKind.i16.wrap (((lT (T.at 3))[k3]).at 1).n) 2) = B_k3 ++ plainTo (zipped fs_sApiVersionsResponseSupportedFeature v true ((lT (T.at 3))[k3])) v 2 := fold_yes (fs := fs_sApiVersionsResponseSupportedFeature) (v := v) (flex := true) (t := ((lT (T.at 3))[k3])) (B := B_k3) 1 (by decide) (by decide) (has_yes (show (0 : Int) ≤ v by omega) (show ((-1) : Int) < 0 ∨ v ≤ (-1) by omega)) ((FB_int (f := (fs_sApiVersionsResponseSupportedFeature[1]'(by decide))) (by decide) (by decide)).trans (fixed_i16 _).symm)
          have hs213 := fold_size e_50 (by decide) hBk3
          refine cl rfl rfl rfl (OutK.cast (k_AppendInt16 (u := IntKind.i16.wrap (((lT (T.at 3))[k3]).at 1).n) r203 hs213) e_50) rfl (fun v_ H1 L1 hle hR => ?_)
          obtain ⟨rfl, a213, c213, N213, rfl, rfl, h213⟩ := hR
          have r213 := h213.1
          refine asg rfl rfl ?_
          refine nl ?_
          refine sq ?_
          refine sr ?_
          refine mv rfl rfl ?_
          refine nc rfl rfl ?_
          refine fa F104_2 rfl rfl ?_
          refine ld (Says.fz hc_48) Tryz.isAgg40 rfl rfl rfl rfl ?_
          refine asg rfl rfl ?_
          refine nl ?_
          refine rg ?_
          refine mv rfl rfl ?_
          refine mv rfl rfl ?_
          have ok220 := oek3.get 2 (by decide) (has_yes (show (0 : Int) ≤ v by omega) (show ((-1) : Int) < 0 ∨ v ≤ (-1) by omega))
          have e_51 : B_k3 ++ plainTo (zipped fs_sApiVersionsResponseSupportedFeature v true ((lT (T.at 3))[k3])) v 2 ++ (fixed (IntKind.i16.wrap (((lT (T.at 3))[k3]).at 2).n) 2) = B_k3 ++ plainTo (zipped fs_sApiVersionsResponseSupportedFeature v true ((lT (T.at 3))[k3])) v 3 := fold_yes (fs := fs_sApiVersionsResponseSupportedFeature) (v := v) (flex := true) (t := ((lT (T.at 3))[k3])) (B := B_k3) 2 (by decide) (by decide) (has_yes (show (0 : Int) ≤ v by omega) (show ((-1) : Int) < 0 ∨ v ≤ (-1) by omega)) ((FB_int (f := (fs_sApiVersionsResponseSupportedFeature[2]'(by decide))) (by decide) (by decide)).trans (fixed_i16 _).symm)
          have hs220 := fold_size e_51 (by decide) hBk3
          refine cl rfl rfl rfl (OutK.cast (k_AppendInt16 (u := IntKind.i16.wrap (((lT (T.at 3))[k3]).at 2).n) r213 hs220) e_51) rfl (fun v_ H1 L1 hle hR => ?_)
          obtain ⟨rfl, a220, c220, N220, rfl, rfl, h220⟩ := hR
          have r220 := h220.1
          refine asg rfl rfl ?_
          refine nl ?_
          refine sr ?_
          refine mv rfl rfl ?_
          refine nl ?_
          refine cdT rfl (by omega) ?_
          refine sr ?_
          refine mv rfl rfl ?_
          refine mv rfl rfl ?_
          refine nc rfl rfl ?_
          refine fa F104_3 rfl rfl ?_
          refine cl rfl rfl rfl (t_lenU (j := 3) hc_48 rfl hf_k3_0) rfl (fun v_ H1 L1 hle hR => ?_)
          obtain ⟨rfl, rfl, rfl⟩ := hR
          have hu226 := oek3.u
          have hul226 := hu226.2.1
          obtain ⟨hz226a, hz226b⟩ := part_size_plain (by decide) hu226 hBk3
          refine cv Tryz.runUnderlying3 Tryz.runUnderlying55 rfl (w32u (by omega) (by omega)) rfl ?_
          refine ad rfl rfl ((w32u (by omega) (by omega)).trans (Int.zero_add _)) rfl ?_
          refine cl rfl rfl rfl (k_AppendUvarint (n := ((lT (T.at 3))[k3]).u.length) (by omega) r220 hz226a) rfl (fun v_ H1 L1 hle hR => ?_)
          obtain ⟨rfl, a229, c229, N229, rfl, rfl, h229⟩ := hR
          have r229 := h229.1
          refine asg rfl rfl ?_
          refine nl ?_
          refine rg ?_
          refine mv rfl rfl ?_
          refine nc rfl rfl ?_
          refine fa F104_3 rfl rfl ?_
          refine mv rfl rfl ?_
          refine cl rfl rfl rfl (t_append_each (j := 3) hc_48 rfl hf_k3_0 (by omega) r229 (fun p hp => by have := hu226.2.2 p hp; omega) hz226b) rfl (fun v_ H1 L1 le_52 hR => ?_)
          obtain ⟨a234, c234, N234, rfl, rfl, h234⟩ := hR
          have r234 := h234.1
          have eP_53 : B_k3 ++ plainTo (zipped fs_sApiVersionsResponseSupportedFeature v true ((lT (T.at 3))[k3])) v 3 ++ uvar ((lT (T.at 3))[k3]).u.length ++ ((lT (T.at 3))[k3]).u.flatMap tagU = B_k3 ++ partB fs_sApiVersionsResponseSupportedFeature v true ((lT (T.at 3))[k3]) := part_close (B := B_k3) (by decide) hu226
          rw [eP_53] at r234 ⊢
          refine asg rfl rfl ?_
          refine nN ?_
          refine Nb ?_
          have ee_54 : B_k3 ++ partB fs_sApiVersionsResponseSupportedFeature v true ((lT (T.at 3))[k3]) = Bs_38 ++ (counted true false (lT (T.at 3)).length 4) ++ ((lT (T.at 3)).take (k3 + 1)).flatMap (GOf (fs_ApiVersionsResponse[3]'(by decide)) v true) := by rw [hdk3]; exact el_end (B0 := Bs_38 ++ (counted true false (lT (T.at 3)).length 4)) (G := (GOf (fs_ApiVersionsResponse[3]'(by decide)) v true)) hk3 (GOf_part (by decide) _)
          refine fun a_ w_ hA hw => ⟨_, _, _, hA.sub ?_, (le_40.trans le_52), hw, _, rfl, _, _, _, _, rfl, rfl, (by rw [← ee_54]; exact r234), (by rw [← ee_54])⟩
          exact (.of ⟨rfl, rfl, rfl, rfl, rfl, rfl, rfl, rfl, rfl, rfl, rfl, rfl, rfl, rfl, rfl, trivial⟩)
         ·
          obtain ⟨a_k3, m_k3, c_k3, N_k3, rfl, rfl, pk30, pk31⟩ := hI
          refine toWp ?_
          have eL183 : Bs_38 ++ (counted true false (lT (T.at 3)).length 4) ++ ((lT (T.at 3)).take (lT (T.at 3)).length).flatMap (GOf (fs_ApiVersionsResponse[3]'(by decide)) v true) = Bs_38 ++ (fieldB (fs_ApiVersionsResponse[3]'(by decide)) v true (T.at 3)) := by rw [List.take_length, List.append_assoc]; exact e_39
          rw [eL183] at pk30 pk31
          subst pk31
          refine sr ?_
          refine mv rfl rfl ?_
          refine nt rfl rfl ?_
          refine nl ?_
          refine cT rfl ?_
          refine sq ?_
          have hzs_38 := And.intro (show Bs_38.length ≤ (Bs_38 ++ (fieldB (fs_ApiVersionsResponse[3]'(by decide)) v true (T.at 3))).length by rw [List.length_append]; omega) (Row.le pk30).1
          refine rgD 10 .nil mixed ?_
          refine dU 0 rfl rfl rfl (y_mv rfl) .nil ler ?_
          refine dU 1 rfl rfl rfl (y_mv rfl) .nil ler ?_
          refine dU 2 rfl rfl rfl (y_slh (j := Bs_38.length) Tryz.runUnderlying22 Tryz.sizeOf5 rfl rfl rfl (Nat.le_trans hzs_38.1 hzs_38.2)) .nil ler ?_
          refine dU 3 rfl rfl rfl (y_mv rfl) .nil ler ?_
          refine dU 4 rfl rfl rfl (y_mv rfl) .nil ler ?_
          refine dU 5 rfl rfl rfl (y_slo (j := Bs_38.length) Tryz.runUnderlying22 Tryz.sizeOf5 rfl rfl rfl hzs_38.1 hzs_38.2) .nil ler ?_
          refine dU 6 rfl rfl rfl (y_ls Tryz.runUnderlying22 rfl) .nil ler ?_
          refine dU 7 rfl rfl rfl (y_cvI Tryz.runUnderlying3 Tryz.runUnderlying55 rfl (resz_len h32s_38)) .nil ler ?_
          refine dE 8 (by kernel_rfl) rfl ?_
          refine cl rfl rfl rfl (k_AppendUvarint (n := (fieldB (fs_ApiVersionsResponse[3]'(by decide)) v true (T.at 3)).length) h32s_38 (Row.cut pk30) (by have h := hsk2; rw [tagB_len] at h; unfold LIM at h; rw [hds_38]; simp only [List.length_append]; omega)) rfl (fun v_ H1 L1 hle hR => ?_)
          obtain ⟨rfl, a246, c246, N246, rfl, rfl, h246⟩ := hR
          have r246 := h246.1
          refine dN .nil ler ?_
          refine dU 9 rfl rfl rfl (y_asg rfl) .nil ler ?_
          refine dD (by kernel_rfl) ?_
          refine Nt ?_
          refine sr ?_
          refine asg rfl rfl ?_
          refine nl ?_
          refine gt0 (fun a_ w_ hA hw => show _ ∧ _ from ⟨rfl, _, _, _, hA.sub ?_, le_41, hw, _, _, _, _, rfl, rfl, r246, rfl⟩)
          exact (.of ⟨rfl, rfl, rfl, rfl, rfl, rfl, rfl, rfl, rfl, trivial⟩)
        ·
         obtain ⟨as_38, ms_38, cs_38, Ns_38, rfl, rfl, pss_38, qss_38⟩ := hI
         subst qss_38
         obtain ⟨Cs_38, hdCs_38⟩ : ∃ z : List UInt8, z = Bs_38 ++ uvar (fieldB (fs_ApiVersionsResponse[3]'(by decide)) v true (T.at 3)).length := ⟨_, rfl⟩
         have rbCs_38 := pss_38
         rw [← hdCs_38] at rbCs_38 ⊢
         have hBCs_38 : Cs_38.length + (fieldB (fs_ApiVersionsResponse[3]'(by decide)) v true (T.at 3)).length ≤ LIM := by have h := hsk2; rw [tagB_len] at h; rw [hdCs_38, hds_38]; simp only [List.length_append]; omega
         refine sq ?_
         refine skt ?_
         refine sq ?_
         refine sr ?_
         refine mv rfl rfl ?_
         refine nl ?_
         refine cdT rfl (by omega) ?_
         refine rg ?_
         refine mv rfl rfl ?_
         refine mv rfl rfl ?_
         refine ls Tryz.runUnderlying95 rfl rfl ?_
         have ok183 := hok.get 3 (by decide) (has_yes (show (0 : Int) ≤ v by omega) (show ((-1) : Int) < 0 ∨ v ≤ (-1) by omega))
         have ll183 := lT_len (ok183.len rfl)
         have e_55 : Cs_38 ++ (counted true false (lT (T.at 3)).length 4 ++ (lT (T.at 3)).flatMap (GOf (fs_ApiVersionsResponse[3]'(by decide)) v true)) = Cs_38 ++ (fieldB (fs_ApiVersionsResponse[3]'(by decide)) v true (T.at 3)) := congrArg (Cs_38 ++ ·) ((FB_listT (f := (fs_ApiVersionsResponse[3]'(by decide))) (by decide) (by decide) ok183)).symm
         have hs183 : (Cs_38).length + (counted true false (lT (T.at 3)).length 4 ++ (lT (T.at 3)).flatMap (GOf (fs_ApiVersionsResponse[3]'(by decide)) v true)).length ≤ LIM := by rw [← (FB_listT (f := (fs_ApiVersionsResponse[3]'(by decide))) (by decide) (by decide) ok183)]; exact hBCs_38
         have hc183 : (Cs_38).length + (counted true false (lT (T.at 3)).length 4).length ≤ LIM := by have h := hs183; simp only [List.length_append] at h ⊢; omega
         refine cl rfl rfl rfl (OutK.cast (k_AppendCompactArrayLen (n := (lT (T.at 3)).length) (by omega) rbCs_38 hc183) (show _ = Cs_38 ++ (counted true false (lT (T.at 3)).length 4) from rfl)) rfl (fun v_ H1 L1 hle hR => ?_)
         obtain ⟨rfl, a183, c183, N183, rfl, rfl, h183⟩ := hR
         have r183 := h183.1
         refine asg rfl rfl ?_
         refine nl ?_
         refine sq ?_
         refine sr ?_
         refine mv rfl rfl ?_
         refine ls Tryz.runUnderlying95 rfl rfl ?_
         refine mv rfl rfl ?_
         refine nl ?_
         refine fr ((lT (T.at 3)).length) (fun k4 l' H' L' => ∃ (a_k4 : Option Addr), ∃ (m_k4 : Nat), ∃ (c_k4 : Nat), ∃ (N_k4 : Chunk), [(0, .pointer (some ⟨b, 0, none⟩)), (1, .slice a_k4 m_k4 c_k4), (6, .bool (decide ((3 : Int) ≤ v))), (18, .slice a3 (lT (T.at 3)).length c3), (19, .bool true), (20, .int .i64 ((Bs_38).length : Int)), (162, .slice et_32 (encT (tgU fs_ApiVersionsResponse T) 4).length dt_32), (163, .int .i64 ((encT (tgU fs_ApiVersionsResponse T) 4).length : Int)), (164, .int .i64 (k2 : Int)), (189, .int .i64 ((lT (T.at 3)).length : Int))] = l' ∧ N_k4 :: L = L' ∧ Row 5 1 a_k4 m_k4 c_k4 (bytesOf (Cs_38 ++ (counted true false (lT (T.at 3)).length 4) ++ ((lT (T.at 3)).take k4).flatMap (GOf (fs_ApiVersionsResponse[3]'(by decide)) v true))) N_k4 ∧ m_k4 = (Cs_38 ++ (counted true false (lT (T.at 3)).length 4) ++ ((lT (T.at 3)).take k4).flatMap (GOf (fs_ApiVersionsResponse[3]'(by decide)) v true)).length) [(0, .pointer (some ⟨b, 0, none⟩)), (1, .slice _ _ _), (6, .bool (decide ((3 : Int) ≤ v))), (18, .slice a3 (lT (T.at 3)).length c3), (19, .bool true), (20, .int .i64 ((Bs_38).length : Int)), (162, .slice et_32 (encT (tgU fs_ApiVersionsResponse T) 4).length dt_32), (163, .int .i64 ((encT (tgU fs_ApiVersionsResponse T) 4).length : Int)), (164, .int .i64 (k2 : Int)), (189, .int .i64 ((lT (T.at 3)).length : Int))] (fun k4 l' H' L' h => ?_) (by omega) rfl (.of ⟨rfl, rfl, rfl, rfl, rfl, rfl, rfl, rfl, rfl, rfl, trivial⟩) ⟨_, _, _, _, rfl, rfl, (by rw [List.take_zero, List.flatMap_nil, List.append_nil]; exact r183), (by rw [List.take_zero, List.flatMap_nil, List.append_nil])⟩ rfl rfl rfl rfl rfl (fun k4 l' H' L' hk4 le_56 hI => ?_) (fun l' H' L' le_57 hI => ?_)
         · obtain ⟨a_k4, m_k4, c_k4, N_k4, rfl, _⟩ := h; exact ⟨rfl, rfl, rfl, rfl⟩
         ·
          obtain ⟨a_k4, m_k4, c_k4, N_k4, rfl, rfl, pk40, pk41⟩ := hI
          subst pk41
          refine sr ?_
          refine mv rfl rfl ?_
          refine asg rfl rfl ?_
          refine nl ?_
          refine sr ?_
          refine mv rfl rfl ?_
          refine mv rfl rfl ?_
          obtain ⟨b_58, o_59, e_60, g_61⟩ := (hf1.mono At_ApiVersionsResponseSupportedFeature.mono (le_4.trans (le_24.trans (le_27.trans (le_30.trans (le_33.trans (lEg_22.trans (le_35.trans (les_38.trans le_56))))))))).rows.at_ (ne_nil_of_lt hk4)
          obtain ⟨cs_62, hA_63, hc_64⟩ := g_61 k4 hk4
          refine ix2 Tryz.runUnderlying95 Tryz.sizeOf104 rfl e_60 rfl rfl hk4 rfl ?_
          obtain ⟨m_k4_t, rfl, hf_k4_0⟩ := hA_63
          have oek4 := (ok183.el rfl _ (lT_mem (List.getElem_mem hk4))).2 rfl
          obtain ⟨B_k4, hdk4⟩ : ∃ z : List UInt8, z = Cs_38 ++ (counted true false (lT (T.at 3)).length 4) ++ ((lT (T.at 3)).take k4).flatMap (GOf (fs_ApiVersionsResponse[3]'(by decide)) v true) := ⟨_, rfl⟩
          have rbk4 := pk40
          rw [← hdk4] at rbk4 ⊢
          have hBk4 : B_k4.length + (partB fs_sApiVersionsResponseSupportedFeature v true ((lT (T.at 3))[k4])).length ≤ LIM := by rw [hdk4]; exact el_size hs183 hk4 (GOf_part (by decide) _)
          refine asg rfl rfl ?_
          refine nl ?_
          refine sq ?_
          refine sr ?_
          refine mv rfl rfl ?_
          refine nc rfl rfl ?_
          refine fa F104_0 rfl rfl ?_
          refine ld (Says.fz hc_64) Tryz.isAgg9 rfl (Nat.add_zero _).symm rfl rfl ?_
          refine asg rfl rfl ?_
          refine nl ?_
          refine sr ?_
          refine mv rfl rfl ?_
          refine nl ?_
          refine cdT rfl (by omega) ?_
          refine rg ?_
          refine mv rfl rfl ?_
          refine mv rfl rfl ?_
          have ok203 := oek4.get 0 (by decide) (has_yes (show (0 : Int) ≤ v by omega) (show ((-1) : Int) < 0 ∨ v ≤ (-1) by omega))
          have nn203 := ok203.nn (by decide) (by decide) (by decide)
          have e_65 : B_k4 ++ (counted true false (((lT (T.at 3))[k4]).at 0).s.length 2 ++ (((lT (T.at 3))[k4]).at 0).s) = B_k4 ++ plainTo (zipped fs_sApiVersionsResponseSupportedFeature v true ((lT (T.at 3))[k4])) v 1 := fold_first (fs := fs_sApiVersionsResponseSupportedFeature) (v := v) (flex := true) (t := ((lT (T.at 3))[k4])) (B := B_k4) 0 rfl (by decide) (by decide) (has_yes (show (0 : Int) ≤ v by omega) (show ((-1) : Int) < 0 ∨ v ≤ (-1) by omega)) (by rw [FB_text (f := (fs_sApiVersionsResponseSupportedFeature[0]'(by decide))) (by decide) (by decide) ok203, sT_nn nn203, nn203])
          have hs203 := fold_size e_65 (by decide) hBk4
          refine cl rfl rfl rfl (OutK.cast (k_AppendCompactString (x := (((lT (T.at 3))[k4]).at 0).s) (by have := ok203.s (Or.inl rfl); omega) rbk4 hs203) e_65) rfl (fun v_ H1 L1 hle hR => ?_)
          obtain ⟨rfl, a203, c203, N203, rfl, rfl, h203⟩ := hR
          have r203 := h203.1
          refine asg rfl rfl ?_
          refine nl ?_
          refine sq ?_
          refine sr ?_
          refine mv rfl rfl ?_
          refine nc rfl rfl ?_
          refine fa F104_1 rfl rfl ?_
          refine ld (Says.fz hc_64) Tryz.isAgg40 rfl rfl rfl rfl ?_
          refine asg rfl rfl ?_
          refine nl ?_
          refine rg ?_
          refine mv rfl rfl ?_
          refine mv rfl rfl ?_
          have ok213 := oek4.get 1 (by decide) (has_yes (show (0 : Int) ≤ v by omega) (show ((-1) : Int) < 0 ∨ v ≤ (-1) by omega))
          have e_66 : B_k4 ++ plainTo (zipped fs_sApiVersionsResponseSupportedFeature v true ((lT (T.at 3))[k4])) v 1 ++ (fixed (IntKind.i16.wrap (((lT (T.at 3))[k4]).at 1).n) 2) = B_k4 ++ plainTo (zipped fs_sApiVersionsResponseSupportedFeature v true ((lT (T.at 3))[k4])) v 2 := fold_yes (fs := fs_sApiVersionsResponseSupportedFeature) (v := v) (flex := true) (t := ((lT (T.at 3))[k4])) (B := B_k4) 1 (by decide) (by decide) (has_yes (show (0 : Int) ≤ v by omega) (show ((-1) : Int) < 0 ∨ v ≤ (-1) by omega)) ((FB_int (f := (fs_sApiVersionsResponseSupportedFeature[1]'(by decide))) (by decide) (by decide)).trans (fixed_i16 _).symm)
          have hs213 := fold_size e_66 (by decide) hBk4
          refine cl rfl rfl rfl (OutK.cast (k_AppendInt16 (u := IntKind.i16.wrap (((lT (T.at 3))[k4]).at 1).n) r203 hs213) e_66) rfl (fun v_ H1 L1 hle hR => ?_)
          obtain ⟨rfl, a213, c213, N213, rfl, rfl, h213⟩ := hR
          have r213 := h213.1
          refine asg rfl rfl ?_
          refine nl ?_
          refine sq ?_
          refine sr ?_
          refine mv rfl rfl ?_
          refine nc rfl rfl ?_
          refine fa F104_2 rfl rfl ?_
          refine ld (Says.fz hc_64) Tryz.isAgg40 rfl rfl rfl rfl ?_
          refine asg rfl rfl ?_
          refine nl ?_
          refine rg ?_
          refine mv rfl rfl ?_
          refine mv rfl rfl ?_
          have ok220 := oek4.get 2 (by decide) (has_yes (show (0 : Int) ≤ v by omega) (show ((-1) : Int) < 0 ∨ v ≤ (-1) by omega))
          have e_67 : B_k4 ++ plainTo (zipped fs_sApiVersionsResponseSupportedFeature v true ((lT (T.at 3))[k4])) v 2 ++ (fixed (IntKind.i16.wrap (((lT (T.at 3))[k4]).at 2).n) 2) = B_k4 ++ plainTo (zipped fs_sApiVersionsResponseSupportedFeature v true ((lT (T.at 3))[k4])) v 3 := fold_yes (fs := fs_sApiVersionsResponseSupportedFeature) (v := v) (flex := true) (t := ((lT (T.at 3))[k4])) (B := B_k4) 2 (by decide) (by decide) (has_yes (show (0 : Int) ≤ v by omega) (show ((-1) : Int) < 0 ∨ v ≤ (-1) by omega)) ((FB_int (f := (fs_sApiVersionsResponseSupportedFeature[2]'(by decide))) (by decide) (by decide)).trans (fixed_i16 _).symm)
          have hs220 := fold_size e_67 (by decide) hBk4
          refine cl rfl rfl rfl (OutK.cast (k_AppendInt16 (u := IntKind.i16.wrap (((lT (T.at 3))[k4]).at 2).n) r213 hs220) e_67) rfl (fun v_ H1 L1 hle hR => ?_)
          obtain ⟨rfl, a220, c220, N220, rfl, rfl, h220⟩ := hR
          have r220 := h220.1
          refine asg rfl rfl ?_
          refine nl ?_
          refine sr ?_
          refine mv rfl rfl ?_
          refine nl ?_
          refine cdT rfl (by omega) ?_
          refine sr ?_
          refine mv rfl rfl ?_
          refine mv rfl rfl ?_
          refine nc rfl rfl ?_
          refine fa F104_3 rfl rfl ?_
          refine cl rfl rfl rfl (t_lenU (j := 3) hc_64 rfl hf_k4_0) rfl (fun v_ H1 L1 hle hR => ?_)
          obtain ⟨rfl, rfl, rfl⟩ := hR
          have hu226 := oek4.u
          have hul226 := hu226.2.1
          obtain ⟨hz226a, hz226b⟩ := part_size_plain (by decide) hu226 hBk4
          refine cv Tryz.runUnderlying3 Tryz.runUnderlying55 rfl (w32u (by omega) (by omega)) rfl ?_
          refine ad rfl rfl ((w32u (by omega) (by omega)).trans (Int.zero_add _)) rfl ?_
          refine cl rfl rfl rfl (k_AppendUvarint (n := ((lT (T.at 3))[k4]).u.length) (by omega) r220 hz226a) rfl (fun v_ H1 L1 hle hR => ?_)
          obtain ⟨rfl, a229, c229, N229, rfl, rfl, h229⟩ := hR
          have r229 := h229.1
          refine asg rfl rfl ?_
          refine nl ?_
          refine rg ?_
          refine mv rfl rfl ?_
          refine nc rfl rfl ?_
          refine fa F104_3 rfl rfl ?_
          refine mv rfl rfl ?_
          refine cl rfl rfl rfl (t_append_each (j := 3) hc_64 rfl hf_k4_0 (by omega) r229 (fun p hp => by have := hu226.2.2 p hp; omega) hz226b) rfl (fun v_ H1 L1 le_68 hR => ?_)
          obtain ⟨a234, c234, N234, rfl, rfl, h234⟩ := hR
          have r234 := h234.1
          have eP_69 : B_k4 ++ plainTo (zipped fs_sApiVersionsResponseSupportedFeature v true ((lT (T.at 3))[k4])) v 3 ++ uvar ((lT (T.at 3))[k4]).u.length ++ ((lT (T.at 3))[k4]).u.flatMap tagU = B_k4 ++ partB fs_sApiVersionsResponseSupportedFeature v true ((lT (T.at 3))[k4]) := part_close (B := B_k4) (by decide) hu226
          rw [eP_69] at r234 ⊢
          refine asg rfl rfl ?_
          refine nN ?_
          refine Nb ?_
          have ee_70 : B_k4 ++ partB fs_sApiVersionsResponseSupportedFeature v true ((lT (T.at 3))[k4]) = Cs_38 ++ (counted true false (lT (T.at 3)).length 4) ++ ((lT (T.at 3)).take (k4 + 1)).flatMap (GOf (fs_ApiVersionsResponse[3]'(by decide)) v true) := by rw [hdk4]; exact el_end (B0 := Cs_38 ++ (counted true false (lT (T.at 3)).length 4)) (G := (GOf (fs_ApiVersionsResponse[3]'(by decide)) v true)) hk4 (GOf_part (by decide) _)
          refine fun a_ w_ hA hw => ⟨_, _, _, hA.sub ?_, (le_56.trans le_68), hw, _, rfl, _, _, _, _, rfl, rfl, (by rw [← ee_70]; exact r234), (by rw [← ee_70])⟩
          exact (.of ⟨rfl, rfl, rfl, rfl, rfl, rfl, rfl, rfl, rfl, rfl, rfl, trivial⟩)
         ·
          obtain ⟨a_k4, m_k4, c_k4, N_k4, rfl, rfl, pk40, pk41⟩ := hI
          refine toWp ?_
          have eL183 : Cs_38 ++ (counted true false (lT (T.at 3)).length 4) ++ ((lT (T.at 3)).take (lT (T.at 3)).length).flatMap (GOf (fs_ApiVersionsResponse[3]'(by decide)) v true) = Cs_38 ++ (fieldB (fs_ApiVersionsResponse[3]'(by decide)) v true (T.at 3)) := by rw [List.take_length, List.append_assoc]; exact e_55
          rw [eL183] at pk40 pk41
          subst pk41
          refine sr ?_
          refine mv rfl rfl ?_
          refine nt rfl rfl ?_
          refine nl ?_
          refine cF rfl ?_
          refine skN ?_
          refine scN ?_
          have et_71 : Cs_38 ++ (fieldB (fs_ApiVersionsResponse[3]'(by decide)) v true (T.at 3)) = Xk2 ++ tagB 0 (fieldB (fs_ApiVersionsResponse[3]'(by decide)) v true (T.at 3)) := by rw [hdCs_38, hds_38]; unfold tagB; simp only [List.append_assoc]
          have rt_72 := pk40
          rw [et_71] at rt_72 ⊢
          refine Nb ?_
          refine Nb ?_
          have ee_73 : Xk2 ++ tagB 0 (fieldB (fs_ApiVersionsResponse[3]'(by decide)) v true (T.at 3)) = D ++ plainTo (zipped fs_ApiVersionsResponse v true T) v 7 ++ uvar (tgN fs_ApiVersionsResponse T) ++ ((encT (tgU fs_ApiVersionsResponse T) 4).take (k2 + 1)).flatMap (tgO fs_ApiVersionsResponse v T) := by rw [hdXk2]; exact el_end (B0 := D ++ plainTo (zipped fs_ApiVersionsResponse v true T) v 7 ++ uvar (tgN fs_ApiVersionsResponse T)) (G := (tgO fs_ApiVersionsResponse v T)) hk2 (by rw [hck2, to_fs_ApiVersionsResponse_0])
          refine fun a_ w_ hA hw => ⟨_, _, _, hA.sub ?_, (le_35.trans (les_38.trans le_57)), hw, _, rfl, _, _, _, _, rfl, rfl, (by rw [← ee_73]; exact rt_72), (by rw [← ee_73])⟩
          exact (.of ⟨rfl, rfl, rfl, rfl, rfl, rfl, trivial⟩)
       ·
        refine sr ?_
        refine eq' rfl rfl rfl ?_
        refine asg rfl rfl ?_
        refine nl ?_
        refine cd rfl (fun hsk2_1 => ?_) (fun hsk2_1 => ?_)
        ·
         have hck2 : (encT (tgU fs_ApiVersionsResponse T) 4)[k2] = 1 := by omega
         have hsk2 := hzg_22b k2 hk2
         rw [hck2, to_fs_ApiVersionsResponse_1] at hsk2
         obtain ⟨Xk2, hdXk2⟩ : ∃ z : List UInt8, z = D ++ plainTo (zipped fs_ApiVersionsResponse v true T) v 7 ++ uvar (tgN fs_ApiVersionsResponse T) ++ ((encT (tgU fs_ApiVersionsResponse T) 4).take k2).flatMap (tgO fs_ApiVersionsResponse v T) := ⟨_, rfl⟩
         have rbXk2 := pk20
         rw [← hdXk2] at rbXk2 ⊢
         rw [← hdXk2] at hsk2
         have hqk2 : fieldB (fs_ApiVersionsResponse[4]'(by decide)) v true (T.at 4) = fixed (T.at 4).n 8 := (FB_int (f := (fs_ApiVersionsResponse[4]'(by decide))) (by decide) (by decide)).trans rfl
         refine sr ?_
         refine mv rfl rfl ?_
         refine nc rfl rfl ?_
         refine fa0 F98_5 rfl rfl ?_
         refine ld (Says.fz (hv.mono (le_4.trans (le_24.trans (le_27.trans (le_30.trans (le_33.trans (lEg_22.trans le_35)))))))) Tryz.isAgg2 rfl (Nat.zero_add _).symm rfl rfl ?_
         refine asg rfl rfl ?_
         refine nl ?_
         refine sr ?_
         refine mv rfl rfl ?_
         refine cl rfl rfl rfl (k_AppendUvarint (n := 1) (by omega) rbXk2 (by have h := hsk2; rw [tagB_len] at h; unfold LIM at h; omega)) rfl (fun v_ H1 L1 hle hR => ?_)
         obtain ⟨rfl, a254, c254, N254, rfl, rfl, h254⟩ := hR
         have r254 := h254.1
         refine asg rfl rfl ?_
         refine nl ?_
         refine sr ?_
         refine mv rfl rfl ?_
         refine cl rfl rfl rfl (k_AppendUvarint (n := 8) (by omega) r254 (by have h := hsk2; rw [tagB_len, hqk2] at h; unfold LIM at h; simp only [List.length_append, fixed_length, List.length_cons, List.length_nil, Nat.zero_add] at h ⊢; omega)) rfl (fun v_ H1 L1 hle hR => ?_)
         obtain ⟨rfl, a256, c256, N256, rfl, rfl, h256⟩ := hR
         have r256 := h256.1
         refine asg rfl rfl ?_
         refine nl ?_
         refine rg ?_
         refine mv rfl rfl ?_
         refine mv rfl rfl ?_
         refine cl rfl rfl rfl (k_AppendInt64 (u := (T.at 4).n) r256 (by have h := hsk2; rw [tagB_len, hqk2] at h; unfold LIM at h; simp only [List.length_append, fixed_length, List.length_cons, List.length_nil, Nat.zero_add] at h ⊢; omega)) rfl (fun v_ H1 L1 hle hR => ?_)
         obtain ⟨rfl, a259, c259, N259, rfl, rfl, h259⟩ := hR
         have r259 := h259.1
         have hb259 : fieldB (fs_ApiVersionsResponse[4]'(by decide)) v true (T.at 4) = fixed ((T.at 4).n) 8 := (FB_int (f := (fs_ApiVersionsResponse[4]'(by decide))) (by decide) (by decide)).trans rfl
         have et_74 : Xk2 ++ uvar 1 ++ uvar 8 ++ fixed ((T.at 4).n) 8 = Xk2 ++ tagB 1 (fieldB (fs_ApiVersionsResponse[4]'(by decide)) v true (T.at 4)) := by rw [hb259]; unfold tagB; simp only [List.append_assoc]; rfl
         rw [et_74] at r259 ⊢
         refine asg rfl rfl ?_
         refine nN ?_
         refine Nb ?_
         refine Nb ?_
         have ee_75 : Xk2 ++ tagB 1 (fieldB (fs_ApiVersionsResponse[4]'(by decide)) v true (T.at 4)) = D ++ plainTo (zipped fs_ApiVersionsResponse v true T) v 7 ++ uvar (tgN fs_ApiVersionsResponse T) ++ ((encT (tgU fs_ApiVersionsResponse T) 4).take (k2 + 1)).flatMap (tgO fs_ApiVersionsResponse v T) := by rw [hdXk2]; exact el_end (B0 := D ++ plainTo (zipped fs_ApiVersionsResponse v true T) v 7 ++ uvar (tgN fs_ApiVersionsResponse T)) (G := (tgO fs_ApiVersionsResponse v T)) hk2 (by rw [hck2, to_fs_ApiVersionsResponse_1])
         refine fun a_ w_ hA hw => ⟨_, _, _, hA.sub ?_, le_35, hw, _, rfl, _, _, _, _, rfl, rfl, (by rw [← ee_75]; exact r259), (by rw [← ee_75])⟩
         exact (.of ⟨rfl, rfl, rfl, rfl, rfl, rfl, trivial⟩)
        ·
         refine sr ?_
         refine eq' rfl rfl rfl ?_
         refine asg rfl rfl ?_
         refine nl ?_
         refine cd rfl (fun hsk2_2 => ?_) (fun hsk2_2 => ?_)
         ·
          have hck2 : (encT (tgU fs_ApiVersionsResponse T) 4)[k2] = 2 := by omega
          have hsk2 := hzg_22b k2 hk2
          rw [hck2, to_fs_ApiVersionsResponse_2] at hsk2
          obtain ⟨Xk2, hdXk2⟩ : ∃ z : List UInt8, z = D ++ plainTo (zipped fs_ApiVersionsResponse v true T) v 7 ++ uvar (tgN fs_ApiVersionsResponse T) ++ ((encT (tgU fs_ApiVersionsResponse T) 4).take k2).flatMap (tgO fs_ApiVersionsResponse v T) := ⟨_, rfl⟩
          have rbXk2 := pk20
          rw [← hdXk2] at rbXk2 ⊢
          rw [← hdXk2] at hsk2
          obtain ⟨Bs_76, hds_76⟩ : ∃ z : List UInt8, z = Xk2 ++ uvar 2 := ⟨_, rfl⟩
          have hBs_76 : Bs_76.length + (fieldB (fs_ApiVersionsResponse[5]'(by decide)) v true (T.at 5)).length ≤ LIM := by have h := hsk2; rw [tagB_len] at h; rw [hds_76]; simp only [List.length_append]; omega
          have h32s_76 : (fieldB (fs_ApiVersionsResponse[5]'(by decide)) v true (T.at 5)).length < 4294967296 := by have h := hBs_76; unfold LIM at h; omega
          refine scT 1 (fun l' H' L' => ∃ (as_76 : Option Addr) (ms_76 cs_76 : Nat) (Ns_76 : Chunk), [(0, .pointer (some ⟨b, 0, none⟩)), (1, .slice as_76 ms_76 cs_76), (6, .bool (decide ((3 : Int) ≤ v))), (27, .slice a5 (lT (T.at 5)).length c5), (28, .bool true), (29, .int .i64 ((Bs_76).length : Int)), (162, .slice et_32 (encT (tgU fs_ApiVersionsResponse T) 4).length dt_32), (163, .int .i64 ((encT (tgU fs_ApiVersionsResponse T) 4).length : Int)), (164, .int .i64 (k2 : Int))] = l' ∧ Ns_76 :: L = L' ∧ Row 5 1 as_76 ms_76 cs_76 (bytesOf (Bs_76 ++ uvar (fieldB (fs_ApiVersionsResponse[5]'(by decide)) v true (T.at 5)).length)) Ns_76 ∧ ms_76 = (Bs_76 ++ uvar (fieldB (fs_ApiVersionsResponse[5]'(by decide)) v true (T.at 5)).length).length) rfl ?_ (fun l' H' L' les_76 hI => ?_)
          ·
           refine sr ?_
           refine mv rfl rfl ?_
           refine nc rfl rfl ?_
           refine fa0 F98_6 rfl rfl ?_
           refine ld (Says.fz (hv.mono (le_4.trans (le_24.trans (le_27.trans (le_30.trans (le_33.trans (lEg_22.trans le_35)))))))) Tryz.isAgg96 rfl (Nat.zero_add _).symm rfl rfl ?_
           refine asg rfl rfl ?_
           refine nl ?_
           refine sr ?_
           refine mv rfl rfl ?_
           refine cl rfl rfl rfl (k_AppendUvarint (n := 2) (by omega) rbXk2 (by have h := hsk2; rw [tagB_len] at h; unfold LIM at h; omega)) rfl (fun v_ H1 L1 hle hR => ?_)
           obtain ⟨rfl, a267, c267, N267, rfl, rfl, h267⟩ := hR
           have r267 := h267.1
           have rbs_76 := r267
           rw [← hds_76] at rbs_76 ⊢
           refine asg rfl rfl ?_
           refine nl ?_
           refine sr ?_
           refine asg rfl rfl ?_
           refine nl ?_
           refine sr ?_
           refine mv rfl rfl ?_
           refine ls Tryz.runUnderlying22 rfl rfl ?_
           refine asg rfl rfl ?_
           refine nl ?_
           refine sq ?_
           refine lb ?_
           refine Nt ?_
           refine sq ?_
           refine sr ?_
           refine mv rfl rfl ?_
           refine nl ?_
           refine cdT rfl (by omega) ?_
           refine rg ?_
           refine mv rfl rfl ?_
           refine mv rfl rfl ?_
           refine ls Tryz.runUnderlying96 rfl rfl ?_
           have ok274 := hok.get 5 (by decide) (has_yes (show (0 : Int) ≤ v by omega) (show ((-1) : Int) < 0 ∨ v ≤ (-1) by omega))
           have ll274 := lT_len (ok274.len rfl)
           have e_77 : Bs_76 ++ (counted true false (lT (T.at 5)).length 4 ++ (lT (T.at 5)).flatMap (GOf (fs_ApiVersionsResponse[5]'(by decide)) v true)) = Bs_76 ++ (fieldB (fs_ApiVersionsResponse[5]'(by decide)) v true (T.at 5)) := congrArg (Bs_76 ++ ·) ((FB_listT (f := (fs_ApiVersionsResponse[5]'(by decide))) (by decide) (by decide) ok274)).symm
           have hs274 : (Bs_76).length + (counted true false (lT (T.at 5)).length 4 ++ (lT (T.at 5)).flatMap (GOf (fs_ApiVersionsResponse[5]'(by decide)) v true)).length ≤ LIM := by rw [← (FB_listT (f := (fs_ApiVersionsResponse[5]'(by decide))) (by decide) (by decide) ok274)]; exact hBs_76
           have hc274 : (Bs_76).length + (counted true false (lT (T.at 5)).length 4).length ≤ LIM := by have h := hs274; simp only [List.length_append] at h ⊢; omega
           refine cl rfl rfl rfl (OutK.cast (k_AppendCompactArrayLen (n := (lT (T.at 5)).length) (by omega) rbs_76 hc274) (show _ = Bs_76 ++ (counted true false (lT (T.at 5)).length 4) from rfl)) rfl (fun v_ H1 L1 hle hR => ?_)
           obtain ⟨rfl, a274, c274, N274, rfl, rfl, h274⟩ := hR
           have r274 := h274.1
           refine asg rfl rfl ?_
           refine nl ?_
           refine sq ?_
           refine sr ?_
           refine mv rfl rfl ?_
           refine ls Tryz.runUnderlying96 rfl rfl ?_
           refine mv rfl rfl ?_
           refine nl ?_
           refine fr ((lT (T.at 5)).length) (fun k5 l' H' L' => ∃ (a_k5 : Option Addr), ∃ (m_k5 : Nat), ∃ (c_k5 : Nat), ∃ (N_k5 : Chunk), [(0, .pointer (some ⟨b, 0, none⟩)), (1, .slice a_k5 m_k5 c_k5), (6, .bool (decide ((3 : Int) ≤ v))), (27, .slice a5 (lT (T.at 5)).length c5), (28, .bool false), (29, .int .i64 ((Bs_76).length : Int)), (162, .slice et_32 (encT (tgU fs_ApiVersionsResponse T) 4).length dt_32), (163, .int .i64 ((encT (tgU fs_ApiVersionsResponse T) 4).length : Int)), (164, .int .i64 (k2 : Int)), (270, .bool (decide ((3 : Int) ≤ v))), (272, .slice a5 (lT (T.at 5)).length c5), (273, .int .i64 ((lT (T.at 5)).length : Int)), (279, .slice a5 (lT (T.at 5)).length c5), (280, .int .i64 ((lT (T.at 5)).length : Int))] = l' ∧ N_k5 :: L = L' ∧ Row 5 1 a_k5 m_k5 c_k5 (bytesOf (Bs_76 ++ (counted true false (lT (T.at 5)).length 4) ++ ((lT (T.at 5)).take k5).flatMap (GOf (fs_ApiVersionsResponse[5]'(by decide)) v true))) N_k5 ∧ m_k5 = (Bs_76 ++ (counted true false (lT (T.at 5)).length 4) ++ ((lT (T.at 5)).take k5).flatMap (GOf (fs_ApiVersionsResponse[5]'(by decide)) v true)).length) [(0, .pointer (some ⟨b, 0, none⟩)), (1, .slice _ _ _), (6, .bool (decide ((3 : Int) ≤ v))), (27, .slice a5 (lT (T.at 5)).length c5), (28, .bool false), (29, .int .i64 ((Bs_76).length : Int)), (162, .slice et_32 (encT (tgU fs_ApiVersionsResponse T) 4).length dt_32), (163, .int .i64 ((encT (tgU fs_ApiVersionsResponse T) 4).length : Int)), (164, .int .i64 (k2 : Int)), (270, .bool (decide ((3 : Int) ≤ v))), (272, .slice a5 (lT (T.at 5)).length c5), (273, .int .i64 ((lT (T.at 5)).length : Int)), (279, .slice a5 (lT (T.at 5)).length c5), (280, .int .i64 ((lT (T.at 5)).length : Int))] (fun k5 l' H' L' h => ?_) (by omega) rfl (.of ⟨rfl, rfl, rfl, rfl, rfl, rfl, rfl, rfl, rfl, rfl, rfl, rfl, rfl, rfl, trivial⟩) ⟨_, _, _, _, rfl, rfl, (by rw [List.take_zero, List.flatMap_nil, List.append_nil]; exact r274), (by rw [List.take_zero, List.flatMap_nil, List.append_nil])⟩ rfl rfl rfl rfl rfl (fun k5 l' H' L' hk5 le_78 hI => ?_) (fun l' H' L' le_79 hI => ?_)
           · obtain ⟨a_k5, m_k5, c_k5, N_k5, rfl, _⟩ := h; exact ⟨rfl, rfl, rfl, rfl⟩
           ·
            obtain ⟨a_k5, m_k5, c_k5, N_k5, rfl, rfl, pk50, pk51⟩ := hI
            subst pk51
            refine sr ?_
            refine mv rfl rfl ?_
            refine asg rfl rfl ?_
            refine nl ?_
            refine sr ?_
            refine mv rfl rfl ?_
            refine mv rfl rfl ?_
            obtain ⟨b_80, o_81, e_82, g_83⟩ := (hf2.mono At_ApiVersionsResponseFinalizedFeature.mono (le_4.trans (le_24.trans (le_27.trans (le_30.trans (le_33.trans (lEg_22.trans (le_35.trans le_78)))))))).rows.at_ (ne_nil_of_lt hk5)
            obtain ⟨cs_84, hA_85, hc_86⟩ := g_83 k5 hk5
            refine ix2 Tryz.runUnderlying96 Tryz.sizeOf108 rfl e_82 rfl rfl hk5 rfl ?_
            obtain ⟨m_k5_t, rfl, hf_k5_0⟩ := hA_85
            have oek5 := (ok274.el rfl _ (lT_mem (List.getElem_mem hk5))).2 rfl
            obtain ⟨B_k5, hdk5⟩ : ∃ z : List UInt8, z = Bs_76 ++ (counted true false (lT (T.at 5)).length 4) ++ ((lT (T.at 5)).take k5).flatMap (GOf (fs_ApiVersionsResponse[5]'(by decide)) v true) := ⟨_, rfl⟩
            have rbk5 := pk50
            rw [← hdk5] at rbk5 ⊢
            have hBk5 : B_k5.length + (partB fs_sApiVersionsResponseFinalizedFeature v true ((lT (T.at 5))[k5])).length ≤ LIM := by rw [hdk5]; exact el_size hs274 hk5 (GOf_part (by decide) _)
            refine asg rfl rfl ?_
            refine nl ?_
            refine sq ?_
            refine sr ?_
            refine mv rfl rfl ?_
            refine nc rfl rfl ?_
            refine fa F108_0 rfl rfl ?_
            refine ld (Says.fz hc_86) Tryz.isAgg9 rfl (Nat.add_zero _).symm rfl rfl ?_
            refine asg rfl rfl ?_
            refine nl ?_
            refine sr ?_
            refine mv rfl rfl ?_
            refine nl ?_
            refine cdT rfl (by omega) ?_
            refine rg ?_
            refine mv rfl rfl ?_
            refine mv rfl rfl ?_
            have ok294 := oek5.get 0 (by decide) (has_yes (show (0 : Int) ≤ v by omega) (show ((-1) : Int) < 0 ∨ v ≤ (-1) by omega))
            have nn294 := ok294.nn (by decide) (by decide) (by decide)
            have e_87 : B_k5 ++ (counted true false (((lT (T.at 5))[k5]).at 0).s.length 2 ++ (((lT (T.at 5))[k5]).at 0).s) = B_k5 ++ plainTo (zipped fs_sApiVersionsResponseFinalizedFeature v true ((lT (T.at 5))[k5])) v 1 := fold_first (fs := fs_sApiVersionsResponseFinalizedFeature) (v := v) (flex := true) (t := ((lT (T.at 5))[k5])) (B := B_k5) 0 rfl (by decide) (by decide) (has_yes (show (0 : Int) ≤ v by omega) (show ((-1) : Int) < 0 ∨ v ≤ (-1) by omega)) (by rw [FB_text (f := (fs_sApiVersionsResponseFinalizedFeature[0]'(by decide))) (by decide) (by decide) ok294, sT_nn nn294, nn294])
            have hs294 := fold_size e_87 (by decide) hBk5
            refine cl rfl rfl rfl (OutK.cast (k_AppendCompactString (x := (((lT (T.at 5))[k5]).at 0).s) (by have := ok294.s (Or.inl rfl); omega) rbk5 hs294) e_87) rfl (fun v_ H1 L1 hle hR => ?_)
            obtain ⟨rfl, a294, c294, N294, rfl, rfl, h294⟩ := hR
            have r294 := h294.1
            refine asg rfl rfl ?_
            refine nl ?_
            refine sq ?_
            refine sr ?_
            refine mv rfl rfl ?_
            refine nc rfl rfl ?_
            refine fa F108_1 rfl rfl ?_
            refine ld (Says.fz hc_86) Tryz.isAgg40 rfl rfl rfl rfl ?_
            refine asg rfl rfl ?_
            refine nl ?_
            refine rg ?_
            refine mv rfl rfl ?_
            refine mv rfl rfl ?_
            have ok304 := oek5.get 1 (by decide) (has_yes (show (0 : Int) ≤ v by omega) (show ((-1) : Int) < 0 ∨ v ≤ (-1) by omega))
            have e_88 : B_k5 ++ plainTo (zipped fs_sApiVersionsResponseFinalizedFeature v true ((lT (T.at 5))[k5])) v 1 ++ (fixed (IntKind.i16.wrap (((lT (T.at 5))[k5]).at 1).n) 2) = B_k5 ++ plainTo (zipped fs_sApiVersionsResponseFinalizedFeature v true ((lT (T.at 5))[k5])) v 2 := fold_yes (fs := fs_sApiVersionsResponseFinalizedFeature) (v := v) (flex := true) (t := ((lT (T.at 5))[k5])) (B := B_k5) 1 (by decide) (by decide) (has_yes (show (0 : Int) ≤ v by omega) (show ((-1) : Int) < 0 ∨ v ≤ (-1) by omega)) ((FB_int (f := (fs_sApiVersionsResponseFinalizedFeature[1]'(by decide))) (by decide) (by decide)).trans (fixed_i16 _).symm)
            have hs304 := fold_size e_88 (by decide) hBk5
            refine cl rfl rfl rfl (OutK.cast (k_AppendInt16 (u := IntKind.i16.wrap (((lT (T.at 5))[k5]).at 1).n) r294 hs304) e_88) rfl (fun v_ H1 L1 hle hR => ?_)
            obtain ⟨rfl, a304, c304, N304, rfl, rfl, h304⟩ := hR
            have r304 := h304.1
            refine asg rfl rfl ?_
            refine nl ?_
            refine sq ?_
            refine sr ?_
            refine mv rfl rfl ?_
            refine nc rfl rfl ?_
            refine fa F108_2 rfl rfl ?_
            refine ld (Says.fz hc_86) Tryz.isAgg40 rfl rfl rfl rfl ?_
            refine asg rfl rfl ?_
            refine nl ?_
            refine rg ?_
            refine mv rfl rfl ?_
            refine mv rfl rfl ?_
            have ok311 := oek5.get 2 (by decide) (has_yes (show (0 : Int) ≤ v by omega) (show ((-1) : Int) < 0 ∨ v ≤ (-1) by omega))
            have e_89 : B_k5 ++ plainTo (zipped fs_sApiVersionsResponseFinalizedFeature v true ((lT (T.at 5))[k5])) v 2 ++ (fixed (IntKind.i16.wrap (((lT (T.at 5))[k5]).at 2).n) 2) = B_k5 ++ plainTo (zipped fs_sApiVersionsResponseFinalizedFeature v true ((lT (T.at 5))[k5])) v 3 := fold_yes (fs := fs_sApiVersionsResponseFinalizedFeature) (v := v) (flex := true) (t := ((lT (T.at 5))[k5])) (B := B_k5) 2 (by decide) (by decide) (has_yes (show (0 : Int) ≤ v by omega) (show ((-1) : Int) < 0 ∨ v ≤ (-1) by omega)) ((FB_int (f := (fs_sApiVersionsResponseFinalizedFeature[2]'(by decide))) (by decide) (by decide)).trans (fixed_i16 _).symm)
            have hs311 := fold_size e_89 (by decide) hBk5
            refine cl rfl rfl rfl (OutK.cast (k_AppendInt16 (u := IntKind.i16.wrap (((lT (T.at 5))[k5]).at 2).n) r304 hs311) e_89) rfl (fun v_ H1 L1 hle hR => ?_)
            obtain ⟨rfl, a311, c311, N311, rfl, rfl, h311⟩ := hR
            have r311 := h311.1
            refine asg rfl rfl ?_
            refine nl ?_
            refine sr ?_
            refine mv rfl rfl ?_
            refine nl ?_
            refine cdT rfl (by omega) ?_
            refine sr ?_
            refine mv rfl rfl ?_
            refine mv rfl rfl ?_
            refine nc rfl rfl ?_
            refine fa F108_3 rfl rfl ?_
            refine cl rfl rfl rfl (t_lenU (j := 3) hc_86 rfl hf_k5_0) rfl (fun v_ H1 L1 hle hR => ?_)
            obtain ⟨rfl, rfl, rfl⟩ := hR
            have hu317 := oek5.u
            have hul317 := hu317.2.1
            obtain ⟨hz317a, hz317b⟩ := part_size_plain (by decide) hu317 hBk5
            refine cv Tryz.runUnderlying3 Tryz.runUnderlying55 rfl (w32u (by omega) (by omega)) rfl ?_
            refine ad rfl rfl ((w32u (by omega) (by omega)).trans (Int.zero_add _)) rfl ?_
            refine cl rfl rfl rfl (k_AppendUvarint (n := ((lT (T.at 5))[k5]).u.length) (by omega) r311 hz317a) rfl (fun v_ H1 L1 hle hR => ?_)
            obtain ⟨rfl, a320, c320, N320, rfl, rfl, h320⟩ := hR
            have r320 := h320.1
            refine asg rfl rfl ?_
            refine nl ?_
            refine rg ?_
            refine mv rfl rfl ?_
            refine nc rfl rfl ?_
            refine fa F108_3 rfl rfl ?_
            refine mv rfl rfl ?_
            refine cl rfl rfl rfl (t_append_each (j := 3) hc_86 rfl hf_k5_0 (by omega) r320 (fun p hp => by have := hu317.2.2 p hp; omega) hz317b) rfl (fun v_ H1 L1 le_90 hR => ?_)
            obtain ⟨a325, c325, N325, rfl, rfl, h325⟩ := hR
            have r325 := h325.1
            have eP_91 : B_k5 ++ plainTo (zipped fs_sApiVersionsResponseFinalizedFeature v true ((lT (T.at 5))[k5])) v 3 ++ uvar ((lT (T.at 5))[k5]).u.length ++ ((lT (T.at 5))[k5]).u.flatMap tagU = B_k5 ++ partB fs_sApiVersionsResponseFinalizedFeature v true ((lT (T.at 5))[k5]) := part_close (B := B_k5) (by decide) hu317
            rw [eP_91] at r325 ⊢
            refine asg rfl rfl ?_
            refine nN ?_
            refine Nb ?_
            have ee_92 : B_k5 ++ partB fs_sApiVersionsResponseFinalizedFeature v true ((lT (T.at 5))[k5]) = Bs_76 ++ (counted true false (lT (T.at 5)).length 4) ++ ((lT (T.at 5)).take (k5 + 1)).flatMap (GOf (fs_ApiVersionsResponse[5]'(by decide)) v true) := by rw [hdk5]; exact el_end (B0 := Bs_76 ++ (counted true false (lT (T.at 5)).length 4)) (G := (GOf (fs_ApiVersionsResponse[5]'(by decide)) v true)) hk5 (GOf_part (by decide) _)
            refine fun a_ w_ hA hw => ⟨_, _, _, hA.sub ?_, (le_78.trans le_90), hw, _, rfl, _, _, _, _, rfl, rfl, (by rw [← ee_92]; exact r325), (by rw [← ee_92])⟩
            exact (.of ⟨rfl, rfl, rfl, rfl, rfl, rfl, rfl, rfl, rfl, rfl, rfl, rfl, rfl, rfl, rfl, trivial⟩)
           ·
            obtain ⟨a_k5, m_k5, c_k5, N_k5, rfl, rfl, pk50, pk51⟩ := hI
            refine toWp ?_
            have eL274 : Bs_76 ++ (counted true false (lT (T.at 5)).length 4) ++ ((lT (T.at 5)).take (lT (T.at 5)).length).flatMap (GOf (fs_ApiVersionsResponse[5]'(by decide)) v true) = Bs_76 ++ (fieldB (fs_ApiVersionsResponse[5]'(by decide)) v true (T.at 5)) := by rw [List.take_length, List.append_assoc]; exact e_77
            rw [eL274] at pk50 pk51
            subst pk51
            refine sr ?_
            refine mv rfl rfl ?_
            refine nt rfl rfl ?_
            refine nl ?_
            refine cT rfl ?_
            refine sq ?_
            have hzs_76 := And.intro (show Bs_76.length ≤ (Bs_76 ++ (fieldB (fs_ApiVersionsResponse[5]'(by decide)) v true (T.at 5))).length by rw [List.length_append]; omega) (Row.le pk50).1
            refine rgD 10 .nil mixed ?_
            refine dU 0 rfl rfl rfl (y_mv rfl) .nil ler ?_
            refine dU 1 rfl rfl rfl (y_mv rfl) .nil ler ?_
            refine dU 2 rfl rfl rfl (y_slh (j := Bs_76.length) Tryz.runUnderlying22 Tryz.sizeOf5 rfl rfl rfl (Nat.le_trans hzs_76.1 hzs_76.2)) .nil ler ?_
            refine dU 3 rfl rfl rfl (y_mv rfl) .nil ler ?_
            refine dU 4 rfl rfl rfl (y_mv rfl) .nil ler ?_
            refine dU 5 rfl rfl rfl (y_slo (j := Bs_76.length) Tryz.runUnderlying22 Tryz.sizeOf5 rfl rfl rfl hzs_76.1 hzs_76.2) .nil ler ?_
            refine dU 6 rfl rfl rfl (y_ls Tryz.runUnderlying22 rfl) .nil ler ?_
            refine dU 7 rfl rfl rfl (y_cvI Tryz.runUnderlying3 Tryz.runUnderlying55 rfl (resz_len h32s_76)) .nil ler ?_
            refine dE 8 (by kernel_rfl) rfl ?_
            refine cl rfl rfl rfl (k_AppendUvarint (n := (fieldB (fs_ApiVersionsResponse[5]'(by decide)) v true (T.at 5)).length) h32s_76 (Row.cut pk50) (by have h := hsk2; rw [tagB_len] at h; unfold LIM at h; rw [hds_76]; simp only [List.length_append]; omega)) rfl (fun v_ H1 L1 hle hR => ?_)
            obtain ⟨rfl, a337, c337, N337, rfl, rfl, h337⟩ := hR
            have r337 := h337.1
            refine dN .nil ler ?_
            refine dU 9 rfl rfl rfl (y_asg rfl) .nil ler ?_
            refine dD (by kernel_rfl) ?_
            refine Nt ?_
            refine sr ?_
            refine asg rfl rfl ?_
            refine nl ?_
            refine gt0 (fun a_ w_ hA hw => show _ ∧ _ from ⟨rfl, _, _, _, hA.sub ?_, le_79, hw, _, _, _, _, rfl, rfl, r337, rfl⟩)
            exact (.of ⟨rfl, rfl, rfl, rfl, rfl, rfl, rfl, rfl, rfl, trivial⟩)
          ·
           obtain ⟨as_76, ms_76, cs_76, Ns_76, rfl, rfl, pss_76, qss_76⟩ := hI
           subst qss_76
           obtain ⟨Cs_76, hdCs_76⟩ : ∃ z : List UInt8, z = Bs_76 ++ uvar (fieldB (fs_ApiVersionsResponse[5]'(by decide)) v true (T.at 5)).length := ⟨_, rfl⟩
           have rbCs_76 := pss_76
           rw [← hdCs_76] at rbCs_76 ⊢
           have hBCs_76 : Cs_76.length + (fieldB (fs_ApiVersionsResponse[5]'(by decide)) v true (T.at 5)).length ≤ LIM := by have h := hsk2; rw [tagB_len] at h; rw [hdCs_76, hds_76]; simp only [List.length_append]; omega
           refine sq ?_
           refine skt ?_
           refine sq ?_
           refine sr ?_
           refine mv rfl rfl ?_
           refine nl ?_
           refine cdT rfl (by omega) ?_
           refine rg ?_
           refine mv rfl rfl ?_
           refine mv rfl rfl ?_
           refine ls Tryz.runUnderlying96 rfl rfl ?_
           have ok274 := hok.get 5 (by decide) (has_yes (show (0 : Int) ≤ v by omega) (show ((-1) : Int) < 0 ∨ v ≤ (-1) by omega))
           have ll274 := lT_len (ok274.len rfl)
           have e_93 : Cs_76 ++ (counted true false (lT (T.at 5)).length 4 ++ (lT (T.at 5)).flatMap (GOf (fs_ApiVersionsResponse[5]'(by decide)) v true)) = Cs_76 ++ (fieldB (fs_ApiVersionsResponse[5]'(by decide)) v true (T.at 5)) := congrArg (Cs_76 ++ ·) ((FB_listT (f := (fs_ApiVersionsResponse[5]'(by decide))) (by decide) (by decide) ok274)).symm
           have hs274 : (Cs_76).length + (counted true false (lT (T.at 5)).length 4 ++ (lT (T.at 5)).flatMap (GOf (fs_ApiVersionsResponse[5]'(by decide)) v true)).length ≤ LIM := by rw [← (FB_listT (f := (fs_ApiVersionsResponse[5]'(by decide))) (by decide) (by decide) ok274)]; exact hBCs_76
           have hc274 : (Cs_76).length + (counted true false (lT (T.at 5)).length 4).length ≤ LIM := by have h := hs274; simp only [List.length_append] at h ⊢; omega
           refine cl rfl rfl rfl (OutK.cast (k_AppendCompactArrayLen (n := (lT (T.at 5)).length) (by omega) rbCs_76 hc274) (show _ = Cs_76 ++ (counted true false (lT (T.at 5)).length 4) from rfl)) rfl (fun v_ H1 L1 hle hR => ?_)
           obtain ⟨rfl, a274, c274, N274, rfl, rfl, h274⟩ := hR
           have r274 := h274.1
           refine asg rfl rfl ?_
           refine nl ?_
           refine sq ?_
           refine sr ?_
           refine mv rfl rfl ?_
           refine ls Tryz.runUnderlying96 rfl rfl ?_
           refine mv rfl rfl ?_
           refine nl ?_
           refine fr ((lT (T.at 5)).length) (fun k6 l' H' L' => ∃ (a_k6 : Option Addr), ∃ (m_k6 : Nat), ∃ (c_k6 : Nat), ∃ (N_k6 : Chunk), [(0, .pointer (some ⟨b, 0, none⟩)), (1, .slice a_k6 m_k6 c_k6), (6, .bool (decide ((3 : Int) ≤ v))), (27, .slice a5 (lT (T.at 5)).length c5), (28, .bool true), (29, .int .i64 ((Bs_76).length : Int)), (162, .slice et_32 (encT (tgU fs_ApiVersionsResponse T) 4).length dt_32), (163, .int .i64 ((encT (tgU fs_ApiVersionsResponse T) 4).length : Int)), (164, .int .i64 (k2 : Int)), (280, .int .i64 ((lT (T.at 5)).length : Int))] = l' ∧ N_k6 :: L = L' ∧ Row 5 1 a_k6 m_k6 c_k6 (bytesOf (Cs_76 ++ (counted true false (lT (T.at 5)).length 4) ++ ((lT (T.at 5)).take k6).flatMap (GOf (fs_ApiVersionsResponse[5]'(by decide)) v true))) N_k6 ∧ m_k6 = (Cs_76 ++ (counted true false (lT (T.at 5)).length 4) ++ ((lT (T.at 5)).take k6).flatMap (GOf (fs_ApiVersionsResponse[5]'(by decide)) v true)).length) [(0, .pointer (some ⟨b, 0, none⟩)), (1, .slice _ _ _), (6, .bool (decide ((3 : Int) ≤ v))), (27, .slice a5 (lT (T.at 5)).length c5), (28, .bool true), (29, .int .i64 ((Bs_76).length : Int)), (162, .slice et_32 (encT (tgU fs_ApiVersionsResponse T) 4).length dt_32), (163, .int .i64 ((encT (tgU fs_ApiVersionsResponse T) 4).length : Int)), (164, .int .i64 (k2 : Int)), (280, .int .i64 ((lT (T.at 5)).length : Int))] (fun k6 l' H' L' h => ?_) (by omega) rfl (.of ⟨rfl, rfl, rfl, rfl, rfl, rfl, rfl, rfl, rfl, rfl, trivial⟩) ⟨_, _, _, _, rfl, rfl, (by rw [List.take_zero, List.flatMap_nil, List.append_nil]; exact r274), (by rw [List.take_zero, List.flatMap_nil, List.append_nil])⟩ rfl rfl rfl rfl rfl (fun k6 l' H' L' hk6 le_94 hI => ?_) (fun l' H' L' le_95 hI => ?_)
           · obtain ⟨a_k6, m_k6, c_k6, N_k6, rfl, _⟩ := h; exact ⟨rfl, rfl, rfl, rfl⟩
           ·
            obtain ⟨a_k6, m_k6, c_k6, N_k6, rfl, rfl, pk60, pk61⟩ := hI
            subst pk61
            refine sr ?_
            refine mv rfl rfl ?_
            refine asg rfl rfl ?_
            refine nl ?_
            refine sr ?_
            refine mv rfl rfl ?_
            refine mv rfl rfl ?_
            obtain ⟨b_96, o_97, e_98, g_99⟩ := (hf2.mono At_ApiVersionsResponseFinalizedFeature.mono (le_4.trans (le_24.trans (le_27.trans (le_30.trans (le_33.trans (lEg_22.trans (le_35.trans (les_76.trans le_94))))))))).rows.at_ (ne_nil_of_lt hk6)
            obtain ⟨cs_100, hA_101, hc_102⟩ := g_99 k6 hk6
            refine ix2 Tryz.runUnderlying96 Tryz.sizeOf108 rfl e_98 rfl rfl hk6 rfl ?_
            obtain ⟨m_k6_t, rfl, hf_k6_0⟩ := hA_101
            have oek6 := (ok274.el rfl _ (lT_mem (List.getElem_mem hk6))).2 rfl
            obtain ⟨B_k6, hdk6⟩ : ∃ z : List UInt8, z = Cs_76 ++ (counted true false (lT (T.at 5)).length 4) ++ ((lT (T.at 5)).take k6).flatMap (GOf (fs_ApiVersionsResponse[5]'(by decide)) v true) := ⟨_, rfl⟩
            have rbk6 := pk60
            rw [← hdk6] at rbk6 ⊢
            have hBk6 : B_k6.length + (partB fs_sApiVersionsResponseFinalizedFeature v true ((lT (T.at 5))[k6])).length ≤ LIM := by rw [hdk6]; exact el_size hs274 hk6 (GOf_part (by decide) _)
            refine asg rfl rfl ?_
            refine nl ?_
            refine sq ?_
            refine sr ?_
            refine mv rfl rfl ?_
            refine nc rfl rfl ?_
            refine fa F108_0 rfl rfl ?_
            refine ld (Says.fz hc_102) Tryz.isAgg9 rfl (Nat.add_zero _).symm rfl rfl ?_
            refine asg rfl rfl ?_
            refine nl ?_
            refine sr ?_
            refine mv rfl rfl ?_
            refine nl ?_
            refine cdT rfl (by omega) ?_
            refine rg ?_
            refine mv rfl rfl ?_
            refine mv rfl rfl ?_
            have ok294 := oek6.get 0 (by decide) (has_yes (show (0 : Int) ≤ v by omega) (show ((-1) : Int) < 0 ∨ v ≤ (-1) by omega))
            have nn294 := ok294.nn (by decide) (by decide) (by decide)
            have e_103 : B_k6 ++ (counted true false (((lT (T.at 5))[k6]).at 0).s.length 2 ++ (((lT (T.at 5))[k6]).at 0).s) = B_k6 ++ plainTo (zipped fs_sApiVersionsResponseFinalizedFeature v true ((lT (T.at 5))[k6])) v 1 := fold_first (fs := fs_sApiVersionsResponseFinalizedFeature) (v := v) (flex := true) (t := ((lT (T.at 5))[k6])) (B := B_k6) 0 rfl (by decide) (by decide) (has_yes (show (0 : Int) ≤ v by omega) (show ((-1) : Int) < 0 ∨ v ≤ (-1) by omega)) (by rw [FB_text (f := (fs_sApiVersionsResponseFinalizedFeature[0]'(by decide))) (by decide) (by decide) ok294, sT_nn nn294, nn294])
            have hs294 := fold_size e_103 (by decide) hBk6
            refine cl rfl rfl rfl (OutK.cast (k_AppendCompactString (x := (((lT (T.at 5))[k6]).at 0).s) (by have := ok294.s (Or.inl rfl); omega) rbk6 hs294) e_103) rfl (fun v_ H1 L1 hle hR => ?_)
            obtain ⟨rfl, a294, c294, N294, rfl, rfl, h294⟩ := hR
            have r294 := h294.1
            refine asg rfl rfl ?_
            refine nl ?_
            refine sq ?_
            refine sr ?_
            refine mv rfl rfl ?_
            refine nc rfl rfl ?_
            refine fa F108_1 rfl rfl ?_
            refine ld (Says.fz hc_102) Tryz.isAgg40 rfl rfl rfl rfl ?_
            refine asg rfl rfl ?_
            refine nl ?_
            refine rg ?_
            refine mv rfl rfl ?_
            refine mv rfl rfl ?_
            have ok304 := oek6.get 1 (by decide) (has_yes (show (0 : Int) ≤ v by omega) (show ((-1) : Int) < 0 ∨ v ≤ (-1) by omega))
            have e_104 : B_k6 ++ plainTo (zipped fs_sApiVersionsResponseFinalizedFeature v true ((lT (T.at 5))[k6])) v 1 ++ (fixed (IntKind.i16.wrap (((lT (T.at 5))[k6]).at 1).n) 2) = B_k6 ++ plainTo (zipped fs_sApiVersionsResponseFinalizedFeature v true ((lT (T.at 5))[k6])) v 2 := fold_yes (fs := fs_sApiVersionsResponseFinalizedFeature) (v := v) (flex := true) (t := ((lT (T.at 5))[k6])) (B := B_k6) 1 (by decide) (by decide) (has_yes (show (0 : Int) ≤ v by omega) (show ((-1) : Int) < 0 ∨ v ≤ (-1) by omega)) ((FB_int (f := (fs_sApiVersionsResponseFinalizedFeature[1]'(by decide))) (by decide) (by decide)).trans (fixed_i16 _).symm)
            have hs304 := fold_size e_104 (by decide) hBk6
            refine cl rfl rfl rfl (OutK.cast (k_AppendInt16 (u := IntKind.i16.wrap (((lT (T.at 5))[k6]).at 1).n) r294 hs304) e_104) rfl (fun v_ H1 L1 hle hR => ?_)
            obtain ⟨rfl, a304, c304, N304, rfl, rfl, h304⟩ := hR
            have r304 := h304.1
            refine asg rfl rfl ?_
            refine nl ?_
            refine sq ?_
            refine sr ?_
            refine mv rfl rfl ?_
            refine nc rfl rfl ?_
            refine fa F108_2 rfl rfl ?_
            refine ld (Says.fz hc_102) Tryz.isAgg40 rfl rfl rfl rfl ?_
            refine asg rfl rfl ?_
            refine nl ?_
            refine rg ?_
            refine mv rfl rfl ?_
            refine mv rfl rfl ?_
            have ok311 := oek6.get 2 (by decide) (has_yes (show (0 : Int) ≤ v by omega) (show ((-1) : Int) < 0 ∨ v ≤ (-1) by omega))
            have e_105 : B_k6 ++ plainTo (zipped fs_sApiVersionsResponseFinalizedFeature v true ((lT (T.at 5))[k6])) v 2 ++ (fixed (IntKind.i16.wrap (((lT (T.at 5))[k6]).at 2).n) 2) = B_k6 ++ plainTo (zipped fs_sApiVersionsResponseFinalizedFeature v true ((lT (T.at 5))[k6])) v 3 := fold_yes (fs := fs_sApiVersionsResponseFinalizedFeature) (v := v) (flex := true) (t := ((lT (T.at 5))[k6])) (B := B_k6) 2 (by decide) (by decide) (has_yes (show (0 : Int) ≤ v by omega) (show ((-1) : Int) < 0 ∨ v ≤ (-1) by omega)) ((FB_int (f := (fs_sApiVersionsResponseFinalizedFeature[2]'(by decide))) (by decide) (by decide)).trans (fixed_i16 _).symm)
            have hs311 := fold_size e_105 (by decide) hBk6
            refine cl rfl rfl rfl (OutK.cast (k_AppendInt16 (u := IntKind.i16.wrap (((lT (T.at 5))[k6]).at 2).n) r304 hs311) e_105) rfl (fun v_ H1 L1 hle hR => ?_)
            obtain ⟨rfl, a311, c311, N311, rfl, rfl, h311⟩ := hR
            have r311 := h311.1
            refine asg rfl rfl ?_
            refine nl ?_
            refine sr ?_
            refine mv rfl rfl ?_
            refine nl ?_
            refine cdT rfl (by omega) ?_
            refine sr ?_
            refine mv rfl rfl ?_
            refine mv rfl rfl ?_
            refine nc rfl rfl ?_
            refine fa F108_3 rfl rfl ?_
            refine cl rfl rfl rfl (t_lenU (j := 3) hc_102 rfl hf_k6_0) rfl (fun v_ H1 L1 hle hR => ?_)
            obtain ⟨rfl, rfl, rfl⟩ := hR
            have hu317 := oek6.u
            have hul317 := hu317.2.1
            obtain ⟨hz317a, hz317b⟩ := part_size_plain (by decide) hu317 hBk6
            refine cv Tryz.runUnderlying3 Tryz.runUnderlying55 rfl (w32u (by omega) (by omega)) rfl ?_
            refine ad rfl rfl ((w32u (by omega) (by omega)).trans (Int.zero_add _)) rfl ?_
            refine cl rfl rfl rfl (k_AppendUvarint (n := ((lT (T.at 5))[k6]).u.length) (by omega) r311 hz317a) rfl (fun v_ H1 L1 hle hR => ?_)
            obtain ⟨rfl, a320, c320, N320, rfl, rfl, h320⟩ := hR
            have r320 := h320.1
            refine asg rfl rfl ?_
            refine nl ?_
            refine rg ?_
            refine mv rfl rfl ?_
            refine nc rfl rfl ?_
            refine fa F108_3 rfl rfl ?_
            refine mv rfl rfl ?_
            refine cl rfl rfl rfl (t_append_each (j := 3) hc_102 rfl hf_k6_0 (by omega) r320 (fun p hp => by have := hu317.2.2 p hp; omega) hz317b) rfl (fun v_ H1 L1 le_106 hR => ?_)
            obtain ⟨a325, c325, N325, rfl, rfl, h325⟩ := hR
            have r325 := h325.1
            have eP_107 : B_k6 ++ plainTo (zipped fs_sApiVersionsResponseFinalizedFeature v true ((lT (T.at 5))[k6])) v 3 ++ uvar ((lT (T.at 5))[k6]).u.length ++ ((lT (T.at 5))[k6]).u.flatMap tagU = B_k6 ++ partB fs_sApiVersionsResponseFinalizedFeature v true ((lT (T.at 5))[k6]) := part_close (B := B_k6) (by decide) hu317
            rw [eP_107] at r325 ⊢
            refine asg rfl rfl ?_
            refine nN ?_
            refine Nb ?_
            have ee_108 : B_k6 ++ partB fs_sApiVersionsResponseFinalizedFeature v true ((lT (T.at 5))[k6]) = Cs_76 ++ (counted true false (lT (T.at 5)).length 4) ++ ((lT (T.at 5)).take (k6 + 1)).flatMap (GOf (fs_ApiVersionsResponse[5]'(by decide)) v true) := by rw [hdk6]; exact el_end (B0 := Cs_76 ++ (counted true false (lT (T.at 5)).length 4)) (G := (GOf (fs_ApiVersionsResponse[5]'(by decide)) v true)) hk6 (GOf_part (by decide) _)
            refine fun a_ w_ hA hw => ⟨_, _, _, hA.sub ?_, (le_94.trans le_106), hw, _, rfl, _, _, _, _, rfl, rfl, (by rw [← ee_108]; exact r325), (by rw [← ee_108])⟩
            exact (.of ⟨rfl, rfl, rfl, rfl, rfl, rfl, rfl, rfl, rfl, rfl, rfl, trivial⟩)
           ·
            obtain ⟨a_k6, m_k6, c_k6, N_k6, rfl, rfl, pk60, pk61⟩ := hI
            refine toWp ?_
            have eL274 : Cs_76 ++ (counted true false (lT (T.at 5)).length 4) ++ ((lT (T.at 5)).take (lT (T.at 5)).length).flatMap (GOf (fs_ApiVersionsResponse[5]'(by decide)) v true) = Cs_76 ++ (fieldB (fs_ApiVersionsResponse[5]'(by decide)) v true (T.at 5)) := by rw [List.take_length, List.append_assoc]; exact e_93
            rw [eL274] at pk60 pk61
            subst pk61
            refine sr ?_
            refine mv rfl rfl ?_
            refine nt rfl rfl ?_
            refine nl ?_
            refine cF rfl ?_
            refine skN ?_
            refine scN ?_
            have et_109 : Cs_76 ++ (fieldB (fs_ApiVersionsResponse[5]'(by decide)) v true (T.at 5)) = Xk2 ++ tagB 2 (fieldB (fs_ApiVersionsResponse[5]'(by decide)) v true (T.at 5)) := by rw [hdCs_76, hds_76]; unfold tagB; simp only [List.append_assoc]
            have rt_110 := pk60
            rw [et_109] at rt_110 ⊢
            refine Nb ?_
            refine Nb ?_
            have ee_111 : Xk2 ++ tagB 2 (fieldB (fs_ApiVersionsResponse[5]'(by decide)) v true (T.at 5)) = D ++ plainTo (zipped fs_ApiVersionsResponse v true T) v 7 ++ uvar (tgN fs_ApiVersionsResponse T) ++ ((encT (tgU fs_ApiVersionsResponse T) 4).take (k2 + 1)).flatMap (tgO fs_ApiVersionsResponse v T) := by rw [hdXk2]; exact el_end (B0 := D ++ plainTo (zipped fs_ApiVersionsResponse v true T) v 7 ++ uvar (tgN fs_ApiVersionsResponse T)) (G := (tgO fs_ApiVersionsResponse v T)) hk2 (by rw [hck2, to_fs_ApiVersionsResponse_2])
            refine fun a_ w_ hA hw => ⟨_, _, _, hA.sub ?_, (le_35.trans (les_76.trans le_95)), hw, _, rfl, _, _, _, _, rfl, rfl, (by rw [← ee_111]; exact rt_110), (by rw [← ee_111])⟩
            exact (.of ⟨rfl, rfl, rfl, rfl, rfl, rfl, trivial⟩)
         ·
          refine sr ?_
          refine eq' rfl rfl rfl ?_
          refine asg rfl rfl ?_
          refine nl ?_
          refine cd rfl (fun hsk2_3 => ?_) (fun hsk2_3 => ?_)
          ·
           have hck2 : (encT (tgU fs_ApiVersionsResponse T) 4)[k2] = 3 := by omega
           have hsk2 := hzg_22b k2 hk2
           rw [hck2, to_fs_ApiVersionsResponse_3] at hsk2
           obtain ⟨Xk2, hdXk2⟩ : ∃ z : List UInt8, z = D ++ plainTo (zipped fs_ApiVersionsResponse v true T) v 7 ++ uvar (tgN fs_ApiVersionsResponse T) ++ ((encT (tgU fs_ApiVersionsResponse T) 4).take k2).flatMap (tgO fs_ApiVersionsResponse v T) := ⟨_, rfl⟩
           have rbXk2 := pk20
           rw [← hdXk2] at rbXk2 ⊢
           rw [← hdXk2] at hsk2
           have hqk2 : fieldB (fs_ApiVersionsResponse[6]'(by decide)) v true (T.at 6) = ([if decide ((T.at 6).n % 2 = 1) then 1 else 0] : List UInt8) := (FB_bool (f := (fs_ApiVersionsResponse[6]'(by decide))) (by decide)).trans (bool_byte _)
           refine sr ?_
           refine mv rfl rfl ?_
           refine nc rfl rfl ?_
           refine fa0 F98_7 rfl rfl ?_
           refine ld (Says.fz (hv.mono (le_4.trans (le_24.trans (le_27.trans (le_30.trans (le_33.trans (lEg_22.trans le_35)))))))) Tryz.isAgg4 rfl (Nat.zero_add _).symm rfl rfl ?_
           refine asg rfl rfl ?_
           refine nl ?_
           refine sr ?_
           refine mv rfl rfl ?_
           refine cl rfl rfl rfl (k_AppendUvarint (n := 3) (by omega) rbXk2 (by have h := hsk2; rw [tagB_len] at h; unfold LIM at h; omega)) rfl (fun v_ H1 L1 hle hR => ?_)
           obtain ⟨rfl, a345, c345, N345, rfl, rfl, h345⟩ := hR
           have r345 := h345.1
           refine asg rfl rfl ?_
           refine nl ?_
           refine sr ?_
           refine mv rfl rfl ?_
           refine cl rfl rfl rfl (k_AppendUvarint (n := 1) (by omega) r345 (by have h := hsk2; rw [tagB_len, hqk2] at h; unfold LIM at h; simp only [List.length_append, fixed_length, List.length_cons, List.length_nil, Nat.zero_add] at h ⊢; omega)) rfl (fun v_ H1 L1 hle hR => ?_)
           obtain ⟨rfl, a347, c347, N347, rfl, rfl, h347⟩ := hR
           have r347 := h347.1
           refine asg rfl rfl ?_
           refine nl ?_
           refine rg ?_
           refine mv rfl rfl ?_
           refine mv rfl rfl ?_
           refine cl rfl rfl rfl (k_AppendBool (b := decide ((T.at 6).n % 2 = 1)) r347 (by have h := hsk2; rw [tagB_len, hqk2] at h; unfold LIM at h; simp only [List.length_append, fixed_length, List.length_cons, List.length_nil, Nat.zero_add] at h ⊢; omega)) rfl (fun v_ H1 L1 hle hR => ?_)
           obtain ⟨rfl, a350, c350, N350, rfl, rfl, h350⟩ := hR
           have r350 := h350.1
           have hb350 : fieldB (fs_ApiVersionsResponse[6]'(by decide)) v true (T.at 6) = ([if decide ((T.at 6).n % 2 = 1) then 1 else 0] : List UInt8) := (FB_bool (f := (fs_ApiVersionsResponse[6]'(by decide))) (by decide)).trans (bool_byte _)
           have et_112 : Xk2 ++ uvar 3 ++ uvar 1 ++ ([if decide ((T.at 6).n % 2 = 1) then 1 else 0] : List UInt8) = Xk2 ++ tagB 3 (fieldB (fs_ApiVersionsResponse[6]'(by decide)) v true (T.at 6)) := by rw [hb350]; unfold tagB; simp only [List.append_assoc]; rfl
           rw [et_112] at r350 ⊢
           refine asg rfl rfl ?_
           refine nN ?_
           refine Nb ?_
           refine Nb ?_
           have ee_113 : Xk2 ++ tagB 3 (fieldB (fs_ApiVersionsResponse[6]'(by decide)) v true (T.at 6)) = D ++ plainTo (zipped fs_ApiVersionsResponse v true T) v 7 ++ uvar (tgN fs_ApiVersionsResponse T) ++ ((encT (tgU fs_ApiVersionsResponse T) 4).take (k2 + 1)).flatMap (tgO fs_ApiVersionsResponse v T) := by rw [hdXk2]; exact el_end (B0 := D ++ plainTo (zipped fs_ApiVersionsResponse v true T) v 7 ++ uvar (tgN fs_ApiVersionsResponse T)) (G := (tgO fs_ApiVersionsResponse v T)) hk2 (by rw [hck2, to_fs_ApiVersionsResponse_3])
           refine fun a_ w_ hA hw => ⟨_, _, _, hA.sub ?_, le_35, hw, _, rfl, _, _, _, _, rfl, rfl, (by rw [← ee_113]; exact r350), (by rw [← ee_113])⟩
           exact (.of ⟨rfl, rfl, rfl, rfl, rfl, rfl, trivial⟩)
          ·
           exact absurd (encT_mem (List.getElem_mem hk2)).1 (by omega)
      ·
       obtain ⟨a_k2, m_k2, c_k2, N_k2, rfl, rfl, pk20, pk21⟩ := hI
       refine toWp ?_
       have eLg_22 : D ++ plainTo (zipped fs_ApiVersionsResponse v true T) v 7 ++ uvar (tgN fs_ApiVersionsResponse T) ++ ((encT (tgU fs_ApiVersionsResponse T) 4).take (encT (tgU fs_ApiVersionsResponse T) 4).length).flatMap (tgO fs_ApiVersionsResponse v T) = D ++ plainTo (zipped fs_ApiVersionsResponse v true T) v 7 ++ uvar (tgN fs_ApiVersionsResponse T) ++ (encT (tgU fs_ApiVersionsResponse T) 4).flatMap (tgO fs_ApiVersionsResponse v T) := by rw [List.take_length]
       rw [eLg_22] at pk20 pk21
       subst pk21
       refine rg ?_
       refine mv rfl rfl ?_
       refine nc rfl rfl ?_
       refine fa0 F98_8 rfl rfl ?_
       refine mv rfl rfl ?_
       refine cl rfl rfl rfl (t_append_each (j := 8) (hv.mono (le_4.trans (le_24.trans (le_27.trans (le_30.trans (le_33.trans (lEg_22.trans le_36))))))) rfl (hf3.mono (le_4.trans (le_24.trans (le_27.trans (le_30.trans (le_33.trans (lEg_22.trans le_36))))))) (by omega) pk20 (fun p hp => by have := hug_22.2.2 p hp; omega) hzg_22c) rfl (fun v_ H1 L1 le_114 hR => ?_)
       obtain ⟨a356, c356, N356, rfl, rfl, h356⟩ := hR
       have r356 := h356.1
       have eP_115 : D ++ plainTo (zipped fs_ApiVersionsResponse v true T) v 7 ++ uvar (tgN fs_ApiVersionsResponse T) ++ (encT (tgU fs_ApiVersionsResponse T) 4).flatMap (tgO fs_ApiVersionsResponse v T) ++ T.u.flatMap tagU = D ++ partB fs_ApiVersionsResponse v true T := by
        have h := tags_close (v := v) (B := D) on_fs_ApiVersionsResponse hug_22
        rw [kn_fs_ApiVersionsResponse] at h; exact h
       rw [eP_115] at r356 ⊢
       refine asg rfl rfl ?_
       refine nl ?_
       refine sr ?_
       refine mv rfl rfl ?_
       refine asg rfl rfl ?_
       refine nl ?_
       exact rT rfl rfl (le_4.trans (le_24.trans (le_27.trans (le_30.trans (le_33.trans (lEg_22.trans (le_36.trans le_114))))))) (fun _ _ h => h) (OutB.of r356 rfl)
end Go.Sx

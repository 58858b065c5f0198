import Derived.Test.YtjpidbdhoiagpaaGreatDoorBDescribeConfigsRequest
import Derived.Test.YtjpidbdhoiagpaaGreatDoorKB2
import Derived.Test.YtjpidbdhoiagpaaGreatDoorMkL
import Derived.KernelRfl
set_option linter.unusedVariables false
set_option linter.unusedSimpArgs false
set_option maxRecDepth 100000
set_option maxHeartbeats 20000000
namespace Go.Sx
open Go.Proofs
theorem app_DescribeConfigsRequest_f {H : Fz} {L : Own} {a : Option Addr} {cap b : Nat} {D : List UInt8} {N : Chunk} {cs : List Value} {T : Tr} {v : Int} (hr : Row 5 1 a D.length cap (bytesOf D) N) (hv : H.at b 0 cs) (hA : At_DescribeConfigsRequest v H T cs) (hok : OkP fs_DescribeConfigsRequest v T) (h0 : 0 ≤ v) (h1 : v ≤ 3) (hb : D.length + (partB fs_DescribeConfigsRequest v false T).length ≤ LIM) :
  Fn Tryz.prog 214 [.pointer (some ⟨b, 0, none⟩), .slice a D.length cap] H (N :: L) (fun r H' L' => OutB 5 L (D ++ partB fs_DescribeConfigsRequest v false T) r L') := by
 obtain ⟨a0, c0, mt, rfl, hf0, hf1⟩ := hA
 refine Fn.mk Tryz.call214 Tryz.func214 rfl Tryz.ntmps214 rfl ?_
 refine sr ?_
 refine asg rfl rfl ?_
 refine nl ?_
 refine sr ?_
 refine mv rfl rfl ?_
 refine nc rfl rfl ?_
 refine fa0 F110_0 rfl rfl ?_
 refine ld (Says.fz hv) Tryz.isAgg45 rfl (Nat.zero_add _).symm rfl rfl ?_
 refine asg rfl rfl ?_
 refine nl ?_
 refine sr ?_
 refine mv rfl rfl ?_
 refine nl ?_
 refine sr ?_
 refine mv rfl rfl ?_
 refine ge rfl rfl rfl ?_
 refine asg rfl rfl ?_
 refine nl ?_
 refine sr ?_
 refine mv rfl rfl ?_
 refine nl ?_
 refine sq ?_
 refine sr ?_
 refine mv rfl rfl ?_
 refine nc rfl rfl ?_
 refine fa0 F110_1 rfl rfl ?_
 refine ld (Says.fz hv) Tryz.isAgg108 rfl (Nat.zero_add _).symm rfl rfl ?_
 refine asg rfl rfl ?_
 refine nl ?_
 refine sq ?_
 refine sr ?_
 refine mv rfl rfl ?_
 refine nl ?_
 refine cdF rfl (by omega) ?_
 refine rg ?_
 refine mv rfl rfl ?_
 refine mv rfl rfl ?_
 refine ls Tryz.runUnderlying108 rfl rfl ?_
 have ok38 := hok.get 0 (by decide) (has_yes (show (0 : Int) ≤ v by omega) (show ((-1) : Int) < 0 ∨ v ≤ (-1) by omega))
 have ll38 := lT_len (ok38.len rfl)
 have e_1 : D ++ (counted false false (lT (T.at 0)).length 4 ++ (lT (T.at 0)).flatMap (GOf (fs_DescribeConfigsRequest[0]'(by decide)) v false)) = D ++ plainTo (zipped fs_DescribeConfigsRequest v false T) v 1 := fold_first (fs := fs_DescribeConfigsRequest) (v := v) (flex := false) (t := T) (B := D) 0 rfl (by decide) (by decide) (has_yes (show (0 : Int) ≤ v by omega) (show ((-1) : Int) < 0 ∨ v ≤ (-1) by omega)) (FB_list0 (f := (fs_DescribeConfigsRequest[0]'(by decide))) (by decide) (by decide) (by decide) ok38)
 have hs38 := fold_size e_1 (by decide) hb
 have hc38 : (D).length + (counted false false (lT (T.at 0)).length 4).length ≤ LIM := by have h := hs38; simp only [List.length_append] at h ⊢; omega
 refine cl rfl rfl rfl (OutK.cast (k_AppendArrayLen (u := ((lT (T.at 0)).length : Int)) hr hc38) (show _ = D ++ (counted false false (lT (T.at 0)).length 4) from rfl)) rfl (fun v_ H1 L1 hle hR => ?_)
 obtain ⟨rfl, a38, c38, N38, rfl, rfl, h38⟩ := hR
 have r38 := h38.1
 refine asg rfl rfl ?_
 refine nl ?_
 refine sr ?_
 refine mv rfl rfl ?_
 refine ls Tryz.runUnderlying108 rfl rfl ?_
 refine mv rfl rfl ?_
 refine nl ?_
 refine fr ((lT (T.at 0)).length) (fun k1 l' H' L' => ∃ (a_k1 : Option Addr), ∃ (m_k1 : Nat), ∃ (c_k1 : Nat), ∃ (N_k1 : Chunk), [(0, .pointer (some ⟨b, 0, none⟩)), (1, .slice a_k1 m_k1 c_k1), (5, .int .i16 v), (6, .bool (decide ((4 : Int) ≤ v))), (7, .slice a0 (lT (T.at 0)).length c0), (40, .int .i64 ((lT (T.at 0)).length : Int))] = l' ∧ N_k1 :: L = L' ∧ Row 5 1 a_k1 m_k1 c_k1 (bytesOf (D ++ (counted false false (lT (T.at 0)).length 4) ++ ((lT (T.at 0)).take k1).flatMap (GOf (fs_DescribeConfigsRequest[0]'(by decide)) v false))) N_k1 ∧ m_k1 = (D ++ (counted false false (lT (T.at 0)).length 4) ++ ((lT (T.at 0)).take k1).flatMap (GOf (fs_DescribeConfigsRequest[0]'(by decide)) v false)).length) [(0, .pointer (some ⟨b, 0, none⟩)), (1, .slice _ _ _), (5, .int .i16 v), (6, .bool (decide ((4 : Int) ≤ v))), (7, .slice a0 (lT (T.at 0)).length c0), (40, .int .i64 ((lT (T.at 0)).length : Int))] (fun k1 l' H' L' h => ?_) (by omega) rfl (.of ⟨rfl, rfl, rfl, rfl, rfl, rfl, trivial⟩) ⟨_, _, _, _, rfl, rfl, (by rw [List.take_zero, List.flatMap_nil, List.append_nil]; exact r38), (by rw [List.take_zero, List.flatMap_nil, List.append_nil])⟩ rfl rfl rfl rfl rfl (fun k1 l' H' L' hk1 le_2 hI => ?_) (fun l' H' L' le_3 hI => ?_)
 · obtain ⟨a_k1, m_k1, c_k1, N_k1, rfl, _⟩ := h; exact ⟨rfl, rfl, rfl, rfl⟩
 ·
  obtain ⟨a_k1, m_k1, c_k1, N_k1, rfl, rfl, pk10, pk11⟩ := hI
  subst pk11
  refine sr ?_
  refine mv rfl rfl ?_
  refine asg rfl rfl ?_
  refine nl ?_
  refine sr ?_
  refine mv rfl rfl ?_
  refine mv rfl rfl ?_
  obtain ⟨b_4, o_5, e_6, g_7⟩ := (hf0.mono At_DescribeConfigsRequestResource.mono le_2).rows.at_ (ne_nil_of_lt hk1)
  obtain ⟨cs_8, hA_9, hc_10⟩ := g_7 k1 hk1
  refine ix2 Tryz.runUnderlying108 Tryz.sizeOf163 rfl e_6 rfl rfl hk1 rfl ?_
  obtain ⟨a_k1_2, c_k1_2, m_k1_t, rfl, hf_k1_0, hf_k1_1⟩ := hA_9
  have oek1 := (ok38.el rfl _ (lT_mem (List.getElem_mem hk1))).2 rfl
  obtain ⟨B_k1, hdk1⟩ : ∃ z : List UInt8, z = D ++ (counted false false (lT (T.at 0)).length 4) ++ ((lT (T.at 0)).take k1).flatMap (GOf (fs_DescribeConfigsRequest[0]'(by decide)) v false) := ⟨_, rfl⟩
  have rbk1 := pk10
  rw [← hdk1] at rbk1 ⊢
  have hBk1 : B_k1.length + (partB fs_sDescribeConfigsRequestResource v false ((lT (T.at 0))[k1])).length ≤ LIM := by rw [hdk1]; exact el_size hs38 hk1 (GOf_part (by decide) _)
  refine asg rfl rfl ?_
  refine nl ?_
  refine sq ?_
  refine sr ?_
  refine mv rfl rfl ?_
  refine nc rfl rfl ?_
  refine fa F163_0 rfl rfl ?_
  refine ld (Says.fz hc_10) Tryz.isAgg160 rfl (Nat.add_zero _).symm rfl rfl ?_
  refine asg rfl rfl ?_
  refine nl ?_
  refine sr ?_
  refine mv rfl rfl ?_
  refine asg rfl rfl ?_
  refine nl ?_
  refine rg ?_
  refine mv rfl rfl ?_
  refine mv rfl rfl ?_
  have ok54 := oek1.get 0 (by decide) (has_yes (show (0 : Int) ≤ v by omega) (show ((-1) : Int) < 0 ∨ v ≤ (-1) by omega))
  have e_11 : B_k1 ++ (fixed (IntKind.i8.wrap (((lT (T.at 0))[k1]).at 0).n) 1) = B_k1 ++ plainTo (zipped fs_sDescribeConfigsRequestResource v false ((lT (T.at 0))[k1])) v 1 := fold_first (fs := fs_sDescribeConfigsRequestResource) (v := v) (flex := false) (t := ((lT (T.at 0))[k1])) (B := B_k1) 0 rfl (by decide) (by decide) (has_yes (show (0 : Int) ≤ v by omega) (show ((-1) : Int) < 0 ∨ v ≤ (-1) by omega)) ((FB_int (f := (fs_sDescribeConfigsRequestResource[0]'(by decide))) (by decide) (by decide)).trans (fixed_i8 _).symm)
  have hs54 := fold_size e_11 (by decide) hBk1
  refine cl rfl rfl rfl (OutK.cast (k_AppendInt8 (u := IntKind.i8.wrap (((lT (T.at 0))[k1]).at 0).n) rbk1 hs54) e_11) rfl (fun v_ H1 L1 hle hR => ?_)
  obtain ⟨rfl, a54, c54, N54, rfl, rfl, h54⟩ := hR
  have r54 := h54.1
  refine asg rfl rfl ?_
  refine nl ?_
  refine sq ?_
  refine sr ?_
  refine mv rfl rfl ?_
  refine nc rfl rfl ?_
  refine fa F163_1 rfl rfl ?_
  refine ld (Says.fz hc_10) Tryz.isAgg9 rfl rfl rfl rfl ?_
  refine asg rfl rfl ?_
  refine nl ?_
  refine sr ?_
  refine mv rfl rfl ?_
  refine nl ?_
  refine cdF rfl (by omega) ?_
  refine rg ?_
  refine mv rfl rfl ?_
  refine mv rfl rfl ?_
  have ok65 := oek1.get 1 (by decide) (has_yes (show (0 : Int) ≤ v by omega) (show ((-1) : Int) < 0 ∨ v ≤ (-1) by omega))
  have nn65 := ok65.nn (by decide) (by decide) (by decide)
  have e_12 : B_k1 ++ plainTo (zipped fs_sDescribeConfigsRequestResource v false ((lT (T.at 0))[k1])) v 1 ++ (counted false false (((lT (T.at 0))[k1]).at 1).s.length 2 ++ (((lT (T.at 0))[k1]).at 1).s) = B_k1 ++ plainTo (zipped fs_sDescribeConfigsRequestResource v false ((lT (T.at 0))[k1])) v 2 := fold_yes (fs := fs_sDescribeConfigsRequestResource) (v := v) (flex := false) (t := ((lT (T.at 0))[k1])) (B := B_k1) 1 (by decide) (by decide) (has_yes (show (0 : Int) ≤ v by omega) (show ((-1) : Int) < 0 ∨ v ≤ (-1) by omega)) (by rw [FB_text (f := (fs_sDescribeConfigsRequestResource[1]'(by decide))) (by decide) (by decide) ok65, sT_nn nn65, nn65])
  have hs65 := fold_size e_12 (by decide) hBk1
  refine cl rfl rfl rfl (OutK.cast (k_AppendString (x := (((lT (T.at 0))[k1]).at 1).s) r54 hs65) e_12) rfl (fun v_ H1 L1 hle hR => ?_)
  obtain ⟨rfl, a65, c65, N65, rfl, rfl, h65⟩ := hR
  have r65 := h65.1
  refine asg rfl rfl ?_
  refine nl ?_
  refine sq ?_
  refine sr ?_
  refine mv rfl rfl ?_
  refine nc rfl rfl ?_
  refine fa F163_2 rfl rfl ?_
  refine ld (Says.fz hc_10) Tryz.isAgg161 rfl rfl rfl rfl ?_
  refine asg rfl rfl ?_
  refine nl ?_
  refine sq ?_
  refine sr ?_
  refine mv rfl rfl ?_
  refine nl ?_
  refine cdF rfl (by omega) ?_
  refine rg ?_
  refine mv rfl rfl ?_
  refine mv rfl rfl ?_
  refine ls Tryz.runUnderlying161 rfl rfl ?_
  refine mv rfl rfl ?_
  refine esn Tryz.underlying161 rfl rfl ?_
  have ok82 := oek1.get 2 (by decide) (has_yes (show (0 : Int) ≤ v by omega) (show ((-1) : Int) < 0 ∨ v ≤ (-1) by omega))
  have ll82 := lT_len (ok82.len rfl)
  have e_13 : B_k1 ++ plainTo (zipped fs_sDescribeConfigsRequestResource v false ((lT (T.at 0))[k1])) v 2 ++ (counted false a_k1_2.isNone (lT (((lT (T.at 0))[k1]).at 2)).length 4 ++ (lT (((lT (T.at 0))[k1]).at 2)).flatMap (GOf (fs_sDescribeConfigsRequestResource[2]'(by decide)) v false)) = B_k1 ++ plainTo (zipped fs_sDescribeConfigsRequestResource v false ((lT (T.at 0))[k1])) v 3 := fold_yes (fs := fs_sDescribeConfigsRequestResource) (v := v) (flex := false) (t := ((lT (T.at 0))[k1])) (B := B_k1) 2 (by decide) (by decide) (has_yes (show (0 : Int) ≤ v by omega) (show ((-1) : Int) < 0 ∨ v ≤ (-1) by omega)) (by rw [hf_k1_0.nul]; exact FB_list (f := (fs_sDescribeConfigsRequestResource[2]'(by decide))) (by decide) (by decide) (by decide) ok82)
  have hs82 := fold_size e_13 (by decide) hBk1
  have hc82 : (B_k1 ++ plainTo (zipped fs_sDescribeConfigsRequestResource v false ((lT (T.at 0))[k1])) v 2).length + (counted false a_k1_2.isNone (lT (((lT (T.at 0))[k1]).at 2)).length 4).length ≤ LIM := by have h := hs82; simp only [List.length_append] at h ⊢; omega
  refine cl rfl rfl rfl (OutK.cast (k_AppendNullableArrayLen (n := (lT (((lT (T.at 0))[k1]).at 2)).length) (b := a_k1_2.isNone) (by omega) r65 hc82) (show _ = B_k1 ++ plainTo (zipped fs_sDescribeConfigsRequestResource v false ((lT (T.at 0))[k1])) v 2 ++ (counted false a_k1_2.isNone (lT (((lT (T.at 0))[k1]).at 2)).length 4) from rfl)) rfl (fun v_ H1 L1 hle hR => ?_)
  obtain ⟨rfl, a82, c82, N82, rfl, rfl, h82⟩ := hR
  have r82 := h82.1
  refine asg rfl rfl ?_
  refine nl ?_
  refine sr ?_
  refine mv rfl rfl ?_
  refine ls Tryz.runUnderlying161 rfl rfl ?_
  refine mv rfl rfl ?_
  refine nl ?_
  refine fr ((lT (((lT (T.at 0))[k1]).at 2)).length) (fun k2 l' H' L' => ∃ (a_k2 : Option Addr), ∃ (m_k2 : Nat), ∃ (c_k2 : Nat), ∃ (N_k2 : Chunk), [(0, .pointer (some ⟨b, 0, none⟩)), (1, .slice a_k2 m_k2 c_k2), (5, .int .i16 v), (6, .bool (decide ((4 : Int) ≤ v))), (7, .slice a0 (lT (T.at 0)).length c0), (9, .pointer (some ⟨b_4, o_5 + k1 * 4, none⟩)), (13, .slice a_k1_2 (lT (((lT (T.at 0))[k1]).at 2)).length c_k1_2), (40, .int .i64 ((lT (T.at 0)).length : Int)), (41, .int .i64 (k1 : Int)), (84, .int .i64 ((lT (((lT (T.at 0))[k1]).at 2)).length : Int))] = l' ∧ N_k2 :: L = L' ∧ Row 5 1 a_k2 m_k2 c_k2 (bytesOf (B_k1 ++ plainTo (zipped fs_sDescribeConfigsRequestResource v false ((lT (T.at 0))[k1])) v 2 ++ (counted false a_k1_2.isNone (lT (((lT (T.at 0))[k1]).at 2)).length 4) ++ ((lT (((lT (T.at 0))[k1]).at 2)).take k2).flatMap (GOf (fs_sDescribeConfigsRequestResource[2]'(by decide)) v false))) N_k2 ∧ m_k2 = (B_k1 ++ plainTo (zipped fs_sDescribeConfigsRequestResource v false ((lT (T.at 0))[k1])) v 2 ++ (counted false a_k1_2.isNone (lT (((lT (T.at 0))[k1]).at 2)).length 4) ++ ((lT (((lT (T.at 0))[k1]).at 2)).take k2).flatMap (GOf (fs_sDescribeConfigsRequestResource[2]'(by decide)) v false)).length) [(0, .pointer (some ⟨b, 0, none⟩)), (1, .slice _ _ _), (5, .int .i16 v), (6, .bool (decide ((4 : Int) ≤ v))), (7, .slice a0 (lT (T.at 0)).length c0), (9, .pointer (some ⟨b_4, o_5 + k1 * 4, none⟩)), (13, .slice a_k1_2 (lT (((lT (T.at 0))[k1]).at 2)).length c_k1_2), (40, .int .i64 ((lT (T.at 0)).length : Int)), (41, .int .i64 (k1 : Int)), (84, .int .i64 ((lT (((lT (T.at 0))[k1]).at 2)).length : Int))] (fun k2 l' H' L' h => ?_) (by omega) rfl (.of ⟨rfl, rfl, rfl, rfl, rfl, rfl, rfl, rfl, rfl, rfl, trivial⟩) ⟨_, _, _, _, rfl, rfl, (by rw [List.take_zero, List.flatMap_nil, List.append_nil]; exact r82), (by rw [List.take_zero, List.flatMap_nil, List.append_nil])⟩ rfl rfl rfl rfl rfl (fun k2 l' H' L' hk2 le_14 hI => ?_) (fun l' H' L' le_15 hI => ?_)
  · obtain ⟨a_k2, m_k2, c_k2, N_k2, rfl, _⟩ := h; exact ⟨rfl, rfl, rfl, rfl⟩
  ·
   obtain ⟨a_k2, m_k2, c_k2, N_k2, rfl, rfl, pk20, pk21⟩ := hI
   subst pk21
   refine sr ?_
   refine mv rfl rfl ?_
   refine asg rfl rfl ?_
   refine nl ?_
   refine sr ?_
   refine mv rfl rfl ?_
   refine mv rfl rfl ?_
   obtain ⟨b_16, o_17, e_18, g_19⟩ := (hf_k1_0.mono RText.mono le_14).rows.at_ (ne_nil_of_lt hk2)
   obtain ⟨cs_20, hA_21, hc_22⟩ := g_19 k2 hk2
   refine ix2 Tryz.runUnderlying161 Tryz.sizeOf9 rfl e_18 rfl rfl hk2 rfl ?_
   obtain rfl := hA_21
   refine ld (Says.fz hc_22) Tryz.isAgg9 rfl (Nat.add_zero _).symm rfl rfl ?_
   refine asg rfl rfl ?_
   refine nl ?_
   refine sr ?_
   refine mv rfl rfl ?_
   refine nl ?_
   refine cdF rfl (by omega) ?_
   refine rg ?_
   refine mv rfl rfl ?_
   refine mv rfl rfl ?_
   have oe98 := (ok82.el rfl _ (lT_mem (List.getElem_mem hk2))).1 (by decide)
   have hp98 : (GOf (fs_sDescribeConfigsRequestResource[2]'(by decide)) v false) ((lT (((lT (T.at 0))[k1]).at 2))[k2]) = counted false false ((lT (((lT (T.at 0))[k1]).at 2))[k2]).s.length 2 ++ ((lT (((lT (T.at 0))[k1]).at 2))[k2]).s := G_text (f := (fs_sDescribeConfigsRequestResource[2]'(by decide))) (by decide) oe98
   have hs98 := el_size hs82 hk2 hp98
   have ee98 := el_end (B0 := B_k1 ++ plainTo (zipped fs_sDescribeConfigsRequestResource v false ((lT (T.at 0))[k1])) v 2 ++ (counted false a_k1_2.isNone (lT (((lT (T.at 0))[k1]).at 2)).length 4)) hk2 hp98
   refine cl rfl rfl rfl (OutK.cast (k_AppendString (x := ((lT (((lT (T.at 0))[k1]).at 2))[k2]).s) pk20 hs98) ee98) rfl (fun v_ H1 L1 hle hR => ?_)
   obtain ⟨rfl, a98, c98, N98, rfl, rfl, h98⟩ := hR
   have r98 := h98.1
   refine asg rfl rfl ?_
   refine nN ?_
   refine Nb ?_
   refine fun a_ w_ hA hw => ⟨_, _, _, hA.sub ?_, le_14, hw, _, rfl, _, _, _, _, rfl, rfl, r98, rfl⟩
   exact (.of ⟨rfl, rfl, rfl, rfl, rfl, rfl, rfl, rfl, rfl, rfl, rfl, trivial⟩)
  ·
   obtain ⟨a_k2, m_k2, c_k2, N_k2, rfl, rfl, pk20, pk21⟩ := hI
   refine toWp ?_
   have eL82 : B_k1 ++ plainTo (zipped fs_sDescribeConfigsRequestResource v false ((lT (T.at 0))[k1])) v 2 ++ (counted false a_k1_2.isNone (lT (((lT (T.at 0))[k1]).at 2)).length 4) ++ ((lT (((lT (T.at 0))[k1]).at 2)).take (lT (((lT (T.at 0))[k1]).at 2)).length).flatMap (GOf (fs_sDescribeConfigsRequestResource[2]'(by decide)) v false) = B_k1 ++ plainTo (zipped fs_sDescribeConfigsRequestResource v false ((lT (T.at 0))[k1])) v 3 := by rw [List.take_length, List.append_assoc]; exact e_13
   rw [eL82] at pk20 pk21
   subst pk21
   refine sr ?_
   refine mv rfl rfl ?_
   refine nl ?_
   refine cdF rfl (by omega) ?_
   refine skN ?_
   refine Nb ?_
   have eP_23 : B_k1 ++ plainTo (zipped fs_sDescribeConfigsRequestResource v false ((lT (T.at 0))[k1])) v 3 = B_k1 ++ partB fs_sDescribeConfigsRequestResource v false ((lT (T.at 0))[k1]) := by rw [partB_false]; rfl
   have rp_24 := pk20
   rw [eP_23] at rp_24 ⊢
   have ee_25 : B_k1 ++ partB fs_sDescribeConfigsRequestResource v false ((lT (T.at 0))[k1]) = D ++ (counted false false (lT (T.at 0)).length 4) ++ ((lT (T.at 0)).take (k1 + 1)).flatMap (GOf (fs_DescribeConfigsRequest[0]'(by decide)) v false) := by rw [hdk1]; exact el_end (B0 := D ++ (counted false false (lT (T.at 0)).length 4)) (G := (GOf (fs_DescribeConfigsRequest[0]'(by decide)) v false)) hk1 (GOf_part (by decide) _)
   refine fun a_ w_ hA hw => ⟨_, _, _, hA.sub ?_, (le_2.trans le_15), hw, _, rfl, _, _, _, _, rfl, rfl, (by rw [← ee_25]; exact rp_24), (by rw [← ee_25])⟩
   exact (.of ⟨rfl, rfl, rfl, rfl, rfl, rfl, rfl, trivial⟩)
 ·
  obtain ⟨a_k1, m_k1, c_k1, N_k1, rfl, rfl, pk10, pk11⟩ := hI
  refine toWp ?_
  have eL38 : D ++ (counted false false (lT (T.at 0)).length 4) ++ ((lT (T.at 0)).take (lT (T.at 0)).length).flatMap (GOf (fs_DescribeConfigsRequest[0]'(by decide)) v false) = D ++ plainTo (zipped fs_DescribeConfigsRequest v false T) v 1 := by rw [List.take_length, List.append_assoc]; exact e_1
  rw [eL38] at pk10 pk11
  subst pk11
  refine sq ?_
  refine sr ?_
  refine mv rfl rfl ?_
  refine ge rfl rfl rfl ?_
  refine nl ?_
  refine cutT (fun l' H' L' => ∃ (aj_26 : Option Addr), ∃ (mj_26 : Nat), ∃ (cj_26 : Nat), ∃ (Nj_26 : Chunk), [(0, .pointer (some ⟨b, 0, none⟩)), (1, .slice aj_26 mj_26 cj_26), (5, .int .i16 v), (6, .bool (decide ((4 : Int) ≤ v)))] = l' ∧ Nj_26 :: L = L' ∧ Row 5 1 aj_26 mj_26 cj_26 (bytesOf (D ++ plainTo (zipped fs_DescribeConfigsRequest v false T) v 2)) Nj_26 ∧ mj_26 = (D ++ plainTo (zipped fs_DescribeConfigsRequest v false T) v 2).length) ?_ (fun l' H' L' le_27 hI => ?_)
  ·
   refine cd rfl (fun h116 => ?_) (fun h116 => ?_)
   ·
    refine sr ?_
    refine mv rfl rfl ?_
    refine nc rfl rfl ?_
    refine fa0 F110_2 rfl rfl ?_
    refine ld (Says.fz (hv.mono le_3)) Tryz.isAgg4 rfl (Nat.zero_add _).symm rfl rfl ?_
    refine asg rfl rfl ?_
    refine nl ?_
    refine rg ?_
    refine mv rfl rfl ?_
    refine mv rfl rfl ?_
    have ok123 := hok.get 1 (by decide) (has_yes (show (1 : Int) ≤ v by omega) (show ((-1) : Int) < 0 ∨ v ≤ (-1) by omega))
    have e_28 : D ++ plainTo (zipped fs_DescribeConfigsRequest v false T) v 1 ++ ([if decide ((T.at 1).n % 2 = 1) then 1 else 0] : List UInt8) = D ++ plainTo (zipped fs_DescribeConfigsRequest v false T) v 2 := fold_yes (fs := fs_DescribeConfigsRequest) (v := v) (flex := false) (t := T) (B := D) 1 (by decide) (by decide) (has_yes (show (1 : Int) ≤ v by omega) (show ((-1) : Int) < 0 ∨ v ≤ (-1) by omega)) ((FB_bool (f := (fs_DescribeConfigsRequest[1]'(by decide))) (by decide)).trans (bool_byte _))
    have hs123 := fold_size e_28 (by decide) hb
    refine cl rfl rfl rfl (OutK.cast (k_AppendBool (b := decide ((T.at 1).n % 2 = 1)) pk10 hs123) e_28) rfl (fun v_ H1 L1 hle hR => ?_)
    obtain ⟨rfl, a123, c123, N123, rfl, rfl, h123⟩ := hR
    have r123 := h123.1
    refine asg rfl rfl ?_
    refine nN ?_
    refine fun a_ w_ hA hw => ⟨_, _, _, hA.sub ?_, ler, hw, _, _, _, _, rfl, rfl, r123, rfl⟩
    exact (.of ⟨rfl, rfl, rfl, rfl, trivial⟩)
   ·
    refine skN ?_
    have es_29 : plainTo (zipped fs_DescribeConfigsRequest v false T) v 2 = plainTo (zipped fs_DescribeConfigsRequest v false T) v 1 := (piece_no2 (fs := fs_DescribeConfigsRequest) (v := v) (flex := false) (t := T) (k := 1) (by decide) (has_no (show v < (1 : Int) ∨ ((0 : Int) ≤ (-1) ∧ (-1) < v) by omega)))
    have eX_30 : D ++ plainTo (zipped fs_DescribeConfigsRequest v false T) v 1 = D ++ plainTo (zipped fs_DescribeConfigsRequest v false T) v 2 := by rw [es_29]
    refine fun a_ w_ hA hw => ⟨_, _, _, hA.sub ?_, ler, hw, _, _, _, _, rfl, rfl, (by rw [← eX_30]; exact pk10), (by rw [← eX_30])⟩
    exact (.of ⟨rfl, rfl, rfl, rfl, trivial⟩)
  ·
   obtain ⟨aj_26, mj_26, cj_26, Nj_26, rfl, rfl, pj0, pj1⟩ := hI
   subst pj1
   have rj_26 := pj0
   refine sq ?_
   refine sr ?_
   refine mv rfl rfl ?_
   refine ge rfl rfl rfl ?_
   refine nl ?_
   refine cutT (fun l' H' L' => ∃ (aj_31 : Option Addr), ∃ (mj_31 : Nat), ∃ (cj_31 : Nat), ∃ (Nj_31 : Chunk), [(0, .pointer (some ⟨b, 0, none⟩)), (1, .slice aj_31 mj_31 cj_31), (6, .bool (decide ((4 : Int) ≤ v)))] = l' ∧ Nj_31 :: L = L' ∧ Row 5 1 aj_31 mj_31 cj_31 (bytesOf (D ++ plainTo (zipped fs_DescribeConfigsRequest v false T) v 3)) Nj_31 ∧ mj_31 = (D ++ plainTo (zipped fs_DescribeConfigsRequest v false T) v 3).length) ?_ (fun l' H' L' le_32 hI => ?_)
   ·
    refine cd rfl (fun h125 => ?_) (fun h125 => ?_)
    ·
     refine sr ?_
     refine mv rfl rfl ?_
     refine nc rfl rfl ?_
     refine fa0 F110_3 rfl rfl ?_
     refine ld (Says.fz (hv.mono (le_3.trans le_27))) Tryz.isAgg4 rfl (Nat.zero_add _).symm rfl rfl ?_
     refine asg rfl rfl ?_
     refine nl ?_
     refine rg ?_
     refine mv rfl rfl ?_
     refine mv rfl rfl ?_
     have ok132 := hok.get 2 (by decide) (has_yes (show (3 : Int) ≤ v by omega) (show ((-1) : Int) < 0 ∨ v ≤ (-1) by omega))
     have e_33 : D ++ plainTo (zipped fs_DescribeConfigsRequest v false T) v 2 ++ ([if decide ((T.at 2).n % 2 = 1) then 1 else 0] : List UInt8) = D ++ plainTo (zipped fs_DescribeConfigsRequest v false T) v 3 := fold_yes (fs := fs_DescribeConfigsRequest) (v := v) (flex := false) (t := T) (B := D) 2 (by decide) (by decide) (has_yes (show (3 : Int) ≤ v by omega) (show ((-1) : Int) < 0 ∨ v ≤ (-1) by omega)) ((FB_bool (f := (fs_DescribeConfigsRequest[2]'(by decide))) (by decide)).trans (bool_byte _))
     have hs132 := fold_size e_33 (by decide) hb
     refine cl rfl rfl rfl (OutK.cast (k_AppendBool (b := decide ((T.at 2).n % 2 = 1)) rj_26 hs132) e_33) rfl (fun v_ H1 L1 hle hR => ?_)
     obtain ⟨rfl, a132, c132, N132, rfl, rfl, h132⟩ := hR
     have r132 := h132.1
     refine asg rfl rfl ?_
     refine nN ?_
     refine fun a_ w_ hA hw => ⟨_, _, _, hA.sub ?_, ler, hw, _, _, _, _, rfl, rfl, r132, rfl⟩
     exact (.of ⟨rfl, rfl, rfl, trivial⟩)
    ·
     refine skN ?_
     have es_34 : plainTo (zipped fs_DescribeConfigsRequest v false T) v 3 = plainTo (zipped fs_DescribeConfigsRequest v false T) v 2 := (piece_no2 (fs := fs_DescribeConfigsRequest) (v := v) (flex := false) (t := T) (k := 2) (by decide) (has_no (show v < (3 : Int) ∨ ((0 : Int) ≤ (-1) ∧ (-1) < v) by omega)))
     have eX_35 : D ++ plainTo (zipped fs_DescribeConfigsRequest v false T) v 2 = D ++ plainTo (zipped fs_DescribeConfigsRequest v false T) v 3 := by rw [es_34]
     refine fun a_ w_ hA hw => ⟨_, _, _, hA.sub ?_, ler, hw, _, _, _, _, rfl, rfl, (by rw [← eX_35]; exact rj_26), (by rw [← eX_35])⟩
     exact (.of ⟨rfl, rfl, rfl, trivial⟩)
   ·
    obtain ⟨aj_31, mj_31, cj_31, Nj_31, rfl, rfl, pj0, pj1⟩ := hI
    subst pj1
    have rj_31 := pj0
    refine sq ?_
    refine sr ?_
    refine mv rfl rfl ?_
    refine nl ?_
    refine cdF rfl (by omega) ?_
    refine skt ?_
    refine sr ?_
    refine mv rfl rfl ?_
    refine asg rfl rfl ?_
    refine nl ?_
    have eP_36 : D ++ plainTo (zipped fs_DescribeConfigsRequest v false T) v 3 = D ++ partB fs_DescribeConfigsRequest v false T := by rw [partB_false]; rfl
    have rp_37 := rj_31
    rw [eP_36] at rp_37 ⊢
    exact rT rfl rfl (le_3.trans (le_27.trans le_32)) (fun _ _ h => h) (OutB.of rp_37 rfl)
theorem app_DescribeConfigsRequest_t {H : Fz} {L : Own} {a : Option Addr} {cap b : Nat} {D : List UInt8} {N : Chunk} {cs : List Value} {T : Tr} {v : Int} (hr : Row 5 1 a D.length cap (bytesOf D) N) (hv : H.at b 0 cs) (hA : At_DescribeConfigsRequest v H T cs) (hok : OkP fs_DescribeConfigsRequest v T) (h0 : 4 ≤ v) (h1 : v ≤ 4) (hb : D.length + (partB fs_DescribeConfigsRequest v true T).length ≤ LIM) :
  Fn Tryz.prog 214 [.pointer (some ⟨b, 0, none⟩), .slice a D.length cap] H (N :: L) (fun r H' L' => OutB 5 L (D ++ partB fs_DescribeConfigsRequest v true T) r L') := by
 obtain ⟨a0, c0, mt, rfl, hf0, hf1⟩ := hA
 refine Fn.mk Tryz.call214 Tryz.func214 rfl Tryz.ntmps214 rfl ?_
 refine sr ?_
 refine asg rfl rfl ?_
 refine nl ?_
 refine sr ?_
 refine mv rfl rfl ?_
 refine nc rfl rfl ?_
 refine fa0 F110_0 rfl rfl ?_
 refine ld (Says.fz hv) Tryz.isAgg45 rfl (Nat.zero_add _).symm rfl rfl ?_
 refine asg rfl rfl ?_
 refine nl ?_
 refine sr ?_
 refine mv rfl rfl ?_
 refine nl ?_
 refine sr ?_
 refine mv rfl rfl ?_
 refine ge rfl rfl rfl ?_
 refine asg rfl rfl ?_
 refine nl ?_
 refine sr ?_
 refine mv rfl rfl ?_
 refine nl ?_
 refine sq ?_
 refine sr ?_
 refine mv rfl rfl ?_
 refine nc rfl rfl ?_
 refine fa0 F110_1 rfl rfl ?_
 refine ld (Says.fz hv) Tryz.isAgg108 rfl (Nat.zero_add _).symm rfl rfl ?_
 refine asg rfl rfl ?_
 refine nl ?_
 refine sq ?_
 refine sr ?_
 refine mv rfl rfl ?_
 refine nl ?_
 refine cdT rfl (by omega) ?_
 refine rg ?_
 refine mv rfl rfl ?_
 refine mv rfl rfl ?_
 refine ls Tryz.runUnderlying108 rfl rfl ?_
 have ok34 := hok.get 0 (by decide) (has_yes (show (0 : Int) ≤ v by omega) (show ((-1) : Int) < 0 ∨ v ≤ (-1) by omega))
 have ll34 := lT_len (ok34.len rfl)
 have e_1 : D ++ (counted true false (lT (T.at 0)).length 4 ++ (lT (T.at 0)).flatMap (GOf (fs_DescribeConfigsRequest[0]'(by decide)) v true)) = D ++ plainTo (zipped fs_DescribeConfigsRequest v true T) v 1 := fold_first (fs := fs_DescribeConfigsRequest) (v := v) (flex := true) (t := T) (B := D) 0 rfl (by decide) (by decide) (has_yes (show (0 : Int) ≤ v by omega) (show ((-1) : Int) < 0 ∨ v ≤ (-1) by omega)) (FB_list0 (f := (fs_DescribeConfigsRequest[0]'(by decide))) (by decide) (by decide) (by decide) ok34)
 have hs34 := fold_size e_1 (by decide) hb
 have hc34 : (D).length + (counted true false (lT (T.at 0)).length 4).length ≤ LIM := by have h := hs34; simp only [List.length_append] at h ⊢; omega
 refine cl rfl rfl rfl (OutK.cast (k_AppendCompactArrayLen (n := (lT (T.at 0)).length) (by omega) hr hc34) (show _ = D ++ (counted true false (lT (T.at 0)).length 4) from rfl)) rfl (fun v_ H1 L1 hle hR => ?_)
 obtain ⟨rfl, a34, c34, N34, rfl, rfl, h34⟩ := hR
 have r34 := h34.1
 refine asg rfl rfl ?_
 refine nl ?_
 refine sr ?_
 refine mv rfl rfl ?_
 refine ls Tryz.runUnderlying108 rfl rfl ?_
 refine mv rfl rfl ?_
 refine nl ?_
 refine fr ((lT (T.at 0)).length) (fun k1 l' H' L' => ∃ (a_k1 : Option Addr), ∃ (m_k1 : Nat), ∃ (c_k1 : Nat), ∃ (N_k1 : Chunk), [(0, .pointer (some ⟨b, 0, none⟩)), (1, .slice a_k1 m_k1 c_k1), (5, .int .i16 v), (6, .bool (decide ((4 : Int) ≤ v))), (7, .slice a0 (lT (T.at 0)).length c0), (40, .int .i64 ((lT (T.at 0)).length : Int))] = l' ∧ N_k1 :: L = L' ∧ Row 5 1 a_k1 m_k1 c_k1 (bytesOf (D ++ (counted true false (lT (T.at 0)).length 4) ++ ((lT (T.at 0)).take k1).flatMap (GOf (fs_DescribeConfigsRequest[0]'(by decide)) v true))) N_k1 ∧ m_k1 = (D ++ (counted true false (lT (T.at 0)).length 4) ++ ((lT (T.at 0)).take k1).flatMap (GOf (fs_DescribeConfigsRequest[0]'(by decide)) v true)).length) [(0, .pointer (some ⟨b, 0, none⟩)), (1, .slice _ _ _), (5, .int .i16 v), (6, .bool (decide ((4 : Int) ≤ v))), (7, .slice a0 (lT (T.at 0)).length c0), (40, .int .i64 ((lT (T.at 0)).length : Int))] (fun k1 l' H' L' h => ?_) (by omega) rfl (.of ⟨rfl, rfl, rfl, rfl, rfl, rfl, trivial⟩) ⟨_, _, _, _, rfl, rfl, (by rw [List.take_zero, List.flatMap_nil, List.append_nil]; exact r34), (by rw [List.take_zero, List.flatMap_nil, List.append_nil])⟩ rfl rfl rfl rfl rfl (fun k1 l' H' L' hk1 le_2 hI => ?_) (fun l' H' L' le_3 hI => ?_)
 · obtain ⟨a_k1, m_k1, c_k1, N_k1, rfl, _⟩ := h; exact ⟨rfl, rfl, rfl, rfl⟩
 ·
  obtain ⟨a_k1, m_k1, c_k1, N_k1, rfl, rfl, pk10, pk11⟩ := hI
  subst pk11
  refine sr ?_
  refine mv rfl rfl ?_
  refine asg rfl rfl ?_
  refine nl ?_
  refine sr ?_
  refine mv rfl rfl ?_
  refine mv rfl rfl ?_
  obtain ⟨b_4, o_5, e_6, g_7⟩ := (hf0.mono At_DescribeConfigsRequestResource.mono le_2).rows.at_ (ne_nil_of_lt hk1)
  obtain ⟨cs_8, hA_9, hc_10⟩ := g_7 k1 hk1
  refine ix2 Tryz.runUnderlying108 Tryz.sizeOf163 rfl e_6 rfl rfl hk1 rfl ?_
  obtain ⟨a_k1_2, c_k1_2, m_k1_t, rfl, hf_k1_0, hf_k1_1⟩ := hA_9
  have oek1 := (ok34.el rfl _ (lT_mem (List.getElem_mem hk1))).2 rfl
  obtain ⟨B_k1, hdk1⟩ : ∃ z : List UInt8, z = D ++ (counted true false (lT (T.at 0)).length 4) ++ ((lT (T.at 0)).take k1).flatMap (GOf (fs_DescribeConfigsRequest[0]'(by decide)) v true) := ⟨_, rfl⟩
  have rbk1 := pk10
  rw [← hdk1] at rbk1 ⊢
  have hBk1 : B_k1.length + (partB fs_sDescribeConfigsRequestResource v true ((lT (T.at 0))[k1])).length ≤ LIM := by rw [hdk1]; exact el_size hs34 hk1 (GOf_part (by decide) _)
  refine asg rfl rfl ?_
  refine nl ?_
  refine sq ?_
  refine sr ?_
  refine mv rfl rfl ?_
  refine nc rfl rfl ?_
  refine fa F163_0 rfl rfl ?_
  refine ld (Says.fz hc_10) Tryz.isAgg160 rfl (Nat.add_zero _).symm rfl rfl ?_
  refine asg rfl rfl ?_
  refine nl ?_
  refine sr ?_
  refine mv rfl rfl ?_
  refine asg rfl rfl ?_
  refine nl ?_
  refine rg ?_
  refine mv rfl rfl ?_
  refine mv rfl rfl ?_
  have ok54 := oek1.get 0 (by decide) (has_yes (show (0 : Int) ≤ v by omega) (show ((-1) : Int) < 0 ∨ v ≤ (-1) by omega))
  have e_11 : B_k1 ++ (fixed (IntKind.i8.wrap (((lT (T.at 0))[k1]).at 0).n) 1) = B_k1 ++ plainTo (zipped fs_sDescribeConfigsRequestResource v true ((lT (T.at 0))[k1])) v 1 := fold_first (fs := fs_sDescribeConfigsRequestResource) (v := v) (flex := true) (t := ((lT (T.at 0))[k1])) (B := B_k1) 0 rfl (by decide) (by decide) (has_yes (show (0 : Int) ≤ v by omega) (show ((-1) : Int) < 0 ∨ v ≤ (-1) by omega)) ((FB_int (f := (fs_sDescribeConfigsRequestResource[0]'(by decide))) (by decide) (by decide)).trans (fixed_i8 _).symm)
  have hs54 := fold_size e_11 (by decide) hBk1
  refine cl rfl rfl rfl (OutK.cast (k_AppendInt8 (u := IntKind.i8.wrap (((lT (T.at 0))[k1]).at 0).n) rbk1 hs54) e_11) rfl (fun v_ H1 L1 hle hR => ?_)
  obtain ⟨rfl, a54, c54, N54, rfl, rfl, h54⟩ := hR
  have r54 := h54.1
  refine asg rfl rfl ?_
  refine nl ?_
  refine sq ?_
  refine sr ?_
  refine mv rfl rfl ?_
  refine nc rfl rfl ?_
  refine fa F163_1 rfl rfl ?_
  refine ld (Says.fz hc_10) Tryz.isAgg9 rfl rfl rfl rfl ?_
  refine asg rfl rfl ?_
  refine nl ?_
  refine sr ?_
  refine mv rfl rfl ?_
  refine nl ?_
  refine cdT rfl (by omega) ?_
  refine rg ?_
  refine mv rfl rfl ?_
  refine mv rfl rfl ?_
  have ok62 := oek1.get 1 (by decide) (has_yes (show (0 : Int) ≤ v by omega) (show ((-1) : Int) < 0 ∨ v ≤ (-1) by omega))
  have nn62 := ok62.nn (by decide) (by decide) (by decide)
  have e_12 : B_k1 ++ plainTo (zipped fs_sDescribeConfigsRequestResource v true ((lT (T.at 0))[k1])) v 1 ++ (counted true false (((lT (T.at 0))[k1]).at 1).s.length 2 ++ (((lT (T.at 0))[k1]).at 1).s) = B_k1 ++ plainTo (zipped fs_sDescribeConfigsRequestResource v true ((lT (T.at 0))[k1])) v 2 := fold_yes (fs := fs_sDescribeConfigsRequestResource) (v := v) (flex := true) (t := ((lT (T.at 0))[k1])) (B := B_k1) 1 (by decide) (by decide) (has_yes (show (0 : Int) ≤ v by omega) (show ((-1) : Int) < 0 ∨ v ≤ (-1) by omega)) (by rw [FB_text (f := (fs_sDescribeConfigsRequestResource[1]'(by decide))) (by decide) (by decide) ok62, sT_nn nn62, nn62])
  have hs62 := fold_size e_12 (by decide) hBk1
  refine cl rfl rfl rfl (OutK.cast (k_AppendCompactString (x := (((lT (T.at 0))[k1]).at 1).s) (by have := ok62.s (Or.inl rfl); omega) r54 hs62) e_12) rfl (fun v_ H1 L1 hle hR => ?_)
  obtain ⟨rfl, a62, c62, N62, rfl, rfl, h62⟩ := hR
  have r62 := h62.1
  refine asg rfl rfl ?_
  refine nl ?_
  refine sq ?_
  refine sr ?_
  refine mv rfl rfl ?_
  refine nc rfl rfl ?_
  refine fa F163_2 rfl rfl ?_
  refine ld (Says.fz hc_10) Tryz.isAgg161 rfl rfl rfl rfl ?_
  refine asg rfl rfl ?_
  refine nl ?_
  refine sq ?_
  refine sr ?_
  refine mv rfl rfl ?_
  refine nl ?_
  refine cdT rfl (by omega) ?_
  refine rg ?_
  refine mv rfl rfl ?_
  refine mv rfl rfl ?_
  refine ls Tryz.runUnderlying161 rfl rfl ?_
  refine mv rfl rfl ?_
  refine esn Tryz.underlying161 rfl rfl ?_
  have ok76 := oek1.get 2 (by decide) (has_yes (show (0 : Int) ≤ v by omega) (show ((-1) : Int) < 0 ∨ v ≤ (-1) by omega))
  have ll76 := lT_len (ok76.len rfl)
  have e_13 : B_k1 ++ plainTo (zipped fs_sDescribeConfigsRequestResource v true ((lT (T.at 0))[k1])) v 2 ++ (counted true a_k1_2.isNone (lT (((lT (T.at 0))[k1]).at 2)).length 4 ++ (lT (((lT (T.at 0))[k1]).at 2)).flatMap (GOf (fs_sDescribeConfigsRequestResource[2]'(by decide)) v true)) = B_k1 ++ plainTo (zipped fs_sDescribeConfigsRequestResource v true ((lT (T.at 0))[k1])) v 3 := fold_yes (fs := fs_sDescribeConfigsRequestResource) (v := v) (flex := true) (t := ((lT (T.at 0))[k1])) (B := B_k1) 2 (by decide) (by decide) (has_yes (show (0 : Int) ≤ v by omega) (show ((-1) : Int) < 0 ∨ v ≤ (-1) by omega)) (by rw [hf_k1_0.nul]; exact FB_list (f := (fs_sDescribeConfigsRequestResource[2]'(by decide))) (by decide) (by decide) (by decide) ok76)
  have hs76 := fold_size e_13 (by decide) hBk1
  have hc76 : (B_k1 ++ plainTo (zipped fs_sDescribeConfigsRequestResource v true ((lT (T.at 0))[k1])) v 2).length + (counted true a_k1_2.isNone (lT (((lT (T.at 0))[k1]).at 2)).length 4).length ≤ LIM := by have h := hs76; simp only [List.length_append] at h ⊢; omega
  refine cl rfl rfl rfl (OutK.cast (k_AppendCompactNullableArrayLen (n := (lT (((lT (T.at 0))[k1]).at 2)).length) (b := a_k1_2.isNone) (by omega) r62 hc76) (show _ = B_k1 ++ plainTo (zipped fs_sDescribeConfigsRequestResource v true ((lT (T.at 0))[k1])) v 2 ++ (counted true a_k1_2.isNone (lT (((lT (T.at 0))[k1]).at 2)).length 4) from rfl)) rfl (fun v_ H1 L1 hle hR => ?_)
  obtain ⟨rfl, a76, c76, N76, rfl, rfl, h76⟩ := hR
  have r76 := h76.1
  refine asg rfl rfl ?_
  refine nl ?_
  refine sr ?_
  refine mv rfl rfl ?_
  refine ls Tryz.runUnderlying161 rfl rfl ?_
  refine mv rfl rfl ?_
  refine nl ?_
  refine fr ((lT (((lT (T.at 0))[k1]).at 2)).length) (fun k2 l' H' L' => ∃ (a_k2 : Option Addr), ∃ (m_k2 : Nat), ∃ (c_k2 : Nat), ∃ (N_k2 : Chunk), [(0, .pointer (some ⟨b, 0, none⟩)), (1, .slice a_k2 m_k2 c_k2), (5, .int .i16 v), (6, .bool (decide ((4 : Int) ≤ v))), (7, .slice a0 (lT (T.at 0)).length c0), (9, .pointer (some ⟨b_4, o_5 + k1 * 4, none⟩)), (13, .slice a_k1_2 (lT (((lT (T.at 0))[k1]).at 2)).length c_k1_2), (40, .int .i64 ((lT (T.at 0)).length : Int)), (41, .int .i64 (k1 : Int)), (84, .int .i64 ((lT (((lT (T.at 0))[k1]).at 2)).length : Int))] = l' ∧ N_k2 :: L = L' ∧ Row 5 1 a_k2 m_k2 c_k2 (bytesOf (B_k1 ++ plainTo (zipped fs_sDescribeConfigsRequestResource v true ((lT (T.at 0))[k1])) v 2 ++ (counted true a_k1_2.isNone (lT (((lT (T.at 0))[k1]).at 2)).length 4) ++ ((lT (((lT (T.at 0))[k1]).at 2)).take k2).flatMap (GOf (fs_sDescribeConfigsRequestResource[2]'(by decide)) v true))) N_k2 ∧ m_k2 = (B_k1 ++ plainTo (zipped fs_sDescribeConfigsRequestResource v true ((lT (T.at 0))[k1])) v 2 ++ (counted true a_k1_2.isNone (lT (((lT (T.at 0))[k1]).at 2)).length 4) ++ ((lT (((lT (T.at 0))[k1]).at 2)).take k2).flatMap (GOf (fs_sDescribeConfigsRequestResource[2]'(by decide)) v true)).length) [(0, .pointer (some ⟨b, 0, none⟩)), (1, .slice _ _ _), (5, .int .i16 v), (6, .bool (decide ((4 : Int) ≤ v))), (7, .slice a0 (lT (T.at 0)).length c0), (9, .pointer (some ⟨b_4, o_5 + k1 * 4, none⟩)), (13, .slice a_k1_2 (lT (((lT (T.at 0))[k1]).at 2)).length c_k1_2), (40, .int .i64 ((lT (T.at 0)).length : Int)), (41, .int .i64 (k1 : Int)), (84, .int .i64 ((lT (((lT (T.at 0))[k1]).at 2)).length : Int))] (fun k2 l' H' L' h => ?_) (by omega) rfl (.of ⟨rfl, rfl, rfl, rfl, rfl, rfl, rfl, rfl, rfl, rfl, trivial⟩) ⟨_, _, _, _, rfl, rfl, (by rw [List.take_zero, List.flatMap_nil, List.append_nil]; exact r76), (by rw [List.take_zero, List.flatMap_nil, List.append_nil])⟩ rfl rfl rfl rfl rfl (fun k2 l' H' L' hk2 le_14 hI => ?_) (fun l' H' L' le_15 hI => ?_)
  · obtain ⟨a_k2, m_k2, c_k2, N_k2, rfl, _⟩ := h; exact ⟨rfl, rfl, rfl, rfl⟩
  ·
   obtain ⟨a_k2, m_k2, c_k2, N_k2, rfl, rfl, pk20, pk21⟩ := hI
   subst pk21
   refine sr ?_
   refine mv rfl rfl ?_
   refine asg rfl rfl ?_
   refine nl ?_
   refine sr ?_
   refine mv rfl rfl ?_
   refine mv rfl rfl ?_
   obtain ⟨b_16, o_17, e_18, g_19⟩ := (hf_k1_0.mono RText.mono le_14).rows.at_ (ne_nil_of_lt hk2)
   obtain ⟨cs_20, hA_21, hc_22⟩ := g_19 k2 hk2
   refine ix2 Tryz.runUnderlying161 Tryz.sizeOf9 rfl e_18 rfl rfl hk2 rfl ?_
   obtain rfl := hA_21
   refine ld (Says.fz hc_22) Tryz.isAgg9 rfl (Nat.add_zero _).symm rfl rfl ?_
   refine asg rfl rfl ?_
   refine nl ?_
   refine sr ?_
   refine mv rfl rfl ?_
   refine nl ?_
   refine cdT rfl (by omega) ?_
   refine rg ?_
   refine mv rfl rfl ?_
   refine mv rfl rfl ?_
   have oe95 := (ok76.el rfl _ (lT_mem (List.getElem_mem hk2))).1 (by decide)
   have hp95 : (GOf (fs_sDescribeConfigsRequestResource[2]'(by decide)) v true) ((lT (((lT (T.at 0))[k1]).at 2))[k2]) = counted true false ((lT (((lT (T.at 0))[k1]).at 2))[k2]).s.length 2 ++ ((lT (((lT (T.at 0))[k1]).at 2))[k2]).s := G_text (f := (fs_sDescribeConfigsRequestResource[2]'(by decide))) (by decide) oe95
   have hs95 := el_size hs76 hk2 hp95
   have ee95 := el_end (B0 := B_k1 ++ plainTo (zipped fs_sDescribeConfigsRequestResource v true ((lT (T.at 0))[k1])) v 2 ++ (counted true a_k1_2.isNone (lT (((lT (T.at 0))[k1]).at 2)).length 4)) hk2 hp95
   refine cl rfl rfl rfl (OutK.cast (k_AppendCompactString (x := ((lT (((lT (T.at 0))[k1]).at 2))[k2]).s) (by omega) pk20 hs95) ee95) rfl (fun v_ H1 L1 hle hR => ?_)
   obtain ⟨rfl, a95, c95, N95, rfl, rfl, h95⟩ := hR
   have r95 := h95.1
   refine asg rfl rfl ?_
   refine nN ?_
   refine Nb ?_
   refine fun a_ w_ hA hw => ⟨_, _, _, hA.sub ?_, le_14, hw, _, rfl, _, _, _, _, rfl, rfl, r95, rfl⟩
   exact (.of ⟨rfl, rfl, rfl, rfl, rfl, rfl, rfl, rfl, rfl, rfl, rfl, trivial⟩)
  ·
   obtain ⟨a_k2, m_k2, c_k2, N_k2, rfl, rfl, pk20, pk21⟩ := hI
   refine toWp ?_
   have eL76 : B_k1 ++ plainTo (zipped fs_sDescribeConfigsRequestResource v true ((lT (T.at 0))[k1])) v 2 ++ (counted true a_k1_2.isNone (lT (((lT (T.at 0))[k1]).at 2)).length 4) ++ ((lT (((lT (T.at 0))[k1]).at 2)).take (lT (((lT (T.at 0))[k1]).at 2)).length).flatMap (GOf (fs_sDescribeConfigsRequestResource[2]'(by decide)) v true) = B_k1 ++ plainTo (zipped fs_sDescribeConfigsRequestResource v true ((lT (T.at 0))[k1])) v 3 := by rw [List.take_length, List.append_assoc]; exact e_13
   rw [eL76] at pk20 pk21
   subst pk21
   refine sr ?_
   refine mv rfl rfl ?_
   refine nl ?_
   refine cdT rfl (by omega) ?_
   refine sr ?_
   refine mv rfl rfl ?_
   refine mv rfl rfl ?_
   refine nc rfl rfl ?_
   refine fa F163_3 rfl rfl ?_
   refine cl rfl rfl rfl (t_lenU (j := 3) (hc_10.mono le_15) rfl (hf_k1_1.mono le_15)) rfl (fun v_ H1 L1 hle hR => ?_)
   obtain ⟨rfl, rfl, rfl⟩ := hR
   have hu105 := oek1.u
   have hul105 := hu105.2.1
   obtain ⟨hz105a, hz105b⟩ := part_size_plain (by decide) hu105 hBk1
   refine cv Tryz.runUnderlying3 Tryz.runUnderlying67 rfl (w32u (by omega) (by omega)) rfl ?_
   refine ad rfl rfl ((w32u (by omega) (by omega)).trans (Int.zero_add _)) rfl ?_
   refine cl rfl rfl rfl (k_AppendUvarint (n := ((lT (T.at 0))[k1]).u.length) (by omega) pk20 hz105a) rfl (fun v_ H1 L1 hle hR => ?_)
   obtain ⟨rfl, a108, c108, N108, rfl, rfl, h108⟩ := hR
   have r108 := h108.1
   refine asg rfl rfl ?_
   refine nl ?_
   refine rg ?_
   refine mv rfl rfl ?_
   refine nc rfl rfl ?_
   refine fa F163_3 rfl rfl ?_
   refine mv rfl rfl ?_
   refine cl rfl rfl rfl (t_append_each (j := 3) (hc_10.mono le_15) rfl (hf_k1_1.mono le_15) (by omega) r108 (fun p hp => by have := hu105.2.2 p hp; omega) hz105b) rfl (fun v_ H1 L1 le_23 hR => ?_)
   obtain ⟨a113, c113, N113, rfl, rfl, h113⟩ := hR
   have r113 := h113.1
   have eP_24 : B_k1 ++ plainTo (zipped fs_sDescribeConfigsRequestResource v true ((lT (T.at 0))[k1])) v 3 ++ uvar ((lT (T.at 0))[k1]).u.length ++ ((lT (T.at 0))[k1]).u.flatMap tagU = B_k1 ++ partB fs_sDescribeConfigsRequestResource v true ((lT (T.at 0))[k1]) := part_close (B := B_k1) (by decide) hu105
   rw [eP_24] at r113 ⊢
   refine asg rfl rfl ?_
   refine nN ?_
   refine Nb ?_
   have ee_25 : B_k1 ++ partB fs_sDescribeConfigsRequestResource v true ((lT (T.at 0))[k1]) = D ++ (counted true false (lT (T.at 0)).length 4) ++ ((lT (T.at 0)).take (k1 + 1)).flatMap (GOf (fs_DescribeConfigsRequest[0]'(by decide)) v true) := by rw [hdk1]; exact el_end (B0 := D ++ (counted true false (lT (T.at 0)).length 4)) (G := (GOf (fs_DescribeConfigsRequest[0]'(by decide)) v true)) hk1 (GOf_part (by decide) _)
   refine fun a_ w_ hA hw => ⟨_, _, _, hA.sub ?_, (le_2.trans (le_15.trans le_23)), hw, _, rfl, _, _, _, _, rfl, rfl, (by rw [← ee_25]; exact r113), (by rw [← ee_25])⟩
   exact (.of ⟨rfl, rfl, rfl, rfl, rfl, rfl, rfl, trivial⟩)
 ·
  obtain ⟨a_k1, m_k1, c_k1, N_k1, rfl, rfl, pk10, pk11⟩ := hI
  refine toWp ?_
  have eL34 : D ++ (counted true false (lT (T.at 0)).length 4) ++ ((lT (T.at 0)).take (lT (T.at 0)).length).flatMap (GOf (fs_DescribeConfigsRequest[0]'(by decide)) v true) = D ++ plainTo (zipped fs_DescribeConfigsRequest v true T) v 1 := by rw [List.take_length, List.append_assoc]; exact e_1
  rw [eL34] at pk10 pk11
  subst pk11
  refine sq ?_
  refine sr ?_
  refine mv rfl rfl ?_
  refine ge rfl rfl rfl ?_
  refine nl ?_
  refine cdT rfl (by omega) ?_
  refine sr ?_
  refine mv rfl rfl ?_
  refine nc rfl rfl ?_
  refine fa0 F110_2 rfl rfl ?_
  refine ld (Says.fz (hv.mono le_3)) Tryz.isAgg4 rfl (Nat.zero_add _).symm rfl rfl ?_
  refine asg rfl rfl ?_
  refine nl ?_
  refine rg ?_
  refine mv rfl rfl ?_
  refine mv rfl rfl ?_
  have ok123 := hok.get 1 (by decide) (has_yes (show (1 : Int) ≤ v by omega) (show ((-1) : Int) < 0 ∨ v ≤ (-1) by omega))
  have e_26 : D ++ plainTo (zipped fs_DescribeConfigsRequest v true T) v 1 ++ ([if decide ((T.at 1).n % 2 = 1) then 1 else 0] : List UInt8) = D ++ plainTo (zipped fs_DescribeConfigsRequest v true T) v 2 := fold_yes (fs := fs_DescribeConfigsRequest) (v := v) (flex := true) (t := T) (B := D) 1 (by decide) (by decide) (has_yes (show (1 : Int) ≤ v by omega) (show ((-1) : Int) < 0 ∨ v ≤ (-1) by omega)) ((FB_bool (f := (fs_DescribeConfigsRequest[1]'(by decide))) (by decide)).trans (bool_byte _))
  have hs123 := fold_size e_26 (by decide) hb
  refine cl rfl rfl rfl (OutK.cast (k_AppendBool (b := decide ((T.at 1).n % 2 = 1)) pk10 hs123) e_26) rfl (fun v_ H1 L1 hle hR => ?_)
  obtain ⟨rfl, a123, c123, N123, rfl, rfl, h123⟩ := hR
  have r123 := h123.1
  refine asg rfl rfl ?_
  refine nl ?_
  refine sq ?_
  refine sr ?_
  refine mv rfl rfl ?_
  refine ge rfl rfl rfl ?_
  refine nl ?_
  refine cdT rfl (by omega) ?_
  refine sr ?_
  refine mv rfl rfl ?_
  refine nc rfl rfl ?_
  refine fa0 F110_3 rfl rfl ?_
  refine ld (Says.fz (hv.mono le_3)) Tryz.isAgg4 rfl (Nat.zero_add _).symm rfl rfl ?_
  refine asg rfl rfl ?_
  refine nl ?_
  refine rg ?_
  refine mv rfl rfl ?_
  refine mv rfl rfl ?_
  have ok132 := hok.get 2 (by decide) (has_yes (show (3 : Int) ≤ v by omega) (show ((-1) : Int) < 0 ∨ v ≤ (-1) by omega))
  have e_27 : D ++ plainTo (zipped fs_DescribeConfigsRequest v true T) v 2 ++ ([if decide ((T.at 2).n % 2 = 1) then 1 else 0] : List UInt8) = D ++ plainTo (zipped fs_DescribeConfigsRequest v true T) v 3 := fold_yes (fs := fs_DescribeConfigsRequest) (v := v) (flex := true) (t := T) (B := D) 2 (by decide) (by decide) (has_yes (show (3 : Int) ≤ v by omega) (show ((-1) : Int) < 0 ∨ v ≤ (-1) by omega)) ((FB_bool (f := (fs_DescribeConfigsRequest[2]'(by decide))) (by decide)).trans (bool_byte _))
  have hs132 := fold_size e_27 (by decide) hb
  refine cl rfl rfl rfl (OutK.cast (k_AppendBool (b := decide ((T.at 2).n % 2 = 1)) r123 hs132) e_27) rfl (fun v_ H1 L1 hle hR => ?_)
  obtain ⟨rfl, a132, c132, N132, rfl, rfl, h132⟩ := hR
  have r132 := h132.1
  refine asg rfl rfl ?_
  refine nl ?_
  refine sq ?_
  refine sr ?_
  refine mv rfl rfl ?_
  refine nl ?_
  refine cdT rfl (by omega) ?_
  refine sr ?_
  refine mv rfl rfl ?_
  refine mv rfl rfl ?_
  refine nc rfl rfl ?_
  refine fa0 F110_4 rfl rfl ?_
  refine cl rfl rfl rfl (t_lenU (j := 4) (hv.mono le_3) rfl (hf1.mono le_3)) rfl (fun v_ H1 L1 hle hR => ?_)
  obtain ⟨rfl, rfl, rfl⟩ := hR
  have hu138 := hok.u
  have hul138 := hu138.2.1
  obtain ⟨hz138a, hz138b⟩ := part_size_plain (by decide) hu138 hb
  refine cv Tryz.runUnderlying3 Tryz.runUnderlying67 rfl (w32u (by omega) (by omega)) rfl ?_
  refine ad rfl rfl ((w32u (by omega) (by omega)).trans (Int.zero_add _)) rfl ?_
  refine cl rfl rfl rfl (k_AppendUvarint (n := T.u.length) (by omega) r132 hz138a) rfl (fun v_ H1 L1 hle hR => ?_)
  obtain ⟨rfl, a141, c141, N141, rfl, rfl, h141⟩ := hR
  have r141 := h141.1
  refine asg rfl rfl ?_
  refine nl ?_
  refine rg ?_
  refine mv rfl rfl ?_
  refine nc rfl rfl ?_
  refine fa0 F110_4 rfl rfl ?_
  refine mv rfl rfl ?_
  refine cl rfl rfl rfl (t_append_each (j := 4) (hv.mono le_3) rfl (hf1.mono le_3) (by omega) r141 (fun p hp => by have := hu138.2.2 p hp; omega) hz138b) rfl (fun v_ H1 L1 le_28 hR => ?_)
  obtain ⟨a146, c146, N146, rfl, rfl, h146⟩ := hR
  have r146 := h146.1
  have eP_29 : D ++ plainTo (zipped fs_DescribeConfigsRequest v true T) v 3 ++ uvar T.u.length ++ T.u.flatMap tagU = D ++ partB fs_DescribeConfigsRequest v true T := part_close (B := D) (by decide) hu138
  rw [eP_29] at r146 ⊢
  refine asg rfl rfl ?_
  refine nl ?_
  refine sr ?_
  refine mv rfl rfl ?_
  refine asg rfl rfl ?_
  refine nl ?_
  exact rT rfl rfl (le_3.trans le_28) (fun _ _ h => h) (OutB.of r146 rfl)
end Go.Sx

import Derived.Test.YtpcgaheplmiglaaGreatBFetchResponse
import Derived.Test.YtpcgaheplmiglaaGreatTFetchResponse
import Derived.Test.YtpcgaheplmiglaaGreatEFetchResponse
import Derived.Test.YtpcgaheplmiglaaGreatMkL
import Derived.Test.YtpcgaheplmiglaaGreatFrB
import Derived.KernelRfl
set_option linter.unusedVariables false
set_option linter.unusedSimpArgs false
set_option maxRecDepth 100000
set_option maxHeartbeats 20000000
namespace Go.Sx
open Go.Proofs
theorem app_FetchResponse_f {H : Fz} {L : Own} {a : Option Addr} {cap b : Nat} {D : List UInt8} {N : Chunk} {cs : List Value} {T : Tr} {v : Int} (hr : Row 5 1 a D.length cap (bytesOf D) N) (hv : H.at b 0 cs) (hA : At_FetchResponse v H T cs) (hok : OkP fs_FetchResponse v T) (h0 : 0 ≤ v) (h1 : v ≤ 11) (hb : D.length + (partB fs_FetchResponse v false T).length ≤ LIM) :
  Fn Tryz.prog 20 [.pointer (some ⟨b, 0, none⟩), .slice a D.length cap] H (N :: L) (fun r H' L' => OutB 5 L (D ++ partB fs_FetchResponse v false T) r L') := by
 obtain ⟨a3, c3, a4, c4, mt, rfl, hf0, hf1, hf2⟩ := hA
 refine Fn.mk Tryz.call20 Tryz.func20 rfl Tryz.ntmps20 rfl ?_
 refine sr ?_
 refine asg rfl rfl ?_
 refine nl ?_
 refine sr ?_
 refine mv rfl rfl ?_
 refine nc rfl rfl ?_
 refine fa0 F58_0 rfl rfl ?_
 refine ld (Says.fz hv) Tryz.isAgg45 rfl (Nat.zero_add _).symm rfl rfl ?_
 refine asg rfl rfl ?_
 refine nl ?_
 refine sr ?_
 refine mv rfl rfl ?_
 refine nl ?_
 refine sr ?_
 refine mv rfl rfl ?_
 refine ge rfl rfl rfl ?_
 refine asg rfl rfl ?_
 refine nl ?_
 refine sr ?_
 refine mv rfl rfl ?_
 refine nl ?_
 refine sq ?_
 refine sr ?_
 refine mv rfl rfl ?_
 refine ge rfl rfl rfl ?_
 refine nl ?_
 refine cutT (fun l' H' L' => ∃ (aj_1 : Option Addr), ∃ (mj_1 : Nat), ∃ (cj_1 : Nat), ∃ (Nj_1 : Chunk), [(0, .pointer (some ⟨b, 0, none⟩)), (1, .slice aj_1 mj_1 cj_1), (5, .int .i16 v), (6, .bool (decide ((12 : Int) ≤ v)))] = l' ∧ Nj_1 :: L = L' ∧ Row 5 1 aj_1 mj_1 cj_1 (bytesOf (D ++ plainTo (zipped fs_FetchResponse v false T) v 1)) Nj_1 ∧ mj_1 = (D ++ plainTo (zipped fs_FetchResponse v false T) v 1).length) ?_ (fun l' H' L' le_2 hI => ?_)
 ·
  refine cd rfl (fun h69 => ?_) (fun h69 => ?_)
  ·
   refine sr ?_
   refine mv rfl rfl ?_
   refine nc rfl rfl ?_
   refine fa0 F58_1 rfl rfl ?_
   refine ld (Says.fz hv) Tryz.isAgg21 rfl (Nat.zero_add _).symm rfl rfl ?_
   refine asg rfl rfl ?_
   refine nl ?_
   refine rg ?_
   refine mv rfl rfl ?_
   refine mv rfl rfl ?_
   have ok76 := hok.get 0 (by decide) (has_yes (show (1 : Int) ≤ v by omega) (show ((-1) : Int) < 0 ∨ v ≤ (-1) by omega))
   have e_3 : D ++ (fixed (IntKind.i32.wrap (T.at 0).n) 4) = D ++ plainTo (zipped fs_FetchResponse v false T) v 1 := fold_first (fs := fs_FetchResponse) (v := v) (flex := false) (t := T) (B := D) 0 rfl (by decide) (by decide) (has_yes (show (1 : Int) ≤ v by omega) (show ((-1) : Int) < 0 ∨ v ≤ (-1) by omega)) ((FB_int (f := (fs_FetchResponse[0]'(by decide))) (by decide) (by decide)).trans (fixed_i32 _).symm)
   have hs76 := fold_size e_3 (by decide) hb
   refine cl rfl rfl rfl (OutK.cast (k_AppendInt32 (u := IntKind.i32.wrap (T.at 0).n) hr hs76) e_3) rfl (fun v_ H1 L1 hle hR => ?_)
   obtain ⟨rfl, a76, c76, N76, rfl, rfl, h76⟩ := hR
   have r76 := h76.1
   refine asg rfl rfl ?_
   refine nN ?_
   refine fun a_ w_ hA hw => ⟨_, _, _, hA.sub ?_, ler, hw, _, _, _, _, rfl, rfl, r76, rfl⟩
   exact (.of ⟨rfl, rfl, rfl, rfl, trivial⟩)
  ·
   refine skN ?_
   have es_4 : plainTo (zipped fs_FetchResponse v false T) v 1 = plainTo (zipped fs_FetchResponse v false T) v 0 := (piece_no2 (fs := fs_FetchResponse) (v := v) (flex := false) (t := T) (k := 0) (by decide) (has_no (show v < (1 : Int) ∨ ((0 : Int) ≤ (-1) ∧ (-1) < v) by omega)))
   have eX_5 : D = D ++ plainTo (zipped fs_FetchResponse v false T) v 1 := by rw [es_4, plain0, List.append_nil]
   refine fun a_ w_ hA hw => ⟨_, _, _, hA.sub ?_, ler, hw, _, _, _, _, rfl, rfl, (by rw [← eX_5]; exact hr), (by rw [← eX_5])⟩
   exact (.of ⟨rfl, rfl, rfl, rfl, trivial⟩)
 ·
  obtain ⟨aj_1, mj_1, cj_1, Nj_1, rfl, rfl, pj0, pj1⟩ := hI
  subst pj1
  have rj_1 := pj0
  refine sq ?_
  refine sr ?_
  refine mv rfl rfl ?_
  refine ge rfl rfl rfl ?_
  refine nl ?_
  refine cutT (fun l' H' L' => ∃ (aj_6 : Option Addr), ∃ (mj_6 : Nat), ∃ (cj_6 : Nat), ∃ (Nj_6 : Chunk), [(0, .pointer (some ⟨b, 0, none⟩)), (1, .slice aj_6 mj_6 cj_6), (5, .int .i16 v), (6, .bool (decide ((12 : Int) ≤ v)))] = l' ∧ Nj_6 :: L = L' ∧ Row 5 1 aj_6 mj_6 cj_6 (bytesOf (D ++ plainTo (zipped fs_FetchResponse v false T) v 2)) Nj_6 ∧ mj_6 = (D ++ plainTo (zipped fs_FetchResponse v false T) v 2).length) ?_ (fun l' H' L' le_7 hI => ?_)
  ·
   refine cd rfl (fun h78 => ?_) (fun h78 => ?_)
   ·
    refine sr ?_
    refine mv rfl rfl ?_
    refine nc rfl rfl ?_
    refine fa0 F58_2 rfl rfl ?_
    refine ld (Says.fz (hv.mono le_2)) Tryz.isAgg45 rfl (Nat.zero_add _).symm rfl rfl ?_
    refine asg rfl rfl ?_
    refine nl ?_
    refine rg ?_
    refine mv rfl rfl ?_
    refine mv rfl rfl ?_
    have ok85 := hok.get 1 (by decide) (has_yes (show (7 : Int) ≤ v by omega) (show ((-1) : Int) < 0 ∨ v ≤ (-1) by omega))
    have e_8 : D ++ plainTo (zipped fs_FetchResponse v false T) v 1 ++ (fixed (IntKind.i16.wrap (T.at 1).n) 2) = D ++ plainTo (zipped fs_FetchResponse v false T) v 2 := fold_yes (fs := fs_FetchResponse) (v := v) (flex := false) (t := T) (B := D) 1 (by decide) (by decide) (has_yes (show (7 : Int) ≤ v by omega) (show ((-1) : Int) < 0 ∨ v ≤ (-1) by omega)) ((FB_int (f := (fs_FetchResponse[1]'(by decide))) (by decide) (by decide)).trans (fixed_i16 _).symm)
    have hs85 := fold_size e_8 (by decide) hb
    refine cl rfl rfl rfl (OutK.cast (k_AppendInt16 (u := IntKind.i16.wrap (T.at 1).n) rj_1 hs85) e_8) rfl (fun v_ H1 L1 hle hR => ?_)
    obtain ⟨rfl, a85, c85, N85, rfl, rfl, h85⟩ := hR
    have r85 := h85.1
    refine asg rfl rfl ?_
    refine nN ?_
    refine fun a_ w_ hA hw => ⟨_, _, _, hA.sub ?_, ler, hw, _, _, _, _, rfl, rfl, r85, rfl⟩
    exact (.of ⟨rfl, rfl, rfl, rfl, trivial⟩)
   ·
    refine skN ?_
    have es_9 : plainTo (zipped fs_FetchResponse v false T) v 2 = plainTo (zipped fs_FetchResponse v false T) v 1 := (piece_no2 (fs := fs_FetchResponse) (v := v) (flex := false) (t := T) (k := 1) (by decide) (has_no (show v < (7 : Int) ∨ ((0 : Int) ≤ (-1) ∧ (-1) < v) by omega)))
    have eX_10 : D ++ plainTo (zipped fs_FetchResponse v false T) v 1 = D ++ plainTo (zipped fs_FetchResponse v false T) v 2 := by rw [es_9]
    refine fun a_ w_ hA hw => ⟨_, _, _, hA.sub ?_, ler, hw, _, _, _, _, rfl, rfl, (by rw [← eX_10]; exact rj_1), (by rw [← eX_10])⟩
    exact (.of ⟨rfl, rfl, rfl, rfl, trivial⟩)
  ·
   obtain ⟨aj_6, mj_6, cj_6, Nj_6, rfl, rfl, pj0, pj1⟩ := hI
   subst pj1
   have rj_6 := pj0
   refine sq ?_
   refine sr ?_
   refine mv rfl rfl ?_
   refine ge rfl rfl rfl ?_
   refine nl ?_
   refine cutT (fun l' H' L' => ∃ (aj_11 : Option Addr), ∃ (mj_11 : Nat), ∃ (cj_11 : Nat), ∃ (Nj_11 : Chunk), [(0, .pointer (some ⟨b, 0, none⟩)), (1, .slice aj_11 mj_11 cj_11), (5, .int .i16 v), (6, .bool (decide ((12 : Int) ≤ v)))] = l' ∧ Nj_11 :: L = L' ∧ Row 5 1 aj_11 mj_11 cj_11 (bytesOf (D ++ plainTo (zipped fs_FetchResponse v false T) v 3)) Nj_11 ∧ mj_11 = (D ++ plainTo (zipped fs_FetchResponse v false T) v 3).length) ?_ (fun l' H' L' le_12 hI => ?_)
   ·
    refine cd rfl (fun h87 => ?_) (fun h87 => ?_)
    ·
     refine sr ?_
     refine mv rfl rfl ?_
     refine nc rfl rfl ?_
     refine fa0 F58_3 rfl rfl ?_
     refine ld (Says.fz (hv.mono (le_2.trans le_7))) Tryz.isAgg21 rfl (Nat.zero_add _).symm rfl rfl ?_
     refine asg rfl rfl ?_
     refine nl ?_
     refine rg ?_
     refine mv rfl rfl ?_
     refine mv rfl rfl ?_
     have ok94 := hok.get 2 (by decide) (has_yes (show (7 : Int) ≤ v by omega) (show ((-1) : Int) < 0 ∨ v ≤ (-1) by omega))
     have e_13 : D ++ plainTo (zipped fs_FetchResponse v false T) v 2 ++ (fixed (IntKind.i32.wrap (T.at 2).n) 4) = D ++ plainTo (zipped fs_FetchResponse v false T) v 3 := fold_yes (fs := fs_FetchResponse) (v := v) (flex := false) (t := T) (B := D) 2 (by decide) (by decide) (has_yes (show (7 : Int) ≤ v by omega) (show ((-1) : Int) < 0 ∨ v ≤ (-1) by omega)) ((FB_int (f := (fs_FetchResponse[2]'(by decide))) (by decide) (by decide)).trans (fixed_i32 _).symm)
     have hs94 := fold_size e_13 (by decide) hb
     refine cl rfl rfl rfl (OutK.cast (k_AppendInt32 (u := IntKind.i32.wrap (T.at 2).n) rj_6 hs94) e_13) rfl (fun v_ H1 L1 hle hR => ?_)
     obtain ⟨rfl, a94, c94, N94, rfl, rfl, h94⟩ := hR
     have r94 := h94.1
     refine asg rfl rfl ?_
     refine nN ?_
     refine fun a_ w_ hA hw => ⟨_, _, _, hA.sub ?_, ler, hw, _, _, _, _, rfl, rfl, r94, rfl⟩
     exact (.of ⟨rfl, rfl, rfl, rfl, trivial⟩)
    ·
     refine skN ?_
     have es_14 : plainTo (zipped fs_FetchResponse v false T) v 3 = plainTo (zipped fs_FetchResponse v false T) v 2 := (piece_no2 (fs := fs_FetchResponse) (v := v) (flex := false) (t := T) (k := 2) (by decide) (has_no (show v < (7 : Int) ∨ ((0 : Int) ≤ (-1) ∧ (-1) < v) by omega)))
     have eX_15 : D ++ plainTo (zipped fs_FetchResponse v false T) v 2 = D ++ plainTo (zipped fs_FetchResponse v false T) v 3 := by rw [es_14]
     refine fun a_ w_ hA hw => ⟨_, _, _, hA.sub ?_, ler, hw, _, _, _, _, rfl, rfl, (by rw [← eX_15]; exact rj_6), (by rw [← eX_15])⟩
     exact (.of ⟨rfl, rfl, rfl, rfl, trivial⟩)
   ·
    obtain ⟨aj_11, mj_11, cj_11, Nj_11, rfl, rfl, pj0, pj1⟩ := hI
    subst pj1
    have rj_11 := pj0
    refine sq ?_
    refine sr ?_
    refine mv rfl rfl ?_
    refine nc rfl rfl ?_
    refine fa0 F58_4 rfl rfl ?_
    refine ld (Says.fz (hv.mono (le_2.trans (le_7.trans le_12)))) Tryz.isAgg52 rfl (Nat.zero_add _).symm rfl rfl ?_
    refine asg rfl rfl ?_
    refine nl ?_
    refine sq ?_
    refine sr ?_
    refine mv rfl rfl ?_
    refine nl ?_
    refine cdF rfl (by omega) ?_
    refine rg ?_
    refine mv rfl rfl ?_
    refine mv rfl rfl ?_
    refine ls Tryz.runUnderlying52 rfl rfl ?_
    have ok107 := hok.get 3 (by decide) (has_yes (show (0 : Int) ≤ v by omega) (show ((-1) : Int) < 0 ∨ v ≤ (-1) by omega))
    have ll107 := lT_len (ok107.len rfl)
    have e_16 : D ++ plainTo (zipped fs_FetchResponse v false T) v 3 ++ (counted false false (lT (T.at 3)).length 4 ++ (lT (T.at 3)).flatMap (GOf (fs_FetchResponse[3]'(by decide)) v false)) = D ++ plainTo (zipped fs_FetchResponse v false T) v 4 := fold_yes (fs := fs_FetchResponse) (v := v) (flex := false) (t := T) (B := D) 3 (by decide) (by decide) (has_yes (show (0 : Int) ≤ v by omega) (show ((-1) : Int) < 0 ∨ v ≤ (-1) by omega)) (FB_list0 (f := (fs_FetchResponse[3]'(by decide))) (by decide) (by decide) (by decide) ok107)
    have hs107 := fold_size e_16 (by decide) hb
    have hc107 : (D ++ plainTo (zipped fs_FetchResponse v false T) v 3).length + (counted false false (lT (T.at 3)).length 4).length ≤ LIM := by have h := hs107; simp only [List.length_append] at h ⊢; omega
    refine cl rfl rfl rfl (OutK.cast (k_AppendArrayLen (u := ((lT (T.at 3)).length : Int)) rj_11 hc107) (show _ = D ++ plainTo (zipped fs_FetchResponse v false T) v 3 ++ (counted false false (lT (T.at 3)).length 4) from rfl)) rfl (fun v_ H1 L1 hle hR => ?_)
    obtain ⟨rfl, a107, c107, N107, rfl, rfl, h107⟩ := hR
    have r107 := h107.1
    refine asg rfl rfl ?_
    refine nl ?_
    refine sr ?_
    refine mv rfl rfl ?_
    refine ls Tryz.runUnderlying52 rfl rfl ?_
    refine mv rfl rfl ?_
    refine nl ?_
    refine fr ((lT (T.at 3)).length) (fun k1 l' H' L' => ∃ (a_k1 : Option Addr), ∃ (m_k1 : Nat), ∃ (c_k1 : Nat), ∃ (N_k1 : Chunk), [(0, .pointer (some ⟨b, 0, none⟩)), (1, .slice a_k1 m_k1 c_k1), (5, .int .i16 v), (6, .bool (decide ((12 : Int) ≤ v))), (10, .slice a3 (lT (T.at 3)).length c3), (109, .int .i64 ((lT (T.at 3)).length : Int))] = l' ∧ N_k1 :: L = L' ∧ Row 5 1 a_k1 m_k1 c_k1 (bytesOf (D ++ plainTo (zipped fs_FetchResponse v false T) v 3 ++ (counted false false (lT (T.at 3)).length 4) ++ ((lT (T.at 3)).take k1).flatMap (GOf (fs_FetchResponse[3]'(by decide)) v false))) N_k1 ∧ m_k1 = (D ++ plainTo (zipped fs_FetchResponse v false T) v 3 ++ (counted false false (lT (T.at 3)).length 4) ++ ((lT (T.at 3)).take k1).flatMap (GOf (fs_FetchResponse[3]'(by decide)) v false)).length) [(0, .pointer (some ⟨b, 0, none⟩)), (1, .slice _ _ _), (5, .int .i16 v), (6, .bool (decide ((12 : Int) ≤ v))), (10, .slice a3 (lT (T.at 3)).length c3), (109, .int .i64 ((lT (T.at 3)).length : Int))] (fun k1 l' H' L' h => ?_) (by omega) rfl (.of ⟨rfl, rfl, rfl, rfl, rfl, rfl, trivial⟩) ⟨_, _, _, _, rfl, rfl, (by rw [List.take_zero, List.flatMap_nil, List.append_nil]; exact r107), (by rw [List.take_zero, List.flatMap_nil, List.append_nil])⟩ rfl rfl rfl rfl rfl (fun k1 l' H' L' hk1 le_17 hI => ?_) (fun l' H' L' le_18 hI => ?_)
    · obtain ⟨a_k1, m_k1, c_k1, N_k1, rfl, _⟩ := h; exact ⟨rfl, rfl, rfl, rfl⟩
    ·
     obtain ⟨a_k1, m_k1, c_k1, N_k1, rfl, rfl, pk10, pk11⟩ := hI
     subst pk11
     refine sr ?_
     refine mv rfl rfl ?_
     refine asg rfl rfl ?_
     refine nl ?_
     refine sr ?_
     refine mv rfl rfl ?_
     refine mv rfl rfl ?_
     obtain ⟨b_19, o_20, e_21, g_22⟩ := (hf0.mono At_FetchResponseTopic.mono (le_2.trans (le_7.trans (le_12.trans le_17)))).rows.at_ (ne_nil_of_lt hk1)
     obtain ⟨cs_23, hA_24, hc_25⟩ := g_22 k1 hk1
     refine ix2 Tryz.runUnderlying52 Tryz.sizeOf75 rfl e_21 rfl rfl hk1 rfl ?_
     obtain ⟨a_k1_2, c_k1_2, m_k1_t, rfl, hf_k1_0, hf_k1_1⟩ := hA_24
     have oek1 := (ok107.el rfl _ (lT_mem (List.getElem_mem hk1))).2 rfl
     obtain ⟨B_k1, hdk1⟩ : ∃ z : List UInt8, z = D ++ plainTo (zipped fs_FetchResponse v false T) v 3 ++ (counted false false (lT (T.at 3)).length 4) ++ ((lT (T.at 3)).take k1).flatMap (GOf (fs_FetchResponse[3]'(by decide)) v false) := ⟨_, rfl⟩
     have rbk1 := pk10
     rw [← hdk1] at rbk1 ⊢
     have hBk1 : B_k1.length + (partB fs_sFetchResponseTopic v false ((lT (T.at 3))[k1])).length ≤ LIM := by rw [hdk1]; exact el_size hs107 hk1 (GOf_part (by decide) _)
     refine asg rfl rfl ?_
     refine nl ?_
     refine sq ?_
     refine sr ?_
     refine mv rfl rfl ?_
     refine ge rfl rfl rfl ?_
     refine mv rfl rfl ?_
     refine spl (t := 118) rfl (fun _ => ?_) (fun hn_ => absurd (by omega) hn_)
     refine gr rfl rfl ?_
     refine mv rfl rfl ?_
     refine gr rfl rfl ?_
     refine le rfl rfl rfl ?_
     refine pk rfl rfl rfl rfl ?_
     refine nl ?_
     refine cdT rfl (by omega) ?_
     refine sr ?_
     refine mv rfl rfl ?_
     refine nc rfl rfl ?_
     refine fa F75_0 rfl rfl ?_
     refine ld (Says.fz hc_25) Tryz.isAgg9 rfl (Nat.add_zero _).symm rfl rfl ?_
     refine asg rfl rfl ?_
     refine nl ?_
     refine sr ?_
     refine mv rfl rfl ?_
     refine nl ?_
     refine cdF rfl (by omega) ?_
     refine rg ?_
     refine mv rfl rfl ?_
     refine mv rfl rfl ?_
     have ok132 := oek1.get 0 (by decide) (has_yes (show (0 : Int) ≤ v by omega) (show (12 : Int) < 0 ∨ v ≤ 12 by omega))
     have nn132 := ok132.nn (by decide) (by decide) (by decide)
     have e_26 : B_k1 ++ (counted false false (((lT (T.at 3))[k1]).at 0).s.length 2 ++ (((lT (T.at 3))[k1]).at 0).s) = B_k1 ++ plainTo (zipped fs_sFetchResponseTopic v false ((lT (T.at 3))[k1])) v 1 := fold_first (fs := fs_sFetchResponseTopic) (v := v) (flex := false) (t := ((lT (T.at 3))[k1])) (B := B_k1) 0 rfl (by decide) (by decide) (has_yes (show (0 : Int) ≤ v by omega) (show (12 : Int) < 0 ∨ v ≤ 12 by omega)) (by rw [FB_text (f := (fs_sFetchResponseTopic[0]'(by decide))) (by decide) (by decide) ok132, sT_nn nn132, nn132])
     have hs132 := fold_size e_26 (by decide) hBk1
     refine cl rfl rfl rfl (OutK.cast (k_AppendString (x := (((lT (T.at 3))[k1]).at 0).s) rbk1 hs132) e_26) rfl (fun v_ H1 L1 hle hR => ?_)
     obtain ⟨rfl, a132, c132, N132, rfl, rfl, h132⟩ := hR
     have r132 := h132.1
     refine asg rfl rfl ?_
     refine nl ?_
     refine sq ?_
     refine sr ?_
     refine mv rfl rfl ?_
     refine ge rfl rfl rfl ?_
     refine nl ?_
     refine cdF rfl (by omega) ?_
     refine skt ?_
     refine sq ?_
     refine sr ?_
     refine mv rfl rfl ?_
     refine nc rfl rfl ?_
     refine fa F75_2 rfl rfl ?_
     refine ld (Says.fz hc_25) Tryz.isAgg73 rfl rfl rfl rfl ?_
     refine asg rfl rfl ?_
     refine nl ?_
     refine sq ?_
     refine sr ?_
     refine mv rfl rfl ?_
     refine nl ?_
     refine cdF rfl (by omega) ?_
     refine rg ?_
     refine mv rfl rfl ?_
     refine mv rfl rfl ?_
     refine ls Tryz.runUnderlying73 rfl rfl ?_
     have es_27 : plainTo (zipped fs_sFetchResponseTopic v false ((lT (T.at 3))[k1])) v 2 = plainTo (zipped fs_sFetchResponseTopic v false ((lT (T.at 3))[k1])) v 1 := (piece_no2 (fs := fs_sFetchResponseTopic) (v := v) (flex := false) (t := ((lT (T.at 3))[k1])) (k := 1) (by decide) (has_no (show v < (13 : Int) ∨ ((0 : Int) ≤ (-1) ∧ (-1) < v) by omega)))
     have eX_28 : B_k1 ++ plainTo (zipped fs_sFetchResponseTopic v false ((lT (T.at 3))[k1])) v 1 = B_k1 ++ plainTo (zipped fs_sFetchResponseTopic v false ((lT (T.at 3))[k1])) v 2 := by rw [es_27]
     have rx_29 := r132
     rw [eX_28] at rx_29 ⊢
     have ok154 := oek1.get 2 (by decide) (has_yes (show (0 : Int) ≤ v by omega) (show ((-1) : Int) < 0 ∨ v ≤ (-1) by omega))
     have ll154 := lT_len (ok154.len rfl)
     have e_30 : B_k1 ++ plainTo (zipped fs_sFetchResponseTopic v false ((lT (T.at 3))[k1])) v 2 ++ (counted false false (lT (((lT (T.at 3))[k1]).at 2)).length 4 ++ (lT (((lT (T.at 3))[k1]).at 2)).flatMap (GOf (fs_sFetchResponseTopic[2]'(by decide)) v false)) = B_k1 ++ plainTo (zipped fs_sFetchResponseTopic v false ((lT (T.at 3))[k1])) v 3 := fold_yes (fs := fs_sFetchResponseTopic) (v := v) (flex := false) (t := ((lT (T.at 3))[k1])) (B := B_k1) 2 (by decide) (by decide) (has_yes (show (0 : Int) ≤ v by omega) (show ((-1) : Int) < 0 ∨ v ≤ (-1) by omega)) (FB_list0 (f := (fs_sFetchResponseTopic[2]'(by decide))) (by decide) (by decide) (by decide) ok154)
     have hs154 := fold_size e_30 (by decide) hBk1
     have hc154 : (B_k1 ++ plainTo (zipped fs_sFetchResponseTopic v false ((lT (T.at 3))[k1])) v 2).length + (counted false false (lT (((lT (T.at 3))[k1]).at 2)).length 4).length ≤ LIM := by have h := hs154; simp only [List.length_append] at h ⊢; omega
     refine cl rfl rfl rfl (OutK.cast (k_AppendArrayLen (u := ((lT (((lT (T.at 3))[k1]).at 2)).length : Int)) rx_29 hc154) (show _ = B_k1 ++ plainTo (zipped fs_sFetchResponseTopic v false ((lT (T.at 3))[k1])) v 2 ++ (counted false false (lT (((lT (T.at 3))[k1]).at 2)).length 4) from rfl)) rfl (fun v_ H1 L1 hle hR => ?_)
     obtain ⟨rfl, a154, c154, N154, rfl, rfl, h154⟩ := hR
     have r154 := h154.1
     refine asg rfl rfl ?_
     refine nl ?_
     refine sr ?_
     refine mv rfl rfl ?_
     refine ls Tryz.runUnderlying73 rfl rfl ?_
     refine mv rfl rfl ?_
     refine nl ?_
     refine fr ((lT (((lT (T.at 3))[k1]).at 2)).length) (fun k2 l' H' L' => ∃ (a_k2 : Option Addr), ∃ (m_k2 : Nat), ∃ (c_k2 : Nat), ∃ (N_k2 : Chunk), [(0, .pointer (some ⟨b, 0, none⟩)), (1, .slice a_k2 m_k2 c_k2), (5, .int .i16 v), (6, .bool (decide ((12 : Int) ≤ v))), (10, .slice a3 (lT (T.at 3)).length c3), (12, .pointer (some ⟨b_19, o_20 + k1 * 19, none⟩)), (15, .slice a_k1_2 (lT (((lT (T.at 3))[k1]).at 2)).length c_k1_2), (109, .int .i64 ((lT (T.at 3)).length : Int)), (110, .int .i64 (k1 : Int)), (156, .int .i64 ((lT (((lT (T.at 3))[k1]).at 2)).length : Int))] = l' ∧ N_k2 :: L = L' ∧ Row 5 1 a_k2 m_k2 c_k2 (bytesOf (B_k1 ++ plainTo (zipped fs_sFetchResponseTopic v false ((lT (T.at 3))[k1])) v 2 ++ (counted false false (lT (((lT (T.at 3))[k1]).at 2)).length 4) ++ ((lT (((lT (T.at 3))[k1]).at 2)).take k2).flatMap (GOf (fs_sFetchResponseTopic[2]'(by decide)) v false))) N_k2 ∧ m_k2 = (B_k1 ++ plainTo (zipped fs_sFetchResponseTopic v false ((lT (T.at 3))[k1])) v 2 ++ (counted false false (lT (((lT (T.at 3))[k1]).at 2)).length 4) ++ ((lT (((lT (T.at 3))[k1]).at 2)).take k2).flatMap (GOf (fs_sFetchResponseTopic[2]'(by decide)) v false)).length) [(0, .pointer (some ⟨b, 0, none⟩)), (1, .slice _ _ _), (5, .int .i16 v), (6, .bool (decide ((12 : Int) ≤ v))), (10, .slice a3 (lT (T.at 3)).length c3), (12, .pointer (some ⟨b_19, o_20 + k1 * 19, none⟩)), (15, .slice a_k1_2 (lT (((lT (T.at 3))[k1]).at 2)).length c_k1_2), (109, .int .i64 ((lT (T.at 3)).length : Int)), (110, .int .i64 (k1 : Int)), (156, .int .i64 ((lT (((lT (T.at 3))[k1]).at 2)).length : Int))] (fun k2 l' H' L' h => ?_) (by omega) rfl (.of ⟨rfl, rfl, rfl, rfl, rfl, rfl, rfl, rfl, rfl, rfl, trivial⟩) ⟨_, _, _, _, rfl, rfl, (by rw [List.take_zero, List.flatMap_nil, List.append_nil]; exact r154), (by rw [List.take_zero, List.flatMap_nil, List.append_nil])⟩ rfl rfl rfl rfl rfl (fun k2 l' H' L' hk2 le_31 hI => ?_) (fun l' H' L' le_32 hI => ?_)
     · obtain ⟨a_k2, m_k2, c_k2, N_k2, rfl, _⟩ := h; exact ⟨rfl, rfl, rfl, rfl⟩
     ·
      obtain ⟨a_k2, m_k2, c_k2, N_k2, rfl, rfl, pk20, pk21⟩ := hI
      subst pk21
      refine sr ?_
      refine mv rfl rfl ?_
      refine asg rfl rfl ?_
      refine nl ?_
      refine sr ?_
      refine mv rfl rfl ?_
      refine mv rfl rfl ?_
      obtain ⟨b_33, o_34, e_35, g_36⟩ := (hf_k1_0.mono At_FetchResponseTopicPartition.mono le_31).rows.at_ (ne_nil_of_lt hk2)
      obtain ⟨cs_37, hA_38, hc_39⟩ := g_36 k2 hk2
      refine ix2 Tryz.runUnderlying73 Tryz.sizeOf97 rfl e_35 rfl rfl hk2 rfl ?_
      obtain ⟨m_k2_5_t, m_k2_6_t, m_k2_7_t, a_k2_8, c_k2_8, a_k2_10, c_k2_10, m_k2_t, rfl, hf_k2_0, hf_k2_1, hf_k2_2, hf_k2_3, hf_k2_4, hf_k2_5⟩ := hA_38
      have oek2 := (ok154.el rfl _ (lT_mem (List.getElem_mem hk2))).2 rfl
      obtain ⟨B_k2, hdk2⟩ : ∃ z : List UInt8, z = B_k1 ++ plainTo (zipped fs_sFetchResponseTopic v false ((lT (T.at 3))[k1])) v 2 ++ (counted false false (lT (((lT (T.at 3))[k1]).at 2)).length 4) ++ ((lT (((lT (T.at 3))[k1]).at 2)).take k2).flatMap (GOf (fs_sFetchResponseTopic[2]'(by decide)) v false) := ⟨_, rfl⟩
      have rbk2 := pk20
      rw [← hdk2] at rbk2 ⊢
      have hBk2 : B_k2.length + (partB fs_sFetchResponseTopicPartition v false ((lT (((lT (T.at 3))[k1]).at 2))[k2])).length ≤ LIM := by rw [hdk2]; exact el_size hs154 hk2 (GOf_part (by decide) _)
      refine asg rfl rfl ?_
      refine nl ?_
      refine sq ?_
      refine sr ?_
      refine mv rfl rfl ?_
      refine nc rfl rfl ?_
      refine fa F97_0 rfl rfl ?_
      refine ld (Says.fz hc_39) Tryz.isAgg21 rfl (Nat.add_zero _).symm rfl rfl ?_
      refine asg rfl rfl ?_
      refine nl ?_
      refine rg ?_
      refine mv rfl rfl ?_
      refine mv rfl rfl ?_
      have ok169 := oek2.get 0 (by decide) (has_yes (show (0 : Int) ≤ v by omega) (show ((-1) : Int) < 0 ∨ v ≤ (-1) by omega))
      have e_40 : B_k2 ++ (fixed (IntKind.i32.wrap (((lT (((lT (T.at 3))[k1]).at 2))[k2]).at 0).n) 4) = B_k2 ++ plainTo (zipped fs_sFetchResponseTopicPartition v false ((lT (((lT (T.at 3))[k1]).at 2))[k2])) v 1 := fold_first (fs := fs_sFetchResponseTopicPartition) (v := v) (flex := false) (t := ((lT (((lT (T.at 3))[k1]).at 2))[k2])) (B := B_k2) 0 rfl (by decide) (by decide) (has_yes (show (0 : Int) ≤ v by omega) (show ((-1) : Int) < 0 ∨ v ≤ (-1) by omega)) ((FB_int (f := (fs_sFetchResponseTopicPartition[0]'(by decide))) (by decide) (by decide)).trans (fixed_i32 _).symm)
      have hs169 := fold_size e_40 (by decide) hBk2
      refine cl rfl rfl rfl (OutK.cast (k_AppendInt32 (u := IntKind.i32.wrap (((lT (((lT (T.at 3))[k1]).at 2))[k2]).at 0).n) rbk2 hs169) e_40) rfl (fun v_ H1 L1 hle hR => ?_)
      obtain ⟨rfl, a169, c169, N169, rfl, rfl, h169⟩ := hR
      have r169 := h169.1
      refine asg rfl rfl ?_
      refine nl ?_
      refine sq ?_
      refine sr ?_
      refine mv rfl rfl ?_
      refine nc rfl rfl ?_
      refine fa F97_1 rfl rfl ?_
      refine ld (Says.fz hc_39) Tryz.isAgg45 rfl rfl rfl rfl ?_
      refine asg rfl rfl ?_
      refine nl ?_
      refine rg ?_
      refine mv rfl rfl ?_
      refine mv rfl rfl ?_
      have ok176 := oek2.get 1 (by decide) (has_yes (show (0 : Int) ≤ v by omega) (show ((-1) : Int) < 0 ∨ v ≤ (-1) by omega))
      have e_41 : B_k2 ++ plainTo (zipped fs_sFetchResponseTopicPartition v false ((lT (((lT (T.at 3))[k1]).at 2))[k2])) v 1 ++ (fixed (IntKind.i16.wrap (((lT (((lT (T.at 3))[k1]).at 2))[k2]).at 1).n) 2) = B_k2 ++ plainTo (zipped fs_sFetchResponseTopicPartition v false ((lT (((lT (T.at 3))[k1]).at 2))[k2])) v 2 := fold_yes (fs := fs_sFetchResponseTopicPartition) (v := v) (flex := false) (t := ((lT (((lT (T.at 3))[k1]).at 2))[k2])) (B := B_k2) 1 (by decide) (by decide) (has_yes (show (0 : Int) ≤ v by omega) (show ((-1) : Int) < 0 ∨ v ≤ (-1) by omega)) ((FB_int (f := (fs_sFetchResponseTopicPartition[1]'(by decide))) (by decide) (by decide)).trans (fixed_i16 _).symm)
      have hs176 := fold_size e_41 (by decide) hBk2
      refine cl rfl rfl rfl (OutK.cast (k_AppendInt16 (u := IntKind.i16.wrap (((lT (((lT (T.at 3))[k1]).at 2))[k2]).at 1).n) r169 hs176) e_41) rfl (fun v_ H1 L1 hle hR => ?_)
      obtain ⟨rfl, a176, c176, N176, rfl, rfl, h176⟩ := hR
      have r176 := h176.1
      refine asg rfl rfl ?_
      refine nl ?_
      refine sq ?_
      refine sr ?_
      refine mv rfl rfl ?_
      refine nc rfl rfl ?_
      refine fa F97_2 rfl rfl ?_
      refine ld (Says.fz hc_39) Tryz.isAgg2 rfl rfl rfl rfl ?_
      refine asg rfl rfl ?_
      refine nl ?_
      refine rg ?_
      refine mv rfl rfl ?_
      refine mv rfl rfl ?_
      have ok183 := oek2.get 2 (by decide) (has_yes (show (0 : Int) ≤ v by omega) (show ((-1) : Int) < 0 ∨ v ≤ (-1) by omega))
      have e_42 : B_k2 ++ plainTo (zipped fs_sFetchResponseTopicPartition v false ((lT (((lT (T.at 3))[k1]).at 2))[k2])) v 2 ++ (fixed ((((lT (((lT (T.at 3))[k1]).at 2))[k2]).at 2).n) 8) = B_k2 ++ plainTo (zipped fs_sFetchResponseTopicPartition v false ((lT (((lT (T.at 3))[k1]).at 2))[k2])) v 3 := fold_yes (fs := fs_sFetchResponseTopicPartition) (v := v) (flex := false) (t := ((lT (((lT (T.at 3))[k1]).at 2))[k2])) (B := B_k2) 2 (by decide) (by decide) (has_yes (show (0 : Int) ≤ v by omega) (show ((-1) : Int) < 0 ∨ v ≤ (-1) by omega)) ((FB_int (f := (fs_sFetchResponseTopicPartition[2]'(by decide))) (by decide) (by decide)).trans rfl)
      have hs183 := fold_size e_42 (by decide) hBk2
      refine cl rfl rfl rfl (OutK.cast (k_AppendInt64 (u := (((lT (((lT (T.at 3))[k1]).at 2))[k2]).at 2).n) r176 hs183) e_42) rfl (fun v_ H1 L1 hle hR => ?_)
      obtain ⟨rfl, a183, c183, N183, rfl, rfl, h183⟩ := hR
      have r183 := h183.1
      refine asg rfl rfl ?_
      refine nl ?_
      refine sq ?_
      refine sr ?_
      refine mv rfl rfl ?_
      refine ge rfl rfl rfl ?_
      refine nl ?_
      refine cutT (fun l' H' L' => ∃ (aj_43 : Option Addr), ∃ (mj_43 : Nat), ∃ (cj_43 : Nat), ∃ (Nj_43 : Chunk), [(0, .pointer (some ⟨b, 0, none⟩)), (1, .slice aj_43 mj_43 cj_43), (5, .int .i16 v), (6, .bool (decide ((12 : Int) ≤ v))), (10, .slice a3 (lT (T.at 3)).length c3), (12, .pointer (some ⟨b_19, o_20 + k1 * 19, none⟩)), (15, .slice a_k1_2 (lT (((lT (T.at 3))[k1]).at 2)).length c_k1_2), (17, .pointer (some ⟨b_33, o_34 + k2 * 18, none⟩)), (109, .int .i64 ((lT (T.at 3)).length : Int)), (110, .int .i64 (k1 : Int)), (156, .int .i64 ((lT (((lT (T.at 3))[k1]).at 2)).length : Int)), (157, .int .i64 (k2 : Int))] = l' ∧ Nj_43 :: L = L' ∧ Row 5 1 aj_43 mj_43 cj_43 (bytesOf (B_k2 ++ plainTo (zipped fs_sFetchResponseTopicPartition v false ((lT (((lT (T.at 3))[k1]).at 2))[k2])) v 4)) Nj_43 ∧ mj_43 = (B_k2 ++ plainTo (zipped fs_sFetchResponseTopicPartition v false ((lT (((lT (T.at 3))[k1]).at 2))[k2])) v 4).length) ?_ (fun l' H' L' le_44 hI => ?_)
      ·
       refine cd rfl (fun h185 => ?_) (fun h185 => ?_)
       ·
        refine sr ?_
        refine mv rfl rfl ?_
        refine nc rfl rfl ?_
        refine fa F97_3 rfl rfl ?_
        refine ld (Says.fz hc_39) Tryz.isAgg2 rfl rfl rfl rfl ?_
        refine asg rfl rfl ?_
        refine nl ?_
        refine rg ?_
        refine mv rfl rfl ?_
        refine mv rfl rfl ?_
        have ok192 := oek2.get 3 (by decide) (has_yes (show (4 : Int) ≤ v by omega) (show ((-1) : Int) < 0 ∨ v ≤ (-1) by omega))
        have e_45 : B_k2 ++ plainTo (zipped fs_sFetchResponseTopicPartition v false ((lT (((lT (T.at 3))[k1]).at 2))[k2])) v 3 ++ (fixed ((((lT (((lT (T.at 3))[k1]).at 2))[k2]).at 3).n) 8) = B_k2 ++ plainTo (zipped fs_sFetchResponseTopicPartition v false ((lT (((lT (T.at 3))[k1]).at 2))[k2])) v 4 := fold_yes (fs := fs_sFetchResponseTopicPartition) (v := v) (flex := false) (t := ((lT (((lT (T.at 3))[k1]).at 2))[k2])) (B := B_k2) 3 (by decide) (by decide) (has_yes (show (4 : Int) ≤ v by omega) (show ((-1) : Int) < 0 ∨ v ≤ (-1) by omega)) ((FB_int (f := (fs_sFetchResponseTopicPartition[3]'(by decide))) (by decide) (by decide)).trans rfl)
        have hs192 := fold_size e_45 (by decide) hBk2
        refine cl rfl rfl rfl (OutK.cast (k_AppendInt64 (u := (((lT (((lT (T.at 3))[k1]).at 2))[k2]).at 3).n) r183 hs192) e_45) rfl (fun v_ H1 L1 hle hR => ?_)
        obtain ⟨rfl, a192, c192, N192, rfl, rfl, h192⟩ := hR
        have r192 := h192.1
        refine asg rfl rfl ?_
        refine nN ?_
        refine fun a_ w_ hA hw => ⟨_, _, _, hA.sub ?_, ler, hw, _, _, _, _, rfl, rfl, r192, rfl⟩
        exact (.of ⟨rfl, rfl, rfl, rfl, rfl, rfl, rfl, rfl, rfl, rfl, rfl, rfl, trivial⟩)
       ·
        refine skN ?_
        have es_46 : plainTo (zipped fs_sFetchResponseTopicPartition v false ((lT (((lT (T.at 3))[k1]).at 2))[k2])) v 4 = plainTo (zipped fs_sFetchResponseTopicPartition v false ((lT (((lT (T.at 3))[k1]).at 2))[k2])) v 3 := (piece_no2 (fs := fs_sFetchResponseTopicPartition) (v := v) (flex := false) (t := ((lT (((lT (T.at 3))[k1]).at 2))[k2])) (k := 3) (by decide) (has_no (show v < (4 : Int) ∨ ((0 : Int) ≤ (-1) ∧ (-1) < v) by omega)))
        have eX_47 : B_k2 ++ plainTo (zipped fs_sFetchResponseTopicPartition v false ((lT (((lT (T.at 3))[k1]).at 2))[k2])) v 3 = B_k2 ++ plainTo (zipped fs_sFetchResponseTopicPartition v false ((lT (((lT (T.at 3))[k1]).at 2))[k2])) v 4 := by rw [es_46]
        refine fun a_ w_ hA hw => ⟨_, _, _, hA.sub ?_, ler, hw, _, _, _, _, rfl, rfl, (by rw [← eX_47]; exact r183), (by rw [← eX_47])⟩
        exact (.of ⟨rfl, rfl, rfl, rfl, rfl, rfl, rfl, rfl, rfl, rfl, rfl, rfl, trivial⟩)
      ·
       obtain ⟨aj_43, mj_43, cj_43, Nj_43, rfl, rfl, pj0, pj1⟩ := hI
       subst pj1
       have rj_43 := pj0
       refine sq ?_
       refine sr ?_
       refine mv rfl rfl ?_
       refine ge rfl rfl rfl ?_
       refine nl ?_
       refine cutT (fun l' H' L' => ∃ (aj_48 : Option Addr), ∃ (mj_48 : Nat), ∃ (cj_48 : Nat), ∃ (Nj_48 : Chunk), [(0, .pointer (some ⟨b, 0, none⟩)), (1, .slice aj_48 mj_48 cj_48), (5, .int .i16 v), (6, .bool (decide ((12 : Int) ≤ v))), (10, .slice a3 (lT (T.at 3)).length c3), (12, .pointer (some ⟨b_19, o_20 + k1 * 19, none⟩)), (15, .slice a_k1_2 (lT (((lT (T.at 3))[k1]).at 2)).length c_k1_2), (17, .pointer (some ⟨b_33, o_34 + k2 * 18, none⟩)), (109, .int .i64 ((lT (T.at 3)).length : Int)), (110, .int .i64 (k1 : Int)), (156, .int .i64 ((lT (((lT (T.at 3))[k1]).at 2)).length : Int)), (157, .int .i64 (k2 : Int))] = l' ∧ Nj_48 :: L = L' ∧ Row 5 1 aj_48 mj_48 cj_48 (bytesOf (B_k2 ++ plainTo (zipped fs_sFetchResponseTopicPartition v false ((lT (((lT (T.at 3))[k1]).at 2))[k2])) v 5)) Nj_48 ∧ mj_48 = (B_k2 ++ plainTo (zipped fs_sFetchResponseTopicPartition v false ((lT (((lT (T.at 3))[k1]).at 2))[k2])) v 5).length) ?_ (fun l' H' L' le_49 hI => ?_)
       ·
        refine cd rfl (fun h194 => ?_) (fun h194 => ?_)
        ·
         refine sr ?_
         refine mv rfl rfl ?_
         refine nc rfl rfl ?_
         refine fa F97_4 rfl rfl ?_
         refine ld (Says.fz (hc_39.mono le_44)) Tryz.isAgg2 rfl rfl rfl rfl ?_
         refine asg rfl rfl ?_
         refine nl ?_
         refine rg ?_
         refine mv rfl rfl ?_
         refine mv rfl rfl ?_
         have ok201 := oek2.get 4 (by decide) (has_yes (show (5 : Int) ≤ v by omega) (show ((-1) : Int) < 0 ∨ v ≤ (-1) by omega))
         have e_50 : B_k2 ++ plainTo (zipped fs_sFetchResponseTopicPartition v false ((lT (((lT (T.at 3))[k1]).at 2))[k2])) v 4 ++ (fixed ((((lT (((lT (T.at 3))[k1]).at 2))[k2]).at 4).n) 8) = B_k2 ++ plainTo (zipped fs_sFetchResponseTopicPartition v false ((lT (((lT (T.at 3))[k1]).at 2))[k2])) v 5 := fold_yes (fs := fs_sFetchResponseTopicPartition) (v := v) (flex := false) (t := ((lT (((lT (T.at 3))[k1]).at 2))[k2])) (B := B_k2) 4 (by decide) (by decide) (has_yes (show (5 : Int) ≤ v by omega) (show ((-1) : Int) < 0 ∨ v ≤ (-1) by omega)) ((FB_int (f := (fs_sFetchResponseTopicPartition[4]'(by decide))) (by decide) (by decide)).trans rfl)
         have hs201 := fold_size e_50 (by decide) hBk2
         refine cl rfl rfl rfl (OutK.cast (k_AppendInt64 (u := (((lT (((lT (T.at 3))[k1]).at 2))[k2]).at 4).n) rj_43 hs201) e_50) rfl (fun v_ H1 L1 hle hR => ?_)
         obtain ⟨rfl, a201, c201, N201, rfl, rfl, h201⟩ := hR
         have r201 := h201.1
         refine asg rfl rfl ?_
         refine nN ?_
         refine fun a_ w_ hA hw => ⟨_, _, _, hA.sub ?_, ler, hw, _, _, _, _, rfl, rfl, r201, rfl⟩
         exact (.of ⟨rfl, rfl, rfl, rfl, rfl, rfl, rfl, rfl, rfl, rfl, rfl, rfl, trivial⟩)
        ·
         refine skN ?_
         have es_51 : plainTo (zipped fs_sFetchResponseTopicPartition v false ((lT (((lT (T.at 3))[k1]).at 2))[k2])) v 5 = plainTo (zipped fs_sFetchResponseTopicPartition v false ((lT (((lT (T.at 3))[k1]).at 2))[k2])) v 4 := (piece_no2 (fs := fs_sFetchResponseTopicPartition) (v := v) (flex := false) (t := ((lT (((lT (T.at 3))[k1]).at 2))[k2])) (k := 4) (by decide) (has_no (show v < (5 : Int) ∨ ((0 : Int) ≤ (-1) ∧ (-1) < v) by omega)))
         have eX_52 : B_k2 ++ plainTo (zipped fs_sFetchResponseTopicPartition v false ((lT (((lT (T.at 3))[k1]).at 2))[k2])) v 4 = B_k2 ++ plainTo (zipped fs_sFetchResponseTopicPartition v false ((lT (((lT (T.at 3))[k1]).at 2))[k2])) v 5 := by rw [es_51]
         refine fun a_ w_ hA hw => ⟨_, _, _, hA.sub ?_, ler, hw, _, _, _, _, rfl, rfl, (by rw [← eX_52]; exact rj_43), (by rw [← eX_52])⟩
         exact (.of ⟨rfl, rfl, rfl, rfl, rfl, rfl, rfl, rfl, rfl, rfl, rfl, rfl, trivial⟩)
       ·
        obtain ⟨aj_48, mj_48, cj_48, Nj_48, rfl, rfl, pj0, pj1⟩ := hI
        subst pj1
        have rj_48 := pj0
        refine sq ?_
        refine sr ?_
        refine mv rfl rfl ?_
        refine ge rfl rfl rfl ?_
        refine nl ?_
        refine cutT (fun l' H' L' => ∃ (aj_53 : Option Addr), ∃ (mj_53 : Nat), ∃ (cj_53 : Nat), ∃ (Nj_53 : Chunk), [(0, .pointer (some ⟨b, 0, none⟩)), (1, .slice aj_53 mj_53 cj_53), (5, .int .i16 v), (6, .bool (decide ((12 : Int) ≤ v))), (10, .slice a3 (lT (T.at 3)).length c3), (12, .pointer (some ⟨b_19, o_20 + k1 * 19, none⟩)), (15, .slice a_k1_2 (lT (((lT (T.at 3))[k1]).at 2)).length c_k1_2), (17, .pointer (some ⟨b_33, o_34 + k2 * 18, none⟩)), (109, .int .i64 ((lT (T.at 3)).length : Int)), (110, .int .i64 (k1 : Int)), (156, .int .i64 ((lT (((lT (T.at 3))[k1]).at 2)).length : Int)), (157, .int .i64 (k2 : Int))] = l' ∧ Nj_53 :: L = L' ∧ Row 5 1 aj_53 mj_53 cj_53 (bytesOf (B_k2 ++ plainTo (zipped fs_sFetchResponseTopicPartition v false ((lT (((lT (T.at 3))[k1]).at 2))[k2])) v 9)) Nj_53 ∧ mj_53 = (B_k2 ++ plainTo (zipped fs_sFetchResponseTopicPartition v false ((lT (((lT (T.at 3))[k1]).at 2))[k2])) v 9).length) ?_ (fun l' H' L' le_54 hI => ?_)
        ·
         refine cd rfl (fun h203 => ?_) (fun h203 => ?_)
         ·
          refine sr ?_
          refine mv rfl rfl ?_
          refine nc rfl rfl ?_
          refine fa F97_8 rfl rfl ?_
          refine ld (Says.fz (hc_39.mono (le_44.trans le_49))) Tryz.isAgg95 rfl rfl rfl rfl ?_
          refine asg rfl rfl ?_
          refine nl ?_
          refine sq ?_
          refine sr ?_
          refine mv rfl rfl ?_
          refine nl ?_
          refine cdF rfl (by omega) ?_
          refine rg ?_
          refine mv rfl rfl ?_
          refine mv rfl rfl ?_
          refine ls Tryz.runUnderlying95 rfl rfl ?_
          refine mv rfl rfl ?_
          refine esn Tryz.underlying95 rfl rfl ?_
          have es_55 : plainTo (zipped fs_sFetchResponseTopicPartition v false ((lT (((lT (T.at 3))[k1]).at 2))[k2])) v 8 = plainTo (zipped fs_sFetchResponseTopicPartition v false ((lT (((lT (T.at 3))[k1]).at 2))[k2])) v 5 := (((piece_no1 (fs := fs_sFetchResponseTopicPartition) (v := v) (flex := false) (t := ((lT (((lT (T.at 3))[k1]).at 2))[k2])) (k := 7) (by decide) (by decide)).trans (piece_no1 (fs := fs_sFetchResponseTopicPartition) (v := v) (flex := false) (t := ((lT (((lT (T.at 3))[k1]).at 2))[k2])) (k := 6) (by decide) (by decide))).trans (piece_no1 (fs := fs_sFetchResponseTopicPartition) (v := v) (flex := false) (t := ((lT (((lT (T.at 3))[k1]).at 2))[k2])) (k := 5) (by decide) (by decide)))
          have eX_56 : B_k2 ++ plainTo (zipped fs_sFetchResponseTopicPartition v false ((lT (((lT (T.at 3))[k1]).at 2))[k2])) v 5 = B_k2 ++ plainTo (zipped fs_sFetchResponseTopicPartition v false ((lT (((lT (T.at 3))[k1]).at 2))[k2])) v 8 := by rw [es_55]
          have rx_57 := rj_48
          rw [eX_56] at rx_57 ⊢
          have ok220 := oek2.get 8 (by decide) (has_yes (show (4 : Int) ≤ v by omega) (show ((-1) : Int) < 0 ∨ v ≤ (-1) by omega))
          have ll220 := lT_len (ok220.len rfl)
          have e_58 : B_k2 ++ plainTo (zipped fs_sFetchResponseTopicPartition v false ((lT (((lT (T.at 3))[k1]).at 2))[k2])) v 8 ++ (counted false a_k2_8.isNone (lT (((lT (((lT (T.at 3))[k1]).at 2))[k2]).at 8)).length 4 ++ (lT (((lT (((lT (T.at 3))[k1]).at 2))[k2]).at 8)).flatMap (GOf (fs_sFetchResponseTopicPartition[8]'(by decide)) v false)) = B_k2 ++ plainTo (zipped fs_sFetchResponseTopicPartition v false ((lT (((lT (T.at 3))[k1]).at 2))[k2])) v 9 := fold_yes (fs := fs_sFetchResponseTopicPartition) (v := v) (flex := false) (t := ((lT (((lT (T.at 3))[k1]).at 2))[k2])) (B := B_k2) 8 (by decide) (by decide) (has_yes (show (4 : Int) ≤ v by omega) (show ((-1) : Int) < 0 ∨ v ≤ (-1) by omega)) (by rw [(hf_k2_3.mono At_FetchResponseTopicPartitionAbortedTransaction.mono (le_44.trans le_49)).nul]; exact FB_list (f := (fs_sFetchResponseTopicPartition[8]'(by decide))) (by decide) (by decide) (by decide) ok220)
          have hs220 := fold_size e_58 (by decide) hBk2
          have hc220 : (B_k2 ++ plainTo (zipped fs_sFetchResponseTopicPartition v false ((lT (((lT (T.at 3))[k1]).at 2))[k2])) v 8).length + (counted false a_k2_8.isNone (lT (((lT (((lT (T.at 3))[k1]).at 2))[k2]).at 8)).length 4).length ≤ LIM := by have h := hs220; simp only [List.length_append] at h ⊢; omega
          refine cl rfl rfl rfl (OutK.cast (k_AppendNullableArrayLen (n := (lT (((lT (((lT (T.at 3))[k1]).at 2))[k2]).at 8)).length) (b := a_k2_8.isNone) (by omega) rx_57 hc220) (show _ = B_k2 ++ plainTo (zipped fs_sFetchResponseTopicPartition v false ((lT (((lT (T.at 3))[k1]).at 2))[k2])) v 8 ++ (counted false a_k2_8.isNone (lT (((lT (((lT (T.at 3))[k1]).at 2))[k2]).at 8)).length 4) from rfl)) rfl (fun v_ H1 L1 hle hR => ?_)
          obtain ⟨rfl, a220, c220, N220, rfl, rfl, h220⟩ := hR
          have r220 := h220.1
          refine asg rfl rfl ?_
          refine nl ?_
          refine sr ?_
          refine mv rfl rfl ?_
          refine ls Tryz.runUnderlying95 rfl rfl ?_
          refine mv rfl rfl ?_
          refine nl ?_
          refine fr ((lT (((lT (((lT (T.at 3))[k1]).at 2))[k2]).at 8)).length) (fun k3 l' H' L' => ∃ (a_k3 : Option Addr), ∃ (m_k3 : Nat), ∃ (c_k3 : Nat), ∃ (N_k3 : Chunk), [(0, .pointer (some ⟨b, 0, none⟩)), (1, .slice a_k3 m_k3 c_k3), (5, .int .i16 v), (6, .bool (decide ((12 : Int) ≤ v))), (10, .slice a3 (lT (T.at 3)).length c3), (12, .pointer (some ⟨b_19, o_20 + k1 * 19, none⟩)), (15, .slice a_k1_2 (lT (((lT (T.at 3))[k1]).at 2)).length c_k1_2), (17, .pointer (some ⟨b_33, o_34 + k2 * 18, none⟩)), (23, .slice a_k2_8 (lT (((lT (((lT (T.at 3))[k1]).at 2))[k2]).at 8)).length c_k2_8), (109, .int .i64 ((lT (T.at 3)).length : Int)), (110, .int .i64 (k1 : Int)), (156, .int .i64 ((lT (((lT (T.at 3))[k1]).at 2)).length : Int)), (157, .int .i64 (k2 : Int)), (222, .int .i64 ((lT (((lT (((lT (T.at 3))[k1]).at 2))[k2]).at 8)).length : Int))] = l' ∧ N_k3 :: L = L' ∧ Row 5 1 a_k3 m_k3 c_k3 (bytesOf (B_k2 ++ plainTo (zipped fs_sFetchResponseTopicPartition v false ((lT (((lT (T.at 3))[k1]).at 2))[k2])) v 8 ++ (counted false a_k2_8.isNone (lT (((lT (((lT (T.at 3))[k1]).at 2))[k2]).at 8)).length 4) ++ ((lT (((lT (((lT (T.at 3))[k1]).at 2))[k2]).at 8)).take k3).flatMap (GOf (fs_sFetchResponseTopicPartition[8]'(by decide)) v false))) N_k3 ∧ m_k3 = (B_k2 ++ plainTo (zipped fs_sFetchResponseTopicPartition v false ((lT (((lT (T.at 3))[k1]).at 2))[k2])) v 8 ++ (counted false a_k2_8.isNone (lT (((lT (((lT (T.at 3))[k1]).at 2))[k2]).at 8)).length 4) ++ ((lT (((lT (((lT (T.at 3))[k1]).at 2))[k2]).at 8)).take k3).flatMap (GOf (fs_sFetchResponseTopicPartition[8]'(by decide)) v false)).length) [(0, .pointer (some ⟨b, 0, none⟩)), (1, .slice _ _ _), (5, .int .i16 v), (6, .bool (decide ((12 : Int) ≤ v))), (10, .slice a3 (lT (T.at 3)).length c3), (12, .pointer (some ⟨b_19, o_20 + k1 * 19, none⟩)), (15, .slice a_k1_2 (lT (((lT (T.at 3))[k1]).at 2)).length c_k1_2), (17, .pointer (some ⟨b_33, o_34 + k2 * 18, none⟩)), (23, .slice a_k2_8 (lT (((lT (((lT (T.at 3))[k1]).at 2))[k2]).at 8)).length c_k2_8), (109, .int .i64 ((lT (T.at 3)).length : Int)), (110, .int .i64 (k1 : Int)), (156, .int .i64 ((lT (((lT (T.at 3))[k1]).at 2)).length : Int)), (157, .int .i64 (k2 : Int)), (222, .int .i64 ((lT (((lT (((lT (T.at 3))[k1]).at 2))[k2]).at 8)).length : Int))] (fun k3 l' H' L' h => ?_) (by omega) rfl (.of ⟨rfl, rfl, rfl, rfl, rfl, rfl, rfl, rfl, rfl, rfl, rfl, rfl, rfl, rfl, trivial⟩) ⟨_, _, _, _, rfl, rfl, (by rw [List.take_zero, List.flatMap_nil, List.append_nil]; exact r220), (by rw [List.take_zero, List.flatMap_nil, List.append_nil])⟩ rfl rfl rfl rfl rfl (fun k3 l' H' L' hk3 le_59 hI => ?_) (fun l' H' L' le_60 hI => ?_)
          · obtain ⟨a_k3, m_k3, c_k3, N_k3, rfl, _⟩ := h; exact ⟨rfl, rfl, rfl, rfl⟩
          ·
           obtain ⟨a_k3, m_k3, c_k3, N_k3, rfl, rfl, pk30, pk31⟩ := hI
           subst pk31
           refine sr ?_
           refine mv rfl rfl ?_
           refine asg rfl rfl ?_
           refine nl ?_
           refine sr ?_
           refine mv rfl rfl ?_
           refine mv rfl rfl ?_
           obtain ⟨b_61, o_62, e_63, g_64⟩ := (hf_k2_3.mono At_FetchResponseTopicPartitionAbortedTransaction.mono (le_44.trans (le_49.trans le_59))).rows.at_ (ne_nil_of_lt hk3)
           obtain ⟨cs_65, hA_66, hc_67⟩ := g_64 k3 hk3
           refine ix2 Tryz.runUnderlying95 Tryz.sizeOf102 rfl e_63 rfl rfl hk3 rfl ?_
           obtain ⟨m_k3_t, rfl, hf_k3_0⟩ := hA_66
           have oek3 := (ok220.el rfl _ (lT_mem (List.getElem_mem hk3))).2 rfl
           obtain ⟨B_k3, hdk3⟩ : ∃ z : List UInt8, z = B_k2 ++ plainTo (zipped fs_sFetchResponseTopicPartition v false ((lT (((lT (T.at 3))[k1]).at 2))[k2])) v 8 ++ (counted false a_k2_8.isNone (lT (((lT (((lT (T.at 3))[k1]).at 2))[k2]).at 8)).length 4) ++ ((lT (((lT (((lT (T.at 3))[k1]).at 2))[k2]).at 8)).take k3).flatMap (GOf (fs_sFetchResponseTopicPartition[8]'(by decide)) v false) := ⟨_, rfl⟩
           have rbk3 := pk30
           rw [← hdk3] at rbk3 ⊢
           have hBk3 : B_k3.length + (partB fs_sFetchResponseTopicPartitionAbortedTransaction v false ((lT (((lT (((lT (T.at 3))[k1]).at 2))[k2]).at 8))[k3])).length ≤ LIM := by rw [hdk3]; exact el_size hs220 hk3 (GOf_part (by decide) _)
           refine asg rfl rfl ?_
           refine nl ?_
           refine sq ?_
           refine sr ?_
           refine mv rfl rfl ?_
           refine nc rfl rfl ?_
           refine fa F102_0 rfl rfl ?_
           refine ld (Says.fz hc_67) Tryz.isAgg2 rfl (Nat.add_zero _).symm rfl rfl ?_
           refine asg rfl rfl ?_
           refine nl ?_
           refine rg ?_
           refine mv rfl rfl ?_
           refine mv rfl rfl ?_
           have ok235 := oek3.get 0 (by decide) (has_yes (show (0 : Int) ≤ v by omega) (show ((-1) : Int) < 0 ∨ v ≤ (-1) by omega))
           have e_68 : B_k3 ++ (fixed ((((lT (((lT (((lT (T.at 3))[k1]).at 2))[k2]).at 8))[k3]).at 0).n) 8) = B_k3 ++ plainTo (zipped fs_sFetchResponseTopicPartitionAbortedTransaction v false ((lT (((lT (((lT (T.at 3))[k1]).at 2))[k2]).at 8))[k3])) v 1 := fold_first (fs := fs_sFetchResponseTopicPartitionAbortedTransaction) (v := v) (flex := false) (t := ((lT (((lT (((lT (T.at 3))[k1]).at 2))[k2]).at 8))[k3])) (B := B_k3) 0 rfl (by decide) (by decide) (has_yes (show (0 : Int) ≤ v by omega) (show ((-1) : Int) < 0 ∨ v ≤ (-1) by omega)) ((FB_int (f := (fs_sFetchResponseTopicPartitionAbortedTransaction[0]'(by decide))) (by decide) (by decide)).trans rfl)
           have hs235 := fold_size e_68 (by decide) hBk3
           refine cl rfl rfl rfl (OutK.cast (k_AppendInt64 (u := (((lT (((lT (((lT (T.at 3))[k1]).at 2))[k2]).at 8))[k3]).at 0).n) rbk3 hs235) e_68) rfl (fun v_ H1 L1 hle hR => ?_)
           obtain ⟨rfl, a235, c235, N235, rfl, rfl, h235⟩ := hR
           have r235 := h235.1
           refine asg rfl rfl ?_
           refine nl ?_
           refine sq ?_
           refine sr ?_
           refine mv rfl rfl ?_
           refine nc rfl rfl ?_
           refine fa F102_1 rfl rfl ?_
           refine ld (Says.fz hc_67) Tryz.isAgg2 rfl rfl rfl rfl ?_
           refine asg rfl rfl ?_
           refine nl ?_
           refine rg ?_
           refine mv rfl rfl ?_
           refine mv rfl rfl ?_
           have ok242 := oek3.get 1 (by decide) (has_yes (show (0 : Int) ≤ v by omega) (show ((-1) : Int) < 0 ∨ v ≤ (-1) by omega))
           have e_69 : B_k3 ++ plainTo (zipped fs_sFetchResponseTopicPartitionAbortedTransaction v false ((lT (((lT (((lT (T.at 3))[k1]).at 2))[k2]).at 8))[k3])) v 1 ++ (fixed ((((lT (((lT (((lT (T.at 3))[k1]).at 2))[k2]).at 8))[k3]).at 1).n) 8) = B_k3 ++ plainTo (zipped fs_sFetchResponseTopicPartitionAbortedTransaction v false ((lT (((lT (((lT (T.at 3))[k1]).at 2))[k2]).at 8))[k3])) v 2 := fold_yes (fs := fs_sFetchResponseTopicPartitionAbortedTransaction) (v := v) (flex := false) (t := ((lT (((lT (((lT (T.at 3))[k1]).at 2))[k2]).at 8))[k3])) (B := B_k3) 1 (by decide) (by decide) (has_yes (show (0 : Int) ≤ v by omega) (show ((-1) : Int) < 0 ∨ v ≤ (-1) by omega)) ((FB_int (f := (fs_sFetchResponseTopicPartitionAbortedTransaction[1]'(by decide))) (by decide) (by decide)).trans rfl)
           have hs242 := fold_size e_69 (by decide) hBk3
           refine cl rfl rfl rfl (OutK.cast (k_AppendInt64 (u := (((lT (((lT (((lT (T.at 3))[k1]).at 2))[k2]).at 8))[k3]).at 1).n) r235 hs242) e_69) rfl (fun v_ H1 L1 hle hR => ?_)
           obtain ⟨rfl, a242, c242, N242, rfl, rfl, h242⟩ := hR
           have r242 := h242.1
           refine asg rfl rfl ?_
           refine nl ?_
           refine sr ?_
           refine mv rfl rfl ?_
           refine nl ?_
           refine cdF rfl (by omega) ?_
           refine skN ?_
           refine Nb ?_
           have eP_70 : B_k3 ++ plainTo (zipped fs_sFetchResponseTopicPartitionAbortedTransaction v false ((lT (((lT (((lT (T.at 3))[k1]).at 2))[k2]).at 8))[k3])) v 2 = B_k3 ++ partB fs_sFetchResponseTopicPartitionAbortedTransaction v false ((lT (((lT (((lT (T.at 3))[k1]).at 2))[k2]).at 8))[k3]) := by rw [partB_false]; rfl
           have rp_71 := r242
           rw [eP_70] at rp_71 ⊢
           have ee_72 : B_k3 ++ partB fs_sFetchResponseTopicPartitionAbortedTransaction v false ((lT (((lT (((lT (T.at 3))[k1]).at 2))[k2]).at 8))[k3]) = B_k2 ++ plainTo (zipped fs_sFetchResponseTopicPartition v false ((lT (((lT (T.at 3))[k1]).at 2))[k2])) v 8 ++ (counted false a_k2_8.isNone (lT (((lT (((lT (T.at 3))[k1]).at 2))[k2]).at 8)).length 4) ++ ((lT (((lT (((lT (T.at 3))[k1]).at 2))[k2]).at 8)).take (k3 + 1)).flatMap (GOf (fs_sFetchResponseTopicPartition[8]'(by decide)) v false) := by rw [hdk3]; exact el_end (B0 := B_k2 ++ plainTo (zipped fs_sFetchResponseTopicPartition v false ((lT (((lT (T.at 3))[k1]).at 2))[k2])) v 8 ++ (counted false a_k2_8.isNone (lT (((lT (((lT (T.at 3))[k1]).at 2))[k2]).at 8)).length 4)) (G := (GOf (fs_sFetchResponseTopicPartition[8]'(by decide)) v false)) hk3 (GOf_part (by decide) _)
           refine fun a_ w_ hA hw => ⟨_, _, _, hA.sub ?_, le_59, hw, _, rfl, _, _, _, _, rfl, rfl, (by rw [← ee_72]; exact rp_71), (by rw [← ee_72])⟩
           exact (.of ⟨rfl, rfl, rfl, rfl, rfl, rfl, rfl, rfl, rfl, rfl, rfl, rfl, rfl, rfl, rfl, trivial⟩)
          ·
           obtain ⟨a_k3, m_k3, c_k3, N_k3, rfl, rfl, pk30, pk31⟩ := hI
           refine toNn ?_
           have eL220 : B_k2 ++ plainTo (zipped fs_sFetchResponseTopicPartition v false ((lT (((lT (T.at 3))[k1]).at 2))[k2])) v 8 ++ (counted false a_k2_8.isNone (lT (((lT (((lT (T.at 3))[k1]).at 2))[k2]).at 8)).length 4) ++ ((lT (((lT (((lT (T.at 3))[k1]).at 2))[k2]).at 8)).take (lT (((lT (((lT (T.at 3))[k1]).at 2))[k2]).at 8)).length).flatMap (GOf (fs_sFetchResponseTopicPartition[8]'(by decide)) v false) = B_k2 ++ plainTo (zipped fs_sFetchResponseTopicPartition v false ((lT (((lT (T.at 3))[k1]).at 2))[k2])) v 9 := by rw [List.take_length, List.append_assoc]; exact e_58
           rw [eL220] at pk30 pk31
           subst pk31
           refine fun a_ w_ hA hw => ⟨_, _, _, hA.sub ?_, le_60, hw, _, _, _, _, rfl, rfl, pk30, rfl⟩
           exact (.of ⟨rfl, rfl, rfl, rfl, rfl, rfl, rfl, rfl, rfl, rfl, rfl, rfl, trivial⟩)
         ·
          refine skN ?_
          have es_73 : plainTo (zipped fs_sFetchResponseTopicPartition v false ((lT (((lT (T.at 3))[k1]).at 2))[k2])) v 9 = plainTo (zipped fs_sFetchResponseTopicPartition v false ((lT (((lT (T.at 3))[k1]).at 2))[k2])) v 5 := ((((piece_no2 (fs := fs_sFetchResponseTopicPartition) (v := v) (flex := false) (t := ((lT (((lT (T.at 3))[k1]).at 2))[k2])) (k := 8) (by decide) (has_no (show v < (4 : Int) ∨ ((0 : Int) ≤ (-1) ∧ (-1) < v) by omega))).trans (piece_no1 (fs := fs_sFetchResponseTopicPartition) (v := v) (flex := false) (t := ((lT (((lT (T.at 3))[k1]).at 2))[k2])) (k := 7) (by decide) (by decide))).trans (piece_no1 (fs := fs_sFetchResponseTopicPartition) (v := v) (flex := false) (t := ((lT (((lT (T.at 3))[k1]).at 2))[k2])) (k := 6) (by decide) (by decide))).trans (piece_no1 (fs := fs_sFetchResponseTopicPartition) (v := v) (flex := false) (t := ((lT (((lT (T.at 3))[k1]).at 2))[k2])) (k := 5) (by decide) (by decide)))
          have eX_74 : B_k2 ++ plainTo (zipped fs_sFetchResponseTopicPartition v false ((lT (((lT (T.at 3))[k1]).at 2))[k2])) v 5 = B_k2 ++ plainTo (zipped fs_sFetchResponseTopicPartition v false ((lT (((lT (T.at 3))[k1]).at 2))[k2])) v 9 := by rw [es_73]
          refine fun a_ w_ hA hw => ⟨_, _, _, hA.sub ?_, ler, hw, _, _, _, _, rfl, rfl, (by rw [← eX_74]; exact rj_48), (by rw [← eX_74])⟩
          exact (.of ⟨rfl, rfl, rfl, rfl, rfl, rfl, rfl, rfl, rfl, rfl, rfl, rfl, trivial⟩)
        ·
         obtain ⟨aj_53, mj_53, cj_53, Nj_53, rfl, rfl, pj0, pj1⟩ := hI
         subst pj1
         have rj_53 := pj0
         refine sq ?_
         refine sr ?_
         refine mv rfl rfl ?_
         refine ge rfl rfl rfl ?_
         refine nl ?_
         refine cutT (fun l' H' L' => ∃ (aj_75 : Option Addr), ∃ (mj_75 : Nat), ∃ (cj_75 : Nat), ∃ (Nj_75 : Chunk), [(0, .pointer (some ⟨b, 0, none⟩)), (1, .slice aj_75 mj_75 cj_75), (5, .int .i16 v), (6, .bool (decide ((12 : Int) ≤ v))), (10, .slice a3 (lT (T.at 3)).length c3), (12, .pointer (some ⟨b_19, o_20 + k1 * 19, none⟩)), (15, .slice a_k1_2 (lT (((lT (T.at 3))[k1]).at 2)).length c_k1_2), (17, .pointer (some ⟨b_33, o_34 + k2 * 18, none⟩)), (109, .int .i64 ((lT (T.at 3)).length : Int)), (110, .int .i64 (k1 : Int)), (156, .int .i64 ((lT (((lT (T.at 3))[k1]).at 2)).length : Int)), (157, .int .i64 (k2 : Int))] = l' ∧ Nj_75 :: L = L' ∧ Row 5 1 aj_75 mj_75 cj_75 (bytesOf (B_k2 ++ plainTo (zipped fs_sFetchResponseTopicPartition v false ((lT (((lT (T.at 3))[k1]).at 2))[k2])) v 10)) Nj_75 ∧ mj_75 = (B_k2 ++ plainTo (zipped fs_sFetchResponseTopicPartition v false ((lT (((lT (T.at 3))[k1]).at 2))[k2])) v 10).length) ?_ (fun l' H' L' le_76 hI => ?_)
         ·
          refine cd rfl (fun h259 => ?_) (fun h259 => ?_)
          ·
           refine sr ?_
           refine mv rfl rfl ?_
           refine nc rfl rfl ?_
           refine fa F97_9 rfl rfl ?_
           refine ld (Says.fz (hc_39.mono (le_44.trans (le_49.trans le_54)))) Tryz.isAgg21 rfl rfl rfl rfl ?_
           refine asg rfl rfl ?_
           refine nl ?_
           refine rg ?_
           refine mv rfl rfl ?_
           refine mv rfl rfl ?_
           have ok266 := oek2.get 9 (by decide) (has_yes (show (11 : Int) ≤ v by omega) (show ((-1) : Int) < 0 ∨ v ≤ (-1) by omega))
           have e_77 : B_k2 ++ plainTo (zipped fs_sFetchResponseTopicPartition v false ((lT (((lT (T.at 3))[k1]).at 2))[k2])) v 9 ++ (fixed (IntKind.i32.wrap (((lT (((lT (T.at 3))[k1]).at 2))[k2]).at 9).n) 4) = B_k2 ++ plainTo (zipped fs_sFetchResponseTopicPartition v false ((lT (((lT (T.at 3))[k1]).at 2))[k2])) v 10 := fold_yes (fs := fs_sFetchResponseTopicPartition) (v := v) (flex := false) (t := ((lT (((lT (T.at 3))[k1]).at 2))[k2])) (B := B_k2) 9 (by decide) (by decide) (has_yes (show (11 : Int) ≤ v by omega) (show ((-1) : Int) < 0 ∨ v ≤ (-1) by omega)) ((FB_int (f := (fs_sFetchResponseTopicPartition[9]'(by decide))) (by decide) (by decide)).trans (fixed_i32 _).symm)
           have hs266 := fold_size e_77 (by decide) hBk2
           refine cl rfl rfl rfl (OutK.cast (k_AppendInt32 (u := IntKind.i32.wrap (((lT (((lT (T.at 3))[k1]).at 2))[k2]).at 9).n) rj_53 hs266) e_77) rfl (fun v_ H1 L1 hle hR => ?_)
           obtain ⟨rfl, a266, c266, N266, rfl, rfl, h266⟩ := hR
           have r266 := h266.1
           refine asg rfl rfl ?_
           refine nN ?_
           refine fun a_ w_ hA hw => ⟨_, _, _, hA.sub ?_, ler, hw, _, _, _, _, rfl, rfl, r266, rfl⟩
           exact (.of ⟨rfl, rfl, rfl, rfl, rfl, rfl, rfl, rfl, rfl, rfl, rfl, rfl, trivial⟩)
          ·
           refine skN ?_
           have es_78 : plainTo (zipped fs_sFetchResponseTopicPartition v false ((lT (((lT (T.at 3))[k1]).at 2))[k2])) v 10 = plainTo (zipped fs_sFetchResponseTopicPartition v false ((lT (((lT (T.at 3))[k1]).at 2))[k2])) v 9 := (piece_no2 (fs := fs_sFetchResponseTopicPartition) (v := v) (flex := false) (t := ((lT (((lT (T.at 3))[k1]).at 2))[k2])) (k := 9) (by decide) (has_no (show v < (11 : Int) ∨ ((0 : Int) ≤ (-1) ∧ (-1) < v) by omega)))
           have eX_79 : B_k2 ++ plainTo (zipped fs_sFetchResponseTopicPartition v false ((lT (((lT (T.at 3))[k1]).at 2))[k2])) v 9 = B_k2 ++ plainTo (zipped fs_sFetchResponseTopicPartition v false ((lT (((lT (T.at 3))[k1]).at 2))[k2])) v 10 := by rw [es_78]
           refine fun a_ w_ hA hw => ⟨_, _, _, hA.sub ?_, ler, hw, _, _, _, _, rfl, rfl, (by rw [← eX_79]; exact rj_53), (by rw [← eX_79])⟩
           exact (.of ⟨rfl, rfl, rfl, rfl, rfl, rfl, rfl, rfl, rfl, rfl, rfl, rfl, trivial⟩)
         ·
          obtain ⟨aj_75, mj_75, cj_75, Nj_75, rfl, rfl, pj0, pj1⟩ := hI
          subst pj1
          have rj_75 := pj0
          refine sq ?_
          refine sr ?_
          refine mv rfl rfl ?_
          refine nc rfl rfl ?_
          refine fa F97_10 rfl rfl ?_
          refine ld (Says.fz (hc_39.mono (le_44.trans (le_49.trans (le_54.trans le_76))))) Tryz.isAgg22 rfl rfl rfl rfl ?_
          refine asg rfl rfl ?_
          refine nl ?_
          refine sr ?_
          refine mv rfl rfl ?_
          refine nl ?_
          refine cdF rfl (by omega) ?_
          refine rg ?_
          refine mv rfl rfl ?_
          refine mv rfl rfl ?_
          have ok277 := oek2.get 10 (by decide) (has_yes (show (0 : Int) ≤ v by omega) (show ((-1) : Int) < 0 ∨ v ≤ (-1) by omega))
          have e_80 : B_k2 ++ plainTo (zipped fs_sFetchResponseTopicPartition v false ((lT (((lT (T.at 3))[k1]).at 2))[k2])) v 10 ++ (counted false (((lT (((lT (T.at 3))[k1]).at 2))[k2]).at 10).nul (sT (((lT (((lT (T.at 3))[k1]).at 2))[k2]).at 10)).length 4 ++ sT (((lT (((lT (T.at 3))[k1]).at 2))[k2]).at 10)) = B_k2 ++ plainTo (zipped fs_sFetchResponseTopicPartition v false ((lT (((lT (T.at 3))[k1]).at 2))[k2])) v 11 := fold_yes (fs := fs_sFetchResponseTopicPartition) (v := v) (flex := false) (t := ((lT (((lT (T.at 3))[k1]).at 2))[k2])) (B := B_k2) 10 (by decide) (by decide) (has_yes (show (0 : Int) ≤ v by omega) (show ((-1) : Int) < 0 ∨ v ≤ (-1) by omega)) (FB_bytes (f := (fs_sFetchResponseTopicPartition[10]'(by decide))) (by decide) (by decide) ok277)
          have hs277 := fold_size e_80 (by decide) hBk2
          refine cl rfl rfl rfl (OutK.cast (k_AppendNullableBytes (hf_k2_4.mono (le_44.trans (le_49.trans (le_54.trans le_76)))) (ok277.s (Or.inr rfl)) rj_75 hs277) e_80) rfl (fun v_ H1 L1 hle hR => ?_)
          obtain ⟨rfl, a277, c277, N277, rfl, rfl, h277⟩ := hR
          have r277 := h277.1
          refine asg rfl rfl ?_
          refine nl ?_
          refine sr ?_
          refine mv rfl rfl ?_
          refine nl ?_
          refine cdF rfl (by omega) ?_
          refine skN ?_
          refine Nb ?_
          have eP_81 : B_k2 ++ plainTo (zipped fs_sFetchResponseTopicPartition v false ((lT (((lT (T.at 3))[k1]).at 2))[k2])) v 11 = B_k2 ++ partB fs_sFetchResponseTopicPartition v false ((lT (((lT (T.at 3))[k1]).at 2))[k2]) := by rw [partB_false]; rfl
          have rp_82 := r277
          rw [eP_81] at rp_82 ⊢
          have ee_83 : B_k2 ++ partB fs_sFetchResponseTopicPartition v false ((lT (((lT (T.at 3))[k1]).at 2))[k2]) = B_k1 ++ plainTo (zipped fs_sFetchResponseTopic v false ((lT (T.at 3))[k1])) v 2 ++ (counted false false (lT (((lT (T.at 3))[k1]).at 2)).length 4) ++ ((lT (((lT (T.at 3))[k1]).at 2)).take (k2 + 1)).flatMap (GOf (fs_sFetchResponseTopic[2]'(by decide)) v false) := by rw [hdk2]; exact el_end (B0 := B_k1 ++ plainTo (zipped fs_sFetchResponseTopic v false ((lT (T.at 3))[k1])) v 2 ++ (counted false false (lT (((lT (T.at 3))[k1]).at 2)).length 4)) (G := (GOf (fs_sFetchResponseTopic[2]'(by decide)) v false)) hk2 (GOf_part (by decide) _)
          refine fun a_ w_ hA hw => ⟨_, _, _, hA.sub ?_, (le_31.trans (le_44.trans (le_49.trans (le_54.trans le_76)))), hw, _, rfl, _, _, _, _, rfl, rfl, (by rw [← ee_83]; exact rp_82), (by rw [← ee_83])⟩
          exact (.of ⟨rfl, rfl, rfl, rfl, rfl, rfl, rfl, rfl, rfl, rfl, rfl, trivial⟩)
     ·
      obtain ⟨a_k2, m_k2, c_k2, N_k2, rfl, rfl, pk20, pk21⟩ := hI
      refine toWp ?_
      have eL154 : B_k1 ++ plainTo (zipped fs_sFetchResponseTopic v false ((lT (T.at 3))[k1])) v 2 ++ (counted false false (lT (((lT (T.at 3))[k1]).at 2)).length 4) ++ ((lT (((lT (T.at 3))[k1]).at 2)).take (lT (((lT (T.at 3))[k1]).at 2)).length).flatMap (GOf (fs_sFetchResponseTopic[2]'(by decide)) v false) = B_k1 ++ plainTo (zipped fs_sFetchResponseTopic v false ((lT (T.at 3))[k1])) v 3 := by rw [List.take_length, List.append_assoc]; exact e_30
      rw [eL154] at pk20 pk21
      subst pk21
      refine sr ?_
      refine mv rfl rfl ?_
      refine nl ?_
      refine cdF rfl (by omega) ?_
      refine skN ?_
      refine Nb ?_
      have eP_84 : B_k1 ++ plainTo (zipped fs_sFetchResponseTopic v false ((lT (T.at 3))[k1])) v 3 = B_k1 ++ partB fs_sFetchResponseTopic v false ((lT (T.at 3))[k1]) := by rw [partB_false]; rfl
      have rp_85 := pk20
      rw [eP_84] at rp_85 ⊢
      have ee_86 : B_k1 ++ partB fs_sFetchResponseTopic v false ((lT (T.at 3))[k1]) = D ++ plainTo (zipped fs_FetchResponse v false T) v 3 ++ (counted false false (lT (T.at 3)).length 4) ++ ((lT (T.at 3)).take (k1 + 1)).flatMap (GOf (fs_FetchResponse[3]'(by decide)) v false) := by rw [hdk1]; exact el_end (B0 := D ++ plainTo (zipped fs_FetchResponse v false T) v 3 ++ (counted false false (lT (T.at 3)).length 4)) (G := (GOf (fs_FetchResponse[3]'(by decide)) v false)) hk1 (GOf_part (by decide) _)
      refine fun a_ w_ hA hw => ⟨_, _, _, hA.sub ?_, (le_17.trans le_32), hw, _, rfl, _, _, _, _, rfl, rfl, (by rw [← ee_86]; exact rp_85), (by rw [← ee_86])⟩
      exact (.of ⟨rfl, rfl, rfl, rfl, rfl, rfl, rfl, trivial⟩)
    ·
     obtain ⟨a_k1, m_k1, c_k1, N_k1, rfl, rfl, pk10, pk11⟩ := hI
     refine toWp ?_
     have eL107 : D ++ plainTo (zipped fs_FetchResponse v false T) v 3 ++ (counted false false (lT (T.at 3)).length 4) ++ ((lT (T.at 3)).take (lT (T.at 3)).length).flatMap (GOf (fs_FetchResponse[3]'(by decide)) v false) = D ++ plainTo (zipped fs_FetchResponse v false T) v 4 := by rw [List.take_length, List.append_assoc]; exact e_16
     rw [eL107] at pk10 pk11
     subst pk11
     refine sq ?_
     refine sr ?_
     refine mv rfl rfl ?_
     refine nl ?_
     refine cdF rfl (by omega) ?_
     refine skt ?_
     refine sr ?_
     refine mv rfl rfl ?_
     refine asg rfl rfl ?_
     refine nl ?_
     have es_87 : plainTo (zipped fs_FetchResponse v false T) v 5 = plainTo (zipped fs_FetchResponse v false T) v 4 := (piece_no1 (fs := fs_FetchResponse) (v := v) (flex := false) (t := T) (k := 4) (by decide) (by decide))
     have eX_88 : D ++ plainTo (zipped fs_FetchResponse v false T) v 4 = D ++ plainTo (zipped fs_FetchResponse v false T) v 5 := by rw [es_87]
     have rx_89 := pk10
     rw [eX_88] at rx_89 ⊢
     have eP_90 : D ++ plainTo (zipped fs_FetchResponse v false T) v 5 = D ++ partB fs_FetchResponse v false T := by rw [partB_false]; rfl
     have rp_91 := rx_89
     rw [eP_90] at rp_91 ⊢
     exact rT rfl rfl (le_2.trans (le_7.trans (le_12.trans le_18))) (fun _ _ h => h) (OutB.of rp_91 rfl)
theorem app_FetchResponse_t {H : Fz} {L : Own} {a : Option Addr} {cap b : Nat} {D : List UInt8} {N : Chunk} {cs : List Value} {T : Tr} {v : Int} (hr : Row 5 1 a D.length cap (bytesOf D) N) (hv : H.at b 0 cs) (hA : At_FetchResponse v H T cs) (hok : OkP fs_FetchResponse v T) (h0 : 12 ≤ v) (h1 : v ≤ 18) (hb : D.length + (partB fs_FetchResponse v true T).length ≤ LIM) (hRan : RanN T) :
  Fn Tryz.prog 20 [.pointer (some ⟨b, 0, none⟩), .slice a D.length cap] H (N :: L) (fun r H' L' => OutB 5 L (D ++ partB fs_FetchResponse v true T) r L') := by
 obtain ⟨a3, c3, a4, c4, mt, rfl, hf0, hf1, hf2⟩ := hA
 refine Fn.mk Tryz.call20 Tryz.func20 rfl Tryz.ntmps20 rfl ?_
 refine sr ?_
 refine asg rfl rfl ?_
 refine nl ?_
 refine sr ?_
 refine mv rfl rfl ?_
 refine nc rfl rfl ?_
 refine fa0 F58_0 rfl rfl ?_
 refine ld (Says.fz hv) Tryz.isAgg45 rfl (Nat.zero_add _).symm rfl rfl ?_
 refine asg rfl rfl ?_
 refine nl ?_
 refine sr ?_
 refine mv rfl rfl ?_
 refine nl ?_
 refine sr ?_
 refine mv rfl rfl ?_
 refine ge rfl rfl rfl ?_
 refine asg rfl rfl ?_
 refine nl ?_
 refine sr ?_
 refine mv rfl rfl ?_
 refine nl ?_
 refine sq ?_
 refine sr ?_
 refine mv rfl rfl ?_
 refine ge rfl rfl rfl ?_
 refine nl ?_
 refine cdT rfl (by omega) ?_
 refine sr ?_
 refine mv rfl rfl ?_
 refine nc rfl rfl ?_
 refine fa0 F58_1 rfl rfl ?_
 refine ld (Says.fz hv) Tryz.isAgg21 rfl (Nat.zero_add _).symm rfl rfl ?_
 refine asg rfl rfl ?_
 refine nl ?_
 refine rg ?_
 refine mv rfl rfl ?_
 refine mv rfl rfl ?_
 have ok76 := hok.get 0 (by decide) (has_yes (show (1 : Int) ≤ v by omega) (show ((-1) : Int) < 0 ∨ v ≤ (-1) by omega))
 have e_1 : D ++ (fixed (IntKind.i32.wrap (T.at 0).n) 4) = D ++ plainTo (zipped fs_FetchResponse v true T) v 1 := fold_first (fs := fs_FetchResponse) (v := v) (flex := true) (t := T) (B := D) 0 rfl (by decide) (by decide) (has_yes (show (1 : Int) ≤ v by omega) (show ((-1) : Int) < 0 ∨ v ≤ (-1) by omega)) ((FB_int (f := (fs_FetchResponse[0]'(by decide))) (by decide) (by decide)).trans (fixed_i32 _).symm)
 have hs76 := fold_size e_1 (by decide) hb
 refine cl rfl rfl rfl (OutK.cast (k_AppendInt32 (u := IntKind.i32.wrap (T.at 0).n) hr hs76) e_1) rfl (fun v_ H1 L1 hle hR => ?_)
 obtain ⟨rfl, a76, c76, N76, rfl, rfl, h76⟩ := hR
 have r76 := h76.1
 refine asg rfl rfl ?_
 refine nl ?_
 refine sq ?_
 refine sr ?_
 refine mv rfl rfl ?_
 refine ge rfl rfl rfl ?_
 refine nl ?_
 refine cdT rfl (by omega) ?_
 refine sr ?_
 refine mv rfl rfl ?_
 refine nc rfl rfl ?_
 refine fa0 F58_2 rfl rfl ?_
 refine ld (Says.fz hv) Tryz.isAgg45 rfl (Nat.zero_add _).symm rfl rfl ?_
 refine asg rfl rfl ?_
 refine nl ?_
 refine rg ?_
 refine mv rfl rfl ?_
 refine mv rfl rfl ?_
 have ok85 := hok.get 1 (by decide) (has_yes (show (7 : Int) ≤ v by omega) (show ((-1) : Int) < 0 ∨ v ≤ (-1) by omega))
 have e_2 : D ++ plainTo (zipped fs_FetchResponse v true T) v 1 ++ (fixed (IntKind.i16.wrap (T.at 1).n) 2) = D ++ plainTo (zipped fs_FetchResponse v true T) v 2 := fold_yes (fs := fs_FetchResponse) (v := v) (flex := true) (t := T) (B := D) 1 (by decide) (by decide) (has_yes (show (7 : Int) ≤ v by omega) (show ((-1) : Int) < 0 ∨ v ≤ (-1) by omega)) ((FB_int (f := (fs_FetchResponse[1]'(by decide))) (by decide) (by decide)).trans (fixed_i16 _).symm)
 have hs85 := fold_size e_2 (by decide) hb
 refine cl rfl rfl rfl (OutK.cast (k_AppendInt16 (u := IntKind.i16.wrap (T.at 1).n) r76 hs85) e_2) rfl (fun v_ H1 L1 hle hR => ?_)
 obtain ⟨rfl, a85, c85, N85, rfl, rfl, h85⟩ := hR
 have r85 := h85.1
 refine asg rfl rfl ?_
 refine nl ?_
 refine sq ?_
 refine sr ?_
 refine mv rfl rfl ?_
 refine ge rfl rfl rfl ?_
 refine nl ?_
 refine cdT rfl (by omega) ?_
 refine sr ?_
 refine mv rfl rfl ?_
 refine nc rfl rfl ?_
 refine fa0 F58_3 rfl rfl ?_
 refine ld (Says.fz hv) Tryz.isAgg21 rfl (Nat.zero_add _).symm rfl rfl ?_
 refine asg rfl rfl ?_
 refine nl ?_
 refine rg ?_
 refine mv rfl rfl ?_
 refine mv rfl rfl ?_
 have ok94 := hok.get 2 (by decide) (has_yes (show (7 : Int) ≤ v by omega) (show ((-1) : Int) < 0 ∨ v ≤ (-1) by omega))
 have e_3 : D ++ plainTo (zipped fs_FetchResponse v true T) v 2 ++ (fixed (IntKind.i32.wrap (T.at 2).n) 4) = D ++ plainTo (zipped fs_FetchResponse v true T) v 3 := fold_yes (fs := fs_FetchResponse) (v := v) (flex := true) (t := T) (B := D) 2 (by decide) (by decide) (has_yes (show (7 : Int) ≤ v by omega) (show ((-1) : Int) < 0 ∨ v ≤ (-1) by omega)) ((FB_int (f := (fs_FetchResponse[2]'(by decide))) (by decide) (by decide)).trans (fixed_i32 _).symm)
 have hs94 := fold_size e_3 (by decide) hb
 refine cl rfl rfl rfl (OutK.cast (k_AppendInt32 (u := IntKind.i32.wrap (T.at 2).n) r85 hs94) e_3) rfl (fun v_ H1 L1 hle hR => ?_)
 obtain ⟨rfl, a94, c94, N94, rfl, rfl, h94⟩ := hR
 have r94 := h94.1
 refine asg rfl rfl ?_
 refine nl ?_
 refine sq ?_
 refine sr ?_
 refine mv rfl rfl ?_
 refine nc rfl rfl ?_
 refine fa0 F58_4 rfl rfl ?_
 refine ld (Says.fz hv) Tryz.isAgg52 rfl (Nat.zero_add _).symm rfl rfl ?_
 refine asg rfl rfl ?_
 refine nl ?_
 refine sq ?_
 refine sr ?_
 refine mv rfl rfl ?_
 refine nl ?_
 refine cdT rfl (by omega) ?_
 refine rg ?_
 refine mv rfl rfl ?_
 refine mv rfl rfl ?_
 refine ls Tryz.runUnderlying52 rfl rfl ?_
 have ok103 := hok.get 3 (by decide) (has_yes (show (0 : Int) ≤ v by omega) (show ((-1) : Int) < 0 ∨ v ≤ (-1) by omega))
 have ll103 := lT_len (ok103.len rfl)
 have e_4 : D ++ plainTo (zipped fs_FetchResponse v true T) v 3 ++ (counted true false (lT (T.at 3)).length 4 ++ (lT (T.at 3)).flatMap (GOf (fs_FetchResponse[3]'(by decide)) v true)) = D ++ plainTo (zipped fs_FetchResponse v true T) v 4 := fold_yes (fs := fs_FetchResponse) (v := v) (flex := true) (t := T) (B := D) 3 (by decide) (by decide) (has_yes (show (0 : Int) ≤ v by omega) (show ((-1) : Int) < 0 ∨ v ≤ (-1) by omega)) (FB_list0 (f := (fs_FetchResponse[3]'(by decide))) (by decide) (by decide) (by decide) ok103)
 have hs103 := fold_size e_4 (by decide) hb
 have hc103 : (D ++ plainTo (zipped fs_FetchResponse v true T) v 3).length + (counted true false (lT (T.at 3)).length 4).length ≤ LIM := by have h := hs103; simp only [List.length_append] at h ⊢; omega
 refine cl rfl rfl rfl (OutK.cast (k_AppendCompactArrayLen (n := (lT (T.at 3)).length) (by omega) r94 hc103) (show _ = D ++ plainTo (zipped fs_FetchResponse v true T) v 3 ++ (counted true false (lT (T.at 3)).length 4) from rfl)) rfl (fun v_ H1 L1 hle hR => ?_)
 obtain ⟨rfl, a103, c103, N103, rfl, rfl, h103⟩ := hR
 have r103 := h103.1
 refine asg rfl rfl ?_
 refine nl ?_
 refine sr ?_
 refine mv rfl rfl ?_
 refine ls Tryz.runUnderlying52 rfl rfl ?_
 refine mv rfl rfl ?_
 refine nl ?_
 refine fr ((lT (T.at 3)).length) (fun k1 l' H' L' => ∃ (a_k1 : Option Addr), ∃ (m_k1 : Nat), ∃ (c_k1 : Nat), ∃ (N_k1 : Chunk), [(0, .pointer (some ⟨b, 0, none⟩)), (1, .slice a_k1 m_k1 c_k1), (5, .int .i16 v), (6, .bool (decide ((12 : Int) ≤ v))), (10, .slice a3 (lT (T.at 3)).length c3), (109, .int .i64 ((lT (T.at 3)).length : Int))] = l' ∧ N_k1 :: L = L' ∧ Row 5 1 a_k1 m_k1 c_k1 (bytesOf (D ++ plainTo (zipped fs_FetchResponse v true T) v 3 ++ (counted true false (lT (T.at 3)).length 4) ++ ((lT (T.at 3)).take k1).flatMap (GOf (fs_FetchResponse[3]'(by decide)) v true))) N_k1 ∧ m_k1 = (D ++ plainTo (zipped fs_FetchResponse v true T) v 3 ++ (counted true false (lT (T.at 3)).length 4) ++ ((lT (T.at 3)).take k1).flatMap (GOf (fs_FetchResponse[3]'(by decide)) v true)).length) [(0, .pointer (some ⟨b, 0, none⟩)), (1, .slice _ _ _), (5, .int .i16 v), (6, .bool (decide ((12 : Int) ≤ v))), (10, .slice a3 (lT (T.at 3)).length c3), (109, .int .i64 ((lT (T.at 3)).length : Int))] (fun k1 l' H' L' h => ?_) (by omega) rfl (.of ⟨rfl, rfl, rfl, rfl, rfl, rfl, trivial⟩) ⟨_, _, _, _, rfl, rfl, (by rw [List.take_zero, List.flatMap_nil, List.append_nil]; exact r103), (by rw [List.take_zero, List.flatMap_nil, List.append_nil])⟩ rfl rfl rfl rfl rfl (fun k1 l' H' L' hk1 le_5 hI => ?_) (fun l' H' L' le_6 hI => ?_)
 · obtain ⟨a_k1, m_k1, c_k1, N_k1, rfl, _⟩ := h; exact ⟨rfl, rfl, rfl, rfl⟩
 ·
  obtain ⟨a_k1, m_k1, c_k1, N_k1, rfl, rfl, pk10, pk11⟩ := hI
  subst pk11
  refine sr ?_
  refine mv rfl rfl ?_
  refine asg rfl rfl ?_
  refine nl ?_
  refine sr ?_
  refine mv rfl rfl ?_
  refine mv rfl rfl ?_
  obtain ⟨b_7, o_8, e_9, g_10⟩ := (hf0.mono At_FetchResponseTopic.mono le_5).rows.at_ (ne_nil_of_lt hk1)
  obtain ⟨cs_11, hA_12, hc_13⟩ := g_10 k1 hk1
  refine ix2 Tryz.runUnderlying52 Tryz.sizeOf75 rfl e_9 rfl rfl hk1 rfl ?_
  obtain ⟨a_k1_2, c_k1_2, m_k1_t, rfl, hf_k1_0, hf_k1_1⟩ := hA_12
  have oek1 := (ok103.el rfl _ (lT_mem (List.getElem_mem hk1))).2 rfl
  obtain ⟨B_k1, hdk1⟩ : ∃ z : List UInt8, z = D ++ plainTo (zipped fs_FetchResponse v true T) v 3 ++ (counted true false (lT (T.at 3)).length 4) ++ ((lT (T.at 3)).take k1).flatMap (GOf (fs_FetchResponse[3]'(by decide)) v true) := ⟨_, rfl⟩
  have rbk1 := pk10
  rw [← hdk1] at rbk1 ⊢
  have hBk1 : B_k1.length + (partB fs_sFetchResponseTopic v true ((lT (T.at 3))[k1])).length ≤ LIM := by rw [hdk1]; exact el_size hs103 hk1 (GOf_part (by decide) _)
  have hr_k1 := RanN.lT (RanN.at hRan 3) (List.getElem_mem hk1)
  refine asg rfl rfl ?_
  refine nl ?_
  refine sq ?_
  refine sr ?_
  refine mv rfl rfl ?_
  refine ge rfl rfl rfl ?_
  refine mv rfl rfl ?_
  refine spl (t := 118) rfl (fun _ => ?_) (fun hn_ => absurd (by omega) hn_)
  refine gr rfl rfl ?_
  refine mv rfl rfl ?_
  refine gr rfl rfl ?_
  refine le rfl rfl rfl ?_
  refine pk rfl rfl rfl rfl ?_
  refine nl ?_
  refine cutT (fun l' H' L' => ∃ (aj_14 : Option Addr), ∃ (mj_14 : Nat), ∃ (cj_14 : Nat), ∃ (Nj_14 : Chunk), [(0, .pointer (some ⟨b, 0, none⟩)), (1, .slice aj_14 mj_14 cj_14), (5, .int .i16 v), (6, .bool (decide ((12 : Int) ≤ v))), (10, .slice a3 (lT (T.at 3)).length c3), (12, .pointer (some ⟨b_7, o_8 + k1 * 19, none⟩)), (109, .int .i64 ((lT (T.at 3)).length : Int)), (110, .int .i64 (k1 : Int))] = l' ∧ Nj_14 :: L = L' ∧ Row 5 1 aj_14 mj_14 cj_14 (bytesOf (B_k1 ++ plainTo (zipped fs_sFetchResponseTopic v true ((lT (T.at 3))[k1])) v 1)) Nj_14 ∧ mj_14 = (B_k1 ++ plainTo (zipped fs_sFetchResponseTopic v true ((lT (T.at 3))[k1])) v 1).length) ?_ (fun l' H' L' le_15 hI => ?_)
  ·
   refine cd rfl (fun h121 => ?_) (fun h121 => ?_)
   ·
    refine sr ?_
    refine mv rfl rfl ?_
    refine nc rfl rfl ?_
    refine fa F75_0 rfl rfl ?_
    refine ld (Says.fz hc_13) Tryz.isAgg9 rfl (Nat.add_zero _).symm rfl rfl ?_
    refine asg rfl rfl ?_
    refine nl ?_
    refine sr ?_
    refine mv rfl rfl ?_
    refine nl ?_
    refine cdT rfl (by omega) ?_
    refine rg ?_
    refine mv rfl rfl ?_
    refine mv rfl rfl ?_
    have ok129 := oek1.get 0 (by decide) (has_yes (show (0 : Int) ≤ v by omega) (show (12 : Int) < 0 ∨ v ≤ 12 by omega))
    have nn129 := ok129.nn (by decide) (by decide) (by decide)
    have e_16 : B_k1 ++ (counted true false (((lT (T.at 3))[k1]).at 0).s.length 2 ++ (((lT (T.at 3))[k1]).at 0).s) = B_k1 ++ plainTo (zipped fs_sFetchResponseTopic v true ((lT (T.at 3))[k1])) v 1 := fold_first (fs := fs_sFetchResponseTopic) (v := v) (flex := true) (t := ((lT (T.at 3))[k1])) (B := B_k1) 0 rfl (by decide) (by decide) (has_yes (show (0 : Int) ≤ v by omega) (show (12 : Int) < 0 ∨ v ≤ 12 by omega)) (by rw [FB_text (f := (fs_sFetchResponseTopic[0]'(by decide))) (by decide) (by decide) ok129, sT_nn nn129, nn129])
    have hs129 := fold_size e_16 (by decide) hBk1
    refine cl rfl rfl rfl (OutK.cast (k_AppendCompactString (x := (((lT (T.at 3))[k1]).at 0).s) (by have := ok129.s (Or.inl rfl); omega) rbk1 hs129) e_16) rfl (fun v_ H1 L1 hle hR => ?_)
    obtain ⟨rfl, a129, c129, N129, rfl, rfl, h129⟩ := hR
    have r129 := h129.1
    refine asg rfl rfl ?_
    refine nN ?_
    refine fun a_ w_ hA hw => ⟨_, _, _, hA.sub ?_, ler, hw, _, _, _, _, rfl, rfl, r129, rfl⟩
    exact (.of ⟨rfl, rfl, rfl, rfl, rfl, rfl, rfl, rfl, trivial⟩)
   ·
    refine skN ?_
    have es_17 : plainTo (zipped fs_sFetchResponseTopic v true ((lT (T.at 3))[k1])) v 1 = plainTo (zipped fs_sFetchResponseTopic v true ((lT (T.at 3))[k1])) v 0 := (piece_no2 (fs := fs_sFetchResponseTopic) (v := v) (flex := true) (t := ((lT (T.at 3))[k1])) (k := 0) (by decide) (has_no (show v < (0 : Int) ∨ ((0 : Int) ≤ 12 ∧ 12 < v) by omega)))
    have eX_18 : B_k1 = B_k1 ++ plainTo (zipped fs_sFetchResponseTopic v true ((lT (T.at 3))[k1])) v 1 := by rw [es_17, plain0, List.append_nil]
    refine fun a_ w_ hA hw => ⟨_, _, _, hA.sub ?_, ler, hw, _, _, _, _, rfl, rfl, (by rw [← eX_18]; exact rbk1), (by rw [← eX_18])⟩
    exact (.of ⟨rfl, rfl, rfl, rfl, rfl, rfl, rfl, rfl, trivial⟩)
  ·
   obtain ⟨aj_14, mj_14, cj_14, Nj_14, rfl, rfl, pj0, pj1⟩ := hI
   subst pj1
   have rj_14 := pj0
   refine sq ?_
   refine sr ?_
   refine mv rfl rfl ?_
   refine ge rfl rfl rfl ?_
   refine nl ?_
   refine cutT (fun l' H' L' => ∃ (aj_19 : Option Addr), ∃ (mj_19 : Nat), ∃ (cj_19 : Nat), ∃ (Nj_19 : Chunk), [(0, .pointer (some ⟨b, 0, none⟩)), (1, .slice aj_19 mj_19 cj_19), (5, .int .i16 v), (6, .bool (decide ((12 : Int) ≤ v))), (10, .slice a3 (lT (T.at 3)).length c3), (12, .pointer (some ⟨b_7, o_8 + k1 * 19, none⟩)), (109, .int .i64 ((lT (T.at 3)).length : Int)), (110, .int .i64 (k1 : Int))] = l' ∧ Nj_19 :: L = L' ∧ Row 5 1 aj_19 mj_19 cj_19 (bytesOf (B_k1 ++ plainTo (zipped fs_sFetchResponseTopic v true ((lT (T.at 3))[k1])) v 2)) Nj_19 ∧ mj_19 = (B_k1 ++ plainTo (zipped fs_sFetchResponseTopic v true ((lT (T.at 3))[k1])) v 2).length) ?_ (fun l' H' L' le_20 hI => ?_)
   ·
    refine cd rfl (fun h134 => ?_) (fun h134 => ?_)
    ·
     refine sr ?_
     refine mv rfl rfl ?_
     refine nc rfl rfl ?_
     refine fa F75_1 rfl rfl ?_
     refine la (Says.fz (hc_13.mono le_15)) Tryz.isAgg72 Tryz.sizeOf72 rfl rfl rfl rfl ?_
     refine al Tryz.zeroValue72 rfl rfl (fun b_21 => ?_)
     refine sa Tryz.sizeOf72 rfl rfl rfl rfl rfl .head ?_
     refine frL (Row.whole (size := 16) (m := 1) (ds := [ub (((lT (T.at 3))[k1]).at 1).s 0, ub (((lT (T.at 3))[k1]).at 1).s 1, ub (((lT (T.at 3))[k1]).at 1).s 2, ub (((lT (T.at 3))[k1]).at 1).s 3, ub (((lT (T.at 3))[k1]).at 1).s 4, ub (((lT (T.at 3))[k1]).at 1).s 5, ub (((lT (T.at 3))[k1]).at 1).s 6, ub (((lT (T.at 3))[k1]).at 1).s 7, ub (((lT (T.at 3))[k1]).at 1).s 8, ub (((lT (T.at 3))[k1]).at 1).s 9, ub (((lT (T.at 3))[k1]).at 1).s 10, ub (((lT (T.at 3))[k1]).at 1).s 11, ub (((lT (T.at 3))[k1]).at 1).s 12, ub (((lT (T.at 3))[k1]).at 1).s 13, ub (((lT (T.at 3))[k1]).at 1).s 14, ub (((lT (T.at 3))[k1]).at 1).s 15]) rfl (by decide)) .head (fun Hz_22 lz_23 yz_22 => ?_)
     have z_22 : Hz_22.at b_21 0 [ub (((lT (T.at 3))[k1]).at 1).s 0, ub (((lT (T.at 3))[k1]).at 1).s 1, ub (((lT (T.at 3))[k1]).at 1).s 2, ub (((lT (T.at 3))[k1]).at 1).s 3, ub (((lT (T.at 3))[k1]).at 1).s 4, ub (((lT (T.at 3))[k1]).at 1).s 5, ub (((lT (T.at 3))[k1]).at 1).s 6, ub (((lT (T.at 3))[k1]).at 1).s 7, ub (((lT (T.at 3))[k1]).at 1).s 8, ub (((lT (T.at 3))[k1]).at 1).s 9, ub (((lT (T.at 3))[k1]).at 1).s 10, ub (((lT (T.at 3))[k1]).at 1).s 11, ub (((lT (T.at 3))[k1]).at 1).s 12, ub (((lT (T.at 3))[k1]).at 1).s 13, ub (((lT (T.at 3))[k1]).at 1).s 14, ub (((lT (T.at 3))[k1]).at 1).s 15] := by
      rcases yz_22 with ⟨h, _⟩ | ⟨g, h, h2⟩
      · cases h
      · cases h; exact h2
     refine nl ?_
     refine rg ?_
     refine mv rfl rfl ?_
     refine la (Says.fz z_22) Tryz.isAgg72 Tryz.sizeOf72 rfl (Nat.zero_add _).symm rfl rfl ?_
     have ok141 := oek1.get 1 (by decide) (has_yes (show (13 : Int) ≤ v by omega) (show ((-1) : Int) < 0 ∨ v ≤ (-1) by omega))
     have e_24 : B_k1 ++ plainTo (zipped fs_sFetchResponseTopic v true ((lT (T.at 3))[k1])) v 1 ++ (pad16 (((lT (T.at 3))[k1]).at 1).s) = B_k1 ++ plainTo (zipped fs_sFetchResponseTopic v true ((lT (T.at 3))[k1])) v 2 := fold_yes (fs := fs_sFetchResponseTopic) (v := v) (flex := true) (t := ((lT (T.at 3))[k1])) (B := B_k1) 1 (by decide) (by decide) (has_yes (show (13 : Int) ≤ v by omega) (show ((-1) : Int) < 0 ∨ v ≤ (-1) by omega)) (FB_uuid (f := (fs_sFetchResponseTopic[1]'(by decide))) (by decide))
     have hs141 := fold_size e_24 (by decide) hBk1
     refine cl rfl rfl rfl (OutK.cast (k_AppendUuid (x := (((lT (T.at 3))[k1]).at 1).s) rj_14 hs141) e_24) rfl (fun v_ H1 L1 hle hR => ?_)
     obtain ⟨rfl, a141, c141, N141, rfl, rfl, h141⟩ := hR
     have r141 := h141.1
     refine asg rfl rfl ?_
     refine nN ?_
     refine fun a_ w_ hA hw => ⟨_, _, _, hA.sub ?_, lz_23, hw, _, _, _, _, rfl, rfl, r141, rfl⟩
     exact (.of ⟨rfl, rfl, rfl, rfl, rfl, rfl, rfl, rfl, trivial⟩)
    ·
     refine skN ?_
     have es_25 : plainTo (zipped fs_sFetchResponseTopic v true ((lT (T.at 3))[k1])) v 2 = plainTo (zipped fs_sFetchResponseTopic v true ((lT (T.at 3))[k1])) v 1 := (piece_no2 (fs := fs_sFetchResponseTopic) (v := v) (flex := true) (t := ((lT (T.at 3))[k1])) (k := 1) (by decide) (has_no (show v < (13 : Int) ∨ ((0 : Int) ≤ (-1) ∧ (-1) < v) by omega)))
     have eX_26 : B_k1 ++ plainTo (zipped fs_sFetchResponseTopic v true ((lT (T.at 3))[k1])) v 1 = B_k1 ++ plainTo (zipped fs_sFetchResponseTopic v true ((lT (T.at 3))[k1])) v 2 := by rw [es_25]
     refine fun a_ w_ hA hw => ⟨_, _, _, hA.sub ?_, ler, hw, _, _, _, _, rfl, rfl, (by rw [← eX_26]; exact rj_14), (by rw [← eX_26])⟩
     exact (.of ⟨rfl, rfl, rfl, rfl, rfl, rfl, rfl, rfl, trivial⟩)
   ·
    obtain ⟨aj_19, mj_19, cj_19, Nj_19, rfl, rfl, pj0, pj1⟩ := hI
    subst pj1
    have rj_19 := pj0
    refine sq ?_
    refine sr ?_
    refine mv rfl rfl ?_
    refine nc rfl rfl ?_
    refine fa F75_2 rfl rfl ?_
    refine ld (Says.fz (hc_13.mono (le_15.trans le_20))) Tryz.isAgg73 rfl rfl rfl rfl ?_
    refine asg rfl rfl ?_
    refine nl ?_
    refine sq ?_
    refine sr ?_
    refine mv rfl rfl ?_
    refine nl ?_
    refine cdT rfl (by omega) ?_
    refine rg ?_
    refine mv rfl rfl ?_
    refine mv rfl rfl ?_
    refine ls Tryz.runUnderlying73 rfl rfl ?_
    have ok150 := oek1.get 2 (by decide) (has_yes (show (0 : Int) ≤ v by omega) (show ((-1) : Int) < 0 ∨ v ≤ (-1) by omega))
    have ll150 := lT_len (ok150.len rfl)
    have e_27 : B_k1 ++ plainTo (zipped fs_sFetchResponseTopic v true ((lT (T.at 3))[k1])) v 2 ++ (counted true false (lT (((lT (T.at 3))[k1]).at 2)).length 4 ++ (lT (((lT (T.at 3))[k1]).at 2)).flatMap (GOf (fs_sFetchResponseTopic[2]'(by decide)) v true)) = B_k1 ++ plainTo (zipped fs_sFetchResponseTopic v true ((lT (T.at 3))[k1])) v 3 := fold_yes (fs := fs_sFetchResponseTopic) (v := v) (flex := true) (t := ((lT (T.at 3))[k1])) (B := B_k1) 2 (by decide) (by decide) (has_yes (show (0 : Int) ≤ v by omega) (show ((-1) : Int) < 0 ∨ v ≤ (-1) by omega)) (FB_list0 (f := (fs_sFetchResponseTopic[2]'(by decide))) (by decide) (by decide) (by decide) ok150)
    have hs150 := fold_size e_27 (by decide) hBk1
    have hc150 : (B_k1 ++ plainTo (zipped fs_sFetchResponseTopic v true ((lT (T.at 3))[k1])) v 2).length + (counted true false (lT (((lT (T.at 3))[k1]).at 2)).length 4).length ≤ LIM := by have h := hs150; simp only [List.length_append] at h ⊢; omega
    refine cl rfl rfl rfl (OutK.cast (k_AppendCompactArrayLen (n := (lT (((lT (T.at 3))[k1]).at 2)).length) (by omega) rj_19 hc150) (show _ = B_k1 ++ plainTo (zipped fs_sFetchResponseTopic v true ((lT (T.at 3))[k1])) v 2 ++ (counted true false (lT (((lT (T.at 3))[k1]).at 2)).length 4) from rfl)) rfl (fun v_ H1 L1 hle hR => ?_)
    obtain ⟨rfl, a150, c150, N150, rfl, rfl, h150⟩ := hR
    have r150 := h150.1
    refine asg rfl rfl ?_
    refine nl ?_
    refine sr ?_
    refine mv rfl rfl ?_
    refine ls Tryz.runUnderlying73 rfl rfl ?_
    refine mv rfl rfl ?_
    refine nl ?_
    refine fr ((lT (((lT (T.at 3))[k1]).at 2)).length) (fun k2 l' H' L' => ∃ (a_k2 : Option Addr), ∃ (m_k2 : Nat), ∃ (c_k2 : Nat), ∃ (N_k2 : Chunk), [(0, .pointer (some ⟨b, 0, none⟩)), (1, .slice a_k2 m_k2 c_k2), (5, .int .i16 v), (6, .bool (decide ((12 : Int) ≤ v))), (10, .slice a3 (lT (T.at 3)).length c3), (12, .pointer (some ⟨b_7, o_8 + k1 * 19, none⟩)), (15, .slice a_k1_2 (lT (((lT (T.at 3))[k1]).at 2)).length c_k1_2), (109, .int .i64 ((lT (T.at 3)).length : Int)), (110, .int .i64 (k1 : Int)), (156, .int .i64 ((lT (((lT (T.at 3))[k1]).at 2)).length : Int))] = l' ∧ N_k2 :: L = L' ∧ Row 5 1 a_k2 m_k2 c_k2 (bytesOf (B_k1 ++ plainTo (zipped fs_sFetchResponseTopic v true ((lT (T.at 3))[k1])) v 2 ++ (counted true false (lT (((lT (T.at 3))[k1]).at 2)).length 4) ++ ((lT (((lT (T.at 3))[k1]).at 2)).take k2).flatMap (GOf (fs_sFetchResponseTopic[2]'(by decide)) v true))) N_k2 ∧ m_k2 = (B_k1 ++ plainTo (zipped fs_sFetchResponseTopic v true ((lT (T.at 3))[k1])) v 2 ++ (counted true false (lT (((lT (T.at 3))[k1]).at 2)).length 4) ++ ((lT (((lT (T.at 3))[k1]).at 2)).take k2).flatMap (GOf (fs_sFetchResponseTopic[2]'(by decide)) v true)).length) [(0, .pointer (some ⟨b, 0, none⟩)), (1, .slice _ _ _), (5, .int .i16 v), (6, .bool (decide ((12 : Int) ≤ v))), (10, .slice a3 (lT (T.at 3)).length c3), (12, .pointer (some ⟨b_7, o_8 + k1 * 19, none⟩)), (15, .slice a_k1_2 (lT (((lT (T.at 3))[k1]).at 2)).length c_k1_2), (109, .int .i64 ((lT (T.at 3)).length : Int)), (110, .int .i64 (k1 : Int)), (156, .int .i64 ((lT (((lT (T.at 3))[k1]).at 2)).length : Int))] (fun k2 l' H' L' h => ?_) (by omega) rfl (.of ⟨rfl, rfl, rfl, rfl, rfl, rfl, rfl, rfl, rfl, rfl, trivial⟩) ⟨_, _, _, _, rfl, rfl, (by rw [List.take_zero, List.flatMap_nil, List.append_nil]; exact r150), (by rw [List.take_zero, List.flatMap_nil, List.append_nil])⟩ rfl rfl rfl rfl rfl (fun k2 l' H' L' hk2 le_28 hI => ?_) (fun l' H' L' le_29 hI => ?_)
    · obtain ⟨a_k2, m_k2, c_k2, N_k2, rfl, _⟩ := h; exact ⟨rfl, rfl, rfl, rfl⟩
    ·
     obtain ⟨a_k2, m_k2, c_k2, N_k2, rfl, rfl, pk20, pk21⟩ := hI
     subst pk21
     refine sr ?_
     refine mv rfl rfl ?_
     refine asg rfl rfl ?_
     refine nl ?_
     refine sr ?_
     refine mv rfl rfl ?_
     refine mv rfl rfl ?_
     obtain ⟨b_30, o_31, e_32, g_33⟩ := (hf_k1_0.mono At_FetchResponseTopicPartition.mono (le_15.trans (le_20.trans le_28))).rows.at_ (ne_nil_of_lt hk2)
     obtain ⟨cs_34, hA_35, hc_36⟩ := g_33 k2 hk2
     refine ix2 Tryz.runUnderlying73 Tryz.sizeOf97 rfl e_32 rfl rfl hk2 rfl ?_
     obtain ⟨m_k2_5_t, m_k2_6_t, m_k2_7_t, a_k2_8, c_k2_8, a_k2_10, c_k2_10, m_k2_t, rfl, hf_k2_0, hf_k2_1, hf_k2_2, hf_k2_3, hf_k2_4, hf_k2_5⟩ := hA_35
     have oek2 := (ok150.el rfl _ (lT_mem (List.getElem_mem hk2))).2 rfl
     obtain ⟨B_k2, hdk2⟩ : ∃ z : List UInt8, z = B_k1 ++ plainTo (zipped fs_sFetchResponseTopic v true ((lT (T.at 3))[k1])) v 2 ++ (counted true false (lT (((lT (T.at 3))[k1]).at 2)).length 4) ++ ((lT (((lT (T.at 3))[k1]).at 2)).take k2).flatMap (GOf (fs_sFetchResponseTopic[2]'(by decide)) v true) := ⟨_, rfl⟩
     have rbk2 := pk20
     rw [← hdk2] at rbk2 ⊢
     have hBk2 : B_k2.length + (partB fs_sFetchResponseTopicPartition v true ((lT (((lT (T.at 3))[k1]).at 2))[k2])).length ≤ LIM := by rw [hdk2]; exact el_size hs150 hk2 (GOf_part (by decide) _)
     have hr_k2 := RanN.lT (RanN.at hr_k1 2) (List.getElem_mem hk2)
     refine asg rfl rfl ?_
     refine nl ?_
     refine sq ?_
     refine sr ?_
     refine mv rfl rfl ?_
     refine nc rfl rfl ?_
     refine fa F97_0 rfl rfl ?_
     refine ld (Says.fz hc_36) Tryz.isAgg21 rfl (Nat.add_zero _).symm rfl rfl ?_
     refine asg rfl rfl ?_
     refine nl ?_
     refine rg ?_
     refine mv rfl rfl ?_
     refine mv rfl rfl ?_
     have ok169 := oek2.get 0 (by decide) (has_yes (show (0 : Int) ≤ v by omega) (show ((-1) : Int) < 0 ∨ v ≤ (-1) by omega))
     have e_37 : B_k2 ++ (fixed (IntKind.i32.wrap (((lT (((lT (T.at 3))[k1]).at 2))[k2]).at 0).n) 4) = B_k2 ++ plainTo (zipped fs_sFetchResponseTopicPartition v true ((lT (((lT (T.at 3))[k1]).at 2))[k2])) v 1 := fold_first (fs := fs_sFetchResponseTopicPartition) (v := v) (flex := true) (t := ((lT (((lT (T.at 3))[k1]).at 2))[k2])) (B := B_k2) 0 rfl (by decide) (by decide) (has_yes (show (0 : Int) ≤ v by omega) (show ((-1) : Int) < 0 ∨ v ≤ (-1) by omega)) ((FB_int (f := (fs_sFetchResponseTopicPartition[0]'(by decide))) (by decide) (by decide)).trans (fixed_i32 _).symm)
     have hs169 := fold_size e_37 (by decide) hBk2
     refine cl rfl rfl rfl (OutK.cast (k_AppendInt32 (u := IntKind.i32.wrap (((lT (((lT (T.at 3))[k1]).at 2))[k2]).at 0).n) rbk2 hs169) e_37) rfl (fun v_ H1 L1 hle hR => ?_)
     obtain ⟨rfl, a169, c169, N169, rfl, rfl, h169⟩ := hR
     have r169 := h169.1
     refine asg rfl rfl ?_
     refine nl ?_
     refine sq ?_
     refine sr ?_
     refine mv rfl rfl ?_
     refine nc rfl rfl ?_
     refine fa F97_1 rfl rfl ?_
     refine ld (Says.fz hc_36) Tryz.isAgg45 rfl rfl rfl rfl ?_
     refine asg rfl rfl ?_
     refine nl ?_
     refine rg ?_
     refine mv rfl rfl ?_
     refine mv rfl rfl ?_
     have ok176 := oek2.get 1 (by decide) (has_yes (show (0 : Int) ≤ v by omega) (show ((-1) : Int) < 0 ∨ v ≤ (-1) by omega))
     have e_38 : B_k2 ++ plainTo (zipped fs_sFetchResponseTopicPartition v true ((lT (((lT (T.at 3))[k1]).at 2))[k2])) v 1 ++ (fixed (IntKind.i16.wrap (((lT (((lT (T.at 3))[k1]).at 2))[k2]).at 1).n) 2) = B_k2 ++ plainTo (zipped fs_sFetchResponseTopicPartition v true ((lT (((lT (T.at 3))[k1]).at 2))[k2])) v 2 := fold_yes (fs := fs_sFetchResponseTopicPartition) (v := v) (flex := true) (t := ((lT (((lT (T.at 3))[k1]).at 2))[k2])) (B := B_k2) 1 (by decide) (by decide) (has_yes (show (0 : Int) ≤ v by omega) (show ((-1) : Int) < 0 ∨ v ≤ (-1) by omega)) ((FB_int (f := (fs_sFetchResponseTopicPartition[1]'(by decide))) (by decide) (by decide)).trans (fixed_i16 _).symm)
     have hs176 := fold_size e_38 (by decide) hBk2
     refine cl rfl rfl rfl (OutK.cast (k_AppendInt16 (u := IntKind.i16.wrap (((lT (((lT (T.at 3))[k1]).at 2))[k2]).at 1).n) r169 hs176) e_38) rfl (fun v_ H1 L1 hle hR => ?_)
     obtain ⟨rfl, a176, c176, N176, rfl, rfl, h176⟩ := hR
     have r176 := h176.1
     refine asg rfl rfl ?_
     refine nl ?_
     refine sq ?_
     refine sr ?_
     refine mv rfl rfl ?_
     refine nc rfl rfl ?_
     refine fa F97_2 rfl rfl ?_
     refine ld (Says.fz hc_36) Tryz.isAgg2 rfl rfl rfl rfl ?_
     refine asg rfl rfl ?_
     refine nl ?_
     refine rg ?_
     refine mv rfl rfl ?_
     refine mv rfl rfl ?_
     have ok183 := oek2.get 2 (by decide) (has_yes (show (0 : Int) ≤ v by omega) (show ((-1) : Int) < 0 ∨ v ≤ (-1) by omega))
     have e_39 : B_k2 ++ plainTo (zipped fs_sFetchResponseTopicPartition v true ((lT (((lT (T.at 3))[k1]).at 2))[k2])) v 2 ++ (fixed ((((lT (((lT (T.at 3))[k1]).at 2))[k2]).at 2).n) 8) = B_k2 ++ plainTo (zipped fs_sFetchResponseTopicPartition v true ((lT (((lT (T.at 3))[k1]).at 2))[k2])) v 3 := fold_yes (fs := fs_sFetchResponseTopicPartition) (v := v) (flex := true) (t := ((lT (((lT (T.at 3))[k1]).at 2))[k2])) (B := B_k2) 2 (by decide) (by decide) (has_yes (show (0 : Int) ≤ v by omega) (show ((-1) : Int) < 0 ∨ v ≤ (-1) by omega)) ((FB_int (f := (fs_sFetchResponseTopicPartition[2]'(by decide))) (by decide) (by decide)).trans rfl)
     have hs183 := fold_size e_39 (by decide) hBk2
     refine cl rfl rfl rfl (OutK.cast (k_AppendInt64 (u := (((lT (((lT (T.at 3))[k1]).at 2))[k2]).at 2).n) r176 hs183) e_39) rfl (fun v_ H1 L1 hle hR => ?_)
     obtain ⟨rfl, a183, c183, N183, rfl, rfl, h183⟩ := hR
     have r183 := h183.1
     refine asg rfl rfl ?_
     refine nl ?_
     refine sq ?_
     refine sr ?_
     refine mv rfl rfl ?_
     refine ge rfl rfl rfl ?_
     refine nl ?_
     refine cdT rfl (by omega) ?_
     refine sr ?_
     refine mv rfl rfl ?_
     refine nc rfl rfl ?_
     refine fa F97_3 rfl rfl ?_
     refine ld (Says.fz hc_36) Tryz.isAgg2 rfl rfl rfl rfl ?_
     refine asg rfl rfl ?_
     refine nl ?_
     refine rg ?_
     refine mv rfl rfl ?_
     refine mv rfl rfl ?_
     have ok192 := oek2.get 3 (by decide) (has_yes (show (4 : Int) ≤ v by omega) (show ((-1) : Int) < 0 ∨ v ≤ (-1) by omega))
     have e_40 : B_k2 ++ plainTo (zipped fs_sFetchResponseTopicPartition v true ((lT (((lT (T.at 3))[k1]).at 2))[k2])) v 3 ++ (fixed ((((lT (((lT (T.at 3))[k1]).at 2))[k2]).at 3).n) 8) = B_k2 ++ plainTo (zipped fs_sFetchResponseTopicPartition v true ((lT (((lT (T.at 3))[k1]).at 2))[k2])) v 4 := fold_yes (fs := fs_sFetchResponseTopicPartition) (v := v) (flex := true) (t := ((lT (((lT (T.at 3))[k1]).at 2))[k2])) (B := B_k2) 3 (by decide) (by decide) (has_yes (show (4 : Int) ≤ v by omega) (show ((-1) : Int) < 0 ∨ v ≤ (-1) by omega)) ((FB_int (f := (fs_sFetchResponseTopicPartition[3]'(by decide))) (by decide) (by decide)).trans rfl)
     have hs192 := fold_size e_40 (by decide) hBk2
     refine cl rfl rfl rfl (OutK.cast (k_AppendInt64 (u := (((lT (((lT (T.at 3))[k1]).at 2))[k2]).at 3).n) r183 hs192) e_40) rfl (fun v_ H1 L1 hle hR => ?_)
     obtain ⟨rfl, a192, c192, N192, rfl, rfl, h192⟩ := hR
     have r192 := h192.1
     refine asg rfl rfl ?_
     refine nl ?_
     refine sq ?_
     refine sr ?_
     refine mv rfl rfl ?_
     refine ge rfl rfl rfl ?_
     refine nl ?_
     refine cdT rfl (by omega) ?_
     refine sr ?_
     refine mv rfl rfl ?_
     refine nc rfl rfl ?_
     refine fa F97_4 rfl rfl ?_
     refine ld (Says.fz hc_36) Tryz.isAgg2 rfl rfl rfl rfl ?_
     refine asg rfl rfl ?_
     refine nl ?_
     refine rg ?_
     refine mv rfl rfl ?_
     refine mv rfl rfl ?_
     have ok201 := oek2.get 4 (by decide) (has_yes (show (5 : Int) ≤ v by omega) (show ((-1) : Int) < 0 ∨ v ≤ (-1) by omega))
     have e_41 : B_k2 ++ plainTo (zipped fs_sFetchResponseTopicPartition v true ((lT (((lT (T.at 3))[k1]).at 2))[k2])) v 4 ++ (fixed ((((lT (((lT (T.at 3))[k1]).at 2))[k2]).at 4).n) 8) = B_k2 ++ plainTo (zipped fs_sFetchResponseTopicPartition v true ((lT (((lT (T.at 3))[k1]).at 2))[k2])) v 5 := fold_yes (fs := fs_sFetchResponseTopicPartition) (v := v) (flex := true) (t := ((lT (((lT (T.at 3))[k1]).at 2))[k2])) (B := B_k2) 4 (by decide) (by decide) (has_yes (show (5 : Int) ≤ v by omega) (show ((-1) : Int) < 0 ∨ v ≤ (-1) by omega)) ((FB_int (f := (fs_sFetchResponseTopicPartition[4]'(by decide))) (by decide) (by decide)).trans rfl)
     have hs201 := fold_size e_41 (by decide) hBk2
     refine cl rfl rfl rfl (OutK.cast (k_AppendInt64 (u := (((lT (((lT (T.at 3))[k1]).at 2))[k2]).at 4).n) r192 hs201) e_41) rfl (fun v_ H1 L1 hle hR => ?_)
     obtain ⟨rfl, a201, c201, N201, rfl, rfl, h201⟩ := hR
     have r201 := h201.1
     refine asg rfl rfl ?_
     refine nl ?_
     refine sq ?_
     refine sr ?_
     refine mv rfl rfl ?_
     refine ge rfl rfl rfl ?_
     refine nl ?_
     refine cdT rfl (by omega) ?_
     refine sr ?_
     refine mv rfl rfl ?_
     refine nc rfl rfl ?_
     refine fa F97_8 rfl rfl ?_
     refine ld (Says.fz hc_36) Tryz.isAgg95 rfl rfl rfl rfl ?_
     refine asg rfl rfl ?_
     refine nl ?_
     refine sq ?_
     refine sr ?_
     refine mv rfl rfl ?_
     refine nl ?_
     refine cdT rfl (by omega) ?_
     refine rg ?_
     refine mv rfl rfl ?_
     refine mv rfl rfl ?_
     refine ls Tryz.runUnderlying95 rfl rfl ?_
     refine mv rfl rfl ?_
     refine esn Tryz.underlying95 rfl rfl ?_
     have es_42 : plainTo (zipped fs_sFetchResponseTopicPartition v true ((lT (((lT (T.at 3))[k1]).at 2))[k2])) v 8 = plainTo (zipped fs_sFetchResponseTopicPartition v true ((lT (((lT (T.at 3))[k1]).at 2))[k2])) v 5 := (((piece_no1 (fs := fs_sFetchResponseTopicPartition) (v := v) (flex := true) (t := ((lT (((lT (T.at 3))[k1]).at 2))[k2])) (k := 7) (by decide) (by decide)).trans (piece_no1 (fs := fs_sFetchResponseTopicPartition) (v := v) (flex := true) (t := ((lT (((lT (T.at 3))[k1]).at 2))[k2])) (k := 6) (by decide) (by decide))).trans (piece_no1 (fs := fs_sFetchResponseTopicPartition) (v := v) (flex := true) (t := ((lT (((lT (T.at 3))[k1]).at 2))[k2])) (k := 5) (by decide) (by decide)))
     have eX_43 : B_k2 ++ plainTo (zipped fs_sFetchResponseTopicPartition v true ((lT (((lT (T.at 3))[k1]).at 2))[k2])) v 5 = B_k2 ++ plainTo (zipped fs_sFetchResponseTopicPartition v true ((lT (((lT (T.at 3))[k1]).at 2))[k2])) v 8 := by rw [es_42]
     have rx_44 := r201
     rw [eX_43] at rx_44 ⊢
     have ok214 := oek2.get 8 (by decide) (has_yes (show (4 : Int) ≤ v by omega) (show ((-1) : Int) < 0 ∨ v ≤ (-1) by omega))
     have ll214 := lT_len (ok214.len rfl)
     have e_45 : B_k2 ++ plainTo (zipped fs_sFetchResponseTopicPartition v true ((lT (((lT (T.at 3))[k1]).at 2))[k2])) v 8 ++ (counted true a_k2_8.isNone (lT (((lT (((lT (T.at 3))[k1]).at 2))[k2]).at 8)).length 4 ++ (lT (((lT (((lT (T.at 3))[k1]).at 2))[k2]).at 8)).flatMap (GOf (fs_sFetchResponseTopicPartition[8]'(by decide)) v true)) = B_k2 ++ plainTo (zipped fs_sFetchResponseTopicPartition v true ((lT (((lT (T.at 3))[k1]).at 2))[k2])) v 9 := fold_yes (fs := fs_sFetchResponseTopicPartition) (v := v) (flex := true) (t := ((lT (((lT (T.at 3))[k1]).at 2))[k2])) (B := B_k2) 8 (by decide) (by decide) (has_yes (show (4 : Int) ≤ v by omega) (show ((-1) : Int) < 0 ∨ v ≤ (-1) by omega)) (by rw [hf_k2_3.nul]; exact FB_list (f := (fs_sFetchResponseTopicPartition[8]'(by decide))) (by decide) (by decide) (by decide) ok214)
     have hs214 := fold_size e_45 (by decide) hBk2
     have hc214 : (B_k2 ++ plainTo (zipped fs_sFetchResponseTopicPartition v true ((lT (((lT (T.at 3))[k1]).at 2))[k2])) v 8).length + (counted true a_k2_8.isNone (lT (((lT (((lT (T.at 3))[k1]).at 2))[k2]).at 8)).length 4).length ≤ LIM := by have h := hs214; simp only [List.length_append] at h ⊢; omega
     refine cl rfl rfl rfl (OutK.cast (k_AppendCompactNullableArrayLen (n := (lT (((lT (((lT (T.at 3))[k1]).at 2))[k2]).at 8)).length) (b := a_k2_8.isNone) (by omega) rx_44 hc214) (show _ = B_k2 ++ plainTo (zipped fs_sFetchResponseTopicPartition v true ((lT (((lT (T.at 3))[k1]).at 2))[k2])) v 8 ++ (counted true a_k2_8.isNone (lT (((lT (((lT (T.at 3))[k1]).at 2))[k2]).at 8)).length 4) from rfl)) rfl (fun v_ H1 L1 hle hR => ?_)
     obtain ⟨rfl, a214, c214, N214, rfl, rfl, h214⟩ := hR
     have r214 := h214.1
     refine asg rfl rfl ?_
     refine nl ?_
     refine sr ?_
     refine mv rfl rfl ?_
     refine ls Tryz.runUnderlying95 rfl rfl ?_
     refine mv rfl rfl ?_
     refine nl ?_
     refine fr ((lT (((lT (((lT (T.at 3))[k1]).at 2))[k2]).at 8)).length) (fun k3 l' H' L' => ∃ (a_k3 : Option Addr), ∃ (m_k3 : Nat), ∃ (c_k3 : Nat), ∃ (N_k3 : Chunk), [(0, .pointer (some ⟨b, 0, none⟩)), (1, .slice a_k3 m_k3 c_k3), (5, .int .i16 v), (6, .bool (decide ((12 : Int) ≤ v))), (10, .slice a3 (lT (T.at 3)).length c3), (12, .pointer (some ⟨b_7, o_8 + k1 * 19, none⟩)), (15, .slice a_k1_2 (lT (((lT (T.at 3))[k1]).at 2)).length c_k1_2), (17, .pointer (some ⟨b_30, o_31 + k2 * 18, none⟩)), (23, .slice a_k2_8 (lT (((lT (((lT (T.at 3))[k1]).at 2))[k2]).at 8)).length c_k2_8), (109, .int .i64 ((lT (T.at 3)).length : Int)), (110, .int .i64 (k1 : Int)), (156, .int .i64 ((lT (((lT (T.at 3))[k1]).at 2)).length : Int)), (157, .int .i64 (k2 : Int)), (222, .int .i64 ((lT (((lT (((lT (T.at 3))[k1]).at 2))[k2]).at 8)).length : Int))] = l' ∧ N_k3 :: L = L' ∧ Row 5 1 a_k3 m_k3 c_k3 (bytesOf (B_k2 ++ plainTo (zipped fs_sFetchResponseTopicPartition v true ((lT (((lT (T.at 3))[k1]).at 2))[k2])) v 8 ++ (counted true a_k2_8.isNone (lT (((lT (((lT (T.at 3))[k1]).at 2))[k2]).at 8)).length 4) ++ ((lT (((lT (((lT (T.at 3))[k1]).at 2))[k2]).at 8)).take k3).flatMap (GOf (fs_sFetchResponseTopicPartition[8]'(by decide)) v true))) N_k3 ∧ m_k3 = (B_k2 ++ plainTo (zipped fs_sFetchResponseTopicPartition v true ((lT (((lT (T.at 3))[k1]).at 2))[k2])) v 8 ++ (counted true a_k2_8.isNone (lT (((lT (((lT (T.at 3))[k1]).at 2))[k2]).at 8)).length 4) ++ ((lT (((lT (((lT (T.at 3))[k1]).at 2))[k2]).at 8)).take k3).flatMap (GOf (fs_sFetchResponseTopicPartition[8]'(by decide)) v true)).length) [(0, .pointer (some ⟨b, 0, none⟩)), (1, .slice _ _ _), (5, .int .i16 v), (6, .bool (decide ((12 : Int) ≤ v))), (10, .slice a3 (lT (T.at 3)).length c3), (12, .pointer (some ⟨b_7, o_8 + k1 * 19, none⟩)), (15, .slice a_k1_2 (lT (((lT (T.at 3))[k1]).at 2)).length c_k1_2), (17, .pointer (some ⟨b_30, o_31 + k2 * 18, none⟩)), (23, .slice a_k2_8 (lT (((lT (((lT (T.at 3))[k1]).at 2))[k2]).at 8)).length c_k2_8), (109, .int .i64 ((lT (T.at 3)).length : Int)), (110, .int .i64 (k1 : Int)), (156, .int .i64 ((lT (((lT (T.at 3))[k1]).at 2)).length : Int)), (157, .int .i64 (k2 : Int)), (222, .int .i64 ((lT (((lT (((lT (T.at 3))[k1]).at 2))[k2]).at 8)).length : Int))] (fun k3 l' H' L' h => ?_) (by omega) rfl (.of ⟨rfl, rfl, rfl, rfl, rfl, rfl, rfl, rfl, rfl, rfl, rfl, rfl, rfl, rfl, trivial⟩) ⟨_, _, _, _, rfl, rfl, (by rw [List.take_zero, List.flatMap_nil, List.append_nil]; exact r214), (by rw [List.take_zero, List.flatMap_nil, List.append_nil])⟩ rfl rfl rfl rfl rfl (fun k3 l' H' L' hk3 le_46 hI => ?_) (fun l' H' L' le_47 hI => ?_)
     · obtain ⟨a_k3, m_k3, c_k3, N_k3, rfl, _⟩ := h; exact ⟨rfl, rfl, rfl, rfl⟩
     ·
      obtain ⟨a_k3, m_k3, c_k3, N_k3, rfl, rfl, pk30, pk31⟩ := hI
      subst pk31
      refine sr ?_
      refine mv rfl rfl ?_
      refine asg rfl rfl ?_
      refine nl ?_
      refine sr ?_
      refine mv rfl rfl ?_
      refine mv rfl rfl ?_
      obtain ⟨b_48, o_49, e_50, g_51⟩ := (hf_k2_3.mono At_FetchResponseTopicPartitionAbortedTransaction.mono le_46).rows.at_ (ne_nil_of_lt hk3)
      obtain ⟨cs_52, hA_53, hc_54⟩ := g_51 k3 hk3
      refine ix2 Tryz.runUnderlying95 Tryz.sizeOf102 rfl e_50 rfl rfl hk3 rfl ?_
      obtain ⟨m_k3_t, rfl, hf_k3_0⟩ := hA_53
      have oek3 := (ok214.el rfl _ (lT_mem (List.getElem_mem hk3))).2 rfl
      obtain ⟨B_k3, hdk3⟩ : ∃ z : List UInt8, z = B_k2 ++ plainTo (zipped fs_sFetchResponseTopicPartition v true ((lT (((lT (T.at 3))[k1]).at 2))[k2])) v 8 ++ (counted true a_k2_8.isNone (lT (((lT (((lT (T.at 3))[k1]).at 2))[k2]).at 8)).length 4) ++ ((lT (((lT (((lT (T.at 3))[k1]).at 2))[k2]).at 8)).take k3).flatMap (GOf (fs_sFetchResponseTopicPartition[8]'(by decide)) v true) := ⟨_, rfl⟩
      have rbk3 := pk30
      rw [← hdk3] at rbk3 ⊢
      have hBk3 : B_k3.length + (partB fs_sFetchResponseTopicPartitionAbortedTransaction v true ((lT (((lT (((lT (T.at 3))[k1]).at 2))[k2]).at 8))[k3])).length ≤ LIM := by rw [hdk3]; exact el_size hs214 hk3 (GOf_part (by decide) _)
      have hr_k3 := RanN.lT (RanN.at hr_k2 8) (List.getElem_mem hk3)
      refine asg rfl rfl ?_
      refine nl ?_
      refine sq ?_
      refine sr ?_
      refine mv rfl rfl ?_
      refine nc rfl rfl ?_
      refine fa F102_0 rfl rfl ?_
      refine ld (Says.fz hc_54) Tryz.isAgg2 rfl (Nat.add_zero _).symm rfl rfl ?_
      refine asg rfl rfl ?_
      refine nl ?_
      refine rg ?_
      refine mv rfl rfl ?_
      refine mv rfl rfl ?_
      have ok235 := oek3.get 0 (by decide) (has_yes (show (0 : Int) ≤ v by omega) (show ((-1) : Int) < 0 ∨ v ≤ (-1) by omega))
      have e_55 : B_k3 ++ (fixed ((((lT (((lT (((lT (T.at 3))[k1]).at 2))[k2]).at 8))[k3]).at 0).n) 8) = B_k3 ++ plainTo (zipped fs_sFetchResponseTopicPartitionAbortedTransaction v true ((lT (((lT (((lT (T.at 3))[k1]).at 2))[k2]).at 8))[k3])) v 1 := fold_first (fs := fs_sFetchResponseTopicPartitionAbortedTransaction) (v := v) (flex := true) (t := ((lT (((lT (((lT (T.at 3))[k1]).at 2))[k2]).at 8))[k3])) (B := B_k3) 0 rfl (by decide) (by decide) (has_yes (show (0 : Int) ≤ v by omega) (show ((-1) : Int) < 0 ∨ v ≤ (-1) by omega)) ((FB_int (f := (fs_sFetchResponseTopicPartitionAbortedTransaction[0]'(by decide))) (by decide) (by decide)).trans rfl)
      have hs235 := fold_size e_55 (by decide) hBk3
      refine cl rfl rfl rfl (OutK.cast (k_AppendInt64 (u := (((lT (((lT (((lT (T.at 3))[k1]).at 2))[k2]).at 8))[k3]).at 0).n) rbk3 hs235) e_55) rfl (fun v_ H1 L1 hle hR => ?_)
      obtain ⟨rfl, a235, c235, N235, rfl, rfl, h235⟩ := hR
      have r235 := h235.1
      refine asg rfl rfl ?_
      refine nl ?_
      refine sq ?_
      refine sr ?_
      refine mv rfl rfl ?_
      refine nc rfl rfl ?_
      refine fa F102_1 rfl rfl ?_
      refine ld (Says.fz hc_54) Tryz.isAgg2 rfl rfl rfl rfl ?_
      refine asg rfl rfl ?_
      refine nl ?_
      refine rg ?_
      refine mv rfl rfl ?_
      refine mv rfl rfl ?_
      have ok242 := oek3.get 1 (by decide) (has_yes (show (0 : Int) ≤ v by omega) (show ((-1) : Int) < 0 ∨ v ≤ (-1) by omega))
      have e_56 : B_k3 ++ plainTo (zipped fs_sFetchResponseTopicPartitionAbortedTransaction v true ((lT (((lT (((lT (T.at 3))[k1]).at 2))[k2]).at 8))[k3])) v 1 ++ (fixed ((((lT (((lT (((lT (T.at 3))[k1]).at 2))[k2]).at 8))[k3]).at 1).n) 8) = B_k3 ++ plainTo (zipped fs_sFetchResponseTopicPartitionAbortedTransaction v true ((lT (((lT (((lT (T.at 3))[k1]).at 2))[k2]).at 8))[k3])) v 2 := fold_yes (fs := fs_sFetchResponseTopicPartitionAbortedTransaction) (v := v) (flex := true) (t := ((lT (((lT (((lT (T.at 3))[k1]).at 2))[k2]).at 8))[k3])) (B := B_k3) 1 (by decide) (by decide) (has_yes (show (0 : Int) ≤ v by omega) (show ((-1) : Int) < 0 ∨ v ≤ (-1) by omega)) ((FB_int (f := (fs_sFetchResponseTopicPartitionAbortedTransaction[1]'(by decide))) (by decide) (by decide)).trans rfl)
      have hs242 := fold_size e_56 (by decide) hBk3
      refine cl rfl rfl rfl (OutK.cast (k_AppendInt64 (u := (((lT (((lT (((lT (T.at 3))[k1]).at 2))[k2]).at 8))[k3]).at 1).n) r235 hs242) e_56) rfl (fun v_ H1 L1 hle hR => ?_)
      obtain ⟨rfl, a242, c242, N242, rfl, rfl, h242⟩ := hR
      have r242 := h242.1
      refine asg rfl rfl ?_
      refine nl ?_
      refine sr ?_
      refine mv rfl rfl ?_
      refine nl ?_
      refine cdT rfl (by omega) ?_
      refine sr ?_
      refine mv rfl rfl ?_
      refine mv rfl rfl ?_
      refine nc rfl rfl ?_
      refine fa F102_2 rfl rfl ?_
      refine cl rfl rfl rfl (t_lenU (j := 2) hc_54 rfl (hf_k3_0).1) rfl (fun v_ H1 L1 hle hR => ?_)
      obtain ⟨rfl, rfl, rfl⟩ := hR
      have hu248 := oek3.u
      have hul248 := hu248.2.1
      obtain ⟨hz248a, hz248b⟩ := part_size_plain (by decide) hu248 hBk3
      refine cv Tryz.runUnderlying3 Tryz.runUnderlying62 rfl (w32u (by omega) (by omega)) rfl ?_
      refine ad rfl rfl ((w32u (by omega) (by omega)).trans (Int.zero_add _)) rfl ?_
      refine cl rfl rfl rfl (k_AppendUvarint (n := ((lT (((lT (((lT (T.at 3))[k1]).at 2))[k2]).at 8))[k3]).u.length) (by omega) r242 hz248a) rfl (fun v_ H1 L1 hle hR => ?_)
      obtain ⟨rfl, a251, c251, N251, rfl, rfl, h251⟩ := hR
      have r251 := h251.1
      refine asg rfl rfl ?_
      refine nl ?_
      refine rg ?_
      refine mv rfl rfl ?_
      refine nc rfl rfl ?_
      refine fa F102_2 rfl rfl ?_
      refine mv rfl rfl ?_
      refine cl rfl rfl rfl (t_append_each (j := 2) hc_54 rfl (hf_k3_0).1 (by omega) r251 (fun p hp => by have := hu248.2.2 p hp; omega) hz248b) rfl (fun v_ H1 L1 le_57 hR => ?_)
      obtain ⟨a256, c256, N256, rfl, rfl, h256⟩ := hR
      have r256 := h256.1
      have eP_58 : B_k3 ++ plainTo (zipped fs_sFetchResponseTopicPartitionAbortedTransaction v true ((lT (((lT (((lT (T.at 3))[k1]).at 2))[k2]).at 8))[k3])) v 2 ++ uvar ((lT (((lT (((lT (T.at 3))[k1]).at 2))[k2]).at 8))[k3]).u.length ++ ((lT (((lT (((lT (T.at 3))[k1]).at 2))[k2]).at 8))[k3]).u.flatMap tagU = B_k3 ++ partB fs_sFetchResponseTopicPartitionAbortedTransaction v true ((lT (((lT (((lT (T.at 3))[k1]).at 2))[k2]).at 8))[k3]) := part_close (B := B_k3) (by decide) hu248
      rw [eP_58] at r256 ⊢
      refine asg rfl rfl ?_
      refine nN ?_
      refine Nb ?_
      have ee_59 : B_k3 ++ partB fs_sFetchResponseTopicPartitionAbortedTransaction v true ((lT (((lT (((lT (T.at 3))[k1]).at 2))[k2]).at 8))[k3]) = B_k2 ++ plainTo (zipped fs_sFetchResponseTopicPartition v true ((lT (((lT (T.at 3))[k1]).at 2))[k2])) v 8 ++ (counted true a_k2_8.isNone (lT (((lT (((lT (T.at 3))[k1]).at 2))[k2]).at 8)).length 4) ++ ((lT (((lT (((lT (T.at 3))[k1]).at 2))[k2]).at 8)).take (k3 + 1)).flatMap (GOf (fs_sFetchResponseTopicPartition[8]'(by decide)) v true) := by rw [hdk3]; exact el_end (B0 := B_k2 ++ plainTo (zipped fs_sFetchResponseTopicPartition v true ((lT (((lT (T.at 3))[k1]).at 2))[k2])) v 8 ++ (counted true a_k2_8.isNone (lT (((lT (((lT (T.at 3))[k1]).at 2))[k2]).at 8)).length 4)) (G := (GOf (fs_sFetchResponseTopicPartition[8]'(by decide)) v true)) hk3 (GOf_part (by decide) _)
      refine fun a_ w_ hA hw => ⟨_, _, _, hA.sub ?_, (le_46.trans le_57), hw, _, rfl, _, _, _, _, rfl, rfl, (by rw [← ee_59]; exact r256), (by rw [← ee_59])⟩
      exact (.of ⟨rfl, rfl, rfl, rfl, rfl, rfl, rfl, rfl, rfl, rfl, rfl, rfl, rfl, rfl, rfl, trivial⟩)
     ·
      obtain ⟨a_k3, m_k3, c_k3, N_k3, rfl, rfl, pk30, pk31⟩ := hI
      refine toWp ?_
      have eL214 : B_k2 ++ plainTo (zipped fs_sFetchResponseTopicPartition v true ((lT (((lT (T.at 3))[k1]).at 2))[k2])) v 8 ++ (counted true a_k2_8.isNone (lT (((lT (((lT (T.at 3))[k1]).at 2))[k2]).at 8)).length 4) ++ ((lT (((lT (((lT (T.at 3))[k1]).at 2))[k2]).at 8)).take (lT (((lT (((lT (T.at 3))[k1]).at 2))[k2]).at 8)).length).flatMap (GOf (fs_sFetchResponseTopicPartition[8]'(by decide)) v true) = B_k2 ++ plainTo (zipped fs_sFetchResponseTopicPartition v true ((lT (((lT (T.at 3))[k1]).at 2))[k2])) v 9 := by rw [List.take_length, List.append_assoc]; exact e_45
      rw [eL214] at pk30 pk31
      subst pk31
      refine sq ?_
      refine sr ?_
      refine mv rfl rfl ?_
      refine ge rfl rfl rfl ?_
      refine nl ?_
      refine cdT rfl (by omega) ?_
      refine sr ?_
      refine mv rfl rfl ?_
      refine nc rfl rfl ?_
      refine fa F97_9 rfl rfl ?_
      refine ld (Says.fz (hc_36.mono le_47)) Tryz.isAgg21 rfl rfl rfl rfl ?_
      refine asg rfl rfl ?_
      refine nl ?_
      refine rg ?_
      refine mv rfl rfl ?_
      refine mv rfl rfl ?_
      have ok266 := oek2.get 9 (by decide) (has_yes (show (11 : Int) ≤ v by omega) (show ((-1) : Int) < 0 ∨ v ≤ (-1) by omega))
      have e_60 : B_k2 ++ plainTo (zipped fs_sFetchResponseTopicPartition v true ((lT (((lT (T.at 3))[k1]).at 2))[k2])) v 9 ++ (fixed (IntKind.i32.wrap (((lT (((lT (T.at 3))[k1]).at 2))[k2]).at 9).n) 4) = B_k2 ++ plainTo (zipped fs_sFetchResponseTopicPartition v true ((lT (((lT (T.at 3))[k1]).at 2))[k2])) v 10 := fold_yes (fs := fs_sFetchResponseTopicPartition) (v := v) (flex := true) (t := ((lT (((lT (T.at 3))[k1]).at 2))[k2])) (B := B_k2) 9 (by decide) (by decide) (has_yes (show (11 : Int) ≤ v by omega) (show ((-1) : Int) < 0 ∨ v ≤ (-1) by omega)) ((FB_int (f := (fs_sFetchResponseTopicPartition[9]'(by decide))) (by decide) (by decide)).trans (fixed_i32 _).symm)
      have hs266 := fold_size e_60 (by decide) hBk2
      refine cl rfl rfl rfl (OutK.cast (k_AppendInt32 (u := IntKind.i32.wrap (((lT (((lT (T.at 3))[k1]).at 2))[k2]).at 9).n) pk30 hs266) e_60) rfl (fun v_ H1 L1 hle hR => ?_)
      obtain ⟨rfl, a266, c266, N266, rfl, rfl, h266⟩ := hR
      have r266 := h266.1
      refine asg rfl rfl ?_
      refine nl ?_
      refine sq ?_
      refine sr ?_
      refine mv rfl rfl ?_
      refine nc rfl rfl ?_
      refine fa F97_10 rfl rfl ?_
      refine ld (Says.fz (hc_36.mono le_47)) Tryz.isAgg22 rfl rfl rfl rfl ?_
      refine asg rfl rfl ?_
      refine nl ?_
      refine sr ?_
      refine mv rfl rfl ?_
      refine nl ?_
      refine cdT rfl (by omega) ?_
      refine rg ?_
      refine mv rfl rfl ?_
      refine mv rfl rfl ?_
      have ok274 := oek2.get 10 (by decide) (has_yes (show (0 : Int) ≤ v by omega) (show ((-1) : Int) < 0 ∨ v ≤ (-1) by omega))
      have e_61 : B_k2 ++ plainTo (zipped fs_sFetchResponseTopicPartition v true ((lT (((lT (T.at 3))[k1]).at 2))[k2])) v 10 ++ (counted true (((lT (((lT (T.at 3))[k1]).at 2))[k2]).at 10).nul (sT (((lT (((lT (T.at 3))[k1]).at 2))[k2]).at 10)).length 4 ++ sT (((lT (((lT (T.at 3))[k1]).at 2))[k2]).at 10)) = B_k2 ++ plainTo (zipped fs_sFetchResponseTopicPartition v true ((lT (((lT (T.at 3))[k1]).at 2))[k2])) v 11 := fold_yes (fs := fs_sFetchResponseTopicPartition) (v := v) (flex := true) (t := ((lT (((lT (T.at 3))[k1]).at 2))[k2])) (B := B_k2) 10 (by decide) (by decide) (has_yes (show (0 : Int) ≤ v by omega) (show ((-1) : Int) < 0 ∨ v ≤ (-1) by omega)) (FB_bytes (f := (fs_sFetchResponseTopicPartition[10]'(by decide))) (by decide) (by decide) ok274)
      have hs274 := fold_size e_61 (by decide) hBk2
      refine cl rfl rfl rfl (OutK.cast (k_AppendCompactNullableBytes (hf_k2_4.mono le_47) (ok274.s (Or.inr rfl)) r266 hs274) e_61) rfl (fun v_ H1 L1 hle hR => ?_)
      obtain ⟨rfl, a274, c274, N274, rfl, rfl, h274⟩ := hR
      have r274 := h274.1
      refine asg rfl rfl ?_
      refine nl ?_
      refine sr ?_
      refine mv rfl rfl ?_
      refine nl ?_
      refine cdT rfl (by omega) ?_
      refine sr ?_
      have hug_62 := oek2.u
      have hulg_62 := hug_62.2.1
      obtain ⟨hzg_62a, hzg_62b, hzg_62c⟩ := tagsW_size on_fs_sFetchResponseTopicPartition hug_62 hBk2
      rw [kn_fs_sFetchResponseTopicPartition] at hzg_62b hzg_62c
      rw [show fs_sFetchResponseTopicPartition.length = 11 from rfl] at hzg_62a hzg_62b hzg_62c
      refine nilL ?_
      refine asg rfl rfl ?_
      refine nl ?_
      refine sq ?_
      refine sq ?_
      refine rgD 7 .nil mixed ?_
      refine dU 0 rfl rfl rfl (y_mv rfl) .nil ler ?_
      refine dU 1 rfl rfl rfl (y_nc rfl) .nil ler ?_
      refine dU 2 rfl rfl rfl (y_fa F97_5 rfl) .nil ler ?_
      refine dU 3 rfl rfl rfl (y_la (Says.fz (hc_36.mono le_47)) Tryz.isAgg90 Tryz.sizeOf90 rfl rfl rfl) .nil ler ?_
      refine dE 4 (by kernel_rfl) rfl ?_
      refine cl rfl rfl rfl clo_49 rfl (fun v_ H1 L1 hle hR => ?_)
      obtain ⟨rfl, rfl, rfl⟩ := hR
      refine dN .nil ler ?_
      refine dE 5 (by kernel_rfl) rfl ?_
      refine cl rfl rfl rfl zs_FetchResponseTopicPartitionDivergingEpoch rfl (fun v_ H1 L1 hle hR => ?_)
      obtain ⟨rfl, rfl, rfl⟩ := hR
      refine dN .nil ler ?_
      refine dU 6 rfl rfl rfl (y_nt rfl) .nil ler ?_
      refine dD (by kernel_rfl) ?_
      refine Nt ?_
      have okt_63 := oek2.get 5 (by decide) (has_yes (show (0 : Int) ≤ v by omega) (show ((-1) : Int) < 0 ∨ v ≤ (-1) by omega))
      refine cutT (fun l' H' L' => ∃ (at_63 : Option Addr), ∃ (mt_63 : Nat), ∃ (ct_63 : Nat), ∃ (Nt_63 : Chunk), ∃ (et_63 : Option Addr), ∃ (nt_63 : Nat), ∃ (dt_63 : Nat), ∃ (NEt_63 : Chunk), [(0, .pointer (some ⟨b, 0, none⟩)), (1, .slice at_63 mt_63 ct_63), (5, .int .i16 v), (6, .bool (decide ((12 : Int) ≤ v))), (10, .slice a3 (lT (T.at 3)).length c3), (12, .pointer (some ⟨b_7, o_8 + k1 * 19, none⟩)), (15, .slice a_k1_2 (lT (((lT (T.at 3))[k1]).at 2)).length c_k1_2), (17, .pointer (some ⟨b_30, o_31 + k2 * 18, none⟩)), (30, .slice et_63 nt_63 dt_63), (109, .int .i64 ((lT (T.at 3)).length : Int)), (110, .int .i64 (k1 : Int)), (156, .int .i64 ((lT (((lT (T.at 3))[k1]).at 2)).length : Int)), (157, .int .i64 (k2 : Int))] = l' ∧ NEt_63 :: Nt_63 :: L = L' ∧ Row 5 1 at_63 mt_63 ct_63 (bytesOf (B_k2 ++ plainTo (zipped fs_sFetchResponseTopicPartition v true ((lT (((lT (T.at 3))[k1]).at 2))[k2])) v 11)) Nt_63 ∧ mt_63 = (B_k2 ++ plainTo (zipped fs_sFetchResponseTopicPartition v true ((lT (((lT (T.at 3))[k1]).at 2))[k2])) v 11).length ∧ Row 62 1 et_63 nt_63 dt_63 (u32L (encT (tgU fs_sFetchResponseTopicPartition ((lT (((lT (T.at 3))[k1]).at 2))[k2])) 1)) NEt_63 ∧ nt_63 = (encT (tgU fs_sFetchResponseTopicPartition ((lT (((lT (T.at 3))[k1]).at 2))[k2])) 1).length) ?_ (fun l' H' L' le_64 hI => ?_)
      ·
       refine cb rfl (fun h285 => ?_) (fun h285 => ?_)
       ·
        refine rg ?_
        refine mv rfl rfl ?_
        refine bs' L105 rfl rfl rfl rfl (fun b_65 => ?_)
        refine ap (k := 1) (news := [.int .u32 ((0 : Nat) : Int)]) Tryz.underlying105 I62 rfl rfl (Row.nil _ _) (fun _ => (.tail .head)) (src_says Tryz.underlying105 rfl (fun _ => Says.own .head) (by intro u hu; simp at hu; subst hu; rfl)) (by have := encT_len (tgU fs_sFetchResponseTopicPartition ((lT (((lT (T.at 3))[k1]).at 2))[k2])) 0; omega) (by have := encT_len (tgU fs_sFetchResponseTopicPartition ((lT (((lT (T.at 3))[k1]).at 2))[k2])) 0; unfold maxLen; omega) rfl (fun a288 c288 N288 r288 z288 => ?_)
        have q288 : Row 62 1 a288 (0 + 1) c288 (u32L ((encT (tgU fs_sFetchResponseTopicPartition ((lT (((lT (T.at 3))[k1]).at 2))[k2])) 0) ++ [0])) N288 := by rw [← u32L_snoc]; exact r288
        refine asg rfl rfl ?_
        refine nN ?_
        refine drN .head ?_
        have hiuokt_63 : unknown fs_sFetchResponseTopicPartitionDivergingEpoch (((lT (((lT (T.at 3))[k1]).at 2))[k2]).at 5).u = (((lT (((lT (T.at 3))[k1]).at 2))[k2]).at 5).u := (okt_63.part rfl (okt_63.nnT (by decide) (by decide))).u.1
        have utt_63 : (tgU fs_sFetchResponseTopicPartition ((lT (((lT (T.at 3))[k1]).at 2))[k2])) 0 = false := (tu_fs_sFetchResponseTopicPartition_0 _).trans ((us_FetchResponseTopicPartitionDivergingEpoch rfl rfl (RanN.at hr_k2 5) hiuokt_63).trans (by rw [← ((hf_k2_0.mono le_47)).isNone]; exact bnt h285))
        have uet_63 := encT_yes utt_63
        refine fun a_ w_ hA hw => ⟨_, _, _, hA.sub ?_, ler, hw, _, _, _, N274, _, _, _, N288, rfl, rfl, r274, rfl, (by rw [uet_63]; exact q288), (by rw [uet_63, List.length_append]; rfl)⟩
        exact (.of ⟨rfl, rfl, rfl, rfl, rfl, rfl, rfl, rfl, rfl, rfl, rfl, rfl, rfl, trivial⟩)
       ·
        refine skN ?_
        have hiuokt_63 : unknown fs_sFetchResponseTopicPartitionDivergingEpoch (((lT (((lT (T.at 3))[k1]).at 2))[k2]).at 5).u = (((lT (((lT (T.at 3))[k1]).at 2))[k2]).at 5).u := (okt_63.part rfl (okt_63.nnT (by decide) (by decide))).u.1
        have utt_63 : (tgU fs_sFetchResponseTopicPartition ((lT (((lT (T.at 3))[k1]).at 2))[k2])) 0 = true := (tu_fs_sFetchResponseTopicPartition_0 _).trans ((us_FetchResponseTopicPartitionDivergingEpoch rfl rfl (RanN.at hr_k2 5) hiuokt_63).trans (by rw [← ((hf_k2_0.mono le_47)).isNone]; exact bnf h285))
        have uet_63 := encT_no utt_63
        refine fun a_ w_ hA hw => ⟨_, _, _, hA.sub ?_, ler, hw, _, _, _, N274, _, _, _, [], rfl, rfl, r274, rfl, (by rw [uet_63]; exact (Row.nil _ _)), (by rw [uet_63]; exact rfl)⟩
        exact (.of ⟨rfl, rfl, rfl, rfl, rfl, rfl, rfl, rfl, rfl, rfl, rfl, rfl, rfl, trivial⟩)
      ·
       obtain ⟨at_63, mt_63, ct_63, Nt_63, et_63, nt_63, dt_63, NEt_63, rfl, rfl, pj0, pj1, pj2, pj3⟩ := hI
       subst pj1
       subst pj3
       have rt_63 := pj0
       have rEt_63 := pj2
       refine sq ?_
       refine sq ?_
       refine rgD 7 .nil mixed ?_
       refine dU 0 rfl rfl rfl (y_mv rfl) .nil ler ?_
       refine dU 1 rfl rfl rfl (y_nc rfl) .nil ler ?_
       refine dU 2 rfl rfl rfl (y_fa F97_6 rfl) .nil ler ?_
       refine dU 3 rfl rfl rfl (y_la (Says.fz (hc_36.mono (le_47.trans le_64))) Tryz.isAgg92 Tryz.sizeOf92 rfl rfl rfl) .nil ler ?_
       refine dE 4 (by kernel_rfl) rfl ?_
       refine cl rfl rfl rfl clo_52 rfl (fun v_ H1 L1 hle hR => ?_)
       obtain ⟨rfl, rfl, rfl⟩ := hR
       refine dN .nil ler ?_
       refine dE 5 (by kernel_rfl) rfl ?_
       refine cl rfl rfl rfl zs_FetchResponseTopicPartitionCurrentLeader rfl (fun v_ H1 L1 hle hR => ?_)
       obtain ⟨rfl, rfl, rfl⟩ := hR
       refine dN .nil ler ?_
       refine dU 6 rfl rfl rfl (y_nt rfl) .nil ler ?_
       refine dD (by kernel_rfl) ?_
       refine Nt ?_
       have okt_66 := oek2.get 6 (by decide) (has_yes (show (0 : Int) ≤ v by omega) (show ((-1) : Int) < 0 ∨ v ≤ (-1) by omega))
       refine cutT (fun l' H' L' => ∃ (at_66 : Option Addr), ∃ (mt_66 : Nat), ∃ (ct_66 : Nat), ∃ (Nt_66 : Chunk), ∃ (et_66 : Option Addr), ∃ (nt_66 : Nat), ∃ (dt_66 : Nat), ∃ (NEt_66 : Chunk), [(0, .pointer (some ⟨b, 0, none⟩)), (1, .slice at_66 mt_66 ct_66), (5, .int .i16 v), (6, .bool (decide ((12 : Int) ≤ v))), (10, .slice a3 (lT (T.at 3)).length c3), (12, .pointer (some ⟨b_7, o_8 + k1 * 19, none⟩)), (15, .slice a_k1_2 (lT (((lT (T.at 3))[k1]).at 2)).length c_k1_2), (17, .pointer (some ⟨b_30, o_31 + k2 * 18, none⟩)), (30, .slice et_66 nt_66 dt_66), (109, .int .i64 ((lT (T.at 3)).length : Int)), (110, .int .i64 (k1 : Int)), (156, .int .i64 ((lT (((lT (T.at 3))[k1]).at 2)).length : Int)), (157, .int .i64 (k2 : Int))] = l' ∧ NEt_66 :: Nt_66 :: L = L' ∧ Row 5 1 at_66 mt_66 ct_66 (bytesOf (B_k2 ++ plainTo (zipped fs_sFetchResponseTopicPartition v true ((lT (((lT (T.at 3))[k1]).at 2))[k2])) v 11)) Nt_66 ∧ mt_66 = (B_k2 ++ plainTo (zipped fs_sFetchResponseTopicPartition v true ((lT (((lT (T.at 3))[k1]).at 2))[k2])) v 11).length ∧ Row 62 1 et_66 nt_66 dt_66 (u32L (encT (tgU fs_sFetchResponseTopicPartition ((lT (((lT (T.at 3))[k1]).at 2))[k2])) 2)) NEt_66 ∧ nt_66 = (encT (tgU fs_sFetchResponseTopicPartition ((lT (((lT (T.at 3))[k1]).at 2))[k2])) 2).length) ?_ (fun l' H' L' le_67 hI => ?_)
       ·
        refine cb rfl (fun h295 => ?_) (fun h295 => ?_)
        ·
         refine rg ?_
         refine mv rfl rfl ?_
         refine bs' L105 rfl rfl rfl rfl (fun b_68 => ?_)
         refine ap (k := 1) (news := [.int .u32 ((1 : Nat) : Int)]) Tryz.underlying105 I62 rfl rfl rEt_63 (fun _ => (.tail .head)) (src_says Tryz.underlying105 rfl (fun _ => Says.own .head) (by intro u hu; simp at hu; subst hu; rfl)) (by have := encT_len (tgU fs_sFetchResponseTopicPartition ((lT (((lT (T.at 3))[k1]).at 2))[k2])) 1; omega) (by have := encT_len (tgU fs_sFetchResponseTopicPartition ((lT (((lT (T.at 3))[k1]).at 2))[k2])) 1; unfold maxLen; omega) rfl (fun a298 c298 N298 r298 z298 => ?_)
         have q298 : Row 62 1 a298 ((encT (tgU fs_sFetchResponseTopicPartition ((lT (((lT (T.at 3))[k1]).at 2))[k2])) 1).length + 1) c298 (u32L ((encT (tgU fs_sFetchResponseTopicPartition ((lT (((lT (T.at 3))[k1]).at 2))[k2])) 1) ++ [1])) N298 := by rw [← u32L_snoc]; exact r298
         refine asg rfl rfl ?_
         refine nN ?_
         refine drN .head ?_
         have hiuokt_66 : unknown fs_sFetchResponseTopicPartitionCurrentLeader (((lT (((lT (T.at 3))[k1]).at 2))[k2]).at 6).u = (((lT (((lT (T.at 3))[k1]).at 2))[k2]).at 6).u := (okt_66.part rfl (okt_66.nnT (by decide) (by decide))).u.1
         have utt_66 : (tgU fs_sFetchResponseTopicPartition ((lT (((lT (T.at 3))[k1]).at 2))[k2])) 1 = false := (tu_fs_sFetchResponseTopicPartition_1 _).trans ((us_FetchResponseTopicPartitionCurrentLeader rfl rfl (RanN.at hr_k2 6) hiuokt_66).trans (by rw [← ((hf_k2_1.mono (le_47.trans le_64))).isNone]; exact bnt h295))
         have uet_66 := encT_yes utt_66
         refine fun a_ w_ hA hw => ⟨_, _, _, hA.sub ?_, ler, hw, _, _, _, Nt_63, _, _, _, N298, rfl, rfl, rt_63, rfl, (by rw [uet_66]; exact q298), (by rw [uet_66, List.length_append]; rfl)⟩
         exact (.of ⟨rfl, rfl, rfl, rfl, rfl, rfl, rfl, rfl, rfl, rfl, rfl, rfl, rfl, trivial⟩)
        ·
         refine skN ?_
         have hiuokt_66 : unknown fs_sFetchResponseTopicPartitionCurrentLeader (((lT (((lT (T.at 3))[k1]).at 2))[k2]).at 6).u = (((lT (((lT (T.at 3))[k1]).at 2))[k2]).at 6).u := (okt_66.part rfl (okt_66.nnT (by decide) (by decide))).u.1
         have utt_66 : (tgU fs_sFetchResponseTopicPartition ((lT (((lT (T.at 3))[k1]).at 2))[k2])) 1 = true := (tu_fs_sFetchResponseTopicPartition_1 _).trans ((us_FetchResponseTopicPartitionCurrentLeader rfl rfl (RanN.at hr_k2 6) hiuokt_66).trans (by rw [← ((hf_k2_1.mono (le_47.trans le_64))).isNone]; exact bnf h295))
         have uet_66 := encT_no utt_66
         refine fun a_ w_ hA hw => ⟨_, _, _, hA.sub ?_, ler, hw, _, _, _, Nt_63, _, _, _, NEt_63, rfl, rfl, rt_63, rfl, (by rw [uet_66]; exact rEt_63), (by rw [uet_66])⟩
         exact (.of ⟨rfl, rfl, rfl, rfl, rfl, rfl, rfl, rfl, rfl, rfl, rfl, rfl, rfl, trivial⟩)
       ·
        obtain ⟨at_66, mt_66, ct_66, Nt_66, et_66, nt_66, dt_66, NEt_66, rfl, rfl, pj0, pj1, pj2, pj3⟩ := hI
        subst pj1
        subst pj3
        have rt_66 := pj0
        have rEt_66 := pj2
        refine sq ?_
        refine sq ?_
        refine rgD 7 .nil mixed ?_
        refine dU 0 rfl rfl rfl (y_mv rfl) .nil ler ?_
        refine dU 1 rfl rfl rfl (y_nc rfl) .nil ler ?_
        refine dU 2 rfl rfl rfl (y_fa F97_7 rfl) .nil ler ?_
        refine dU 3 rfl rfl rfl (y_la (Says.fz (hc_36.mono (le_47.trans (le_64.trans le_67)))) Tryz.isAgg94 Tryz.sizeOf94 rfl rfl rfl) .nil ler ?_
        refine dE 4 (by kernel_rfl) rfl ?_
        refine cl rfl rfl rfl clo_55 rfl (fun v_ H1 L1 hle hR => ?_)
        obtain ⟨rfl, rfl, rfl⟩ := hR
        refine dN .nil ler ?_
        refine dE 5 (by kernel_rfl) rfl ?_
        refine cl rfl rfl rfl zs_FetchResponseTopicPartitionSnapshotID rfl (fun v_ H1 L1 hle hR => ?_)
        obtain ⟨rfl, rfl, rfl⟩ := hR
        refine dN .nil ler ?_
        refine dU 6 rfl rfl rfl (y_nt rfl) .nil ler ?_
        refine dD (by kernel_rfl) ?_
        refine Nt ?_
        have okt_69 := oek2.get 7 (by decide) (has_yes (show (0 : Int) ≤ v by omega) (show ((-1) : Int) < 0 ∨ v ≤ (-1) by omega))
        refine cutT (fun l' H' L' => ∃ (at_69 : Option Addr), ∃ (mt_69 : Nat), ∃ (ct_69 : Nat), ∃ (Nt_69 : Chunk), ∃ (et_69 : Option Addr), ∃ (nt_69 : Nat), ∃ (dt_69 : Nat), ∃ (NEt_69 : Chunk), [(0, .pointer (some ⟨b, 0, none⟩)), (1, .slice at_69 mt_69 ct_69), (5, .int .i16 v), (6, .bool (decide ((12 : Int) ≤ v))), (10, .slice a3 (lT (T.at 3)).length c3), (12, .pointer (some ⟨b_7, o_8 + k1 * 19, none⟩)), (15, .slice a_k1_2 (lT (((lT (T.at 3))[k1]).at 2)).length c_k1_2), (17, .pointer (some ⟨b_30, o_31 + k2 * 18, none⟩)), (30, .slice et_69 nt_69 dt_69), (109, .int .i64 ((lT (T.at 3)).length : Int)), (110, .int .i64 (k1 : Int)), (156, .int .i64 ((lT (((lT (T.at 3))[k1]).at 2)).length : Int)), (157, .int .i64 (k2 : Int))] = l' ∧ NEt_69 :: Nt_69 :: L = L' ∧ Row 5 1 at_69 mt_69 ct_69 (bytesOf (B_k2 ++ plainTo (zipped fs_sFetchResponseTopicPartition v true ((lT (((lT (T.at 3))[k1]).at 2))[k2])) v 11)) Nt_69 ∧ mt_69 = (B_k2 ++ plainTo (zipped fs_sFetchResponseTopicPartition v true ((lT (((lT (T.at 3))[k1]).at 2))[k2])) v 11).length ∧ Row 62 1 et_69 nt_69 dt_69 (u32L (encT (tgU fs_sFetchResponseTopicPartition ((lT (((lT (T.at 3))[k1]).at 2))[k2])) 3)) NEt_69 ∧ nt_69 = (encT (tgU fs_sFetchResponseTopicPartition ((lT (((lT (T.at 3))[k1]).at 2))[k2])) 3).length) ?_ (fun l' H' L' le_70 hI => ?_)
        ·
         refine cb rfl (fun h305 => ?_) (fun h305 => ?_)
         ·
          refine rg ?_
          refine mv rfl rfl ?_
          refine bs' L105 rfl rfl rfl rfl (fun b_71 => ?_)
          refine ap (k := 1) (news := [.int .u32 ((2 : Nat) : Int)]) Tryz.underlying105 I62 rfl rfl rEt_66 (fun _ => (.tail .head)) (src_says Tryz.underlying105 rfl (fun _ => Says.own .head) (by intro u hu; simp at hu; subst hu; rfl)) (by have := encT_len (tgU fs_sFetchResponseTopicPartition ((lT (((lT (T.at 3))[k1]).at 2))[k2])) 2; omega) (by have := encT_len (tgU fs_sFetchResponseTopicPartition ((lT (((lT (T.at 3))[k1]).at 2))[k2])) 2; unfold maxLen; omega) rfl (fun a308 c308 N308 r308 z308 => ?_)
          have q308 : Row 62 1 a308 ((encT (tgU fs_sFetchResponseTopicPartition ((lT (((lT (T.at 3))[k1]).at 2))[k2])) 2).length + 1) c308 (u32L ((encT (tgU fs_sFetchResponseTopicPartition ((lT (((lT (T.at 3))[k1]).at 2))[k2])) 2) ++ [2])) N308 := by rw [← u32L_snoc]; exact r308
          refine asg rfl rfl ?_
          refine nN ?_
          refine drN .head ?_
          have hiuokt_69 : unknown fs_sFetchResponseTopicPartitionSnapshotID (((lT (((lT (T.at 3))[k1]).at 2))[k2]).at 7).u = (((lT (((lT (T.at 3))[k1]).at 2))[k2]).at 7).u := (okt_69.part rfl (okt_69.nnT (by decide) (by decide))).u.1
          have utt_69 : (tgU fs_sFetchResponseTopicPartition ((lT (((lT (T.at 3))[k1]).at 2))[k2])) 2 = false := (tu_fs_sFetchResponseTopicPartition_2 _).trans ((us_FetchResponseTopicPartitionSnapshotID rfl rfl (RanN.at hr_k2 7) hiuokt_69).trans (by rw [← ((hf_k2_2.mono (le_47.trans (le_64.trans le_67)))).isNone]; exact bnt h305))
          have uet_69 := encT_yes utt_69
          refine fun a_ w_ hA hw => ⟨_, _, _, hA.sub ?_, ler, hw, _, _, _, Nt_66, _, _, _, N308, rfl, rfl, rt_66, rfl, (by rw [uet_69]; exact q308), (by rw [uet_69, List.length_append]; rfl)⟩
          exact (.of ⟨rfl, rfl, rfl, rfl, rfl, rfl, rfl, rfl, rfl, rfl, rfl, rfl, rfl, trivial⟩)
         ·
          refine skN ?_
          have hiuokt_69 : unknown fs_sFetchResponseTopicPartitionSnapshotID (((lT (((lT (T.at 3))[k1]).at 2))[k2]).at 7).u = (((lT (((lT (T.at 3))[k1]).at 2))[k2]).at 7).u := (okt_69.part rfl (okt_69.nnT (by decide) (by decide))).u.1
          have utt_69 : (tgU fs_sFetchResponseTopicPartition ((lT (((lT (T.at 3))[k1]).at 2))[k2])) 2 = true := (tu_fs_sFetchResponseTopicPartition_2 _).trans ((us_FetchResponseTopicPartitionSnapshotID rfl rfl (RanN.at hr_k2 7) hiuokt_69).trans (by rw [← ((hf_k2_2.mono (le_47.trans (le_64.trans le_67)))).isNone]; exact bnf h305))
          have uet_69 := encT_no utt_69
          refine fun a_ w_ hA hw => ⟨_, _, _, hA.sub ?_, ler, hw, _, _, _, Nt_66, _, _, _, NEt_66, rfl, rfl, rt_66, rfl, (by rw [uet_69]; exact rEt_66), (by rw [uet_69])⟩
          exact (.of ⟨rfl, rfl, rfl, rfl, rfl, rfl, rfl, rfl, rfl, rfl, rfl, rfl, rfl, trivial⟩)
        ·
         obtain ⟨at_69, mt_69, ct_69, Nt_69, et_69, nt_69, dt_69, NEt_69, rfl, rfl, pj0, pj1, pj2, pj3⟩ := hI
         subst pj1
         subst pj3
         have rt_69 := pj0
         have rEt_69 := pj2
         have helg_62 := encT_len (tgU fs_sFetchResponseTopicPartition ((lT (((lT (T.at 3))[k1]).at 2))[k2])) 3
         refine sr ?_
         refine mv rfl rfl ?_
         refine mv rfl rfl ?_
         refine ls Tryz.runUnderlying105 rfl rfl ?_
         refine mv rfl rfl ?_
         refine nc rfl rfl ?_
         refine fa F97_11 rfl rfl ?_
         refine cl rfl rfl rfl (t_lenU (j := 17) (hc_36.mono (le_47.trans (le_64.trans (le_67.trans le_70)))) rfl ((hf_k2_5.mono (le_47.trans (le_64.trans (le_67.trans le_70))))).1) rfl (fun v_ H1 L1 hle hR => ?_)
         obtain ⟨rfl, rfl, rfl⟩ := hR
         refine ad rfl rfl (tgN_add kn_fs_sFetchResponseTopicPartition (by omega)) rfl ?_
         refine cv Tryz.runUnderlying3 Tryz.runUnderlying62 rfl (w32u (by omega) (by unfold tgN; rw [kn_fs_sFetchResponseTopicPartition]; omega)) rfl ?_
         refine tf (.tail .head) ?_
         refine cl rfl rfl rfl (k_AppendUvarint (n := tgN fs_sFetchResponseTopicPartition ((lT (((lT (T.at 3))[k1]).at 2))[k2])) (by unfold tgN; rw [kn_fs_sFetchResponseTopicPartition]; omega) rt_69 hzg_62a) rfl (fun v_ H1 L1 hle hR => ?_)
         obtain ⟨rfl, a318, c318, N318, rfl, rfl, h318⟩ := hR
         have r318 := h318.1
         refine asg rfl rfl ?_
         refine nl ?_
         refine sq ?_
         refine sr ?_
         refine mv rfl rfl ?_
         refine ls Tryz.runUnderlying105 rfl rfl ?_
         refine mv rfl rfl ?_
         refine nl ?_
         refine frW rEt_69 (.tail .head) (fun HEg_62 lEg_62 zEg_62 => ?_)
         refine fr ((encT (tgU fs_sFetchResponseTopicPartition ((lT (((lT (T.at 3))[k1]).at 2))[k2])) 3).length) (fun k4 l' H' L' => ∃ (a_k4 : Option Addr), ∃ (m_k4 : Nat), ∃ (c_k4 : Nat), ∃ (N_k4 : Chunk), [(0, .pointer (some ⟨b, 0, none⟩)), (1, .slice a_k4 m_k4 c_k4), (5, .int .i16 v), (6, .bool (decide ((12 : Int) ≤ v))), (10, .slice a3 (lT (T.at 3)).length c3), (12, .pointer (some ⟨b_7, o_8 + k1 * 19, none⟩)), (15, .slice a_k1_2 (lT (((lT (T.at 3))[k1]).at 2)).length c_k1_2), (17, .pointer (some ⟨b_30, o_31 + k2 * 18, none⟩)), (109, .int .i64 ((lT (T.at 3)).length : Int)), (110, .int .i64 (k1 : Int)), (156, .int .i64 ((lT (((lT (T.at 3))[k1]).at 2)).length : Int)), (157, .int .i64 (k2 : Int)), (319, .slice et_69 (encT (tgU fs_sFetchResponseTopicPartition ((lT (((lT (T.at 3))[k1]).at 2))[k2])) 3).length dt_69), (320, .int .i64 ((encT (tgU fs_sFetchResponseTopicPartition ((lT (((lT (T.at 3))[k1]).at 2))[k2])) 3).length : Int))] = l' ∧ N_k4 :: L = L' ∧ Row 5 1 a_k4 m_k4 c_k4 (bytesOf (B_k2 ++ plainTo (zipped fs_sFetchResponseTopicPartition v true ((lT (((lT (T.at 3))[k1]).at 2))[k2])) v 11 ++ uvar (tgN fs_sFetchResponseTopicPartition ((lT (((lT (T.at 3))[k1]).at 2))[k2])) ++ ((encT (tgU fs_sFetchResponseTopicPartition ((lT (((lT (T.at 3))[k1]).at 2))[k2])) 3).take k4).flatMap (tgO fs_sFetchResponseTopicPartition v ((lT (((lT (T.at 3))[k1]).at 2))[k2])))) N_k4 ∧ m_k4 = (B_k2 ++ plainTo (zipped fs_sFetchResponseTopicPartition v true ((lT (((lT (T.at 3))[k1]).at 2))[k2])) v 11 ++ uvar (tgN fs_sFetchResponseTopicPartition ((lT (((lT (T.at 3))[k1]).at 2))[k2])) ++ ((encT (tgU fs_sFetchResponseTopicPartition ((lT (((lT (T.at 3))[k1]).at 2))[k2])) 3).take k4).flatMap (tgO fs_sFetchResponseTopicPartition v ((lT (((lT (T.at 3))[k1]).at 2))[k2]))).length) [(0, .pointer (some ⟨b, 0, none⟩)), (1, .slice _ _ _), (5, .int .i16 v), (6, .bool (decide ((12 : Int) ≤ v))), (10, .slice a3 (lT (T.at 3)).length c3), (12, .pointer (some ⟨b_7, o_8 + k1 * 19, none⟩)), (15, .slice a_k1_2 (lT (((lT (T.at 3))[k1]).at 2)).length c_k1_2), (17, .pointer (some ⟨b_30, o_31 + k2 * 18, none⟩)), (109, .int .i64 ((lT (T.at 3)).length : Int)), (110, .int .i64 (k1 : Int)), (156, .int .i64 ((lT (((lT (T.at 3))[k1]).at 2)).length : Int)), (157, .int .i64 (k2 : Int)), (319, .slice et_69 (encT (tgU fs_sFetchResponseTopicPartition ((lT (((lT (T.at 3))[k1]).at 2))[k2])) 3).length dt_69), (320, .int .i64 ((encT (tgU fs_sFetchResponseTopicPartition ((lT (((lT (T.at 3))[k1]).at 2))[k2])) 3).length : Int))] (fun k4 l' H' L' h => ?_) (by have := helg_62; omega) rfl (.of ⟨rfl, rfl, rfl, rfl, rfl, rfl, rfl, rfl, rfl, rfl, rfl, rfl, rfl, rfl, trivial⟩) ⟨_, _, _, _, rfl, rfl, (by rw [List.take_zero, List.flatMap_nil, List.append_nil]; exact r318), (by rw [List.take_zero, List.flatMap_nil, List.append_nil])⟩ rfl rfl rfl rfl rfl (fun k4 l' H' L' hk4 le_72 hI => ?_) (fun l' H' L' le_73 hI => ?_)
         · obtain ⟨a_k4, m_k4, c_k4, N_k4, rfl, _⟩ := h; exact ⟨rfl, rfl, rfl, rfl⟩
         ·
          obtain ⟨a_k4, m_k4, c_k4, N_k4, rfl, rfl, pk40, pk41⟩ := hI
          subst pk41
          refine sr ?_
          obtain ⟨g_74, eg_74, hg_74⟩ := enc_at zEg_62 rfl hk4
          refine ix2 Tryz.runUnderlying105 Tryz.sizeOf62 rfl eg_74 rfl rfl hk4 rfl ?_
          refine ld (j := k4) (Says.fz (hg_74.mono le_72)) Tryz.isAgg62 rfl (by omega) (u32L_nth hk4) rfl ?_
          refine asg rfl rfl ?_
          refine nl ?_
          refine sr ?_
          refine mv rfl rfl ?_
          refine nl ?_
          refine bl ?_
          refine sr ?_
          refine eq' rfl rfl rfl ?_
          refine asg rfl rfl ?_
          refine nl ?_
          refine cd rfl (fun hsk4_0 => ?_) (fun hsk4_0 => ?_)
          ·
           have hck4 : (encT (tgU fs_sFetchResponseTopicPartition ((lT (((lT (T.at 3))[k1]).at 2))[k2])) 3)[k4] = 0 := by omega
           have hsk4 := hzg_62b k4 hk4
           rw [hck4, to_fs_sFetchResponseTopicPartition_0] at hsk4
           obtain ⟨Xk4, hdXk4⟩ : ∃ z : List UInt8, z = B_k2 ++ plainTo (zipped fs_sFetchResponseTopicPartition v true ((lT (((lT (T.at 3))[k1]).at 2))[k2])) v 11 ++ uvar (tgN fs_sFetchResponseTopicPartition ((lT (((lT (T.at 3))[k1]).at 2))[k2])) ++ ((encT (tgU fs_sFetchResponseTopicPartition ((lT (((lT (T.at 3))[k1]).at 2))[k2])) 3).take k4).flatMap (tgO fs_sFetchResponseTopicPartition v ((lT (((lT (T.at 3))[k1]).at 2))[k2])) := ⟨_, rfl⟩
           have rbXk4 := pk40
           rw [← hdXk4] at rbXk4 ⊢
           rw [← hdXk4] at hsk4
           obtain ⟨Bs_75, hds_75⟩ : ∃ z : List UInt8, z = Xk4 ++ uvar 0 := ⟨_, rfl⟩
           have hBs_75 : Bs_75.length + (fieldB (fs_sFetchResponseTopicPartition[5]'(by decide)) v true (((lT (((lT (T.at 3))[k1]).at 2))[k2]).at 5)).length ≤ LIM := by have h := hsk4; rw [tagB_len] at h; rw [hds_75]; simp only [List.length_append]; omega
           have h32s_75 : (fieldB (fs_sFetchResponseTopicPartition[5]'(by decide)) v true (((lT (((lT (T.at 3))[k1]).at 2))[k2]).at 5)).length < 4294967296 := by have h := hBs_75; unfold LIM at h; omega
           refine scT 0 (fun l' H' L' => ∃ (as_75 : Option Addr) (ms_75 cs_75 : Nat) (Ns_75 : Chunk) (b_76 : Nat), [(0, .pointer (some ⟨b, 0, none⟩)), (1, .slice as_75 ms_75 cs_75), (5, .int .i16 v), (6, .bool (decide ((12 : Int) ≤ v))), (10, .slice a3 (lT (T.at 3)).length c3), (12, .pointer (some ⟨b_7, o_8 + k1 * 19, none⟩)), (15, .slice a_k1_2 (lT (((lT (T.at 3))[k1]).at 2)).length c_k1_2), (17, .pointer (some ⟨b_30, o_31 + k2 * 18, none⟩)), (33, .pointer (some ⟨b_76, 0, none⟩)), (34, .bool true), (35, .int .i64 ((Bs_75).length : Int)), (109, .int .i64 ((lT (T.at 3)).length : Int)), (110, .int .i64 (k1 : Int)), (156, .int .i64 ((lT (((lT (T.at 3))[k1]).at 2)).length : Int)), (157, .int .i64 (k2 : Int)), (319, .slice et_69 (encT (tgU fs_sFetchResponseTopicPartition ((lT (((lT (T.at 3))[k1]).at 2))[k2])) 3).length dt_69), (320, .int .i64 ((encT (tgU fs_sFetchResponseTopicPartition ((lT (((lT (T.at 3))[k1]).at 2))[k2])) 3).length : Int)), (321, .int .i64 (k4 : Int))] = l' ∧ Ns_75 :: L = L' ∧ Row 5 1 as_75 ms_75 cs_75 (bytesOf (Bs_75 ++ uvar (fieldB (fs_sFetchResponseTopicPartition[5]'(by decide)) v true (((lT (((lT (T.at 3))[k1]).at 2))[k2]).at 5)).length)) Ns_75 ∧ ms_75 = (Bs_75 ++ uvar (fieldB (fs_sFetchResponseTopicPartition[5]'(by decide)) v true (((lT (((lT (T.at 3))[k1]).at 2))[k2]).at 5)).length).length ∧ H'.at b_76 0 [.int .i32 (IntKind.i32.wrap ((((lT (((lT (T.at 3))[k1]).at 2))[k2]).at 5).at 0).n), .int .i64 ((((lT (((lT (T.at 3))[k1]).at 2))[k2]).at 5).at 1).n, .map m_k2_5_t]) rfl ?_ (fun l' H' L' les_75 hI => ?_)
           ·
            refine sr ?_
            refine mv rfl rfl ?_
            refine nc rfl rfl ?_
            refine fa F97_5 rfl rfl ?_
            refine la (Says.fz (hc_36.mono (le_47.trans (le_64.trans (le_67.trans (le_70.trans (lEg_62.trans le_72))))))) Tryz.isAgg90 Tryz.sizeOf90 rfl rfl rfl rfl ?_
            refine al Tryz.zeroValue90 rfl rfl (fun b_76 => ?_)
            refine sa Tryz.sizeOf90 rfl rfl rfl rfl rfl .head ?_
            refine frL (Row.whole (size := 3) (m := 1) (ds := [.int .i32 (IntKind.i32.wrap ((((lT (((lT (T.at 3))[k1]).at 2))[k2]).at 5).at 0).n), .int .i64 ((((lT (((lT (T.at 3))[k1]).at 2))[k2]).at 5).at 1).n, .map m_k2_5_t]) rfl (by decide)) .head (fun Hz_77 lz_78 yz_77 => ?_)
            have z_77 : Hz_77.at b_76 0 [.int .i32 (IntKind.i32.wrap ((((lT (((lT (T.at 3))[k1]).at 2))[k2]).at 5).at 0).n), .int .i64 ((((lT (((lT (T.at 3))[k1]).at 2))[k2]).at 5).at 1).n, .map m_k2_5_t] := by
             rcases yz_77 with ⟨h, _⟩ | ⟨g, h, h2⟩
             · cases h
             · cases h; exact h2
            refine nl ?_
            refine sr ?_
            refine mv rfl rfl ?_
            refine cl rfl rfl rfl (k_AppendUvarint (n := 0) (by omega) rbXk4 (by have h := hsk4; rw [tagB_len] at h; unfold LIM at h; omega)) rfl (fun v_ H1 L1 hle hR => ?_)
            obtain ⟨rfl, a333, c333, N333, rfl, rfl, h333⟩ := hR
            have r333 := h333.1
            have rbs_75 := r333
            rw [← hds_75] at rbs_75 ⊢
            refine asg rfl rfl ?_
            refine nl ?_
            refine sr ?_
            refine asg rfl rfl ?_
            refine nl ?_
            refine sr ?_
            refine mv rfl rfl ?_
            refine ls Tryz.runUnderlying22 rfl rfl ?_
            refine asg rfl rfl ?_
            refine nl ?_
            refine sq ?_
            refine lb ?_
            refine Nt ?_
            refine sq ?_
            refine sr ?_
            refine fa0 F90_0 rfl rfl ?_
            refine ld (Says.fz z_77) Tryz.isAgg21 rfl (Nat.zero_add _).symm rfl rfl ?_
            refine asg rfl rfl ?_
            refine nl ?_
            refine rg ?_
            refine mv rfl rfl ?_
            refine mv rfl rfl ?_
            have hnt_Bs_75 := oek2.get 5 (by decide) (has_yes (show (0 : Int) ≤ v by omega) (show ((-1) : Int) < 0 ∨ v ≤ (-1) by omega))
            have ok_79 : OkP fs_sFetchResponseTopicPartitionDivergingEpoch v (((lT (((lT (T.at 3))[k1]).at 2))[k2]).at 5) := hnt_Bs_75.part rfl (hnt_Bs_75.nnT (by decide) (by decide))
            have e_80 : Bs_75 ++ (partB fs_sFetchResponseTopicPartitionDivergingEpoch v true (((lT (((lT (T.at 3))[k1]).at 2))[k2]).at 5)) = Bs_75 ++ (fieldB (fs_sFetchResponseTopicPartition[5]'(by decide)) v true (((lT (((lT (T.at 3))[k1]).at 2))[k2]).at 5)) := congrArg (Bs_75 ++ ·) ((FB_part (f := (fs_sFetchResponseTopicPartition[5]'(by decide))) (by decide) (by decide))).symm
            have hFp_Bs_75 : (fieldB (fs_sFetchResponseTopicPartition[5]'(by decide)) v true (((lT (((lT (T.at 3))[k1]).at 2))[k2]).at 5)) = partB fs_sFetchResponseTopicPartitionDivergingEpoch v true (((lT (((lT (T.at 3))[k1]).at 2))[k2]).at 5) := (FB_part (f := (fs_sFetchResponseTopicPartition[5]'(by decide))) (by decide) (by decide))
            have hB_81 : (Bs_75).length + (partB fs_sFetchResponseTopicPartitionDivergingEpoch v true (((lT (((lT (T.at 3))[k1]).at 2))[k2]).at 5)).length ≤ LIM := by rw [← hFp_Bs_75]; exact hBs_75
            have ok340 := ok_79.get 0 (by decide) (has_yes (show (0 : Int) ≤ v by omega) (show ((-1) : Int) < 0 ∨ v ≤ (-1) by omega))
            have e_82 : Bs_75 ++ (fixed (IntKind.i32.wrap ((((lT (((lT (T.at 3))[k1]).at 2))[k2]).at 5).at 0).n) 4) = Bs_75 ++ plainTo (zipped fs_sFetchResponseTopicPartitionDivergingEpoch v true (((lT (((lT (T.at 3))[k1]).at 2))[k2]).at 5)) v 1 := fold_first (fs := fs_sFetchResponseTopicPartitionDivergingEpoch) (v := v) (flex := true) (t := (((lT (((lT (T.at 3))[k1]).at 2))[k2]).at 5)) (B := Bs_75) 0 rfl (by decide) (by decide) (has_yes (show (0 : Int) ≤ v by omega) (show ((-1) : Int) < 0 ∨ v ≤ (-1) by omega)) ((FB_int (f := (fs_sFetchResponseTopicPartitionDivergingEpoch[0]'(by decide))) (by decide) (by decide)).trans (fixed_i32 _).symm)
            have hs340 := fold_size e_82 (by decide) hB_81
            refine cl rfl rfl rfl (OutK.cast (k_AppendInt32 (u := IntKind.i32.wrap ((((lT (((lT (T.at 3))[k1]).at 2))[k2]).at 5).at 0).n) rbs_75 hs340) e_82) rfl (fun v_ H1 L1 hle hR => ?_)
            obtain ⟨rfl, a340, c340, N340, rfl, rfl, h340⟩ := hR
            have r340 := h340.1
            refine asg rfl rfl ?_
            refine nl ?_
            refine sq ?_
            refine sr ?_
            refine fa0 F90_1 rfl rfl ?_
            refine ld (Says.fz z_77) Tryz.isAgg2 rfl (Nat.zero_add _).symm rfl rfl ?_
            refine asg rfl rfl ?_
            refine nl ?_
            refine rg ?_
            refine mv rfl rfl ?_
            refine mv rfl rfl ?_
            have ok345 := ok_79.get 1 (by decide) (has_yes (show (0 : Int) ≤ v by omega) (show ((-1) : Int) < 0 ∨ v ≤ (-1) by omega))
            have e_83 : Bs_75 ++ plainTo (zipped fs_sFetchResponseTopicPartitionDivergingEpoch v true (((lT (((lT (T.at 3))[k1]).at 2))[k2]).at 5)) v 1 ++ (fixed (((((lT (((lT (T.at 3))[k1]).at 2))[k2]).at 5).at 1).n) 8) = Bs_75 ++ plainTo (zipped fs_sFetchResponseTopicPartitionDivergingEpoch v true (((lT (((lT (T.at 3))[k1]).at 2))[k2]).at 5)) v 2 := fold_yes (fs := fs_sFetchResponseTopicPartitionDivergingEpoch) (v := v) (flex := true) (t := (((lT (((lT (T.at 3))[k1]).at 2))[k2]).at 5)) (B := Bs_75) 1 (by decide) (by decide) (has_yes (show (0 : Int) ≤ v by omega) (show ((-1) : Int) < 0 ∨ v ≤ (-1) by omega)) ((FB_int (f := (fs_sFetchResponseTopicPartitionDivergingEpoch[1]'(by decide))) (by decide) (by decide)).trans rfl)
            have hs345 := fold_size e_83 (by decide) hB_81
            refine cl rfl rfl rfl (OutK.cast (k_AppendInt64 (u := ((((lT (((lT (T.at 3))[k1]).at 2))[k2]).at 5).at 1).n) r340 hs345) e_83) rfl (fun v_ H1 L1 hle hR => ?_)
            obtain ⟨rfl, a345, c345, N345, rfl, rfl, h345⟩ := hR
            have r345 := h345.1
            refine asg rfl rfl ?_
            refine nl ?_
            refine sq ?_
            refine sr ?_
            refine mv rfl rfl ?_
            refine nl ?_
            refine cdT rfl (by omega) ?_
            refine sr ?_
            refine mv rfl rfl ?_
            refine fa0 F90_2 rfl rfl ?_
            refine cl rfl rfl rfl (t_lenU (j := 2) z_77 rfl ((hf_k2_0.mono (le_47.trans (le_64.trans (le_67.trans (le_70.trans (lEg_62.trans (le_72.trans lz_78)))))))).1) rfl (fun v_ H1 L1 hle hR => ?_)
            obtain ⟨rfl, rfl, rfl⟩ := hR
            have hu349 := ok_79.u
            have hul349 := hu349.2.1
            obtain ⟨hz349a, hz349b⟩ := part_size_plain (by decide) hu349 hB_81
            refine cv Tryz.runUnderlying3 Tryz.runUnderlying62 rfl (w32u (by omega) (by omega)) rfl ?_
            refine ad rfl rfl ((w32u (by omega) (by omega)).trans (Int.zero_add _)) rfl ?_
            refine cl rfl rfl rfl (k_AppendUvarint (n := (((lT (((lT (T.at 3))[k1]).at 2))[k2]).at 5).u.length) (by omega) r345 hz349a) rfl (fun v_ H1 L1 hle hR => ?_)
            obtain ⟨rfl, a352, c352, N352, rfl, rfl, h352⟩ := hR
            have r352 := h352.1
            refine asg rfl rfl ?_
            refine nl ?_
            refine rg ?_
            refine fa0 F90_2 rfl rfl ?_
            refine mv rfl rfl ?_
            refine cl rfl rfl rfl (t_append_each (j := 2) z_77 rfl ((hf_k2_0.mono (le_47.trans (le_64.trans (le_67.trans (le_70.trans (lEg_62.trans (le_72.trans lz_78)))))))).1 (by omega) r352 (fun p hp => by have := hu349.2.2 p hp; omega) hz349b) rfl (fun v_ H1 L1 le_84 hR => ?_)
            obtain ⟨a355, c355, N355, rfl, rfl, h355⟩ := hR
            have r355 := h355.1
            have eP_85 : Bs_75 ++ plainTo (zipped fs_sFetchResponseTopicPartitionDivergingEpoch v true (((lT (((lT (T.at 3))[k1]).at 2))[k2]).at 5)) v 2 ++ uvar (((lT (((lT (T.at 3))[k1]).at 2))[k2]).at 5).u.length ++ (((lT (((lT (T.at 3))[k1]).at 2))[k2]).at 5).u.flatMap tagU = Bs_75 ++ partB fs_sFetchResponseTopicPartitionDivergingEpoch v true (((lT (((lT (T.at 3))[k1]).at 2))[k2]).at 5) := part_close (B := Bs_75) (by decide) hu349
            rw [eP_85] at r355 ⊢
            refine asg rfl rfl ?_
            refine nl ?_
            refine sr ?_
            refine mv rfl rfl ?_
            refine nt rfl rfl ?_
            refine nl ?_
            refine cT rfl ?_
            refine sq ?_
            have rp_86 := r355
            rw [e_80] at rp_86 ⊢
            have hzs_75 := And.intro (show Bs_75.length ≤ (Bs_75 ++ (fieldB (fs_sFetchResponseTopicPartition[5]'(by decide)) v true (((lT (((lT (T.at 3))[k1]).at 2))[k2]).at 5))).length by rw [List.length_append]; omega) (Row.le rp_86).1
            refine rgD 10 .nil mixed ?_
            refine dU 0 rfl rfl rfl (y_mv rfl) .nil ler ?_
            refine dU 1 rfl rfl rfl (y_mv rfl) .nil ler ?_
            refine dU 2 rfl rfl rfl (y_slh (j := Bs_75.length) Tryz.runUnderlying22 Tryz.sizeOf5 rfl rfl rfl (Nat.le_trans hzs_75.1 hzs_75.2)) .nil ler ?_
            refine dU 3 rfl rfl rfl (y_mv rfl) .nil ler ?_
            refine dU 4 rfl rfl rfl (y_mv rfl) .nil ler ?_
            refine dU 5 rfl rfl rfl (y_slo (j := Bs_75.length) Tryz.runUnderlying22 Tryz.sizeOf5 rfl rfl rfl hzs_75.1 hzs_75.2) .nil ler ?_
            refine dU 6 rfl rfl rfl (y_ls Tryz.runUnderlying22 rfl) .nil ler ?_
            refine dU 7 rfl rfl rfl (y_cvI Tryz.runUnderlying3 Tryz.runUnderlying62 rfl (resz_len h32s_75)) .nil ler ?_
            refine dE 8 (by kernel_rfl) rfl ?_
            refine cl rfl rfl rfl (k_AppendUvarint (n := (fieldB (fs_sFetchResponseTopicPartition[5]'(by decide)) v true (((lT (((lT (T.at 3))[k1]).at 2))[k2]).at 5)).length) h32s_75 (Row.cut rp_86) (by have h := hsk4; rw [tagB_len] at h; unfold LIM at h; rw [hds_75]; simp only [List.length_append]; omega)) rfl (fun v_ H1 L1 hle hR => ?_)
            obtain ⟨rfl, a366, c366, N366, rfl, rfl, h366⟩ := hR
            have r366 := h366.1
            refine dN .nil ler ?_
            refine dU 9 rfl rfl rfl (y_asg rfl) .nil ler ?_
            refine dD (by kernel_rfl) ?_
            refine Nt ?_
            refine sr ?_
            refine asg rfl rfl ?_
            refine nl ?_
            refine gt0 (fun a_ w_ hA hw => show _ ∧ _ from ⟨rfl, _, _, _, hA.sub ?_, (lz_78.trans le_84), hw, _, _, _, _, _, rfl, rfl, r366, rfl, (z_77.mono le_84)⟩)
            exact (.of ⟨rfl, rfl, rfl, rfl, rfl, rfl, rfl, rfl, rfl, rfl, rfl, rfl, rfl, rfl, rfl, rfl, rfl, rfl, trivial⟩)
           ·
            obtain ⟨as_75, ms_75, cs_75, Ns_75, b_76, rfl, rfl, pss_75, qss_75, zss_75⟩ := hI
            subst qss_75
            obtain ⟨Cs_75, hdCs_75⟩ : ∃ z : List UInt8, z = Bs_75 ++ uvar (fieldB (fs_sFetchResponseTopicPartition[5]'(by decide)) v true (((lT (((lT (T.at 3))[k1]).at 2))[k2]).at 5)).length := ⟨_, rfl⟩
            have rbCs_75 := pss_75
            rw [← hdCs_75] at rbCs_75 ⊢
            have hBCs_75 : Cs_75.length + (fieldB (fs_sFetchResponseTopicPartition[5]'(by decide)) v true (((lT (((lT (T.at 3))[k1]).at 2))[k2]).at 5)).length ≤ LIM := by have h := hsk4; rw [tagB_len] at h; rw [hdCs_75, hds_75]; simp only [List.length_append]; omega
            refine sq ?_
            refine skt ?_
            refine sq ?_
            refine sr ?_
            refine fa0 F90_0 rfl rfl ?_
            refine ld (Says.fz zss_75) Tryz.isAgg21 rfl (Nat.zero_add _).symm rfl rfl ?_
            refine asg rfl rfl ?_
            refine nl ?_
            refine rg ?_
            refine mv rfl rfl ?_
            refine mv rfl rfl ?_
            have hnt_Cs_75 := oek2.get 5 (by decide) (has_yes (show (0 : Int) ≤ v by omega) (show ((-1) : Int) < 0 ∨ v ≤ (-1) by omega))
            have ok_87 : OkP fs_sFetchResponseTopicPartitionDivergingEpoch v (((lT (((lT (T.at 3))[k1]).at 2))[k2]).at 5) := hnt_Cs_75.part rfl (hnt_Cs_75.nnT (by decide) (by decide))
            have e_88 : Cs_75 ++ (partB fs_sFetchResponseTopicPartitionDivergingEpoch v true (((lT (((lT (T.at 3))[k1]).at 2))[k2]).at 5)) = Cs_75 ++ (fieldB (fs_sFetchResponseTopicPartition[5]'(by decide)) v true (((lT (((lT (T.at 3))[k1]).at 2))[k2]).at 5)) := congrArg (Cs_75 ++ ·) ((FB_part (f := (fs_sFetchResponseTopicPartition[5]'(by decide))) (by decide) (by decide))).symm
            have hFp_Cs_75 : (fieldB (fs_sFetchResponseTopicPartition[5]'(by decide)) v true (((lT (((lT (T.at 3))[k1]).at 2))[k2]).at 5)) = partB fs_sFetchResponseTopicPartitionDivergingEpoch v true (((lT (((lT (T.at 3))[k1]).at 2))[k2]).at 5) := (FB_part (f := (fs_sFetchResponseTopicPartition[5]'(by decide))) (by decide) (by decide))
            have hB_89 : (Cs_75).length + (partB fs_sFetchResponseTopicPartitionDivergingEpoch v true (((lT (((lT (T.at 3))[k1]).at 2))[k2]).at 5)).length ≤ LIM := by rw [← hFp_Cs_75]; exact hBCs_75
            have ok340 := ok_87.get 0 (by decide) (has_yes (show (0 : Int) ≤ v by omega) (show ((-1) : Int) < 0 ∨ v ≤ (-1) by omega))
            have e_90 : Cs_75 ++ (fixed (IntKind.i32.wrap ((((lT (((lT (T.at 3))[k1]).at 2))[k2]).at 5).at 0).n) 4) = Cs_75 ++ plainTo (zipped fs_sFetchResponseTopicPartitionDivergingEpoch v true (((lT (((lT (T.at 3))[k1]).at 2))[k2]).at 5)) v 1 := fold_first (fs := fs_sFetchResponseTopicPartitionDivergingEpoch) (v := v) (flex := true) (t := (((lT (((lT (T.at 3))[k1]).at 2))[k2]).at 5)) (B := Cs_75) 0 rfl (by decide) (by decide) (has_yes (show (0 : Int) ≤ v by omega) (show ((-1) : Int) < 0 ∨ v ≤ (-1) by omega)) ((FB_int (f := (fs_sFetchResponseTopicPartitionDivergingEpoch[0]'(by decide))) (by decide) (by decide)).trans (fixed_i32 _).symm)
            have hs340 := fold_size e_90 (by decide) hB_89
            refine cl rfl rfl rfl (OutK.cast (k_AppendInt32 (u := IntKind.i32.wrap ((((lT (((lT (T.at 3))[k1]).at 2))[k2]).at 5).at 0).n) rbCs_75 hs340) e_90) rfl (fun v_ H1 L1 hle hR => ?_)
            obtain ⟨rfl, a340, c340, N340, rfl, rfl, h340⟩ := hR
            have r340 := h340.1
            refine asg rfl rfl ?_
            refine nl ?_
            refine sq ?_
            refine sr ?_
            refine fa0 F90_1 rfl rfl ?_
            refine ld (Says.fz zss_75) Tryz.isAgg2 rfl (Nat.zero_add _).symm rfl rfl ?_
            refine asg rfl rfl ?_
            refine nl ?_
            refine rg ?_
            refine mv rfl rfl ?_
            refine mv rfl rfl ?_
            have ok345 := ok_87.get 1 (by decide) (has_yes (show (0 : Int) ≤ v by omega) (show ((-1) : Int) < 0 ∨ v ≤ (-1) by omega))
            have e_91 : Cs_75 ++ plainTo (zipped fs_sFetchResponseTopicPartitionDivergingEpoch v true (((lT (((lT (T.at 3))[k1]).at 2))[k2]).at 5)) v 1 ++ (fixed (((((lT (((lT (T.at 3))[k1]).at 2))[k2]).at 5).at 1).n) 8) = Cs_75 ++ plainTo (zipped fs_sFetchResponseTopicPartitionDivergingEpoch v true (((lT (((lT (T.at 3))[k1]).at 2))[k2]).at 5)) v 2 := fold_yes (fs := fs_sFetchResponseTopicPartitionDivergingEpoch) (v := v) (flex := true) (t := (((lT (((lT (T.at 3))[k1]).at 2))[k2]).at 5)) (B := Cs_75) 1 (by decide) (by decide) (has_yes (show (0 : Int) ≤ v by omega) (show ((-1) : Int) < 0 ∨ v ≤ (-1) by omega)) ((FB_int (f := (fs_sFetchResponseTopicPartitionDivergingEpoch[1]'(by decide))) (by decide) (by decide)).trans rfl)
            have hs345 := fold_size e_91 (by decide) hB_89
            refine cl rfl rfl rfl (OutK.cast (k_AppendInt64 (u := ((((lT (((lT (T.at 3))[k1]).at 2))[k2]).at 5).at 1).n) r340 hs345) e_91) rfl (fun v_ H1 L1 hle hR => ?_)
            obtain ⟨rfl, a345, c345, N345, rfl, rfl, h345⟩ := hR
            have r345 := h345.1
            refine asg rfl rfl ?_
            refine nl ?_
            refine sq ?_
            refine sr ?_
            refine mv rfl rfl ?_
            refine nl ?_
            refine cdT rfl (by omega) ?_
            refine sr ?_
            refine mv rfl rfl ?_
            refine fa0 F90_2 rfl rfl ?_
            refine cl rfl rfl rfl (t_lenU (j := 2) zss_75 rfl ((hf_k2_0.mono (le_47.trans (le_64.trans (le_67.trans (le_70.trans (lEg_62.trans (le_72.trans les_75)))))))).1) rfl (fun v_ H1 L1 hle hR => ?_)
            obtain ⟨rfl, rfl, rfl⟩ := hR
            have hu349 := ok_87.u
            have hul349 := hu349.2.1
            obtain ⟨hz349a, hz349b⟩ := part_size_plain (by decide) hu349 hB_89
            refine cv Tryz.runUnderlying3 Tryz.runUnderlying62 rfl (w32u (by omega) (by omega)) rfl ?_
            refine ad rfl rfl ((w32u (by omega) (by omega)).trans (Int.zero_add _)) rfl ?_
            refine cl rfl rfl rfl (k_AppendUvarint (n := (((lT (((lT (T.at 3))[k1]).at 2))[k2]).at 5).u.length) (by omega) r345 hz349a) rfl (fun v_ H1 L1 hle hR => ?_)
            obtain ⟨rfl, a352, c352, N352, rfl, rfl, h352⟩ := hR
            have r352 := h352.1
            refine asg rfl rfl ?_
            refine nl ?_
            refine rg ?_
            refine fa0 F90_2 rfl rfl ?_
            refine mv rfl rfl ?_
            refine cl rfl rfl rfl (t_append_each (j := 2) zss_75 rfl ((hf_k2_0.mono (le_47.trans (le_64.trans (le_67.trans (le_70.trans (lEg_62.trans (le_72.trans les_75)))))))).1 (by omega) r352 (fun p hp => by have := hu349.2.2 p hp; omega) hz349b) rfl (fun v_ H1 L1 le_92 hR => ?_)
            obtain ⟨a355, c355, N355, rfl, rfl, h355⟩ := hR
            have r355 := h355.1
            have eP_93 : Cs_75 ++ plainTo (zipped fs_sFetchResponseTopicPartitionDivergingEpoch v true (((lT (((lT (T.at 3))[k1]).at 2))[k2]).at 5)) v 2 ++ uvar (((lT (((lT (T.at 3))[k1]).at 2))[k2]).at 5).u.length ++ (((lT (((lT (T.at 3))[k1]).at 2))[k2]).at 5).u.flatMap tagU = Cs_75 ++ partB fs_sFetchResponseTopicPartitionDivergingEpoch v true (((lT (((lT (T.at 3))[k1]).at 2))[k2]).at 5) := part_close (B := Cs_75) (by decide) hu349
            rw [eP_93] at r355 ⊢
            refine asg rfl rfl ?_
            refine nl ?_
            refine sr ?_
            refine mv rfl rfl ?_
            refine nt rfl rfl ?_
            refine nl ?_
            refine cF rfl ?_
            refine skN ?_
            refine scN ?_
            have rp_94 := r355
            rw [e_88] at rp_94 ⊢
            have et_95 : Cs_75 ++ (fieldB (fs_sFetchResponseTopicPartition[5]'(by decide)) v true (((lT (((lT (T.at 3))[k1]).at 2))[k2]).at 5)) = Xk4 ++ tagB 0 (fieldB (fs_sFetchResponseTopicPartition[5]'(by decide)) v true (((lT (((lT (T.at 3))[k1]).at 2))[k2]).at 5)) := by rw [hdCs_75, hds_75]; unfold tagB; simp only [List.append_assoc]
            have rt_96 := rp_94
            rw [et_95] at rt_96 ⊢
            refine Nb ?_
            refine Nb ?_
            have ee_97 : Xk4 ++ tagB 0 (fieldB (fs_sFetchResponseTopicPartition[5]'(by decide)) v true (((lT (((lT (T.at 3))[k1]).at 2))[k2]).at 5)) = B_k2 ++ plainTo (zipped fs_sFetchResponseTopicPartition v true ((lT (((lT (T.at 3))[k1]).at 2))[k2])) v 11 ++ uvar (tgN fs_sFetchResponseTopicPartition ((lT (((lT (T.at 3))[k1]).at 2))[k2])) ++ ((encT (tgU fs_sFetchResponseTopicPartition ((lT (((lT (T.at 3))[k1]).at 2))[k2])) 3).take (k4 + 1)).flatMap (tgO fs_sFetchResponseTopicPartition v ((lT (((lT (T.at 3))[k1]).at 2))[k2])) := by rw [hdXk4]; exact el_end (B0 := B_k2 ++ plainTo (zipped fs_sFetchResponseTopicPartition v true ((lT (((lT (T.at 3))[k1]).at 2))[k2])) v 11 ++ uvar (tgN fs_sFetchResponseTopicPartition ((lT (((lT (T.at 3))[k1]).at 2))[k2]))) (G := (tgO fs_sFetchResponseTopicPartition v ((lT (((lT (T.at 3))[k1]).at 2))[k2]))) hk4 (by rw [hck4, to_fs_sFetchResponseTopicPartition_0])
            refine fun a_ w_ hA hw => ⟨_, _, _, hA.sub ?_, (le_72.trans (les_75.trans le_92)), hw, _, rfl, _, _, _, _, rfl, rfl, (by rw [← ee_97]; exact rt_96), (by rw [← ee_97])⟩
            exact (.of ⟨rfl, rfl, rfl, rfl, rfl, rfl, rfl, rfl, rfl, rfl, rfl, rfl, rfl, rfl, rfl, trivial⟩)
          ·
           refine sr ?_
           refine eq' rfl rfl rfl ?_
           refine asg rfl rfl ?_
           refine nl ?_
           refine cd rfl (fun hsk4_1 => ?_) (fun hsk4_1 => ?_)
           ·
            have hck4 : (encT (tgU fs_sFetchResponseTopicPartition ((lT (((lT (T.at 3))[k1]).at 2))[k2])) 3)[k4] = 1 := by omega
            have hsk4 := hzg_62b k4 hk4
            rw [hck4, to_fs_sFetchResponseTopicPartition_1] at hsk4
            obtain ⟨Xk4, hdXk4⟩ : ∃ z : List UInt8, z = B_k2 ++ plainTo (zipped fs_sFetchResponseTopicPartition v true ((lT (((lT (T.at 3))[k1]).at 2))[k2])) v 11 ++ uvar (tgN fs_sFetchResponseTopicPartition ((lT (((lT (T.at 3))[k1]).at 2))[k2])) ++ ((encT (tgU fs_sFetchResponseTopicPartition ((lT (((lT (T.at 3))[k1]).at 2))[k2])) 3).take k4).flatMap (tgO fs_sFetchResponseTopicPartition v ((lT (((lT (T.at 3))[k1]).at 2))[k2])) := ⟨_, rfl⟩
            have rbXk4 := pk40
            rw [← hdXk4] at rbXk4 ⊢
            rw [← hdXk4] at hsk4
            obtain ⟨Bs_98, hds_98⟩ : ∃ z : List UInt8, z = Xk4 ++ uvar 1 := ⟨_, rfl⟩
            have hBs_98 : Bs_98.length + (fieldB (fs_sFetchResponseTopicPartition[6]'(by decide)) v true (((lT (((lT (T.at 3))[k1]).at 2))[k2]).at 6)).length ≤ LIM := by have h := hsk4; rw [tagB_len] at h; rw [hds_98]; simp only [List.length_append]; omega
            have h32s_98 : (fieldB (fs_sFetchResponseTopicPartition[6]'(by decide)) v true (((lT (((lT (T.at 3))[k1]).at 2))[k2]).at 6)).length < 4294967296 := by have h := hBs_98; unfold LIM at h; omega
            refine scT 1 (fun l' H' L' => ∃ (as_98 : Option Addr) (ms_98 cs_98 : Nat) (Ns_98 : Chunk) (b_99 : Nat), [(0, .pointer (some ⟨b, 0, none⟩)), (1, .slice as_98 ms_98 cs_98), (5, .int .i16 v), (6, .bool (decide ((12 : Int) ≤ v))), (10, .slice a3 (lT (T.at 3)).length c3), (12, .pointer (some ⟨b_7, o_8 + k1 * 19, none⟩)), (15, .slice a_k1_2 (lT (((lT (T.at 3))[k1]).at 2)).length c_k1_2), (17, .pointer (some ⟨b_30, o_31 + k2 * 18, none⟩)), (38, .pointer (some ⟨b_99, 0, none⟩)), (39, .bool true), (40, .int .i64 ((Bs_98).length : Int)), (109, .int .i64 ((lT (T.at 3)).length : Int)), (110, .int .i64 (k1 : Int)), (156, .int .i64 ((lT (((lT (T.at 3))[k1]).at 2)).length : Int)), (157, .int .i64 (k2 : Int)), (319, .slice et_69 (encT (tgU fs_sFetchResponseTopicPartition ((lT (((lT (T.at 3))[k1]).at 2))[k2])) 3).length dt_69), (320, .int .i64 ((encT (tgU fs_sFetchResponseTopicPartition ((lT (((lT (T.at 3))[k1]).at 2))[k2])) 3).length : Int)), (321, .int .i64 (k4 : Int))] = l' ∧ Ns_98 :: L = L' ∧ Row 5 1 as_98 ms_98 cs_98 (bytesOf (Bs_98 ++ uvar (fieldB (fs_sFetchResponseTopicPartition[6]'(by decide)) v true (((lT (((lT (T.at 3))[k1]).at 2))[k2]).at 6)).length)) Ns_98 ∧ ms_98 = (Bs_98 ++ uvar (fieldB (fs_sFetchResponseTopicPartition[6]'(by decide)) v true (((lT (((lT (T.at 3))[k1]).at 2))[k2]).at 6)).length).length ∧ H'.at b_99 0 [.int .i32 (IntKind.i32.wrap ((((lT (((lT (T.at 3))[k1]).at 2))[k2]).at 6).at 0).n), .int .i32 (IntKind.i32.wrap ((((lT (((lT (T.at 3))[k1]).at 2))[k2]).at 6).at 1).n), .map m_k2_6_t]) rfl ?_ (fun l' H' L' les_98 hI => ?_)
            ·
             refine sr ?_
             refine mv rfl rfl ?_
             refine nc rfl rfl ?_
             refine fa F97_6 rfl rfl ?_
             refine la (Says.fz (hc_36.mono (le_47.trans (le_64.trans (le_67.trans (le_70.trans (lEg_62.trans le_72))))))) Tryz.isAgg92 Tryz.sizeOf92 rfl rfl rfl rfl ?_
             refine al Tryz.zeroValue92 rfl rfl (fun b_99 => ?_)
             refine sa Tryz.sizeOf92 rfl rfl rfl rfl rfl .head ?_
             refine frL (Row.whole (size := 3) (m := 1) (ds := [.int .i32 (IntKind.i32.wrap ((((lT (((lT (T.at 3))[k1]).at 2))[k2]).at 6).at 0).n), .int .i32 (IntKind.i32.wrap ((((lT (((lT (T.at 3))[k1]).at 2))[k2]).at 6).at 1).n), .map m_k2_6_t]) rfl (by decide)) .head (fun Hz_100 lz_101 yz_100 => ?_)
             have z_100 : Hz_100.at b_99 0 [.int .i32 (IntKind.i32.wrap ((((lT (((lT (T.at 3))[k1]).at 2))[k2]).at 6).at 0).n), .int .i32 (IntKind.i32.wrap ((((lT (((lT (T.at 3))[k1]).at 2))[k2]).at 6).at 1).n), .map m_k2_6_t] := by
              rcases yz_100 with ⟨h, _⟩ | ⟨g, h, h2⟩
              · cases h
              · cases h; exact h2
             refine nl ?_
             refine sr ?_
             refine mv rfl rfl ?_
             refine cl rfl rfl rfl (k_AppendUvarint (n := 1) (by omega) rbXk4 (by have h := hsk4; rw [tagB_len] at h; unfold LIM at h; omega)) rfl (fun v_ H1 L1 hle hR => ?_)
             obtain ⟨rfl, a374, c374, N374, rfl, rfl, h374⟩ := hR
             have r374 := h374.1
             have rbs_98 := r374
             rw [← hds_98] at rbs_98 ⊢
             refine asg rfl rfl ?_
             refine nl ?_
             refine sr ?_
             refine asg rfl rfl ?_
             refine nl ?_
             refine sr ?_
             refine mv rfl rfl ?_
             refine ls Tryz.runUnderlying22 rfl rfl ?_
             refine asg rfl rfl ?_
             refine nl ?_
             refine sq ?_
             refine lb ?_
             refine Nt ?_
             refine sq ?_
             refine sr ?_
             refine fa0 F92_0 rfl rfl ?_
             refine ld (Says.fz z_100) Tryz.isAgg21 rfl (Nat.zero_add _).symm rfl rfl ?_
             refine asg rfl rfl ?_
             refine nl ?_
             refine rg ?_
             refine mv rfl rfl ?_
             refine mv rfl rfl ?_
             have hnt_Bs_98 := oek2.get 6 (by decide) (has_yes (show (0 : Int) ≤ v by omega) (show ((-1) : Int) < 0 ∨ v ≤ (-1) by omega))
             have ok_102 : OkP fs_sFetchResponseTopicPartitionCurrentLeader v (((lT (((lT (T.at 3))[k1]).at 2))[k2]).at 6) := hnt_Bs_98.part rfl (hnt_Bs_98.nnT (by decide) (by decide))
             have e_103 : Bs_98 ++ (partB fs_sFetchResponseTopicPartitionCurrentLeader v true (((lT (((lT (T.at 3))[k1]).at 2))[k2]).at 6)) = Bs_98 ++ (fieldB (fs_sFetchResponseTopicPartition[6]'(by decide)) v true (((lT (((lT (T.at 3))[k1]).at 2))[k2]).at 6)) := congrArg (Bs_98 ++ ·) ((FB_part (f := (fs_sFetchResponseTopicPartition[6]'(by decide))) (by decide) (by decide))).symm
             have hFp_Bs_98 : (fieldB (fs_sFetchResponseTopicPartition[6]'(by decide)) v true (((lT (((lT (T.at 3))[k1]).at 2))[k2]).at 6)) = partB fs_sFetchResponseTopicPartitionCurrentLeader v true (((lT (((lT (T.at 3))[k1]).at 2))[k2]).at 6) := (FB_part (f := (fs_sFetchResponseTopicPartition[6]'(by decide))) (by decide) (by decide))
             have hB_104 : (Bs_98).length + (partB fs_sFetchResponseTopicPartitionCurrentLeader v true (((lT (((lT (T.at 3))[k1]).at 2))[k2]).at 6)).length ≤ LIM := by rw [← hFp_Bs_98]; exact hBs_98
             have ok381 := ok_102.get 0 (by decide) (has_yes (show (0 : Int) ≤ v by omega) (show ((-1) : Int) < 0 ∨ v ≤ (-1) by omega))
             have e_105 : Bs_98 ++ (fixed (IntKind.i32.wrap ((((lT (((lT (T.at 3))[k1]).at 2))[k2]).at 6).at 0).n) 4) = Bs_98 ++ plainTo (zipped fs_sFetchResponseTopicPartitionCurrentLeader v true (((lT (((lT (T.at 3))[k1]).at 2))[k2]).at 6)) v 1 := fold_first (fs := fs_sFetchResponseTopicPartitionCurrentLeader) (v := v) (flex := true) (t := (((lT (((lT (T.at 3))[k1]).at 2))[k2]).at 6)) (B := Bs_98) 0 rfl (by decide) (by decide) (has_yes (show (0 : Int) ≤ v by omega) (show ((-1) : Int) < 0 ∨ v ≤ (-1) by omega)) ((FB_int (f := (fs_sFetchResponseTopicPartitionCurrentLeader[0]'(by decide))) (by decide) (by decide)).trans (fixed_i32 _).symm)
             have hs381 := fold_size e_105 (by decide) hB_104
             refine cl rfl rfl rfl (OutK.cast (k_AppendInt32 (u := IntKind.i32.wrap ((((lT (((lT (T.at 3))[k1]).at 2))[k2]).at 6).at 0).n) rbs_98 hs381) e_105) rfl (fun v_ H1 L1 hle hR => ?_)
             obtain ⟨rfl, a381, c381, N381, rfl, rfl, h381⟩ := hR
             have r381 := h381.1
             refine asg rfl rfl ?_
             refine nl ?_
             refine sq ?_
             refine sr ?_
             refine fa0 F92_1 rfl rfl ?_
             refine ld (Says.fz z_100) Tryz.isAgg21 rfl (Nat.zero_add _).symm rfl rfl ?_
             refine asg rfl rfl ?_
             refine nl ?_
             refine rg ?_
             refine mv rfl rfl ?_
             refine mv rfl rfl ?_
             have ok386 := ok_102.get 1 (by decide) (has_yes (show (0 : Int) ≤ v by omega) (show ((-1) : Int) < 0 ∨ v ≤ (-1) by omega))
             have e_106 : Bs_98 ++ plainTo (zipped fs_sFetchResponseTopicPartitionCurrentLeader v true (((lT (((lT (T.at 3))[k1]).at 2))[k2]).at 6)) v 1 ++ (fixed (IntKind.i32.wrap ((((lT (((lT (T.at 3))[k1]).at 2))[k2]).at 6).at 1).n) 4) = Bs_98 ++ plainTo (zipped fs_sFetchResponseTopicPartitionCurrentLeader v true (((lT (((lT (T.at 3))[k1]).at 2))[k2]).at 6)) v 2 := fold_yes (fs := fs_sFetchResponseTopicPartitionCurrentLeader) (v := v) (flex := true) (t := (((lT (((lT (T.at 3))[k1]).at 2))[k2]).at 6)) (B := Bs_98) 1 (by decide) (by decide) (has_yes (show (0 : Int) ≤ v by omega) (show ((-1) : Int) < 0 ∨ v ≤ (-1) by omega)) ((FB_int (f := (fs_sFetchResponseTopicPartitionCurrentLeader[1]'(by decide))) (by decide) (by decide)).trans (fixed_i32 _).symm)
             have hs386 := fold_size e_106 (by decide) hB_104
             refine cl rfl rfl rfl (OutK.cast (k_AppendInt32 (u := IntKind.i32.wrap ((((lT (((lT (T.at 3))[k1]).at 2))[k2]).at 6).at 1).n) r381 hs386) e_106) rfl (fun v_ H1 L1 hle hR => ?_)
             obtain ⟨rfl, a386, c386, N386, rfl, rfl, h386⟩ := hR
             have r386 := h386.1
             refine asg rfl rfl ?_
             refine nl ?_
             refine sq ?_
             refine sr ?_
             refine mv rfl rfl ?_
             refine nl ?_
             refine cdT rfl (by omega) ?_
             refine sr ?_
             refine mv rfl rfl ?_
             refine fa0 F92_2 rfl rfl ?_
             refine cl rfl rfl rfl (t_lenU (j := 2) z_100 rfl ((hf_k2_1.mono (le_47.trans (le_64.trans (le_67.trans (le_70.trans (lEg_62.trans (le_72.trans lz_101)))))))).1) rfl (fun v_ H1 L1 hle hR => ?_)
             obtain ⟨rfl, rfl, rfl⟩ := hR
             have hu390 := ok_102.u
             have hul390 := hu390.2.1
             obtain ⟨hz390a, hz390b⟩ := part_size_plain (by decide) hu390 hB_104
             refine cv Tryz.runUnderlying3 Tryz.runUnderlying62 rfl (w32u (by omega) (by omega)) rfl ?_
             refine ad rfl rfl ((w32u (by omega) (by omega)).trans (Int.zero_add _)) rfl ?_
             refine cl rfl rfl rfl (k_AppendUvarint (n := (((lT (((lT (T.at 3))[k1]).at 2))[k2]).at 6).u.length) (by omega) r386 hz390a) rfl (fun v_ H1 L1 hle hR => ?_)
             obtain ⟨rfl, a393, c393, N393, rfl, rfl, h393⟩ := hR
             have r393 := h393.1
             refine asg rfl rfl ?_
             refine nl ?_
             refine rg ?_
             refine fa0 F92_2 rfl rfl ?_
             refine mv rfl rfl ?_
             refine cl rfl rfl rfl (t_append_each (j := 2) z_100 rfl ((hf_k2_1.mono (le_47.trans (le_64.trans (le_67.trans (le_70.trans (lEg_62.trans (le_72.trans lz_101)))))))).1 (by omega) r393 (fun p hp => by have := hu390.2.2 p hp; omega) hz390b) rfl (fun v_ H1 L1 le_107 hR => ?_)
             obtain ⟨a396, c396, N396, rfl, rfl, h396⟩ := hR
             have r396 := h396.1
             have eP_108 : Bs_98 ++ plainTo (zipped fs_sFetchResponseTopicPartitionCurrentLeader v true (((lT (((lT (T.at 3))[k1]).at 2))[k2]).at 6)) v 2 ++ uvar (((lT (((lT (T.at 3))[k1]).at 2))[k2]).at 6).u.length ++ (((lT (((lT (T.at 3))[k1]).at 2))[k2]).at 6).u.flatMap tagU = Bs_98 ++ partB fs_sFetchResponseTopicPartitionCurrentLeader v true (((lT (((lT (T.at 3))[k1]).at 2))[k2]).at 6) := part_close (B := Bs_98) (by decide) hu390
             rw [eP_108] at r396 ⊢
             refine asg rfl rfl ?_
             refine nl ?_
             refine sr ?_
             refine mv rfl rfl ?_
             refine nt rfl rfl ?_
             refine nl ?_
             refine cT rfl ?_
             refine sq ?_
             have rp_109 := r396
             rw [e_103] at rp_109 ⊢
             have hzs_98 := And.intro (show Bs_98.length ≤ (Bs_98 ++ (fieldB (fs_sFetchResponseTopicPartition[6]'(by decide)) v true (((lT (((lT (T.at 3))[k1]).at 2))[k2]).at 6))).length by rw [List.length_append]; omega) (Row.le rp_109).1
             refine rgD 10 .nil mixed ?_
             refine dU 0 rfl rfl rfl (y_mv rfl) .nil ler ?_
             refine dU 1 rfl rfl rfl (y_mv rfl) .nil ler ?_
             refine dU 2 rfl rfl rfl (y_slh (j := Bs_98.length) Tryz.runUnderlying22 Tryz.sizeOf5 rfl rfl rfl (Nat.le_trans hzs_98.1 hzs_98.2)) .nil ler ?_
             refine dU 3 rfl rfl rfl (y_mv rfl) .nil ler ?_
             refine dU 4 rfl rfl rfl (y_mv rfl) .nil ler ?_
             refine dU 5 rfl rfl rfl (y_slo (j := Bs_98.length) Tryz.runUnderlying22 Tryz.sizeOf5 rfl rfl rfl hzs_98.1 hzs_98.2) .nil ler ?_
             refine dU 6 rfl rfl rfl (y_ls Tryz.runUnderlying22 rfl) .nil ler ?_
             refine dU 7 rfl rfl rfl (y_cvI Tryz.runUnderlying3 Tryz.runUnderlying62 rfl (resz_len h32s_98)) .nil ler ?_
             refine dE 8 (by kernel_rfl) rfl ?_
             refine cl rfl rfl rfl (k_AppendUvarint (n := (fieldB (fs_sFetchResponseTopicPartition[6]'(by decide)) v true (((lT (((lT (T.at 3))[k1]).at 2))[k2]).at 6)).length) h32s_98 (Row.cut rp_109) (by have h := hsk4; rw [tagB_len] at h; unfold LIM at h; rw [hds_98]; simp only [List.length_append]; omega)) rfl (fun v_ H1 L1 hle hR => ?_)
             obtain ⟨rfl, a407, c407, N407, rfl, rfl, h407⟩ := hR
             have r407 := h407.1
             refine dN .nil ler ?_
             refine dU 9 rfl rfl rfl (y_asg rfl) .nil ler ?_
             refine dD (by kernel_rfl) ?_
             refine Nt ?_
             refine sr ?_
             refine asg rfl rfl ?_
             refine nl ?_
             refine gt0 (fun a_ w_ hA hw => show _ ∧ _ from ⟨rfl, _, _, _, hA.sub ?_, (lz_101.trans le_107), hw, _, _, _, _, _, rfl, rfl, r407, rfl, (z_100.mono le_107)⟩)
             exact (.of ⟨rfl, rfl, rfl, rfl, rfl, rfl, rfl, rfl, rfl, rfl, rfl, rfl, rfl, rfl, rfl, rfl, rfl, rfl, trivial⟩)
            ·
             obtain ⟨as_98, ms_98, cs_98, Ns_98, b_99, rfl, rfl, pss_98, qss_98, zss_98⟩ := hI
             subst qss_98
             obtain ⟨Cs_98, hdCs_98⟩ : ∃ z : List UInt8, z = Bs_98 ++ uvar (fieldB (fs_sFetchResponseTopicPartition[6]'(by decide)) v true (((lT (((lT (T.at 3))[k1]).at 2))[k2]).at 6)).length := ⟨_, rfl⟩
             have rbCs_98 := pss_98
             rw [← hdCs_98] at rbCs_98 ⊢
             have hBCs_98 : Cs_98.length + (fieldB (fs_sFetchResponseTopicPartition[6]'(by decide)) v true (((lT (((lT (T.at 3))[k1]).at 2))[k2]).at 6)).length ≤ LIM := by have h := hsk4; rw [tagB_len] at h; rw [hdCs_98, hds_98]; simp only [List.length_append]; omega
             refine sq ?_
             refine skt ?_
             refine sq ?_
             refine sr ?_
             refine fa0 F92_0 rfl rfl ?_
             refine ld (Says.fz zss_98) Tryz.isAgg21 rfl (Nat.zero_add _).symm rfl rfl ?_
             refine asg rfl rfl ?_
             refine nl ?_
             refine rg ?_
             refine mv rfl rfl ?_
             refine mv rfl rfl ?_
             have hnt_Cs_98 := oek2.get 6 (by decide) (has_yes (show (0 : Int) ≤ v by omega) (show ((-1) : Int) < 0 ∨ v ≤ (-1) by omega))
             have ok_110 : OkP fs_sFetchResponseTopicPartitionCurrentLeader v (((lT (((lT (T.at 3))[k1]).at 2))[k2]).at 6) := hnt_Cs_98.part rfl (hnt_Cs_98.nnT (by decide) (by decide))
             have e_111 : Cs_98 ++ (partB fs_sFetchResponseTopicPartitionCurrentLeader v true (((lT (((lT (T.at 3))[k1]).at 2))[k2]).at 6)) = Cs_98 ++ (fieldB (fs_sFetchResponseTopicPartition[6]'(by decide)) v true (((lT (((lT (T.at 3))[k1]).at 2))[k2]).at 6)) := congrArg (Cs_98 ++ ·) ((FB_part (f := (fs_sFetchResponseTopicPartition[6]'(by decide))) (by decide) (by decide))).symm
             have hFp_Cs_98 : (fieldB (fs_sFetchResponseTopicPartition[6]'(by decide)) v true (((lT (((lT (T.at 3))[k1]).at 2))[k2]).at 6)) = partB fs_sFetchResponseTopicPartitionCurrentLeader v true (((lT (((lT (T.at 3))[k1]).at 2))[k2]).at 6) := (FB_part (f := (fs_sFetchResponseTopicPartition[6]'(by decide))) (by decide) (by decide))
             have hB_112 : (Cs_98).length + (partB fs_sFetchResponseTopicPartitionCurrentLeader v true (((lT (((lT (T.at 3))[k1]).at 2))[k2]).at 6)).length ≤ LIM := by rw [← hFp_Cs_98]; exact hBCs_98
             have ok381 := ok_110.get 0 (by decide) (has_yes (show (0 : Int) ≤ v by omega) (show ((-1) : Int) < 0 ∨ v ≤ (-1) by omega))
             have e_113 : Cs_98 ++ (fixed (IntKind.i32.wrap ((((lT (((lT (T.at 3))[k1]).at 2))[k2]).at 6).at 0).n) 4) = Cs_98 ++ plainTo (zipped fs_sFetchResponseTopicPartitionCurrentLeader v true (((lT (((lT (T.at 3))[k1]).at 2))[k2]).at 6)) v 1 := fold_first (fs := fs_sFetchResponseTopicPartitionCurrentLeader) (v := v) (flex := true) (t := (((lT (((lT (T.at 3))[k1]).at 2))[k2]).at 6)) (B := Cs_98) 0 rfl (by decide) (by decide) (has_yes (show (0 : Int) ≤ v by omega) (show ((-1) : Int) < 0 ∨ v ≤ (-1) by omega)) ((FB_int (f := (fs_sFetchResponseTopicPartitionCurrentLeader[0]'(by decide))) (by decide) (by decide)).trans (fixed_i32 _).symm)
             have hs381 := fold_size e_113 (by decide) hB_112
             refine cl rfl rfl rfl (OutK.cast (k_AppendInt32 (u := IntKind.i32.wrap ((((lT (((lT (T.at 3))[k1]).at 2))[k2]).at 6).at 0).n) rbCs_98 hs381) e_113) rfl (fun v_ H1 L1 hle hR => ?_)
             obtain ⟨rfl, a381, c381, N381, rfl, rfl, h381⟩ := hR
             have r381 := h381.1
             refine asg rfl rfl ?_
             refine nl ?_
             refine sq ?_
             refine sr ?_
             refine fa0 F92_1 rfl rfl ?_
             refine ld (Says.fz zss_98) Tryz.isAgg21 rfl (Nat.zero_add _).symm rfl rfl ?_
             refine asg rfl rfl ?_
             refine nl ?_
             refine rg ?_
             refine mv rfl rfl ?_
             refine mv rfl rfl ?_
             have ok386 := ok_110.get 1 (by decide) (has_yes (show (0 : Int) ≤ v by omega) (show ((-1) : Int) < 0 ∨ v ≤ (-1) by omega))
             have e_114 : Cs_98 ++ plainTo (zipped fs_sFetchResponseTopicPartitionCurrentLeader v true (((lT (((lT (T.at 3))[k1]).at 2))[k2]).at 6)) v 1 ++ (fixed (IntKind.i32.wrap ((((lT (((lT (T.at 3))[k1]).at 2))[k2]).at 6).at 1).n) 4) = Cs_98 ++ plainTo (zipped fs_sFetchResponseTopicPartitionCurrentLeader v true (((lT (((lT (T.at 3))[k1]).at 2))[k2]).at 6)) v 2 := fold_yes (fs := fs_sFetchResponseTopicPartitionCurrentLeader) (v := v) (flex := true) (t := (((lT (((lT (T.at 3))[k1]).at 2))[k2]).at 6)) (B := Cs_98) 1 (by decide) (by decide) (has_yes (show (0 : Int) ≤ v by omega) (show ((-1) : Int) < 0 ∨ v ≤ (-1) by omega)) ((FB_int (f := (fs_sFetchResponseTopicPartitionCurrentLeader[1]'(by decide))) (by decide) (by decide)).trans (fixed_i32 _).symm)
             have hs386 := fold_size e_114 (by decide) hB_112
             refine cl rfl rfl rfl (OutK.cast (k_AppendInt32 (u := IntKind.i32.wrap ((((lT (((lT (T.at 3))[k1]).at 2))[k2]).at 6).at 1).n) r381 hs386) e_114) rfl (fun v_ H1 L1 hle hR => ?_)
             obtain ⟨rfl, a386, c386, N386, rfl, rfl, h386⟩ := hR
             have r386 := h386.1
             refine asg rfl rfl ?_
             refine nl ?_
             refine sq ?_
             refine sr ?_
             refine mv rfl rfl ?_
             refine nl ?_
             refine cdT rfl (by omega) ?_
             refine sr ?_
             refine mv rfl rfl ?_
             refine fa0 F92_2 rfl rfl ?_
             refine cl rfl rfl rfl (t_lenU (j := 2) zss_98 rfl ((hf_k2_1.mono (le_47.trans (le_64.trans (le_67.trans (le_70.trans (lEg_62.trans (le_72.trans les_98)))))))).1) rfl (fun v_ H1 L1 hle hR => ?_)
             obtain ⟨rfl, rfl, rfl⟩ := hR
             have hu390 := ok_110.u
             have hul390 := hu390.2.1
             obtain ⟨hz390a, hz390b⟩ := part_size_plain (by decide) hu390 hB_112
             refine cv Tryz.runUnderlying3 Tryz.runUnderlying62 rfl (w32u (by omega) (by omega)) rfl ?_
             refine ad rfl rfl ((w32u (by omega) (by omega)).trans (Int.zero_add _)) rfl ?_
             refine cl rfl rfl rfl (k_AppendUvarint (n := (((lT (((lT (T.at 3))[k1]).at 2))[k2]).at 6).u.length) (by omega) r386 hz390a) rfl (fun v_ H1 L1 hle hR => ?_)
             obtain ⟨rfl, a393, c393, N393, rfl, rfl, h393⟩ := hR
             have r393 := h393.1
             refine asg rfl rfl ?_
             refine nl ?_
             refine rg ?_
             refine fa0 F92_2 rfl rfl ?_
             refine mv rfl rfl ?_
             refine cl rfl rfl rfl (t_append_each (j := 2) zss_98 rfl ((hf_k2_1.mono (le_47.trans (le_64.trans (le_67.trans (le_70.trans (lEg_62.trans (le_72.trans les_98)))))))).1 (by omega) r393 (fun p hp => by have := hu390.2.2 p hp; omega) hz390b) rfl (fun v_ H1 L1 le_115 hR => ?_)
             obtain ⟨a396, c396, N396, rfl, rfl, h396⟩ := hR
             have r396 := h396.1
             have eP_116 : Cs_98 ++ plainTo (zipped fs_sFetchResponseTopicPartitionCurrentLeader v true (((lT (((lT (T.at 3))[k1]).at 2))[k2]).at 6)) v 2 ++ uvar (((lT (((lT (T.at 3))[k1]).at 2))[k2]).at 6).u.length ++ (((lT (((lT (T.at 3))[k1]).at 2))[k2]).at 6).u.flatMap tagU = Cs_98 ++ partB fs_sFetchResponseTopicPartitionCurrentLeader v true (((lT (((lT (T.at 3))[k1]).at 2))[k2]).at 6) := part_close (B := Cs_98) (by decide) hu390
             rw [eP_116] at r396 ⊢
             refine asg rfl rfl ?_
             refine nl ?_
             refine sr ?_
             refine mv rfl rfl ?_
             refine nt rfl rfl ?_
             refine nl ?_
             refine cF rfl ?_
             refine skN ?_
             refine scN ?_
             have rp_117 := r396
             rw [e_111] at rp_117 ⊢
             have et_118 : Cs_98 ++ (fieldB (fs_sFetchResponseTopicPartition[6]'(by decide)) v true (((lT (((lT (T.at 3))[k1]).at 2))[k2]).at 6)) = Xk4 ++ tagB 1 (fieldB (fs_sFetchResponseTopicPartition[6]'(by decide)) v true (((lT (((lT (T.at 3))[k1]).at 2))[k2]).at 6)) := by rw [hdCs_98, hds_98]; unfold tagB; simp only [List.append_assoc]
             have rt_119 := rp_117
             rw [et_118] at rt_119 ⊢
             refine Nb ?_
             refine Nb ?_
             have ee_120 : Xk4 ++ tagB 1 (fieldB (fs_sFetchResponseTopicPartition[6]'(by decide)) v true (((lT (((lT (T.at 3))[k1]).at 2))[k2]).at 6)) = B_k2 ++ plainTo (zipped fs_sFetchResponseTopicPartition v true ((lT (((lT (T.at 3))[k1]).at 2))[k2])) v 11 ++ uvar (tgN fs_sFetchResponseTopicPartition ((lT (((lT (T.at 3))[k1]).at 2))[k2])) ++ ((encT (tgU fs_sFetchResponseTopicPartition ((lT (((lT (T.at 3))[k1]).at 2))[k2])) 3).take (k4 + 1)).flatMap (tgO fs_sFetchResponseTopicPartition v ((lT (((lT (T.at 3))[k1]).at 2))[k2])) := by rw [hdXk4]; exact el_end (B0 := B_k2 ++ plainTo (zipped fs_sFetchResponseTopicPartition v true ((lT (((lT (T.at 3))[k1]).at 2))[k2])) v 11 ++ uvar (tgN fs_sFetchResponseTopicPartition ((lT (((lT (T.at 3))[k1]).at 2))[k2]))) (G := (tgO fs_sFetchResponseTopicPartition v ((lT (((lT (T.at 3))[k1]).at 2))[k2]))) hk4 (by rw [hck4, to_fs_sFetchResponseTopicPartition_1])
             refine fun a_ w_ hA hw => ⟨_, _, _, hA.sub ?_, (le_72.trans (les_98.trans le_115)), hw, _, rfl, _, _, _, _, rfl, rfl, (by rw [← ee_120]; exact rt_119), (by rw [← ee_120])⟩
             exact (.of ⟨rfl, rfl, rfl, rfl, rfl, rfl, rfl, rfl, rfl, rfl, rfl, rfl, rfl, rfl, rfl, trivial⟩)
           ·
            refine sr ?_
            refine eq' rfl rfl rfl ?_
            refine asg rfl rfl ?_
            refine nl ?_
            refine cd rfl (fun hsk4_2 => ?_) (fun hsk4_2 => ?_)
            ·
             have hck4 : (encT (tgU fs_sFetchResponseTopicPartition ((lT (((lT (T.at 3))[k1]).at 2))[k2])) 3)[k4] = 2 := by omega
             have hsk4 := hzg_62b k4 hk4
             rw [hck4, to_fs_sFetchResponseTopicPartition_2] at hsk4
             obtain ⟨Xk4, hdXk4⟩ : ∃ z : List UInt8, z = B_k2 ++ plainTo (zipped fs_sFetchResponseTopicPartition v true ((lT (((lT (T.at 3))[k1]).at 2))[k2])) v 11 ++ uvar (tgN fs_sFetchResponseTopicPartition ((lT (((lT (T.at 3))[k1]).at 2))[k2])) ++ ((encT (tgU fs_sFetchResponseTopicPartition ((lT (((lT (T.at 3))[k1]).at 2))[k2])) 3).take k4).flatMap (tgO fs_sFetchResponseTopicPartition v ((lT (((lT (T.at 3))[k1]).at 2))[k2])) := ⟨_, rfl⟩
             have rbXk4 := pk40
             rw [← hdXk4] at rbXk4 ⊢
             rw [← hdXk4] at hsk4
             obtain ⟨Bs_121, hds_121⟩ : ∃ z : List UInt8, z = Xk4 ++ uvar 2 := ⟨_, rfl⟩
             have hBs_121 : Bs_121.length + (fieldB (fs_sFetchResponseTopicPartition[7]'(by decide)) v true (((lT (((lT (T.at 3))[k1]).at 2))[k2]).at 7)).length ≤ LIM := by have h := hsk4; rw [tagB_len] at h; rw [hds_121]; simp only [List.length_append]; omega
             have h32s_121 : (fieldB (fs_sFetchResponseTopicPartition[7]'(by decide)) v true (((lT (((lT (T.at 3))[k1]).at 2))[k2]).at 7)).length < 4294967296 := by have h := hBs_121; unfold LIM at h; omega
             refine scT 2 (fun l' H' L' => ∃ (as_121 : Option Addr) (ms_121 cs_121 : Nat) (Ns_121 : Chunk) (b_122 : Nat), [(0, .pointer (some ⟨b, 0, none⟩)), (1, .slice as_121 ms_121 cs_121), (5, .int .i16 v), (6, .bool (decide ((12 : Int) ≤ v))), (10, .slice a3 (lT (T.at 3)).length c3), (12, .pointer (some ⟨b_7, o_8 + k1 * 19, none⟩)), (15, .slice a_k1_2 (lT (((lT (T.at 3))[k1]).at 2)).length c_k1_2), (17, .pointer (some ⟨b_30, o_31 + k2 * 18, none⟩)), (43, .pointer (some ⟨b_122, 0, none⟩)), (44, .bool true), (45, .int .i64 ((Bs_121).length : Int)), (109, .int .i64 ((lT (T.at 3)).length : Int)), (110, .int .i64 (k1 : Int)), (156, .int .i64 ((lT (((lT (T.at 3))[k1]).at 2)).length : Int)), (157, .int .i64 (k2 : Int)), (319, .slice et_69 (encT (tgU fs_sFetchResponseTopicPartition ((lT (((lT (T.at 3))[k1]).at 2))[k2])) 3).length dt_69), (320, .int .i64 ((encT (tgU fs_sFetchResponseTopicPartition ((lT (((lT (T.at 3))[k1]).at 2))[k2])) 3).length : Int)), (321, .int .i64 (k4 : Int))] = l' ∧ Ns_121 :: L = L' ∧ Row 5 1 as_121 ms_121 cs_121 (bytesOf (Bs_121 ++ uvar (fieldB (fs_sFetchResponseTopicPartition[7]'(by decide)) v true (((lT (((lT (T.at 3))[k1]).at 2))[k2]).at 7)).length)) Ns_121 ∧ ms_121 = (Bs_121 ++ uvar (fieldB (fs_sFetchResponseTopicPartition[7]'(by decide)) v true (((lT (((lT (T.at 3))[k1]).at 2))[k2]).at 7)).length).length ∧ H'.at b_122 0 [.int .i64 ((((lT (((lT (T.at 3))[k1]).at 2))[k2]).at 7).at 0).n, .int .i32 (IntKind.i32.wrap ((((lT (((lT (T.at 3))[k1]).at 2))[k2]).at 7).at 1).n), .map m_k2_7_t]) rfl ?_ (fun l' H' L' les_121 hI => ?_)
             ·
              refine sr ?_
              refine mv rfl rfl ?_
              refine nc rfl rfl ?_
              refine fa F97_7 rfl rfl ?_
              refine la (Says.fz (hc_36.mono (le_47.trans (le_64.trans (le_67.trans (le_70.trans (lEg_62.trans le_72))))))) Tryz.isAgg94 Tryz.sizeOf94 rfl rfl rfl rfl ?_
              refine al Tryz.zeroValue94 rfl rfl (fun b_122 => ?_)
              refine sa Tryz.sizeOf94 rfl rfl rfl rfl rfl .head ?_
              refine frL (Row.whole (size := 3) (m := 1) (ds := [.int .i64 ((((lT (((lT (T.at 3))[k1]).at 2))[k2]).at 7).at 0).n, .int .i32 (IntKind.i32.wrap ((((lT (((lT (T.at 3))[k1]).at 2))[k2]).at 7).at 1).n), .map m_k2_7_t]) rfl (by decide)) .head (fun Hz_123 lz_124 yz_123 => ?_)
              have z_123 : Hz_123.at b_122 0 [.int .i64 ((((lT (((lT (T.at 3))[k1]).at 2))[k2]).at 7).at 0).n, .int .i32 (IntKind.i32.wrap ((((lT (((lT (T.at 3))[k1]).at 2))[k2]).at 7).at 1).n), .map m_k2_7_t] := by
               rcases yz_123 with ⟨h, _⟩ | ⟨g, h, h2⟩
               · cases h
               · cases h; exact h2
              refine nl ?_
              refine sr ?_
              refine mv rfl rfl ?_
              refine cl rfl rfl rfl (k_AppendUvarint (n := 2) (by omega) rbXk4 (by have h := hsk4; rw [tagB_len] at h; unfold LIM at h; omega)) rfl (fun v_ H1 L1 hle hR => ?_)
              obtain ⟨rfl, a415, c415, N415, rfl, rfl, h415⟩ := hR
              have r415 := h415.1
              have rbs_121 := r415
              rw [← hds_121] at rbs_121 ⊢
              refine asg rfl rfl ?_
              refine nl ?_
              refine sr ?_
              refine asg rfl rfl ?_
              refine nl ?_
              refine sr ?_
              refine mv rfl rfl ?_
              refine ls Tryz.runUnderlying22 rfl rfl ?_
              refine asg rfl rfl ?_
              refine nl ?_
              refine sq ?_
              refine lb ?_
              refine Nt ?_
              refine sq ?_
              refine sr ?_
              refine fa0 F94_0 rfl rfl ?_
              refine ld (Says.fz z_123) Tryz.isAgg2 rfl (Nat.zero_add _).symm rfl rfl ?_
              refine asg rfl rfl ?_
              refine nl ?_
              refine rg ?_
              refine mv rfl rfl ?_
              refine mv rfl rfl ?_
              have hnt_Bs_121 := oek2.get 7 (by decide) (has_yes (show (0 : Int) ≤ v by omega) (show ((-1) : Int) < 0 ∨ v ≤ (-1) by omega))
              have ok_125 : OkP fs_sFetchResponseTopicPartitionSnapshotID v (((lT (((lT (T.at 3))[k1]).at 2))[k2]).at 7) := hnt_Bs_121.part rfl (hnt_Bs_121.nnT (by decide) (by decide))
              have e_126 : Bs_121 ++ (partB fs_sFetchResponseTopicPartitionSnapshotID v true (((lT (((lT (T.at 3))[k1]).at 2))[k2]).at 7)) = Bs_121 ++ (fieldB (fs_sFetchResponseTopicPartition[7]'(by decide)) v true (((lT (((lT (T.at 3))[k1]).at 2))[k2]).at 7)) := congrArg (Bs_121 ++ ·) ((FB_part (f := (fs_sFetchResponseTopicPartition[7]'(by decide))) (by decide) (by decide))).symm
              have hFp_Bs_121 : (fieldB (fs_sFetchResponseTopicPartition[7]'(by decide)) v true (((lT (((lT (T.at 3))[k1]).at 2))[k2]).at 7)) = partB fs_sFetchResponseTopicPartitionSnapshotID v true (((lT (((lT (T.at 3))[k1]).at 2))[k2]).at 7) := (FB_part (f := (fs_sFetchResponseTopicPartition[7]'(by decide))) (by decide) (by decide))
              have hB_127 : (Bs_121).length + (partB fs_sFetchResponseTopicPartitionSnapshotID v true (((lT (((lT (T.at 3))[k1]).at 2))[k2]).at 7)).length ≤ LIM := by rw [← hFp_Bs_121]; exact hBs_121
              have ok422 := ok_125.get 0 (by decide) (has_yes (show (0 : Int) ≤ v by omega) (show ((-1) : Int) < 0 ∨ v ≤ (-1) by omega))
              have e_128 : Bs_121 ++ (fixed (((((lT (((lT (T.at 3))[k1]).at 2))[k2]).at 7).at 0).n) 8) = Bs_121 ++ plainTo (zipped fs_sFetchResponseTopicPartitionSnapshotID v true (((lT (((lT (T.at 3))[k1]).at 2))[k2]).at 7)) v 1 := fold_first (fs := fs_sFetchResponseTopicPartitionSnapshotID) (v := v) (flex := true) (t := (((lT (((lT (T.at 3))[k1]).at 2))[k2]).at 7)) (B := Bs_121) 0 rfl (by decide) (by decide) (has_yes (show (0 : Int) ≤ v by omega) (show ((-1) : Int) < 0 ∨ v ≤ (-1) by omega)) ((FB_int (f := (fs_sFetchResponseTopicPartitionSnapshotID[0]'(by decide))) (by decide) (by decide)).trans rfl)
              have hs422 := fold_size e_128 (by decide) hB_127
              refine cl rfl rfl rfl (OutK.cast (k_AppendInt64 (u := ((((lT (((lT (T.at 3))[k1]).at 2))[k2]).at 7).at 0).n) rbs_121 hs422) e_128) rfl (fun v_ H1 L1 hle hR => ?_)
              obtain ⟨rfl, a422, c422, N422, rfl, rfl, h422⟩ := hR
              have r422 := h422.1
              refine asg rfl rfl ?_
              refine nl ?_
              refine sq ?_
              refine sr ?_
              refine fa0 F94_1 rfl rfl ?_
              refine ld (Says.fz z_123) Tryz.isAgg21 rfl (Nat.zero_add _).symm rfl rfl ?_
              refine asg rfl rfl ?_
              refine nl ?_
              refine rg ?_
              refine mv rfl rfl ?_
              refine mv rfl rfl ?_
              have ok427 := ok_125.get 1 (by decide) (has_yes (show (0 : Int) ≤ v by omega) (show ((-1) : Int) < 0 ∨ v ≤ (-1) by omega))
              have e_129 : Bs_121 ++ plainTo (zipped fs_sFetchResponseTopicPartitionSnapshotID v true (((lT (((lT (T.at 3))[k1]).at 2))[k2]).at 7)) v 1 ++ (fixed (IntKind.i32.wrap ((((lT (((lT (T.at 3))[k1]).at 2))[k2]).at 7).at 1).n) 4) = Bs_121 ++ plainTo (zipped fs_sFetchResponseTopicPartitionSnapshotID v true (((lT (((lT (T.at 3))[k1]).at 2))[k2]).at 7)) v 2 := fold_yes (fs := fs_sFetchResponseTopicPartitionSnapshotID) (v := v) (flex := true) (t := (((lT (((lT (T.at 3))[k1]).at 2))[k2]).at 7)) (B := Bs_121) 1 (by decide) (by decide) (has_yes (show (0 : Int) ≤ v by omega) (show ((-1) : Int) < 0 ∨ v ≤ (-1) by omega)) ((FB_int (f := (fs_sFetchResponseTopicPartitionSnapshotID[1]'(by decide))) (by decide) (by decide)).trans (fixed_i32 _).symm)
              have hs427 := fold_size e_129 (by decide) hB_127
              refine cl rfl rfl rfl (OutK.cast (k_AppendInt32 (u := IntKind.i32.wrap ((((lT (((lT (T.at 3))[k1]).at 2))[k2]).at 7).at 1).n) r422 hs427) e_129) rfl (fun v_ H1 L1 hle hR => ?_)
              obtain ⟨rfl, a427, c427, N427, rfl, rfl, h427⟩ := hR
              have r427 := h427.1
              refine asg rfl rfl ?_
              refine nl ?_
              refine sq ?_
              refine sr ?_
              refine mv rfl rfl ?_
              refine nl ?_
              refine cdT rfl (by omega) ?_
              refine sr ?_
              refine mv rfl rfl ?_
              refine fa0 F94_2 rfl rfl ?_
              refine cl rfl rfl rfl (t_lenU (j := 2) z_123 rfl ((hf_k2_2.mono (le_47.trans (le_64.trans (le_67.trans (le_70.trans (lEg_62.trans (le_72.trans lz_124)))))))).1) rfl (fun v_ H1 L1 hle hR => ?_)
              obtain ⟨rfl, rfl, rfl⟩ := hR
              have hu431 := ok_125.u
              have hul431 := hu431.2.1
              obtain ⟨hz431a, hz431b⟩ := part_size_plain (by decide) hu431 hB_127
              refine cv Tryz.runUnderlying3 Tryz.runUnderlying62 rfl (w32u (by omega) (by omega)) rfl ?_
              refine ad rfl rfl ((w32u (by omega) (by omega)).trans (Int.zero_add _)) rfl ?_
              refine cl rfl rfl rfl (k_AppendUvarint (n := (((lT (((lT (T.at 3))[k1]).at 2))[k2]).at 7).u.length) (by omega) r427 hz431a) rfl (fun v_ H1 L1 hle hR => ?_)
              obtain ⟨rfl, a434, c434, N434, rfl, rfl, h434⟩ := hR
              have r434 := h434.1
              refine asg rfl rfl ?_
              refine nl ?_
              refine rg ?_
              refine fa0 F94_2 rfl rfl ?_
              refine mv rfl rfl ?_
              refine cl rfl rfl rfl (t_append_each (j := 2) z_123 rfl ((hf_k2_2.mono (le_47.trans (le_64.trans (le_67.trans (le_70.trans (lEg_62.trans (le_72.trans lz_124)))))))).1 (by omega) r434 (fun p hp => by have := hu431.2.2 p hp; omega) hz431b) rfl (fun v_ H1 L1 le_130 hR => ?_)
              obtain ⟨a437, c437, N437, rfl, rfl, h437⟩ := hR
              have r437 := h437.1
              have eP_131 : Bs_121 ++ plainTo (zipped fs_sFetchResponseTopicPartitionSnapshotID v true (((lT (((lT (T.at 3))[k1]).at 2))[k2]).at 7)) v 2 ++ uvar (((lT (((lT (T.at 3))[k1]).at 2))[k2]).at 7).u.length ++ (((lT (((lT (T.at 3))[k1]).at 2))[k2]).at 7).u.flatMap tagU = Bs_121 ++ partB fs_sFetchResponseTopicPartitionSnapshotID v true (((lT (((lT (T.at 3))[k1]).at 2))[k2]).at 7) := part_close (B := Bs_121) (by decide) hu431
              rw [eP_131] at r437 ⊢
              refine asg rfl rfl ?_
              refine nl ?_
              refine sr ?_
              refine mv rfl rfl ?_
              refine nt rfl rfl ?_
              refine nl ?_
              refine cT rfl ?_
              refine sq ?_
              have rp_132 := r437
              rw [e_126] at rp_132 ⊢
              have hzs_121 := And.intro (show Bs_121.length ≤ (Bs_121 ++ (fieldB (fs_sFetchResponseTopicPartition[7]'(by decide)) v true (((lT (((lT (T.at 3))[k1]).at 2))[k2]).at 7))).length by rw [List.length_append]; omega) (Row.le rp_132).1
              refine rgD 10 .nil mixed ?_
              refine dU 0 rfl rfl rfl (y_mv rfl) .nil ler ?_
              refine dU 1 rfl rfl rfl (y_mv rfl) .nil ler ?_
              refine dU 2 rfl rfl rfl (y_slh (j := Bs_121.length) Tryz.runUnderlying22 Tryz.sizeOf5 rfl rfl rfl (Nat.le_trans hzs_121.1 hzs_121.2)) .nil ler ?_
              refine dU 3 rfl rfl rfl (y_mv rfl) .nil ler ?_
              refine dU 4 rfl rfl rfl (y_mv rfl) .nil ler ?_
              refine dU 5 rfl rfl rfl (y_slo (j := Bs_121.length) Tryz.runUnderlying22 Tryz.sizeOf5 rfl rfl rfl hzs_121.1 hzs_121.2) .nil ler ?_
              refine dU 6 rfl rfl rfl (y_ls Tryz.runUnderlying22 rfl) .nil ler ?_
              refine dU 7 rfl rfl rfl (y_cvI Tryz.runUnderlying3 Tryz.runUnderlying62 rfl (resz_len h32s_121)) .nil ler ?_
              refine dE 8 (by kernel_rfl) rfl ?_
              refine cl rfl rfl rfl (k_AppendUvarint (n := (fieldB (fs_sFetchResponseTopicPartition[7]'(by decide)) v true (((lT (((lT (T.at 3))[k1]).at 2))[k2]).at 7)).length) h32s_121 (Row.cut rp_132) (by have h := hsk4; rw [tagB_len] at h; unfold LIM at h; rw [hds_121]; simp only [List.length_append]; omega)) rfl (fun v_ H1 L1 hle hR => ?_)
              obtain ⟨rfl, a448, c448, N448, rfl, rfl, h448⟩ := hR
              have r448 := h448.1
              refine dN .nil ler ?_
              refine dU 9 rfl rfl rfl (y_asg rfl) .nil ler ?_
              refine dD (by kernel_rfl) ?_
              refine Nt ?_
              refine sr ?_
              refine asg rfl rfl ?_
              refine nl ?_
              refine gt0 (fun a_ w_ hA hw => show _ ∧ _ from ⟨rfl, _, _, _, hA.sub ?_, (lz_124.trans le_130), hw, _, _, _, _, _, rfl, rfl, r448, rfl, (z_123.mono le_130)⟩)
              exact (.of ⟨rfl, rfl, rfl, rfl, rfl, rfl, rfl, rfl, rfl, rfl, rfl, rfl, rfl, rfl, rfl, rfl, rfl, rfl, trivial⟩)
             ·
              obtain ⟨as_121, ms_121, cs_121, Ns_121, b_122, rfl, rfl, pss_121, qss_121, zss_121⟩ := hI
              subst qss_121
              obtain ⟨Cs_121, hdCs_121⟩ : ∃ z : List UInt8, z = Bs_121 ++ uvar (fieldB (fs_sFetchResponseTopicPartition[7]'(by decide)) v true (((lT (((lT (T.at 3))[k1]).at 2))[k2]).at 7)).length := ⟨_, rfl⟩
              have rbCs_121 := pss_121
              rw [← hdCs_121] at rbCs_121 ⊢
              have hBCs_121 : Cs_121.length + (fieldB (fs_sFetchResponseTopicPartition[7]'(by decide)) v true (((lT (((lT (T.at 3))[k1]).at 2))[k2]).at 7)).length ≤ LIM := by have h := hsk4; rw [tagB_len] at h; rw [hdCs_121, hds_121]; simp only [List.length_append]; omega
              refine sq ?_
              refine skt ?_
              refine sq ?_
              refine sr ?_
              refine fa0 F94_0 rfl rfl ?_
              refine ld (Says.fz zss_121) Tryz.isAgg2 rfl (Nat.zero_add _).symm rfl rfl ?_
              refine asg rfl rfl ?_
              refine nl ?_
              refine rg ?_
              refine mv rfl rfl ?_
              refine mv rfl rfl ?_
              have hnt_Cs_121 := oek2.get 7 (by decide) (has_yes (show (0 : Int) ≤ v by omega) (show ((-1) : Int) < 0 ∨ v ≤ (-1) by omega))
              have ok_133 : OkP fs_sFetchResponseTopicPartitionSnapshotID v (((lT (((lT (T.at 3))[k1]).at 2))[k2]).at 7) := hnt_Cs_121.part rfl (hnt_Cs_121.nnT (by decide) (by decide))
              have e_134 : Cs_121 ++ (partB fs_sFetchResponseTopicPartitionSnapshotID v true (((lT (((lT (T.at 3))[k1]).at 2))[k2]).at 7)) = Cs_121 ++ (fieldB (fs_sFetchResponseTopicPartition[7]'(by decide)) v true (((lT (((lT (T.at 3))[k1]).at 2))[k2]).at 7)) := congrArg (Cs_121 ++ ·) ((FB_part (f := (fs_sFetchResponseTopicPartition[7]'(by decide))) (by decide) (by decide))).symm
              have hFp_Cs_121 : (fieldB (fs_sFetchResponseTopicPartition[7]'(by decide)) v true (((lT (((lT (T.at 3))[k1]).at 2))[k2]).at 7)) = partB fs_sFetchResponseTopicPartitionSnapshotID v true (((lT (((lT (T.at 3))[k1]).at 2))[k2]).at 7) := (FB_part (f := (fs_sFetchResponseTopicPartition[7]'(by decide))) (by decide) (by decide))
              have hB_135 : (Cs_121).length + (partB fs_sFetchResponseTopicPartitionSnapshotID v true (((lT (((lT (T.at 3))[k1]).at 2))[k2]).at 7)).length ≤ LIM := by rw [← hFp_Cs_121]; exact hBCs_121
              have ok422 := ok_133.get 0 (by decide) (has_yes (show (0 : Int) ≤ v by omega) (show ((-1) : Int) < 0 ∨ v ≤ (-1) by omega))
              have e_136 : Cs_121 ++ (fixed (((((lT (((lT (T.at 3))[k1]).at 2))[k2]).at 7).at 0).n) 8) = Cs_121 ++ plainTo (zipped fs_sFetchResponseTopicPartitionSnapshotID v true (((lT (((lT (T.at 3))[k1]).at 2))[k2]).at 7)) v 1 := fold_first (fs := fs_sFetchResponseTopicPartitionSnapshotID) (v := v) (flex := true) (t := (((lT (((lT (T.at 3))[k1]).at 2))[k2]).at 7)) (B := Cs_121) 0 rfl (by decide) (by decide) (has_yes (show (0 : Int) ≤ v by omega) (show ((-1) : Int) < 0 ∨ v ≤ (-1) by omega)) ((FB_int (f := (fs_sFetchResponseTopicPartitionSnapshotID[0]'(by decide))) (by decide) (by decide)).trans rfl)
              have hs422 := fold_size e_136 (by decide) hB_135
              refine cl rfl rfl rfl (OutK.cast (k_AppendInt64 (u := ((((lT (((lT (T.at 3))[k1]).at 2))[k2]).at 7).at 0).n) rbCs_121 hs422) e_136) rfl (fun v_ H1 L1 hle hR => ?_)
              obtain ⟨rfl, a422, c422, N422, rfl, rfl, h422⟩ := hR
              have r422 := h422.1
              refine asg rfl rfl ?_
              refine nl ?_
              refine sq ?_
              refine sr ?_
              refine fa0 F94_1 rfl rfl ?_
              refine ld (Says.fz zss_121) Tryz.isAgg21 rfl (Nat.zero_add _).symm rfl rfl ?_
              refine asg rfl rfl ?_
              refine nl ?_
              refine rg ?_
              refine mv rfl rfl ?_
              refine mv rfl rfl ?_
              have ok427 := ok_133.get 1 (by decide) (has_yes (show (0 : Int) ≤ v by omega) (show ((-1) : Int) < 0 ∨ v ≤ (-1) by omega))
              have e_137 : Cs_121 ++ plainTo (zipped fs_sFetchResponseTopicPartitionSnapshotID v true (((lT (((lT (T.at 3))[k1]).at 2))[k2]).at 7)) v 1 ++ (fixed (IntKind.i32.wrap ((((lT (((lT (T.at 3))[k1]).at 2))[k2]).at 7).at 1).n) 4) = Cs_121 ++ plainTo (zipped fs_sFetchResponseTopicPartitionSnapshotID v true (((lT (((lT (T.at 3))[k1]).at 2))[k2]).at 7)) v 2 := fold_yes (fs := fs_sFetchResponseTopicPartitionSnapshotID) (v := v) (flex := true) (t := (((lT (((lT (T.at 3))[k1]).at 2))[k2]).at 7)) (B := Cs_121) 1 (by decide) (by decide) (has_yes (show (0 : Int) ≤ v by omega) (show ((-1) : Int) < 0 ∨ v ≤ (-1) by omega)) ((FB_int (f := (fs_sFetchResponseTopicPartitionSnapshotID[1]'(by decide))) (by decide) (by decide)).trans (fixed_i32 _).symm)
              have hs427 := fold_size e_137 (by decide) hB_135
              refine cl rfl rfl rfl (OutK.cast (k_AppendInt32 (u := IntKind.i32.wrap ((((lT (((lT (T.at 3))[k1]).at 2))[k2]).at 7).at 1).n) r422 hs427) e_137) rfl (fun v_ H1 L1 hle hR => ?_)
              obtain ⟨rfl, a427, c427, N427, rfl, rfl, h427⟩ := hR
              have r427 := h427.1
              refine asg rfl rfl ?_
              refine nl ?_
              refine sq ?_
              refine sr ?_
              refine mv rfl rfl ?_
              refine nl ?_
              refine cdT rfl (by omega) ?_
              refine sr ?_
              refine mv rfl rfl ?_
              refine fa0 F94_2 rfl rfl ?_
              refine cl rfl rfl rfl (t_lenU (j := 2) zss_121 rfl ((hf_k2_2.mono (le_47.trans (le_64.trans (le_67.trans (le_70.trans (lEg_62.trans (le_72.trans les_121)))))))).1) rfl (fun v_ H1 L1 hle hR => ?_)
              obtain ⟨rfl, rfl, rfl⟩ := hR
              have hu431 := ok_133.u
              have hul431 := hu431.2.1
              obtain ⟨hz431a, hz431b⟩ := part_size_plain (by decide) hu431 hB_135
              refine cv Tryz.runUnderlying3 Tryz.runUnderlying62 rfl (w32u (by omega) (by omega)) rfl ?_
              refine ad rfl rfl ((w32u (by omega) (by omega)).trans (Int.zero_add _)) rfl ?_
              refine cl rfl rfl rfl (k_AppendUvarint (n := (((lT (((lT (T.at 3))[k1]).at 2))[k2]).at 7).u.length) (by omega) r427 hz431a) rfl (fun v_ H1 L1 hle hR => ?_)
              obtain ⟨rfl, a434, c434, N434, rfl, rfl, h434⟩ := hR
              have r434 := h434.1
              refine asg rfl rfl ?_
              refine nl ?_
              refine rg ?_
              refine fa0 F94_2 rfl rfl ?_
              refine mv rfl rfl ?_
              refine cl rfl rfl rfl (t_append_each (j := 2) zss_121 rfl ((hf_k2_2.mono (le_47.trans (le_64.trans (le_67.trans (le_70.trans (lEg_62.trans (le_72.trans les_121)))))))).1 (by omega) r434 (fun p hp => by have := hu431.2.2 p hp; omega) hz431b) rfl (fun v_ H1 L1 le_138 hR => ?_)
              obtain ⟨a437, c437, N437, rfl, rfl, h437⟩ := hR
              have r437 := h437.1
              have eP_139 : Cs_121 ++ plainTo (zipped fs_sFetchResponseTopicPartitionSnapshotID v true (((lT (((lT (T.at 3))[k1]).at 2))[k2]).at 7)) v 2 ++ uvar (((lT (((lT (T.at 3))[k1]).at 2))[k2]).at 7).u.length ++ (((lT (((lT (T.at 3))[k1]).at 2))[k2]).at 7).u.flatMap tagU = Cs_121 ++ partB fs_sFetchResponseTopicPartitionSnapshotID v true (((lT (((lT (T.at 3))[k1]).at 2))[k2]).at 7) := part_close (B := Cs_121) (by decide) hu431
              rw [eP_139] at r437 ⊢
              refine asg rfl rfl ?_
              refine nl ?_
              refine sr ?_
              refine mv rfl rfl ?_
              refine nt rfl rfl ?_
              refine nl ?_
              refine cF rfl ?_
              refine skN ?_
              refine scN ?_
              have rp_140 := r437
              rw [e_134] at rp_140 ⊢
              have et_141 : Cs_121 ++ (fieldB (fs_sFetchResponseTopicPartition[7]'(by decide)) v true (((lT (((lT (T.at 3))[k1]).at 2))[k2]).at 7)) = Xk4 ++ tagB 2 (fieldB (fs_sFetchResponseTopicPartition[7]'(by decide)) v true (((lT (((lT (T.at 3))[k1]).at 2))[k2]).at 7)) := by rw [hdCs_121, hds_121]; unfold tagB; simp only [List.append_assoc]
              have rt_142 := rp_140
              rw [et_141] at rt_142 ⊢
              refine Nb ?_
              refine Nb ?_
              have ee_143 : Xk4 ++ tagB 2 (fieldB (fs_sFetchResponseTopicPartition[7]'(by decide)) v true (((lT (((lT (T.at 3))[k1]).at 2))[k2]).at 7)) = B_k2 ++ plainTo (zipped fs_sFetchResponseTopicPartition v true ((lT (((lT (T.at 3))[k1]).at 2))[k2])) v 11 ++ uvar (tgN fs_sFetchResponseTopicPartition ((lT (((lT (T.at 3))[k1]).at 2))[k2])) ++ ((encT (tgU fs_sFetchResponseTopicPartition ((lT (((lT (T.at 3))[k1]).at 2))[k2])) 3).take (k4 + 1)).flatMap (tgO fs_sFetchResponseTopicPartition v ((lT (((lT (T.at 3))[k1]).at 2))[k2])) := by rw [hdXk4]; exact el_end (B0 := B_k2 ++ plainTo (zipped fs_sFetchResponseTopicPartition v true ((lT (((lT (T.at 3))[k1]).at 2))[k2])) v 11 ++ uvar (tgN fs_sFetchResponseTopicPartition ((lT (((lT (T.at 3))[k1]).at 2))[k2]))) (G := (tgO fs_sFetchResponseTopicPartition v ((lT (((lT (T.at 3))[k1]).at 2))[k2]))) hk4 (by rw [hck4, to_fs_sFetchResponseTopicPartition_2])
              refine fun a_ w_ hA hw => ⟨_, _, _, hA.sub ?_, (le_72.trans (les_121.trans le_138)), hw, _, rfl, _, _, _, _, rfl, rfl, (by rw [← ee_143]; exact rt_142), (by rw [← ee_143])⟩
              exact (.of ⟨rfl, rfl, rfl, rfl, rfl, rfl, rfl, rfl, rfl, rfl, rfl, rfl, rfl, rfl, rfl, trivial⟩)
            ·
             exact absurd (encT_mem (List.getElem_mem hk4)).1 (by omega)
         ·
          obtain ⟨a_k4, m_k4, c_k4, N_k4, rfl, rfl, pk40, pk41⟩ := hI
          refine toWp ?_
          have eLg_62 : B_k2 ++ plainTo (zipped fs_sFetchResponseTopicPartition v true ((lT (((lT (T.at 3))[k1]).at 2))[k2])) v 11 ++ uvar (tgN fs_sFetchResponseTopicPartition ((lT (((lT (T.at 3))[k1]).at 2))[k2])) ++ ((encT (tgU fs_sFetchResponseTopicPartition ((lT (((lT (T.at 3))[k1]).at 2))[k2])) 3).take (encT (tgU fs_sFetchResponseTopicPartition ((lT (((lT (T.at 3))[k1]).at 2))[k2])) 3).length).flatMap (tgO fs_sFetchResponseTopicPartition v ((lT (((lT (T.at 3))[k1]).at 2))[k2])) = B_k2 ++ plainTo (zipped fs_sFetchResponseTopicPartition v true ((lT (((lT (T.at 3))[k1]).at 2))[k2])) v 11 ++ uvar (tgN fs_sFetchResponseTopicPartition ((lT (((lT (T.at 3))[k1]).at 2))[k2])) ++ (encT (tgU fs_sFetchResponseTopicPartition ((lT (((lT (T.at 3))[k1]).at 2))[k2])) 3).flatMap (tgO fs_sFetchResponseTopicPartition v ((lT (((lT (T.at 3))[k1]).at 2))[k2])) := by rw [List.take_length]
          rw [eLg_62] at pk40 pk41
          subst pk41
          refine rg ?_
          refine mv rfl rfl ?_
          refine nc rfl rfl ?_
          refine fa F97_11 rfl rfl ?_
          refine mv rfl rfl ?_
          refine cl rfl rfl rfl (t_append_each (j := 17) (hc_36.mono (le_47.trans (le_64.trans (le_67.trans (le_70.trans (lEg_62.trans le_73)))))) rfl ((hf_k2_5.mono (le_47.trans (le_64.trans (le_67.trans (le_70.trans (lEg_62.trans le_73))))))).1 (by omega) pk40 (fun p hp => by have := hug_62.2.2 p hp; omega) hzg_62c) rfl (fun v_ H1 L1 le_144 hR => ?_)
          obtain ⟨a454, c454, N454, rfl, rfl, h454⟩ := hR
          have r454 := h454.1
          have eP_145 : B_k2 ++ plainTo (zipped fs_sFetchResponseTopicPartition v true ((lT (((lT (T.at 3))[k1]).at 2))[k2])) v 11 ++ uvar (tgN fs_sFetchResponseTopicPartition ((lT (((lT (T.at 3))[k1]).at 2))[k2])) ++ (encT (tgU fs_sFetchResponseTopicPartition ((lT (((lT (T.at 3))[k1]).at 2))[k2])) 3).flatMap (tgO fs_sFetchResponseTopicPartition v ((lT (((lT (T.at 3))[k1]).at 2))[k2])) ++ ((lT (((lT (T.at 3))[k1]).at 2))[k2]).u.flatMap tagU = B_k2 ++ partB fs_sFetchResponseTopicPartition v true ((lT (((lT (T.at 3))[k1]).at 2))[k2]) := by
           have h := tags_close (v := v) (B := B_k2) on_fs_sFetchResponseTopicPartition hug_62
           rw [kn_fs_sFetchResponseTopicPartition] at h; exact h
          rw [eP_145] at r454 ⊢
          refine asg rfl rfl ?_
          refine nN ?_
          refine Nb ?_
          have ee_146 : B_k2 ++ partB fs_sFetchResponseTopicPartition v true ((lT (((lT (T.at 3))[k1]).at 2))[k2]) = B_k1 ++ plainTo (zipped fs_sFetchResponseTopic v true ((lT (T.at 3))[k1])) v 2 ++ (counted true false (lT (((lT (T.at 3))[k1]).at 2)).length 4) ++ ((lT (((lT (T.at 3))[k1]).at 2)).take (k2 + 1)).flatMap (GOf (fs_sFetchResponseTopic[2]'(by decide)) v true) := by rw [hdk2]; exact el_end (B0 := B_k1 ++ plainTo (zipped fs_sFetchResponseTopic v true ((lT (T.at 3))[k1])) v 2 ++ (counted true false (lT (((lT (T.at 3))[k1]).at 2)).length 4)) (G := (GOf (fs_sFetchResponseTopic[2]'(by decide)) v true)) hk2 (GOf_part (by decide) _)
          refine fun a_ w_ hA hw => ⟨_, _, _, hA.sub ?_, (le_28.trans (le_47.trans (le_64.trans (le_67.trans (le_70.trans (lEg_62.trans (le_73.trans le_144))))))), hw, _, rfl, _, _, _, _, rfl, rfl, (by rw [← ee_146]; exact r454), (by rw [← ee_146])⟩
          exact (.of ⟨rfl, rfl, rfl, rfl, rfl, rfl, rfl, rfl, rfl, rfl, rfl, trivial⟩)
    ·
     obtain ⟨a_k2, m_k2, c_k2, N_k2, rfl, rfl, pk20, pk21⟩ := hI
     refine toWp ?_
     have eL150 : B_k1 ++ plainTo (zipped fs_sFetchResponseTopic v true ((lT (T.at 3))[k1])) v 2 ++ (counted true false (lT (((lT (T.at 3))[k1]).at 2)).length 4) ++ ((lT (((lT (T.at 3))[k1]).at 2)).take (lT (((lT (T.at 3))[k1]).at 2)).length).flatMap (GOf (fs_sFetchResponseTopic[2]'(by decide)) v true) = B_k1 ++ plainTo (zipped fs_sFetchResponseTopic v true ((lT (T.at 3))[k1])) v 3 := by rw [List.take_length, List.append_assoc]; exact e_27
     rw [eL150] at pk20 pk21
     subst pk21
     refine sr ?_
     refine mv rfl rfl ?_
     refine nl ?_
     refine cdT rfl (by omega) ?_
     refine sr ?_
     refine mv rfl rfl ?_
     refine mv rfl rfl ?_
     refine nc rfl rfl ?_
     refine fa F75_3 rfl rfl ?_
     refine cl rfl rfl rfl (t_lenU (j := 18) (hc_13.mono (le_15.trans (le_20.trans le_29))) rfl ((hf_k1_1.mono (le_15.trans (le_20.trans le_29)))).1) rfl (fun v_ H1 L1 hle hR => ?_)
     obtain ⟨rfl, rfl, rfl⟩ := hR
     have hu461 := oek1.u
     have hul461 := hu461.2.1
     obtain ⟨hz461a, hz461b⟩ := part_size_plain (by decide) hu461 hBk1
     refine cv Tryz.runUnderlying3 Tryz.runUnderlying62 rfl (w32u (by omega) (by omega)) rfl ?_
     refine ad rfl rfl ((w32u (by omega) (by omega)).trans (Int.zero_add _)) rfl ?_
     refine cl rfl rfl rfl (k_AppendUvarint (n := ((lT (T.at 3))[k1]).u.length) (by omega) pk20 hz461a) rfl (fun v_ H1 L1 hle hR => ?_)
     obtain ⟨rfl, a464, c464, N464, rfl, rfl, h464⟩ := hR
     have r464 := h464.1
     refine asg rfl rfl ?_
     refine nl ?_
     refine rg ?_
     refine mv rfl rfl ?_
     refine nc rfl rfl ?_
     refine fa F75_3 rfl rfl ?_
     refine mv rfl rfl ?_
     refine cl rfl rfl rfl (t_append_each (j := 18) (hc_13.mono (le_15.trans (le_20.trans le_29))) rfl ((hf_k1_1.mono (le_15.trans (le_20.trans le_29)))).1 (by omega) r464 (fun p hp => by have := hu461.2.2 p hp; omega) hz461b) rfl (fun v_ H1 L1 le_147 hR => ?_)
     obtain ⟨a469, c469, N469, rfl, rfl, h469⟩ := hR
     have r469 := h469.1
     have eP_148 : B_k1 ++ plainTo (zipped fs_sFetchResponseTopic v true ((lT (T.at 3))[k1])) v 3 ++ uvar ((lT (T.at 3))[k1]).u.length ++ ((lT (T.at 3))[k1]).u.flatMap tagU = B_k1 ++ partB fs_sFetchResponseTopic v true ((lT (T.at 3))[k1]) := part_close (B := B_k1) (by decide) hu461
     rw [eP_148] at r469 ⊢
     refine asg rfl rfl ?_
     refine nN ?_
     refine Nb ?_
     have ee_149 : B_k1 ++ partB fs_sFetchResponseTopic v true ((lT (T.at 3))[k1]) = D ++ plainTo (zipped fs_FetchResponse v true T) v 3 ++ (counted true false (lT (T.at 3)).length 4) ++ ((lT (T.at 3)).take (k1 + 1)).flatMap (GOf (fs_FetchResponse[3]'(by decide)) v true) := by rw [hdk1]; exact el_end (B0 := D ++ plainTo (zipped fs_FetchResponse v true T) v 3 ++ (counted true false (lT (T.at 3)).length 4)) (G := (GOf (fs_FetchResponse[3]'(by decide)) v true)) hk1 (GOf_part (by decide) _)
     refine fun a_ w_ hA hw => ⟨_, _, _, hA.sub ?_, (le_5.trans (le_15.trans (le_20.trans (le_29.trans le_147)))), hw, _, rfl, _, _, _, _, rfl, rfl, (by rw [← ee_149]; exact r469), (by rw [← ee_149])⟩
     exact (.of ⟨rfl, rfl, rfl, rfl, rfl, rfl, rfl, trivial⟩)
 ·
  obtain ⟨a_k1, m_k1, c_k1, N_k1, rfl, rfl, pk10, pk11⟩ := hI
  refine toWp ?_
  have eL103 : D ++ plainTo (zipped fs_FetchResponse v true T) v 3 ++ (counted true false (lT (T.at 3)).length 4) ++ ((lT (T.at 3)).take (lT (T.at 3)).length).flatMap (GOf (fs_FetchResponse[3]'(by decide)) v true) = D ++ plainTo (zipped fs_FetchResponse v true T) v 4 := by rw [List.take_length, List.append_assoc]; exact e_4
  rw [eL103] at pk10 pk11
  subst pk11
  refine sq ?_
  refine sr ?_
  refine mv rfl rfl ?_
  refine nl ?_
  refine cdT rfl (by omega) ?_
  refine sr ?_
  have es_150 : plainTo (zipped fs_FetchResponse v true T) v 5 = plainTo (zipped fs_FetchResponse v true T) v 4 := (piece_no1 (fs := fs_FetchResponse) (v := v) (flex := true) (t := T) (k := 4) (by decide) (by decide))
  have eX_151 : D ++ plainTo (zipped fs_FetchResponse v true T) v 4 = D ++ plainTo (zipped fs_FetchResponse v true T) v 5 := by rw [es_150]
  have rx_152 := pk10
  rw [eX_151] at rx_152 ⊢
  have hug_153 := hok.u
  have hulg_153 := hug_153.2.1
  obtain ⟨hzg_153a, hzg_153b, hzg_153c⟩ := tagsW_size on_fs_FetchResponse hug_153 hb
  rw [kn_fs_FetchResponse] at hzg_153b hzg_153c
  rw [show fs_FetchResponse.length = 5 from rfl] at hzg_153a hzg_153b hzg_153c
  refine nilL ?_
  refine asg rfl rfl ?_
  refine nl ?_
  refine sq ?_
  refine sr ?_
  refine mv rfl rfl ?_
  refine nc rfl rfl ?_
  refine fa0 F58_5 rfl rfl ?_
  refine ld (Says.fz (hv.mono le_6)) Tryz.isAgg53 rfl (Nat.zero_add _).symm rfl rfl ?_
  refine ls Tryz.runUnderlying53 rfl rfl ?_
  refine gt rfl rfl rfl ?_
  refine nl ?_
  have okt_154 := hok.get 4 (by decide) (has_yes (show (0 : Int) ≤ v by omega) (show ((-1) : Int) < 0 ∨ v ≤ (-1) by omega))
  refine cutT (fun l' H' L' => ∃ (at_154 : Option Addr), ∃ (mt_154 : Nat), ∃ (ct_154 : Nat), ∃ (Nt_154 : Chunk), ∃ (et_154 : Option Addr), ∃ (nt_154 : Nat), ∃ (dt_154 : Nat), ∃ (NEt_154 : Chunk), [(0, .pointer (some ⟨b, 0, none⟩)), (1, .slice at_154 mt_154 ct_154), (6, .bool (decide ((12 : Int) ≤ v))), (48, .slice et_154 nt_154 dt_154)] = l' ∧ NEt_154 :: Nt_154 :: L = L' ∧ Row 5 1 at_154 mt_154 ct_154 (bytesOf (D ++ plainTo (zipped fs_FetchResponse v true T) v 5)) Nt_154 ∧ mt_154 = (D ++ plainTo (zipped fs_FetchResponse v true T) v 5).length ∧ Row 62 1 et_154 nt_154 dt_154 (u32L (encT (tgU fs_FetchResponse T) 1)) NEt_154 ∧ nt_154 = (encT (tgU fs_FetchResponse T) 1).length) ?_ (fun l' H' L' le_155 hI => ?_)
  ·
   refine cd rfl (fun h477 => ?_) (fun h477 => ?_)
   ·
    refine rg ?_
    refine mv rfl rfl ?_
    refine bs' L105 rfl rfl rfl rfl (fun b_156 => ?_)
    refine ap (k := 1) (news := [.int .u32 ((0 : Nat) : Int)]) Tryz.underlying105 I62 rfl rfl (Row.nil _ _) (fun _ => (.tail .head)) (src_says Tryz.underlying105 rfl (fun _ => Says.own .head) (by intro u hu; simp at hu; subst hu; rfl)) (by have := encT_len (tgU fs_FetchResponse T) 0; omega) (by have := encT_len (tgU fs_FetchResponse T) 0; unfold maxLen; omega) rfl (fun a480 c480 N480 r480 z480 => ?_)
    have q480 : Row 62 1 a480 (0 + 1) c480 (u32L ((encT (tgU fs_FetchResponse T) 0) ++ [0])) N480 := by rw [← u32L_snoc]; exact r480
    refine asg rfl rfl ?_
    refine nN ?_
    refine drN .head ?_
    have utt_154 : (tgU fs_FetchResponse T) 0 = false := (tu_fs_FetchResponse_0 _).trans (FU_list_no okt_154 (by decide) (by decide) h477)
    have uet_154 := encT_yes utt_154
    refine fun a_ w_ hA hw => ⟨_, _, _, hA.sub ?_, ler, hw, _, _, _, N_k1, _, _, _, N480, rfl, rfl, rx_152, rfl, (by rw [uet_154]; exact q480), (by rw [uet_154, List.length_append]; rfl)⟩
    exact (.of ⟨rfl, rfl, rfl, rfl, trivial⟩)
   ·
    refine skN ?_
    have utt_154 : (tgU fs_FetchResponse T) 0 = true := (tu_fs_FetchResponse_0 _).trans (FU_list_yes okt_154 (by decide) (by decide) h477)
    have uet_154 := encT_no utt_154
    refine fun a_ w_ hA hw => ⟨_, _, _, hA.sub ?_, ler, hw, _, _, _, N_k1, _, _, _, [], rfl, rfl, rx_152, rfl, (by rw [uet_154]; exact (Row.nil _ _)), (by rw [uet_154]; exact rfl)⟩
    exact (.of ⟨rfl, rfl, rfl, rfl, trivial⟩)
  ·
   obtain ⟨at_154, mt_154, ct_154, Nt_154, et_154, nt_154, dt_154, NEt_154, rfl, rfl, pj0, pj1, pj2, pj3⟩ := hI
   subst pj1
   subst pj3
   have rt_154 := pj0
   have rEt_154 := pj2
   have helg_153 := encT_len (tgU fs_FetchResponse T) 1
   refine sr ?_
   refine mv rfl rfl ?_
   refine mv rfl rfl ?_
   refine ls Tryz.runUnderlying105 rfl rfl ?_
   refine mv rfl rfl ?_
   refine nc rfl rfl ?_
   refine fa0 F58_6 rfl rfl ?_
   refine cl rfl rfl rfl (t_lenU (j := 6) (hv.mono (le_6.trans le_155)) rfl ((hf2.mono (le_6.trans le_155))).1) rfl (fun v_ H1 L1 hle hR => ?_)
   obtain ⟨rfl, rfl, rfl⟩ := hR
   refine ad rfl rfl (tgN_add kn_fs_FetchResponse (by omega)) rfl ?_
   refine cv Tryz.runUnderlying3 Tryz.runUnderlying62 rfl (w32u (by omega) (by unfold tgN; rw [kn_fs_FetchResponse]; omega)) rfl ?_
   refine tf (.tail .head) ?_
   refine cl rfl rfl rfl (k_AppendUvarint (n := tgN fs_FetchResponse T) (by unfold tgN; rw [kn_fs_FetchResponse]; omega) rt_154 hzg_153a) rfl (fun v_ H1 L1 hle hR => ?_)
   obtain ⟨rfl, a490, c490, N490, rfl, rfl, h490⟩ := hR
   have r490 := h490.1
   refine asg rfl rfl ?_
   refine nl ?_
   refine sq ?_
   refine sr ?_
   refine mv rfl rfl ?_
   refine ls Tryz.runUnderlying105 rfl rfl ?_
   refine mv rfl rfl ?_
   refine nl ?_
   refine frW rEt_154 (.tail .head) (fun HEg_153 lEg_153 zEg_153 => ?_)
   refine fr ((encT (tgU fs_FetchResponse T) 1).length) (fun k5 l' H' L' => ∃ (a_k5 : Option Addr), ∃ (m_k5 : Nat), ∃ (c_k5 : Nat), ∃ (N_k5 : Chunk), [(0, .pointer (some ⟨b, 0, none⟩)), (1, .slice a_k5 m_k5 c_k5), (6, .bool (decide ((12 : Int) ≤ v))), (491, .slice et_154 (encT (tgU fs_FetchResponse T) 1).length dt_154), (492, .int .i64 ((encT (tgU fs_FetchResponse T) 1).length : Int))] = l' ∧ N_k5 :: L = L' ∧ Row 5 1 a_k5 m_k5 c_k5 (bytesOf (D ++ plainTo (zipped fs_FetchResponse v true T) v 5 ++ uvar (tgN fs_FetchResponse T) ++ ((encT (tgU fs_FetchResponse T) 1).take k5).flatMap (tgO fs_FetchResponse v T))) N_k5 ∧ m_k5 = (D ++ plainTo (zipped fs_FetchResponse v true T) v 5 ++ uvar (tgN fs_FetchResponse T) ++ ((encT (tgU fs_FetchResponse T) 1).take k5).flatMap (tgO fs_FetchResponse v T)).length) [(0, .pointer (some ⟨b, 0, none⟩)), (1, .slice _ _ _), (6, .bool (decide ((12 : Int) ≤ v))), (491, .slice et_154 (encT (tgU fs_FetchResponse T) 1).length dt_154), (492, .int .i64 ((encT (tgU fs_FetchResponse T) 1).length : Int))] (fun k5 l' H' L' h => ?_) (by have := helg_153; omega) rfl (.of ⟨rfl, rfl, rfl, rfl, rfl, trivial⟩) ⟨_, _, _, _, rfl, rfl, (by rw [List.take_zero, List.flatMap_nil, List.append_nil]; exact r490), (by rw [List.take_zero, List.flatMap_nil, List.append_nil])⟩ rfl rfl rfl rfl rfl (fun k5 l' H' L' hk5 le_157 hI => ?_) (fun l' H' L' le_158 hI => ?_)
   · obtain ⟨a_k5, m_k5, c_k5, N_k5, rfl, _⟩ := h; exact ⟨rfl, rfl, rfl, rfl⟩
   ·
    obtain ⟨a_k5, m_k5, c_k5, N_k5, rfl, rfl, pk50, pk51⟩ := hI
    subst pk51
    refine sr ?_
    obtain ⟨g_159, eg_159, hg_159⟩ := enc_at zEg_153 rfl hk5
    refine ix2 Tryz.runUnderlying105 Tryz.sizeOf62 rfl eg_159 rfl rfl hk5 rfl ?_
    refine ld (j := k5) (Says.fz (hg_159.mono le_157)) Tryz.isAgg62 rfl (by omega) (u32L_nth hk5) rfl ?_
    refine asg rfl rfl ?_
    refine nl ?_
    refine sr ?_
    refine mv rfl rfl ?_
    refine nl ?_
    refine bl ?_
    refine sr ?_
    refine eq' rfl rfl rfl ?_
    refine asg rfl rfl ?_
    refine nl ?_
    refine cd rfl (fun hsk5_0 => ?_) (fun hsk5_0 => ?_)
    ·
     have hck5 : (encT (tgU fs_FetchResponse T) 1)[k5] = 0 := by omega
     have hsk5 := hzg_153b k5 hk5
     rw [hck5, to_fs_FetchResponse_0] at hsk5
     obtain ⟨Xk5, hdXk5⟩ : ∃ z : List UInt8, z = D ++ plainTo (zipped fs_FetchResponse v true T) v 5 ++ uvar (tgN fs_FetchResponse T) ++ ((encT (tgU fs_FetchResponse T) 1).take k5).flatMap (tgO fs_FetchResponse v T) := ⟨_, rfl⟩
     have rbXk5 := pk50
     rw [← hdXk5] at rbXk5 ⊢
     rw [← hdXk5] at hsk5
     obtain ⟨Bs_160, hds_160⟩ : ∃ z : List UInt8, z = Xk5 ++ uvar 0 := ⟨_, rfl⟩
     have hBs_160 : Bs_160.length + (fieldB (fs_FetchResponse[4]'(by decide)) v true (T.at 4)).length ≤ LIM := by have h := hsk5; rw [tagB_len] at h; rw [hds_160]; simp only [List.length_append]; omega
     have h32s_160 : (fieldB (fs_FetchResponse[4]'(by decide)) v true (T.at 4)).length < 4294967296 := by have h := hBs_160; unfold LIM at h; omega
     refine scT 3 (fun l' H' L' => ∃ (as_160 : Option Addr) (ms_160 cs_160 : Nat) (Ns_160 : Chunk), [(0, .pointer (some ⟨b, 0, none⟩)), (1, .slice as_160 ms_160 cs_160), (6, .bool (decide ((12 : Int) ≤ v))), (51, .slice a4 (lT (T.at 4)).length c4), (52, .bool true), (53, .int .i64 ((Bs_160).length : Int)), (491, .slice et_154 (encT (tgU fs_FetchResponse T) 1).length dt_154), (492, .int .i64 ((encT (tgU fs_FetchResponse T) 1).length : Int)), (493, .int .i64 (k5 : Int))] = l' ∧ Ns_160 :: L = L' ∧ Row 5 1 as_160 ms_160 cs_160 (bytesOf (Bs_160 ++ uvar (fieldB (fs_FetchResponse[4]'(by decide)) v true (T.at 4)).length)) Ns_160 ∧ ms_160 = (Bs_160 ++ uvar (fieldB (fs_FetchResponse[4]'(by decide)) v true (T.at 4)).length).length) rfl ?_ (fun l' H' L' les_160 hI => ?_)
     ·
      refine sr ?_
      refine mv rfl rfl ?_
      refine nc rfl rfl ?_
      refine fa0 F58_5 rfl rfl ?_
      refine ld (Says.fz (hv.mono (le_6.trans (le_155.trans (lEg_153.trans le_157))))) Tryz.isAgg53 rfl (Nat.zero_add _).symm rfl rfl ?_
      refine asg rfl rfl ?_
      refine nl ?_
      refine sr ?_
      refine mv rfl rfl ?_
      refine cl rfl rfl rfl (k_AppendUvarint (n := 0) (by omega) rbXk5 (by have h := hsk5; rw [tagB_len] at h; unfold LIM at h; omega)) rfl (fun v_ H1 L1 hle hR => ?_)
      obtain ⟨rfl, a505, c505, N505, rfl, rfl, h505⟩ := hR
      have r505 := h505.1
      have rbs_160 := r505
      rw [← hds_160] at rbs_160 ⊢
      refine asg rfl rfl ?_
      refine nl ?_
      refine sr ?_
      refine asg rfl rfl ?_
      refine nl ?_
      refine sr ?_
      refine mv rfl rfl ?_
      refine ls Tryz.runUnderlying22 rfl rfl ?_
      refine asg rfl rfl ?_
      refine nl ?_
      refine sq ?_
      refine lb ?_
      refine Nt ?_
      refine sq ?_
      refine sr ?_
      refine mv rfl rfl ?_
      refine nl ?_
      refine cdT rfl (by omega) ?_
      refine rg ?_
      refine mv rfl rfl ?_
      refine mv rfl rfl ?_
      refine ls Tryz.runUnderlying53 rfl rfl ?_
      have ok512 := hok.get 4 (by decide) (has_yes (show (0 : Int) ≤ v by omega) (show ((-1) : Int) < 0 ∨ v ≤ (-1) by omega))
      have ll512 := lT_len (ok512.len rfl)
      have e_161 : Bs_160 ++ (counted true false (lT (T.at 4)).length 4 ++ (lT (T.at 4)).flatMap (GOf (fs_FetchResponse[4]'(by decide)) v true)) = Bs_160 ++ (fieldB (fs_FetchResponse[4]'(by decide)) v true (T.at 4)) := congrArg (Bs_160 ++ ·) ((FB_listT (f := (fs_FetchResponse[4]'(by decide))) (by decide) (by decide) ok512)).symm
      have hs512 : (Bs_160).length + (counted true false (lT (T.at 4)).length 4 ++ (lT (T.at 4)).flatMap (GOf (fs_FetchResponse[4]'(by decide)) v true)).length ≤ LIM := by rw [← (FB_listT (f := (fs_FetchResponse[4]'(by decide))) (by decide) (by decide) ok512)]; exact hBs_160
      have hc512 : (Bs_160).length + (counted true false (lT (T.at 4)).length 4).length ≤ LIM := by have h := hs512; simp only [List.length_append] at h ⊢; omega
      refine cl rfl rfl rfl (OutK.cast (k_AppendCompactArrayLen (n := (lT (T.at 4)).length) (by omega) rbs_160 hc512) (show _ = Bs_160 ++ (counted true false (lT (T.at 4)).length 4) from rfl)) rfl (fun v_ H1 L1 hle hR => ?_)
      obtain ⟨rfl, a512, c512, N512, rfl, rfl, h512⟩ := hR
      have r512 := h512.1
      refine asg rfl rfl ?_
      refine nl ?_
      refine sq ?_
      refine sr ?_
      refine mv rfl rfl ?_
      refine ls Tryz.runUnderlying53 rfl rfl ?_
      refine mv rfl rfl ?_
      refine nl ?_
      refine fr ((lT (T.at 4)).length) (fun k6 l' H' L' => ∃ (a_k6 : Option Addr), ∃ (m_k6 : Nat), ∃ (c_k6 : Nat), ∃ (N_k6 : Chunk), [(0, .pointer (some ⟨b, 0, none⟩)), (1, .slice a_k6 m_k6 c_k6), (6, .bool (decide ((12 : Int) ≤ v))), (51, .slice a4 (lT (T.at 4)).length c4), (52, .bool false), (53, .int .i64 ((Bs_160).length : Int)), (491, .slice et_154 (encT (tgU fs_FetchResponse T) 1).length dt_154), (492, .int .i64 ((encT (tgU fs_FetchResponse T) 1).length : Int)), (493, .int .i64 (k5 : Int)), (508, .bool (decide ((12 : Int) ≤ v))), (510, .slice a4 (lT (T.at 4)).length c4), (511, .int .i64 ((lT (T.at 4)).length : Int)), (517, .slice a4 (lT (T.at 4)).length c4), (518, .int .i64 ((lT (T.at 4)).length : Int))] = l' ∧ N_k6 :: L = L' ∧ Row 5 1 a_k6 m_k6 c_k6 (bytesOf (Bs_160 ++ (counted true false (lT (T.at 4)).length 4) ++ ((lT (T.at 4)).take k6).flatMap (GOf (fs_FetchResponse[4]'(by decide)) v true))) N_k6 ∧ m_k6 = (Bs_160 ++ (counted true false (lT (T.at 4)).length 4) ++ ((lT (T.at 4)).take k6).flatMap (GOf (fs_FetchResponse[4]'(by decide)) v true)).length) [(0, .pointer (some ⟨b, 0, none⟩)), (1, .slice _ _ _), (6, .bool (decide ((12 : Int) ≤ v))), (51, .slice a4 (lT (T.at 4)).length c4), (52, .bool false), (53, .int .i64 ((Bs_160).length : Int)), (491, .slice et_154 (encT (tgU fs_FetchResponse T) 1).length dt_154), (492, .int .i64 ((encT (tgU fs_FetchResponse T) 1).length : Int)), (493, .int .i64 (k5 : Int)), (508, .bool (decide ((12 : Int) ≤ v))), (510, .slice a4 (lT (T.at 4)).length c4), (511, .int .i64 ((lT (T.at 4)).length : Int)), (517, .slice a4 (lT (T.at 4)).length c4), (518, .int .i64 ((lT (T.at 4)).length : Int))] (fun k6 l' H' L' h => ?_) (by omega) rfl (.of ⟨rfl, rfl, rfl, rfl, rfl, rfl, rfl, rfl, rfl, rfl, rfl, rfl, rfl, rfl, trivial⟩) ⟨_, _, _, _, rfl, rfl, (by rw [List.take_zero, List.flatMap_nil, List.append_nil]; exact r512), (by rw [List.take_zero, List.flatMap_nil, List.append_nil])⟩ rfl rfl rfl rfl rfl (fun k6 l' H' L' hk6 le_162 hI => ?_) (fun l' H' L' le_163 hI => ?_)
      · obtain ⟨a_k6, m_k6, c_k6, N_k6, rfl, _⟩ := h; exact ⟨rfl, rfl, rfl, rfl⟩
      ·
       obtain ⟨a_k6, m_k6, c_k6, N_k6, rfl, rfl, pk60, pk61⟩ := hI
       subst pk61
       refine sr ?_
       refine mv rfl rfl ?_
       refine asg rfl rfl ?_
       refine nl ?_
       refine sr ?_
       refine mv rfl rfl ?_
       refine mv rfl rfl ?_
       obtain ⟨b_164, o_165, e_166, g_167⟩ := (hf1.mono At_FetchResponseBroker.mono (le_6.trans (le_155.trans (lEg_153.trans (le_157.trans le_162))))).rows.at_ (ne_nil_of_lt hk6)
       obtain ⟨cs_168, hA_169, hc_170⟩ := g_167 k6 hk6
       refine ix2 Tryz.runUnderlying53 Tryz.sizeOf79 rfl e_166 rfl rfl hk6 rfl ?_
       obtain ⟨p_k6_3, m_k6_t, rfl, hf_k6_0, hf_k6_1⟩ := hA_169
       have oek6 := (ok512.el rfl _ (lT_mem (List.getElem_mem hk6))).2 rfl
       obtain ⟨B_k6, hdk6⟩ : ∃ z : List UInt8, z = Bs_160 ++ (counted true false (lT (T.at 4)).length 4) ++ ((lT (T.at 4)).take k6).flatMap (GOf (fs_FetchResponse[4]'(by decide)) v true) := ⟨_, rfl⟩
       have rbk6 := pk60
       rw [← hdk6] at rbk6 ⊢
       have hBk6 : B_k6.length + (partB fs_sFetchResponseBroker v true ((lT (T.at 4))[k6])).length ≤ LIM := by rw [hdk6]; exact el_size hs512 hk6 (GOf_part (by decide) _)
       have hr_k6 := RanN.lT (RanN.at hRan 4) (List.getElem_mem hk6)
       refine asg rfl rfl ?_
       refine nl ?_
       refine sq ?_
       refine sr ?_
       refine mv rfl rfl ?_
       refine nc rfl rfl ?_
       refine fa F79_0 rfl rfl ?_
       refine ld (Says.fz hc_170) Tryz.isAgg21 rfl (Nat.add_zero _).symm rfl rfl ?_
       refine asg rfl rfl ?_
       refine nl ?_
       refine rg ?_
       refine mv rfl rfl ?_
       refine mv rfl rfl ?_
       have ok531 := oek6.get 0 (by decide) (has_yes (show (0 : Int) ≤ v by omega) (show ((-1) : Int) < 0 ∨ v ≤ (-1) by omega))
       have e_171 : B_k6 ++ (fixed (IntKind.i32.wrap (((lT (T.at 4))[k6]).at 0).n) 4) = B_k6 ++ plainTo (zipped fs_sFetchResponseBroker v true ((lT (T.at 4))[k6])) v 1 := fold_first (fs := fs_sFetchResponseBroker) (v := v) (flex := true) (t := ((lT (T.at 4))[k6])) (B := B_k6) 0 rfl (by decide) (by decide) (has_yes (show (0 : Int) ≤ v by omega) (show ((-1) : Int) < 0 ∨ v ≤ (-1) by omega)) ((FB_int (f := (fs_sFetchResponseBroker[0]'(by decide))) (by decide) (by decide)).trans (fixed_i32 _).symm)
       have hs531 := fold_size e_171 (by decide) hBk6
       refine cl rfl rfl rfl (OutK.cast (k_AppendInt32 (u := IntKind.i32.wrap (((lT (T.at 4))[k6]).at 0).n) rbk6 hs531) e_171) rfl (fun v_ H1 L1 hle hR => ?_)
       obtain ⟨rfl, a531, c531, N531, rfl, rfl, h531⟩ := hR
       have r531 := h531.1
       refine asg rfl rfl ?_
       refine nl ?_
       refine sq ?_
       refine sr ?_
       refine mv rfl rfl ?_
       refine nc rfl rfl ?_
       refine fa F79_1 rfl rfl ?_
       refine ld (Says.fz hc_170) Tryz.isAgg9 rfl rfl rfl rfl ?_
       refine asg rfl rfl ?_
       refine nl ?_
       refine sr ?_
       refine mv rfl rfl ?_
       refine nl ?_
       refine cdT rfl (by omega) ?_
       refine rg ?_
       refine mv rfl rfl ?_
       refine mv rfl rfl ?_
       have ok539 := oek6.get 1 (by decide) (has_yes (show (0 : Int) ≤ v by omega) (show ((-1) : Int) < 0 ∨ v ≤ (-1) by omega))
       have nn539 := ok539.nn (by decide) (by decide) (by decide)
       have e_172 : B_k6 ++ plainTo (zipped fs_sFetchResponseBroker v true ((lT (T.at 4))[k6])) v 1 ++ (counted true false (((lT (T.at 4))[k6]).at 1).s.length 2 ++ (((lT (T.at 4))[k6]).at 1).s) = B_k6 ++ plainTo (zipped fs_sFetchResponseBroker v true ((lT (T.at 4))[k6])) v 2 := fold_yes (fs := fs_sFetchResponseBroker) (v := v) (flex := true) (t := ((lT (T.at 4))[k6])) (B := B_k6) 1 (by decide) (by decide) (has_yes (show (0 : Int) ≤ v by omega) (show ((-1) : Int) < 0 ∨ v ≤ (-1) by omega)) (by rw [FB_text (f := (fs_sFetchResponseBroker[1]'(by decide))) (by decide) (by decide) ok539, sT_nn nn539, nn539])
       have hs539 := fold_size e_172 (by decide) hBk6
       refine cl rfl rfl rfl (OutK.cast (k_AppendCompactString (x := (((lT (T.at 4))[k6]).at 1).s) (by have := ok539.s (Or.inl rfl); omega) r531 hs539) e_172) rfl (fun v_ H1 L1 hle hR => ?_)
       obtain ⟨rfl, a539, c539, N539, rfl, rfl, h539⟩ := hR
       have r539 := h539.1
       refine asg rfl rfl ?_
       refine nl ?_
       refine sq ?_
       refine sr ?_
       refine mv rfl rfl ?_
       refine nc rfl rfl ?_
       refine fa F79_2 rfl rfl ?_
       refine ld (Says.fz hc_170) Tryz.isAgg21 rfl rfl rfl rfl ?_
       refine asg rfl rfl ?_
       refine nl ?_
       refine rg ?_
       refine mv rfl rfl ?_
       refine mv rfl rfl ?_
       have ok549 := oek6.get 2 (by decide) (has_yes (show (0 : Int) ≤ v by omega) (show ((-1) : Int) < 0 ∨ v ≤ (-1) by omega))
       have e_173 : B_k6 ++ plainTo (zipped fs_sFetchResponseBroker v true ((lT (T.at 4))[k6])) v 2 ++ (fixed (IntKind.i32.wrap (((lT (T.at 4))[k6]).at 2).n) 4) = B_k6 ++ plainTo (zipped fs_sFetchResponseBroker v true ((lT (T.at 4))[k6])) v 3 := fold_yes (fs := fs_sFetchResponseBroker) (v := v) (flex := true) (t := ((lT (T.at 4))[k6])) (B := B_k6) 2 (by decide) (by decide) (has_yes (show (0 : Int) ≤ v by omega) (show ((-1) : Int) < 0 ∨ v ≤ (-1) by omega)) ((FB_int (f := (fs_sFetchResponseBroker[2]'(by decide))) (by decide) (by decide)).trans (fixed_i32 _).symm)
       have hs549 := fold_size e_173 (by decide) hBk6
       refine cl rfl rfl rfl (OutK.cast (k_AppendInt32 (u := IntKind.i32.wrap (((lT (T.at 4))[k6]).at 2).n) r539 hs549) e_173) rfl (fun v_ H1 L1 hle hR => ?_)
       obtain ⟨rfl, a549, c549, N549, rfl, rfl, h549⟩ := hR
       have r549 := h549.1
       refine asg rfl rfl ?_
       refine nl ?_
       refine sq ?_
       refine sr ?_
       refine mv rfl rfl ?_
       refine nc rfl rfl ?_
       refine fa F79_3 rfl rfl ?_
       refine ld (Says.fz hc_170) Tryz.isAgg77 rfl rfl rfl rfl ?_
       refine asg rfl rfl ?_
       refine nl ?_
       refine sr ?_
       refine mv rfl rfl ?_
       refine nl ?_
       refine cdT rfl (by omega) ?_
       refine rg ?_
       refine mv rfl rfl ?_
       refine mv rfl rfl ?_
       have ok557 := oek6.get 3 (by decide) (has_yes (show (0 : Int) ≤ v by omega) (show ((-1) : Int) < 0 ∨ v ≤ (-1) by omega))
       have e_174 : B_k6 ++ plainTo (zipped fs_sFetchResponseBroker v true ((lT (T.at 4))[k6])) v 3 ++ (counted true (((lT (T.at 4))[k6]).at 3).nul (sT (((lT (T.at 4))[k6]).at 3)).length 2 ++ sT (((lT (T.at 4))[k6]).at 3)) = B_k6 ++ plainTo (zipped fs_sFetchResponseBroker v true ((lT (T.at 4))[k6])) v 4 := fold_yes (fs := fs_sFetchResponseBroker) (v := v) (flex := true) (t := ((lT (T.at 4))[k6])) (B := B_k6) 3 (by decide) (by decide) (has_yes (show (0 : Int) ≤ v by omega) (show ((-1) : Int) < 0 ∨ v ≤ (-1) by omega)) (FB_text (f := (fs_sFetchResponseBroker[3]'(by decide))) (by decide) (by decide) ok557)
       have hs557 := fold_size e_174 (by decide) hBk6
       refine cl rfl rfl rfl (OutK.cast (k_AppendCompactNullableString hf_k6_0 (ok557.s (Or.inl rfl)) r549 hs557) e_174) rfl (fun v_ H1 L1 hle hR => ?_)
       obtain ⟨rfl, a557, c557, N557, rfl, rfl, h557⟩ := hR
       have r557 := h557.1
       refine asg rfl rfl ?_
       refine nl ?_
       refine sr ?_
       refine mv rfl rfl ?_
       refine nl ?_
       refine cdT rfl (by omega) ?_
       refine sr ?_
       refine mv rfl rfl ?_
       refine mv rfl rfl ?_
       refine nc rfl rfl ?_
       refine fa F79_4 rfl rfl ?_
       refine cl rfl rfl rfl (t_lenU (j := 4) hc_170 rfl (hf_k6_1).1) rfl (fun v_ H1 L1 hle hR => ?_)
       obtain ⟨rfl, rfl, rfl⟩ := hR
       have hu566 := oek6.u
       have hul566 := hu566.2.1
       obtain ⟨hz566a, hz566b⟩ := part_size_plain (by decide) hu566 hBk6
       refine cv Tryz.runUnderlying3 Tryz.runUnderlying62 rfl (w32u (by omega) (by omega)) rfl ?_
       refine ad rfl rfl ((w32u (by omega) (by omega)).trans (Int.zero_add _)) rfl ?_
       refine cl rfl rfl rfl (k_AppendUvarint (n := ((lT (T.at 4))[k6]).u.length) (by omega) r557 hz566a) rfl (fun v_ H1 L1 hle hR => ?_)
       obtain ⟨rfl, a569, c569, N569, rfl, rfl, h569⟩ := hR
       have r569 := h569.1
       refine asg rfl rfl ?_
       refine nl ?_
       refine rg ?_
       refine mv rfl rfl ?_
       refine nc rfl rfl ?_
       refine fa F79_4 rfl rfl ?_
       refine mv rfl rfl ?_
       refine cl rfl rfl rfl (t_append_each (j := 4) hc_170 rfl (hf_k6_1).1 (by omega) r569 (fun p hp => by have := hu566.2.2 p hp; omega) hz566b) rfl (fun v_ H1 L1 le_175 hR => ?_)
       obtain ⟨a574, c574, N574, rfl, rfl, h574⟩ := hR
       have r574 := h574.1
       have eP_176 : B_k6 ++ plainTo (zipped fs_sFetchResponseBroker v true ((lT (T.at 4))[k6])) v 4 ++ uvar ((lT (T.at 4))[k6]).u.length ++ ((lT (T.at 4))[k6]).u.flatMap tagU = B_k6 ++ partB fs_sFetchResponseBroker v true ((lT (T.at 4))[k6]) := part_close (B := B_k6) (by decide) hu566
       rw [eP_176] at r574 ⊢
       refine asg rfl rfl ?_
       refine nN ?_
       refine Nb ?_
       have ee_177 : B_k6 ++ partB fs_sFetchResponseBroker v true ((lT (T.at 4))[k6]) = Bs_160 ++ (counted true false (lT (T.at 4)).length 4) ++ ((lT (T.at 4)).take (k6 + 1)).flatMap (GOf (fs_FetchResponse[4]'(by decide)) v true) := by rw [hdk6]; exact el_end (B0 := Bs_160 ++ (counted true false (lT (T.at 4)).length 4)) (G := (GOf (fs_FetchResponse[4]'(by decide)) v true)) hk6 (GOf_part (by decide) _)
       refine fun a_ w_ hA hw => ⟨_, _, _, hA.sub ?_, (le_162.trans le_175), hw, _, rfl, _, _, _, _, rfl, rfl, (by rw [← ee_177]; exact r574), (by rw [← ee_177])⟩
       exact (.of ⟨rfl, rfl, rfl, rfl, rfl, rfl, rfl, rfl, rfl, rfl, rfl, rfl, rfl, rfl, rfl, trivial⟩)
      ·
       obtain ⟨a_k6, m_k6, c_k6, N_k6, rfl, rfl, pk60, pk61⟩ := hI
       refine toWp ?_
       have eL512 : Bs_160 ++ (counted true false (lT (T.at 4)).length 4) ++ ((lT (T.at 4)).take (lT (T.at 4)).length).flatMap (GOf (fs_FetchResponse[4]'(by decide)) v true) = Bs_160 ++ (fieldB (fs_FetchResponse[4]'(by decide)) v true (T.at 4)) := by rw [List.take_length, List.append_assoc]; exact e_161
       rw [eL512] at pk60 pk61
       subst pk61
       refine sr ?_
       refine mv rfl rfl ?_
       refine nt rfl rfl ?_
       refine nl ?_
       refine cT rfl ?_
       refine sq ?_
       have hzs_160 := And.intro (show Bs_160.length ≤ (Bs_160 ++ (fieldB (fs_FetchResponse[4]'(by decide)) v true (T.at 4))).length by rw [List.length_append]; omega) (Row.le pk60).1
       refine rgD 10 .nil mixed ?_
       refine dU 0 rfl rfl rfl (y_mv rfl) .nil ler ?_
       refine dU 1 rfl rfl rfl (y_mv rfl) .nil ler ?_
       refine dU 2 rfl rfl rfl (y_slh (j := Bs_160.length) Tryz.runUnderlying22 Tryz.sizeOf5 rfl rfl rfl (Nat.le_trans hzs_160.1 hzs_160.2)) .nil ler ?_
       refine dU 3 rfl rfl rfl (y_mv rfl) .nil ler ?_
       refine dU 4 rfl rfl rfl (y_mv rfl) .nil ler ?_
       refine dU 5 rfl rfl rfl (y_slo (j := Bs_160.length) Tryz.runUnderlying22 Tryz.sizeOf5 rfl rfl rfl hzs_160.1 hzs_160.2) .nil ler ?_
       refine dU 6 rfl rfl rfl (y_ls Tryz.runUnderlying22 rfl) .nil ler ?_
       refine dU 7 rfl rfl rfl (y_cvI Tryz.runUnderlying3 Tryz.runUnderlying62 rfl (resz_len h32s_160)) .nil ler ?_
       refine dE 8 (by kernel_rfl) rfl ?_
       refine cl rfl rfl rfl (k_AppendUvarint (n := (fieldB (fs_FetchResponse[4]'(by decide)) v true (T.at 4)).length) h32s_160 (Row.cut pk60) (by have h := hsk5; rw [tagB_len] at h; unfold LIM at h; rw [hds_160]; simp only [List.length_append]; omega)) rfl (fun v_ H1 L1 hle hR => ?_)
       obtain ⟨rfl, a586, c586, N586, rfl, rfl, h586⟩ := hR
       have r586 := h586.1
       refine dN .nil ler ?_
       refine dU 9 rfl rfl rfl (y_asg rfl) .nil ler ?_
       refine dD (by kernel_rfl) ?_
       refine Nt ?_
       refine sr ?_
       refine asg rfl rfl ?_
       refine nl ?_
       refine gt0 (fun a_ w_ hA hw => show _ ∧ _ from ⟨rfl, _, _, _, hA.sub ?_, le_163, hw, _, _, _, _, rfl, rfl, r586, rfl⟩)
       exact (.of ⟨rfl, rfl, rfl, rfl, rfl, rfl, rfl, rfl, rfl, trivial⟩)
     ·
      obtain ⟨as_160, ms_160, cs_160, Ns_160, rfl, rfl, pss_160, qss_160⟩ := hI
      subst qss_160
      obtain ⟨Cs_160, hdCs_160⟩ : ∃ z : List UInt8, z = Bs_160 ++ uvar (fieldB (fs_FetchResponse[4]'(by decide)) v true (T.at 4)).length := ⟨_, rfl⟩
      have rbCs_160 := pss_160
      rw [← hdCs_160] at rbCs_160 ⊢
      have hBCs_160 : Cs_160.length + (fieldB (fs_FetchResponse[4]'(by decide)) v true (T.at 4)).length ≤ LIM := by have h := hsk5; rw [tagB_len] at h; rw [hdCs_160, hds_160]; simp only [List.length_append]; omega
      refine sq ?_
      refine skt ?_
      refine sq ?_
      refine sr ?_
      refine mv rfl rfl ?_
      refine nl ?_
      refine cdT rfl (by omega) ?_
      refine rg ?_
      refine mv rfl rfl ?_
      refine mv rfl rfl ?_
      refine ls Tryz.runUnderlying53 rfl rfl ?_
      have ok512 := hok.get 4 (by decide) (has_yes (show (0 : Int) ≤ v by omega) (show ((-1) : Int) < 0 ∨ v ≤ (-1) by omega))
      have ll512 := lT_len (ok512.len rfl)
      have e_178 : Cs_160 ++ (counted true false (lT (T.at 4)).length 4 ++ (lT (T.at 4)).flatMap (GOf (fs_FetchResponse[4]'(by decide)) v true)) = Cs_160 ++ (fieldB (fs_FetchResponse[4]'(by decide)) v true (T.at 4)) := congrArg (Cs_160 ++ ·) ((FB_listT (f := (fs_FetchResponse[4]'(by decide))) (by decide) (by decide) ok512)).symm
      have hs512 : (Cs_160).length + (counted true false (lT (T.at 4)).length 4 ++ (lT (T.at 4)).flatMap (GOf (fs_FetchResponse[4]'(by decide)) v true)).length ≤ LIM := by rw [← (FB_listT (f := (fs_FetchResponse[4]'(by decide))) (by decide) (by decide) ok512)]; exact hBCs_160
      have hc512 : (Cs_160).length + (counted true false (lT (T.at 4)).length 4).length ≤ LIM := by have h := hs512; simp only [List.length_append] at h ⊢; omega
      refine cl rfl rfl rfl (OutK.cast (k_AppendCompactArrayLen (n := (lT (T.at 4)).length) (by omega) rbCs_160 hc512) (show _ = Cs_160 ++ (counted true false (lT (T.at 4)).length 4) from rfl)) rfl (fun v_ H1 L1 hle hR => ?_)
      obtain ⟨rfl, a512, c512, N512, rfl, rfl, h512⟩ := hR
      have r512 := h512.1
      refine asg rfl rfl ?_
      refine nl ?_
      refine sq ?_
      refine sr ?_
      refine mv rfl rfl ?_
      refine ls Tryz.runUnderlying53 rfl rfl ?_
      refine mv rfl rfl ?_
      refine nl ?_
      refine fr ((lT (T.at 4)).length) (fun k7 l' H' L' => ∃ (a_k7 : Option Addr), ∃ (m_k7 : Nat), ∃ (c_k7 : Nat), ∃ (N_k7 : Chunk), [(0, .pointer (some ⟨b, 0, none⟩)), (1, .slice a_k7 m_k7 c_k7), (6, .bool (decide ((12 : Int) ≤ v))), (51, .slice a4 (lT (T.at 4)).length c4), (52, .bool true), (53, .int .i64 ((Bs_160).length : Int)), (491, .slice et_154 (encT (tgU fs_FetchResponse T) 1).length dt_154), (492, .int .i64 ((encT (tgU fs_FetchResponse T) 1).length : Int)), (493, .int .i64 (k5 : Int)), (518, .int .i64 ((lT (T.at 4)).length : Int))] = l' ∧ N_k7 :: L = L' ∧ Row 5 1 a_k7 m_k7 c_k7 (bytesOf (Cs_160 ++ (counted true false (lT (T.at 4)).length 4) ++ ((lT (T.at 4)).take k7).flatMap (GOf (fs_FetchResponse[4]'(by decide)) v true))) N_k7 ∧ m_k7 = (Cs_160 ++ (counted true false (lT (T.at 4)).length 4) ++ ((lT (T.at 4)).take k7).flatMap (GOf (fs_FetchResponse[4]'(by decide)) v true)).length) [(0, .pointer (some ⟨b, 0, none⟩)), (1, .slice _ _ _), (6, .bool (decide ((12 : Int) ≤ v))), (51, .slice a4 (lT (T.at 4)).length c4), (52, .bool true), (53, .int .i64 ((Bs_160).length : Int)), (491, .slice et_154 (encT (tgU fs_FetchResponse T) 1).length dt_154), (492, .int .i64 ((encT (tgU fs_FetchResponse T) 1).length : Int)), (493, .int .i64 (k5 : Int)), (518, .int .i64 ((lT (T.at 4)).length : Int))] (fun k7 l' H' L' h => ?_) (by omega) rfl (.of ⟨rfl, rfl, rfl, rfl, rfl, rfl, rfl, rfl, rfl, rfl, trivial⟩) ⟨_, _, _, _, rfl, rfl, (by rw [List.take_zero, List.flatMap_nil, List.append_nil]; exact r512), (by rw [List.take_zero, List.flatMap_nil, List.append_nil])⟩ rfl rfl rfl rfl rfl (fun k7 l' H' L' hk7 le_179 hI => ?_) (fun l' H' L' le_180 hI => ?_)
      · obtain ⟨a_k7, m_k7, c_k7, N_k7, rfl, _⟩ := h; exact ⟨rfl, rfl, rfl, rfl⟩
      ·
       obtain ⟨a_k7, m_k7, c_k7, N_k7, rfl, rfl, pk70, pk71⟩ := hI
       subst pk71
       refine sr ?_
       refine mv rfl rfl ?_
       refine asg rfl rfl ?_
       refine nl ?_
       refine sr ?_
       refine mv rfl rfl ?_
       refine mv rfl rfl ?_
       obtain ⟨b_181, o_182, e_183, g_184⟩ := (hf1.mono At_FetchResponseBroker.mono (le_6.trans (le_155.trans (lEg_153.trans (le_157.trans (les_160.trans le_179)))))).rows.at_ (ne_nil_of_lt hk7)
       obtain ⟨cs_185, hA_186, hc_187⟩ := g_184 k7 hk7
       refine ix2 Tryz.runUnderlying53 Tryz.sizeOf79 rfl e_183 rfl rfl hk7 rfl ?_
       obtain ⟨p_k7_3, m_k7_t, rfl, hf_k7_0, hf_k7_1⟩ := hA_186
       have oek7 := (ok512.el rfl _ (lT_mem (List.getElem_mem hk7))).2 rfl
       obtain ⟨B_k7, hdk7⟩ : ∃ z : List UInt8, z = Cs_160 ++ (counted true false (lT (T.at 4)).length 4) ++ ((lT (T.at 4)).take k7).flatMap (GOf (fs_FetchResponse[4]'(by decide)) v true) := ⟨_, rfl⟩
       have rbk7 := pk70
       rw [← hdk7] at rbk7 ⊢
       have hBk7 : B_k7.length + (partB fs_sFetchResponseBroker v true ((lT (T.at 4))[k7])).length ≤ LIM := by rw [hdk7]; exact el_size hs512 hk7 (GOf_part (by decide) _)
       have hr_k7 := RanN.lT (RanN.at hRan 4) (List.getElem_mem hk7)
       refine asg rfl rfl ?_
       refine nl ?_
       refine sq ?_
       refine sr ?_
       refine mv rfl rfl ?_
       refine nc rfl rfl ?_
       refine fa F79_0 rfl rfl ?_
       refine ld (Says.fz hc_187) Tryz.isAgg21 rfl (Nat.add_zero _).symm rfl rfl ?_
       refine asg rfl rfl ?_
       refine nl ?_
       refine rg ?_
       refine mv rfl rfl ?_
       refine mv rfl rfl ?_
       have ok531 := oek7.get 0 (by decide) (has_yes (show (0 : Int) ≤ v by omega) (show ((-1) : Int) < 0 ∨ v ≤ (-1) by omega))
       have e_188 : B_k7 ++ (fixed (IntKind.i32.wrap (((lT (T.at 4))[k7]).at 0).n) 4) = B_k7 ++ plainTo (zipped fs_sFetchResponseBroker v true ((lT (T.at 4))[k7])) v 1 := fold_first (fs := fs_sFetchResponseBroker) (v := v) (flex := true) (t := ((lT (T.at 4))[k7])) (B := B_k7) 0 rfl (by decide) (by decide) (has_yes (show (0 : Int) ≤ v by omega) (show ((-1) : Int) < 0 ∨ v ≤ (-1) by omega)) ((FB_int (f := (fs_sFetchResponseBroker[0]'(by decide))) (by decide) (by decide)).trans (fixed_i32 _).symm)
       have hs531 := fold_size e_188 (by decide) hBk7
       refine cl rfl rfl rfl (OutK.cast (k_AppendInt32 (u := IntKind.i32.wrap (((lT (T.at 4))[k7]).at 0).n) rbk7 hs531) e_188) rfl (fun v_ H1 L1 hle hR => ?_)
       obtain ⟨rfl, a531, c531, N531, rfl, rfl, h531⟩ := hR
       have r531 := h531.1
       refine asg rfl rfl ?_
       refine nl ?_
       refine sq ?_
       refine sr ?_
       refine mv rfl rfl ?_
       refine nc rfl rfl ?_
       refine fa F79_1 rfl rfl ?_
       refine ld (Says.fz hc_187) Tryz.isAgg9 rfl rfl rfl rfl ?_
       refine asg rfl rfl ?_
       refine nl ?_
       refine sr ?_
       refine mv rfl rfl ?_
       refine nl ?_
       refine cdT rfl (by omega) ?_
       refine rg ?_
       refine mv rfl rfl ?_
       refine mv rfl rfl ?_
       have ok539 := oek7.get 1 (by decide) (has_yes (show (0 : Int) ≤ v by omega) (show ((-1) : Int) < 0 ∨ v ≤ (-1) by omega))
       have nn539 := ok539.nn (by decide) (by decide) (by decide)
       have e_189 : B_k7 ++ plainTo (zipped fs_sFetchResponseBroker v true ((lT (T.at 4))[k7])) v 1 ++ (counted true false (((lT (T.at 4))[k7]).at 1).s.length 2 ++ (((lT (T.at 4))[k7]).at 1).s) = B_k7 ++ plainTo (zipped fs_sFetchResponseBroker v true ((lT (T.at 4))[k7])) v 2 := fold_yes (fs := fs_sFetchResponseBroker) (v := v) (flex := true) (t := ((lT (T.at 4))[k7])) (B := B_k7) 1 (by decide) (by decide) (has_yes (show (0 : Int) ≤ v by omega) (show ((-1) : Int) < 0 ∨ v ≤ (-1) by omega)) (by rw [FB_text (f := (fs_sFetchResponseBroker[1]'(by decide))) (by decide) (by decide) ok539, sT_nn nn539, nn539])
       have hs539 := fold_size e_189 (by decide) hBk7
       refine cl rfl rfl rfl (OutK.cast (k_AppendCompactString (x := (((lT (T.at 4))[k7]).at 1).s) (by have := ok539.s (Or.inl rfl); omega) r531 hs539) e_189) rfl (fun v_ H1 L1 hle hR => ?_)
       obtain ⟨rfl, a539, c539, N539, rfl, rfl, h539⟩ := hR
       have r539 := h539.1
       refine asg rfl rfl ?_
       refine nl ?_
       refine sq ?_
       refine sr ?_
       refine mv rfl rfl ?_
       refine nc rfl rfl ?_
       refine fa F79_2 rfl rfl ?_
       refine ld (Says.fz hc_187) Tryz.isAgg21 rfl rfl rfl rfl ?_
       refine asg rfl rfl ?_
       refine nl ?_
       refine rg ?_
       refine mv rfl rfl ?_
       refine mv rfl rfl ?_
       have ok549 := oek7.get 2 (by decide) (has_yes (show (0 : Int) ≤ v by omega) (show ((-1) : Int) < 0 ∨ v ≤ (-1) by omega))
       have e_190 : B_k7 ++ plainTo (zipped fs_sFetchResponseBroker v true ((lT (T.at 4))[k7])) v 2 ++ (fixed (IntKind.i32.wrap (((lT (T.at 4))[k7]).at 2).n) 4) = B_k7 ++ plainTo (zipped fs_sFetchResponseBroker v true ((lT (T.at 4))[k7])) v 3 := fold_yes (fs := fs_sFetchResponseBroker) (v := v) (flex := true) (t := ((lT (T.at 4))[k7])) (B := B_k7) 2 (by decide) (by decide) (has_yes (show (0 : Int) ≤ v by omega) (show ((-1) : Int) < 0 ∨ v ≤ (-1) by omega)) ((FB_int (f := (fs_sFetchResponseBroker[2]'(by decide))) (by decide) (by decide)).trans (fixed_i32 _).symm)
       have hs549 := fold_size e_190 (by decide) hBk7
       refine cl rfl rfl rfl (OutK.cast (k_AppendInt32 (u := IntKind.i32.wrap (((lT (T.at 4))[k7]).at 2).n) r539 hs549) e_190) rfl (fun v_ H1 L1 hle hR => ?_)
       obtain ⟨rfl, a549, c549, N549, rfl, rfl, h549⟩ := hR
       have r549 := h549.1
       refine asg rfl rfl ?_
       refine nl ?_
       refine sq ?_
       refine sr ?_
       refine mv rfl rfl ?_
       refine nc rfl rfl ?_
       refine fa F79_3 rfl rfl ?_
       refine ld (Says.fz hc_187) Tryz.isAgg77 rfl rfl rfl rfl ?_
       refine asg rfl rfl ?_
       refine nl ?_
       refine sr ?_
       refine mv rfl rfl ?_
       refine nl ?_
       refine cdT rfl (by omega) ?_
       refine rg ?_
       refine mv rfl rfl ?_
       refine mv rfl rfl ?_
       have ok557 := oek7.get 3 (by decide) (has_yes (show (0 : Int) ≤ v by omega) (show ((-1) : Int) < 0 ∨ v ≤ (-1) by omega))
       have e_191 : B_k7 ++ plainTo (zipped fs_sFetchResponseBroker v true ((lT (T.at 4))[k7])) v 3 ++ (counted true (((lT (T.at 4))[k7]).at 3).nul (sT (((lT (T.at 4))[k7]).at 3)).length 2 ++ sT (((lT (T.at 4))[k7]).at 3)) = B_k7 ++ plainTo (zipped fs_sFetchResponseBroker v true ((lT (T.at 4))[k7])) v 4 := fold_yes (fs := fs_sFetchResponseBroker) (v := v) (flex := true) (t := ((lT (T.at 4))[k7])) (B := B_k7) 3 (by decide) (by decide) (has_yes (show (0 : Int) ≤ v by omega) (show ((-1) : Int) < 0 ∨ v ≤ (-1) by omega)) (FB_text (f := (fs_sFetchResponseBroker[3]'(by decide))) (by decide) (by decide) ok557)
       have hs557 := fold_size e_191 (by decide) hBk7
       refine cl rfl rfl rfl (OutK.cast (k_AppendCompactNullableString hf_k7_0 (ok557.s (Or.inl rfl)) r549 hs557) e_191) rfl (fun v_ H1 L1 hle hR => ?_)
       obtain ⟨rfl, a557, c557, N557, rfl, rfl, h557⟩ := hR
       have r557 := h557.1
       refine asg rfl rfl ?_
       refine nl ?_
       refine sr ?_
       refine mv rfl rfl ?_
       refine nl ?_
       refine cdT rfl (by omega) ?_
       refine sr ?_
       refine mv rfl rfl ?_
       refine mv rfl rfl ?_
       refine nc rfl rfl ?_
       refine fa F79_4 rfl rfl ?_
       refine cl rfl rfl rfl (t_lenU (j := 4) hc_187 rfl (hf_k7_1).1) rfl (fun v_ H1 L1 hle hR => ?_)
       obtain ⟨rfl, rfl, rfl⟩ := hR
       have hu566 := oek7.u
       have hul566 := hu566.2.1
       obtain ⟨hz566a, hz566b⟩ := part_size_plain (by decide) hu566 hBk7
       refine cv Tryz.runUnderlying3 Tryz.runUnderlying62 rfl (w32u (by omega) (by omega)) rfl ?_
       refine ad rfl rfl ((w32u (by omega) (by omega)).trans (Int.zero_add _)) rfl ?_
       refine cl rfl rfl rfl (k_AppendUvarint (n := ((lT (T.at 4))[k7]).u.length) (by omega) r557 hz566a) rfl (fun v_ H1 L1 hle hR => ?_)
       obtain ⟨rfl, a569, c569, N569, rfl, rfl, h569⟩ := hR
       have r569 := h569.1
       refine asg rfl rfl ?_
       refine nl ?_
       refine rg ?_
       refine mv rfl rfl ?_
       refine nc rfl rfl ?_
       refine fa F79_4 rfl rfl ?_
       refine mv rfl rfl ?_
       refine cl rfl rfl rfl (t_append_each (j := 4) hc_187 rfl (hf_k7_1).1 (by omega) r569 (fun p hp => by have := hu566.2.2 p hp; omega) hz566b) rfl (fun v_ H1 L1 le_192 hR => ?_)
       obtain ⟨a574, c574, N574, rfl, rfl, h574⟩ := hR
       have r574 := h574.1
       have eP_193 : B_k7 ++ plainTo (zipped fs_sFetchResponseBroker v true ((lT (T.at 4))[k7])) v 4 ++ uvar ((lT (T.at 4))[k7]).u.length ++ ((lT (T.at 4))[k7]).u.flatMap tagU = B_k7 ++ partB fs_sFetchResponseBroker v true ((lT (T.at 4))[k7]) := part_close (B := B_k7) (by decide) hu566
       rw [eP_193] at r574 ⊢
       refine asg rfl rfl ?_
       refine nN ?_
       refine Nb ?_
       have ee_194 : B_k7 ++ partB fs_sFetchResponseBroker v true ((lT (T.at 4))[k7]) = Cs_160 ++ (counted true false (lT (T.at 4)).length 4) ++ ((lT (T.at 4)).take (k7 + 1)).flatMap (GOf (fs_FetchResponse[4]'(by decide)) v true) := by rw [hdk7]; exact el_end (B0 := Cs_160 ++ (counted true false (lT (T.at 4)).length 4)) (G := (GOf (fs_FetchResponse[4]'(by decide)) v true)) hk7 (GOf_part (by decide) _)
       refine fun a_ w_ hA hw => ⟨_, _, _, hA.sub ?_, (le_179.trans le_192), hw, _, rfl, _, _, _, _, rfl, rfl, (by rw [← ee_194]; exact r574), (by rw [← ee_194])⟩
       exact (.of ⟨rfl, rfl, rfl, rfl, rfl, rfl, rfl, rfl, rfl, rfl, rfl, trivial⟩)
      ·
       obtain ⟨a_k7, m_k7, c_k7, N_k7, rfl, rfl, pk70, pk71⟩ := hI
       refine toWp ?_
       have eL512 : Cs_160 ++ (counted true false (lT (T.at 4)).length 4) ++ ((lT (T.at 4)).take (lT (T.at 4)).length).flatMap (GOf (fs_FetchResponse[4]'(by decide)) v true) = Cs_160 ++ (fieldB (fs_FetchResponse[4]'(by decide)) v true (T.at 4)) := by rw [List.take_length, List.append_assoc]; exact e_178
       rw [eL512] at pk70 pk71
       subst pk71
       refine sr ?_
       refine mv rfl rfl ?_
       refine nt rfl rfl ?_
       refine nl ?_
       refine cF rfl ?_
       refine skN ?_
       refine scN ?_
       have et_195 : Cs_160 ++ (fieldB (fs_FetchResponse[4]'(by decide)) v true (T.at 4)) = Xk5 ++ tagB 0 (fieldB (fs_FetchResponse[4]'(by decide)) v true (T.at 4)) := by rw [hdCs_160, hds_160]; unfold tagB; simp only [List.append_assoc]
       have rt_196 := pk70
       rw [et_195] at rt_196 ⊢
       refine Nb ?_
       refine Nb ?_
       have ee_197 : Xk5 ++ tagB 0 (fieldB (fs_FetchResponse[4]'(by decide)) v true (T.at 4)) = D ++ plainTo (zipped fs_FetchResponse v true T) v 5 ++ uvar (tgN fs_FetchResponse T) ++ ((encT (tgU fs_FetchResponse T) 1).take (k5 + 1)).flatMap (tgO fs_FetchResponse v T) := by rw [hdXk5]; exact el_end (B0 := D ++ plainTo (zipped fs_FetchResponse v true T) v 5 ++ uvar (tgN fs_FetchResponse T)) (G := (tgO fs_FetchResponse v T)) hk5 (by rw [hck5, to_fs_FetchResponse_0])
       refine fun a_ w_ hA hw => ⟨_, _, _, hA.sub ?_, (le_157.trans (les_160.trans le_180)), hw, _, rfl, _, _, _, _, rfl, rfl, (by rw [← ee_197]; exact rt_196), (by rw [← ee_197])⟩
       exact (.of ⟨rfl, rfl, rfl, rfl, rfl, rfl, trivial⟩)
    ·
     exact absurd (encT_mem (List.getElem_mem hk5)).1 (by omega)
   ·
    obtain ⟨a_k5, m_k5, c_k5, N_k5, rfl, rfl, pk50, pk51⟩ := hI
    refine toWp ?_
    have eLg_153 : D ++ plainTo (zipped fs_FetchResponse v true T) v 5 ++ uvar (tgN fs_FetchResponse T) ++ ((encT (tgU fs_FetchResponse T) 1).take (encT (tgU fs_FetchResponse T) 1).length).flatMap (tgO fs_FetchResponse v T) = D ++ plainTo (zipped fs_FetchResponse v true T) v 5 ++ uvar (tgN fs_FetchResponse T) ++ (encT (tgU fs_FetchResponse T) 1).flatMap (tgO fs_FetchResponse v T) := by rw [List.take_length]
    rw [eLg_153] at pk50 pk51
    subst pk51
    refine rg ?_
    refine mv rfl rfl ?_
    refine nc rfl rfl ?_
    refine fa0 F58_6 rfl rfl ?_
    refine mv rfl rfl ?_
    refine cl rfl rfl rfl (t_append_each (j := 6) (hv.mono (le_6.trans (le_155.trans (lEg_153.trans le_158)))) rfl ((hf2.mono (le_6.trans (le_155.trans (lEg_153.trans le_158))))).1 (by omega) pk50 (fun p hp => by have := hug_153.2.2 p hp; omega) hzg_153c) rfl (fun v_ H1 L1 le_198 hR => ?_)
    obtain ⟨a592, c592, N592, rfl, rfl, h592⟩ := hR
    have r592 := h592.1
    have eP_199 : D ++ plainTo (zipped fs_FetchResponse v true T) v 5 ++ uvar (tgN fs_FetchResponse T) ++ (encT (tgU fs_FetchResponse T) 1).flatMap (tgO fs_FetchResponse v T) ++ T.u.flatMap tagU = D ++ partB fs_FetchResponse v true T := by
     have h := tags_close (v := v) (B := D) on_fs_FetchResponse hug_153
     rw [kn_fs_FetchResponse] at h; exact h
    rw [eP_199] at r592 ⊢
    refine asg rfl rfl ?_
    refine nl ?_
    refine sr ?_
    refine mv rfl rfl ?_
    refine asg rfl rfl ?_
    refine nl ?_
    exact rT rfl rfl (le_6.trans (le_155.trans (lEg_153.trans (le_158.trans le_198)))) (fun _ _ h => h) (OutB.of r592 rfl)
end Go.Sx

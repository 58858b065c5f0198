import Derived.Test.YtahmkeoedpghjaaBDescribeACLsResponse
import Derived.KernelRfl
set_option linter.unusedVariables false
set_option linter.unusedSimpArgs false
set_option maxRecDepth 100000
set_option maxHeartbeats 20000000
namespace Go.Sx
open Go.Proofs
theorem app_DescribeACLsResponse_f {H : Fz} {L : Own} {a : Option Addr} {cap b : Nat} {D : List UInt8} {N : Chunk} {cs : List Value} {T : Tr} {v : Int} (hr : Row 5 1 a D.length cap (bytesOf D) N) (hv : H.at b 0 cs) (hA : At_DescribeACLsResponse v H T cs) (hok : OkP fs_DescribeACLsResponse v T) (h0 : 0 ≤ v) (h1 : v ≤ 1) (hb : D.length + (partB fs_DescribeACLsResponse v false T).length ≤ LIM) :
    Fn Try.prog 112 [.pointer (some ⟨b, 0, none⟩), .slice a D.length cap] H (N :: L) (fun r H' L' => OutB 5 L (D ++ partB fs_DescribeACLsResponse v false T) r L') := by
  obtain ⟨p2, a3, c3, mt, rfl, hf0, hf1, hf2⟩ := hA
  refine Fn.mk Try.call112 Try.func112 rfl Try.ntmps112 rfl ?_
  refine sr ?_
  refine asg rfl rfl ?_
  refine nl ?_
  refine sr ?_
  refine mv rfl rfl ?_
  refine nc rfl rfl ?_
  refine fa0 F119_0 rfl rfl ?_
  refine ld (Says.fz hv) Try.isAgg45 rfl (Nat.zero_add _).symm rfl rfl ?_
  refine asg rfl rfl ?_
  refine nl ?_
  refine sr ?_
  refine mv rfl rfl ?_
  refine nl ?_
  refine sr ?_
  refine mv rfl rfl ?_
  refine ge rfl rfl rfl ?_
  refine asg rfl rfl ?_
  refine nl ?_
  refine sr ?_
  refine mv rfl rfl ?_
  refine nl ?_
  refine sq ?_
  refine sr ?_
  refine mv rfl rfl ?_
  refine nc rfl rfl ?_
  refine fa0 F119_1 rfl rfl ?_
  refine ld (Says.fz hv) Try.isAgg21 rfl (Nat.zero_add _).symm rfl rfl ?_
  refine asg rfl rfl ?_
  refine nl ?_
  refine rg ?_
  refine mv rfl rfl ?_
  refine mv rfl rfl ?_
  have ok41 := hok.get 0 (by decide) (has_yes (show (0 : Int) ≤ v by omega) (show ((-1) : Int) < 0 ∨ v ≤ (-1) by omega))
  have e_1 : D ++ (fixed (IntKind.i32.wrap (T.at 0).n) 4) = D ++ plainTo (zipped fs_DescribeACLsResponse v false T) v 1 := fold_first (fs := fs_DescribeACLsResponse) (v := v) (flex := false) (t := T) (B := D) 0 rfl (by decide) (by decide) (has_yes (show (0 : Int) ≤ v by omega) (show ((-1) : Int) < 0 ∨ v ≤ (-1) by omega)) ((FB_int (f := (fs_DescribeACLsResponse[0]'(by decide))) (by decide) (by decide)).trans (fixed_i32 _).symm)
  have hs41 := fold_size e_1 (by decide) hb
  refine cl rfl rfl rfl (OutK.cast (k_AppendInt32 (u := IntKind.i32.wrap (T.at 0).n) hr hs41) e_1) rfl (fun v_ H1 L1 hle hR => ?_)
  obtain ⟨rfl, a41, c41, N41, rfl, rfl, h41⟩ := hR
  have r41 := h41.1
  refine asg rfl rfl ?_
  refine nl ?_
  refine sq ?_
  refine sr ?_
  refine mv rfl rfl ?_
  refine nc rfl rfl ?_
  refine fa0 F119_2 rfl rfl ?_
  refine ld (Says.fz hv) Try.isAgg45 rfl (Nat.zero_add _).symm rfl rfl ?_
  refine asg rfl rfl ?_
  refine nl ?_
  refine rg ?_
  refine mv rfl rfl ?_
  refine mv rfl rfl ?_
  have ok48 := hok.get 1 (by decide) (has_yes (show (0 : Int) ≤ v by omega) (show ((-1) : Int) < 0 ∨ v ≤ (-1) by omega))
  have e_2 : D ++ plainTo (zipped fs_DescribeACLsResponse v false T) v 1 ++ (fixed (IntKind.i16.wrap (T.at 1).n) 2) = D ++ plainTo (zipped fs_DescribeACLsResponse v false T) v 2 := fold_yes (fs := fs_DescribeACLsResponse) (v := v) (flex := false) (t := T) (B := D) 1 (by decide) (by decide) (has_yes (show (0 : Int) ≤ v by omega) (show ((-1) : Int) < 0 ∨ v ≤ (-1) by omega)) ((FB_int (f := (fs_DescribeACLsResponse[1]'(by decide))) (by decide) (by decide)).trans (fixed_i16 _).symm)
  have hs48 := fold_size e_2 (by decide) hb
  refine cl rfl rfl rfl (OutK.cast (k_AppendInt16 (u := IntKind.i16.wrap (T.at 1).n) r41 hs48) e_2) rfl (fun v_ H1 L1 hle hR => ?_)
  obtain ⟨rfl, a48, c48, N48, rfl, rfl, h48⟩ := hR
  have r48 := h48.1
  refine asg rfl rfl ?_
  refine nl ?_
  refine sq ?_
  refine sr ?_
  refine mv rfl rfl ?_
  refine nc rfl rfl ?_
  refine fa0 F119_3 rfl rfl ?_
  refine ld (Says.fz hv) Try.isAgg51 rfl (Nat.zero_add _).symm rfl rfl ?_
  refine asg rfl rfl ?_
  refine nl ?_
  refine sr ?_
  refine mv rfl rfl ?_
  refine nl ?_
  refine cdF rfl (by omega) ?_
  refine rg ?_
  refine mv rfl rfl ?_
  refine mv rfl rfl ?_
  have ok59 := hok.get 2 (by decide) (has_yes (show (0 : Int) ≤ v by omega) (show ((-1) : Int) < 0 ∨ v ≤ (-1) by omega))
  have e_3 : D ++ plainTo (zipped fs_DescribeACLsResponse v false T) v 2 ++ (counted false (T.at 2).nul (sT (T.at 2)).length 2 ++ sT (T.at 2)) = D ++ plainTo (zipped fs_DescribeACLsResponse v false T) v 3 := fold_yes (fs := fs_DescribeACLsResponse) (v := v) (flex := false) (t := T) (B := D) 2 (by decide) (by decide) (has_yes (show (0 : Int) ≤ v by omega) (show ((-1) : Int) < 0 ∨ v ≤ (-1) by omega)) (FB_text (f := (fs_DescribeACLsResponse[2]'(by decide))) (by decide) (by decide) ok59)
  have hs59 := fold_size e_3 (by decide) hb
  refine cl rfl rfl rfl (OutK.cast (k_AppendNullableString hf0 (ok59.s (Or.inl rfl)) r48 hs59) e_3) rfl (fun v_ H1 L1 hle hR => ?_)
  obtain ⟨rfl, a59, c59, N59, rfl, rfl, h59⟩ := hR
  have r59 := h59.1
  refine asg rfl rfl ?_
  refine nl ?_
  refine sq ?_
  refine sr ?_
  refine mv rfl rfl ?_
  refine nc rfl rfl ?_
  refine fa0 F119_4 rfl rfl ?_
  refine ld (Says.fz hv) Try.isAgg117 rfl (Nat.zero_add _).symm rfl rfl ?_
  refine asg rfl rfl ?_
  refine nl ?_
  refine sq ?_
  refine sr ?_
  refine mv rfl rfl ?_
  refine nl ?_
  refine cdF rfl (by omega) ?_
  refine rg ?_
  refine mv rfl rfl ?_
  refine mv rfl rfl ?_
  refine ls Try.runUnderlying117 rfl rfl ?_
  have ok72 := hok.get 3 (by decide) (has_yes (show (0 : Int) ≤ v by omega) (show ((-1) : Int) < 0 ∨ v ≤ (-1) by omega))
  have nn72 := ok72.nn (by decide) (by decide)
  have ll72 := lT_len (ok72.len rfl)
  have e_4 : D ++ plainTo (zipped fs_DescribeACLsResponse v false T) v 3 ++ (counted false false (lT (T.at 3)).length 4 ++ (lT (T.at 3)).flatMap (GOf (fs_DescribeACLsResponse[3]'(by decide)) v false)) = D ++ plainTo (zipped fs_DescribeACLsResponse v false T) v 4 := fold_yes (fs := fs_DescribeACLsResponse) (v := v) (flex := false) (t := T) (B := D) 3 (by decide) (by decide) (has_yes (show (0 : Int) ≤ v by omega) (show ((-1) : Int) < 0 ∨ v ≤ (-1) by omega)) (by rw [FB_list (f := (fs_DescribeACLsResponse[3]'(by decide))) (by decide) (by decide) ok72, nn72])
  have hs72 := fold_size e_4 (by decide) hb
  have hc72 : (D ++ plainTo (zipped fs_DescribeACLsResponse v false T) v 3).length + (counted false false (lT (T.at 3)).length 4).length ≤ LIM := by have h := hs72; simp only [List.length_append] at h ⊢; omega
  refine cl rfl rfl rfl (OutK.cast (k_AppendArrayLen (u := ((lT (T.at 3)).length : Int)) r59 hc72) (show _ = D ++ plainTo (zipped fs_DescribeACLsResponse v false T) v 3 ++ (counted false false (lT (T.at 3)).length 4) from rfl)) rfl (fun v_ H1 L1 hle hR => ?_)
  obtain ⟨rfl, a72, c72, N72, rfl, rfl, h72⟩ := hR
  have r72 := h72.1
  refine asg rfl rfl ?_
  refine nl ?_
  refine sr ?_
  refine mv rfl rfl ?_
  refine ls Try.runUnderlying117 rfl rfl ?_
  refine mv rfl rfl ?_
  refine nl ?_
  refine fr ((lT (T.at 3)).length) (fun k1 l' H' L' => ∃ (a_k1 : Option Addr), ∃ (m_k1 : Nat), ∃ (c_k1 : Nat), ∃ (N_k1 : Chunk), [(0, .pointer (some ⟨b, 0, none⟩)), (1, .slice a_k1 m_k1 c_k1), (5, .int .i16 v), (6, .bool (decide ((2 : Int) ≤ v))), (10, .slice a3 (lT (T.at 3)).length c3), (74, .int .i64 ((lT (T.at 3)).length : Int))] = l' ∧ N_k1 :: L = L' ∧ Row 5 1 a_k1 m_k1 c_k1 (bytesOf (D ++ plainTo (zipped fs_DescribeACLsResponse v false T) v 3 ++ (counted false false (lT (T.at 3)).length 4) ++ ((lT (T.at 3)).take k1).flatMap (GOf (fs_DescribeACLsResponse[3]'(by decide)) v false))) N_k1 ∧ m_k1 = (D ++ plainTo (zipped fs_DescribeACLsResponse v false T) v 3 ++ (counted false false (lT (T.at 3)).length 4) ++ ((lT (T.at 3)).take k1).flatMap (GOf (fs_DescribeACLsResponse[3]'(by decide)) v false)).length) [(0, .pointer (some ⟨b, 0, none⟩)), (1, .slice _ _ _), (5, .int .i16 v), (6, .bool (decide ((2 : Int) ≤ v))), (10, .slice a3 (lT (T.at 3)).length c3), (74, .int .i64 ((lT (T.at 3)).length : Int))] (fun k1 l' H' L' h => ?_) (by omega) rfl (.cons rfl (.cons rfl (.cons rfl (.cons rfl (.cons rfl (.cons rfl (.nil _))))))) ⟨_, _, _, _, rfl, rfl, (by rw [List.take_zero, List.flatMap_nil, List.append_nil]; exact r72), (by rw [List.take_zero, List.flatMap_nil, List.append_nil])⟩ rfl rfl rfl rfl rfl (fun k1 l' H' L' hk1 le_5 hI => ?_) (fun l' H' L' le_6 hI => ?_)
  · obtain ⟨a_k1, m_k1, c_k1, N_k1, rfl, _⟩ := h; exact ⟨rfl, rfl, rfl, rfl⟩
  · skip
    obtain ⟨a_k1, m_k1, c_k1, N_k1, rfl, rfl, pk10, pk11⟩ := hI
    subst pk11
    refine sr ?_
    refine mv rfl rfl ?_
    refine asg rfl rfl ?_
    refine nl ?_
    refine sr ?_
    refine mv rfl rfl ?_
    refine mv rfl rfl ?_
    obtain ⟨b_7, o_8, e_9, g_10⟩ := (hf1.mono At_DescribeACLsResponseResource.mono le_5).rows.at_ (ne_nil_of_lt hk1)
    obtain ⟨cs_11, hA_12, hc_13⟩ := g_10 k1 hk1
    refine ix2 Try.runUnderlying117 Try.sizeOf175 rfl e_9 rfl rfl hk1 rfl ?_
    obtain ⟨a_k1_3, c_k1_3, m_k1_t, rfl, hf_k1_0, hf_k1_1⟩ := hA_12
    have oek1 := (ok72.el rfl _ (lT_mem (List.getElem_mem hk1))).2 rfl
    obtain ⟨B_k1, hdk1⟩ : ∃ z : List UInt8, z = D ++ plainTo (zipped fs_DescribeACLsResponse v false T) v 3 ++ (counted false false (lT (T.at 3)).length 4) ++ ((lT (T.at 3)).take k1).flatMap (GOf (fs_DescribeACLsResponse[3]'(by decide)) v false) := ⟨_, rfl⟩
    have rbk1 := pk10
    rw [← hdk1] at rbk1 ⊢
    have hBk1 : B_k1.length + (partB fs_sDescribeACLsResponseResource v false ((lT (T.at 3))[k1])).length ≤ LIM := by rw [hdk1]; exact el_size hs72 hk1 (GOf_part (by decide) _)
    refine asg rfl rfl ?_
    refine nl ?_
    refine sq ?_
    refine sr ?_
    refine mv rfl rfl ?_
    refine nc rfl rfl ?_
    refine fa F175_0 rfl rfl ?_
    refine ld (Says.fz hc_13) Try.isAgg171 rfl (Nat.add_zero _).symm rfl rfl ?_
    refine asg rfl rfl ?_
    refine nl ?_
    refine sr ?_
    refine mv rfl rfl ?_
    refine asg rfl rfl ?_
    refine nl ?_
    refine rg ?_
    refine mv rfl rfl ?_
    refine mv rfl rfl ?_
    have ok88 := oek1.get 0 (by decide) (has_yes (show (0 : Int) ≤ v by omega) (show ((-1) : Int) < 0 ∨ v ≤ (-1) by omega))
    have e_14 : B_k1 ++ (fixed (IntKind.i8.wrap (((lT (T.at 3))[k1]).at 0).n) 1) = B_k1 ++ plainTo (zipped fs_sDescribeACLsResponseResource v false ((lT (T.at 3))[k1])) v 1 := fold_first (fs := fs_sDescribeACLsResponseResource) (v := v) (flex := false) (t := ((lT (T.at 3))[k1])) (B := B_k1) 0 rfl (by decide) (by decide) (has_yes (show (0 : Int) ≤ v by omega) (show ((-1) : Int) < 0 ∨ v ≤ (-1) by omega)) ((FB_int (f := (fs_sDescribeACLsResponseResource[0]'(by decide))) (by decide) (by decide)).trans (fixed_i8 _).symm)
    have hs88 := fold_size e_14 (by decide) hBk1
    refine cl rfl rfl rfl (OutK.cast (k_AppendInt8 (u := IntKind.i8.wrap (((lT (T.at 3))[k1]).at 0).n) rbk1 hs88) e_14) rfl (fun v_ H1 L1 hle hR => ?_)
    obtain ⟨rfl, a88, c88, N88, rfl, rfl, h88⟩ := hR
    have r88 := h88.1
    refine asg rfl rfl ?_
    refine nl ?_
    refine sq ?_
    refine sr ?_
    refine mv rfl rfl ?_
    refine nc rfl rfl ?_
    refine fa F175_1 rfl rfl ?_
    refine ld (Says.fz hc_13) Try.isAgg9 rfl rfl rfl rfl ?_
    refine asg rfl rfl ?_
    refine nl ?_
    refine sr ?_
    refine mv rfl rfl ?_
    refine nl ?_
    refine cdF rfl (by omega) ?_
    refine rg ?_
    refine mv rfl rfl ?_
    refine mv rfl rfl ?_
    have ok99 := oek1.get 1 (by decide) (has_yes (show (0 : Int) ≤ v by omega) (show ((-1) : Int) < 0 ∨ v ≤ (-1) by omega))
    have nn99 := ok99.nn (by decide) (by decide)
    have e_15 : B_k1 ++ plainTo (zipped fs_sDescribeACLsResponseResource v false ((lT (T.at 3))[k1])) v 1 ++ (counted false false (((lT (T.at 3))[k1]).at 1).s.length 2 ++ (((lT (T.at 3))[k1]).at 1).s) = B_k1 ++ plainTo (zipped fs_sDescribeACLsResponseResource v false ((lT (T.at 3))[k1])) v 2 := fold_yes (fs := fs_sDescribeACLsResponseResource) (v := v) (flex := false) (t := ((lT (T.at 3))[k1])) (B := B_k1) 1 (by decide) (by decide) (has_yes (show (0 : Int) ≤ v by omega) (show ((-1) : Int) < 0 ∨ v ≤ (-1) by omega)) (by rw [FB_text (f := (fs_sDescribeACLsResponseResource[1]'(by decide))) (by decide) (by decide) ok99, sT_nn nn99, nn99])
    have hs99 := fold_size e_15 (by decide) hBk1
    refine cl rfl rfl rfl (OutK.cast (k_AppendString (x := (((lT (T.at 3))[k1]).at 1).s) r88 hs99) e_15) rfl (fun v_ H1 L1 hle hR => ?_)
    obtain ⟨rfl, a99, c99, N99, rfl, rfl, h99⟩ := hR
    have r99 := h99.1
    refine asg rfl rfl ?_
    refine nl ?_
    refine sq ?_
    refine sr ?_
    refine mv rfl rfl ?_
    refine ge rfl rfl rfl ?_
    refine nl ?_
    refine cutT (fun l' H' L' => ∃ (aj_16 : Option Addr), ∃ (mj_16 : Nat), ∃ (cj_16 : Nat), ∃ (Nj_16 : Chunk), [(0, .pointer (some ⟨b, 0, none⟩)), (1, .slice aj_16 mj_16 cj_16), (5, .int .i16 v), (6, .bool (decide ((2 : Int) ≤ v))), (10, .slice a3 (lT (T.at 3)).length c3), (12, .pointer (some ⟨b_7, o_8 + k1 * 5, none⟩)), (74, .int .i64 ((lT (T.at 3)).length : Int)), (75, .int .i64 (k1 : Int))] = l' ∧ Nj_16 :: L = L' ∧ Row 5 1 aj_16 mj_16 cj_16 (bytesOf (B_k1 ++ plainTo (zipped fs_sDescribeACLsResponseResource v false ((lT (T.at 3))[k1])) v 3)) Nj_16 ∧ mj_16 = (B_k1 ++ plainTo (zipped fs_sDescribeACLsResponseResource v false ((lT (T.at 3))[k1])) v 3).length) ?_ (fun l' H' L' le_17 hI => ?_)
    · skip
      refine cd rfl (fun h101 => ?_) (fun h101 => ?_)
      · skip
        refine sr ?_
        refine mv rfl rfl ?_
        refine nc rfl rfl ?_
        refine fa F175_2 rfl rfl ?_
        refine ld (Says.fz hc_13) Try.isAgg172 rfl rfl rfl rfl ?_
        refine asg rfl rfl ?_
        refine nl ?_
        refine sr ?_
        refine mv rfl rfl ?_
        refine asg rfl rfl ?_
        refine nl ?_
        refine rg ?_
        refine mv rfl rfl ?_
        refine mv rfl rfl ?_
        have ok109 := oek1.get 2 (by decide) (has_yes (show (1 : Int) ≤ v by omega) (show ((-1) : Int) < 0 ∨ v ≤ (-1) by omega))
        have e_18 : B_k1 ++ plainTo (zipped fs_sDescribeACLsResponseResource v false ((lT (T.at 3))[k1])) v 2 ++ (fixed (IntKind.i8.wrap (((lT (T.at 3))[k1]).at 2).n) 1) = B_k1 ++ plainTo (zipped fs_sDescribeACLsResponseResource v false ((lT (T.at 3))[k1])) v 3 := fold_yes (fs := fs_sDescribeACLsResponseResource) (v := v) (flex := false) (t := ((lT (T.at 3))[k1])) (B := B_k1) 2 (by decide) (by decide) (has_yes (show (1 : Int) ≤ v by omega) (show ((-1) : Int) < 0 ∨ v ≤ (-1) by omega)) ((FB_int (f := (fs_sDescribeACLsResponseResource[2]'(by decide))) (by decide) (by decide)).trans (fixed_i8 _).symm)
        have hs109 := fold_size e_18 (by decide) hBk1
        refine cl rfl rfl rfl (OutK.cast (k_AppendInt8 (u := IntKind.i8.wrap (((lT (T.at 3))[k1]).at 2).n) r99 hs109) e_18) rfl (fun v_ H1 L1 hle hR => ?_)
        obtain ⟨rfl, a109, c109, N109, rfl, rfl, h109⟩ := hR
        have r109 := h109.1
        refine asg rfl rfl ?_
        refine nN ?_
        refine fun a_ w_ hA hw => ⟨_, _, _, hA.sub ?_, (Fz.le.refl _), hw, _, _, _, _, rfl, rfl, r109, rfl⟩
        exact (.cons rfl (.cons rfl (.cons rfl (.cons rfl (.cons rfl (.cons rfl (.cons rfl (.cons rfl (.nil _)))))))))
      · skip
        refine skN ?_
        have es_19 : plainTo (zipped fs_sDescribeACLsResponseResource v false ((lT (T.at 3))[k1])) v 3 = plainTo (zipped fs_sDescribeACLsResponseResource v false ((lT (T.at 3))[k1])) v 2 := (piece_no2 (fs := fs_sDescribeACLsResponseResource) (v := v) (flex := false) (t := ((lT (T.at 3))[k1])) (k := 2) (by decide) (has_no (show v < (1 : Int) ∨ ((0 : Int) ≤ (-1) ∧ (-1) < v) by omega)))
        have eX_20 : B_k1 ++ plainTo (zipped fs_sDescribeACLsResponseResource v false ((lT (T.at 3))[k1])) v 2 = B_k1 ++ plainTo (zipped fs_sDescribeACLsResponseResource v false ((lT (T.at 3))[k1])) v 3 := by rw [es_19]
        refine fun a_ w_ hA hw => ⟨_, _, _, hA.sub ?_, (Fz.le.refl _), hw, _, _, _, _, rfl, rfl, (by rw [← eX_20]; exact r99), (by rw [← eX_20])⟩
        exact (.cons rfl (.cons rfl (.cons rfl (.cons rfl (.cons rfl (.cons rfl (.cons rfl (.cons rfl (.nil _)))))))))
    · skip
      obtain ⟨aj_16, mj_16, cj_16, Nj_16, rfl, rfl, pj0, pj1⟩ := hI
      subst pj1
      have rj_16 := pj0
      refine sq ?_
      refine sr ?_
      refine mv rfl rfl ?_
      refine nc rfl rfl ?_
      refine fa F175_3 rfl rfl ?_
      refine ld (Says.fz (hc_13.mono le_17)) Try.isAgg173 rfl rfl rfl rfl ?_
      refine asg rfl rfl ?_
      refine nl ?_
      refine sq ?_
      refine sr ?_
      refine mv rfl rfl ?_
      refine nl ?_
      refine cdF rfl (by omega) ?_
      refine rg ?_
      refine mv rfl rfl ?_
      refine mv rfl rfl ?_
      refine ls Try.runUnderlying173 rfl rfl ?_
      have ok122 := oek1.get 3 (by decide) (has_yes (show (0 : Int) ≤ v by omega) (show ((-1) : Int) < 0 ∨ v ≤ (-1) by omega))
      have nn122 := ok122.nn (by decide) (by decide)
      have ll122 := lT_len (ok122.len rfl)
      have e_21 : B_k1 ++ plainTo (zipped fs_sDescribeACLsResponseResource v false ((lT (T.at 3))[k1])) v 3 ++ (counted false false (lT (((lT (T.at 3))[k1]).at 3)).length 4 ++ (lT (((lT (T.at 3))[k1]).at 3)).flatMap (GOf (fs_sDescribeACLsResponseResource[3]'(by decide)) v false)) = B_k1 ++ plainTo (zipped fs_sDescribeACLsResponseResource v false ((lT (T.at 3))[k1])) v 4 := fold_yes (fs := fs_sDescribeACLsResponseResource) (v := v) (flex := false) (t := ((lT (T.at 3))[k1])) (B := B_k1) 3 (by decide) (by decide) (has_yes (show (0 : Int) ≤ v by omega) (show ((-1) : Int) < 0 ∨ v ≤ (-1) by omega)) (by rw [FB_list (f := (fs_sDescribeACLsResponseResource[3]'(by decide))) (by decide) (by decide) ok122, nn122])
      have hs122 := fold_size e_21 (by decide) hBk1
      have hc122 : (B_k1 ++ plainTo (zipped fs_sDescribeACLsResponseResource v false ((lT (T.at 3))[k1])) v 3).length + (counted false false (lT (((lT (T.at 3))[k1]).at 3)).length 4).length ≤ LIM := by have h := hs122; simp only [List.length_append] at h ⊢; omega
      refine cl rfl rfl rfl (OutK.cast (k_AppendArrayLen (u := ((lT (((lT (T.at 3))[k1]).at 3)).length : Int)) rj_16 hc122) (show _ = B_k1 ++ plainTo (zipped fs_sDescribeACLsResponseResource v false ((lT (T.at 3))[k1])) v 3 ++ (counted false false (lT (((lT (T.at 3))[k1]).at 3)).length 4) from rfl)) rfl (fun v_ H1 L1 hle hR => ?_)
      obtain ⟨rfl, a122, c122, N122, rfl, rfl, h122⟩ := hR
      have r122 := h122.1
      refine asg rfl rfl ?_
      refine nl ?_
      refine sr ?_
      refine mv rfl rfl ?_
      refine ls Try.runUnderlying173 rfl rfl ?_
      refine mv rfl rfl ?_
      refine nl ?_
      refine fr ((lT (((lT (T.at 3))[k1]).at 3)).length) (fun k2 l' H' L' => ∃ (a_k2 : Option Addr), ∃ (m_k2 : Nat), ∃ (c_k2 : Nat), ∃ (N_k2 : Chunk), [(0, .pointer (some ⟨b, 0, none⟩)), (1, .slice a_k2 m_k2 c_k2), (5, .int .i16 v), (6, .bool (decide ((2 : Int) ≤ v))), (10, .slice a3 (lT (T.at 3)).length c3), (12, .pointer (some ⟨b_7, o_8 + k1 * 5, none⟩)), (18, .slice a_k1_3 (lT (((lT (T.at 3))[k1]).at 3)).length c_k1_3), (74, .int .i64 ((lT (T.at 3)).length : Int)), (75, .int .i64 (k1 : Int)), (124, .int .i64 ((lT (((lT (T.at 3))[k1]).at 3)).length : Int))] = l' ∧ N_k2 :: L = L' ∧ Row 5 1 a_k2 m_k2 c_k2 (bytesOf (B_k1 ++ plainTo (zipped fs_sDescribeACLsResponseResource v false ((lT (T.at 3))[k1])) v 3 ++ (counted false false (lT (((lT (T.at 3))[k1]).at 3)).length 4) ++ ((lT (((lT (T.at 3))[k1]).at 3)).take k2).flatMap (GOf (fs_sDescribeACLsResponseResource[3]'(by decide)) v false))) N_k2 ∧ m_k2 = (B_k1 ++ plainTo (zipped fs_sDescribeACLsResponseResource v false ((lT (T.at 3))[k1])) v 3 ++ (counted false false (lT (((lT (T.at 3))[k1]).at 3)).length 4) ++ ((lT (((lT (T.at 3))[k1]).at 3)).take k2).flatMap (GOf (fs_sDescribeACLsResponseResource[3]'(by decide)) v false)).length) [(0, .pointer (some ⟨b, 0, none⟩)), (1, .slice _ _ _), (5, .int .i16 v), (6, .bool (decide ((2 : Int) ≤ v))), (10, .slice a3 (lT (T.at 3)).length c3), (12, .pointer (some ⟨b_7, o_8 + k1 * 5, none⟩)), (18, .slice a_k1_3 (lT (((lT (T.at 3))[k1]).at 3)).length c_k1_3), (74, .int .i64 ((lT (T.at 3)).length : Int)), (75, .int .i64 (k1 : Int)), (124, .int .i64 ((lT (((lT (T.at 3))[k1]).at 3)).length : Int))] (fun k2 l' H' L' h => ?_) (by omega) rfl (.cons rfl (.cons rfl (.cons rfl (.cons rfl (.cons rfl (.cons rfl (.cons rfl (.cons rfl (.cons rfl (.cons rfl (.nil _))))))))))) ⟨_, _, _, _, rfl, rfl, (by rw [List.take_zero, List.flatMap_nil, List.append_nil]; exact r122), (by rw [List.take_zero, List.flatMap_nil, List.append_nil])⟩ rfl rfl rfl rfl rfl (fun k2 l' H' L' hk2 le_22 hI => ?_) (fun l' H' L' le_23 hI => ?_)
      · obtain ⟨a_k2, m_k2, c_k2, N_k2, rfl, _⟩ := h; exact ⟨rfl, rfl, rfl, rfl⟩
      · skip
        obtain ⟨a_k2, m_k2, c_k2, N_k2, rfl, rfl, pk20, pk21⟩ := hI
        subst pk21
        refine sr ?_
        refine mv rfl rfl ?_
        refine asg rfl rfl ?_
        refine nl ?_
        refine sr ?_
        refine mv rfl rfl ?_
        refine mv rfl rfl ?_
        obtain ⟨b_24, o_25, e_26, g_27⟩ := (hf_k1_0.mono At_DescribeACLsResponseResourceACL.mono (le_17.trans le_22)).rows.at_ (ne_nil_of_lt hk2)
        obtain ⟨cs_28, hA_29, hc_30⟩ := g_27 k2 hk2
        refine ix2 Try.runUnderlying173 Try.sizeOf182 rfl e_26 rfl rfl hk2 rfl ?_
        obtain ⟨m_k2_t, rfl, hf_k2_0⟩ := hA_29
        have oek2 := (ok122.el rfl _ (lT_mem (List.getElem_mem hk2))).2 rfl
        obtain ⟨B_k2, hdk2⟩ : ∃ z : List UInt8, z = B_k1 ++ plainTo (zipped fs_sDescribeACLsResponseResource v false ((lT (T.at 3))[k1])) v 3 ++ (counted false false (lT (((lT (T.at 3))[k1]).at 3)).length 4) ++ ((lT (((lT (T.at 3))[k1]).at 3)).take k2).flatMap (GOf (fs_sDescribeACLsResponseResource[3]'(by decide)) v false) := ⟨_, rfl⟩
        have rbk2 := pk20
        rw [← hdk2] at rbk2 ⊢
        have hBk2 : B_k2.length + (partB fs_sDescribeACLsResponseResourceACL v false ((lT (((lT (T.at 3))[k1]).at 3))[k2])).length ≤ LIM := by rw [hdk2]; exact el_size hs122 hk2 (GOf_part (by decide) _)
        refine asg rfl rfl ?_
        refine nl ?_
        refine sq ?_
        refine sr ?_
        refine mv rfl rfl ?_
        refine nc rfl rfl ?_
        refine fa F182_0 rfl rfl ?_
        refine ld (Says.fz hc_30) Try.isAgg9 rfl (Nat.add_zero _).symm rfl rfl ?_
        refine asg rfl rfl ?_
        refine nl ?_
        refine sr ?_
        refine mv rfl rfl ?_
        refine nl ?_
        refine cdF rfl (by omega) ?_
        refine rg ?_
        refine mv rfl rfl ?_
        refine mv rfl rfl ?_
        have ok141 := oek2.get 0 (by decide) (has_yes (show (0 : Int) ≤ v by omega) (show ((-1) : Int) < 0 ∨ v ≤ (-1) by omega))
        have nn141 := ok141.nn (by decide) (by decide)
        have e_31 : B_k2 ++ (counted false false (((lT (((lT (T.at 3))[k1]).at 3))[k2]).at 0).s.length 2 ++ (((lT (((lT (T.at 3))[k1]).at 3))[k2]).at 0).s) = B_k2 ++ plainTo (zipped fs_sDescribeACLsResponseResourceACL v false ((lT (((lT (T.at 3))[k1]).at 3))[k2])) v 1 := fold_first (fs := fs_sDescribeACLsResponseResourceACL) (v := v) (flex := false) (t := ((lT (((lT (T.at 3))[k1]).at 3))[k2])) (B := B_k2) 0 rfl (by decide) (by decide) (has_yes (show (0 : Int) ≤ v by omega) (show ((-1) : Int) < 0 ∨ v ≤ (-1) by omega)) (by rw [FB_text (f := (fs_sDescribeACLsResponseResourceACL[0]'(by decide))) (by decide) (by decide) ok141, sT_nn nn141, nn141])
        have hs141 := fold_size e_31 (by decide) hBk2
        refine cl rfl rfl rfl (OutK.cast (k_AppendString (x := (((lT (((lT (T.at 3))[k1]).at 3))[k2]).at 0).s) rbk2 hs141) e_31) rfl (fun v_ H1 L1 hle hR => ?_)
        obtain ⟨rfl, a141, c141, N141, rfl, rfl, h141⟩ := hR
        have r141 := h141.1
        refine asg rfl rfl ?_
        refine nl ?_
        refine sq ?_
        refine sr ?_
        refine mv rfl rfl ?_
        refine nc rfl rfl ?_
        refine fa F182_1 rfl rfl ?_
        refine ld (Says.fz hc_30) Try.isAgg9 rfl rfl rfl rfl ?_
        refine asg rfl rfl ?_
        refine nl ?_
        refine sr ?_
        refine mv rfl rfl ?_
        refine nl ?_
        refine cdF rfl (by omega) ?_
        refine rg ?_
        refine mv rfl rfl ?_
        refine mv rfl rfl ?_
        have ok152 := oek2.get 1 (by decide) (has_yes (show (0 : Int) ≤ v by omega) (show ((-1) : Int) < 0 ∨ v ≤ (-1) by omega))
        have nn152 := ok152.nn (by decide) (by decide)
        have e_32 : B_k2 ++ plainTo (zipped fs_sDescribeACLsResponseResourceACL v false ((lT (((lT (T.at 3))[k1]).at 3))[k2])) v 1 ++ (counted false false (((lT (((lT (T.at 3))[k1]).at 3))[k2]).at 1).s.length 2 ++ (((lT (((lT (T.at 3))[k1]).at 3))[k2]).at 1).s) = B_k2 ++ plainTo (zipped fs_sDescribeACLsResponseResourceACL v false ((lT (((lT (T.at 3))[k1]).at 3))[k2])) v 2 := fold_yes (fs := fs_sDescribeACLsResponseResourceACL) (v := v) (flex := false) (t := ((lT (((lT (T.at 3))[k1]).at 3))[k2])) (B := B_k2) 1 (by decide) (by decide) (has_yes (show (0 : Int) ≤ v by omega) (show ((-1) : Int) < 0 ∨ v ≤ (-1) by omega)) (by rw [FB_text (f := (fs_sDescribeACLsResponseResourceACL[1]'(by decide))) (by decide) (by decide) ok152, sT_nn nn152, nn152])
        have hs152 := fold_size e_32 (by decide) hBk2
        refine cl rfl rfl rfl (OutK.cast (k_AppendString (x := (((lT (((lT (T.at 3))[k1]).at 3))[k2]).at 1).s) r141 hs152) e_32) rfl (fun v_ H1 L1 hle hR => ?_)
        obtain ⟨rfl, a152, c152, N152, rfl, rfl, h152⟩ := hR
        have r152 := h152.1
        refine asg rfl rfl ?_
        refine nl ?_
        refine sq ?_
        refine sr ?_
        refine mv rfl rfl ?_
        refine nc rfl rfl ?_
        refine fa F182_2 rfl rfl ?_
        refine ld (Says.fz hc_30) Try.isAgg179 rfl rfl rfl rfl ?_
        refine asg rfl rfl ?_
        refine nl ?_
        refine sr ?_
        refine mv rfl rfl ?_
        refine asg rfl rfl ?_
        refine nl ?_
        refine rg ?_
        refine mv rfl rfl ?_
        refine mv rfl rfl ?_
        have ok160 := oek2.get 2 (by decide) (has_yes (show (0 : Int) ≤ v by omega) (show ((-1) : Int) < 0 ∨ v ≤ (-1) by omega))
        have e_33 : B_k2 ++ plainTo (zipped fs_sDescribeACLsResponseResourceACL v false ((lT (((lT (T.at 3))[k1]).at 3))[k2])) v 2 ++ (fixed (IntKind.i8.wrap (((lT (((lT (T.at 3))[k1]).at 3))[k2]).at 2).n) 1) = B_k2 ++ plainTo (zipped fs_sDescribeACLsResponseResourceACL v false ((lT (((lT (T.at 3))[k1]).at 3))[k2])) v 3 := fold_yes (fs := fs_sDescribeACLsResponseResourceACL) (v := v) (flex := false) (t := ((lT (((lT (T.at 3))[k1]).at 3))[k2])) (B := B_k2) 2 (by decide) (by decide) (has_yes (show (0 : Int) ≤ v by omega) (show ((-1) : Int) < 0 ∨ v ≤ (-1) by omega)) ((FB_int (f := (fs_sDescribeACLsResponseResourceACL[2]'(by decide))) (by decide) (by decide)).trans (fixed_i8 _).symm)
        have hs160 := fold_size e_33 (by decide) hBk2
        refine cl rfl rfl rfl (OutK.cast (k_AppendInt8 (u := IntKind.i8.wrap (((lT (((lT (T.at 3))[k1]).at 3))[k2]).at 2).n) r152 hs160) e_33) rfl (fun v_ H1 L1 hle hR => ?_)
        obtain ⟨rfl, a160, c160, N160, rfl, rfl, h160⟩ := hR
        have r160 := h160.1
        refine asg rfl rfl ?_
        refine nl ?_
        refine sq ?_
        refine sr ?_
        refine mv rfl rfl ?_
        refine nc rfl rfl ?_
        refine fa F182_3 rfl rfl ?_
        refine ld (Says.fz hc_30) Try.isAgg180 rfl rfl rfl rfl ?_
        refine asg rfl rfl ?_
        refine nl ?_
        refine sr ?_
        refine mv rfl rfl ?_
        refine asg rfl rfl ?_
        refine nl ?_
        refine rg ?_
        refine mv rfl rfl ?_
        refine mv rfl rfl ?_
        have ok168 := oek2.get 3 (by decide) (has_yes (show (0 : Int) ≤ v by omega) (show ((-1) : Int) < 0 ∨ v ≤ (-1) by omega))
        have e_34 : B_k2 ++ plainTo (zipped fs_sDescribeACLsResponseResourceACL v false ((lT (((lT (T.at 3))[k1]).at 3))[k2])) v 3 ++ (fixed (IntKind.i8.wrap (((lT (((lT (T.at 3))[k1]).at 3))[k2]).at 3).n) 1) = B_k2 ++ plainTo (zipped fs_sDescribeACLsResponseResourceACL v false ((lT (((lT (T.at 3))[k1]).at 3))[k2])) v 4 := fold_yes (fs := fs_sDescribeACLsResponseResourceACL) (v := v) (flex := false) (t := ((lT (((lT (T.at 3))[k1]).at 3))[k2])) (B := B_k2) 3 (by decide) (by decide) (has_yes (show (0 : Int) ≤ v by omega) (show ((-1) : Int) < 0 ∨ v ≤ (-1) by omega)) ((FB_int (f := (fs_sDescribeACLsResponseResourceACL[3]'(by decide))) (by decide) (by decide)).trans (fixed_i8 _).symm)
        have hs168 := fold_size e_34 (by decide) hBk2
        refine cl rfl rfl rfl (OutK.cast (k_AppendInt8 (u := IntKind.i8.wrap (((lT (((lT (T.at 3))[k1]).at 3))[k2]).at 3).n) r160 hs168) e_34) rfl (fun v_ H1 L1 hle hR => ?_)
        obtain ⟨rfl, a168, c168, N168, rfl, rfl, h168⟩ := hR
        have r168 := h168.1
        refine asg rfl rfl ?_
        refine nl ?_
        refine sr ?_
        refine mv rfl rfl ?_
        refine nl ?_
        refine cdF rfl (by omega) ?_
        refine skN ?_
        refine Nb ?_
        have eP_35 : B_k2 ++ plainTo (zipped fs_sDescribeACLsResponseResourceACL v false ((lT (((lT (T.at 3))[k1]).at 3))[k2])) v 4 = B_k2 ++ partB fs_sDescribeACLsResponseResourceACL v false ((lT (((lT (T.at 3))[k1]).at 3))[k2]) := by rw [partB_false]; rfl
        have rp_36 := r168
        rw [eP_35] at rp_36 ⊢
        have ee_37 : B_k2 ++ partB fs_sDescribeACLsResponseResourceACL v false ((lT (((lT (T.at 3))[k1]).at 3))[k2]) = B_k1 ++ plainTo (zipped fs_sDescribeACLsResponseResource v false ((lT (T.at 3))[k1])) v 3 ++ (counted false false (lT (((lT (T.at 3))[k1]).at 3)).length 4) ++ ((lT (((lT (T.at 3))[k1]).at 3)).take (k2 + 1)).flatMap (GOf (fs_sDescribeACLsResponseResource[3]'(by decide)) v false) := by rw [hdk2]; exact el_end (B0 := B_k1 ++ plainTo (zipped fs_sDescribeACLsResponseResource v false ((lT (T.at 3))[k1])) v 3 ++ (counted false false (lT (((lT (T.at 3))[k1]).at 3)).length 4)) (G := (GOf (fs_sDescribeACLsResponseResource[3]'(by decide)) v false)) hk2 (GOf_part (by decide) _)
        refine fun a_ w_ hA hw => ⟨_, _, _, hA.sub ?_, le_22, hw, _, rfl, _, _, _, _, rfl, rfl, (by rw [← ee_37]; exact rp_36), (by rw [← ee_37])⟩
        exact (.cons rfl (.cons rfl (.cons rfl (.cons rfl (.cons rfl (.cons rfl (.cons rfl (.cons rfl (.cons rfl (.cons rfl (.cons rfl (.nil _))))))))))))
      · skip
        obtain ⟨a_k2, m_k2, c_k2, N_k2, rfl, rfl, pk20, pk21⟩ := hI
        refine toWp ?_
        have eL122 : B_k1 ++ plainTo (zipped fs_sDescribeACLsResponseResource v false ((lT (T.at 3))[k1])) v 3 ++ (counted false false (lT (((lT (T.at 3))[k1]).at 3)).length 4) ++ ((lT (((lT (T.at 3))[k1]).at 3)).take (lT (((lT (T.at 3))[k1]).at 3)).length).flatMap (GOf (fs_sDescribeACLsResponseResource[3]'(by decide)) v false) = B_k1 ++ plainTo (zipped fs_sDescribeACLsResponseResource v false ((lT (T.at 3))[k1])) v 4 := by rw [List.take_length, List.append_assoc]; exact e_21
        rw [eL122] at pk20 pk21
        subst pk21
        refine sr ?_
        refine mv rfl rfl ?_
        refine nl ?_
        refine cdF rfl (by omega) ?_
        refine skN ?_
        refine Nb ?_
        have eP_38 : B_k1 ++ plainTo (zipped fs_sDescribeACLsResponseResource v false ((lT (T.at 3))[k1])) v 4 = B_k1 ++ partB fs_sDescribeACLsResponseResource v false ((lT (T.at 3))[k1]) := by rw [partB_false]; rfl
        have rp_39 := pk20
        rw [eP_38] at rp_39 ⊢
        have ee_40 : B_k1 ++ partB fs_sDescribeACLsResponseResource v false ((lT (T.at 3))[k1]) = D ++ plainTo (zipped fs_DescribeACLsResponse v false T) v 3 ++ (counted false false (lT (T.at 3)).length 4) ++ ((lT (T.at 3)).take (k1 + 1)).flatMap (GOf (fs_DescribeACLsResponse[3]'(by decide)) v false) := by rw [hdk1]; exact el_end (B0 := D ++ plainTo (zipped fs_DescribeACLsResponse v false T) v 3 ++ (counted false false (lT (T.at 3)).length 4)) (G := (GOf (fs_DescribeACLsResponse[3]'(by decide)) v false)) hk1 (GOf_part (by decide) _)
        refine fun a_ w_ hA hw => ⟨_, _, _, hA.sub ?_, (le_5.trans (le_17.trans le_23)), hw, _, rfl, _, _, _, _, rfl, rfl, (by rw [← ee_40]; exact rp_39), (by rw [← ee_40])⟩
        exact (.cons rfl (.cons rfl (.cons rfl (.cons rfl (.cons rfl (.cons rfl (.cons rfl (.nil _))))))))
  · skip
    obtain ⟨a_k1, m_k1, c_k1, N_k1, rfl, rfl, pk10, pk11⟩ := hI
    refine toWp ?_
    have eL72 : D ++ plainTo (zipped fs_DescribeACLsResponse v false T) v 3 ++ (counted false false (lT (T.at 3)).length 4) ++ ((lT (T.at 3)).take (lT (T.at 3)).length).flatMap (GOf (fs_DescribeACLsResponse[3]'(by decide)) v false) = D ++ plainTo (zipped fs_DescribeACLsResponse v false T) v 4 := by rw [List.take_length, List.append_assoc]; exact e_4
    rw [eL72] at pk10 pk11
    subst pk11
    refine sq ?_
    refine sr ?_
    refine mv rfl rfl ?_
    refine nl ?_
    refine cdF rfl (by omega) ?_
    refine skt ?_
    refine sr ?_
    refine mv rfl rfl ?_
    refine asg rfl rfl ?_
    refine nl ?_
    have eP_41 : D ++ plainTo (zipped fs_DescribeACLsResponse v false T) v 4 = D ++ partB fs_DescribeACLsResponse v false T := by rw [partB_false]; rfl
    have rp_42 := pk10
    rw [eP_41] at rp_42 ⊢
    exact rT rfl rfl le_6 (fun _ _ h => h) (OutB.of rp_42 rfl)
theorem app_DescribeACLsResponse_t {H : Fz} {L : Own} {a : Option Addr} {cap b : Nat} {D : List UInt8} {N : Chunk} {cs : List Value} {T : Tr} {v : Int} (hr : Row 5 1 a D.length cap (bytesOf D) N) (hv : H.at b 0 cs) (hA : At_DescribeACLsResponse v H T cs) (hok : OkP fs_DescribeACLsResponse v T) (h0 : 2 ≤ v) (h1 : v ≤ 3) (hb : D.length + (partB fs_DescribeACLsResponse v true T).length ≤ LIM) :
    Fn Try.prog 112 [.pointer (some ⟨b, 0, none⟩), .slice a D.length cap] H (N :: L) (fun r H' L' => OutB 5 L (D ++ partB fs_DescribeACLsResponse v true T) r L') := by
  obtain ⟨p2, a3, c3, mt, rfl, hf0, hf1, hf2⟩ := hA
  refine Fn.mk Try.call112 Try.func112 rfl Try.ntmps112 rfl ?_
  refine sr ?_
  refine asg rfl rfl ?_
  refine nl ?_
  refine sr ?_
  refine mv rfl rfl ?_
  refine nc rfl rfl ?_
  refine fa0 F119_0 rfl rfl ?_
  refine ld (Says.fz hv) Try.isAgg45 rfl (Nat.zero_add _).symm rfl rfl ?_
  refine asg rfl rfl ?_
  refine nl ?_
  refine sr ?_
  refine mv rfl rfl ?_
  refine nl ?_
  refine sr ?_
  refine mv rfl rfl ?_
  refine ge rfl rfl rfl ?_
  refine asg rfl rfl ?_
  refine nl ?_
  refine sr ?_
  refine mv rfl rfl ?_
  refine nl ?_
  refine sq ?_
  refine sr ?_
  refine mv rfl rfl ?_
  refine nc rfl rfl ?_
  refine fa0 F119_1 rfl rfl ?_
  refine ld (Says.fz hv) Try.isAgg21 rfl (Nat.zero_add _).symm rfl rfl ?_
  refine asg rfl rfl ?_
  refine nl ?_
  refine rg ?_
  refine mv rfl rfl ?_
  refine mv rfl rfl ?_
  have ok41 := hok.get 0 (by decide) (has_yes (show (0 : Int) ≤ v by omega) (show ((-1) : Int) < 0 ∨ v ≤ (-1) by omega))
  have e_1 : D ++ (fixed (IntKind.i32.wrap (T.at 0).n) 4) = D ++ plainTo (zipped fs_DescribeACLsResponse v true T) v 1 := fold_first (fs := fs_DescribeACLsResponse) (v := v) (flex := true) (t := T) (B := D) 0 rfl (by decide) (by decide) (has_yes (show (0 : Int) ≤ v by omega) (show ((-1) : Int) < 0 ∨ v ≤ (-1) by omega)) ((FB_int (f := (fs_DescribeACLsResponse[0]'(by decide))) (by decide) (by decide)).trans (fixed_i32 _).symm)
  have hs41 := fold_size e_1 (by decide) hb
  refine cl rfl rfl rfl (OutK.cast (k_AppendInt32 (u := IntKind.i32.wrap (T.at 0).n) hr hs41) e_1) rfl (fun v_ H1 L1 hle hR => ?_)
  obtain ⟨rfl, a41, c41, N41, rfl, rfl, h41⟩ := hR
  have r41 := h41.1
  refine asg rfl rfl ?_
  refine nl ?_
  refine sq ?_
  refine sr ?_
  refine mv rfl rfl ?_
  refine nc rfl rfl ?_
  refine fa0 F119_2 rfl rfl ?_
  refine ld (Says.fz hv) Try.isAgg45 rfl (Nat.zero_add _).symm rfl rfl ?_
  refine asg rfl rfl ?_
  refine nl ?_
  refine rg ?_
  refine mv rfl rfl ?_
  refine mv rfl rfl ?_
  have ok48 := hok.get 1 (by decide) (has_yes (show (0 : Int) ≤ v by omega) (show ((-1) : Int) < 0 ∨ v ≤ (-1) by omega))
  have e_2 : D ++ plainTo (zipped fs_DescribeACLsResponse v true T) v 1 ++ (fixed (IntKind.i16.wrap (T.at 1).n) 2) = D ++ plainTo (zipped fs_DescribeACLsResponse v true T) v 2 := fold_yes (fs := fs_DescribeACLsResponse) (v := v) (flex := true) (t := T) (B := D) 1 (by decide) (by decide) (has_yes (show (0 : Int) ≤ v by omega) (show ((-1) : Int) < 0 ∨ v ≤ (-1) by omega)) ((FB_int (f := (fs_DescribeACLsResponse[1]'(by decide))) (by decide) (by decide)).trans (fixed_i16 _).symm)
  have hs48 := fold_size e_2 (by decide) hb
  refine cl rfl rfl rfl (OutK.cast (k_AppendInt16 (u := IntKind.i16.wrap (T.at 1).n) r41 hs48) e_2) rfl (fun v_ H1 L1 hle hR => ?_)
  obtain ⟨rfl, a48, c48, N48, rfl, rfl, h48⟩ := hR
  have r48 := h48.1
  refine asg rfl rfl ?_
  refine nl ?_
  refine sq ?_
  refine sr ?_
  refine mv rfl rfl ?_
  refine nc rfl rfl ?_
  refine fa0 F119_3 rfl rfl ?_
  refine ld (Says.fz hv) Try.isAgg51 rfl (Nat.zero_add _).symm rfl rfl ?_
  refine asg rfl rfl ?_
  refine nl ?_
  refine sr ?_
  refine mv rfl rfl ?_
  refine nl ?_
  refine cdT rfl (by omega) ?_
  refine rg ?_
  refine mv rfl rfl ?_
  refine mv rfl rfl ?_
  have ok56 := hok.get 2 (by decide) (has_yes (show (0 : Int) ≤ v by omega) (show ((-1) : Int) < 0 ∨ v ≤ (-1) by omega))
  have e_3 : D ++ plainTo (zipped fs_DescribeACLsResponse v true T) v 2 ++ (counted true (T.at 2).nul (sT (T.at 2)).length 2 ++ sT (T.at 2)) = D ++ plainTo (zipped fs_DescribeACLsResponse v true T) v 3 := fold_yes (fs := fs_DescribeACLsResponse) (v := v) (flex := true) (t := T) (B := D) 2 (by decide) (by decide) (has_yes (show (0 : Int) ≤ v by omega) (show ((-1) : Int) < 0 ∨ v ≤ (-1) by omega)) (FB_text (f := (fs_DescribeACLsResponse[2]'(by decide))) (by decide) (by decide) ok56)
  have hs56 := fold_size e_3 (by decide) hb
  refine cl rfl rfl rfl (OutK.cast (k_AppendCompactNullableString hf0 (ok56.s (Or.inl rfl)) r48 hs56) e_3) rfl (fun v_ H1 L1 hle hR => ?_)
  obtain ⟨rfl, a56, c56, N56, rfl, rfl, h56⟩ := hR
  have r56 := h56.1
  refine asg rfl rfl ?_
  refine nl ?_
  refine sq ?_
  refine sr ?_
  refine mv rfl rfl ?_
  refine nc rfl rfl ?_
  refine fa0 F119_4 rfl rfl ?_
  refine ld (Says.fz hv) Try.isAgg117 rfl (Nat.zero_add _).symm rfl rfl ?_
  refine asg rfl rfl ?_
  refine nl ?_
  refine sq ?_
  refine sr ?_
  refine mv rfl rfl ?_
  refine nl ?_
  refine cdT rfl (by omega) ?_
  refine rg ?_
  refine mv rfl rfl ?_
  refine mv rfl rfl ?_
  refine ls Try.runUnderlying117 rfl rfl ?_
  have ok68 := hok.get 3 (by decide) (has_yes (show (0 : Int) ≤ v by omega) (show ((-1) : Int) < 0 ∨ v ≤ (-1) by omega))
  have nn68 := ok68.nn (by decide) (by decide)
  have ll68 := lT_len (ok68.len rfl)
  have e_4 : D ++ plainTo (zipped fs_DescribeACLsResponse v true T) v 3 ++ (counted true false (lT (T.at 3)).length 4 ++ (lT (T.at 3)).flatMap (GOf (fs_DescribeACLsResponse[3]'(by decide)) v true)) = D ++ plainTo (zipped fs_DescribeACLsResponse v true T) v 4 := fold_yes (fs := fs_DescribeACLsResponse) (v := v) (flex := true) (t := T) (B := D) 3 (by decide) (by decide) (has_yes (show (0 : Int) ≤ v by omega) (show ((-1) : Int) < 0 ∨ v ≤ (-1) by omega)) (by rw [FB_list (f := (fs_DescribeACLsResponse[3]'(by decide))) (by decide) (by decide) ok68, nn68])
  have hs68 := fold_size e_4 (by decide) hb
  have hc68 : (D ++ plainTo (zipped fs_DescribeACLsResponse v true T) v 3).length + (counted true false (lT (T.at 3)).length 4).length ≤ LIM := by have h := hs68; simp only [List.length_append] at h ⊢; omega
  refine cl rfl rfl rfl (OutK.cast (k_AppendCompactArrayLen (n := (lT (T.at 3)).length) (by omega) r56 hc68) (show _ = D ++ plainTo (zipped fs_DescribeACLsResponse v true T) v 3 ++ (counted true false (lT (T.at 3)).length 4) from rfl)) rfl (fun v_ H1 L1 hle hR => ?_)
  obtain ⟨rfl, a68, c68, N68, rfl, rfl, h68⟩ := hR
  have r68 := h68.1
  refine asg rfl rfl ?_
  refine nl ?_
  refine sr ?_
  refine mv rfl rfl ?_
  refine ls Try.runUnderlying117 rfl rfl ?_
  refine mv rfl rfl ?_
  refine nl ?_
  refine fr ((lT (T.at 3)).length) (fun k1 l' H' L' => ∃ (a_k1 : Option Addr), ∃ (m_k1 : Nat), ∃ (c_k1 : Nat), ∃ (N_k1 : Chunk), [(0, .pointer (some ⟨b, 0, none⟩)), (1, .slice a_k1 m_k1 c_k1), (5, .int .i16 v), (6, .bool (decide ((2 : Int) ≤ v))), (10, .slice a3 (lT (T.at 3)).length c3), (74, .int .i64 ((lT (T.at 3)).length : Int))] = l' ∧ N_k1 :: L = L' ∧ Row 5 1 a_k1 m_k1 c_k1 (bytesOf (D ++ plainTo (zipped fs_DescribeACLsResponse v true T) v 3 ++ (counted true false (lT (T.at 3)).length 4) ++ ((lT (T.at 3)).take k1).flatMap (GOf (fs_DescribeACLsResponse[3]'(by decide)) v true))) N_k1 ∧ m_k1 = (D ++ plainTo (zipped fs_DescribeACLsResponse v true T) v 3 ++ (counted true false (lT (T.at 3)).length 4) ++ ((lT (T.at 3)).take k1).flatMap (GOf (fs_DescribeACLsResponse[3]'(by decide)) v true)).length) [(0, .pointer (some ⟨b, 0, none⟩)), (1, .slice _ _ _), (5, .int .i16 v), (6, .bool (decide ((2 : Int) ≤ v))), (10, .slice a3 (lT (T.at 3)).length c3), (74, .int .i64 ((lT (T.at 3)).length : Int))] (fun k1 l' H' L' h => ?_) (by omega) rfl (.cons rfl (.cons rfl (.cons rfl (.cons rfl (.cons rfl (.cons rfl (.nil _))))))) ⟨_, _, _, _, rfl, rfl, (by rw [List.take_zero, List.flatMap_nil, List.append_nil]; exact r68), (by rw [List.take_zero, List.flatMap_nil, List.append_nil])⟩ rfl rfl rfl rfl rfl (fun k1 l' H' L' hk1 le_5 hI => ?_) (fun l' H' L' le_6 hI => ?_)
  · obtain ⟨a_k1, m_k1, c_k1, N_k1, rfl, _⟩ := h; exact ⟨rfl, rfl, rfl, rfl⟩
  · skip
    obtain ⟨a_k1, m_k1, c_k1, N_k1, rfl, rfl, pk10, pk11⟩ := hI
    subst pk11
    refine sr ?_
    refine mv rfl rfl ?_
    refine asg rfl rfl ?_
    refine nl ?_
    refine sr ?_
    refine mv rfl rfl ?_
    refine mv rfl rfl ?_
    obtain ⟨b_7, o_8, e_9, g_10⟩ := (hf1.mono At_DescribeACLsResponseResource.mono le_5).rows.at_ (ne_nil_of_lt hk1)
    obtain ⟨cs_11, hA_12, hc_13⟩ := g_10 k1 hk1
    refine ix2 Try.runUnderlying117 Try.sizeOf175 rfl e_9 rfl rfl hk1 rfl ?_
    obtain ⟨a_k1_3, c_k1_3, m_k1_t, rfl, hf_k1_0, hf_k1_1⟩ := hA_12
    have oek1 := (ok68.el rfl _ (lT_mem (List.getElem_mem hk1))).2 rfl
    obtain ⟨B_k1, hdk1⟩ : ∃ z : List UInt8, z = D ++ plainTo (zipped fs_DescribeACLsResponse v true T) v 3 ++ (counted true false (lT (T.at 3)).length 4) ++ ((lT (T.at 3)).take k1).flatMap (GOf (fs_DescribeACLsResponse[3]'(by decide)) v true) := ⟨_, rfl⟩
    have rbk1 := pk10
    rw [← hdk1] at rbk1 ⊢
    have hBk1 : B_k1.length + (partB fs_sDescribeACLsResponseResource v true ((lT (T.at 3))[k1])).length ≤ LIM := by rw [hdk1]; exact el_size hs68 hk1 (GOf_part (by decide) _)
    refine asg rfl rfl ?_
    refine nl ?_
    refine sq ?_
    refine sr ?_
    refine mv rfl rfl ?_
    refine nc rfl rfl ?_
    refine fa F175_0 rfl rfl ?_
    refine ld (Says.fz hc_13) Try.isAgg171 rfl (Nat.add_zero _).symm rfl rfl ?_
    refine asg rfl rfl ?_
    refine nl ?_
    refine sr ?_
    refine mv rfl rfl ?_
    refine asg rfl rfl ?_
    refine nl ?_
    refine rg ?_
    refine mv rfl rfl ?_
    refine mv rfl rfl ?_
    have ok88 := oek1.get 0 (by decide) (has_yes (show (0 : Int) ≤ v by omega) (show ((-1) : Int) < 0 ∨ v ≤ (-1) by omega))
    have e_14 : B_k1 ++ (fixed (IntKind.i8.wrap (((lT (T.at 3))[k1]).at 0).n) 1) = B_k1 ++ plainTo (zipped fs_sDescribeACLsResponseResource v true ((lT (T.at 3))[k1])) v 1 := fold_first (fs := fs_sDescribeACLsResponseResource) (v := v) (flex := true) (t := ((lT (T.at 3))[k1])) (B := B_k1) 0 rfl (by decide) (by decide) (has_yes (show (0 : Int) ≤ v by omega) (show ((-1) : Int) < 0 ∨ v ≤ (-1) by omega)) ((FB_int (f := (fs_sDescribeACLsResponseResource[0]'(by decide))) (by decide) (by decide)).trans (fixed_i8 _).symm)
    have hs88 := fold_size e_14 (by decide) hBk1
    refine cl rfl rfl rfl (OutK.cast (k_AppendInt8 (u := IntKind.i8.wrap (((lT (T.at 3))[k1]).at 0).n) rbk1 hs88) e_14) rfl (fun v_ H1 L1 hle hR => ?_)
    obtain ⟨rfl, a88, c88, N88, rfl, rfl, h88⟩ := hR
    have r88 := h88.1
    refine asg rfl rfl ?_
    refine nl ?_
    refine sq ?_
    refine sr ?_
    refine mv rfl rfl ?_
    refine nc rfl rfl ?_
    refine fa F175_1 rfl rfl ?_
    refine ld (Says.fz hc_13) Try.isAgg9 rfl rfl rfl rfl ?_
    refine asg rfl rfl ?_
    refine nl ?_
    refine sr ?_
    refine mv rfl rfl ?_
    refine nl ?_
    refine cdT rfl (by omega) ?_
    refine rg ?_
    refine mv rfl rfl ?_
    refine mv rfl rfl ?_
    have ok96 := oek1.get 1 (by decide) (has_yes (show (0 : Int) ≤ v by omega) (show ((-1) : Int) < 0 ∨ v ≤ (-1) by omega))
    have nn96 := ok96.nn (by decide) (by decide)
    have e_15 : B_k1 ++ plainTo (zipped fs_sDescribeACLsResponseResource v true ((lT (T.at 3))[k1])) v 1 ++ (counted true false (((lT (T.at 3))[k1]).at 1).s.length 2 ++ (((lT (T.at 3))[k1]).at 1).s) = B_k1 ++ plainTo (zipped fs_sDescribeACLsResponseResource v true ((lT (T.at 3))[k1])) v 2 := fold_yes (fs := fs_sDescribeACLsResponseResource) (v := v) (flex := true) (t := ((lT (T.at 3))[k1])) (B := B_k1) 1 (by decide) (by decide) (has_yes (show (0 : Int) ≤ v by omega) (show ((-1) : Int) < 0 ∨ v ≤ (-1) by omega)) (by rw [FB_text (f := (fs_sDescribeACLsResponseResource[1]'(by decide))) (by decide) (by decide) ok96, sT_nn nn96, nn96])
    have hs96 := fold_size e_15 (by decide) hBk1
    refine cl rfl rfl rfl (OutK.cast (k_AppendCompactString (x := (((lT (T.at 3))[k1]).at 1).s) (by have := ok96.s (Or.inl rfl); omega) r88 hs96) e_15) rfl (fun v_ H1 L1 hle hR => ?_)
    obtain ⟨rfl, a96, c96, N96, rfl, rfl, h96⟩ := hR
    have r96 := h96.1
    refine asg rfl rfl ?_
    refine nl ?_
    refine sq ?_
    refine sr ?_
    refine mv rfl rfl ?_
    refine ge rfl rfl rfl ?_
    refine nl ?_
    refine cdT rfl (by omega) ?_
    refine sr ?_
    refine mv rfl rfl ?_
    refine nc rfl rfl ?_
    refine fa F175_2 rfl rfl ?_
    refine ld (Says.fz hc_13) Try.isAgg172 rfl rfl rfl rfl ?_
    refine asg rfl rfl ?_
    refine nl ?_
    refine sr ?_
    refine mv rfl rfl ?_
    refine asg rfl rfl ?_
    refine nl ?_
    refine rg ?_
    refine mv rfl rfl ?_
    refine mv rfl rfl ?_
    have ok109 := oek1.get 2 (by decide) (has_yes (show (1 : Int) ≤ v by omega) (show ((-1) : Int) < 0 ∨ v ≤ (-1) by omega))
    have e_16 : B_k1 ++ plainTo (zipped fs_sDescribeACLsResponseResource v true ((lT (T.at 3))[k1])) v 2 ++ (fixed (IntKind.i8.wrap (((lT (T.at 3))[k1]).at 2).n) 1) = B_k1 ++ plainTo (zipped fs_sDescribeACLsResponseResource v true ((lT (T.at 3))[k1])) v 3 := fold_yes (fs := fs_sDescribeACLsResponseResource) (v := v) (flex := true) (t := ((lT (T.at 3))[k1])) (B := B_k1) 2 (by decide) (by decide) (has_yes (show (1 : Int) ≤ v by omega) (show ((-1) : Int) < 0 ∨ v ≤ (-1) by omega)) ((FB_int (f := (fs_sDescribeACLsResponseResource[2]'(by decide))) (by decide) (by decide)).trans (fixed_i8 _).symm)
    have hs109 := fold_size e_16 (by decide) hBk1
    refine cl rfl rfl rfl (OutK.cast (k_AppendInt8 (u := IntKind.i8.wrap (((lT (T.at 3))[k1]).at 2).n) r96 hs109) e_16) rfl (fun v_ H1 L1 hle hR => ?_)
    obtain ⟨rfl, a109, c109, N109, rfl, rfl, h109⟩ := hR
    have r109 := h109.1
    refine asg rfl rfl ?_
    refine nl ?_
    refine sq ?_
    refine sr ?_
    refine mv rfl rfl ?_
    refine nc rfl rfl ?_
    refine fa F175_3 rfl rfl ?_
    refine ld (Says.fz hc_13) Try.isAgg173 rfl rfl rfl rfl ?_
    refine asg rfl rfl ?_
    refine nl ?_
    refine sq ?_
    refine sr ?_
    refine mv rfl rfl ?_
    refine nl ?_
    refine cdT rfl (by omega) ?_
    refine rg ?_
    refine mv rfl rfl ?_
    refine mv rfl rfl ?_
    refine ls Try.runUnderlying173 rfl rfl ?_
    have ok118 := oek1.get 3 (by decide) (has_yes (show (0 : Int) ≤ v by omega) (show ((-1) : Int) < 0 ∨ v ≤ (-1) by omega))
    have nn118 := ok118.nn (by decide) (by decide)
    have ll118 := lT_len (ok118.len rfl)
    have e_17 : B_k1 ++ plainTo (zipped fs_sDescribeACLsResponseResource v true ((lT (T.at 3))[k1])) v 3 ++ (counted true false (lT (((lT (T.at 3))[k1]).at 3)).length 4 ++ (lT (((lT (T.at 3))[k1]).at 3)).flatMap (GOf (fs_sDescribeACLsResponseResource[3]'(by decide)) v true)) = B_k1 ++ plainTo (zipped fs_sDescribeACLsResponseResource v true ((lT (T.at 3))[k1])) v 4 := fold_yes (fs := fs_sDescribeACLsResponseResource) (v := v) (flex := true) (t := ((lT (T.at 3))[k1])) (B := B_k1) 3 (by decide) (by decide) (has_yes (show (0 : Int) ≤ v by omega) (show ((-1) : Int) < 0 ∨ v ≤ (-1) by omega)) (by rw [FB_list (f := (fs_sDescribeACLsResponseResource[3]'(by decide))) (by decide) (by decide) ok118, nn118])
    have hs118 := fold_size e_17 (by decide) hBk1
    have hc118 : (B_k1 ++ plainTo (zipped fs_sDescribeACLsResponseResource v true ((lT (T.at 3))[k1])) v 3).length + (counted true false (lT (((lT (T.at 3))[k1]).at 3)).length 4).length ≤ LIM := by have h := hs118; simp only [List.length_append] at h ⊢; omega
    refine cl rfl rfl rfl (OutK.cast (k_AppendCompactArrayLen (n := (lT (((lT (T.at 3))[k1]).at 3)).length) (by omega) r109 hc118) (show _ = B_k1 ++ plainTo (zipped fs_sDescribeACLsResponseResource v true ((lT (T.at 3))[k1])) v 3 ++ (counted true false (lT (((lT (T.at 3))[k1]).at 3)).length 4) from rfl)) rfl (fun v_ H1 L1 hle hR => ?_)
    obtain ⟨rfl, a118, c118, N118, rfl, rfl, h118⟩ := hR
    have r118 := h118.1
    refine asg rfl rfl ?_
    refine nl ?_
    refine sr ?_
    refine mv rfl rfl ?_
    refine ls Try.runUnderlying173 rfl rfl ?_
    refine mv rfl rfl ?_
    refine nl ?_
    refine fr ((lT (((lT (T.at 3))[k1]).at 3)).length) (fun k2 l' H' L' => ∃ (a_k2 : Option Addr), ∃ (m_k2 : Nat), ∃ (c_k2 : Nat), ∃ (N_k2 : Chunk), [(0, .pointer (some ⟨b, 0, none⟩)), (1, .slice a_k2 m_k2 c_k2), (5, .int .i16 v), (6, .bool (decide ((2 : Int) ≤ v))), (10, .slice a3 (lT (T.at 3)).length c3), (12, .pointer (some ⟨b_7, o_8 + k1 * 5, none⟩)), (18, .slice a_k1_3 (lT (((lT (T.at 3))[k1]).at 3)).length c_k1_3), (74, .int .i64 ((lT (T.at 3)).length : Int)), (75, .int .i64 (k1 : Int)), (124, .int .i64 ((lT (((lT (T.at 3))[k1]).at 3)).length : Int))] = l' ∧ N_k2 :: L = L' ∧ Row 5 1 a_k2 m_k2 c_k2 (bytesOf (B_k1 ++ plainTo (zipped fs_sDescribeACLsResponseResource v true ((lT (T.at 3))[k1])) v 3 ++ (counted true false (lT (((lT (T.at 3))[k1]).at 3)).length 4) ++ ((lT (((lT (T.at 3))[k1]).at 3)).take k2).flatMap (GOf (fs_sDescribeACLsResponseResource[3]'(by decide)) v true))) N_k2 ∧ m_k2 = (B_k1 ++ plainTo (zipped fs_sDescribeACLsResponseResource v true ((lT (T.at 3))[k1])) v 3 ++ (counted true false (lT (((lT (T.at 3))[k1]).at 3)).length 4) ++ ((lT (((lT (T.at 3))[k1]).at 3)).take k2).flatMap (GOf (fs_sDescribeACLsResponseResource[3]'(by decide)) v true)).length) [(0, .pointer (some ⟨b, 0, none⟩)), (1, .slice _ _ _), (5, .int .i16 v), (6, .bool (decide ((2 : Int) ≤ v))), (10, .slice a3 (lT (T.at 3)).length c3), (12, .pointer (some ⟨b_7, o_8 + k1 * 5, none⟩)), (18, .slice a_k1_3 (lT (((lT (T.at 3))[k1]).at 3)).length c_k1_3), (74, .int .i64 ((lT (T.at 3)).length : Int)), (75, .int .i64 (k1 : Int)), (124, .int .i64 ((lT (((lT (T.at 3))[k1]).at 3)).length : Int))] (fun k2 l' H' L' h => ?_) (by omega) rfl (.cons rfl (.cons rfl (.cons rfl (.cons rfl (.cons rfl (.cons rfl (.cons rfl (.cons rfl (.cons rfl (.cons rfl (.nil _))))))))))) ⟨_, _, _, _, rfl, rfl, (by rw [List.take_zero, List.flatMap_nil, List.append_nil]; exact r118), (by rw [List.take_zero, List.flatMap_nil, List.append_nil])⟩ rfl rfl rfl rfl rfl (fun k2 l' H' L' hk2 le_18 hI => ?_) (fun l' H' L' le_19 hI => ?_)
    · obtain ⟨a_k2, m_k2, c_k2, N_k2, rfl, _⟩ := h; exact ⟨rfl, rfl, rfl, rfl⟩
    · skip
      obtain ⟨a_k2, m_k2, c_k2, N_k2, rfl, rfl, pk20, pk21⟩ := hI
      subst pk21
      refine sr ?_
      refine mv rfl rfl ?_
      refine asg rfl rfl ?_
      refine nl ?_
      refine sr ?_
      refine mv rfl rfl ?_
      refine mv rfl rfl ?_
      obtain ⟨b_20, o_21, e_22, g_23⟩ := (hf_k1_0.mono At_DescribeACLsResponseResourceACL.mono le_18).rows.at_ (ne_nil_of_lt hk2)
      obtain ⟨cs_24, hA_25, hc_26⟩ := g_23 k2 hk2
      refine ix2 Try.runUnderlying173 Try.sizeOf182 rfl e_22 rfl rfl hk2 rfl ?_
      obtain ⟨m_k2_t, rfl, hf_k2_0⟩ := hA_25
      have oek2 := (ok118.el rfl _ (lT_mem (List.getElem_mem hk2))).2 rfl
      obtain ⟨B_k2, hdk2⟩ : ∃ z : List UInt8, z = B_k1 ++ plainTo (zipped fs_sDescribeACLsResponseResource v true ((lT (T.at 3))[k1])) v 3 ++ (counted true false (lT (((lT (T.at 3))[k1]).at 3)).length 4) ++ ((lT (((lT (T.at 3))[k1]).at 3)).take k2).flatMap (GOf (fs_sDescribeACLsResponseResource[3]'(by decide)) v true) := ⟨_, rfl⟩
      have rbk2 := pk20
      rw [← hdk2] at rbk2 ⊢
      have hBk2 : B_k2.length + (partB fs_sDescribeACLsResponseResourceACL v true ((lT (((lT (T.at 3))[k1]).at 3))[k2])).length ≤ LIM := by rw [hdk2]; exact el_size hs118 hk2 (GOf_part (by decide) _)
      refine asg rfl rfl ?_
      refine nl ?_
      refine sq ?_
      refine sr ?_
      refine mv rfl rfl ?_
      refine nc rfl rfl ?_
      refine fa F182_0 rfl rfl ?_
      refine ld (Says.fz hc_26) Try.isAgg9 rfl (Nat.add_zero _).symm rfl rfl ?_
      refine asg rfl rfl ?_
      refine nl ?_
      refine sr ?_
      refine mv rfl rfl ?_
      refine nl ?_
      refine cdT rfl (by omega) ?_
      refine rg ?_
      refine mv rfl rfl ?_
      refine mv rfl rfl ?_
      have ok138 := oek2.get 0 (by decide) (has_yes (show (0 : Int) ≤ v by omega) (show ((-1) : Int) < 0 ∨ v ≤ (-1) by omega))
      have nn138 := ok138.nn (by decide) (by decide)
      have e_27 : B_k2 ++ (counted true false (((lT (((lT (T.at 3))[k1]).at 3))[k2]).at 0).s.length 2 ++ (((lT (((lT (T.at 3))[k1]).at 3))[k2]).at 0).s) = B_k2 ++ plainTo (zipped fs_sDescribeACLsResponseResourceACL v true ((lT (((lT (T.at 3))[k1]).at 3))[k2])) v 1 := fold_first (fs := fs_sDescribeACLsResponseResourceACL) (v := v) (flex := true) (t := ((lT (((lT (T.at 3))[k1]).at 3))[k2])) (B := B_k2) 0 rfl (by decide) (by decide) (has_yes (show (0 : Int) ≤ v by omega) (show ((-1) : Int) < 0 ∨ v ≤ (-1) by omega)) (by rw [FB_text (f := (fs_sDescribeACLsResponseResourceACL[0]'(by decide))) (by decide) (by decide) ok138, sT_nn nn138, nn138])
      have hs138 := fold_size e_27 (by decide) hBk2
      refine cl rfl rfl rfl (OutK.cast (k_AppendCompactString (x := (((lT (((lT (T.at 3))[k1]).at 3))[k2]).at 0).s) (by have := ok138.s (Or.inl rfl); omega) rbk2 hs138) e_27) rfl (fun v_ H1 L1 hle hR => ?_)
      obtain ⟨rfl, a138, c138, N138, rfl, rfl, h138⟩ := hR
      have r138 := h138.1
      refine asg rfl rfl ?_
      refine nl ?_
      refine sq ?_
      refine sr ?_
      refine mv rfl rfl ?_
      refine nc rfl rfl ?_
      refine fa F182_1 rfl rfl ?_
      refine ld (Says.fz hc_26) Try.isAgg9 rfl rfl rfl rfl ?_
      refine asg rfl rfl ?_
      refine nl ?_
      refine sr ?_
      refine mv rfl rfl ?_
      refine nl ?_
      refine cdT rfl (by omega) ?_
      refine rg ?_
      refine mv rfl rfl ?_
      refine mv rfl rfl ?_
      have ok149 := oek2.get 1 (by decide) (has_yes (show (0 : Int) ≤ v by omega) (show ((-1) : Int) < 0 ∨ v ≤ (-1) by omega))
      have nn149 := ok149.nn (by decide) (by decide)
      have e_28 : B_k2 ++ plainTo (zipped fs_sDescribeACLsResponseResourceACL v true ((lT (((lT (T.at 3))[k1]).at 3))[k2])) v 1 ++ (counted true false (((lT (((lT (T.at 3))[k1]).at 3))[k2]).at 1).s.length 2 ++ (((lT (((lT (T.at 3))[k1]).at 3))[k2]).at 1).s) = B_k2 ++ plainTo (zipped fs_sDescribeACLsResponseResourceACL v true ((lT (((lT (T.at 3))[k1]).at 3))[k2])) v 2 := fold_yes (fs := fs_sDescribeACLsResponseResourceACL) (v := v) (flex := true) (t := ((lT (((lT (T.at 3))[k1]).at 3))[k2])) (B := B_k2) 1 (by decide) (by decide) (has_yes (show (0 : Int) ≤ v by omega) (show ((-1) : Int) < 0 ∨ v ≤ (-1) by omega)) (by rw [FB_text (f := (fs_sDescribeACLsResponseResourceACL[1]'(by decide))) (by decide) (by decide) ok149, sT_nn nn149, nn149])
      have hs149 := fold_size e_28 (by decide) hBk2
      refine cl rfl rfl rfl (OutK.cast (k_AppendCompactString (x := (((lT (((lT (T.at 3))[k1]).at 3))[k2]).at 1).s) (by have := ok149.s (Or.inl rfl); omega) r138 hs149) e_28) rfl (fun v_ H1 L1 hle hR => ?_)
      obtain ⟨rfl, a149, c149, N149, rfl, rfl, h149⟩ := hR
      have r149 := h149.1
      refine asg rfl rfl ?_
      refine nl ?_
      refine sq ?_
      refine sr ?_
      refine mv rfl rfl ?_
      refine nc rfl rfl ?_
      refine fa F182_2 rfl rfl ?_
      refine ld (Says.fz hc_26) Try.isAgg179 rfl rfl rfl rfl ?_
      refine asg rfl rfl ?_
      refine nl ?_
      refine sr ?_
      refine mv rfl rfl ?_
      refine asg rfl rfl ?_
      refine nl ?_
      refine rg ?_
      refine mv rfl rfl ?_
      refine mv rfl rfl ?_
      have ok160 := oek2.get 2 (by decide) (has_yes (show (0 : Int) ≤ v by omega) (show ((-1) : Int) < 0 ∨ v ≤ (-1) by omega))
      have e_29 : B_k2 ++ plainTo (zipped fs_sDescribeACLsResponseResourceACL v true ((lT (((lT (T.at 3))[k1]).at 3))[k2])) v 2 ++ (fixed (IntKind.i8.wrap (((lT (((lT (T.at 3))[k1]).at 3))[k2]).at 2).n) 1) = B_k2 ++ plainTo (zipped fs_sDescribeACLsResponseResourceACL v true ((lT (((lT (T.at 3))[k1]).at 3))[k2])) v 3 := fold_yes (fs := fs_sDescribeACLsResponseResourceACL) (v := v) (flex := true) (t := ((lT (((lT (T.at 3))[k1]).at 3))[k2])) (B := B_k2) 2 (by decide) (by decide) (has_yes (show (0 : Int) ≤ v by omega) (show ((-1) : Int) < 0 ∨ v ≤ (-1) by omega)) ((FB_int (f := (fs_sDescribeACLsResponseResourceACL[2]'(by decide))) (by decide) (by decide)).trans (fixed_i8 _).symm)
      have hs160 := fold_size e_29 (by decide) hBk2
      refine cl rfl rfl rfl (OutK.cast (k_AppendInt8 (u := IntKind.i8.wrap (((lT (((lT (T.at 3))[k1]).at 3))[k2]).at 2).n) r149 hs160) e_29) rfl (fun v_ H1 L1 hle hR => ?_)
      obtain ⟨rfl, a160, c160, N160, rfl, rfl, h160⟩ := hR
      have r160 := h160.1
      refine asg rfl rfl ?_
      refine nl ?_
      refine sq ?_
      refine sr ?_
      refine mv rfl rfl ?_
      refine nc rfl rfl ?_
      refine fa F182_3 rfl rfl ?_
      refine ld (Says.fz hc_26) Try.isAgg180 rfl rfl rfl rfl ?_
      refine asg rfl rfl ?_
      refine nl ?_
      refine sr ?_
      refine mv rfl rfl ?_
      refine asg rfl rfl ?_
      refine nl ?_
      refine rg ?_
      refine mv rfl rfl ?_
      refine mv rfl rfl ?_
      have ok168 := oek2.get 3 (by decide) (has_yes (show (0 : Int) ≤ v by omega) (show ((-1) : Int) < 0 ∨ v ≤ (-1) by omega))
      have e_30 : B_k2 ++ plainTo (zipped fs_sDescribeACLsResponseResourceACL v true ((lT (((lT (T.at 3))[k1]).at 3))[k2])) v 3 ++ (fixed (IntKind.i8.wrap (((lT (((lT (T.at 3))[k1]).at 3))[k2]).at 3).n) 1) = B_k2 ++ plainTo (zipped fs_sDescribeACLsResponseResourceACL v true ((lT (((lT (T.at 3))[k1]).at 3))[k2])) v 4 := fold_yes (fs := fs_sDescribeACLsResponseResourceACL) (v := v) (flex := true) (t := ((lT (((lT (T.at 3))[k1]).at 3))[k2])) (B := B_k2) 3 (by decide) (by decide) (has_yes (show (0 : Int) ≤ v by omega) (show ((-1) : Int) < 0 ∨ v ≤ (-1) by omega)) ((FB_int (f := (fs_sDescribeACLsResponseResourceACL[3]'(by decide))) (by decide) (by decide)).trans (fixed_i8 _).symm)
      have hs168 := fold_size e_30 (by decide) hBk2
      refine cl rfl rfl rfl (OutK.cast (k_AppendInt8 (u := IntKind.i8.wrap (((lT (((lT (T.at 3))[k1]).at 3))[k2]).at 3).n) r160 hs168) e_30) rfl (fun v_ H1 L1 hle hR => ?_)
      obtain ⟨rfl, a168, c168, N168, rfl, rfl, h168⟩ := hR
      have r168 := h168.1
      refine asg rfl rfl ?_
      refine nl ?_
      refine sr ?_
      refine mv rfl rfl ?_
      refine nl ?_
      refine cdT rfl (by omega) ?_
      refine sr ?_
      refine mv rfl rfl ?_
      refine mv rfl rfl ?_
      refine nc rfl rfl ?_
      refine fa F182_4 rfl rfl ?_
      refine cl rfl rfl rfl (t_lenU (j := 4) hc_26 rfl hf_k2_0) rfl (fun v_ H1 L1 hle hR => ?_)
      obtain ⟨rfl, rfl, rfl⟩ := hR
      have hu174 := oek2.u
      have hul174 := hu174.2.1
      obtain ⟨hz174a, hz174b⟩ := part_size_plain (by decide) hu174 hBk2
      refine cv Try.runUnderlying3 Try.runUnderlying60 rfl (w32u (by omega) (by omega)) rfl ?_
      refine ad rfl rfl ((w32u (by omega) (by omega)).trans (Int.zero_add _)) rfl ?_
      refine cl rfl rfl rfl (k_AppendUvarint (n := ((lT (((lT (T.at 3))[k1]).at 3))[k2]).u.length) (by omega) r168 hz174a) rfl (fun v_ H1 L1 hle hR => ?_)
      obtain ⟨rfl, a177, c177, N177, rfl, rfl, h177⟩ := hR
      have r177 := h177.1
      refine asg rfl rfl ?_
      refine nl ?_
      refine rg ?_
      refine mv rfl rfl ?_
      refine nc rfl rfl ?_
      refine fa F182_4 rfl rfl ?_
      refine mv rfl rfl ?_
      refine cl rfl rfl rfl (t_append_each (j := 4) hc_26 rfl hf_k2_0 (by omega) r177 (fun p hp => by have := hu174.2.2 p hp; omega) hz174b) rfl (fun v_ H1 L1 le_31 hR => ?_)
      obtain ⟨a182, c182, N182, rfl, rfl, h182⟩ := hR
      have r182 := h182.1
      have eP_32 : B_k2 ++ plainTo (zipped fs_sDescribeACLsResponseResourceACL v true ((lT (((lT (T.at 3))[k1]).at 3))[k2])) v 4 ++ uvar ((lT (((lT (T.at 3))[k1]).at 3))[k2]).u.length ++ ((lT (((lT (T.at 3))[k1]).at 3))[k2]).u.flatMap tagU = B_k2 ++ partB fs_sDescribeACLsResponseResourceACL v true ((lT (((lT (T.at 3))[k1]).at 3))[k2]) := part_close (B := B_k2) (by decide) hu174
      rw [eP_32] at r182 ⊢
      refine asg rfl rfl ?_
      refine nN ?_
      refine Nb ?_
      have ee_33 : B_k2 ++ partB fs_sDescribeACLsResponseResourceACL v true ((lT (((lT (T.at 3))[k1]).at 3))[k2]) = B_k1 ++ plainTo (zipped fs_sDescribeACLsResponseResource v true ((lT (T.at 3))[k1])) v 3 ++ (counted true false (lT (((lT (T.at 3))[k1]).at 3)).length 4) ++ ((lT (((lT (T.at 3))[k1]).at 3)).take (k2 + 1)).flatMap (GOf (fs_sDescribeACLsResponseResource[3]'(by decide)) v true) := by rw [hdk2]; exact el_end (B0 := B_k1 ++ plainTo (zipped fs_sDescribeACLsResponseResource v true ((lT (T.at 3))[k1])) v 3 ++ (counted true false (lT (((lT (T.at 3))[k1]).at 3)).length 4)) (G := (GOf (fs_sDescribeACLsResponseResource[3]'(by decide)) v true)) hk2 (GOf_part (by decide) _)
      refine fun a_ w_ hA hw => ⟨_, _, _, hA.sub ?_, (le_18.trans le_31), hw, _, rfl, _, _, _, _, rfl, rfl, (by rw [← ee_33]; exact r182), (by rw [← ee_33])⟩
      exact (.cons rfl (.cons rfl (.cons rfl (.cons rfl (.cons rfl (.cons rfl (.cons rfl (.cons rfl (.cons rfl (.cons rfl (.cons rfl (.nil _))))))))))))
    · skip
      obtain ⟨a_k2, m_k2, c_k2, N_k2, rfl, rfl, pk20, pk21⟩ := hI
      refine toWp ?_
      have eL118 : B_k1 ++ plainTo (zipped fs_sDescribeACLsResponseResource v true ((lT (T.at 3))[k1])) v 3 ++ (counted true false (lT (((lT (T.at 3))[k1]).at 3)).length 4) ++ ((lT (((lT (T.at 3))[k1]).at 3)).take (lT (((lT (T.at 3))[k1]).at 3)).length).flatMap (GOf (fs_sDescribeACLsResponseResource[3]'(by decide)) v true) = B_k1 ++ plainTo (zipped fs_sDescribeACLsResponseResource v true ((lT (T.at 3))[k1])) v 4 := by rw [List.take_length, List.append_assoc]; exact e_17
      rw [eL118] at pk20 pk21
      subst pk21
      refine sr ?_
      refine mv rfl rfl ?_
      refine nl ?_
      refine cdT rfl (by omega) ?_
      refine sr ?_
      refine mv rfl rfl ?_
      refine mv rfl rfl ?_
      refine nc rfl rfl ?_
      refine fa F175_4 rfl rfl ?_
      refine cl rfl rfl rfl (t_lenU (j := 4) (hc_13.mono le_19) rfl (hf_k1_1.mono le_19)) rfl (fun v_ H1 L1 hle hR => ?_)
      obtain ⟨rfl, rfl, rfl⟩ := hR
      have hu189 := oek1.u
      have hul189 := hu189.2.1
      obtain ⟨hz189a, hz189b⟩ := part_size_plain (by decide) hu189 hBk1
      refine cv Try.runUnderlying3 Try.runUnderlying60 rfl (w32u (by omega) (by omega)) rfl ?_
      refine ad rfl rfl ((w32u (by omega) (by omega)).trans (Int.zero_add _)) rfl ?_
      refine cl rfl rfl rfl (k_AppendUvarint (n := ((lT (T.at 3))[k1]).u.length) (by omega) pk20 hz189a) rfl (fun v_ H1 L1 hle hR => ?_)
      obtain ⟨rfl, a192, c192, N192, rfl, rfl, h192⟩ := hR
      have r192 := h192.1
      refine asg rfl rfl ?_
      refine nl ?_
      refine rg ?_
      refine mv rfl rfl ?_
      refine nc rfl rfl ?_
      refine fa F175_4 rfl rfl ?_
      refine mv rfl rfl ?_
      refine cl rfl rfl rfl (t_append_each (j := 4) (hc_13.mono le_19) rfl (hf_k1_1.mono le_19) (by omega) r192 (fun p hp => by have := hu189.2.2 p hp; omega) hz189b) rfl (fun v_ H1 L1 le_34 hR => ?_)
      obtain ⟨a197, c197, N197, rfl, rfl, h197⟩ := hR
      have r197 := h197.1
      have eP_35 : B_k1 ++ plainTo (zipped fs_sDescribeACLsResponseResource v true ((lT (T.at 3))[k1])) v 4 ++ uvar ((lT (T.at 3))[k1]).u.length ++ ((lT (T.at 3))[k1]).u.flatMap tagU = B_k1 ++ partB fs_sDescribeACLsResponseResource v true ((lT (T.at 3))[k1]) := part_close (B := B_k1) (by decide) hu189
      rw [eP_35] at r197 ⊢
      refine asg rfl rfl ?_
      refine nN ?_
      refine Nb ?_
      have ee_36 : B_k1 ++ partB fs_sDescribeACLsResponseResource v true ((lT (T.at 3))[k1]) = D ++ plainTo (zipped fs_DescribeACLsResponse v true T) v 3 ++ (counted true false (lT (T.at 3)).length 4) ++ ((lT (T.at 3)).take (k1 + 1)).flatMap (GOf (fs_DescribeACLsResponse[3]'(by decide)) v true) := by rw [hdk1]; exact el_end (B0 := D ++ plainTo (zipped fs_DescribeACLsResponse v true T) v 3 ++ (counted true false (lT (T.at 3)).length 4)) (G := (GOf (fs_DescribeACLsResponse[3]'(by decide)) v true)) hk1 (GOf_part (by decide) _)
      refine fun a_ w_ hA hw => ⟨_, _, _, hA.sub ?_, (le_5.trans (le_19.trans le_34)), hw, _, rfl, _, _, _, _, rfl, rfl, (by rw [← ee_36]; exact r197), (by rw [← ee_36])⟩
      exact (.cons rfl (.cons rfl (.cons rfl (.cons rfl (.cons rfl (.cons rfl (.cons rfl (.nil _))))))))
  · skip
    obtain ⟨a_k1, m_k1, c_k1, N_k1, rfl, rfl, pk10, pk11⟩ := hI
    refine toWp ?_
    have eL68 : D ++ plainTo (zipped fs_DescribeACLsResponse v true T) v 3 ++ (counted true false (lT (T.at 3)).length 4) ++ ((lT (T.at 3)).take (lT (T.at 3)).length).flatMap (GOf (fs_DescribeACLsResponse[3]'(by decide)) v true) = D ++ plainTo (zipped fs_DescribeACLsResponse v true T) v 4 := by rw [List.take_length, List.append_assoc]; exact e_4
    rw [eL68] at pk10 pk11
    subst pk11
    refine sq ?_
    refine sr ?_
    refine mv rfl rfl ?_
    refine nl ?_
    refine cdT rfl (by omega) ?_
    refine sr ?_
    refine mv rfl rfl ?_
    refine mv rfl rfl ?_
    refine nc rfl rfl ?_
    refine fa0 F119_5 rfl rfl ?_
    refine cl rfl rfl rfl (t_lenU (j := 5) (hv.mono le_6) rfl (hf2.mono le_6)) rfl (fun v_ H1 L1 hle hR => ?_)
    obtain ⟨rfl, rfl, rfl⟩ := hR
    have hu204 := hok.u
    have hul204 := hu204.2.1
    obtain ⟨hz204a, hz204b⟩ := part_size_plain (by decide) hu204 hb
    refine cv Try.runUnderlying3 Try.runUnderlying60 rfl (w32u (by omega) (by omega)) rfl ?_
    refine ad rfl rfl ((w32u (by omega) (by omega)).trans (Int.zero_add _)) rfl ?_
    refine cl rfl rfl rfl (k_AppendUvarint (n := T.u.length) (by omega) pk10 hz204a) rfl (fun v_ H1 L1 hle hR => ?_)
    obtain ⟨rfl, a207, c207, N207, rfl, rfl, h207⟩ := hR
    have r207 := h207.1
    refine asg rfl rfl ?_
    refine nl ?_
    refine rg ?_
    refine mv rfl rfl ?_
    refine nc rfl rfl ?_
    refine fa0 F119_5 rfl rfl ?_
    refine mv rfl rfl ?_
    refine cl rfl rfl rfl (t_append_each (j := 5) (hv.mono le_6) rfl (hf2.mono le_6) (by omega) r207 (fun p hp => by have := hu204.2.2 p hp; omega) hz204b) rfl (fun v_ H1 L1 le_37 hR => ?_)
    obtain ⟨a212, c212, N212, rfl, rfl, h212⟩ := hR
    have r212 := h212.1
    have eP_38 : D ++ plainTo (zipped fs_DescribeACLsResponse v true T) v 4 ++ uvar T.u.length ++ T.u.flatMap tagU = D ++ partB fs_DescribeACLsResponse v true T := part_close (B := D) (by decide) hu204
    rw [eP_38] at r212 ⊢
    refine asg rfl rfl ?_
    refine nl ?_
    refine sr ?_
    refine mv rfl rfl ?_
    refine asg rfl rfl ?_
    refine nl ?_
    exact rT rfl rfl (le_6.trans le_37) (fun _ _ h => h) (OutB.of r212 rfl)
end Go.Sx

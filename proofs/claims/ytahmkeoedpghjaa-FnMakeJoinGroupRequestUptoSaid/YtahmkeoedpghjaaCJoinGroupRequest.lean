import Derived.Test.YtahmkeoedpghjaaBJoinGroupRequest
import Derived.KernelRfl
set_option linter.unusedVariables false
set_option linter.unusedSimpArgs false
set_option maxRecDepth 100000
set_option maxHeartbeats 20000000
namespace Go.Sx
open Go.Proofs
theorem app_JoinGroupRequest_f {H : Fz} {L : Own} {a : Option Addr} {cap b : Nat} {D : List UInt8} {N : Chunk} {cs : List Value} {T : Tr} {v : Int} (hr : Row 5 1 a D.length cap (bytesOf D) N) (hv : H.at b 0 cs) (hA : At_JoinGroupRequest v H T cs) (hok : OkP fs_JoinGroupRequest v T) (h0 : 0 ≤ v) (h1 : v ≤ 5) (hb : D.length + (partB fs_JoinGroupRequest v false T).length ≤ LIM) :
    Fn Try.prog 106 [.pointer (some ⟨b, 0, none⟩), .slice a D.length cap] H (N :: L) (fun r H' L' => OutB 5 L (D ++ partB fs_JoinGroupRequest v false T) r L') := by
  obtain ⟨p4, a6, c6, p7, mt, rfl, hf0, hf1, hf2, hf3⟩ := hA
  refine Fn.mk Try.call106 Try.func106 rfl Try.ntmps106 rfl ?_
  refine sr ?_
  refine asg rfl rfl ?_
  refine nl ?_
  refine sr ?_
  refine mv rfl rfl ?_
  refine nc rfl rfl ?_
  refine fa0 F113_0 rfl rfl ?_
  refine ld (Says.fz hv) Try.isAgg45 rfl (Nat.zero_add _).symm rfl rfl ?_
  refine asg rfl rfl ?_
  refine nl ?_
  refine sr ?_
  refine mv rfl rfl ?_
  refine nl ?_
  refine sr ?_
  refine mv rfl rfl ?_
  refine ge rfl rfl rfl ?_
  refine asg rfl rfl ?_
  refine nl ?_
  refine sr ?_
  refine mv rfl rfl ?_
  refine nl ?_
  refine sq ?_
  refine sr ?_
  refine mv rfl rfl ?_
  refine nc rfl rfl ?_
  refine fa0 F113_1 rfl rfl ?_
  refine ld (Says.fz hv) Try.isAgg9 rfl (Nat.zero_add _).symm rfl rfl ?_
  refine asg rfl rfl ?_
  refine nl ?_
  refine sr ?_
  refine mv rfl rfl ?_
  refine nl ?_
  refine cdF rfl (by omega) ?_
  refine rg ?_
  refine mv rfl rfl ?_
  refine mv rfl rfl ?_
  have ok37 := hok.get 0 (by decide) (has_yes (show (0 : Int) ≤ v by omega) (show ((-1) : Int) < 0 ∨ v ≤ (-1) by omega))
  have nn37 := ok37.nn (by decide) (by decide)
  have e_1 : D ++ (counted false false (T.at 0).s.length 2 ++ (T.at 0).s) = D ++ plainTo (zipped fs_JoinGroupRequest v false T) v 1 := fold_first (fs := fs_JoinGroupRequest) (v := v) (flex := false) (t := T) (B := D) 0 rfl (by decide) (by decide) (has_yes (show (0 : Int) ≤ v by omega) (show ((-1) : Int) < 0 ∨ v ≤ (-1) by omega)) (by rw [FB_text (f := (fs_JoinGroupRequest[0]'(by decide))) (by decide) (by decide) ok37, sT_nn nn37, nn37])
  have hs37 := fold_size e_1 (by decide) hb
  refine cl rfl rfl rfl (OutK.cast (k_AppendString (x := (T.at 0).s) hr hs37) e_1) rfl (fun v_ H1 L1 hle hR => ?_)
  obtain ⟨rfl, a37, c37, N37, rfl, rfl, h37⟩ := hR
  have r37 := h37.1
  refine asg rfl rfl ?_
  refine nl ?_
  refine sq ?_
  refine sr ?_
  refine mv rfl rfl ?_
  refine nc rfl rfl ?_
  refine fa0 F113_2 rfl rfl ?_
  refine ld (Says.fz hv) Try.isAgg21 rfl (Nat.zero_add _).symm rfl rfl ?_
  refine asg rfl rfl ?_
  refine nl ?_
  refine rg ?_
  refine mv rfl rfl ?_
  refine mv rfl rfl ?_
  have ok44 := hok.get 1 (by decide) (has_yes (show (0 : Int) ≤ v by omega) (show ((-1) : Int) < 0 ∨ v ≤ (-1) by omega))
  have e_2 : D ++ plainTo (zipped fs_JoinGroupRequest v false T) v 1 ++ (fixed (IntKind.i32.wrap (T.at 1).n) 4) = D ++ plainTo (zipped fs_JoinGroupRequest v false T) v 2 := fold_yes (fs := fs_JoinGroupRequest) (v := v) (flex := false) (t := T) (B := D) 1 (by decide) (by decide) (has_yes (show (0 : Int) ≤ v by omega) (show ((-1) : Int) < 0 ∨ v ≤ (-1) by omega)) ((FB_int (f := (fs_JoinGroupRequest[1]'(by decide))) (by decide) (by decide)).trans (fixed_i32 _).symm)
  have hs44 := fold_size e_2 (by decide) hb
  refine cl rfl rfl rfl (OutK.cast (k_AppendInt32 (u := IntKind.i32.wrap (T.at 1).n) r37 hs44) e_2) rfl (fun v_ H1 L1 hle hR => ?_)
  obtain ⟨rfl, a44, c44, N44, rfl, rfl, h44⟩ := hR
  have r44 := h44.1
  refine asg rfl rfl ?_
  refine nl ?_
  refine sq ?_
  refine sr ?_
  refine mv rfl rfl ?_
  refine ge rfl rfl rfl ?_
  refine nl ?_
  refine cutT (fun l' H' L' => ∃ (aj_3 : Option Addr), ∃ (mj_3 : Nat), ∃ (cj_3 : Nat), ∃ (Nj_3 : Chunk), [(0, .pointer (some ⟨b, 0, none⟩)), (1, .slice aj_3 mj_3 cj_3), (5, .int .i16 v), (6, .bool (decide ((6 : Int) ≤ v)))] = l' ∧ Nj_3 :: L = L' ∧ Row 5 1 aj_3 mj_3 cj_3 (bytesOf (D ++ plainTo (zipped fs_JoinGroupRequest v false T) v 3)) Nj_3 ∧ mj_3 = (D ++ plainTo (zipped fs_JoinGroupRequest v false T) v 3).length) ?_ (fun l' H' L' le_4 hI => ?_)
  · skip
    refine cd rfl (fun h46 => ?_) (fun h46 => ?_)
    · skip
      refine sr ?_
      refine mv rfl rfl ?_
      refine nc rfl rfl ?_
      refine fa0 F113_3 rfl rfl ?_
      refine ld (Says.fz hv) Try.isAgg21 rfl (Nat.zero_add _).symm rfl rfl ?_
      refine asg rfl rfl ?_
      refine nl ?_
      refine rg ?_
      refine mv rfl rfl ?_
      refine mv rfl rfl ?_
      have ok53 := hok.get 2 (by decide) (has_yes (show (1 : Int) ≤ v by omega) (show ((-1) : Int) < 0 ∨ v ≤ (-1) by omega))
      have e_5 : D ++ plainTo (zipped fs_JoinGroupRequest v false T) v 2 ++ (fixed (IntKind.i32.wrap (T.at 2).n) 4) = D ++ plainTo (zipped fs_JoinGroupRequest v false T) v 3 := fold_yes (fs := fs_JoinGroupRequest) (v := v) (flex := false) (t := T) (B := D) 2 (by decide) (by decide) (has_yes (show (1 : Int) ≤ v by omega) (show ((-1) : Int) < 0 ∨ v ≤ (-1) by omega)) ((FB_int (f := (fs_JoinGroupRequest[2]'(by decide))) (by decide) (by decide)).trans (fixed_i32 _).symm)
      have hs53 := fold_size e_5 (by decide) hb
      refine cl rfl rfl rfl (OutK.cast (k_AppendInt32 (u := IntKind.i32.wrap (T.at 2).n) r44 hs53) e_5) rfl (fun v_ H1 L1 hle hR => ?_)
      obtain ⟨rfl, a53, c53, N53, rfl, rfl, h53⟩ := hR
      have r53 := h53.1
      refine asg rfl rfl ?_
      refine nN ?_
      refine fun a_ w_ hA hw => ⟨_, _, _, hA.sub ?_, (Fz.le.refl _), hw, _, _, _, _, rfl, rfl, r53, rfl⟩
      exact (.cons rfl (.cons rfl (.cons rfl (.cons rfl (.nil _)))))
    · skip
      refine skN ?_
      have es_6 : plainTo (zipped fs_JoinGroupRequest v false T) v 3 = plainTo (zipped fs_JoinGroupRequest v false T) v 2 := (piece_no2 (fs := fs_JoinGroupRequest) (v := v) (flex := false) (t := T) (k := 2) (by decide) (has_no (show v < (1 : Int) ∨ ((0 : Int) ≤ (-1) ∧ (-1) < v) by omega)))
      have eX_7 : D ++ plainTo (zipped fs_JoinGroupRequest v false T) v 2 = D ++ plainTo (zipped fs_JoinGroupRequest v false T) v 3 := by rw [es_6]
      refine fun a_ w_ hA hw => ⟨_, _, _, hA.sub ?_, (Fz.le.refl _), hw, _, _, _, _, rfl, rfl, (by rw [← eX_7]; exact r44), (by rw [← eX_7])⟩
      exact (.cons rfl (.cons rfl (.cons rfl (.cons rfl (.nil _)))))
  · skip
    obtain ⟨aj_3, mj_3, cj_3, Nj_3, rfl, rfl, pj0, pj1⟩ := hI
    subst pj1
    have rj_3 := pj0
    refine sq ?_
    refine sr ?_
    refine mv rfl rfl ?_
    refine nc rfl rfl ?_
    refine fa0 F113_4 rfl rfl ?_
    refine ld (Says.fz (hv.mono le_4)) Try.isAgg9 rfl (Nat.zero_add _).symm rfl rfl ?_
    refine asg rfl rfl ?_
    refine nl ?_
    refine sr ?_
    refine mv rfl rfl ?_
    refine nl ?_
    refine cdF rfl (by omega) ?_
    refine rg ?_
    refine mv rfl rfl ?_
    refine mv rfl rfl ?_
    have ok64 := hok.get 3 (by decide) (has_yes (show (0 : Int) ≤ v by omega) (show ((-1) : Int) < 0 ∨ v ≤ (-1) by omega))
    have nn64 := ok64.nn (by decide) (by decide)
    have e_8 : D ++ plainTo (zipped fs_JoinGroupRequest v false T) v 3 ++ (counted false false (T.at 3).s.length 2 ++ (T.at 3).s) = D ++ plainTo (zipped fs_JoinGroupRequest v false T) v 4 := fold_yes (fs := fs_JoinGroupRequest) (v := v) (flex := false) (t := T) (B := D) 3 (by decide) (by decide) (has_yes (show (0 : Int) ≤ v by omega) (show ((-1) : Int) < 0 ∨ v ≤ (-1) by omega)) (by rw [FB_text (f := (fs_JoinGroupRequest[3]'(by decide))) (by decide) (by decide) ok64, sT_nn nn64, nn64])
    have hs64 := fold_size e_8 (by decide) hb
    refine cl rfl rfl rfl (OutK.cast (k_AppendString (x := (T.at 3).s) rj_3 hs64) e_8) rfl (fun v_ H1 L1 hle hR => ?_)
    obtain ⟨rfl, a64, c64, N64, rfl, rfl, h64⟩ := hR
    have r64 := h64.1
    refine asg rfl rfl ?_
    refine nl ?_
    refine sq ?_
    refine sr ?_
    refine mv rfl rfl ?_
    refine ge rfl rfl rfl ?_
    refine nl ?_
    refine cutT (fun l' H' L' => ∃ (aj_9 : Option Addr), ∃ (mj_9 : Nat), ∃ (cj_9 : Nat), ∃ (Nj_9 : Chunk), [(0, .pointer (some ⟨b, 0, none⟩)), (1, .slice aj_9 mj_9 cj_9), (5, .int .i16 v), (6, .bool (decide ((6 : Int) ≤ v)))] = l' ∧ Nj_9 :: L = L' ∧ Row 5 1 aj_9 mj_9 cj_9 (bytesOf (D ++ plainTo (zipped fs_JoinGroupRequest v false T) v 5)) Nj_9 ∧ mj_9 = (D ++ plainTo (zipped fs_JoinGroupRequest v false T) v 5).length) ?_ (fun l' H' L' le_10 hI => ?_)
    · skip
      refine cd rfl (fun h66 => ?_) (fun h66 => ?_)
      · skip
        refine sr ?_
        refine mv rfl rfl ?_
        refine nc rfl rfl ?_
        refine fa0 F113_5 rfl rfl ?_
        refine ld (Says.fz (hv.mono le_4)) Try.isAgg51 rfl (Nat.zero_add _).symm rfl rfl ?_
        refine asg rfl rfl ?_
        refine nl ?_
        refine sr ?_
        refine mv rfl rfl ?_
        refine nl ?_
        refine cdF rfl (by omega) ?_
        refine rg ?_
        refine mv rfl rfl ?_
        refine mv rfl rfl ?_
        have ok77 := hok.get 4 (by decide) (has_yes (show (5 : Int) ≤ v by omega) (show ((-1) : Int) < 0 ∨ v ≤ (-1) by omega))
        have e_11 : D ++ plainTo (zipped fs_JoinGroupRequest v false T) v 4 ++ (counted false (T.at 4).nul (sT (T.at 4)).length 2 ++ sT (T.at 4)) = D ++ plainTo (zipped fs_JoinGroupRequest v false T) v 5 := fold_yes (fs := fs_JoinGroupRequest) (v := v) (flex := false) (t := T) (B := D) 4 (by decide) (by decide) (has_yes (show (5 : Int) ≤ v by omega) (show ((-1) : Int) < 0 ∨ v ≤ (-1) by omega)) (FB_text (f := (fs_JoinGroupRequest[4]'(by decide))) (by decide) (by decide) ok77)
        have hs77 := fold_size e_11 (by decide) hb
        refine cl rfl rfl rfl (OutK.cast (k_AppendNullableString (hf0.mono le_4) (ok77.s (Or.inl rfl)) r64 hs77) e_11) rfl (fun v_ H1 L1 hle hR => ?_)
        obtain ⟨rfl, a77, c77, N77, rfl, rfl, h77⟩ := hR
        have r77 := h77.1
        refine asg rfl rfl ?_
        refine nN ?_
        refine fun a_ w_ hA hw => ⟨_, _, _, hA.sub ?_, (Fz.le.refl _), hw, _, _, _, _, rfl, rfl, r77, rfl⟩
        exact (.cons rfl (.cons rfl (.cons rfl (.cons rfl (.nil _)))))
      · skip
        refine skN ?_
        have es_12 : plainTo (zipped fs_JoinGroupRequest v false T) v 5 = plainTo (zipped fs_JoinGroupRequest v false T) v 4 := (piece_no2 (fs := fs_JoinGroupRequest) (v := v) (flex := false) (t := T) (k := 4) (by decide) (has_no (show v < (5 : Int) ∨ ((0 : Int) ≤ (-1) ∧ (-1) < v) by omega)))
        have eX_13 : D ++ plainTo (zipped fs_JoinGroupRequest v false T) v 4 = D ++ plainTo (zipped fs_JoinGroupRequest v false T) v 5 := by rw [es_12]
        refine fun a_ w_ hA hw => ⟨_, _, _, hA.sub ?_, (Fz.le.refl _), hw, _, _, _, _, rfl, rfl, (by rw [← eX_13]; exact r64), (by rw [← eX_13])⟩
        exact (.cons rfl (.cons rfl (.cons rfl (.cons rfl (.nil _)))))
    · skip
      obtain ⟨aj_9, mj_9, cj_9, Nj_9, rfl, rfl, pj0, pj1⟩ := hI
      subst pj1
      have rj_9 := pj0
      refine sq ?_
      refine sr ?_
      refine mv rfl rfl ?_
      refine nc rfl rfl ?_
      refine fa0 F113_6 rfl rfl ?_
      refine ld (Says.fz (hv.mono (le_4.trans le_10))) Try.isAgg9 rfl (Nat.zero_add _).symm rfl rfl ?_
      refine asg rfl rfl ?_
      refine nl ?_
      refine sr ?_
      refine mv rfl rfl ?_
      refine nl ?_
      refine cdF rfl (by omega) ?_
      refine rg ?_
      refine mv rfl rfl ?_
      refine mv rfl rfl ?_
      have ok88 := hok.get 5 (by decide) (has_yes (show (0 : Int) ≤ v by omega) (show ((-1) : Int) < 0 ∨ v ≤ (-1) by omega))
      have nn88 := ok88.nn (by decide) (by decide)
      have e_14 : D ++ plainTo (zipped fs_JoinGroupRequest v false T) v 5 ++ (counted false false (T.at 5).s.length 2 ++ (T.at 5).s) = D ++ plainTo (zipped fs_JoinGroupRequest v false T) v 6 := fold_yes (fs := fs_JoinGroupRequest) (v := v) (flex := false) (t := T) (B := D) 5 (by decide) (by decide) (has_yes (show (0 : Int) ≤ v by omega) (show ((-1) : Int) < 0 ∨ v ≤ (-1) by omega)) (by rw [FB_text (f := (fs_JoinGroupRequest[5]'(by decide))) (by decide) (by decide) ok88, sT_nn nn88, nn88])
      have hs88 := fold_size e_14 (by decide) hb
      refine cl rfl rfl rfl (OutK.cast (k_AppendString (x := (T.at 5).s) rj_9 hs88) e_14) rfl (fun v_ H1 L1 hle hR => ?_)
      obtain ⟨rfl, a88, c88, N88, rfl, rfl, h88⟩ := hR
      have r88 := h88.1
      refine asg rfl rfl ?_
      refine nl ?_
      refine sq ?_
      refine sr ?_
      refine mv rfl rfl ?_
      refine nc rfl rfl ?_
      refine fa0 F113_7 rfl rfl ?_
      refine ld (Says.fz (hv.mono (le_4.trans le_10))) Try.isAgg111 rfl (Nat.zero_add _).symm rfl rfl ?_
      refine asg rfl rfl ?_
      refine nl ?_
      refine sq ?_
      refine sr ?_
      refine mv rfl rfl ?_
      refine nl ?_
      refine cdF rfl (by omega) ?_
      refine rg ?_
      refine mv rfl rfl ?_
      refine mv rfl rfl ?_
      refine ls Try.runUnderlying111 rfl rfl ?_
      have ok101 := hok.get 6 (by decide) (has_yes (show (0 : Int) ≤ v by omega) (show ((-1) : Int) < 0 ∨ v ≤ (-1) by omega))
      have nn101 := ok101.nn (by decide) (by decide)
      have ll101 := lT_len (ok101.len rfl)
      have e_15 : D ++ plainTo (zipped fs_JoinGroupRequest v false T) v 6 ++ (counted false false (lT (T.at 6)).length 4 ++ (lT (T.at 6)).flatMap (GOf (fs_JoinGroupRequest[6]'(by decide)) v false)) = D ++ plainTo (zipped fs_JoinGroupRequest v false T) v 7 := fold_yes (fs := fs_JoinGroupRequest) (v := v) (flex := false) (t := T) (B := D) 6 (by decide) (by decide) (has_yes (show (0 : Int) ≤ v by omega) (show ((-1) : Int) < 0 ∨ v ≤ (-1) by omega)) (by rw [FB_list (f := (fs_JoinGroupRequest[6]'(by decide))) (by decide) (by decide) ok101, nn101])
      have hs101 := fold_size e_15 (by decide) hb
      have hc101 : (D ++ plainTo (zipped fs_JoinGroupRequest v false T) v 6).length + (counted false false (lT (T.at 6)).length 4).length ≤ LIM := by have h := hs101; simp only [List.length_append] at h ⊢; omega
      refine cl rfl rfl rfl (OutK.cast (k_AppendArrayLen (u := ((lT (T.at 6)).length : Int)) r88 hc101) (show _ = D ++ plainTo (zipped fs_JoinGroupRequest v false T) v 6 ++ (counted false false (lT (T.at 6)).length 4) from rfl)) rfl (fun v_ H1 L1 hle hR => ?_)
      obtain ⟨rfl, a101, c101, N101, rfl, rfl, h101⟩ := hR
      have r101 := h101.1
      refine asg rfl rfl ?_
      refine nl ?_
      refine sr ?_
      refine mv rfl rfl ?_
      refine ls Try.runUnderlying111 rfl rfl ?_
      refine mv rfl rfl ?_
      refine nl ?_
      refine fr ((lT (T.at 6)).length) (fun k1 l' H' L' => ∃ (a_k1 : Option Addr), ∃ (m_k1 : Nat), ∃ (c_k1 : Nat), ∃ (N_k1 : Chunk), [(0, .pointer (some ⟨b, 0, none⟩)), (1, .slice a_k1 m_k1 c_k1), (5, .int .i16 v), (6, .bool (decide ((6 : Int) ≤ v))), (13, .slice a6 (lT (T.at 6)).length c6), (103, .int .i64 ((lT (T.at 6)).length : Int))] = l' ∧ N_k1 :: L = L' ∧ Row 5 1 a_k1 m_k1 c_k1 (bytesOf (D ++ plainTo (zipped fs_JoinGroupRequest v false T) v 6 ++ (counted false false (lT (T.at 6)).length 4) ++ ((lT (T.at 6)).take k1).flatMap (GOf (fs_JoinGroupRequest[6]'(by decide)) v false))) N_k1 ∧ m_k1 = (D ++ plainTo (zipped fs_JoinGroupRequest v false T) v 6 ++ (counted false false (lT (T.at 6)).length 4) ++ ((lT (T.at 6)).take k1).flatMap (GOf (fs_JoinGroupRequest[6]'(by decide)) v false)).length) [(0, .pointer (some ⟨b, 0, none⟩)), (1, .slice _ _ _), (5, .int .i16 v), (6, .bool (decide ((6 : Int) ≤ v))), (13, .slice a6 (lT (T.at 6)).length c6), (103, .int .i64 ((lT (T.at 6)).length : Int))] (fun k1 l' H' L' h => ?_) (by omega) rfl (.cons rfl (.cons rfl (.cons rfl (.cons rfl (.cons rfl (.cons rfl (.nil _))))))) ⟨_, _, _, _, rfl, rfl, (by rw [List.take_zero, List.flatMap_nil, List.append_nil]; exact r101), (by rw [List.take_zero, List.flatMap_nil, List.append_nil])⟩ rfl rfl rfl rfl rfl (fun k1 l' H' L' hk1 le_16 hI => ?_) (fun l' H' L' le_17 hI => ?_)
      · obtain ⟨a_k1, m_k1, c_k1, N_k1, rfl, _⟩ := h; exact ⟨rfl, rfl, rfl, rfl⟩
      · skip
        obtain ⟨a_k1, m_k1, c_k1, N_k1, rfl, rfl, pk10, pk11⟩ := hI
        subst pk11
        refine sr ?_
        refine mv rfl rfl ?_
        refine asg rfl rfl ?_
        refine nl ?_
        refine sr ?_
        refine mv rfl rfl ?_
        refine mv rfl rfl ?_
        obtain ⟨b_18, o_19, e_20, g_21⟩ := (hf1.mono At_JoinGroupRequestProtocol.mono (le_4.trans (le_10.trans le_16))).rows.at_ (ne_nil_of_lt hk1)
        obtain ⟨cs_22, hA_23, hc_24⟩ := g_21 k1 hk1
        refine ix2 Try.runUnderlying111 Try.sizeOf168 rfl e_20 rfl rfl hk1 rfl ?_
        obtain ⟨a_k1_1, c_k1_1, m_k1_t, rfl, hf_k1_0, hf_k1_1⟩ := hA_23
        have oek1 := (ok101.el rfl _ (lT_mem (List.getElem_mem hk1))).2 rfl
        obtain ⟨B_k1, hdk1⟩ : ∃ z : List UInt8, z = D ++ plainTo (zipped fs_JoinGroupRequest v false T) v 6 ++ (counted false false (lT (T.at 6)).length 4) ++ ((lT (T.at 6)).take k1).flatMap (GOf (fs_JoinGroupRequest[6]'(by decide)) v false) := ⟨_, rfl⟩
        have rbk1 := pk10
        rw [← hdk1] at rbk1 ⊢
        have hBk1 : B_k1.length + (partB fs_sJoinGroupRequestProtocol v false ((lT (T.at 6))[k1])).length ≤ LIM := by rw [hdk1]; exact el_size hs101 hk1 (GOf_part (by decide) _)
        refine asg rfl rfl ?_
        refine nl ?_
        refine sq ?_
        refine sr ?_
        refine mv rfl rfl ?_
        refine nc rfl rfl ?_
        refine fa F168_0 rfl rfl ?_
        refine ld (Says.fz hc_24) Try.isAgg9 rfl (Nat.add_zero _).symm rfl rfl ?_
        refine asg rfl rfl ?_
        refine nl ?_
        refine sr ?_
        refine mv rfl rfl ?_
        refine nl ?_
        refine cdF rfl (by omega) ?_
        refine rg ?_
        refine mv rfl rfl ?_
        refine mv rfl rfl ?_
        have ok120 := oek1.get 0 (by decide) (has_yes (show (0 : Int) ≤ v by omega) (show ((-1) : Int) < 0 ∨ v ≤ (-1) by omega))
        have nn120 := ok120.nn (by decide) (by decide)
        have e_25 : B_k1 ++ (counted false false (((lT (T.at 6))[k1]).at 0).s.length 2 ++ (((lT (T.at 6))[k1]).at 0).s) = B_k1 ++ plainTo (zipped fs_sJoinGroupRequestProtocol v false ((lT (T.at 6))[k1])) v 1 := fold_first (fs := fs_sJoinGroupRequestProtocol) (v := v) (flex := false) (t := ((lT (T.at 6))[k1])) (B := B_k1) 0 rfl (by decide) (by decide) (has_yes (show (0 : Int) ≤ v by omega) (show ((-1) : Int) < 0 ∨ v ≤ (-1) by omega)) (by rw [FB_text (f := (fs_sJoinGroupRequestProtocol[0]'(by decide))) (by decide) (by decide) ok120, sT_nn nn120, nn120])
        have hs120 := fold_size e_25 (by decide) hBk1
        refine cl rfl rfl rfl (OutK.cast (k_AppendString (x := (((lT (T.at 6))[k1]).at 0).s) rbk1 hs120) e_25) rfl (fun v_ H1 L1 hle hR => ?_)
        obtain ⟨rfl, a120, c120, N120, rfl, rfl, h120⟩ := hR
        have r120 := h120.1
        refine asg rfl rfl ?_
        refine nl ?_
        refine sq ?_
        refine sr ?_
        refine mv rfl rfl ?_
        refine nc rfl rfl ?_
        refine fa F168_1 rfl rfl ?_
        refine ld (Says.fz hc_24) Try.isAgg22 rfl rfl rfl rfl ?_
        refine asg rfl rfl ?_
        refine nl ?_
        refine sr ?_
        refine mv rfl rfl ?_
        refine nl ?_
        refine cdF rfl (by omega) ?_
        refine rg ?_
        refine mv rfl rfl ?_
        refine mv rfl rfl ?_
        have ok131 := oek1.get 1 (by decide) (has_yes (show (0 : Int) ≤ v by omega) (show ((-1) : Int) < 0 ∨ v ≤ (-1) by omega))
        have nn131 := ok131.nn (by decide) (by decide)
        have e_26 : B_k1 ++ plainTo (zipped fs_sJoinGroupRequestProtocol v false ((lT (T.at 6))[k1])) v 1 ++ (counted false false (sT (((lT (T.at 6))[k1]).at 1)).length 4 ++ (sT (((lT (T.at 6))[k1]).at 1))) = B_k1 ++ plainTo (zipped fs_sJoinGroupRequestProtocol v false ((lT (T.at 6))[k1])) v 2 := fold_yes (fs := fs_sJoinGroupRequestProtocol) (v := v) (flex := false) (t := ((lT (T.at 6))[k1])) (B := B_k1) 1 (by decide) (by decide) (has_yes (show (0 : Int) ≤ v by omega) (show ((-1) : Int) < 0 ∨ v ≤ (-1) by omega)) (by rw [FB_bytes (f := (fs_sJoinGroupRequestProtocol[1]'(by decide))) (by decide) (by decide) ok131, nn131])
        have hs131 := fold_size e_26 (by decide) hBk1
        refine cl rfl rfl rfl (OutK.cast (k_AppendBytes (x := (sT (((lT (T.at 6))[k1]).at 1))) hf_k1_0.val r120 hs131) e_26) rfl (fun v_ H1 L1 hle hR => ?_)
        obtain ⟨rfl, a131, c131, N131, rfl, rfl, h131⟩ := hR
        have r131 := h131.1
        refine asg rfl rfl ?_
        refine nl ?_
        refine sr ?_
        refine mv rfl rfl ?_
        refine nl ?_
        refine cdF rfl (by omega) ?_
        refine skN ?_
        refine Nb ?_
        have eP_27 : B_k1 ++ plainTo (zipped fs_sJoinGroupRequestProtocol v false ((lT (T.at 6))[k1])) v 2 = B_k1 ++ partB fs_sJoinGroupRequestProtocol v false ((lT (T.at 6))[k1]) := by rw [partB_false]; rfl
        have rp_28 := r131
        rw [eP_27] at rp_28 ⊢
        have ee_29 : B_k1 ++ partB fs_sJoinGroupRequestProtocol v false ((lT (T.at 6))[k1]) = D ++ plainTo (zipped fs_JoinGroupRequest v false T) v 6 ++ (counted false false (lT (T.at 6)).length 4) ++ ((lT (T.at 6)).take (k1 + 1)).flatMap (GOf (fs_JoinGroupRequest[6]'(by decide)) v false) := by rw [hdk1]; exact el_end (B0 := D ++ plainTo (zipped fs_JoinGroupRequest v false T) v 6 ++ (counted false false (lT (T.at 6)).length 4)) (G := (GOf (fs_JoinGroupRequest[6]'(by decide)) v false)) hk1 (GOf_part (by decide) _)
        refine fun a_ w_ hA hw => ⟨_, _, _, hA.sub ?_, le_16, hw, _, rfl, _, _, _, _, rfl, rfl, (by rw [← ee_29]; exact rp_28), (by rw [← ee_29])⟩
        exact (.cons rfl (.cons rfl (.cons rfl (.cons rfl (.cons rfl (.cons rfl (.cons rfl (.nil _))))))))
      · skip
        obtain ⟨a_k1, m_k1, c_k1, N_k1, rfl, rfl, pk10, pk11⟩ := hI
        refine toWp ?_
        have eL101 : D ++ plainTo (zipped fs_JoinGroupRequest v false T) v 6 ++ (counted false false (lT (T.at 6)).length 4) ++ ((lT (T.at 6)).take (lT (T.at 6)).length).flatMap (GOf (fs_JoinGroupRequest[6]'(by decide)) v false) = D ++ plainTo (zipped fs_JoinGroupRequest v false T) v 7 := by rw [List.take_length, List.append_assoc]; exact e_15
        rw [eL101] at pk10 pk11
        subst pk11
        refine sq ?_
        refine sr ?_
        refine mv rfl rfl ?_
        refine ge rfl rfl rfl ?_
        refine nl ?_
        refine cdF rfl (by omega) ?_
        refine skt ?_
        refine sq ?_
        refine sr ?_
        refine mv rfl rfl ?_
        refine nl ?_
        refine cdF rfl (by omega) ?_
        refine skt ?_
        refine sr ?_
        refine mv rfl rfl ?_
        refine asg rfl rfl ?_
        refine nl ?_
        have es_30 : plainTo (zipped fs_JoinGroupRequest v false T) v 8 = plainTo (zipped fs_JoinGroupRequest v false T) v 7 := (piece_no2 (fs := fs_JoinGroupRequest) (v := v) (flex := false) (t := T) (k := 7) (by decide) (has_no (show v < (8 : Int) ∨ ((0 : Int) ≤ (-1) ∧ (-1) < v) by omega)))
        have eX_31 : D ++ plainTo (zipped fs_JoinGroupRequest v false T) v 7 = D ++ plainTo (zipped fs_JoinGroupRequest v false T) v 8 := by rw [es_30]
        have rx_32 := pk10
        rw [eX_31] at rx_32 ⊢
        have eP_33 : D ++ plainTo (zipped fs_JoinGroupRequest v false T) v 8 = D ++ partB fs_JoinGroupRequest v false T := by rw [partB_false]; rfl
        have rp_34 := rx_32
        rw [eP_33] at rp_34 ⊢
        exact rT rfl rfl (le_4.trans (le_10.trans le_17)) (fun _ _ h => h) (OutB.of rp_34 rfl)
theorem app_JoinGroupRequest_t {H : Fz} {L : Own} {a : Option Addr} {cap b : Nat} {D : List UInt8} {N : Chunk} {cs : List Value} {T : Tr} {v : Int} (hr : Row 5 1 a D.length cap (bytesOf D) N) (hv : H.at b 0 cs) (hA : At_JoinGroupRequest v H T cs) (hok : OkP fs_JoinGroupRequest v T) (h0 : 6 ≤ v) (h1 : v ≤ 9) (hb : D.length + (partB fs_JoinGroupRequest v true T).length ≤ LIM) :
    Fn Try.prog 106 [.pointer (some ⟨b, 0, none⟩), .slice a D.length cap] H (N :: L) (fun r H' L' => OutB 5 L (D ++ partB fs_JoinGroupRequest v true T) r L') := by
  obtain ⟨p4, a6, c6, p7, mt, rfl, hf0, hf1, hf2, hf3⟩ := hA
  refine Fn.mk Try.call106 Try.func106 rfl Try.ntmps106 rfl ?_
  refine sr ?_
  refine asg rfl rfl ?_
  refine nl ?_
  refine sr ?_
  refine mv rfl rfl ?_
  refine nc rfl rfl ?_
  refine fa0 F113_0 rfl rfl ?_
  refine ld (Says.fz hv) Try.isAgg45 rfl (Nat.zero_add _).symm rfl rfl ?_
  refine asg rfl rfl ?_
  refine nl ?_
  refine sr ?_
  refine mv rfl rfl ?_
  refine nl ?_
  refine sr ?_
  refine mv rfl rfl ?_
  refine ge rfl rfl rfl ?_
  refine asg rfl rfl ?_
  refine nl ?_
  refine sr ?_
  refine mv rfl rfl ?_
  refine nl ?_
  refine sq ?_
  refine sr ?_
  refine mv rfl rfl ?_
  refine nc rfl rfl ?_
  refine fa0 F113_1 rfl rfl ?_
  refine ld (Says.fz hv) Try.isAgg9 rfl (Nat.zero_add _).symm rfl rfl ?_
  refine asg rfl rfl ?_
  refine nl ?_
  refine sr ?_
  refine mv rfl rfl ?_
  refine nl ?_
  refine cdT rfl (by omega) ?_
  refine rg ?_
  refine mv rfl rfl ?_
  refine mv rfl rfl ?_
  have ok34 := hok.get 0 (by decide) (has_yes (show (0 : Int) ≤ v by omega) (show ((-1) : Int) < 0 ∨ v ≤ (-1) by omega))
  have nn34 := ok34.nn (by decide) (by decide)
  have e_1 : D ++ (counted true false (T.at 0).s.length 2 ++ (T.at 0).s) = D ++ plainTo (zipped fs_JoinGroupRequest v true T) v 1 := fold_first (fs := fs_JoinGroupRequest) (v := v) (flex := true) (t := T) (B := D) 0 rfl (by decide) (by decide) (has_yes (show (0 : Int) ≤ v by omega) (show ((-1) : Int) < 0 ∨ v ≤ (-1) by omega)) (by rw [FB_text (f := (fs_JoinGroupRequest[0]'(by decide))) (by decide) (by decide) ok34, sT_nn nn34, nn34])
  have hs34 := fold_size e_1 (by decide) hb
  refine cl rfl rfl rfl (OutK.cast (k_AppendCompactString (x := (T.at 0).s) (by have := ok34.s (Or.inl rfl); omega) hr hs34) e_1) rfl (fun v_ H1 L1 hle hR => ?_)
  obtain ⟨rfl, a34, c34, N34, rfl, rfl, h34⟩ := hR
  have r34 := h34.1
  refine asg rfl rfl ?_
  refine nl ?_
  refine sq ?_
  refine sr ?_
  refine mv rfl rfl ?_
  refine nc rfl rfl ?_
  refine fa0 F113_2 rfl rfl ?_
  refine ld (Says.fz hv) Try.isAgg21 rfl (Nat.zero_add _).symm rfl rfl ?_
  refine asg rfl rfl ?_
  refine nl ?_
  refine rg ?_
  refine mv rfl rfl ?_
  refine mv rfl rfl ?_
  have ok44 := hok.get 1 (by decide) (has_yes (show (0 : Int) ≤ v by omega) (show ((-1) : Int) < 0 ∨ v ≤ (-1) by omega))
  have e_2 : D ++ plainTo (zipped fs_JoinGroupRequest v true T) v 1 ++ (fixed (IntKind.i32.wrap (T.at 1).n) 4) = D ++ plainTo (zipped fs_JoinGroupRequest v true T) v 2 := fold_yes (fs := fs_JoinGroupRequest) (v := v) (flex := true) (t := T) (B := D) 1 (by decide) (by decide) (has_yes (show (0 : Int) ≤ v by omega) (show ((-1) : Int) < 0 ∨ v ≤ (-1) by omega)) ((FB_int (f := (fs_JoinGroupRequest[1]'(by decide))) (by decide) (by decide)).trans (fixed_i32 _).symm)
  have hs44 := fold_size e_2 (by decide) hb
  refine cl rfl rfl rfl (OutK.cast (k_AppendInt32 (u := IntKind.i32.wrap (T.at 1).n) r34 hs44) e_2) rfl (fun v_ H1 L1 hle hR => ?_)
  obtain ⟨rfl, a44, c44, N44, rfl, rfl, h44⟩ := hR
  have r44 := h44.1
  refine asg rfl rfl ?_
  refine nl ?_
  refine sq ?_
  refine sr ?_
  refine mv rfl rfl ?_
  refine ge rfl rfl rfl ?_
  refine nl ?_
  refine cdT rfl (by omega) ?_
  refine sr ?_
  refine mv rfl rfl ?_
  refine nc rfl rfl ?_
  refine fa0 F113_3 rfl rfl ?_
  refine ld (Says.fz hv) Try.isAgg21 rfl (Nat.zero_add _).symm rfl rfl ?_
  refine asg rfl rfl ?_
  refine nl ?_
  refine rg ?_
  refine mv rfl rfl ?_
  refine mv rfl rfl ?_
  have ok53 := hok.get 2 (by decide) (has_yes (show (1 : Int) ≤ v by omega) (show ((-1) : Int) < 0 ∨ v ≤ (-1) by omega))
  have e_3 : D ++ plainTo (zipped fs_JoinGroupRequest v true T) v 2 ++ (fixed (IntKind.i32.wrap (T.at 2).n) 4) = D ++ plainTo (zipped fs_JoinGroupRequest v true T) v 3 := fold_yes (fs := fs_JoinGroupRequest) (v := v) (flex := true) (t := T) (B := D) 2 (by decide) (by decide) (has_yes (show (1 : Int) ≤ v by omega) (show ((-1) : Int) < 0 ∨ v ≤ (-1) by omega)) ((FB_int (f := (fs_JoinGroupRequest[2]'(by decide))) (by decide) (by decide)).trans (fixed_i32 _).symm)
  have hs53 := fold_size e_3 (by decide) hb
  refine cl rfl rfl rfl (OutK.cast (k_AppendInt32 (u := IntKind.i32.wrap (T.at 2).n) r44 hs53) e_3) rfl (fun v_ H1 L1 hle hR => ?_)
  obtain ⟨rfl, a53, c53, N53, rfl, rfl, h53⟩ := hR
  have r53 := h53.1
  refine asg rfl rfl ?_
  refine nl ?_
  refine sq ?_
  refine sr ?_
  refine mv rfl rfl ?_
  refine nc rfl rfl ?_
  refine fa0 F113_4 rfl rfl ?_
  refine ld (Says.fz hv) Try.isAgg9 rfl (Nat.zero_add _).symm rfl rfl ?_
  refine asg rfl rfl ?_
  refine nl ?_
  refine sr ?_
  refine mv rfl rfl ?_
  refine nl ?_
  refine cdT rfl (by omega) ?_
  refine rg ?_
  refine mv rfl rfl ?_
  refine mv rfl rfl ?_
  have ok61 := hok.get 3 (by decide) (has_yes (show (0 : Int) ≤ v by omega) (show ((-1) : Int) < 0 ∨ v ≤ (-1) by omega))
  have nn61 := ok61.nn (by decide) (by decide)
  have e_4 : D ++ plainTo (zipped fs_JoinGroupRequest v true T) v 3 ++ (counted true false (T.at 3).s.length 2 ++ (T.at 3).s) = D ++ plainTo (zipped fs_JoinGroupRequest v true T) v 4 := fold_yes (fs := fs_JoinGroupRequest) (v := v) (flex := true) (t := T) (B := D) 3 (by decide) (by decide) (has_yes (show (0 : Int) ≤ v by omega) (show ((-1) : Int) < 0 ∨ v ≤ (-1) by omega)) (by rw [FB_text (f := (fs_JoinGroupRequest[3]'(by decide))) (by decide) (by decide) ok61, sT_nn nn61, nn61])
  have hs61 := fold_size e_4 (by decide) hb
  refine cl rfl rfl rfl (OutK.cast (k_AppendCompactString (x := (T.at 3).s) (by have := ok61.s (Or.inl rfl); omega) r53 hs61) e_4) rfl (fun v_ H1 L1 hle hR => ?_)
  obtain ⟨rfl, a61, c61, N61, rfl, rfl, h61⟩ := hR
  have r61 := h61.1
  refine asg rfl rfl ?_
  refine nl ?_
  refine sq ?_
  refine sr ?_
  refine mv rfl rfl ?_
  refine ge rfl rfl rfl ?_
  refine nl ?_
  refine cdT rfl (by omega) ?_
  refine sr ?_
  refine mv rfl rfl ?_
  refine nc rfl rfl ?_
  refine fa0 F113_5 rfl rfl ?_
  refine ld (Says.fz hv) Try.isAgg51 rfl (Nat.zero_add _).symm rfl rfl ?_
  refine asg rfl rfl ?_
  refine nl ?_
  refine sr ?_
  refine mv rfl rfl ?_
  refine nl ?_
  refine cdT rfl (by omega) ?_
  refine rg ?_
  refine mv rfl rfl ?_
  refine mv rfl rfl ?_
  have ok74 := hok.get 4 (by decide) (has_yes (show (5 : Int) ≤ v by omega) (show ((-1) : Int) < 0 ∨ v ≤ (-1) by omega))
  have e_5 : D ++ plainTo (zipped fs_JoinGroupRequest v true T) v 4 ++ (counted true (T.at 4).nul (sT (T.at 4)).length 2 ++ sT (T.at 4)) = D ++ plainTo (zipped fs_JoinGroupRequest v true T) v 5 := fold_yes (fs := fs_JoinGroupRequest) (v := v) (flex := true) (t := T) (B := D) 4 (by decide) (by decide) (has_yes (show (5 : Int) ≤ v by omega) (show ((-1) : Int) < 0 ∨ v ≤ (-1) by omega)) (FB_text (f := (fs_JoinGroupRequest[4]'(by decide))) (by decide) (by decide) ok74)
  have hs74 := fold_size e_5 (by decide) hb
  refine cl rfl rfl rfl (OutK.cast (k_AppendCompactNullableString hf0 (ok74.s (Or.inl rfl)) r61 hs74) e_5) rfl (fun v_ H1 L1 hle hR => ?_)
  obtain ⟨rfl, a74, c74, N74, rfl, rfl, h74⟩ := hR
  have r74 := h74.1
  refine asg rfl rfl ?_
  refine nl ?_
  refine sq ?_
  refine sr ?_
  refine mv rfl rfl ?_
  refine nc rfl rfl ?_
  refine fa0 F113_6 rfl rfl ?_
  refine ld (Says.fz hv) Try.isAgg9 rfl (Nat.zero_add _).symm rfl rfl ?_
  refine asg rfl rfl ?_
  refine nl ?_
  refine sr ?_
  refine mv rfl rfl ?_
  refine nl ?_
  refine cdT rfl (by omega) ?_
  refine rg ?_
  refine mv rfl rfl ?_
  refine mv rfl rfl ?_
  have ok85 := hok.get 5 (by decide) (has_yes (show (0 : Int) ≤ v by omega) (show ((-1) : Int) < 0 ∨ v ≤ (-1) by omega))
  have nn85 := ok85.nn (by decide) (by decide)
  have e_6 : D ++ plainTo (zipped fs_JoinGroupRequest v true T) v 5 ++ (counted true false (T.at 5).s.length 2 ++ (T.at 5).s) = D ++ plainTo (zipped fs_JoinGroupRequest v true T) v 6 := fold_yes (fs := fs_JoinGroupRequest) (v := v) (flex := true) (t := T) (B := D) 5 (by decide) (by decide) (has_yes (show (0 : Int) ≤ v by omega) (show ((-1) : Int) < 0 ∨ v ≤ (-1) by omega)) (by rw [FB_text (f := (fs_JoinGroupRequest[5]'(by decide))) (by decide) (by decide) ok85, sT_nn nn85, nn85])
  have hs85 := fold_size e_6 (by decide) hb
  refine cl rfl rfl rfl (OutK.cast (k_AppendCompactString (x := (T.at 5).s) (by have := ok85.s (Or.inl rfl); omega) r74 hs85) e_6) rfl (fun v_ H1 L1 hle hR => ?_)
  obtain ⟨rfl, a85, c85, N85, rfl, rfl, h85⟩ := hR
  have r85 := h85.1
  refine asg rfl rfl ?_
  refine nl ?_
  refine sq ?_
  refine sr ?_
  refine mv rfl rfl ?_
  refine nc rfl rfl ?_
  refine fa0 F113_7 rfl rfl ?_
  refine ld (Says.fz hv) Try.isAgg111 rfl (Nat.zero_add _).symm rfl rfl ?_
  refine asg rfl rfl ?_
  refine nl ?_
  refine sq ?_
  refine sr ?_
  refine mv rfl rfl ?_
  refine nl ?_
  refine cdT rfl (by omega) ?_
  refine rg ?_
  refine mv rfl rfl ?_
  refine mv rfl rfl ?_
  refine ls Try.runUnderlying111 rfl rfl ?_
  have ok97 := hok.get 6 (by decide) (has_yes (show (0 : Int) ≤ v by omega) (show ((-1) : Int) < 0 ∨ v ≤ (-1) by omega))
  have nn97 := ok97.nn (by decide) (by decide)
  have ll97 := lT_len (ok97.len rfl)
  have e_7 : D ++ plainTo (zipped fs_JoinGroupRequest v true T) v 6 ++ (counted true false (lT (T.at 6)).length 4 ++ (lT (T.at 6)).flatMap (GOf (fs_JoinGroupRequest[6]'(by decide)) v true)) = D ++ plainTo (zipped fs_JoinGroupRequest v true T) v 7 := fold_yes (fs := fs_JoinGroupRequest) (v := v) (flex := true) (t := T) (B := D) 6 (by decide) (by decide) (has_yes (show (0 : Int) ≤ v by omega) (show ((-1) : Int) < 0 ∨ v ≤ (-1) by omega)) (by rw [FB_list (f := (fs_JoinGroupRequest[6]'(by decide))) (by decide) (by decide) ok97, nn97])
  have hs97 := fold_size e_7 (by decide) hb
  have hc97 : (D ++ plainTo (zipped fs_JoinGroupRequest v true T) v 6).length + (counted true false (lT (T.at 6)).length 4).length ≤ LIM := by have h := hs97; simp only [List.length_append] at h ⊢; omega
  refine cl rfl rfl rfl (OutK.cast (k_AppendCompactArrayLen (n := (lT (T.at 6)).length) (by omega) r85 hc97) (show _ = D ++ plainTo (zipped fs_JoinGroupRequest v true T) v 6 ++ (counted true false (lT (T.at 6)).length 4) from rfl)) rfl (fun v_ H1 L1 hle hR => ?_)
  obtain ⟨rfl, a97, c97, N97, rfl, rfl, h97⟩ := hR
  have r97 := h97.1
  refine asg rfl rfl ?_
  refine nl ?_
  refine sr ?_
  refine mv rfl rfl ?_
  refine ls Try.runUnderlying111 rfl rfl ?_
  refine mv rfl rfl ?_
  refine nl ?_
  refine fr ((lT (T.at 6)).length) (fun k1 l' H' L' => ∃ (a_k1 : Option Addr), ∃ (m_k1 : Nat), ∃ (c_k1 : Nat), ∃ (N_k1 : Chunk), [(0, .pointer (some ⟨b, 0, none⟩)), (1, .slice a_k1 m_k1 c_k1), (5, .int .i16 v), (6, .bool (decide ((6 : Int) ≤ v))), (13, .slice a6 (lT (T.at 6)).length c6), (103, .int .i64 ((lT (T.at 6)).length : Int))] = l' ∧ N_k1 :: L = L' ∧ Row 5 1 a_k1 m_k1 c_k1 (bytesOf (D ++ plainTo (zipped fs_JoinGroupRequest v true T) v 6 ++ (counted true false (lT (T.at 6)).length 4) ++ ((lT (T.at 6)).take k1).flatMap (GOf (fs_JoinGroupRequest[6]'(by decide)) v true))) N_k1 ∧ m_k1 = (D ++ plainTo (zipped fs_JoinGroupRequest v true T) v 6 ++ (counted true false (lT (T.at 6)).length 4) ++ ((lT (T.at 6)).take k1).flatMap (GOf (fs_JoinGroupRequest[6]'(by decide)) v true)).length) [(0, .pointer (some ⟨b, 0, none⟩)), (1, .slice _ _ _), (5, .int .i16 v), (6, .bool (decide ((6 : Int) ≤ v))), (13, .slice a6 (lT (T.at 6)).length c6), (103, .int .i64 ((lT (T.at 6)).length : Int))] (fun k1 l' H' L' h => ?_) (by omega) rfl (.cons rfl (.cons rfl (.cons rfl (.cons rfl (.cons rfl (.cons rfl (.nil _))))))) ⟨_, _, _, _, rfl, rfl, (by rw [List.take_zero, List.flatMap_nil, List.append_nil]; exact r97), (by rw [List.take_zero, List.flatMap_nil, List.append_nil])⟩ rfl rfl rfl rfl rfl (fun k1 l' H' L' hk1 le_8 hI => ?_) (fun l' H' L' le_9 hI => ?_)
  · obtain ⟨a_k1, m_k1, c_k1, N_k1, rfl, _⟩ := h; exact ⟨rfl, rfl, rfl, rfl⟩
  · skip
    obtain ⟨a_k1, m_k1, c_k1, N_k1, rfl, rfl, pk10, pk11⟩ := hI
    subst pk11
    refine sr ?_
    refine mv rfl rfl ?_
    refine asg rfl rfl ?_
    refine nl ?_
    refine sr ?_
    refine mv rfl rfl ?_
    refine mv rfl rfl ?_
    obtain ⟨b_10, o_11, e_12, g_13⟩ := (hf1.mono At_JoinGroupRequestProtocol.mono le_8).rows.at_ (ne_nil_of_lt hk1)
    obtain ⟨cs_14, hA_15, hc_16⟩ := g_13 k1 hk1
    refine ix2 Try.runUnderlying111 Try.sizeOf168 rfl e_12 rfl rfl hk1 rfl ?_
    obtain ⟨a_k1_1, c_k1_1, m_k1_t, rfl, hf_k1_0, hf_k1_1⟩ := hA_15
    have oek1 := (ok97.el rfl _ (lT_mem (List.getElem_mem hk1))).2 rfl
    obtain ⟨B_k1, hdk1⟩ : ∃ z : List UInt8, z = D ++ plainTo (zipped fs_JoinGroupRequest v true T) v 6 ++ (counted true false (lT (T.at 6)).length 4) ++ ((lT (T.at 6)).take k1).flatMap (GOf (fs_JoinGroupRequest[6]'(by decide)) v true) := ⟨_, rfl⟩
    have rbk1 := pk10
    rw [← hdk1] at rbk1 ⊢
    have hBk1 : B_k1.length + (partB fs_sJoinGroupRequestProtocol v true ((lT (T.at 6))[k1])).length ≤ LIM := by rw [hdk1]; exact el_size hs97 hk1 (GOf_part (by decide) _)
    refine asg rfl rfl ?_
    refine nl ?_
    refine sq ?_
    refine sr ?_
    refine mv rfl rfl ?_
    refine nc rfl rfl ?_
    refine fa F168_0 rfl rfl ?_
    refine ld (Says.fz hc_16) Try.isAgg9 rfl (Nat.add_zero _).symm rfl rfl ?_
    refine asg rfl rfl ?_
    refine nl ?_
    refine sr ?_
    refine mv rfl rfl ?_
    refine nl ?_
    refine cdT rfl (by omega) ?_
    refine rg ?_
    refine mv rfl rfl ?_
    refine mv rfl rfl ?_
    have ok117 := oek1.get 0 (by decide) (has_yes (show (0 : Int) ≤ v by omega) (show ((-1) : Int) < 0 ∨ v ≤ (-1) by omega))
    have nn117 := ok117.nn (by decide) (by decide)
    have e_17 : B_k1 ++ (counted true false (((lT (T.at 6))[k1]).at 0).s.length 2 ++ (((lT (T.at 6))[k1]).at 0).s) = B_k1 ++ plainTo (zipped fs_sJoinGroupRequestProtocol v true ((lT (T.at 6))[k1])) v 1 := fold_first (fs := fs_sJoinGroupRequestProtocol) (v := v) (flex := true) (t := ((lT (T.at 6))[k1])) (B := B_k1) 0 rfl (by decide) (by decide) (has_yes (show (0 : Int) ≤ v by omega) (show ((-1) : Int) < 0 ∨ v ≤ (-1) by omega)) (by rw [FB_text (f := (fs_sJoinGroupRequestProtocol[0]'(by decide))) (by decide) (by decide) ok117, sT_nn nn117, nn117])
    have hs117 := fold_size e_17 (by decide) hBk1
    refine cl rfl rfl rfl (OutK.cast (k_AppendCompactString (x := (((lT (T.at 6))[k1]).at 0).s) (by have := ok117.s (Or.inl rfl); omega) rbk1 hs117) e_17) rfl (fun v_ H1 L1 hle hR => ?_)
    obtain ⟨rfl, a117, c117, N117, rfl, rfl, h117⟩ := hR
    have r117 := h117.1
    refine asg rfl rfl ?_
    refine nl ?_
    refine sq ?_
    refine sr ?_
    refine mv rfl rfl ?_
    refine nc rfl rfl ?_
    refine fa F168_1 rfl rfl ?_
    refine ld (Says.fz hc_16) Try.isAgg22 rfl rfl rfl rfl ?_
    refine asg rfl rfl ?_
    refine nl ?_
    refine sr ?_
    refine mv rfl rfl ?_
    refine nl ?_
    refine cdT rfl (by omega) ?_
    refine rg ?_
    refine mv rfl rfl ?_
    refine mv rfl rfl ?_
    have ok128 := oek1.get 1 (by decide) (has_yes (show (0 : Int) ≤ v by omega) (show ((-1) : Int) < 0 ∨ v ≤ (-1) by omega))
    have nn128 := ok128.nn (by decide) (by decide)
    have e_18 : B_k1 ++ plainTo (zipped fs_sJoinGroupRequestProtocol v true ((lT (T.at 6))[k1])) v 1 ++ (counted true false (sT (((lT (T.at 6))[k1]).at 1)).length 4 ++ (sT (((lT (T.at 6))[k1]).at 1))) = B_k1 ++ plainTo (zipped fs_sJoinGroupRequestProtocol v true ((lT (T.at 6))[k1])) v 2 := fold_yes (fs := fs_sJoinGroupRequestProtocol) (v := v) (flex := true) (t := ((lT (T.at 6))[k1])) (B := B_k1) 1 (by decide) (by decide) (has_yes (show (0 : Int) ≤ v by omega) (show ((-1) : Int) < 0 ∨ v ≤ (-1) by omega)) (by rw [FB_bytes (f := (fs_sJoinGroupRequestProtocol[1]'(by decide))) (by decide) (by decide) ok128, nn128])
    have hs128 := fold_size e_18 (by decide) hBk1
    refine cl rfl rfl rfl (OutK.cast (k_AppendCompactBytes (x := (sT (((lT (T.at 6))[k1]).at 1))) (by have := sT_len (ok128.s (Or.inr rfl)); omega) hf_k1_0.val r117 hs128) e_18) rfl (fun v_ H1 L1 hle hR => ?_)
    obtain ⟨rfl, a128, c128, N128, rfl, rfl, h128⟩ := hR
    have r128 := h128.1
    refine asg rfl rfl ?_
    refine nl ?_
    refine sr ?_
    refine mv rfl rfl ?_
    refine nl ?_
    refine cdT rfl (by omega) ?_
    refine sr ?_
    refine mv rfl rfl ?_
    refine mv rfl rfl ?_
    refine nc rfl rfl ?_
    refine fa F168_2 rfl rfl ?_
    refine cl rfl rfl rfl (t_lenU (j := 2) hc_16 rfl hf_k1_1) rfl (fun v_ H1 L1 hle hR => ?_)
    obtain ⟨rfl, rfl, rfl⟩ := hR
    have hu137 := oek1.u
    have hul137 := hu137.2.1
    obtain ⟨hz137a, hz137b⟩ := part_size_plain (by decide) hu137 hBk1
    refine cv Try.runUnderlying3 Try.runUnderlying60 rfl (w32u (by omega) (by omega)) rfl ?_
    refine ad rfl rfl ((w32u (by omega) (by omega)).trans (Int.zero_add _)) rfl ?_
    refine cl rfl rfl rfl (k_AppendUvarint (n := ((lT (T.at 6))[k1]).u.length) (by omega) r128 hz137a) rfl (fun v_ H1 L1 hle hR => ?_)
    obtain ⟨rfl, a140, c140, N140, rfl, rfl, h140⟩ := hR
    have r140 := h140.1
    refine asg rfl rfl ?_
    refine nl ?_
    refine rg ?_
    refine mv rfl rfl ?_
    refine nc rfl rfl ?_
    refine fa F168_2 rfl rfl ?_
    refine mv rfl rfl ?_
    refine cl rfl rfl rfl (t_append_each (j := 2) hc_16 rfl hf_k1_1 (by omega) r140 (fun p hp => by have := hu137.2.2 p hp; omega) hz137b) rfl (fun v_ H1 L1 le_19 hR => ?_)
    obtain ⟨a145, c145, N145, rfl, rfl, h145⟩ := hR
    have r145 := h145.1
    have eP_20 : B_k1 ++ plainTo (zipped fs_sJoinGroupRequestProtocol v true ((lT (T.at 6))[k1])) v 2 ++ uvar ((lT (T.at 6))[k1]).u.length ++ ((lT (T.at 6))[k1]).u.flatMap tagU = B_k1 ++ partB fs_sJoinGroupRequestProtocol v true ((lT (T.at 6))[k1]) := part_close (B := B_k1) (by decide) hu137
    rw [eP_20] at r145 ⊢
    refine asg rfl rfl ?_
    refine nN ?_
    refine Nb ?_
    have ee_21 : B_k1 ++ partB fs_sJoinGroupRequestProtocol v true ((lT (T.at 6))[k1]) = D ++ plainTo (zipped fs_JoinGroupRequest v true T) v 6 ++ (counted true false (lT (T.at 6)).length 4) ++ ((lT (T.at 6)).take (k1 + 1)).flatMap (GOf (fs_JoinGroupRequest[6]'(by decide)) v true) := by rw [hdk1]; exact el_end (B0 := D ++ plainTo (zipped fs_JoinGroupRequest v true T) v 6 ++ (counted true false (lT (T.at 6)).length 4)) (G := (GOf (fs_JoinGroupRequest[6]'(by decide)) v true)) hk1 (GOf_part (by decide) _)
    refine fun a_ w_ hA hw => ⟨_, _, _, hA.sub ?_, (le_8.trans le_19), hw, _, rfl, _, _, _, _, rfl, rfl, (by rw [← ee_21]; exact r145), (by rw [← ee_21])⟩
    exact (.cons rfl (.cons rfl (.cons rfl (.cons rfl (.cons rfl (.cons rfl (.cons rfl (.nil _))))))))
  · skip
    obtain ⟨a_k1, m_k1, c_k1, N_k1, rfl, rfl, pk10, pk11⟩ := hI
    refine toWp ?_
    have eL97 : D ++ plainTo (zipped fs_JoinGroupRequest v true T) v 6 ++ (counted true false (lT (T.at 6)).length 4) ++ ((lT (T.at 6)).take (lT (T.at 6)).length).flatMap (GOf (fs_JoinGroupRequest[6]'(by decide)) v true) = D ++ plainTo (zipped fs_JoinGroupRequest v true T) v 7 := by rw [List.take_length, List.append_assoc]; exact e_7
    rw [eL97] at pk10 pk11
    subst pk11
    refine sq ?_
    refine sr ?_
    refine mv rfl rfl ?_
    refine ge rfl rfl rfl ?_
    refine nl ?_
    refine cutT (fun l' H' L' => ∃ (aj_22 : Option Addr), ∃ (mj_22 : Nat), ∃ (cj_22 : Nat), ∃ (Nj_22 : Chunk), [(0, .pointer (some ⟨b, 0, none⟩)), (1, .slice aj_22 mj_22 cj_22), (6, .bool (decide ((6 : Int) ≤ v)))] = l' ∧ Nj_22 :: L = L' ∧ Row 5 1 aj_22 mj_22 cj_22 (bytesOf (D ++ plainTo (zipped fs_JoinGroupRequest v true T) v 8)) Nj_22 ∧ mj_22 = (D ++ plainTo (zipped fs_JoinGroupRequest v true T) v 8).length) ?_ (fun l' H' L' le_23 hI => ?_)
    · skip
      refine cd rfl (fun h148 => ?_) (fun h148 => ?_)
      · skip
        refine sr ?_
        refine mv rfl rfl ?_
        refine nc rfl rfl ?_
        refine fa0 F113_8 rfl rfl ?_
        refine ld (Says.fz (hv.mono le_9)) Try.isAgg51 rfl (Nat.zero_add _).symm rfl rfl ?_
        refine asg rfl rfl ?_
        refine nl ?_
        refine sr ?_
        refine mv rfl rfl ?_
        refine nl ?_
        refine cdT rfl (by omega) ?_
        refine rg ?_
        refine mv rfl rfl ?_
        refine mv rfl rfl ?_
        have ok156 := hok.get 7 (by decide) (has_yes (show (8 : Int) ≤ v by omega) (show ((-1) : Int) < 0 ∨ v ≤ (-1) by omega))
        have e_24 : D ++ plainTo (zipped fs_JoinGroupRequest v true T) v 7 ++ (counted true (T.at 7).nul (sT (T.at 7)).length 2 ++ sT (T.at 7)) = D ++ plainTo (zipped fs_JoinGroupRequest v true T) v 8 := fold_yes (fs := fs_JoinGroupRequest) (v := v) (flex := true) (t := T) (B := D) 7 (by decide) (by decide) (has_yes (show (8 : Int) ≤ v by omega) (show ((-1) : Int) < 0 ∨ v ≤ (-1) by omega)) (FB_text (f := (fs_JoinGroupRequest[7]'(by decide))) (by decide) (by decide) ok156)
        have hs156 := fold_size e_24 (by decide) hb
        refine cl rfl rfl rfl (OutK.cast (k_AppendCompactNullableString (hf2.mono le_9) (ok156.s (Or.inl rfl)) pk10 hs156) e_24) rfl (fun v_ H1 L1 hle hR => ?_)
        obtain ⟨rfl, a156, c156, N156, rfl, rfl, h156⟩ := hR
        have r156 := h156.1
        refine asg rfl rfl ?_
        refine nN ?_
        refine fun a_ w_ hA hw => ⟨_, _, _, hA.sub ?_, (Fz.le.refl _), hw, _, _, _, _, rfl, rfl, r156, rfl⟩
        exact (.cons rfl (.cons rfl (.cons rfl (.nil _))))
      · skip
        refine skN ?_
        have es_25 : plainTo (zipped fs_JoinGroupRequest v true T) v 8 = plainTo (zipped fs_JoinGroupRequest v true T) v 7 := (piece_no2 (fs := fs_JoinGroupRequest) (v := v) (flex := true) (t := T) (k := 7) (by decide) (has_no (show v < (8 : Int) ∨ ((0 : Int) ≤ (-1) ∧ (-1) < v) by omega)))
        have eX_26 : D ++ plainTo (zipped fs_JoinGroupRequest v true T) v 7 = D ++ plainTo (zipped fs_JoinGroupRequest v true T) v 8 := by rw [es_25]
        refine fun a_ w_ hA hw => ⟨_, _, _, hA.sub ?_, (Fz.le.refl _), hw, _, _, _, _, rfl, rfl, (by rw [← eX_26]; exact pk10), (by rw [← eX_26])⟩
        exact (.cons rfl (.cons rfl (.cons rfl (.nil _))))
    · skip
      obtain ⟨aj_22, mj_22, cj_22, Nj_22, rfl, rfl, pj0, pj1⟩ := hI
      subst pj1
      have rj_22 := pj0
      refine sq ?_
      refine sr ?_
      refine mv rfl rfl ?_
      refine nl ?_
      refine cdT rfl (by omega) ?_
      refine sr ?_
      refine mv rfl rfl ?_
      refine mv rfl rfl ?_
      refine nc rfl rfl ?_
      refine fa0 F113_9 rfl rfl ?_
      refine cl rfl rfl rfl (t_lenU (j := 9) (hv.mono (le_9.trans le_23)) rfl (hf3.mono (le_9.trans le_23))) rfl (fun v_ H1 L1 hle hR => ?_)
      obtain ⟨rfl, rfl, rfl⟩ := hR
      have hu165 := hok.u
      have hul165 := hu165.2.1
      obtain ⟨hz165a, hz165b⟩ := part_size_plain (by decide) hu165 hb
      refine cv Try.runUnderlying3 Try.runUnderlying60 rfl (w32u (by omega) (by omega)) rfl ?_
      refine ad rfl rfl ((w32u (by omega) (by omega)).trans (Int.zero_add _)) rfl ?_
      refine cl rfl rfl rfl (k_AppendUvarint (n := T.u.length) (by omega) rj_22 hz165a) rfl (fun v_ H1 L1 hle hR => ?_)
      obtain ⟨rfl, a168, c168, N168, rfl, rfl, h168⟩ := hR
      have r168 := h168.1
      refine asg rfl rfl ?_
      refine nl ?_
      refine rg ?_
      refine mv rfl rfl ?_
      refine nc rfl rfl ?_
      refine fa0 F113_9 rfl rfl ?_
      refine mv rfl rfl ?_
      refine cl rfl rfl rfl (t_append_each (j := 9) (hv.mono (le_9.trans le_23)) rfl (hf3.mono (le_9.trans le_23)) (by omega) r168 (fun p hp => by have := hu165.2.2 p hp; omega) hz165b) rfl (fun v_ H1 L1 le_27 hR => ?_)
      obtain ⟨a173, c173, N173, rfl, rfl, h173⟩ := hR
      have r173 := h173.1
      have eP_28 : D ++ plainTo (zipped fs_JoinGroupRequest v true T) v 8 ++ uvar T.u.length ++ T.u.flatMap tagU = D ++ partB fs_JoinGroupRequest v true T := part_close (B := D) (by decide) hu165
      rw [eP_28] at r173 ⊢
      refine asg rfl rfl ?_
      refine nl ?_
      refine sr ?_
      refine mv rfl rfl ?_
      refine asg rfl rfl ?_
      refine nl ?_
      exact rT rfl rfl (le_9.trans (le_23.trans le_27)) (fun _ _ h => h) (OutB.of r173 rfl)
end Go.Sx

import Derived.Test.YthgkgbaggjongaaGreatDoorBConsumerGroupHeartbeatRequest
import Derived.Test.YthgkgbaggjongaaGreatDoorKB2
import Derived.Test.YthgkgbaggjongaaGreatDoorMkL
import Derived.KernelRfl
set_option linter.unusedVariables false
set_option linter.unusedSimpArgs false
set_option maxRecDepth 100000
set_option maxHeartbeats 20000000
namespace Go.Sx
open Go.Proofs
theorem app_ConsumerGroupHeartbeatRequest_t {H : Fz} {L : Own} {a : Option Addr} {cap b : Nat} {D : List UInt8} {N : Chunk} {cs : List Value} {T : Tr} {v : Int} (hr : Row 5 1 a D.length cap (bytesOf D) N) (hv : H.at b 0 cs) (hA : At_ConsumerGroupHeartbeatRequest v H T cs) (hok : OkP fs_ConsumerGroupHeartbeatRequest v T) (h0 : 0 ≤ v) (h1 : v ≤ 1) (hb : D.length + (partB fs_ConsumerGroupHeartbeatRequest v true T).length ≤ LIM) :
    Fn Tryz.prog 133 [.pointer (some ⟨b, 0, none⟩), .slice a D.length cap] H (N :: L) (fun r H' L' => OutB 5 L (D ++ partB fs_ConsumerGroupHeartbeatRequest v true T) r L') := by
  obtain ⟨p3, p4, a6, c6, p7, p8, a9, c9, mt, rfl, hf0, hf1, hf2, hf3, hf4, hf5, hf6⟩ := hA
  refine Fn.mk Tryz.call133 Tryz.func133 rfl Tryz.ntmps133 rfl ?_
  refine sr ?_
  refine asg rfl rfl ?_
  refine nl ?_
  refine sr ?_
  refine mv rfl rfl ?_
  refine nc rfl rfl ?_
  refine fa0 F223_0 rfl rfl ?_
  refine ld (Says.fz hv) Tryz.isAgg51 rfl (Nat.zero_add _).symm rfl rfl ?_
  refine asg rfl rfl ?_
  refine nl ?_
  refine sr ?_
  refine mv rfl rfl ?_
  refine nl ?_
  refine sr ?_
  refine mv rfl rfl ?_
  refine ge rfl rfl rfl ?_
  refine asg rfl rfl ?_
  refine nl ?_
  refine sr ?_
  refine mv rfl rfl ?_
  refine nl ?_
  refine sq ?_
  refine sr ?_
  refine mv rfl rfl ?_
  refine nc rfl rfl ?_
  refine fa0 F223_1 rfl rfl ?_
  refine ld (Says.fz hv) Tryz.isAgg9 rfl (Nat.zero_add _).symm rfl rfl ?_
  refine asg rfl rfl ?_
  refine nl ?_
  refine sr ?_
  refine mv rfl rfl ?_
  refine nl ?_
  refine cdT rfl (by omega) ?_
  refine rg ?_
  refine mv rfl rfl ?_
  refine mv rfl rfl ?_
  have ok40 := hok.get 0 (by decide) (has_yes (show (0 : Int) ≤ v by omega) (show ((-1) : Int) < 0 ∨ v ≤ (-1) by omega))
  have nn40 := ok40.nn (by decide) (by decide) (by decide)
  have e_1 : D ++ (counted true false (T.at 0).s.length 2 ++ (T.at 0).s) = D ++ plainTo (zipped fs_ConsumerGroupHeartbeatRequest v true T) v 1 := fold_first (fs := fs_ConsumerGroupHeartbeatRequest) (v := v) (flex := true) (t := T) (B := D) 0 rfl (by decide) (by decide) (has_yes (show (0 : Int) ≤ v by omega) (show ((-1) : Int) < 0 ∨ v ≤ (-1) by omega)) (by rw [FB_text (f := (fs_ConsumerGroupHeartbeatRequest[0]'(by decide))) (by decide) (by decide) ok40, sT_nn nn40, nn40])
  have hs40 := fold_size e_1 (by decide) hb
  refine cl rfl rfl rfl (OutK.cast (k_AppendCompactString (x := (T.at 0).s) (by have := ok40.s (Or.inl rfl); omega) hr hs40) e_1) rfl (fun v_ H1 L1 hle hR => ?_)
  obtain ⟨rfl, a40, c40, N40, rfl, rfl, h40⟩ := hR
  have r40 := h40.1
  refine asg rfl rfl ?_
  refine nl ?_
  refine sq ?_
  refine sr ?_
  refine mv rfl rfl ?_
  refine nc rfl rfl ?_
  refine fa0 F223_2 rfl rfl ?_
  refine ld (Says.fz hv) Tryz.isAgg9 rfl (Nat.zero_add _).symm rfl rfl ?_
  refine asg rfl rfl ?_
  refine nl ?_
  refine sr ?_
  refine mv rfl rfl ?_
  refine nl ?_
  refine cdT rfl (by omega) ?_
  refine rg ?_
  refine mv rfl rfl ?_
  refine mv rfl rfl ?_
  have ok51 := hok.get 1 (by decide) (has_yes (show (0 : Int) ≤ v by omega) (show ((-1) : Int) < 0 ∨ v ≤ (-1) by omega))
  have nn51 := ok51.nn (by decide) (by decide) (by decide)
  have e_2 : D ++ plainTo (zipped fs_ConsumerGroupHeartbeatRequest v true T) v 1 ++ (counted true false (T.at 1).s.length 2 ++ (T.at 1).s) = D ++ plainTo (zipped fs_ConsumerGroupHeartbeatRequest v true T) v 2 := fold_yes (fs := fs_ConsumerGroupHeartbeatRequest) (v := v) (flex := true) (t := T) (B := D) 1 (by decide) (by decide) (has_yes (show (0 : Int) ≤ v by omega) (show ((-1) : Int) < 0 ∨ v ≤ (-1) by omega)) (by rw [FB_text (f := (fs_ConsumerGroupHeartbeatRequest[1]'(by decide))) (by decide) (by decide) ok51, sT_nn nn51, nn51])
  have hs51 := fold_size e_2 (by decide) hb
  refine cl rfl rfl rfl (OutK.cast (k_AppendCompactString (x := (T.at 1).s) (by have := ok51.s (Or.inl rfl); omega) r40 hs51) e_2) rfl (fun v_ H1 L1 hle hR => ?_)
  obtain ⟨rfl, a51, c51, N51, rfl, rfl, h51⟩ := hR
  have r51 := h51.1
  refine asg rfl rfl ?_
  refine nl ?_
  refine sq ?_
  refine sr ?_
  refine mv rfl rfl ?_
  refine nc rfl rfl ?_
  refine fa0 F223_3 rfl rfl ?_
  refine ld (Says.fz hv) Tryz.isAgg21 rfl (Nat.zero_add _).symm rfl rfl ?_
  refine asg rfl rfl ?_
  refine nl ?_
  refine rg ?_
  refine mv rfl rfl ?_
  refine mv rfl rfl ?_
  have ok61 := hok.get 2 (by decide) (has_yes (show (0 : Int) ≤ v by omega) (show ((-1) : Int) < 0 ∨ v ≤ (-1) by omega))
  have e_3 : D ++ plainTo (zipped fs_ConsumerGroupHeartbeatRequest v true T) v 2 ++ (fixed (IntKind.i32.wrap (T.at 2).n) 4) = D ++ plainTo (zipped fs_ConsumerGroupHeartbeatRequest v true T) v 3 := fold_yes (fs := fs_ConsumerGroupHeartbeatRequest) (v := v) (flex := true) (t := T) (B := D) 2 (by decide) (by decide) (has_yes (show (0 : Int) ≤ v by omega) (show ((-1) : Int) < 0 ∨ v ≤ (-1) by omega)) ((FB_int (f := (fs_ConsumerGroupHeartbeatRequest[2]'(by decide))) (by decide) (by decide)).trans (fixed_i32 _).symm)
  have hs61 := fold_size e_3 (by decide) hb
  refine cl rfl rfl rfl (OutK.cast (k_AppendInt32 (u := IntKind.i32.wrap (T.at 2).n) r51 hs61) e_3) rfl (fun v_ H1 L1 hle hR => ?_)
  obtain ⟨rfl, a61, c61, N61, rfl, rfl, h61⟩ := hR
  have r61 := h61.1
  refine asg rfl rfl ?_
  refine nl ?_
  refine sq ?_
  refine sr ?_
  refine mv rfl rfl ?_
  refine nc rfl rfl ?_
  refine fa0 F223_4 rfl rfl ?_
  refine ld (Says.fz hv) Tryz.isAgg131 rfl (Nat.zero_add _).symm rfl rfl ?_
  refine asg rfl rfl ?_
  refine nl ?_
  refine sr ?_
  refine mv rfl rfl ?_
  refine nl ?_
  refine cdT rfl (by omega) ?_
  refine rg ?_
  refine mv rfl rfl ?_
  refine mv rfl rfl ?_
  have ok69 := hok.get 3 (by decide) (has_yes (show (0 : Int) ≤ v by omega) (show ((-1) : Int) < 0 ∨ v ≤ (-1) by omega))
  have e_4 : D ++ plainTo (zipped fs_ConsumerGroupHeartbeatRequest v true T) v 3 ++ (counted true (T.at 3).nul (sT (T.at 3)).length 2 ++ sT (T.at 3)) = D ++ plainTo (zipped fs_ConsumerGroupHeartbeatRequest v true T) v 4 := fold_yes (fs := fs_ConsumerGroupHeartbeatRequest) (v := v) (flex := true) (t := T) (B := D) 3 (by decide) (by decide) (has_yes (show (0 : Int) ≤ v by omega) (show ((-1) : Int) < 0 ∨ v ≤ (-1) by omega)) (FB_text (f := (fs_ConsumerGroupHeartbeatRequest[3]'(by decide))) (by decide) (by decide) ok69)
  have hs69 := fold_size e_4 (by decide) hb
  refine cl rfl rfl rfl (OutK.cast (k_AppendCompactNullableString hf0 (ok69.s (Or.inl rfl)) r61 hs69) e_4) rfl (fun v_ H1 L1 hle hR => ?_)
  obtain ⟨rfl, a69, c69, N69, rfl, rfl, h69⟩ := hR
  have r69 := h69.1
  refine asg rfl rfl ?_
  refine nl ?_
  refine sq ?_
  refine sr ?_
  refine mv rfl rfl ?_
  refine nc rfl rfl ?_
  refine fa0 F223_5 rfl rfl ?_
  refine ld (Says.fz hv) Tryz.isAgg131 rfl (Nat.zero_add _).symm rfl rfl ?_
  refine asg rfl rfl ?_
  refine nl ?_
  refine sr ?_
  refine mv rfl rfl ?_
  refine nl ?_
  refine cdT rfl (by omega) ?_
  refine rg ?_
  refine mv rfl rfl ?_
  refine mv rfl rfl ?_
  have ok80 := hok.get 4 (by decide) (has_yes (show (0 : Int) ≤ v by omega) (show ((-1) : Int) < 0 ∨ v ≤ (-1) by omega))
  have e_5 : D ++ plainTo (zipped fs_ConsumerGroupHeartbeatRequest v true T) v 4 ++ (counted true (T.at 4).nul (sT (T.at 4)).length 2 ++ sT (T.at 4)) = D ++ plainTo (zipped fs_ConsumerGroupHeartbeatRequest v true T) v 5 := fold_yes (fs := fs_ConsumerGroupHeartbeatRequest) (v := v) (flex := true) (t := T) (B := D) 4 (by decide) (by decide) (has_yes (show (0 : Int) ≤ v by omega) (show ((-1) : Int) < 0 ∨ v ≤ (-1) by omega)) (FB_text (f := (fs_ConsumerGroupHeartbeatRequest[4]'(by decide))) (by decide) (by decide) ok80)
  have hs80 := fold_size e_5 (by decide) hb
  refine cl rfl rfl rfl (OutK.cast (k_AppendCompactNullableString hf1 (ok80.s (Or.inl rfl)) r69 hs80) e_5) rfl (fun v_ H1 L1 hle hR => ?_)
  obtain ⟨rfl, a80, c80, N80, rfl, rfl, h80⟩ := hR
  have r80 := h80.1
  refine asg rfl rfl ?_
  refine nl ?_
  refine sq ?_
  refine sr ?_
  refine mv rfl rfl ?_
  refine nc rfl rfl ?_
  refine fa0 F223_6 rfl rfl ?_
  refine ld (Says.fz hv) Tryz.isAgg21 rfl (Nat.zero_add _).symm rfl rfl ?_
  refine asg rfl rfl ?_
  refine nl ?_
  refine rg ?_
  refine mv rfl rfl ?_
  refine mv rfl rfl ?_
  have ok90 := hok.get 5 (by decide) (has_yes (show (0 : Int) ≤ v by omega) (show ((-1) : Int) < 0 ∨ v ≤ (-1) by omega))
  have e_6 : D ++ plainTo (zipped fs_ConsumerGroupHeartbeatRequest v true T) v 5 ++ (fixed (IntKind.i32.wrap (T.at 5).n) 4) = D ++ plainTo (zipped fs_ConsumerGroupHeartbeatRequest v true T) v 6 := fold_yes (fs := fs_ConsumerGroupHeartbeatRequest) (v := v) (flex := true) (t := T) (B := D) 5 (by decide) (by decide) (has_yes (show (0 : Int) ≤ v by omega) (show ((-1) : Int) < 0 ∨ v ≤ (-1) by omega)) ((FB_int (f := (fs_ConsumerGroupHeartbeatRequest[5]'(by decide))) (by decide) (by decide)).trans (fixed_i32 _).symm)
  have hs90 := fold_size e_6 (by decide) hb
  refine cl rfl rfl rfl (OutK.cast (k_AppendInt32 (u := IntKind.i32.wrap (T.at 5).n) r80 hs90) e_6) rfl (fun v_ H1 L1 hle hR => ?_)
  obtain ⟨rfl, a90, c90, N90, rfl, rfl, h90⟩ := hR
  have r90 := h90.1
  refine asg rfl rfl ?_
  refine nl ?_
  refine sq ?_
  refine sr ?_
  refine mv rfl rfl ?_
  refine nc rfl rfl ?_
  refine fa0 F223_7 rfl rfl ?_
  refine ld (Says.fz hv) Tryz.isAgg203 rfl (Nat.zero_add _).symm rfl rfl ?_
  refine asg rfl rfl ?_
  refine nl ?_
  refine sq ?_
  refine sr ?_
  refine mv rfl rfl ?_
  refine nl ?_
  refine cdT rfl (by omega) ?_
  refine rg ?_
  refine mv rfl rfl ?_
  refine mv rfl rfl ?_
  refine ls Tryz.runUnderlying203 rfl rfl ?_
  refine mv rfl rfl ?_
  refine esn Tryz.underlying203 rfl rfl ?_
  have ok101 := hok.get 6 (by decide) (has_yes (show (0 : Int) ≤ v by omega) (show ((-1) : Int) < 0 ∨ v ≤ (-1) by omega))
  have ll101 := lT_len (ok101.len rfl)
  have e_7 : D ++ plainTo (zipped fs_ConsumerGroupHeartbeatRequest v true T) v 6 ++ (counted true a6.isNone (lT (T.at 6)).length 4 ++ (lT (T.at 6)).flatMap (GOf (fs_ConsumerGroupHeartbeatRequest[6]'(by decide)) v true)) = D ++ plainTo (zipped fs_ConsumerGroupHeartbeatRequest v true T) v 7 := fold_yes (fs := fs_ConsumerGroupHeartbeatRequest) (v := v) (flex := true) (t := T) (B := D) 6 (by decide) (by decide) (has_yes (show (0 : Int) ≤ v by omega) (show ((-1) : Int) < 0 ∨ v ≤ (-1) by omega)) (by rw [hf2.nul]; exact FB_list (f := (fs_ConsumerGroupHeartbeatRequest[6]'(by decide))) (by decide) (by decide) (by decide) ok101)
  have hs101 := fold_size e_7 (by decide) hb
  have hc101 : (D ++ plainTo (zipped fs_ConsumerGroupHeartbeatRequest v true T) v 6).length + (counted true a6.isNone (lT (T.at 6)).length 4).length ≤ LIM := by have h := hs101; simp only [List.length_append] at h ⊢; omega
  refine cl rfl rfl rfl (OutK.cast (k_AppendCompactNullableArrayLen (n := (lT (T.at 6)).length) (b := a6.isNone) (by omega) r90 hc101) (show _ = D ++ plainTo (zipped fs_ConsumerGroupHeartbeatRequest v true T) v 6 ++ (counted true a6.isNone (lT (T.at 6)).length 4) from rfl)) rfl (fun v_ H1 L1 hle hR => ?_)
  obtain ⟨rfl, a101, c101, N101, rfl, rfl, h101⟩ := hR
  have r101 := h101.1
  refine asg rfl rfl ?_
  refine nl ?_
  refine sr ?_
  refine mv rfl rfl ?_
  refine ls Tryz.runUnderlying203 rfl rfl ?_
  refine mv rfl rfl ?_
  refine nl ?_
  refine fr ((lT (T.at 6)).length) (fun k1 l' H' L' => ∃ (a_k1 : Option Addr), ∃ (m_k1 : Nat), ∃ (c_k1 : Nat), ∃ (N_k1 : Chunk), [(0, .pointer (some ⟨b, 0, none⟩)), (1, .slice a_k1 m_k1 c_k1), (5, .int .i16 v), (6, .bool (decide ((0 : Int) ≤ v))), (13, .slice a6 (lT (T.at 6)).length c6), (109, .int .i64 ((lT (T.at 6)).length : Int))] = l' ∧ N_k1 :: L = L' ∧ Row 5 1 a_k1 m_k1 c_k1 (bytesOf (D ++ plainTo (zipped fs_ConsumerGroupHeartbeatRequest v true T) v 6 ++ (counted true a6.isNone (lT (T.at 6)).length 4) ++ ((lT (T.at 6)).take k1).flatMap (GOf (fs_ConsumerGroupHeartbeatRequest[6]'(by decide)) v true))) N_k1 ∧ m_k1 = (D ++ plainTo (zipped fs_ConsumerGroupHeartbeatRequest v true T) v 6 ++ (counted true a6.isNone (lT (T.at 6)).length 4) ++ ((lT (T.at 6)).take k1).flatMap (GOf (fs_ConsumerGroupHeartbeatRequest[6]'(by decide)) v true)).length) [(0, .pointer (some ⟨b, 0, none⟩)), (1, .slice _ _ _), (5, .int .i16 v), (6, .bool (decide ((0 : Int) ≤ v))), (13, .slice a6 (lT (T.at 6)).length c6), (109, .int .i64 ((lT (T.at 6)).length : Int))] (fun k1 l' H' L' h => ?_) (by omega) rfl (.cons rfl (.cons rfl (.cons rfl (.cons rfl (.cons rfl (.cons rfl (.nil _))))))) ⟨_, _, _, _, rfl, rfl, (by rw [List.take_zero, List.flatMap_nil, List.append_nil]; exact r101), (by rw [List.take_zero, List.flatMap_nil, List.append_nil])⟩ rfl rfl rfl rfl rfl (fun k1 l' H' L' hk1 le_8 hI => ?_) (fun l' H' L' le_9 hI => ?_)
  · obtain ⟨a_k1, m_k1, c_k1, N_k1, rfl, _⟩ := h; exact ⟨rfl, rfl, rfl, rfl⟩
  · skip
    obtain ⟨a_k1, m_k1, c_k1, N_k1, rfl, rfl, pk10, pk11⟩ := hI
    subst pk11
    refine sr ?_
    refine mv rfl rfl ?_
    refine asg rfl rfl ?_
    refine nl ?_
    refine sr ?_
    refine mv rfl rfl ?_
    refine mv rfl rfl ?_
    obtain ⟨b_10, o_11, e_12, g_13⟩ := (hf2.mono RText.mono le_8).rows.at_ (ne_nil_of_lt hk1)
    obtain ⟨cs_14, hA_15, hc_16⟩ := g_13 k1 hk1
    refine ix2 Tryz.runUnderlying203 Tryz.sizeOf9 rfl e_12 rfl rfl hk1 rfl ?_
    obtain rfl := hA_15
    refine ld (Says.fz hc_16) Tryz.isAgg9 rfl (Nat.add_zero _).symm rfl rfl ?_
    refine asg rfl rfl ?_
    refine nl ?_
    refine sr ?_
    refine mv rfl rfl ?_
    refine nl ?_
    refine cdT rfl (by omega) ?_
    refine rg ?_
    refine mv rfl rfl ?_
    refine mv rfl rfl ?_
    have oe120 := (ok101.el rfl _ (lT_mem (List.getElem_mem hk1))).1 (by decide)
    have hp120 : (GOf (fs_ConsumerGroupHeartbeatRequest[6]'(by decide)) v true) ((lT (T.at 6))[k1]) = counted true false ((lT (T.at 6))[k1]).s.length 2 ++ ((lT (T.at 6))[k1]).s := G_text (f := (fs_ConsumerGroupHeartbeatRequest[6]'(by decide))) (by decide) oe120
    have hs120 := el_size hs101 hk1 hp120
    have ee120 := el_end (B0 := D ++ plainTo (zipped fs_ConsumerGroupHeartbeatRequest v true T) v 6 ++ (counted true a6.isNone (lT (T.at 6)).length 4)) hk1 hp120
    refine cl rfl rfl rfl (OutK.cast (k_AppendCompactString (x := ((lT (T.at 6))[k1]).s) (by omega) pk10 hs120) ee120) rfl (fun v_ H1 L1 hle hR => ?_)
    obtain ⟨rfl, a120, c120, N120, rfl, rfl, h120⟩ := hR
    have r120 := h120.1
    refine asg rfl rfl ?_
    refine nN ?_
    refine Nb ?_
    refine fun a_ w_ hA hw => ⟨_, _, _, hA.sub ?_, le_8, hw, _, rfl, _, _, _, _, rfl, rfl, r120, rfl⟩
    exact (.cons rfl (.cons rfl (.cons rfl (.cons rfl (.cons rfl (.cons rfl (.cons rfl (.nil _))))))))
  · skip
    obtain ⟨a_k1, m_k1, c_k1, N_k1, rfl, rfl, pk10, pk11⟩ := hI
    refine toWp ?_
    have eL101 : D ++ plainTo (zipped fs_ConsumerGroupHeartbeatRequest v true T) v 6 ++ (counted true a6.isNone (lT (T.at 6)).length 4) ++ ((lT (T.at 6)).take (lT (T.at 6)).length).flatMap (GOf (fs_ConsumerGroupHeartbeatRequest[6]'(by decide)) v true) = D ++ plainTo (zipped fs_ConsumerGroupHeartbeatRequest v true T) v 7 := by rw [List.take_length, List.append_assoc]; exact e_7
    rw [eL101] at pk10 pk11
    subst pk11
    refine sq ?_
    refine sr ?_
    refine mv rfl rfl ?_
    refine ge rfl rfl rfl ?_
    refine nl ?_
    refine cutT (fun l' H' L' => ∃ (aj_17 : Option Addr), ∃ (mj_17 : Nat), ∃ (cj_17 : Nat), ∃ (Nj_17 : Chunk), [(0, .pointer (some ⟨b, 0, none⟩)), (1, .slice aj_17 mj_17 cj_17), (6, .bool (decide ((0 : Int) ≤ v)))] = l' ∧ Nj_17 :: L = L' ∧ Row 5 1 aj_17 mj_17 cj_17 (bytesOf (D ++ plainTo (zipped fs_ConsumerGroupHeartbeatRequest v true T) v 8)) Nj_17 ∧ mj_17 = (D ++ plainTo (zipped fs_ConsumerGroupHeartbeatRequest v true T) v 8).length) ?_ (fun l' H' L' le_18 hI => ?_)
    · skip
      refine cd rfl (fun h126 => ?_) (fun h126 => ?_)
      · skip
        refine sr ?_
        refine mv rfl rfl ?_
        refine nc rfl rfl ?_
        refine fa0 F223_8 rfl rfl ?_
        refine ld (Says.fz (hv.mono le_9)) Tryz.isAgg131 rfl (Nat.zero_add _).symm rfl rfl ?_
        refine asg rfl rfl ?_
        refine nl ?_
        refine sr ?_
        refine mv rfl rfl ?_
        refine nl ?_
        refine cdT rfl (by omega) ?_
        refine rg ?_
        refine mv rfl rfl ?_
        refine mv rfl rfl ?_
        have ok134 := hok.get 7 (by decide) (has_yes (show (1 : Int) ≤ v by omega) (show ((-1) : Int) < 0 ∨ v ≤ (-1) by omega))
        have e_19 : D ++ plainTo (zipped fs_ConsumerGroupHeartbeatRequest v true T) v 7 ++ (counted true (T.at 7).nul (sT (T.at 7)).length 2 ++ sT (T.at 7)) = D ++ plainTo (zipped fs_ConsumerGroupHeartbeatRequest v true T) v 8 := fold_yes (fs := fs_ConsumerGroupHeartbeatRequest) (v := v) (flex := true) (t := T) (B := D) 7 (by decide) (by decide) (has_yes (show (1 : Int) ≤ v by omega) (show ((-1) : Int) < 0 ∨ v ≤ (-1) by omega)) (FB_text (f := (fs_ConsumerGroupHeartbeatRequest[7]'(by decide))) (by decide) (by decide) ok134)
        have hs134 := fold_size e_19 (by decide) hb
        refine cl rfl rfl rfl (OutK.cast (k_AppendCompactNullableString (hf3.mono le_9) (ok134.s (Or.inl rfl)) pk10 hs134) e_19) rfl (fun v_ H1 L1 hle hR => ?_)
        obtain ⟨rfl, a134, c134, N134, rfl, rfl, h134⟩ := hR
        have r134 := h134.1
        refine asg rfl rfl ?_
        refine nN ?_
        refine fun a_ w_ hA hw => ⟨_, _, _, hA.sub ?_, (Fz.le.refl _), hw, _, _, _, _, rfl, rfl, r134, rfl⟩
        exact (.cons rfl (.cons rfl (.cons rfl (.nil _))))
      · skip
        refine skN ?_
        have es_20 : plainTo (zipped fs_ConsumerGroupHeartbeatRequest v true T) v 8 = plainTo (zipped fs_ConsumerGroupHeartbeatRequest v true T) v 7 := (piece_no2 (fs := fs_ConsumerGroupHeartbeatRequest) (v := v) (flex := true) (t := T) (k := 7) (by decide) (has_no (show v < (1 : Int) ∨ ((0 : Int) ≤ (-1) ∧ (-1) < v) by omega)))
        have eX_21 : D ++ plainTo (zipped fs_ConsumerGroupHeartbeatRequest v true T) v 7 = D ++ plainTo (zipped fs_ConsumerGroupHeartbeatRequest v true T) v 8 := by rw [es_20]
        refine fun a_ w_ hA hw => ⟨_, _, _, hA.sub ?_, (Fz.le.refl _), hw, _, _, _, _, rfl, rfl, (by rw [← eX_21]; exact pk10), (by rw [← eX_21])⟩
        exact (.cons rfl (.cons rfl (.cons rfl (.nil _))))
    · skip
      obtain ⟨aj_17, mj_17, cj_17, Nj_17, rfl, rfl, pj0, pj1⟩ := hI
      subst pj1
      have rj_17 := pj0
      refine sq ?_
      refine sr ?_
      refine mv rfl rfl ?_
      refine nc rfl rfl ?_
      refine fa0 F223_9 rfl rfl ?_
      refine ld (Says.fz (hv.mono (le_9.trans le_18))) Tryz.isAgg131 rfl (Nat.zero_add _).symm rfl rfl ?_
      refine asg rfl rfl ?_
      refine nl ?_
      refine sr ?_
      refine mv rfl rfl ?_
      refine nl ?_
      refine cdT rfl (by omega) ?_
      refine rg ?_
      refine mv rfl rfl ?_
      refine mv rfl rfl ?_
      have ok145 := hok.get 8 (by decide) (has_yes (show (0 : Int) ≤ v by omega) (show ((-1) : Int) < 0 ∨ v ≤ (-1) by omega))
      have e_22 : D ++ plainTo (zipped fs_ConsumerGroupHeartbeatRequest v true T) v 8 ++ (counted true (T.at 8).nul (sT (T.at 8)).length 2 ++ sT (T.at 8)) = D ++ plainTo (zipped fs_ConsumerGroupHeartbeatRequest v true T) v 9 := fold_yes (fs := fs_ConsumerGroupHeartbeatRequest) (v := v) (flex := true) (t := T) (B := D) 8 (by decide) (by decide) (has_yes (show (0 : Int) ≤ v by omega) (show ((-1) : Int) < 0 ∨ v ≤ (-1) by omega)) (FB_text (f := (fs_ConsumerGroupHeartbeatRequest[8]'(by decide))) (by decide) (by decide) ok145)
      have hs145 := fold_size e_22 (by decide) hb
      refine cl rfl rfl rfl (OutK.cast (k_AppendCompactNullableString (hf4.mono (le_9.trans le_18)) (ok145.s (Or.inl rfl)) rj_17 hs145) e_22) rfl (fun v_ H1 L1 hle hR => ?_)
      obtain ⟨rfl, a145, c145, N145, rfl, rfl, h145⟩ := hR
      have r145 := h145.1
      refine asg rfl rfl ?_
      refine nl ?_
      refine sq ?_
      refine sr ?_
      refine mv rfl rfl ?_
      refine nc rfl rfl ?_
      refine fa0 F223_10 rfl rfl ?_
      refine ld (Says.fz (hv.mono (le_9.trans le_18))) Tryz.isAgg221 rfl (Nat.zero_add _).symm rfl rfl ?_
      refine asg rfl rfl ?_
      refine nl ?_
      refine sq ?_
      refine sr ?_
      refine mv rfl rfl ?_
      refine nl ?_
      refine cdT rfl (by omega) ?_
      refine rg ?_
      refine mv rfl rfl ?_
      refine mv rfl rfl ?_
      refine ls Tryz.runUnderlying221 rfl rfl ?_
      refine mv rfl rfl ?_
      refine esn Tryz.underlying221 rfl rfl ?_
      have ok159 := hok.get 9 (by decide) (has_yes (show (0 : Int) ≤ v by omega) (show ((-1) : Int) < 0 ∨ v ≤ (-1) by omega))
      have ll159 := lT_len (ok159.len rfl)
      have e_23 : D ++ plainTo (zipped fs_ConsumerGroupHeartbeatRequest v true T) v 9 ++ (counted true a9.isNone (lT (T.at 9)).length 4 ++ (lT (T.at 9)).flatMap (GOf (fs_ConsumerGroupHeartbeatRequest[9]'(by decide)) v true)) = D ++ plainTo (zipped fs_ConsumerGroupHeartbeatRequest v true T) v 10 := fold_yes (fs := fs_ConsumerGroupHeartbeatRequest) (v := v) (flex := true) (t := T) (B := D) 9 (by decide) (by decide) (has_yes (show (0 : Int) ≤ v by omega) (show ((-1) : Int) < 0 ∨ v ≤ (-1) by omega)) (by rw [(hf5.mono At_ConsumerGroupHeartbeatRequestTopic.mono (le_9.trans le_18)).nul]; exact FB_list (f := (fs_ConsumerGroupHeartbeatRequest[9]'(by decide))) (by decide) (by decide) (by decide) ok159)
      have hs159 := fold_size e_23 (by decide) hb
      have hc159 : (D ++ plainTo (zipped fs_ConsumerGroupHeartbeatRequest v true T) v 9).length + (counted true a9.isNone (lT (T.at 9)).length 4).length ≤ LIM := by have h := hs159; simp only [List.length_append] at h ⊢; omega
      refine cl rfl rfl rfl (OutK.cast (k_AppendCompactNullableArrayLen (n := (lT (T.at 9)).length) (b := a9.isNone) (by omega) r145 hc159) (show _ = D ++ plainTo (zipped fs_ConsumerGroupHeartbeatRequest v true T) v 9 ++ (counted true a9.isNone (lT (T.at 9)).length 4) from rfl)) rfl (fun v_ H1 L1 hle hR => ?_)
      obtain ⟨rfl, a159, c159, N159, rfl, rfl, h159⟩ := hR
      have r159 := h159.1
      refine asg rfl rfl ?_
      refine nl ?_
      refine sr ?_
      refine mv rfl rfl ?_
      refine ls Tryz.runUnderlying221 rfl rfl ?_
      refine mv rfl rfl ?_
      refine nl ?_
      refine fr ((lT (T.at 9)).length) (fun k2 l' H' L' => ∃ (a_k2 : Option Addr), ∃ (m_k2 : Nat), ∃ (c_k2 : Nat), ∃ (N_k2 : Chunk), [(0, .pointer (some ⟨b, 0, none⟩)), (1, .slice a_k2 m_k2 c_k2), (6, .bool (decide ((0 : Int) ≤ v))), (18, .slice a9 (lT (T.at 9)).length c9), (167, .int .i64 ((lT (T.at 9)).length : Int))] = l' ∧ N_k2 :: L = L' ∧ Row 5 1 a_k2 m_k2 c_k2 (bytesOf (D ++ plainTo (zipped fs_ConsumerGroupHeartbeatRequest v true T) v 9 ++ (counted true a9.isNone (lT (T.at 9)).length 4) ++ ((lT (T.at 9)).take k2).flatMap (GOf (fs_ConsumerGroupHeartbeatRequest[9]'(by decide)) v true))) N_k2 ∧ m_k2 = (D ++ plainTo (zipped fs_ConsumerGroupHeartbeatRequest v true T) v 9 ++ (counted true a9.isNone (lT (T.at 9)).length 4) ++ ((lT (T.at 9)).take k2).flatMap (GOf (fs_ConsumerGroupHeartbeatRequest[9]'(by decide)) v true)).length) [(0, .pointer (some ⟨b, 0, none⟩)), (1, .slice _ _ _), (6, .bool (decide ((0 : Int) ≤ v))), (18, .slice a9 (lT (T.at 9)).length c9), (167, .int .i64 ((lT (T.at 9)).length : Int))] (fun k2 l' H' L' h => ?_) (by omega) rfl (.cons rfl (.cons rfl (.cons rfl (.cons rfl (.cons rfl (.nil _)))))) ⟨_, _, _, _, rfl, rfl, (by rw [List.take_zero, List.flatMap_nil, List.append_nil]; exact r159), (by rw [List.take_zero, List.flatMap_nil, List.append_nil])⟩ rfl rfl rfl rfl rfl (fun k2 l' H' L' hk2 le_24 hI => ?_) (fun l' H' L' le_25 hI => ?_)
      · obtain ⟨a_k2, m_k2, c_k2, N_k2, rfl, _⟩ := h; exact ⟨rfl, rfl, rfl, rfl⟩
      · skip
        obtain ⟨a_k2, m_k2, c_k2, N_k2, rfl, rfl, pk20, pk21⟩ := hI
        subst pk21
        refine sr ?_
        refine mv rfl rfl ?_
        refine asg rfl rfl ?_
        refine nl ?_
        refine sr ?_
        refine mv rfl rfl ?_
        refine mv rfl rfl ?_
        obtain ⟨b_26, o_27, e_28, g_29⟩ := (hf5.mono At_ConsumerGroupHeartbeatRequestTopic.mono (le_9.trans (le_18.trans le_24))).rows.at_ (ne_nil_of_lt hk2)
        obtain ⟨cs_30, hA_31, hc_32⟩ := g_29 k2 hk2
        refine ix2 Tryz.runUnderlying221 Tryz.sizeOf229 rfl e_28 rfl rfl hk2 rfl ?_
        obtain ⟨a_k2_1, c_k2_1, m_k2_t, rfl, hf_k2_0, hf_k2_1⟩ := hA_31
        have oek2 := (ok159.el rfl _ (lT_mem (List.getElem_mem hk2))).2 rfl
        obtain ⟨B_k2, hdk2⟩ : ∃ z : List UInt8, z = D ++ plainTo (zipped fs_ConsumerGroupHeartbeatRequest v true T) v 9 ++ (counted true a9.isNone (lT (T.at 9)).length 4) ++ ((lT (T.at 9)).take k2).flatMap (GOf (fs_ConsumerGroupHeartbeatRequest[9]'(by decide)) v true) := ⟨_, rfl⟩
        have rbk2 := pk20
        rw [← hdk2] at rbk2 ⊢
        have hBk2 : B_k2.length + (partB fs_sConsumerGroupHeartbeatRequestTopic v true ((lT (T.at 9))[k2])).length ≤ LIM := by rw [hdk2]; exact el_size hs159 hk2 (GOf_part (by decide) _)
        refine asg rfl rfl ?_
        refine nl ?_
        refine sq ?_
        refine sr ?_
        refine mv rfl rfl ?_
        refine nc rfl rfl ?_
        refine fa F229_0 rfl rfl ?_
        refine la (Says.fz hc_32) Tryz.isAgg182 Tryz.sizeOf182 rfl (Nat.add_zero _).symm rfl rfl ?_
        refine al Tryz.zeroValue182 rfl rfl (fun b_33 => ?_)
        refine sa Tryz.sizeOf182 rfl rfl rfl rfl rfl .head ?_
        refine nl ?_
        refine rg ?_
        refine mv rfl rfl ?_
        refine la (Says.own .head) Tryz.isAgg182 Tryz.sizeOf182 rfl (Nat.zero_add _).symm rfl rfl ?_
        refine tf (.tail .head) ?_
        have ok180 := oek2.get 0 (by decide) (has_yes (show (0 : Int) ≤ v by omega) (show ((-1) : Int) < 0 ∨ v ≤ (-1) by omega))
        have e_34 : B_k2 ++ (pad16 (((lT (T.at 9))[k2]).at 0).s) = B_k2 ++ plainTo (zipped fs_sConsumerGroupHeartbeatRequestTopic v true ((lT (T.at 9))[k2])) v 1 := fold_first (fs := fs_sConsumerGroupHeartbeatRequestTopic) (v := v) (flex := true) (t := ((lT (T.at 9))[k2])) (B := B_k2) 0 rfl (by decide) (by decide) (has_yes (show (0 : Int) ≤ v by omega) (show ((-1) : Int) < 0 ∨ v ≤ (-1) by omega)) (FB_uuid (f := (fs_sConsumerGroupHeartbeatRequestTopic[0]'(by decide))) (by decide))
        have hs180 := fold_size e_34 (by decide) hBk2
        refine cl rfl rfl rfl (OutK.cast (k_AppendUuid (x := (((lT (T.at 9))[k2]).at 0).s) rbk2 hs180) e_34) rfl (fun v_ H1 L1 hle hR => ?_)
        obtain ⟨rfl, a180, c180, N180, rfl, rfl, h180⟩ := hR
        have r180 := h180.1
        refine asg rfl rfl ?_
        refine nl ?_
        refine sq ?_
        refine sr ?_
        refine mv rfl rfl ?_
        refine nc rfl rfl ?_
        refine fa F229_1 rfl rfl ?_
        refine ld (Says.fz hc_32) Tryz.isAgg227 rfl rfl rfl rfl ?_
        refine asg rfl rfl ?_
        refine nl ?_
        refine sq ?_
        refine sr ?_
        refine mv rfl rfl ?_
        refine nl ?_
        refine cdT rfl (by omega) ?_
        refine rg ?_
        refine mv rfl rfl ?_
        refine mv rfl rfl ?_
        refine ls Tryz.runUnderlying227 rfl rfl ?_
        have ok189 := oek2.get 1 (by decide) (has_yes (show (0 : Int) ≤ v by omega) (show ((-1) : Int) < 0 ∨ v ≤ (-1) by omega))
        have ll189 := lT_len (ok189.len rfl)
        have e_35 : B_k2 ++ plainTo (zipped fs_sConsumerGroupHeartbeatRequestTopic v true ((lT (T.at 9))[k2])) v 1 ++ (counted true false (lT (((lT (T.at 9))[k2]).at 1)).length 4 ++ (lT (((lT (T.at 9))[k2]).at 1)).flatMap (GOf (fs_sConsumerGroupHeartbeatRequestTopic[1]'(by decide)) v true)) = B_k2 ++ plainTo (zipped fs_sConsumerGroupHeartbeatRequestTopic v true ((lT (T.at 9))[k2])) v 2 := fold_yes (fs := fs_sConsumerGroupHeartbeatRequestTopic) (v := v) (flex := true) (t := ((lT (T.at 9))[k2])) (B := B_k2) 1 (by decide) (by decide) (has_yes (show (0 : Int) ≤ v by omega) (show ((-1) : Int) < 0 ∨ v ≤ (-1) by omega)) (FB_list0 (f := (fs_sConsumerGroupHeartbeatRequestTopic[1]'(by decide))) (by decide) (by decide) (by decide) ok189)
        have hs189 := fold_size e_35 (by decide) hBk2
        have hc189 : (B_k2 ++ plainTo (zipped fs_sConsumerGroupHeartbeatRequestTopic v true ((lT (T.at 9))[k2])) v 1).length + (counted true false (lT (((lT (T.at 9))[k2]).at 1)).length 4).length ≤ LIM := by have h := hs189; simp only [List.length_append] at h ⊢; omega
        refine cl rfl rfl rfl (OutK.cast (k_AppendCompactArrayLen (n := (lT (((lT (T.at 9))[k2]).at 1)).length) (by omega) r180 hc189) (show _ = B_k2 ++ plainTo (zipped fs_sConsumerGroupHeartbeatRequestTopic v true ((lT (T.at 9))[k2])) v 1 ++ (counted true false (lT (((lT (T.at 9))[k2]).at 1)).length 4) from rfl)) rfl (fun v_ H1 L1 hle hR => ?_)
        obtain ⟨rfl, a189, c189, N189, rfl, rfl, h189⟩ := hR
        have r189 := h189.1
        refine asg rfl rfl ?_
        refine nl ?_
        refine sr ?_
        refine mv rfl rfl ?_
        refine ls Tryz.runUnderlying227 rfl rfl ?_
        refine mv rfl rfl ?_
        refine nl ?_
        refine drW (.tail .head) ?_
        refine fr ((lT (((lT (T.at 9))[k2]).at 1)).length) (fun k3 l' H' L' => ∃ (a_k3 : Option Addr), ∃ (m_k3 : Nat), ∃ (c_k3 : Nat), ∃ (N_k3 : Chunk), [(0, .pointer (some ⟨b, 0, none⟩)), (1, .slice a_k3 m_k3 c_k3), (6, .bool (decide ((0 : Int) ≤ v))), (18, .slice a9 (lT (T.at 9)).length c9), (20, .pointer (some ⟨b_26, o_27 + k2 * 18, none⟩)), (22, .slice a_k2_1 (lT (((lT (T.at 9))[k2]).at 1)).length c_k2_1), (167, .int .i64 ((lT (T.at 9)).length : Int)), (168, .int .i64 (k2 : Int)), (195, .int .i64 ((lT (((lT (T.at 9))[k2]).at 1)).length : Int))] = l' ∧ N_k3 :: L = L' ∧ Row 5 1 a_k3 m_k3 c_k3 (bytesOf (B_k2 ++ plainTo (zipped fs_sConsumerGroupHeartbeatRequestTopic v true ((lT (T.at 9))[k2])) v 1 ++ (counted true false (lT (((lT (T.at 9))[k2]).at 1)).length 4) ++ ((lT (((lT (T.at 9))[k2]).at 1)).take k3).flatMap (GOf (fs_sConsumerGroupHeartbeatRequestTopic[1]'(by decide)) v true))) N_k3 ∧ m_k3 = (B_k2 ++ plainTo (zipped fs_sConsumerGroupHeartbeatRequestTopic v true ((lT (T.at 9))[k2])) v 1 ++ (counted true false (lT (((lT (T.at 9))[k2]).at 1)).length 4) ++ ((lT (((lT (T.at 9))[k2]).at 1)).take k3).flatMap (GOf (fs_sConsumerGroupHeartbeatRequestTopic[1]'(by decide)) v true)).length) [(0, .pointer (some ⟨b, 0, none⟩)), (1, .slice _ _ _), (6, .bool (decide ((0 : Int) ≤ v))), (18, .slice a9 (lT (T.at 9)).length c9), (20, .pointer (some ⟨b_26, o_27 + k2 * 18, none⟩)), (22, .slice a_k2_1 (lT (((lT (T.at 9))[k2]).at 1)).length c_k2_1), (167, .int .i64 ((lT (T.at 9)).length : Int)), (168, .int .i64 (k2 : Int)), (195, .int .i64 ((lT (((lT (T.at 9))[k2]).at 1)).length : Int))] (fun k3 l' H' L' h => ?_) (by omega) rfl (.cons rfl (.cons rfl (.cons rfl (.cons rfl (.cons rfl (.cons rfl (.cons rfl (.cons rfl (.cons rfl (.nil _)))))))))) ⟨_, _, _, _, rfl, rfl, (by rw [List.take_zero, List.flatMap_nil, List.append_nil]; exact r189), (by rw [List.take_zero, List.flatMap_nil, List.append_nil])⟩ rfl rfl rfl rfl rfl (fun k3 l' H' L' hk3 le_36 hI => ?_) (fun l' H' L' le_37 hI => ?_)
        · obtain ⟨a_k3, m_k3, c_k3, N_k3, rfl, _⟩ := h; exact ⟨rfl, rfl, rfl, rfl⟩
        · skip
          obtain ⟨a_k3, m_k3, c_k3, N_k3, rfl, rfl, pk30, pk31⟩ := hI
          subst pk31
          refine sr ?_
          refine mv rfl rfl ?_
          refine asg rfl rfl ?_
          refine nl ?_
          refine sr ?_
          refine mv rfl rfl ?_
          refine mv rfl rfl ?_
          obtain ⟨b_38, o_39, e_40, g_41⟩ := (hf_k2_0.mono RI32.mono le_36).rows.at_ (ne_nil_of_lt hk3)
          obtain ⟨cs_42, hA_43, hc_44⟩ := g_41 k3 hk3
          refine ix2 Tryz.runUnderlying227 Tryz.sizeOf21 rfl e_40 rfl rfl hk3 rfl ?_
          obtain rfl := hA_43
          refine ld (Says.fz hc_44) Tryz.isAgg21 rfl (Nat.add_zero _).symm rfl rfl ?_
          refine asg rfl rfl ?_
          refine nl ?_
          refine rg ?_
          refine mv rfl rfl ?_
          refine mv rfl rfl ?_
          have hp205 : (GOf (fs_sConsumerGroupHeartbeatRequestTopic[1]'(by decide)) v true) ((lT (((lT (T.at 9))[k2]).at 1))[k3]) = fixed (IntKind.i32.wrap ((lT (((lT (T.at 9))[k2]).at 1))[k3]).n) 4 := (G_int (f := (fs_sConsumerGroupHeartbeatRequestTopic[1]'(by decide))) (by decide) (by decide) _).trans (fixed_i32 _).symm
          have hs205 := el_size hs189 hk3 hp205
          have ee205 := el_end (B0 := B_k2 ++ plainTo (zipped fs_sConsumerGroupHeartbeatRequestTopic v true ((lT (T.at 9))[k2])) v 1 ++ (counted true false (lT (((lT (T.at 9))[k2]).at 1)).length 4)) hk3 hp205
          refine cl rfl rfl rfl (OutK.cast (k_AppendInt32 (u := IntKind.i32.wrap ((lT (((lT (T.at 9))[k2]).at 1))[k3]).n) pk30 hs205) ee205) rfl (fun v_ H1 L1 hle hR => ?_)
          obtain ⟨rfl, a205, c205, N205, rfl, rfl, h205⟩ := hR
          have r205 := h205.1
          refine asg rfl rfl ?_
          refine nN ?_
          refine Nb ?_
          refine fun a_ w_ hA hw => ⟨_, _, _, hA.sub ?_, le_36, hw, _, rfl, _, _, _, _, rfl, rfl, r205, rfl⟩
          exact (.cons rfl (.cons rfl (.cons rfl (.cons rfl (.cons rfl (.cons rfl (.cons rfl (.cons rfl (.cons rfl (.cons rfl (.nil _)))))))))))
        · skip
          obtain ⟨a_k3, m_k3, c_k3, N_k3, rfl, rfl, pk30, pk31⟩ := hI
          refine toWp ?_
          have eL189 : B_k2 ++ plainTo (zipped fs_sConsumerGroupHeartbeatRequestTopic v true ((lT (T.at 9))[k2])) v 1 ++ (counted true false (lT (((lT (T.at 9))[k2]).at 1)).length 4) ++ ((lT (((lT (T.at 9))[k2]).at 1)).take (lT (((lT (T.at 9))[k2]).at 1)).length).flatMap (GOf (fs_sConsumerGroupHeartbeatRequestTopic[1]'(by decide)) v true) = B_k2 ++ plainTo (zipped fs_sConsumerGroupHeartbeatRequestTopic v true ((lT (T.at 9))[k2])) v 2 := by rw [List.take_length, List.append_assoc]; exact e_35
          rw [eL189] at pk30 pk31
          subst pk31
          refine sr ?_
          refine mv rfl rfl ?_
          refine nl ?_
          refine cdT rfl (by omega) ?_
          refine sr ?_
          refine mv rfl rfl ?_
          refine mv rfl rfl ?_
          refine nc rfl rfl ?_
          refine fa F229_2 rfl rfl ?_
          refine cl rfl rfl rfl (t_lenU (j := 17) (hc_32.mono le_37) rfl (hf_k2_1.mono le_37)) rfl (fun v_ H1 L1 hle hR => ?_)
          obtain ⟨rfl, rfl, rfl⟩ := hR
          have hu212 := oek2.u
          have hul212 := hu212.2.1
          obtain ⟨hz212a, hz212b⟩ := part_size_plain (by decide) hu212 hBk2
          refine cv Tryz.runUnderlying3 Tryz.runUnderlying68 rfl (w32u (by omega) (by omega)) rfl ?_
          refine ad rfl rfl ((w32u (by omega) (by omega)).trans (Int.zero_add _)) rfl ?_
          refine cl rfl rfl rfl (k_AppendUvarint (n := ((lT (T.at 9))[k2]).u.length) (by omega) pk30 hz212a) rfl (fun v_ H1 L1 hle hR => ?_)
          obtain ⟨rfl, a215, c215, N215, rfl, rfl, h215⟩ := hR
          have r215 := h215.1
          refine asg rfl rfl ?_
          refine nl ?_
          refine rg ?_
          refine mv rfl rfl ?_
          refine nc rfl rfl ?_
          refine fa F229_2 rfl rfl ?_
          refine mv rfl rfl ?_
          refine cl rfl rfl rfl (t_append_each (j := 17) (hc_32.mono le_37) rfl (hf_k2_1.mono le_37) (by omega) r215 (fun p hp => by have := hu212.2.2 p hp; omega) hz212b) rfl (fun v_ H1 L1 le_45 hR => ?_)
          obtain ⟨a220, c220, N220, rfl, rfl, h220⟩ := hR
          have r220 := h220.1
          have eP_46 : B_k2 ++ plainTo (zipped fs_sConsumerGroupHeartbeatRequestTopic v true ((lT (T.at 9))[k2])) v 2 ++ uvar ((lT (T.at 9))[k2]).u.length ++ ((lT (T.at 9))[k2]).u.flatMap tagU = B_k2 ++ partB fs_sConsumerGroupHeartbeatRequestTopic v true ((lT (T.at 9))[k2]) := part_close (B := B_k2) (by decide) hu212
          rw [eP_46] at r220 ⊢
          refine asg rfl rfl ?_
          refine nN ?_
          refine Nb ?_
          have ee_47 : B_k2 ++ partB fs_sConsumerGroupHeartbeatRequestTopic v true ((lT (T.at 9))[k2]) = D ++ plainTo (zipped fs_ConsumerGroupHeartbeatRequest v true T) v 9 ++ (counted true a9.isNone (lT (T.at 9)).length 4) ++ ((lT (T.at 9)).take (k2 + 1)).flatMap (GOf (fs_ConsumerGroupHeartbeatRequest[9]'(by decide)) v true) := by rw [hdk2]; exact el_end (B0 := D ++ plainTo (zipped fs_ConsumerGroupHeartbeatRequest v true T) v 9 ++ (counted true a9.isNone (lT (T.at 9)).length 4)) (G := (GOf (fs_ConsumerGroupHeartbeatRequest[9]'(by decide)) v true)) hk2 (GOf_part (by decide) _)
          refine fun a_ w_ hA hw => ⟨_, _, _, hA.sub ?_, (le_24.trans (le_37.trans le_45)), hw, _, rfl, _, _, _, _, rfl, rfl, (by rw [← ee_47]; exact r220), (by rw [← ee_47])⟩
          exact (.cons rfl (.cons rfl (.cons rfl (.cons rfl (.cons rfl (.cons rfl (.nil _)))))))
      · skip
        obtain ⟨a_k2, m_k2, c_k2, N_k2, rfl, rfl, pk20, pk21⟩ := hI
        refine toWp ?_
        have eL159 : D ++ plainTo (zipped fs_ConsumerGroupHeartbeatRequest v true T) v 9 ++ (counted true a9.isNone (lT (T.at 9)).length 4) ++ ((lT (T.at 9)).take (lT (T.at 9)).length).flatMap (GOf (fs_ConsumerGroupHeartbeatRequest[9]'(by decide)) v true) = D ++ plainTo (zipped fs_ConsumerGroupHeartbeatRequest v true T) v 10 := by rw [List.take_length, List.append_assoc]; exact e_23
        rw [eL159] at pk20 pk21
        subst pk21
        refine sq ?_
        refine sr ?_
        refine mv rfl rfl ?_
        refine nl ?_
        refine cdT rfl (by omega) ?_
        refine sr ?_
        refine mv rfl rfl ?_
        refine mv rfl rfl ?_
        refine nc rfl rfl ?_
        refine fa0 F223_11 rfl rfl ?_
        refine cl rfl rfl rfl (t_lenU (j := 11) (hv.mono (le_9.trans (le_18.trans le_25))) rfl (hf6.mono (le_9.trans (le_18.trans le_25)))) rfl (fun v_ H1 L1 hle hR => ?_)
        obtain ⟨rfl, rfl, rfl⟩ := hR
        have hu227 := hok.u
        have hul227 := hu227.2.1
        obtain ⟨hz227a, hz227b⟩ := part_size_plain (by decide) hu227 hb
        refine cv Tryz.runUnderlying3 Tryz.runUnderlying68 rfl (w32u (by omega) (by omega)) rfl ?_
        refine ad rfl rfl ((w32u (by omega) (by omega)).trans (Int.zero_add _)) rfl ?_
        refine cl rfl rfl rfl (k_AppendUvarint (n := T.u.length) (by omega) pk20 hz227a) rfl (fun v_ H1 L1 hle hR => ?_)
        obtain ⟨rfl, a230, c230, N230, rfl, rfl, h230⟩ := hR
        have r230 := h230.1
        refine asg rfl rfl ?_
        refine nl ?_
        refine rg ?_
        refine mv rfl rfl ?_
        refine nc rfl rfl ?_
        refine fa0 F223_11 rfl rfl ?_
        refine mv rfl rfl ?_
        refine cl rfl rfl rfl (t_append_each (j := 11) (hv.mono (le_9.trans (le_18.trans le_25))) rfl (hf6.mono (le_9.trans (le_18.trans le_25))) (by omega) r230 (fun p hp => by have := hu227.2.2 p hp; omega) hz227b) rfl (fun v_ H1 L1 le_48 hR => ?_)
        obtain ⟨a235, c235, N235, rfl, rfl, h235⟩ := hR
        have r235 := h235.1
        have eP_49 : D ++ plainTo (zipped fs_ConsumerGroupHeartbeatRequest v true T) v 10 ++ uvar T.u.length ++ T.u.flatMap tagU = D ++ partB fs_ConsumerGroupHeartbeatRequest v true T := part_close (B := D) (by decide) hu227
        rw [eP_49] at r235 ⊢
        refine asg rfl rfl ?_
        refine nl ?_
        refine sr ?_
        refine mv rfl rfl ?_
        refine asg rfl rfl ?_
        refine nl ?_
        exact rT rfl rfl (le_9.trans (le_18.trans (le_25.trans le_48))) (fun _ _ h => h) (OutB.of r235 rfl)
end Go.Sx

import Derived.Test.YtahmkeoedpghjaaBSyncGroupResponse
import Derived.KernelRfl
set_option linter.unusedVariables false
set_option linter.unusedSimpArgs false
set_option maxRecDepth 100000
set_option maxHeartbeats 20000000
namespace Go.Sx
open Go.Proofs
theorem app_SyncGroupResponse_f {H : Fz} {L : Own} {a : Option Addr} {cap b : Nat} {D : List UInt8} {N : Chunk} {cs : List Value} {T : Tr} {v : Int} (hr : Row 5 1 a D.length cap (bytesOf D) N) (hv : H.at b 0 cs) (hA : At_SyncGroupResponse v H T cs) (hok : OkP fs_SyncGroupResponse v T) (h0 : 0 ≤ v) (h1 : v ≤ 3) (hb : D.length + (partB fs_SyncGroupResponse v false T).length ≤ LIM) :
    Fn Try.prog 83 [.pointer (some ⟨b, 0, none⟩), .slice a D.length cap] H (N :: L) (fun r H' L' => OutB 5 L (D ++ partB fs_SyncGroupResponse v false T) r L') := by
  obtain ⟨p2, p3, a4, c4, mt, rfl, hf0, hf1, hf2, hf3⟩ := hA
  refine Fn.mk Try.call83 Try.func83 rfl Try.ntmps83 rfl ?_
  refine sr ?_
  refine asg rfl rfl ?_
  refine nl ?_
  refine sr ?_
  refine mv rfl rfl ?_
  refine nc rfl rfl ?_
  refine fa0 F87_0 rfl rfl ?_
  refine ld (Says.fz hv) Try.isAgg45 rfl (Nat.zero_add _).symm rfl rfl ?_
  refine asg rfl rfl ?_
  refine nl ?_
  refine sr ?_
  refine mv rfl rfl ?_
  refine nl ?_
  refine sr ?_
  refine mv rfl rfl ?_
  refine ge rfl rfl rfl ?_
  refine asg rfl rfl ?_
  refine nl ?_
  refine sr ?_
  refine mv rfl rfl ?_
  refine nl ?_
  refine sq ?_
  refine sr ?_
  refine mv rfl rfl ?_
  refine ge rfl rfl rfl ?_
  refine nl ?_
  refine cutT (fun l' H' L' => ∃ (aj_1 : Option Addr), ∃ (mj_1 : Nat), ∃ (cj_1 : Nat), ∃ (Nj_1 : Chunk), [(0, .pointer (some ⟨b, 0, none⟩)), (1, .slice aj_1 mj_1 cj_1), (5, .int .i16 v), (6, .bool (decide ((4 : Int) ≤ v)))] = l' ∧ Nj_1 :: L = L' ∧ Row 5 1 aj_1 mj_1 cj_1 (bytesOf (D ++ plainTo (zipped fs_SyncGroupResponse v false T) v 1)) Nj_1 ∧ mj_1 = (D ++ plainTo (zipped fs_SyncGroupResponse v false T) v 1).length) ?_ (fun l' H' L' le_2 hI => ?_)
  · skip
    refine cd rfl (fun h21 => ?_) (fun h21 => ?_)
    · skip
      refine sr ?_
      refine mv rfl rfl ?_
      refine nc rfl rfl ?_
      refine fa0 F87_1 rfl rfl ?_
      refine ld (Says.fz hv) Try.isAgg21 rfl (Nat.zero_add _).symm rfl rfl ?_
      refine asg rfl rfl ?_
      refine nl ?_
      refine rg ?_
      refine mv rfl rfl ?_
      refine mv rfl rfl ?_
      have ok28 := hok.get 0 (by decide) (has_yes (show (1 : Int) ≤ v by omega) (show ((-1) : Int) < 0 ∨ v ≤ (-1) by omega))
      have e_3 : D ++ (fixed (IntKind.i32.wrap (T.at 0).n) 4) = D ++ plainTo (zipped fs_SyncGroupResponse v false T) v 1 := fold_first (fs := fs_SyncGroupResponse) (v := v) (flex := false) (t := T) (B := D) 0 rfl (by decide) (by decide) (has_yes (show (1 : Int) ≤ v by omega) (show ((-1) : Int) < 0 ∨ v ≤ (-1) by omega)) ((FB_int (f := (fs_SyncGroupResponse[0]'(by decide))) (by decide) (by decide)).trans (fixed_i32 _).symm)
      have hs28 := fold_size e_3 (by decide) hb
      refine cl rfl rfl rfl (OutK.cast (k_AppendInt32 (u := IntKind.i32.wrap (T.at 0).n) hr hs28) e_3) rfl (fun v_ H1 L1 hle hR => ?_)
      obtain ⟨rfl, a28, c28, N28, rfl, rfl, h28⟩ := hR
      have r28 := h28.1
      refine asg rfl rfl ?_
      refine nN ?_
      refine fun a_ w_ hA hw => ⟨_, _, _, hA.sub ?_, (Fz.le.refl _), hw, _, _, _, _, rfl, rfl, r28, rfl⟩
      exact (.cons rfl (.cons rfl (.cons rfl (.cons rfl (.nil _)))))
    · skip
      refine skN ?_
      have es_4 : plainTo (zipped fs_SyncGroupResponse v false T) v 1 = plainTo (zipped fs_SyncGroupResponse v false T) v 0 := (piece_no2 (fs := fs_SyncGroupResponse) (v := v) (flex := false) (t := T) (k := 0) (by decide) (has_no (show v < (1 : Int) ∨ ((0 : Int) ≤ (-1) ∧ (-1) < v) by omega)))
      have eX_5 : D = D ++ plainTo (zipped fs_SyncGroupResponse v false T) v 1 := by rw [es_4, plain0, List.append_nil]
      refine fun a_ w_ hA hw => ⟨_, _, _, hA.sub ?_, (Fz.le.refl _), hw, _, _, _, _, rfl, rfl, (by rw [← eX_5]; exact hr), (by rw [← eX_5])⟩
      exact (.cons rfl (.cons rfl (.cons rfl (.cons rfl (.nil _)))))
  · skip
    obtain ⟨aj_1, mj_1, cj_1, Nj_1, rfl, rfl, pj0, pj1⟩ := hI
    subst pj1
    have rj_1 := pj0
    refine sq ?_
    refine sr ?_
    refine mv rfl rfl ?_
    refine nc rfl rfl ?_
    refine fa0 F87_2 rfl rfl ?_
    refine ld (Says.fz (hv.mono le_2)) Try.isAgg45 rfl (Nat.zero_add _).symm rfl rfl ?_
    refine asg rfl rfl ?_
    refine nl ?_
    refine rg ?_
    refine mv rfl rfl ?_
    refine mv rfl rfl ?_
    have ok35 := hok.get 1 (by decide) (has_yes (show (0 : Int) ≤ v by omega) (show ((-1) : Int) < 0 ∨ v ≤ (-1) by omega))
    have e_6 : D ++ plainTo (zipped fs_SyncGroupResponse v false T) v 1 ++ (fixed (IntKind.i16.wrap (T.at 1).n) 2) = D ++ plainTo (zipped fs_SyncGroupResponse v false T) v 2 := fold_yes (fs := fs_SyncGroupResponse) (v := v) (flex := false) (t := T) (B := D) 1 (by decide) (by decide) (has_yes (show (0 : Int) ≤ v by omega) (show ((-1) : Int) < 0 ∨ v ≤ (-1) by omega)) ((FB_int (f := (fs_SyncGroupResponse[1]'(by decide))) (by decide) (by decide)).trans (fixed_i16 _).symm)
    have hs35 := fold_size e_6 (by decide) hb
    refine cl rfl rfl rfl (OutK.cast (k_AppendInt16 (u := IntKind.i16.wrap (T.at 1).n) rj_1 hs35) e_6) rfl (fun v_ H1 L1 hle hR => ?_)
    obtain ⟨rfl, a35, c35, N35, rfl, rfl, h35⟩ := hR
    have r35 := h35.1
    refine asg rfl rfl ?_
    refine nl ?_
    refine sq ?_
    refine sr ?_
    refine mv rfl rfl ?_
    refine ge rfl rfl rfl ?_
    refine nl ?_
    refine cdF rfl (by omega) ?_
    refine skt ?_
    refine sq ?_
    refine sr ?_
    refine mv rfl rfl ?_
    refine ge rfl rfl rfl ?_
    refine nl ?_
    refine cdF rfl (by omega) ?_
    refine skt ?_
    refine sq ?_
    refine sr ?_
    refine mv rfl rfl ?_
    refine nc rfl rfl ?_
    refine fa0 F87_5 rfl rfl ?_
    refine ld (Says.fz (hv.mono le_2)) Try.isAgg22 rfl (Nat.zero_add _).symm rfl rfl ?_
    refine asg rfl rfl ?_
    refine nl ?_
    refine sr ?_
    refine mv rfl rfl ?_
    refine nl ?_
    refine cdF rfl (by omega) ?_
    refine rg ?_
    refine mv rfl rfl ?_
    refine mv rfl rfl ?_
    have es_7 : plainTo (zipped fs_SyncGroupResponse v false T) v 4 = plainTo (zipped fs_SyncGroupResponse v false T) v 2 := ((piece_no2 (fs := fs_SyncGroupResponse) (v := v) (flex := false) (t := T) (k := 3) (by decide) (has_no (show v < (5 : Int) ∨ ((0 : Int) ≤ (-1) ∧ (-1) < v) by omega))).trans (piece_no2 (fs := fs_SyncGroupResponse) (v := v) (flex := false) (t := T) (k := 2) (by decide) (has_no (show v < (5 : Int) ∨ ((0 : Int) ≤ (-1) ∧ (-1) < v) by omega))))
    have eX_8 : D ++ plainTo (zipped fs_SyncGroupResponse v false T) v 2 = D ++ plainTo (zipped fs_SyncGroupResponse v false T) v 4 := by rw [es_7]
    have rx_9 := r35
    rw [eX_8] at rx_9 ⊢
    have ok72 := hok.get 4 (by decide) (has_yes (show (0 : Int) ≤ v by omega) (show ((-1) : Int) < 0 ∨ v ≤ (-1) by omega))
    have nn72 := ok72.nn (by decide) (by decide)
    have e_10 : D ++ plainTo (zipped fs_SyncGroupResponse v false T) v 4 ++ (counted false false (sT (T.at 4)).length 4 ++ (sT (T.at 4))) = D ++ plainTo (zipped fs_SyncGroupResponse v false T) v 5 := fold_yes (fs := fs_SyncGroupResponse) (v := v) (flex := false) (t := T) (B := D) 4 (by decide) (by decide) (has_yes (show (0 : Int) ≤ v by omega) (show ((-1) : Int) < 0 ∨ v ≤ (-1) by omega)) (by rw [FB_bytes (f := (fs_SyncGroupResponse[4]'(by decide))) (by decide) (by decide) ok72, nn72])
    have hs72 := fold_size e_10 (by decide) hb
    refine cl rfl rfl rfl (OutK.cast (k_AppendBytes (x := (sT (T.at 4))) (hf2.mono le_2).val rx_9 hs72) e_10) rfl (fun v_ H1 L1 hle hR => ?_)
    obtain ⟨rfl, a72, c72, N72, rfl, rfl, h72⟩ := hR
    have r72 := h72.1
    refine asg rfl rfl ?_
    refine nl ?_
    refine sq ?_
    refine sr ?_
    refine mv rfl rfl ?_
    refine nl ?_
    refine cdF rfl (by omega) ?_
    refine skt ?_
    refine sr ?_
    refine mv rfl rfl ?_
    refine asg rfl rfl ?_
    refine nl ?_
    have eP_11 : D ++ plainTo (zipped fs_SyncGroupResponse v false T) v 5 = D ++ partB fs_SyncGroupResponse v false T := by rw [partB_false]; rfl
    have rp_12 := r72
    rw [eP_11] at rp_12 ⊢
    exact rT rfl rfl le_2 (fun _ _ h => h) (OutB.of rp_12 rfl)
theorem app_SyncGroupResponse_t {H : Fz} {L : Own} {a : Option Addr} {cap b : Nat} {D : List UInt8} {N : Chunk} {cs : List Value} {T : Tr} {v : Int} (hr : Row 5 1 a D.length cap (bytesOf D) N) (hv : H.at b 0 cs) (hA : At_SyncGroupResponse v H T cs) (hok : OkP fs_SyncGroupResponse v T) (h0 : 4 ≤ v) (h1 : v ≤ 5) (hb : D.length + (partB fs_SyncGroupResponse v true T).length ≤ LIM) :
    Fn Try.prog 83 [.pointer (some ⟨b, 0, none⟩), .slice a D.length cap] H (N :: L) (fun r H' L' => OutB 5 L (D ++ partB fs_SyncGroupResponse v true T) r L') := by
  obtain ⟨p2, p3, a4, c4, mt, rfl, hf0, hf1, hf2, hf3⟩ := hA
  refine Fn.mk Try.call83 Try.func83 rfl Try.ntmps83 rfl ?_
  refine sr ?_
  refine asg rfl rfl ?_
  refine nl ?_
  refine sr ?_
  refine mv rfl rfl ?_
  refine nc rfl rfl ?_
  refine fa0 F87_0 rfl rfl ?_
  refine ld (Says.fz hv) Try.isAgg45 rfl (Nat.zero_add _).symm rfl rfl ?_
  refine asg rfl rfl ?_
  refine nl ?_
  refine sr ?_
  refine mv rfl rfl ?_
  refine nl ?_
  refine sr ?_
  refine mv rfl rfl ?_
  refine ge rfl rfl rfl ?_
  refine asg rfl rfl ?_
  refine nl ?_
  refine sr ?_
  refine mv rfl rfl ?_
  refine nl ?_
  refine sq ?_
  refine sr ?_
  refine mv rfl rfl ?_
  refine ge rfl rfl rfl ?_
  refine nl ?_
  refine cdT rfl (by omega) ?_
  refine sr ?_
  refine mv rfl rfl ?_
  refine nc rfl rfl ?_
  refine fa0 F87_1 rfl rfl ?_
  refine ld (Says.fz hv) Try.isAgg21 rfl (Nat.zero_add _).symm rfl rfl ?_
  refine asg rfl rfl ?_
  refine nl ?_
  refine rg ?_
  refine mv rfl rfl ?_
  refine mv rfl rfl ?_
  have ok28 := hok.get 0 (by decide) (has_yes (show (1 : Int) ≤ v by omega) (show ((-1) : Int) < 0 ∨ v ≤ (-1) by omega))
  have e_1 : D ++ (fixed (IntKind.i32.wrap (T.at 0).n) 4) = D ++ plainTo (zipped fs_SyncGroupResponse v true T) v 1 := fold_first (fs := fs_SyncGroupResponse) (v := v) (flex := true) (t := T) (B := D) 0 rfl (by decide) (by decide) (has_yes (show (1 : Int) ≤ v by omega) (show ((-1) : Int) < 0 ∨ v ≤ (-1) by omega)) ((FB_int (f := (fs_SyncGroupResponse[0]'(by decide))) (by decide) (by decide)).trans (fixed_i32 _).symm)
  have hs28 := fold_size e_1 (by decide) hb
  refine cl rfl rfl rfl (OutK.cast (k_AppendInt32 (u := IntKind.i32.wrap (T.at 0).n) hr hs28) e_1) rfl (fun v_ H1 L1 hle hR => ?_)
  obtain ⟨rfl, a28, c28, N28, rfl, rfl, h28⟩ := hR
  have r28 := h28.1
  refine asg rfl rfl ?_
  refine nl ?_
  refine sq ?_
  refine sr ?_
  refine mv rfl rfl ?_
  refine nc rfl rfl ?_
  refine fa0 F87_2 rfl rfl ?_
  refine ld (Says.fz hv) Try.isAgg45 rfl (Nat.zero_add _).symm rfl rfl ?_
  refine asg rfl rfl ?_
  refine nl ?_
  refine rg ?_
  refine mv rfl rfl ?_
  refine mv rfl rfl ?_
  have ok35 := hok.get 1 (by decide) (has_yes (show (0 : Int) ≤ v by omega) (show ((-1) : Int) < 0 ∨ v ≤ (-1) by omega))
  have e_2 : D ++ plainTo (zipped fs_SyncGroupResponse v true T) v 1 ++ (fixed (IntKind.i16.wrap (T.at 1).n) 2) = D ++ plainTo (zipped fs_SyncGroupResponse v true T) v 2 := fold_yes (fs := fs_SyncGroupResponse) (v := v) (flex := true) (t := T) (B := D) 1 (by decide) (by decide) (has_yes (show (0 : Int) ≤ v by omega) (show ((-1) : Int) < 0 ∨ v ≤ (-1) by omega)) ((FB_int (f := (fs_SyncGroupResponse[1]'(by decide))) (by decide) (by decide)).trans (fixed_i16 _).symm)
  have hs35 := fold_size e_2 (by decide) hb
  refine cl rfl rfl rfl (OutK.cast (k_AppendInt16 (u := IntKind.i16.wrap (T.at 1).n) r28 hs35) e_2) rfl (fun v_ H1 L1 hle hR => ?_)
  obtain ⟨rfl, a35, c35, N35, rfl, rfl, h35⟩ := hR
  have r35 := h35.1
  refine asg rfl rfl ?_
  refine nl ?_
  refine sq ?_
  refine sr ?_
  refine mv rfl rfl ?_
  refine ge rfl rfl rfl ?_
  refine nl ?_
  refine cutT (fun l' H' L' => ∃ (aj_3 : Option Addr), ∃ (mj_3 : Nat), ∃ (cj_3 : Nat), ∃ (Nj_3 : Chunk), [(0, .pointer (some ⟨b, 0, none⟩)), (1, .slice aj_3 mj_3 cj_3), (5, .int .i16 v), (6, .bool (decide ((4 : Int) ≤ v)))] = l' ∧ Nj_3 :: L = L' ∧ Row 5 1 aj_3 mj_3 cj_3 (bytesOf (D ++ plainTo (zipped fs_SyncGroupResponse v true T) v 3)) Nj_3 ∧ mj_3 = (D ++ plainTo (zipped fs_SyncGroupResponse v true T) v 3).length) ?_ (fun l' H' L' le_4 hI => ?_)
  · skip
    refine cd rfl (fun h37 => ?_) (fun h37 => ?_)
    · skip
      refine sr ?_
      refine mv rfl rfl ?_
      refine nc rfl rfl ?_
      refine fa0 F87_3 rfl rfl ?_
      refine ld (Says.fz hv) Try.isAgg51 rfl (Nat.zero_add _).symm rfl rfl ?_
      refine asg rfl rfl ?_
      refine nl ?_
      refine sr ?_
      refine mv rfl rfl ?_
      refine nl ?_
      refine cdT rfl (by omega) ?_
      refine rg ?_
      refine mv rfl rfl ?_
      refine mv rfl rfl ?_
      have ok45 := hok.get 2 (by decide) (has_yes (show (5 : Int) ≤ v by omega) (show ((-1) : Int) < 0 ∨ v ≤ (-1) by omega))
      have e_5 : D ++ plainTo (zipped fs_SyncGroupResponse v true T) v 2 ++ (counted true (T.at 2).nul (sT (T.at 2)).length 2 ++ sT (T.at 2)) = D ++ plainTo (zipped fs_SyncGroupResponse v true T) v 3 := fold_yes (fs := fs_SyncGroupResponse) (v := v) (flex := true) (t := T) (B := D) 2 (by decide) (by decide) (has_yes (show (5 : Int) ≤ v by omega) (show ((-1) : Int) < 0 ∨ v ≤ (-1) by omega)) (FB_text (f := (fs_SyncGroupResponse[2]'(by decide))) (by decide) (by decide) ok45)
      have hs45 := fold_size e_5 (by decide) hb
      refine cl rfl rfl rfl (OutK.cast (k_AppendCompactNullableString hf0 (ok45.s (Or.inl rfl)) r35 hs45) e_5) rfl (fun v_ H1 L1 hle hR => ?_)
      obtain ⟨rfl, a45, c45, N45, rfl, rfl, h45⟩ := hR
      have r45 := h45.1
      refine asg rfl rfl ?_
      refine nN ?_
      refine fun a_ w_ hA hw => ⟨_, _, _, hA.sub ?_, (Fz.le.refl _), hw, _, _, _, _, rfl, rfl, r45, rfl⟩
      exact (.cons rfl (.cons rfl (.cons rfl (.cons rfl (.nil _)))))
    · skip
      refine skN ?_
      have es_6 : plainTo (zipped fs_SyncGroupResponse v true T) v 3 = plainTo (zipped fs_SyncGroupResponse v true T) v 2 := (piece_no2 (fs := fs_SyncGroupResponse) (v := v) (flex := true) (t := T) (k := 2) (by decide) (has_no (show v < (5 : Int) ∨ ((0 : Int) ≤ (-1) ∧ (-1) < v) by omega)))
      have eX_7 : D ++ plainTo (zipped fs_SyncGroupResponse v true T) v 2 = D ++ plainTo (zipped fs_SyncGroupResponse v true T) v 3 := by rw [es_6]
      refine fun a_ w_ hA hw => ⟨_, _, _, hA.sub ?_, (Fz.le.refl _), hw, _, _, _, _, rfl, rfl, (by rw [← eX_7]; exact r35), (by rw [← eX_7])⟩
      exact (.cons rfl (.cons rfl (.cons rfl (.cons rfl (.nil _)))))
  · skip
    obtain ⟨aj_3, mj_3, cj_3, Nj_3, rfl, rfl, pj0, pj1⟩ := hI
    subst pj1
    have rj_3 := pj0
    refine sq ?_
    refine sr ?_
    refine mv rfl rfl ?_
    refine ge rfl rfl rfl ?_
    refine nl ?_
    refine cutT (fun l' H' L' => ∃ (aj_8 : Option Addr), ∃ (mj_8 : Nat), ∃ (cj_8 : Nat), ∃ (Nj_8 : Chunk), [(0, .pointer (some ⟨b, 0, none⟩)), (1, .slice aj_8 mj_8 cj_8), (6, .bool (decide ((4 : Int) ≤ v)))] = l' ∧ Nj_8 :: L = L' ∧ Row 5 1 aj_8 mj_8 cj_8 (bytesOf (D ++ plainTo (zipped fs_SyncGroupResponse v true T) v 4)) Nj_8 ∧ mj_8 = (D ++ plainTo (zipped fs_SyncGroupResponse v true T) v 4).length) ?_ (fun l' H' L' le_9 hI => ?_)
    · skip
      refine cd rfl (fun h50 => ?_) (fun h50 => ?_)
      · skip
        refine sr ?_
        refine mv rfl rfl ?_
        refine nc rfl rfl ?_
        refine fa0 F87_4 rfl rfl ?_
        refine ld (Says.fz (hv.mono le_4)) Try.isAgg51 rfl (Nat.zero_add _).symm rfl rfl ?_
        refine asg rfl rfl ?_
        refine nl ?_
        refine sr ?_
        refine mv rfl rfl ?_
        refine nl ?_
        refine cdT rfl (by omega) ?_
        refine rg ?_
        refine mv rfl rfl ?_
        refine mv rfl rfl ?_
        have ok58 := hok.get 3 (by decide) (has_yes (show (5 : Int) ≤ v by omega) (show ((-1) : Int) < 0 ∨ v ≤ (-1) by omega))
        have e_10 : D ++ plainTo (zipped fs_SyncGroupResponse v true T) v 3 ++ (counted true (T.at 3).nul (sT (T.at 3)).length 2 ++ sT (T.at 3)) = D ++ plainTo (zipped fs_SyncGroupResponse v true T) v 4 := fold_yes (fs := fs_SyncGroupResponse) (v := v) (flex := true) (t := T) (B := D) 3 (by decide) (by decide) (has_yes (show (5 : Int) ≤ v by omega) (show ((-1) : Int) < 0 ∨ v ≤ (-1) by omega)) (FB_text (f := (fs_SyncGroupResponse[3]'(by decide))) (by decide) (by decide) ok58)
        have hs58 := fold_size e_10 (by decide) hb
        refine cl rfl rfl rfl (OutK.cast (k_AppendCompactNullableString (hf1.mono le_4) (ok58.s (Or.inl rfl)) rj_3 hs58) e_10) rfl (fun v_ H1 L1 hle hR => ?_)
        obtain ⟨rfl, a58, c58, N58, rfl, rfl, h58⟩ := hR
        have r58 := h58.1
        refine asg rfl rfl ?_
        refine nN ?_
        refine fun a_ w_ hA hw => ⟨_, _, _, hA.sub ?_, (Fz.le.refl _), hw, _, _, _, _, rfl, rfl, r58, rfl⟩
        exact (.cons rfl (.cons rfl (.cons rfl (.nil _))))
      · skip
        refine skN ?_
        have es_11 : plainTo (zipped fs_SyncGroupResponse v true T) v 4 = plainTo (zipped fs_SyncGroupResponse v true T) v 3 := (piece_no2 (fs := fs_SyncGroupResponse) (v := v) (flex := true) (t := T) (k := 3) (by decide) (has_no (show v < (5 : Int) ∨ ((0 : Int) ≤ (-1) ∧ (-1) < v) by omega)))
        have eX_12 : D ++ plainTo (zipped fs_SyncGroupResponse v true T) v 3 = D ++ plainTo (zipped fs_SyncGroupResponse v true T) v 4 := by rw [es_11]
        refine fun a_ w_ hA hw => ⟨_, _, _, hA.sub ?_, (Fz.le.refl _), hw, _, _, _, _, rfl, rfl, (by rw [← eX_12]; exact rj_3), (by rw [← eX_12])⟩
        exact (.cons rfl (.cons rfl (.cons rfl (.nil _))))
    · skip
      obtain ⟨aj_8, mj_8, cj_8, Nj_8, rfl, rfl, pj0, pj1⟩ := hI
      subst pj1
      have rj_8 := pj0
      refine sq ?_
      refine sr ?_
      refine mv rfl rfl ?_
      refine nc rfl rfl ?_
      refine fa0 F87_5 rfl rfl ?_
      refine ld (Says.fz (hv.mono (le_4.trans le_9))) Try.isAgg22 rfl (Nat.zero_add _).symm rfl rfl ?_
      refine asg rfl rfl ?_
      refine nl ?_
      refine sr ?_
      refine mv rfl rfl ?_
      refine nl ?_
      refine cdT rfl (by omega) ?_
      refine rg ?_
      refine mv rfl rfl ?_
      refine mv rfl rfl ?_
      have ok69 := hok.get 4 (by decide) (has_yes (show (0 : Int) ≤ v by omega) (show ((-1) : Int) < 0 ∨ v ≤ (-1) by omega))
      have nn69 := ok69.nn (by decide) (by decide)
      have e_13 : D ++ plainTo (zipped fs_SyncGroupResponse v true T) v 4 ++ (counted true false (sT (T.at 4)).length 4 ++ (sT (T.at 4))) = D ++ plainTo (zipped fs_SyncGroupResponse v true T) v 5 := fold_yes (fs := fs_SyncGroupResponse) (v := v) (flex := true) (t := T) (B := D) 4 (by decide) (by decide) (has_yes (show (0 : Int) ≤ v by omega) (show ((-1) : Int) < 0 ∨ v ≤ (-1) by omega)) (by rw [FB_bytes (f := (fs_SyncGroupResponse[4]'(by decide))) (by decide) (by decide) ok69, nn69])
      have hs69 := fold_size e_13 (by decide) hb
      refine cl rfl rfl rfl (OutK.cast (k_AppendCompactBytes (x := (sT (T.at 4))) (by have := sT_len (ok69.s (Or.inr rfl)); omega) (hf2.mono (le_4.trans le_9)).val rj_8 hs69) e_13) rfl (fun v_ H1 L1 hle hR => ?_)
      obtain ⟨rfl, a69, c69, N69, rfl, rfl, h69⟩ := hR
      have r69 := h69.1
      refine asg rfl rfl ?_
      refine nl ?_
      refine sq ?_
      refine sr ?_
      refine mv rfl rfl ?_
      refine nl ?_
      refine cdT rfl (by omega) ?_
      refine sr ?_
      refine mv rfl rfl ?_
      refine mv rfl rfl ?_
      refine nc rfl rfl ?_
      refine fa0 F87_6 rfl rfl ?_
      refine cl rfl rfl rfl (t_lenU (j := 6) (hv.mono (le_4.trans le_9)) rfl (hf3.mono (le_4.trans le_9))) rfl (fun v_ H1 L1 hle hR => ?_)
      obtain ⟨rfl, rfl, rfl⟩ := hR
      have hu78 := hok.u
      have hul78 := hu78.2.1
      obtain ⟨hz78a, hz78b⟩ := part_size_plain (by decide) hu78 hb
      refine cv Try.runUnderlying3 Try.runUnderlying60 rfl (w32u (by omega) (by omega)) rfl ?_
      refine ad rfl rfl ((w32u (by omega) (by omega)).trans (Int.zero_add _)) rfl ?_
      refine cl rfl rfl rfl (k_AppendUvarint (n := T.u.length) (by omega) r69 hz78a) rfl (fun v_ H1 L1 hle hR => ?_)
      obtain ⟨rfl, a81, c81, N81, rfl, rfl, h81⟩ := hR
      have r81 := h81.1
      refine asg rfl rfl ?_
      refine nl ?_
      refine rg ?_
      refine mv rfl rfl ?_
      refine nc rfl rfl ?_
      refine fa0 F87_6 rfl rfl ?_
      refine mv rfl rfl ?_
      refine cl rfl rfl rfl (t_append_each (j := 6) (hv.mono (le_4.trans le_9)) rfl (hf3.mono (le_4.trans le_9)) (by omega) r81 (fun p hp => by have := hu78.2.2 p hp; omega) hz78b) rfl (fun v_ H1 L1 le_14 hR => ?_)
      obtain ⟨a86, c86, N86, rfl, rfl, h86⟩ := hR
      have r86 := h86.1
      have eP_15 : D ++ plainTo (zipped fs_SyncGroupResponse v true T) v 5 ++ uvar T.u.length ++ T.u.flatMap tagU = D ++ partB fs_SyncGroupResponse v true T := part_close (B := D) (by decide) hu78
      rw [eP_15] at r86 ⊢
      refine asg rfl rfl ?_
      refine nl ?_
      refine sr ?_
      refine mv rfl rfl ?_
      refine asg rfl rfl ?_
      refine nl ?_
      exact rT rfl rfl (le_4.trans (le_9.trans le_14)) (fun _ _ h => h) (OutB.of r86 rfl)
end Go.Sx

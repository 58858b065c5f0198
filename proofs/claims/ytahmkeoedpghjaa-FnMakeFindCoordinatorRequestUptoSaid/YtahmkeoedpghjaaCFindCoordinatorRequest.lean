import Derived.Test.YtahmkeoedpghjaaBFindCoordinatorRequest
import Derived.KernelRfl
set_option linter.unusedVariables false
set_option linter.unusedSimpArgs false
set_option maxRecDepth 100000
set_option maxHeartbeats 20000000
namespace Go.Sx
open Go.Proofs
theorem app_FindCoordinatorRequest_f {H : Fz} {L : Own} {a : Option Addr} {cap b : Nat} {D : List UInt8} {N : Chunk} {cs : List Value} {T : Tr} {v : Int} (hr : Row 5 1 a D.length cap (bytesOf D) N) (hv : H.at b 0 cs) (hA : At_FindCoordinatorRequest v H T cs) (hok : OkP fs_FindCoordinatorRequest v T) (h0 : 0 ≤ v) (h1 : v ≤ 2) (hb : D.length + (partB fs_FindCoordinatorRequest v false T).length ≤ LIM) :
    Fn Try.prog 78 [.pointer (some ⟨b, 0, none⟩), .slice a D.length cap] H (N :: L) (fun r H' L' => OutB 5 L (D ++ partB fs_FindCoordinatorRequest v false T) r L') := by
  obtain ⟨a2, c2, mt, rfl, hf0, hf1⟩ := hA
  refine Fn.mk Try.call78 Try.func78 rfl Try.ntmps78 rfl ?_
  refine sr ?_
  refine asg rfl rfl ?_
  refine nl ?_
  refine sr ?_
  refine mv rfl rfl ?_
  refine nc rfl rfl ?_
  refine fa0 F82_0 rfl rfl ?_
  refine ld (Says.fz hv) Try.isAgg45 rfl (Nat.zero_add _).symm rfl rfl ?_
  refine asg rfl rfl ?_
  refine nl ?_
  refine sr ?_
  refine mv rfl rfl ?_
  refine nl ?_
  refine sr ?_
  refine mv rfl rfl ?_
  refine ge rfl rfl rfl ?_
  refine asg rfl rfl ?_
  refine nl ?_
  refine sr ?_
  refine mv rfl rfl ?_
  refine nl ?_
  refine sq ?_
  refine sr ?_
  refine mv rfl rfl ?_
  refine ge rfl rfl rfl ?_
  refine mv rfl rfl ?_
  refine spl (t := 22) rfl (fun h22 => ?_) (fun h22 => ?_)
  · skip
    refine gr rfl rfl ?_
    refine mv rfl rfl ?_
    refine gr rfl rfl ?_
    refine le rfl rfl rfl ?_
    refine pk rfl rfl rfl rfl ?_
    refine nl ?_
    refine cdT rfl (by omega) ?_
    refine sr ?_
    refine mv rfl rfl ?_
    refine nc rfl rfl ?_
    refine fa0 F82_1 rfl rfl ?_
    refine ld (Says.fz hv) Try.isAgg9 rfl (Nat.zero_add _).symm rfl rfl ?_
    refine asg rfl rfl ?_
    refine nl ?_
    refine sr ?_
    refine mv rfl rfl ?_
    refine nl ?_
    refine cdF rfl (by omega) ?_
    refine rg ?_
    refine mv rfl rfl ?_
    refine mv rfl rfl ?_
    have ok36 := hok.get 0 (by decide) (has_yes (show (0 : Int) ≤ v by omega) (show (3 : Int) < 0 ∨ v ≤ 3 by omega))
    have nn36 := ok36.nn (by decide) (by decide)
    have e_1 : D ++ (counted false false (T.at 0).s.length 2 ++ (T.at 0).s) = D ++ plainTo (zipped fs_FindCoordinatorRequest v false T) v 1 := fold_first (fs := fs_FindCoordinatorRequest) (v := v) (flex := false) (t := T) (B := D) 0 rfl (by decide) (by decide) (has_yes (show (0 : Int) ≤ v by omega) (show (3 : Int) < 0 ∨ v ≤ 3 by omega)) (by rw [FB_text (f := (fs_FindCoordinatorRequest[0]'(by decide))) (by decide) (by decide) ok36, sT_nn nn36, nn36])
    have hs36 := fold_size e_1 (by decide) hb
    refine cl rfl rfl rfl (OutK.cast (k_AppendString (x := (T.at 0).s) hr hs36) e_1) rfl (fun v_ H1 L1 hle hR => ?_)
    obtain ⟨rfl, a36, c36, N36, rfl, rfl, h36⟩ := hR
    have r36 := h36.1
    refine asg rfl rfl ?_
    refine nl ?_
    refine sq ?_
    refine sr ?_
    refine mv rfl rfl ?_
    refine ge rfl rfl rfl ?_
    refine nl ?_
    refine cutT (fun l' H' L' => ∃ (aj_2 : Option Addr), ∃ (mj_2 : Nat), ∃ (cj_2 : Nat), ∃ (Nj_2 : Chunk), [(0, .pointer (some ⟨b, 0, none⟩)), (1, .slice aj_2 mj_2 cj_2), (5, .int .i16 v), (6, .bool (decide ((3 : Int) ≤ v)))] = l' ∧ Nj_2 :: L = L' ∧ Row 5 1 aj_2 mj_2 cj_2 (bytesOf (D ++ plainTo (zipped fs_FindCoordinatorRequest v false T) v 2)) Nj_2 ∧ mj_2 = (D ++ plainTo (zipped fs_FindCoordinatorRequest v false T) v 2).length) ?_ (fun l' H' L' le_3 hI => ?_)
    · skip
      refine cd rfl (fun h38 => ?_) (fun h38 => ?_)
      · skip
        refine sr ?_
        refine mv rfl rfl ?_
        refine nc rfl rfl ?_
        refine fa0 F82_2 rfl rfl ?_
        refine ld (Says.fz hv) Try.isAgg80 rfl (Nat.zero_add _).symm rfl rfl ?_
        refine asg rfl rfl ?_
        refine nl ?_
        refine rg ?_
        refine mv rfl rfl ?_
        refine mv rfl rfl ?_
        have ok45 := hok.get 1 (by decide) (has_yes (show (1 : Int) ≤ v by omega) (show ((-1) : Int) < 0 ∨ v ≤ (-1) by omega))
        have e_4 : D ++ plainTo (zipped fs_FindCoordinatorRequest v false T) v 1 ++ (fixed (IntKind.i8.wrap (T.at 1).n) 1) = D ++ plainTo (zipped fs_FindCoordinatorRequest v false T) v 2 := fold_yes (fs := fs_FindCoordinatorRequest) (v := v) (flex := false) (t := T) (B := D) 1 (by decide) (by decide) (has_yes (show (1 : Int) ≤ v by omega) (show ((-1) : Int) < 0 ∨ v ≤ (-1) by omega)) ((FB_int (f := (fs_FindCoordinatorRequest[1]'(by decide))) (by decide) (by decide)).trans (fixed_i8 _).symm)
        have hs45 := fold_size e_4 (by decide) hb
        refine cl rfl rfl rfl (OutK.cast (k_AppendInt8 (u := IntKind.i8.wrap (T.at 1).n) r36 hs45) e_4) rfl (fun v_ H1 L1 hle hR => ?_)
        obtain ⟨rfl, a45, c45, N45, rfl, rfl, h45⟩ := hR
        have r45 := h45.1
        refine asg rfl rfl ?_
        refine nN ?_
        refine fun a_ w_ hA hw => ⟨_, _, _, hA.sub ?_, (Fz.le.refl _), hw, _, _, _, _, rfl, rfl, r45, rfl⟩
        exact (.cons rfl (.cons rfl (.cons rfl (.cons rfl (.nil _)))))
      · skip
        refine skN ?_
        have es_5 : plainTo (zipped fs_FindCoordinatorRequest v false T) v 2 = plainTo (zipped fs_FindCoordinatorRequest v false T) v 1 := (piece_no2 (fs := fs_FindCoordinatorRequest) (v := v) (flex := false) (t := T) (k := 1) (by decide) (has_no (show v < (1 : Int) ∨ ((0 : Int) ≤ (-1) ∧ (-1) < v) by omega)))
        have eX_6 : D ++ plainTo (zipped fs_FindCoordinatorRequest v false T) v 1 = D ++ plainTo (zipped fs_FindCoordinatorRequest v false T) v 2 := by rw [es_5]
        refine fun a_ w_ hA hw => ⟨_, _, _, hA.sub ?_, (Fz.le.refl _), hw, _, _, _, _, rfl, rfl, (by rw [← eX_6]; exact r36), (by rw [← eX_6])⟩
        exact (.cons rfl (.cons rfl (.cons rfl (.cons rfl (.nil _)))))
    · skip
      obtain ⟨aj_2, mj_2, cj_2, Nj_2, rfl, rfl, pj0, pj1⟩ := hI
      subst pj1
      have rj_2 := pj0
      refine sq ?_
      refine sr ?_
      refine mv rfl rfl ?_
      refine ge rfl rfl rfl ?_
      refine nl ?_
      refine cdF rfl (by omega) ?_
      refine skt ?_
      refine sq ?_
      refine sr ?_
      refine mv rfl rfl ?_
      refine nl ?_
      refine cdF rfl (by omega) ?_
      refine skt ?_
      refine sr ?_
      refine mv rfl rfl ?_
      refine asg rfl rfl ?_
      refine nl ?_
      have es_7 : plainTo (zipped fs_FindCoordinatorRequest v false T) v 3 = plainTo (zipped fs_FindCoordinatorRequest v false T) v 2 := (piece_no2 (fs := fs_FindCoordinatorRequest) (v := v) (flex := false) (t := T) (k := 2) (by decide) (has_no (show v < (4 : Int) ∨ ((0 : Int) ≤ (-1) ∧ (-1) < v) by omega)))
      have eX_8 : D ++ plainTo (zipped fs_FindCoordinatorRequest v false T) v 2 = D ++ plainTo (zipped fs_FindCoordinatorRequest v false T) v 3 := by rw [es_7]
      have rx_9 := rj_2
      rw [eX_8] at rx_9 ⊢
      have eP_10 : D ++ plainTo (zipped fs_FindCoordinatorRequest v false T) v 3 = D ++ partB fs_FindCoordinatorRequest v false T := by rw [partB_false]; rfl
      have rp_11 := rx_9
      rw [eP_10] at rp_11 ⊢
      exact rT rfl rfl le_3 (fun _ _ h => h) (OutB.of rp_11 rfl)
  · skip
    refine gs rfl rfl rfl rfl ?_
    refine gs rfl rfl rfl rfl ?_
    refine pk rfl rfl rfl rfl ?_
    refine nl ?_
    refine cF rfl ?_
    refine skt ?_
    refine sq ?_
    refine sr ?_
    refine mv rfl rfl ?_
    refine ge rfl rfl rfl ?_
    refine nl ?_
    refine cutT (fun l' H' L' => ∃ (aj_12 : Option Addr), ∃ (mj_12 : Nat), ∃ (cj_12 : Nat), ∃ (Nj_12 : Chunk), [(0, .pointer (some ⟨b, 0, none⟩)), (1, .slice aj_12 mj_12 cj_12), (5, .int .i16 v), (6, .bool (decide ((3 : Int) ≤ v)))] = l' ∧ Nj_12 :: L = L' ∧ Row 5 1 aj_12 mj_12 cj_12 (bytesOf (D ++ plainTo (zipped fs_FindCoordinatorRequest v false T) v 2)) Nj_12 ∧ mj_12 = (D ++ plainTo (zipped fs_FindCoordinatorRequest v false T) v 2).length) ?_ (fun l' H' L' le_13 hI => ?_)
    · skip
      refine cd rfl (fun h38 => ?_) (fun h38 => ?_)
      · skip
        refine sr ?_
        refine mv rfl rfl ?_
        refine nc rfl rfl ?_
        refine fa0 F82_2 rfl rfl ?_
        refine ld (Says.fz hv) Try.isAgg80 rfl (Nat.zero_add _).symm rfl rfl ?_
        refine asg rfl rfl ?_
        refine nl ?_
        refine rg ?_
        refine mv rfl rfl ?_
        refine mv rfl rfl ?_
        have es_14 : plainTo (zipped fs_FindCoordinatorRequest v false T) v 1 = plainTo (zipped fs_FindCoordinatorRequest v false T) v 0 := (piece_no2 (fs := fs_FindCoordinatorRequest) (v := v) (flex := false) (t := T) (k := 0) (by decide) (has_no (show v < (0 : Int) ∨ ((0 : Int) ≤ 3 ∧ 3 < v) by omega)))
        have ok45 := hok.get 1 (by decide) (has_yes (show (1 : Int) ≤ v by omega) (show ((-1) : Int) < 0 ∨ v ≤ (-1) by omega))
        have e_15 : D ++ (fixed (IntKind.i8.wrap (T.at 1).n) 1) = D ++ plainTo (zipped fs_FindCoordinatorRequest v false T) v 2 := fold_first (fs := fs_FindCoordinatorRequest) (v := v) (flex := false) (t := T) (B := D) 1 (by rw [es_14]; rfl) (by decide) (by decide) (has_yes (show (1 : Int) ≤ v by omega) (show ((-1) : Int) < 0 ∨ v ≤ (-1) by omega)) ((FB_int (f := (fs_FindCoordinatorRequest[1]'(by decide))) (by decide) (by decide)).trans (fixed_i8 _).symm)
        have hs45 := fold_size e_15 (by decide) hb
        refine cl rfl rfl rfl (OutK.cast (k_AppendInt8 (u := IntKind.i8.wrap (T.at 1).n) hr hs45) e_15) rfl (fun v_ H1 L1 hle hR => ?_)
        obtain ⟨rfl, a45, c45, N45, rfl, rfl, h45⟩ := hR
        have r45 := h45.1
        refine asg rfl rfl ?_
        refine nN ?_
        refine fun a_ w_ hA hw => ⟨_, _, _, hA.sub ?_, (Fz.le.refl _), hw, _, _, _, _, rfl, rfl, r45, rfl⟩
        exact (.cons rfl (.cons rfl (.cons rfl (.cons rfl (.nil _)))))
      · skip
        refine skN ?_
        have es_16 : plainTo (zipped fs_FindCoordinatorRequest v false T) v 2 = plainTo (zipped fs_FindCoordinatorRequest v false T) v 0 := ((piece_no2 (fs := fs_FindCoordinatorRequest) (v := v) (flex := false) (t := T) (k := 1) (by decide) (has_no (show v < (1 : Int) ∨ ((0 : Int) ≤ (-1) ∧ (-1) < v) by omega))).trans (piece_no2 (fs := fs_FindCoordinatorRequest) (v := v) (flex := false) (t := T) (k := 0) (by decide) (has_no (show v < (0 : Int) ∨ ((0 : Int) ≤ 3 ∧ 3 < v) by omega))))
        have eX_17 : D = D ++ plainTo (zipped fs_FindCoordinatorRequest v false T) v 2 := by rw [es_16, plain0, List.append_nil]
        refine fun a_ w_ hA hw => ⟨_, _, _, hA.sub ?_, (Fz.le.refl _), hw, _, _, _, _, rfl, rfl, (by rw [← eX_17]; exact hr), (by rw [← eX_17])⟩
        exact (.cons rfl (.cons rfl (.cons rfl (.cons rfl (.nil _)))))
    · skip
      obtain ⟨aj_12, mj_12, cj_12, Nj_12, rfl, rfl, pj0, pj1⟩ := hI
      subst pj1
      have rj_12 := pj0
      refine sq ?_
      refine sr ?_
      refine mv rfl rfl ?_
      refine ge rfl rfl rfl ?_
      refine nl ?_
      refine cdF rfl (by omega) ?_
      refine skt ?_
      refine sq ?_
      refine sr ?_
      refine mv rfl rfl ?_
      refine nl ?_
      refine cdF rfl (by omega) ?_
      refine skt ?_
      refine sr ?_
      refine mv rfl rfl ?_
      refine asg rfl rfl ?_
      refine nl ?_
      have es_18 : plainTo (zipped fs_FindCoordinatorRequest v false T) v 3 = plainTo (zipped fs_FindCoordinatorRequest v false T) v 2 := (piece_no2 (fs := fs_FindCoordinatorRequest) (v := v) (flex := false) (t := T) (k := 2) (by decide) (has_no (show v < (4 : Int) ∨ ((0 : Int) ≤ (-1) ∧ (-1) < v) by omega)))
      have eX_19 : D ++ plainTo (zipped fs_FindCoordinatorRequest v false T) v 2 = D ++ plainTo (zipped fs_FindCoordinatorRequest v false T) v 3 := by rw [es_18]
      have rx_20 := rj_12
      rw [eX_19] at rx_20 ⊢
      have eP_21 : D ++ plainTo (zipped fs_FindCoordinatorRequest v false T) v 3 = D ++ partB fs_FindCoordinatorRequest v false T := by rw [partB_false]; rfl
      have rp_22 := rx_20
      rw [eP_21] at rp_22 ⊢
      exact rT rfl rfl le_13 (fun _ _ h => h) (OutB.of rp_22 rfl)
theorem app_FindCoordinatorRequest_t {H : Fz} {L : Own} {a : Option Addr} {cap b : Nat} {D : List UInt8} {N : Chunk} {cs : List Value} {T : Tr} {v : Int} (hr : Row 5 1 a D.length cap (bytesOf D) N) (hv : H.at b 0 cs) (hA : At_FindCoordinatorRequest v H T cs) (hok : OkP fs_FindCoordinatorRequest v T) (h0 : 3 ≤ v) (h1 : v ≤ 6) (hb : D.length + (partB fs_FindCoordinatorRequest v true T).length ≤ LIM) :
    Fn Try.prog 78 [.pointer (some ⟨b, 0, none⟩), .slice a D.length cap] H (N :: L) (fun r H' L' => OutB 5 L (D ++ partB fs_FindCoordinatorRequest v true T) r L') := by
  obtain ⟨a2, c2, mt, rfl, hf0, hf1⟩ := hA
  refine Fn.mk Try.call78 Try.func78 rfl Try.ntmps78 rfl ?_
  refine sr ?_
  refine asg rfl rfl ?_
  refine nl ?_
  refine sr ?_
  refine mv rfl rfl ?_
  refine nc rfl rfl ?_
  refine fa0 F82_0 rfl rfl ?_
  refine ld (Says.fz hv) Try.isAgg45 rfl (Nat.zero_add _).symm rfl rfl ?_
  refine asg rfl rfl ?_
  refine nl ?_
  refine sr ?_
  refine mv rfl rfl ?_
  refine nl ?_
  refine sr ?_
  refine mv rfl rfl ?_
  refine ge rfl rfl rfl ?_
  refine asg rfl rfl ?_
  refine nl ?_
  refine sr ?_
  refine mv rfl rfl ?_
  refine nl ?_
  refine sq ?_
  refine sr ?_
  refine mv rfl rfl ?_
  refine ge rfl rfl rfl ?_
  refine mv rfl rfl ?_
  refine spl (t := 22) rfl (fun h22 => ?_) (fun h22 => ?_)
  · skip
    refine gr rfl rfl ?_
    refine mv rfl rfl ?_
    refine gr rfl rfl ?_
    refine le rfl rfl rfl ?_
    refine pk rfl rfl rfl rfl ?_
    refine nl ?_
    refine cutT (fun l' H' L' => ∃ (aj_1 : Option Addr), ∃ (mj_1 : Nat), ∃ (cj_1 : Nat), ∃ (Nj_1 : Chunk), [(0, .pointer (some ⟨b, 0, none⟩)), (1, .slice aj_1 mj_1 cj_1), (5, .int .i16 v), (6, .bool (decide ((3 : Int) ≤ v)))] = l' ∧ Nj_1 :: L = L' ∧ Row 5 1 aj_1 mj_1 cj_1 (bytesOf (D ++ plainTo (zipped fs_FindCoordinatorRequest v true T) v 1)) Nj_1 ∧ mj_1 = (D ++ plainTo (zipped fs_FindCoordinatorRequest v true T) v 1).length) ?_ (fun l' H' L' le_2 hI => ?_)
    · skip
      refine cd rfl (fun h25 => ?_) (fun h25 => ?_)
      · skip
        refine sr ?_
        refine mv rfl rfl ?_
        refine nc rfl rfl ?_
        refine fa0 F82_1 rfl rfl ?_
        refine ld (Says.fz hv) Try.isAgg9 rfl (Nat.zero_add _).symm rfl rfl ?_
        refine asg rfl rfl ?_
        refine nl ?_
        refine sr ?_
        refine mv rfl rfl ?_
        refine nl ?_
        refine cdT rfl (by omega) ?_
        refine rg ?_
        refine mv rfl rfl ?_
        refine mv rfl rfl ?_
        have ok33 := hok.get 0 (by decide) (has_yes (show (0 : Int) ≤ v by omega) (show (3 : Int) < 0 ∨ v ≤ 3 by omega))
        have nn33 := ok33.nn (by decide) (by decide)
        have e_3 : D ++ (counted true false (T.at 0).s.length 2 ++ (T.at 0).s) = D ++ plainTo (zipped fs_FindCoordinatorRequest v true T) v 1 := fold_first (fs := fs_FindCoordinatorRequest) (v := v) (flex := true) (t := T) (B := D) 0 rfl (by decide) (by decide) (has_yes (show (0 : Int) ≤ v by omega) (show (3 : Int) < 0 ∨ v ≤ 3 by omega)) (by rw [FB_text (f := (fs_FindCoordinatorRequest[0]'(by decide))) (by decide) (by decide) ok33, sT_nn nn33, nn33])
        have hs33 := fold_size e_3 (by decide) hb
        refine cl rfl rfl rfl (OutK.cast (k_AppendCompactString (x := (T.at 0).s) (by have := ok33.s (Or.inl rfl); omega) hr hs33) e_3) rfl (fun v_ H1 L1 hle hR => ?_)
        obtain ⟨rfl, a33, c33, N33, rfl, rfl, h33⟩ := hR
        have r33 := h33.1
        refine asg rfl rfl ?_
        refine nN ?_
        refine fun a_ w_ hA hw => ⟨_, _, _, hA.sub ?_, (Fz.le.refl _), hw, _, _, _, _, rfl, rfl, r33, rfl⟩
        exact (.cons rfl (.cons rfl (.cons rfl (.cons rfl (.nil _)))))
      · skip
        refine skN ?_
        have es_4 : plainTo (zipped fs_FindCoordinatorRequest v true T) v 1 = plainTo (zipped fs_FindCoordinatorRequest v true T) v 0 := (piece_no2 (fs := fs_FindCoordinatorRequest) (v := v) (flex := true) (t := T) (k := 0) (by decide) (has_no (show v < (0 : Int) ∨ ((0 : Int) ≤ 3 ∧ 3 < v) by omega)))
        have eX_5 : D = D ++ plainTo (zipped fs_FindCoordinatorRequest v true T) v 1 := by rw [es_4, plain0, List.append_nil]
        refine fun a_ w_ hA hw => ⟨_, _, _, hA.sub ?_, (Fz.le.refl _), hw, _, _, _, _, rfl, rfl, (by rw [← eX_5]; exact hr), (by rw [← eX_5])⟩
        exact (.cons rfl (.cons rfl (.cons rfl (.cons rfl (.nil _)))))
    · skip
      obtain ⟨aj_1, mj_1, cj_1, Nj_1, rfl, rfl, pj0, pj1⟩ := hI
      subst pj1
      have rj_1 := pj0
      refine sq ?_
      refine sr ?_
      refine mv rfl rfl ?_
      refine ge rfl rfl rfl ?_
      refine nl ?_
      refine cdT rfl (by omega) ?_
      refine sr ?_
      refine mv rfl rfl ?_
      refine nc rfl rfl ?_
      refine fa0 F82_2 rfl rfl ?_
      refine ld (Says.fz (hv.mono le_2)) Try.isAgg80 rfl (Nat.zero_add _).symm rfl rfl ?_
      refine asg rfl rfl ?_
      refine nl ?_
      refine rg ?_
      refine mv rfl rfl ?_
      refine mv rfl rfl ?_
      have ok45 := hok.get 1 (by decide) (has_yes (show (1 : Int) ≤ v by omega) (show ((-1) : Int) < 0 ∨ v ≤ (-1) by omega))
      have e_6 : D ++ plainTo (zipped fs_FindCoordinatorRequest v true T) v 1 ++ (fixed (IntKind.i8.wrap (T.at 1).n) 1) = D ++ plainTo (zipped fs_FindCoordinatorRequest v true T) v 2 := fold_yes (fs := fs_FindCoordinatorRequest) (v := v) (flex := true) (t := T) (B := D) 1 (by decide) (by decide) (has_yes (show (1 : Int) ≤ v by omega) (show ((-1) : Int) < 0 ∨ v ≤ (-1) by omega)) ((FB_int (f := (fs_FindCoordinatorRequest[1]'(by decide))) (by decide) (by decide)).trans (fixed_i8 _).symm)
      have hs45 := fold_size e_6 (by decide) hb
      refine cl rfl rfl rfl (OutK.cast (k_AppendInt8 (u := IntKind.i8.wrap (T.at 1).n) rj_1 hs45) e_6) rfl (fun v_ H1 L1 hle hR => ?_)
      obtain ⟨rfl, a45, c45, N45, rfl, rfl, h45⟩ := hR
      have r45 := h45.1
      refine asg rfl rfl ?_
      refine nl ?_
      refine sq ?_
      refine sr ?_
      refine mv rfl rfl ?_
      refine ge rfl rfl rfl ?_
      refine nl ?_
      refine cutT (fun l' H' L' => ∃ (aj_7 : Option Addr), ∃ (mj_7 : Nat), ∃ (cj_7 : Nat), ∃ (Nj_7 : Chunk), [(0, .pointer (some ⟨b, 0, none⟩)), (1, .slice aj_7 mj_7 cj_7), (6, .bool (decide ((3 : Int) ≤ v)))] = l' ∧ Nj_7 :: L = L' ∧ Row 5 1 aj_7 mj_7 cj_7 (bytesOf (D ++ plainTo (zipped fs_FindCoordinatorRequest v true T) v 3)) Nj_7 ∧ mj_7 = (D ++ plainTo (zipped fs_FindCoordinatorRequest v true T) v 3).length) ?_ (fun l' H' L' le_8 hI => ?_)
      · skip
        refine cd rfl (fun h47 => ?_) (fun h47 => ?_)
        · skip
          refine sr ?_
          refine mv rfl rfl ?_
          refine nc rfl rfl ?_
          refine fa0 F82_3 rfl rfl ?_
          refine ld (Says.fz (hv.mono le_2)) Try.isAgg74 rfl (Nat.zero_add _).symm rfl rfl ?_
          refine asg rfl rfl ?_
          refine nl ?_
          refine sq ?_
          refine sr ?_
          refine mv rfl rfl ?_
          refine nl ?_
          refine cdT rfl (by omega) ?_
          refine rg ?_
          refine mv rfl rfl ?_
          refine mv rfl rfl ?_
          refine ls Try.runUnderlying74 rfl rfl ?_
          have ok56 := hok.get 2 (by decide) (has_yes (show (4 : Int) ≤ v by omega) (show ((-1) : Int) < 0 ∨ v ≤ (-1) by omega))
          have nn56 := ok56.nn (by decide) (by decide)
          have ll56 := lT_len (ok56.len rfl)
          have e_9 : D ++ plainTo (zipped fs_FindCoordinatorRequest v true T) v 2 ++ (counted true false (lT (T.at 2)).length 4 ++ (lT (T.at 2)).flatMap (GOf (fs_FindCoordinatorRequest[2]'(by decide)) v true)) = D ++ plainTo (zipped fs_FindCoordinatorRequest v true T) v 3 := fold_yes (fs := fs_FindCoordinatorRequest) (v := v) (flex := true) (t := T) (B := D) 2 (by decide) (by decide) (has_yes (show (4 : Int) ≤ v by omega) (show ((-1) : Int) < 0 ∨ v ≤ (-1) by omega)) (by rw [FB_list (f := (fs_FindCoordinatorRequest[2]'(by decide))) (by decide) (by decide) ok56, nn56])
          have hs56 := fold_size e_9 (by decide) hb
          have hc56 : (D ++ plainTo (zipped fs_FindCoordinatorRequest v true T) v 2).length + (counted true false (lT (T.at 2)).length 4).length ≤ LIM := by have h := hs56; simp only [List.length_append] at h ⊢; omega
          refine cl rfl rfl rfl (OutK.cast (k_AppendCompactArrayLen (n := (lT (T.at 2)).length) (by omega) r45 hc56) (show _ = D ++ plainTo (zipped fs_FindCoordinatorRequest v true T) v 2 ++ (counted true false (lT (T.at 2)).length 4) from rfl)) rfl (fun v_ H1 L1 hle hR => ?_)
          obtain ⟨rfl, a56, c56, N56, rfl, rfl, h56⟩ := hR
          have r56 := h56.1
          refine asg rfl rfl ?_
          refine nl ?_
          refine sr ?_
          refine mv rfl rfl ?_
          refine ls Try.runUnderlying74 rfl rfl ?_
          refine mv rfl rfl ?_
          refine nl ?_
          refine fr ((lT (T.at 2)).length) (fun k1 l' H' L' => ∃ (a_k1 : Option Addr), ∃ (m_k1 : Nat), ∃ (c_k1 : Nat), ∃ (N_k1 : Chunk), [(0, .pointer (some ⟨b, 0, none⟩)), (1, .slice a_k1 m_k1 c_k1), (6, .bool (decide ((3 : Int) ≤ v))), (9, .slice a2 (lT (T.at 2)).length c2), (62, .int .i64 ((lT (T.at 2)).length : Int))] = l' ∧ N_k1 :: L = L' ∧ Row 5 1 a_k1 m_k1 c_k1 (bytesOf (D ++ plainTo (zipped fs_FindCoordinatorRequest v true T) v 2 ++ (counted true false (lT (T.at 2)).length 4) ++ ((lT (T.at 2)).take k1).flatMap (GOf (fs_FindCoordinatorRequest[2]'(by decide)) v true))) N_k1 ∧ m_k1 = (D ++ plainTo (zipped fs_FindCoordinatorRequest v true T) v 2 ++ (counted true false (lT (T.at 2)).length 4) ++ ((lT (T.at 2)).take k1).flatMap (GOf (fs_FindCoordinatorRequest[2]'(by decide)) v true)).length) [(0, .pointer (some ⟨b, 0, none⟩)), (1, .slice _ _ _), (6, .bool (decide ((3 : Int) ≤ v))), (9, .slice a2 (lT (T.at 2)).length c2), (62, .int .i64 ((lT (T.at 2)).length : Int))] (fun k1 l' H' L' h => ?_) (by omega) rfl (.cons rfl (.cons rfl (.cons rfl (.cons rfl (.cons rfl (.nil _)))))) ⟨_, _, _, _, rfl, rfl, (by rw [List.take_zero, List.flatMap_nil, List.append_nil]; exact r56), (by rw [List.take_zero, List.flatMap_nil, List.append_nil])⟩ rfl rfl rfl rfl rfl (fun k1 l' H' L' hk1 le_10 hI => ?_) (fun l' H' L' le_11 hI => ?_)
          · obtain ⟨a_k1, m_k1, c_k1, N_k1, rfl, _⟩ := h; exact ⟨rfl, rfl, rfl, rfl⟩
          · skip
            obtain ⟨a_k1, m_k1, c_k1, N_k1, rfl, rfl, pk10, pk11⟩ := hI
            subst pk11
            refine sr ?_
            refine mv rfl rfl ?_
            refine asg rfl rfl ?_
            refine nl ?_
            refine sr ?_
            refine mv rfl rfl ?_
            refine mv rfl rfl ?_
            obtain ⟨b_12, o_13, e_14, g_15⟩ := (hf0.mono RText.mono (le_2.trans le_10)).rows.at_ (ne_nil_of_lt hk1)
            obtain ⟨cs_16, hA_17, hc_18⟩ := g_15 k1 hk1
            refine ix2 Try.runUnderlying74 Try.sizeOf9 rfl e_14 rfl rfl hk1 rfl ?_
            obtain rfl := hA_17
            refine ld (Says.fz hc_18) Try.isAgg9 rfl (Nat.add_zero _).symm rfl rfl ?_
            refine asg rfl rfl ?_
            refine nl ?_
            refine sr ?_
            refine mv rfl rfl ?_
            refine nl ?_
            refine cdT rfl (by omega) ?_
            refine rg ?_
            refine mv rfl rfl ?_
            refine mv rfl rfl ?_
            have oe73 := (ok56.el rfl _ (lT_mem (List.getElem_mem hk1))).1 (by decide)
            have hp73 : (GOf (fs_FindCoordinatorRequest[2]'(by decide)) v true) ((lT (T.at 2))[k1]) = counted true false ((lT (T.at 2))[k1]).s.length 2 ++ ((lT (T.at 2))[k1]).s := G_text (f := (fs_FindCoordinatorRequest[2]'(by decide))) (by decide) oe73
            have hs73 := el_size hs56 hk1 hp73
            have ee73 := el_end (B0 := D ++ plainTo (zipped fs_FindCoordinatorRequest v true T) v 2 ++ (counted true false (lT (T.at 2)).length 4)) hk1 hp73
            refine cl rfl rfl rfl (OutK.cast (k_AppendCompactString (x := ((lT (T.at 2))[k1]).s) (by omega) pk10 hs73) ee73) rfl (fun v_ H1 L1 hle hR => ?_)
            obtain ⟨rfl, a73, c73, N73, rfl, rfl, h73⟩ := hR
            have r73 := h73.1
            refine asg rfl rfl ?_
            refine nN ?_
            refine Nb ?_
            refine fun a_ w_ hA hw => ⟨_, _, _, hA.sub ?_, le_10, hw, _, rfl, _, _, _, _, rfl, rfl, r73, rfl⟩
            exact (.cons rfl (.cons rfl (.cons rfl (.cons rfl (.cons rfl (.cons rfl (.nil _)))))))
          · skip
            obtain ⟨a_k1, m_k1, c_k1, N_k1, rfl, rfl, pk10, pk11⟩ := hI
            refine toNn ?_
            have eL56 : D ++ plainTo (zipped fs_FindCoordinatorRequest v true T) v 2 ++ (counted true false (lT (T.at 2)).length 4) ++ ((lT (T.at 2)).take (lT (T.at 2)).length).flatMap (GOf (fs_FindCoordinatorRequest[2]'(by decide)) v true) = D ++ plainTo (zipped fs_FindCoordinatorRequest v true T) v 3 := by rw [List.take_length, List.append_assoc]; exact e_9
            rw [eL56] at pk10 pk11
            subst pk11
            refine fun a_ w_ hA hw => ⟨_, _, _, hA.sub ?_, le_11, hw, _, _, _, _, rfl, rfl, pk10, rfl⟩
            exact (.cons rfl (.cons rfl (.cons rfl (.nil _))))
        · skip
          refine skN ?_
          have es_19 : plainTo (zipped fs_FindCoordinatorRequest v true T) v 3 = plainTo (zipped fs_FindCoordinatorRequest v true T) v 2 := (piece_no2 (fs := fs_FindCoordinatorRequest) (v := v) (flex := true) (t := T) (k := 2) (by decide) (has_no (show v < (4 : Int) ∨ ((0 : Int) ≤ (-1) ∧ (-1) < v) by omega)))
          have eX_20 : D ++ plainTo (zipped fs_FindCoordinatorRequest v true T) v 2 = D ++ plainTo (zipped fs_FindCoordinatorRequest v true T) v 3 := by rw [es_19]
          refine fun a_ w_ hA hw => ⟨_, _, _, hA.sub ?_, (Fz.le.refl _), hw, _, _, _, _, rfl, rfl, (by rw [← eX_20]; exact r45), (by rw [← eX_20])⟩
          exact (.cons rfl (.cons rfl (.cons rfl (.nil _))))
      · skip
        obtain ⟨aj_7, mj_7, cj_7, Nj_7, rfl, rfl, pj0, pj1⟩ := hI
        subst pj1
        have rj_7 := pj0
        refine sq ?_
        refine sr ?_
        refine mv rfl rfl ?_
        refine nl ?_
        refine cdT rfl (by omega) ?_
        refine sr ?_
        refine mv rfl rfl ?_
        refine mv rfl rfl ?_
        refine nc rfl rfl ?_
        refine fa0 F82_4 rfl rfl ?_
        refine cl rfl rfl rfl (t_lenU (j := 4) (hv.mono (le_2.trans le_8)) rfl (hf1.mono (le_2.trans le_8))) rfl (fun v_ H1 L1 hle hR => ?_)
        obtain ⟨rfl, rfl, rfl⟩ := hR
        have hu83 := hok.u
        have hul83 := hu83.2.1
        obtain ⟨hz83a, hz83b⟩ := part_size_plain (by decide) hu83 hb
        refine cv Try.runUnderlying3 Try.runUnderlying60 rfl (w32u (by omega) (by omega)) rfl ?_
        refine ad rfl rfl ((w32u (by omega) (by omega)).trans (Int.zero_add _)) rfl ?_
        refine cl rfl rfl rfl (k_AppendUvarint (n := T.u.length) (by omega) rj_7 hz83a) rfl (fun v_ H1 L1 hle hR => ?_)
        obtain ⟨rfl, a86, c86, N86, rfl, rfl, h86⟩ := hR
        have r86 := h86.1
        refine asg rfl rfl ?_
        refine nl ?_
        refine rg ?_
        refine mv rfl rfl ?_
        refine nc rfl rfl ?_
        refine fa0 F82_4 rfl rfl ?_
        refine mv rfl rfl ?_
        refine cl rfl rfl rfl (t_append_each (j := 4) (hv.mono (le_2.trans le_8)) rfl (hf1.mono (le_2.trans le_8)) (by omega) r86 (fun p hp => by have := hu83.2.2 p hp; omega) hz83b) rfl (fun v_ H1 L1 le_21 hR => ?_)
        obtain ⟨a91, c91, N91, rfl, rfl, h91⟩ := hR
        have r91 := h91.1
        have eP_22 : D ++ plainTo (zipped fs_FindCoordinatorRequest v true T) v 3 ++ uvar T.u.length ++ T.u.flatMap tagU = D ++ partB fs_FindCoordinatorRequest v true T := part_close (B := D) (by decide) hu83
        rw [eP_22] at r91 ⊢
        refine asg rfl rfl ?_
        refine nl ?_
        refine sr ?_
        refine mv rfl rfl ?_
        refine asg rfl rfl ?_
        refine nl ?_
        exact rT rfl rfl (le_2.trans (le_8.trans le_21)) (fun _ _ h => h) (OutB.of r91 rfl)
  · skip
    refine gs rfl rfl rfl rfl ?_
    refine gs rfl rfl rfl rfl ?_
    refine pk rfl rfl rfl rfl ?_
    refine nl ?_
    refine cF rfl ?_
    refine skt ?_
    refine sq ?_
    refine sr ?_
    refine mv rfl rfl ?_
    refine ge rfl rfl rfl ?_
    refine nl ?_
    refine cdT rfl (by omega) ?_
    refine sr ?_
    refine mv rfl rfl ?_
    refine nc rfl rfl ?_
    refine fa0 F82_2 rfl rfl ?_
    refine ld (Says.fz hv) Try.isAgg80 rfl (Nat.zero_add _).symm rfl rfl ?_
    refine asg rfl rfl ?_
    refine nl ?_
    refine rg ?_
    refine mv rfl rfl ?_
    refine mv rfl rfl ?_
    have es_23 : plainTo (zipped fs_FindCoordinatorRequest v true T) v 1 = plainTo (zipped fs_FindCoordinatorRequest v true T) v 0 := (piece_no2 (fs := fs_FindCoordinatorRequest) (v := v) (flex := true) (t := T) (k := 0) (by decide) (has_no (show v < (0 : Int) ∨ ((0 : Int) ≤ 3 ∧ 3 < v) by omega)))
    have ok45 := hok.get 1 (by decide) (has_yes (show (1 : Int) ≤ v by omega) (show ((-1) : Int) < 0 ∨ v ≤ (-1) by omega))
    have e_24 : D ++ (fixed (IntKind.i8.wrap (T.at 1).n) 1) = D ++ plainTo (zipped fs_FindCoordinatorRequest v true T) v 2 := fold_first (fs := fs_FindCoordinatorRequest) (v := v) (flex := true) (t := T) (B := D) 1 (by rw [es_23]; rfl) (by decide) (by decide) (has_yes (show (1 : Int) ≤ v by omega) (show ((-1) : Int) < 0 ∨ v ≤ (-1) by omega)) ((FB_int (f := (fs_FindCoordinatorRequest[1]'(by decide))) (by decide) (by decide)).trans (fixed_i8 _).symm)
    have hs45 := fold_size e_24 (by decide) hb
    refine cl rfl rfl rfl (OutK.cast (k_AppendInt8 (u := IntKind.i8.wrap (T.at 1).n) hr hs45) e_24) rfl (fun v_ H1 L1 hle hR => ?_)
    obtain ⟨rfl, a45, c45, N45, rfl, rfl, h45⟩ := hR
    have r45 := h45.1
    refine asg rfl rfl ?_
    refine nl ?_
    refine sq ?_
    refine sr ?_
    refine mv rfl rfl ?_
    refine ge rfl rfl rfl ?_
    refine nl ?_
    refine cutT (fun l' H' L' => ∃ (aj_25 : Option Addr), ∃ (mj_25 : Nat), ∃ (cj_25 : Nat), ∃ (Nj_25 : Chunk), [(0, .pointer (some ⟨b, 0, none⟩)), (1, .slice aj_25 mj_25 cj_25), (6, .bool (decide ((3 : Int) ≤ v)))] = l' ∧ Nj_25 :: L = L' ∧ Row 5 1 aj_25 mj_25 cj_25 (bytesOf (D ++ plainTo (zipped fs_FindCoordinatorRequest v true T) v 3)) Nj_25 ∧ mj_25 = (D ++ plainTo (zipped fs_FindCoordinatorRequest v true T) v 3).length) ?_ (fun l' H' L' le_26 hI => ?_)
    · skip
      refine cd rfl (fun h47 => ?_) (fun h47 => ?_)
      · skip
        refine sr ?_
        refine mv rfl rfl ?_
        refine nc rfl rfl ?_
        refine fa0 F82_3 rfl rfl ?_
        refine ld (Says.fz hv) Try.isAgg74 rfl (Nat.zero_add _).symm rfl rfl ?_
        refine asg rfl rfl ?_
        refine nl ?_
        refine sq ?_
        refine sr ?_
        refine mv rfl rfl ?_
        refine nl ?_
        refine cdT rfl (by omega) ?_
        refine rg ?_
        refine mv rfl rfl ?_
        refine mv rfl rfl ?_
        refine ls Try.runUnderlying74 rfl rfl ?_
        have ok56 := hok.get 2 (by decide) (has_yes (show (4 : Int) ≤ v by omega) (show ((-1) : Int) < 0 ∨ v ≤ (-1) by omega))
        have nn56 := ok56.nn (by decide) (by decide)
        have ll56 := lT_len (ok56.len rfl)
        have e_27 : D ++ plainTo (zipped fs_FindCoordinatorRequest v true T) v 2 ++ (counted true false (lT (T.at 2)).length 4 ++ (lT (T.at 2)).flatMap (GOf (fs_FindCoordinatorRequest[2]'(by decide)) v true)) = D ++ plainTo (zipped fs_FindCoordinatorRequest v true T) v 3 := fold_yes (fs := fs_FindCoordinatorRequest) (v := v) (flex := true) (t := T) (B := D) 2 (by decide) (by decide) (has_yes (show (4 : Int) ≤ v by omega) (show ((-1) : Int) < 0 ∨ v ≤ (-1) by omega)) (by rw [FB_list (f := (fs_FindCoordinatorRequest[2]'(by decide))) (by decide) (by decide) ok56, nn56])
        have hs56 := fold_size e_27 (by decide) hb
        have hc56 : (D ++ plainTo (zipped fs_FindCoordinatorRequest v true T) v 2).length + (counted true false (lT (T.at 2)).length 4).length ≤ LIM := by have h := hs56; simp only [List.length_append] at h ⊢; omega
        refine cl rfl rfl rfl (OutK.cast (k_AppendCompactArrayLen (n := (lT (T.at 2)).length) (by omega) r45 hc56) (show _ = D ++ plainTo (zipped fs_FindCoordinatorRequest v true T) v 2 ++ (counted true false (lT (T.at 2)).length 4) from rfl)) rfl (fun v_ H1 L1 hle hR => ?_)
        obtain ⟨rfl, a56, c56, N56, rfl, rfl, h56⟩ := hR
        have r56 := h56.1
        refine asg rfl rfl ?_
        refine nl ?_
        refine sr ?_
        refine mv rfl rfl ?_
        refine ls Try.runUnderlying74 rfl rfl ?_
        refine mv rfl rfl ?_
        refine nl ?_
        refine fr ((lT (T.at 2)).length) (fun k2 l' H' L' => ∃ (a_k2 : Option Addr), ∃ (m_k2 : Nat), ∃ (c_k2 : Nat), ∃ (N_k2 : Chunk), [(0, .pointer (some ⟨b, 0, none⟩)), (1, .slice a_k2 m_k2 c_k2), (6, .bool (decide ((3 : Int) ≤ v))), (9, .slice a2 (lT (T.at 2)).length c2), (62, .int .i64 ((lT (T.at 2)).length : Int))] = l' ∧ N_k2 :: L = L' ∧ Row 5 1 a_k2 m_k2 c_k2 (bytesOf (D ++ plainTo (zipped fs_FindCoordinatorRequest v true T) v 2 ++ (counted true false (lT (T.at 2)).length 4) ++ ((lT (T.at 2)).take k2).flatMap (GOf (fs_FindCoordinatorRequest[2]'(by decide)) v true))) N_k2 ∧ m_k2 = (D ++ plainTo (zipped fs_FindCoordinatorRequest v true T) v 2 ++ (counted true false (lT (T.at 2)).length 4) ++ ((lT (T.at 2)).take k2).flatMap (GOf (fs_FindCoordinatorRequest[2]'(by decide)) v true)).length) [(0, .pointer (some ⟨b, 0, none⟩)), (1, .slice _ _ _), (6, .bool (decide ((3 : Int) ≤ v))), (9, .slice a2 (lT (T.at 2)).length c2), (62, .int .i64 ((lT (T.at 2)).length : Int))] (fun k2 l' H' L' h => ?_) (by omega) rfl (.cons rfl (.cons rfl (.cons rfl (.cons rfl (.cons rfl (.nil _)))))) ⟨_, _, _, _, rfl, rfl, (by rw [List.take_zero, List.flatMap_nil, List.append_nil]; exact r56), (by rw [List.take_zero, List.flatMap_nil, List.append_nil])⟩ rfl rfl rfl rfl rfl (fun k2 l' H' L' hk2 le_28 hI => ?_) (fun l' H' L' le_29 hI => ?_)
        · obtain ⟨a_k2, m_k2, c_k2, N_k2, rfl, _⟩ := h; exact ⟨rfl, rfl, rfl, rfl⟩
        · skip
          obtain ⟨a_k2, m_k2, c_k2, N_k2, rfl, rfl, pk20, pk21⟩ := hI
          subst pk21
          refine sr ?_
          refine mv rfl rfl ?_
          refine asg rfl rfl ?_
          refine nl ?_
          refine sr ?_
          refine mv rfl rfl ?_
          refine mv rfl rfl ?_
          obtain ⟨b_30, o_31, e_32, g_33⟩ := (hf0.mono RText.mono le_28).rows.at_ (ne_nil_of_lt hk2)
          obtain ⟨cs_34, hA_35, hc_36⟩ := g_33 k2 hk2
          refine ix2 Try.runUnderlying74 Try.sizeOf9 rfl e_32 rfl rfl hk2 rfl ?_
          obtain rfl := hA_35
          refine ld (Says.fz hc_36) Try.isAgg9 rfl (Nat.add_zero _).symm rfl rfl ?_
          refine asg rfl rfl ?_
          refine nl ?_
          refine sr ?_
          refine mv rfl rfl ?_
          refine nl ?_
          refine cdT rfl (by omega) ?_
          refine rg ?_
          refine mv rfl rfl ?_
          refine mv rfl rfl ?_
          have oe73 := (ok56.el rfl _ (lT_mem (List.getElem_mem hk2))).1 (by decide)
          have hp73 : (GOf (fs_FindCoordinatorRequest[2]'(by decide)) v true) ((lT (T.at 2))[k2]) = counted true false ((lT (T.at 2))[k2]).s.length 2 ++ ((lT (T.at 2))[k2]).s := G_text (f := (fs_FindCoordinatorRequest[2]'(by decide))) (by decide) oe73
          have hs73 := el_size hs56 hk2 hp73
          have ee73 := el_end (B0 := D ++ plainTo (zipped fs_FindCoordinatorRequest v true T) v 2 ++ (counted true false (lT (T.at 2)).length 4)) hk2 hp73
          refine cl rfl rfl rfl (OutK.cast (k_AppendCompactString (x := ((lT (T.at 2))[k2]).s) (by omega) pk20 hs73) ee73) rfl (fun v_ H1 L1 hle hR => ?_)
          obtain ⟨rfl, a73, c73, N73, rfl, rfl, h73⟩ := hR
          have r73 := h73.1
          refine asg rfl rfl ?_
          refine nN ?_
          refine Nb ?_
          refine fun a_ w_ hA hw => ⟨_, _, _, hA.sub ?_, le_28, hw, _, rfl, _, _, _, _, rfl, rfl, r73, rfl⟩
          exact (.cons rfl (.cons rfl (.cons rfl (.cons rfl (.cons rfl (.cons rfl (.nil _)))))))
        · skip
          obtain ⟨a_k2, m_k2, c_k2, N_k2, rfl, rfl, pk20, pk21⟩ := hI
          refine toNn ?_
          have eL56 : D ++ plainTo (zipped fs_FindCoordinatorRequest v true T) v 2 ++ (counted true false (lT (T.at 2)).length 4) ++ ((lT (T.at 2)).take (lT (T.at 2)).length).flatMap (GOf (fs_FindCoordinatorRequest[2]'(by decide)) v true) = D ++ plainTo (zipped fs_FindCoordinatorRequest v true T) v 3 := by rw [List.take_length, List.append_assoc]; exact e_27
          rw [eL56] at pk20 pk21
          subst pk21
          refine fun a_ w_ hA hw => ⟨_, _, _, hA.sub ?_, le_29, hw, _, _, _, _, rfl, rfl, pk20, rfl⟩
          exact (.cons rfl (.cons rfl (.cons rfl (.nil _))))
      · skip
        refine skN ?_
        have es_37 : plainTo (zipped fs_FindCoordinatorRequest v true T) v 3 = plainTo (zipped fs_FindCoordinatorRequest v true T) v 2 := (piece_no2 (fs := fs_FindCoordinatorRequest) (v := v) (flex := true) (t := T) (k := 2) (by decide) (has_no (show v < (4 : Int) ∨ ((0 : Int) ≤ (-1) ∧ (-1) < v) by omega)))
        have eX_38 : D ++ plainTo (zipped fs_FindCoordinatorRequest v true T) v 2 = D ++ plainTo (zipped fs_FindCoordinatorRequest v true T) v 3 := by rw [es_37]
        refine fun a_ w_ hA hw => ⟨_, _, _, hA.sub ?_, (Fz.le.refl _), hw, _, _, _, _, rfl, rfl, (by rw [← eX_38]; exact r45), (by rw [← eX_38])⟩
        exact (.cons rfl (.cons rfl (.cons rfl (.nil _))))
    · skip
      obtain ⟨aj_25, mj_25, cj_25, Nj_25, rfl, rfl, pj0, pj1⟩ := hI
      subst pj1
      have rj_25 := pj0
      refine sq ?_
      refine sr ?_
      refine mv rfl rfl ?_
      refine nl ?_
      refine cdT rfl (by omega) ?_
      refine sr ?_
      refine mv rfl rfl ?_
      refine mv rfl rfl ?_
      refine nc rfl rfl ?_
      refine fa0 F82_4 rfl rfl ?_
      refine cl rfl rfl rfl (t_lenU (j := 4) (hv.mono le_26) rfl (hf1.mono le_26)) rfl (fun v_ H1 L1 hle hR => ?_)
      obtain ⟨rfl, rfl, rfl⟩ := hR
      have hu83 := hok.u
      have hul83 := hu83.2.1
      obtain ⟨hz83a, hz83b⟩ := part_size_plain (by decide) hu83 hb
      refine cv Try.runUnderlying3 Try.runUnderlying60 rfl (w32u (by omega) (by omega)) rfl ?_
      refine ad rfl rfl ((w32u (by omega) (by omega)).trans (Int.zero_add _)) rfl ?_
      refine cl rfl rfl rfl (k_AppendUvarint (n := T.u.length) (by omega) rj_25 hz83a) rfl (fun v_ H1 L1 hle hR => ?_)
      obtain ⟨rfl, a86, c86, N86, rfl, rfl, h86⟩ := hR
      have r86 := h86.1
      refine asg rfl rfl ?_
      refine nl ?_
      refine rg ?_
      refine mv rfl rfl ?_
      refine nc rfl rfl ?_
      refine fa0 F82_4 rfl rfl ?_
      refine mv rfl rfl ?_
      refine cl rfl rfl rfl (t_append_each (j := 4) (hv.mono le_26) rfl (hf1.mono le_26) (by omega) r86 (fun p hp => by have := hu83.2.2 p hp; omega) hz83b) rfl (fun v_ H1 L1 le_39 hR => ?_)
      obtain ⟨a91, c91, N91, rfl, rfl, h91⟩ := hR
      have r91 := h91.1
      have eP_40 : D ++ plainTo (zipped fs_FindCoordinatorRequest v true T) v 3 ++ uvar T.u.length ++ T.u.flatMap tagU = D ++ partB fs_FindCoordinatorRequest v true T := part_close (B := D) (by decide) hu83
      rw [eP_40] at r91 ⊢
      refine asg rfl rfl ?_
      refine nl ?_
      refine sr ?_
      refine mv rfl rfl ?_
      refine asg rfl rfl ?_
      refine nl ?_
      exact rT rfl rfl (le_26.trans le_39) (fun _ _ h => h) (OutB.of r91 rfl)
end Go.Sx

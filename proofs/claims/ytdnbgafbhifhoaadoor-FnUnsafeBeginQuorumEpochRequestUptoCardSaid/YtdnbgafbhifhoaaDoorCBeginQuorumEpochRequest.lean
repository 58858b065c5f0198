import Derived.Test.YtdnbgafbhifhoaaDoorSxTab
import Derived.Test.YtdnbgafbhifhoaaDoorBBeginQuorumEpochRequest
import Derived.Test.YtdnbgafbhifhoaaDoorRK2
import Derived.KernelRfl
set_option linter.unusedVariables false
set_option linter.unusedSimpArgs false
set_option maxRecDepth 100000
set_option maxHeartbeats 20000000
namespace Go.Sx
open Go.Proofs
theorem def_BeginQuorumEpochRequestTopicPartition {H : Fz} {L : Own} {b o : Nat} {pre post : List Value} {c0 c1 c2 c3 c4 c5 c6 c7 c8 c9 c10 c11 c12 c13 c14 c15 c16 c17 c18 c19 : Value} (ho : o = pre.length) :
    Fn Tryd.prog 211 [.pointer (some ⟨b, o, none⟩)] H ([(b, .cells (pre ++ ([c0, c1, c2, c3, c4, c5, c6, c7, c8, c9, c10, c11, c12, c13, c14, c15, c16, c17, c18, c19] : List Value) ++ post).toArray 228 (0, 0))] :: L) (fun _ H' L' => H = H' ∧ L' = [(b, .cells (pre ++ ([c0, c1, c2, c3, c4, c5, c6, c7, c8, c9, c10, c11, c12, c13, c14, c15, c16, c17, c18, c19] : List Value) ++ post).toArray 228 (0, 0))] :: L) := by
  refine Fn.mk Tryd.call211 Tryd.func211 rfl Tryd.ntmps211 rfl ?_
  refine skN ?_
  exact fun _ _ hA hw => rn rfl (Fz.le.refl _) ⟨rfl, rfl⟩ hA hw
theorem def_BeginQuorumEpochRequestTopic {H : Fz} {L : Own} {b o : Nat} {pre post : List Value} {c0 c1 c2 : Value} (ho : o = pre.length) :
    Fn Tryd.prog 210 [.pointer (some ⟨b, o, none⟩)] H ([(b, .cells (pre ++ ([c0, c1, c2] : List Value) ++ post).toArray 162 (0, 0))] :: L) (fun _ H' L' => H = H' ∧ L' = [(b, .cells (pre ++ ([c0, c1, c2] : List Value) ++ post).toArray 162 (0, 0))] :: L) := by
  refine Fn.mk Tryd.call210 Tryd.func210 rfl Tryd.ntmps210 rfl ?_
  refine skN ?_
  exact fun _ _ hA hw => rn rfl (Fz.le.refl _) ⟨rfl, rfl⟩ hA hw
theorem def_BeginQuorumEpochRequestLeaderEndpoint {H : Fz} {L : Own} {b o : Nat} {pre post : List Value} {c0 c1 c2 c3 : Value} (ho : o = pre.length) :
    Fn Tryd.prog 212 [.pointer (some ⟨b, o, none⟩)] H ([(b, .cells (pre ++ ([c0, c1, c2, c3] : List Value) ++ post).toArray 167 (0, 0))] :: L) (fun _ H' L' => H = H' ∧ L' = [(b, .cells (pre ++ ([c0, c1, c2, c3] : List Value) ++ post).toArray 167 (0, 0))] :: L) := by
  refine Fn.mk Tryd.call212 Tryd.func212 rfl Tryd.ntmps212 rfl ?_
  refine skN ?_
  exact fun _ _ hA hw => rn rfl (Fz.le.refl _) ⟨rfl, rfl⟩ hA hw
theorem def0_BeginQuorumEpochRequest {H : Fz} {L : Own} {b : Nat} {c0 c1 c2 c3 c4 c5 : Value} :
    Fn Tryd.prog 151 [.pointer (some ⟨b, 0, none⟩)] H ([(b, .cells [c0, c1, c2, c3, c4, c5].toArray 157 (0, 0))] :: L) (fun _ H' L' => H = H' ∧ L' = [(b, .cells [c0, c1, .int .i32 (-1), c3, c4, c5].toArray 157 (0, 0))] :: L) := by
  refine Fn.mk Tryd.call151 Tryd.func151 rfl Tryd.ntmps151 rfl ?_
  refine rg ?_
  refine mv rfl rfl ?_
  refine nc rfl rfl ?_
  refine fa0 F157_2 rfl rfl ?_
  refine st Tryd.sizeOf21 rfl rfl rfl rfl .head ?_
  refine nN ?_
  exact fun _ _ hA hw => rn rfl (Fz.le.refl _) ⟨rfl, rfl⟩ hA hw
theorem rd_BeginQuorumEpochRequest_f {H : Fz} {L : Own} {b : Nat} {v : Int} {a : Option Addr} {c : Nat} {s : List UInt8} {e : Value} (hB : BytesAt H a c s) (hL_ : s.length ≤ BR) (he : H.at 1 0 [e]) (hv0 : 0 ≤ v) (hv1 : v ≤ 0) :
    Fn Tryd.prog 152 [.pointer (some ⟨b, 0, none⟩), .slice a s.length c, .bool false] H ([(b, .cells [.int .i16 v, .pointer none, .int .i32 (-1), .slice none 0 0, .slice none 0 0, .map none].toArray 157 (0, 0))] :: L) (fun r H' L' => ∃ cs : List Value, L' = [(b, .cells cs.toArray 157 (0, 0))] :: L ∧ RdEnd H' (At_BeginQuorumEpochRequest v) (decP fs_BeginQuorumEpochRequest v false ⟨s, false, !a.isNone⟩) e r cs) := by
  refine Fn.mk Tryd.call152 Tryd.func152 rfl Tryd.ntmps152 rfl ?_
  refine sr ?_
  refine asg rfl rfl ?_
  refine nl ?_
  refine sr ?_
  refine mv rfl rfl ?_
  refine cl rfl rfl rfl def0_BeginQuorumEpochRequest rfl (fun v_ H1 L1 hle_ hR_ => ?_)
  obtain ⟨rfl, rfl⟩ := hR_
  refine nl ?_
  refine sr ?_
  refine mv rfl rfl ?_
  refine bd' S193 rfl rfl rfl ?_
  refine al Tryd.zeroValue193 rfl rfl (fun b_1 => ?_)
  refine sa Tryd.sizeOf193 rfl rfl rfl rfl rfl .head ?_
  have hR0_ : RdAt H 193 b_1 ⟨s, false, !a.isNone⟩ [(b_1, .cells [_, _].toArray 193 (0, 0))] := ⟨a, c, rfl, hB, by simp⟩
  obtain ⟨x0, hx0⟩ : ∃ x, x = stepF (Fd.mk 8 0 (-1) 0 (-1) 0 0 []) v false ⟨s, false, !a.isNone⟩ := ⟨_, rfl⟩
  obtain ⟨x1, hx1⟩ : ∃ x, x = stepF (Fd.mk 3 1 (-1) (-1) (-1) (-1) 0 []) v false x0.2 := ⟨_, rfl⟩
  obtain ⟨x2, hx2⟩ : ∃ x, x = stepF (Fd.mk 11 0 (-1) (-1) (-1) 0 10 fs_sBeginQuorumEpochRequestTopic) v false x1.2 := ⟨_, rfl⟩
  obtain ⟨x3, hx3⟩ : ∃ x, x = stepF (Fd.mk 11 1 (-1) (-1) (-1) 0 10 fs_sBeginQuorumEpochRequestLeaderEndpoint) v false x2.2 := ⟨_, rfl⟩
  obtain ⟨u, hu⟩ : ∃ x, x = tailU false x3.2 := ⟨_, rfl⟩
  have hD : decP fs_BeginQuorumEpochRequest v false ⟨s, false, !a.isNone⟩ = (.mk 0 [] false [x0.1, x1.1, x2.1, x3.1] u.1, u.2) := by
    generalize (⟨s, false, !a.isNone⟩ : Rd) = r_ at hx0 ⊢
    rw [decP_eq]; unfold fs_BeginQuorumEpochRequest; simp only [decFs_cons, decFs_nil, ← hx0, ← hx1, ← hx2, ← hx3, ← hu]
  have hL0 : x0.2.s.length ≤ BR := by rw [hx0]; exact Nat.le_trans (stepF_shr _ _ _ _) hL_
  have hL1 : x1.2.s.length ≤ BR := by rw [hx1]; exact Nat.le_trans (stepF_shr _ _ _ _) hL0
  have hL2 : x2.2.s.length ≤ BR := by rw [hx2]; exact Nat.le_trans (stepF_shr _ _ _ _) hL1
  have hL3 : x3.2.s.length ≤ BR := by rw [hx3]; exact Nat.le_trans (stepF_shr _ _ _ _) hL2
  have hE : u.2.bad = true → (decP fs_BeginQuorumEpochRequest v false ⟨s, false, !a.isNone⟩).2.bad = true := fun h => by rw [hD]; exact h
  have hB3 : x3.2.bad = true → (decP fs_BeginQuorumEpochRequest v false ⟨s, false, !a.isNone⟩).2.bad = true := fun h => hE (by rw [hu]; exact tailU_bad h)
  have hB2 : x2.2.bad = true → (decP fs_BeginQuorumEpochRequest v false ⟨s, false, !a.isNone⟩).2.bad = true := fun h => hB3 (by rw [hx3]; exact step_bad h)
  have hB1 : x1.2.bad = true → (decP fs_BeginQuorumEpochRequest v false ⟨s, false, !a.isNone⟩).2.bad = true := fun h => hB2 (by rw [hx2]; exact step_bad h)
  have hB0 : x0.2.bad = true → (decP fs_BeginQuorumEpochRequest v false ⟨s, false, !a.isNone⟩).2.bad = true := fun h => hB1 (by rw [hx1]; exact step_bad h)
  refine nl ?_
  refine sr ?_
  refine mv rfl rfl ?_
  refine nc rfl rfl ?_
  refine fa0 F157_0 rfl rfl ?_
  refine ld (Says.own (.tail .head)) Tryd.isAgg45 rfl (Nat.zero_add _).symm rfl rfl ?_
  refine asg rfl rfl ?_
  refine nl ?_
  refine sr ?_
  refine mv rfl rfl ?_
  refine nl ?_
  refine sr ?_
  refine mv rfl rfl ?_
  refine ge rfl rfl rfl ?_
  refine asg rfl rfl ?_
  refine nl ?_
  refine sr ?_
  refine mv rfl rfl ?_
  refine nl ?_
  refine sr ?_
  refine mv rfl rfl ?_
  refine asg rfl rfl ?_
  refine nl ?_
  refine sq ?_
  refine sr ?_
  refine asg rfl rfl ?_
  refine nl ?_
  refine sq ?_
  refine sr ?_
  refine mv rfl rfl ?_
  refine nl ?_
  refine cdF rfl (by omega) ?_
  refine sr ?_
  refine mv rfl rfl ?_
  refine nl ?_
  refine cF rfl ?_
  refine rg ?_
  have ex0 : x0 = decV 8 (decP [] v false) true false ⟨s, false, !a.isNone⟩ := (hx0.trans (step_yes (by decide) (show (0 : Int) ≤ v by omega) (Or.inl (by decide)))).trans (decF'_val (by decide) (by simp only [Bool.and_eq_true, decide_eq_true_eq]; exact ⟨show (0 : Int) ≤ 0 by decide, show (0 : Int) ≤ v by omega⟩))
  refine cl rfl rfl rfl (d8fn hR0_ ex0) rfl (fun v_ H1 L1 le_2 hR_ => ?_)
  obtain ⟨N58, rfl, hR58, p0, rfl, hf0⟩ := hR_
  refine asg rfl rfl ?_
  refine nl ?_
  refine rg ?_
  refine mv rfl rfl ?_
  refine mv rfl rfl ?_
  refine nc rfl rfl ?_
  refine fa0 F157_1 rfl rfl ?_
  refine st Tryd.sizeOf104 rfl rfl rfl rfl (.tail .head) ?_
  refine nl ?_
  refine sq ?_
  refine sr ?_
  refine mv rfl rfl ?_
  refine ge rfl rfl rfl ?_
  refine nl ?_
  refine cdF rfl (by omega) ?_
  refine skt ?_
  refine sq ?_
  refine sr ?_
  refine mv rfl rfl ?_
  refine nc rfl rfl ?_
  refine fa0 F157_3 rfl rfl ?_
  refine ld (Says.own (.tail .head)) Tryd.isAgg154 rfl (Nat.zero_add _).symm rfl rfl ?_
  refine asg rfl rfl ?_
  refine nl ?_
  refine sr ?_
  refine mv rfl rfl ?_
  refine asg rfl rfl ?_
  refine nl ?_
  refine sr ?_
  refine asg rfl rfl ?_
  refine nl ?_
  refine sq ?_
  refine sr ?_
  refine mv rfl rfl ?_
  refine nl ?_
  refine cdF rfl (by omega) ?_
  refine rg ?_
  obtain rfl : x1 = ((Tr.mk (-1) [] false [] []), x0.2) := (hx1.trans (step_no (Or.inl (show v < (1 : Int) by omega)))).trans (by rw [dflF_eq]; rfl)
  have ey2 : x2 = (.mk 0 [] (if 0 ≤ ((-1) : Int) ∧ (v < ((-1) : Int) ∨ (rArr false x0.2).1 = 0) then false else decide ((rArr false x0.2).1 ≤ 0)) (rMany (decV 10 (decP fs_sBeginQuorumEpochRequestTopic v false) false false) (rArr false x0.2).1.toNat (rArr false x0.2).2).1 [], (rMany (decV 10 (decP fs_sBeginQuorumEpochRequestTopic v false) false false) (rArr false x0.2).1.toNat (rArr false x0.2).2).2) := (hx2.trans (step_yes (by decide) (show (0 : Int) ≤ v by omega) (Or.inl (by decide)))).trans (decF'_list rfl rfl)
  have hn2 : (rArr false x0.2).1.toNat = (lT x2.1).length := by rw [ey2]; exact (lT_many nul_le).symm
  have ex2 := ey2
  rw [hn2] at ex2
  have hl2 := rArr_le false x0.2
  have hm2 : (rArr false x0.2).2.s.length ≤ BR := Nat.le_trans (rArr_len false x0.2) hL0
  have hnb2 : (lT x2.1).length ≤ BR := by omega
  refine cl rfl rfl rfl (r_arrf hR58) rfl (fun v_ H1 L1 hle_ hR_ => ?_)
  obtain ⟨rfl, N77, rfl, hR77, rfl⟩ := hR_
  have hh2 := rArr_hi false x0.2
  refine asg rfl rfl ?_
  refine nl ?_
  refine sq ?_
  refine sr ?_
  refine cl rfl rfl rfl (r_ok hR77) rfl (fun v_ H1 L1 hle_ hR_ => ?_)
  obtain ⟨rfl, rfl, rfl⟩ := hR_
  refine nt rfl rfl ?_
  refine nl ?_
  refine cb rfl (fun h79 => ?_) (fun h79 => ?_)
  · skip
    have hbad_ : (rArr false x0.2).2.bad = true := by simpa using h79
    refine sr ?_
    refine cl rfl rfl rfl (r_complete hR77 (he.mono le_2)) rfl (fun v_ H1 L1 hle_ hR_ => ?_)
    obtain ⟨rfl, rfl, rfl⟩ := hR_
    refine asg rfl rfl ?_
    refine nl ?_
    refine drW .head ?_
    exact rT rfl rfl le_2 (fun _ _ h => h) ⟨_, rfl, RdEnd.out (hB2 (by rw [ey2]; exact rMany_bad (fun r h => decV_bad (decP_bad _ _ _) h) _ _ hbad_)) hbad_⟩
  · skip
    refine skt ?_
    refine sr ?_
    refine mv rfl rfl ?_
    refine sh' (j := 0) Tryd.runUnderlying154 Tryd.sizeOf162 rfl rfl rfl (Nat.zero_le _) rfl ?_
    refine asg rfl rfl ?_
    refine nl ?_
    refine sq ?_
    refine sr ?_
    refine mv rfl rfl ?_
    refine gt rfl rfl rfl ?_
    refine nl ?_
    refine nulC2 ?_
    refine cutT (fun l' H' L' => ∃ (a2 : Option Addr), ∃ (c2 : Nat), ∃ (Nr2 : Chunk), [(2, .bool false), (7, .pointer (some ⟨b_1, 0, none⟩)), (8, .int .i16 v), (9, .bool (decide ((1 : Int) ≤ v))), (10, .pointer (some ⟨b, 0, none⟩)), (13, .slice none 0 0), (14, .slice a2 (lT x2.1).length c2), (15, .int .i32 (rArr false x0.2).1)] = l' ∧ Nr2 :: N77 :: [(b, .cells [.int .i16 v, .pointer p0, .int .i32 (-1), .slice none 0 0, .slice none 0 0, .map none].toArray 157 (0, 0))] :: L = L' ∧ Row 162 3 a2 (lT x2.1).length c2 (reps [.string ⟨#[]⟩, .slice none 0 0, .map none] (lT x2.1).length) Nr2 ∧ a2.isNone = (if 0 ≤ ((-1) : Int) ∧ (v < ((-1) : Int) ∨ (rArr false x0.2).1 = 0) then false else decide ((rArr false x0.2).1 ≤ 0))) ?_ (fun l' H' L' le_3 hI => ?_)
    · skip
      refine cd rfl (fun h84 => ?_) (fun h84 => ?_)
      · skip
        refine rg ?_
        refine mv rfl rfl ?_
        refine mv rfl rfl ?_
        refine apz (zs := [.string ⟨#[]⟩, .slice none 0 0, .map none]) (m := (lT x2.1).length) Tryd.underlying154 Tryd.underlying21 I162 rfl rfl rfl (by omega) (by omega) (by have h9 := hnb2; unfold BR at h9; omega) (by have h9 := hnb2; unfold BR at h9; unfold maxLen; omega) rfl (fun g87 cp87 N87 r87 => ?_)
        refine asg rfl rfl ?_
        refine nN ?_
        refine drN (.tail .head) ?_
        refine fun a_ w_ hA hw => ⟨_, _, _, hA.sub ?_, (Fz.le.refl _), hw, (some ⟨g87, 0, none⟩), cp87, N87, rfl, rfl, r87, (by rw [if_neg (by omega)]; exact (decide_eq_false (by omega)).symm)⟩
        exact (.cons rfl (.cons rfl (.cons rfl (.cons rfl (.cons rfl (.cons rfl (.cons rfl (.cons rfl (.nil _)))))))))
      · skip
        refine skN ?_
        refine fun a_ w_ hA hw => ⟨_, _, _, hA.sub ?_, (Fz.le.refl _), hw, none, 0, [], rfl, rfl, (by rw [show (lT x2.1).length = 0 by omega]; exact (Row.nil _ _)), (by rw [if_neg (by omega)]; exact (decide_eq_true (by omega)).symm)⟩
        exact (.cons rfl (.cons rfl (.cons rfl (.cons rfl (.cons rfl (.cons rfl (.cons (by rw [show (lT x2.1).length = 0 by omega]; rfl) (.cons rfl (.nil _)))))))))
    · skip
      obtain ⟨a2, c2, Nr2, rfl, rfl, pj0, pj1⟩ := hI
      have hr2 := pj0
      have hi2 := pj1
      refine sq ?_
      refine sr ?_
      refine asg rfl rfl ?_
      refine nl ?_
      refine bl (lp ((lT x2.1).length) (fun k2 l' H' L' => ∃ (es2 : List (KE 3)) (M2 RN2 : Chunk), [(2, .bool false), (7, .pointer (some ⟨b_1, 0, none⟩)), (8, .int .i16 v), (9, .bool (decide ((1 : Int) ≤ v))), (10, .pointer (some ⟨b, 0, none⟩)), (13, .slice none 0 0), (14, .slice a2 (lT x2.1).length c2), (15, .int .i32 (rArr false x0.2).1), (16, .int .i32 (k2 : Int))] = l' ∧ M2 :: RN2 :: [(b, .cells [.int .i16 v, .pointer p0, .int .i32 (-1), .slice none 0 0, .slice none 0 0, .map none].toArray 157 (0, 0))] :: L = L' ∧ RdAt H' 193 b_1 (rMany (decV 10 (decP fs_sBeginQuorumEpochRequestTopic v false) false false) k2 (rArr false x0.2).2).2 RN2 ∧ Row 162 3 a2 (lT x2.1).length c2 (es2.flatMap fk ++ reps [.string ⟨#[]⟩, .slice none 0 0, .map none] ((lT x2.1).length - k2)) M2 ∧ es2.map (·.2) = (rMany (decV 10 (decP fs_sBeginQuorumEpochRequestTopic v false) false false) k2 (rArr false x0.2).2).1 ∧ ∀ p ∈ es2, At_BeginQuorumEpochRequestTopic H' p.2 (fk p)) [(2, .bool false), (7, .pointer (some ⟨b_1, 0, none⟩)), (8, .int .i16 v), (9, .bool (decide ((1 : Int) ≤ v))), (10, .pointer (some ⟨b, 0, none⟩)), (13, .slice none 0 0), (14, .slice a2 (lT x2.1).length c2), (15, .int .i32 (rArr false x0.2).1), (16, .int .i32 (0 : Int))] (.cons rfl (.cons rfl (.cons rfl (.cons rfl (.cons rfl (.cons rfl (.cons rfl (.cons rfl (.cons rfl (.nil _)))))))))) ⟨[], Nr2, _, rfl, rfl, (hR77.mono le_3), hr2, rfl, (fun p hp => by cases hp)⟩ (fun k2 l' H' L' hk2 le_4 hI => ?_))
      obtain ⟨es2, M2, RN2, rfl, rfl, hR_2, hw_2, he_2, hg_2⟩ := hI
      have hs_2 := els_len he_2
      have hp_2 : (es2.flatMap fk).length = k2 * 3 := els_flat hs_2
      refine sq ?_
      refine sr ?_
      refine mv rfl rfl ?_
      refine mv rfl rfl ?_
      refine lt rfl rfl rfl ?_
      refine nl ?_
      refine cd rfl (fun h90 => ?_) (fun h90 => ?_)
      · skip
        have hkl2 : k2 < (lT x2.1).length := by omega
        obtain ⟨g2, po2, hga2, rfl, hbk2⟩ := hw_2.next (zs := [.string ⟨#[]⟩, .slice none 0 0, .map none]) hkl2 rfl (by decide)
        have ho2 : 0 + k2 * 3 = (es2.flatMap fk).length := by rw [hp_2]; omega
        have hbz2 : ((decV 10 (decP fs_sBeginQuorumEpochRequestTopic v false) false false) (rMany (decV 10 (decP fs_sBeginQuorumEpochRequestTopic v false) false false) k2 (rArr false x0.2).2).2).2.bad = true → (decP fs_BeginQuorumEpochRequest v false ⟨s, false, !a.isNone⟩).2.bad = true := fun h => hB2 (by rw [ex2]; exact rMany_mono (fun r h => decV_bad (fun r h => decP_bad _ _ _ r h) h) _ (show k2 + 1 ≤ (lT x2.1).length from hkl2) (by rw [rMany_succ]; exact h))
        have hLk2 : (rMany (decV 10 (decP fs_sBeginQuorumEpochRequestTopic v false) false false) k2 (rArr false x0.2).2).2.s.length ≤ BR := Nat.le_trans (rMany_shr (fun r => decV_shr (fun r => decP_shr _ _ _ r) r) _ _) hm2
        have hL2__ := hLk2
        obtain ⟨x2_0, hx2_0⟩ : ∃ x, x = stepF (Fd.mk 8 0 (-1) (-1) (-1) 0 0 []) v false (rMany (decV 10 (decP fs_sBeginQuorumEpochRequestTopic v false) false false) k2 (rArr false x0.2).2).2 := ⟨_, rfl⟩
        obtain ⟨x2_1, hx2_1⟩ : ∃ x, x = stepF (Fd.mk 11 0 (-1) (-1) (-1) 0 10 fs_sBeginQuorumEpochRequestTopicPartition) v false x2_0.2 := ⟨_, rfl⟩
        obtain ⟨u2_, hu2_⟩ : ∃ x, x = tailU false x2_1.2 := ⟨_, rfl⟩
        have hD2_ : decP fs_sBeginQuorumEpochRequestTopic v false (rMany (decV 10 (decP fs_sBeginQuorumEpochRequestTopic v false) false false) k2 (rArr false x0.2).2).2 = (.mk 0 [] false [x2_0.1, x2_1.1] u2_.1, u2_.2) := by
          generalize ((rMany (decV 10 (decP fs_sBeginQuorumEpochRequestTopic v false) false false) k2 (rArr false x0.2).2).2 : Rd) = r_ at hx2_0 ⊢
          rw [decP_eq]; unfold fs_sBeginQuorumEpochRequestTopic; simp only [decFs_cons, decFs_nil, ← hx2_0, ← hx2_1, ← hu2_]
        have hL2_0 : x2_0.2.s.length ≤ BR := by rw [hx2_0]; exact Nat.le_trans (stepF_shr _ _ _ _) hL2__
        have hL2_1 : x2_1.2.s.length ≤ BR := by rw [hx2_1]; exact Nat.le_trans (stepF_shr _ _ _ _) hL2_0
        have hE2_ : u2_.2.bad = true → (decP fs_BeginQuorumEpochRequest v false ⟨s, false, !a.isNone⟩).2.bad = true := fun h => hbz2 (by show (decP fs_sBeginQuorumEpochRequestTopic v false (rMany (decV 10 (decP fs_sBeginQuorumEpochRequestTopic v false) false false) k2 (rArr false x0.2).2).2).2.bad = true; rw [hD2_]; exact h)
        have hB2_1 : x2_1.2.bad = true → (decP fs_BeginQuorumEpochRequest v false ⟨s, false, !a.isNone⟩).2.bad = true := fun h => hE2_ (by rw [hu2_]; exact tailU_bad h)
        have hB2_0 : x2_0.2.bad = true → (decP fs_BeginQuorumEpochRequest v false ⟨s, false, !a.isNone⟩).2.bad = true := fun h => hB2_1 (by rw [hx2_1]; exact step_bad h)
        refine skt ?_
        refine sq ?_
        refine bl ?_
        refine sr ?_
        refine mv rfl rfl ?_
        refine mv rfl rfl ?_
        refine ixk (j := k2) Tryd.runUnderlying154 Tryd.sizeOf162 rfl hga2 rfl rfl hkl2 rfl ?_
        refine asg rfl rfl ?_
        refine nl ?_
        refine sr ?_
        refine mv rfl rfl ?_
        refine cl rfl rfl rfl (def_BeginQuorumEpochRequestTopic ho2) rfl (fun v_ H1 L1 hle_ hR_ => ?_)
        obtain ⟨rfl, rfl⟩ := hR_
        refine nl ?_
        refine sr ?_
        refine mv rfl rfl ?_
        refine asg rfl rfl ?_
        refine nl ?_
        refine sq ?_
        refine sr ?_
        refine asg rfl rfl ?_
        refine nl ?_
        refine sq ?_
        refine sr ?_
        refine mv rfl rfl ?_
        refine nl ?_
        refine cF rfl ?_
        refine sr ?_
        refine mv rfl rfl ?_
        refine nl ?_
        refine cdF rfl (by omega) ?_
        refine rg ?_
        refine tf (.tail .head) ?_
        have ex2_0 : x2_0 = decV 8 (decP [] v false) false false (rMany (decV 10 (decP fs_sBeginQuorumEpochRequestTopic v false) false false) k2 (rArr false x0.2).2).2 := (hx2_0.trans (step_yes (by decide) (show (0 : Int) ≤ v by omega) (Or.inl (by decide)))).trans (decF'_val (by decide) (rfl))
        refine cl rfl rfl rfl (d8f hR_2 ex2_0) rfl (fun v_ H1 L1 le_5 hR_ => ?_)
        obtain ⟨N105, rfl, hR105, rfl, rfl⟩ := hR_
        refine asg rfl rfl ?_
        refine nl ?_
        refine rg ?_
        refine mv rfl rfl ?_
        refine mv rfl rfl ?_
        refine nc rfl rfl ?_
        refine fa F162_0 rfl rfl ?_
        refine stM (off := 0) Tryd.sizeOf9 rfl (by rw [ho2]) rfl rfl rfl (.tail .head) ?_
        refine nl ?_
        refine sq ?_
        refine sr ?_
        refine mv rfl rfl ?_
        refine nc rfl rfl ?_
        refine fa F162_1 rfl rfl ?_
        refine ld (j := 1) (off := 0 + k2 * 3) (Says.mid (.tail .head) ho2) Tryd.isAgg160 rfl rfl rfl rfl ?_
        refine asg rfl rfl ?_
        refine nl ?_
        refine sr ?_
        refine mv rfl rfl ?_
        refine asg rfl rfl ?_
        refine nl ?_
        refine sr ?_
        refine asg rfl rfl ?_
        refine nl ?_
        refine sq ?_
        refine sr ?_
        refine mv rfl rfl ?_
        refine nl ?_
        refine cdF rfl (by omega) ?_
        refine rg ?_
        have ey2_1 : x2_1 = (.mk 0 [] (if 0 ≤ ((-1) : Int) ∧ (v < ((-1) : Int) ∨ (rArr false x2_0.2).1 = 0) then false else decide ((rArr false x2_0.2).1 ≤ 0)) (rMany (decV 10 (decP fs_sBeginQuorumEpochRequestTopicPartition v false) false false) (rArr false x2_0.2).1.toNat (rArr false x2_0.2).2).1 [], (rMany (decV 10 (decP fs_sBeginQuorumEpochRequestTopicPartition v false) false false) (rArr false x2_0.2).1.toNat (rArr false x2_0.2).2).2) := (hx2_1.trans (step_yes (by decide) (show (0 : Int) ≤ v by omega) (Or.inl (by decide)))).trans (decF'_list rfl rfl)
        have hn2_1 : (rArr false x2_0.2).1.toNat = (lT x2_1.1).length := by rw [ey2_1]; exact (lT_many nul_le).symm
        have ex2_1 := ey2_1
        rw [hn2_1] at ex2_1
        have hl2_1 := rArr_le false x2_0.2
        have hm2_1 : (rArr false x2_0.2).2.s.length ≤ BR := Nat.le_trans (rArr_len false x2_0.2) hL2_0
        have hnb2_1 : (lT x2_1.1).length ≤ BR := by omega
        refine cl rfl rfl rfl (r_arrf hR105) rfl (fun v_ H1 L1 hle_ hR_ => ?_)
        obtain ⟨rfl, N117, rfl, hR117, rfl⟩ := hR_
        have hh2_1 := rArr_hi false x2_0.2
        refine asg rfl rfl ?_
        refine nl ?_
        refine sq ?_
        refine sr ?_
        refine cl rfl rfl rfl (r_ok hR117) rfl (fun v_ H1 L1 hle_ hR_ => ?_)
        obtain ⟨rfl, rfl, rfl⟩ := hR_
        refine nt rfl rfl ?_
        refine nl ?_
        refine cb rfl (fun h119 => ?_) (fun h119 => ?_)
        · skip
          have hbad_ : (rArr false x2_0.2).2.bad = true := by simpa using h119
          refine sr ?_
          refine cl rfl rfl rfl (r_complete hR117 (he.mono (le_2.trans (le_3.trans le_4)))) rfl (fun v_ H1 L1 hle_ hR_ => ?_)
          obtain ⟨rfl, rfl, rfl⟩ := hR_
          refine asg rfl rfl ?_
          refine nl ?_
          refine drW .head ?_
          refine drW .head ?_
          exact rT rfl rfl (le_2.trans (le_3.trans le_4)) (fun _ _ h => h) ⟨_, rfl, RdEnd.out (hB2_1 (by rw [ey2_1]; exact rMany_bad (fun r h => decV_bad (decP_bad _ _ _) h) _ _ hbad_)) hbad_⟩
        · skip
          refine skt ?_
          refine sr ?_
          refine mv rfl rfl ?_
          refine sh' (j := 0) Tryd.runUnderlying160 Tryd.sizeOf228 rfl rfl rfl (Nat.zero_le _) rfl ?_
          refine asg rfl rfl ?_
          refine nl ?_
          refine sq ?_
          refine sr ?_
          refine mv rfl rfl ?_
          refine gt rfl rfl rfl ?_
          refine nl ?_
          refine nulC2 ?_
          refine cutT (fun l' H' L' => ∃ (a2_1 : Option Addr), ∃ (c2_1 : Nat), ∃ (Nr2_1 : Chunk), [(2, .bool false), (7, .pointer (some ⟨b_1, 0, none⟩)), (8, .int .i16 v), (9, .bool (decide ((1 : Int) ≤ v))), (10, .pointer (some ⟨b, 0, none⟩)), (13, .slice none 0 0), (14, .slice a2 (lT x2.1).length c2), (15, .int .i32 (rArr false x0.2).1), (16, .int .i32 (k2 : Int)), (18, .pointer (some ⟨g2, 0 + k2 * 3, none⟩)), (20, .slice none 0 0), (21, .slice a2_1 (lT x2_1.1).length c2_1), (22, .int .i32 (rArr false x2_0.2).1)] = l' ∧ Nr2_1 :: N117 :: [(g2, .cells ((es2.flatMap fk) ++ ([.string ⟨x2_0.1.s.toArray⟩, .slice none 0 0, .map none] : List Value) ++ po2).toArray 162 (0, 0))] :: [(b, .cells [.int .i16 v, .pointer p0, .int .i32 (-1), .slice none 0 0, .slice none 0 0, .map none].toArray 157 (0, 0))] :: L = L' ∧ Row 228 20 a2_1 (lT x2_1.1).length c2_1 (reps [.int .i32 0, .int .u8 0, .int .u8 0, .int .u8 0, .int .u8 0, .int .u8 0, .int .u8 0, .int .u8 0, .int .u8 0, .int .u8 0, .int .u8 0, .int .u8 0, .int .u8 0, .int .u8 0, .int .u8 0, .int .u8 0, .int .u8 0, .int .i32 0, .int .i32 0, .map none] (lT x2_1.1).length) Nr2_1 ∧ a2_1.isNone = (if 0 ≤ ((-1) : Int) ∧ (v < ((-1) : Int) ∨ (rArr false x2_0.2).1 = 0) then false else decide ((rArr false x2_0.2).1 ≤ 0))) ?_ (fun l' H' L' le_6 hI => ?_)
          · skip
            refine cd rfl (fun h124 => ?_) (fun h124 => ?_)
            · skip
              refine rg ?_
              refine mv rfl rfl ?_
              refine mv rfl rfl ?_
              refine apz (zs := [.int .i32 0, .int .u8 0, .int .u8 0, .int .u8 0, .int .u8 0, .int .u8 0, .int .u8 0, .int .u8 0, .int .u8 0, .int .u8 0, .int .u8 0, .int .u8 0, .int .u8 0, .int .u8 0, .int .u8 0, .int .u8 0, .int .u8 0, .int .i32 0, .int .i32 0, .map none]) (m := (lT x2_1.1).length) Tryd.underlying160 Tryd.underlying21 I228 rfl rfl rfl (by omega) (by omega) (by have h9 := hnb2_1; unfold BR at h9; omega) (by have h9 := hnb2_1; unfold BR at h9; unfold maxLen; omega) rfl (fun g127 cp127 N127 r127 => ?_)
              refine asg rfl rfl ?_
              refine nN ?_
              refine drN (.tail .head) ?_
              refine fun a_ w_ hA hw => ⟨_, _, _, hA.sub ?_, (Fz.le.refl _), hw, (some ⟨g127, 0, none⟩), cp127, N127, rfl, rfl, r127, (by rw [if_neg (by omega)]; exact (decide_eq_false (by omega)).symm)⟩
              exact (.cons rfl (.cons rfl (.cons rfl (.cons rfl (.cons rfl (.cons rfl (.cons rfl (.cons rfl (.cons rfl (.cons rfl (.cons rfl (.cons rfl (.cons rfl (.nil _))))))))))))))
            · skip
              refine skN ?_
              refine fun a_ w_ hA hw => ⟨_, _, _, hA.sub ?_, (Fz.le.refl _), hw, none, 0, [], rfl, rfl, (by rw [show (lT x2_1.1).length = 0 by omega]; exact (Row.nil _ _)), (by rw [if_neg (by omega)]; exact (decide_eq_true (by omega)).symm)⟩
              exact (.cons rfl (.cons rfl (.cons rfl (.cons rfl (.cons rfl (.cons rfl (.cons rfl (.cons rfl (.cons rfl (.cons rfl (.cons rfl (.cons (by rw [show (lT x2_1.1).length = 0 by omega]; rfl) (.cons rfl (.nil _))))))))))))))
          · skip
            obtain ⟨a2_1, c2_1, Nr2_1, rfl, rfl, pj0, pj1⟩ := hI
            have hr2_1 := pj0
            have hi2_1 := pj1
            refine sq ?_
            refine sr ?_
            refine asg rfl rfl ?_
            refine nl ?_
            refine bl (lp ((lT x2_1.1).length) (fun k2_1 l' H' L' => ∃ (es2_1 : List (KE 20)) (M2_1 RN2_1 : Chunk), [(2, .bool false), (7, .pointer (some ⟨b_1, 0, none⟩)), (8, .int .i16 v), (9, .bool (decide ((1 : Int) ≤ v))), (10, .pointer (some ⟨b, 0, none⟩)), (13, .slice none 0 0), (14, .slice a2 (lT x2.1).length c2), (15, .int .i32 (rArr false x0.2).1), (16, .int .i32 (k2 : Int)), (18, .pointer (some ⟨g2, 0 + k2 * 3, none⟩)), (20, .slice none 0 0), (21, .slice a2_1 (lT x2_1.1).length c2_1), (22, .int .i32 (rArr false x2_0.2).1), (23, .int .i32 (k2_1 : Int))] = l' ∧ M2_1 :: RN2_1 :: [(g2, .cells ((es2.flatMap fk) ++ ([.string ⟨x2_0.1.s.toArray⟩, .slice none 0 0, .map none] : List Value) ++ po2).toArray 162 (0, 0))] :: [(b, .cells [.int .i16 v, .pointer p0, .int .i32 (-1), .slice none 0 0, .slice none 0 0, .map none].toArray 157 (0, 0))] :: L = L' ∧ RdAt H' 193 b_1 (rMany (decV 10 (decP fs_sBeginQuorumEpochRequestTopicPartition v false) false false) k2_1 (rArr false x2_0.2).2).2 RN2_1 ∧ Row 228 20 a2_1 (lT x2_1.1).length c2_1 (es2_1.flatMap fk ++ reps [.int .i32 0, .int .u8 0, .int .u8 0, .int .u8 0, .int .u8 0, .int .u8 0, .int .u8 0, .int .u8 0, .int .u8 0, .int .u8 0, .int .u8 0, .int .u8 0, .int .u8 0, .int .u8 0, .int .u8 0, .int .u8 0, .int .u8 0, .int .i32 0, .int .i32 0, .map none] ((lT x2_1.1).length - k2_1)) M2_1 ∧ es2_1.map (·.2) = (rMany (decV 10 (decP fs_sBeginQuorumEpochRequestTopicPartition v false) false false) k2_1 (rArr false x2_0.2).2).1 ∧ ∀ p ∈ es2_1, At_BeginQuorumEpochRequestTopicPartition H' p.2 (fk p)) [(2, .bool false), (7, .pointer (some ⟨b_1, 0, none⟩)), (8, .int .i16 v), (9, .bool (decide ((1 : Int) ≤ v))), (10, .pointer (some ⟨b, 0, none⟩)), (13, .slice none 0 0), (14, .slice a2 (lT x2.1).length c2), (15, .int .i32 (rArr false x0.2).1), (16, .int .i32 (k2 : Int)), (18, .pointer (some ⟨g2, 0 + k2 * 3, none⟩)), (20, .slice none 0 0), (21, .slice a2_1 (lT x2_1.1).length c2_1), (22, .int .i32 (rArr false x2_0.2).1), (23, .int .i32 (0 : Int))] (.cons rfl (.cons rfl (.cons rfl (.cons rfl (.cons rfl (.cons rfl (.cons rfl (.cons rfl (.cons rfl (.cons rfl (.cons rfl (.cons rfl (.cons rfl (.cons rfl (.nil _))))))))))))))) ⟨[], Nr2_1, _, rfl, rfl, (hR117.mono le_6), hr2_1, rfl, (fun p hp => by cases hp)⟩ (fun k2_1 l' H' L' hk2_1 le_7 hI => ?_))
            obtain ⟨es2_1, M2_1, RN2_1, rfl, rfl, hR_2_1, hw_2_1, he_2_1, hg_2_1⟩ := hI
            have hs_2_1 := els_len he_2_1
            have hp_2_1 : (es2_1.flatMap fk).length = k2_1 * 20 := els_flat hs_2_1
            refine sq ?_
            refine sr ?_
            refine mv rfl rfl ?_
            refine mv rfl rfl ?_
            refine lt rfl rfl rfl ?_
            refine nl ?_
            refine cd rfl (fun h130 => ?_) (fun h130 => ?_)
            · skip
              have hkl2_1 : k2_1 < (lT x2_1.1).length := by omega
              obtain ⟨g2_1, po2_1, hga2_1, rfl, hbk2_1⟩ := hw_2_1.next (zs := [.int .i32 0, .int .u8 0, .int .u8 0, .int .u8 0, .int .u8 0, .int .u8 0, .int .u8 0, .int .u8 0, .int .u8 0, .int .u8 0, .int .u8 0, .int .u8 0, .int .u8 0, .int .u8 0, .int .u8 0, .int .u8 0, .int .u8 0, .int .i32 0, .int .i32 0, .map none]) hkl2_1 rfl (by decide)
              have ho2_1 : 0 + k2_1 * 20 = (es2_1.flatMap fk).length := by rw [hp_2_1]; omega
              have hbz2_1 : ((decV 10 (decP fs_sBeginQuorumEpochRequestTopicPartition v false) false false) (rMany (decV 10 (decP fs_sBeginQuorumEpochRequestTopicPartition v false) false false) k2_1 (rArr false x2_0.2).2).2).2.bad = true → (decP fs_BeginQuorumEpochRequest v false ⟨s, false, !a.isNone⟩).2.bad = true := fun h => hB2_1 (by rw [ex2_1]; exact rMany_mono (fun r h => decV_bad (fun r h => decP_bad _ _ _ r h) h) _ (show k2_1 + 1 ≤ (lT x2_1.1).length from hkl2_1) (by rw [rMany_succ]; exact h))
              have hLk2_1 : (rMany (decV 10 (decP fs_sBeginQuorumEpochRequestTopicPartition v false) false false) k2_1 (rArr false x2_0.2).2).2.s.length ≤ BR := Nat.le_trans (rMany_shr (fun r => decV_shr (fun r => decP_shr _ _ _ r) r) _ _) hm2_1
              have hL2_1__ := hLk2_1
              obtain ⟨x2_1_0, hx2_1_0⟩ : ∃ x, x = stepF (Fd.mk 3 0 (-1) (-1) (-1) 0 0 []) v false (rMany (decV 10 (decP fs_sBeginQuorumEpochRequestTopicPartition v false) false false) k2_1 (rArr false x2_0.2).2).2 := ⟨_, rfl⟩
              obtain ⟨x2_1_1, hx2_1_1⟩ : ∃ x, x = stepF (Fd.mk 7 1 (-1) (-1) (-1) 0 0 []) v false x2_1_0.2 := ⟨_, rfl⟩
              obtain ⟨x2_1_2, hx2_1_2⟩ : ∃ x, x = stepF (Fd.mk 3 0 (-1) (-1) (-1) 0 0 []) v false x2_1_1.2 := ⟨_, rfl⟩
              obtain ⟨x2_1_3, hx2_1_3⟩ : ∃ x, x = stepF (Fd.mk 3 0 (-1) (-1) (-1) 0 0 []) v false x2_1_2.2 := ⟨_, rfl⟩
              obtain ⟨u2_1_, hu2_1_⟩ : ∃ x, x = tailU false x2_1_3.2 := ⟨_, rfl⟩
              have hD2_1_ : decP fs_sBeginQuorumEpochRequestTopicPartition v false (rMany (decV 10 (decP fs_sBeginQuorumEpochRequestTopicPartition v false) false false) k2_1 (rArr false x2_0.2).2).2 = (.mk 0 [] false [x2_1_0.1, x2_1_1.1, x2_1_2.1, x2_1_3.1] u2_1_.1, u2_1_.2) := by
                generalize ((rMany (decV 10 (decP fs_sBeginQuorumEpochRequestTopicPartition v false) false false) k2_1 (rArr false x2_0.2).2).2 : Rd) = r_ at hx2_1_0 ⊢
                rw [decP_eq]; unfold fs_sBeginQuorumEpochRequestTopicPartition; simp only [decFs_cons, decFs_nil, ← hx2_1_0, ← hx2_1_1, ← hx2_1_2, ← hx2_1_3, ← hu2_1_]
              have hL2_1_0 : x2_1_0.2.s.length ≤ BR := by rw [hx2_1_0]; exact Nat.le_trans (stepF_shr _ _ _ _) hL2_1__
              have hL2_1_1 : x2_1_1.2.s.length ≤ BR := by rw [hx2_1_1]; exact Nat.le_trans (stepF_shr _ _ _ _) hL2_1_0
              have hL2_1_2 : x2_1_2.2.s.length ≤ BR := by rw [hx2_1_2]; exact Nat.le_trans (stepF_shr _ _ _ _) hL2_1_1
              have hL2_1_3 : x2_1_3.2.s.length ≤ BR := by rw [hx2_1_3]; exact Nat.le_trans (stepF_shr _ _ _ _) hL2_1_2
              have hE2_1_ : u2_1_.2.bad = true → (decP fs_BeginQuorumEpochRequest v false ⟨s, false, !a.isNone⟩).2.bad = true := fun h => hbz2_1 (by show (decP fs_sBeginQuorumEpochRequestTopicPartition v false (rMany (decV 10 (decP fs_sBeginQuorumEpochRequestTopicPartition v false) false false) k2_1 (rArr false x2_0.2).2).2).2.bad = true; rw [hD2_1_]; exact h)
              have hB2_1_3 : x2_1_3.2.bad = true → (decP fs_BeginQuorumEpochRequest v false ⟨s, false, !a.isNone⟩).2.bad = true := fun h => hE2_1_ (by rw [hu2_1_]; exact tailU_bad h)
              have hB2_1_2 : x2_1_2.2.bad = true → (decP fs_BeginQuorumEpochRequest v false ⟨s, false, !a.isNone⟩).2.bad = true := fun h => hB2_1_3 (by rw [hx2_1_3]; exact step_bad h)
              have hB2_1_1 : x2_1_1.2.bad = true → (decP fs_BeginQuorumEpochRequest v false ⟨s, false, !a.isNone⟩).2.bad = true := fun h => hB2_1_2 (by rw [hx2_1_2]; exact step_bad h)
              have hB2_1_0 : x2_1_0.2.bad = true → (decP fs_BeginQuorumEpochRequest v false ⟨s, false, !a.isNone⟩).2.bad = true := fun h => hB2_1_1 (by rw [hx2_1_1]; exact step_bad h)
              refine skt ?_
              refine sq ?_
              refine bl ?_
              refine sr ?_
              refine mv rfl rfl ?_
              refine mv rfl rfl ?_
              refine ixk (j := k2_1) Tryd.runUnderlying160 Tryd.sizeOf228 rfl hga2_1 rfl rfl hkl2_1 rfl ?_
              refine asg rfl rfl ?_
              refine nl ?_
              refine sr ?_
              refine mv rfl rfl ?_
              refine cl rfl rfl rfl (def_BeginQuorumEpochRequestTopicPartition ho2_1) rfl (fun v_ H1 L1 hle_ hR_ => ?_)
              obtain ⟨rfl, rfl⟩ := hR_
              refine nl ?_
              refine sr ?_
              refine mv rfl rfl ?_
              refine asg rfl rfl ?_
              refine nl ?_
              refine sq ?_
              refine sr ?_
              refine tf (.tail .head) ?_
              have ex2_1_0 : x2_1_0 = decV 3 (decP [] v false) false false (rMany (decV 10 (decP fs_sBeginQuorumEpochRequestTopicPartition v false) false false) k2_1 (rArr false x2_0.2).2).2 := (hx2_1_0.trans (step_yes (by decide) (show (0 : Int) ≤ v by omega) (Or.inl (by decide)))).trans (decF'_val (by decide) (rfl))
              refine cl rfl rfl rfl (d3 hR_2_1 ex2_1_0) rfl (fun v_ H1 L1 hle_ hR_ => ?_)
              obtain ⟨N139, rfl, hR139, rfl, rfl⟩ := hR_
              refine asg rfl rfl ?_
              refine nl ?_
              refine rg ?_
              refine mv rfl rfl ?_
              refine mv rfl rfl ?_
              refine nc rfl rfl ?_
              refine fa F228_0 rfl rfl ?_
              refine stM (off := 0) Tryd.sizeOf21 rfl (by rw [ho2_1]) rfl rfl rfl (.tail .head) ?_
              refine nl ?_
              refine sq ?_
              refine sr ?_
              refine mv rfl rfl ?_
              refine ge rfl rfl rfl ?_
              refine nl ?_
              refine cdF rfl (by omega) ?_
              refine skt ?_
              refine sq ?_
              refine sr ?_
              obtain rfl : x2_1_1 = ((Tr.mk 0 (List.replicate 16 0) false [] []), x2_1_0.2) := (hx2_1_1.trans (step_no (Or.inl (show v < (1 : Int) by omega)))).trans (by rw [dflF_eq]; rfl)
              have ex2_1_2 : x2_1_2 = decV 3 (decP [] v false) false false x2_1_0.2 := (hx2_1_2.trans (step_yes (by decide) (show (0 : Int) ≤ v by omega) (Or.inl (by decide)))).trans (decF'_val (by decide) (rfl))
              refine cl rfl rfl rfl (d3 hR139 ex2_1_2) rfl (fun v_ H1 L1 hle_ hR_ => ?_)
              obtain ⟨N151, rfl, hR151, rfl, rfl⟩ := hR_
              refine asg rfl rfl ?_
              refine nl ?_
              refine rg ?_
              refine mv rfl rfl ?_
              refine mv rfl rfl ?_
              refine nc rfl rfl ?_
              refine fa F228_2 rfl rfl ?_
              refine stM (off := 17) Tryd.sizeOf21 rfl (by rw [ho2_1]) rfl rfl rfl (.tail .head) ?_
              refine nl ?_
              refine sq ?_
              refine sr ?_
              have ex2_1_3 : x2_1_3 = decV 3 (decP [] v false) false false x2_1_2.2 := (hx2_1_3.trans (step_yes (by decide) (show (0 : Int) ≤ v by omega) (Or.inl (by decide)))).trans (decF'_val (by decide) (rfl))
              refine cl rfl rfl rfl (d3 hR151 ex2_1_3) rfl (fun v_ H1 L1 hle_ hR_ => ?_)
              obtain ⟨N156, rfl, hR156, rfl, rfl⟩ := hR_
              refine asg rfl rfl ?_
              refine nl ?_
              refine rg ?_
              refine mv rfl rfl ?_
              refine mv rfl rfl ?_
              refine nc rfl rfl ?_
              refine fa F228_3 rfl rfl ?_
              refine stM (off := 18) Tryd.sizeOf21 rfl (by rw [ho2_1]) rfl rfl rfl (.tail .head) ?_
              refine nl ?_
              refine sr ?_
              refine mv rfl rfl ?_
              refine nl ?_
              refine cdF rfl (by omega) ?_
              refine skN ?_
              refine Nb ?_
              refine Nt ?_
              refine rg ?_
              refine mv rfl rfl ?_
              refine ad rfl rfl (c := ((k2_1 + 1 : Nat) : Int)) ((wrap32_le (by omega) (by omega)).trans (by omega)) rfl ?_
              refine asg rfl rfl ?_
              refine nN ?_
              obtain rfl : u2_1_ = ([], x2_1_3.2) := hu2_1_
              have hfs2_1 := flatMap_snoc' fk es2_1 ((⟨([.int .i32 (IntKind.i32.wrap x2_1_0.1.n), .int .u8 0, .int .u8 0, .int .u8 0, .int .u8 0, .int .u8 0, .int .u8 0, .int .u8 0, .int .u8 0, .int .u8 0, .int .u8 0, .int .u8 0, .int .u8 0, .int .u8 0, .int .u8 0, .int .u8 0, .int .u8 0, .int .i32 (IntKind.i32.wrap x2_1_2.1.n), .int .i32 (IntKind.i32.wrap x2_1_3.1.n), .map none] : List Value), rfl, all_one rfl⟩, ((decV 10 (decP fs_sBeginQuorumEpochRequestTopicPartition v false) false false) (rMany (decV 10 (decP fs_sBeginQuorumEpochRequestTopicPartition v false) false false) k2_1 (rArr false x2_0.2).2).2).1) : KE 20)
              have hrw2_1 := hbk2_1 ([.int .i32 (IntKind.i32.wrap x2_1_0.1.n), .int .u8 0, .int .u8 0, .int .u8 0, .int .u8 0, .int .u8 0, .int .u8 0, .int .u8 0, .int .u8 0, .int .u8 0, .int .u8 0, .int .u8 0, .int .u8 0, .int .u8 0, .int .u8 0, .int .u8 0, .int .u8 0, .int .i32 (IntKind.i32.wrap x2_1_2.1.n), .int .i32 (IntKind.i32.wrap x2_1_3.1.n), .map none] : List Value) rfl
              refine tfN (.tail .head) ?_
              refine fun a_ w_ hA hw => ⟨hkl2_1, _, _, _, hA.sub ?_, le_7, hw, _, _, _, rfl, rfl, (by rw [rMany_succ]; show RdAt _ 193 b_1 (decP fs_sBeginQuorumEpochRequestTopicPartition v false (rMany (decV 10 (decP fs_sBeginQuorumEpochRequestTopicPartition v false) false false) k2_1 (rArr false x2_0.2).2).2).2 _; rw [hD2_1_]; exact hR156), (by rw [← hfs2_1]; exact hrw2_1), (dec_els he_2_1), (fun p hp => (mem_snoc hp).elim (fun h => At_BeginQuorumEpochRequestTopicPartition.mono _ _ _ _ (Fz.le.refl _) (hg_2_1 p h)) (fun h => h ▸ (by show At_BeginQuorumEpochRequestTopicPartition _ (decP fs_sBeginQuorumEpochRequestTopicPartition v false (rMany (decV 10 (decP fs_sBeginQuorumEpochRequestTopicPartition v false) false false) k2_1 (rArr false x2_0.2).2).2).1 [.int .i32 (IntKind.i32.wrap x2_1_0.1.n), .int .u8 0, .int .u8 0, .int .u8 0, .int .u8 0, .int .u8 0, .int .u8 0, .int .u8 0, .int .u8 0, .int .u8 0, .int .u8 0, .int .u8 0, .int .u8 0, .int .u8 0, .int .u8 0, .int .u8 0, .int .u8 0, .int .i32 (IntKind.i32.wrap x2_1_2.1.n), .int .i32 (IntKind.i32.wrap x2_1_3.1.n), .map none]; rw [hD2_1_]; exact ⟨none, rfl, (KvAt.nil _)⟩)))⟩
              exact (.cons rfl (.cons rfl (.cons rfl (.cons rfl (.cons rfl (.cons rfl (.cons rfl (.cons rfl (.cons rfl (.cons rfl (.cons rfl (.cons rfl (.cons rfl (.cons rfl (.nil _)))))))))))))))
            · skip
              have hkn_ : k2_1 = (lT x2_1.1).length := by omega
              subst hkn_
              have hw2_2_1 : Row 228 20 a2_1 (lT x2_1.1).length c2_1 (es2_1.flatMap fk) M2_1 := by have h := hw_2_1; rw [Nat.sub_self] at h; simpa [reps] using h
              refine frW hw2_2_1 .head (fun Hf2_1 hlf2_1 hfz2_1 => ?_)
              have hrs2_1 := RowsAt.row (R := At_BeginQuorumEpochRequestTopicPartition) hfz2_1 hs_2_1.symm hw2_2_1.le.1 (fun p hp => At_BeginQuorumEpochRequestTopicPartition.mono _ _ _ _ hlf2_1 (hg_2_1 p hp))
              rw [he_2_1] at hrs2_1
              have hf2_1 : ListAt Hf2_1 x2_1.1 20 At_BeginQuorumEpochRequestTopicPartition a2_1 c2_1 := by rw [ex2_1]; exact listAt_of hrs2_1 hi2_1 (fun h => by have h1 := nul_le h; rw [show (lT x2_1.1).length = 0 by omega]; rfl)
              have hRx2_1 : RdAt Hf2_1 193 b_1 x2_1.2 RN2_1 := by rw [ex2_1]; exact (hR_2_1.mono hlf2_1)
              refine exX ?_
              refine XT ?_
              refine XT ?_
              refine Xb ?_
              refine Nt ?_
              refine sr ?_
              refine mv rfl rfl ?_
              refine asg rfl rfl ?_
              refine nl ?_
              refine rg ?_
              refine mv rfl rfl ?_
              refine mv rfl rfl ?_
              refine nc rfl rfl ?_
              refine fa F162_1 rfl rfl ?_
              refine stM (off := 1) Tryd.sizeOf160 rfl (by rw [ho2]) rfl rfl rfl (.tail .head) ?_
              refine nl ?_
              refine sr ?_
              refine mv rfl rfl ?_
              refine nl ?_
              refine cdF rfl (by omega) ?_
              refine skN ?_
              refine Nb ?_
              refine Nt ?_
              refine rg ?_
              refine mv rfl rfl ?_
              refine ad rfl rfl (c := ((k2 + 1 : Nat) : Int)) ((wrap32_le (by omega) (by omega)).trans (by omega)) rfl ?_
              refine asg rfl rfl ?_
              refine nN ?_
              obtain rfl : u2_ = ([], x2_1.2) := hu2_
              have hfs2 := flatMap_snoc' fk es2 ((⟨([.string ⟨x2_0.1.s.toArray⟩, .slice a2_1 (lT x2_1.1).length c2_1, .map none] : List Value), rfl, all_one rfl⟩, ((decV 10 (decP fs_sBeginQuorumEpochRequestTopic v false) false false) (rMany (decV 10 (decP fs_sBeginQuorumEpochRequestTopic v false) false false) k2 (rArr false x0.2).2).2).1) : KE 3)
              have hrw2 := hbk2 ([.string ⟨x2_0.1.s.toArray⟩, .slice a2_1 (lT x2_1.1).length c2_1, .map none] : List Value) rfl
              refine tfN (.tail .head) ?_
              refine fun a_ w_ hA hw => ⟨hkl2, _, _, _, hA.sub ?_, (le_4.trans (le_6.trans (le_7.trans hlf2_1))), hw, _, _, _, rfl, rfl, (by rw [rMany_succ]; show RdAt _ 193 b_1 (decP fs_sBeginQuorumEpochRequestTopic v false (rMany (decV 10 (decP fs_sBeginQuorumEpochRequestTopic v false) false false) k2 (rArr false x0.2).2).2).2 _; rw [hD2_]; exact hRx2_1), (by rw [← hfs2]; exact hrw2), (dec_els he_2), (fun p hp => (mem_snoc hp).elim (fun h => At_BeginQuorumEpochRequestTopic.mono _ _ _ _ (le_6.trans (le_7.trans hlf2_1)) (hg_2 p h)) (fun h => h ▸ (by show At_BeginQuorumEpochRequestTopic _ (decP fs_sBeginQuorumEpochRequestTopic v false (rMany (decV 10 (decP fs_sBeginQuorumEpochRequestTopic v false) false false) k2 (rArr false x0.2).2).2).1 [.string ⟨x2_0.1.s.toArray⟩, .slice a2_1 (lT x2_1.1).length c2_1, .map none]; rw [hD2_]; exact ⟨a2_1, c2_1, none, rfl, hf2_1, (KvAt.nil _)⟩)))⟩
              exact (.cons rfl (.cons rfl (.cons rfl (.cons rfl (.cons rfl (.cons rfl (.cons rfl (.cons rfl (.cons rfl (.nil _))))))))))
      · skip
        have hkn_ : k2 = (lT x2.1).length := by omega
        subst hkn_
        have hw2_2 : Row 162 3 a2 (lT x2.1).length c2 (es2.flatMap fk) M2 := by have h := hw_2; rw [Nat.sub_self] at h; simpa [reps] using h
        refine frW hw2_2 .head (fun Hf2 hlf2 hfz2 => ?_)
        have hrs2 := RowsAt.row (R := At_BeginQuorumEpochRequestTopic) hfz2 hs_2.symm hw2_2.le.1 (fun p hp => At_BeginQuorumEpochRequestTopic.mono _ _ _ _ hlf2 (hg_2 p hp))
        rw [he_2] at hrs2
        have hf2 : ListAt Hf2 x2.1 3 At_BeginQuorumEpochRequestTopic a2 c2 := by rw [ex2]; exact listAt_of hrs2 hi2 (fun h => by have h1 := nul_le h; rw [show (lT x2.1).length = 0 by omega]; rfl)
        have hRx2 : RdAt Hf2 193 b_1 x2.2 RN2 := by rw [ex2]; exact (hR_2.mono hlf2)
        refine exX ?_
        refine XT ?_
        refine XT ?_
        refine Xb ?_
        refine Nt ?_
        refine sr ?_
        refine mv rfl rfl ?_
        refine asg rfl rfl ?_
        refine nl ?_
        refine rg ?_
        refine mv rfl rfl ?_
        refine mv rfl rfl ?_
        refine nc rfl rfl ?_
        refine fa0 F157_3 rfl rfl ?_
        refine st Tryd.sizeOf154 rfl rfl rfl rfl (.tail .head) ?_
        refine nl ?_
        refine sq ?_
        refine sr ?_
        refine mv rfl rfl ?_
        refine ge rfl rfl rfl ?_
        refine nl ?_
        refine cdF rfl (by omega) ?_
        refine skt ?_
        refine sq ?_
        refine sr ?_
        refine mv rfl rfl ?_
        refine nl ?_
        refine cdF rfl (by omega) ?_
        refine skt ?_
        refine sr ?_
        refine cl rfl rfl rfl (r_complete hRx2 (he.mono (le_2.trans (le_3.trans (le_4.trans hlf2))))) rfl (fun v_ H1 L1 hle_ hR_ => ?_)
        obtain ⟨rfl, rfl, rfl⟩ := hR_
        refine asg rfl rfl ?_
        refine nl ?_
        refine drW .head ?_
        obtain rfl : x3 = ((Tr.mk 0 [] true [] []), x2.2) := (hx3.trans (step_no (Or.inl (show v < (1 : Int) by omega)))).trans (by rw [dflF_eq]; rfl)
        obtain rfl : u = ([], x2.2) := hu
        have hA_ := (show At_BeginQuorumEpochRequest v _ (decP fs_BeginQuorumEpochRequest v false _).1 [.int .i16 v, .pointer p0, .int .i32 (-1), .slice a2 (lT x2.1).length c2, .slice none 0 0, .map none] from (by rw [hD]; exact ⟨p0, a2, c2, none, 0, none, rfl, (hf0.mono (le_3.trans (le_4.trans hlf2))), hf2, (ListAt.none rfl), (KvAt.nil _)⟩))
        refine rT rfl rfl (le_2.trans (le_3.trans (le_4.trans hlf2))) (fun _ _ h => h) ⟨_, rfl, ?_⟩
        have hz := RdEnd.of (e := e) hA_
        rw [show (decP fs_BeginQuorumEpochRequest v false _).2.bad = x2.2.bad by rw [hD]] at hz
        exact hz
theorem rd_BeginQuorumEpochRequest_t {H : Fz} {L : Own} {b : Nat} {v : Int} {a : Option Addr} {c : Nat} {s : List UInt8} {e : Value} (hB : BytesAt H a c s) (hL_ : s.length ≤ BR) (he : H.at 1 0 [e]) (hv0 : 1 ≤ v) (hv1 : v ≤ 1) :
    Fn Tryd.prog 152 [.pointer (some ⟨b, 0, none⟩), .slice a s.length c, .bool false] H ([(b, .cells [.int .i16 v, .pointer none, .int .i32 (-1), .slice none 0 0, .slice none 0 0, .map none].toArray 157 (0, 0))] :: L) (fun r H' L' => ∃ cs : List Value, L' = [(b, .cells cs.toArray 157 (0, 0))] :: L ∧ RdEnd H' (At_BeginQuorumEpochRequest v) (decP fs_BeginQuorumEpochRequest v true ⟨s, false, !a.isNone⟩) e r cs) := by
  refine Fn.mk Tryd.call152 Tryd.func152 rfl Tryd.ntmps152 rfl ?_
  refine sr ?_
  refine asg rfl rfl ?_
  refine nl ?_
  refine sr ?_
  refine mv rfl rfl ?_
  refine cl rfl rfl rfl def0_BeginQuorumEpochRequest rfl (fun v_ H1 L1 hle_ hR_ => ?_)
  obtain ⟨rfl, rfl⟩ := hR_
  refine nl ?_
  refine sr ?_
  refine mv rfl rfl ?_
  refine bd' S193 rfl rfl rfl ?_
  refine al Tryd.zeroValue193 rfl rfl (fun b_1 => ?_)
  refine sa Tryd.sizeOf193 rfl rfl rfl rfl rfl .head ?_
  have hR0_ : RdAt H 193 b_1 ⟨s, false, !a.isNone⟩ [(b_1, .cells [_, _].toArray 193 (0, 0))] := ⟨a, c, rfl, hB, by simp⟩
  obtain ⟨x0, hx0⟩ : ∃ x, x = stepF (Fd.mk 8 0 (-1) 0 (-1) 0 0 []) v true ⟨s, false, !a.isNone⟩ := ⟨_, rfl⟩
  obtain ⟨x1, hx1⟩ : ∃ x, x = stepF (Fd.mk 3 1 (-1) (-1) (-1) (-1) 0 []) v true x0.2 := ⟨_, rfl⟩
  obtain ⟨x2, hx2⟩ : ∃ x, x = stepF (Fd.mk 11 0 (-1) (-1) (-1) 0 10 fs_sBeginQuorumEpochRequestTopic) v true x1.2 := ⟨_, rfl⟩
  obtain ⟨x3, hx3⟩ : ∃ x, x = stepF (Fd.mk 11 1 (-1) (-1) (-1) 0 10 fs_sBeginQuorumEpochRequestLeaderEndpoint) v true x2.2 := ⟨_, rfl⟩
  obtain ⟨u, hu⟩ : ∃ x, x = tailU true x3.2 := ⟨_, rfl⟩
  have hD : decP fs_BeginQuorumEpochRequest v true ⟨s, false, !a.isNone⟩ = (.mk 0 [] false [x0.1, x1.1, x2.1, x3.1] u.1, u.2) := by
    generalize (⟨s, false, !a.isNone⟩ : Rd) = r_ at hx0 ⊢
    rw [decP_eq]; unfold fs_BeginQuorumEpochRequest; simp only [decFs_cons, decFs_nil, ← hx0, ← hx1, ← hx2, ← hx3, ← hu]
  have hL0 : x0.2.s.length ≤ BR := by rw [hx0]; exact Nat.le_trans (stepF_shr _ _ _ _) hL_
  have hL1 : x1.2.s.length ≤ BR := by rw [hx1]; exact Nat.le_trans (stepF_shr _ _ _ _) hL0
  have hL2 : x2.2.s.length ≤ BR := by rw [hx2]; exact Nat.le_trans (stepF_shr _ _ _ _) hL1
  have hL3 : x3.2.s.length ≤ BR := by rw [hx3]; exact Nat.le_trans (stepF_shr _ _ _ _) hL2
  have hE : u.2.bad = true → (decP fs_BeginQuorumEpochRequest v true ⟨s, false, !a.isNone⟩).2.bad = true := fun h => by rw [hD]; exact h
  have hB3 : x3.2.bad = true → (decP fs_BeginQuorumEpochRequest v true ⟨s, false, !a.isNone⟩).2.bad = true := fun h => hE (by rw [hu]; exact tailU_bad h)
  have hB2 : x2.2.bad = true → (decP fs_BeginQuorumEpochRequest v true ⟨s, false, !a.isNone⟩).2.bad = true := fun h => hB3 (by rw [hx3]; exact step_bad h)
  have hB1 : x1.2.bad = true → (decP fs_BeginQuorumEpochRequest v true ⟨s, false, !a.isNone⟩).2.bad = true := fun h => hB2 (by rw [hx2]; exact step_bad h)
  have hB0 : x0.2.bad = true → (decP fs_BeginQuorumEpochRequest v true ⟨s, false, !a.isNone⟩).2.bad = true := fun h => hB1 (by rw [hx1]; exact step_bad h)
  refine nl ?_
  refine sr ?_
  refine mv rfl rfl ?_
  refine nc rfl rfl ?_
  refine fa0 F157_0 rfl rfl ?_
  refine ld (Says.own (.tail .head)) Tryd.isAgg45 rfl (Nat.zero_add _).symm rfl rfl ?_
  refine asg rfl rfl ?_
  refine nl ?_
  refine sr ?_
  refine mv rfl rfl ?_
  refine nl ?_
  refine sr ?_
  refine mv rfl rfl ?_
  refine ge rfl rfl rfl ?_
  refine asg rfl rfl ?_
  refine nl ?_
  refine sr ?_
  refine mv rfl rfl ?_
  refine nl ?_
  refine sr ?_
  refine mv rfl rfl ?_
  refine asg rfl rfl ?_
  refine nl ?_
  refine sq ?_
  refine sr ?_
  refine asg rfl rfl ?_
  refine nl ?_
  refine sq ?_
  refine sr ?_
  refine mv rfl rfl ?_
  refine nl ?_
  refine cdT rfl (by omega) ?_
  refine sr ?_
  refine mv rfl rfl ?_
  refine nl ?_
  refine cF rfl ?_
  refine rg ?_
  have ex0 : x0 = decV 8 (decP [] v true) true true ⟨s, false, !a.isNone⟩ := (hx0.trans (step_yes (by decide) (show (0 : Int) ≤ v by omega) (Or.inl (by decide)))).trans (decF'_val (by decide) (by simp only [Bool.and_eq_true, decide_eq_true_eq]; exact ⟨show (0 : Int) ≤ 0 by decide, show (0 : Int) ≤ v by omega⟩))
  refine cl rfl rfl rfl (d8tn hR0_ ex0) rfl (fun v_ H1 L1 le_2 hR_ => ?_)
  obtain ⟨N55, rfl, hR55, p0, rfl, hf0⟩ := hR_
  refine asg rfl rfl ?_
  refine nl ?_
  refine rg ?_
  refine mv rfl rfl ?_
  refine mv rfl rfl ?_
  refine nc rfl rfl ?_
  refine fa0 F157_1 rfl rfl ?_
  refine st Tryd.sizeOf104 rfl rfl rfl rfl (.tail .head) ?_
  refine nl ?_
  refine sq ?_
  refine sr ?_
  refine mv rfl rfl ?_
  refine ge rfl rfl rfl ?_
  refine nl ?_
  refine cdT rfl (by omega) ?_
  refine sr ?_
  have ex1 : x1 = decV 3 (decP [] v true) false true x0.2 := (hx1.trans (step_yes (by decide) (show (1 : Int) ≤ v by omega) (Or.inl (by decide)))).trans (decF'_val (by decide) (rfl))
  refine cl rfl rfl rfl (d3 hR55 ex1) rfl (fun v_ H1 L1 hle_ hR_ => ?_)
  obtain ⟨N65, rfl, hR65, rfl, rfl⟩ := hR_
  refine asg rfl rfl ?_
  refine nl ?_
  refine rg ?_
  refine mv rfl rfl ?_
  refine mv rfl rfl ?_
  refine nc rfl rfl ?_
  refine fa0 F157_2 rfl rfl ?_
  refine st Tryd.sizeOf21 rfl rfl rfl rfl (.tail .head) ?_
  refine nl ?_
  refine sq ?_
  refine sr ?_
  refine mv rfl rfl ?_
  refine nc rfl rfl ?_
  refine fa0 F157_3 rfl rfl ?_
  refine ld (Says.own (.tail .head)) Tryd.isAgg154 rfl (Nat.zero_add _).symm rfl rfl ?_
  refine asg rfl rfl ?_
  refine nl ?_
  refine sr ?_
  refine mv rfl rfl ?_
  refine asg rfl rfl ?_
  refine nl ?_
  refine sr ?_
  refine asg rfl rfl ?_
  refine nl ?_
  refine sq ?_
  refine sr ?_
  refine mv rfl rfl ?_
  refine nl ?_
  refine cdT rfl (by omega) ?_
  refine rg ?_
  have ey2 : x2 = (.mk 0 [] (if 0 ≤ ((-1) : Int) ∧ (v < ((-1) : Int) ∨ (rArr true x1.2).1 = 0) then false else decide ((rArr true x1.2).1 ≤ 0)) (rMany (decV 10 (decP fs_sBeginQuorumEpochRequestTopic v true) false true) (rArr true x1.2).1.toNat (rArr true x1.2).2).1 [], (rMany (decV 10 (decP fs_sBeginQuorumEpochRequestTopic v true) false true) (rArr true x1.2).1.toNat (rArr true x1.2).2).2) := (hx2.trans (step_yes (by decide) (show (0 : Int) ≤ v by omega) (Or.inl (by decide)))).trans (decF'_list rfl rfl)
  have hn2 : (rArr true x1.2).1.toNat = (lT x2.1).length := by rw [ey2]; exact (lT_many nul_le).symm
  have ex2 := ey2
  rw [hn2] at ex2
  have hl2 := rArr_le true x1.2
  have hm2 : (rArr true x1.2).2.s.length ≤ BR := Nat.le_trans (rArr_len true x1.2) hL1
  have hnb2 : (lT x2.1).length ≤ BR := by omega
  refine cl rfl rfl rfl (r_arrt hR65) rfl (fun v_ H1 L1 hle_ hR_ => ?_)
  obtain ⟨rfl, N76, rfl, hR76, rfl⟩ := hR_
  have hh2 := rArr_hi true x1.2
  refine asg rfl rfl ?_
  refine nl ?_
  refine sq ?_
  refine sr ?_
  refine cl rfl rfl rfl (r_ok hR76) rfl (fun v_ H1 L1 hle_ hR_ => ?_)
  obtain ⟨rfl, rfl, rfl⟩ := hR_
  refine nt rfl rfl ?_
  refine nl ?_
  refine cb rfl (fun h79 => ?_) (fun h79 => ?_)
  · skip
    have hbad_ : (rArr true x1.2).2.bad = true := by simpa using h79
    refine sr ?_
    refine cl rfl rfl rfl (r_complete hR76 (he.mono le_2)) rfl (fun v_ H1 L1 hle_ hR_ => ?_)
    obtain ⟨rfl, rfl, rfl⟩ := hR_
    refine asg rfl rfl ?_
    refine nl ?_
    refine drW .head ?_
    exact rT rfl rfl le_2 (fun _ _ h => h) ⟨_, rfl, RdEnd.out (hB2 (by rw [ey2]; exact rMany_bad (fun r h => decV_bad (decP_bad _ _ _) h) _ _ hbad_)) hbad_⟩
  · skip
    refine skt ?_
    refine sr ?_
    refine mv rfl rfl ?_
    refine sh' (j := 0) Tryd.runUnderlying154 Tryd.sizeOf162 rfl rfl rfl (Nat.zero_le _) rfl ?_
    refine asg rfl rfl ?_
    refine nl ?_
    refine sq ?_
    refine sr ?_
    refine mv rfl rfl ?_
    refine gt rfl rfl rfl ?_
    refine nl ?_
    refine nulC2 ?_
    refine cutT (fun l' H' L' => ∃ (a2 : Option Addr), ∃ (c2 : Nat), ∃ (Nr2 : Chunk), [(2, .bool false), (7, .pointer (some ⟨b_1, 0, none⟩)), (8, .int .i16 v), (9, .bool (decide ((1 : Int) ≤ v))), (10, .pointer (some ⟨b, 0, none⟩)), (13, .slice none 0 0), (14, .slice a2 (lT x2.1).length c2), (15, .int .i32 (rArr true x1.2).1)] = l' ∧ Nr2 :: N76 :: [(b, .cells [.int .i16 v, .pointer p0, .int .i32 (IntKind.i32.wrap x1.1.n), .slice none 0 0, .slice none 0 0, .map none].toArray 157 (0, 0))] :: L = L' ∧ Row 162 3 a2 (lT x2.1).length c2 (reps [.string ⟨#[]⟩, .slice none 0 0, .map none] (lT x2.1).length) Nr2 ∧ a2.isNone = (if 0 ≤ ((-1) : Int) ∧ (v < ((-1) : Int) ∨ (rArr true x1.2).1 = 0) then false else decide ((rArr true x1.2).1 ≤ 0))) ?_ (fun l' H' L' le_4 hI => ?_)
    · skip
      refine cd rfl (fun h84 => ?_) (fun h84 => ?_)
      · skip
        refine rg ?_
        refine mv rfl rfl ?_
        refine mv rfl rfl ?_
        refine apz (zs := [.string ⟨#[]⟩, .slice none 0 0, .map none]) (m := (lT x2.1).length) Tryd.underlying154 Tryd.underlying21 I162 rfl rfl rfl (by omega) (by omega) (by have h9 := hnb2; unfold BR at h9; omega) (by have h9 := hnb2; unfold BR at h9; unfold maxLen; omega) rfl (fun g87 cp87 N87 r87 => ?_)
        refine asg rfl rfl ?_
        refine nN ?_
        refine drN (.tail .head) ?_
        refine fun a_ w_ hA hw => ⟨_, _, _, hA.sub ?_, (Fz.le.refl _), hw, (some ⟨g87, 0, none⟩), cp87, N87, rfl, rfl, r87, (by rw [if_neg (by omega)]; exact (decide_eq_false (by omega)).symm)⟩
        exact (.cons rfl (.cons rfl (.cons rfl (.cons rfl (.cons rfl (.cons rfl (.cons rfl (.cons rfl (.nil _)))))))))
      · skip
        refine skN ?_
        refine fun a_ w_ hA hw => ⟨_, _, _, hA.sub ?_, (Fz.le.refl _), hw, none, 0, [], rfl, rfl, (by rw [show (lT x2.1).length = 0 by omega]; exact (Row.nil _ _)), (by rw [if_neg (by omega)]; exact (decide_eq_true (by omega)).symm)⟩
        exact (.cons rfl (.cons rfl (.cons rfl (.cons rfl (.cons rfl (.cons rfl (.cons (by rw [show (lT x2.1).length = 0 by omega]; rfl) (.cons rfl (.nil _)))))))))
    · skip
      obtain ⟨a2, c2, Nr2, rfl, rfl, pj0, pj1⟩ := hI
      have hr2 := pj0
      have hi2 := pj1
      refine sq ?_
      refine sr ?_
      refine asg rfl rfl ?_
      refine nl ?_
      refine bl (lp ((lT x2.1).length) (fun k2 l' H' L' => ∃ (es2 : List (KE 3)) (M2 RN2 : Chunk), [(2, .bool false), (7, .pointer (some ⟨b_1, 0, none⟩)), (8, .int .i16 v), (9, .bool (decide ((1 : Int) ≤ v))), (10, .pointer (some ⟨b, 0, none⟩)), (13, .slice none 0 0), (14, .slice a2 (lT x2.1).length c2), (15, .int .i32 (rArr true x1.2).1), (16, .int .i32 (k2 : Int))] = l' ∧ M2 :: RN2 :: [(b, .cells [.int .i16 v, .pointer p0, .int .i32 (IntKind.i32.wrap x1.1.n), .slice none 0 0, .slice none 0 0, .map none].toArray 157 (0, 0))] :: L = L' ∧ RdAt H' 193 b_1 (rMany (decV 10 (decP fs_sBeginQuorumEpochRequestTopic v true) false true) k2 (rArr true x1.2).2).2 RN2 ∧ Row 162 3 a2 (lT x2.1).length c2 (es2.flatMap fk ++ reps [.string ⟨#[]⟩, .slice none 0 0, .map none] ((lT x2.1).length - k2)) M2 ∧ es2.map (·.2) = (rMany (decV 10 (decP fs_sBeginQuorumEpochRequestTopic v true) false true) k2 (rArr true x1.2).2).1 ∧ ∀ p ∈ es2, At_BeginQuorumEpochRequestTopic H' p.2 (fk p)) [(2, .bool false), (7, .pointer (some ⟨b_1, 0, none⟩)), (8, .int .i16 v), (9, .bool (decide ((1 : Int) ≤ v))), (10, .pointer (some ⟨b, 0, none⟩)), (13, .slice none 0 0), (14, .slice a2 (lT x2.1).length c2), (15, .int .i32 (rArr true x1.2).1), (16, .int .i32 (0 : Int))] (.cons rfl (.cons rfl (.cons rfl (.cons rfl (.cons rfl (.cons rfl (.cons rfl (.cons rfl (.cons rfl (.nil _)))))))))) ⟨[], Nr2, _, rfl, rfl, (hR76.mono le_4), hr2, rfl, (fun p hp => by cases hp)⟩ (fun k2 l' H' L' hk2 le_5 hI => ?_))
      obtain ⟨es2, M2, RN2, rfl, rfl, hR_2, hw_2, he_2, hg_2⟩ := hI
      have hs_2 := els_len he_2
      have hp_2 : (es2.flatMap fk).length = k2 * 3 := els_flat hs_2
      refine sq ?_
      refine sr ?_
      refine mv rfl rfl ?_
      refine mv rfl rfl ?_
      refine lt rfl rfl rfl ?_
      refine nl ?_
      refine cd rfl (fun h90 => ?_) (fun h90 => ?_)
      · skip
        have hkl2 : k2 < (lT x2.1).length := by omega
        obtain ⟨g2, po2, hga2, rfl, hbk2⟩ := hw_2.next (zs := [.string ⟨#[]⟩, .slice none 0 0, .map none]) hkl2 rfl (by decide)
        have ho2 : 0 + k2 * 3 = (es2.flatMap fk).length := by rw [hp_2]; omega
        have hbz2 : ((decV 10 (decP fs_sBeginQuorumEpochRequestTopic v true) false true) (rMany (decV 10 (decP fs_sBeginQuorumEpochRequestTopic v true) false true) k2 (rArr true x1.2).2).2).2.bad = true → (decP fs_BeginQuorumEpochRequest v true ⟨s, false, !a.isNone⟩).2.bad = true := fun h => hB2 (by rw [ex2]; exact rMany_mono (fun r h => decV_bad (fun r h => decP_bad _ _ _ r h) h) _ (show k2 + 1 ≤ (lT x2.1).length from hkl2) (by rw [rMany_succ]; exact h))
        have hLk2 : (rMany (decV 10 (decP fs_sBeginQuorumEpochRequestTopic v true) false true) k2 (rArr true x1.2).2).2.s.length ≤ BR := Nat.le_trans (rMany_shr (fun r => decV_shr (fun r => decP_shr _ _ _ r) r) _ _) hm2
        have hL2__ := hLk2
        obtain ⟨x2_0, hx2_0⟩ : ∃ x, x = stepF (Fd.mk 8 0 (-1) (-1) (-1) 0 0 []) v true (rMany (decV 10 (decP fs_sBeginQuorumEpochRequestTopic v true) false true) k2 (rArr true x1.2).2).2 := ⟨_, rfl⟩
        obtain ⟨x2_1, hx2_1⟩ : ∃ x, x = stepF (Fd.mk 11 0 (-1) (-1) (-1) 0 10 fs_sBeginQuorumEpochRequestTopicPartition) v true x2_0.2 := ⟨_, rfl⟩
        obtain ⟨u2_, hu2_⟩ : ∃ x, x = tailU true x2_1.2 := ⟨_, rfl⟩
        have hD2_ : decP fs_sBeginQuorumEpochRequestTopic v true (rMany (decV 10 (decP fs_sBeginQuorumEpochRequestTopic v true) false true) k2 (rArr true x1.2).2).2 = (.mk 0 [] false [x2_0.1, x2_1.1] u2_.1, u2_.2) := by
          generalize ((rMany (decV 10 (decP fs_sBeginQuorumEpochRequestTopic v true) false true) k2 (rArr true x1.2).2).2 : Rd) = r_ at hx2_0 ⊢
          rw [decP_eq]; unfold fs_sBeginQuorumEpochRequestTopic; simp only [decFs_cons, decFs_nil, ← hx2_0, ← hx2_1, ← hu2_]
        have hL2_0 : x2_0.2.s.length ≤ BR := by rw [hx2_0]; exact Nat.le_trans (stepF_shr _ _ _ _) hL2__
        have hL2_1 : x2_1.2.s.length ≤ BR := by rw [hx2_1]; exact Nat.le_trans (stepF_shr _ _ _ _) hL2_0
        have hE2_ : u2_.2.bad = true → (decP fs_BeginQuorumEpochRequest v true ⟨s, false, !a.isNone⟩).2.bad = true := fun h => hbz2 (by show (decP fs_sBeginQuorumEpochRequestTopic v true (rMany (decV 10 (decP fs_sBeginQuorumEpochRequestTopic v true) false true) k2 (rArr true x1.2).2).2).2.bad = true; rw [hD2_]; exact h)
        have hB2_1 : x2_1.2.bad = true → (decP fs_BeginQuorumEpochRequest v true ⟨s, false, !a.isNone⟩).2.bad = true := fun h => hE2_ (by rw [hu2_]; exact tailU_bad h)
        have hB2_0 : x2_0.2.bad = true → (decP fs_BeginQuorumEpochRequest v true ⟨s, false, !a.isNone⟩).2.bad = true := fun h => hB2_1 (by rw [hx2_1]; exact step_bad h)
        refine skt ?_
        refine sq ?_
        refine bl ?_
        refine sr ?_
        refine mv rfl rfl ?_
        refine mv rfl rfl ?_
        refine ixk (j := k2) Tryd.runUnderlying154 Tryd.sizeOf162 rfl hga2 rfl rfl hkl2 rfl ?_
        refine asg rfl rfl ?_
        refine nl ?_
        refine sr ?_
        refine mv rfl rfl ?_
        refine cl rfl rfl rfl (def_BeginQuorumEpochRequestTopic ho2) rfl (fun v_ H1 L1 hle_ hR_ => ?_)
        obtain ⟨rfl, rfl⟩ := hR_
        refine nl ?_
        refine sr ?_
        refine mv rfl rfl ?_
        refine asg rfl rfl ?_
        refine nl ?_
        refine sq ?_
        refine sr ?_
        refine asg rfl rfl ?_
        refine nl ?_
        refine sq ?_
        refine sr ?_
        refine mv rfl rfl ?_
        refine nl ?_
        refine cF rfl ?_
        refine sr ?_
        refine mv rfl rfl ?_
        refine nl ?_
        refine cdT rfl (by omega) ?_
        refine rg ?_
        refine tf (.tail .head) ?_
        have ex2_0 : x2_0 = decV 8 (decP [] v true) false true (rMany (decV 10 (decP fs_sBeginQuorumEpochRequestTopic v true) false true) k2 (rArr true x1.2).2).2 := (hx2_0.trans (step_yes (by decide) (show (0 : Int) ≤ v by omega) (Or.inl (by decide)))).trans (decF'_val (by decide) (rfl))
        refine cl rfl rfl rfl (d8t hR_2 ex2_0) rfl (fun v_ H1 L1 le_6 hR_ => ?_)
        obtain ⟨N104, rfl, hR104, rfl, rfl⟩ := hR_
        refine asg rfl rfl ?_
        refine nl ?_
        refine rg ?_
        refine mv rfl rfl ?_
        refine mv rfl rfl ?_
        refine nc rfl rfl ?_
        refine fa F162_0 rfl rfl ?_
        refine stM (off := 0) Tryd.sizeOf9 rfl (by rw [ho2]) rfl rfl rfl (.tail .head) ?_
        refine nl ?_
        refine sq ?_
        refine sr ?_
        refine mv rfl rfl ?_
        refine nc rfl rfl ?_
        refine fa F162_1 rfl rfl ?_
        refine ld (j := 1) (off := 0 + k2 * 3) (Says.mid (.tail .head) ho2) Tryd.isAgg160 rfl rfl rfl rfl ?_
        refine asg rfl rfl ?_
        refine nl ?_
        refine sr ?_
        refine mv rfl rfl ?_
        refine asg rfl rfl ?_
        refine nl ?_
        refine sr ?_
        refine asg rfl rfl ?_
        refine nl ?_
        refine sq ?_
        refine sr ?_
        refine mv rfl rfl ?_
        refine nl ?_
        refine cdT rfl (by omega) ?_
        refine rg ?_
        have ey2_1 : x2_1 = (.mk 0 [] (if 0 ≤ ((-1) : Int) ∧ (v < ((-1) : Int) ∨ (rArr true x2_0.2).1 = 0) then false else decide ((rArr true x2_0.2).1 ≤ 0)) (rMany (decV 10 (decP fs_sBeginQuorumEpochRequestTopicPartition v true) false true) (rArr true x2_0.2).1.toNat (rArr true x2_0.2).2).1 [], (rMany (decV 10 (decP fs_sBeginQuorumEpochRequestTopicPartition v true) false true) (rArr true x2_0.2).1.toNat (rArr true x2_0.2).2).2) := (hx2_1.trans (step_yes (by decide) (show (0 : Int) ≤ v by omega) (Or.inl (by decide)))).trans (decF'_list rfl rfl)
        have hn2_1 : (rArr true x2_0.2).1.toNat = (lT x2_1.1).length := by rw [ey2_1]; exact (lT_many nul_le).symm
        have ex2_1 := ey2_1
        rw [hn2_1] at ex2_1
        have hl2_1 := rArr_le true x2_0.2
        have hm2_1 : (rArr true x2_0.2).2.s.length ≤ BR := Nat.le_trans (rArr_len true x2_0.2) hL2_0
        have hnb2_1 : (lT x2_1.1).length ≤ BR := by omega
        refine cl rfl rfl rfl (r_arrt hR104) rfl (fun v_ H1 L1 hle_ hR_ => ?_)
        obtain ⟨rfl, N116, rfl, hR116, rfl⟩ := hR_
        have hh2_1 := rArr_hi true x2_0.2
        refine asg rfl rfl ?_
        refine nl ?_
        refine sq ?_
        refine sr ?_
        refine cl rfl rfl rfl (r_ok hR116) rfl (fun v_ H1 L1 hle_ hR_ => ?_)
        obtain ⟨rfl, rfl, rfl⟩ := hR_
        refine nt rfl rfl ?_
        refine nl ?_
        refine cb rfl (fun h119 => ?_) (fun h119 => ?_)
        · skip
          have hbad_ : (rArr true x2_0.2).2.bad = true := by simpa using h119
          refine sr ?_
          refine cl rfl rfl rfl (r_complete hR116 (he.mono (le_2.trans (le_4.trans le_5)))) rfl (fun v_ H1 L1 hle_ hR_ => ?_)
          obtain ⟨rfl, rfl, rfl⟩ := hR_
          refine asg rfl rfl ?_
          refine nl ?_
          refine drW .head ?_
          refine drW .head ?_
          exact rT rfl rfl (le_2.trans (le_4.trans le_5)) (fun _ _ h => h) ⟨_, rfl, RdEnd.out (hB2_1 (by rw [ey2_1]; exact rMany_bad (fun r h => decV_bad (decP_bad _ _ _) h) _ _ hbad_)) hbad_⟩
        · skip
          refine skt ?_
          refine sr ?_
          refine mv rfl rfl ?_
          refine sh' (j := 0) Tryd.runUnderlying160 Tryd.sizeOf228 rfl rfl rfl (Nat.zero_le _) rfl ?_
          refine asg rfl rfl ?_
          refine nl ?_
          refine sq ?_
          refine sr ?_
          refine mv rfl rfl ?_
          refine gt rfl rfl rfl ?_
          refine nl ?_
          refine nulC2 ?_
          refine cutT (fun l' H' L' => ∃ (a2_1 : Option Addr), ∃ (c2_1 : Nat), ∃ (Nr2_1 : Chunk), [(2, .bool false), (7, .pointer (some ⟨b_1, 0, none⟩)), (8, .int .i16 v), (9, .bool (decide ((1 : Int) ≤ v))), (10, .pointer (some ⟨b, 0, none⟩)), (13, .slice none 0 0), (14, .slice a2 (lT x2.1).length c2), (15, .int .i32 (rArr true x1.2).1), (16, .int .i32 (k2 : Int)), (18, .pointer (some ⟨g2, 0 + k2 * 3, none⟩)), (20, .slice none 0 0), (21, .slice a2_1 (lT x2_1.1).length c2_1), (22, .int .i32 (rArr true x2_0.2).1)] = l' ∧ Nr2_1 :: N116 :: [(g2, .cells ((es2.flatMap fk) ++ ([.string ⟨x2_0.1.s.toArray⟩, .slice none 0 0, .map none] : List Value) ++ po2).toArray 162 (0, 0))] :: [(b, .cells [.int .i16 v, .pointer p0, .int .i32 (IntKind.i32.wrap x1.1.n), .slice none 0 0, .slice none 0 0, .map none].toArray 157 (0, 0))] :: L = L' ∧ Row 228 20 a2_1 (lT x2_1.1).length c2_1 (reps [.int .i32 0, .int .u8 0, .int .u8 0, .int .u8 0, .int .u8 0, .int .u8 0, .int .u8 0, .int .u8 0, .int .u8 0, .int .u8 0, .int .u8 0, .int .u8 0, .int .u8 0, .int .u8 0, .int .u8 0, .int .u8 0, .int .u8 0, .int .i32 0, .int .i32 0, .map none] (lT x2_1.1).length) Nr2_1 ∧ a2_1.isNone = (if 0 ≤ ((-1) : Int) ∧ (v < ((-1) : Int) ∨ (rArr true x2_0.2).1 = 0) then false else decide ((rArr true x2_0.2).1 ≤ 0))) ?_ (fun l' H' L' le_7 hI => ?_)
          · skip
            refine cd rfl (fun h124 => ?_) (fun h124 => ?_)
            · skip
              refine rg ?_
              refine mv rfl rfl ?_
              refine mv rfl rfl ?_
              refine apz (zs := [.int .i32 0, .int .u8 0, .int .u8 0, .int .u8 0, .int .u8 0, .int .u8 0, .int .u8 0, .int .u8 0, .int .u8 0, .int .u8 0, .int .u8 0, .int .u8 0, .int .u8 0, .int .u8 0, .int .u8 0, .int .u8 0, .int .u8 0, .int .i32 0, .int .i32 0, .map none]) (m := (lT x2_1.1).length) Tryd.underlying160 Tryd.underlying21 I228 rfl rfl rfl (by omega) (by omega) (by have h9 := hnb2_1; unfold BR at h9; omega) (by have h9 := hnb2_1; unfold BR at h9; unfold maxLen; omega) rfl (fun g127 cp127 N127 r127 => ?_)
              refine asg rfl rfl ?_
              refine nN ?_
              refine drN (.tail .head) ?_
              refine fun a_ w_ hA hw => ⟨_, _, _, hA.sub ?_, (Fz.le.refl _), hw, (some ⟨g127, 0, none⟩), cp127, N127, rfl, rfl, r127, (by rw [if_neg (by omega)]; exact (decide_eq_false (by omega)).symm)⟩
              exact (.cons rfl (.cons rfl (.cons rfl (.cons rfl (.cons rfl (.cons rfl (.cons rfl (.cons rfl (.cons rfl (.cons rfl (.cons rfl (.cons rfl (.cons rfl (.nil _))))))))))))))
            · skip
              refine skN ?_
              refine fun a_ w_ hA hw => ⟨_, _, _, hA.sub ?_, (Fz.le.refl _), hw, none, 0, [], rfl, rfl, (by rw [show (lT x2_1.1).length = 0 by omega]; exact (Row.nil _ _)), (by rw [if_neg (by omega)]; exact (decide_eq_true (by omega)).symm)⟩
              exact (.cons rfl (.cons rfl (.cons rfl (.cons rfl (.cons rfl (.cons rfl (.cons rfl (.cons rfl (.cons rfl (.cons rfl (.cons rfl (.cons (by rw [show (lT x2_1.1).length = 0 by omega]; rfl) (.cons rfl (.nil _))))))))))))))
          · skip
            obtain ⟨a2_1, c2_1, Nr2_1, rfl, rfl, pj0, pj1⟩ := hI
            have hr2_1 := pj0
            have hi2_1 := pj1
            refine sq ?_
            refine sr ?_
            refine asg rfl rfl ?_
            refine nl ?_
            refine bl (lp ((lT x2_1.1).length) (fun k2_1 l' H' L' => ∃ (es2_1 : List (KE 20)) (M2_1 RN2_1 : Chunk), [(2, .bool false), (7, .pointer (some ⟨b_1, 0, none⟩)), (8, .int .i16 v), (9, .bool (decide ((1 : Int) ≤ v))), (10, .pointer (some ⟨b, 0, none⟩)), (13, .slice none 0 0), (14, .slice a2 (lT x2.1).length c2), (15, .int .i32 (rArr true x1.2).1), (16, .int .i32 (k2 : Int)), (18, .pointer (some ⟨g2, 0 + k2 * 3, none⟩)), (20, .slice none 0 0), (21, .slice a2_1 (lT x2_1.1).length c2_1), (22, .int .i32 (rArr true x2_0.2).1), (23, .int .i32 (k2_1 : Int))] = l' ∧ M2_1 :: RN2_1 :: [(g2, .cells ((es2.flatMap fk) ++ ([.string ⟨x2_0.1.s.toArray⟩, .slice none 0 0, .map none] : List Value) ++ po2).toArray 162 (0, 0))] :: [(b, .cells [.int .i16 v, .pointer p0, .int .i32 (IntKind.i32.wrap x1.1.n), .slice none 0 0, .slice none 0 0, .map none].toArray 157 (0, 0))] :: L = L' ∧ RdAt H' 193 b_1 (rMany (decV 10 (decP fs_sBeginQuorumEpochRequestTopicPartition v true) false true) k2_1 (rArr true x2_0.2).2).2 RN2_1 ∧ Row 228 20 a2_1 (lT x2_1.1).length c2_1 (es2_1.flatMap fk ++ reps [.int .i32 0, .int .u8 0, .int .u8 0, .int .u8 0, .int .u8 0, .int .u8 0, .int .u8 0, .int .u8 0, .int .u8 0, .int .u8 0, .int .u8 0, .int .u8 0, .int .u8 0, .int .u8 0, .int .u8 0, .int .u8 0, .int .u8 0, .int .i32 0, .int .i32 0, .map none] ((lT x2_1.1).length - k2_1)) M2_1 ∧ es2_1.map (·.2) = (rMany (decV 10 (decP fs_sBeginQuorumEpochRequestTopicPartition v true) false true) k2_1 (rArr true x2_0.2).2).1 ∧ ∀ p ∈ es2_1, At_BeginQuorumEpochRequestTopicPartition H' p.2 (fk p)) [(2, .bool false), (7, .pointer (some ⟨b_1, 0, none⟩)), (8, .int .i16 v), (9, .bool (decide ((1 : Int) ≤ v))), (10, .pointer (some ⟨b, 0, none⟩)), (13, .slice none 0 0), (14, .slice a2 (lT x2.1).length c2), (15, .int .i32 (rArr true x1.2).1), (16, .int .i32 (k2 : Int)), (18, .pointer (some ⟨g2, 0 + k2 * 3, none⟩)), (20, .slice none 0 0), (21, .slice a2_1 (lT x2_1.1).length c2_1), (22, .int .i32 (rArr true x2_0.2).1), (23, .int .i32 (0 : Int))] (.cons rfl (.cons rfl (.cons rfl (.cons rfl (.cons rfl (.cons rfl (.cons rfl (.cons rfl (.cons rfl (.cons rfl (.cons rfl (.cons rfl (.cons rfl (.cons rfl (.nil _))))))))))))))) ⟨[], Nr2_1, _, rfl, rfl, (hR116.mono le_7), hr2_1, rfl, (fun p hp => by cases hp)⟩ (fun k2_1 l' H' L' hk2_1 le_8 hI => ?_))
            obtain ⟨es2_1, M2_1, RN2_1, rfl, rfl, hR_2_1, hw_2_1, he_2_1, hg_2_1⟩ := hI
            have hs_2_1 := els_len he_2_1
            have hp_2_1 : (es2_1.flatMap fk).length = k2_1 * 20 := els_flat hs_2_1
            refine sq ?_
            refine sr ?_
            refine mv rfl rfl ?_
            refine mv rfl rfl ?_
            refine lt rfl rfl rfl ?_
            refine nl ?_
            refine cd rfl (fun h130 => ?_) (fun h130 => ?_)
            · skip
              have hkl2_1 : k2_1 < (lT x2_1.1).length := by omega
              obtain ⟨g2_1, po2_1, hga2_1, rfl, hbk2_1⟩ := hw_2_1.next (zs := [.int .i32 0, .int .u8 0, .int .u8 0, .int .u8 0, .int .u8 0, .int .u8 0, .int .u8 0, .int .u8 0, .int .u8 0, .int .u8 0, .int .u8 0, .int .u8 0, .int .u8 0, .int .u8 0, .int .u8 0, .int .u8 0, .int .u8 0, .int .i32 0, .int .i32 0, .map none]) hkl2_1 rfl (by decide)
              have ho2_1 : 0 + k2_1 * 20 = (es2_1.flatMap fk).length := by rw [hp_2_1]; omega
              have hbz2_1 : ((decV 10 (decP fs_sBeginQuorumEpochRequestTopicPartition v true) false true) (rMany (decV 10 (decP fs_sBeginQuorumEpochRequestTopicPartition v true) false true) k2_1 (rArr true x2_0.2).2).2).2.bad = true → (decP fs_BeginQuorumEpochRequest v true ⟨s, false, !a.isNone⟩).2.bad = true := fun h => hB2_1 (by rw [ex2_1]; exact rMany_mono (fun r h => decV_bad (fun r h => decP_bad _ _ _ r h) h) _ (show k2_1 + 1 ≤ (lT x2_1.1).length from hkl2_1) (by rw [rMany_succ]; exact h))
              have hLk2_1 : (rMany (decV 10 (decP fs_sBeginQuorumEpochRequestTopicPartition v true) false true) k2_1 (rArr true x2_0.2).2).2.s.length ≤ BR := Nat.le_trans (rMany_shr (fun r => decV_shr (fun r => decP_shr _ _ _ r) r) _ _) hm2_1
              have hL2_1__ := hLk2_1
              obtain ⟨x2_1_0, hx2_1_0⟩ : ∃ x, x = stepF (Fd.mk 3 0 (-1) (-1) (-1) 0 0 []) v true (rMany (decV 10 (decP fs_sBeginQuorumEpochRequestTopicPartition v true) false true) k2_1 (rArr true x2_0.2).2).2 := ⟨_, rfl⟩
              obtain ⟨x2_1_1, hx2_1_1⟩ : ∃ x, x = stepF (Fd.mk 7 1 (-1) (-1) (-1) 0 0 []) v true x2_1_0.2 := ⟨_, rfl⟩
              obtain ⟨x2_1_2, hx2_1_2⟩ : ∃ x, x = stepF (Fd.mk 3 0 (-1) (-1) (-1) 0 0 []) v true x2_1_1.2 := ⟨_, rfl⟩
              obtain ⟨x2_1_3, hx2_1_3⟩ : ∃ x, x = stepF (Fd.mk 3 0 (-1) (-1) (-1) 0 0 []) v true x2_1_2.2 := ⟨_, rfl⟩
              obtain ⟨u2_1_, hu2_1_⟩ : ∃ x, x = tailU true x2_1_3.2 := ⟨_, rfl⟩
              have hD2_1_ : decP fs_sBeginQuorumEpochRequestTopicPartition v true (rMany (decV 10 (decP fs_sBeginQuorumEpochRequestTopicPartition v true) false true) k2_1 (rArr true x2_0.2).2).2 = (.mk 0 [] false [x2_1_0.1, x2_1_1.1, x2_1_2.1, x2_1_3.1] u2_1_.1, u2_1_.2) := by
                generalize ((rMany (decV 10 (decP fs_sBeginQuorumEpochRequestTopicPartition v true) false true) k2_1 (rArr true x2_0.2).2).2 : Rd) = r_ at hx2_1_0 ⊢
                rw [decP_eq]; unfold fs_sBeginQuorumEpochRequestTopicPartition; simp only [decFs_cons, decFs_nil, ← hx2_1_0, ← hx2_1_1, ← hx2_1_2, ← hx2_1_3, ← hu2_1_]
              have hL2_1_0 : x2_1_0.2.s.length ≤ BR := by rw [hx2_1_0]; exact Nat.le_trans (stepF_shr _ _ _ _) hL2_1__
              have hL2_1_1 : x2_1_1.2.s.length ≤ BR := by rw [hx2_1_1]; exact Nat.le_trans (stepF_shr _ _ _ _) hL2_1_0
              have hL2_1_2 : x2_1_2.2.s.length ≤ BR := by rw [hx2_1_2]; exact Nat.le_trans (stepF_shr _ _ _ _) hL2_1_1
              have hL2_1_3 : x2_1_3.2.s.length ≤ BR := by rw [hx2_1_3]; exact Nat.le_trans (stepF_shr _ _ _ _) hL2_1_2
              have hE2_1_ : u2_1_.2.bad = true → (decP fs_BeginQuorumEpochRequest v true ⟨s, false, !a.isNone⟩).2.bad = true := fun h => hbz2_1 (by show (decP fs_sBeginQuorumEpochRequestTopicPartition v true (rMany (decV 10 (decP fs_sBeginQuorumEpochRequestTopicPartition v true) false true) k2_1 (rArr true x2_0.2).2).2).2.bad = true; rw [hD2_1_]; exact h)
              have hB2_1_3 : x2_1_3.2.bad = true → (decP fs_BeginQuorumEpochRequest v true ⟨s, false, !a.isNone⟩).2.bad = true := fun h => hE2_1_ (by rw [hu2_1_]; exact tailU_bad h)
              have hB2_1_2 : x2_1_2.2.bad = true → (decP fs_BeginQuorumEpochRequest v true ⟨s, false, !a.isNone⟩).2.bad = true := fun h => hB2_1_3 (by rw [hx2_1_3]; exact step_bad h)
              have hB2_1_1 : x2_1_1.2.bad = true → (decP fs_BeginQuorumEpochRequest v true ⟨s, false, !a.isNone⟩).2.bad = true := fun h => hB2_1_2 (by rw [hx2_1_2]; exact step_bad h)
              have hB2_1_0 : x2_1_0.2.bad = true → (decP fs_BeginQuorumEpochRequest v true ⟨s, false, !a.isNone⟩).2.bad = true := fun h => hB2_1_1 (by rw [hx2_1_1]; exact step_bad h)
              refine skt ?_
              refine sq ?_
              refine bl ?_
              refine sr ?_
              refine mv rfl rfl ?_
              refine mv rfl rfl ?_
              refine ixk (j := k2_1) Tryd.runUnderlying160 Tryd.sizeOf228 rfl hga2_1 rfl rfl hkl2_1 rfl ?_
              refine asg rfl rfl ?_
              refine nl ?_
              refine sr ?_
              refine mv rfl rfl ?_
              refine cl rfl rfl rfl (def_BeginQuorumEpochRequestTopicPartition ho2_1) rfl (fun v_ H1 L1 hle_ hR_ => ?_)
              obtain ⟨rfl, rfl⟩ := hR_
              refine nl ?_
              refine sr ?_
              refine mv rfl rfl ?_
              refine asg rfl rfl ?_
              refine nl ?_
              refine sq ?_
              refine sr ?_
              refine tf (.tail .head) ?_
              have ex2_1_0 : x2_1_0 = decV 3 (decP [] v true) false true (rMany (decV 10 (decP fs_sBeginQuorumEpochRequestTopicPartition v true) false true) k2_1 (rArr true x2_0.2).2).2 := (hx2_1_0.trans (step_yes (by decide) (show (0 : Int) ≤ v by omega) (Or.inl (by decide)))).trans (decF'_val (by decide) (rfl))
              refine cl rfl rfl rfl (d3 hR_2_1 ex2_1_0) rfl (fun v_ H1 L1 hle_ hR_ => ?_)
              obtain ⟨N139, rfl, hR139, rfl, rfl⟩ := hR_
              refine asg rfl rfl ?_
              refine nl ?_
              refine rg ?_
              refine mv rfl rfl ?_
              refine mv rfl rfl ?_
              refine nc rfl rfl ?_
              refine fa F228_0 rfl rfl ?_
              refine stM (off := 0) Tryd.sizeOf21 rfl (by rw [ho2_1]) rfl rfl rfl (.tail .head) ?_
              refine nl ?_
              refine sq ?_
              refine sr ?_
              refine mv rfl rfl ?_
              refine ge rfl rfl rfl ?_
              refine nl ?_
              refine cdT rfl (by omega) ?_
              refine sr ?_
              have ex2_1_1 : x2_1_1 = decV 7 (decP [] v true) false true x2_1_0.2 := (hx2_1_1.trans (step_yes (by decide) (show (1 : Int) ≤ v by omega) (Or.inl (by decide)))).trans (decF'_val (by decide) (rfl))
              refine cl rfl rfl rfl (d7 hR139 ex2_1_1) rfl (fun v_ H1 L1 hle_ hR_ => ?_)
              obtain ⟨N146, rfl, hR146, rfl, rfl⟩ := hR_
              refine al Tryd.zeroValue143 rfl rfl (fun b_11 => ?_)
              refine sa Tryd.sizeOf143 rfl rfl rfl rfl rfl .head ?_
              refine nl ?_
              refine rg ?_
              refine mv rfl rfl ?_
              refine la (Says.own .head) Tryd.isAgg143 Tryd.sizeOf143 rfl (Nat.zero_add _).symm rfl rfl ?_
              refine nc rfl rfl ?_
              refine fa F228_1 rfl rfl ?_
              refine saM (off := 1) Tryd.sizeOf143 rfl (by rw [ho2_1]) rfl rfl rfl rfl (.tail (.tail .head)) ?_
              refine nl ?_
              refine sq ?_
              refine sr ?_
              refine tf (.tail .head) ?_
              have ex2_1_2 : x2_1_2 = decV 3 (decP [] v true) false true x2_1_1.2 := (hx2_1_2.trans (step_yes (by decide) (show (0 : Int) ≤ v by omega) (Or.inl (by decide)))).trans (decF'_val (by decide) (rfl))
              refine cl rfl rfl rfl (d3 hR146 ex2_1_2) rfl (fun v_ H1 L1 hle_ hR_ => ?_)
              obtain ⟨N151, rfl, hR151, rfl, rfl⟩ := hR_
              refine asg rfl rfl ?_
              refine nl ?_
              refine rg ?_
              refine mv rfl rfl ?_
              refine mv rfl rfl ?_
              refine nc rfl rfl ?_
              refine fa F228_2 rfl rfl ?_
              refine stM (off := 17) Tryd.sizeOf21 rfl (by rw [ho2_1]) rfl rfl rfl (.tail (.tail .head)) ?_
              refine nl ?_
              refine sq ?_
              refine sr ?_
              have ex2_1_3 : x2_1_3 = decV 3 (decP [] v true) false true x2_1_2.2 := (hx2_1_3.trans (step_yes (by decide) (show (0 : Int) ≤ v by omega) (Or.inl (by decide)))).trans (decF'_val (by decide) (rfl))
              refine cl rfl rfl rfl (d3 hR151 ex2_1_3) rfl (fun v_ H1 L1 hle_ hR_ => ?_)
              obtain ⟨N156, rfl, hR156, rfl, rfl⟩ := hR_
              refine asg rfl rfl ?_
              refine nl ?_
              refine rg ?_
              refine mv rfl rfl ?_
              refine mv rfl rfl ?_
              refine nc rfl rfl ?_
              refine fa F228_3 rfl rfl ?_
              refine stM (off := 18) Tryd.sizeOf21 rfl (by rw [ho2_1]) rfl rfl rfl (.tail (.tail .head)) ?_
              refine nl ?_
              refine sr ?_
              refine mv rfl rfl ?_
              refine nl ?_
              refine cdT rfl (by omega) ?_
              refine rg ?_
              refine mv rfl rfl ?_
              refine cl rfl rfl rfl (d_tags hR156) rfl (fun v_ H1 L1 le_14 hR_ => ?_)
              obtain ⟨N163, rfl, hR163, m2_1_t, rfl, hft2_1_⟩ := hR_
              have hu22_1_ : u2_1_ = rTags x2_1_3.2 := hu2_1_
              rw [← hu22_1_] at hR163 hft2_1_
              refine nc rfl rfl ?_
              refine fa F228_4 rfl rfl ?_
              refine saM (off := 19) Tryd.sizeOf99 rfl (by rw [ho2_1]) rfl rfl rfl rfl (.tail (.tail .head)) ?_
              refine nN ?_
              refine Nb ?_
              refine Nt ?_
              refine rg ?_
              refine mv rfl rfl ?_
              refine ad rfl rfl (c := ((k2_1 + 1 : Nat) : Int)) ((wrap32_le (by omega) (by omega)).trans (by omega)) rfl ?_
              refine asg rfl rfl ?_
              refine nN ?_
              have hfs2_1 := flatMap_snoc' fk es2_1 ((⟨([.int .i32 (IntKind.i32.wrap x2_1_0.1.n), ub x2_1_1.1.s 0, ub x2_1_1.1.s 1, ub x2_1_1.1.s 2, ub x2_1_1.1.s 3, ub x2_1_1.1.s 4, ub x2_1_1.1.s 5, ub x2_1_1.1.s 6, ub x2_1_1.1.s 7, ub x2_1_1.1.s 8, ub x2_1_1.1.s 9, ub x2_1_1.1.s 10, ub x2_1_1.1.s 11, ub x2_1_1.1.s 12, ub x2_1_1.1.s 13, ub x2_1_1.1.s 14, ub x2_1_1.1.s 15, .int .i32 (IntKind.i32.wrap x2_1_2.1.n), .int .i32 (IntKind.i32.wrap x2_1_3.1.n), .map m2_1_t] : List Value), rfl, all_one rfl⟩, ((decV 10 (decP fs_sBeginQuorumEpochRequestTopicPartition v true) false true) (rMany (decV 10 (decP fs_sBeginQuorumEpochRequestTopicPartition v true) false true) k2_1 (rArr true x2_0.2).2).2).1) : KE 20)
              have hrw2_1 := hbk2_1 ([.int .i32 (IntKind.i32.wrap x2_1_0.1.n), ub x2_1_1.1.s 0, ub x2_1_1.1.s 1, ub x2_1_1.1.s 2, ub x2_1_1.1.s 3, ub x2_1_1.1.s 4, ub x2_1_1.1.s 5, ub x2_1_1.1.s 6, ub x2_1_1.1.s 7, ub x2_1_1.1.s 8, ub x2_1_1.1.s 9, ub x2_1_1.1.s 10, ub x2_1_1.1.s 11, ub x2_1_1.1.s 12, ub x2_1_1.1.s 13, ub x2_1_1.1.s 14, ub x2_1_1.1.s 15, .int .i32 (IntKind.i32.wrap x2_1_2.1.n), .int .i32 (IntKind.i32.wrap x2_1_3.1.n), .map m2_1_t] : List Value) rfl
              refine drN (.tail .head) ?_
              refine tfN (.tail .head) ?_
              refine fun a_ w_ hA hw => ⟨hkl2_1, _, _, _, hA.sub ?_, (le_8.trans le_14), hw, _, _, _, rfl, rfl, (by rw [rMany_succ]; show RdAt _ 193 b_1 (decP fs_sBeginQuorumEpochRequestTopicPartition v true (rMany (decV 10 (decP fs_sBeginQuorumEpochRequestTopicPartition v true) false true) k2_1 (rArr true x2_0.2).2).2).2 _; rw [hD2_1_]; exact hR163), (by rw [← hfs2_1]; exact hrw2_1), (dec_els he_2_1), (fun p hp => (mem_snoc hp).elim (fun h => At_BeginQuorumEpochRequestTopicPartition.mono _ _ _ _ le_14 (hg_2_1 p h)) (fun h => h ▸ (by show At_BeginQuorumEpochRequestTopicPartition _ (decP fs_sBeginQuorumEpochRequestTopicPartition v true (rMany (decV 10 (decP fs_sBeginQuorumEpochRequestTopicPartition v true) false true) k2_1 (rArr true x2_0.2).2).2).1 [.int .i32 (IntKind.i32.wrap x2_1_0.1.n), ub x2_1_1.1.s 0, ub x2_1_1.1.s 1, ub x2_1_1.1.s 2, ub x2_1_1.1.s 3, ub x2_1_1.1.s 4, ub x2_1_1.1.s 5, ub x2_1_1.1.s 6, ub x2_1_1.1.s 7, ub x2_1_1.1.s 8, ub x2_1_1.1.s 9, ub x2_1_1.1.s 10, ub x2_1_1.1.s 11, ub x2_1_1.1.s 12, ub x2_1_1.1.s 13, ub x2_1_1.1.s 14, ub x2_1_1.1.s 15, .int .i32 (IntKind.i32.wrap x2_1_2.1.n), .int .i32 (IntKind.i32.wrap x2_1_3.1.n), .map m2_1_t]; rw [hD2_1_]; exact ⟨m2_1_t, rfl, hft2_1_⟩)))⟩
              exact (.cons rfl (.cons rfl (.cons rfl (.cons rfl (.cons rfl (.cons rfl (.cons rfl (.cons rfl (.cons rfl (.cons rfl (.cons rfl (.cons rfl (.cons rfl (.cons rfl (.nil _)))))))))))))))
            · skip
              have hkn_ : k2_1 = (lT x2_1.1).length := by omega
              subst hkn_
              have hw2_2_1 : Row 228 20 a2_1 (lT x2_1.1).length c2_1 (es2_1.flatMap fk) M2_1 := by have h := hw_2_1; rw [Nat.sub_self] at h; simpa [reps] using h
              refine frW hw2_2_1 .head (fun Hf2_1 hlf2_1 hfz2_1 => ?_)
              have hrs2_1 := RowsAt.row (R := At_BeginQuorumEpochRequestTopicPartition) hfz2_1 hs_2_1.symm hw2_2_1.le.1 (fun p hp => At_BeginQuorumEpochRequestTopicPartition.mono _ _ _ _ hlf2_1 (hg_2_1 p hp))
              rw [he_2_1] at hrs2_1
              have hf2_1 : ListAt Hf2_1 x2_1.1 20 At_BeginQuorumEpochRequestTopicPartition a2_1 c2_1 := by rw [ex2_1]; exact listAt_of hrs2_1 hi2_1 (fun h => by have h1 := nul_le h; rw [show (lT x2_1.1).length = 0 by omega]; rfl)
              have hRx2_1 : RdAt Hf2_1 193 b_1 x2_1.2 RN2_1 := by rw [ex2_1]; exact (hR_2_1.mono hlf2_1)
              refine exX ?_
              refine XT ?_
              refine XT ?_
              refine Xb ?_
              refine Nt ?_
              refine sr ?_
              refine mv rfl rfl ?_
              refine asg rfl rfl ?_
              refine nl ?_
              refine rg ?_
              refine mv rfl rfl ?_
              refine mv rfl rfl ?_
              refine nc rfl rfl ?_
              refine fa F162_1 rfl rfl ?_
              refine stM (off := 1) Tryd.sizeOf160 rfl (by rw [ho2]) rfl rfl rfl (.tail .head) ?_
              refine nl ?_
              refine sr ?_
              refine mv rfl rfl ?_
              refine nl ?_
              refine cdT rfl (by omega) ?_
              refine rg ?_
              refine mv rfl rfl ?_
              refine cl rfl rfl rfl (d_tags hRx2_1) rfl (fun v_ H1 L1 le_15 hR_ => ?_)
              obtain ⟨N173, rfl, hR173, m2_t, rfl, hft2_⟩ := hR_
              have hu22_ : u2_ = rTags x2_1.2 := hu2_
              rw [← hu22_] at hR173 hft2_
              refine nc rfl rfl ?_
              refine fa F162_2 rfl rfl ?_
              refine saM (off := 2) Tryd.sizeOf99 rfl (by rw [ho2]) rfl rfl rfl rfl (.tail .head) ?_
              refine nN ?_
              refine Nb ?_
              refine Nt ?_
              refine rg ?_
              refine mv rfl rfl ?_
              refine ad rfl rfl (c := ((k2 + 1 : Nat) : Int)) ((wrap32_le (by omega) (by omega)).trans (by omega)) rfl ?_
              refine asg rfl rfl ?_
              refine nN ?_
              have hfs2 := flatMap_snoc' fk es2 ((⟨([.string ⟨x2_0.1.s.toArray⟩, .slice a2_1 (lT x2_1.1).length c2_1, .map m2_t] : List Value), rfl, all_one rfl⟩, ((decV 10 (decP fs_sBeginQuorumEpochRequestTopic v true) false true) (rMany (decV 10 (decP fs_sBeginQuorumEpochRequestTopic v true) false true) k2 (rArr true x1.2).2).2).1) : KE 3)
              have hrw2 := hbk2 ([.string ⟨x2_0.1.s.toArray⟩, .slice a2_1 (lT x2_1.1).length c2_1, .map m2_t] : List Value) rfl
              refine tfN (.tail .head) ?_
              refine fun a_ w_ hA hw => ⟨hkl2, _, _, _, hA.sub ?_, (le_5.trans (le_7.trans (le_8.trans (hlf2_1.trans le_15)))), hw, _, _, _, rfl, rfl, (by rw [rMany_succ]; show RdAt _ 193 b_1 (decP fs_sBeginQuorumEpochRequestTopic v true (rMany (decV 10 (decP fs_sBeginQuorumEpochRequestTopic v true) false true) k2 (rArr true x1.2).2).2).2 _; rw [hD2_]; exact hR173), (by rw [← hfs2]; exact hrw2), (dec_els he_2), (fun p hp => (mem_snoc hp).elim (fun h => At_BeginQuorumEpochRequestTopic.mono _ _ _ _ (le_7.trans (le_8.trans (hlf2_1.trans le_15))) (hg_2 p h)) (fun h => h ▸ (by show At_BeginQuorumEpochRequestTopic _ (decP fs_sBeginQuorumEpochRequestTopic v true (rMany (decV 10 (decP fs_sBeginQuorumEpochRequestTopic v true) false true) k2 (rArr true x1.2).2).2).1 [.string ⟨x2_0.1.s.toArray⟩, .slice a2_1 (lT x2_1.1).length c2_1, .map m2_t]; rw [hD2_]; exact ⟨a2_1, c2_1, m2_t, rfl, (hf2_1.mono At_BeginQuorumEpochRequestTopicPartition.mono le_15), hft2_⟩)))⟩
              exact (.cons rfl (.cons rfl (.cons rfl (.cons rfl (.cons rfl (.cons rfl (.cons rfl (.cons rfl (.cons rfl (.nil _))))))))))
      · skip
        have hkn_ : k2 = (lT x2.1).length := by omega
        subst hkn_
        have hw2_2 : Row 162 3 a2 (lT x2.1).length c2 (es2.flatMap fk) M2 := by have h := hw_2; rw [Nat.sub_self] at h; simpa [reps] using h
        refine frW hw2_2 .head (fun Hf2 hlf2 hfz2 => ?_)
        have hrs2 := RowsAt.row (R := At_BeginQuorumEpochRequestTopic) hfz2 hs_2.symm hw2_2.le.1 (fun p hp => At_BeginQuorumEpochRequestTopic.mono _ _ _ _ hlf2 (hg_2 p hp))
        rw [he_2] at hrs2
        have hf2 : ListAt Hf2 x2.1 3 At_BeginQuorumEpochRequestTopic a2 c2 := by rw [ex2]; exact listAt_of hrs2 hi2 (fun h => by have h1 := nul_le h; rw [show (lT x2.1).length = 0 by omega]; rfl)
        have hRx2 : RdAt Hf2 193 b_1 x2.2 RN2 := by rw [ex2]; exact (hR_2.mono hlf2)
        refine exX ?_
        refine XT ?_
        refine XT ?_
        refine Xb ?_
        refine Nt ?_
        refine sr ?_
        refine mv rfl rfl ?_
        refine asg rfl rfl ?_
        refine nl ?_
        refine rg ?_
        refine mv rfl rfl ?_
        refine mv rfl rfl ?_
        refine nc rfl rfl ?_
        refine fa0 F157_3 rfl rfl ?_
        refine st Tryd.sizeOf154 rfl rfl rfl rfl (.tail .head) ?_
        refine nl ?_
        refine sq ?_
        refine sr ?_
        refine mv rfl rfl ?_
        refine ge rfl rfl rfl ?_
        refine nl ?_
        refine cdT rfl (by omega) ?_
        refine sr ?_
        refine mv rfl rfl ?_
        refine nc rfl rfl ?_
        refine fa0 F157_4 rfl rfl ?_
        refine ld (Says.own (.tail .head)) Tryd.isAgg155 rfl (Nat.zero_add _).symm rfl rfl ?_
        refine asg rfl rfl ?_
        refine nl ?_
        refine sr ?_
        refine mv rfl rfl ?_
        refine asg rfl rfl ?_
        refine nl ?_
        refine sr ?_
        refine asg rfl rfl ?_
        refine nl ?_
        refine sq ?_
        refine sr ?_
        refine mv rfl rfl ?_
        refine nl ?_
        refine cdT rfl (by omega) ?_
        refine rg ?_
        have ey3 : x3 = (.mk 0 [] (if 0 ≤ ((-1) : Int) ∧ (v < ((-1) : Int) ∨ (rArr true x2.2).1 = 0) then false else decide ((rArr true x2.2).1 ≤ 0)) (rMany (decV 10 (decP fs_sBeginQuorumEpochRequestLeaderEndpoint v true) false true) (rArr true x2.2).1.toNat (rArr true x2.2).2).1 [], (rMany (decV 10 (decP fs_sBeginQuorumEpochRequestLeaderEndpoint v true) false true) (rArr true x2.2).1.toNat (rArr true x2.2).2).2) := (hx3.trans (step_yes (by decide) (show (1 : Int) ≤ v by omega) (Or.inl (by decide)))).trans (decF'_list rfl rfl)
        have hn3 : (rArr true x2.2).1.toNat = (lT x3.1).length := by rw [ey3]; exact (lT_many nul_le).symm
        have ex3 := ey3
        rw [hn3] at ex3
        have hl3 := rArr_le true x2.2
        have hm3 : (rArr true x2.2).2.s.length ≤ BR := Nat.le_trans (rArr_len true x2.2) hL2
        have hnb3 : (lT x3.1).length ≤ BR := by omega
        refine cl rfl rfl rfl (r_arrt hRx2) rfl (fun v_ H1 L1 hle_ hR_ => ?_)
        obtain ⟨rfl, N189, rfl, hR189, rfl⟩ := hR_
        have hh3 := rArr_hi true x2.2
        refine asg rfl rfl ?_
        refine nl ?_
        refine sq ?_
        refine sr ?_
        refine cl rfl rfl rfl (r_ok hR189) rfl (fun v_ H1 L1 hle_ hR_ => ?_)
        obtain ⟨rfl, rfl, rfl⟩ := hR_
        refine nt rfl rfl ?_
        refine nl ?_
        refine cb rfl (fun h192 => ?_) (fun h192 => ?_)
        · skip
          have hbad_ : (rArr true x2.2).2.bad = true := by simpa using h192
          refine sr ?_
          refine cl rfl rfl rfl (r_complete hR189 (he.mono (le_2.trans (le_4.trans (le_5.trans hlf2))))) rfl (fun v_ H1 L1 hle_ hR_ => ?_)
          obtain ⟨rfl, rfl, rfl⟩ := hR_
          refine asg rfl rfl ?_
          refine nl ?_
          refine drW .head ?_
          exact rT rfl rfl (le_2.trans (le_4.trans (le_5.trans hlf2))) (fun _ _ h => h) ⟨_, rfl, RdEnd.out (hB3 (by rw [ey3]; exact rMany_bad (fun r h => decV_bad (decP_bad _ _ _) h) _ _ hbad_)) hbad_⟩
        · skip
          refine skt ?_
          refine sr ?_
          refine mv rfl rfl ?_
          refine sh' (j := 0) Tryd.runUnderlying155 Tryd.sizeOf167 rfl rfl rfl (Nat.zero_le _) rfl ?_
          refine asg rfl rfl ?_
          refine nl ?_
          refine sq ?_
          refine sr ?_
          refine mv rfl rfl ?_
          refine gt rfl rfl rfl ?_
          refine nl ?_
          refine nulC2 ?_
          refine cutT (fun l' H' L' => ∃ (a3 : Option Addr), ∃ (c3 : Nat), ∃ (Nr3 : Chunk), [(2, .bool false), (7, .pointer (some ⟨b_1, 0, none⟩)), (9, .bool (decide ((1 : Int) ≤ v))), (10, .pointer (some ⟨b, 0, none⟩)), (30, .slice none 0 0), (31, .slice a3 (lT x3.1).length c3), (32, .int .i32 (rArr true x2.2).1)] = l' ∧ Nr3 :: N189 :: [(b, .cells [.int .i16 v, .pointer p0, .int .i32 (IntKind.i32.wrap x1.1.n), .slice a2 (lT x2.1).length c2, .slice none 0 0, .map none].toArray 157 (0, 0))] :: L = L' ∧ Row 167 4 a3 (lT x3.1).length c3 (reps [.string ⟨#[]⟩, .string ⟨#[]⟩, .int .u16 0, .map none] (lT x3.1).length) Nr3 ∧ a3.isNone = (if 0 ≤ ((-1) : Int) ∧ (v < ((-1) : Int) ∨ (rArr true x2.2).1 = 0) then false else decide ((rArr true x2.2).1 ≤ 0))) ?_ (fun l' H' L' le_16 hI => ?_)
          · skip
            refine cd rfl (fun h197 => ?_) (fun h197 => ?_)
            · skip
              refine rg ?_
              refine mv rfl rfl ?_
              refine mv rfl rfl ?_
              refine apz (zs := [.string ⟨#[]⟩, .string ⟨#[]⟩, .int .u16 0, .map none]) (m := (lT x3.1).length) Tryd.underlying155 Tryd.underlying21 I167 rfl rfl rfl (by omega) (by omega) (by have h9 := hnb3; unfold BR at h9; omega) (by have h9 := hnb3; unfold BR at h9; unfold maxLen; omega) rfl (fun g200 cp200 N200 r200 => ?_)
              refine asg rfl rfl ?_
              refine nN ?_
              refine drN (.tail .head) ?_
              refine fun a_ w_ hA hw => ⟨_, _, _, hA.sub ?_, (Fz.le.refl _), hw, (some ⟨g200, 0, none⟩), cp200, N200, rfl, rfl, r200, (by rw [if_neg (by omega)]; exact (decide_eq_false (by omega)).symm)⟩
              exact (.cons rfl (.cons rfl (.cons rfl (.cons rfl (.cons rfl (.cons rfl (.cons rfl (.nil _))))))))
            · skip
              refine skN ?_
              refine fun a_ w_ hA hw => ⟨_, _, _, hA.sub ?_, (Fz.le.refl _), hw, none, 0, [], rfl, rfl, (by rw [show (lT x3.1).length = 0 by omega]; exact (Row.nil _ _)), (by rw [if_neg (by omega)]; exact (decide_eq_true (by omega)).symm)⟩
              exact (.cons rfl (.cons rfl (.cons rfl (.cons rfl (.cons rfl (.cons (by rw [show (lT x3.1).length = 0 by omega]; rfl) (.cons rfl (.nil _))))))))
          · skip
            obtain ⟨a3, c3, Nr3, rfl, rfl, pj0, pj1⟩ := hI
            have hr3 := pj0
            have hi3 := pj1
            refine sq ?_
            refine sr ?_
            refine asg rfl rfl ?_
            refine nl ?_
            refine bl (lp ((lT x3.1).length) (fun k3 l' H' L' => ∃ (es3 : List (KE 4)) (M3 RN3 : Chunk), [(2, .bool false), (7, .pointer (some ⟨b_1, 0, none⟩)), (9, .bool (decide ((1 : Int) ≤ v))), (10, .pointer (some ⟨b, 0, none⟩)), (30, .slice none 0 0), (31, .slice a3 (lT x3.1).length c3), (32, .int .i32 (rArr true x2.2).1), (33, .int .i32 (k3 : Int))] = l' ∧ M3 :: RN3 :: [(b, .cells [.int .i16 v, .pointer p0, .int .i32 (IntKind.i32.wrap x1.1.n), .slice a2 (lT x2.1).length c2, .slice none 0 0, .map none].toArray 157 (0, 0))] :: L = L' ∧ RdAt H' 193 b_1 (rMany (decV 10 (decP fs_sBeginQuorumEpochRequestLeaderEndpoint v true) false true) k3 (rArr true x2.2).2).2 RN3 ∧ Row 167 4 a3 (lT x3.1).length c3 (es3.flatMap fk ++ reps [.string ⟨#[]⟩, .string ⟨#[]⟩, .int .u16 0, .map none] ((lT x3.1).length - k3)) M3 ∧ es3.map (·.2) = (rMany (decV 10 (decP fs_sBeginQuorumEpochRequestLeaderEndpoint v true) false true) k3 (rArr true x2.2).2).1 ∧ ∀ p ∈ es3, At_BeginQuorumEpochRequestLeaderEndpoint H' p.2 (fk p)) [(2, .bool false), (7, .pointer (some ⟨b_1, 0, none⟩)), (9, .bool (decide ((1 : Int) ≤ v))), (10, .pointer (some ⟨b, 0, none⟩)), (30, .slice none 0 0), (31, .slice a3 (lT x3.1).length c3), (32, .int .i32 (rArr true x2.2).1), (33, .int .i32 (0 : Int))] (.cons rfl (.cons rfl (.cons rfl (.cons rfl (.cons rfl (.cons rfl (.cons rfl (.cons rfl (.nil _))))))))) ⟨[], Nr3, _, rfl, rfl, (hR189.mono le_16), hr3, rfl, (fun p hp => by cases hp)⟩ (fun k3 l' H' L' hk3 le_17 hI => ?_))
            obtain ⟨es3, M3, RN3, rfl, rfl, hR_3, hw_3, he_3, hg_3⟩ := hI
            have hs_3 := els_len he_3
            have hp_3 : (es3.flatMap fk).length = k3 * 4 := els_flat hs_3
            refine sq ?_
            refine sr ?_
            refine mv rfl rfl ?_
            refine mv rfl rfl ?_
            refine lt rfl rfl rfl ?_
            refine nl ?_
            refine cd rfl (fun h203 => ?_) (fun h203 => ?_)
            · skip
              have hkl3 : k3 < (lT x3.1).length := by omega
              obtain ⟨g3, po3, hga3, rfl, hbk3⟩ := hw_3.next (zs := [.string ⟨#[]⟩, .string ⟨#[]⟩, .int .u16 0, .map none]) hkl3 rfl (by decide)
              have ho3 : 0 + k3 * 4 = (es3.flatMap fk).length := by rw [hp_3]; omega
              have hbz3 : ((decV 10 (decP fs_sBeginQuorumEpochRequestLeaderEndpoint v true) false true) (rMany (decV 10 (decP fs_sBeginQuorumEpochRequestLeaderEndpoint v true) false true) k3 (rArr true x2.2).2).2).2.bad = true → (decP fs_BeginQuorumEpochRequest v true ⟨s, false, !a.isNone⟩).2.bad = true := fun h => hB3 (by rw [ex3]; exact rMany_mono (fun r h => decV_bad (fun r h => decP_bad _ _ _ r h) h) _ (show k3 + 1 ≤ (lT x3.1).length from hkl3) (by rw [rMany_succ]; exact h))
              have hLk3 : (rMany (decV 10 (decP fs_sBeginQuorumEpochRequestLeaderEndpoint v true) false true) k3 (rArr true x2.2).2).2.s.length ≤ BR := Nat.le_trans (rMany_shr (fun r => decV_shr (fun r => decP_shr _ _ _ r) r) _ _) hm3
              have hL3__ := hLk3
              obtain ⟨x3_0, hx3_0⟩ : ∃ x, x = stepF (Fd.mk 8 0 (-1) (-1) (-1) 0 0 []) v true (rMany (decV 10 (decP fs_sBeginQuorumEpochRequestLeaderEndpoint v true) false true) k3 (rArr true x2.2).2).2 := ⟨_, rfl⟩
              obtain ⟨x3_1, hx3_1⟩ : ∃ x, x = stepF (Fd.mk 8 0 (-1) (-1) (-1) 0 0 []) v true x3_0.2 := ⟨_, rfl⟩
              obtain ⟨x3_2, hx3_2⟩ : ∃ x, x = stepF (Fd.mk 5 0 (-1) (-1) (-1) 0 0 []) v true x3_1.2 := ⟨_, rfl⟩
              obtain ⟨u3_, hu3_⟩ : ∃ x, x = tailU true x3_2.2 := ⟨_, rfl⟩
              have hD3_ : decP fs_sBeginQuorumEpochRequestLeaderEndpoint v true (rMany (decV 10 (decP fs_sBeginQuorumEpochRequestLeaderEndpoint v true) false true) k3 (rArr true x2.2).2).2 = (.mk 0 [] false [x3_0.1, x3_1.1, x3_2.1] u3_.1, u3_.2) := by
                generalize ((rMany (decV 10 (decP fs_sBeginQuorumEpochRequestLeaderEndpoint v true) false true) k3 (rArr true x2.2).2).2 : Rd) = r_ at hx3_0 ⊢
                rw [decP_eq]; unfold fs_sBeginQuorumEpochRequestLeaderEndpoint; simp only [decFs_cons, decFs_nil, ← hx3_0, ← hx3_1, ← hx3_2, ← hu3_]
              have hL3_0 : x3_0.2.s.length ≤ BR := by rw [hx3_0]; exact Nat.le_trans (stepF_shr _ _ _ _) hL3__
              have hL3_1 : x3_1.2.s.length ≤ BR := by rw [hx3_1]; exact Nat.le_trans (stepF_shr _ _ _ _) hL3_0
              have hL3_2 : x3_2.2.s.length ≤ BR := by rw [hx3_2]; exact Nat.le_trans (stepF_shr _ _ _ _) hL3_1
              have hE3_ : u3_.2.bad = true → (decP fs_BeginQuorumEpochRequest v true ⟨s, false, !a.isNone⟩).2.bad = true := fun h => hbz3 (by show (decP fs_sBeginQuorumEpochRequestLeaderEndpoint v true (rMany (decV 10 (decP fs_sBeginQuorumEpochRequestLeaderEndpoint v true) false true) k3 (rArr true x2.2).2).2).2.bad = true; rw [hD3_]; exact h)
              have hB3_2 : x3_2.2.bad = true → (decP fs_BeginQuorumEpochRequest v true ⟨s, false, !a.isNone⟩).2.bad = true := fun h => hE3_ (by rw [hu3_]; exact tailU_bad h)
              have hB3_1 : x3_1.2.bad = true → (decP fs_BeginQuorumEpochRequest v true ⟨s, false, !a.isNone⟩).2.bad = true := fun h => hB3_2 (by rw [hx3_2]; exact step_bad h)
              have hB3_0 : x3_0.2.bad = true → (decP fs_BeginQuorumEpochRequest v true ⟨s, false, !a.isNone⟩).2.bad = true := fun h => hB3_1 (by rw [hx3_1]; exact step_bad h)
              refine skt ?_
              refine sq ?_
              refine bl ?_
              refine sr ?_
              refine mv rfl rfl ?_
              refine mv rfl rfl ?_
              refine ixk (j := k3) Tryd.runUnderlying155 Tryd.sizeOf167 rfl hga3 rfl rfl hkl3 rfl ?_
              refine asg rfl rfl ?_
              refine nl ?_
              refine sr ?_
              refine mv rfl rfl ?_
              refine cl rfl rfl rfl (def_BeginQuorumEpochRequestLeaderEndpoint ho3) rfl (fun v_ H1 L1 hle_ hR_ => ?_)
              obtain ⟨rfl, rfl⟩ := hR_
              refine nl ?_
              refine sr ?_
              refine mv rfl rfl ?_
              refine asg rfl rfl ?_
              refine nl ?_
              refine sq ?_
              refine sr ?_
              refine asg rfl rfl ?_
              refine nl ?_
              refine sq ?_
              refine sr ?_
              refine mv rfl rfl ?_
              refine nl ?_
              refine cF rfl ?_
              refine sr ?_
              refine mv rfl rfl ?_
              refine nl ?_
              refine cdT rfl (by omega) ?_
              refine rg ?_
              refine tf (.tail .head) ?_
              have ex3_0 : x3_0 = decV 8 (decP [] v true) false true (rMany (decV 10 (decP fs_sBeginQuorumEpochRequestLeaderEndpoint v true) false true) k3 (rArr true x2.2).2).2 := (hx3_0.trans (step_yes (by decide) (show (0 : Int) ≤ v by omega) (Or.inl (by decide)))).trans (decF'_val (by decide) (rfl))
              refine cl rfl rfl rfl (d8t hR_3 ex3_0) rfl (fun v_ H1 L1 le_18 hR_ => ?_)
              obtain ⟨N217, rfl, hR217, rfl, rfl⟩ := hR_
              refine asg rfl rfl ?_
              refine nl ?_
              refine rg ?_
              refine mv rfl rfl ?_
              refine mv rfl rfl ?_
              refine nc rfl rfl ?_
              refine fa F167_0 rfl rfl ?_
              refine stM (off := 0) Tryd.sizeOf9 rfl (by rw [ho3]) rfl rfl rfl (.tail .head) ?_
              refine nl ?_
              refine sq ?_
              refine sr ?_
              refine asg rfl rfl ?_
              refine nl ?_
              refine sq ?_
              refine sr ?_
              refine mv rfl rfl ?_
              refine nl ?_
              refine cF rfl ?_
              refine sr ?_
              refine mv rfl rfl ?_
              refine nl ?_
              refine cdT rfl (by omega) ?_
              refine rg ?_
              have ex3_1 : x3_1 = decV 8 (decP [] v true) false true x3_0.2 := (hx3_1.trans (step_yes (by decide) (show (0 : Int) ≤ v by omega) (Or.inl (by decide)))).trans (decF'_val (by decide) (rfl))
              refine cl rfl rfl rfl (d8t hR217 ex3_1) rfl (fun v_ H1 L1 le_19 hR_ => ?_)
              obtain ⟨N228, rfl, hR228, rfl, rfl⟩ := hR_
              refine asg rfl rfl ?_
              refine nl ?_
              refine rg ?_
              refine mv rfl rfl ?_
              refine mv rfl rfl ?_
              refine nc rfl rfl ?_
              refine fa F167_1 rfl rfl ?_
              refine stM (off := 1) Tryd.sizeOf9 rfl (by rw [ho3]) rfl rfl rfl (.tail .head) ?_
              refine nl ?_
              refine sq ?_
              refine sr ?_
              have ex3_2 : x3_2 = decV 5 (decP [] v true) false true x3_1.2 := (hx3_2.trans (step_yes (by decide) (show (0 : Int) ≤ v by omega) (Or.inl (by decide)))).trans (decF'_val (by decide) (rfl))
              refine cl rfl rfl rfl (d5 hR228 ex3_2) rfl (fun v_ H1 L1 hle_ hR_ => ?_)
              obtain ⟨N234, rfl, hR234, rfl, rfl⟩ := hR_
              refine asg rfl rfl ?_
              refine nl ?_
              refine rg ?_
              refine mv rfl rfl ?_
              refine mv rfl rfl ?_
              refine nc rfl rfl ?_
              refine fa F167_2 rfl rfl ?_
              refine stM (off := 2) Tryd.sizeOf165 rfl (by rw [ho3]) rfl rfl rfl (.tail .head) ?_
              refine nl ?_
              refine sr ?_
              refine mv rfl rfl ?_
              refine nl ?_
              refine cdT rfl (by omega) ?_
              refine rg ?_
              refine mv rfl rfl ?_
              refine cl rfl rfl rfl (d_tags hR234) rfl (fun v_ H1 L1 le_21 hR_ => ?_)
              obtain ⟨N241, rfl, hR241, m3_t, rfl, hft3_⟩ := hR_
              have hu23_ : u3_ = rTags x3_2.2 := hu3_
              rw [← hu23_] at hR241 hft3_
              refine nc rfl rfl ?_
              refine fa F167_3 rfl rfl ?_
              refine saM (off := 3) Tryd.sizeOf99 rfl (by rw [ho3]) rfl rfl rfl rfl (.tail .head) ?_
              refine nN ?_
              refine Nb ?_
              refine Nt ?_
              refine rg ?_
              refine mv rfl rfl ?_
              refine ad rfl rfl (c := ((k3 + 1 : Nat) : Int)) ((wrap32_le (by omega) (by omega)).trans (by omega)) rfl ?_
              refine asg rfl rfl ?_
              refine nN ?_
              have hfs3 := flatMap_snoc' fk es3 ((⟨([.string ⟨x3_0.1.s.toArray⟩, .string ⟨x3_1.1.s.toArray⟩, .int .u16 (IntKind.u16.wrap x3_2.1.n), .map m3_t] : List Value), rfl, all_one rfl⟩, ((decV 10 (decP fs_sBeginQuorumEpochRequestLeaderEndpoint v true) false true) (rMany (decV 10 (decP fs_sBeginQuorumEpochRequestLeaderEndpoint v true) false true) k3 (rArr true x2.2).2).2).1) : KE 4)
              have hrw3 := hbk3 ([.string ⟨x3_0.1.s.toArray⟩, .string ⟨x3_1.1.s.toArray⟩, .int .u16 (IntKind.u16.wrap x3_2.1.n), .map m3_t] : List Value) rfl
              refine tfN (.tail .head) ?_
              refine fun a_ w_ hA hw => ⟨hkl3, _, _, _, hA.sub ?_, (le_17.trans le_21), hw, _, _, _, rfl, rfl, (by rw [rMany_succ]; show RdAt _ 193 b_1 (decP fs_sBeginQuorumEpochRequestLeaderEndpoint v true (rMany (decV 10 (decP fs_sBeginQuorumEpochRequestLeaderEndpoint v true) false true) k3 (rArr true x2.2).2).2).2 _; rw [hD3_]; exact hR241), (by rw [← hfs3]; exact hrw3), (dec_els he_3), (fun p hp => (mem_snoc hp).elim (fun h => At_BeginQuorumEpochRequestLeaderEndpoint.mono _ _ _ _ le_21 (hg_3 p h)) (fun h => h ▸ (by show At_BeginQuorumEpochRequestLeaderEndpoint _ (decP fs_sBeginQuorumEpochRequestLeaderEndpoint v true (rMany (decV 10 (decP fs_sBeginQuorumEpochRequestLeaderEndpoint v true) false true) k3 (rArr true x2.2).2).2).1 [.string ⟨x3_0.1.s.toArray⟩, .string ⟨x3_1.1.s.toArray⟩, .int .u16 (IntKind.u16.wrap x3_2.1.n), .map m3_t]; rw [hD3_]; exact ⟨m3_t, rfl, hft3_⟩)))⟩
              exact (.cons rfl (.cons rfl (.cons rfl (.cons rfl (.cons rfl (.cons rfl (.cons rfl (.cons rfl (.nil _)))))))))
            · skip
              have hkn_ : k3 = (lT x3.1).length := by omega
              subst hkn_
              have hw2_3 : Row 167 4 a3 (lT x3.1).length c3 (es3.flatMap fk) M3 := by have h := hw_3; rw [Nat.sub_self] at h; simpa [reps] using h
              refine frW hw2_3 .head (fun Hf3 hlf3 hfz3 => ?_)
              have hrs3 := RowsAt.row (R := At_BeginQuorumEpochRequestLeaderEndpoint) hfz3 hs_3.symm hw2_3.le.1 (fun p hp => At_BeginQuorumEpochRequestLeaderEndpoint.mono _ _ _ _ hlf3 (hg_3 p hp))
              rw [he_3] at hrs3
              have hf3 : ListAt Hf3 x3.1 4 At_BeginQuorumEpochRequestLeaderEndpoint a3 c3 := by rw [ex3]; exact listAt_of hrs3 hi3 (fun h => by have h1 := nul_le h; rw [show (lT x3.1).length = 0 by omega]; rfl)
              have hRx3 : RdAt Hf3 193 b_1 x3.2 RN3 := by rw [ex3]; exact (hR_3.mono hlf3)
              refine exX ?_
              refine XT ?_
              refine XT ?_
              refine Xb ?_
              refine Nt ?_
              refine sr ?_
              refine mv rfl rfl ?_
              refine asg rfl rfl ?_
              refine nl ?_
              refine rg ?_
              refine mv rfl rfl ?_
              refine mv rfl rfl ?_
              refine nc rfl rfl ?_
              refine fa0 F157_4 rfl rfl ?_
              refine st Tryd.sizeOf155 rfl rfl rfl rfl (.tail .head) ?_
              refine nl ?_
              refine sq ?_
              refine sr ?_
              refine mv rfl rfl ?_
              refine nl ?_
              refine cdT rfl (by omega) ?_
              refine rg ?_
              refine mv rfl rfl ?_
              refine cl rfl rfl rfl (d_tags hRx3) rfl (fun v_ H1 L1 le_22 hR_ => ?_)
              obtain ⟨N251, rfl, hR251, mt, rfl, hft⟩ := hR_
              have hu2 : u = rTags x3.2 := hu
              rw [← hu2] at hR251 hft
              refine nc rfl rfl ?_
              refine fa0 F157_5 rfl rfl ?_
              refine sa Tryd.sizeOf99 rfl rfl rfl rfl rfl (.tail .head) ?_
              refine nl ?_
              refine sr ?_
              refine cl rfl rfl rfl (r_complete hR251 (he.mono (le_2.trans (le_4.trans (le_5.trans (hlf2.trans (le_16.trans (le_17.trans (hlf3.trans le_22))))))))) rfl (fun v_ H1 L1 hle_ hR_ => ?_)
              obtain ⟨rfl, rfl, rfl⟩ := hR_
              refine asg rfl rfl ?_
              refine nl ?_
              refine drW .head ?_
              have hA_ := (show At_BeginQuorumEpochRequest v _ (decP fs_BeginQuorumEpochRequest v true _).1 [.int .i16 v, .pointer p0, .int .i32 (IntKind.i32.wrap x1.1.n), .slice a2 (lT x2.1).length c2, .slice a3 (lT x3.1).length c3, .map mt] from (by rw [hD]; exact ⟨p0, a2, c2, a3, c3, mt, rfl, (hf0.mono (le_4.trans (le_5.trans (hlf2.trans (le_16.trans (le_17.trans (hlf3.trans le_22))))))), (hf2.mono At_BeginQuorumEpochRequestTopic.mono (le_16.trans (le_17.trans (hlf3.trans le_22)))), (hf3.mono At_BeginQuorumEpochRequestLeaderEndpoint.mono le_22), hft⟩))
              refine rT rfl rfl (le_2.trans (le_4.trans (le_5.trans (hlf2.trans (le_16.trans (le_17.trans (hlf3.trans le_22))))))) (fun _ _ h => h) ⟨_, rfl, ?_⟩
              have hz := RdEnd.of (e := e) hA_
              rw [show (decP fs_BeginQuorumEpochRequest v true _).2.bad = u.2.bad by rw [hD]] at hz
              exact hz
end Go.Sx

import Derived.Test.YtdnbgafbhifhoaaDoorSxTab
import Derived.Test.YtdnbgafbhifhoaaDoorBCreateTopicsRequest
import Derived.Test.YtdnbgafbhifhoaaDoorRK2
import Derived.KernelRfl
set_option linter.unusedVariables false
set_option linter.unusedSimpArgs false
set_option maxRecDepth 100000
set_option maxHeartbeats 20000000
namespace Go.Sx
open Go.Proofs
theorem def_CreateTopicsRequestTopicReplicaAssignment {H : Fz} {L : Own} {b o : Nat} {pre post : List Value} {c0 c1 c2 : Value} (ho : o = pre.length) :
    Fn Tryd.prog 218 [.pointer (some ⟨b, o, none⟩)] H ([(b, .cells (pre ++ ([c0, c1, c2] : List Value) ++ post).toArray 233 (0, 0))] :: L) (fun _ H' L' => H = H' ∧ L' = [(b, .cells (pre ++ ([c0, c1, c2] : List Value) ++ post).toArray 233 (0, 0))] :: L) := by
  refine Fn.mk Tryd.call218 Tryd.func218 rfl Tryd.ntmps218 rfl ?_
  refine skN ?_
  exact fun _ _ hA hw => rn rfl (Fz.le.refl _) ⟨rfl, rfl⟩ hA hw
theorem def_CreateTopicsRequestTopicConfig {H : Fz} {L : Own} {b o : Nat} {pre post : List Value} {c0 c1 c2 : Value} (ho : o = pre.length) :
    Fn Tryd.prog 219 [.pointer (some ⟨b, o, none⟩)] H ([(b, .cells (pre ++ ([c0, c1, c2] : List Value) ++ post).toArray 236 (0, 0))] :: L) (fun _ H' L' => H = H' ∧ L' = [(b, .cells (pre ++ ([c0, c1, c2] : List Value) ++ post).toArray 236 (0, 0))] :: L) := by
  refine Fn.mk Tryd.call219 Tryd.func219 rfl Tryd.ntmps219 rfl ?_
  refine skN ?_
  exact fun _ _ hA hw => rn rfl (Fz.le.refl _) ⟨rfl, rfl⟩ hA hw
theorem def_CreateTopicsRequestTopic {H : Fz} {L : Own} {b o : Nat} {pre post : List Value} {c0 c1 c2 c3 c4 c5 : Value} (ho : o = pre.length) :
    Fn Tryd.prog 217 [.pointer (some ⟨b, o, none⟩)] H ([(b, .cells (pre ++ ([c0, c1, c2, c3, c4, c5] : List Value) ++ post).toArray 176 (0, 0))] :: L) (fun _ H' L' => H = H' ∧ L' = [(b, .cells (pre ++ ([c0, c1, c2, c3, c4, c5] : List Value) ++ post).toArray 176 (0, 0))] :: L) := by
  refine Fn.mk Tryd.call217 Tryd.func217 rfl Tryd.ntmps217 rfl ?_
  refine skN ?_
  exact fun _ _ hA hw => rn rfl (Fz.le.refl _) ⟨rfl, rfl⟩ hA hw
theorem def0_CreateTopicsRequest {H : Fz} {L : Own} {b : Nat} {c0 c1 c2 c3 c4 : Value} :
    Fn Tryd.prog 156 [.pointer (some ⟨b, 0, none⟩)] H ([(b, .cells [c0, c1, c2, c3, c4].toArray 170 (0, 0))] :: L) (fun _ H' L' => H = H' ∧ L' = [(b, .cells [c0, c1, .int .i32 60000, c3, c4].toArray 170 (0, 0))] :: L) := by
  refine Fn.mk Tryd.call156 Tryd.func156 rfl Tryd.ntmps156 rfl ?_
  refine rg ?_
  refine mv rfl rfl ?_
  refine nc rfl rfl ?_
  refine fa0 F170_2 rfl rfl ?_
  refine st Tryd.sizeOf21 rfl rfl rfl rfl .head ?_
  refine nN ?_
  exact fun _ _ hA hw => rn rfl (Fz.le.refl _) ⟨rfl, rfl⟩ hA hw
theorem rd_CreateTopicsRequest_f {H : Fz} {L : Own} {b : Nat} {v : Int} {a : Option Addr} {c : Nat} {s : List UInt8} {e : Value} (hB : BytesAt H a c s) (hL_ : s.length ≤ BR) (he : H.at 1 0 [e]) (hv0 : 0 ≤ v) (hv1 : v ≤ 4) :
    Fn Tryd.prog 157 [.pointer (some ⟨b, 0, none⟩), .slice a s.length c, .bool false] H ([(b, .cells [.int .i16 v, .slice none 0 0, .int .i32 60000, .bool false, .map none].toArray 170 (0, 0))] :: L) (fun r H' L' => ∃ cs : List Value, L' = [(b, .cells cs.toArray 170 (0, 0))] :: L ∧ RdEnd H' (At_CreateTopicsRequest v) (decP fs_CreateTopicsRequest v false ⟨s, false, !a.isNone⟩) e r cs) := by
  refine Fn.mk Tryd.call157 Tryd.func157 rfl Tryd.ntmps157 rfl ?_
  refine sr ?_
  refine asg rfl rfl ?_
  refine nl ?_
  refine sr ?_
  refine mv rfl rfl ?_
  refine cl rfl rfl rfl def0_CreateTopicsRequest rfl (fun v_ H1 L1 hle_ hR_ => ?_)
  obtain ⟨rfl, rfl⟩ := hR_
  refine nl ?_
  refine sr ?_
  refine mv rfl rfl ?_
  refine bd' S193 rfl rfl rfl ?_
  refine al Tryd.zeroValue193 rfl rfl (fun b_1 => ?_)
  refine sa Tryd.sizeOf193 rfl rfl rfl rfl rfl .head ?_
  have hR0_ : RdAt H 193 b_1 ⟨s, false, !a.isNone⟩ [(b_1, .cells [_, _].toArray 193 (0, 0))] := ⟨a, c, rfl, hB, by simp⟩
  obtain ⟨x0, hx0⟩ : ∃ x, x = stepF (Fd.mk 11 0 (-1) (-1) (-1) 0 10 fs_sCreateTopicsRequestTopic) v false ⟨s, false, !a.isNone⟩ := ⟨_, rfl⟩
  obtain ⟨x1, hx1⟩ : ∃ x, x = stepF (Fd.mk 3 0 (-1) (-1) (-1) 60000 0 []) v false x0.2 := ⟨_, rfl⟩
  obtain ⟨x2, hx2⟩ : ∃ x, x = stepF (Fd.mk 0 1 (-1) (-1) (-1) 0 0 []) v false x1.2 := ⟨_, rfl⟩
  obtain ⟨u, hu⟩ : ∃ x, x = tailU false x2.2 := ⟨_, rfl⟩
  have hD : decP fs_CreateTopicsRequest v false ⟨s, false, !a.isNone⟩ = (.mk 0 [] false [x0.1, x1.1, x2.1] u.1, u.2) := by
    generalize (⟨s, false, !a.isNone⟩ : Rd) = r_ at hx0 ⊢
    rw [decP_eq]; unfold fs_CreateTopicsRequest; simp only [decFs_cons, decFs_nil, ← hx0, ← hx1, ← hx2, ← hu]
  have hL0 : x0.2.s.length ≤ BR := by rw [hx0]; exact Nat.le_trans (stepF_shr _ _ _ _) hL_
  have hL1 : x1.2.s.length ≤ BR := by rw [hx1]; exact Nat.le_trans (stepF_shr _ _ _ _) hL0
  have hL2 : x2.2.s.length ≤ BR := by rw [hx2]; exact Nat.le_trans (stepF_shr _ _ _ _) hL1
  have hE : u.2.bad = true → (decP fs_CreateTopicsRequest v false ⟨s, false, !a.isNone⟩).2.bad = true := fun h => by rw [hD]; exact h
  have hB2 : x2.2.bad = true → (decP fs_CreateTopicsRequest v false ⟨s, false, !a.isNone⟩).2.bad = true := fun h => hE (by rw [hu]; exact tailU_bad h)
  have hB1 : x1.2.bad = true → (decP fs_CreateTopicsRequest v false ⟨s, false, !a.isNone⟩).2.bad = true := fun h => hB2 (by rw [hx2]; exact step_bad h)
  have hB0 : x0.2.bad = true → (decP fs_CreateTopicsRequest v false ⟨s, false, !a.isNone⟩).2.bad = true := fun h => hB1 (by rw [hx1]; exact step_bad h)
  refine nl ?_
  refine sr ?_
  refine mv rfl rfl ?_
  refine nc rfl rfl ?_
  refine fa0 F170_0 rfl rfl ?_
  refine ld (Says.own (.tail .head)) Tryd.isAgg45 rfl (Nat.zero_add _).symm rfl rfl ?_
  refine asg rfl rfl ?_
  refine nl ?_
  refine sr ?_
  refine mv rfl rfl ?_
  refine nl ?_
  refine sr ?_
  refine mv rfl rfl ?_
  refine ge rfl rfl rfl ?_
  refine asg rfl rfl ?_
  refine nl ?_
  refine sr ?_
  refine mv rfl rfl ?_
  refine nl ?_
  refine sr ?_
  refine mv rfl rfl ?_
  refine asg rfl rfl ?_
  refine nl ?_
  refine sq ?_
  refine sr ?_
  refine mv rfl rfl ?_
  refine nc rfl rfl ?_
  refine fa0 F170_1 rfl rfl ?_
  refine ld (Says.own (.tail .head)) Tryd.isAgg168 rfl (Nat.zero_add _).symm rfl rfl ?_
  refine asg rfl rfl ?_
  refine nl ?_
  refine sr ?_
  refine mv rfl rfl ?_
  refine asg rfl rfl ?_
  refine nl ?_
  refine sr ?_
  refine asg rfl rfl ?_
  refine nl ?_
  refine sq ?_
  refine sr ?_
  refine mv rfl rfl ?_
  refine nl ?_
  refine cdF rfl (by omega) ?_
  refine rg ?_
  have ey0 : x0 = (.mk 0 [] (if 0 ≤ ((-1) : Int) ∧ (v < ((-1) : Int) ∨ (rArr false ⟨s, false, !a.isNone⟩).1 = 0) then false else decide ((rArr false ⟨s, false, !a.isNone⟩).1 ≤ 0)) (rMany (decV 10 (decP fs_sCreateTopicsRequestTopic v false) false false) (rArr false ⟨s, false, !a.isNone⟩).1.toNat (rArr false ⟨s, false, !a.isNone⟩).2).1 [], (rMany (decV 10 (decP fs_sCreateTopicsRequestTopic v false) false false) (rArr false ⟨s, false, !a.isNone⟩).1.toNat (rArr false ⟨s, false, !a.isNone⟩).2).2) := (hx0.trans (step_yes (by decide) (show (0 : Int) ≤ v by omega) (Or.inl (by decide)))).trans (decF'_list rfl rfl)
  have hn0 : (rArr false ⟨s, false, !a.isNone⟩).1.toNat = (lT x0.1).length := by rw [ey0]; exact (lT_many nul_le).symm
  have ex0 := ey0
  rw [hn0] at ex0
  have hl0 := rArr_le false ⟨s, false, !a.isNone⟩
  have hm0 : (rArr false ⟨s, false, !a.isNone⟩).2.s.length ≤ BR := Nat.le_trans (rArr_len false ⟨s, false, !a.isNone⟩) hL_
  have hnb0 : (lT x0.1).length ≤ BR := by omega
  refine cl rfl rfl rfl (r_arrf hR0_) rfl (fun v_ H1 L1 hle_ hR_ => ?_)
  obtain ⟨rfl, N62, rfl, hR62, rfl⟩ := hR_
  have hh0 := rArr_hi false ⟨s, false, !a.isNone⟩
  refine asg rfl rfl ?_
  refine nl ?_
  refine sq ?_
  refine sr ?_
  refine cl rfl rfl rfl (r_ok hR62) rfl (fun v_ H1 L1 hle_ hR_ => ?_)
  obtain ⟨rfl, rfl, rfl⟩ := hR_
  refine nt rfl rfl ?_
  refine nl ?_
  refine cb rfl (fun h64 => ?_) (fun h64 => ?_)
  · skip
    have hbad_ : (rArr false ⟨s, false, !a.isNone⟩).2.bad = true := by simpa using h64
    refine sr ?_
    refine cl rfl rfl rfl (r_complete hR62 he) rfl (fun v_ H1 L1 hle_ hR_ => ?_)
    obtain ⟨rfl, rfl, rfl⟩ := hR_
    refine asg rfl rfl ?_
    refine nl ?_
    refine drW .head ?_
    exact rT rfl rfl (Fz.le.refl _) (fun _ _ h => h) ⟨_, rfl, RdEnd.out (hB0 (by rw [ey0]; exact rMany_bad (fun r h => decV_bad (decP_bad _ _ _) h) _ _ hbad_)) hbad_⟩
  · skip
    refine skt ?_
    refine sr ?_
    refine mv rfl rfl ?_
    refine sh' (j := 0) Tryd.runUnderlying168 Tryd.sizeOf176 rfl rfl rfl (Nat.zero_le _) rfl ?_
    refine asg rfl rfl ?_
    refine nl ?_
    refine sq ?_
    refine sr ?_
    refine mv rfl rfl ?_
    refine gt rfl rfl rfl ?_
    refine nl ?_
    refine nulC2 ?_
    refine cutT (fun l' H' L' => ∃ (a0 : Option Addr), ∃ (c0 : Nat), ∃ (Nr0 : Chunk), [(2, .bool false), (7, .pointer (some ⟨b_1, 0, none⟩)), (8, .int .i16 v), (9, .bool (decide ((5 : Int) ≤ v))), (10, .pointer (some ⟨b, 0, none⟩)), (11, .slice none 0 0), (12, .slice a0 (lT x0.1).length c0), (13, .int .i32 (rArr false ⟨s, false, !a.isNone⟩).1)] = l' ∧ Nr0 :: N62 :: [(b, .cells [.int .i16 v, .slice none 0 0, .int .i32 60000, .bool false, .map none].toArray 170 (0, 0))] :: L = L' ∧ Row 176 6 a0 (lT x0.1).length c0 (reps [.string ⟨#[]⟩, .int .i32 0, .int .i16 0, .slice none 0 0, .slice none 0 0, .map none] (lT x0.1).length) Nr0 ∧ a0.isNone = (if 0 ≤ ((-1) : Int) ∧ (v < ((-1) : Int) ∨ (rArr false ⟨s, false, !a.isNone⟩).1 = 0) then false else decide ((rArr false ⟨s, false, !a.isNone⟩).1 ≤ 0))) ?_ (fun l' H' L' le_2 hI => ?_)
    · skip
      refine cd rfl (fun h69 => ?_) (fun h69 => ?_)
      · skip
        refine rg ?_
        refine mv rfl rfl ?_
        refine mv rfl rfl ?_
        refine apz (zs := [.string ⟨#[]⟩, .int .i32 0, .int .i16 0, .slice none 0 0, .slice none 0 0, .map none]) (m := (lT x0.1).length) Tryd.underlying168 Tryd.underlying21 I176 rfl rfl rfl (by omega) (by omega) (by have h9 := hnb0; unfold BR at h9; omega) (by have h9 := hnb0; unfold BR at h9; unfold maxLen; omega) rfl (fun g72 cp72 N72 r72 => ?_)
        refine asg rfl rfl ?_
        refine nN ?_
        refine drN (.tail .head) ?_
        refine fun a_ w_ hA hw => ⟨_, _, _, hA.sub ?_, (Fz.le.refl _), hw, (some ⟨g72, 0, none⟩), cp72, N72, rfl, rfl, r72, (by rw [if_neg (by omega)]; exact (decide_eq_false (by omega)).symm)⟩
        exact (.cons rfl (.cons rfl (.cons rfl (.cons rfl (.cons rfl (.cons rfl (.cons rfl (.cons rfl (.nil _)))))))))
      · skip
        refine skN ?_
        refine fun a_ w_ hA hw => ⟨_, _, _, hA.sub ?_, (Fz.le.refl _), hw, none, 0, [], rfl, rfl, (by rw [show (lT x0.1).length = 0 by omega]; exact (Row.nil _ _)), (by rw [if_neg (by omega)]; exact (decide_eq_true (by omega)).symm)⟩
        exact (.cons rfl (.cons rfl (.cons rfl (.cons rfl (.cons rfl (.cons rfl (.cons (by rw [show (lT x0.1).length = 0 by omega]; rfl) (.cons rfl (.nil _)))))))))
    · skip
      obtain ⟨a0, c0, Nr0, rfl, rfl, pj0, pj1⟩ := hI
      have hr0 := pj0
      have hi0 := pj1
      refine sq ?_
      refine sr ?_
      refine asg rfl rfl ?_
      refine nl ?_
      refine bl (lp ((lT x0.1).length) (fun k0 l' H' L' => ∃ (es0 : List (KE 6)) (M0 RN0 : Chunk), [(2, .bool false), (7, .pointer (some ⟨b_1, 0, none⟩)), (8, .int .i16 v), (9, .bool (decide ((5 : Int) ≤ v))), (10, .pointer (some ⟨b, 0, none⟩)), (11, .slice none 0 0), (12, .slice a0 (lT x0.1).length c0), (13, .int .i32 (rArr false ⟨s, false, !a.isNone⟩).1), (14, .int .i32 (k0 : Int))] = l' ∧ M0 :: RN0 :: [(b, .cells [.int .i16 v, .slice none 0 0, .int .i32 60000, .bool false, .map none].toArray 170 (0, 0))] :: L = L' ∧ RdAt H' 193 b_1 (rMany (decV 10 (decP fs_sCreateTopicsRequestTopic v false) false false) k0 (rArr false ⟨s, false, !a.isNone⟩).2).2 RN0 ∧ Row 176 6 a0 (lT x0.1).length c0 (es0.flatMap fk ++ reps [.string ⟨#[]⟩, .int .i32 0, .int .i16 0, .slice none 0 0, .slice none 0 0, .map none] ((lT x0.1).length - k0)) M0 ∧ es0.map (·.2) = (rMany (decV 10 (decP fs_sCreateTopicsRequestTopic v false) false false) k0 (rArr false ⟨s, false, !a.isNone⟩).2).1 ∧ ∀ p ∈ es0, At_CreateTopicsRequestTopic H' p.2 (fk p)) [(2, .bool false), (7, .pointer (some ⟨b_1, 0, none⟩)), (8, .int .i16 v), (9, .bool (decide ((5 : Int) ≤ v))), (10, .pointer (some ⟨b, 0, none⟩)), (11, .slice none 0 0), (12, .slice a0 (lT x0.1).length c0), (13, .int .i32 (rArr false ⟨s, false, !a.isNone⟩).1), (14, .int .i32 (0 : Int))] (.cons rfl (.cons rfl (.cons rfl (.cons rfl (.cons rfl (.cons rfl (.cons rfl (.cons rfl (.cons rfl (.nil _)))))))))) ⟨[], Nr0, _, rfl, rfl, (hR62.mono le_2), hr0, rfl, (fun p hp => by cases hp)⟩ (fun k0 l' H' L' hk0 le_3 hI => ?_))
      obtain ⟨es0, M0, RN0, rfl, rfl, hR_0, hw_0, he_0, hg_0⟩ := hI
      have hs_0 := els_len he_0
      have hp_0 : (es0.flatMap fk).length = k0 * 6 := els_flat hs_0
      refine sq ?_
      refine sr ?_
      refine mv rfl rfl ?_
      refine mv rfl rfl ?_
      refine lt rfl rfl rfl ?_
      refine nl ?_
      refine cd rfl (fun h75 => ?_) (fun h75 => ?_)
      · skip
        have hkl0 : k0 < (lT x0.1).length := by omega
        obtain ⟨g0, po0, hga0, rfl, hbk0⟩ := hw_0.next (zs := [.string ⟨#[]⟩, .int .i32 0, .int .i16 0, .slice none 0 0, .slice none 0 0, .map none]) hkl0 rfl (by decide)
        have ho0 : 0 + k0 * 6 = (es0.flatMap fk).length := by rw [hp_0]; omega
        have hbz0 : ((decV 10 (decP fs_sCreateTopicsRequestTopic v false) false false) (rMany (decV 10 (decP fs_sCreateTopicsRequestTopic v false) false false) k0 (rArr false ⟨s, false, !a.isNone⟩).2).2).2.bad = true → (decP fs_CreateTopicsRequest v false ⟨s, false, !a.isNone⟩).2.bad = true := fun h => hB0 (by rw [ex0]; exact rMany_mono (fun r h => decV_bad (fun r h => decP_bad _ _ _ r h) h) _ (show k0 + 1 ≤ (lT x0.1).length from hkl0) (by rw [rMany_succ]; exact h))
        have hLk0 : (rMany (decV 10 (decP fs_sCreateTopicsRequestTopic v false) false false) k0 (rArr false ⟨s, false, !a.isNone⟩).2).2.s.length ≤ BR := Nat.le_trans (rMany_shr (fun r => decV_shr (fun r => decP_shr _ _ _ r) r) _ _) hm0
        have hL0__ := hLk0
        obtain ⟨x0_0, hx0_0⟩ : ∃ x, x = stepF (Fd.mk 8 0 (-1) (-1) (-1) 0 0 []) v false (rMany (decV 10 (decP fs_sCreateTopicsRequestTopic v false) false false) k0 (rArr false ⟨s, false, !a.isNone⟩).2).2 := ⟨_, rfl⟩
        obtain ⟨x0_1, hx0_1⟩ : ∃ x, x = stepF (Fd.mk 3 0 (-1) (-1) (-1) 0 0 []) v false x0_0.2 := ⟨_, rfl⟩
        obtain ⟨x0_2, hx0_2⟩ : ∃ x, x = stepF (Fd.mk 2 0 (-1) (-1) (-1) 0 0 []) v false x0_1.2 := ⟨_, rfl⟩
        obtain ⟨x0_3, hx0_3⟩ : ∃ x, x = stepF (Fd.mk 11 0 (-1) (-1) (-1) 0 10 fs_sCreateTopicsRequestTopicReplicaAssignment) v false x0_2.2 := ⟨_, rfl⟩
        obtain ⟨x0_4, hx0_4⟩ : ∃ x, x = stepF (Fd.mk 11 0 (-1) (-1) (-1) 0 10 fs_sCreateTopicsRequestTopicConfig) v false x0_3.2 := ⟨_, rfl⟩
        obtain ⟨u0_, hu0_⟩ : ∃ x, x = tailU false x0_4.2 := ⟨_, rfl⟩
        have hD0_ : decP fs_sCreateTopicsRequestTopic v false (rMany (decV 10 (decP fs_sCreateTopicsRequestTopic v false) false false) k0 (rArr false ⟨s, false, !a.isNone⟩).2).2 = (.mk 0 [] false [x0_0.1, x0_1.1, x0_2.1, x0_3.1, x0_4.1] u0_.1, u0_.2) := by
          generalize ((rMany (decV 10 (decP fs_sCreateTopicsRequestTopic v false) false false) k0 (rArr false ⟨s, false, !a.isNone⟩).2).2 : Rd) = r_ at hx0_0 ⊢
          rw [decP_eq]; unfold fs_sCreateTopicsRequestTopic; simp only [decFs_cons, decFs_nil, ← hx0_0, ← hx0_1, ← hx0_2, ← hx0_3, ← hx0_4, ← hu0_]
        have hL0_0 : x0_0.2.s.length ≤ BR := by rw [hx0_0]; exact Nat.le_trans (stepF_shr _ _ _ _) hL0__
        have hL0_1 : x0_1.2.s.length ≤ BR := by rw [hx0_1]; exact Nat.le_trans (stepF_shr _ _ _ _) hL0_0
        have hL0_2 : x0_2.2.s.length ≤ BR := by rw [hx0_2]; exact Nat.le_trans (stepF_shr _ _ _ _) hL0_1
        have hL0_3 : x0_3.2.s.length ≤ BR := by rw [hx0_3]; exact Nat.le_trans (stepF_shr _ _ _ _) hL0_2
        have hL0_4 : x0_4.2.s.length ≤ BR := by rw [hx0_4]; exact Nat.le_trans (stepF_shr _ _ _ _) hL0_3
        have hE0_ : u0_.2.bad = true → (decP fs_CreateTopicsRequest v false ⟨s, false, !a.isNone⟩).2.bad = true := fun h => hbz0 (by show (decP fs_sCreateTopicsRequestTopic v false (rMany (decV 10 (decP fs_sCreateTopicsRequestTopic v false) false false) k0 (rArr false ⟨s, false, !a.isNone⟩).2).2).2.bad = true; rw [hD0_]; exact h)
        have hB0_4 : x0_4.2.bad = true → (decP fs_CreateTopicsRequest v false ⟨s, false, !a.isNone⟩).2.bad = true := fun h => hE0_ (by rw [hu0_]; exact tailU_bad h)
        have hB0_3 : x0_3.2.bad = true → (decP fs_CreateTopicsRequest v false ⟨s, false, !a.isNone⟩).2.bad = true := fun h => hB0_4 (by rw [hx0_4]; exact step_bad h)
        have hB0_2 : x0_2.2.bad = true → (decP fs_CreateTopicsRequest v false ⟨s, false, !a.isNone⟩).2.bad = true := fun h => hB0_3 (by rw [hx0_3]; exact step_bad h)
        have hB0_1 : x0_1.2.bad = true → (decP fs_CreateTopicsRequest v false ⟨s, false, !a.isNone⟩).2.bad = true := fun h => hB0_2 (by rw [hx0_2]; exact step_bad h)
        have hB0_0 : x0_0.2.bad = true → (decP fs_CreateTopicsRequest v false ⟨s, false, !a.isNone⟩).2.bad = true := fun h => hB0_1 (by rw [hx0_1]; exact step_bad h)
        refine skt ?_
        refine sq ?_
        refine bl ?_
        refine sr ?_
        refine mv rfl rfl ?_
        refine mv rfl rfl ?_
        refine ixk (j := k0) Tryd.runUnderlying168 Tryd.sizeOf176 rfl hga0 rfl rfl hkl0 rfl ?_
        refine asg rfl rfl ?_
        refine nl ?_
        refine sr ?_
        refine mv rfl rfl ?_
        refine cl rfl rfl rfl (def_CreateTopicsRequestTopic ho0) rfl (fun v_ H1 L1 hle_ hR_ => ?_)
        obtain ⟨rfl, rfl⟩ := hR_
        refine nl ?_
        refine sr ?_
        refine mv rfl rfl ?_
        refine asg rfl rfl ?_
        refine nl ?_
        refine sq ?_
        refine sr ?_
        refine asg rfl rfl ?_
        refine nl ?_
        refine sq ?_
        refine sr ?_
        refine mv rfl rfl ?_
        refine nl ?_
        refine cF rfl ?_
        refine sr ?_
        refine mv rfl rfl ?_
        refine nl ?_
        refine cdF rfl (by omega) ?_
        refine rg ?_
        refine tf (.tail .head) ?_
        have ex0_0 : x0_0 = decV 8 (decP [] v false) false false (rMany (decV 10 (decP fs_sCreateTopicsRequestTopic v false) false false) k0 (rArr false ⟨s, false, !a.isNone⟩).2).2 := (hx0_0.trans (step_yes (by decide) (show (0 : Int) ≤ v by omega) (Or.inl (by decide)))).trans (decF'_val (by decide) (rfl))
        refine cl rfl rfl rfl (d8f hR_0 ex0_0) rfl (fun v_ H1 L1 le_4 hR_ => ?_)
        obtain ⟨N90, rfl, hR90, rfl, rfl⟩ := hR_
        refine asg rfl rfl ?_
        refine nl ?_
        refine rg ?_
        refine mv rfl rfl ?_
        refine mv rfl rfl ?_
        refine nc rfl rfl ?_
        refine fa F176_0 rfl rfl ?_
        refine stM (off := 0) Tryd.sizeOf9 rfl (by rw [ho0]) rfl rfl rfl (.tail .head) ?_
        refine nl ?_
        refine sq ?_
        refine sr ?_
        have ex0_1 : x0_1 = decV 3 (decP [] v false) false false x0_0.2 := (hx0_1.trans (step_yes (by decide) (show (0 : Int) ≤ v by omega) (Or.inl (by decide)))).trans (decF'_val (by decide) (rfl))
        refine cl rfl rfl rfl (d3 hR90 ex0_1) rfl (fun v_ H1 L1 hle_ hR_ => ?_)
        obtain ⟨N95, rfl, hR95, rfl, rfl⟩ := hR_
        refine asg rfl rfl ?_
        refine nl ?_
        refine rg ?_
        refine mv rfl rfl ?_
        refine mv rfl rfl ?_
        refine nc rfl rfl ?_
        refine fa F176_1 rfl rfl ?_
        refine stM (off := 1) Tryd.sizeOf21 rfl (by rw [ho0]) rfl rfl rfl (.tail .head) ?_
        refine nl ?_
        refine sq ?_
        refine sr ?_
        have ex0_2 : x0_2 = decV 2 (decP [] v false) false false x0_1.2 := (hx0_2.trans (step_yes (by decide) (show (0 : Int) ≤ v by omega) (Or.inl (by decide)))).trans (decF'_val (by decide) (rfl))
        refine cl rfl rfl rfl (d2 hR95 ex0_2) rfl (fun v_ H1 L1 hle_ hR_ => ?_)
        obtain ⟨N100, rfl, hR100, rfl, rfl⟩ := hR_
        refine asg rfl rfl ?_
        refine nl ?_
        refine rg ?_
        refine mv rfl rfl ?_
        refine mv rfl rfl ?_
        refine nc rfl rfl ?_
        refine fa F176_2 rfl rfl ?_
        refine stM (off := 2) Tryd.sizeOf45 rfl (by rw [ho0]) rfl rfl rfl (.tail .head) ?_
        refine nl ?_
        refine sq ?_
        refine sr ?_
        refine mv rfl rfl ?_
        refine nc rfl rfl ?_
        refine fa F176_3 rfl rfl ?_
        refine ld (j := 3) (off := 0 + k0 * 6) (Says.mid (.tail .head) ho0) Tryd.isAgg173 rfl rfl rfl rfl ?_
        refine asg rfl rfl ?_
        refine nl ?_
        refine sr ?_
        refine mv rfl rfl ?_
        refine asg rfl rfl ?_
        refine nl ?_
        refine sr ?_
        refine asg rfl rfl ?_
        refine nl ?_
        refine sq ?_
        refine sr ?_
        refine mv rfl rfl ?_
        refine nl ?_
        refine cdF rfl (by omega) ?_
        refine rg ?_
        have ey0_3 : x0_3 = (.mk 0 [] (if 0 ≤ ((-1) : Int) ∧ (v < ((-1) : Int) ∨ (rArr false x0_2.2).1 = 0) then false else decide ((rArr false x0_2.2).1 ≤ 0)) (rMany (decV 10 (decP fs_sCreateTopicsRequestTopicReplicaAssignment v false) false false) (rArr false x0_2.2).1.toNat (rArr false x0_2.2).2).1 [], (rMany (decV 10 (decP fs_sCreateTopicsRequestTopicReplicaAssignment v false) false false) (rArr false x0_2.2).1.toNat (rArr false x0_2.2).2).2) := (hx0_3.trans (step_yes (by decide) (show (0 : Int) ≤ v by omega) (Or.inl (by decide)))).trans (decF'_list rfl rfl)
        have hn0_3 : (rArr false x0_2.2).1.toNat = (lT x0_3.1).length := by rw [ey0_3]; exact (lT_many nul_le).symm
        have ex0_3 := ey0_3
        rw [hn0_3] at ex0_3
        have hl0_3 := rArr_le false x0_2.2
        have hm0_3 : (rArr false x0_2.2).2.s.length ≤ BR := Nat.le_trans (rArr_len false x0_2.2) hL0_2
        have hnb0_3 : (lT x0_3.1).length ≤ BR := by omega
        refine cl rfl rfl rfl (r_arrf hR100) rfl (fun v_ H1 L1 hle_ hR_ => ?_)
        obtain ⟨rfl, N112, rfl, hR112, rfl⟩ := hR_
        have hh0_3 := rArr_hi false x0_2.2
        refine asg rfl rfl ?_
        refine nl ?_
        refine sq ?_
        refine sr ?_
        refine cl rfl rfl rfl (r_ok hR112) rfl (fun v_ H1 L1 hle_ hR_ => ?_)
        obtain ⟨rfl, rfl, rfl⟩ := hR_
        refine nt rfl rfl ?_
        refine nl ?_
        refine cb rfl (fun h114 => ?_) (fun h114 => ?_)
        · skip
          have hbad_ : (rArr false x0_2.2).2.bad = true := by simpa using h114
          refine sr ?_
          refine cl rfl rfl rfl (r_complete hR112 (he.mono (le_2.trans le_3))) rfl (fun v_ H1 L1 hle_ hR_ => ?_)
          obtain ⟨rfl, rfl, rfl⟩ := hR_
          refine asg rfl rfl ?_
          refine nl ?_
          refine drW .head ?_
          refine drW .head ?_
          exact rT rfl rfl (le_2.trans le_3) (fun _ _ h => h) ⟨_, rfl, RdEnd.out (hB0_3 (by rw [ey0_3]; exact rMany_bad (fun r h => decV_bad (decP_bad _ _ _) h) _ _ hbad_)) hbad_⟩
        · skip
          refine skt ?_
          refine sr ?_
          refine mv rfl rfl ?_
          refine sh' (j := 0) Tryd.runUnderlying173 Tryd.sizeOf233 rfl rfl rfl (Nat.zero_le _) rfl ?_
          refine asg rfl rfl ?_
          refine nl ?_
          refine sq ?_
          refine sr ?_
          refine mv rfl rfl ?_
          refine gt rfl rfl rfl ?_
          refine nl ?_
          refine nulC2 ?_
          refine cutT (fun l' H' L' => ∃ (a0_3 : Option Addr), ∃ (c0_3 : Nat), ∃ (Nr0_3 : Chunk), [(2, .bool false), (7, .pointer (some ⟨b_1, 0, none⟩)), (8, .int .i16 v), (9, .bool (decide ((5 : Int) ≤ v))), (10, .pointer (some ⟨b, 0, none⟩)), (11, .slice none 0 0), (12, .slice a0 (lT x0.1).length c0), (13, .int .i32 (rArr false ⟨s, false, !a.isNone⟩).1), (14, .int .i32 (k0 : Int)), (16, .pointer (some ⟨g0, 0 + k0 * 6, none⟩)), (20, .slice none 0 0), (21, .slice a0_3 (lT x0_3.1).length c0_3), (22, .int .i32 (rArr false x0_2.2).1)] = l' ∧ Nr0_3 :: N112 :: [(g0, .cells ((es0.flatMap fk) ++ ([.string ⟨x0_0.1.s.toArray⟩, .int .i32 (IntKind.i32.wrap x0_1.1.n), .int .i16 (IntKind.i16.wrap x0_2.1.n), .slice none 0 0, .slice none 0 0, .map none] : List Value) ++ po0).toArray 176 (0, 0))] :: [(b, .cells [.int .i16 v, .slice none 0 0, .int .i32 60000, .bool false, .map none].toArray 170 (0, 0))] :: L = L' ∧ Row 233 3 a0_3 (lT x0_3.1).length c0_3 (reps [.int .i32 0, .slice none 0 0, .map none] (lT x0_3.1).length) Nr0_3 ∧ a0_3.isNone = (if 0 ≤ ((-1) : Int) ∧ (v < ((-1) : Int) ∨ (rArr false x0_2.2).1 = 0) then false else decide ((rArr false x0_2.2).1 ≤ 0))) ?_ (fun l' H' L' le_7 hI => ?_)
          · skip
            refine cd rfl (fun h119 => ?_) (fun h119 => ?_)
            · skip
              refine rg ?_
              refine mv rfl rfl ?_
              refine mv rfl rfl ?_
              refine apz (zs := [.int .i32 0, .slice none 0 0, .map none]) (m := (lT x0_3.1).length) Tryd.underlying173 Tryd.underlying21 I233 rfl rfl rfl (by omega) (by omega) (by have h9 := hnb0_3; unfold BR at h9; omega) (by have h9 := hnb0_3; unfold BR at h9; unfold maxLen; omega) rfl (fun g122 cp122 N122 r122 => ?_)
              refine asg rfl rfl ?_
              refine nN ?_
              refine drN (.tail .head) ?_
              refine fun a_ w_ hA hw => ⟨_, _, _, hA.sub ?_, (Fz.le.refl _), hw, (some ⟨g122, 0, none⟩), cp122, N122, rfl, rfl, r122, (by rw [if_neg (by omega)]; exact (decide_eq_false (by omega)).symm)⟩
              exact (.cons rfl (.cons rfl (.cons rfl (.cons rfl (.cons rfl (.cons rfl (.cons rfl (.cons rfl (.cons rfl (.cons rfl (.cons rfl (.cons rfl (.cons rfl (.nil _))))))))))))))
            · skip
              refine skN ?_
              refine fun a_ w_ hA hw => ⟨_, _, _, hA.sub ?_, (Fz.le.refl _), hw, none, 0, [], rfl, rfl, (by rw [show (lT x0_3.1).length = 0 by omega]; exact (Row.nil _ _)), (by rw [if_neg (by omega)]; exact (decide_eq_true (by omega)).symm)⟩
              exact (.cons rfl (.cons rfl (.cons rfl (.cons rfl (.cons rfl (.cons rfl (.cons rfl (.cons rfl (.cons rfl (.cons rfl (.cons rfl (.cons (by rw [show (lT x0_3.1).length = 0 by omega]; rfl) (.cons rfl (.nil _))))))))))))))
          · skip
            obtain ⟨a0_3, c0_3, Nr0_3, rfl, rfl, pj0, pj1⟩ := hI
            have hr0_3 := pj0
            have hi0_3 := pj1
            refine sq ?_
            refine sr ?_
            refine asg rfl rfl ?_
            refine nl ?_
            refine bl (lp ((lT x0_3.1).length) (fun k0_3 l' H' L' => ∃ (es0_3 : List (KE 3)) (M0_3 RN0_3 : Chunk), [(2, .bool false), (7, .pointer (some ⟨b_1, 0, none⟩)), (8, .int .i16 v), (9, .bool (decide ((5 : Int) ≤ v))), (10, .pointer (some ⟨b, 0, none⟩)), (11, .slice none 0 0), (12, .slice a0 (lT x0.1).length c0), (13, .int .i32 (rArr false ⟨s, false, !a.isNone⟩).1), (14, .int .i32 (k0 : Int)), (16, .pointer (some ⟨g0, 0 + k0 * 6, none⟩)), (20, .slice none 0 0), (21, .slice a0_3 (lT x0_3.1).length c0_3), (22, .int .i32 (rArr false x0_2.2).1), (23, .int .i32 (k0_3 : Int))] = l' ∧ M0_3 :: RN0_3 :: [(g0, .cells ((es0.flatMap fk) ++ ([.string ⟨x0_0.1.s.toArray⟩, .int .i32 (IntKind.i32.wrap x0_1.1.n), .int .i16 (IntKind.i16.wrap x0_2.1.n), .slice none 0 0, .slice none 0 0, .map none] : List Value) ++ po0).toArray 176 (0, 0))] :: [(b, .cells [.int .i16 v, .slice none 0 0, .int .i32 60000, .bool false, .map none].toArray 170 (0, 0))] :: L = L' ∧ RdAt H' 193 b_1 (rMany (decV 10 (decP fs_sCreateTopicsRequestTopicReplicaAssignment v false) false false) k0_3 (rArr false x0_2.2).2).2 RN0_3 ∧ Row 233 3 a0_3 (lT x0_3.1).length c0_3 (es0_3.flatMap fk ++ reps [.int .i32 0, .slice none 0 0, .map none] ((lT x0_3.1).length - k0_3)) M0_3 ∧ es0_3.map (·.2) = (rMany (decV 10 (decP fs_sCreateTopicsRequestTopicReplicaAssignment v false) false false) k0_3 (rArr false x0_2.2).2).1 ∧ ∀ p ∈ es0_3, At_CreateTopicsRequestTopicReplicaAssignment H' p.2 (fk p)) [(2, .bool false), (7, .pointer (some ⟨b_1, 0, none⟩)), (8, .int .i16 v), (9, .bool (decide ((5 : Int) ≤ v))), (10, .pointer (some ⟨b, 0, none⟩)), (11, .slice none 0 0), (12, .slice a0 (lT x0.1).length c0), (13, .int .i32 (rArr false ⟨s, false, !a.isNone⟩).1), (14, .int .i32 (k0 : Int)), (16, .pointer (some ⟨g0, 0 + k0 * 6, none⟩)), (20, .slice none 0 0), (21, .slice a0_3 (lT x0_3.1).length c0_3), (22, .int .i32 (rArr false x0_2.2).1), (23, .int .i32 (0 : Int))] (.cons rfl (.cons rfl (.cons rfl (.cons rfl (.cons rfl (.cons rfl (.cons rfl (.cons rfl (.cons rfl (.cons rfl (.cons rfl (.cons rfl (.cons rfl (.cons rfl (.nil _))))))))))))))) ⟨[], Nr0_3, _, rfl, rfl, (hR112.mono le_7), hr0_3, rfl, (fun p hp => by cases hp)⟩ (fun k0_3 l' H' L' hk0_3 le_8 hI => ?_))
            obtain ⟨es0_3, M0_3, RN0_3, rfl, rfl, hR_0_3, hw_0_3, he_0_3, hg_0_3⟩ := hI
            have hs_0_3 := els_len he_0_3
            have hp_0_3 : (es0_3.flatMap fk).length = k0_3 * 3 := els_flat hs_0_3
            refine sq ?_
            refine sr ?_
            refine mv rfl rfl ?_
            refine mv rfl rfl ?_
            refine lt rfl rfl rfl ?_
            refine nl ?_
            refine cd rfl (fun h125 => ?_) (fun h125 => ?_)
            · skip
              have hkl0_3 : k0_3 < (lT x0_3.1).length := by omega
              obtain ⟨g0_3, po0_3, hga0_3, rfl, hbk0_3⟩ := hw_0_3.next (zs := [.int .i32 0, .slice none 0 0, .map none]) hkl0_3 rfl (by decide)
              have ho0_3 : 0 + k0_3 * 3 = (es0_3.flatMap fk).length := by rw [hp_0_3]; omega
              have hbz0_3 : ((decV 10 (decP fs_sCreateTopicsRequestTopicReplicaAssignment v false) false false) (rMany (decV 10 (decP fs_sCreateTopicsRequestTopicReplicaAssignment v false) false false) k0_3 (rArr false x0_2.2).2).2).2.bad = true → (decP fs_CreateTopicsRequest v false ⟨s, false, !a.isNone⟩).2.bad = true := fun h => hB0_3 (by rw [ex0_3]; exact rMany_mono (fun r h => decV_bad (fun r h => decP_bad _ _ _ r h) h) _ (show k0_3 + 1 ≤ (lT x0_3.1).length from hkl0_3) (by rw [rMany_succ]; exact h))
              have hLk0_3 : (rMany (decV 10 (decP fs_sCreateTopicsRequestTopicReplicaAssignment v false) false false) k0_3 (rArr false x0_2.2).2).2.s.length ≤ BR := Nat.le_trans (rMany_shr (fun r => decV_shr (fun r => decP_shr _ _ _ r) r) _ _) hm0_3
              have hL0_3__ := hLk0_3
              obtain ⟨x0_3_0, hx0_3_0⟩ : ∃ x, x = stepF (Fd.mk 3 0 (-1) (-1) (-1) 0 0 []) v false (rMany (decV 10 (decP fs_sCreateTopicsRequestTopicReplicaAssignment v false) false false) k0_3 (rArr false x0_2.2).2).2 := ⟨_, rfl⟩
              obtain ⟨x0_3_1, hx0_3_1⟩ : ∃ x, x = stepF (Fd.mk 11 0 (-1) (-1) (-1) 0 3 []) v false x0_3_0.2 := ⟨_, rfl⟩
              obtain ⟨u0_3_, hu0_3_⟩ : ∃ x, x = tailU false x0_3_1.2 := ⟨_, rfl⟩
              have hD0_3_ : decP fs_sCreateTopicsRequestTopicReplicaAssignment v false (rMany (decV 10 (decP fs_sCreateTopicsRequestTopicReplicaAssignment v false) false false) k0_3 (rArr false x0_2.2).2).2 = (.mk 0 [] false [x0_3_0.1, x0_3_1.1] u0_3_.1, u0_3_.2) := by
                generalize ((rMany (decV 10 (decP fs_sCreateTopicsRequestTopicReplicaAssignment v false) false false) k0_3 (rArr false x0_2.2).2).2 : Rd) = r_ at hx0_3_0 ⊢
                rw [decP_eq]; unfold fs_sCreateTopicsRequestTopicReplicaAssignment; simp only [decFs_cons, decFs_nil, ← hx0_3_0, ← hx0_3_1, ← hu0_3_]
              have hL0_3_0 : x0_3_0.2.s.length ≤ BR := by rw [hx0_3_0]; exact Nat.le_trans (stepF_shr _ _ _ _) hL0_3__
              have hL0_3_1 : x0_3_1.2.s.length ≤ BR := by rw [hx0_3_1]; exact Nat.le_trans (stepF_shr _ _ _ _) hL0_3_0
              have hE0_3_ : u0_3_.2.bad = true → (decP fs_CreateTopicsRequest v false ⟨s, false, !a.isNone⟩).2.bad = true := fun h => hbz0_3 (by show (decP fs_sCreateTopicsRequestTopicReplicaAssignment v false (rMany (decV 10 (decP fs_sCreateTopicsRequestTopicReplicaAssignment v false) false false) k0_3 (rArr false x0_2.2).2).2).2.bad = true; rw [hD0_3_]; exact h)
              have hB0_3_1 : x0_3_1.2.bad = true → (decP fs_CreateTopicsRequest v false ⟨s, false, !a.isNone⟩).2.bad = true := fun h => hE0_3_ (by rw [hu0_3_]; exact tailU_bad h)
              have hB0_3_0 : x0_3_0.2.bad = true → (decP fs_CreateTopicsRequest v false ⟨s, false, !a.isNone⟩).2.bad = true := fun h => hB0_3_1 (by rw [hx0_3_1]; exact step_bad h)
              refine skt ?_
              refine sq ?_
              refine bl ?_
              refine sr ?_
              refine mv rfl rfl ?_
              refine mv rfl rfl ?_
              refine ixk (j := k0_3) Tryd.runUnderlying173 Tryd.sizeOf233 rfl hga0_3 rfl rfl hkl0_3 rfl ?_
              refine asg rfl rfl ?_
              refine nl ?_
              refine sr ?_
              refine mv rfl rfl ?_
              refine cl rfl rfl rfl (def_CreateTopicsRequestTopicReplicaAssignment ho0_3) rfl (fun v_ H1 L1 hle_ hR_ => ?_)
              obtain ⟨rfl, rfl⟩ := hR_
              refine nl ?_
              refine sr ?_
              refine mv rfl rfl ?_
              refine asg rfl rfl ?_
              refine nl ?_
              refine sq ?_
              refine sr ?_
              refine tf (.tail .head) ?_
              have ex0_3_0 : x0_3_0 = decV 3 (decP [] v false) false false (rMany (decV 10 (decP fs_sCreateTopicsRequestTopicReplicaAssignment v false) false false) k0_3 (rArr false x0_2.2).2).2 := (hx0_3_0.trans (step_yes (by decide) (show (0 : Int) ≤ v by omega) (Or.inl (by decide)))).trans (decF'_val (by decide) (rfl))
              refine cl rfl rfl rfl (d3 hR_0_3 ex0_3_0) rfl (fun v_ H1 L1 hle_ hR_ => ?_)
              obtain ⟨N134, rfl, hR134, rfl, rfl⟩ := hR_
              refine asg rfl rfl ?_
              refine nl ?_
              refine rg ?_
              refine mv rfl rfl ?_
              refine mv rfl rfl ?_
              refine nc rfl rfl ?_
              refine fa F233_0 rfl rfl ?_
              refine stM (off := 0) Tryd.sizeOf21 rfl (by rw [ho0_3]) rfl rfl rfl (.tail .head) ?_
              refine nl ?_
              refine sq ?_
              refine sr ?_
              refine mv rfl rfl ?_
              refine nc rfl rfl ?_
              refine fa F233_1 rfl rfl ?_
              refine ld (j := 1) (off := 0 + k0_3 * 3) (Says.mid (.tail .head) ho0_3) Tryd.isAgg189 rfl rfl rfl rfl ?_
              refine asg rfl rfl ?_
              refine nl ?_
              refine sr ?_
              refine mv rfl rfl ?_
              refine asg rfl rfl ?_
              refine nl ?_
              refine sr ?_
              refine asg rfl rfl ?_
              refine nl ?_
              refine sq ?_
              refine sr ?_
              refine mv rfl rfl ?_
              refine nl ?_
              refine cdF rfl (by omega) ?_
              refine rg ?_
              have ey0_3_1 : x0_3_1 = (.mk 0 [] (if 0 ≤ ((-1) : Int) ∧ (v < ((-1) : Int) ∨ (rArr false x0_3_0.2).1 = 0) then false else decide ((rArr false x0_3_0.2).1 ≤ 0)) (rMany (decV 3 (decP [] v false) false false) (rArr false x0_3_0.2).1.toNat (rArr false x0_3_0.2).2).1 [], (rMany (decV 3 (decP [] v false) false false) (rArr false x0_3_0.2).1.toNat (rArr false x0_3_0.2).2).2) := (hx0_3_1.trans (step_yes (by decide) (show (0 : Int) ≤ v by omega) (Or.inl (by decide)))).trans (decF'_list rfl rfl)
              have hn0_3_1 : (rArr false x0_3_0.2).1.toNat = (lT x0_3_1.1).length := by rw [ey0_3_1]; exact (lT_many nul_le).symm
              have ex0_3_1 := ey0_3_1
              rw [hn0_3_1] at ex0_3_1
              have hl0_3_1 := rArr_le false x0_3_0.2
              have hm0_3_1 : (rArr false x0_3_0.2).2.s.length ≤ BR := Nat.le_trans (rArr_len false x0_3_0.2) hL0_3_0
              have hnb0_3_1 : (lT x0_3_1.1).length ≤ BR := by omega
              refine cl rfl rfl rfl (r_arrf hR134) rfl (fun v_ H1 L1 hle_ hR_ => ?_)
              obtain ⟨rfl, N146, rfl, hR146, rfl⟩ := hR_
              have hh0_3_1 := rArr_hi false x0_3_0.2
              refine asg rfl rfl ?_
              refine nl ?_
              refine sq ?_
              refine sr ?_
              refine cl rfl rfl rfl (r_ok hR146) rfl (fun v_ H1 L1 hle_ hR_ => ?_)
              obtain ⟨rfl, rfl, rfl⟩ := hR_
              refine nt rfl rfl ?_
              refine nl ?_
              refine cb rfl (fun h148 => ?_) (fun h148 => ?_)
              · skip
                have hbad_ : (rArr false x0_3_0.2).2.bad = true := by simpa using h148
                refine sr ?_
                refine cl rfl rfl rfl (r_complete hR146 (he.mono (le_2.trans (le_3.trans (le_7.trans le_8))))) rfl (fun v_ H1 L1 hle_ hR_ => ?_)
                obtain ⟨rfl, rfl, rfl⟩ := hR_
                refine asg rfl rfl ?_
                refine nl ?_
                refine drW .head ?_
                refine drW .head ?_
                refine drW .head ?_
                exact rT rfl rfl (le_2.trans (le_3.trans (le_7.trans le_8))) (fun _ _ h => h) ⟨_, rfl, RdEnd.out (hB0_3_1 (by rw [ey0_3_1]; exact rMany_bad (fun r h => decV_bad (decP_bad _ _ _) h) _ _ hbad_)) hbad_⟩
              · skip
                refine skt ?_
                refine sr ?_
                refine mv rfl rfl ?_
                refine sh' (j := 0) Tryd.runUnderlying189 Tryd.sizeOf21 rfl rfl rfl (Nat.zero_le _) rfl ?_
                refine asg rfl rfl ?_
                refine nl ?_
                refine sq ?_
                refine sr ?_
                refine mv rfl rfl ?_
                refine gt rfl rfl rfl ?_
                refine nl ?_
                refine nulC2 ?_
                refine cutT (fun l' H' L' => ∃ (a0_3_1 : Option Addr), ∃ (c0_3_1 : Nat), ∃ (Nr0_3_1 : Chunk), [(2, .bool false), (7, .pointer (some ⟨b_1, 0, none⟩)), (8, .int .i16 v), (9, .bool (decide ((5 : Int) ≤ v))), (10, .pointer (some ⟨b, 0, none⟩)), (11, .slice none 0 0), (12, .slice a0 (lT x0.1).length c0), (13, .int .i32 (rArr false ⟨s, false, !a.isNone⟩).1), (14, .int .i32 (k0 : Int)), (16, .pointer (some ⟨g0, 0 + k0 * 6, none⟩)), (20, .slice none 0 0), (21, .slice a0_3 (lT x0_3.1).length c0_3), (22, .int .i32 (rArr false x0_2.2).1), (23, .int .i32 (k0_3 : Int)), (25, .pointer (some ⟨g0_3, 0 + k0_3 * 3, none⟩)), (27, .slice none 0 0), (28, .slice a0_3_1 (lT x0_3_1.1).length c0_3_1), (29, .int .i32 (rArr false x0_3_0.2).1)] = l' ∧ Nr0_3_1 :: N146 :: [(g0_3, .cells ((es0_3.flatMap fk) ++ ([.int .i32 (IntKind.i32.wrap x0_3_0.1.n), .slice none 0 0, .map none] : List Value) ++ po0_3).toArray 233 (0, 0))] :: [(g0, .cells ((es0.flatMap fk) ++ ([.string ⟨x0_0.1.s.toArray⟩, .int .i32 (IntKind.i32.wrap x0_1.1.n), .int .i16 (IntKind.i16.wrap x0_2.1.n), .slice none 0 0, .slice none 0 0, .map none] : List Value) ++ po0).toArray 176 (0, 0))] :: [(b, .cells [.int .i16 v, .slice none 0 0, .int .i32 60000, .bool false, .map none].toArray 170 (0, 0))] :: L = L' ∧ Row 21 1 a0_3_1 (lT x0_3_1.1).length c0_3_1 (reps [.int .i32 0] (lT x0_3_1.1).length) Nr0_3_1 ∧ a0_3_1.isNone = (if 0 ≤ ((-1) : Int) ∧ (v < ((-1) : Int) ∨ (rArr false x0_3_0.2).1 = 0) then false else decide ((rArr false x0_3_0.2).1 ≤ 0))) ?_ (fun l' H' L' le_10 hI => ?_)
                · skip
                  refine cd rfl (fun h153 => ?_) (fun h153 => ?_)
                  · skip
                    refine rg ?_
                    refine mv rfl rfl ?_
                    refine mv rfl rfl ?_
                    refine apz (zs := [.int .i32 0]) (m := (lT x0_3_1.1).length) Tryd.underlying189 Tryd.underlying21 I21 rfl rfl rfl (by omega) (by omega) (by have h9 := hnb0_3_1; unfold BR at h9; omega) (by have h9 := hnb0_3_1; unfold BR at h9; unfold maxLen; omega) rfl (fun g156 cp156 N156 r156 => ?_)
                    refine asg rfl rfl ?_
                    refine nN ?_
                    refine drN (.tail .head) ?_
                    refine fun a_ w_ hA hw => ⟨_, _, _, hA.sub ?_, (Fz.le.refl _), hw, (some ⟨g156, 0, none⟩), cp156, N156, rfl, rfl, r156, (by rw [if_neg (by omega)]; exact (decide_eq_false (by omega)).symm)⟩
                    exact (.cons rfl (.cons rfl (.cons rfl (.cons rfl (.cons rfl (.cons rfl (.cons rfl (.cons rfl (.cons rfl (.cons rfl (.cons rfl (.cons rfl (.cons rfl (.cons rfl (.cons rfl (.cons rfl (.cons rfl (.cons rfl (.nil _)))))))))))))))))))
                  · skip
                    refine skN ?_
                    refine fun a_ w_ hA hw => ⟨_, _, _, hA.sub ?_, (Fz.le.refl _), hw, none, 0, [], rfl, rfl, (by rw [show (lT x0_3_1.1).length = 0 by omega]; exact (Row.nil _ _)), (by rw [if_neg (by omega)]; exact (decide_eq_true (by omega)).symm)⟩
                    exact (.cons rfl (.cons rfl (.cons rfl (.cons rfl (.cons rfl (.cons rfl (.cons rfl (.cons rfl (.cons rfl (.cons rfl (.cons rfl (.cons rfl (.cons rfl (.cons rfl (.cons rfl (.cons rfl (.cons (by rw [show (lT x0_3_1.1).length = 0 by omega]; rfl) (.cons rfl (.nil _)))))))))))))))))))
                · skip
                  obtain ⟨a0_3_1, c0_3_1, Nr0_3_1, rfl, rfl, pj0, pj1⟩ := hI
                  have hr0_3_1 := pj0
                  have hi0_3_1 := pj1
                  refine sq ?_
                  refine sr ?_
                  refine asg rfl rfl ?_
                  refine nl ?_
                  refine bl (lp ((lT x0_3_1.1).length) (fun k0_3_1 l' H' L' => ∃ (es0_3_1 : List (KE 1)) (M0_3_1 RN0_3_1 : Chunk), [(2, .bool false), (7, .pointer (some ⟨b_1, 0, none⟩)), (8, .int .i16 v), (9, .bool (decide ((5 : Int) ≤ v))), (10, .pointer (some ⟨b, 0, none⟩)), (11, .slice none 0 0), (12, .slice a0 (lT x0.1).length c0), (13, .int .i32 (rArr false ⟨s, false, !a.isNone⟩).1), (14, .int .i32 (k0 : Int)), (16, .pointer (some ⟨g0, 0 + k0 * 6, none⟩)), (20, .slice none 0 0), (21, .slice a0_3 (lT x0_3.1).length c0_3), (22, .int .i32 (rArr false x0_2.2).1), (23, .int .i32 (k0_3 : Int)), (25, .pointer (some ⟨g0_3, 0 + k0_3 * 3, none⟩)), (27, .slice none 0 0), (28, .slice a0_3_1 (lT x0_3_1.1).length c0_3_1), (29, .int .i32 (rArr false x0_3_0.2).1), (30, .int .i32 (k0_3_1 : Int))] = l' ∧ M0_3_1 :: RN0_3_1 :: [(g0_3, .cells ((es0_3.flatMap fk) ++ ([.int .i32 (IntKind.i32.wrap x0_3_0.1.n), .slice none 0 0, .map none] : List Value) ++ po0_3).toArray 233 (0, 0))] :: [(g0, .cells ((es0.flatMap fk) ++ ([.string ⟨x0_0.1.s.toArray⟩, .int .i32 (IntKind.i32.wrap x0_1.1.n), .int .i16 (IntKind.i16.wrap x0_2.1.n), .slice none 0 0, .slice none 0 0, .map none] : List Value) ++ po0).toArray 176 (0, 0))] :: [(b, .cells [.int .i16 v, .slice none 0 0, .int .i32 60000, .bool false, .map none].toArray 170 (0, 0))] :: L = L' ∧ RdAt H' 193 b_1 (rMany (decV 3 (decP [] v false) false false) k0_3_1 (rArr false x0_3_0.2).2).2 RN0_3_1 ∧ Row 21 1 a0_3_1 (lT x0_3_1.1).length c0_3_1 (es0_3_1.flatMap fk ++ reps [.int .i32 0] ((lT x0_3_1.1).length - k0_3_1)) M0_3_1 ∧ es0_3_1.map (·.2) = (rMany (decV 3 (decP [] v false) false false) k0_3_1 (rArr false x0_3_0.2).2).1 ∧ ∀ p ∈ es0_3_1, RI32 H' p.2 (fk p)) [(2, .bool false), (7, .pointer (some ⟨b_1, 0, none⟩)), (8, .int .i16 v), (9, .bool (decide ((5 : Int) ≤ v))), (10, .pointer (some ⟨b, 0, none⟩)), (11, .slice none 0 0), (12, .slice a0 (lT x0.1).length c0), (13, .int .i32 (rArr false ⟨s, false, !a.isNone⟩).1), (14, .int .i32 (k0 : Int)), (16, .pointer (some ⟨g0, 0 + k0 * 6, none⟩)), (20, .slice none 0 0), (21, .slice a0_3 (lT x0_3.1).length c0_3), (22, .int .i32 (rArr false x0_2.2).1), (23, .int .i32 (k0_3 : Int)), (25, .pointer (some ⟨g0_3, 0 + k0_3 * 3, none⟩)), (27, .slice none 0 0), (28, .slice a0_3_1 (lT x0_3_1.1).length c0_3_1), (29, .int .i32 (rArr false x0_3_0.2).1), (30, .int .i32 (0 : Int))] (.cons rfl (.cons rfl (.cons rfl (.cons rfl (.cons rfl (.cons rfl (.cons rfl (.cons rfl (.cons rfl (.cons rfl (.cons rfl (.cons rfl (.cons rfl (.cons rfl (.cons rfl (.cons rfl (.cons rfl (.cons rfl (.cons rfl (.nil _)))))))))))))))))))) ⟨[], Nr0_3_1, _, rfl, rfl, (hR146.mono le_10), hr0_3_1, rfl, (fun p hp => by cases hp)⟩ (fun k0_3_1 l' H' L' hk0_3_1 le_11 hI => ?_))
                  obtain ⟨es0_3_1, M0_3_1, RN0_3_1, rfl, rfl, hR_0_3_1, hw_0_3_1, he_0_3_1, hg_0_3_1⟩ := hI
                  have hs_0_3_1 := els_len he_0_3_1
                  have hp_0_3_1 : (es0_3_1.flatMap fk).length = k0_3_1 * 1 := els_flat hs_0_3_1
                  refine sq ?_
                  refine sr ?_
                  refine mv rfl rfl ?_
                  refine mv rfl rfl ?_
                  refine lt rfl rfl rfl ?_
                  refine nl ?_
                  refine cd rfl (fun h159 => ?_) (fun h159 => ?_)
                  · skip
                    have hkl0_3_1 : k0_3_1 < (lT x0_3_1.1).length := by omega
                    obtain ⟨g0_3_1, po0_3_1, hga0_3_1, rfl, hbk0_3_1⟩ := hw_0_3_1.next (zs := [.int .i32 0]) hkl0_3_1 rfl (by decide)
                    have ho0_3_1 : 0 + k0_3_1 * 1 = (es0_3_1.flatMap fk).length := by rw [hp_0_3_1]; omega
                    have hbz0_3_1 : ((decV 3 (decP [] v false) false false) (rMany (decV 3 (decP [] v false) false false) k0_3_1 (rArr false x0_3_0.2).2).2).2.bad = true → (decP fs_CreateTopicsRequest v false ⟨s, false, !a.isNone⟩).2.bad = true := fun h => hB0_3_1 (by rw [ex0_3_1]; exact rMany_mono (fun r h => decV_bad (fun r h => decP_bad _ _ _ r h) h) _ (show k0_3_1 + 1 ≤ (lT x0_3_1.1).length from hkl0_3_1) (by rw [rMany_succ]; exact h))
                    have hLk0_3_1 : (rMany (decV 3 (decP [] v false) false false) k0_3_1 (rArr false x0_3_0.2).2).2.s.length ≤ BR := Nat.le_trans (rMany_shr (fun r => decV_shr (fun r => decP_shr _ _ _ r) r) _ _) hm0_3_1
                    obtain ⟨y0_3_1, hy0_3_1⟩ : ∃ x, x = (decV 3 (decP [] v false) false false) (rMany (decV 3 (decP [] v false) false false) k0_3_1 (rArr false x0_3_0.2).2).2 := ⟨_, rfl⟩
                    refine skt ?_
                    refine sq ?_
                    refine bl ?_
                    refine sr ?_
                    refine tf (.tail .head) ?_
                    refine cl rfl rfl rfl (d3 hR_0_3_1 hy0_3_1) rfl (fun v_ H1 L1 hle_ hR_ => ?_)
                    obtain ⟨N162, rfl, hR162, rfl, rfl⟩ := hR_
                    refine asg rfl rfl ?_
                    refine nl ?_
                    refine rg ?_
                    refine mv rfl rfl ?_
                    refine mv rfl rfl ?_
                    refine mv rfl rfl ?_
                    refine ixk (j := k0_3_1) Tryd.runUnderlying189 Tryd.sizeOf21 rfl hga0_3_1 rfl rfl hkl0_3_1 rfl ?_
                    refine stM (off := 0) Tryd.sizeOf21 rfl ho0_3_1 rfl rfl rfl (.tail .head) ?_
                    refine nN ?_
                    refine Nb ?_
                    refine Nt ?_
                    refine rg ?_
                    refine mv rfl rfl ?_
                    refine ad rfl rfl (c := ((k0_3_1 + 1 : Nat) : Int)) ((wrap32_le (by omega) (by omega)).trans (by omega)) rfl ?_
                    refine asg rfl rfl ?_
                    refine nN ?_
                    have hfs0_3_1 := flatMap_snoc' fk es0_3_1 ((⟨([.int .i32 (IntKind.i32.wrap y0_3_1.1.n)] : List Value), rfl, all_one rfl⟩, ((decV 3 (decP [] v false) false false) (rMany (decV 3 (decP [] v false) false false) k0_3_1 (rArr false x0_3_0.2).2).2).1) : KE 1)
                    have hrw0_3_1 := hbk0_3_1 ([.int .i32 (IntKind.i32.wrap y0_3_1.1.n)] : List Value) rfl
                    refine tfN (.tail .head) ?_
                    refine fun a_ w_ hA hw => ⟨hkl0_3_1, _, _, _, hA.sub ?_, le_11, hw, _, _, _, rfl, rfl, (by rw [rMany_succ, ← hy0_3_1]; exact hR162), (by rw [← hfs0_3_1]; exact hrw0_3_1), (dec_els he_0_3_1), (fun p hp => (mem_snoc hp).elim (fun h => RI32.mono _ _ _ _ (Fz.le.refl _) (hg_0_3_1 p h)) (fun h => h ▸ (by show RI32 _ ((decV 3 (decP [] v false) false false) (rMany (decV 3 (decP [] v false) false false) k0_3_1 (rArr false x0_3_0.2).2).2).1 [.int .i32 (IntKind.i32.wrap y0_3_1.1.n)]; rw [← hy0_3_1]; rfl)))⟩
                    exact (.cons rfl (.cons rfl (.cons rfl (.cons rfl (.cons rfl (.cons rfl (.cons rfl (.cons rfl (.cons rfl (.cons rfl (.cons rfl (.cons rfl (.cons rfl (.cons rfl (.cons rfl (.cons rfl (.cons rfl (.cons rfl (.cons rfl (.nil _))))))))))))))))))))
                  · skip
                    have hkn_ : k0_3_1 = (lT x0_3_1.1).length := by omega
                    subst hkn_
                    have hw2_0_3_1 : Row 21 1 a0_3_1 (lT x0_3_1.1).length c0_3_1 (es0_3_1.flatMap fk) M0_3_1 := by have h := hw_0_3_1; rw [Nat.sub_self] at h; simpa [reps] using h
                    refine frW hw2_0_3_1 .head (fun Hf0_3_1 hlf0_3_1 hfz0_3_1 => ?_)
                    have hrs0_3_1 := RowsAt.row (R := RI32) hfz0_3_1 hs_0_3_1.symm hw2_0_3_1.le.1 (fun p hp => RI32.mono _ _ _ _ hlf0_3_1 (hg_0_3_1 p hp))
                    rw [he_0_3_1] at hrs0_3_1
                    have hf0_3_1 : ListAt Hf0_3_1 x0_3_1.1 1 RI32 a0_3_1 c0_3_1 := by rw [ex0_3_1]; exact listAt_of hrs0_3_1 hi0_3_1 (fun h => by have h1 := nul_le h; rw [show (lT x0_3_1.1).length = 0 by omega]; rfl)
                    have hRx0_3_1 : RdAt Hf0_3_1 193 b_1 x0_3_1.2 RN0_3_1 := by rw [ex0_3_1]; exact (hR_0_3_1.mono hlf0_3_1)
                    refine exX ?_
                    refine XT ?_
                    refine XT ?_
                    refine Xb ?_
                    refine Nt ?_
                    refine sr ?_
                    refine mv rfl rfl ?_
                    refine asg rfl rfl ?_
                    refine nl ?_
                    refine rg ?_
                    refine mv rfl rfl ?_
                    refine mv rfl rfl ?_
                    refine nc rfl rfl ?_
                    refine fa F233_1 rfl rfl ?_
                    refine stM (off := 1) Tryd.sizeOf189 rfl (by rw [ho0_3]) rfl rfl rfl (.tail .head) ?_
                    refine nl ?_
                    refine sr ?_
                    refine mv rfl rfl ?_
                    refine nl ?_
                    refine cdF rfl (by omega) ?_
                    refine skN ?_
                    refine Nb ?_
                    refine Nt ?_
                    refine rg ?_
                    refine mv rfl rfl ?_
                    refine ad rfl rfl (c := ((k0_3 + 1 : Nat) : Int)) ((wrap32_le (by omega) (by omega)).trans (by omega)) rfl ?_
                    refine asg rfl rfl ?_
                    refine nN ?_
                    obtain rfl : u0_3_ = ([], x0_3_1.2) := hu0_3_
                    have hfs0_3 := flatMap_snoc' fk es0_3 ((⟨([.int .i32 (IntKind.i32.wrap x0_3_0.1.n), .slice a0_3_1 (lT x0_3_1.1).length c0_3_1, .map none] : List Value), rfl, all_one rfl⟩, ((decV 10 (decP fs_sCreateTopicsRequestTopicReplicaAssignment v false) false false) (rMany (decV 10 (decP fs_sCreateTopicsRequestTopicReplicaAssignment v false) false false) k0_3 (rArr false x0_2.2).2).2).1) : KE 3)
                    have hrw0_3 := hbk0_3 ([.int .i32 (IntKind.i32.wrap x0_3_0.1.n), .slice a0_3_1 (lT x0_3_1.1).length c0_3_1, .map none] : List Value) rfl
                    refine tfN (.tail .head) ?_
                    refine fun a_ w_ hA hw => ⟨hkl0_3, _, _, _, hA.sub ?_, (le_8.trans (le_10.trans (le_11.trans hlf0_3_1))), hw, _, _, _, rfl, rfl, (by rw [rMany_succ]; show RdAt _ 193 b_1 (decP fs_sCreateTopicsRequestTopicReplicaAssignment v false (rMany (decV 10 (decP fs_sCreateTopicsRequestTopicReplicaAssignment v false) false false) k0_3 (rArr false x0_2.2).2).2).2 _; rw [hD0_3_]; exact hRx0_3_1), (by rw [← hfs0_3]; exact hrw0_3), (dec_els he_0_3), (fun p hp => (mem_snoc hp).elim (fun h => At_CreateTopicsRequestTopicReplicaAssignment.mono _ _ _ _ (le_10.trans (le_11.trans hlf0_3_1)) (hg_0_3 p h)) (fun h => h ▸ (by show At_CreateTopicsRequestTopicReplicaAssignment _ (decP fs_sCreateTopicsRequestTopicReplicaAssignment v false (rMany (decV 10 (decP fs_sCreateTopicsRequestTopicReplicaAssignment v false) false false) k0_3 (rArr false x0_2.2).2).2).1 [.int .i32 (IntKind.i32.wrap x0_3_0.1.n), .slice a0_3_1 (lT x0_3_1.1).length c0_3_1, .map none]; rw [hD0_3_]; exact ⟨a0_3_1, c0_3_1, none, rfl, hf0_3_1, (KvAt.nil _)⟩)))⟩
                    exact (.cons rfl (.cons rfl (.cons rfl (.cons rfl (.cons rfl (.cons rfl (.cons rfl (.cons rfl (.cons rfl (.cons rfl (.cons rfl (.cons rfl (.cons rfl (.cons rfl (.nil _)))))))))))))))
            · skip
              have hkn_ : k0_3 = (lT x0_3.1).length := by omega
              subst hkn_
              have hw2_0_3 : Row 233 3 a0_3 (lT x0_3.1).length c0_3 (es0_3.flatMap fk) M0_3 := by have h := hw_0_3; rw [Nat.sub_self] at h; simpa [reps] using h
              refine frW hw2_0_3 .head (fun Hf0_3 hlf0_3 hfz0_3 => ?_)
              have hrs0_3 := RowsAt.row (R := At_CreateTopicsRequestTopicReplicaAssignment) hfz0_3 hs_0_3.symm hw2_0_3.le.1 (fun p hp => At_CreateTopicsRequestTopicReplicaAssignment.mono _ _ _ _ hlf0_3 (hg_0_3 p hp))
              rw [he_0_3] at hrs0_3
              have hf0_3 : ListAt Hf0_3 x0_3.1 3 At_CreateTopicsRequestTopicReplicaAssignment a0_3 c0_3 := by rw [ex0_3]; exact listAt_of hrs0_3 hi0_3 (fun h => by have h1 := nul_le h; rw [show (lT x0_3.1).length = 0 by omega]; rfl)
              have hRx0_3 : RdAt Hf0_3 193 b_1 x0_3.2 RN0_3 := by rw [ex0_3]; exact (hR_0_3.mono hlf0_3)
              refine exX ?_
              refine XT ?_
              refine XT ?_
              refine Xb ?_
              refine Nt ?_
              refine sr ?_
              refine mv rfl rfl ?_
              refine asg rfl rfl ?_
              refine nl ?_
              refine rg ?_
              refine mv rfl rfl ?_
              refine mv rfl rfl ?_
              refine nc rfl rfl ?_
              refine fa F176_3 rfl rfl ?_
              refine stM (off := 3) Tryd.sizeOf173 rfl (by rw [ho0]) rfl rfl rfl (.tail .head) ?_
              refine nl ?_
              refine sq ?_
              refine sr ?_
              refine mv rfl rfl ?_
              refine nc rfl rfl ?_
              refine fa F176_4 rfl rfl ?_
              refine ld (j := 4) (off := 0 + k0 * 6) (Says.mid (.tail .head) ho0) Tryd.isAgg174 rfl rfl rfl rfl ?_
              refine asg rfl rfl ?_
              refine nl ?_
              refine sr ?_
              refine mv rfl rfl ?_
              refine asg rfl rfl ?_
              refine nl ?_
              refine sr ?_
              refine asg rfl rfl ?_
              refine nl ?_
              refine sq ?_
              refine sr ?_
              refine mv rfl rfl ?_
              refine nl ?_
              refine cdF rfl (by omega) ?_
              refine rg ?_
              have ey0_4 : x0_4 = (.mk 0 [] (if 0 ≤ ((-1) : Int) ∧ (v < ((-1) : Int) ∨ (rArr false x0_3.2).1 = 0) then false else decide ((rArr false x0_3.2).1 ≤ 0)) (rMany (decV 10 (decP fs_sCreateTopicsRequestTopicConfig v false) false false) (rArr false x0_3.2).1.toNat (rArr false x0_3.2).2).1 [], (rMany (decV 10 (decP fs_sCreateTopicsRequestTopicConfig v false) false false) (rArr false x0_3.2).1.toNat (rArr false x0_3.2).2).2) := (hx0_4.trans (step_yes (by decide) (show (0 : Int) ≤ v by omega) (Or.inl (by decide)))).trans (decF'_list rfl rfl)
              have hn0_4 : (rArr false x0_3.2).1.toNat = (lT x0_4.1).length := by rw [ey0_4]; exact (lT_many nul_le).symm
              have ex0_4 := ey0_4
              rw [hn0_4] at ex0_4
              have hl0_4 := rArr_le false x0_3.2
              have hm0_4 : (rArr false x0_3.2).2.s.length ≤ BR := Nat.le_trans (rArr_len false x0_3.2) hL0_3
              have hnb0_4 : (lT x0_4.1).length ≤ BR := by omega
              refine cl rfl rfl rfl (r_arrf hRx0_3) rfl (fun v_ H1 L1 hle_ hR_ => ?_)
              obtain ⟨rfl, N189, rfl, hR189, rfl⟩ := hR_
              have hh0_4 := rArr_hi false x0_3.2
              refine asg rfl rfl ?_
              refine nl ?_
              refine sq ?_
              refine sr ?_
              refine cl rfl rfl rfl (r_ok hR189) rfl (fun v_ H1 L1 hle_ hR_ => ?_)
              obtain ⟨rfl, rfl, rfl⟩ := hR_
              refine nt rfl rfl ?_
              refine nl ?_
              refine cb rfl (fun h191 => ?_) (fun h191 => ?_)
              · skip
                have hbad_ : (rArr false x0_3.2).2.bad = true := by simpa using h191
                refine sr ?_
                refine cl rfl rfl rfl (r_complete hR189 (he.mono (le_2.trans (le_3.trans (le_7.trans (le_8.trans hlf0_3)))))) rfl (fun v_ H1 L1 hle_ hR_ => ?_)
                obtain ⟨rfl, rfl, rfl⟩ := hR_
                refine asg rfl rfl ?_
                refine nl ?_
                refine drW .head ?_
                refine drW .head ?_
                exact rT rfl rfl (le_2.trans (le_3.trans (le_7.trans (le_8.trans hlf0_3)))) (fun _ _ h => h) ⟨_, rfl, RdEnd.out (hB0_4 (by rw [ey0_4]; exact rMany_bad (fun r h => decV_bad (decP_bad _ _ _) h) _ _ hbad_)) hbad_⟩
              · skip
                refine skt ?_
                refine sr ?_
                refine mv rfl rfl ?_
                refine sh' (j := 0) Tryd.runUnderlying174 Tryd.sizeOf236 rfl rfl rfl (Nat.zero_le _) rfl ?_
                refine asg rfl rfl ?_
                refine nl ?_
                refine sq ?_
                refine sr ?_
                refine mv rfl rfl ?_
                refine gt rfl rfl rfl ?_
                refine nl ?_
                refine nulC2 ?_
                refine cutT (fun l' H' L' => ∃ (a0_4 : Option Addr), ∃ (c0_4 : Nat), ∃ (Nr0_4 : Chunk), [(2, .bool false), (7, .pointer (some ⟨b_1, 0, none⟩)), (8, .int .i16 v), (9, .bool (decide ((5 : Int) ≤ v))), (10, .pointer (some ⟨b, 0, none⟩)), (11, .slice none 0 0), (12, .slice a0 (lT x0.1).length c0), (13, .int .i32 (rArr false ⟨s, false, !a.isNone⟩).1), (14, .int .i32 (k0 : Int)), (16, .pointer (some ⟨g0, 0 + k0 * 6, none⟩)), (32, .slice none 0 0), (33, .slice a0_4 (lT x0_4.1).length c0_4), (34, .int .i32 (rArr false x0_3.2).1)] = l' ∧ Nr0_4 :: N189 :: [(g0, .cells ((es0.flatMap fk) ++ ([.string ⟨x0_0.1.s.toArray⟩, .int .i32 (IntKind.i32.wrap x0_1.1.n), .int .i16 (IntKind.i16.wrap x0_2.1.n), .slice a0_3 (lT x0_3.1).length c0_3, .slice none 0 0, .map none] : List Value) ++ po0).toArray 176 (0, 0))] :: [(b, .cells [.int .i16 v, .slice none 0 0, .int .i32 60000, .bool false, .map none].toArray 170 (0, 0))] :: L = L' ∧ Row 236 3 a0_4 (lT x0_4.1).length c0_4 (reps [.string ⟨#[]⟩, .pointer none, .map none] (lT x0_4.1).length) Nr0_4 ∧ a0_4.isNone = (if 0 ≤ ((-1) : Int) ∧ (v < ((-1) : Int) ∨ (rArr false x0_3.2).1 = 0) then false else decide ((rArr false x0_3.2).1 ≤ 0))) ?_ (fun l' H' L' le_13 hI => ?_)
                · skip
                  refine cd rfl (fun h196 => ?_) (fun h196 => ?_)
                  · skip
                    refine rg ?_
                    refine mv rfl rfl ?_
                    refine mv rfl rfl ?_
                    refine apz (zs := [.string ⟨#[]⟩, .pointer none, .map none]) (m := (lT x0_4.1).length) Tryd.underlying174 Tryd.underlying21 I236 rfl rfl rfl (by omega) (by omega) (by have h9 := hnb0_4; unfold BR at h9; omega) (by have h9 := hnb0_4; unfold BR at h9; unfold maxLen; omega) rfl (fun g199 cp199 N199 r199 => ?_)
                    refine asg rfl rfl ?_
                    refine nN ?_
                    refine drN (.tail .head) ?_
                    refine fun a_ w_ hA hw => ⟨_, _, _, hA.sub ?_, (Fz.le.refl _), hw, (some ⟨g199, 0, none⟩), cp199, N199, rfl, rfl, r199, (by rw [if_neg (by omega)]; exact (decide_eq_false (by omega)).symm)⟩
                    exact (.cons rfl (.cons rfl (.cons rfl (.cons rfl (.cons rfl (.cons rfl (.cons rfl (.cons rfl (.cons rfl (.cons rfl (.cons rfl (.cons rfl (.cons rfl (.nil _))))))))))))))
                  · skip
                    refine skN ?_
                    refine fun a_ w_ hA hw => ⟨_, _, _, hA.sub ?_, (Fz.le.refl _), hw, none, 0, [], rfl, rfl, (by rw [show (lT x0_4.1).length = 0 by omega]; exact (Row.nil _ _)), (by rw [if_neg (by omega)]; exact (decide_eq_true (by omega)).symm)⟩
                    exact (.cons rfl (.cons rfl (.cons rfl (.cons rfl (.cons rfl (.cons rfl (.cons rfl (.cons rfl (.cons rfl (.cons rfl (.cons rfl (.cons (by rw [show (lT x0_4.1).length = 0 by omega]; rfl) (.cons rfl (.nil _))))))))))))))
                · skip
                  obtain ⟨a0_4, c0_4, Nr0_4, rfl, rfl, pj0, pj1⟩ := hI
                  have hr0_4 := pj0
                  have hi0_4 := pj1
                  refine sq ?_
                  refine sr ?_
                  refine asg rfl rfl ?_
                  refine nl ?_
                  refine bl (lp ((lT x0_4.1).length) (fun k0_4 l' H' L' => ∃ (es0_4 : List (KE 3)) (M0_4 RN0_4 : Chunk), [(2, .bool false), (7, .pointer (some ⟨b_1, 0, none⟩)), (8, .int .i16 v), (9, .bool (decide ((5 : Int) ≤ v))), (10, .pointer (some ⟨b, 0, none⟩)), (11, .slice none 0 0), (12, .slice a0 (lT x0.1).length c0), (13, .int .i32 (rArr false ⟨s, false, !a.isNone⟩).1), (14, .int .i32 (k0 : Int)), (16, .pointer (some ⟨g0, 0 + k0 * 6, none⟩)), (32, .slice none 0 0), (33, .slice a0_4 (lT x0_4.1).length c0_4), (34, .int .i32 (rArr false x0_3.2).1), (35, .int .i32 (k0_4 : Int))] = l' ∧ M0_4 :: RN0_4 :: [(g0, .cells ((es0.flatMap fk) ++ ([.string ⟨x0_0.1.s.toArray⟩, .int .i32 (IntKind.i32.wrap x0_1.1.n), .int .i16 (IntKind.i16.wrap x0_2.1.n), .slice a0_3 (lT x0_3.1).length c0_3, .slice none 0 0, .map none] : List Value) ++ po0).toArray 176 (0, 0))] :: [(b, .cells [.int .i16 v, .slice none 0 0, .int .i32 60000, .bool false, .map none].toArray 170 (0, 0))] :: L = L' ∧ RdAt H' 193 b_1 (rMany (decV 10 (decP fs_sCreateTopicsRequestTopicConfig v false) false false) k0_4 (rArr false x0_3.2).2).2 RN0_4 ∧ Row 236 3 a0_4 (lT x0_4.1).length c0_4 (es0_4.flatMap fk ++ reps [.string ⟨#[]⟩, .pointer none, .map none] ((lT x0_4.1).length - k0_4)) M0_4 ∧ es0_4.map (·.2) = (rMany (decV 10 (decP fs_sCreateTopicsRequestTopicConfig v false) false false) k0_4 (rArr false x0_3.2).2).1 ∧ ∀ p ∈ es0_4, At_CreateTopicsRequestTopicConfig H' p.2 (fk p)) [(2, .bool false), (7, .pointer (some ⟨b_1, 0, none⟩)), (8, .int .i16 v), (9, .bool (decide ((5 : Int) ≤ v))), (10, .pointer (some ⟨b, 0, none⟩)), (11, .slice none 0 0), (12, .slice a0 (lT x0.1).length c0), (13, .int .i32 (rArr false ⟨s, false, !a.isNone⟩).1), (14, .int .i32 (k0 : Int)), (16, .pointer (some ⟨g0, 0 + k0 * 6, none⟩)), (32, .slice none 0 0), (33, .slice a0_4 (lT x0_4.1).length c0_4), (34, .int .i32 (rArr false x0_3.2).1), (35, .int .i32 (0 : Int))] (.cons rfl (.cons rfl (.cons rfl (.cons rfl (.cons rfl (.cons rfl (.cons rfl (.cons rfl (.cons rfl (.cons rfl (.cons rfl (.cons rfl (.cons rfl (.cons rfl (.nil _))))))))))))))) ⟨[], Nr0_4, _, rfl, rfl, (hR189.mono le_13), hr0_4, rfl, (fun p hp => by cases hp)⟩ (fun k0_4 l' H' L' hk0_4 le_14 hI => ?_))
                  obtain ⟨es0_4, M0_4, RN0_4, rfl, rfl, hR_0_4, hw_0_4, he_0_4, hg_0_4⟩ := hI
                  have hs_0_4 := els_len he_0_4
                  have hp_0_4 : (es0_4.flatMap fk).length = k0_4 * 3 := els_flat hs_0_4
                  refine sq ?_
                  refine sr ?_
                  refine mv rfl rfl ?_
                  refine mv rfl rfl ?_
                  refine lt rfl rfl rfl ?_
                  refine nl ?_
                  refine cd rfl (fun h202 => ?_) (fun h202 => ?_)
                  · skip
                    have hkl0_4 : k0_4 < (lT x0_4.1).length := by omega
                    obtain ⟨g0_4, po0_4, hga0_4, rfl, hbk0_4⟩ := hw_0_4.next (zs := [.string ⟨#[]⟩, .pointer none, .map none]) hkl0_4 rfl (by decide)
                    have ho0_4 : 0 + k0_4 * 3 = (es0_4.flatMap fk).length := by rw [hp_0_4]; omega
                    have hbz0_4 : ((decV 10 (decP fs_sCreateTopicsRequestTopicConfig v false) false false) (rMany (decV 10 (decP fs_sCreateTopicsRequestTopicConfig v false) false false) k0_4 (rArr false x0_3.2).2).2).2.bad = true → (decP fs_CreateTopicsRequest v false ⟨s, false, !a.isNone⟩).2.bad = true := fun h => hB0_4 (by rw [ex0_4]; exact rMany_mono (fun r h => decV_bad (fun r h => decP_bad _ _ _ r h) h) _ (show k0_4 + 1 ≤ (lT x0_4.1).length from hkl0_4) (by rw [rMany_succ]; exact h))
                    have hLk0_4 : (rMany (decV 10 (decP fs_sCreateTopicsRequestTopicConfig v false) false false) k0_4 (rArr false x0_3.2).2).2.s.length ≤ BR := Nat.le_trans (rMany_shr (fun r => decV_shr (fun r => decP_shr _ _ _ r) r) _ _) hm0_4
                    have hL0_4__ := hLk0_4
                    obtain ⟨x0_4_0, hx0_4_0⟩ : ∃ x, x = stepF (Fd.mk 8 0 (-1) (-1) (-1) 0 0 []) v false (rMany (decV 10 (decP fs_sCreateTopicsRequestTopicConfig v false) false false) k0_4 (rArr false x0_3.2).2).2 := ⟨_, rfl⟩
                    obtain ⟨x0_4_1, hx0_4_1⟩ : ∃ x, x = stepF (Fd.mk 8 0 (-1) 0 (-1) 0 0 []) v false x0_4_0.2 := ⟨_, rfl⟩
                    obtain ⟨u0_4_, hu0_4_⟩ : ∃ x, x = tailU false x0_4_1.2 := ⟨_, rfl⟩
                    have hD0_4_ : decP fs_sCreateTopicsRequestTopicConfig v false (rMany (decV 10 (decP fs_sCreateTopicsRequestTopicConfig v false) false false) k0_4 (rArr false x0_3.2).2).2 = (.mk 0 [] false [x0_4_0.1, x0_4_1.1] u0_4_.1, u0_4_.2) := by
                      generalize ((rMany (decV 10 (decP fs_sCreateTopicsRequestTopicConfig v false) false false) k0_4 (rArr false x0_3.2).2).2 : Rd) = r_ at hx0_4_0 ⊢
                      rw [decP_eq]; unfold fs_sCreateTopicsRequestTopicConfig; simp only [decFs_cons, decFs_nil, ← hx0_4_0, ← hx0_4_1, ← hu0_4_]
                    have hL0_4_0 : x0_4_0.2.s.length ≤ BR := by rw [hx0_4_0]; exact Nat.le_trans (stepF_shr _ _ _ _) hL0_4__
                    have hL0_4_1 : x0_4_1.2.s.length ≤ BR := by rw [hx0_4_1]; exact Nat.le_trans (stepF_shr _ _ _ _) hL0_4_0
                    have hE0_4_ : u0_4_.2.bad = true → (decP fs_CreateTopicsRequest v false ⟨s, false, !a.isNone⟩).2.bad = true := fun h => hbz0_4 (by show (decP fs_sCreateTopicsRequestTopicConfig v false (rMany (decV 10 (decP fs_sCreateTopicsRequestTopicConfig v false) false false) k0_4 (rArr false x0_3.2).2).2).2.bad = true; rw [hD0_4_]; exact h)
                    have hB0_4_1 : x0_4_1.2.bad = true → (decP fs_CreateTopicsRequest v false ⟨s, false, !a.isNone⟩).2.bad = true := fun h => hE0_4_ (by rw [hu0_4_]; exact tailU_bad h)
                    have hB0_4_0 : x0_4_0.2.bad = true → (decP fs_CreateTopicsRequest v false ⟨s, false, !a.isNone⟩).2.bad = true := fun h => hB0_4_1 (by rw [hx0_4_1]; exact step_bad h)
                    refine skt ?_
                    refine sq ?_
                    refine bl ?_
                    refine sr ?_
                    refine mv rfl rfl ?_
                    refine mv rfl rfl ?_
                    refine ixk (j := k0_4) Tryd.runUnderlying174 Tryd.sizeOf236 rfl hga0_4 rfl rfl hkl0_4 rfl ?_
                    refine asg rfl rfl ?_
                    refine nl ?_
                    refine sr ?_
                    refine mv rfl rfl ?_
                    refine cl rfl rfl rfl (def_CreateTopicsRequestTopicConfig ho0_4) rfl (fun v_ H1 L1 hle_ hR_ => ?_)
                    obtain ⟨rfl, rfl⟩ := hR_
                    refine nl ?_
                    refine sr ?_
                    refine mv rfl rfl ?_
                    refine asg rfl rfl ?_
                    refine nl ?_
                    refine sq ?_
                    refine sr ?_
                    refine asg rfl rfl ?_
                    refine nl ?_
                    refine sq ?_
                    refine sr ?_
                    refine mv rfl rfl ?_
                    refine nl ?_
                    refine cF rfl ?_
                    refine sr ?_
                    refine mv rfl rfl ?_
                    refine nl ?_
                    refine cdF rfl (by omega) ?_
                    refine rg ?_
                    refine tf (.tail .head) ?_
                    have ex0_4_0 : x0_4_0 = decV 8 (decP [] v false) false false (rMany (decV 10 (decP fs_sCreateTopicsRequestTopicConfig v false) false false) k0_4 (rArr false x0_3.2).2).2 := (hx0_4_0.trans (step_yes (by decide) (show (0 : Int) ≤ v by omega) (Or.inl (by decide)))).trans (decF'_val (by decide) (rfl))
                    refine cl rfl rfl rfl (d8f hR_0_4 ex0_4_0) rfl (fun v_ H1 L1 le_15 hR_ => ?_)
                    obtain ⟨N217, rfl, hR217, rfl, rfl⟩ := hR_
                    refine asg rfl rfl ?_
                    refine nl ?_
                    refine rg ?_
                    refine mv rfl rfl ?_
                    refine mv rfl rfl ?_
                    refine nc rfl rfl ?_
                    refine fa F236_0 rfl rfl ?_
                    refine stM (off := 0) Tryd.sizeOf9 rfl (by rw [ho0_4]) rfl rfl rfl (.tail .head) ?_
                    refine nl ?_
                    refine sq ?_
                    refine sr ?_
                    refine asg rfl rfl ?_
                    refine nl ?_
                    refine sq ?_
                    refine sr ?_
                    refine mv rfl rfl ?_
                    refine nl ?_
                    refine cdF rfl (by omega) ?_
                    refine sr ?_
                    refine mv rfl rfl ?_
                    refine nl ?_
                    refine cF rfl ?_
                    refine rg ?_
                    have ex0_4_1 : x0_4_1 = decV 8 (decP [] v false) true false x0_4_0.2 := (hx0_4_1.trans (step_yes (by decide) (show (0 : Int) ≤ v by omega) (Or.inl (by decide)))).trans (decF'_val (by decide) (by simp only [Bool.and_eq_true, decide_eq_true_eq]; exact ⟨show (0 : Int) ≤ 0 by decide, show (0 : Int) ≤ v by omega⟩))
                    refine cl rfl rfl rfl (d8fn hR217 ex0_4_1) rfl (fun v_ H1 L1 le_16 hR_ => ?_)
                    obtain ⟨N228, rfl, hR228, p0_4_1, rfl, hf0_4_1⟩ := hR_
                    refine asg rfl rfl ?_
                    refine nl ?_
                    refine rg ?_
                    refine mv rfl rfl ?_
                    refine mv rfl rfl ?_
                    refine nc rfl rfl ?_
                    refine fa F236_1 rfl rfl ?_
                    refine stM (off := 1) Tryd.sizeOf104 rfl (by rw [ho0_4]) rfl rfl rfl (.tail .head) ?_
                    refine nl ?_
                    refine sr ?_
                    refine mv rfl rfl ?_
                    refine nl ?_
                    refine cdF rfl (by omega) ?_
                    refine skN ?_
                    refine Nb ?_
                    refine Nt ?_
                    refine rg ?_
                    refine mv rfl rfl ?_
                    refine ad rfl rfl (c := ((k0_4 + 1 : Nat) : Int)) ((wrap32_le (by omega) (by omega)).trans (by omega)) rfl ?_
                    refine asg rfl rfl ?_
                    refine nN ?_
                    obtain rfl : u0_4_ = ([], x0_4_1.2) := hu0_4_
                    have hfs0_4 := flatMap_snoc' fk es0_4 ((⟨([.string ⟨x0_4_0.1.s.toArray⟩, .pointer p0_4_1, .map none] : List Value), rfl, all_one rfl⟩, ((decV 10 (decP fs_sCreateTopicsRequestTopicConfig v false) false false) (rMany (decV 10 (decP fs_sCreateTopicsRequestTopicConfig v false) false false) k0_4 (rArr false x0_3.2).2).2).1) : KE 3)
                    have hrw0_4 := hbk0_4 ([.string ⟨x0_4_0.1.s.toArray⟩, .pointer p0_4_1, .map none] : List Value) rfl
                    refine tfN (.tail .head) ?_
                    refine fun a_ w_ hA hw => ⟨hkl0_4, _, _, _, hA.sub ?_, (le_14.trans le_16), hw, _, _, _, rfl, rfl, (by rw [rMany_succ]; show RdAt _ 193 b_1 (decP fs_sCreateTopicsRequestTopicConfig v false (rMany (decV 10 (decP fs_sCreateTopicsRequestTopicConfig v false) false false) k0_4 (rArr false x0_3.2).2).2).2 _; rw [hD0_4_]; exact hR228), (by rw [← hfs0_4]; exact hrw0_4), (dec_els he_0_4), (fun p hp => (mem_snoc hp).elim (fun h => At_CreateTopicsRequestTopicConfig.mono _ _ _ _ le_16 (hg_0_4 p h)) (fun h => h ▸ (by show At_CreateTopicsRequestTopicConfig _ (decP fs_sCreateTopicsRequestTopicConfig v false (rMany (decV 10 (decP fs_sCreateTopicsRequestTopicConfig v false) false false) k0_4 (rArr false x0_3.2).2).2).1 [.string ⟨x0_4_0.1.s.toArray⟩, .pointer p0_4_1, .map none]; rw [hD0_4_]; exact ⟨p0_4_1, none, rfl, hf0_4_1, (KvAt.nil _)⟩)))⟩
                    exact (.cons rfl (.cons rfl (.cons rfl (.cons rfl (.cons rfl (.cons rfl (.cons rfl (.cons rfl (.cons rfl (.cons rfl (.cons rfl (.cons rfl (.cons rfl (.cons rfl (.nil _)))))))))))))))
                  · skip
                    have hkn_ : k0_4 = (lT x0_4.1).length := by omega
                    subst hkn_
                    have hw2_0_4 : Row 236 3 a0_4 (lT x0_4.1).length c0_4 (es0_4.flatMap fk) M0_4 := by have h := hw_0_4; rw [Nat.sub_self] at h; simpa [reps] using h
                    refine frW hw2_0_4 .head (fun Hf0_4 hlf0_4 hfz0_4 => ?_)
                    have hrs0_4 := RowsAt.row (R := At_CreateTopicsRequestTopicConfig) hfz0_4 hs_0_4.symm hw2_0_4.le.1 (fun p hp => At_CreateTopicsRequestTopicConfig.mono _ _ _ _ hlf0_4 (hg_0_4 p hp))
                    rw [he_0_4] at hrs0_4
                    have hf0_4 : ListAt Hf0_4 x0_4.1 3 At_CreateTopicsRequestTopicConfig a0_4 c0_4 := by rw [ex0_4]; exact listAt_of hrs0_4 hi0_4 (fun h => by have h1 := nul_le h; rw [show (lT x0_4.1).length = 0 by omega]; rfl)
                    have hRx0_4 : RdAt Hf0_4 193 b_1 x0_4.2 RN0_4 := by rw [ex0_4]; exact (hR_0_4.mono hlf0_4)
                    refine exX ?_
                    refine XT ?_
                    refine XT ?_
                    refine Xb ?_
                    refine Nt ?_
                    refine sr ?_
                    refine mv rfl rfl ?_
                    refine asg rfl rfl ?_
                    refine nl ?_
                    refine rg ?_
                    refine mv rfl rfl ?_
                    refine mv rfl rfl ?_
                    refine nc rfl rfl ?_
                    refine fa F176_4 rfl rfl ?_
                    refine stM (off := 4) Tryd.sizeOf174 rfl (by rw [ho0]) rfl rfl rfl (.tail .head) ?_
                    refine nl ?_
                    refine sr ?_
                    refine mv rfl rfl ?_
                    refine nl ?_
                    refine cdF rfl (by omega) ?_
                    refine skN ?_
                    refine Nb ?_
                    refine Nt ?_
                    refine rg ?_
                    refine mv rfl rfl ?_
                    refine ad rfl rfl (c := ((k0 + 1 : Nat) : Int)) ((wrap32_le (by omega) (by omega)).trans (by omega)) rfl ?_
                    refine asg rfl rfl ?_
                    refine nN ?_
                    obtain rfl : u0_ = ([], x0_4.2) := hu0_
                    have hfs0 := flatMap_snoc' fk es0 ((⟨([.string ⟨x0_0.1.s.toArray⟩, .int .i32 (IntKind.i32.wrap x0_1.1.n), .int .i16 (IntKind.i16.wrap x0_2.1.n), .slice a0_3 (lT x0_3.1).length c0_3, .slice a0_4 (lT x0_4.1).length c0_4, .map none] : List Value), rfl, all_one rfl⟩, ((decV 10 (decP fs_sCreateTopicsRequestTopic v false) false false) (rMany (decV 10 (decP fs_sCreateTopicsRequestTopic v false) false false) k0 (rArr false ⟨s, false, !a.isNone⟩).2).2).1) : KE 6)
                    have hrw0 := hbk0 ([.string ⟨x0_0.1.s.toArray⟩, .int .i32 (IntKind.i32.wrap x0_1.1.n), .int .i16 (IntKind.i16.wrap x0_2.1.n), .slice a0_3 (lT x0_3.1).length c0_3, .slice a0_4 (lT x0_4.1).length c0_4, .map none] : List Value) rfl
                    refine tfN (.tail .head) ?_
                    refine fun a_ w_ hA hw => ⟨hkl0, _, _, _, hA.sub ?_, (le_3.trans (le_7.trans (le_8.trans (hlf0_3.trans (le_13.trans (le_14.trans hlf0_4)))))), hw, _, _, _, rfl, rfl, (by rw [rMany_succ]; show RdAt _ 193 b_1 (decP fs_sCreateTopicsRequestTopic v false (rMany (decV 10 (decP fs_sCreateTopicsRequestTopic v false) false false) k0 (rArr false ⟨s, false, !a.isNone⟩).2).2).2 _; rw [hD0_]; exact hRx0_4), (by rw [← hfs0]; exact hrw0), (dec_els he_0), (fun p hp => (mem_snoc hp).elim (fun h => At_CreateTopicsRequestTopic.mono _ _ _ _ (le_7.trans (le_8.trans (hlf0_3.trans (le_13.trans (le_14.trans hlf0_4))))) (hg_0 p h)) (fun h => h ▸ (by show At_CreateTopicsRequestTopic _ (decP fs_sCreateTopicsRequestTopic v false (rMany (decV 10 (decP fs_sCreateTopicsRequestTopic v false) false false) k0 (rArr false ⟨s, false, !a.isNone⟩).2).2).1 [.string ⟨x0_0.1.s.toArray⟩, .int .i32 (IntKind.i32.wrap x0_1.1.n), .int .i16 (IntKind.i16.wrap x0_2.1.n), .slice a0_3 (lT x0_3.1).length c0_3, .slice a0_4 (lT x0_4.1).length c0_4, .map none]; rw [hD0_]; exact ⟨a0_3, c0_3, a0_4, c0_4, none, rfl, (hf0_3.mono At_CreateTopicsRequestTopicReplicaAssignment.mono (le_13.trans (le_14.trans hlf0_4))), hf0_4, (KvAt.nil _)⟩)))⟩
                    exact (.cons rfl (.cons rfl (.cons rfl (.cons rfl (.cons rfl (.cons rfl (.cons rfl (.cons rfl (.cons rfl (.nil _))))))))))
      · skip
        have hkn_ : k0 = (lT x0.1).length := by omega
        subst hkn_
        have hw2_0 : Row 176 6 a0 (lT x0.1).length c0 (es0.flatMap fk) M0 := by have h := hw_0; rw [Nat.sub_self] at h; simpa [reps] using h
        refine frW hw2_0 .head (fun Hf0 hlf0 hfz0 => ?_)
        have hrs0 := RowsAt.row (R := At_CreateTopicsRequestTopic) hfz0 hs_0.symm hw2_0.le.1 (fun p hp => At_CreateTopicsRequestTopic.mono _ _ _ _ hlf0 (hg_0 p hp))
        rw [he_0] at hrs0
        have hf0 : ListAt Hf0 x0.1 6 At_CreateTopicsRequestTopic a0 c0 := by rw [ex0]; exact listAt_of hrs0 hi0 (fun h => by have h1 := nul_le h; rw [show (lT x0.1).length = 0 by omega]; rfl)
        have hRx0 : RdAt Hf0 193 b_1 x0.2 RN0 := by rw [ex0]; exact (hR_0.mono hlf0)
        refine exX ?_
        refine XT ?_
        refine XT ?_
        refine Xb ?_
        refine Nt ?_
        refine sr ?_
        refine mv rfl rfl ?_
        refine asg rfl rfl ?_
        refine nl ?_
        refine rg ?_
        refine mv rfl rfl ?_
        refine mv rfl rfl ?_
        refine nc rfl rfl ?_
        refine fa0 F170_1 rfl rfl ?_
        refine st Tryd.sizeOf168 rfl rfl rfl rfl (.tail .head) ?_
        refine nl ?_
        refine sq ?_
        refine sr ?_
        have ex1 : x1 = decV 3 (decP [] v false) false false x0.2 := (hx1.trans (step_yes (by decide) (show (0 : Int) ≤ v by omega) (Or.inl (by decide)))).trans (decF'_val (by decide) (rfl))
        refine cl rfl rfl rfl (d3 hRx0 ex1) rfl (fun v_ H1 L1 hle_ hR_ => ?_)
        obtain ⟨N253, rfl, hR253, rfl, rfl⟩ := hR_
        refine asg rfl rfl ?_
        refine nl ?_
        refine rg ?_
        refine mv rfl rfl ?_
        refine mv rfl rfl ?_
        refine nc rfl rfl ?_
        refine fa0 F170_2 rfl rfl ?_
        refine st Tryd.sizeOf21 rfl rfl rfl rfl (.tail .head) ?_
        refine nl ?_
        refine sq ?_
        refine sr ?_
        refine mv rfl rfl ?_
        refine ge rfl rfl rfl ?_
        refine nl ?_
        refine cutT (fun l' H' L' => ∃ (Nj2 : Chunk), [(7, .pointer (some ⟨b_1, 0, none⟩)), (9, .bool (decide ((5 : Int) ≤ v))), (10, .pointer (some ⟨b, 0, none⟩))] = l' ∧ Nj2 :: [(b, .cells [.int .i16 v, .slice a0 (lT x0.1).length c0, .int .i32 (IntKind.i32.wrap x1.1.n), .bool (decide (x2.1.n % 2 = 1)), .map none].toArray 170 (0, 0))] :: L = L' ∧ RdAt H' 193 b_1 x2.2 Nj2) ?_ (fun l' H' L' le_18 hI => ?_)
        · skip
          refine cd rfl (fun h259 => ?_) (fun h259 => ?_)
          · skip
            refine sr ?_
            have ex2 : x2 = decV 0 (decP [] v false) false false x1.2 := (hx2.trans (step_yes (by decide) (show (1 : Int) ≤ v by omega) (Or.inl (by decide)))).trans (decF'_val (by decide) (rfl))
            refine cl rfl rfl rfl (d0 hR253 ex2) rfl (fun v_ H1 L1 hle_ hR_ => ?_)
            obtain ⟨N260, rfl, hR260, rfl, rfl⟩ := hR_
            refine asg rfl rfl ?_
            refine nl ?_
            refine rg ?_
            refine mv rfl rfl ?_
            refine mv rfl rfl ?_
            refine nc rfl rfl ?_
            refine fa0 F170_3 rfl rfl ?_
            refine st Tryd.sizeOf4 rfl rfl rfl rfl (.tail .head) ?_
            refine nN ?_
            refine fun a_ w_ hA hw => ⟨_, _, _, hA.sub ?_, (Fz.le.refl _), hw, N260, rfl, rfl, hR260⟩
            exact (.cons rfl (.cons rfl (.cons rfl (.nil _))))
          · skip
            refine skN ?_
            obtain rfl : x2 = ((Tr.mk 0 [] false [] []), x1.2) := (hx2.trans (step_no (Or.inl (show v < (1 : Int) by omega)))).trans (by rw [dflF_eq]; rfl)
            refine fun a_ w_ hA hw => ⟨_, _, _, hA.sub ?_, (Fz.le.refl _), hw, N253, rfl, rfl, hR253⟩
            exact (.cons rfl (.cons rfl (.cons rfl (.nil _))))
        · skip
          obtain ⟨Nj2, rfl, rfl, pj0⟩ := hI
          have hRj2 := pj0
          refine sq ?_
          refine sr ?_
          refine mv rfl rfl ?_
          refine nl ?_
          refine cdF rfl (by omega) ?_
          refine skt ?_
          refine sr ?_
          refine cl rfl rfl rfl (r_complete hRj2 (he.mono (le_2.trans (le_3.trans (hlf0.trans le_18))))) rfl (fun v_ H1 L1 hle_ hR_ => ?_)
          obtain ⟨rfl, rfl, rfl⟩ := hR_
          refine asg rfl rfl ?_
          refine nl ?_
          refine drW .head ?_
          obtain rfl : u = ([], x2.2) := hu
          have hA_ := (show At_CreateTopicsRequest v _ (decP fs_CreateTopicsRequest v false _).1 [.int .i16 v, .slice a0 (lT x0.1).length c0, .int .i32 (IntKind.i32.wrap x1.1.n), .bool (decide (x2.1.n % 2 = 1)), .map none] from (by rw [hD]; exact ⟨a0, c0, none, rfl, (hf0.mono At_CreateTopicsRequestTopic.mono le_18), (KvAt.nil _)⟩))
          refine rT rfl rfl (le_2.trans (le_3.trans (hlf0.trans le_18))) (fun _ _ h => h) ⟨_, rfl, ?_⟩
          have hz := RdEnd.of (e := e) hA_
          rw [show (decP fs_CreateTopicsRequest v false _).2.bad = x2.2.bad by rw [hD]] at hz
          exact hz
theorem rd_CreateTopicsRequest_t {H : Fz} {L : Own} {b : Nat} {v : Int} {a : Option Addr} {c : Nat} {s : List UInt8} {e : Value} (hB : BytesAt H a c s) (hL_ : s.length ≤ BR) (he : H.at 1 0 [e]) (hv0 : 5 ≤ v) (hv1 : v ≤ 7) :
    Fn Tryd.prog 157 [.pointer (some ⟨b, 0, none⟩), .slice a s.length c, .bool false] H ([(b, .cells [.int .i16 v, .slice none 0 0, .int .i32 60000, .bool false, .map none].toArray 170 (0, 0))] :: L) (fun r H' L' => ∃ cs : List Value, L' = [(b, .cells cs.toArray 170 (0, 0))] :: L ∧ RdEnd H' (At_CreateTopicsRequest v) (decP fs_CreateTopicsRequest v true ⟨s, false, !a.isNone⟩) e r cs) := by
  refine Fn.mk Tryd.call157 Tryd.func157 rfl Tryd.ntmps157 rfl ?_
  refine sr ?_
  refine asg rfl rfl ?_
  refine nl ?_
  refine sr ?_
  refine mv rfl rfl ?_
  refine cl rfl rfl rfl def0_CreateTopicsRequest rfl (fun v_ H1 L1 hle_ hR_ => ?_)
  obtain ⟨rfl, rfl⟩ := hR_
  refine nl ?_
  refine sr ?_
  refine mv rfl rfl ?_
  refine bd' S193 rfl rfl rfl ?_
  refine al Tryd.zeroValue193 rfl rfl (fun b_1 => ?_)
  refine sa Tryd.sizeOf193 rfl rfl rfl rfl rfl .head ?_
  have hR0_ : RdAt H 193 b_1 ⟨s, false, !a.isNone⟩ [(b_1, .cells [_, _].toArray 193 (0, 0))] := ⟨a, c, rfl, hB, by simp⟩
  obtain ⟨x0, hx0⟩ : ∃ x, x = stepF (Fd.mk 11 0 (-1) (-1) (-1) 0 10 fs_sCreateTopicsRequestTopic) v true ⟨s, false, !a.isNone⟩ := ⟨_, rfl⟩
  obtain ⟨x1, hx1⟩ : ∃ x, x = stepF (Fd.mk 3 0 (-1) (-1) (-1) 60000 0 []) v true x0.2 := ⟨_, rfl⟩
  obtain ⟨x2, hx2⟩ : ∃ x, x = stepF (Fd.mk 0 1 (-1) (-1) (-1) 0 0 []) v true x1.2 := ⟨_, rfl⟩
  obtain ⟨u, hu⟩ : ∃ x, x = tailU true x2.2 := ⟨_, rfl⟩
  have hD : decP fs_CreateTopicsRequest v true ⟨s, false, !a.isNone⟩ = (.mk 0 [] false [x0.1, x1.1, x2.1] u.1, u.2) := by
    generalize (⟨s, false, !a.isNone⟩ : Rd) = r_ at hx0 ⊢
    rw [decP_eq]; unfold fs_CreateTopicsRequest; simp only [decFs_cons, decFs_nil, ← hx0, ← hx1, ← hx2, ← hu]
  have hL0 : x0.2.s.length ≤ BR := by rw [hx0]; exact Nat.le_trans (stepF_shr _ _ _ _) hL_
  have hL1 : x1.2.s.length ≤ BR := by rw [hx1]; exact Nat.le_trans (stepF_shr _ _ _ _) hL0
  have hL2 : x2.2.s.length ≤ BR := by rw [hx2]; exact Nat.le_trans (stepF_shr _ _ _ _) hL1
  have hE : u.2.bad = true → (decP fs_CreateTopicsRequest v true ⟨s, false, !a.isNone⟩).2.bad = true := fun h => by rw [hD]; exact h
  have hB2 : x2.2.bad = true → (decP fs_CreateTopicsRequest v true ⟨s, false, !a.isNone⟩).2.bad = true := fun h => hE (by rw [hu]; exact tailU_bad h)
  have hB1 : x1.2.bad = true → (decP fs_CreateTopicsRequest v true ⟨s, false, !a.isNone⟩).2.bad = true := fun h => hB2 (by rw [hx2]; exact step_bad h)
  have hB0 : x0.2.bad = true → (decP fs_CreateTopicsRequest v true ⟨s, false, !a.isNone⟩).2.bad = true := fun h => hB1 (by rw [hx1]; exact step_bad h)
  refine nl ?_
  refine sr ?_
  refine mv rfl rfl ?_
  refine nc rfl rfl ?_
  refine fa0 F170_0 rfl rfl ?_
  refine ld (Says.own (.tail .head)) Tryd.isAgg45 rfl (Nat.zero_add _).symm rfl rfl ?_
  refine asg rfl rfl ?_
  refine nl ?_
  refine sr ?_
  refine mv rfl rfl ?_
  refine nl ?_
  refine sr ?_
  refine mv rfl rfl ?_
  refine ge rfl rfl rfl ?_
  refine asg rfl rfl ?_
  refine nl ?_
  refine sr ?_
  refine mv rfl rfl ?_
  refine nl ?_
  refine sr ?_
  refine mv rfl rfl ?_
  refine asg rfl rfl ?_
  refine nl ?_
  refine sq ?_
  refine sr ?_
  refine mv rfl rfl ?_
  refine nc rfl rfl ?_
  refine fa0 F170_1 rfl rfl ?_
  refine ld (Says.own (.tail .head)) Tryd.isAgg168 rfl (Nat.zero_add _).symm rfl rfl ?_
  refine asg rfl rfl ?_
  refine nl ?_
  refine sr ?_
  refine mv rfl rfl ?_
  refine asg rfl rfl ?_
  refine nl ?_
  refine sr ?_
  refine asg rfl rfl ?_
  refine nl ?_
  refine sq ?_
  refine sr ?_
  refine mv rfl rfl ?_
  refine nl ?_
  refine cdT rfl (by omega) ?_
  refine rg ?_
  have ey0 : x0 = (.mk 0 [] (if 0 ≤ ((-1) : Int) ∧ (v < ((-1) : Int) ∨ (rArr true ⟨s, false, !a.isNone⟩).1 = 0) then false else decide ((rArr true ⟨s, false, !a.isNone⟩).1 ≤ 0)) (rMany (decV 10 (decP fs_sCreateTopicsRequestTopic v true) false true) (rArr true ⟨s, false, !a.isNone⟩).1.toNat (rArr true ⟨s, false, !a.isNone⟩).2).1 [], (rMany (decV 10 (decP fs_sCreateTopicsRequestTopic v true) false true) (rArr true ⟨s, false, !a.isNone⟩).1.toNat (rArr true ⟨s, false, !a.isNone⟩).2).2) := (hx0.trans (step_yes (by decide) (show (0 : Int) ≤ v by omega) (Or.inl (by decide)))).trans (decF'_list rfl rfl)
  have hn0 : (rArr true ⟨s, false, !a.isNone⟩).1.toNat = (lT x0.1).length := by rw [ey0]; exact (lT_many nul_le).symm
  have ex0 := ey0
  rw [hn0] at ex0
  have hl0 := rArr_le true ⟨s, false, !a.isNone⟩
  have hm0 : (rArr true ⟨s, false, !a.isNone⟩).2.s.length ≤ BR := Nat.le_trans (rArr_len true ⟨s, false, !a.isNone⟩) hL_
  have hnb0 : (lT x0.1).length ≤ BR := by omega
  refine cl rfl rfl rfl (r_arrt hR0_) rfl (fun v_ H1 L1 hle_ hR_ => ?_)
  obtain ⟨rfl, N61, rfl, hR61, rfl⟩ := hR_
  have hh0 := rArr_hi true ⟨s, false, !a.isNone⟩
  refine asg rfl rfl ?_
  refine nl ?_
  refine sq ?_
  refine sr ?_
  refine cl rfl rfl rfl (r_ok hR61) rfl (fun v_ H1 L1 hle_ hR_ => ?_)
  obtain ⟨rfl, rfl, rfl⟩ := hR_
  refine nt rfl rfl ?_
  refine nl ?_
  refine cb rfl (fun h64 => ?_) (fun h64 => ?_)
  · skip
    have hbad_ : (rArr true ⟨s, false, !a.isNone⟩).2.bad = true := by simpa using h64
    refine sr ?_
    refine cl rfl rfl rfl (r_complete hR61 he) rfl (fun v_ H1 L1 hle_ hR_ => ?_)
    obtain ⟨rfl, rfl, rfl⟩ := hR_
    refine asg rfl rfl ?_
    refine nl ?_
    refine drW .head ?_
    exact rT rfl rfl (Fz.le.refl _) (fun _ _ h => h) ⟨_, rfl, RdEnd.out (hB0 (by rw [ey0]; exact rMany_bad (fun r h => decV_bad (decP_bad _ _ _) h) _ _ hbad_)) hbad_⟩
  · skip
    refine skt ?_
    refine sr ?_
    refine mv rfl rfl ?_
    refine sh' (j := 0) Tryd.runUnderlying168 Tryd.sizeOf176 rfl rfl rfl (Nat.zero_le _) rfl ?_
    refine asg rfl rfl ?_
    refine nl ?_
    refine sq ?_
    refine sr ?_
    refine mv rfl rfl ?_
    refine gt rfl rfl rfl ?_
    refine nl ?_
    refine nulC2 ?_
    refine cutT (fun l' H' L' => ∃ (a0 : Option Addr), ∃ (c0 : Nat), ∃ (Nr0 : Chunk), [(2, .bool false), (7, .pointer (some ⟨b_1, 0, none⟩)), (8, .int .i16 v), (9, .bool (decide ((5 : Int) ≤ v))), (10, .pointer (some ⟨b, 0, none⟩)), (11, .slice none 0 0), (12, .slice a0 (lT x0.1).length c0), (13, .int .i32 (rArr true ⟨s, false, !a.isNone⟩).1)] = l' ∧ Nr0 :: N61 :: [(b, .cells [.int .i16 v, .slice none 0 0, .int .i32 60000, .bool false, .map none].toArray 170 (0, 0))] :: L = L' ∧ Row 176 6 a0 (lT x0.1).length c0 (reps [.string ⟨#[]⟩, .int .i32 0, .int .i16 0, .slice none 0 0, .slice none 0 0, .map none] (lT x0.1).length) Nr0 ∧ a0.isNone = (if 0 ≤ ((-1) : Int) ∧ (v < ((-1) : Int) ∨ (rArr true ⟨s, false, !a.isNone⟩).1 = 0) then false else decide ((rArr true ⟨s, false, !a.isNone⟩).1 ≤ 0))) ?_ (fun l' H' L' le_2 hI => ?_)
    · skip
      refine cd rfl (fun h69 => ?_) (fun h69 => ?_)
      · skip
        refine rg ?_
        refine mv rfl rfl ?_
        refine mv rfl rfl ?_
        refine apz (zs := [.string ⟨#[]⟩, .int .i32 0, .int .i16 0, .slice none 0 0, .slice none 0 0, .map none]) (m := (lT x0.1).length) Tryd.underlying168 Tryd.underlying21 I176 rfl rfl rfl (by omega) (by omega) (by have h9 := hnb0; unfold BR at h9; omega) (by have h9 := hnb0; unfold BR at h9; unfold maxLen; omega) rfl (fun g72 cp72 N72 r72 => ?_)
        refine asg rfl rfl ?_
        refine nN ?_
        refine drN (.tail .head) ?_
        refine fun a_ w_ hA hw => ⟨_, _, _, hA.sub ?_, (Fz.le.refl _), hw, (some ⟨g72, 0, none⟩), cp72, N72, rfl, rfl, r72, (by rw [if_neg (by omega)]; exact (decide_eq_false (by omega)).symm)⟩
        exact (.cons rfl (.cons rfl (.cons rfl (.cons rfl (.cons rfl (.cons rfl (.cons rfl (.cons rfl (.nil _)))))))))
      · skip
        refine skN ?_
        refine fun a_ w_ hA hw => ⟨_, _, _, hA.sub ?_, (Fz.le.refl _), hw, none, 0, [], rfl, rfl, (by rw [show (lT x0.1).length = 0 by omega]; exact (Row.nil _ _)), (by rw [if_neg (by omega)]; exact (decide_eq_true (by omega)).symm)⟩
        exact (.cons rfl (.cons rfl (.cons rfl (.cons rfl (.cons rfl (.cons rfl (.cons (by rw [show (lT x0.1).length = 0 by omega]; rfl) (.cons rfl (.nil _)))))))))
    · skip
      obtain ⟨a0, c0, Nr0, rfl, rfl, pj0, pj1⟩ := hI
      have hr0 := pj0
      have hi0 := pj1
      refine sq ?_
      refine sr ?_
      refine asg rfl rfl ?_
      refine nl ?_
      refine bl (lp ((lT x0.1).length) (fun k0 l' H' L' => ∃ (es0 : List (KE 6)) (M0 RN0 : Chunk), [(2, .bool false), (7, .pointer (some ⟨b_1, 0, none⟩)), (8, .int .i16 v), (9, .bool (decide ((5 : Int) ≤ v))), (10, .pointer (some ⟨b, 0, none⟩)), (11, .slice none 0 0), (12, .slice a0 (lT x0.1).length c0), (13, .int .i32 (rArr true ⟨s, false, !a.isNone⟩).1), (14, .int .i32 (k0 : Int))] = l' ∧ M0 :: RN0 :: [(b, .cells [.int .i16 v, .slice none 0 0, .int .i32 60000, .bool false, .map none].toArray 170 (0, 0))] :: L = L' ∧ RdAt H' 193 b_1 (rMany (decV 10 (decP fs_sCreateTopicsRequestTopic v true) false true) k0 (rArr true ⟨s, false, !a.isNone⟩).2).2 RN0 ∧ Row 176 6 a0 (lT x0.1).length c0 (es0.flatMap fk ++ reps [.string ⟨#[]⟩, .int .i32 0, .int .i16 0, .slice none 0 0, .slice none 0 0, .map none] ((lT x0.1).length - k0)) M0 ∧ es0.map (·.2) = (rMany (decV 10 (decP fs_sCreateTopicsRequestTopic v true) false true) k0 (rArr true ⟨s, false, !a.isNone⟩).2).1 ∧ ∀ p ∈ es0, At_CreateTopicsRequestTopic H' p.2 (fk p)) [(2, .bool false), (7, .pointer (some ⟨b_1, 0, none⟩)), (8, .int .i16 v), (9, .bool (decide ((5 : Int) ≤ v))), (10, .pointer (some ⟨b, 0, none⟩)), (11, .slice none 0 0), (12, .slice a0 (lT x0.1).length c0), (13, .int .i32 (rArr true ⟨s, false, !a.isNone⟩).1), (14, .int .i32 (0 : Int))] (.cons rfl (.cons rfl (.cons rfl (.cons rfl (.cons rfl (.cons rfl (.cons rfl (.cons rfl (.cons rfl (.nil _)))))))))) ⟨[], Nr0, _, rfl, rfl, (hR61.mono le_2), hr0, rfl, (fun p hp => by cases hp)⟩ (fun k0 l' H' L' hk0 le_3 hI => ?_))
      obtain ⟨es0, M0, RN0, rfl, rfl, hR_0, hw_0, he_0, hg_0⟩ := hI
      have hs_0 := els_len he_0
      have hp_0 : (es0.flatMap fk).length = k0 * 6 := els_flat hs_0
      refine sq ?_
      refine sr ?_
      refine mv rfl rfl ?_
      refine mv rfl rfl ?_
      refine lt rfl rfl rfl ?_
      refine nl ?_
      refine cd rfl (fun h75 => ?_) (fun h75 => ?_)
      · skip
        have hkl0 : k0 < (lT x0.1).length := by omega
        obtain ⟨g0, po0, hga0, rfl, hbk0⟩ := hw_0.next (zs := [.string ⟨#[]⟩, .int .i32 0, .int .i16 0, .slice none 0 0, .slice none 0 0, .map none]) hkl0 rfl (by decide)
        have ho0 : 0 + k0 * 6 = (es0.flatMap fk).length := by rw [hp_0]; omega
        have hbz0 : ((decV 10 (decP fs_sCreateTopicsRequestTopic v true) false true) (rMany (decV 10 (decP fs_sCreateTopicsRequestTopic v true) false true) k0 (rArr true ⟨s, false, !a.isNone⟩).2).2).2.bad = true → (decP fs_CreateTopicsRequest v true ⟨s, false, !a.isNone⟩).2.bad = true := fun h => hB0 (by rw [ex0]; exact rMany_mono (fun r h => decV_bad (fun r h => decP_bad _ _ _ r h) h) _ (show k0 + 1 ≤ (lT x0.1).length from hkl0) (by rw [rMany_succ]; exact h))
        have hLk0 : (rMany (decV 10 (decP fs_sCreateTopicsRequestTopic v true) false true) k0 (rArr true ⟨s, false, !a.isNone⟩).2).2.s.length ≤ BR := Nat.le_trans (rMany_shr (fun r => decV_shr (fun r => decP_shr _ _ _ r) r) _ _) hm0
        have hL0__ := hLk0
        obtain ⟨x0_0, hx0_0⟩ : ∃ x, x = stepF (Fd.mk 8 0 (-1) (-1) (-1) 0 0 []) v true (rMany (decV 10 (decP fs_sCreateTopicsRequestTopic v true) false true) k0 (rArr true ⟨s, false, !a.isNone⟩).2).2 := ⟨_, rfl⟩
        obtain ⟨x0_1, hx0_1⟩ : ∃ x, x = stepF (Fd.mk 3 0 (-1) (-1) (-1) 0 0 []) v true x0_0.2 := ⟨_, rfl⟩
        obtain ⟨x0_2, hx0_2⟩ : ∃ x, x = stepF (Fd.mk 2 0 (-1) (-1) (-1) 0 0 []) v true x0_1.2 := ⟨_, rfl⟩
        obtain ⟨x0_3, hx0_3⟩ : ∃ x, x = stepF (Fd.mk 11 0 (-1) (-1) (-1) 0 10 fs_sCreateTopicsRequestTopicReplicaAssignment) v true x0_2.2 := ⟨_, rfl⟩
        obtain ⟨x0_4, hx0_4⟩ : ∃ x, x = stepF (Fd.mk 11 0 (-1) (-1) (-1) 0 10 fs_sCreateTopicsRequestTopicConfig) v true x0_3.2 := ⟨_, rfl⟩
        obtain ⟨u0_, hu0_⟩ : ∃ x, x = tailU true x0_4.2 := ⟨_, rfl⟩
        have hD0_ : decP fs_sCreateTopicsRequestTopic v true (rMany (decV 10 (decP fs_sCreateTopicsRequestTopic v true) false true) k0 (rArr true ⟨s, false, !a.isNone⟩).2).2 = (.mk 0 [] false [x0_0.1, x0_1.1, x0_2.1, x0_3.1, x0_4.1] u0_.1, u0_.2) := by
          generalize ((rMany (decV 10 (decP fs_sCreateTopicsRequestTopic v true) false true) k0 (rArr true ⟨s, false, !a.isNone⟩).2).2 : Rd) = r_ at hx0_0 ⊢
          rw [decP_eq]; unfold fs_sCreateTopicsRequestTopic; simp only [decFs_cons, decFs_nil, ← hx0_0, ← hx0_1, ← hx0_2, ← hx0_3, ← hx0_4, ← hu0_]
        have hL0_0 : x0_0.2.s.length ≤ BR := by rw [hx0_0]; exact Nat.le_trans (stepF_shr _ _ _ _) hL0__
        have hL0_1 : x0_1.2.s.length ≤ BR := by rw [hx0_1]; exact Nat.le_trans (stepF_shr _ _ _ _) hL0_0
        have hL0_2 : x0_2.2.s.length ≤ BR := by rw [hx0_2]; exact Nat.le_trans (stepF_shr _ _ _ _) hL0_1
        have hL0_3 : x0_3.2.s.length ≤ BR := by rw [hx0_3]; exact Nat.le_trans (stepF_shr _ _ _ _) hL0_2
        have hL0_4 : x0_4.2.s.length ≤ BR := by rw [hx0_4]; exact Nat.le_trans (stepF_shr _ _ _ _) hL0_3
        have hE0_ : u0_.2.bad = true → (decP fs_CreateTopicsRequest v true ⟨s, false, !a.isNone⟩).2.bad = true := fun h => hbz0 (by show (decP fs_sCreateTopicsRequestTopic v true (rMany (decV 10 (decP fs_sCreateTopicsRequestTopic v true) false true) k0 (rArr true ⟨s, false, !a.isNone⟩).2).2).2.bad = true; rw [hD0_]; exact h)
        have hB0_4 : x0_4.2.bad = true → (decP fs_CreateTopicsRequest v true ⟨s, false, !a.isNone⟩).2.bad = true := fun h => hE0_ (by rw [hu0_]; exact tailU_bad h)
        have hB0_3 : x0_3.2.bad = true → (decP fs_CreateTopicsRequest v true ⟨s, false, !a.isNone⟩).2.bad = true := fun h => hB0_4 (by rw [hx0_4]; exact step_bad h)
        have hB0_2 : x0_2.2.bad = true → (decP fs_CreateTopicsRequest v true ⟨s, false, !a.isNone⟩).2.bad = true := fun h => hB0_3 (by rw [hx0_3]; exact step_bad h)
        have hB0_1 : x0_1.2.bad = true → (decP fs_CreateTopicsRequest v true ⟨s, false, !a.isNone⟩).2.bad = true := fun h => hB0_2 (by rw [hx0_2]; exact step_bad h)
        have hB0_0 : x0_0.2.bad = true → (decP fs_CreateTopicsRequest v true ⟨s, false, !a.isNone⟩).2.bad = true := fun h => hB0_1 (by rw [hx0_1]; exact step_bad h)
        refine skt ?_
        refine sq ?_
        refine bl ?_
        refine sr ?_
        refine mv rfl rfl ?_
        refine mv rfl rfl ?_
        refine ixk (j := k0) Tryd.runUnderlying168 Tryd.sizeOf176 rfl hga0 rfl rfl hkl0 rfl ?_
        refine asg rfl rfl ?_
        refine nl ?_
        refine sr ?_
        refine mv rfl rfl ?_
        refine cl rfl rfl rfl (def_CreateTopicsRequestTopic ho0) rfl (fun v_ H1 L1 hle_ hR_ => ?_)
        obtain ⟨rfl, rfl⟩ := hR_
        refine nl ?_
        refine sr ?_
        refine mv rfl rfl ?_
        refine asg rfl rfl ?_
        refine nl ?_
        refine sq ?_
        refine sr ?_
        refine asg rfl rfl ?_
        refine nl ?_
        refine sq ?_
        refine sr ?_
        refine mv rfl rfl ?_
        refine nl ?_
        refine cF rfl ?_
        refine sr ?_
        refine mv rfl rfl ?_
        refine nl ?_
        refine cdT rfl (by omega) ?_
        refine rg ?_
        refine tf (.tail .head) ?_
        have ex0_0 : x0_0 = decV 8 (decP [] v true) false true (rMany (decV 10 (decP fs_sCreateTopicsRequestTopic v true) false true) k0 (rArr true ⟨s, false, !a.isNone⟩).2).2 := (hx0_0.trans (step_yes (by decide) (show (0 : Int) ≤ v by omega) (Or.inl (by decide)))).trans (decF'_val (by decide) (rfl))
        refine cl rfl rfl rfl (d8t hR_0 ex0_0) rfl (fun v_ H1 L1 le_4 hR_ => ?_)
        obtain ⟨N89, rfl, hR89, rfl, rfl⟩ := hR_
        refine asg rfl rfl ?_
        refine nl ?_
        refine rg ?_
        refine mv rfl rfl ?_
        refine mv rfl rfl ?_
        refine nc rfl rfl ?_
        refine fa F176_0 rfl rfl ?_
        refine stM (off := 0) Tryd.sizeOf9 rfl (by rw [ho0]) rfl rfl rfl (.tail .head) ?_
        refine nl ?_
        refine sq ?_
        refine sr ?_
        have ex0_1 : x0_1 = decV 3 (decP [] v true) false true x0_0.2 := (hx0_1.trans (step_yes (by decide) (show (0 : Int) ≤ v by omega) (Or.inl (by decide)))).trans (decF'_val (by decide) (rfl))
        refine cl rfl rfl rfl (d3 hR89 ex0_1) rfl (fun v_ H1 L1 hle_ hR_ => ?_)
        obtain ⟨N95, rfl, hR95, rfl, rfl⟩ := hR_
        refine asg rfl rfl ?_
        refine nl ?_
        refine rg ?_
        refine mv rfl rfl ?_
        refine mv rfl rfl ?_
        refine nc rfl rfl ?_
        refine fa F176_1 rfl rfl ?_
        refine stM (off := 1) Tryd.sizeOf21 rfl (by rw [ho0]) rfl rfl rfl (.tail .head) ?_
        refine nl ?_
        refine sq ?_
        refine sr ?_
        have ex0_2 : x0_2 = decV 2 (decP [] v true) false true x0_1.2 := (hx0_2.trans (step_yes (by decide) (show (0 : Int) ≤ v by omega) (Or.inl (by decide)))).trans (decF'_val (by decide) (rfl))
        refine cl rfl rfl rfl (d2 hR95 ex0_2) rfl (fun v_ H1 L1 hle_ hR_ => ?_)
        obtain ⟨N100, rfl, hR100, rfl, rfl⟩ := hR_
        refine asg rfl rfl ?_
        refine nl ?_
        refine rg ?_
        refine mv rfl rfl ?_
        refine mv rfl rfl ?_
        refine nc rfl rfl ?_
        refine fa F176_2 rfl rfl ?_
        refine stM (off := 2) Tryd.sizeOf45 rfl (by rw [ho0]) rfl rfl rfl (.tail .head) ?_
        refine nl ?_
        refine sq ?_
        refine sr ?_
        refine mv rfl rfl ?_
        refine nc rfl rfl ?_
        refine fa F176_3 rfl rfl ?_
        refine ld (j := 3) (off := 0 + k0 * 6) (Says.mid (.tail .head) ho0) Tryd.isAgg173 rfl rfl rfl rfl ?_
        refine asg rfl rfl ?_
        refine nl ?_
        refine sr ?_
        refine mv rfl rfl ?_
        refine asg rfl rfl ?_
        refine nl ?_
        refine sr ?_
        refine asg rfl rfl ?_
        refine nl ?_
        refine sq ?_
        refine sr ?_
        refine mv rfl rfl ?_
        refine nl ?_
        refine cdT rfl (by omega) ?_
        refine rg ?_
        have ey0_3 : x0_3 = (.mk 0 [] (if 0 ≤ ((-1) : Int) ∧ (v < ((-1) : Int) ∨ (rArr true x0_2.2).1 = 0) then false else decide ((rArr true x0_2.2).1 ≤ 0)) (rMany (decV 10 (decP fs_sCreateTopicsRequestTopicReplicaAssignment v true) false true) (rArr true x0_2.2).1.toNat (rArr true x0_2.2).2).1 [], (rMany (decV 10 (decP fs_sCreateTopicsRequestTopicReplicaAssignment v true) false true) (rArr true x0_2.2).1.toNat (rArr true x0_2.2).2).2) := (hx0_3.trans (step_yes (by decide) (show (0 : Int) ≤ v by omega) (Or.inl (by decide)))).trans (decF'_list rfl rfl)
        have hn0_3 : (rArr true x0_2.2).1.toNat = (lT x0_3.1).length := by rw [ey0_3]; exact (lT_many nul_le).symm
        have ex0_3 := ey0_3
        rw [hn0_3] at ex0_3
        have hl0_3 := rArr_le true x0_2.2
        have hm0_3 : (rArr true x0_2.2).2.s.length ≤ BR := Nat.le_trans (rArr_len true x0_2.2) hL0_2
        have hnb0_3 : (lT x0_3.1).length ≤ BR := by omega
        refine cl rfl rfl rfl (r_arrt hR100) rfl (fun v_ H1 L1 hle_ hR_ => ?_)
        obtain ⟨rfl, N111, rfl, hR111, rfl⟩ := hR_
        have hh0_3 := rArr_hi true x0_2.2
        refine asg rfl rfl ?_
        refine nl ?_
        refine sq ?_
        refine sr ?_
        refine cl rfl rfl rfl (r_ok hR111) rfl (fun v_ H1 L1 hle_ hR_ => ?_)
        obtain ⟨rfl, rfl, rfl⟩ := hR_
        refine nt rfl rfl ?_
        refine nl ?_
        refine cb rfl (fun h114 => ?_) (fun h114 => ?_)
        · skip
          have hbad_ : (rArr true x0_2.2).2.bad = true := by simpa using h114
          refine sr ?_
          refine cl rfl rfl rfl (r_complete hR111 (he.mono (le_2.trans le_3))) rfl (fun v_ H1 L1 hle_ hR_ => ?_)
          obtain ⟨rfl, rfl, rfl⟩ := hR_
          refine asg rfl rfl ?_
          refine nl ?_
          refine drW .head ?_
          refine drW .head ?_
          exact rT rfl rfl (le_2.trans le_3) (fun _ _ h => h) ⟨_, rfl, RdEnd.out (hB0_3 (by rw [ey0_3]; exact rMany_bad (fun r h => decV_bad (decP_bad _ _ _) h) _ _ hbad_)) hbad_⟩
        · skip
          refine skt ?_
          refine sr ?_
          refine mv rfl rfl ?_
          refine sh' (j := 0) Tryd.runUnderlying173 Tryd.sizeOf233 rfl rfl rfl (Nat.zero_le _) rfl ?_
          refine asg rfl rfl ?_
          refine nl ?_
          refine sq ?_
          refine sr ?_
          refine mv rfl rfl ?_
          refine gt rfl rfl rfl ?_
          refine nl ?_
          refine nulC2 ?_
          refine cutT (fun l' H' L' => ∃ (a0_3 : Option Addr), ∃ (c0_3 : Nat), ∃ (Nr0_3 : Chunk), [(2, .bool false), (7, .pointer (some ⟨b_1, 0, none⟩)), (8, .int .i16 v), (9, .bool (decide ((5 : Int) ≤ v))), (10, .pointer (some ⟨b, 0, none⟩)), (11, .slice none 0 0), (12, .slice a0 (lT x0.1).length c0), (13, .int .i32 (rArr true ⟨s, false, !a.isNone⟩).1), (14, .int .i32 (k0 : Int)), (16, .pointer (some ⟨g0, 0 + k0 * 6, none⟩)), (20, .slice none 0 0), (21, .slice a0_3 (lT x0_3.1).length c0_3), (22, .int .i32 (rArr true x0_2.2).1)] = l' ∧ Nr0_3 :: N111 :: [(g0, .cells ((es0.flatMap fk) ++ ([.string ⟨x0_0.1.s.toArray⟩, .int .i32 (IntKind.i32.wrap x0_1.1.n), .int .i16 (IntKind.i16.wrap x0_2.1.n), .slice none 0 0, .slice none 0 0, .map none] : List Value) ++ po0).toArray 176 (0, 0))] :: [(b, .cells [.int .i16 v, .slice none 0 0, .int .i32 60000, .bool false, .map none].toArray 170 (0, 0))] :: L = L' ∧ Row 233 3 a0_3 (lT x0_3.1).length c0_3 (reps [.int .i32 0, .slice none 0 0, .map none] (lT x0_3.1).length) Nr0_3 ∧ a0_3.isNone = (if 0 ≤ ((-1) : Int) ∧ (v < ((-1) : Int) ∨ (rArr true x0_2.2).1 = 0) then false else decide ((rArr true x0_2.2).1 ≤ 0))) ?_ (fun l' H' L' le_7 hI => ?_)
          · skip
            refine cd rfl (fun h119 => ?_) (fun h119 => ?_)
            · skip
              refine rg ?_
              refine mv rfl rfl ?_
              refine mv rfl rfl ?_
              refine apz (zs := [.int .i32 0, .slice none 0 0, .map none]) (m := (lT x0_3.1).length) Tryd.underlying173 Tryd.underlying21 I233 rfl rfl rfl (by omega) (by omega) (by have h9 := hnb0_3; unfold BR at h9; omega) (by have h9 := hnb0_3; unfold BR at h9; unfold maxLen; omega) rfl (fun g122 cp122 N122 r122 => ?_)
              refine asg rfl rfl ?_
              refine nN ?_
              refine drN (.tail .head) ?_
              refine fun a_ w_ hA hw => ⟨_, _, _, hA.sub ?_, (Fz.le.refl _), hw, (some ⟨g122, 0, none⟩), cp122, N122, rfl, rfl, r122, (by rw [if_neg (by omega)]; exact (decide_eq_false (by omega)).symm)⟩
              exact (.cons rfl (.cons rfl (.cons rfl (.cons rfl (.cons rfl (.cons rfl (.cons rfl (.cons rfl (.cons rfl (.cons rfl (.cons rfl (.cons rfl (.cons rfl (.nil _))))))))))))))
            · skip
              refine skN ?_
              refine fun a_ w_ hA hw => ⟨_, _, _, hA.sub ?_, (Fz.le.refl _), hw, none, 0, [], rfl, rfl, (by rw [show (lT x0_3.1).length = 0 by omega]; exact (Row.nil _ _)), (by rw [if_neg (by omega)]; exact (decide_eq_true (by omega)).symm)⟩
              exact (.cons rfl (.cons rfl (.cons rfl (.cons rfl (.cons rfl (.cons rfl (.cons rfl (.cons rfl (.cons rfl (.cons rfl (.cons rfl (.cons (by rw [show (lT x0_3.1).length = 0 by omega]; rfl) (.cons rfl (.nil _))))))))))))))
          · skip
            obtain ⟨a0_3, c0_3, Nr0_3, rfl, rfl, pj0, pj1⟩ := hI
            have hr0_3 := pj0
            have hi0_3 := pj1
            refine sq ?_
            refine sr ?_
            refine asg rfl rfl ?_
            refine nl ?_
            refine bl (lp ((lT x0_3.1).length) (fun k0_3 l' H' L' => ∃ (es0_3 : List (KE 3)) (M0_3 RN0_3 : Chunk), [(2, .bool false), (7, .pointer (some ⟨b_1, 0, none⟩)), (8, .int .i16 v), (9, .bool (decide ((5 : Int) ≤ v))), (10, .pointer (some ⟨b, 0, none⟩)), (11, .slice none 0 0), (12, .slice a0 (lT x0.1).length c0), (13, .int .i32 (rArr true ⟨s, false, !a.isNone⟩).1), (14, .int .i32 (k0 : Int)), (16, .pointer (some ⟨g0, 0 + k0 * 6, none⟩)), (20, .slice none 0 0), (21, .slice a0_3 (lT x0_3.1).length c0_3), (22, .int .i32 (rArr true x0_2.2).1), (23, .int .i32 (k0_3 : Int))] = l' ∧ M0_3 :: RN0_3 :: [(g0, .cells ((es0.flatMap fk) ++ ([.string ⟨x0_0.1.s.toArray⟩, .int .i32 (IntKind.i32.wrap x0_1.1.n), .int .i16 (IntKind.i16.wrap x0_2.1.n), .slice none 0 0, .slice none 0 0, .map none] : List Value) ++ po0).toArray 176 (0, 0))] :: [(b, .cells [.int .i16 v, .slice none 0 0, .int .i32 60000, .bool false, .map none].toArray 170 (0, 0))] :: L = L' ∧ RdAt H' 193 b_1 (rMany (decV 10 (decP fs_sCreateTopicsRequestTopicReplicaAssignment v true) false true) k0_3 (rArr true x0_2.2).2).2 RN0_3 ∧ Row 233 3 a0_3 (lT x0_3.1).length c0_3 (es0_3.flatMap fk ++ reps [.int .i32 0, .slice none 0 0, .map none] ((lT x0_3.1).length - k0_3)) M0_3 ∧ es0_3.map (·.2) = (rMany (decV 10 (decP fs_sCreateTopicsRequestTopicReplicaAssignment v true) false true) k0_3 (rArr true x0_2.2).2).1 ∧ ∀ p ∈ es0_3, At_CreateTopicsRequestTopicReplicaAssignment H' p.2 (fk p)) [(2, .bool false), (7, .pointer (some ⟨b_1, 0, none⟩)), (8, .int .i16 v), (9, .bool (decide ((5 : Int) ≤ v))), (10, .pointer (some ⟨b, 0, none⟩)), (11, .slice none 0 0), (12, .slice a0 (lT x0.1).length c0), (13, .int .i32 (rArr true ⟨s, false, !a.isNone⟩).1), (14, .int .i32 (k0 : Int)), (16, .pointer (some ⟨g0, 0 + k0 * 6, none⟩)), (20, .slice none 0 0), (21, .slice a0_3 (lT x0_3.1).length c0_3), (22, .int .i32 (rArr true x0_2.2).1), (23, .int .i32 (0 : Int))] (.cons rfl (.cons rfl (.cons rfl (.cons rfl (.cons rfl (.cons rfl (.cons rfl (.cons rfl (.cons rfl (.cons rfl (.cons rfl (.cons rfl (.cons rfl (.cons rfl (.nil _))))))))))))))) ⟨[], Nr0_3, _, rfl, rfl, (hR111.mono le_7), hr0_3, rfl, (fun p hp => by cases hp)⟩ (fun k0_3 l' H' L' hk0_3 le_8 hI => ?_))
            obtain ⟨es0_3, M0_3, RN0_3, rfl, rfl, hR_0_3, hw_0_3, he_0_3, hg_0_3⟩ := hI
            have hs_0_3 := els_len he_0_3
            have hp_0_3 : (es0_3.flatMap fk).length = k0_3 * 3 := els_flat hs_0_3
            refine sq ?_
            refine sr ?_
            refine mv rfl rfl ?_
            refine mv rfl rfl ?_
            refine lt rfl rfl rfl ?_
            refine nl ?_
            refine cd rfl (fun h125 => ?_) (fun h125 => ?_)
            · skip
              have hkl0_3 : k0_3 < (lT x0_3.1).length := by omega
              obtain ⟨g0_3, po0_3, hga0_3, rfl, hbk0_3⟩ := hw_0_3.next (zs := [.int .i32 0, .slice none 0 0, .map none]) hkl0_3 rfl (by decide)
              have ho0_3 : 0 + k0_3 * 3 = (es0_3.flatMap fk).length := by rw [hp_0_3]; omega
              have hbz0_3 : ((decV 10 (decP fs_sCreateTopicsRequestTopicReplicaAssignment v true) false true) (rMany (decV 10 (decP fs_sCreateTopicsRequestTopicReplicaAssignment v true) false true) k0_3 (rArr true x0_2.2).2).2).2.bad = true → (decP fs_CreateTopicsRequest v true ⟨s, false, !a.isNone⟩).2.bad = true := fun h => hB0_3 (by rw [ex0_3]; exact rMany_mono (fun r h => decV_bad (fun r h => decP_bad _ _ _ r h) h) _ (show k0_3 + 1 ≤ (lT x0_3.1).length from hkl0_3) (by rw [rMany_succ]; exact h))
              have hLk0_3 : (rMany (decV 10 (decP fs_sCreateTopicsRequestTopicReplicaAssignment v true) false true) k0_3 (rArr true x0_2.2).2).2.s.length ≤ BR := Nat.le_trans (rMany_shr (fun r => decV_shr (fun r => decP_shr _ _ _ r) r) _ _) hm0_3
              have hL0_3__ := hLk0_3
              obtain ⟨x0_3_0, hx0_3_0⟩ : ∃ x, x = stepF (Fd.mk 3 0 (-1) (-1) (-1) 0 0 []) v true (rMany (decV 10 (decP fs_sCreateTopicsRequestTopicReplicaAssignment v true) false true) k0_3 (rArr true x0_2.2).2).2 := ⟨_, rfl⟩
              obtain ⟨x0_3_1, hx0_3_1⟩ : ∃ x, x = stepF (Fd.mk 11 0 (-1) (-1) (-1) 0 3 []) v true x0_3_0.2 := ⟨_, rfl⟩
              obtain ⟨u0_3_, hu0_3_⟩ : ∃ x, x = tailU true x0_3_1.2 := ⟨_, rfl⟩
              have hD0_3_ : decP fs_sCreateTopicsRequestTopicReplicaAssignment v true (rMany (decV 10 (decP fs_sCreateTopicsRequestTopicReplicaAssignment v true) false true) k0_3 (rArr true x0_2.2).2).2 = (.mk 0 [] false [x0_3_0.1, x0_3_1.1] u0_3_.1, u0_3_.2) := by
                generalize ((rMany (decV 10 (decP fs_sCreateTopicsRequestTopicReplicaAssignment v true) false true) k0_3 (rArr true x0_2.2).2).2 : Rd) = r_ at hx0_3_0 ⊢
                rw [decP_eq]; unfold fs_sCreateTopicsRequestTopicReplicaAssignment; simp only [decFs_cons, decFs_nil, ← hx0_3_0, ← hx0_3_1, ← hu0_3_]
              have hL0_3_0 : x0_3_0.2.s.length ≤ BR := by rw [hx0_3_0]; exact Nat.le_trans (stepF_shr _ _ _ _) hL0_3__
              have hL0_3_1 : x0_3_1.2.s.length ≤ BR := by rw [hx0_3_1]; exact Nat.le_trans (stepF_shr _ _ _ _) hL0_3_0
              have hE0_3_ : u0_3_.2.bad = true → (decP fs_CreateTopicsRequest v true ⟨s, false, !a.isNone⟩).2.bad = true := fun h => hbz0_3 (by show (decP fs_sCreateTopicsRequestTopicReplicaAssignment v true (rMany (decV 10 (decP fs_sCreateTopicsRequestTopicReplicaAssignment v true) false true) k0_3 (rArr true x0_2.2).2).2).2.bad = true; rw [hD0_3_]; exact h)
              have hB0_3_1 : x0_3_1.2.bad = true → (decP fs_CreateTopicsRequest v true ⟨s, false, !a.isNone⟩).2.bad = true := fun h => hE0_3_ (by rw [hu0_3_]; exact tailU_bad h)
              have hB0_3_0 : x0_3_0.2.bad = true → (decP fs_CreateTopicsRequest v true ⟨s, false, !a.isNone⟩).2.bad = true := fun h => hB0_3_1 (by rw [hx0_3_1]; exact step_bad h)
              refine skt ?_
              refine sq ?_
              refine bl ?_
              refine sr ?_
              refine mv rfl rfl ?_
              refine mv rfl rfl ?_
              refine ixk (j := k0_3) Tryd.runUnderlying173 Tryd.sizeOf233 rfl hga0_3 rfl rfl hkl0_3 rfl ?_
              refine asg rfl rfl ?_
              refine nl ?_
              refine sr ?_
              refine mv rfl rfl ?_
              refine cl rfl rfl rfl (def_CreateTopicsRequestTopicReplicaAssignment ho0_3) rfl (fun v_ H1 L1 hle_ hR_ => ?_)
              obtain ⟨rfl, rfl⟩ := hR_
              refine nl ?_
              refine sr ?_
              refine mv rfl rfl ?_
              refine asg rfl rfl ?_
              refine nl ?_
              refine sq ?_
              refine sr ?_
              refine tf (.tail .head) ?_
              have ex0_3_0 : x0_3_0 = decV 3 (decP [] v true) false true (rMany (decV 10 (decP fs_sCreateTopicsRequestTopicReplicaAssignment v true) false true) k0_3 (rArr true x0_2.2).2).2 := (hx0_3_0.trans (step_yes (by decide) (show (0 : Int) ≤ v by omega) (Or.inl (by decide)))).trans (decF'_val (by decide) (rfl))
              refine cl rfl rfl rfl (d3 hR_0_3 ex0_3_0) rfl (fun v_ H1 L1 hle_ hR_ => ?_)
              obtain ⟨N134, rfl, hR134, rfl, rfl⟩ := hR_
              refine asg rfl rfl ?_
              refine nl ?_
              refine rg ?_
              refine mv rfl rfl ?_
              refine mv rfl rfl ?_
              refine nc rfl rfl ?_
              refine fa F233_0 rfl rfl ?_
              refine stM (off := 0) Tryd.sizeOf21 rfl (by rw [ho0_3]) rfl rfl rfl (.tail .head) ?_
              refine nl ?_
              refine sq ?_
              refine sr ?_
              refine mv rfl rfl ?_
              refine nc rfl rfl ?_
              refine fa F233_1 rfl rfl ?_
              refine ld (j := 1) (off := 0 + k0_3 * 3) (Says.mid (.tail .head) ho0_3) Tryd.isAgg189 rfl rfl rfl rfl ?_
              refine asg rfl rfl ?_
              refine nl ?_
              refine sr ?_
              refine mv rfl rfl ?_
              refine asg rfl rfl ?_
              refine nl ?_
              refine sr ?_
              refine asg rfl rfl ?_
              refine nl ?_
              refine sq ?_
              refine sr ?_
              refine mv rfl rfl ?_
              refine nl ?_
              refine cdT rfl (by omega) ?_
              refine rg ?_
              have ey0_3_1 : x0_3_1 = (.mk 0 [] (if 0 ≤ ((-1) : Int) ∧ (v < ((-1) : Int) ∨ (rArr true x0_3_0.2).1 = 0) then false else decide ((rArr true x0_3_0.2).1 ≤ 0)) (rMany (decV 3 (decP [] v true) false true) (rArr true x0_3_0.2).1.toNat (rArr true x0_3_0.2).2).1 [], (rMany (decV 3 (decP [] v true) false true) (rArr true x0_3_0.2).1.toNat (rArr true x0_3_0.2).2).2) := (hx0_3_1.trans (step_yes (by decide) (show (0 : Int) ≤ v by omega) (Or.inl (by decide)))).trans (decF'_list rfl rfl)
              have hn0_3_1 : (rArr true x0_3_0.2).1.toNat = (lT x0_3_1.1).length := by rw [ey0_3_1]; exact (lT_many nul_le).symm
              have ex0_3_1 := ey0_3_1
              rw [hn0_3_1] at ex0_3_1
              have hl0_3_1 := rArr_le true x0_3_0.2
              have hm0_3_1 : (rArr true x0_3_0.2).2.s.length ≤ BR := Nat.le_trans (rArr_len true x0_3_0.2) hL0_3_0
              have hnb0_3_1 : (lT x0_3_1.1).length ≤ BR := by omega
              refine cl rfl rfl rfl (r_arrt hR134) rfl (fun v_ H1 L1 hle_ hR_ => ?_)
              obtain ⟨rfl, N145, rfl, hR145, rfl⟩ := hR_
              have hh0_3_1 := rArr_hi true x0_3_0.2
              refine asg rfl rfl ?_
              refine nl ?_
              refine sq ?_
              refine sr ?_
              refine cl rfl rfl rfl (r_ok hR145) rfl (fun v_ H1 L1 hle_ hR_ => ?_)
              obtain ⟨rfl, rfl, rfl⟩ := hR_
              refine nt rfl rfl ?_
              refine nl ?_
              refine cb rfl (fun h148 => ?_) (fun h148 => ?_)
              · skip
                have hbad_ : (rArr true x0_3_0.2).2.bad = true := by simpa using h148
                refine sr ?_
                refine cl rfl rfl rfl (r_complete hR145 (he.mono (le_2.trans (le_3.trans (le_7.trans le_8))))) rfl (fun v_ H1 L1 hle_ hR_ => ?_)
                obtain ⟨rfl, rfl, rfl⟩ := hR_
                refine asg rfl rfl ?_
                refine nl ?_
                refine drW .head ?_
                refine drW .head ?_
                refine drW .head ?_
                exact rT rfl rfl (le_2.trans (le_3.trans (le_7.trans le_8))) (fun _ _ h => h) ⟨_, rfl, RdEnd.out (hB0_3_1 (by rw [ey0_3_1]; exact rMany_bad (fun r h => decV_bad (decP_bad _ _ _) h) _ _ hbad_)) hbad_⟩
              · skip
                refine skt ?_
                refine sr ?_
                refine mv rfl rfl ?_
                refine sh' (j := 0) Tryd.runUnderlying189 Tryd.sizeOf21 rfl rfl rfl (Nat.zero_le _) rfl ?_
                refine asg rfl rfl ?_
                refine nl ?_
                refine sq ?_
                refine sr ?_
                refine mv rfl rfl ?_
                refine gt rfl rfl rfl ?_
                refine nl ?_
                refine nulC2 ?_
                refine cutT (fun l' H' L' => ∃ (a0_3_1 : Option Addr), ∃ (c0_3_1 : Nat), ∃ (Nr0_3_1 : Chunk), [(2, .bool false), (7, .pointer (some ⟨b_1, 0, none⟩)), (8, .int .i16 v), (9, .bool (decide ((5 : Int) ≤ v))), (10, .pointer (some ⟨b, 0, none⟩)), (11, .slice none 0 0), (12, .slice a0 (lT x0.1).length c0), (13, .int .i32 (rArr true ⟨s, false, !a.isNone⟩).1), (14, .int .i32 (k0 : Int)), (16, .pointer (some ⟨g0, 0 + k0 * 6, none⟩)), (20, .slice none 0 0), (21, .slice a0_3 (lT x0_3.1).length c0_3), (22, .int .i32 (rArr true x0_2.2).1), (23, .int .i32 (k0_3 : Int)), (25, .pointer (some ⟨g0_3, 0 + k0_3 * 3, none⟩)), (27, .slice none 0 0), (28, .slice a0_3_1 (lT x0_3_1.1).length c0_3_1), (29, .int .i32 (rArr true x0_3_0.2).1)] = l' ∧ Nr0_3_1 :: N145 :: [(g0_3, .cells ((es0_3.flatMap fk) ++ ([.int .i32 (IntKind.i32.wrap x0_3_0.1.n), .slice none 0 0, .map none] : List Value) ++ po0_3).toArray 233 (0, 0))] :: [(g0, .cells ((es0.flatMap fk) ++ ([.string ⟨x0_0.1.s.toArray⟩, .int .i32 (IntKind.i32.wrap x0_1.1.n), .int .i16 (IntKind.i16.wrap x0_2.1.n), .slice none 0 0, .slice none 0 0, .map none] : List Value) ++ po0).toArray 176 (0, 0))] :: [(b, .cells [.int .i16 v, .slice none 0 0, .int .i32 60000, .bool false, .map none].toArray 170 (0, 0))] :: L = L' ∧ Row 21 1 a0_3_1 (lT x0_3_1.1).length c0_3_1 (reps [.int .i32 0] (lT x0_3_1.1).length) Nr0_3_1 ∧ a0_3_1.isNone = (if 0 ≤ ((-1) : Int) ∧ (v < ((-1) : Int) ∨ (rArr true x0_3_0.2).1 = 0) then false else decide ((rArr true x0_3_0.2).1 ≤ 0))) ?_ (fun l' H' L' le_10 hI => ?_)
                · skip
                  refine cd rfl (fun h153 => ?_) (fun h153 => ?_)
                  · skip
                    refine rg ?_
                    refine mv rfl rfl ?_
                    refine mv rfl rfl ?_
                    refine apz (zs := [.int .i32 0]) (m := (lT x0_3_1.1).length) Tryd.underlying189 Tryd.underlying21 I21 rfl rfl rfl (by omega) (by omega) (by have h9 := hnb0_3_1; unfold BR at h9; omega) (by have h9 := hnb0_3_1; unfold BR at h9; unfold maxLen; omega) rfl (fun g156 cp156 N156 r156 => ?_)
                    refine asg rfl rfl ?_
                    refine nN ?_
                    refine drN (.tail .head) ?_
                    refine fun a_ w_ hA hw => ⟨_, _, _, hA.sub ?_, (Fz.le.refl _), hw, (some ⟨g156, 0, none⟩), cp156, N156, rfl, rfl, r156, (by rw [if_neg (by omega)]; exact (decide_eq_false (by omega)).symm)⟩
                    exact (.cons rfl (.cons rfl (.cons rfl (.cons rfl (.cons rfl (.cons rfl (.cons rfl (.cons rfl (.cons rfl (.cons rfl (.cons rfl (.cons rfl (.cons rfl (.cons rfl (.cons rfl (.cons rfl (.cons rfl (.cons rfl (.nil _)))))))))))))))))))
                  · skip
                    refine skN ?_
                    refine fun a_ w_ hA hw => ⟨_, _, _, hA.sub ?_, (Fz.le.refl _), hw, none, 0, [], rfl, rfl, (by rw [show (lT x0_3_1.1).length = 0 by omega]; exact (Row.nil _ _)), (by rw [if_neg (by omega)]; exact (decide_eq_true (by omega)).symm)⟩
                    exact (.cons rfl (.cons rfl (.cons rfl (.cons rfl (.cons rfl (.cons rfl (.cons rfl (.cons rfl (.cons rfl (.cons rfl (.cons rfl (.cons rfl (.cons rfl (.cons rfl (.cons rfl (.cons rfl (.cons (by rw [show (lT x0_3_1.1).length = 0 by omega]; rfl) (.cons rfl (.nil _)))))))))))))))))))
                · skip
                  obtain ⟨a0_3_1, c0_3_1, Nr0_3_1, rfl, rfl, pj0, pj1⟩ := hI
                  have hr0_3_1 := pj0
                  have hi0_3_1 := pj1
                  refine sq ?_
                  refine sr ?_
                  refine asg rfl rfl ?_
                  refine nl ?_
                  refine bl (lp ((lT x0_3_1.1).length) (fun k0_3_1 l' H' L' => ∃ (es0_3_1 : List (KE 1)) (M0_3_1 RN0_3_1 : Chunk), [(2, .bool false), (7, .pointer (some ⟨b_1, 0, none⟩)), (8, .int .i16 v), (9, .bool (decide ((5 : Int) ≤ v))), (10, .pointer (some ⟨b, 0, none⟩)), (11, .slice none 0 0), (12, .slice a0 (lT x0.1).length c0), (13, .int .i32 (rArr true ⟨s, false, !a.isNone⟩).1), (14, .int .i32 (k0 : Int)), (16, .pointer (some ⟨g0, 0 + k0 * 6, none⟩)), (20, .slice none 0 0), (21, .slice a0_3 (lT x0_3.1).length c0_3), (22, .int .i32 (rArr true x0_2.2).1), (23, .int .i32 (k0_3 : Int)), (25, .pointer (some ⟨g0_3, 0 + k0_3 * 3, none⟩)), (27, .slice none 0 0), (28, .slice a0_3_1 (lT x0_3_1.1).length c0_3_1), (29, .int .i32 (rArr true x0_3_0.2).1), (30, .int .i32 (k0_3_1 : Int))] = l' ∧ M0_3_1 :: RN0_3_1 :: [(g0_3, .cells ((es0_3.flatMap fk) ++ ([.int .i32 (IntKind.i32.wrap x0_3_0.1.n), .slice none 0 0, .map none] : List Value) ++ po0_3).toArray 233 (0, 0))] :: [(g0, .cells ((es0.flatMap fk) ++ ([.string ⟨x0_0.1.s.toArray⟩, .int .i32 (IntKind.i32.wrap x0_1.1.n), .int .i16 (IntKind.i16.wrap x0_2.1.n), .slice none 0 0, .slice none 0 0, .map none] : List Value) ++ po0).toArray 176 (0, 0))] :: [(b, .cells [.int .i16 v, .slice none 0 0, .int .i32 60000, .bool false, .map none].toArray 170 (0, 0))] :: L = L' ∧ RdAt H' 193 b_1 (rMany (decV 3 (decP [] v true) false true) k0_3_1 (rArr true x0_3_0.2).2).2 RN0_3_1 ∧ Row 21 1 a0_3_1 (lT x0_3_1.1).length c0_3_1 (es0_3_1.flatMap fk ++ reps [.int .i32 0] ((lT x0_3_1.1).length - k0_3_1)) M0_3_1 ∧ es0_3_1.map (·.2) = (rMany (decV 3 (decP [] v true) false true) k0_3_1 (rArr true x0_3_0.2).2).1 ∧ ∀ p ∈ es0_3_1, RI32 H' p.2 (fk p)) [(2, .bool false), (7, .pointer (some ⟨b_1, 0, none⟩)), (8, .int .i16 v), (9, .bool (decide ((5 : Int) ≤ v))), (10, .pointer (some ⟨b, 0, none⟩)), (11, .slice none 0 0), (12, .slice a0 (lT x0.1).length c0), (13, .int .i32 (rArr true ⟨s, false, !a.isNone⟩).1), (14, .int .i32 (k0 : Int)), (16, .pointer (some ⟨g0, 0 + k0 * 6, none⟩)), (20, .slice none 0 0), (21, .slice a0_3 (lT x0_3.1).length c0_3), (22, .int .i32 (rArr true x0_2.2).1), (23, .int .i32 (k0_3 : Int)), (25, .pointer (some ⟨g0_3, 0 + k0_3 * 3, none⟩)), (27, .slice none 0 0), (28, .slice a0_3_1 (lT x0_3_1.1).length c0_3_1), (29, .int .i32 (rArr true x0_3_0.2).1), (30, .int .i32 (0 : Int))] (.cons rfl (.cons rfl (.cons rfl (.cons rfl (.cons rfl (.cons rfl (.cons rfl (.cons rfl (.cons rfl (.cons rfl (.cons rfl (.cons rfl (.cons rfl (.cons rfl (.cons rfl (.cons rfl (.cons rfl (.cons rfl (.cons rfl (.nil _)))))))))))))))))))) ⟨[], Nr0_3_1, _, rfl, rfl, (hR145.mono le_10), hr0_3_1, rfl, (fun p hp => by cases hp)⟩ (fun k0_3_1 l' H' L' hk0_3_1 le_11 hI => ?_))
                  obtain ⟨es0_3_1, M0_3_1, RN0_3_1, rfl, rfl, hR_0_3_1, hw_0_3_1, he_0_3_1, hg_0_3_1⟩ := hI
                  have hs_0_3_1 := els_len he_0_3_1
                  have hp_0_3_1 : (es0_3_1.flatMap fk).length = k0_3_1 * 1 := els_flat hs_0_3_1
                  refine sq ?_
                  refine sr ?_
                  refine mv rfl rfl ?_
                  refine mv rfl rfl ?_
                  refine lt rfl rfl rfl ?_
                  refine nl ?_
                  refine cd rfl (fun h159 => ?_) (fun h159 => ?_)
                  · skip
                    have hkl0_3_1 : k0_3_1 < (lT x0_3_1.1).length := by omega
                    obtain ⟨g0_3_1, po0_3_1, hga0_3_1, rfl, hbk0_3_1⟩ := hw_0_3_1.next (zs := [.int .i32 0]) hkl0_3_1 rfl (by decide)
                    have ho0_3_1 : 0 + k0_3_1 * 1 = (es0_3_1.flatMap fk).length := by rw [hp_0_3_1]; omega
                    have hbz0_3_1 : ((decV 3 (decP [] v true) false true) (rMany (decV 3 (decP [] v true) false true) k0_3_1 (rArr true x0_3_0.2).2).2).2.bad = true → (decP fs_CreateTopicsRequest v true ⟨s, false, !a.isNone⟩).2.bad = true := fun h => hB0_3_1 (by rw [ex0_3_1]; exact rMany_mono (fun r h => decV_bad (fun r h => decP_bad _ _ _ r h) h) _ (show k0_3_1 + 1 ≤ (lT x0_3_1.1).length from hkl0_3_1) (by rw [rMany_succ]; exact h))
                    have hLk0_3_1 : (rMany (decV 3 (decP [] v true) false true) k0_3_1 (rArr true x0_3_0.2).2).2.s.length ≤ BR := Nat.le_trans (rMany_shr (fun r => decV_shr (fun r => decP_shr _ _ _ r) r) _ _) hm0_3_1
                    obtain ⟨y0_3_1, hy0_3_1⟩ : ∃ x, x = (decV 3 (decP [] v true) false true) (rMany (decV 3 (decP [] v true) false true) k0_3_1 (rArr true x0_3_0.2).2).2 := ⟨_, rfl⟩
                    refine skt ?_
                    refine sq ?_
                    refine bl ?_
                    refine sr ?_
                    refine tf (.tail .head) ?_
                    refine cl rfl rfl rfl (d3 hR_0_3_1 hy0_3_1) rfl (fun v_ H1 L1 hle_ hR_ => ?_)
                    obtain ⟨N162, rfl, hR162, rfl, rfl⟩ := hR_
                    refine asg rfl rfl ?_
                    refine nl ?_
                    refine rg ?_
                    refine mv rfl rfl ?_
                    refine mv rfl rfl ?_
                    refine mv rfl rfl ?_
                    refine ixk (j := k0_3_1) Tryd.runUnderlying189 Tryd.sizeOf21 rfl hga0_3_1 rfl rfl hkl0_3_1 rfl ?_
                    refine stM (off := 0) Tryd.sizeOf21 rfl ho0_3_1 rfl rfl rfl (.tail .head) ?_
                    refine nN ?_
                    refine Nb ?_
                    refine Nt ?_
                    refine rg ?_
                    refine mv rfl rfl ?_
                    refine ad rfl rfl (c := ((k0_3_1 + 1 : Nat) : Int)) ((wrap32_le (by omega) (by omega)).trans (by omega)) rfl ?_
                    refine asg rfl rfl ?_
                    refine nN ?_
                    have hfs0_3_1 := flatMap_snoc' fk es0_3_1 ((⟨([.int .i32 (IntKind.i32.wrap y0_3_1.1.n)] : List Value), rfl, all_one rfl⟩, ((decV 3 (decP [] v true) false true) (rMany (decV 3 (decP [] v true) false true) k0_3_1 (rArr true x0_3_0.2).2).2).1) : KE 1)
                    have hrw0_3_1 := hbk0_3_1 ([.int .i32 (IntKind.i32.wrap y0_3_1.1.n)] : List Value) rfl
                    refine tfN (.tail .head) ?_
                    refine fun a_ w_ hA hw => ⟨hkl0_3_1, _, _, _, hA.sub ?_, le_11, hw, _, _, _, rfl, rfl, (by rw [rMany_succ, ← hy0_3_1]; exact hR162), (by rw [← hfs0_3_1]; exact hrw0_3_1), (dec_els he_0_3_1), (fun p hp => (mem_snoc hp).elim (fun h => RI32.mono _ _ _ _ (Fz.le.refl _) (hg_0_3_1 p h)) (fun h => h ▸ (by show RI32 _ ((decV 3 (decP [] v true) false true) (rMany (decV 3 (decP [] v true) false true) k0_3_1 (rArr true x0_3_0.2).2).2).1 [.int .i32 (IntKind.i32.wrap y0_3_1.1.n)]; rw [← hy0_3_1]; rfl)))⟩
                    exact (.cons rfl (.cons rfl (.cons rfl (.cons rfl (.cons rfl (.cons rfl (.cons rfl (.cons rfl (.cons rfl (.cons rfl (.cons rfl (.cons rfl (.cons rfl (.cons rfl (.cons rfl (.cons rfl (.cons rfl (.cons rfl (.cons rfl (.nil _))))))))))))))))))))
                  · skip
                    have hkn_ : k0_3_1 = (lT x0_3_1.1).length := by omega
                    subst hkn_
                    have hw2_0_3_1 : Row 21 1 a0_3_1 (lT x0_3_1.1).length c0_3_1 (es0_3_1.flatMap fk) M0_3_1 := by have h := hw_0_3_1; rw [Nat.sub_self] at h; simpa [reps] using h
                    refine frW hw2_0_3_1 .head (fun Hf0_3_1 hlf0_3_1 hfz0_3_1 => ?_)
                    have hrs0_3_1 := RowsAt.row (R := RI32) hfz0_3_1 hs_0_3_1.symm hw2_0_3_1.le.1 (fun p hp => RI32.mono _ _ _ _ hlf0_3_1 (hg_0_3_1 p hp))
                    rw [he_0_3_1] at hrs0_3_1
                    have hf0_3_1 : ListAt Hf0_3_1 x0_3_1.1 1 RI32 a0_3_1 c0_3_1 := by rw [ex0_3_1]; exact listAt_of hrs0_3_1 hi0_3_1 (fun h => by have h1 := nul_le h; rw [show (lT x0_3_1.1).length = 0 by omega]; rfl)
                    have hRx0_3_1 : RdAt Hf0_3_1 193 b_1 x0_3_1.2 RN0_3_1 := by rw [ex0_3_1]; exact (hR_0_3_1.mono hlf0_3_1)
                    refine exX ?_
                    refine XT ?_
                    refine XT ?_
                    refine Xb ?_
                    refine Nt ?_
                    refine sr ?_
                    refine mv rfl rfl ?_
                    refine asg rfl rfl ?_
                    refine nl ?_
                    refine rg ?_
                    refine mv rfl rfl ?_
                    refine mv rfl rfl ?_
                    refine nc rfl rfl ?_
                    refine fa F233_1 rfl rfl ?_
                    refine stM (off := 1) Tryd.sizeOf189 rfl (by rw [ho0_3]) rfl rfl rfl (.tail .head) ?_
                    refine nl ?_
                    refine sr ?_
                    refine mv rfl rfl ?_
                    refine nl ?_
                    refine cdT rfl (by omega) ?_
                    refine rg ?_
                    refine mv rfl rfl ?_
                    refine cl rfl rfl rfl (d_tags hRx0_3_1) rfl (fun v_ H1 L1 le_13 hR_ => ?_)
                    obtain ⟨N174, rfl, hR174, m0_3_t, rfl, hft0_3_⟩ := hR_
                    have hu20_3_ : u0_3_ = rTags x0_3_1.2 := hu0_3_
                    rw [← hu20_3_] at hR174 hft0_3_
                    refine nc rfl rfl ?_
                    refine fa F233_2 rfl rfl ?_
                    refine saM (off := 2) Tryd.sizeOf99 rfl (by rw [ho0_3]) rfl rfl rfl rfl (.tail .head) ?_
                    refine nN ?_
                    refine Nb ?_
                    refine Nt ?_
                    refine rg ?_
                    refine mv rfl rfl ?_
                    refine ad rfl rfl (c := ((k0_3 + 1 : Nat) : Int)) ((wrap32_le (by omega) (by omega)).trans (by omega)) rfl ?_
                    refine asg rfl rfl ?_
                    refine nN ?_
                    have hfs0_3 := flatMap_snoc' fk es0_3 ((⟨([.int .i32 (IntKind.i32.wrap x0_3_0.1.n), .slice a0_3_1 (lT x0_3_1.1).length c0_3_1, .map m0_3_t] : List Value), rfl, all_one rfl⟩, ((decV 10 (decP fs_sCreateTopicsRequestTopicReplicaAssignment v true) false true) (rMany (decV 10 (decP fs_sCreateTopicsRequestTopicReplicaAssignment v true) false true) k0_3 (rArr true x0_2.2).2).2).1) : KE 3)
                    have hrw0_3 := hbk0_3 ([.int .i32 (IntKind.i32.wrap x0_3_0.1.n), .slice a0_3_1 (lT x0_3_1.1).length c0_3_1, .map m0_3_t] : List Value) rfl
                    refine tfN (.tail .head) ?_
                    refine fun a_ w_ hA hw => ⟨hkl0_3, _, _, _, hA.sub ?_, (le_8.trans (le_10.trans (le_11.trans (hlf0_3_1.trans le_13)))), hw, _, _, _, rfl, rfl, (by rw [rMany_succ]; show RdAt _ 193 b_1 (decP fs_sCreateTopicsRequestTopicReplicaAssignment v true (rMany (decV 10 (decP fs_sCreateTopicsRequestTopicReplicaAssignment v true) false true) k0_3 (rArr true x0_2.2).2).2).2 _; rw [hD0_3_]; exact hR174), (by rw [← hfs0_3]; exact hrw0_3), (dec_els he_0_3), (fun p hp => (mem_snoc hp).elim (fun h => At_CreateTopicsRequestTopicReplicaAssignment.mono _ _ _ _ (le_10.trans (le_11.trans (hlf0_3_1.trans le_13))) (hg_0_3 p h)) (fun h => h ▸ (by show At_CreateTopicsRequestTopicReplicaAssignment _ (decP fs_sCreateTopicsRequestTopicReplicaAssignment v true (rMany (decV 10 (decP fs_sCreateTopicsRequestTopicReplicaAssignment v true) false true) k0_3 (rArr true x0_2.2).2).2).1 [.int .i32 (IntKind.i32.wrap x0_3_0.1.n), .slice a0_3_1 (lT x0_3_1.1).length c0_3_1, .map m0_3_t]; rw [hD0_3_]; exact ⟨a0_3_1, c0_3_1, m0_3_t, rfl, (hf0_3_1.mono RI32.mono le_13), hft0_3_⟩)))⟩
                    exact (.cons rfl (.cons rfl (.cons rfl (.cons rfl (.cons rfl (.cons rfl (.cons rfl (.cons rfl (.cons rfl (.cons rfl (.cons rfl (.cons rfl (.cons rfl (.cons rfl (.nil _)))))))))))))))
            · skip
              have hkn_ : k0_3 = (lT x0_3.1).length := by omega
              subst hkn_
              have hw2_0_3 : Row 233 3 a0_3 (lT x0_3.1).length c0_3 (es0_3.flatMap fk) M0_3 := by have h := hw_0_3; rw [Nat.sub_self] at h; simpa [reps] using h
              refine frW hw2_0_3 .head (fun Hf0_3 hlf0_3 hfz0_3 => ?_)
              have hrs0_3 := RowsAt.row (R := At_CreateTopicsRequestTopicReplicaAssignment) hfz0_3 hs_0_3.symm hw2_0_3.le.1 (fun p hp => At_CreateTopicsRequestTopicReplicaAssignment.mono _ _ _ _ hlf0_3 (hg_0_3 p hp))
              rw [he_0_3] at hrs0_3
              have hf0_3 : ListAt Hf0_3 x0_3.1 3 At_CreateTopicsRequestTopicReplicaAssignment a0_3 c0_3 := by rw [ex0_3]; exact listAt_of hrs0_3 hi0_3 (fun h => by have h1 := nul_le h; rw [show (lT x0_3.1).length = 0 by omega]; rfl)
              have hRx0_3 : RdAt Hf0_3 193 b_1 x0_3.2 RN0_3 := by rw [ex0_3]; exact (hR_0_3.mono hlf0_3)
              refine exX ?_
              refine XT ?_
              refine XT ?_
              refine Xb ?_
              refine Nt ?_
              refine sr ?_
              refine mv rfl rfl ?_
              refine asg rfl rfl ?_
              refine nl ?_
              refine rg ?_
              refine mv rfl rfl ?_
              refine mv rfl rfl ?_
              refine nc rfl rfl ?_
              refine fa F176_3 rfl rfl ?_
              refine stM (off := 3) Tryd.sizeOf173 rfl (by rw [ho0]) rfl rfl rfl (.tail .head) ?_
              refine nl ?_
              refine sq ?_
              refine sr ?_
              refine mv rfl rfl ?_
              refine nc rfl rfl ?_
              refine fa F176_4 rfl rfl ?_
              refine ld (j := 4) (off := 0 + k0 * 6) (Says.mid (.tail .head) ho0) Tryd.isAgg174 rfl rfl rfl rfl ?_
              refine asg rfl rfl ?_
              refine nl ?_
              refine sr ?_
              refine mv rfl rfl ?_
              refine asg rfl rfl ?_
              refine nl ?_
              refine sr ?_
              refine asg rfl rfl ?_
              refine nl ?_
              refine sq ?_
              refine sr ?_
              refine mv rfl rfl ?_
              refine nl ?_
              refine cdT rfl (by omega) ?_
              refine rg ?_
              have ey0_4 : x0_4 = (.mk 0 [] (if 0 ≤ ((-1) : Int) ∧ (v < ((-1) : Int) ∨ (rArr true x0_3.2).1 = 0) then false else decide ((rArr true x0_3.2).1 ≤ 0)) (rMany (decV 10 (decP fs_sCreateTopicsRequestTopicConfig v true) false true) (rArr true x0_3.2).1.toNat (rArr true x0_3.2).2).1 [], (rMany (decV 10 (decP fs_sCreateTopicsRequestTopicConfig v true) false true) (rArr true x0_3.2).1.toNat (rArr true x0_3.2).2).2) := (hx0_4.trans (step_yes (by decide) (show (0 : Int) ≤ v by omega) (Or.inl (by decide)))).trans (decF'_list rfl rfl)
              have hn0_4 : (rArr true x0_3.2).1.toNat = (lT x0_4.1).length := by rw [ey0_4]; exact (lT_many nul_le).symm
              have ex0_4 := ey0_4
              rw [hn0_4] at ex0_4
              have hl0_4 := rArr_le true x0_3.2
              have hm0_4 : (rArr true x0_3.2).2.s.length ≤ BR := Nat.le_trans (rArr_len true x0_3.2) hL0_3
              have hnb0_4 : (lT x0_4.1).length ≤ BR := by omega
              refine cl rfl rfl rfl (r_arrt hRx0_3) rfl (fun v_ H1 L1 hle_ hR_ => ?_)
              obtain ⟨rfl, N188, rfl, hR188, rfl⟩ := hR_
              have hh0_4 := rArr_hi true x0_3.2
              refine asg rfl rfl ?_
              refine nl ?_
              refine sq ?_
              refine sr ?_
              refine cl rfl rfl rfl (r_ok hR188) rfl (fun v_ H1 L1 hle_ hR_ => ?_)
              obtain ⟨rfl, rfl, rfl⟩ := hR_
              refine nt rfl rfl ?_
              refine nl ?_
              refine cb rfl (fun h191 => ?_) (fun h191 => ?_)
              · skip
                have hbad_ : (rArr true x0_3.2).2.bad = true := by simpa using h191
                refine sr ?_
                refine cl rfl rfl rfl (r_complete hR188 (he.mono (le_2.trans (le_3.trans (le_7.trans (le_8.trans hlf0_3)))))) rfl (fun v_ H1 L1 hle_ hR_ => ?_)
                obtain ⟨rfl, rfl, rfl⟩ := hR_
                refine asg rfl rfl ?_
                refine nl ?_
                refine drW .head ?_
                refine drW .head ?_
                exact rT rfl rfl (le_2.trans (le_3.trans (le_7.trans (le_8.trans hlf0_3)))) (fun _ _ h => h) ⟨_, rfl, RdEnd.out (hB0_4 (by rw [ey0_4]; exact rMany_bad (fun r h => decV_bad (decP_bad _ _ _) h) _ _ hbad_)) hbad_⟩
              · skip
                refine skt ?_
                refine sr ?_
                refine mv rfl rfl ?_
                refine sh' (j := 0) Tryd.runUnderlying174 Tryd.sizeOf236 rfl rfl rfl (Nat.zero_le _) rfl ?_
                refine asg rfl rfl ?_
                refine nl ?_
                refine sq ?_
                refine sr ?_
                refine mv rfl rfl ?_
                refine gt rfl rfl rfl ?_
                refine nl ?_
                refine nulC2 ?_
                refine cutT (fun l' H' L' => ∃ (a0_4 : Option Addr), ∃ (c0_4 : Nat), ∃ (Nr0_4 : Chunk), [(2, .bool false), (7, .pointer (some ⟨b_1, 0, none⟩)), (8, .int .i16 v), (9, .bool (decide ((5 : Int) ≤ v))), (10, .pointer (some ⟨b, 0, none⟩)), (11, .slice none 0 0), (12, .slice a0 (lT x0.1).length c0), (13, .int .i32 (rArr true ⟨s, false, !a.isNone⟩).1), (14, .int .i32 (k0 : Int)), (16, .pointer (some ⟨g0, 0 + k0 * 6, none⟩)), (32, .slice none 0 0), (33, .slice a0_4 (lT x0_4.1).length c0_4), (34, .int .i32 (rArr true x0_3.2).1)] = l' ∧ Nr0_4 :: N188 :: [(g0, .cells ((es0.flatMap fk) ++ ([.string ⟨x0_0.1.s.toArray⟩, .int .i32 (IntKind.i32.wrap x0_1.1.n), .int .i16 (IntKind.i16.wrap x0_2.1.n), .slice a0_3 (lT x0_3.1).length c0_3, .slice none 0 0, .map none] : List Value) ++ po0).toArray 176 (0, 0))] :: [(b, .cells [.int .i16 v, .slice none 0 0, .int .i32 60000, .bool false, .map none].toArray 170 (0, 0))] :: L = L' ∧ Row 236 3 a0_4 (lT x0_4.1).length c0_4 (reps [.string ⟨#[]⟩, .pointer none, .map none] (lT x0_4.1).length) Nr0_4 ∧ a0_4.isNone = (if 0 ≤ ((-1) : Int) ∧ (v < ((-1) : Int) ∨ (rArr true x0_3.2).1 = 0) then false else decide ((rArr true x0_3.2).1 ≤ 0))) ?_ (fun l' H' L' le_14 hI => ?_)
                · skip
                  refine cd rfl (fun h196 => ?_) (fun h196 => ?_)
                  · skip
                    refine rg ?_
                    refine mv rfl rfl ?_
                    refine mv rfl rfl ?_
                    refine apz (zs := [.string ⟨#[]⟩, .pointer none, .map none]) (m := (lT x0_4.1).length) Tryd.underlying174 Tryd.underlying21 I236 rfl rfl rfl (by omega) (by omega) (by have h9 := hnb0_4; unfold BR at h9; omega) (by have h9 := hnb0_4; unfold BR at h9; unfold maxLen; omega) rfl (fun g199 cp199 N199 r199 => ?_)
                    refine asg rfl rfl ?_
                    refine nN ?_
                    refine drN (.tail .head) ?_
                    refine fun a_ w_ hA hw => ⟨_, _, _, hA.sub ?_, (Fz.le.refl _), hw, (some ⟨g199, 0, none⟩), cp199, N199, rfl, rfl, r199, (by rw [if_neg (by omega)]; exact (decide_eq_false (by omega)).symm)⟩
                    exact (.cons rfl (.cons rfl (.cons rfl (.cons rfl (.cons rfl (.cons rfl (.cons rfl (.cons rfl (.cons rfl (.cons rfl (.cons rfl (.cons rfl (.cons rfl (.nil _))))))))))))))
                  · skip
                    refine skN ?_
                    refine fun a_ w_ hA hw => ⟨_, _, _, hA.sub ?_, (Fz.le.refl _), hw, none, 0, [], rfl, rfl, (by rw [show (lT x0_4.1).length = 0 by omega]; exact (Row.nil _ _)), (by rw [if_neg (by omega)]; exact (decide_eq_true (by omega)).symm)⟩
                    exact (.cons rfl (.cons rfl (.cons rfl (.cons rfl (.cons rfl (.cons rfl (.cons rfl (.cons rfl (.cons rfl (.cons rfl (.cons rfl (.cons (by rw [show (lT x0_4.1).length = 0 by omega]; rfl) (.cons rfl (.nil _))))))))))))))
                · skip
                  obtain ⟨a0_4, c0_4, Nr0_4, rfl, rfl, pj0, pj1⟩ := hI
                  have hr0_4 := pj0
                  have hi0_4 := pj1
                  refine sq ?_
                  refine sr ?_
                  refine asg rfl rfl ?_
                  refine nl ?_
                  refine bl (lp ((lT x0_4.1).length) (fun k0_4 l' H' L' => ∃ (es0_4 : List (KE 3)) (M0_4 RN0_4 : Chunk), [(2, .bool false), (7, .pointer (some ⟨b_1, 0, none⟩)), (8, .int .i16 v), (9, .bool (decide ((5 : Int) ≤ v))), (10, .pointer (some ⟨b, 0, none⟩)), (11, .slice none 0 0), (12, .slice a0 (lT x0.1).length c0), (13, .int .i32 (rArr true ⟨s, false, !a.isNone⟩).1), (14, .int .i32 (k0 : Int)), (16, .pointer (some ⟨g0, 0 + k0 * 6, none⟩)), (32, .slice none 0 0), (33, .slice a0_4 (lT x0_4.1).length c0_4), (34, .int .i32 (rArr true x0_3.2).1), (35, .int .i32 (k0_4 : Int))] = l' ∧ M0_4 :: RN0_4 :: [(g0, .cells ((es0.flatMap fk) ++ ([.string ⟨x0_0.1.s.toArray⟩, .int .i32 (IntKind.i32.wrap x0_1.1.n), .int .i16 (IntKind.i16.wrap x0_2.1.n), .slice a0_3 (lT x0_3.1).length c0_3, .slice none 0 0, .map none] : List Value) ++ po0).toArray 176 (0, 0))] :: [(b, .cells [.int .i16 v, .slice none 0 0, .int .i32 60000, .bool false, .map none].toArray 170 (0, 0))] :: L = L' ∧ RdAt H' 193 b_1 (rMany (decV 10 (decP fs_sCreateTopicsRequestTopicConfig v true) false true) k0_4 (rArr true x0_3.2).2).2 RN0_4 ∧ Row 236 3 a0_4 (lT x0_4.1).length c0_4 (es0_4.flatMap fk ++ reps [.string ⟨#[]⟩, .pointer none, .map none] ((lT x0_4.1).length - k0_4)) M0_4 ∧ es0_4.map (·.2) = (rMany (decV 10 (decP fs_sCreateTopicsRequestTopicConfig v true) false true) k0_4 (rArr true x0_3.2).2).1 ∧ ∀ p ∈ es0_4, At_CreateTopicsRequestTopicConfig H' p.2 (fk p)) [(2, .bool false), (7, .pointer (some ⟨b_1, 0, none⟩)), (8, .int .i16 v), (9, .bool (decide ((5 : Int) ≤ v))), (10, .pointer (some ⟨b, 0, none⟩)), (11, .slice none 0 0), (12, .slice a0 (lT x0.1).length c0), (13, .int .i32 (rArr true ⟨s, false, !a.isNone⟩).1), (14, .int .i32 (k0 : Int)), (16, .pointer (some ⟨g0, 0 + k0 * 6, none⟩)), (32, .slice none 0 0), (33, .slice a0_4 (lT x0_4.1).length c0_4), (34, .int .i32 (rArr true x0_3.2).1), (35, .int .i32 (0 : Int))] (.cons rfl (.cons rfl (.cons rfl (.cons rfl (.cons rfl (.cons rfl (.cons rfl (.cons rfl (.cons rfl (.cons rfl (.cons rfl (.cons rfl (.cons rfl (.cons rfl (.nil _))))))))))))))) ⟨[], Nr0_4, _, rfl, rfl, (hR188.mono le_14), hr0_4, rfl, (fun p hp => by cases hp)⟩ (fun k0_4 l' H' L' hk0_4 le_15 hI => ?_))
                  obtain ⟨es0_4, M0_4, RN0_4, rfl, rfl, hR_0_4, hw_0_4, he_0_4, hg_0_4⟩ := hI
                  have hs_0_4 := els_len he_0_4
                  have hp_0_4 : (es0_4.flatMap fk).length = k0_4 * 3 := els_flat hs_0_4
                  refine sq ?_
                  refine sr ?_
                  refine mv rfl rfl ?_
                  refine mv rfl rfl ?_
                  refine lt rfl rfl rfl ?_
                  refine nl ?_
                  refine cd rfl (fun h202 => ?_) (fun h202 => ?_)
                  · skip
                    have hkl0_4 : k0_4 < (lT x0_4.1).length := by omega
                    obtain ⟨g0_4, po0_4, hga0_4, rfl, hbk0_4⟩ := hw_0_4.next (zs := [.string ⟨#[]⟩, .pointer none, .map none]) hkl0_4 rfl (by decide)
                    have ho0_4 : 0 + k0_4 * 3 = (es0_4.flatMap fk).length := by rw [hp_0_4]; omega
                    have hbz0_4 : ((decV 10 (decP fs_sCreateTopicsRequestTopicConfig v true) false true) (rMany (decV 10 (decP fs_sCreateTopicsRequestTopicConfig v true) false true) k0_4 (rArr true x0_3.2).2).2).2.bad = true → (decP fs_CreateTopicsRequest v true ⟨s, false, !a.isNone⟩).2.bad = true := fun h => hB0_4 (by rw [ex0_4]; exact rMany_mono (fun r h => decV_bad (fun r h => decP_bad _ _ _ r h) h) _ (show k0_4 + 1 ≤ (lT x0_4.1).length from hkl0_4) (by rw [rMany_succ]; exact h))
                    have hLk0_4 : (rMany (decV 10 (decP fs_sCreateTopicsRequestTopicConfig v true) false true) k0_4 (rArr true x0_3.2).2).2.s.length ≤ BR := Nat.le_trans (rMany_shr (fun r => decV_shr (fun r => decP_shr _ _ _ r) r) _ _) hm0_4
                    have hL0_4__ := hLk0_4
                    obtain ⟨x0_4_0, hx0_4_0⟩ : ∃ x, x = stepF (Fd.mk 8 0 (-1) (-1) (-1) 0 0 []) v true (rMany (decV 10 (decP fs_sCreateTopicsRequestTopicConfig v true) false true) k0_4 (rArr true x0_3.2).2).2 := ⟨_, rfl⟩
                    obtain ⟨x0_4_1, hx0_4_1⟩ : ∃ x, x = stepF (Fd.mk 8 0 (-1) 0 (-1) 0 0 []) v true x0_4_0.2 := ⟨_, rfl⟩
                    obtain ⟨u0_4_, hu0_4_⟩ : ∃ x, x = tailU true x0_4_1.2 := ⟨_, rfl⟩
                    have hD0_4_ : decP fs_sCreateTopicsRequestTopicConfig v true (rMany (decV 10 (decP fs_sCreateTopicsRequestTopicConfig v true) false true) k0_4 (rArr true x0_3.2).2).2 = (.mk 0 [] false [x0_4_0.1, x0_4_1.1] u0_4_.1, u0_4_.2) := by
                      generalize ((rMany (decV 10 (decP fs_sCreateTopicsRequestTopicConfig v true) false true) k0_4 (rArr true x0_3.2).2).2 : Rd) = r_ at hx0_4_0 ⊢
                      rw [decP_eq]; unfold fs_sCreateTopicsRequestTopicConfig; simp only [decFs_cons, decFs_nil, ← hx0_4_0, ← hx0_4_1, ← hu0_4_]
                    have hL0_4_0 : x0_4_0.2.s.length ≤ BR := by rw [hx0_4_0]; exact Nat.le_trans (stepF_shr _ _ _ _) hL0_4__
                    have hL0_4_1 : x0_4_1.2.s.length ≤ BR := by rw [hx0_4_1]; exact Nat.le_trans (stepF_shr _ _ _ _) hL0_4_0
                    have hE0_4_ : u0_4_.2.bad = true → (decP fs_CreateTopicsRequest v true ⟨s, false, !a.isNone⟩).2.bad = true := fun h => hbz0_4 (by show (decP fs_sCreateTopicsRequestTopicConfig v true (rMany (decV 10 (decP fs_sCreateTopicsRequestTopicConfig v true) false true) k0_4 (rArr true x0_3.2).2).2).2.bad = true; rw [hD0_4_]; exact h)
                    have hB0_4_1 : x0_4_1.2.bad = true → (decP fs_CreateTopicsRequest v true ⟨s, false, !a.isNone⟩).2.bad = true := fun h => hE0_4_ (by rw [hu0_4_]; exact tailU_bad h)
                    have hB0_4_0 : x0_4_0.2.bad = true → (decP fs_CreateTopicsRequest v true ⟨s, false, !a.isNone⟩).2.bad = true := fun h => hB0_4_1 (by rw [hx0_4_1]; exact step_bad h)
                    refine skt ?_
                    refine sq ?_
                    refine bl ?_
                    refine sr ?_
                    refine mv rfl rfl ?_
                    refine mv rfl rfl ?_
                    refine ixk (j := k0_4) Tryd.runUnderlying174 Tryd.sizeOf236 rfl hga0_4 rfl rfl hkl0_4 rfl ?_
                    refine asg rfl rfl ?_
                    refine nl ?_
                    refine sr ?_
                    refine mv rfl rfl ?_
                    refine cl rfl rfl rfl (def_CreateTopicsRequestTopicConfig ho0_4) rfl (fun v_ H1 L1 hle_ hR_ => ?_)
                    obtain ⟨rfl, rfl⟩ := hR_
                    refine nl ?_
                    refine sr ?_
                    refine mv rfl rfl ?_
                    refine asg rfl rfl ?_
                    refine nl ?_
                    refine sq ?_
                    refine sr ?_
                    refine asg rfl rfl ?_
                    refine nl ?_
                    refine sq ?_
                    refine sr ?_
                    refine mv rfl rfl ?_
                    refine nl ?_
                    refine cF rfl ?_
                    refine sr ?_
                    refine mv rfl rfl ?_
                    refine nl ?_
                    refine cdT rfl (by omega) ?_
                    refine rg ?_
                    refine tf (.tail .head) ?_
                    have ex0_4_0 : x0_4_0 = decV 8 (decP [] v true) false true (rMany (decV 10 (decP fs_sCreateTopicsRequestTopicConfig v true) false true) k0_4 (rArr true x0_3.2).2).2 := (hx0_4_0.trans (step_yes (by decide) (show (0 : Int) ≤ v by omega) (Or.inl (by decide)))).trans (decF'_val (by decide) (rfl))
                    refine cl rfl rfl rfl (d8t hR_0_4 ex0_4_0) rfl (fun v_ H1 L1 le_16 hR_ => ?_)
                    obtain ⟨N216, rfl, hR216, rfl, rfl⟩ := hR_
                    refine asg rfl rfl ?_
                    refine nl ?_
                    refine rg ?_
                    refine mv rfl rfl ?_
                    refine mv rfl rfl ?_
                    refine nc rfl rfl ?_
                    refine fa F236_0 rfl rfl ?_
                    refine stM (off := 0) Tryd.sizeOf9 rfl (by rw [ho0_4]) rfl rfl rfl (.tail .head) ?_
                    refine nl ?_
                    refine sq ?_
                    refine sr ?_
                    refine asg rfl rfl ?_
                    refine nl ?_
                    refine sq ?_
                    refine sr ?_
                    refine mv rfl rfl ?_
                    refine nl ?_
                    refine cdT rfl (by omega) ?_
                    refine sr ?_
                    refine mv rfl rfl ?_
                    refine nl ?_
                    refine cF rfl ?_
                    refine rg ?_
                    have ex0_4_1 : x0_4_1 = decV 8 (decP [] v true) true true x0_4_0.2 := (hx0_4_1.trans (step_yes (by decide) (show (0 : Int) ≤ v by omega) (Or.inl (by decide)))).trans (decF'_val (by decide) (by simp only [Bool.and_eq_true, decide_eq_true_eq]; exact ⟨show (0 : Int) ≤ 0 by decide, show (0 : Int) ≤ v by omega⟩))
                    refine cl rfl rfl rfl (d8tn hR216 ex0_4_1) rfl (fun v_ H1 L1 le_17 hR_ => ?_)
                    obtain ⟨N225, rfl, hR225, p0_4_1, rfl, hf0_4_1⟩ := hR_
                    refine asg rfl rfl ?_
                    refine nl ?_
                    refine rg ?_
                    refine mv rfl rfl ?_
                    refine mv rfl rfl ?_
                    refine nc rfl rfl ?_
                    refine fa F236_1 rfl rfl ?_
                    refine stM (off := 1) Tryd.sizeOf104 rfl (by rw [ho0_4]) rfl rfl rfl (.tail .head) ?_
                    refine nl ?_
                    refine sr ?_
                    refine mv rfl rfl ?_
                    refine nl ?_
                    refine cdT rfl (by omega) ?_
                    refine rg ?_
                    refine mv rfl rfl ?_
                    refine cl rfl rfl rfl (d_tags hR225) rfl (fun v_ H1 L1 le_18 hR_ => ?_)
                    obtain ⟨N235, rfl, hR235, m0_4_t, rfl, hft0_4_⟩ := hR_
                    have hu20_4_ : u0_4_ = rTags x0_4_1.2 := hu0_4_
                    rw [← hu20_4_] at hR235 hft0_4_
                    refine nc rfl rfl ?_
                    refine fa F236_2 rfl rfl ?_
                    refine saM (off := 2) Tryd.sizeOf99 rfl (by rw [ho0_4]) rfl rfl rfl rfl (.tail .head) ?_
                    refine nN ?_
                    refine Nb ?_
                    refine Nt ?_
                    refine rg ?_
                    refine mv rfl rfl ?_
                    refine ad rfl rfl (c := ((k0_4 + 1 : Nat) : Int)) ((wrap32_le (by omega) (by omega)).trans (by omega)) rfl ?_
                    refine asg rfl rfl ?_
                    refine nN ?_
                    have hfs0_4 := flatMap_snoc' fk es0_4 ((⟨([.string ⟨x0_4_0.1.s.toArray⟩, .pointer p0_4_1, .map m0_4_t] : List Value), rfl, all_one rfl⟩, ((decV 10 (decP fs_sCreateTopicsRequestTopicConfig v true) false true) (rMany (decV 10 (decP fs_sCreateTopicsRequestTopicConfig v true) false true) k0_4 (rArr true x0_3.2).2).2).1) : KE 3)
                    have hrw0_4 := hbk0_4 ([.string ⟨x0_4_0.1.s.toArray⟩, .pointer p0_4_1, .map m0_4_t] : List Value) rfl
                    refine tfN (.tail .head) ?_
                    refine fun a_ w_ hA hw => ⟨hkl0_4, _, _, _, hA.sub ?_, (le_15.trans (le_17.trans le_18)), hw, _, _, _, rfl, rfl, (by rw [rMany_succ]; show RdAt _ 193 b_1 (decP fs_sCreateTopicsRequestTopicConfig v true (rMany (decV 10 (decP fs_sCreateTopicsRequestTopicConfig v true) false true) k0_4 (rArr true x0_3.2).2).2).2 _; rw [hD0_4_]; exact hR235), (by rw [← hfs0_4]; exact hrw0_4), (dec_els he_0_4), (fun p hp => (mem_snoc hp).elim (fun h => At_CreateTopicsRequestTopicConfig.mono _ _ _ _ (le_17.trans le_18) (hg_0_4 p h)) (fun h => h ▸ (by show At_CreateTopicsRequestTopicConfig _ (decP fs_sCreateTopicsRequestTopicConfig v true (rMany (decV 10 (decP fs_sCreateTopicsRequestTopicConfig v true) false true) k0_4 (rArr true x0_3.2).2).2).1 [.string ⟨x0_4_0.1.s.toArray⟩, .pointer p0_4_1, .map m0_4_t]; rw [hD0_4_]; exact ⟨p0_4_1, m0_4_t, rfl, (hf0_4_1.mono le_18), hft0_4_⟩)))⟩
                    exact (.cons rfl (.cons rfl (.cons rfl (.cons rfl (.cons rfl (.cons rfl (.cons rfl (.cons rfl (.cons rfl (.cons rfl (.cons rfl (.cons rfl (.cons rfl (.cons rfl (.nil _)))))))))))))))
                  · skip
                    have hkn_ : k0_4 = (lT x0_4.1).length := by omega
                    subst hkn_
                    have hw2_0_4 : Row 236 3 a0_4 (lT x0_4.1).length c0_4 (es0_4.flatMap fk) M0_4 := by have h := hw_0_4; rw [Nat.sub_self] at h; simpa [reps] using h
                    refine frW hw2_0_4 .head (fun Hf0_4 hlf0_4 hfz0_4 => ?_)
                    have hrs0_4 := RowsAt.row (R := At_CreateTopicsRequestTopicConfig) hfz0_4 hs_0_4.symm hw2_0_4.le.1 (fun p hp => At_CreateTopicsRequestTopicConfig.mono _ _ _ _ hlf0_4 (hg_0_4 p hp))
                    rw [he_0_4] at hrs0_4
                    have hf0_4 : ListAt Hf0_4 x0_4.1 3 At_CreateTopicsRequestTopicConfig a0_4 c0_4 := by rw [ex0_4]; exact listAt_of hrs0_4 hi0_4 (fun h => by have h1 := nul_le h; rw [show (lT x0_4.1).length = 0 by omega]; rfl)
                    have hRx0_4 : RdAt Hf0_4 193 b_1 x0_4.2 RN0_4 := by rw [ex0_4]; exact (hR_0_4.mono hlf0_4)
                    refine exX ?_
                    refine XT ?_
                    refine XT ?_
                    refine Xb ?_
                    refine Nt ?_
                    refine sr ?_
                    refine mv rfl rfl ?_
                    refine asg rfl rfl ?_
                    refine nl ?_
                    refine rg ?_
                    refine mv rfl rfl ?_
                    refine mv rfl rfl ?_
                    refine nc rfl rfl ?_
                    refine fa F176_4 rfl rfl ?_
                    refine stM (off := 4) Tryd.sizeOf174 rfl (by rw [ho0]) rfl rfl rfl (.tail .head) ?_
                    refine nl ?_
                    refine sr ?_
                    refine mv rfl rfl ?_
                    refine nl ?_
                    refine cdT rfl (by omega) ?_
                    refine rg ?_
                    refine mv rfl rfl ?_
                    refine cl rfl rfl rfl (d_tags hRx0_4) rfl (fun v_ H1 L1 le_19 hR_ => ?_)
                    obtain ⟨N245, rfl, hR245, m0_t, rfl, hft0_⟩ := hR_
                    have hu20_ : u0_ = rTags x0_4.2 := hu0_
                    rw [← hu20_] at hR245 hft0_
                    refine nc rfl rfl ?_
                    refine fa F176_5 rfl rfl ?_
                    refine saM (off := 5) Tryd.sizeOf99 rfl (by rw [ho0]) rfl rfl rfl rfl (.tail .head) ?_
                    refine nN ?_
                    refine Nb ?_
                    refine Nt ?_
                    refine rg ?_
                    refine mv rfl rfl ?_
                    refine ad rfl rfl (c := ((k0 + 1 : Nat) : Int)) ((wrap32_le (by omega) (by omega)).trans (by omega)) rfl ?_
                    refine asg rfl rfl ?_
                    refine nN ?_
                    have hfs0 := flatMap_snoc' fk es0 ((⟨([.string ⟨x0_0.1.s.toArray⟩, .int .i32 (IntKind.i32.wrap x0_1.1.n), .int .i16 (IntKind.i16.wrap x0_2.1.n), .slice a0_3 (lT x0_3.1).length c0_3, .slice a0_4 (lT x0_4.1).length c0_4, .map m0_t] : List Value), rfl, all_one rfl⟩, ((decV 10 (decP fs_sCreateTopicsRequestTopic v true) false true) (rMany (decV 10 (decP fs_sCreateTopicsRequestTopic v true) false true) k0 (rArr true ⟨s, false, !a.isNone⟩).2).2).1) : KE 6)
                    have hrw0 := hbk0 ([.string ⟨x0_0.1.s.toArray⟩, .int .i32 (IntKind.i32.wrap x0_1.1.n), .int .i16 (IntKind.i16.wrap x0_2.1.n), .slice a0_3 (lT x0_3.1).length c0_3, .slice a0_4 (lT x0_4.1).length c0_4, .map m0_t] : List Value) rfl
                    refine tfN (.tail .head) ?_
                    refine fun a_ w_ hA hw => ⟨hkl0, _, _, _, hA.sub ?_, (le_3.trans (le_7.trans (le_8.trans (hlf0_3.trans (le_14.trans (le_15.trans (hlf0_4.trans le_19))))))), hw, _, _, _, rfl, rfl, (by rw [rMany_succ]; show RdAt _ 193 b_1 (decP fs_sCreateTopicsRequestTopic v true (rMany (decV 10 (decP fs_sCreateTopicsRequestTopic v true) false true) k0 (rArr true ⟨s, false, !a.isNone⟩).2).2).2 _; rw [hD0_]; exact hR245), (by rw [← hfs0]; exact hrw0), (dec_els he_0), (fun p hp => (mem_snoc hp).elim (fun h => At_CreateTopicsRequestTopic.mono _ _ _ _ (le_7.trans (le_8.trans (hlf0_3.trans (le_14.trans (le_15.trans (hlf0_4.trans le_19)))))) (hg_0 p h)) (fun h => h ▸ (by show At_CreateTopicsRequestTopic _ (decP fs_sCreateTopicsRequestTopic v true (rMany (decV 10 (decP fs_sCreateTopicsRequestTopic v true) false true) k0 (rArr true ⟨s, false, !a.isNone⟩).2).2).1 [.string ⟨x0_0.1.s.toArray⟩, .int .i32 (IntKind.i32.wrap x0_1.1.n), .int .i16 (IntKind.i16.wrap x0_2.1.n), .slice a0_3 (lT x0_3.1).length c0_3, .slice a0_4 (lT x0_4.1).length c0_4, .map m0_t]; rw [hD0_]; exact ⟨a0_3, c0_3, a0_4, c0_4, m0_t, rfl, (hf0_3.mono At_CreateTopicsRequestTopicReplicaAssignment.mono (le_14.trans (le_15.trans (hlf0_4.trans le_19)))), (hf0_4.mono At_CreateTopicsRequestTopicConfig.mono le_19), hft0_⟩)))⟩
                    exact (.cons rfl (.cons rfl (.cons rfl (.cons rfl (.cons rfl (.cons rfl (.cons rfl (.cons rfl (.cons rfl (.nil _))))))))))
      · skip
        have hkn_ : k0 = (lT x0.1).length := by omega
        subst hkn_
        have hw2_0 : Row 176 6 a0 (lT x0.1).length c0 (es0.flatMap fk) M0 := by have h := hw_0; rw [Nat.sub_self] at h; simpa [reps] using h
        refine frW hw2_0 .head (fun Hf0 hlf0 hfz0 => ?_)
        have hrs0 := RowsAt.row (R := At_CreateTopicsRequestTopic) hfz0 hs_0.symm hw2_0.le.1 (fun p hp => At_CreateTopicsRequestTopic.mono _ _ _ _ hlf0 (hg_0 p hp))
        rw [he_0] at hrs0
        have hf0 : ListAt Hf0 x0.1 6 At_CreateTopicsRequestTopic a0 c0 := by rw [ex0]; exact listAt_of hrs0 hi0 (fun h => by have h1 := nul_le h; rw [show (lT x0.1).length = 0 by omega]; rfl)
        have hRx0 : RdAt Hf0 193 b_1 x0.2 RN0 := by rw [ex0]; exact (hR_0.mono hlf0)
        refine exX ?_
        refine XT ?_
        refine XT ?_
        refine Xb ?_
        refine Nt ?_
        refine sr ?_
        refine mv rfl rfl ?_
        refine asg rfl rfl ?_
        refine nl ?_
        refine rg ?_
        refine mv rfl rfl ?_
        refine mv rfl rfl ?_
        refine nc rfl rfl ?_
        refine fa0 F170_1 rfl rfl ?_
        refine st Tryd.sizeOf168 rfl rfl rfl rfl (.tail .head) ?_
        refine nl ?_
        refine sq ?_
        refine sr ?_
        have ex1 : x1 = decV 3 (decP [] v true) false true x0.2 := (hx1.trans (step_yes (by decide) (show (0 : Int) ≤ v by omega) (Or.inl (by decide)))).trans (decF'_val (by decide) (rfl))
        refine cl rfl rfl rfl (d3 hRx0 ex1) rfl (fun v_ H1 L1 hle_ hR_ => ?_)
        obtain ⟨N253, rfl, hR253, rfl, rfl⟩ := hR_
        refine asg rfl rfl ?_
        refine nl ?_
        refine rg ?_
        refine mv rfl rfl ?_
        refine mv rfl rfl ?_
        refine nc rfl rfl ?_
        refine fa0 F170_2 rfl rfl ?_
        refine st Tryd.sizeOf21 rfl rfl rfl rfl (.tail .head) ?_
        refine nl ?_
        refine sq ?_
        refine sr ?_
        refine mv rfl rfl ?_
        refine ge rfl rfl rfl ?_
        refine nl ?_
        refine cdT rfl (by omega) ?_
        refine sr ?_
        have ex2 : x2 = decV 0 (decP [] v true) false true x1.2 := (hx2.trans (step_yes (by decide) (show (1 : Int) ≤ v by omega) (Or.inl (by decide)))).trans (decF'_val (by decide) (rfl))
        refine cl rfl rfl rfl (d0 hR253 ex2) rfl (fun v_ H1 L1 hle_ hR_ => ?_)
        obtain ⟨N260, rfl, hR260, rfl, rfl⟩ := hR_
        refine asg rfl rfl ?_
        refine nl ?_
        refine rg ?_
        refine mv rfl rfl ?_
        refine mv rfl rfl ?_
        refine nc rfl rfl ?_
        refine fa0 F170_3 rfl rfl ?_
        refine st Tryd.sizeOf4 rfl rfl rfl rfl (.tail .head) ?_
        refine nl ?_
        refine sq ?_
        refine sr ?_
        refine mv rfl rfl ?_
        refine nl ?_
        refine cdT rfl (by omega) ?_
        refine rg ?_
        refine mv rfl rfl ?_
        refine cl rfl rfl rfl (d_tags hR260) rfl (fun v_ H1 L1 le_22 hR_ => ?_)
        obtain ⟨N267, rfl, hR267, mt, rfl, hft⟩ := hR_
        have hu2 : u = rTags x2.2 := hu
        rw [← hu2] at hR267 hft
        refine nc rfl rfl ?_
        refine fa0 F170_4 rfl rfl ?_
        refine sa Tryd.sizeOf99 rfl rfl rfl rfl rfl (.tail .head) ?_
        refine nl ?_
        refine sr ?_
        refine cl rfl rfl rfl (r_complete hR267 (he.mono (le_2.trans (le_3.trans (hlf0.trans le_22))))) rfl (fun v_ H1 L1 hle_ hR_ => ?_)
        obtain ⟨rfl, rfl, rfl⟩ := hR_
        refine asg rfl rfl ?_
        refine nl ?_
        refine drW .head ?_
        have hA_ := (show At_CreateTopicsRequest v _ (decP fs_CreateTopicsRequest v true _).1 [.int .i16 v, .slice a0 (lT x0.1).length c0, .int .i32 (IntKind.i32.wrap x1.1.n), .bool (decide (x2.1.n % 2 = 1)), .map mt] from (by rw [hD]; exact ⟨a0, c0, mt, rfl, (hf0.mono At_CreateTopicsRequestTopic.mono le_22), hft⟩))
        refine rT rfl rfl (le_2.trans (le_3.trans (hlf0.trans le_22))) (fun _ _ h => h) ⟨_, rfl, ?_⟩
        have hz := RdEnd.of (e := e) hA_
        rw [show (decP fs_CreateTopicsRequest v true _).2.bad = u.2.bad by rw [hD]] at hz
        exact hz
end Go.Sx

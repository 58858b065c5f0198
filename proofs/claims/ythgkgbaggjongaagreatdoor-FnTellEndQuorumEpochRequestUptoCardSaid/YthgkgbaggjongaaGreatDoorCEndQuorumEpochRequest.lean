import Derived.Test.YthgkgbaggjongaaGreatDoorSxTab
import Derived.Test.YthgkgbaggjongaaGreatDoorBEndQuorumEpochRequest
import Derived.Test.YthgkgbaggjongaaGreatDoorRK2
import Derived.KernelRfl
set_option linter.unusedVariables false
set_option linter.unusedSimpArgs false
set_option maxRecDepth 100000
set_option maxHeartbeats 20000000
namespace Go.Sx
open Go.Proofs
theorem def_EndQuorumEpochRequestTopicPartitionPreferredCandidate {H : Fz} {L : Own} {b o : Nat} {pre post : List Value} {c0 c1 c2 c3 c4 c5 c6 c7 c8 c9 c10 c11 c12 c13 c14 c15 c16 c17 : Value} (ho : o = pre.length) :
  Fn Tryz.prog 260 [.pointer (some ⟨b, o, none⟩)] H ([(b, .cells (pre ++ ([c0, c1, c2, c3, c4, c5, c6, c7, c8, c9, c10, c11, c12, c13, c14, c15, c16, c17] : List Value) ++ post).toArray 286 (0, 0))] :: L) (fun _ H' L' => H = H' ∧ L' = [(b, .cells (pre ++ ([c0, c1, c2, c3, c4, c5, c6, c7, c8, c9, c10, c11, c12, c13, c14, c15, c16, c17] : List Value) ++ post).toArray 286 (0, 0))] :: L) := by
 refine Fn.mk Tryz.call260 Tryz.func260 rfl Tryz.ntmps260 rfl ?_
 refine skN ?_
 exact fun _ _ hA hw => rn rfl (Fz.le.refl _) ⟨rfl, rfl⟩ hA hw
theorem def_EndQuorumEpochRequestTopicPartition {H : Fz} {L : Own} {b o : Nat} {pre post : List Value} {c0 c1 c2 c3 c4 c5 : Value} (ho : o = pre.length) :
  Fn Tryz.prog 259 [.pointer (some ⟨b, o, none⟩)] H ([(b, .cells (pre ++ ([c0, c1, c2, c3, c4, c5] : List Value) ++ post).toArray 283 (0, 0))] :: L) (fun _ H' L' => H = H' ∧ L' = [(b, .cells (pre ++ ([c0, c1, c2, c3, c4, c5] : List Value) ++ post).toArray 283 (0, 0))] :: L) := by
 refine Fn.mk Tryz.call259 Tryz.func259 rfl Tryz.ntmps259 rfl ?_
 refine skN ?_
 exact fun _ _ hA hw => rn rfl (Fz.le.refl _) ⟨rfl, rfl⟩ hA hw
theorem def_EndQuorumEpochRequestTopic {H : Fz} {L : Own} {b o : Nat} {pre post : List Value} {c0 c1 c2 : Value} (ho : o = pre.length) :
  Fn Tryz.prog 258 [.pointer (some ⟨b, o, none⟩)] H ([(b, .cells (pre ++ ([c0, c1, c2] : List Value) ++ post).toArray 166 (0, 0))] :: L) (fun _ H' L' => H = H' ∧ L' = [(b, .cells (pre ++ ([c0, c1, c2] : List Value) ++ post).toArray 166 (0, 0))] :: L) := by
 refine Fn.mk Tryz.call258 Tryz.func258 rfl Tryz.ntmps258 rfl ?_
 refine skN ?_
 exact fun _ _ hA hw => rn rfl (Fz.le.refl _) ⟨rfl, rfl⟩ hA hw
theorem def_EndQuorumEpochRequestLeaderEndpoint {H : Fz} {L : Own} {b o : Nat} {pre post : List Value} {c0 c1 c2 c3 : Value} (ho : o = pre.length) :
  Fn Tryz.prog 261 [.pointer (some ⟨b, o, none⟩)] H ([(b, .cells (pre ++ ([c0, c1, c2, c3] : List Value) ++ post).toArray 171 (0, 0))] :: L) (fun _ H' L' => H = H' ∧ L' = [(b, .cells (pre ++ ([c0, c1, c2, c3] : List Value) ++ post).toArray 171 (0, 0))] :: L) := by
 refine Fn.mk Tryz.call261 Tryz.func261 rfl Tryz.ntmps261 rfl ?_
 refine skN ?_
 exact fun _ _ hA hw => rn rfl (Fz.le.refl _) ⟨rfl, rfl⟩ hA hw
theorem def0_EndQuorumEpochRequest {H : Fz} {L : Own} {b : Nat} {c0 c1 c2 c3 c4 : Value} :
  Fn Tryz.prog 167 [.pointer (some ⟨b, 0, none⟩)] H ([(b, .cells [c0, c1, c2, c3, c4].toArray 160 (0, 0))] :: L) (fun _ H' L' => H = H' ∧ L' = [(b, .cells [c0, c1, c2, c3, c4].toArray 160 (0, 0))] :: L) := by
 refine Fn.mk Tryz.call167 Tryz.func167 rfl Tryz.ntmps167 rfl ?_
 refine skN ?_
 exact fun _ _ hA hw => rn rfl (Fz.le.refl _) ⟨rfl, rfl⟩ hA hw
theorem rd_EndQuorumEpochRequest_f {H : Fz} {L : Own} {b : Nat} {v : Int} {a : Option Addr} {c : Nat} {s : List UInt8} {e : Value} (hB : BytesAt H a c s) (hL_ : s.length ≤ BR) (he : H.at 1 0 [e]) (hv0 : 0 ≤ v) (hv1 : v ≤ 0) :
  Fn Tryz.prog 169 [.pointer (some ⟨b, 0, none⟩), .slice a s.length c, .bool false] H ([(b, .cells [.int .i16 v, .pointer none, .slice none 0 0, .slice none 0 0, .map none].toArray 160 (0, 0))] :: L) (fun r H' L' => ∃ cs : List Value, L' = [(b, .cells cs.toArray 160 (0, 0))] :: L ∧ RdEnd H' (At_EndQuorumEpochRequest v) (decP fs_EndQuorumEpochRequest v false ⟨s, false, !a.isNone⟩) e r cs) := by
 refine Fn.mk Tryz.call169 Tryz.func169 rfl Tryz.ntmps169 rfl ?_
 refine sr ?_
 refine asg rfl rfl ?_
 refine nl ?_
 refine sr ?_
 refine mv rfl rfl ?_
 refine cl rfl rfl rfl def0_EndQuorumEpochRequest rfl (fun v_ H1 L1 hle_ hR_ => ?_)
 obtain ⟨rfl, rfl⟩ := hR_
 refine nl ?_
 refine sr ?_
 refine mv rfl rfl ?_
 refine bd' S232 rfl rfl rfl ?_
 refine al Tryz.zeroValue232 rfl rfl (fun b_1 => ?_)
 refine sa Tryz.sizeOf232 rfl rfl rfl rfl rfl .head ?_
 have hR0_ : RdAt H 232 b_1 ⟨s, false, !a.isNone⟩ [(b_1, .cells [_, _].toArray 232 (0, 0))] := ⟨a, c, rfl, hB, by simp⟩
 obtain ⟨x0, hx0⟩ : ∃ x, x = stepF (Fd.mk 8 0 (-1) 0 (-1) 0 0 []) v false ⟨s, false, !a.isNone⟩ := ⟨_, rfl⟩
 obtain ⟨x1, hx1⟩ : ∃ x, x = stepF (Fd.mk 11 0 (-1) (-1) (-1) 0 10 fs_sEndQuorumEpochRequestTopic) v false x0.2 := ⟨_, rfl⟩
 obtain ⟨x2, hx2⟩ : ∃ x, x = stepF (Fd.mk 11 1 (-1) (-1) (-1) 0 10 fs_sEndQuorumEpochRequestLeaderEndpoint) v false x1.2 := ⟨_, rfl⟩
 obtain ⟨u, hu⟩ : ∃ x, x = tailU false x2.2 := ⟨_, rfl⟩
 have hD : decP fs_EndQuorumEpochRequest v false ⟨s, false, !a.isNone⟩ = (.mk 0 [] false [x0.1, x1.1, x2.1] u.1, u.2) := by
  generalize (⟨s, false, !a.isNone⟩ : Rd) = r_ at hx0 ⊢
  rw [decP_eq]; unfold fs_EndQuorumEpochRequest; simp only [decFs_cons, decFs_nil, ← hx0, ← hx1, ← hx2, ← hu]
 have hL0 : x0.2.s.length ≤ BR := by rw [hx0]; exact Nat.le_trans (stepF_shr _ _ _ _) hL_
 have hL1 : x1.2.s.length ≤ BR := by rw [hx1]; exact Nat.le_trans (stepF_shr _ _ _ _) hL0
 have hL2 : x2.2.s.length ≤ BR := by rw [hx2]; exact Nat.le_trans (stepF_shr _ _ _ _) hL1
 have hE : u.2.bad = true → (decP fs_EndQuorumEpochRequest v false ⟨s, false, !a.isNone⟩).2.bad = true := fun h => by rw [hD]; exact h
 have hB2 : x2.2.bad = true → (decP fs_EndQuorumEpochRequest v false ⟨s, false, !a.isNone⟩).2.bad = true := fun h => hE (by rw [hu]; exact tailU_bad h)
 have hB1 : x1.2.bad = true → (decP fs_EndQuorumEpochRequest v false ⟨s, false, !a.isNone⟩).2.bad = true := fun h => hB2 (by rw [hx2]; exact step_bad h)
 have hB0 : x0.2.bad = true → (decP fs_EndQuorumEpochRequest v false ⟨s, false, !a.isNone⟩).2.bad = true := fun h => hB1 (by rw [hx1]; exact step_bad h)
 refine nl ?_
 refine sr ?_
 refine mv rfl rfl ?_
 refine nc rfl rfl ?_
 refine fa0 F160_0 rfl rfl ?_
 refine ld (Says.own (.tail .head)) Tryz.isAgg51 rfl (Nat.zero_add _).symm rfl rfl ?_
 refine asg rfl rfl ?_
 refine nl ?_
 refine sr ?_
 refine mv rfl rfl ?_
 refine nl ?_
 refine sr ?_
 refine mv rfl rfl ?_
 refine ge rfl rfl rfl ?_
 refine asg rfl rfl ?_
 refine nl ?_
 refine sr ?_
 refine mv rfl rfl ?_
 refine nl ?_
 refine sr ?_
 refine mv rfl rfl ?_
 refine asg rfl rfl ?_
 refine nl ?_
 refine sq ?_
 refine sr ?_
 refine asg rfl rfl ?_
 refine nl ?_
 refine sq ?_
 refine sr ?_
 refine mv rfl rfl ?_
 refine nl ?_
 refine cdF rfl (by omega) ?_
 refine sr ?_
 refine mv rfl rfl ?_
 refine nl ?_
 refine cF rfl ?_
 refine rg ?_
 have ex0 : x0 = decV 8 (decP [] v false) true false ⟨s, false, !a.isNone⟩ := (hx0.trans (step_yes (by decide) (show (0 : Int) ≤ v by omega) (Or.inl (by decide)))).trans (decF'_val (by decide) (by simp only [Bool.and_eq_true, decide_eq_true_eq]; exact ⟨show (0 : Int) ≤ 0 by decide, show (0 : Int) ≤ v by omega⟩))
 refine cl rfl rfl rfl (d8fn hR0_ ex0) rfl (fun v_ H1 L1 le_2 hR_ => ?_)
 obtain ⟨N69, rfl, hR69, p0, rfl, hf0⟩ := hR_
 refine asg rfl rfl ?_
 refine nl ?_
 refine rg ?_
 refine mv rfl rfl ?_
 refine mv rfl rfl ?_
 refine nc rfl rfl ?_
 refine fa0 F160_1 rfl rfl ?_
 refine st Tryz.sizeOf131 rfl rfl rfl rfl (.tail .head) ?_
 refine nl ?_
 refine sq ?_
 refine sr ?_
 refine mv rfl rfl ?_
 refine nc rfl rfl ?_
 refine fa0 F160_2 rfl rfl ?_
 refine ld (Says.own (.tail .head)) Tryz.isAgg157 rfl (Nat.zero_add _).symm rfl rfl ?_
 refine asg rfl rfl ?_
 refine nl ?_
 refine sr ?_
 refine mv rfl rfl ?_
 refine asg rfl rfl ?_
 refine nl ?_
 refine sr ?_
 refine asg rfl rfl ?_
 refine nl ?_
 refine sq ?_
 refine sr ?_
 refine mv rfl rfl ?_
 refine nl ?_
 refine cdF rfl (by omega) ?_
 refine rg ?_
 have ey1 : x1 = (.mk 0 [] (if 0 ≤ ((-1) : Int) ∧ (v < ((-1) : Int) ∨ (rArr false x0.2).1 = 0) then false else decide ((rArr false x0.2).1 ≤ 0)) (rMany (decV 10 (decP fs_sEndQuorumEpochRequestTopic v false) false false) (rArr false x0.2).1.toNat (rArr false x0.2).2).1 [], (rMany (decV 10 (decP fs_sEndQuorumEpochRequestTopic v false) false false) (rArr false x0.2).1.toNat (rArr false x0.2).2).2) := (hx1.trans (step_yes (by decide) (show (0 : Int) ≤ v by omega) (Or.inl (by decide)))).trans (decF'_list rfl rfl)
 have hn1 : (rArr false x0.2).1.toNat = (lT x1.1).length := by rw [ey1]; exact (lT_many nul_le).symm
 have ex1 := ey1
 rw [hn1] at ex1
 have hl1 := rArr_le false x0.2
 have hm1 : (rArr false x0.2).2.s.length ≤ BR := Nat.le_trans (rArr_len false x0.2) hL0
 have hnb1 : (lT x1.1).length ≤ BR := by omega
 refine cl rfl rfl rfl (r_arrf hR69) rfl (fun v_ H1 L1 hle_ hR_ => ?_)
 obtain ⟨rfl, N81, rfl, hR81, rfl⟩ := hR_
 have hh1 := rArr_hi false x0.2
 refine asg rfl rfl ?_
 refine nl ?_
 refine sq ?_
 refine sr ?_
 refine cl rfl rfl rfl (r_ok hR81) rfl (fun v_ H1 L1 hle_ hR_ => ?_)
 obtain ⟨rfl, rfl, rfl⟩ := hR_
 refine nt rfl rfl ?_
 refine nl ?_
 refine cb rfl (fun h83 => ?_) (fun h83 => ?_)
 ·
  have hbad_ : (rArr false x0.2).2.bad = true := by simpa using h83
  refine sr ?_
  refine cl rfl rfl rfl (r_complete hR81 (he.mono le_2)) rfl (fun v_ H1 L1 hle_ hR_ => ?_)
  obtain ⟨rfl, rfl, rfl⟩ := hR_
  refine asg rfl rfl ?_
  refine nl ?_
  refine drW .head ?_
  exact rT rfl rfl le_2 (fun _ _ h => h) ⟨_, rfl, RdEnd.out (hB1 (by rw [ey1]; exact rMany_bad (fun r h => decV_bad (decP_bad _ _ _) h) _ _ hbad_)) hbad_⟩
 ·
  refine skt ?_
  refine sr ?_
  refine mv rfl rfl ?_
  refine sh' (j := 0) Tryz.runUnderlying157 Tryz.sizeOf166 rfl rfl rfl (Nat.zero_le _) rfl ?_
  refine asg rfl rfl ?_
  refine nl ?_
  refine sq ?_
  refine sr ?_
  refine mv rfl rfl ?_
  refine gt rfl rfl rfl ?_
  refine nl ?_
  refine nulC2 ?_
  refine cutT (fun l' H' L' => ∃ (a1 : Option Addr), ∃ (c1 : Nat), ∃ (Nr1 : Chunk), [(2, .bool false), (7, .pointer (some ⟨b_1, 0, none⟩)), (8, .int .i16 v), (9, .bool (decide ((1 : Int) ≤ v))), (10, .pointer (some ⟨b, 0, none⟩)), (12, .slice none 0 0), (13, .slice a1 (lT x1.1).length c1), (14, .int .i32 (rArr false x0.2).1)] = l' ∧ Nr1 :: N81 :: [(b, .cells [.int .i16 v, .pointer p0, .slice none 0 0, .slice none 0 0, .map none].toArray 160 (0, 0))] :: L = L' ∧ Row 166 3 a1 (lT x1.1).length c1 (reps [.string ⟨#[]⟩, .slice none 0 0, .map none] (lT x1.1).length) Nr1 ∧ a1.isNone = (if 0 ≤ ((-1) : Int) ∧ (v < ((-1) : Int) ∨ (rArr false x0.2).1 = 0) then false else decide ((rArr false x0.2).1 ≤ 0))) ?_ (fun l' H' L' le_3 hI => ?_)
  ·
   refine cd rfl (fun h88 => ?_) (fun h88 => ?_)
   ·
    refine rg ?_
    refine mv rfl rfl ?_
    refine mv rfl rfl ?_
    refine apz (zs := [.string ⟨#[]⟩, .slice none 0 0, .map none]) (m := (lT x1.1).length) Tryz.underlying157 Tryz.underlying21 I166 rfl rfl rfl (by omega) (by omega) (by have h9 := hnb1; unfold BR at h9; omega) (by have h9 := hnb1; unfold BR at h9; unfold maxLen; omega) rfl (fun g91 cp91 N91 r91 => ?_)
    refine asg rfl rfl ?_
    refine nN ?_
    refine drN (.tail .head) ?_
    refine fun a_ w_ hA hw => ⟨_, _, _, hA.sub ?_, (Fz.le.refl _), hw, (some ⟨g91, 0, none⟩), cp91, N91, rfl, rfl, r91, (by rw [if_neg (by omega)]; exact (decide_eq_false (by omega)).symm)⟩
    exact (.cons rfl (.cons rfl (.cons rfl (.cons rfl (.cons rfl (.cons rfl (.cons rfl (.cons rfl (.nil _)))))))))
   ·
    refine skN ?_
    refine fun a_ w_ hA hw => ⟨_, _, _, hA.sub ?_, (Fz.le.refl _), hw, none, 0, [], rfl, rfl, (by rw [show (lT x1.1).length = 0 by omega]; exact (Row.nil _ _)), (by rw [if_neg (by omega)]; exact (decide_eq_true (by omega)).symm)⟩
    exact (.cons rfl (.cons rfl (.cons rfl (.cons rfl (.cons rfl (.cons rfl (.cons (by rw [show (lT x1.1).length = 0 by omega]; rfl) (.cons rfl (.nil _)))))))))
  ·
   obtain ⟨a1, c1, Nr1, rfl, rfl, pj0, pj1⟩ := hI
   have hr1 := pj0
   have hi1 := pj1
   refine sq ?_
   refine sr ?_
   refine asg rfl rfl ?_
   refine nl ?_
   refine bl (lp ((lT x1.1).length) (fun k1 l' H' L' => ∃ (es1 : List (KE 3)) (M1 RN1 : Chunk), [(2, .bool false), (7, .pointer (some ⟨b_1, 0, none⟩)), (8, .int .i16 v), (9, .bool (decide ((1 : Int) ≤ v))), (10, .pointer (some ⟨b, 0, none⟩)), (12, .slice none 0 0), (13, .slice a1 (lT x1.1).length c1), (14, .int .i32 (rArr false x0.2).1), (15, .int .i32 (k1 : Int))] = l' ∧ M1 :: RN1 :: [(b, .cells [.int .i16 v, .pointer p0, .slice none 0 0, .slice none 0 0, .map none].toArray 160 (0, 0))] :: L = L' ∧ RdAt H' 232 b_1 (rMany (decV 10 (decP fs_sEndQuorumEpochRequestTopic v false) false false) k1 (rArr false x0.2).2).2 RN1 ∧ Row 166 3 a1 (lT x1.1).length c1 (es1.flatMap fk ++ reps [.string ⟨#[]⟩, .slice none 0 0, .map none] ((lT x1.1).length - k1)) M1 ∧ es1.map (·.2) = (rMany (decV 10 (decP fs_sEndQuorumEpochRequestTopic v false) false false) k1 (rArr false x0.2).2).1 ∧ ∀ p ∈ es1, At_EndQuorumEpochRequestTopic H' p.2 (fk p)) [(2, .bool false), (7, .pointer (some ⟨b_1, 0, none⟩)), (8, .int .i16 v), (9, .bool (decide ((1 : Int) ≤ v))), (10, .pointer (some ⟨b, 0, none⟩)), (12, .slice none 0 0), (13, .slice a1 (lT x1.1).length c1), (14, .int .i32 (rArr false x0.2).1), (15, .int .i32 (0 : Int))] (.cons rfl (.cons rfl (.cons rfl (.cons rfl (.cons rfl (.cons rfl (.cons rfl (.cons rfl (.cons rfl (.nil _)))))))))) ⟨[], Nr1, _, rfl, rfl, (hR81.mono le_3), hr1, rfl, (fun p hp => by cases hp)⟩ (fun k1 l' H' L' hk1 le_4 hI => ?_))
   obtain ⟨es1, M1, RN1, rfl, rfl, hR_1, hw_1, he_1, hg_1⟩ := hI
   have hs_1 := els_len he_1
   have hp_1 : (es1.flatMap fk).length = k1 * 3 := els_flat hs_1
   refine sq ?_
   refine sr ?_
   refine mv rfl rfl ?_
   refine mv rfl rfl ?_
   refine lt rfl rfl rfl ?_
   refine nl ?_
   refine cd rfl (fun h94 => ?_) (fun h94 => ?_)
   ·
    have hkl1 : k1 < (lT x1.1).length := by omega
    obtain ⟨g1, po1, hga1, rfl, hbk1⟩ := hw_1.next (zs := [.string ⟨#[]⟩, .slice none 0 0, .map none]) hkl1 rfl (by decide)
    have ho1 : 0 + k1 * 3 = (es1.flatMap fk).length := by rw [hp_1]; omega
    have hbz1 : ((decV 10 (decP fs_sEndQuorumEpochRequestTopic v false) false false) (rMany (decV 10 (decP fs_sEndQuorumEpochRequestTopic v false) false false) k1 (rArr false x0.2).2).2).2.bad = true → (decP fs_EndQuorumEpochRequest v false ⟨s, false, !a.isNone⟩).2.bad = true := fun h => hB1 (by rw [ex1]; exact rMany_mono (fun r h => decV_bad (fun r h => decP_bad _ _ _ r h) h) _ (show k1 + 1 ≤ (lT x1.1).length from hkl1) (by rw [rMany_succ]; exact h))
    have hLk1 : (rMany (decV 10 (decP fs_sEndQuorumEpochRequestTopic v false) false false) k1 (rArr false x0.2).2).2.s.length ≤ BR := Nat.le_trans (rMany_shr (fun r => decV_shr (fun r => decP_shr _ _ _ r) r) _ _) hm1
    have hL1__ := hLk1
    obtain ⟨x1_0, hx1_0⟩ : ∃ x, x = stepF (Fd.mk 8 0 (-1) (-1) (-1) 0 0 []) v false (rMany (decV 10 (decP fs_sEndQuorumEpochRequestTopic v false) false false) k1 (rArr false x0.2).2).2 := ⟨_, rfl⟩
    obtain ⟨x1_1, hx1_1⟩ : ∃ x, x = stepF (Fd.mk 11 0 (-1) (-1) (-1) 0 10 fs_sEndQuorumEpochRequestTopicPartition) v false x1_0.2 := ⟨_, rfl⟩
    obtain ⟨u1_, hu1_⟩ : ∃ x, x = tailU false x1_1.2 := ⟨_, rfl⟩
    have hD1_ : decP fs_sEndQuorumEpochRequestTopic v false (rMany (decV 10 (decP fs_sEndQuorumEpochRequestTopic v false) false false) k1 (rArr false x0.2).2).2 = (.mk 0 [] false [x1_0.1, x1_1.1] u1_.1, u1_.2) := by
     generalize ((rMany (decV 10 (decP fs_sEndQuorumEpochRequestTopic v false) false false) k1 (rArr false x0.2).2).2 : Rd) = r_ at hx1_0 ⊢
     rw [decP_eq]; unfold fs_sEndQuorumEpochRequestTopic; simp only [decFs_cons, decFs_nil, ← hx1_0, ← hx1_1, ← hu1_]
    have hL1_0 : x1_0.2.s.length ≤ BR := by rw [hx1_0]; exact Nat.le_trans (stepF_shr _ _ _ _) hL1__
    have hL1_1 : x1_1.2.s.length ≤ BR := by rw [hx1_1]; exact Nat.le_trans (stepF_shr _ _ _ _) hL1_0
    have hE1_ : u1_.2.bad = true → (decP fs_EndQuorumEpochRequest v false ⟨s, false, !a.isNone⟩).2.bad = true := fun h => hbz1 (by show (decP fs_sEndQuorumEpochRequestTopic v false (rMany (decV 10 (decP fs_sEndQuorumEpochRequestTopic v false) false false) k1 (rArr false x0.2).2).2).2.bad = true; rw [hD1_]; exact h)
    have hB1_1 : x1_1.2.bad = true → (decP fs_EndQuorumEpochRequest v false ⟨s, false, !a.isNone⟩).2.bad = true := fun h => hE1_ (by rw [hu1_]; exact tailU_bad h)
    have hB1_0 : x1_0.2.bad = true → (decP fs_EndQuorumEpochRequest v false ⟨s, false, !a.isNone⟩).2.bad = true := fun h => hB1_1 (by rw [hx1_1]; exact step_bad h)
    refine skt ?_
    refine sq ?_
    refine bl ?_
    refine sr ?_
    refine mv rfl rfl ?_
    refine mv rfl rfl ?_
    refine ixk (j := k1) Tryz.runUnderlying157 Tryz.sizeOf166 rfl hga1 rfl rfl hkl1 rfl ?_
    refine asg rfl rfl ?_
    refine nl ?_
    refine sr ?_
    refine mv rfl rfl ?_
    refine cl rfl rfl rfl (def_EndQuorumEpochRequestTopic ho1) rfl (fun v_ H1 L1 hle_ hR_ => ?_)
    obtain ⟨rfl, rfl⟩ := hR_
    refine nl ?_
    refine sr ?_
    refine mv rfl rfl ?_
    refine asg rfl rfl ?_
    refine nl ?_
    refine sq ?_
    refine sr ?_
    refine asg rfl rfl ?_
    refine nl ?_
    refine sq ?_
    refine sr ?_
    refine mv rfl rfl ?_
    refine nl ?_
    refine cF rfl ?_
    refine sr ?_
    refine mv rfl rfl ?_
    refine nl ?_
    refine cdF rfl (by omega) ?_
    refine rg ?_
    refine tf (.tail .head) ?_
    have ex1_0 : x1_0 = decV 8 (decP [] v false) false false (rMany (decV 10 (decP fs_sEndQuorumEpochRequestTopic v false) false false) k1 (rArr false x0.2).2).2 := (hx1_0.trans (step_yes (by decide) (show (0 : Int) ≤ v by omega) (Or.inl (by decide)))).trans (decF'_val (by decide) (rfl))
    refine cl rfl rfl rfl (d8f hR_1 ex1_0) rfl (fun v_ H1 L1 le_5 hR_ => ?_)
    obtain ⟨N109, rfl, hR109, rfl, rfl⟩ := hR_
    refine asg rfl rfl ?_
    refine nl ?_
    refine rg ?_
    refine mv rfl rfl ?_
    refine mv rfl rfl ?_
    refine nc rfl rfl ?_
    refine fa F166_0 rfl rfl ?_
    refine stM (off := 0) Tryz.sizeOf9 rfl (by rw [ho1]) rfl rfl rfl (.tail .head) ?_
    refine nl ?_
    refine sq ?_
    refine sr ?_
    refine mv rfl rfl ?_
    refine nc rfl rfl ?_
    refine fa F166_1 rfl rfl ?_
    refine ld (j := 1) (off := 0 + k1 * 3) (Says.mid (.tail .head) ho1) Tryz.isAgg164 rfl rfl rfl rfl ?_
    refine asg rfl rfl ?_
    refine nl ?_
    refine sr ?_
    refine mv rfl rfl ?_
    refine asg rfl rfl ?_
    refine nl ?_
    refine sr ?_
    refine asg rfl rfl ?_
    refine nl ?_
    refine sq ?_
    refine sr ?_
    refine mv rfl rfl ?_
    refine nl ?_
    refine cdF rfl (by omega) ?_
    refine rg ?_
    have ey1_1 : x1_1 = (.mk 0 [] (if 0 ≤ ((-1) : Int) ∧ (v < ((-1) : Int) ∨ (rArr false x1_0.2).1 = 0) then false else decide ((rArr false x1_0.2).1 ≤ 0)) (rMany (decV 10 (decP fs_sEndQuorumEpochRequestTopicPartition v false) false false) (rArr false x1_0.2).1.toNat (rArr false x1_0.2).2).1 [], (rMany (decV 10 (decP fs_sEndQuorumEpochRequestTopicPartition v false) false false) (rArr false x1_0.2).1.toNat (rArr false x1_0.2).2).2) := (hx1_1.trans (step_yes (by decide) (show (0 : Int) ≤ v by omega) (Or.inl (by decide)))).trans (decF'_list rfl rfl)
    have hn1_1 : (rArr false x1_0.2).1.toNat = (lT x1_1.1).length := by rw [ey1_1]; exact (lT_many nul_le).symm
    have ex1_1 := ey1_1
    rw [hn1_1] at ex1_1
    have hl1_1 := rArr_le false x1_0.2
    have hm1_1 : (rArr false x1_0.2).2.s.length ≤ BR := Nat.le_trans (rArr_len false x1_0.2) hL1_0
    have hnb1_1 : (lT x1_1.1).length ≤ BR := by omega
    refine cl rfl rfl rfl (r_arrf hR109) rfl (fun v_ H1 L1 hle_ hR_ => ?_)
    obtain ⟨rfl, N121, rfl, hR121, rfl⟩ := hR_
    have hh1_1 := rArr_hi false x1_0.2
    refine asg rfl rfl ?_
    refine nl ?_
    refine sq ?_
    refine sr ?_
    refine cl rfl rfl rfl (r_ok hR121) rfl (fun v_ H1 L1 hle_ hR_ => ?_)
    obtain ⟨rfl, rfl, rfl⟩ := hR_
    refine nt rfl rfl ?_
    refine nl ?_
    refine cb rfl (fun h123 => ?_) (fun h123 => ?_)
    ·
     have hbad_ : (rArr false x1_0.2).2.bad = true := by simpa using h123
     refine sr ?_
     refine cl rfl rfl rfl (r_complete hR121 (he.mono (le_2.trans (le_3.trans le_4)))) rfl (fun v_ H1 L1 hle_ hR_ => ?_)
     obtain ⟨rfl, rfl, rfl⟩ := hR_
     refine asg rfl rfl ?_
     refine nl ?_
     refine drW .head ?_
     refine drW .head ?_
     exact rT rfl rfl (le_2.trans (le_3.trans le_4)) (fun _ _ h => h) ⟨_, rfl, RdEnd.out (hB1_1 (by rw [ey1_1]; exact rMany_bad (fun r h => decV_bad (decP_bad _ _ _) h) _ _ hbad_)) hbad_⟩
    ·
     refine skt ?_
     refine sr ?_
     refine mv rfl rfl ?_
     refine sh' (j := 0) Tryz.runUnderlying164 Tryz.sizeOf283 rfl rfl rfl (Nat.zero_le _) rfl ?_
     refine asg rfl rfl ?_
     refine nl ?_
     refine sq ?_
     refine sr ?_
     refine mv rfl rfl ?_
     refine gt rfl rfl rfl ?_
     refine nl ?_
     refine nulC2 ?_
     refine cutT (fun l' H' L' => ∃ (a1_1 : Option Addr), ∃ (c1_1 : Nat), ∃ (Nr1_1 : Chunk), [(2, .bool false), (7, .pointer (some ⟨b_1, 0, none⟩)), (8, .int .i16 v), (9, .bool (decide ((1 : Int) ≤ v))), (10, .pointer (some ⟨b, 0, none⟩)), (12, .slice none 0 0), (13, .slice a1 (lT x1.1).length c1), (14, .int .i32 (rArr false x0.2).1), (15, .int .i32 (k1 : Int)), (17, .pointer (some ⟨g1, 0 + k1 * 3, none⟩)), (19, .slice none 0 0), (20, .slice a1_1 (lT x1_1.1).length c1_1), (21, .int .i32 (rArr false x1_0.2).1)] = l' ∧ Nr1_1 :: N121 :: [(g1, .cells ((es1.flatMap fk) ++ ([.string ⟨x1_0.1.s.toArray⟩, .slice none 0 0, .map none] : List Value) ++ po1).toArray 166 (0, 0))] :: [(b, .cells [.int .i16 v, .pointer p0, .slice none 0 0, .slice none 0 0, .map none].toArray 160 (0, 0))] :: L = L' ∧ Row 283 6 a1_1 (lT x1_1.1).length c1_1 (reps [.int .i32 0, .int .i32 0, .int .i32 0, .slice none 0 0, .slice none 0 0, .map none] (lT x1_1.1).length) Nr1_1 ∧ a1_1.isNone = (if 0 ≤ ((-1) : Int) ∧ (v < ((-1) : Int) ∨ (rArr false x1_0.2).1 = 0) then false else decide ((rArr false x1_0.2).1 ≤ 0))) ?_ (fun l' H' L' le_6 hI => ?_)
     ·
      refine cd rfl (fun h128 => ?_) (fun h128 => ?_)
      ·
       refine rg ?_
       refine mv rfl rfl ?_
       refine mv rfl rfl ?_
       refine apz (zs := [.int .i32 0, .int .i32 0, .int .i32 0, .slice none 0 0, .slice none 0 0, .map none]) (m := (lT x1_1.1).length) Tryz.underlying164 Tryz.underlying21 I283 rfl rfl rfl (by omega) (by omega) (by have h9 := hnb1_1; unfold BR at h9; omega) (by have h9 := hnb1_1; unfold BR at h9; unfold maxLen; omega) rfl (fun g131 cp131 N131 r131 => ?_)
       refine asg rfl rfl ?_
       refine nN ?_
       refine drN (.tail .head) ?_
       refine fun a_ w_ hA hw => ⟨_, _, _, hA.sub ?_, (Fz.le.refl _), hw, (some ⟨g131, 0, none⟩), cp131, N131, rfl, rfl, r131, (by rw [if_neg (by omega)]; exact (decide_eq_false (by omega)).symm)⟩
       exact (.cons rfl (.cons rfl (.cons rfl (.cons rfl (.cons rfl (.cons rfl (.cons rfl (.cons rfl (.cons rfl (.cons rfl (.cons rfl (.cons rfl (.cons rfl (.nil _))))))))))))))
      ·
       refine skN ?_
       refine fun a_ w_ hA hw => ⟨_, _, _, hA.sub ?_, (Fz.le.refl _), hw, none, 0, [], rfl, rfl, (by rw [show (lT x1_1.1).length = 0 by omega]; exact (Row.nil _ _)), (by rw [if_neg (by omega)]; exact (decide_eq_true (by omega)).symm)⟩
       exact (.cons rfl (.cons rfl (.cons rfl (.cons rfl (.cons rfl (.cons rfl (.cons rfl (.cons rfl (.cons rfl (.cons rfl (.cons rfl (.cons (by rw [show (lT x1_1.1).length = 0 by omega]; rfl) (.cons rfl (.nil _))))))))))))))
     ·
      obtain ⟨a1_1, c1_1, Nr1_1, rfl, rfl, pj0, pj1⟩ := hI
      have hr1_1 := pj0
      have hi1_1 := pj1
      refine sq ?_
      refine sr ?_
      refine asg rfl rfl ?_
      refine nl ?_
      refine bl (lp ((lT x1_1.1).length) (fun k1_1 l' H' L' => ∃ (es1_1 : List (KE 6)) (M1_1 RN1_1 : Chunk), [(2, .bool false), (7, .pointer (some ⟨b_1, 0, none⟩)), (8, .int .i16 v), (9, .bool (decide ((1 : Int) ≤ v))), (10, .pointer (some ⟨b, 0, none⟩)), (12, .slice none 0 0), (13, .slice a1 (lT x1.1).length c1), (14, .int .i32 (rArr false x0.2).1), (15, .int .i32 (k1 : Int)), (17, .pointer (some ⟨g1, 0 + k1 * 3, none⟩)), (19, .slice none 0 0), (20, .slice a1_1 (lT x1_1.1).length c1_1), (21, .int .i32 (rArr false x1_0.2).1), (22, .int .i32 (k1_1 : Int))] = l' ∧ M1_1 :: RN1_1 :: [(g1, .cells ((es1.flatMap fk) ++ ([.string ⟨x1_0.1.s.toArray⟩, .slice none 0 0, .map none] : List Value) ++ po1).toArray 166 (0, 0))] :: [(b, .cells [.int .i16 v, .pointer p0, .slice none 0 0, .slice none 0 0, .map none].toArray 160 (0, 0))] :: L = L' ∧ RdAt H' 232 b_1 (rMany (decV 10 (decP fs_sEndQuorumEpochRequestTopicPartition v false) false false) k1_1 (rArr false x1_0.2).2).2 RN1_1 ∧ Row 283 6 a1_1 (lT x1_1.1).length c1_1 (es1_1.flatMap fk ++ reps [.int .i32 0, .int .i32 0, .int .i32 0, .slice none 0 0, .slice none 0 0, .map none] ((lT x1_1.1).length - k1_1)) M1_1 ∧ es1_1.map (·.2) = (rMany (decV 10 (decP fs_sEndQuorumEpochRequestTopicPartition v false) false false) k1_1 (rArr false x1_0.2).2).1 ∧ ∀ p ∈ es1_1, At_EndQuorumEpochRequestTopicPartition H' p.2 (fk p)) [(2, .bool false), (7, .pointer (some ⟨b_1, 0, none⟩)), (8, .int .i16 v), (9, .bool (decide ((1 : Int) ≤ v))), (10, .pointer (some ⟨b, 0, none⟩)), (12, .slice none 0 0), (13, .slice a1 (lT x1.1).length c1), (14, .int .i32 (rArr false x0.2).1), (15, .int .i32 (k1 : Int)), (17, .pointer (some ⟨g1, 0 + k1 * 3, none⟩)), (19, .slice none 0 0), (20, .slice a1_1 (lT x1_1.1).length c1_1), (21, .int .i32 (rArr false x1_0.2).1), (22, .int .i32 (0 : Int))] (.cons rfl (.cons rfl (.cons rfl (.cons rfl (.cons rfl (.cons rfl (.cons rfl (.cons rfl (.cons rfl (.cons rfl (.cons rfl (.cons rfl (.cons rfl (.cons rfl (.nil _))))))))))))))) ⟨[], Nr1_1, _, rfl, rfl, (hR121.mono le_6), hr1_1, rfl, (fun p hp => by cases hp)⟩ (fun k1_1 l' H' L' hk1_1 le_7 hI => ?_))
      obtain ⟨es1_1, M1_1, RN1_1, rfl, rfl, hR_1_1, hw_1_1, he_1_1, hg_1_1⟩ := hI
      have hs_1_1 := els_len he_1_1
      have hp_1_1 : (es1_1.flatMap fk).length = k1_1 * 6 := els_flat hs_1_1
      refine sq ?_
      refine sr ?_
      refine mv rfl rfl ?_
      refine mv rfl rfl ?_
      refine lt rfl rfl rfl ?_
      refine nl ?_
      refine cd rfl (fun h134 => ?_) (fun h134 => ?_)
      ·
       have hkl1_1 : k1_1 < (lT x1_1.1).length := by omega
       obtain ⟨g1_1, po1_1, hga1_1, rfl, hbk1_1⟩ := hw_1_1.next (zs := [.int .i32 0, .int .i32 0, .int .i32 0, .slice none 0 0, .slice none 0 0, .map none]) hkl1_1 rfl (by decide)
       have ho1_1 : 0 + k1_1 * 6 = (es1_1.flatMap fk).length := by rw [hp_1_1]; omega
       have hbz1_1 : ((decV 10 (decP fs_sEndQuorumEpochRequestTopicPartition v false) false false) (rMany (decV 10 (decP fs_sEndQuorumEpochRequestTopicPartition v false) false false) k1_1 (rArr false x1_0.2).2).2).2.bad = true → (decP fs_EndQuorumEpochRequest v false ⟨s, false, !a.isNone⟩).2.bad = true := fun h => hB1_1 (by rw [ex1_1]; exact rMany_mono (fun r h => decV_bad (fun r h => decP_bad _ _ _ r h) h) _ (show k1_1 + 1 ≤ (lT x1_1.1).length from hkl1_1) (by rw [rMany_succ]; exact h))
       have hLk1_1 : (rMany (decV 10 (decP fs_sEndQuorumEpochRequestTopicPartition v false) false false) k1_1 (rArr false x1_0.2).2).2.s.length ≤ BR := Nat.le_trans (rMany_shr (fun r => decV_shr (fun r => decP_shr _ _ _ r) r) _ _) hm1_1
       have hL1_1__ := hLk1_1
       obtain ⟨x1_1_0, hx1_1_0⟩ : ∃ x, x = stepF (Fd.mk 3 0 (-1) (-1) (-1) 0 0 []) v false (rMany (decV 10 (decP fs_sEndQuorumEpochRequestTopicPartition v false) false false) k1_1 (rArr false x1_0.2).2).2 := ⟨_, rfl⟩
       obtain ⟨x1_1_1, hx1_1_1⟩ : ∃ x, x = stepF (Fd.mk 3 0 (-1) (-1) (-1) 0 0 []) v false x1_1_0.2 := ⟨_, rfl⟩
       obtain ⟨x1_1_2, hx1_1_2⟩ : ∃ x, x = stepF (Fd.mk 3 0 (-1) (-1) (-1) 0 0 []) v false x1_1_1.2 := ⟨_, rfl⟩
       obtain ⟨x1_1_3, hx1_1_3⟩ : ∃ x, x = stepF (Fd.mk 11 0 0 (-1) (-1) 0 3 []) v false x1_1_2.2 := ⟨_, rfl⟩
       obtain ⟨x1_1_4, hx1_1_4⟩ : ∃ x, x = stepF (Fd.mk 11 1 (-1) (-1) (-1) 0 10 fs_sEndQuorumEpochRequestTopicPartitionPreferredCandidate) v false x1_1_3.2 := ⟨_, rfl⟩
       obtain ⟨u1_1_, hu1_1_⟩ : ∃ x, x = tailU false x1_1_4.2 := ⟨_, rfl⟩
       have hD1_1_ : decP fs_sEndQuorumEpochRequestTopicPartition v false (rMany (decV 10 (decP fs_sEndQuorumEpochRequestTopicPartition v false) false false) k1_1 (rArr false x1_0.2).2).2 = (.mk 0 [] false [x1_1_0.1, x1_1_1.1, x1_1_2.1, x1_1_3.1, x1_1_4.1] u1_1_.1, u1_1_.2) := by
        generalize ((rMany (decV 10 (decP fs_sEndQuorumEpochRequestTopicPartition v false) false false) k1_1 (rArr false x1_0.2).2).2 : Rd) = r_ at hx1_1_0 ⊢
        rw [decP_eq]; unfold fs_sEndQuorumEpochRequestTopicPartition; simp only [decFs_cons, decFs_nil, ← hx1_1_0, ← hx1_1_1, ← hx1_1_2, ← hx1_1_3, ← hx1_1_4, ← hu1_1_]
       have hL1_1_0 : x1_1_0.2.s.length ≤ BR := by rw [hx1_1_0]; exact Nat.le_trans (stepF_shr _ _ _ _) hL1_1__
       have hL1_1_1 : x1_1_1.2.s.length ≤ BR := by rw [hx1_1_1]; exact Nat.le_trans (stepF_shr _ _ _ _) hL1_1_0
       have hL1_1_2 : x1_1_2.2.s.length ≤ BR := by rw [hx1_1_2]; exact Nat.le_trans (stepF_shr _ _ _ _) hL1_1_1
       have hL1_1_3 : x1_1_3.2.s.length ≤ BR := by rw [hx1_1_3]; exact Nat.le_trans (stepF_shr _ _ _ _) hL1_1_2
       have hL1_1_4 : x1_1_4.2.s.length ≤ BR := by rw [hx1_1_4]; exact Nat.le_trans (stepF_shr _ _ _ _) hL1_1_3
       have hE1_1_ : u1_1_.2.bad = true → (decP fs_EndQuorumEpochRequest v false ⟨s, false, !a.isNone⟩).2.bad = true := fun h => hbz1_1 (by show (decP fs_sEndQuorumEpochRequestTopicPartition v false (rMany (decV 10 (decP fs_sEndQuorumEpochRequestTopicPartition v false) false false) k1_1 (rArr false x1_0.2).2).2).2.bad = true; rw [hD1_1_]; exact h)
       have hB1_1_4 : x1_1_4.2.bad = true → (decP fs_EndQuorumEpochRequest v false ⟨s, false, !a.isNone⟩).2.bad = true := fun h => hE1_1_ (by rw [hu1_1_]; exact tailU_bad h)
       have hB1_1_3 : x1_1_3.2.bad = true → (decP fs_EndQuorumEpochRequest v false ⟨s, false, !a.isNone⟩).2.bad = true := fun h => hB1_1_4 (by rw [hx1_1_4]; exact step_bad h)
       have hB1_1_2 : x1_1_2.2.bad = true → (decP fs_EndQuorumEpochRequest v false ⟨s, false, !a.isNone⟩).2.bad = true := fun h => hB1_1_3 (by rw [hx1_1_3]; exact step_bad h)
       have hB1_1_1 : x1_1_1.2.bad = true → (decP fs_EndQuorumEpochRequest v false ⟨s, false, !a.isNone⟩).2.bad = true := fun h => hB1_1_2 (by rw [hx1_1_2]; exact step_bad h)
       have hB1_1_0 : x1_1_0.2.bad = true → (decP fs_EndQuorumEpochRequest v false ⟨s, false, !a.isNone⟩).2.bad = true := fun h => hB1_1_1 (by rw [hx1_1_1]; exact step_bad h)
       refine skt ?_
       refine sq ?_
       refine bl ?_
       refine sr ?_
       refine mv rfl rfl ?_
       refine mv rfl rfl ?_
       refine ixk (j := k1_1) Tryz.runUnderlying164 Tryz.sizeOf283 rfl hga1_1 rfl rfl hkl1_1 rfl ?_
       refine asg rfl rfl ?_
       refine nl ?_
       refine sr ?_
       refine mv rfl rfl ?_
       refine cl rfl rfl rfl (def_EndQuorumEpochRequestTopicPartition ho1_1) rfl (fun v_ H1 L1 hle_ hR_ => ?_)
       obtain ⟨rfl, rfl⟩ := hR_
       refine nl ?_
       refine sr ?_
       refine mv rfl rfl ?_
       refine asg rfl rfl ?_
       refine nl ?_
       refine sq ?_
       refine sr ?_
       refine tf (.tail .head) ?_
       have ex1_1_0 : x1_1_0 = decV 3 (decP [] v false) false false (rMany (decV 10 (decP fs_sEndQuorumEpochRequestTopicPartition v false) false false) k1_1 (rArr false x1_0.2).2).2 := (hx1_1_0.trans (step_yes (by decide) (show (0 : Int) ≤ v by omega) (Or.inl (by decide)))).trans (decF'_val (by decide) (rfl))
       refine cl rfl rfl rfl (d3 hR_1_1 ex1_1_0) rfl (fun v_ H1 L1 hle_ hR_ => ?_)
       obtain ⟨N143, rfl, hR143, rfl, rfl⟩ := hR_
       refine asg rfl rfl ?_
       refine nl ?_
       refine rg ?_
       refine mv rfl rfl ?_
       refine mv rfl rfl ?_
       refine nc rfl rfl ?_
       refine fa F283_0 rfl rfl ?_
       refine stM (off := 0) Tryz.sizeOf21 rfl (by rw [ho1_1]) rfl rfl rfl (.tail .head) ?_
       refine nl ?_
       refine sq ?_
       refine sr ?_
       have ex1_1_1 : x1_1_1 = decV 3 (decP [] v false) false false x1_1_0.2 := (hx1_1_1.trans (step_yes (by decide) (show (0 : Int) ≤ v by omega) (Or.inl (by decide)))).trans (decF'_val (by decide) (rfl))
       refine cl rfl rfl rfl (d3 hR143 ex1_1_1) rfl (fun v_ H1 L1 hle_ hR_ => ?_)
       obtain ⟨N148, rfl, hR148, rfl, rfl⟩ := hR_
       refine asg rfl rfl ?_
       refine nl ?_
       refine rg ?_
       refine mv rfl rfl ?_
       refine mv rfl rfl ?_
       refine nc rfl rfl ?_
       refine fa F283_1 rfl rfl ?_
       refine stM (off := 1) Tryz.sizeOf21 rfl (by rw [ho1_1]) rfl rfl rfl (.tail .head) ?_
       refine nl ?_
       refine sq ?_
       refine sr ?_
       have ex1_1_2 : x1_1_2 = decV 3 (decP [] v false) false false x1_1_1.2 := (hx1_1_2.trans (step_yes (by decide) (show (0 : Int) ≤ v by omega) (Or.inl (by decide)))).trans (decF'_val (by decide) (rfl))
       refine cl rfl rfl rfl (d3 hR148 ex1_1_2) rfl (fun v_ H1 L1 hle_ hR_ => ?_)
       obtain ⟨N153, rfl, hR153, rfl, rfl⟩ := hR_
       refine asg rfl rfl ?_
       refine nl ?_
       refine rg ?_
       refine mv rfl rfl ?_
       refine mv rfl rfl ?_
       refine nc rfl rfl ?_
       refine fa F283_2 rfl rfl ?_
       refine stM (off := 2) Tryz.sizeOf21 rfl (by rw [ho1_1]) rfl rfl rfl (.tail .head) ?_
       refine nl ?_
       refine sq ?_
       refine sr ?_
       refine mv rfl rfl ?_
       refine ge rfl rfl rfl ?_
       refine mv rfl rfl ?_
       refine spl (t := 160) rfl (fun _ => ?_) (fun hn_ => absurd (by omega) hn_)
       refine gr rfl rfl ?_
       refine mv rfl rfl ?_
       refine gr rfl rfl ?_
       refine le rfl rfl rfl ?_
       refine pk rfl rfl rfl rfl ?_
       refine nl ?_
       refine cdT rfl (by omega) ?_
       refine sr ?_
       refine mv rfl rfl ?_
       refine nc rfl rfl ?_
       refine fa F283_3 rfl rfl ?_
       refine ld (j := 3) (off := 0 + k1_1 * 6) (Says.mid (.tail .head) ho1_1) Tryz.isAgg227 rfl rfl rfl rfl ?_
       refine asg rfl rfl ?_
       refine nl ?_
       refine sr ?_
       refine mv rfl rfl ?_
       refine asg rfl rfl ?_
       refine nl ?_
       refine sr ?_
       refine asg rfl rfl ?_
       refine nl ?_
       refine sq ?_
       refine sr ?_
       refine mv rfl rfl ?_
       refine nl ?_
       refine cdF rfl (by omega) ?_
       refine rg ?_
       have ey1_1_3 : x1_1_3 = (.mk 0 [] (if 0 ≤ ((-1) : Int) ∧ (v < ((-1) : Int) ∨ (rArr false x1_1_2.2).1 = 0) then false else decide ((rArr false x1_1_2.2).1 ≤ 0)) (rMany (decV 3 (decP [] v false) false false) (rArr false x1_1_2.2).1.toNat (rArr false x1_1_2.2).2).1 [], (rMany (decV 3 (decP [] v false) false false) (rArr false x1_1_2.2).1.toNat (rArr false x1_1_2.2).2).2) := (hx1_1_3.trans (step_yes (by decide) (show (0 : Int) ≤ v by omega) (Or.inr (show v ≤ (0 : Int) by omega)))).trans (decF'_list rfl rfl)
       have hn1_1_3 : (rArr false x1_1_2.2).1.toNat = (lT x1_1_3.1).length := by rw [ey1_1_3]; exact (lT_many nul_le).symm
       have ex1_1_3 := ey1_1_3
       rw [hn1_1_3] at ex1_1_3
       have hl1_1_3 := rArr_le false x1_1_2.2
       have hm1_1_3 : (rArr false x1_1_2.2).2.s.length ≤ BR := Nat.le_trans (rArr_len false x1_1_2.2) hL1_1_2
       have hnb1_1_3 : (lT x1_1_3.1).length ≤ BR := by omega
       refine cl rfl rfl rfl (r_arrf hR153) rfl (fun v_ H1 L1 hle_ hR_ => ?_)
       obtain ⟨rfl, N171, rfl, hR171, rfl⟩ := hR_
       have hh1_1_3 := rArr_hi false x1_1_2.2
       refine asg rfl rfl ?_
       refine nl ?_
       refine sq ?_
       refine sr ?_
       refine cl rfl rfl rfl (r_ok hR171) rfl (fun v_ H1 L1 hle_ hR_ => ?_)
       obtain ⟨rfl, rfl, rfl⟩ := hR_
       refine nt rfl rfl ?_
       refine nl ?_
       refine cb rfl (fun h173 => ?_) (fun h173 => ?_)
       ·
        have hbad_ : (rArr false x1_1_2.2).2.bad = true := by simpa using h173
        refine sr ?_
        refine cl rfl rfl rfl (r_complete hR171 (he.mono (le_2.trans (le_3.trans (le_4.trans (le_6.trans le_7)))))) rfl (fun v_ H1 L1 hle_ hR_ => ?_)
        obtain ⟨rfl, rfl, rfl⟩ := hR_
        refine asg rfl rfl ?_
        refine nl ?_
        refine drW .head ?_
        refine drW .head ?_
        refine drW .head ?_
        exact rT rfl rfl (le_2.trans (le_3.trans (le_4.trans (le_6.trans le_7)))) (fun _ _ h => h) ⟨_, rfl, RdEnd.out (hB1_1_3 (by rw [ey1_1_3]; exact rMany_bad (fun r h => decV_bad (decP_bad _ _ _) h) _ _ hbad_)) hbad_⟩
       ·
        refine skt ?_
        refine sr ?_
        refine mv rfl rfl ?_
        refine sh' (j := 0) Tryz.runUnderlying227 Tryz.sizeOf21 rfl rfl rfl (Nat.zero_le _) rfl ?_
        refine asg rfl rfl ?_
        refine nl ?_
        refine sq ?_
        refine sr ?_
        refine mv rfl rfl ?_
        refine gt rfl rfl rfl ?_
        refine nl ?_
        refine nulC2 ?_
        refine cutT (fun l' H' L' => ∃ (a1_1_3 : Option Addr), ∃ (c1_1_3 : Nat), ∃ (Nr1_1_3 : Chunk), [(2, .bool false), (7, .pointer (some ⟨b_1, 0, none⟩)), (8, .int .i16 v), (9, .bool (decide ((1 : Int) ≤ v))), (10, .pointer (some ⟨b, 0, none⟩)), (12, .slice none 0 0), (13, .slice a1 (lT x1.1).length c1), (14, .int .i32 (rArr false x0.2).1), (15, .int .i32 (k1 : Int)), (17, .pointer (some ⟨g1, 0 + k1 * 3, none⟩)), (19, .slice none 0 0), (20, .slice a1_1 (lT x1_1.1).length c1_1), (21, .int .i32 (rArr false x1_0.2).1), (22, .int .i32 (k1_1 : Int)), (24, .pointer (some ⟨g1_1, 0 + k1_1 * 6, none⟩)), (28, .slice none 0 0), (29, .slice a1_1_3 (lT x1_1_3.1).length c1_1_3), (30, .int .i32 (rArr false x1_1_2.2).1)] = l' ∧ Nr1_1_3 :: N171 :: [(g1_1, .cells ((es1_1.flatMap fk) ++ ([.int .i32 (IntKind.i32.wrap x1_1_0.1.n), .int .i32 (IntKind.i32.wrap x1_1_1.1.n), .int .i32 (IntKind.i32.wrap x1_1_2.1.n), .slice none 0 0, .slice none 0 0, .map none] : List Value) ++ po1_1).toArray 283 (0, 0))] :: [(g1, .cells ((es1.flatMap fk) ++ ([.string ⟨x1_0.1.s.toArray⟩, .slice none 0 0, .map none] : List Value) ++ po1).toArray 166 (0, 0))] :: [(b, .cells [.int .i16 v, .pointer p0, .slice none 0 0, .slice none 0 0, .map none].toArray 160 (0, 0))] :: L = L' ∧ Row 21 1 a1_1_3 (lT x1_1_3.1).length c1_1_3 (reps [.int .i32 0] (lT x1_1_3.1).length) Nr1_1_3 ∧ a1_1_3.isNone = (if 0 ≤ ((-1) : Int) ∧ (v < ((-1) : Int) ∨ (rArr false x1_1_2.2).1 = 0) then false else decide ((rArr false x1_1_2.2).1 ≤ 0))) ?_ (fun l' H' L' le_11 hI => ?_)
        ·
         refine cd rfl (fun h178 => ?_) (fun h178 => ?_)
         ·
          refine rg ?_
          refine mv rfl rfl ?_
          refine mv rfl rfl ?_
          refine apz (zs := [.int .i32 0]) (m := (lT x1_1_3.1).length) Tryz.underlying227 Tryz.underlying21 I21 rfl rfl rfl (by omega) (by omega) (by have h9 := hnb1_1_3; unfold BR at h9; omega) (by have h9 := hnb1_1_3; unfold BR at h9; unfold maxLen; omega) rfl (fun g181 cp181 N181 r181 => ?_)
          refine asg rfl rfl ?_
          refine nN ?_
          refine drN (.tail .head) ?_
          refine fun a_ w_ hA hw => ⟨_, _, _, hA.sub ?_, (Fz.le.refl _), hw, (some ⟨g181, 0, none⟩), cp181, N181, rfl, rfl, r181, (by rw [if_neg (by omega)]; exact (decide_eq_false (by omega)).symm)⟩
          exact (.cons rfl (.cons rfl (.cons rfl (.cons rfl (.cons rfl (.cons rfl (.cons rfl (.cons rfl (.cons rfl (.cons rfl (.cons rfl (.cons rfl (.cons rfl (.cons rfl (.cons rfl (.cons rfl (.cons rfl (.cons rfl (.nil _)))))))))))))))))))
         ·
          refine skN ?_
          refine fun a_ w_ hA hw => ⟨_, _, _, hA.sub ?_, (Fz.le.refl _), hw, none, 0, [], rfl, rfl, (by rw [show (lT x1_1_3.1).length = 0 by omega]; exact (Row.nil _ _)), (by rw [if_neg (by omega)]; exact (decide_eq_true (by omega)).symm)⟩
          exact (.cons rfl (.cons rfl (.cons rfl (.cons rfl (.cons rfl (.cons rfl (.cons rfl (.cons rfl (.cons rfl (.cons rfl (.cons rfl (.cons rfl (.cons rfl (.cons rfl (.cons rfl (.cons rfl (.cons (by rw [show (lT x1_1_3.1).length = 0 by omega]; rfl) (.cons rfl (.nil _)))))))))))))))))))
        ·
         obtain ⟨a1_1_3, c1_1_3, Nr1_1_3, rfl, rfl, pj0, pj1⟩ := hI
         have hr1_1_3 := pj0
         have hi1_1_3 := pj1
         refine sq ?_
         refine sr ?_
         refine asg rfl rfl ?_
         refine nl ?_
         refine bl (lp ((lT x1_1_3.1).length) (fun k1_1_3 l' H' L' => ∃ (es1_1_3 : List (KE 1)) (M1_1_3 RN1_1_3 : Chunk), [(2, .bool false), (7, .pointer (some ⟨b_1, 0, none⟩)), (8, .int .i16 v), (9, .bool (decide ((1 : Int) ≤ v))), (10, .pointer (some ⟨b, 0, none⟩)), (12, .slice none 0 0), (13, .slice a1 (lT x1.1).length c1), (14, .int .i32 (rArr false x0.2).1), (15, .int .i32 (k1 : Int)), (17, .pointer (some ⟨g1, 0 + k1 * 3, none⟩)), (19, .slice none 0 0), (20, .slice a1_1 (lT x1_1.1).length c1_1), (21, .int .i32 (rArr false x1_0.2).1), (22, .int .i32 (k1_1 : Int)), (24, .pointer (some ⟨g1_1, 0 + k1_1 * 6, none⟩)), (28, .slice none 0 0), (29, .slice a1_1_3 (lT x1_1_3.1).length c1_1_3), (30, .int .i32 (rArr false x1_1_2.2).1), (31, .int .i32 (k1_1_3 : Int))] = l' ∧ M1_1_3 :: RN1_1_3 :: [(g1_1, .cells ((es1_1.flatMap fk) ++ ([.int .i32 (IntKind.i32.wrap x1_1_0.1.n), .int .i32 (IntKind.i32.wrap x1_1_1.1.n), .int .i32 (IntKind.i32.wrap x1_1_2.1.n), .slice none 0 0, .slice none 0 0, .map none] : List Value) ++ po1_1).toArray 283 (0, 0))] :: [(g1, .cells ((es1.flatMap fk) ++ ([.string ⟨x1_0.1.s.toArray⟩, .slice none 0 0, .map none] : List Value) ++ po1).toArray 166 (0, 0))] :: [(b, .cells [.int .i16 v, .pointer p0, .slice none 0 0, .slice none 0 0, .map none].toArray 160 (0, 0))] :: L = L' ∧ RdAt H' 232 b_1 (rMany (decV 3 (decP [] v false) false false) k1_1_3 (rArr false x1_1_2.2).2).2 RN1_1_3 ∧ Row 21 1 a1_1_3 (lT x1_1_3.1).length c1_1_3 (es1_1_3.flatMap fk ++ reps [.int .i32 0] ((lT x1_1_3.1).length - k1_1_3)) M1_1_3 ∧ es1_1_3.map (·.2) = (rMany (decV 3 (decP [] v false) false false) k1_1_3 (rArr false x1_1_2.2).2).1 ∧ ∀ p ∈ es1_1_3, RI32 H' p.2 (fk p)) [(2, .bool false), (7, .pointer (some ⟨b_1, 0, none⟩)), (8, .int .i16 v), (9, .bool (decide ((1 : Int) ≤ v))), (10, .pointer (some ⟨b, 0, none⟩)), (12, .slice none 0 0), (13, .slice a1 (lT x1.1).length c1), (14, .int .i32 (rArr false x0.2).1), (15, .int .i32 (k1 : Int)), (17, .pointer (some ⟨g1, 0 + k1 * 3, none⟩)), (19, .slice none 0 0), (20, .slice a1_1 (lT x1_1.1).length c1_1), (21, .int .i32 (rArr false x1_0.2).1), (22, .int .i32 (k1_1 : Int)), (24, .pointer (some ⟨g1_1, 0 + k1_1 * 6, none⟩)), (28, .slice none 0 0), (29, .slice a1_1_3 (lT x1_1_3.1).length c1_1_3), (30, .int .i32 (rArr false x1_1_2.2).1), (31, .int .i32 (0 : Int))] (.cons rfl (.cons rfl (.cons rfl (.cons rfl (.cons rfl (.cons rfl (.cons rfl (.cons rfl (.cons rfl (.cons rfl (.cons rfl (.cons rfl (.cons rfl (.cons rfl (.cons rfl (.cons rfl (.cons rfl (.cons rfl (.cons rfl (.nil _)))))))))))))))))))) ⟨[], Nr1_1_3, _, rfl, rfl, (hR171.mono le_11), hr1_1_3, rfl, (fun p hp => by cases hp)⟩ (fun k1_1_3 l' H' L' hk1_1_3 le_12 hI => ?_))
         obtain ⟨es1_1_3, M1_1_3, RN1_1_3, rfl, rfl, hR_1_1_3, hw_1_1_3, he_1_1_3, hg_1_1_3⟩ := hI
         have hs_1_1_3 := els_len he_1_1_3
         have hp_1_1_3 : (es1_1_3.flatMap fk).length = k1_1_3 * 1 := els_flat hs_1_1_3
         refine sq ?_
         refine sr ?_
         refine mv rfl rfl ?_
         refine mv rfl rfl ?_
         refine lt rfl rfl rfl ?_
         refine nl ?_
         refine cd rfl (fun h184 => ?_) (fun h184 => ?_)
         ·
          have hkl1_1_3 : k1_1_3 < (lT x1_1_3.1).length := by omega
          obtain ⟨g1_1_3, po1_1_3, hga1_1_3, rfl, hbk1_1_3⟩ := hw_1_1_3.next (zs := [.int .i32 0]) hkl1_1_3 rfl (by decide)
          have ho1_1_3 : 0 + k1_1_3 * 1 = (es1_1_3.flatMap fk).length := by rw [hp_1_1_3]; omega
          have hbz1_1_3 : ((decV 3 (decP [] v false) false false) (rMany (decV 3 (decP [] v false) false false) k1_1_3 (rArr false x1_1_2.2).2).2).2.bad = true → (decP fs_EndQuorumEpochRequest v false ⟨s, false, !a.isNone⟩).2.bad = true := fun h => hB1_1_3 (by rw [ex1_1_3]; exact rMany_mono (fun r h => decV_bad (fun r h => decP_bad _ _ _ r h) h) _ (show k1_1_3 + 1 ≤ (lT x1_1_3.1).length from hkl1_1_3) (by rw [rMany_succ]; exact h))
          have hLk1_1_3 : (rMany (decV 3 (decP [] v false) false false) k1_1_3 (rArr false x1_1_2.2).2).2.s.length ≤ BR := Nat.le_trans (rMany_shr (fun r => decV_shr (fun r => decP_shr _ _ _ r) r) _ _) hm1_1_3
          obtain ⟨y1_1_3, hy1_1_3⟩ : ∃ x, x = (decV 3 (decP [] v false) false false) (rMany (decV 3 (decP [] v false) false false) k1_1_3 (rArr false x1_1_2.2).2).2 := ⟨_, rfl⟩
          refine skt ?_
          refine sq ?_
          refine bl ?_
          refine sr ?_
          refine tf (.tail .head) ?_
          refine cl rfl rfl rfl (d3 hR_1_1_3 hy1_1_3) rfl (fun v_ H1 L1 hle_ hR_ => ?_)
          obtain ⟨N187, rfl, hR187, rfl, rfl⟩ := hR_
          refine asg rfl rfl ?_
          refine nl ?_
          refine rg ?_
          refine mv rfl rfl ?_
          refine mv rfl rfl ?_
          refine mv rfl rfl ?_
          refine ixk (j := k1_1_3) Tryz.runUnderlying227 Tryz.sizeOf21 rfl hga1_1_3 rfl rfl hkl1_1_3 rfl ?_
          refine stM (off := 0) Tryz.sizeOf21 rfl ho1_1_3 rfl rfl rfl (.tail .head) ?_
          refine nN ?_
          refine Nb ?_
          refine Nt ?_
          refine rg ?_
          refine mv rfl rfl ?_
          refine ad rfl rfl (c := ((k1_1_3 + 1 : Nat) : Int)) ((wrap32_le (by omega) (by omega)).trans (by omega)) rfl ?_
          refine asg rfl rfl ?_
          refine nN ?_
          have hfs1_1_3 := flatMap_snoc' fk es1_1_3 ((⟨([.int .i32 (IntKind.i32.wrap y1_1_3.1.n)] : List Value), rfl, all_one rfl⟩, ((decV 3 (decP [] v false) false false) (rMany (decV 3 (decP [] v false) false false) k1_1_3 (rArr false x1_1_2.2).2).2).1) : KE 1)
          have hrw1_1_3 := hbk1_1_3 ([.int .i32 (IntKind.i32.wrap y1_1_3.1.n)] : List Value) rfl
          refine tfN (.tail .head) ?_
          refine fun a_ w_ hA hw => ⟨hkl1_1_3, _, _, _, hA.sub ?_, le_12, hw, _, _, _, rfl, rfl, (by rw [rMany_succ, ← hy1_1_3]; exact hR187), (by rw [← hfs1_1_3]; exact hrw1_1_3), (dec_els he_1_1_3), (fun p hp => (mem_snoc hp).elim (fun h => RI32.mono _ _ _ _ (Fz.le.refl _) (hg_1_1_3 p h)) (fun h => h ▸ (by show RI32 _ ((decV 3 (decP [] v false) false false) (rMany (decV 3 (decP [] v false) false false) k1_1_3 (rArr false x1_1_2.2).2).2).1 [.int .i32 (IntKind.i32.wrap y1_1_3.1.n)]; rw [← hy1_1_3]; rfl)))⟩
          exact (.cons rfl (.cons rfl (.cons rfl (.cons rfl (.cons rfl (.cons rfl (.cons rfl (.cons rfl (.cons rfl (.cons rfl (.cons rfl (.cons rfl (.cons rfl (.cons rfl (.cons rfl (.cons rfl (.cons rfl (.cons rfl (.cons rfl (.nil _))))))))))))))))))))
         ·
          have hkn_ : k1_1_3 = (lT x1_1_3.1).length := by omega
          subst hkn_
          have hw2_1_1_3 : Row 21 1 a1_1_3 (lT x1_1_3.1).length c1_1_3 (es1_1_3.flatMap fk) M1_1_3 := by have h := hw_1_1_3; rw [Nat.sub_self] at h; simpa [reps] using h
          refine frW hw2_1_1_3 .head (fun Hf1_1_3 hlf1_1_3 hfz1_1_3 => ?_)
          have hrs1_1_3 := RowsAt.row (R := RI32) hfz1_1_3 hs_1_1_3.symm hw2_1_1_3.le.1 (fun p hp => RI32.mono _ _ _ _ hlf1_1_3 (hg_1_1_3 p hp))
          rw [he_1_1_3] at hrs1_1_3
          have hf1_1_3 : ListAt Hf1_1_3 x1_1_3.1 1 RI32 a1_1_3 c1_1_3 := by rw [ex1_1_3]; exact listAt_of hrs1_1_3 hi1_1_3 (fun h => by have h1 := nul_le h; rw [show (lT x1_1_3.1).length = 0 by omega]; rfl)
          have hRx1_1_3 : RdAt Hf1_1_3 232 b_1 x1_1_3.2 RN1_1_3 := by rw [ex1_1_3]; exact (hR_1_1_3.mono hlf1_1_3)
          refine exX ?_
          refine XT ?_
          refine XT ?_
          refine Xb ?_
          refine Nt ?_
          refine sr ?_
          refine mv rfl rfl ?_
          refine asg rfl rfl ?_
          refine nl ?_
          refine rg ?_
          refine mv rfl rfl ?_
          refine mv rfl rfl ?_
          refine nc rfl rfl ?_
          refine fa F283_3 rfl rfl ?_
          refine stM (off := 3) Tryz.sizeOf227 rfl (by rw [ho1_1]) rfl rfl rfl (.tail .head) ?_
          refine nl ?_
          refine sq ?_
          refine sr ?_
          refine mv rfl rfl ?_
          refine ge rfl rfl rfl ?_
          refine nl ?_
          refine cdF rfl (by omega) ?_
          refine skt ?_
          refine sr ?_
          refine mv rfl rfl ?_
          refine nl ?_
          refine cdF rfl (by omega) ?_
          refine skN ?_
          refine Nb ?_
          refine Nt ?_
          refine rg ?_
          refine mv rfl rfl ?_
          refine ad rfl rfl (c := ((k1_1 + 1 : Nat) : Int)) ((wrap32_le (by omega) (by omega)).trans (by omega)) rfl ?_
          refine asg rfl rfl ?_
          refine nN ?_
          obtain rfl : x1_1_4 = ((Tr.mk 0 [] true [] []), x1_1_3.2) := (hx1_1_4.trans (step_no (Or.inl (show v < (1 : Int) by omega)))).trans (by rw [dflF_eq]; rfl)
          obtain rfl : u1_1_ = ([], x1_1_3.2) := hu1_1_
          have hfs1_1 := flatMap_snoc' fk es1_1 ((⟨([.int .i32 (IntKind.i32.wrap x1_1_0.1.n), .int .i32 (IntKind.i32.wrap x1_1_1.1.n), .int .i32 (IntKind.i32.wrap x1_1_2.1.n), .slice a1_1_3 (lT x1_1_3.1).length c1_1_3, .slice none 0 0, .map none] : List Value), rfl, all_one rfl⟩, ((decV 10 (decP fs_sEndQuorumEpochRequestTopicPartition v false) false false) (rMany (decV 10 (decP fs_sEndQuorumEpochRequestTopicPartition v false) false false) k1_1 (rArr false x1_0.2).2).2).1) : KE 6)
          have hrw1_1 := hbk1_1 ([.int .i32 (IntKind.i32.wrap x1_1_0.1.n), .int .i32 (IntKind.i32.wrap x1_1_1.1.n), .int .i32 (IntKind.i32.wrap x1_1_2.1.n), .slice a1_1_3 (lT x1_1_3.1).length c1_1_3, .slice none 0 0, .map none] : List Value) rfl
          refine tfN (.tail .head) ?_
          refine fun a_ w_ hA hw => ⟨hkl1_1, _, _, _, hA.sub ?_, (le_7.trans (le_11.trans (le_12.trans hlf1_1_3))), hw, _, _, _, rfl, rfl, (by rw [rMany_succ]; show RdAt _ 232 b_1 (decP fs_sEndQuorumEpochRequestTopicPartition v false (rMany (decV 10 (decP fs_sEndQuorumEpochRequestTopicPartition v false) false false) k1_1 (rArr false x1_0.2).2).2).2 _; rw [hD1_1_]; exact hRx1_1_3), (by rw [← hfs1_1]; exact hrw1_1), (dec_els he_1_1), (fun p hp => (mem_snoc hp).elim (fun h => At_EndQuorumEpochRequestTopicPartition.mono _ _ _ _ (le_11.trans (le_12.trans hlf1_1_3)) (hg_1_1 p h)) (fun h => h ▸ (by show At_EndQuorumEpochRequestTopicPartition _ (decP fs_sEndQuorumEpochRequestTopicPartition v false (rMany (decV 10 (decP fs_sEndQuorumEpochRequestTopicPartition v false) false false) k1_1 (rArr false x1_0.2).2).2).1 [.int .i32 (IntKind.i32.wrap x1_1_0.1.n), .int .i32 (IntKind.i32.wrap x1_1_1.1.n), .int .i32 (IntKind.i32.wrap x1_1_2.1.n), .slice a1_1_3 (lT x1_1_3.1).length c1_1_3, .slice none 0 0, .map none]; rw [hD1_1_]; exact ⟨a1_1_3, c1_1_3, none, 0, none, rfl, hf1_1_3, (ListAt.none rfl), (KvAt.nil _)⟩)))⟩
          exact (.cons rfl (.cons rfl (.cons rfl (.cons rfl (.cons rfl (.cons rfl (.cons rfl (.cons rfl (.cons rfl (.cons rfl (.cons rfl (.cons rfl (.cons rfl (.cons rfl (.nil _)))))))))))))))
      ·
       have hkn_ : k1_1 = (lT x1_1.1).length := by omega
       subst hkn_
       have hw2_1_1 : Row 283 6 a1_1 (lT x1_1.1).length c1_1 (es1_1.flatMap fk) M1_1 := by have h := hw_1_1; rw [Nat.sub_self] at h; simpa [reps] using h
       refine frW hw2_1_1 .head (fun Hf1_1 hlf1_1 hfz1_1 => ?_)
       have hrs1_1 := RowsAt.row (R := At_EndQuorumEpochRequestTopicPartition) hfz1_1 hs_1_1.symm hw2_1_1.le.1 (fun p hp => At_EndQuorumEpochRequestTopicPartition.mono _ _ _ _ hlf1_1 (hg_1_1 p hp))
       rw [he_1_1] at hrs1_1
       have hf1_1 : ListAt Hf1_1 x1_1.1 6 At_EndQuorumEpochRequestTopicPartition a1_1 c1_1 := by rw [ex1_1]; exact listAt_of hrs1_1 hi1_1 (fun h => by have h1 := nul_le h; rw [show (lT x1_1.1).length = 0 by omega]; rfl)
       have hRx1_1 : RdAt Hf1_1 232 b_1 x1_1.2 RN1_1 := by rw [ex1_1]; exact (hR_1_1.mono hlf1_1)
       refine exX ?_
       refine XT ?_
       refine XT ?_
       refine Xb ?_
       refine Nt ?_
       refine sr ?_
       refine mv rfl rfl ?_
       refine asg rfl rfl ?_
       refine nl ?_
       refine rg ?_
       refine mv rfl rfl ?_
       refine mv rfl rfl ?_
       refine nc rfl rfl ?_
       refine fa F166_1 rfl rfl ?_
       refine stM (off := 1) Tryz.sizeOf164 rfl (by rw [ho1]) rfl rfl rfl (.tail .head) ?_
       refine nl ?_
       refine sr ?_
       refine mv rfl rfl ?_
       refine nl ?_
       refine cdF rfl (by omega) ?_
       refine skN ?_
       refine Nb ?_
       refine Nt ?_
       refine rg ?_
       refine mv rfl rfl ?_
       refine ad rfl rfl (c := ((k1 + 1 : Nat) : Int)) ((wrap32_le (by omega) (by omega)).trans (by omega)) rfl ?_
       refine asg rfl rfl ?_
       refine nN ?_
       obtain rfl : u1_ = ([], x1_1.2) := hu1_
       have hfs1 := flatMap_snoc' fk es1 ((⟨([.string ⟨x1_0.1.s.toArray⟩, .slice a1_1 (lT x1_1.1).length c1_1, .map none] : List Value), rfl, all_one rfl⟩, ((decV 10 (decP fs_sEndQuorumEpochRequestTopic v false) false false) (rMany (decV 10 (decP fs_sEndQuorumEpochRequestTopic v false) false false) k1 (rArr false x0.2).2).2).1) : KE 3)
       have hrw1 := hbk1 ([.string ⟨x1_0.1.s.toArray⟩, .slice a1_1 (lT x1_1.1).length c1_1, .map none] : List Value) rfl
       refine tfN (.tail .head) ?_
       refine fun a_ w_ hA hw => ⟨hkl1, _, _, _, hA.sub ?_, (le_4.trans (le_6.trans (le_7.trans hlf1_1))), hw, _, _, _, rfl, rfl, (by rw [rMany_succ]; show RdAt _ 232 b_1 (decP fs_sEndQuorumEpochRequestTopic v false (rMany (decV 10 (decP fs_sEndQuorumEpochRequestTopic v false) false false) k1 (rArr false x0.2).2).2).2 _; rw [hD1_]; exact hRx1_1), (by rw [← hfs1]; exact hrw1), (dec_els he_1), (fun p hp => (mem_snoc hp).elim (fun h => At_EndQuorumEpochRequestTopic.mono _ _ _ _ (le_6.trans (le_7.trans hlf1_1)) (hg_1 p h)) (fun h => h ▸ (by show At_EndQuorumEpochRequestTopic _ (decP fs_sEndQuorumEpochRequestTopic v false (rMany (decV 10 (decP fs_sEndQuorumEpochRequestTopic v false) false false) k1 (rArr false x0.2).2).2).1 [.string ⟨x1_0.1.s.toArray⟩, .slice a1_1 (lT x1_1.1).length c1_1, .map none]; rw [hD1_]; exact ⟨a1_1, c1_1, none, rfl, hf1_1, (KvAt.nil _)⟩)))⟩
       exact (.cons rfl (.cons rfl (.cons rfl (.cons rfl (.cons rfl (.cons rfl (.cons rfl (.cons rfl (.cons rfl (.nil _))))))))))
   ·
    have hkn_ : k1 = (lT x1.1).length := by omega
    subst hkn_
    have hw2_1 : Row 166 3 a1 (lT x1.1).length c1 (es1.flatMap fk) M1 := by have h := hw_1; rw [Nat.sub_self] at h; simpa [reps] using h
    refine frW hw2_1 .head (fun Hf1 hlf1 hfz1 => ?_)
    have hrs1 := RowsAt.row (R := At_EndQuorumEpochRequestTopic) hfz1 hs_1.symm hw2_1.le.1 (fun p hp => At_EndQuorumEpochRequestTopic.mono _ _ _ _ hlf1 (hg_1 p hp))
    rw [he_1] at hrs1
    have hf1 : ListAt Hf1 x1.1 3 At_EndQuorumEpochRequestTopic a1 c1 := by rw [ex1]; exact listAt_of hrs1 hi1 (fun h => by have h1 := nul_le h; rw [show (lT x1.1).length = 0 by omega]; rfl)
    have hRx1 : RdAt Hf1 232 b_1 x1.2 RN1 := by rw [ex1]; exact (hR_1.mono hlf1)
    refine exX ?_
    refine XT ?_
    refine XT ?_
    refine Xb ?_
    refine Nt ?_
    refine sr ?_
    refine mv rfl rfl ?_
    refine asg rfl rfl ?_
    refine nl ?_
    refine rg ?_
    refine mv rfl rfl ?_
    refine mv rfl rfl ?_
    refine nc rfl rfl ?_
    refine fa0 F160_2 rfl rfl ?_
    refine st Tryz.sizeOf157 rfl rfl rfl rfl (.tail .head) ?_
    refine nl ?_
    refine sq ?_
    refine sr ?_
    refine mv rfl rfl ?_
    refine ge rfl rfl rfl ?_
    refine nl ?_
    refine cdF rfl (by omega) ?_
    refine skt ?_
    refine sq ?_
    refine sr ?_
    refine mv rfl rfl ?_
    refine nl ?_
    refine cdF rfl (by omega) ?_
    refine skt ?_
    refine sr ?_
    refine cl rfl rfl rfl (r_complete hRx1 (he.mono (le_2.trans (le_3.trans (le_4.trans hlf1))))) rfl (fun v_ H1 L1 hle_ hR_ => ?_)
    obtain ⟨rfl, rfl, rfl⟩ := hR_
    refine asg rfl rfl ?_
    refine nl ?_
    refine drW .head ?_
    obtain rfl : x2 = ((Tr.mk 0 [] true [] []), x1.2) := (hx2.trans (step_no (Or.inl (show v < (1 : Int) by omega)))).trans (by rw [dflF_eq]; rfl)
    obtain rfl : u = ([], x1.2) := hu
    have hA_ := (show At_EndQuorumEpochRequest v _ (decP fs_EndQuorumEpochRequest v false _).1 [.int .i16 v, .pointer p0, .slice a1 (lT x1.1).length c1, .slice none 0 0, .map none] from (by rw [hD]; exact ⟨p0, a1, c1, none, 0, none, rfl, (hf0.mono (le_3.trans (le_4.trans hlf1))), hf1, (ListAt.none rfl), (KvAt.nil _)⟩))
    refine rT rfl rfl (le_2.trans (le_3.trans (le_4.trans hlf1))) (fun _ _ h => h) ⟨_, rfl, ?_⟩
    have hz := RdEnd.of (e := e) hA_
    rw [show (decP fs_EndQuorumEpochRequest v false _).2.bad = x1.2.bad by rw [hD]] at hz
    exact hz
theorem rd_EndQuorumEpochRequest_t {H : Fz} {L : Own} {b : Nat} {v : Int} {a : Option Addr} {c : Nat} {s : List UInt8} {e : Value} (hB : BytesAt H a c s) (hL_ : s.length ≤ BR) (he : H.at 1 0 [e]) (hv0 : 1 ≤ v) (hv1 : v ≤ 1) :
  Fn Tryz.prog 169 [.pointer (some ⟨b, 0, none⟩), .slice a s.length c, .bool false] H ([(b, .cells [.int .i16 v, .pointer none, .slice none 0 0, .slice none 0 0, .map none].toArray 160 (0, 0))] :: L) (fun r H' L' => ∃ cs : List Value, L' = [(b, .cells cs.toArray 160 (0, 0))] :: L ∧ RdEnd H' (At_EndQuorumEpochRequest v) (decP fs_EndQuorumEpochRequest v true ⟨s, false, !a.isNone⟩) e r cs) := by
 refine Fn.mk Tryz.call169 Tryz.func169 rfl Tryz.ntmps169 rfl ?_
 refine sr ?_
 refine asg rfl rfl ?_
 refine nl ?_
 refine sr ?_
 refine mv rfl rfl ?_
 refine cl rfl rfl rfl def0_EndQuorumEpochRequest rfl (fun v_ H1 L1 hle_ hR_ => ?_)
 obtain ⟨rfl, rfl⟩ := hR_
 refine nl ?_
 refine sr ?_
 refine mv rfl rfl ?_
 refine bd' S232 rfl rfl rfl ?_
 refine al Tryz.zeroValue232 rfl rfl (fun b_1 => ?_)
 refine sa Tryz.sizeOf232 rfl rfl rfl rfl rfl .head ?_
 have hR0_ : RdAt H 232 b_1 ⟨s, false, !a.isNone⟩ [(b_1, .cells [_, _].toArray 232 (0, 0))] := ⟨a, c, rfl, hB, by simp⟩
 obtain ⟨x0, hx0⟩ : ∃ x, x = stepF (Fd.mk 8 0 (-1) 0 (-1) 0 0 []) v true ⟨s, false, !a.isNone⟩ := ⟨_, rfl⟩
 obtain ⟨x1, hx1⟩ : ∃ x, x = stepF (Fd.mk 11 0 (-1) (-1) (-1) 0 10 fs_sEndQuorumEpochRequestTopic) v true x0.2 := ⟨_, rfl⟩
 obtain ⟨x2, hx2⟩ : ∃ x, x = stepF (Fd.mk 11 1 (-1) (-1) (-1) 0 10 fs_sEndQuorumEpochRequestLeaderEndpoint) v true x1.2 := ⟨_, rfl⟩
 obtain ⟨u, hu⟩ : ∃ x, x = tailU true x2.2 := ⟨_, rfl⟩
 have hD : decP fs_EndQuorumEpochRequest v true ⟨s, false, !a.isNone⟩ = (.mk 0 [] false [x0.1, x1.1, x2.1] u.1, u.2) := by
  generalize (⟨s, false, !a.isNone⟩ : Rd) = r_ at hx0 ⊢
  rw [decP_eq]; unfold fs_EndQuorumEpochRequest; simp only [decFs_cons, decFs_nil, ← hx0, ← hx1, ← hx2, ← hu]
 have hL0 : x0.2.s.length ≤ BR := by rw [hx0]; exact Nat.le_trans (stepF_shr _ _ _ _) hL_
 have hL1 : x1.2.s.length ≤ BR := by rw [hx1]; exact Nat.le_trans (stepF_shr _ _ _ _) hL0
 have hL2 : x2.2.s.length ≤ BR := by rw [hx2]; exact Nat.le_trans (stepF_shr _ _ _ _) hL1
 have hE : u.2.bad = true → (decP fs_EndQuorumEpochRequest v true ⟨s, false, !a.isNone⟩).2.bad = true := fun h => by rw [hD]; exact h
 have hB2 : x2.2.bad = true → (decP fs_EndQuorumEpochRequest v true ⟨s, false, !a.isNone⟩).2.bad = true := fun h => hE (by rw [hu]; exact tailU_bad h)
 have hB1 : x1.2.bad = true → (decP fs_EndQuorumEpochRequest v true ⟨s, false, !a.isNone⟩).2.bad = true := fun h => hB2 (by rw [hx2]; exact step_bad h)
 have hB0 : x0.2.bad = true → (decP fs_EndQuorumEpochRequest v true ⟨s, false, !a.isNone⟩).2.bad = true := fun h => hB1 (by rw [hx1]; exact step_bad h)
 refine nl ?_
 refine sr ?_
 refine mv rfl rfl ?_
 refine nc rfl rfl ?_
 refine fa0 F160_0 rfl rfl ?_
 refine ld (Says.own (.tail .head)) Tryz.isAgg51 rfl (Nat.zero_add _).symm rfl rfl ?_
 refine asg rfl rfl ?_
 refine nl ?_
 refine sr ?_
 refine mv rfl rfl ?_
 refine nl ?_
 refine sr ?_
 refine mv rfl rfl ?_
 refine ge rfl rfl rfl ?_
 refine asg rfl rfl ?_
 refine nl ?_
 refine sr ?_
 refine mv rfl rfl ?_
 refine nl ?_
 refine sr ?_
 refine mv rfl rfl ?_
 refine asg rfl rfl ?_
 refine nl ?_
 refine sq ?_
 refine sr ?_
 refine asg rfl rfl ?_
 refine nl ?_
 refine sq ?_
 refine sr ?_
 refine mv rfl rfl ?_
 refine nl ?_
 refine cdT rfl (by omega) ?_
 refine sr ?_
 refine mv rfl rfl ?_
 refine nl ?_
 refine cF rfl ?_
 refine rg ?_
 have ex0 : x0 = decV 8 (decP [] v true) true true ⟨s, false, !a.isNone⟩ := (hx0.trans (step_yes (by decide) (show (0 : Int) ≤ v by omega) (Or.inl (by decide)))).trans (decF'_val (by decide) (by simp only [Bool.and_eq_true, decide_eq_true_eq]; exact ⟨show (0 : Int) ≤ 0 by decide, show (0 : Int) ≤ v by omega⟩))
 refine cl rfl rfl rfl (d8tn hR0_ ex0) rfl (fun v_ H1 L1 le_2 hR_ => ?_)
 obtain ⟨N66, rfl, hR66, p0, rfl, hf0⟩ := hR_
 refine asg rfl rfl ?_
 refine nl ?_
 refine rg ?_
 refine mv rfl rfl ?_
 refine mv rfl rfl ?_
 refine nc rfl rfl ?_
 refine fa0 F160_1 rfl rfl ?_
 refine st Tryz.sizeOf131 rfl rfl rfl rfl (.tail .head) ?_
 refine nl ?_
 refine sq ?_
 refine sr ?_
 refine mv rfl rfl ?_
 refine nc rfl rfl ?_
 refine fa0 F160_2 rfl rfl ?_
 refine ld (Says.own (.tail .head)) Tryz.isAgg157 rfl (Nat.zero_add _).symm rfl rfl ?_
 refine asg rfl rfl ?_
 refine nl ?_
 refine sr ?_
 refine mv rfl rfl ?_
 refine asg rfl rfl ?_
 refine nl ?_
 refine sr ?_
 refine asg rfl rfl ?_
 refine nl ?_
 refine sq ?_
 refine sr ?_
 refine mv rfl rfl ?_
 refine nl ?_
 refine cdT rfl (by omega) ?_
 refine rg ?_
 have ey1 : x1 = (.mk 0 [] (if 0 ≤ ((-1) : Int) ∧ (v < ((-1) : Int) ∨ (rArr true x0.2).1 = 0) then false else decide ((rArr true x0.2).1 ≤ 0)) (rMany (decV 10 (decP fs_sEndQuorumEpochRequestTopic v true) false true) (rArr true x0.2).1.toNat (rArr true x0.2).2).1 [], (rMany (decV 10 (decP fs_sEndQuorumEpochRequestTopic v true) false true) (rArr true x0.2).1.toNat (rArr true x0.2).2).2) := (hx1.trans (step_yes (by decide) (show (0 : Int) ≤ v by omega) (Or.inl (by decide)))).trans (decF'_list rfl rfl)
 have hn1 : (rArr true x0.2).1.toNat = (lT x1.1).length := by rw [ey1]; exact (lT_many nul_le).symm
 have ex1 := ey1
 rw [hn1] at ex1
 have hl1 := rArr_le true x0.2
 have hm1 : (rArr true x0.2).2.s.length ≤ BR := Nat.le_trans (rArr_len true x0.2) hL0
 have hnb1 : (lT x1.1).length ≤ BR := by omega
 refine cl rfl rfl rfl (r_arrt hR66) rfl (fun v_ H1 L1 hle_ hR_ => ?_)
 obtain ⟨rfl, N80, rfl, hR80, rfl⟩ := hR_
 have hh1 := rArr_hi true x0.2
 refine asg rfl rfl ?_
 refine nl ?_
 refine sq ?_
 refine sr ?_
 refine cl rfl rfl rfl (r_ok hR80) rfl (fun v_ H1 L1 hle_ hR_ => ?_)
 obtain ⟨rfl, rfl, rfl⟩ := hR_
 refine nt rfl rfl ?_
 refine nl ?_
 refine cb rfl (fun h83 => ?_) (fun h83 => ?_)
 ·
  have hbad_ : (rArr true x0.2).2.bad = true := by simpa using h83
  refine sr ?_
  refine cl rfl rfl rfl (r_complete hR80 (he.mono le_2)) rfl (fun v_ H1 L1 hle_ hR_ => ?_)
  obtain ⟨rfl, rfl, rfl⟩ := hR_
  refine asg rfl rfl ?_
  refine nl ?_
  refine drW .head ?_
  exact rT rfl rfl le_2 (fun _ _ h => h) ⟨_, rfl, RdEnd.out (hB1 (by rw [ey1]; exact rMany_bad (fun r h => decV_bad (decP_bad _ _ _) h) _ _ hbad_)) hbad_⟩
 ·
  refine skt ?_
  refine sr ?_
  refine mv rfl rfl ?_
  refine sh' (j := 0) Tryz.runUnderlying157 Tryz.sizeOf166 rfl rfl rfl (Nat.zero_le _) rfl ?_
  refine asg rfl rfl ?_
  refine nl ?_
  refine sq ?_
  refine sr ?_
  refine mv rfl rfl ?_
  refine gt rfl rfl rfl ?_
  refine nl ?_
  refine nulC2 ?_
  refine cutT (fun l' H' L' => ∃ (a1 : Option Addr), ∃ (c1 : Nat), ∃ (Nr1 : Chunk), [(2, .bool false), (7, .pointer (some ⟨b_1, 0, none⟩)), (8, .int .i16 v), (9, .bool (decide ((1 : Int) ≤ v))), (10, .pointer (some ⟨b, 0, none⟩)), (12, .slice none 0 0), (13, .slice a1 (lT x1.1).length c1), (14, .int .i32 (rArr true x0.2).1)] = l' ∧ Nr1 :: N80 :: [(b, .cells [.int .i16 v, .pointer p0, .slice none 0 0, .slice none 0 0, .map none].toArray 160 (0, 0))] :: L = L' ∧ Row 166 3 a1 (lT x1.1).length c1 (reps [.string ⟨#[]⟩, .slice none 0 0, .map none] (lT x1.1).length) Nr1 ∧ a1.isNone = (if 0 ≤ ((-1) : Int) ∧ (v < ((-1) : Int) ∨ (rArr true x0.2).1 = 0) then false else decide ((rArr true x0.2).1 ≤ 0))) ?_ (fun l' H' L' le_3 hI => ?_)
  ·
   refine cd rfl (fun h88 => ?_) (fun h88 => ?_)
   ·
    refine rg ?_
    refine mv rfl rfl ?_
    refine mv rfl rfl ?_
    refine apz (zs := [.string ⟨#[]⟩, .slice none 0 0, .map none]) (m := (lT x1.1).length) Tryz.underlying157 Tryz.underlying21 I166 rfl rfl rfl (by omega) (by omega) (by have h9 := hnb1; unfold BR at h9; omega) (by have h9 := hnb1; unfold BR at h9; unfold maxLen; omega) rfl (fun g91 cp91 N91 r91 => ?_)
    refine asg rfl rfl ?_
    refine nN ?_
    refine drN (.tail .head) ?_
    refine fun a_ w_ hA hw => ⟨_, _, _, hA.sub ?_, (Fz.le.refl _), hw, (some ⟨g91, 0, none⟩), cp91, N91, rfl, rfl, r91, (by rw [if_neg (by omega)]; exact (decide_eq_false (by omega)).symm)⟩
    exact (.cons rfl (.cons rfl (.cons rfl (.cons rfl (.cons rfl (.cons rfl (.cons rfl (.cons rfl (.nil _)))))))))
   ·
    refine skN ?_
    refine fun a_ w_ hA hw => ⟨_, _, _, hA.sub ?_, (Fz.le.refl _), hw, none, 0, [], rfl, rfl, (by rw [show (lT x1.1).length = 0 by omega]; exact (Row.nil _ _)), (by rw [if_neg (by omega)]; exact (decide_eq_true (by omega)).symm)⟩
    exact (.cons rfl (.cons rfl (.cons rfl (.cons rfl (.cons rfl (.cons rfl (.cons (by rw [show (lT x1.1).length = 0 by omega]; rfl) (.cons rfl (.nil _)))))))))
  ·
   obtain ⟨a1, c1, Nr1, rfl, rfl, pj0, pj1⟩ := hI
   have hr1 := pj0
   have hi1 := pj1
   refine sq ?_
   refine sr ?_
   refine asg rfl rfl ?_
   refine nl ?_
   refine bl (lp ((lT x1.1).length) (fun k1 l' H' L' => ∃ (es1 : List (KE 3)) (M1 RN1 : Chunk), [(2, .bool false), (7, .pointer (some ⟨b_1, 0, none⟩)), (8, .int .i16 v), (9, .bool (decide ((1 : Int) ≤ v))), (10, .pointer (some ⟨b, 0, none⟩)), (12, .slice none 0 0), (13, .slice a1 (lT x1.1).length c1), (14, .int .i32 (rArr true x0.2).1), (15, .int .i32 (k1 : Int))] = l' ∧ M1 :: RN1 :: [(b, .cells [.int .i16 v, .pointer p0, .slice none 0 0, .slice none 0 0, .map none].toArray 160 (0, 0))] :: L = L' ∧ RdAt H' 232 b_1 (rMany (decV 10 (decP fs_sEndQuorumEpochRequestTopic v true) false true) k1 (rArr true x0.2).2).2 RN1 ∧ Row 166 3 a1 (lT x1.1).length c1 (es1.flatMap fk ++ reps [.string ⟨#[]⟩, .slice none 0 0, .map none] ((lT x1.1).length - k1)) M1 ∧ es1.map (·.2) = (rMany (decV 10 (decP fs_sEndQuorumEpochRequestTopic v true) false true) k1 (rArr true x0.2).2).1 ∧ ∀ p ∈ es1, At_EndQuorumEpochRequestTopic H' p.2 (fk p)) [(2, .bool false), (7, .pointer (some ⟨b_1, 0, none⟩)), (8, .int .i16 v), (9, .bool (decide ((1 : Int) ≤ v))), (10, .pointer (some ⟨b, 0, none⟩)), (12, .slice none 0 0), (13, .slice a1 (lT x1.1).length c1), (14, .int .i32 (rArr true x0.2).1), (15, .int .i32 (0 : Int))] (.cons rfl (.cons rfl (.cons rfl (.cons rfl (.cons rfl (.cons rfl (.cons rfl (.cons rfl (.cons rfl (.nil _)))))))))) ⟨[], Nr1, _, rfl, rfl, (hR80.mono le_3), hr1, rfl, (fun p hp => by cases hp)⟩ (fun k1 l' H' L' hk1 le_4 hI => ?_))
   obtain ⟨es1, M1, RN1, rfl, rfl, hR_1, hw_1, he_1, hg_1⟩ := hI
   have hs_1 := els_len he_1
   have hp_1 : (es1.flatMap fk).length = k1 * 3 := els_flat hs_1
   refine sq ?_
   refine sr ?_
   refine mv rfl rfl ?_
   refine mv rfl rfl ?_
   refine lt rfl rfl rfl ?_
   refine nl ?_
   refine cd rfl (fun h94 => ?_) (fun h94 => ?_)
   ·
    have hkl1 : k1 < (lT x1.1).length := by omega
    obtain ⟨g1, po1, hga1, rfl, hbk1⟩ := hw_1.next (zs := [.string ⟨#[]⟩, .slice none 0 0, .map none]) hkl1 rfl (by decide)
    have ho1 : 0 + k1 * 3 = (es1.flatMap fk).length := by rw [hp_1]; omega
    have hbz1 : ((decV 10 (decP fs_sEndQuorumEpochRequestTopic v true) false true) (rMany (decV 10 (decP fs_sEndQuorumEpochRequestTopic v true) false true) k1 (rArr true x0.2).2).2).2.bad = true → (decP fs_EndQuorumEpochRequest v true ⟨s, false, !a.isNone⟩).2.bad = true := fun h => hB1 (by rw [ex1]; exact rMany_mono (fun r h => decV_bad (fun r h => decP_bad _ _ _ r h) h) _ (show k1 + 1 ≤ (lT x1.1).length from hkl1) (by rw [rMany_succ]; exact h))
    have hLk1 : (rMany (decV 10 (decP fs_sEndQuorumEpochRequestTopic v true) false true) k1 (rArr true x0.2).2).2.s.length ≤ BR := Nat.le_trans (rMany_shr (fun r => decV_shr (fun r => decP_shr _ _ _ r) r) _ _) hm1
    have hL1__ := hLk1
    obtain ⟨x1_0, hx1_0⟩ : ∃ x, x = stepF (Fd.mk 8 0 (-1) (-1) (-1) 0 0 []) v true (rMany (decV 10 (decP fs_sEndQuorumEpochRequestTopic v true) false true) k1 (rArr true x0.2).2).2 := ⟨_, rfl⟩
    obtain ⟨x1_1, hx1_1⟩ : ∃ x, x = stepF (Fd.mk 11 0 (-1) (-1) (-1) 0 10 fs_sEndQuorumEpochRequestTopicPartition) v true x1_0.2 := ⟨_, rfl⟩
    obtain ⟨u1_, hu1_⟩ : ∃ x, x = tailU true x1_1.2 := ⟨_, rfl⟩
    have hD1_ : decP fs_sEndQuorumEpochRequestTopic v true (rMany (decV 10 (decP fs_sEndQuorumEpochRequestTopic v true) false true) k1 (rArr true x0.2).2).2 = (.mk 0 [] false [x1_0.1, x1_1.1] u1_.1, u1_.2) := by
     generalize ((rMany (decV 10 (decP fs_sEndQuorumEpochRequestTopic v true) false true) k1 (rArr true x0.2).2).2 : Rd) = r_ at hx1_0 ⊢
     rw [decP_eq]; unfold fs_sEndQuorumEpochRequestTopic; simp only [decFs_cons, decFs_nil, ← hx1_0, ← hx1_1, ← hu1_]
    have hL1_0 : x1_0.2.s.length ≤ BR := by rw [hx1_0]; exact Nat.le_trans (stepF_shr _ _ _ _) hL1__
    have hL1_1 : x1_1.2.s.length ≤ BR := by rw [hx1_1]; exact Nat.le_trans (stepF_shr _ _ _ _) hL1_0
    have hE1_ : u1_.2.bad = true → (decP fs_EndQuorumEpochRequest v true ⟨s, false, !a.isNone⟩).2.bad = true := fun h => hbz1 (by show (decP fs_sEndQuorumEpochRequestTopic v true (rMany (decV 10 (decP fs_sEndQuorumEpochRequestTopic v true) false true) k1 (rArr true x0.2).2).2).2.bad = true; rw [hD1_]; exact h)
    have hB1_1 : x1_1.2.bad = true → (decP fs_EndQuorumEpochRequest v true ⟨s, false, !a.isNone⟩).2.bad = true := fun h => hE1_ (by rw [hu1_]; exact tailU_bad h)
    have hB1_0 : x1_0.2.bad = true → (decP fs_EndQuorumEpochRequest v true ⟨s, false, !a.isNone⟩).2.bad = true := fun h => hB1_1 (by rw [hx1_1]; exact step_bad h)
    refine skt ?_
    refine sq ?_
    refine bl ?_
    refine sr ?_
    refine mv rfl rfl ?_
    refine mv rfl rfl ?_
    refine ixk (j := k1) Tryz.runUnderlying157 Tryz.sizeOf166 rfl hga1 rfl rfl hkl1 rfl ?_
    refine asg rfl rfl ?_
    refine nl ?_
    refine sr ?_
    refine mv rfl rfl ?_
    refine cl rfl rfl rfl (def_EndQuorumEpochRequestTopic ho1) rfl (fun v_ H1 L1 hle_ hR_ => ?_)
    obtain ⟨rfl, rfl⟩ := hR_
    refine nl ?_
    refine sr ?_
    refine mv rfl rfl ?_
    refine asg rfl rfl ?_
    refine nl ?_
    refine sq ?_
    refine sr ?_
    refine asg rfl rfl ?_
    refine nl ?_
    refine sq ?_
    refine sr ?_
    refine mv rfl rfl ?_
    refine nl ?_
    refine cF rfl ?_
    refine sr ?_
    refine mv rfl rfl ?_
    refine nl ?_
    refine cdT rfl (by omega) ?_
    refine rg ?_
    refine tf (.tail .head) ?_
    have ex1_0 : x1_0 = decV 8 (decP [] v true) false true (rMany (decV 10 (decP fs_sEndQuorumEpochRequestTopic v true) false true) k1 (rArr true x0.2).2).2 := (hx1_0.trans (step_yes (by decide) (show (0 : Int) ≤ v by omega) (Or.inl (by decide)))).trans (decF'_val (by decide) (rfl))
    refine cl rfl rfl rfl (d8t hR_1 ex1_0) rfl (fun v_ H1 L1 le_5 hR_ => ?_)
    obtain ⟨N108, rfl, hR108, rfl, rfl⟩ := hR_
    refine asg rfl rfl ?_
    refine nl ?_
    refine rg ?_
    refine mv rfl rfl ?_
    refine mv rfl rfl ?_
    refine nc rfl rfl ?_
    refine fa F166_0 rfl rfl ?_
    refine stM (off := 0) Tryz.sizeOf9 rfl (by rw [ho1]) rfl rfl rfl (.tail .head) ?_
    refine nl ?_
    refine sq ?_
    refine sr ?_
    refine mv rfl rfl ?_
    refine nc rfl rfl ?_
    refine fa F166_1 rfl rfl ?_
    refine ld (j := 1) (off := 0 + k1 * 3) (Says.mid (.tail .head) ho1) Tryz.isAgg164 rfl rfl rfl rfl ?_
    refine asg rfl rfl ?_
    refine nl ?_
    refine sr ?_
    refine mv rfl rfl ?_
    refine asg rfl rfl ?_
    refine nl ?_
    refine sr ?_
    refine asg rfl rfl ?_
    refine nl ?_
    refine sq ?_
    refine sr ?_
    refine mv rfl rfl ?_
    refine nl ?_
    refine cdT rfl (by omega) ?_
    refine rg ?_
    have ey1_1 : x1_1 = (.mk 0 [] (if 0 ≤ ((-1) : Int) ∧ (v < ((-1) : Int) ∨ (rArr true x1_0.2).1 = 0) then false else decide ((rArr true x1_0.2).1 ≤ 0)) (rMany (decV 10 (decP fs_sEndQuorumEpochRequestTopicPartition v true) false true) (rArr true x1_0.2).1.toNat (rArr true x1_0.2).2).1 [], (rMany (decV 10 (decP fs_sEndQuorumEpochRequestTopicPartition v true) false true) (rArr true x1_0.2).1.toNat (rArr true x1_0.2).2).2) := (hx1_1.trans (step_yes (by decide) (show (0 : Int) ≤ v by omega) (Or.inl (by decide)))).trans (decF'_list rfl rfl)
    have hn1_1 : (rArr true x1_0.2).1.toNat = (lT x1_1.1).length := by rw [ey1_1]; exact (lT_many nul_le).symm
    have ex1_1 := ey1_1
    rw [hn1_1] at ex1_1
    have hl1_1 := rArr_le true x1_0.2
    have hm1_1 : (rArr true x1_0.2).2.s.length ≤ BR := Nat.le_trans (rArr_len true x1_0.2) hL1_0
    have hnb1_1 : (lT x1_1.1).length ≤ BR := by omega
    refine cl rfl rfl rfl (r_arrt hR108) rfl (fun v_ H1 L1 hle_ hR_ => ?_)
    obtain ⟨rfl, N120, rfl, hR120, rfl⟩ := hR_
    have hh1_1 := rArr_hi true x1_0.2
    refine asg rfl rfl ?_
    refine nl ?_
    refine sq ?_
    refine sr ?_
    refine cl rfl rfl rfl (r_ok hR120) rfl (fun v_ H1 L1 hle_ hR_ => ?_)
    obtain ⟨rfl, rfl, rfl⟩ := hR_
    refine nt rfl rfl ?_
    refine nl ?_
    refine cb rfl (fun h123 => ?_) (fun h123 => ?_)
    ·
     have hbad_ : (rArr true x1_0.2).2.bad = true := by simpa using h123
     refine sr ?_
     refine cl rfl rfl rfl (r_complete hR120 (he.mono (le_2.trans (le_3.trans le_4)))) rfl (fun v_ H1 L1 hle_ hR_ => ?_)
     obtain ⟨rfl, rfl, rfl⟩ := hR_
     refine asg rfl rfl ?_
     refine nl ?_
     refine drW .head ?_
     refine drW .head ?_
     exact rT rfl rfl (le_2.trans (le_3.trans le_4)) (fun _ _ h => h) ⟨_, rfl, RdEnd.out (hB1_1 (by rw [ey1_1]; exact rMany_bad (fun r h => decV_bad (decP_bad _ _ _) h) _ _ hbad_)) hbad_⟩
    ·
     refine skt ?_
     refine sr ?_
     refine mv rfl rfl ?_
     refine sh' (j := 0) Tryz.runUnderlying164 Tryz.sizeOf283 rfl rfl rfl (Nat.zero_le _) rfl ?_
     refine asg rfl rfl ?_
     refine nl ?_
     refine sq ?_
     refine sr ?_
     refine mv rfl rfl ?_
     refine gt rfl rfl rfl ?_
     refine nl ?_
     refine nulC2 ?_
     refine cutT (fun l' H' L' => ∃ (a1_1 : Option Addr), ∃ (c1_1 : Nat), ∃ (Nr1_1 : Chunk), [(2, .bool false), (7, .pointer (some ⟨b_1, 0, none⟩)), (8, .int .i16 v), (9, .bool (decide ((1 : Int) ≤ v))), (10, .pointer (some ⟨b, 0, none⟩)), (12, .slice none 0 0), (13, .slice a1 (lT x1.1).length c1), (14, .int .i32 (rArr true x0.2).1), (15, .int .i32 (k1 : Int)), (17, .pointer (some ⟨g1, 0 + k1 * 3, none⟩)), (19, .slice none 0 0), (20, .slice a1_1 (lT x1_1.1).length c1_1), (21, .int .i32 (rArr true x1_0.2).1)] = l' ∧ Nr1_1 :: N120 :: [(g1, .cells ((es1.flatMap fk) ++ ([.string ⟨x1_0.1.s.toArray⟩, .slice none 0 0, .map none] : List Value) ++ po1).toArray 166 (0, 0))] :: [(b, .cells [.int .i16 v, .pointer p0, .slice none 0 0, .slice none 0 0, .map none].toArray 160 (0, 0))] :: L = L' ∧ Row 283 6 a1_1 (lT x1_1.1).length c1_1 (reps [.int .i32 0, .int .i32 0, .int .i32 0, .slice none 0 0, .slice none 0 0, .map none] (lT x1_1.1).length) Nr1_1 ∧ a1_1.isNone = (if 0 ≤ ((-1) : Int) ∧ (v < ((-1) : Int) ∨ (rArr true x1_0.2).1 = 0) then false else decide ((rArr true x1_0.2).1 ≤ 0))) ?_ (fun l' H' L' le_6 hI => ?_)
     ·
      refine cd rfl (fun h128 => ?_) (fun h128 => ?_)
      ·
       refine rg ?_
       refine mv rfl rfl ?_
       refine mv rfl rfl ?_
       refine apz (zs := [.int .i32 0, .int .i32 0, .int .i32 0, .slice none 0 0, .slice none 0 0, .map none]) (m := (lT x1_1.1).length) Tryz.underlying164 Tryz.underlying21 I283 rfl rfl rfl (by omega) (by omega) (by have h9 := hnb1_1; unfold BR at h9; omega) (by have h9 := hnb1_1; unfold BR at h9; unfold maxLen; omega) rfl (fun g131 cp131 N131 r131 => ?_)
       refine asg rfl rfl ?_
       refine nN ?_
       refine drN (.tail .head) ?_
       refine fun a_ w_ hA hw => ⟨_, _, _, hA.sub ?_, (Fz.le.refl _), hw, (some ⟨g131, 0, none⟩), cp131, N131, rfl, rfl, r131, (by rw [if_neg (by omega)]; exact (decide_eq_false (by omega)).symm)⟩
       exact (.cons rfl (.cons rfl (.cons rfl (.cons rfl (.cons rfl (.cons rfl (.cons rfl (.cons rfl (.cons rfl (.cons rfl (.cons rfl (.cons rfl (.cons rfl (.nil _))))))))))))))
      ·
       refine skN ?_
       refine fun a_ w_ hA hw => ⟨_, _, _, hA.sub ?_, (Fz.le.refl _), hw, none, 0, [], rfl, rfl, (by rw [show (lT x1_1.1).length = 0 by omega]; exact (Row.nil _ _)), (by rw [if_neg (by omega)]; exact (decide_eq_true (by omega)).symm)⟩
       exact (.cons rfl (.cons rfl (.cons rfl (.cons rfl (.cons rfl (.cons rfl (.cons rfl (.cons rfl (.cons rfl (.cons rfl (.cons rfl (.cons (by rw [show (lT x1_1.1).length = 0 by omega]; rfl) (.cons rfl (.nil _))))))))))))))
     ·
      obtain ⟨a1_1, c1_1, Nr1_1, rfl, rfl, pj0, pj1⟩ := hI
      have hr1_1 := pj0
      have hi1_1 := pj1
      refine sq ?_
      refine sr ?_
      refine asg rfl rfl ?_
      refine nl ?_
      refine bl (lp ((lT x1_1.1).length) (fun k1_1 l' H' L' => ∃ (es1_1 : List (KE 6)) (M1_1 RN1_1 : Chunk), [(2, .bool false), (7, .pointer (some ⟨b_1, 0, none⟩)), (8, .int .i16 v), (9, .bool (decide ((1 : Int) ≤ v))), (10, .pointer (some ⟨b, 0, none⟩)), (12, .slice none 0 0), (13, .slice a1 (lT x1.1).length c1), (14, .int .i32 (rArr true x0.2).1), (15, .int .i32 (k1 : Int)), (17, .pointer (some ⟨g1, 0 + k1 * 3, none⟩)), (19, .slice none 0 0), (20, .slice a1_1 (lT x1_1.1).length c1_1), (21, .int .i32 (rArr true x1_0.2).1), (22, .int .i32 (k1_1 : Int))] = l' ∧ M1_1 :: RN1_1 :: [(g1, .cells ((es1.flatMap fk) ++ ([.string ⟨x1_0.1.s.toArray⟩, .slice none 0 0, .map none] : List Value) ++ po1).toArray 166 (0, 0))] :: [(b, .cells [.int .i16 v, .pointer p0, .slice none 0 0, .slice none 0 0, .map none].toArray 160 (0, 0))] :: L = L' ∧ RdAt H' 232 b_1 (rMany (decV 10 (decP fs_sEndQuorumEpochRequestTopicPartition v true) false true) k1_1 (rArr true x1_0.2).2).2 RN1_1 ∧ Row 283 6 a1_1 (lT x1_1.1).length c1_1 (es1_1.flatMap fk ++ reps [.int .i32 0, .int .i32 0, .int .i32 0, .slice none 0 0, .slice none 0 0, .map none] ((lT x1_1.1).length - k1_1)) M1_1 ∧ es1_1.map (·.2) = (rMany (decV 10 (decP fs_sEndQuorumEpochRequestTopicPartition v true) false true) k1_1 (rArr true x1_0.2).2).1 ∧ ∀ p ∈ es1_1, At_EndQuorumEpochRequestTopicPartition H' p.2 (fk p)) [(2, .bool false), (7, .pointer (some ⟨b_1, 0, none⟩)), (8, .int .i16 v), (9, .bool (decide ((1 : Int) ≤ v))), (10, .pointer (some ⟨b, 0, none⟩)), (12, .slice none 0 0), (13, .slice a1 (lT x1.1).length c1), (14, .int .i32 (rArr true x0.2).1), (15, .int .i32 (k1 : Int)), (17, .pointer (some ⟨g1, 0 + k1 * 3, none⟩)), (19, .slice none 0 0), (20, .slice a1_1 (lT x1_1.1).length c1_1), (21, .int .i32 (rArr true x1_0.2).1), (22, .int .i32 (0 : Int))] (.cons rfl (.cons rfl (.cons rfl (.cons rfl (.cons rfl (.cons rfl (.cons rfl (.cons rfl (.cons rfl (.cons rfl (.cons rfl (.cons rfl (.cons rfl (.cons rfl (.nil _))))))))))))))) ⟨[], Nr1_1, _, rfl, rfl, (hR120.mono le_6), hr1_1, rfl, (fun p hp => by cases hp)⟩ (fun k1_1 l' H' L' hk1_1 le_7 hI => ?_))
      obtain ⟨es1_1, M1_1, RN1_1, rfl, rfl, hR_1_1, hw_1_1, he_1_1, hg_1_1⟩ := hI
      have hs_1_1 := els_len he_1_1
      have hp_1_1 : (es1_1.flatMap fk).length = k1_1 * 6 := els_flat hs_1_1
      refine sq ?_
      refine sr ?_
      refine mv rfl rfl ?_
      refine mv rfl rfl ?_
      refine lt rfl rfl rfl ?_
      refine nl ?_
      refine cd rfl (fun h134 => ?_) (fun h134 => ?_)
      ·
       have hkl1_1 : k1_1 < (lT x1_1.1).length := by omega
       obtain ⟨g1_1, po1_1, hga1_1, rfl, hbk1_1⟩ := hw_1_1.next (zs := [.int .i32 0, .int .i32 0, .int .i32 0, .slice none 0 0, .slice none 0 0, .map none]) hkl1_1 rfl (by decide)
       have ho1_1 : 0 + k1_1 * 6 = (es1_1.flatMap fk).length := by rw [hp_1_1]; omega
       have hbz1_1 : ((decV 10 (decP fs_sEndQuorumEpochRequestTopicPartition v true) false true) (rMany (decV 10 (decP fs_sEndQuorumEpochRequestTopicPartition v true) false true) k1_1 (rArr true x1_0.2).2).2).2.bad = true → (decP fs_EndQuorumEpochRequest v true ⟨s, false, !a.isNone⟩).2.bad = true := fun h => hB1_1 (by rw [ex1_1]; exact rMany_mono (fun r h => decV_bad (fun r h => decP_bad _ _ _ r h) h) _ (show k1_1 + 1 ≤ (lT x1_1.1).length from hkl1_1) (by rw [rMany_succ]; exact h))
       have hLk1_1 : (rMany (decV 10 (decP fs_sEndQuorumEpochRequestTopicPartition v true) false true) k1_1 (rArr true x1_0.2).2).2.s.length ≤ BR := Nat.le_trans (rMany_shr (fun r => decV_shr (fun r => decP_shr _ _ _ r) r) _ _) hm1_1
       have hL1_1__ := hLk1_1
       obtain ⟨x1_1_0, hx1_1_0⟩ : ∃ x, x = stepF (Fd.mk 3 0 (-1) (-1) (-1) 0 0 []) v true (rMany (decV 10 (decP fs_sEndQuorumEpochRequestTopicPartition v true) false true) k1_1 (rArr true x1_0.2).2).2 := ⟨_, rfl⟩
       obtain ⟨x1_1_1, hx1_1_1⟩ : ∃ x, x = stepF (Fd.mk 3 0 (-1) (-1) (-1) 0 0 []) v true x1_1_0.2 := ⟨_, rfl⟩
       obtain ⟨x1_1_2, hx1_1_2⟩ : ∃ x, x = stepF (Fd.mk 3 0 (-1) (-1) (-1) 0 0 []) v true x1_1_1.2 := ⟨_, rfl⟩
       obtain ⟨x1_1_3, hx1_1_3⟩ : ∃ x, x = stepF (Fd.mk 11 0 0 (-1) (-1) 0 3 []) v true x1_1_2.2 := ⟨_, rfl⟩
       obtain ⟨x1_1_4, hx1_1_4⟩ : ∃ x, x = stepF (Fd.mk 11 1 (-1) (-1) (-1) 0 10 fs_sEndQuorumEpochRequestTopicPartitionPreferredCandidate) v true x1_1_3.2 := ⟨_, rfl⟩
       obtain ⟨u1_1_, hu1_1_⟩ : ∃ x, x = tailU true x1_1_4.2 := ⟨_, rfl⟩
       have hD1_1_ : decP fs_sEndQuorumEpochRequestTopicPartition v true (rMany (decV 10 (decP fs_sEndQuorumEpochRequestTopicPartition v true) false true) k1_1 (rArr true x1_0.2).2).2 = (.mk 0 [] false [x1_1_0.1, x1_1_1.1, x1_1_2.1, x1_1_3.1, x1_1_4.1] u1_1_.1, u1_1_.2) := by
        generalize ((rMany (decV 10 (decP fs_sEndQuorumEpochRequestTopicPartition v true) false true) k1_1 (rArr true x1_0.2).2).2 : Rd) = r_ at hx1_1_0 ⊢
        rw [decP_eq]; unfold fs_sEndQuorumEpochRequestTopicPartition; simp only [decFs_cons, decFs_nil, ← hx1_1_0, ← hx1_1_1, ← hx1_1_2, ← hx1_1_3, ← hx1_1_4, ← hu1_1_]
       have hL1_1_0 : x1_1_0.2.s.length ≤ BR := by rw [hx1_1_0]; exact Nat.le_trans (stepF_shr _ _ _ _) hL1_1__
       have hL1_1_1 : x1_1_1.2.s.length ≤ BR := by rw [hx1_1_1]; exact Nat.le_trans (stepF_shr _ _ _ _) hL1_1_0
       have hL1_1_2 : x1_1_2.2.s.length ≤ BR := by rw [hx1_1_2]; exact Nat.le_trans (stepF_shr _ _ _ _) hL1_1_1
       have hL1_1_3 : x1_1_3.2.s.length ≤ BR := by rw [hx1_1_3]; exact Nat.le_trans (stepF_shr _ _ _ _) hL1_1_2
       have hL1_1_4 : x1_1_4.2.s.length ≤ BR := by rw [hx1_1_4]; exact Nat.le_trans (stepF_shr _ _ _ _) hL1_1_3
       have hE1_1_ : u1_1_.2.bad = true → (decP fs_EndQuorumEpochRequest v true ⟨s, false, !a.isNone⟩).2.bad = true := fun h => hbz1_1 (by show (decP fs_sEndQuorumEpochRequestTopicPartition v true (rMany (decV 10 (decP fs_sEndQuorumEpochRequestTopicPartition v true) false true) k1_1 (rArr true x1_0.2).2).2).2.bad = true; rw [hD1_1_]; exact h)
       have hB1_1_4 : x1_1_4.2.bad = true → (decP fs_EndQuorumEpochRequest v true ⟨s, false, !a.isNone⟩).2.bad = true := fun h => hE1_1_ (by rw [hu1_1_]; exact tailU_bad h)
       have hB1_1_3 : x1_1_3.2.bad = true → (decP fs_EndQuorumEpochRequest v true ⟨s, false, !a.isNone⟩).2.bad = true := fun h => hB1_1_4 (by rw [hx1_1_4]; exact step_bad h)
       have hB1_1_2 : x1_1_2.2.bad = true → (decP fs_EndQuorumEpochRequest v true ⟨s, false, !a.isNone⟩).2.bad = true := fun h => hB1_1_3 (by rw [hx1_1_3]; exact step_bad h)
       have hB1_1_1 : x1_1_1.2.bad = true → (decP fs_EndQuorumEpochRequest v true ⟨s, false, !a.isNone⟩).2.bad = true := fun h => hB1_1_2 (by rw [hx1_1_2]; exact step_bad h)
       have hB1_1_0 : x1_1_0.2.bad = true → (decP fs_EndQuorumEpochRequest v true ⟨s, false, !a.isNone⟩).2.bad = true := fun h => hB1_1_1 (by rw [hx1_1_1]; exact step_bad h)
       refine skt ?_
       refine sq ?_
       refine bl ?_
       refine sr ?_
       refine mv rfl rfl ?_
       refine mv rfl rfl ?_
       refine ixk (j := k1_1) Tryz.runUnderlying164 Tryz.sizeOf283 rfl hga1_1 rfl rfl hkl1_1 rfl ?_
       refine asg rfl rfl ?_
       refine nl ?_
       refine sr ?_
       refine mv rfl rfl ?_
       refine cl rfl rfl rfl (def_EndQuorumEpochRequestTopicPartition ho1_1) rfl (fun v_ H1 L1 hle_ hR_ => ?_)
       obtain ⟨rfl, rfl⟩ := hR_
       refine nl ?_
       refine sr ?_
       refine mv rfl rfl ?_
       refine asg rfl rfl ?_
       refine nl ?_
       refine sq ?_
       refine sr ?_
       refine tf (.tail .head) ?_
       have ex1_1_0 : x1_1_0 = decV 3 (decP [] v true) false true (rMany (decV 10 (decP fs_sEndQuorumEpochRequestTopicPartition v true) false true) k1_1 (rArr true x1_0.2).2).2 := (hx1_1_0.trans (step_yes (by decide) (show (0 : Int) ≤ v by omega) (Or.inl (by decide)))).trans (decF'_val (by decide) (rfl))
       refine cl rfl rfl rfl (d3 hR_1_1 ex1_1_0) rfl (fun v_ H1 L1 hle_ hR_ => ?_)
       obtain ⟨N143, rfl, hR143, rfl, rfl⟩ := hR_
       refine asg rfl rfl ?_
       refine nl ?_
       refine rg ?_
       refine mv rfl rfl ?_
       refine mv rfl rfl ?_
       refine nc rfl rfl ?_
       refine fa F283_0 rfl rfl ?_
       refine stM (off := 0) Tryz.sizeOf21 rfl (by rw [ho1_1]) rfl rfl rfl (.tail .head) ?_
       refine nl ?_
       refine sq ?_
       refine sr ?_
       have ex1_1_1 : x1_1_1 = decV 3 (decP [] v true) false true x1_1_0.2 := (hx1_1_1.trans (step_yes (by decide) (show (0 : Int) ≤ v by omega) (Or.inl (by decide)))).trans (decF'_val (by decide) (rfl))
       refine cl rfl rfl rfl (d3 hR143 ex1_1_1) rfl (fun v_ H1 L1 hle_ hR_ => ?_)
       obtain ⟨N148, rfl, hR148, rfl, rfl⟩ := hR_
       refine asg rfl rfl ?_
       refine nl ?_
       refine rg ?_
       refine mv rfl rfl ?_
       refine mv rfl rfl ?_
       refine nc rfl rfl ?_
       refine fa F283_1 rfl rfl ?_
       refine stM (off := 1) Tryz.sizeOf21 rfl (by rw [ho1_1]) rfl rfl rfl (.tail .head) ?_
       refine nl ?_
       refine sq ?_
       refine sr ?_
       have ex1_1_2 : x1_1_2 = decV 3 (decP [] v true) false true x1_1_1.2 := (hx1_1_2.trans (step_yes (by decide) (show (0 : Int) ≤ v by omega) (Or.inl (by decide)))).trans (decF'_val (by decide) (rfl))
       refine cl rfl rfl rfl (d3 hR148 ex1_1_2) rfl (fun v_ H1 L1 hle_ hR_ => ?_)
       obtain ⟨N153, rfl, hR153, rfl, rfl⟩ := hR_
       refine asg rfl rfl ?_
       refine nl ?_
       refine rg ?_
       refine mv rfl rfl ?_
       refine mv rfl rfl ?_
       refine nc rfl rfl ?_
       refine fa F283_2 rfl rfl ?_
       refine stM (off := 2) Tryz.sizeOf21 rfl (by rw [ho1_1]) rfl rfl rfl (.tail .head) ?_
       refine nl ?_
       refine sq ?_
       refine sr ?_
       refine mv rfl rfl ?_
       refine ge rfl rfl rfl ?_
       refine mv rfl rfl ?_
       refine spl (t := 160) rfl (fun _ => ?_) (fun hn_ => absurd (by omega) hn_)
       refine gr rfl rfl ?_
       refine mv rfl rfl ?_
       refine gr rfl rfl ?_
       refine le rfl rfl rfl ?_
       refine pk rfl rfl rfl rfl ?_
       refine nl ?_
       refine cdF rfl (by omega) ?_
       refine skt ?_
       refine sq ?_
       refine sr ?_
       refine mv rfl rfl ?_
       refine ge rfl rfl rfl ?_
       refine nl ?_
       refine cdT rfl (by omega) ?_
       refine sr ?_
       refine mv rfl rfl ?_
       refine nc rfl rfl ?_
       refine fa F283_4 rfl rfl ?_
       refine ld (j := 4) (off := 0 + k1_1 * 6) (Says.mid (.tail .head) ho1_1) Tryz.isAgg281 rfl rfl rfl rfl ?_
       refine asg rfl rfl ?_
       refine nl ?_
       refine sr ?_
       refine mv rfl rfl ?_
       refine asg rfl rfl ?_
       refine nl ?_
       refine sr ?_
       refine asg rfl rfl ?_
       refine nl ?_
       refine sq ?_
       refine sr ?_
       refine mv rfl rfl ?_
       refine nl ?_
       refine cdT rfl (by omega) ?_
       refine rg ?_
       obtain rfl : x1_1_3 = ((Tr.mk 0 [] true [] []), x1_1_2.2) := (hx1_1_3.trans (step_no (Or.inr ⟨by decide, show (0 : Int) < v by omega⟩))).trans (by rw [dflF_eq]; rfl)
       have ey1_1_4 : x1_1_4 = (.mk 0 [] (if 0 ≤ ((-1) : Int) ∧ (v < ((-1) : Int) ∨ (rArr true x1_1_2.2).1 = 0) then false else decide ((rArr true x1_1_2.2).1 ≤ 0)) (rMany (decV 10 (decP fs_sEndQuorumEpochRequestTopicPartitionPreferredCandidate v true) false true) (rArr true x1_1_2.2).1.toNat (rArr true x1_1_2.2).2).1 [], (rMany (decV 10 (decP fs_sEndQuorumEpochRequestTopicPartitionPreferredCandidate v true) false true) (rArr true x1_1_2.2).1.toNat (rArr true x1_1_2.2).2).2) := (hx1_1_4.trans (step_yes (by decide) (show (1 : Int) ≤ v by omega) (Or.inl (by decide)))).trans (decF'_list rfl rfl)
       have hn1_1_4 : (rArr true x1_1_2.2).1.toNat = (lT x1_1_4.1).length := by rw [ey1_1_4]; exact (lT_many nul_le).symm
       have ex1_1_4 := ey1_1_4
       rw [hn1_1_4] at ex1_1_4
       have hl1_1_4 := rArr_le true x1_1_2.2
       have hm1_1_4 : (rArr true x1_1_2.2).2.s.length ≤ BR := Nat.le_trans (rArr_len true x1_1_2.2) hL1_1_2
       have hnb1_1_4 : (lT x1_1_4.1).length ≤ BR := by omega
       refine cl rfl rfl rfl (r_arrt hR153) rfl (fun v_ H1 L1 hle_ hR_ => ?_)
       obtain ⟨rfl, N205, rfl, hR205, rfl⟩ := hR_
       have hh1_1_4 := rArr_hi true x1_1_2.2
       refine asg rfl rfl ?_
       refine nl ?_
       refine sq ?_
       refine sr ?_
       refine cl rfl rfl rfl (r_ok hR205) rfl (fun v_ H1 L1 hle_ hR_ => ?_)
       obtain ⟨rfl, rfl, rfl⟩ := hR_
       refine nt rfl rfl ?_
       refine nl ?_
       refine cb rfl (fun h208 => ?_) (fun h208 => ?_)
       ·
        have hbad_ : (rArr true x1_1_2.2).2.bad = true := by simpa using h208
        refine sr ?_
        refine cl rfl rfl rfl (r_complete hR205 (he.mono (le_2.trans (le_3.trans (le_4.trans (le_6.trans le_7)))))) rfl (fun v_ H1 L1 hle_ hR_ => ?_)
        obtain ⟨rfl, rfl, rfl⟩ := hR_
        refine asg rfl rfl ?_
        refine nl ?_
        refine drW .head ?_
        refine drW .head ?_
        refine drW .head ?_
        exact rT rfl rfl (le_2.trans (le_3.trans (le_4.trans (le_6.trans le_7)))) (fun _ _ h => h) ⟨_, rfl, RdEnd.out (hB1_1_4 (by rw [ey1_1_4]; exact rMany_bad (fun r h => decV_bad (decP_bad _ _ _) h) _ _ hbad_)) hbad_⟩
       ·
        refine skt ?_
        refine sr ?_
        refine mv rfl rfl ?_
        refine sh' (j := 0) Tryz.runUnderlying281 Tryz.sizeOf286 rfl rfl rfl (Nat.zero_le _) rfl ?_
        refine asg rfl rfl ?_
        refine nl ?_
        refine sq ?_
        refine sr ?_
        refine mv rfl rfl ?_
        refine gt rfl rfl rfl ?_
        refine nl ?_
        refine nulC2 ?_
        refine cutT (fun l' H' L' => ∃ (a1_1_4 : Option Addr), ∃ (c1_1_4 : Nat), ∃ (Nr1_1_4 : Chunk), [(2, .bool false), (7, .pointer (some ⟨b_1, 0, none⟩)), (8, .int .i16 v), (9, .bool (decide ((1 : Int) ≤ v))), (10, .pointer (some ⟨b, 0, none⟩)), (12, .slice none 0 0), (13, .slice a1 (lT x1.1).length c1), (14, .int .i32 (rArr true x0.2).1), (15, .int .i32 (k1 : Int)), (17, .pointer (some ⟨g1, 0 + k1 * 3, none⟩)), (19, .slice none 0 0), (20, .slice a1_1 (lT x1_1.1).length c1_1), (21, .int .i32 (rArr true x1_0.2).1), (22, .int .i32 (k1_1 : Int)), (24, .pointer (some ⟨g1_1, 0 + k1_1 * 6, none⟩)), (33, .slice none 0 0), (34, .slice a1_1_4 (lT x1_1_4.1).length c1_1_4), (35, .int .i32 (rArr true x1_1_2.2).1)] = l' ∧ Nr1_1_4 :: N205 :: [(g1_1, .cells ((es1_1.flatMap fk) ++ ([.int .i32 (IntKind.i32.wrap x1_1_0.1.n), .int .i32 (IntKind.i32.wrap x1_1_1.1.n), .int .i32 (IntKind.i32.wrap x1_1_2.1.n), .slice none 0 0, .slice none 0 0, .map none] : List Value) ++ po1_1).toArray 283 (0, 0))] :: [(g1, .cells ((es1.flatMap fk) ++ ([.string ⟨x1_0.1.s.toArray⟩, .slice none 0 0, .map none] : List Value) ++ po1).toArray 166 (0, 0))] :: [(b, .cells [.int .i16 v, .pointer p0, .slice none 0 0, .slice none 0 0, .map none].toArray 160 (0, 0))] :: L = L' ∧ Row 286 18 a1_1_4 (lT x1_1_4.1).length c1_1_4 (reps [.int .i32 0, .int .u8 0, .int .u8 0, .int .u8 0, .int .u8 0, .int .u8 0, .int .u8 0, .int .u8 0, .int .u8 0, .int .u8 0, .int .u8 0, .int .u8 0, .int .u8 0, .int .u8 0, .int .u8 0, .int .u8 0, .int .u8 0, .map none] (lT x1_1_4.1).length) Nr1_1_4 ∧ a1_1_4.isNone = (if 0 ≤ ((-1) : Int) ∧ (v < ((-1) : Int) ∨ (rArr true x1_1_2.2).1 = 0) then false else decide ((rArr true x1_1_2.2).1 ≤ 0))) ?_ (fun l' H' L' le_11 hI => ?_)
        ·
         refine cd rfl (fun h213 => ?_) (fun h213 => ?_)
         ·
          refine rg ?_
          refine mv rfl rfl ?_
          refine mv rfl rfl ?_
          refine apz (zs := [.int .i32 0, .int .u8 0, .int .u8 0, .int .u8 0, .int .u8 0, .int .u8 0, .int .u8 0, .int .u8 0, .int .u8 0, .int .u8 0, .int .u8 0, .int .u8 0, .int .u8 0, .int .u8 0, .int .u8 0, .int .u8 0, .int .u8 0, .map none]) (m := (lT x1_1_4.1).length) Tryz.underlying281 Tryz.underlying21 I286 rfl rfl rfl (by omega) (by omega) (by have h9 := hnb1_1_4; unfold BR at h9; omega) (by have h9 := hnb1_1_4; unfold BR at h9; unfold maxLen; omega) rfl (fun g216 cp216 N216 r216 => ?_)
          refine asg rfl rfl ?_
          refine nN ?_
          refine drN (.tail .head) ?_
          refine fun a_ w_ hA hw => ⟨_, _, _, hA.sub ?_, (Fz.le.refl _), hw, (some ⟨g216, 0, none⟩), cp216, N216, rfl, rfl, r216, (by rw [if_neg (by omega)]; exact (decide_eq_false (by omega)).symm)⟩
          exact (.cons rfl (.cons rfl (.cons rfl (.cons rfl (.cons rfl (.cons rfl (.cons rfl (.cons rfl (.cons rfl (.cons rfl (.cons rfl (.cons rfl (.cons rfl (.cons rfl (.cons rfl (.cons rfl (.cons rfl (.cons rfl (.nil _)))))))))))))))))))
         ·
          refine skN ?_
          refine fun a_ w_ hA hw => ⟨_, _, _, hA.sub ?_, (Fz.le.refl _), hw, none, 0, [], rfl, rfl, (by rw [show (lT x1_1_4.1).length = 0 by omega]; exact (Row.nil _ _)), (by rw [if_neg (by omega)]; exact (decide_eq_true (by omega)).symm)⟩
          exact (.cons rfl (.cons rfl (.cons rfl (.cons rfl (.cons rfl (.cons rfl (.cons rfl (.cons rfl (.cons rfl (.cons rfl (.cons rfl (.cons rfl (.cons rfl (.cons rfl (.cons rfl (.cons rfl (.cons (by rw [show (lT x1_1_4.1).length = 0 by omega]; rfl) (.cons rfl (.nil _)))))))))))))))))))
        ·
         obtain ⟨a1_1_4, c1_1_4, Nr1_1_4, rfl, rfl, pj0, pj1⟩ := hI
         have hr1_1_4 := pj0
         have hi1_1_4 := pj1
         refine sq ?_
         refine sr ?_
         refine asg rfl rfl ?_
         refine nl ?_
         refine bl (lp ((lT x1_1_4.1).length) (fun k1_1_4 l' H' L' => ∃ (es1_1_4 : List (KE 18)) (M1_1_4 RN1_1_4 : Chunk), [(2, .bool false), (7, .pointer (some ⟨b_1, 0, none⟩)), (8, .int .i16 v), (9, .bool (decide ((1 : Int) ≤ v))), (10, .pointer (some ⟨b, 0, none⟩)), (12, .slice none 0 0), (13, .slice a1 (lT x1.1).length c1), (14, .int .i32 (rArr true x0.2).1), (15, .int .i32 (k1 : Int)), (17, .pointer (some ⟨g1, 0 + k1 * 3, none⟩)), (19, .slice none 0 0), (20, .slice a1_1 (lT x1_1.1).length c1_1), (21, .int .i32 (rArr true x1_0.2).1), (22, .int .i32 (k1_1 : Int)), (24, .pointer (some ⟨g1_1, 0 + k1_1 * 6, none⟩)), (33, .slice none 0 0), (34, .slice a1_1_4 (lT x1_1_4.1).length c1_1_4), (35, .int .i32 (rArr true x1_1_2.2).1), (36, .int .i32 (k1_1_4 : Int))] = l' ∧ M1_1_4 :: RN1_1_4 :: [(g1_1, .cells ((es1_1.flatMap fk) ++ ([.int .i32 (IntKind.i32.wrap x1_1_0.1.n), .int .i32 (IntKind.i32.wrap x1_1_1.1.n), .int .i32 (IntKind.i32.wrap x1_1_2.1.n), .slice none 0 0, .slice none 0 0, .map none] : List Value) ++ po1_1).toArray 283 (0, 0))] :: [(g1, .cells ((es1.flatMap fk) ++ ([.string ⟨x1_0.1.s.toArray⟩, .slice none 0 0, .map none] : List Value) ++ po1).toArray 166 (0, 0))] :: [(b, .cells [.int .i16 v, .pointer p0, .slice none 0 0, .slice none 0 0, .map none].toArray 160 (0, 0))] :: L = L' ∧ RdAt H' 232 b_1 (rMany (decV 10 (decP fs_sEndQuorumEpochRequestTopicPartitionPreferredCandidate v true) false true) k1_1_4 (rArr true x1_1_2.2).2).2 RN1_1_4 ∧ Row 286 18 a1_1_4 (lT x1_1_4.1).length c1_1_4 (es1_1_4.flatMap fk ++ reps [.int .i32 0, .int .u8 0, .int .u8 0, .int .u8 0, .int .u8 0, .int .u8 0, .int .u8 0, .int .u8 0, .int .u8 0, .int .u8 0, .int .u8 0, .int .u8 0, .int .u8 0, .int .u8 0, .int .u8 0, .int .u8 0, .int .u8 0, .map none] ((lT x1_1_4.1).length - k1_1_4)) M1_1_4 ∧ es1_1_4.map (·.2) = (rMany (decV 10 (decP fs_sEndQuorumEpochRequestTopicPartitionPreferredCandidate v true) false true) k1_1_4 (rArr true x1_1_2.2).2).1 ∧ ∀ p ∈ es1_1_4, At_EndQuorumEpochRequestTopicPartitionPreferredCandidate H' p.2 (fk p)) [(2, .bool false), (7, .pointer (some ⟨b_1, 0, none⟩)), (8, .int .i16 v), (9, .bool (decide ((1 : Int) ≤ v))), (10, .pointer (some ⟨b, 0, none⟩)), (12, .slice none 0 0), (13, .slice a1 (lT x1.1).length c1), (14, .int .i32 (rArr true x0.2).1), (15, .int .i32 (k1 : Int)), (17, .pointer (some ⟨g1, 0 + k1 * 3, none⟩)), (19, .slice none 0 0), (20, .slice a1_1 (lT x1_1.1).length c1_1), (21, .int .i32 (rArr true x1_0.2).1), (22, .int .i32 (k1_1 : Int)), (24, .pointer (some ⟨g1_1, 0 + k1_1 * 6, none⟩)), (33, .slice none 0 0), (34, .slice a1_1_4 (lT x1_1_4.1).length c1_1_4), (35, .int .i32 (rArr true x1_1_2.2).1), (36, .int .i32 (0 : Int))] (.cons rfl (.cons rfl (.cons rfl (.cons rfl (.cons rfl (.cons rfl (.cons rfl (.cons rfl (.cons rfl (.cons rfl (.cons rfl (.cons rfl (.cons rfl (.cons rfl (.cons rfl (.cons rfl (.cons rfl (.cons rfl (.cons rfl (.nil _)))))))))))))))))))) ⟨[], Nr1_1_4, _, rfl, rfl, (hR205.mono le_11), hr1_1_4, rfl, (fun p hp => by cases hp)⟩ (fun k1_1_4 l' H' L' hk1_1_4 le_12 hI => ?_))
         obtain ⟨es1_1_4, M1_1_4, RN1_1_4, rfl, rfl, hR_1_1_4, hw_1_1_4, he_1_1_4, hg_1_1_4⟩ := hI
         have hs_1_1_4 := els_len he_1_1_4
         have hp_1_1_4 : (es1_1_4.flatMap fk).length = k1_1_4 * 18 := els_flat hs_1_1_4
         refine sq ?_
         refine sr ?_
         refine mv rfl rfl ?_
         refine mv rfl rfl ?_
         refine lt rfl rfl rfl ?_
         refine nl ?_
         refine cd rfl (fun h219 => ?_) (fun h219 => ?_)
         ·
          have hkl1_1_4 : k1_1_4 < (lT x1_1_4.1).length := by omega
          obtain ⟨g1_1_4, po1_1_4, hga1_1_4, rfl, hbk1_1_4⟩ := hw_1_1_4.next (zs := [.int .i32 0, .int .u8 0, .int .u8 0, .int .u8 0, .int .u8 0, .int .u8 0, .int .u8 0, .int .u8 0, .int .u8 0, .int .u8 0, .int .u8 0, .int .u8 0, .int .u8 0, .int .u8 0, .int .u8 0, .int .u8 0, .int .u8 0, .map none]) hkl1_1_4 rfl (by decide)
          have ho1_1_4 : 0 + k1_1_4 * 18 = (es1_1_4.flatMap fk).length := by rw [hp_1_1_4]; omega
          have hbz1_1_4 : ((decV 10 (decP fs_sEndQuorumEpochRequestTopicPartitionPreferredCandidate v true) false true) (rMany (decV 10 (decP fs_sEndQuorumEpochRequestTopicPartitionPreferredCandidate v true) false true) k1_1_4 (rArr true x1_1_2.2).2).2).2.bad = true → (decP fs_EndQuorumEpochRequest v true ⟨s, false, !a.isNone⟩).2.bad = true := fun h => hB1_1_4 (by rw [ex1_1_4]; exact rMany_mono (fun r h => decV_bad (fun r h => decP_bad _ _ _ r h) h) _ (show k1_1_4 + 1 ≤ (lT x1_1_4.1).length from hkl1_1_4) (by rw [rMany_succ]; exact h))
          have hLk1_1_4 : (rMany (decV 10 (decP fs_sEndQuorumEpochRequestTopicPartitionPreferredCandidate v true) false true) k1_1_4 (rArr true x1_1_2.2).2).2.s.length ≤ BR := Nat.le_trans (rMany_shr (fun r => decV_shr (fun r => decP_shr _ _ _ r) r) _ _) hm1_1_4
          have hL1_1_4__ := hLk1_1_4
          obtain ⟨x1_1_4_0, hx1_1_4_0⟩ : ∃ x, x = stepF (Fd.mk 3 0 (-1) (-1) (-1) 0 0 []) v true (rMany (decV 10 (decP fs_sEndQuorumEpochRequestTopicPartitionPreferredCandidate v true) false true) k1_1_4 (rArr true x1_1_2.2).2).2 := ⟨_, rfl⟩
          obtain ⟨x1_1_4_1, hx1_1_4_1⟩ : ∃ x, x = stepF (Fd.mk 7 0 (-1) (-1) (-1) 0 0 []) v true x1_1_4_0.2 := ⟨_, rfl⟩
          obtain ⟨u1_1_4_, hu1_1_4_⟩ : ∃ x, x = tailU true x1_1_4_1.2 := ⟨_, rfl⟩
          have hD1_1_4_ : decP fs_sEndQuorumEpochRequestTopicPartitionPreferredCandidate v true (rMany (decV 10 (decP fs_sEndQuorumEpochRequestTopicPartitionPreferredCandidate v true) false true) k1_1_4 (rArr true x1_1_2.2).2).2 = (.mk 0 [] false [x1_1_4_0.1, x1_1_4_1.1] u1_1_4_.1, u1_1_4_.2) := by
           generalize ((rMany (decV 10 (decP fs_sEndQuorumEpochRequestTopicPartitionPreferredCandidate v true) false true) k1_1_4 (rArr true x1_1_2.2).2).2 : Rd) = r_ at hx1_1_4_0 ⊢
           rw [decP_eq]; unfold fs_sEndQuorumEpochRequestTopicPartitionPreferredCandidate; simp only [decFs_cons, decFs_nil, ← hx1_1_4_0, ← hx1_1_4_1, ← hu1_1_4_]
          have hL1_1_4_0 : x1_1_4_0.2.s.length ≤ BR := by rw [hx1_1_4_0]; exact Nat.le_trans (stepF_shr _ _ _ _) hL1_1_4__
          have hL1_1_4_1 : x1_1_4_1.2.s.length ≤ BR := by rw [hx1_1_4_1]; exact Nat.le_trans (stepF_shr _ _ _ _) hL1_1_4_0
          have hE1_1_4_ : u1_1_4_.2.bad = true → (decP fs_EndQuorumEpochRequest v true ⟨s, false, !a.isNone⟩).2.bad = true := fun h => hbz1_1_4 (by show (decP fs_sEndQuorumEpochRequestTopicPartitionPreferredCandidate v true (rMany (decV 10 (decP fs_sEndQuorumEpochRequestTopicPartitionPreferredCandidate v true) false true) k1_1_4 (rArr true x1_1_2.2).2).2).2.bad = true; rw [hD1_1_4_]; exact h)
          have hB1_1_4_1 : x1_1_4_1.2.bad = true → (decP fs_EndQuorumEpochRequest v true ⟨s, false, !a.isNone⟩).2.bad = true := fun h => hE1_1_4_ (by rw [hu1_1_4_]; exact tailU_bad h)
          have hB1_1_4_0 : x1_1_4_0.2.bad = true → (decP fs_EndQuorumEpochRequest v true ⟨s, false, !a.isNone⟩).2.bad = true := fun h => hB1_1_4_1 (by rw [hx1_1_4_1]; exact step_bad h)
          refine skt ?_
          refine sq ?_
          refine bl ?_
          refine sr ?_
          refine mv rfl rfl ?_
          refine mv rfl rfl ?_
          refine ixk (j := k1_1_4) Tryz.runUnderlying281 Tryz.sizeOf286 rfl hga1_1_4 rfl rfl hkl1_1_4 rfl ?_
          refine asg rfl rfl ?_
          refine nl ?_
          refine sr ?_
          refine mv rfl rfl ?_
          refine cl rfl rfl rfl (def_EndQuorumEpochRequestTopicPartitionPreferredCandidate ho1_1_4) rfl (fun v_ H1 L1 hle_ hR_ => ?_)
          obtain ⟨rfl, rfl⟩ := hR_
          refine nl ?_
          refine sr ?_
          refine mv rfl rfl ?_
          refine asg rfl rfl ?_
          refine nl ?_
          refine sq ?_
          refine sr ?_
          refine tf (.tail .head) ?_
          have ex1_1_4_0 : x1_1_4_0 = decV 3 (decP [] v true) false true (rMany (decV 10 (decP fs_sEndQuorumEpochRequestTopicPartitionPreferredCandidate v true) false true) k1_1_4 (rArr true x1_1_2.2).2).2 := (hx1_1_4_0.trans (step_yes (by decide) (show (0 : Int) ≤ v by omega) (Or.inl (by decide)))).trans (decF'_val (by decide) (rfl))
          refine cl rfl rfl rfl (d3 hR_1_1_4 ex1_1_4_0) rfl (fun v_ H1 L1 hle_ hR_ => ?_)
          obtain ⟨N228, rfl, hR228, rfl, rfl⟩ := hR_
          refine asg rfl rfl ?_
          refine nl ?_
          refine rg ?_
          refine mv rfl rfl ?_
          refine mv rfl rfl ?_
          refine nc rfl rfl ?_
          refine fa F286_0 rfl rfl ?_
          refine stM (off := 0) Tryz.sizeOf21 rfl (by rw [ho1_1_4]) rfl rfl rfl (.tail .head) ?_
          refine nl ?_
          refine sq ?_
          refine sr ?_
          have ex1_1_4_1 : x1_1_4_1 = decV 7 (decP [] v true) false true x1_1_4_0.2 := (hx1_1_4_1.trans (step_yes (by decide) (show (0 : Int) ≤ v by omega) (Or.inl (by decide)))).trans (decF'_val (by decide) (rfl))
          refine cl rfl rfl rfl (d7 hR228 ex1_1_4_1) rfl (fun v_ H1 L1 hle_ hR_ => ?_)
          obtain ⟨N233, rfl, hR233, rfl, rfl⟩ := hR_
          refine al Tryz.zeroValue182 rfl rfl (fun b_15 => ?_)
          refine sa Tryz.sizeOf182 rfl rfl rfl rfl rfl .head ?_
          refine nl ?_
          refine rg ?_
          refine mv rfl rfl ?_
          refine la (Says.own .head) Tryz.isAgg182 Tryz.sizeOf182 rfl (Nat.zero_add _).symm rfl rfl ?_
          refine nc rfl rfl ?_
          refine fa F286_1 rfl rfl ?_
          refine saM (off := 1) Tryz.sizeOf182 rfl (by rw [ho1_1_4]) rfl rfl rfl rfl (.tail (.tail .head)) ?_
          refine nl ?_
          refine sr ?_
          refine mv rfl rfl ?_
          refine nl ?_
          refine cdT rfl (by omega) ?_
          refine rg ?_
          refine mv rfl rfl ?_
          refine tf (.tail .head) ?_
          refine cl rfl rfl rfl (d_tags hR233) rfl (fun v_ H1 L1 le_16 hR_ => ?_)
          obtain ⟨N240, rfl, hR240, m1_1_4_t, rfl, hft1_1_4_⟩ := hR_
          have hu21_1_4_ : u1_1_4_ = rTags x1_1_4_1.2 := hu1_1_4_
          rw [← hu21_1_4_] at hR240 hft1_1_4_
          refine nc rfl rfl ?_
          refine fa F286_2 rfl rfl ?_
          refine saM (off := 17) Tryz.sizeOf105 rfl (by rw [ho1_1_4]) rfl rfl rfl rfl (.tail (.tail .head)) ?_
          refine nN ?_
          refine Nb ?_
          refine Nt ?_
          refine rg ?_
          refine mv rfl rfl ?_
          refine ad rfl rfl (c := ((k1_1_4 + 1 : Nat) : Int)) ((wrap32_le (by omega) (by omega)).trans (by omega)) rfl ?_
          refine asg rfl rfl ?_
          refine nN ?_
          have hfs1_1_4 := flatMap_snoc' fk es1_1_4 ((⟨([.int .i32 (IntKind.i32.wrap x1_1_4_0.1.n), ub x1_1_4_1.1.s 0, ub x1_1_4_1.1.s 1, ub x1_1_4_1.1.s 2, ub x1_1_4_1.1.s 3, ub x1_1_4_1.1.s 4, ub x1_1_4_1.1.s 5, ub x1_1_4_1.1.s 6, ub x1_1_4_1.1.s 7, ub x1_1_4_1.1.s 8, ub x1_1_4_1.1.s 9, ub x1_1_4_1.1.s 10, ub x1_1_4_1.1.s 11, ub x1_1_4_1.1.s 12, ub x1_1_4_1.1.s 13, ub x1_1_4_1.1.s 14, ub x1_1_4_1.1.s 15, .map m1_1_4_t] : List Value), rfl, all_one rfl⟩, ((decV 10 (decP fs_sEndQuorumEpochRequestTopicPartitionPreferredCandidate v true) false true) (rMany (decV 10 (decP fs_sEndQuorumEpochRequestTopicPartitionPreferredCandidate v true) false true) k1_1_4 (rArr true x1_1_2.2).2).2).1) : KE 18)
          have hrw1_1_4 := hbk1_1_4 ([.int .i32 (IntKind.i32.wrap x1_1_4_0.1.n), ub x1_1_4_1.1.s 0, ub x1_1_4_1.1.s 1, ub x1_1_4_1.1.s 2, ub x1_1_4_1.1.s 3, ub x1_1_4_1.1.s 4, ub x1_1_4_1.1.s 5, ub x1_1_4_1.1.s 6, ub x1_1_4_1.1.s 7, ub x1_1_4_1.1.s 8, ub x1_1_4_1.1.s 9, ub x1_1_4_1.1.s 10, ub x1_1_4_1.1.s 11, ub x1_1_4_1.1.s 12, ub x1_1_4_1.1.s 13, ub x1_1_4_1.1.s 14, ub x1_1_4_1.1.s 15, .map m1_1_4_t] : List Value) rfl
          refine drN (.tail .head) ?_
          refine tfN (.tail .head) ?_
          refine fun a_ w_ hA hw => ⟨hkl1_1_4, _, _, _, hA.sub ?_, (le_12.trans le_16), hw, _, _, _, rfl, rfl, (by rw [rMany_succ]; show RdAt _ 232 b_1 (decP fs_sEndQuorumEpochRequestTopicPartitionPreferredCandidate v true (rMany (decV 10 (decP fs_sEndQuorumEpochRequestTopicPartitionPreferredCandidate v true) false true) k1_1_4 (rArr true x1_1_2.2).2).2).2 _; rw [hD1_1_4_]; exact hR240), (by rw [← hfs1_1_4]; exact hrw1_1_4), (dec_els he_1_1_4), (fun p hp => (mem_snoc hp).elim (fun h => At_EndQuorumEpochRequestTopicPartitionPreferredCandidate.mono _ _ _ _ le_16 (hg_1_1_4 p h)) (fun h => h ▸ (by show At_EndQuorumEpochRequestTopicPartitionPreferredCandidate _ (decP fs_sEndQuorumEpochRequestTopicPartitionPreferredCandidate v true (rMany (decV 10 (decP fs_sEndQuorumEpochRequestTopicPartitionPreferredCandidate v true) false true) k1_1_4 (rArr true x1_1_2.2).2).2).1 [.int .i32 (IntKind.i32.wrap x1_1_4_0.1.n), ub x1_1_4_1.1.s 0, ub x1_1_4_1.1.s 1, ub x1_1_4_1.1.s 2, ub x1_1_4_1.1.s 3, ub x1_1_4_1.1.s 4, ub x1_1_4_1.1.s 5, ub x1_1_4_1.1.s 6, ub x1_1_4_1.1.s 7, ub x1_1_4_1.1.s 8, ub x1_1_4_1.1.s 9, ub x1_1_4_1.1.s 10, ub x1_1_4_1.1.s 11, ub x1_1_4_1.1.s 12, ub x1_1_4_1.1.s 13, ub x1_1_4_1.1.s 14, ub x1_1_4_1.1.s 15, .map m1_1_4_t]; rw [hD1_1_4_]; exact ⟨m1_1_4_t, rfl, hft1_1_4_⟩)))⟩
          exact (.cons rfl (.cons rfl (.cons rfl (.cons rfl (.cons rfl (.cons rfl (.cons rfl (.cons rfl (.cons rfl (.cons rfl (.cons rfl (.cons rfl (.cons rfl (.cons rfl (.cons rfl (.cons rfl (.cons rfl (.cons rfl (.cons rfl (.nil _))))))))))))))))))))
         ·
          have hkn_ : k1_1_4 = (lT x1_1_4.1).length := by omega
          subst hkn_
          have hw2_1_1_4 : Row 286 18 a1_1_4 (lT x1_1_4.1).length c1_1_4 (es1_1_4.flatMap fk) M1_1_4 := by have h := hw_1_1_4; rw [Nat.sub_self] at h; simpa [reps] using h
          refine frW hw2_1_1_4 .head (fun Hf1_1_4 hlf1_1_4 hfz1_1_4 => ?_)
          have hrs1_1_4 := RowsAt.row (R := At_EndQuorumEpochRequestTopicPartitionPreferredCandidate) hfz1_1_4 hs_1_1_4.symm hw2_1_1_4.le.1 (fun p hp => At_EndQuorumEpochRequestTopicPartitionPreferredCandidate.mono _ _ _ _ hlf1_1_4 (hg_1_1_4 p hp))
          rw [he_1_1_4] at hrs1_1_4
          have hf1_1_4 : ListAt Hf1_1_4 x1_1_4.1 18 At_EndQuorumEpochRequestTopicPartitionPreferredCandidate a1_1_4 c1_1_4 := by rw [ex1_1_4]; exact listAt_of hrs1_1_4 hi1_1_4 (fun h => by have h1 := nul_le h; rw [show (lT x1_1_4.1).length = 0 by omega]; rfl)
          have hRx1_1_4 : RdAt Hf1_1_4 232 b_1 x1_1_4.2 RN1_1_4 := by rw [ex1_1_4]; exact (hR_1_1_4.mono hlf1_1_4)
          refine exX ?_
          refine XT ?_
          refine XT ?_
          refine Xb ?_
          refine Nt ?_
          refine sr ?_
          refine mv rfl rfl ?_
          refine asg rfl rfl ?_
          refine nl ?_
          refine rg ?_
          refine mv rfl rfl ?_
          refine mv rfl rfl ?_
          refine nc rfl rfl ?_
          refine fa F283_4 rfl rfl ?_
          refine stM (off := 4) Tryz.sizeOf281 rfl (by rw [ho1_1]) rfl rfl rfl (.tail .head) ?_
          refine nl ?_
          refine sr ?_
          refine mv rfl rfl ?_
          refine nl ?_
          refine cdT rfl (by omega) ?_
          refine rg ?_
          refine mv rfl rfl ?_
          refine cl rfl rfl rfl (d_tags hRx1_1_4) rfl (fun v_ H1 L1 le_17 hR_ => ?_)
          obtain ⟨N250, rfl, hR250, m1_1_t, rfl, hft1_1_⟩ := hR_
          have hu21_1_ : u1_1_ = rTags x1_1_4.2 := hu1_1_
          rw [← hu21_1_] at hR250 hft1_1_
          refine nc rfl rfl ?_
          refine fa F283_5 rfl rfl ?_
          refine saM (off := 5) Tryz.sizeOf105 rfl (by rw [ho1_1]) rfl rfl rfl rfl (.tail .head) ?_
          refine nN ?_
          refine Nb ?_
          refine Nt ?_
          refine rg ?_
          refine mv rfl rfl ?_
          refine ad rfl rfl (c := ((k1_1 + 1 : Nat) : Int)) ((wrap32_le (by omega) (by omega)).trans (by omega)) rfl ?_
          refine asg rfl rfl ?_
          refine nN ?_
          have hfs1_1 := flatMap_snoc' fk es1_1 ((⟨([.int .i32 (IntKind.i32.wrap x1_1_0.1.n), .int .i32 (IntKind.i32.wrap x1_1_1.1.n), .int .i32 (IntKind.i32.wrap x1_1_2.1.n), .slice none 0 0, .slice a1_1_4 (lT x1_1_4.1).length c1_1_4, .map m1_1_t] : List Value), rfl, all_one rfl⟩, ((decV 10 (decP fs_sEndQuorumEpochRequestTopicPartition v true) false true) (rMany (decV 10 (decP fs_sEndQuorumEpochRequestTopicPartition v true) false true) k1_1 (rArr true x1_0.2).2).2).1) : KE 6)
          have hrw1_1 := hbk1_1 ([.int .i32 (IntKind.i32.wrap x1_1_0.1.n), .int .i32 (IntKind.i32.wrap x1_1_1.1.n), .int .i32 (IntKind.i32.wrap x1_1_2.1.n), .slice none 0 0, .slice a1_1_4 (lT x1_1_4.1).length c1_1_4, .map m1_1_t] : List Value) rfl
          refine tfN (.tail .head) ?_
          refine fun a_ w_ hA hw => ⟨hkl1_1, _, _, _, hA.sub ?_, (le_7.trans (le_11.trans (le_12.trans (hlf1_1_4.trans le_17)))), hw, _, _, _, rfl, rfl, (by rw [rMany_succ]; show RdAt _ 232 b_1 (decP fs_sEndQuorumEpochRequestTopicPartition v true (rMany (decV 10 (decP fs_sEndQuorumEpochRequestTopicPartition v true) false true) k1_1 (rArr true x1_0.2).2).2).2 _; rw [hD1_1_]; exact hR250), (by rw [← hfs1_1]; exact hrw1_1), (dec_els he_1_1), (fun p hp => (mem_snoc hp).elim (fun h => At_EndQuorumEpochRequestTopicPartition.mono _ _ _ _ (le_11.trans (le_12.trans (hlf1_1_4.trans le_17))) (hg_1_1 p h)) (fun h => h ▸ (by show At_EndQuorumEpochRequestTopicPartition _ (decP fs_sEndQuorumEpochRequestTopicPartition v true (rMany (decV 10 (decP fs_sEndQuorumEpochRequestTopicPartition v true) false true) k1_1 (rArr true x1_0.2).2).2).1 [.int .i32 (IntKind.i32.wrap x1_1_0.1.n), .int .i32 (IntKind.i32.wrap x1_1_1.1.n), .int .i32 (IntKind.i32.wrap x1_1_2.1.n), .slice none 0 0, .slice a1_1_4 (lT x1_1_4.1).length c1_1_4, .map m1_1_t]; rw [hD1_1_]; exact ⟨none, 0, a1_1_4, c1_1_4, m1_1_t, rfl, (ListAt.none rfl), (hf1_1_4.mono At_EndQuorumEpochRequestTopicPartitionPreferredCandidate.mono le_17), hft1_1_⟩)))⟩
          exact (.cons rfl (.cons rfl (.cons rfl (.cons rfl (.cons rfl (.cons rfl (.cons rfl (.cons rfl (.cons rfl (.cons rfl (.cons rfl (.cons rfl (.cons rfl (.cons rfl (.nil _)))))))))))))))
      ·
       have hkn_ : k1_1 = (lT x1_1.1).length := by omega
       subst hkn_
       have hw2_1_1 : Row 283 6 a1_1 (lT x1_1.1).length c1_1 (es1_1.flatMap fk) M1_1 := by have h := hw_1_1; rw [Nat.sub_self] at h; simpa [reps] using h
       refine frW hw2_1_1 .head (fun Hf1_1 hlf1_1 hfz1_1 => ?_)
       have hrs1_1 := RowsAt.row (R := At_EndQuorumEpochRequestTopicPartition) hfz1_1 hs_1_1.symm hw2_1_1.le.1 (fun p hp => At_EndQuorumEpochRequestTopicPartition.mono _ _ _ _ hlf1_1 (hg_1_1 p hp))
       rw [he_1_1] at hrs1_1
       have hf1_1 : ListAt Hf1_1 x1_1.1 6 At_EndQuorumEpochRequestTopicPartition a1_1 c1_1 := by rw [ex1_1]; exact listAt_of hrs1_1 hi1_1 (fun h => by have h1 := nul_le h; rw [show (lT x1_1.1).length = 0 by omega]; rfl)
       have hRx1_1 : RdAt Hf1_1 232 b_1 x1_1.2 RN1_1 := by rw [ex1_1]; exact (hR_1_1.mono hlf1_1)
       refine exX ?_
       refine XT ?_
       refine XT ?_
       refine Xb ?_
       refine Nt ?_
       refine sr ?_
       refine mv rfl rfl ?_
       refine asg rfl rfl ?_
       refine nl ?_
       refine rg ?_
       refine mv rfl rfl ?_
       refine mv rfl rfl ?_
       refine nc rfl rfl ?_
       refine fa F166_1 rfl rfl ?_
       refine stM (off := 1) Tryz.sizeOf164 rfl (by rw [ho1]) rfl rfl rfl (.tail .head) ?_
       refine nl ?_
       refine sr ?_
       refine mv rfl rfl ?_
       refine nl ?_
       refine cdT rfl (by omega) ?_
       refine rg ?_
       refine mv rfl rfl ?_
       refine cl rfl rfl rfl (d_tags hRx1_1) rfl (fun v_ H1 L1 le_18 hR_ => ?_)
       obtain ⟨N260, rfl, hR260, m1_t, rfl, hft1_⟩ := hR_
       have hu21_ : u1_ = rTags x1_1.2 := hu1_
       rw [← hu21_] at hR260 hft1_
       refine nc rfl rfl ?_
       refine fa F166_2 rfl rfl ?_
       refine saM (off := 2) Tryz.sizeOf105 rfl (by rw [ho1]) rfl rfl rfl rfl (.tail .head) ?_
       refine nN ?_
       refine Nb ?_
       refine Nt ?_
       refine rg ?_
       refine mv rfl rfl ?_
       refine ad rfl rfl (c := ((k1 + 1 : Nat) : Int)) ((wrap32_le (by omega) (by omega)).trans (by omega)) rfl ?_
       refine asg rfl rfl ?_
       refine nN ?_
       have hfs1 := flatMap_snoc' fk es1 ((⟨([.string ⟨x1_0.1.s.toArray⟩, .slice a1_1 (lT x1_1.1).length c1_1, .map m1_t] : List Value), rfl, all_one rfl⟩, ((decV 10 (decP fs_sEndQuorumEpochRequestTopic v true) false true) (rMany (decV 10 (decP fs_sEndQuorumEpochRequestTopic v true) false true) k1 (rArr true x0.2).2).2).1) : KE 3)
       have hrw1 := hbk1 ([.string ⟨x1_0.1.s.toArray⟩, .slice a1_1 (lT x1_1.1).length c1_1, .map m1_t] : List Value) rfl
       refine tfN (.tail .head) ?_
       refine fun a_ w_ hA hw => ⟨hkl1, _, _, _, hA.sub ?_, (le_4.trans (le_6.trans (le_7.trans (hlf1_1.trans le_18)))), hw, _, _, _, rfl, rfl, (by rw [rMany_succ]; show RdAt _ 232 b_1 (decP fs_sEndQuorumEpochRequestTopic v true (rMany (decV 10 (decP fs_sEndQuorumEpochRequestTopic v true) false true) k1 (rArr true x0.2).2).2).2 _; rw [hD1_]; exact hR260), (by rw [← hfs1]; exact hrw1), (dec_els he_1), (fun p hp => (mem_snoc hp).elim (fun h => At_EndQuorumEpochRequestTopic.mono _ _ _ _ (le_6.trans (le_7.trans (hlf1_1.trans le_18))) (hg_1 p h)) (fun h => h ▸ (by show At_EndQuorumEpochRequestTopic _ (decP fs_sEndQuorumEpochRequestTopic v true (rMany (decV 10 (decP fs_sEndQuorumEpochRequestTopic v true) false true) k1 (rArr true x0.2).2).2).1 [.string ⟨x1_0.1.s.toArray⟩, .slice a1_1 (lT x1_1.1).length c1_1, .map m1_t]; rw [hD1_]; exact ⟨a1_1, c1_1, m1_t, rfl, (hf1_1.mono At_EndQuorumEpochRequestTopicPartition.mono le_18), hft1_⟩)))⟩
       exact (.cons rfl (.cons rfl (.cons rfl (.cons rfl (.cons rfl (.cons rfl (.cons rfl (.cons rfl (.cons rfl (.nil _))))))))))
   ·
    have hkn_ : k1 = (lT x1.1).length := by omega
    subst hkn_
    have hw2_1 : Row 166 3 a1 (lT x1.1).length c1 (es1.flatMap fk) M1 := by have h := hw_1; rw [Nat.sub_self] at h; simpa [reps] using h
    refine frW hw2_1 .head (fun Hf1 hlf1 hfz1 => ?_)
    have hrs1 := RowsAt.row (R := At_EndQuorumEpochRequestTopic) hfz1 hs_1.symm hw2_1.le.1 (fun p hp => At_EndQuorumEpochRequestTopic.mono _ _ _ _ hlf1 (hg_1 p hp))
    rw [he_1] at hrs1
    have hf1 : ListAt Hf1 x1.1 3 At_EndQuorumEpochRequestTopic a1 c1 := by rw [ex1]; exact listAt_of hrs1 hi1 (fun h => by have h1 := nul_le h; rw [show (lT x1.1).length = 0 by omega]; rfl)
    have hRx1 : RdAt Hf1 232 b_1 x1.2 RN1 := by rw [ex1]; exact (hR_1.mono hlf1)
    refine exX ?_
    refine XT ?_
    refine XT ?_
    refine Xb ?_
    refine Nt ?_
    refine sr ?_
    refine mv rfl rfl ?_
    refine asg rfl rfl ?_
    refine nl ?_
    refine rg ?_
    refine mv rfl rfl ?_
    refine mv rfl rfl ?_
    refine nc rfl rfl ?_
    refine fa0 F160_2 rfl rfl ?_
    refine st Tryz.sizeOf157 rfl rfl rfl rfl (.tail .head) ?_
    refine nl ?_
    refine sq ?_
    refine sr ?_
    refine mv rfl rfl ?_
    refine ge rfl rfl rfl ?_
    refine nl ?_
    refine cdT rfl (by omega) ?_
    refine sr ?_
    refine mv rfl rfl ?_
    refine nc rfl rfl ?_
    refine fa0 F160_3 rfl rfl ?_
    refine ld (Says.own (.tail .head)) Tryz.isAgg158 rfl (Nat.zero_add _).symm rfl rfl ?_
    refine asg rfl rfl ?_
    refine nl ?_
    refine sr ?_
    refine mv rfl rfl ?_
    refine asg rfl rfl ?_
    refine nl ?_
    refine sr ?_
    refine asg rfl rfl ?_
    refine nl ?_
    refine sq ?_
    refine sr ?_
    refine mv rfl rfl ?_
    refine nl ?_
    refine cdT rfl (by omega) ?_
    refine rg ?_
    have ey2 : x2 = (.mk 0 [] (if 0 ≤ ((-1) : Int) ∧ (v < ((-1) : Int) ∨ (rArr true x1.2).1 = 0) then false else decide ((rArr true x1.2).1 ≤ 0)) (rMany (decV 10 (decP fs_sEndQuorumEpochRequestLeaderEndpoint v true) false true) (rArr true x1.2).1.toNat (rArr true x1.2).2).1 [], (rMany (decV 10 (decP fs_sEndQuorumEpochRequestLeaderEndpoint v true) false true) (rArr true x1.2).1.toNat (rArr true x1.2).2).2) := (hx2.trans (step_yes (by decide) (show (1 : Int) ≤ v by omega) (Or.inl (by decide)))).trans (decF'_list rfl rfl)
    have hn2 : (rArr true x1.2).1.toNat = (lT x2.1).length := by rw [ey2]; exact (lT_many nul_le).symm
    have ex2 := ey2
    rw [hn2] at ex2
    have hl2 := rArr_le true x1.2
    have hm2 : (rArr true x1.2).2.s.length ≤ BR := Nat.le_trans (rArr_len true x1.2) hL1
    have hnb2 : (lT x2.1).length ≤ BR := by omega
    refine cl rfl rfl rfl (r_arrt hRx1) rfl (fun v_ H1 L1 hle_ hR_ => ?_)
    obtain ⟨rfl, N276, rfl, hR276, rfl⟩ := hR_
    have hh2 := rArr_hi true x1.2
    refine asg rfl rfl ?_
    refine nl ?_
    refine sq ?_
    refine sr ?_
    refine cl rfl rfl rfl (r_ok hR276) rfl (fun v_ H1 L1 hle_ hR_ => ?_)
    obtain ⟨rfl, rfl, rfl⟩ := hR_
    refine nt rfl rfl ?_
    refine nl ?_
    refine cb rfl (fun h279 => ?_) (fun h279 => ?_)
    ·
     have hbad_ : (rArr true x1.2).2.bad = true := by simpa using h279
     refine sr ?_
     refine cl rfl rfl rfl (r_complete hR276 (he.mono (le_2.trans (le_3.trans (le_4.trans hlf1))))) rfl (fun v_ H1 L1 hle_ hR_ => ?_)
     obtain ⟨rfl, rfl, rfl⟩ := hR_
     refine asg rfl rfl ?_
     refine nl ?_
     refine drW .head ?_
     exact rT rfl rfl (le_2.trans (le_3.trans (le_4.trans hlf1))) (fun _ _ h => h) ⟨_, rfl, RdEnd.out (hB2 (by rw [ey2]; exact rMany_bad (fun r h => decV_bad (decP_bad _ _ _) h) _ _ hbad_)) hbad_⟩
    ·
     refine skt ?_
     refine sr ?_
     refine mv rfl rfl ?_
     refine sh' (j := 0) Tryz.runUnderlying158 Tryz.sizeOf171 rfl rfl rfl (Nat.zero_le _) rfl ?_
     refine asg rfl rfl ?_
     refine nl ?_
     refine sq ?_
     refine sr ?_
     refine mv rfl rfl ?_
     refine gt rfl rfl rfl ?_
     refine nl ?_
     refine nulC2 ?_
     refine cutT (fun l' H' L' => ∃ (a2 : Option Addr), ∃ (c2 : Nat), ∃ (Nr2 : Chunk), [(2, .bool false), (7, .pointer (some ⟨b_1, 0, none⟩)), (9, .bool (decide ((1 : Int) ≤ v))), (10, .pointer (some ⟨b, 0, none⟩)), (41, .slice none 0 0), (42, .slice a2 (lT x2.1).length c2), (43, .int .i32 (rArr true x1.2).1)] = l' ∧ Nr2 :: N276 :: [(b, .cells [.int .i16 v, .pointer p0, .slice a1 (lT x1.1).length c1, .slice none 0 0, .map none].toArray 160 (0, 0))] :: L = L' ∧ Row 171 4 a2 (lT x2.1).length c2 (reps [.string ⟨#[]⟩, .string ⟨#[]⟩, .int .u16 0, .map none] (lT x2.1).length) Nr2 ∧ a2.isNone = (if 0 ≤ ((-1) : Int) ∧ (v < ((-1) : Int) ∨ (rArr true x1.2).1 = 0) then false else decide ((rArr true x1.2).1 ≤ 0))) ?_ (fun l' H' L' le_19 hI => ?_)
     ·
      refine cd rfl (fun h284 => ?_) (fun h284 => ?_)
      ·
       refine rg ?_
       refine mv rfl rfl ?_
       refine mv rfl rfl ?_
       refine apz (zs := [.string ⟨#[]⟩, .string ⟨#[]⟩, .int .u16 0, .map none]) (m := (lT x2.1).length) Tryz.underlying158 Tryz.underlying21 I171 rfl rfl rfl (by omega) (by omega) (by have h9 := hnb2; unfold BR at h9; omega) (by have h9 := hnb2; unfold BR at h9; unfold maxLen; omega) rfl (fun g287 cp287 N287 r287 => ?_)
       refine asg rfl rfl ?_
       refine nN ?_
       refine drN (.tail .head) ?_
       refine fun a_ w_ hA hw => ⟨_, _, _, hA.sub ?_, (Fz.le.refl _), hw, (some ⟨g287, 0, none⟩), cp287, N287, rfl, rfl, r287, (by rw [if_neg (by omega)]; exact (decide_eq_false (by omega)).symm)⟩
       exact (.cons rfl (.cons rfl (.cons rfl (.cons rfl (.cons rfl (.cons rfl (.cons rfl (.nil _))))))))
      ·
       refine skN ?_
       refine fun a_ w_ hA hw => ⟨_, _, _, hA.sub ?_, (Fz.le.refl _), hw, none, 0, [], rfl, rfl, (by rw [show (lT x2.1).length = 0 by omega]; exact (Row.nil _ _)), (by rw [if_neg (by omega)]; exact (decide_eq_true (by omega)).symm)⟩
       exact (.cons rfl (.cons rfl (.cons rfl (.cons rfl (.cons rfl (.cons (by rw [show (lT x2.1).length = 0 by omega]; rfl) (.cons rfl (.nil _))))))))
     ·
      obtain ⟨a2, c2, Nr2, rfl, rfl, pj0, pj1⟩ := hI
      have hr2 := pj0
      have hi2 := pj1
      refine sq ?_
      refine sr ?_
      refine asg rfl rfl ?_
      refine nl ?_
      refine bl (lp ((lT x2.1).length) (fun k2 l' H' L' => ∃ (es2 : List (KE 4)) (M2 RN2 : Chunk), [(2, .bool false), (7, .pointer (some ⟨b_1, 0, none⟩)), (9, .bool (decide ((1 : Int) ≤ v))), (10, .pointer (some ⟨b, 0, none⟩)), (41, .slice none 0 0), (42, .slice a2 (lT x2.1).length c2), (43, .int .i32 (rArr true x1.2).1), (44, .int .i32 (k2 : Int))] = l' ∧ M2 :: RN2 :: [(b, .cells [.int .i16 v, .pointer p0, .slice a1 (lT x1.1).length c1, .slice none 0 0, .map none].toArray 160 (0, 0))] :: L = L' ∧ RdAt H' 232 b_1 (rMany (decV 10 (decP fs_sEndQuorumEpochRequestLeaderEndpoint v true) false true) k2 (rArr true x1.2).2).2 RN2 ∧ Row 171 4 a2 (lT x2.1).length c2 (es2.flatMap fk ++ reps [.string ⟨#[]⟩, .string ⟨#[]⟩, .int .u16 0, .map none] ((lT x2.1).length - k2)) M2 ∧ es2.map (·.2) = (rMany (decV 10 (decP fs_sEndQuorumEpochRequestLeaderEndpoint v true) false true) k2 (rArr true x1.2).2).1 ∧ ∀ p ∈ es2, At_EndQuorumEpochRequestLeaderEndpoint H' p.2 (fk p)) [(2, .bool false), (7, .pointer (some ⟨b_1, 0, none⟩)), (9, .bool (decide ((1 : Int) ≤ v))), (10, .pointer (some ⟨b, 0, none⟩)), (41, .slice none 0 0), (42, .slice a2 (lT x2.1).length c2), (43, .int .i32 (rArr true x1.2).1), (44, .int .i32 (0 : Int))] (.cons rfl (.cons rfl (.cons rfl (.cons rfl (.cons rfl (.cons rfl (.cons rfl (.cons rfl (.nil _))))))))) ⟨[], Nr2, _, rfl, rfl, (hR276.mono le_19), hr2, rfl, (fun p hp => by cases hp)⟩ (fun k2 l' H' L' hk2 le_20 hI => ?_))
      obtain ⟨es2, M2, RN2, rfl, rfl, hR_2, hw_2, he_2, hg_2⟩ := hI
      have hs_2 := els_len he_2
      have hp_2 : (es2.flatMap fk).length = k2 * 4 := els_flat hs_2
      refine sq ?_
      refine sr ?_
      refine mv rfl rfl ?_
      refine mv rfl rfl ?_
      refine lt rfl rfl rfl ?_
      refine nl ?_
      refine cd rfl (fun h290 => ?_) (fun h290 => ?_)
      ·
       have hkl2 : k2 < (lT x2.1).length := by omega
       obtain ⟨g2, po2, hga2, rfl, hbk2⟩ := hw_2.next (zs := [.string ⟨#[]⟩, .string ⟨#[]⟩, .int .u16 0, .map none]) hkl2 rfl (by decide)
       have ho2 : 0 + k2 * 4 = (es2.flatMap fk).length := by rw [hp_2]; omega
       have hbz2 : ((decV 10 (decP fs_sEndQuorumEpochRequestLeaderEndpoint v true) false true) (rMany (decV 10 (decP fs_sEndQuorumEpochRequestLeaderEndpoint v true) false true) k2 (rArr true x1.2).2).2).2.bad = true → (decP fs_EndQuorumEpochRequest v true ⟨s, false, !a.isNone⟩).2.bad = true := fun h => hB2 (by rw [ex2]; exact rMany_mono (fun r h => decV_bad (fun r h => decP_bad _ _ _ r h) h) _ (show k2 + 1 ≤ (lT x2.1).length from hkl2) (by rw [rMany_succ]; exact h))
       have hLk2 : (rMany (decV 10 (decP fs_sEndQuorumEpochRequestLeaderEndpoint v true) false true) k2 (rArr true x1.2).2).2.s.length ≤ BR := Nat.le_trans (rMany_shr (fun r => decV_shr (fun r => decP_shr _ _ _ r) r) _ _) hm2
       have hL2__ := hLk2
       obtain ⟨x2_0, hx2_0⟩ : ∃ x, x = stepF (Fd.mk 8 0 (-1) (-1) (-1) 0 0 []) v true (rMany (decV 10 (decP fs_sEndQuorumEpochRequestLeaderEndpoint v true) false true) k2 (rArr true x1.2).2).2 := ⟨_, rfl⟩
       obtain ⟨x2_1, hx2_1⟩ : ∃ x, x = stepF (Fd.mk 8 0 (-1) (-1) (-1) 0 0 []) v true x2_0.2 := ⟨_, rfl⟩
       obtain ⟨x2_2, hx2_2⟩ : ∃ x, x = stepF (Fd.mk 5 0 (-1) (-1) (-1) 0 0 []) v true x2_1.2 := ⟨_, rfl⟩
       obtain ⟨u2_, hu2_⟩ : ∃ x, x = tailU true x2_2.2 := ⟨_, rfl⟩
       have hD2_ : decP fs_sEndQuorumEpochRequestLeaderEndpoint v true (rMany (decV 10 (decP fs_sEndQuorumEpochRequestLeaderEndpoint v true) false true) k2 (rArr true x1.2).2).2 = (.mk 0 [] false [x2_0.1, x2_1.1, x2_2.1] u2_.1, u2_.2) := by
        generalize ((rMany (decV 10 (decP fs_sEndQuorumEpochRequestLeaderEndpoint v true) false true) k2 (rArr true x1.2).2).2 : Rd) = r_ at hx2_0 ⊢
        rw [decP_eq]; unfold fs_sEndQuorumEpochRequestLeaderEndpoint; simp only [decFs_cons, decFs_nil, ← hx2_0, ← hx2_1, ← hx2_2, ← hu2_]
       have hL2_0 : x2_0.2.s.length ≤ BR := by rw [hx2_0]; exact Nat.le_trans (stepF_shr _ _ _ _) hL2__
       have hL2_1 : x2_1.2.s.length ≤ BR := by rw [hx2_1]; exact Nat.le_trans (stepF_shr _ _ _ _) hL2_0
       have hL2_2 : x2_2.2.s.length ≤ BR := by rw [hx2_2]; exact Nat.le_trans (stepF_shr _ _ _ _) hL2_1
       have hE2_ : u2_.2.bad = true → (decP fs_EndQuorumEpochRequest v true ⟨s, false, !a.isNone⟩).2.bad = true := fun h => hbz2 (by show (decP fs_sEndQuorumEpochRequestLeaderEndpoint v true (rMany (decV 10 (decP fs_sEndQuorumEpochRequestLeaderEndpoint v true) false true) k2 (rArr true x1.2).2).2).2.bad = true; rw [hD2_]; exact h)
       have hB2_2 : x2_2.2.bad = true → (decP fs_EndQuorumEpochRequest v true ⟨s, false, !a.isNone⟩).2.bad = true := fun h => hE2_ (by rw [hu2_]; exact tailU_bad h)
       have hB2_1 : x2_1.2.bad = true → (decP fs_EndQuorumEpochRequest v true ⟨s, false, !a.isNone⟩).2.bad = true := fun h => hB2_2 (by rw [hx2_2]; exact step_bad h)
       have hB2_0 : x2_0.2.bad = true → (decP fs_EndQuorumEpochRequest v true ⟨s, false, !a.isNone⟩).2.bad = true := fun h => hB2_1 (by rw [hx2_1]; exact step_bad h)
       refine skt ?_
       refine sq ?_
       refine bl ?_
       refine sr ?_
       refine mv rfl rfl ?_
       refine mv rfl rfl ?_
       refine ixk (j := k2) Tryz.runUnderlying158 Tryz.sizeOf171 rfl hga2 rfl rfl hkl2 rfl ?_
       refine asg rfl rfl ?_
       refine nl ?_
       refine sr ?_
       refine mv rfl rfl ?_
       refine cl rfl rfl rfl (def_EndQuorumEpochRequestLeaderEndpoint ho2) rfl (fun v_ H1 L1 hle_ hR_ => ?_)
       obtain ⟨rfl, rfl⟩ := hR_
       refine nl ?_
       refine sr ?_
       refine mv rfl rfl ?_
       refine asg rfl rfl ?_
       refine nl ?_
       refine sq ?_
       refine sr ?_
       refine asg rfl rfl ?_
       refine nl ?_
       refine sq ?_
       refine sr ?_
       refine mv rfl rfl ?_
       refine nl ?_
       refine cF rfl ?_
       refine sr ?_
       refine mv rfl rfl ?_
       refine nl ?_
       refine cdT rfl (by omega) ?_
       refine rg ?_
       refine tf (.tail .head) ?_
       have ex2_0 : x2_0 = decV 8 (decP [] v true) false true (rMany (decV 10 (decP fs_sEndQuorumEpochRequestLeaderEndpoint v true) false true) k2 (rArr true x1.2).2).2 := (hx2_0.trans (step_yes (by decide) (show (0 : Int) ≤ v by omega) (Or.inl (by decide)))).trans (decF'_val (by decide) (rfl))
       refine cl rfl rfl rfl (d8t hR_2 ex2_0) rfl (fun v_ H1 L1 le_21 hR_ => ?_)
       obtain ⟨N304, rfl, hR304, rfl, rfl⟩ := hR_
       refine asg rfl rfl ?_
       refine nl ?_
       refine rg ?_
       refine mv rfl rfl ?_
       refine mv rfl rfl ?_
       refine nc rfl rfl ?_
       refine fa F171_0 rfl rfl ?_
       refine stM (off := 0) Tryz.sizeOf9 rfl (by rw [ho2]) rfl rfl rfl (.tail .head) ?_
       refine nl ?_
       refine sq ?_
       refine sr ?_
       refine asg rfl rfl ?_
       refine nl ?_
       refine sq ?_
       refine sr ?_
       refine mv rfl rfl ?_
       refine nl ?_
       refine cF rfl ?_
       refine sr ?_
       refine mv rfl rfl ?_
       refine nl ?_
       refine cdT rfl (by omega) ?_
       refine rg ?_
       have ex2_1 : x2_1 = decV 8 (decP [] v true) false true x2_0.2 := (hx2_1.trans (step_yes (by decide) (show (0 : Int) ≤ v by omega) (Or.inl (by decide)))).trans (decF'_val (by decide) (rfl))
       refine cl rfl rfl rfl (d8t hR304 ex2_1) rfl (fun v_ H1 L1 le_22 hR_ => ?_)
       obtain ⟨N315, rfl, hR315, rfl, rfl⟩ := hR_
       refine asg rfl rfl ?_
       refine nl ?_
       refine rg ?_
       refine mv rfl rfl ?_
       refine mv rfl rfl ?_
       refine nc rfl rfl ?_
       refine fa F171_1 rfl rfl ?_
       refine stM (off := 1) Tryz.sizeOf9 rfl (by rw [ho2]) rfl rfl rfl (.tail .head) ?_
       refine nl ?_
       refine sq ?_
       refine sr ?_
       have ex2_2 : x2_2 = decV 5 (decP [] v true) false true x2_1.2 := (hx2_2.trans (step_yes (by decide) (show (0 : Int) ≤ v by omega) (Or.inl (by decide)))).trans (decF'_val (by decide) (rfl))
       refine cl rfl rfl rfl (d5 hR315 ex2_2) rfl (fun v_ H1 L1 hle_ hR_ => ?_)
       obtain ⟨N321, rfl, hR321, rfl, rfl⟩ := hR_
       refine asg rfl rfl ?_
       refine nl ?_
       refine rg ?_
       refine mv rfl rfl ?_
       refine mv rfl rfl ?_
       refine nc rfl rfl ?_
       refine fa F171_2 rfl rfl ?_
       refine stM (off := 2) Tryz.sizeOf169 rfl (by rw [ho2]) rfl rfl rfl (.tail .head) ?_
       refine nl ?_
       refine sr ?_
       refine mv rfl rfl ?_
       refine nl ?_
       refine cdT rfl (by omega) ?_
       refine rg ?_
       refine mv rfl rfl ?_
       refine cl rfl rfl rfl (d_tags hR321) rfl (fun v_ H1 L1 le_24 hR_ => ?_)
       obtain ⟨N328, rfl, hR328, m2_t, rfl, hft2_⟩ := hR_
       have hu22_ : u2_ = rTags x2_2.2 := hu2_
       rw [← hu22_] at hR328 hft2_
       refine nc rfl rfl ?_
       refine fa F171_3 rfl rfl ?_
       refine saM (off := 3) Tryz.sizeOf105 rfl (by rw [ho2]) rfl rfl rfl rfl (.tail .head) ?_
       refine nN ?_
       refine Nb ?_
       refine Nt ?_
       refine rg ?_
       refine mv rfl rfl ?_
       refine ad rfl rfl (c := ((k2 + 1 : Nat) : Int)) ((wrap32_le (by omega) (by omega)).trans (by omega)) rfl ?_
       refine asg rfl rfl ?_
       refine nN ?_
       have hfs2 := flatMap_snoc' fk es2 ((⟨([.string ⟨x2_0.1.s.toArray⟩, .string ⟨x2_1.1.s.toArray⟩, .int .u16 (IntKind.u16.wrap x2_2.1.n), .map m2_t] : List Value), rfl, all_one rfl⟩, ((decV 10 (decP fs_sEndQuorumEpochRequestLeaderEndpoint v true) false true) (rMany (decV 10 (decP fs_sEndQuorumEpochRequestLeaderEndpoint v true) false true) k2 (rArr true x1.2).2).2).1) : KE 4)
       have hrw2 := hbk2 ([.string ⟨x2_0.1.s.toArray⟩, .string ⟨x2_1.1.s.toArray⟩, .int .u16 (IntKind.u16.wrap x2_2.1.n), .map m2_t] : List Value) rfl
       refine tfN (.tail .head) ?_
       refine fun a_ w_ hA hw => ⟨hkl2, _, _, _, hA.sub ?_, (le_20.trans le_24), hw, _, _, _, rfl, rfl, (by rw [rMany_succ]; show RdAt _ 232 b_1 (decP fs_sEndQuorumEpochRequestLeaderEndpoint v true (rMany (decV 10 (decP fs_sEndQuorumEpochRequestLeaderEndpoint v true) false true) k2 (rArr true x1.2).2).2).2 _; rw [hD2_]; exact hR328), (by rw [← hfs2]; exact hrw2), (dec_els he_2), (fun p hp => (mem_snoc hp).elim (fun h => At_EndQuorumEpochRequestLeaderEndpoint.mono _ _ _ _ le_24 (hg_2 p h)) (fun h => h ▸ (by show At_EndQuorumEpochRequestLeaderEndpoint _ (decP fs_sEndQuorumEpochRequestLeaderEndpoint v true (rMany (decV 10 (decP fs_sEndQuorumEpochRequestLeaderEndpoint v true) false true) k2 (rArr true x1.2).2).2).1 [.string ⟨x2_0.1.s.toArray⟩, .string ⟨x2_1.1.s.toArray⟩, .int .u16 (IntKind.u16.wrap x2_2.1.n), .map m2_t]; rw [hD2_]; exact ⟨m2_t, rfl, hft2_⟩)))⟩
       exact (.cons rfl (.cons rfl (.cons rfl (.cons rfl (.cons rfl (.cons rfl (.cons rfl (.cons rfl (.nil _)))))))))
      ·
       have hkn_ : k2 = (lT x2.1).length := by omega
       subst hkn_
       have hw2_2 : Row 171 4 a2 (lT x2.1).length c2 (es2.flatMap fk) M2 := by have h := hw_2; rw [Nat.sub_self] at h; simpa [reps] using h
       refine frW hw2_2 .head (fun Hf2 hlf2 hfz2 => ?_)
       have hrs2 := RowsAt.row (R := At_EndQuorumEpochRequestLeaderEndpoint) hfz2 hs_2.symm hw2_2.le.1 (fun p hp => At_EndQuorumEpochRequestLeaderEndpoint.mono _ _ _ _ hlf2 (hg_2 p hp))
       rw [he_2] at hrs2
       have hf2 : ListAt Hf2 x2.1 4 At_EndQuorumEpochRequestLeaderEndpoint a2 c2 := by rw [ex2]; exact listAt_of hrs2 hi2 (fun h => by have h1 := nul_le h; rw [show (lT x2.1).length = 0 by omega]; rfl)
       have hRx2 : RdAt Hf2 232 b_1 x2.2 RN2 := by rw [ex2]; exact (hR_2.mono hlf2)
       refine exX ?_
       refine XT ?_
       refine XT ?_
       refine Xb ?_
       refine Nt ?_
       refine sr ?_
       refine mv rfl rfl ?_
       refine asg rfl rfl ?_
       refine nl ?_
       refine rg ?_
       refine mv rfl rfl ?_
       refine mv rfl rfl ?_
       refine nc rfl rfl ?_
       refine fa0 F160_3 rfl rfl ?_
       refine st Tryz.sizeOf158 rfl rfl rfl rfl (.tail .head) ?_
       refine nl ?_
       refine sq ?_
       refine sr ?_
       refine mv rfl rfl ?_
       refine nl ?_
       refine cdT rfl (by omega) ?_
       refine rg ?_
       refine mv rfl rfl ?_
       refine cl rfl rfl rfl (d_tags hRx2) rfl (fun v_ H1 L1 le_25 hR_ => ?_)
       obtain ⟨N338, rfl, hR338, mt, rfl, hft⟩ := hR_
       have hu2 : u = rTags x2.2 := hu
       rw [← hu2] at hR338 hft
       refine nc rfl rfl ?_
       refine fa0 F160_4 rfl rfl ?_
       refine sa Tryz.sizeOf105 rfl rfl rfl rfl rfl (.tail .head) ?_
       refine nl ?_
       refine sr ?_
       refine cl rfl rfl rfl (r_complete hR338 (he.mono (le_2.trans (le_3.trans (le_4.trans (hlf1.trans (le_19.trans (le_20.trans (hlf2.trans le_25))))))))) rfl (fun v_ H1 L1 hle_ hR_ => ?_)
       obtain ⟨rfl, rfl, rfl⟩ := hR_
       refine asg rfl rfl ?_
       refine nl ?_
       refine drW .head ?_
       have hA_ := (show At_EndQuorumEpochRequest v _ (decP fs_EndQuorumEpochRequest v true _).1 [.int .i16 v, .pointer p0, .slice a1 (lT x1.1).length c1, .slice a2 (lT x2.1).length c2, .map mt] from (by rw [hD]; exact ⟨p0, a1, c1, a2, c2, mt, rfl, (hf0.mono (le_3.trans (le_4.trans (hlf1.trans (le_19.trans (le_20.trans (hlf2.trans le_25))))))), (hf1.mono At_EndQuorumEpochRequestTopic.mono (le_19.trans (le_20.trans (hlf2.trans le_25)))), (hf2.mono At_EndQuorumEpochRequestLeaderEndpoint.mono le_25), hft⟩))
       refine rT rfl rfl (le_2.trans (le_3.trans (le_4.trans (hlf1.trans (le_19.trans (le_20.trans (hlf2.trans le_25))))))) (fun _ _ h => h) ⟨_, rfl, ?_⟩
       have hz := RdEnd.of (e := e) hA_
       rw [show (decP fs_EndQuorumEpochRequest v true _).2.bad = u.2.bad by rw [hD]] at hz
       exact hz
end Go.Sx

import Derived.Test.YthgkgbaggjongaaGreatDoorSxTab
import Derived.Test.YthgkgbaggjongaaGreatDoorBAlterReplicaLogDirsResponse
import Derived.Test.YthgkgbaggjongaaGreatDoorRK2
import Derived.KernelRfl
set_option linter.unusedVariables false
set_option linter.unusedSimpArgs false
set_option maxRecDepth 100000
set_option maxHeartbeats 20000000
namespace Go.Sx
open Go.Proofs
theorem def_AlterReplicaLogDirsResponseTopicPartition {H : Fz} {L : Own} {b o : Nat} {pre post : List Value} {c0 c1 c2 : Value} (ho : o = pre.length) :
    Fn Tryz.prog 288 [.pointer (some ⟨b, o, none⟩)] H ([(b, .cells (pre ++ ([c0, c1, c2] : List Value) ++ post).toArray 219 (0, 0))] :: L) (fun _ H' L' => H = H' ∧ L' = [(b, .cells (pre ++ ([c0, c1, c2] : List Value) ++ post).toArray 219 (0, 0))] :: L) := by
  refine Fn.mk Tryz.call288 Tryz.func288 rfl Tryz.ntmps288 rfl ?_
  refine skN ?_
  exact fun _ _ hA hw => rn rfl (Fz.le.refl _) ⟨rfl, rfl⟩ hA hw
theorem def_AlterReplicaLogDirsResponseTopic {H : Fz} {L : Own} {b o : Nat} {pre post : List Value} {c0 c1 c2 : Value} (ho : o = pre.length) :
    Fn Tryz.prog 287 [.pointer (some ⟨b, o, none⟩)] H ([(b, .cells (pre ++ ([c0, c1, c2] : List Value) ++ post).toArray 216 (0, 0))] :: L) (fun _ H' L' => H = H' ∧ L' = [(b, .cells (pre ++ ([c0, c1, c2] : List Value) ++ post).toArray 216 (0, 0))] :: L) := by
  refine Fn.mk Tryz.call287 Tryz.func287 rfl Tryz.ntmps287 rfl ?_
  refine skN ?_
  exact fun _ _ hA hw => rn rfl (Fz.le.refl _) ⟨rfl, rfl⟩ hA hw
theorem def0_AlterReplicaLogDirsResponse {H : Fz} {L : Own} {b : Nat} {c0 c1 c2 c3 : Value} :
    Fn Tryz.prog 198 [.pointer (some ⟨b, 0, none⟩)] H ([(b, .cells [c0, c1, c2, c3].toArray 211 (0, 0))] :: L) (fun _ H' L' => H = H' ∧ L' = [(b, .cells [c0, c1, c2, c3].toArray 211 (0, 0))] :: L) := by
  refine Fn.mk Tryz.call198 Tryz.func198 rfl Tryz.ntmps198 rfl ?_
  refine skN ?_
  exact fun _ _ hA hw => rn rfl (Fz.le.refl _) ⟨rfl, rfl⟩ hA hw
theorem rd_AlterReplicaLogDirsResponse_f {H : Fz} {L : Own} {b : Nat} {v : Int} {a : Option Addr} {c : Nat} {s : List UInt8} {e : Value} (hB : BytesAt H a c s) (hL_ : s.length ≤ BR) (he : H.at 1 0 [e]) (hv0 : 0 ≤ v) (hv1 : v ≤ 1) :
    Fn Tryz.prog 200 [.pointer (some ⟨b, 0, none⟩), .slice a s.length c, .bool false] H ([(b, .cells [.int .i16 v, .int .i32 0, .slice none 0 0, .map none].toArray 211 (0, 0))] :: L) (fun r H' L' => ∃ cs : List Value, L' = [(b, .cells cs.toArray 211 (0, 0))] :: L ∧ RdEnd H' (At_AlterReplicaLogDirsResponse v) (decP fs_AlterReplicaLogDirsResponse v false ⟨s, false, !a.isNone⟩) e r cs) := by
  refine Fn.mk Tryz.call200 Tryz.func200 rfl Tryz.ntmps200 rfl ?_
  refine sr ?_
  refine asg rfl rfl ?_
  refine nl ?_
  refine sr ?_
  refine mv rfl rfl ?_
  refine cl rfl rfl rfl def0_AlterReplicaLogDirsResponse rfl (fun v_ H1 L1 hle_ hR_ => ?_)
  obtain ⟨rfl, rfl⟩ := hR_
  refine nl ?_
  refine sr ?_
  refine mv rfl rfl ?_
  refine bd' S232 rfl rfl rfl ?_
  refine al Tryz.zeroValue232 rfl rfl (fun b_1 => ?_)
  refine sa Tryz.sizeOf232 rfl rfl rfl rfl rfl .head ?_
  have hR0_ : RdAt H 232 b_1 ⟨s, false, !a.isNone⟩ [(b_1, .cells [_, _].toArray 232 (0, 0))] := ⟨a, c, rfl, hB, by simp⟩
  obtain ⟨x0, hx0⟩ : ∃ x, x = stepF (Fd.mk 3 0 (-1) (-1) (-1) 0 0 []) v false ⟨s, false, !a.isNone⟩ := ⟨_, rfl⟩
  obtain ⟨x1, hx1⟩ : ∃ x, x = stepF (Fd.mk 11 0 (-1) (-1) (-1) 0 10 fs_sAlterReplicaLogDirsResponseTopic) v false x0.2 := ⟨_, rfl⟩
  obtain ⟨u, hu⟩ : ∃ x, x = tailU false x1.2 := ⟨_, rfl⟩
  have hD : decP fs_AlterReplicaLogDirsResponse v false ⟨s, false, !a.isNone⟩ = (.mk 0 [] false [x0.1, x1.1] u.1, u.2) := by
    generalize (⟨s, false, !a.isNone⟩ : Rd) = r_ at hx0 ⊢
    rw [decP_eq]; unfold fs_AlterReplicaLogDirsResponse; simp only [decFs_cons, decFs_nil, ← hx0, ← hx1, ← hu]
  have hL0 : x0.2.s.length ≤ BR := by rw [hx0]; exact Nat.le_trans (stepF_shr _ _ _ _) hL_
  have hL1 : x1.2.s.length ≤ BR := by rw [hx1]; exact Nat.le_trans (stepF_shr _ _ _ _) hL0
  have hE : u.2.bad = true → (decP fs_AlterReplicaLogDirsResponse v false ⟨s, false, !a.isNone⟩).2.bad = true := fun h => by rw [hD]; exact h
  have hB1 : x1.2.bad = true → (decP fs_AlterReplicaLogDirsResponse v false ⟨s, false, !a.isNone⟩).2.bad = true := fun h => hE (by rw [hu]; exact tailU_bad h)
  have hB0 : x0.2.bad = true → (decP fs_AlterReplicaLogDirsResponse v false ⟨s, false, !a.isNone⟩).2.bad = true := fun h => hB1 (by rw [hx1]; exact step_bad h)
  refine nl ?_
  refine sr ?_
  refine mv rfl rfl ?_
  refine nc rfl rfl ?_
  refine fa0 F211_0 rfl rfl ?_
  refine ld (Says.own (.tail .head)) Tryz.isAgg51 rfl (Nat.zero_add _).symm rfl rfl ?_
  refine asg rfl rfl ?_
  refine nl ?_
  refine sr ?_
  refine mv rfl rfl ?_
  refine nl ?_
  refine sr ?_
  refine mv rfl rfl ?_
  refine ge rfl rfl rfl ?_
  refine asg rfl rfl ?_
  refine nl ?_
  refine sr ?_
  refine mv rfl rfl ?_
  refine nl ?_
  refine sr ?_
  refine mv rfl rfl ?_
  refine asg rfl rfl ?_
  refine nl ?_
  refine sq ?_
  refine sr ?_
  have ex0 : x0 = decV 3 (decP [] v false) false false ⟨s, false, !a.isNone⟩ := (hx0.trans (step_yes (by decide) (show (0 : Int) ≤ v by omega) (Or.inl (by decide)))).trans (decF'_val (by decide) (rfl))
  refine cl rfl rfl rfl (d3 hR0_ ex0) rfl (fun v_ H1 L1 hle_ hR_ => ?_)
  obtain ⟨N40, rfl, hR40, rfl, rfl⟩ := hR_
  refine asg rfl rfl ?_
  refine nl ?_
  refine rg ?_
  refine mv rfl rfl ?_
  refine mv rfl rfl ?_
  refine nc rfl rfl ?_
  refine fa0 F211_1 rfl rfl ?_
  refine st Tryz.sizeOf21 rfl rfl rfl rfl (.tail .head) ?_
  refine nl ?_
  refine sq ?_
  refine sr ?_
  refine mv rfl rfl ?_
  refine nc rfl rfl ?_
  refine fa0 F211_2 rfl rfl ?_
  refine ld (Says.own (.tail .head)) Tryz.isAgg209 rfl (Nat.zero_add _).symm rfl rfl ?_
  refine asg rfl rfl ?_
  refine nl ?_
  refine sr ?_
  refine mv rfl rfl ?_
  refine asg rfl rfl ?_
  refine nl ?_
  refine sr ?_
  refine asg rfl rfl ?_
  refine nl ?_
  refine sq ?_
  refine sr ?_
  refine mv rfl rfl ?_
  refine nl ?_
  refine cdF rfl (by omega) ?_
  refine rg ?_
  have ey1 : x1 = (.mk 0 [] (if 0 ≤ ((-1) : Int) ∧ (v < ((-1) : Int) ∨ (rArr false x0.2).1 = 0) then false else decide ((rArr false x0.2).1 ≤ 0)) (rMany (decV 10 (decP fs_sAlterReplicaLogDirsResponseTopic v false) false false) (rArr false x0.2).1.toNat (rArr false x0.2).2).1 [], (rMany (decV 10 (decP fs_sAlterReplicaLogDirsResponseTopic v false) false false) (rArr false x0.2).1.toNat (rArr false x0.2).2).2) := (hx1.trans (step_yes (by decide) (show (0 : Int) ≤ v by omega) (Or.inl (by decide)))).trans (decF'_list rfl rfl)
  have hn1 : (rArr false x0.2).1.toNat = (lT x1.1).length := by rw [ey1]; exact (lT_many nul_le).symm
  have ex1 := ey1
  rw [hn1] at ex1
  have hl1 := rArr_le false x0.2
  have hm1 : (rArr false x0.2).2.s.length ≤ BR := Nat.le_trans (rArr_len false x0.2) hL0
  have hnb1 : (lT x1.1).length ≤ BR := by omega
  refine cl rfl rfl rfl (r_arrf hR40) rfl (fun v_ H1 L1 hle_ hR_ => ?_)
  obtain ⟨rfl, N52, rfl, hR52, rfl⟩ := hR_
  have hh1 := rArr_hi false x0.2
  refine asg rfl rfl ?_
  refine nl ?_
  refine sq ?_
  refine sr ?_
  refine cl rfl rfl rfl (r_ok hR52) rfl (fun v_ H1 L1 hle_ hR_ => ?_)
  obtain ⟨rfl, rfl, rfl⟩ := hR_
  refine nt rfl rfl ?_
  refine nl ?_
  refine cb rfl (fun h54 => ?_) (fun h54 => ?_)
  · skip
    have hbad_ : (rArr false x0.2).2.bad = true := by simpa using h54
    refine sr ?_
    refine cl rfl rfl rfl (r_complete hR52 he) rfl (fun v_ H1 L1 hle_ hR_ => ?_)
    obtain ⟨rfl, rfl, rfl⟩ := hR_
    refine asg rfl rfl ?_
    refine nl ?_
    refine drW .head ?_
    exact rT rfl rfl (Fz.le.refl _) (fun _ _ h => h) ⟨_, rfl, RdEnd.out (hB1 (by rw [ey1]; exact rMany_bad (fun r h => decV_bad (decP_bad _ _ _) h) _ _ hbad_)) hbad_⟩
  · skip
    refine skt ?_
    refine sr ?_
    refine mv rfl rfl ?_
    refine sh' (j := 0) Tryz.runUnderlying209 Tryz.sizeOf216 rfl rfl rfl (Nat.zero_le _) rfl ?_
    refine asg rfl rfl ?_
    refine nl ?_
    refine sq ?_
    refine sr ?_
    refine mv rfl rfl ?_
    refine gt rfl rfl rfl ?_
    refine nl ?_
    refine nulC2 ?_
    refine cutT (fun l' H' L' => ∃ (a1 : Option Addr), ∃ (c1 : Nat), ∃ (Nr1 : Chunk), [(2, .bool false), (7, .pointer (some ⟨b_1, 0, none⟩)), (9, .bool (decide ((2 : Int) ≤ v))), (10, .pointer (some ⟨b, 0, none⟩)), (12, .slice none 0 0), (13, .slice a1 (lT x1.1).length c1), (14, .int .i32 (rArr false x0.2).1)] = l' ∧ Nr1 :: N52 :: [(b, .cells [.int .i16 v, .int .i32 (IntKind.i32.wrap x0.1.n), .slice none 0 0, .map none].toArray 211 (0, 0))] :: L = L' ∧ Row 216 3 a1 (lT x1.1).length c1 (reps [.string ⟨#[]⟩, .slice none 0 0, .map none] (lT x1.1).length) Nr1 ∧ a1.isNone = (if 0 ≤ ((-1) : Int) ∧ (v < ((-1) : Int) ∨ (rArr false x0.2).1 = 0) then false else decide ((rArr false x0.2).1 ≤ 0))) ?_ (fun l' H' L' le_3 hI => ?_)
    · skip
      refine cd rfl (fun h59 => ?_) (fun h59 => ?_)
      · skip
        refine rg ?_
        refine mv rfl rfl ?_
        refine mv rfl rfl ?_
        refine apz (zs := [.string ⟨#[]⟩, .slice none 0 0, .map none]) (m := (lT x1.1).length) Tryz.underlying209 Tryz.underlying21 I216 rfl rfl rfl (by omega) (by omega) (by have h9 := hnb1; unfold BR at h9; omega) (by have h9 := hnb1; unfold BR at h9; unfold maxLen; omega) rfl (fun g62 cp62 N62 r62 => ?_)
        refine asg rfl rfl ?_
        refine nN ?_
        refine drN (.tail .head) ?_
        refine fun a_ w_ hA hw => ⟨_, _, _, hA.sub ?_, (Fz.le.refl _), hw, (some ⟨g62, 0, none⟩), cp62, N62, rfl, rfl, r62, (by rw [if_neg (by omega)]; exact (decide_eq_false (by omega)).symm)⟩
        exact (.cons rfl (.cons rfl (.cons rfl (.cons rfl (.cons rfl (.cons rfl (.cons rfl (.nil _))))))))
      · skip
        refine skN ?_
        refine fun a_ w_ hA hw => ⟨_, _, _, hA.sub ?_, (Fz.le.refl _), hw, none, 0, [], rfl, rfl, (by rw [show (lT x1.1).length = 0 by omega]; exact (Row.nil _ _)), (by rw [if_neg (by omega)]; exact (decide_eq_true (by omega)).symm)⟩
        exact (.cons rfl (.cons rfl (.cons rfl (.cons rfl (.cons rfl (.cons (by rw [show (lT x1.1).length = 0 by omega]; rfl) (.cons rfl (.nil _))))))))
    · skip
      obtain ⟨a1, c1, Nr1, rfl, rfl, pj0, pj1⟩ := hI
      have hr1 := pj0
      have hi1 := pj1
      refine sq ?_
      refine sr ?_
      refine asg rfl rfl ?_
      refine nl ?_
      refine bl (lp ((lT x1.1).length) (fun k1 l' H' L' => ∃ (es1 : List (KE 3)) (M1 RN1 : Chunk), [(2, .bool false), (7, .pointer (some ⟨b_1, 0, none⟩)), (9, .bool (decide ((2 : Int) ≤ v))), (10, .pointer (some ⟨b, 0, none⟩)), (12, .slice none 0 0), (13, .slice a1 (lT x1.1).length c1), (14, .int .i32 (rArr false x0.2).1), (15, .int .i32 (k1 : Int))] = l' ∧ M1 :: RN1 :: [(b, .cells [.int .i16 v, .int .i32 (IntKind.i32.wrap x0.1.n), .slice none 0 0, .map none].toArray 211 (0, 0))] :: L = L' ∧ RdAt H' 232 b_1 (rMany (decV 10 (decP fs_sAlterReplicaLogDirsResponseTopic v false) false false) k1 (rArr false x0.2).2).2 RN1 ∧ Row 216 3 a1 (lT x1.1).length c1 (es1.flatMap fk ++ reps [.string ⟨#[]⟩, .slice none 0 0, .map none] ((lT x1.1).length - k1)) M1 ∧ es1.map (·.2) = (rMany (decV 10 (decP fs_sAlterReplicaLogDirsResponseTopic v false) false false) k1 (rArr false x0.2).2).1 ∧ ∀ p ∈ es1, At_AlterReplicaLogDirsResponseTopic H' p.2 (fk p)) [(2, .bool false), (7, .pointer (some ⟨b_1, 0, none⟩)), (9, .bool (decide ((2 : Int) ≤ v))), (10, .pointer (some ⟨b, 0, none⟩)), (12, .slice none 0 0), (13, .slice a1 (lT x1.1).length c1), (14, .int .i32 (rArr false x0.2).1), (15, .int .i32 (0 : Int))] (.cons rfl (.cons rfl (.cons rfl (.cons rfl (.cons rfl (.cons rfl (.cons rfl (.cons rfl (.nil _))))))))) ⟨[], Nr1, _, rfl, rfl, (hR52.mono le_3), hr1, rfl, (fun p hp => by cases hp)⟩ (fun k1 l' H' L' hk1 le_4 hI => ?_))
      obtain ⟨es1, M1, RN1, rfl, rfl, hR_1, hw_1, he_1, hg_1⟩ := hI
      have hs_1 := els_len he_1
      have hp_1 : (es1.flatMap fk).length = k1 * 3 := els_flat hs_1
      refine sq ?_
      refine sr ?_
      refine mv rfl rfl ?_
      refine mv rfl rfl ?_
      refine lt rfl rfl rfl ?_
      refine nl ?_
      refine cd rfl (fun h65 => ?_) (fun h65 => ?_)
      · skip
        have hkl1 : k1 < (lT x1.1).length := by omega
        obtain ⟨g1, po1, hga1, rfl, hbk1⟩ := hw_1.next (zs := [.string ⟨#[]⟩, .slice none 0 0, .map none]) hkl1 rfl (by decide)
        have ho1 : 0 + k1 * 3 = (es1.flatMap fk).length := by rw [hp_1]; omega
        have hbz1 : ((decV 10 (decP fs_sAlterReplicaLogDirsResponseTopic v false) false false) (rMany (decV 10 (decP fs_sAlterReplicaLogDirsResponseTopic v false) false false) k1 (rArr false x0.2).2).2).2.bad = true → (decP fs_AlterReplicaLogDirsResponse v false ⟨s, false, !a.isNone⟩).2.bad = true := fun h => hB1 (by rw [ex1]; exact rMany_mono (fun r h => decV_bad (fun r h => decP_bad _ _ _ r h) h) _ (show k1 + 1 ≤ (lT x1.1).length from hkl1) (by rw [rMany_succ]; exact h))
        have hLk1 : (rMany (decV 10 (decP fs_sAlterReplicaLogDirsResponseTopic v false) false false) k1 (rArr false x0.2).2).2.s.length ≤ BR := Nat.le_trans (rMany_shr (fun r => decV_shr (fun r => decP_shr _ _ _ r) r) _ _) hm1
        have hL1__ := hLk1
        obtain ⟨x1_0, hx1_0⟩ : ∃ x, x = stepF (Fd.mk 8 0 (-1) (-1) (-1) 0 0 []) v false (rMany (decV 10 (decP fs_sAlterReplicaLogDirsResponseTopic v false) false false) k1 (rArr false x0.2).2).2 := ⟨_, rfl⟩
        obtain ⟨x1_1, hx1_1⟩ : ∃ x, x = stepF (Fd.mk 11 0 (-1) (-1) (-1) 0 10 fs_sAlterReplicaLogDirsResponseTopicPartition) v false x1_0.2 := ⟨_, rfl⟩
        obtain ⟨u1_, hu1_⟩ : ∃ x, x = tailU false x1_1.2 := ⟨_, rfl⟩
        have hD1_ : decP fs_sAlterReplicaLogDirsResponseTopic v false (rMany (decV 10 (decP fs_sAlterReplicaLogDirsResponseTopic v false) false false) k1 (rArr false x0.2).2).2 = (.mk 0 [] false [x1_0.1, x1_1.1] u1_.1, u1_.2) := by
          generalize ((rMany (decV 10 (decP fs_sAlterReplicaLogDirsResponseTopic v false) false false) k1 (rArr false x0.2).2).2 : Rd) = r_ at hx1_0 ⊢
          rw [decP_eq]; unfold fs_sAlterReplicaLogDirsResponseTopic; simp only [decFs_cons, decFs_nil, ← hx1_0, ← hx1_1, ← hu1_]
        have hL1_0 : x1_0.2.s.length ≤ BR := by rw [hx1_0]; exact Nat.le_trans (stepF_shr _ _ _ _) hL1__
        have hL1_1 : x1_1.2.s.length ≤ BR := by rw [hx1_1]; exact Nat.le_trans (stepF_shr _ _ _ _) hL1_0
        have hE1_ : u1_.2.bad = true → (decP fs_AlterReplicaLogDirsResponse v false ⟨s, false, !a.isNone⟩).2.bad = true := fun h => hbz1 (by show (decP fs_sAlterReplicaLogDirsResponseTopic v false (rMany (decV 10 (decP fs_sAlterReplicaLogDirsResponseTopic v false) false false) k1 (rArr false x0.2).2).2).2.bad = true; rw [hD1_]; exact h)
        have hB1_1 : x1_1.2.bad = true → (decP fs_AlterReplicaLogDirsResponse v false ⟨s, false, !a.isNone⟩).2.bad = true := fun h => hE1_ (by rw [hu1_]; exact tailU_bad h)
        have hB1_0 : x1_0.2.bad = true → (decP fs_AlterReplicaLogDirsResponse v false ⟨s, false, !a.isNone⟩).2.bad = true := fun h => hB1_1 (by rw [hx1_1]; exact step_bad h)
        refine skt ?_
        refine sq ?_
        refine bl ?_
        refine sr ?_
        refine mv rfl rfl ?_
        refine mv rfl rfl ?_
        refine ixk (j := k1) Tryz.runUnderlying209 Tryz.sizeOf216 rfl hga1 rfl rfl hkl1 rfl ?_
        refine asg rfl rfl ?_
        refine nl ?_
        refine sr ?_
        refine mv rfl rfl ?_
        refine cl rfl rfl rfl (def_AlterReplicaLogDirsResponseTopic ho1) rfl (fun v_ H1 L1 hle_ hR_ => ?_)
        obtain ⟨rfl, rfl⟩ := hR_
        refine nl ?_
        refine sr ?_
        refine mv rfl rfl ?_
        refine asg rfl rfl ?_
        refine nl ?_
        refine sq ?_
        refine sr ?_
        refine asg rfl rfl ?_
        refine nl ?_
        refine sq ?_
        refine sr ?_
        refine mv rfl rfl ?_
        refine nl ?_
        refine cF rfl ?_
        refine sr ?_
        refine mv rfl rfl ?_
        refine nl ?_
        refine cdF rfl (by omega) ?_
        refine rg ?_
        refine tf (.tail .head) ?_
        have ex1_0 : x1_0 = decV 8 (decP [] v false) false false (rMany (decV 10 (decP fs_sAlterReplicaLogDirsResponseTopic v false) false false) k1 (rArr false x0.2).2).2 := (hx1_0.trans (step_yes (by decide) (show (0 : Int) ≤ v by omega) (Or.inl (by decide)))).trans (decF'_val (by decide) (rfl))
        refine cl rfl rfl rfl (d8f hR_1 ex1_0) rfl (fun v_ H1 L1 le_5 hR_ => ?_)
        obtain ⟨N80, rfl, hR80, rfl, rfl⟩ := hR_
        refine asg rfl rfl ?_
        refine nl ?_
        refine rg ?_
        refine mv rfl rfl ?_
        refine mv rfl rfl ?_
        refine nc rfl rfl ?_
        refine fa F216_0 rfl rfl ?_
        refine stM (off := 0) Tryz.sizeOf9 rfl (by rw [ho1]) rfl rfl rfl (.tail .head) ?_
        refine nl ?_
        refine sq ?_
        refine sr ?_
        refine mv rfl rfl ?_
        refine nc rfl rfl ?_
        refine fa F216_1 rfl rfl ?_
        refine ld (j := 1) (off := 0 + k1 * 3) (Says.mid (.tail .head) ho1) Tryz.isAgg214 rfl rfl rfl rfl ?_
        refine asg rfl rfl ?_
        refine nl ?_
        refine sr ?_
        refine mv rfl rfl ?_
        refine asg rfl rfl ?_
        refine nl ?_
        refine sr ?_
        refine asg rfl rfl ?_
        refine nl ?_
        refine sq ?_
        refine sr ?_
        refine mv rfl rfl ?_
        refine nl ?_
        refine cdF rfl (by omega) ?_
        refine rg ?_
        have ey1_1 : x1_1 = (.mk 0 [] (if 0 ≤ ((-1) : Int) ∧ (v < ((-1) : Int) ∨ (rArr false x1_0.2).1 = 0) then false else decide ((rArr false x1_0.2).1 ≤ 0)) (rMany (decV 10 (decP fs_sAlterReplicaLogDirsResponseTopicPartition v false) false false) (rArr false x1_0.2).1.toNat (rArr false x1_0.2).2).1 [], (rMany (decV 10 (decP fs_sAlterReplicaLogDirsResponseTopicPartition v false) false false) (rArr false x1_0.2).1.toNat (rArr false x1_0.2).2).2) := (hx1_1.trans (step_yes (by decide) (show (0 : Int) ≤ v by omega) (Or.inl (by decide)))).trans (decF'_list rfl rfl)
        have hn1_1 : (rArr false x1_0.2).1.toNat = (lT x1_1.1).length := by rw [ey1_1]; exact (lT_many nul_le).symm
        have ex1_1 := ey1_1
        rw [hn1_1] at ex1_1
        have hl1_1 := rArr_le false x1_0.2
        have hm1_1 : (rArr false x1_0.2).2.s.length ≤ BR := Nat.le_trans (rArr_len false x1_0.2) hL1_0
        have hnb1_1 : (lT x1_1.1).length ≤ BR := by omega
        refine cl rfl rfl rfl (r_arrf hR80) rfl (fun v_ H1 L1 hle_ hR_ => ?_)
        obtain ⟨rfl, N92, rfl, hR92, rfl⟩ := hR_
        have hh1_1 := rArr_hi false x1_0.2
        refine asg rfl rfl ?_
        refine nl ?_
        refine sq ?_
        refine sr ?_
        refine cl rfl rfl rfl (r_ok hR92) rfl (fun v_ H1 L1 hle_ hR_ => ?_)
        obtain ⟨rfl, rfl, rfl⟩ := hR_
        refine nt rfl rfl ?_
        refine nl ?_
        refine cb rfl (fun h94 => ?_) (fun h94 => ?_)
        · skip
          have hbad_ : (rArr false x1_0.2).2.bad = true := by simpa using h94
          refine sr ?_
          refine cl rfl rfl rfl (r_complete hR92 (he.mono (le_3.trans le_4))) rfl (fun v_ H1 L1 hle_ hR_ => ?_)
          obtain ⟨rfl, rfl, rfl⟩ := hR_
          refine asg rfl rfl ?_
          refine nl ?_
          refine drW .head ?_
          refine drW .head ?_
          exact rT rfl rfl (le_3.trans le_4) (fun _ _ h => h) ⟨_, rfl, RdEnd.out (hB1_1 (by rw [ey1_1]; exact rMany_bad (fun r h => decV_bad (decP_bad _ _ _) h) _ _ hbad_)) hbad_⟩
        · skip
          refine skt ?_
          refine sr ?_
          refine mv rfl rfl ?_
          refine sh' (j := 0) Tryz.runUnderlying214 Tryz.sizeOf219 rfl rfl rfl (Nat.zero_le _) rfl ?_
          refine asg rfl rfl ?_
          refine nl ?_
          refine sq ?_
          refine sr ?_
          refine mv rfl rfl ?_
          refine gt rfl rfl rfl ?_
          refine nl ?_
          refine nulC2 ?_
          refine cutT (fun l' H' L' => ∃ (a1_1 : Option Addr), ∃ (c1_1 : Nat), ∃ (Nr1_1 : Chunk), [(2, .bool false), (7, .pointer (some ⟨b_1, 0, none⟩)), (9, .bool (decide ((2 : Int) ≤ v))), (10, .pointer (some ⟨b, 0, none⟩)), (12, .slice none 0 0), (13, .slice a1 (lT x1.1).length c1), (14, .int .i32 (rArr false x0.2).1), (15, .int .i32 (k1 : Int)), (17, .pointer (some ⟨g1, 0 + k1 * 3, none⟩)), (19, .slice none 0 0), (20, .slice a1_1 (lT x1_1.1).length c1_1), (21, .int .i32 (rArr false x1_0.2).1)] = l' ∧ Nr1_1 :: N92 :: [(g1, .cells ((es1.flatMap fk) ++ ([.string ⟨x1_0.1.s.toArray⟩, .slice none 0 0, .map none] : List Value) ++ po1).toArray 216 (0, 0))] :: [(b, .cells [.int .i16 v, .int .i32 (IntKind.i32.wrap x0.1.n), .slice none 0 0, .map none].toArray 211 (0, 0))] :: L = L' ∧ Row 219 3 a1_1 (lT x1_1.1).length c1_1 (reps [.int .i32 0, .int .i16 0, .map none] (lT x1_1.1).length) Nr1_1 ∧ a1_1.isNone = (if 0 ≤ ((-1) : Int) ∧ (v < ((-1) : Int) ∨ (rArr false x1_0.2).1 = 0) then false else decide ((rArr false x1_0.2).1 ≤ 0))) ?_ (fun l' H' L' le_6 hI => ?_)
          · skip
            refine cd rfl (fun h99 => ?_) (fun h99 => ?_)
            · skip
              refine rg ?_
              refine mv rfl rfl ?_
              refine mv rfl rfl ?_
              refine apz (zs := [.int .i32 0, .int .i16 0, .map none]) (m := (lT x1_1.1).length) Tryz.underlying214 Tryz.underlying21 I219 rfl rfl rfl (by omega) (by omega) (by have h9 := hnb1_1; unfold BR at h9; omega) (by have h9 := hnb1_1; unfold BR at h9; unfold maxLen; omega) rfl (fun g102 cp102 N102 r102 => ?_)
              refine asg rfl rfl ?_
              refine nN ?_
              refine drN (.tail .head) ?_
              refine fun a_ w_ hA hw => ⟨_, _, _, hA.sub ?_, (Fz.le.refl _), hw, (some ⟨g102, 0, none⟩), cp102, N102, rfl, rfl, r102, (by rw [if_neg (by omega)]; exact (decide_eq_false (by omega)).symm)⟩
              exact (.cons rfl (.cons rfl (.cons rfl (.cons rfl (.cons rfl (.cons rfl (.cons rfl (.cons rfl (.cons rfl (.cons rfl (.cons rfl (.cons rfl (.nil _)))))))))))))
            · skip
              refine skN ?_
              refine fun a_ w_ hA hw => ⟨_, _, _, hA.sub ?_, (Fz.le.refl _), hw, none, 0, [], rfl, rfl, (by rw [show (lT x1_1.1).length = 0 by omega]; exact (Row.nil _ _)), (by rw [if_neg (by omega)]; exact (decide_eq_true (by omega)).symm)⟩
              exact (.cons rfl (.cons rfl (.cons rfl (.cons rfl (.cons rfl (.cons rfl (.cons rfl (.cons rfl (.cons rfl (.cons rfl (.cons (by rw [show (lT x1_1.1).length = 0 by omega]; rfl) (.cons rfl (.nil _)))))))))))))
          · skip
            obtain ⟨a1_1, c1_1, Nr1_1, rfl, rfl, pj0, pj1⟩ := hI
            have hr1_1 := pj0
            have hi1_1 := pj1
            refine sq ?_
            refine sr ?_
            refine asg rfl rfl ?_
            refine nl ?_
            refine bl (lp ((lT x1_1.1).length) (fun k1_1 l' H' L' => ∃ (es1_1 : List (KE 3)) (M1_1 RN1_1 : Chunk), [(2, .bool false), (7, .pointer (some ⟨b_1, 0, none⟩)), (9, .bool (decide ((2 : Int) ≤ v))), (10, .pointer (some ⟨b, 0, none⟩)), (12, .slice none 0 0), (13, .slice a1 (lT x1.1).length c1), (14, .int .i32 (rArr false x0.2).1), (15, .int .i32 (k1 : Int)), (17, .pointer (some ⟨g1, 0 + k1 * 3, none⟩)), (19, .slice none 0 0), (20, .slice a1_1 (lT x1_1.1).length c1_1), (21, .int .i32 (rArr false x1_0.2).1), (22, .int .i32 (k1_1 : Int))] = l' ∧ M1_1 :: RN1_1 :: [(g1, .cells ((es1.flatMap fk) ++ ([.string ⟨x1_0.1.s.toArray⟩, .slice none 0 0, .map none] : List Value) ++ po1).toArray 216 (0, 0))] :: [(b, .cells [.int .i16 v, .int .i32 (IntKind.i32.wrap x0.1.n), .slice none 0 0, .map none].toArray 211 (0, 0))] :: L = L' ∧ RdAt H' 232 b_1 (rMany (decV 10 (decP fs_sAlterReplicaLogDirsResponseTopicPartition v false) false false) k1_1 (rArr false x1_0.2).2).2 RN1_1 ∧ Row 219 3 a1_1 (lT x1_1.1).length c1_1 (es1_1.flatMap fk ++ reps [.int .i32 0, .int .i16 0, .map none] ((lT x1_1.1).length - k1_1)) M1_1 ∧ es1_1.map (·.2) = (rMany (decV 10 (decP fs_sAlterReplicaLogDirsResponseTopicPartition v false) false false) k1_1 (rArr false x1_0.2).2).1 ∧ ∀ p ∈ es1_1, At_AlterReplicaLogDirsResponseTopicPartition H' p.2 (fk p)) [(2, .bool false), (7, .pointer (some ⟨b_1, 0, none⟩)), (9, .bool (decide ((2 : Int) ≤ v))), (10, .pointer (some ⟨b, 0, none⟩)), (12, .slice none 0 0), (13, .slice a1 (lT x1.1).length c1), (14, .int .i32 (rArr false x0.2).1), (15, .int .i32 (k1 : Int)), (17, .pointer (some ⟨g1, 0 + k1 * 3, none⟩)), (19, .slice none 0 0), (20, .slice a1_1 (lT x1_1.1).length c1_1), (21, .int .i32 (rArr false x1_0.2).1), (22, .int .i32 (0 : Int))] (.cons rfl (.cons rfl (.cons rfl (.cons rfl (.cons rfl (.cons rfl (.cons rfl (.cons rfl (.cons rfl (.cons rfl (.cons rfl (.cons rfl (.cons rfl (.nil _)))))))))))))) ⟨[], Nr1_1, _, rfl, rfl, (hR92.mono le_6), hr1_1, rfl, (fun p hp => by cases hp)⟩ (fun k1_1 l' H' L' hk1_1 le_7 hI => ?_))
            obtain ⟨es1_1, M1_1, RN1_1, rfl, rfl, hR_1_1, hw_1_1, he_1_1, hg_1_1⟩ := hI
            have hs_1_1 := els_len he_1_1
            have hp_1_1 : (es1_1.flatMap fk).length = k1_1 * 3 := els_flat hs_1_1
            refine sq ?_
            refine sr ?_
            refine mv rfl rfl ?_
            refine mv rfl rfl ?_
            refine lt rfl rfl rfl ?_
            refine nl ?_
            refine cd rfl (fun h105 => ?_) (fun h105 => ?_)
            · skip
              have hkl1_1 : k1_1 < (lT x1_1.1).length := by omega
              obtain ⟨g1_1, po1_1, hga1_1, rfl, hbk1_1⟩ := hw_1_1.next (zs := [.int .i32 0, .int .i16 0, .map none]) hkl1_1 rfl (by decide)
              have ho1_1 : 0 + k1_1 * 3 = (es1_1.flatMap fk).length := by rw [hp_1_1]; omega
              have hbz1_1 : ((decV 10 (decP fs_sAlterReplicaLogDirsResponseTopicPartition v false) false false) (rMany (decV 10 (decP fs_sAlterReplicaLogDirsResponseTopicPartition v false) false false) k1_1 (rArr false x1_0.2).2).2).2.bad = true → (decP fs_AlterReplicaLogDirsResponse v false ⟨s, false, !a.isNone⟩).2.bad = true := fun h => hB1_1 (by rw [ex1_1]; exact rMany_mono (fun r h => decV_bad (fun r h => decP_bad _ _ _ r h) h) _ (show k1_1 + 1 ≤ (lT x1_1.1).length from hkl1_1) (by rw [rMany_succ]; exact h))
              have hLk1_1 : (rMany (decV 10 (decP fs_sAlterReplicaLogDirsResponseTopicPartition v false) false false) k1_1 (rArr false x1_0.2).2).2.s.length ≤ BR := Nat.le_trans (rMany_shr (fun r => decV_shr (fun r => decP_shr _ _ _ r) r) _ _) hm1_1
              have hL1_1__ := hLk1_1
              obtain ⟨x1_1_0, hx1_1_0⟩ : ∃ x, x = stepF (Fd.mk 3 0 (-1) (-1) (-1) 0 0 []) v false (rMany (decV 10 (decP fs_sAlterReplicaLogDirsResponseTopicPartition v false) false false) k1_1 (rArr false x1_0.2).2).2 := ⟨_, rfl⟩
              obtain ⟨x1_1_1, hx1_1_1⟩ : ∃ x, x = stepF (Fd.mk 2 0 (-1) (-1) (-1) 0 0 []) v false x1_1_0.2 := ⟨_, rfl⟩
              obtain ⟨u1_1_, hu1_1_⟩ : ∃ x, x = tailU false x1_1_1.2 := ⟨_, rfl⟩
              have hD1_1_ : decP fs_sAlterReplicaLogDirsResponseTopicPartition v false (rMany (decV 10 (decP fs_sAlterReplicaLogDirsResponseTopicPartition v false) false false) k1_1 (rArr false x1_0.2).2).2 = (.mk 0 [] false [x1_1_0.1, x1_1_1.1] u1_1_.1, u1_1_.2) := by
                generalize ((rMany (decV 10 (decP fs_sAlterReplicaLogDirsResponseTopicPartition v false) false false) k1_1 (rArr false x1_0.2).2).2 : Rd) = r_ at hx1_1_0 ⊢
                rw [decP_eq]; unfold fs_sAlterReplicaLogDirsResponseTopicPartition; simp only [decFs_cons, decFs_nil, ← hx1_1_0, ← hx1_1_1, ← hu1_1_]
              have hL1_1_0 : x1_1_0.2.s.length ≤ BR := by rw [hx1_1_0]; exact Nat.le_trans (stepF_shr _ _ _ _) hL1_1__
              have hL1_1_1 : x1_1_1.2.s.length ≤ BR := by rw [hx1_1_1]; exact Nat.le_trans (stepF_shr _ _ _ _) hL1_1_0
              have hE1_1_ : u1_1_.2.bad = true → (decP fs_AlterReplicaLogDirsResponse v false ⟨s, false, !a.isNone⟩).2.bad = true := fun h => hbz1_1 (by show (decP fs_sAlterReplicaLogDirsResponseTopicPartition v false (rMany (decV 10 (decP fs_sAlterReplicaLogDirsResponseTopicPartition v false) false false) k1_1 (rArr false x1_0.2).2).2).2.bad = true; rw [hD1_1_]; exact h)
              have hB1_1_1 : x1_1_1.2.bad = true → (decP fs_AlterReplicaLogDirsResponse v false ⟨s, false, !a.isNone⟩).2.bad = true := fun h => hE1_1_ (by rw [hu1_1_]; exact tailU_bad h)
              have hB1_1_0 : x1_1_0.2.bad = true → (decP fs_AlterReplicaLogDirsResponse v false ⟨s, false, !a.isNone⟩).2.bad = true := fun h => hB1_1_1 (by rw [hx1_1_1]; exact step_bad h)
              refine skt ?_
              refine sq ?_
              refine bl ?_
              refine sr ?_
              refine mv rfl rfl ?_
              refine mv rfl rfl ?_
              refine ixk (j := k1_1) Tryz.runUnderlying214 Tryz.sizeOf219 rfl hga1_1 rfl rfl hkl1_1 rfl ?_
              refine asg rfl rfl ?_
              refine nl ?_
              refine sr ?_
              refine mv rfl rfl ?_
              refine cl rfl rfl rfl (def_AlterReplicaLogDirsResponseTopicPartition ho1_1) rfl (fun v_ H1 L1 hle_ hR_ => ?_)
              obtain ⟨rfl, rfl⟩ := hR_
              refine nl ?_
              refine sr ?_
              refine mv rfl rfl ?_
              refine asg rfl rfl ?_
              refine nl ?_
              refine sq ?_
              refine sr ?_
              refine tf (.tail .head) ?_
              have ex1_1_0 : x1_1_0 = decV 3 (decP [] v false) false false (rMany (decV 10 (decP fs_sAlterReplicaLogDirsResponseTopicPartition v false) false false) k1_1 (rArr false x1_0.2).2).2 := (hx1_1_0.trans (step_yes (by decide) (show (0 : Int) ≤ v by omega) (Or.inl (by decide)))).trans (decF'_val (by decide) (rfl))
              refine cl rfl rfl rfl (d3 hR_1_1 ex1_1_0) rfl (fun v_ H1 L1 hle_ hR_ => ?_)
              obtain ⟨N114, rfl, hR114, rfl, rfl⟩ := hR_
              refine asg rfl rfl ?_
              refine nl ?_
              refine rg ?_
              refine mv rfl rfl ?_
              refine mv rfl rfl ?_
              refine nc rfl rfl ?_
              refine fa F219_0 rfl rfl ?_
              refine stM (off := 0) Tryz.sizeOf21 rfl (by rw [ho1_1]) rfl rfl rfl (.tail .head) ?_
              refine nl ?_
              refine sq ?_
              refine sr ?_
              have ex1_1_1 : x1_1_1 = decV 2 (decP [] v false) false false x1_1_0.2 := (hx1_1_1.trans (step_yes (by decide) (show (0 : Int) ≤ v by omega) (Or.inl (by decide)))).trans (decF'_val (by decide) (rfl))
              refine cl rfl rfl rfl (d2 hR114 ex1_1_1) rfl (fun v_ H1 L1 hle_ hR_ => ?_)
              obtain ⟨N119, rfl, hR119, rfl, rfl⟩ := hR_
              refine asg rfl rfl ?_
              refine nl ?_
              refine rg ?_
              refine mv rfl rfl ?_
              refine mv rfl rfl ?_
              refine nc rfl rfl ?_
              refine fa F219_1 rfl rfl ?_
              refine stM (off := 1) Tryz.sizeOf51 rfl (by rw [ho1_1]) rfl rfl rfl (.tail .head) ?_
              refine nl ?_
              refine sr ?_
              refine mv rfl rfl ?_
              refine nl ?_
              refine cdF rfl (by omega) ?_
              refine skN ?_
              refine Nb ?_
              refine Nt ?_
              refine rg ?_
              refine mv rfl rfl ?_
              refine ad rfl rfl (c := ((k1_1 + 1 : Nat) : Int)) ((wrap32_le (by omega) (by omega)).trans (by omega)) rfl ?_
              refine asg rfl rfl ?_
              refine nN ?_
              obtain rfl : u1_1_ = ([], x1_1_1.2) := hu1_1_
              have hfs1_1 := flatMap_snoc' fk es1_1 ((⟨([.int .i32 (IntKind.i32.wrap x1_1_0.1.n), .int .i16 (IntKind.i16.wrap x1_1_1.1.n), .map none] : List Value), rfl, all_one rfl⟩, ((decV 10 (decP fs_sAlterReplicaLogDirsResponseTopicPartition v false) false false) (rMany (decV 10 (decP fs_sAlterReplicaLogDirsResponseTopicPartition v false) false false) k1_1 (rArr false x1_0.2).2).2).1) : KE 3)
              have hrw1_1 := hbk1_1 ([.int .i32 (IntKind.i32.wrap x1_1_0.1.n), .int .i16 (IntKind.i16.wrap x1_1_1.1.n), .map none] : List Value) rfl
              refine tfN (.tail .head) ?_
              refine fun a_ w_ hA hw => ⟨hkl1_1, _, _, _, hA.sub ?_, le_7, hw, _, _, _, rfl, rfl, (by rw [rMany_succ]; show RdAt _ 232 b_1 (decP fs_sAlterReplicaLogDirsResponseTopicPartition v false (rMany (decV 10 (decP fs_sAlterReplicaLogDirsResponseTopicPartition v false) false false) k1_1 (rArr false x1_0.2).2).2).2 _; rw [hD1_1_]; exact hR119), (by rw [← hfs1_1]; exact hrw1_1), (dec_els he_1_1), (fun p hp => (mem_snoc hp).elim (fun h => At_AlterReplicaLogDirsResponseTopicPartition.mono _ _ _ _ (Fz.le.refl _) (hg_1_1 p h)) (fun h => h ▸ (by show At_AlterReplicaLogDirsResponseTopicPartition _ (decP fs_sAlterReplicaLogDirsResponseTopicPartition v false (rMany (decV 10 (decP fs_sAlterReplicaLogDirsResponseTopicPartition v false) false false) k1_1 (rArr false x1_0.2).2).2).1 [.int .i32 (IntKind.i32.wrap x1_1_0.1.n), .int .i16 (IntKind.i16.wrap x1_1_1.1.n), .map none]; rw [hD1_1_]; exact ⟨none, rfl, (KvAt.nil _)⟩)))⟩
              exact (.cons rfl (.cons rfl (.cons rfl (.cons rfl (.cons rfl (.cons rfl (.cons rfl (.cons rfl (.cons rfl (.cons rfl (.cons rfl (.cons rfl (.cons rfl (.nil _))))))))))))))
            · skip
              have hkn_ : k1_1 = (lT x1_1.1).length := by omega
              subst hkn_
              have hw2_1_1 : Row 219 3 a1_1 (lT x1_1.1).length c1_1 (es1_1.flatMap fk) M1_1 := by have h := hw_1_1; rw [Nat.sub_self] at h; simpa [reps] using h
              refine frW hw2_1_1 .head (fun Hf1_1 hlf1_1 hfz1_1 => ?_)
              have hrs1_1 := RowsAt.row (R := At_AlterReplicaLogDirsResponseTopicPartition) hfz1_1 hs_1_1.symm hw2_1_1.le.1 (fun p hp => At_AlterReplicaLogDirsResponseTopicPartition.mono _ _ _ _ hlf1_1 (hg_1_1 p hp))
              rw [he_1_1] at hrs1_1
              have hf1_1 : ListAt Hf1_1 x1_1.1 3 At_AlterReplicaLogDirsResponseTopicPartition a1_1 c1_1 := by rw [ex1_1]; exact listAt_of hrs1_1 hi1_1 (fun h => by have h1 := nul_le h; rw [show (lT x1_1.1).length = 0 by omega]; rfl)
              have hRx1_1 : RdAt Hf1_1 232 b_1 x1_1.2 RN1_1 := by rw [ex1_1]; exact (hR_1_1.mono hlf1_1)
              refine exX ?_
              refine XT ?_
              refine XT ?_
              refine Xb ?_
              refine Nt ?_
              refine sr ?_
              refine mv rfl rfl ?_
              refine asg rfl rfl ?_
              refine nl ?_
              refine rg ?_
              refine mv rfl rfl ?_
              refine mv rfl rfl ?_
              refine nc rfl rfl ?_
              refine fa F216_1 rfl rfl ?_
              refine stM (off := 1) Tryz.sizeOf214 rfl (by rw [ho1]) rfl rfl rfl (.tail .head) ?_
              refine nl ?_
              refine sr ?_
              refine mv rfl rfl ?_
              refine nl ?_
              refine cdF rfl (by omega) ?_
              refine skN ?_
              refine Nb ?_
              refine Nt ?_
              refine rg ?_
              refine mv rfl rfl ?_
              refine ad rfl rfl (c := ((k1 + 1 : Nat) : Int)) ((wrap32_le (by omega) (by omega)).trans (by omega)) rfl ?_
              refine asg rfl rfl ?_
              refine nN ?_
              obtain rfl : u1_ = ([], x1_1.2) := hu1_
              have hfs1 := flatMap_snoc' fk es1 ((⟨([.string ⟨x1_0.1.s.toArray⟩, .slice a1_1 (lT x1_1.1).length c1_1, .map none] : List Value), rfl, all_one rfl⟩, ((decV 10 (decP fs_sAlterReplicaLogDirsResponseTopic v false) false false) (rMany (decV 10 (decP fs_sAlterReplicaLogDirsResponseTopic v false) false false) k1 (rArr false x0.2).2).2).1) : KE 3)
              have hrw1 := hbk1 ([.string ⟨x1_0.1.s.toArray⟩, .slice a1_1 (lT x1_1.1).length c1_1, .map none] : List Value) rfl
              refine tfN (.tail .head) ?_
              refine fun a_ w_ hA hw => ⟨hkl1, _, _, _, hA.sub ?_, (le_4.trans (le_6.trans (le_7.trans hlf1_1))), hw, _, _, _, rfl, rfl, (by rw [rMany_succ]; show RdAt _ 232 b_1 (decP fs_sAlterReplicaLogDirsResponseTopic v false (rMany (decV 10 (decP fs_sAlterReplicaLogDirsResponseTopic v false) false false) k1 (rArr false x0.2).2).2).2 _; rw [hD1_]; exact hRx1_1), (by rw [← hfs1]; exact hrw1), (dec_els he_1), (fun p hp => (mem_snoc hp).elim (fun h => At_AlterReplicaLogDirsResponseTopic.mono _ _ _ _ (le_6.trans (le_7.trans hlf1_1)) (hg_1 p h)) (fun h => h ▸ (by show At_AlterReplicaLogDirsResponseTopic _ (decP fs_sAlterReplicaLogDirsResponseTopic v false (rMany (decV 10 (decP fs_sAlterReplicaLogDirsResponseTopic v false) false false) k1 (rArr false x0.2).2).2).1 [.string ⟨x1_0.1.s.toArray⟩, .slice a1_1 (lT x1_1.1).length c1_1, .map none]; rw [hD1_]; exact ⟨a1_1, c1_1, none, rfl, hf1_1, (KvAt.nil _)⟩)))⟩
              exact (.cons rfl (.cons rfl (.cons rfl (.cons rfl (.cons rfl (.cons rfl (.cons rfl (.cons rfl (.nil _)))))))))
      · skip
        have hkn_ : k1 = (lT x1.1).length := by omega
        subst hkn_
        have hw2_1 : Row 216 3 a1 (lT x1.1).length c1 (es1.flatMap fk) M1 := by have h := hw_1; rw [Nat.sub_self] at h; simpa [reps] using h
        refine frW hw2_1 .head (fun Hf1 hlf1 hfz1 => ?_)
        have hrs1 := RowsAt.row (R := At_AlterReplicaLogDirsResponseTopic) hfz1 hs_1.symm hw2_1.le.1 (fun p hp => At_AlterReplicaLogDirsResponseTopic.mono _ _ _ _ hlf1 (hg_1 p hp))
        rw [he_1] at hrs1
        have hf1 : ListAt Hf1 x1.1 3 At_AlterReplicaLogDirsResponseTopic a1 c1 := by rw [ex1]; exact listAt_of hrs1 hi1 (fun h => by have h1 := nul_le h; rw [show (lT x1.1).length = 0 by omega]; rfl)
        have hRx1 : RdAt Hf1 232 b_1 x1.2 RN1 := by rw [ex1]; exact (hR_1.mono hlf1)
        refine exX ?_
        refine XT ?_
        refine XT ?_
        refine Xb ?_
        refine Nt ?_
        refine sr ?_
        refine mv rfl rfl ?_
        refine asg rfl rfl ?_
        refine nl ?_
        refine rg ?_
        refine mv rfl rfl ?_
        refine mv rfl rfl ?_
        refine nc rfl rfl ?_
        refine fa0 F211_2 rfl rfl ?_
        refine st Tryz.sizeOf209 rfl rfl rfl rfl (.tail .head) ?_
        refine nl ?_
        refine sq ?_
        refine sr ?_
        refine mv rfl rfl ?_
        refine nl ?_
        refine cdF rfl (by omega) ?_
        refine skt ?_
        refine sr ?_
        refine cl rfl rfl rfl (r_complete hRx1 (he.mono (le_3.trans (le_4.trans hlf1)))) rfl (fun v_ H1 L1 hle_ hR_ => ?_)
        obtain ⟨rfl, rfl, rfl⟩ := hR_
        refine asg rfl rfl ?_
        refine nl ?_
        refine drW .head ?_
        obtain rfl : u = ([], x1.2) := hu
        have hA_ := (show At_AlterReplicaLogDirsResponse v _ (decP fs_AlterReplicaLogDirsResponse v false _).1 [.int .i16 v, .int .i32 (IntKind.i32.wrap x0.1.n), .slice a1 (lT x1.1).length c1, .map none] from (by rw [hD]; exact ⟨a1, c1, none, rfl, hf1, (KvAt.nil _)⟩))
        refine rT rfl rfl (le_3.trans (le_4.trans hlf1)) (fun _ _ h => h) ⟨_, rfl, ?_⟩
        have hz := RdEnd.of (e := e) hA_
        rw [show (decP fs_AlterReplicaLogDirsResponse v false _).2.bad = x1.2.bad by rw [hD]] at hz
        exact hz
theorem rd_AlterReplicaLogDirsResponse_t {H : Fz} {L : Own} {b : Nat} {v : Int} {a : Option Addr} {c : Nat} {s : List UInt8} {e : Value} (hB : BytesAt H a c s) (hL_ : s.length ≤ BR) (he : H.at 1 0 [e]) (hv0 : 2 ≤ v) (hv1 : v ≤ 2) :
    Fn Tryz.prog 200 [.pointer (some ⟨b, 0, none⟩), .slice a s.length c, .bool false] H ([(b, .cells [.int .i16 v, .int .i32 0, .slice none 0 0, .map none].toArray 211 (0, 0))] :: L) (fun r H' L' => ∃ cs : List Value, L' = [(b, .cells cs.toArray 211 (0, 0))] :: L ∧ RdEnd H' (At_AlterReplicaLogDirsResponse v) (decP fs_AlterReplicaLogDirsResponse v true ⟨s, false, !a.isNone⟩) e r cs) := by
  refine Fn.mk Tryz.call200 Tryz.func200 rfl Tryz.ntmps200 rfl ?_
  refine sr ?_
  refine asg rfl rfl ?_
  refine nl ?_
  refine sr ?_
  refine mv rfl rfl ?_
  refine cl rfl rfl rfl def0_AlterReplicaLogDirsResponse rfl (fun v_ H1 L1 hle_ hR_ => ?_)
  obtain ⟨rfl, rfl⟩ := hR_
  refine nl ?_
  refine sr ?_
  refine mv rfl rfl ?_
  refine bd' S232 rfl rfl rfl ?_
  refine al Tryz.zeroValue232 rfl rfl (fun b_1 => ?_)
  refine sa Tryz.sizeOf232 rfl rfl rfl rfl rfl .head ?_
  have hR0_ : RdAt H 232 b_1 ⟨s, false, !a.isNone⟩ [(b_1, .cells [_, _].toArray 232 (0, 0))] := ⟨a, c, rfl, hB, by simp⟩
  obtain ⟨x0, hx0⟩ : ∃ x, x = stepF (Fd.mk 3 0 (-1) (-1) (-1) 0 0 []) v true ⟨s, false, !a.isNone⟩ := ⟨_, rfl⟩
  obtain ⟨x1, hx1⟩ : ∃ x, x = stepF (Fd.mk 11 0 (-1) (-1) (-1) 0 10 fs_sAlterReplicaLogDirsResponseTopic) v true x0.2 := ⟨_, rfl⟩
  obtain ⟨u, hu⟩ : ∃ x, x = tailU true x1.2 := ⟨_, rfl⟩
  have hD : decP fs_AlterReplicaLogDirsResponse v true ⟨s, false, !a.isNone⟩ = (.mk 0 [] false [x0.1, x1.1] u.1, u.2) := by
    generalize (⟨s, false, !a.isNone⟩ : Rd) = r_ at hx0 ⊢
    rw [decP_eq]; unfold fs_AlterReplicaLogDirsResponse; simp only [decFs_cons, decFs_nil, ← hx0, ← hx1, ← hu]
  have hL0 : x0.2.s.length ≤ BR := by rw [hx0]; exact Nat.le_trans (stepF_shr _ _ _ _) hL_
  have hL1 : x1.2.s.length ≤ BR := by rw [hx1]; exact Nat.le_trans (stepF_shr _ _ _ _) hL0
  have hE : u.2.bad = true → (decP fs_AlterReplicaLogDirsResponse v true ⟨s, false, !a.isNone⟩).2.bad = true := fun h => by rw [hD]; exact h
  have hB1 : x1.2.bad = true → (decP fs_AlterReplicaLogDirsResponse v true ⟨s, false, !a.isNone⟩).2.bad = true := fun h => hE (by rw [hu]; exact tailU_bad h)
  have hB0 : x0.2.bad = true → (decP fs_AlterReplicaLogDirsResponse v true ⟨s, false, !a.isNone⟩).2.bad = true := fun h => hB1 (by rw [hx1]; exact step_bad h)
  refine nl ?_
  refine sr ?_
  refine mv rfl rfl ?_
  refine nc rfl rfl ?_
  refine fa0 F211_0 rfl rfl ?_
  refine ld (Says.own (.tail .head)) Tryz.isAgg51 rfl (Nat.zero_add _).symm rfl rfl ?_
  refine asg rfl rfl ?_
  refine nl ?_
  refine sr ?_
  refine mv rfl rfl ?_
  refine nl ?_
  refine sr ?_
  refine mv rfl rfl ?_
  refine ge rfl rfl rfl ?_
  refine asg rfl rfl ?_
  refine nl ?_
  refine sr ?_
  refine mv rfl rfl ?_
  refine nl ?_
  refine sr ?_
  refine mv rfl rfl ?_
  refine asg rfl rfl ?_
  refine nl ?_
  refine sq ?_
  refine sr ?_
  have ex0 : x0 = decV 3 (decP [] v true) false true ⟨s, false, !a.isNone⟩ := (hx0.trans (step_yes (by decide) (show (0 : Int) ≤ v by omega) (Or.inl (by decide)))).trans (decF'_val (by decide) (rfl))
  refine cl rfl rfl rfl (d3 hR0_ ex0) rfl (fun v_ H1 L1 hle_ hR_ => ?_)
  obtain ⟨N40, rfl, hR40, rfl, rfl⟩ := hR_
  refine asg rfl rfl ?_
  refine nl ?_
  refine rg ?_
  refine mv rfl rfl ?_
  refine mv rfl rfl ?_
  refine nc rfl rfl ?_
  refine fa0 F211_1 rfl rfl ?_
  refine st Tryz.sizeOf21 rfl rfl rfl rfl (.tail .head) ?_
  refine nl ?_
  refine sq ?_
  refine sr ?_
  refine mv rfl rfl ?_
  refine nc rfl rfl ?_
  refine fa0 F211_2 rfl rfl ?_
  refine ld (Says.own (.tail .head)) Tryz.isAgg209 rfl (Nat.zero_add _).symm rfl rfl ?_
  refine asg rfl rfl ?_
  refine nl ?_
  refine sr ?_
  refine mv rfl rfl ?_
  refine asg rfl rfl ?_
  refine nl ?_
  refine sr ?_
  refine asg rfl rfl ?_
  refine nl ?_
  refine sq ?_
  refine sr ?_
  refine mv rfl rfl ?_
  refine nl ?_
  refine cdT rfl (by omega) ?_
  refine rg ?_
  have ey1 : x1 = (.mk 0 [] (if 0 ≤ ((-1) : Int) ∧ (v < ((-1) : Int) ∨ (rArr true x0.2).1 = 0) then false else decide ((rArr true x0.2).1 ≤ 0)) (rMany (decV 10 (decP fs_sAlterReplicaLogDirsResponseTopic v true) false true) (rArr true x0.2).1.toNat (rArr true x0.2).2).1 [], (rMany (decV 10 (decP fs_sAlterReplicaLogDirsResponseTopic v true) false true) (rArr true x0.2).1.toNat (rArr true x0.2).2).2) := (hx1.trans (step_yes (by decide) (show (0 : Int) ≤ v by omega) (Or.inl (by decide)))).trans (decF'_list rfl rfl)
  have hn1 : (rArr true x0.2).1.toNat = (lT x1.1).length := by rw [ey1]; exact (lT_many nul_le).symm
  have ex1 := ey1
  rw [hn1] at ex1
  have hl1 := rArr_le true x0.2
  have hm1 : (rArr true x0.2).2.s.length ≤ BR := Nat.le_trans (rArr_len true x0.2) hL0
  have hnb1 : (lT x1.1).length ≤ BR := by omega
  refine cl rfl rfl rfl (r_arrt hR40) rfl (fun v_ H1 L1 hle_ hR_ => ?_)
  obtain ⟨rfl, N51, rfl, hR51, rfl⟩ := hR_
  have hh1 := rArr_hi true x0.2
  refine asg rfl rfl ?_
  refine nl ?_
  refine sq ?_
  refine sr ?_
  refine cl rfl rfl rfl (r_ok hR51) rfl (fun v_ H1 L1 hle_ hR_ => ?_)
  obtain ⟨rfl, rfl, rfl⟩ := hR_
  refine nt rfl rfl ?_
  refine nl ?_
  refine cb rfl (fun h54 => ?_) (fun h54 => ?_)
  · skip
    have hbad_ : (rArr true x0.2).2.bad = true := by simpa using h54
    refine sr ?_
    refine cl rfl rfl rfl (r_complete hR51 he) rfl (fun v_ H1 L1 hle_ hR_ => ?_)
    obtain ⟨rfl, rfl, rfl⟩ := hR_
    refine asg rfl rfl ?_
    refine nl ?_
    refine drW .head ?_
    exact rT rfl rfl (Fz.le.refl _) (fun _ _ h => h) ⟨_, rfl, RdEnd.out (hB1 (by rw [ey1]; exact rMany_bad (fun r h => decV_bad (decP_bad _ _ _) h) _ _ hbad_)) hbad_⟩
  · skip
    refine skt ?_
    refine sr ?_
    refine mv rfl rfl ?_
    refine sh' (j := 0) Tryz.runUnderlying209 Tryz.sizeOf216 rfl rfl rfl (Nat.zero_le _) rfl ?_
    refine asg rfl rfl ?_
    refine nl ?_
    refine sq ?_
    refine sr ?_
    refine mv rfl rfl ?_
    refine gt rfl rfl rfl ?_
    refine nl ?_
    refine nulC2 ?_
    refine cutT (fun l' H' L' => ∃ (a1 : Option Addr), ∃ (c1 : Nat), ∃ (Nr1 : Chunk), [(2, .bool false), (7, .pointer (some ⟨b_1, 0, none⟩)), (9, .bool (decide ((2 : Int) ≤ v))), (10, .pointer (some ⟨b, 0, none⟩)), (12, .slice none 0 0), (13, .slice a1 (lT x1.1).length c1), (14, .int .i32 (rArr true x0.2).1)] = l' ∧ Nr1 :: N51 :: [(b, .cells [.int .i16 v, .int .i32 (IntKind.i32.wrap x0.1.n), .slice none 0 0, .map none].toArray 211 (0, 0))] :: L = L' ∧ Row 216 3 a1 (lT x1.1).length c1 (reps [.string ⟨#[]⟩, .slice none 0 0, .map none] (lT x1.1).length) Nr1 ∧ a1.isNone = (if 0 ≤ ((-1) : Int) ∧ (v < ((-1) : Int) ∨ (rArr true x0.2).1 = 0) then false else decide ((rArr true x0.2).1 ≤ 0))) ?_ (fun l' H' L' le_3 hI => ?_)
    · skip
      refine cd rfl (fun h59 => ?_) (fun h59 => ?_)
      · skip
        refine rg ?_
        refine mv rfl rfl ?_
        refine mv rfl rfl ?_
        refine apz (zs := [.string ⟨#[]⟩, .slice none 0 0, .map none]) (m := (lT x1.1).length) Tryz.underlying209 Tryz.underlying21 I216 rfl rfl rfl (by omega) (by omega) (by have h9 := hnb1; unfold BR at h9; omega) (by have h9 := hnb1; unfold BR at h9; unfold maxLen; omega) rfl (fun g62 cp62 N62 r62 => ?_)
        refine asg rfl rfl ?_
        refine nN ?_
        refine drN (.tail .head) ?_
        refine fun a_ w_ hA hw => ⟨_, _, _, hA.sub ?_, (Fz.le.refl _), hw, (some ⟨g62, 0, none⟩), cp62, N62, rfl, rfl, r62, (by rw [if_neg (by omega)]; exact (decide_eq_false (by omega)).symm)⟩
        exact (.cons rfl (.cons rfl (.cons rfl (.cons rfl (.cons rfl (.cons rfl (.cons rfl (.nil _))))))))
      · skip
        refine skN ?_
        refine fun a_ w_ hA hw => ⟨_, _, _, hA.sub ?_, (Fz.le.refl _), hw, none, 0, [], rfl, rfl, (by rw [show (lT x1.1).length = 0 by omega]; exact (Row.nil _ _)), (by rw [if_neg (by omega)]; exact (decide_eq_true (by omega)).symm)⟩
        exact (.cons rfl (.cons rfl (.cons rfl (.cons rfl (.cons rfl (.cons (by rw [show (lT x1.1).length = 0 by omega]; rfl) (.cons rfl (.nil _))))))))
    · skip
      obtain ⟨a1, c1, Nr1, rfl, rfl, pj0, pj1⟩ := hI
      have hr1 := pj0
      have hi1 := pj1
      refine sq ?_
      refine sr ?_
      refine asg rfl rfl ?_
      refine nl ?_
      refine bl (lp ((lT x1.1).length) (fun k1 l' H' L' => ∃ (es1 : List (KE 3)) (M1 RN1 : Chunk), [(2, .bool false), (7, .pointer (some ⟨b_1, 0, none⟩)), (9, .bool (decide ((2 : Int) ≤ v))), (10, .pointer (some ⟨b, 0, none⟩)), (12, .slice none 0 0), (13, .slice a1 (lT x1.1).length c1), (14, .int .i32 (rArr true x0.2).1), (15, .int .i32 (k1 : Int))] = l' ∧ M1 :: RN1 :: [(b, .cells [.int .i16 v, .int .i32 (IntKind.i32.wrap x0.1.n), .slice none 0 0, .map none].toArray 211 (0, 0))] :: L = L' ∧ RdAt H' 232 b_1 (rMany (decV 10 (decP fs_sAlterReplicaLogDirsResponseTopic v true) false true) k1 (rArr true x0.2).2).2 RN1 ∧ Row 216 3 a1 (lT x1.1).length c1 (es1.flatMap fk ++ reps [.string ⟨#[]⟩, .slice none 0 0, .map none] ((lT x1.1).length - k1)) M1 ∧ es1.map (·.2) = (rMany (decV 10 (decP fs_sAlterReplicaLogDirsResponseTopic v true) false true) k1 (rArr true x0.2).2).1 ∧ ∀ p ∈ es1, At_AlterReplicaLogDirsResponseTopic H' p.2 (fk p)) [(2, .bool false), (7, .pointer (some ⟨b_1, 0, none⟩)), (9, .bool (decide ((2 : Int) ≤ v))), (10, .pointer (some ⟨b, 0, none⟩)), (12, .slice none 0 0), (13, .slice a1 (lT x1.1).length c1), (14, .int .i32 (rArr true x0.2).1), (15, .int .i32 (0 : Int))] (.cons rfl (.cons rfl (.cons rfl (.cons rfl (.cons rfl (.cons rfl (.cons rfl (.cons rfl (.nil _))))))))) ⟨[], Nr1, _, rfl, rfl, (hR51.mono le_3), hr1, rfl, (fun p hp => by cases hp)⟩ (fun k1 l' H' L' hk1 le_4 hI => ?_))
      obtain ⟨es1, M1, RN1, rfl, rfl, hR_1, hw_1, he_1, hg_1⟩ := hI
      have hs_1 := els_len he_1
      have hp_1 : (es1.flatMap fk).length = k1 * 3 := els_flat hs_1
      refine sq ?_
      refine sr ?_
      refine mv rfl rfl ?_
      refine mv rfl rfl ?_
      refine lt rfl rfl rfl ?_
      refine nl ?_
      refine cd rfl (fun h65 => ?_) (fun h65 => ?_)
      · skip
        have hkl1 : k1 < (lT x1.1).length := by omega
        obtain ⟨g1, po1, hga1, rfl, hbk1⟩ := hw_1.next (zs := [.string ⟨#[]⟩, .slice none 0 0, .map none]) hkl1 rfl (by decide)
        have ho1 : 0 + k1 * 3 = (es1.flatMap fk).length := by rw [hp_1]; omega
        have hbz1 : ((decV 10 (decP fs_sAlterReplicaLogDirsResponseTopic v true) false true) (rMany (decV 10 (decP fs_sAlterReplicaLogDirsResponseTopic v true) false true) k1 (rArr true x0.2).2).2).2.bad = true → (decP fs_AlterReplicaLogDirsResponse v true ⟨s, false, !a.isNone⟩).2.bad = true := fun h => hB1 (by rw [ex1]; exact rMany_mono (fun r h => decV_bad (fun r h => decP_bad _ _ _ r h) h) _ (show k1 + 1 ≤ (lT x1.1).length from hkl1) (by rw [rMany_succ]; exact h))
        have hLk1 : (rMany (decV 10 (decP fs_sAlterReplicaLogDirsResponseTopic v true) false true) k1 (rArr true x0.2).2).2.s.length ≤ BR := Nat.le_trans (rMany_shr (fun r => decV_shr (fun r => decP_shr _ _ _ r) r) _ _) hm1
        have hL1__ := hLk1
        obtain ⟨x1_0, hx1_0⟩ : ∃ x, x = stepF (Fd.mk 8 0 (-1) (-1) (-1) 0 0 []) v true (rMany (decV 10 (decP fs_sAlterReplicaLogDirsResponseTopic v true) false true) k1 (rArr true x0.2).2).2 := ⟨_, rfl⟩
        obtain ⟨x1_1, hx1_1⟩ : ∃ x, x = stepF (Fd.mk 11 0 (-1) (-1) (-1) 0 10 fs_sAlterReplicaLogDirsResponseTopicPartition) v true x1_0.2 := ⟨_, rfl⟩
        obtain ⟨u1_, hu1_⟩ : ∃ x, x = tailU true x1_1.2 := ⟨_, rfl⟩
        have hD1_ : decP fs_sAlterReplicaLogDirsResponseTopic v true (rMany (decV 10 (decP fs_sAlterReplicaLogDirsResponseTopic v true) false true) k1 (rArr true x0.2).2).2 = (.mk 0 [] false [x1_0.1, x1_1.1] u1_.1, u1_.2) := by
          generalize ((rMany (decV 10 (decP fs_sAlterReplicaLogDirsResponseTopic v true) false true) k1 (rArr true x0.2).2).2 : Rd) = r_ at hx1_0 ⊢
          rw [decP_eq]; unfold fs_sAlterReplicaLogDirsResponseTopic; simp only [decFs_cons, decFs_nil, ← hx1_0, ← hx1_1, ← hu1_]
        have hL1_0 : x1_0.2.s.length ≤ BR := by rw [hx1_0]; exact Nat.le_trans (stepF_shr _ _ _ _) hL1__
        have hL1_1 : x1_1.2.s.length ≤ BR := by rw [hx1_1]; exact Nat.le_trans (stepF_shr _ _ _ _) hL1_0
        have hE1_ : u1_.2.bad = true → (decP fs_AlterReplicaLogDirsResponse v true ⟨s, false, !a.isNone⟩).2.bad = true := fun h => hbz1 (by show (decP fs_sAlterReplicaLogDirsResponseTopic v true (rMany (decV 10 (decP fs_sAlterReplicaLogDirsResponseTopic v true) false true) k1 (rArr true x0.2).2).2).2.bad = true; rw [hD1_]; exact h)
        have hB1_1 : x1_1.2.bad = true → (decP fs_AlterReplicaLogDirsResponse v true ⟨s, false, !a.isNone⟩).2.bad = true := fun h => hE1_ (by rw [hu1_]; exact tailU_bad h)
        have hB1_0 : x1_0.2.bad = true → (decP fs_AlterReplicaLogDirsResponse v true ⟨s, false, !a.isNone⟩).2.bad = true := fun h => hB1_1 (by rw [hx1_1]; exact step_bad h)
        refine skt ?_
        refine sq ?_
        refine bl ?_
        refine sr ?_
        refine mv rfl rfl ?_
        refine mv rfl rfl ?_
        refine ixk (j := k1) Tryz.runUnderlying209 Tryz.sizeOf216 rfl hga1 rfl rfl hkl1 rfl ?_
        refine asg rfl rfl ?_
        refine nl ?_
        refine sr ?_
        refine mv rfl rfl ?_
        refine cl rfl rfl rfl (def_AlterReplicaLogDirsResponseTopic ho1) rfl (fun v_ H1 L1 hle_ hR_ => ?_)
        obtain ⟨rfl, rfl⟩ := hR_
        refine nl ?_
        refine sr ?_
        refine mv rfl rfl ?_
        refine asg rfl rfl ?_
        refine nl ?_
        refine sq ?_
        refine sr ?_
        refine asg rfl rfl ?_
        refine nl ?_
        refine sq ?_
        refine sr ?_
        refine mv rfl rfl ?_
        refine nl ?_
        refine cF rfl ?_
        refine sr ?_
        refine mv rfl rfl ?_
        refine nl ?_
        refine cdT rfl (by omega) ?_
        refine rg ?_
        refine tf (.tail .head) ?_
        have ex1_0 : x1_0 = decV 8 (decP [] v true) false true (rMany (decV 10 (decP fs_sAlterReplicaLogDirsResponseTopic v true) false true) k1 (rArr true x0.2).2).2 := (hx1_0.trans (step_yes (by decide) (show (0 : Int) ≤ v by omega) (Or.inl (by decide)))).trans (decF'_val (by decide) (rfl))
        refine cl rfl rfl rfl (d8t hR_1 ex1_0) rfl (fun v_ H1 L1 le_5 hR_ => ?_)
        obtain ⟨N79, rfl, hR79, rfl, rfl⟩ := hR_
        refine asg rfl rfl ?_
        refine nl ?_
        refine rg ?_
        refine mv rfl rfl ?_
        refine mv rfl rfl ?_
        refine nc rfl rfl ?_
        refine fa F216_0 rfl rfl ?_
        refine stM (off := 0) Tryz.sizeOf9 rfl (by rw [ho1]) rfl rfl rfl (.tail .head) ?_
        refine nl ?_
        refine sq ?_
        refine sr ?_
        refine mv rfl rfl ?_
        refine nc rfl rfl ?_
        refine fa F216_1 rfl rfl ?_
        refine ld (j := 1) (off := 0 + k1 * 3) (Says.mid (.tail .head) ho1) Tryz.isAgg214 rfl rfl rfl rfl ?_
        refine asg rfl rfl ?_
        refine nl ?_
        refine sr ?_
        refine mv rfl rfl ?_
        refine asg rfl rfl ?_
        refine nl ?_
        refine sr ?_
        refine asg rfl rfl ?_
        refine nl ?_
        refine sq ?_
        refine sr ?_
        refine mv rfl rfl ?_
        refine nl ?_
        refine cdT rfl (by omega) ?_
        refine rg ?_
        have ey1_1 : x1_1 = (.mk 0 [] (if 0 ≤ ((-1) : Int) ∧ (v < ((-1) : Int) ∨ (rArr true x1_0.2).1 = 0) then false else decide ((rArr true x1_0.2).1 ≤ 0)) (rMany (decV 10 (decP fs_sAlterReplicaLogDirsResponseTopicPartition v true) false true) (rArr true x1_0.2).1.toNat (rArr true x1_0.2).2).1 [], (rMany (decV 10 (decP fs_sAlterReplicaLogDirsResponseTopicPartition v true) false true) (rArr true x1_0.2).1.toNat (rArr true x1_0.2).2).2) := (hx1_1.trans (step_yes (by decide) (show (0 : Int) ≤ v by omega) (Or.inl (by decide)))).trans (decF'_list rfl rfl)
        have hn1_1 : (rArr true x1_0.2).1.toNat = (lT x1_1.1).length := by rw [ey1_1]; exact (lT_many nul_le).symm
        have ex1_1 := ey1_1
        rw [hn1_1] at ex1_1
        have hl1_1 := rArr_le true x1_0.2
        have hm1_1 : (rArr true x1_0.2).2.s.length ≤ BR := Nat.le_trans (rArr_len true x1_0.2) hL1_0
        have hnb1_1 : (lT x1_1.1).length ≤ BR := by omega
        refine cl rfl rfl rfl (r_arrt hR79) rfl (fun v_ H1 L1 hle_ hR_ => ?_)
        obtain ⟨rfl, N91, rfl, hR91, rfl⟩ := hR_
        have hh1_1 := rArr_hi true x1_0.2
        refine asg rfl rfl ?_
        refine nl ?_
        refine sq ?_
        refine sr ?_
        refine cl rfl rfl rfl (r_ok hR91) rfl (fun v_ H1 L1 hle_ hR_ => ?_)
        obtain ⟨rfl, rfl, rfl⟩ := hR_
        refine nt rfl rfl ?_
        refine nl ?_
        refine cb rfl (fun h94 => ?_) (fun h94 => ?_)
        · skip
          have hbad_ : (rArr true x1_0.2).2.bad = true := by simpa using h94
          refine sr ?_
          refine cl rfl rfl rfl (r_complete hR91 (he.mono (le_3.trans le_4))) rfl (fun v_ H1 L1 hle_ hR_ => ?_)
          obtain ⟨rfl, rfl, rfl⟩ := hR_
          refine asg rfl rfl ?_
          refine nl ?_
          refine drW .head ?_
          refine drW .head ?_
          exact rT rfl rfl (le_3.trans le_4) (fun _ _ h => h) ⟨_, rfl, RdEnd.out (hB1_1 (by rw [ey1_1]; exact rMany_bad (fun r h => decV_bad (decP_bad _ _ _) h) _ _ hbad_)) hbad_⟩
        · skip
          refine skt ?_
          refine sr ?_
          refine mv rfl rfl ?_
          refine sh' (j := 0) Tryz.runUnderlying214 Tryz.sizeOf219 rfl rfl rfl (Nat.zero_le _) rfl ?_
          refine asg rfl rfl ?_
          refine nl ?_
          refine sq ?_
          refine sr ?_
          refine mv rfl rfl ?_
          refine gt rfl rfl rfl ?_
          refine nl ?_
          refine nulC2 ?_
          refine cutT (fun l' H' L' => ∃ (a1_1 : Option Addr), ∃ (c1_1 : Nat), ∃ (Nr1_1 : Chunk), [(2, .bool false), (7, .pointer (some ⟨b_1, 0, none⟩)), (9, .bool (decide ((2 : Int) ≤ v))), (10, .pointer (some ⟨b, 0, none⟩)), (12, .slice none 0 0), (13, .slice a1 (lT x1.1).length c1), (14, .int .i32 (rArr true x0.2).1), (15, .int .i32 (k1 : Int)), (17, .pointer (some ⟨g1, 0 + k1 * 3, none⟩)), (19, .slice none 0 0), (20, .slice a1_1 (lT x1_1.1).length c1_1), (21, .int .i32 (rArr true x1_0.2).1)] = l' ∧ Nr1_1 :: N91 :: [(g1, .cells ((es1.flatMap fk) ++ ([.string ⟨x1_0.1.s.toArray⟩, .slice none 0 0, .map none] : List Value) ++ po1).toArray 216 (0, 0))] :: [(b, .cells [.int .i16 v, .int .i32 (IntKind.i32.wrap x0.1.n), .slice none 0 0, .map none].toArray 211 (0, 0))] :: L = L' ∧ Row 219 3 a1_1 (lT x1_1.1).length c1_1 (reps [.int .i32 0, .int .i16 0, .map none] (lT x1_1.1).length) Nr1_1 ∧ a1_1.isNone = (if 0 ≤ ((-1) : Int) ∧ (v < ((-1) : Int) ∨ (rArr true x1_0.2).1 = 0) then false else decide ((rArr true x1_0.2).1 ≤ 0))) ?_ (fun l' H' L' le_6 hI => ?_)
          · skip
            refine cd rfl (fun h99 => ?_) (fun h99 => ?_)
            · skip
              refine rg ?_
              refine mv rfl rfl ?_
              refine mv rfl rfl ?_
              refine apz (zs := [.int .i32 0, .int .i16 0, .map none]) (m := (lT x1_1.1).length) Tryz.underlying214 Tryz.underlying21 I219 rfl rfl rfl (by omega) (by omega) (by have h9 := hnb1_1; unfold BR at h9; omega) (by have h9 := hnb1_1; unfold BR at h9; unfold maxLen; omega) rfl (fun g102 cp102 N102 r102 => ?_)
              refine asg rfl rfl ?_
              refine nN ?_
              refine drN (.tail .head) ?_
              refine fun a_ w_ hA hw => ⟨_, _, _, hA.sub ?_, (Fz.le.refl _), hw, (some ⟨g102, 0, none⟩), cp102, N102, rfl, rfl, r102, (by rw [if_neg (by omega)]; exact (decide_eq_false (by omega)).symm)⟩
              exact (.cons rfl (.cons rfl (.cons rfl (.cons rfl (.cons rfl (.cons rfl (.cons rfl (.cons rfl (.cons rfl (.cons rfl (.cons rfl (.cons rfl (.nil _)))))))))))))
            · skip
              refine skN ?_
              refine fun a_ w_ hA hw => ⟨_, _, _, hA.sub ?_, (Fz.le.refl _), hw, none, 0, [], rfl, rfl, (by rw [show (lT x1_1.1).length = 0 by omega]; exact (Row.nil _ _)), (by rw [if_neg (by omega)]; exact (decide_eq_true (by omega)).symm)⟩
              exact (.cons rfl (.cons rfl (.cons rfl (.cons rfl (.cons rfl (.cons rfl (.cons rfl (.cons rfl (.cons rfl (.cons rfl (.cons (by rw [show (lT x1_1.1).length = 0 by omega]; rfl) (.cons rfl (.nil _)))))))))))))
          · skip
            obtain ⟨a1_1, c1_1, Nr1_1, rfl, rfl, pj0, pj1⟩ := hI
            have hr1_1 := pj0
            have hi1_1 := pj1
            refine sq ?_
            refine sr ?_
            refine asg rfl rfl ?_
            refine nl ?_
            refine bl (lp ((lT x1_1.1).length) (fun k1_1 l' H' L' => ∃ (es1_1 : List (KE 3)) (M1_1 RN1_1 : Chunk), [(2, .bool false), (7, .pointer (some ⟨b_1, 0, none⟩)), (9, .bool (decide ((2 : Int) ≤ v))), (10, .pointer (some ⟨b, 0, none⟩)), (12, .slice none 0 0), (13, .slice a1 (lT x1.1).length c1), (14, .int .i32 (rArr true x0.2).1), (15, .int .i32 (k1 : Int)), (17, .pointer (some ⟨g1, 0 + k1 * 3, none⟩)), (19, .slice none 0 0), (20, .slice a1_1 (lT x1_1.1).length c1_1), (21, .int .i32 (rArr true x1_0.2).1), (22, .int .i32 (k1_1 : Int))] = l' ∧ M1_1 :: RN1_1 :: [(g1, .cells ((es1.flatMap fk) ++ ([.string ⟨x1_0.1.s.toArray⟩, .slice none 0 0, .map none] : List Value) ++ po1).toArray 216 (0, 0))] :: [(b, .cells [.int .i16 v, .int .i32 (IntKind.i32.wrap x0.1.n), .slice none 0 0, .map none].toArray 211 (0, 0))] :: L = L' ∧ RdAt H' 232 b_1 (rMany (decV 10 (decP fs_sAlterReplicaLogDirsResponseTopicPartition v true) false true) k1_1 (rArr true x1_0.2).2).2 RN1_1 ∧ Row 219 3 a1_1 (lT x1_1.1).length c1_1 (es1_1.flatMap fk ++ reps [.int .i32 0, .int .i16 0, .map none] ((lT x1_1.1).length - k1_1)) M1_1 ∧ es1_1.map (·.2) = (rMany (decV 10 (decP fs_sAlterReplicaLogDirsResponseTopicPartition v true) false true) k1_1 (rArr true x1_0.2).2).1 ∧ ∀ p ∈ es1_1, At_AlterReplicaLogDirsResponseTopicPartition H' p.2 (fk p)) [(2, .bool false), (7, .pointer (some ⟨b_1, 0, none⟩)), (9, .bool (decide ((2 : Int) ≤ v))), (10, .pointer (some ⟨b, 0, none⟩)), (12, .slice none 0 0), (13, .slice a1 (lT x1.1).length c1), (14, .int .i32 (rArr true x0.2).1), (15, .int .i32 (k1 : Int)), (17, .pointer (some ⟨g1, 0 + k1 * 3, none⟩)), (19, .slice none 0 0), (20, .slice a1_1 (lT x1_1.1).length c1_1), (21, .int .i32 (rArr true x1_0.2).1), (22, .int .i32 (0 : Int))] (.cons rfl (.cons rfl (.cons rfl (.cons rfl (.cons rfl (.cons rfl (.cons rfl (.cons rfl (.cons rfl (.cons rfl (.cons rfl (.cons rfl (.cons rfl (.nil _)))))))))))))) ⟨[], Nr1_1, _, rfl, rfl, (hR91.mono le_6), hr1_1, rfl, (fun p hp => by cases hp)⟩ (fun k1_1 l' H' L' hk1_1 le_7 hI => ?_))
            obtain ⟨es1_1, M1_1, RN1_1, rfl, rfl, hR_1_1, hw_1_1, he_1_1, hg_1_1⟩ := hI
            have hs_1_1 := els_len he_1_1
            have hp_1_1 : (es1_1.flatMap fk).length = k1_1 * 3 := els_flat hs_1_1
            refine sq ?_
            refine sr ?_
            refine mv rfl rfl ?_
            refine mv rfl rfl ?_
            refine lt rfl rfl rfl ?_
            refine nl ?_
            refine cd rfl (fun h105 => ?_) (fun h105 => ?_)
            · skip
              have hkl1_1 : k1_1 < (lT x1_1.1).length := by omega
              obtain ⟨g1_1, po1_1, hga1_1, rfl, hbk1_1⟩ := hw_1_1.next (zs := [.int .i32 0, .int .i16 0, .map none]) hkl1_1 rfl (by decide)
              have ho1_1 : 0 + k1_1 * 3 = (es1_1.flatMap fk).length := by rw [hp_1_1]; omega
              have hbz1_1 : ((decV 10 (decP fs_sAlterReplicaLogDirsResponseTopicPartition v true) false true) (rMany (decV 10 (decP fs_sAlterReplicaLogDirsResponseTopicPartition v true) false true) k1_1 (rArr true x1_0.2).2).2).2.bad = true → (decP fs_AlterReplicaLogDirsResponse v true ⟨s, false, !a.isNone⟩).2.bad = true := fun h => hB1_1 (by rw [ex1_1]; exact rMany_mono (fun r h => decV_bad (fun r h => decP_bad _ _ _ r h) h) _ (show k1_1 + 1 ≤ (lT x1_1.1).length from hkl1_1) (by rw [rMany_succ]; exact h))
              have hLk1_1 : (rMany (decV 10 (decP fs_sAlterReplicaLogDirsResponseTopicPartition v true) false true) k1_1 (rArr true x1_0.2).2).2.s.length ≤ BR := Nat.le_trans (rMany_shr (fun r => decV_shr (fun r => decP_shr _ _ _ r) r) _ _) hm1_1
              have hL1_1__ := hLk1_1
              obtain ⟨x1_1_0, hx1_1_0⟩ : ∃ x, x = stepF (Fd.mk 3 0 (-1) (-1) (-1) 0 0 []) v true (rMany (decV 10 (decP fs_sAlterReplicaLogDirsResponseTopicPartition v true) false true) k1_1 (rArr true x1_0.2).2).2 := ⟨_, rfl⟩
              obtain ⟨x1_1_1, hx1_1_1⟩ : ∃ x, x = stepF (Fd.mk 2 0 (-1) (-1) (-1) 0 0 []) v true x1_1_0.2 := ⟨_, rfl⟩
              obtain ⟨u1_1_, hu1_1_⟩ : ∃ x, x = tailU true x1_1_1.2 := ⟨_, rfl⟩
              have hD1_1_ : decP fs_sAlterReplicaLogDirsResponseTopicPartition v true (rMany (decV 10 (decP fs_sAlterReplicaLogDirsResponseTopicPartition v true) false true) k1_1 (rArr true x1_0.2).2).2 = (.mk 0 [] false [x1_1_0.1, x1_1_1.1] u1_1_.1, u1_1_.2) := by
                generalize ((rMany (decV 10 (decP fs_sAlterReplicaLogDirsResponseTopicPartition v true) false true) k1_1 (rArr true x1_0.2).2).2 : Rd) = r_ at hx1_1_0 ⊢
                rw [decP_eq]; unfold fs_sAlterReplicaLogDirsResponseTopicPartition; simp only [decFs_cons, decFs_nil, ← hx1_1_0, ← hx1_1_1, ← hu1_1_]
              have hL1_1_0 : x1_1_0.2.s.length ≤ BR := by rw [hx1_1_0]; exact Nat.le_trans (stepF_shr _ _ _ _) hL1_1__
              have hL1_1_1 : x1_1_1.2.s.length ≤ BR := by rw [hx1_1_1]; exact Nat.le_trans (stepF_shr _ _ _ _) hL1_1_0
              have hE1_1_ : u1_1_.2.bad = true → (decP fs_AlterReplicaLogDirsResponse v true ⟨s, false, !a.isNone⟩).2.bad = true := fun h => hbz1_1 (by show (decP fs_sAlterReplicaLogDirsResponseTopicPartition v true (rMany (decV 10 (decP fs_sAlterReplicaLogDirsResponseTopicPartition v true) false true) k1_1 (rArr true x1_0.2).2).2).2.bad = true; rw [hD1_1_]; exact h)
              have hB1_1_1 : x1_1_1.2.bad = true → (decP fs_AlterReplicaLogDirsResponse v true ⟨s, false, !a.isNone⟩).2.bad = true := fun h => hE1_1_ (by rw [hu1_1_]; exact tailU_bad h)
              have hB1_1_0 : x1_1_0.2.bad = true → (decP fs_AlterReplicaLogDirsResponse v true ⟨s, false, !a.isNone⟩).2.bad = true := fun h => hB1_1_1 (by rw [hx1_1_1]; exact step_bad h)
              refine skt ?_
              refine sq ?_
              refine bl ?_
              refine sr ?_
              refine mv rfl rfl ?_
              refine mv rfl rfl ?_
              refine ixk (j := k1_1) Tryz.runUnderlying214 Tryz.sizeOf219 rfl hga1_1 rfl rfl hkl1_1 rfl ?_
              refine asg rfl rfl ?_
              refine nl ?_
              refine sr ?_
              refine mv rfl rfl ?_
              refine cl rfl rfl rfl (def_AlterReplicaLogDirsResponseTopicPartition ho1_1) rfl (fun v_ H1 L1 hle_ hR_ => ?_)
              obtain ⟨rfl, rfl⟩ := hR_
              refine nl ?_
              refine sr ?_
              refine mv rfl rfl ?_
              refine asg rfl rfl ?_
              refine nl ?_
              refine sq ?_
              refine sr ?_
              refine tf (.tail .head) ?_
              have ex1_1_0 : x1_1_0 = decV 3 (decP [] v true) false true (rMany (decV 10 (decP fs_sAlterReplicaLogDirsResponseTopicPartition v true) false true) k1_1 (rArr true x1_0.2).2).2 := (hx1_1_0.trans (step_yes (by decide) (show (0 : Int) ≤ v by omega) (Or.inl (by decide)))).trans (decF'_val (by decide) (rfl))
              refine cl rfl rfl rfl (d3 hR_1_1 ex1_1_0) rfl (fun v_ H1 L1 hle_ hR_ => ?_)
              obtain ⟨N114, rfl, hR114, rfl, rfl⟩ := hR_
              refine asg rfl rfl ?_
              refine nl ?_
              refine rg ?_
              refine mv rfl rfl ?_
              refine mv rfl rfl ?_
              refine nc rfl rfl ?_
              refine fa F219_0 rfl rfl ?_
              refine stM (off := 0) Tryz.sizeOf21 rfl (by rw [ho1_1]) rfl rfl rfl (.tail .head) ?_
              refine nl ?_
              refine sq ?_
              refine sr ?_
              have ex1_1_1 : x1_1_1 = decV 2 (decP [] v true) false true x1_1_0.2 := (hx1_1_1.trans (step_yes (by decide) (show (0 : Int) ≤ v by omega) (Or.inl (by decide)))).trans (decF'_val (by decide) (rfl))
              refine cl rfl rfl rfl (d2 hR114 ex1_1_1) rfl (fun v_ H1 L1 hle_ hR_ => ?_)
              obtain ⟨N119, rfl, hR119, rfl, rfl⟩ := hR_
              refine asg rfl rfl ?_
              refine nl ?_
              refine rg ?_
              refine mv rfl rfl ?_
              refine mv rfl rfl ?_
              refine nc rfl rfl ?_
              refine fa F219_1 rfl rfl ?_
              refine stM (off := 1) Tryz.sizeOf51 rfl (by rw [ho1_1]) rfl rfl rfl (.tail .head) ?_
              refine nl ?_
              refine sr ?_
              refine mv rfl rfl ?_
              refine nl ?_
              refine cdT rfl (by omega) ?_
              refine rg ?_
              refine mv rfl rfl ?_
              refine cl rfl rfl rfl (d_tags hR119) rfl (fun v_ H1 L1 le_10 hR_ => ?_)
              obtain ⟨N126, rfl, hR126, m1_1_t, rfl, hft1_1_⟩ := hR_
              have hu21_1_ : u1_1_ = rTags x1_1_1.2 := hu1_1_
              rw [← hu21_1_] at hR126 hft1_1_
              refine nc rfl rfl ?_
              refine fa F219_2 rfl rfl ?_
              refine saM (off := 2) Tryz.sizeOf105 rfl (by rw [ho1_1]) rfl rfl rfl rfl (.tail .head) ?_
              refine nN ?_
              refine Nb ?_
              refine Nt ?_
              refine rg ?_
              refine mv rfl rfl ?_
              refine ad rfl rfl (c := ((k1_1 + 1 : Nat) : Int)) ((wrap32_le (by omega) (by omega)).trans (by omega)) rfl ?_
              refine asg rfl rfl ?_
              refine nN ?_
              have hfs1_1 := flatMap_snoc' fk es1_1 ((⟨([.int .i32 (IntKind.i32.wrap x1_1_0.1.n), .int .i16 (IntKind.i16.wrap x1_1_1.1.n), .map m1_1_t] : List Value), rfl, all_one rfl⟩, ((decV 10 (decP fs_sAlterReplicaLogDirsResponseTopicPartition v true) false true) (rMany (decV 10 (decP fs_sAlterReplicaLogDirsResponseTopicPartition v true) false true) k1_1 (rArr true x1_0.2).2).2).1) : KE 3)
              have hrw1_1 := hbk1_1 ([.int .i32 (IntKind.i32.wrap x1_1_0.1.n), .int .i16 (IntKind.i16.wrap x1_1_1.1.n), .map m1_1_t] : List Value) rfl
              refine tfN (.tail .head) ?_
              refine fun a_ w_ hA hw => ⟨hkl1_1, _, _, _, hA.sub ?_, (le_7.trans le_10), hw, _, _, _, rfl, rfl, (by rw [rMany_succ]; show RdAt _ 232 b_1 (decP fs_sAlterReplicaLogDirsResponseTopicPartition v true (rMany (decV 10 (decP fs_sAlterReplicaLogDirsResponseTopicPartition v true) false true) k1_1 (rArr true x1_0.2).2).2).2 _; rw [hD1_1_]; exact hR126), (by rw [← hfs1_1]; exact hrw1_1), (dec_els he_1_1), (fun p hp => (mem_snoc hp).elim (fun h => At_AlterReplicaLogDirsResponseTopicPartition.mono _ _ _ _ le_10 (hg_1_1 p h)) (fun h => h ▸ (by show At_AlterReplicaLogDirsResponseTopicPartition _ (decP fs_sAlterReplicaLogDirsResponseTopicPartition v true (rMany (decV 10 (decP fs_sAlterReplicaLogDirsResponseTopicPartition v true) false true) k1_1 (rArr true x1_0.2).2).2).1 [.int .i32 (IntKind.i32.wrap x1_1_0.1.n), .int .i16 (IntKind.i16.wrap x1_1_1.1.n), .map m1_1_t]; rw [hD1_1_]; exact ⟨m1_1_t, rfl, hft1_1_⟩)))⟩
              exact (.cons rfl (.cons rfl (.cons rfl (.cons rfl (.cons rfl (.cons rfl (.cons rfl (.cons rfl (.cons rfl (.cons rfl (.cons rfl (.cons rfl (.cons rfl (.nil _))))))))))))))
            · skip
              have hkn_ : k1_1 = (lT x1_1.1).length := by omega
              subst hkn_
              have hw2_1_1 : Row 219 3 a1_1 (lT x1_1.1).length c1_1 (es1_1.flatMap fk) M1_1 := by have h := hw_1_1; rw [Nat.sub_self] at h; simpa [reps] using h
              refine frW hw2_1_1 .head (fun Hf1_1 hlf1_1 hfz1_1 => ?_)
              have hrs1_1 := RowsAt.row (R := At_AlterReplicaLogDirsResponseTopicPartition) hfz1_1 hs_1_1.symm hw2_1_1.le.1 (fun p hp => At_AlterReplicaLogDirsResponseTopicPartition.mono _ _ _ _ hlf1_1 (hg_1_1 p hp))
              rw [he_1_1] at hrs1_1
              have hf1_1 : ListAt Hf1_1 x1_1.1 3 At_AlterReplicaLogDirsResponseTopicPartition a1_1 c1_1 := by rw [ex1_1]; exact listAt_of hrs1_1 hi1_1 (fun h => by have h1 := nul_le h; rw [show (lT x1_1.1).length = 0 by omega]; rfl)
              have hRx1_1 : RdAt Hf1_1 232 b_1 x1_1.2 RN1_1 := by rw [ex1_1]; exact (hR_1_1.mono hlf1_1)
              refine exX ?_
              refine XT ?_
              refine XT ?_
              refine Xb ?_
              refine Nt ?_
              refine sr ?_
              refine mv rfl rfl ?_
              refine asg rfl rfl ?_
              refine nl ?_
              refine rg ?_
              refine mv rfl rfl ?_
              refine mv rfl rfl ?_
              refine nc rfl rfl ?_
              refine fa F216_1 rfl rfl ?_
              refine stM (off := 1) Tryz.sizeOf214 rfl (by rw [ho1]) rfl rfl rfl (.tail .head) ?_
              refine nl ?_
              refine sr ?_
              refine mv rfl rfl ?_
              refine nl ?_
              refine cdT rfl (by omega) ?_
              refine rg ?_
              refine mv rfl rfl ?_
              refine cl rfl rfl rfl (d_tags hRx1_1) rfl (fun v_ H1 L1 le_11 hR_ => ?_)
              obtain ⟨N136, rfl, hR136, m1_t, rfl, hft1_⟩ := hR_
              have hu21_ : u1_ = rTags x1_1.2 := hu1_
              rw [← hu21_] at hR136 hft1_
              refine nc rfl rfl ?_
              refine fa F216_2 rfl rfl ?_
              refine saM (off := 2) Tryz.sizeOf105 rfl (by rw [ho1]) rfl rfl rfl rfl (.tail .head) ?_
              refine nN ?_
              refine Nb ?_
              refine Nt ?_
              refine rg ?_
              refine mv rfl rfl ?_
              refine ad rfl rfl (c := ((k1 + 1 : Nat) : Int)) ((wrap32_le (by omega) (by omega)).trans (by omega)) rfl ?_
              refine asg rfl rfl ?_
              refine nN ?_
              have hfs1 := flatMap_snoc' fk es1 ((⟨([.string ⟨x1_0.1.s.toArray⟩, .slice a1_1 (lT x1_1.1).length c1_1, .map m1_t] : List Value), rfl, all_one rfl⟩, ((decV 10 (decP fs_sAlterReplicaLogDirsResponseTopic v true) false true) (rMany (decV 10 (decP fs_sAlterReplicaLogDirsResponseTopic v true) false true) k1 (rArr true x0.2).2).2).1) : KE 3)
              have hrw1 := hbk1 ([.string ⟨x1_0.1.s.toArray⟩, .slice a1_1 (lT x1_1.1).length c1_1, .map m1_t] : List Value) rfl
              refine tfN (.tail .head) ?_
              refine fun a_ w_ hA hw => ⟨hkl1, _, _, _, hA.sub ?_, (le_4.trans (le_6.trans (le_7.trans (hlf1_1.trans le_11)))), hw, _, _, _, rfl, rfl, (by rw [rMany_succ]; show RdAt _ 232 b_1 (decP fs_sAlterReplicaLogDirsResponseTopic v true (rMany (decV 10 (decP fs_sAlterReplicaLogDirsResponseTopic v true) false true) k1 (rArr true x0.2).2).2).2 _; rw [hD1_]; exact hR136), (by rw [← hfs1]; exact hrw1), (dec_els he_1), (fun p hp => (mem_snoc hp).elim (fun h => At_AlterReplicaLogDirsResponseTopic.mono _ _ _ _ (le_6.trans (le_7.trans (hlf1_1.trans le_11))) (hg_1 p h)) (fun h => h ▸ (by show At_AlterReplicaLogDirsResponseTopic _ (decP fs_sAlterReplicaLogDirsResponseTopic v true (rMany (decV 10 (decP fs_sAlterReplicaLogDirsResponseTopic v true) false true) k1 (rArr true x0.2).2).2).1 [.string ⟨x1_0.1.s.toArray⟩, .slice a1_1 (lT x1_1.1).length c1_1, .map m1_t]; rw [hD1_]; exact ⟨a1_1, c1_1, m1_t, rfl, (hf1_1.mono At_AlterReplicaLogDirsResponseTopicPartition.mono le_11), hft1_⟩)))⟩
              exact (.cons rfl (.cons rfl (.cons rfl (.cons rfl (.cons rfl (.cons rfl (.cons rfl (.cons rfl (.nil _)))))))))
      · skip
        have hkn_ : k1 = (lT x1.1).length := by omega
        subst hkn_
        have hw2_1 : Row 216 3 a1 (lT x1.1).length c1 (es1.flatMap fk) M1 := by have h := hw_1; rw [Nat.sub_self] at h; simpa [reps] using h
        refine frW hw2_1 .head (fun Hf1 hlf1 hfz1 => ?_)
        have hrs1 := RowsAt.row (R := At_AlterReplicaLogDirsResponseTopic) hfz1 hs_1.symm hw2_1.le.1 (fun p hp => At_AlterReplicaLogDirsResponseTopic.mono _ _ _ _ hlf1 (hg_1 p hp))
        rw [he_1] at hrs1
        have hf1 : ListAt Hf1 x1.1 3 At_AlterReplicaLogDirsResponseTopic a1 c1 := by rw [ex1]; exact listAt_of hrs1 hi1 (fun h => by have h1 := nul_le h; rw [show (lT x1.1).length = 0 by omega]; rfl)
        have hRx1 : RdAt Hf1 232 b_1 x1.2 RN1 := by rw [ex1]; exact (hR_1.mono hlf1)
        refine exX ?_
        refine XT ?_
        refine XT ?_
        refine Xb ?_
        refine Nt ?_
        refine sr ?_
        refine mv rfl rfl ?_
        refine asg rfl rfl ?_
        refine nl ?_
        refine rg ?_
        refine mv rfl rfl ?_
        refine mv rfl rfl ?_
        refine nc rfl rfl ?_
        refine fa0 F211_2 rfl rfl ?_
        refine st Tryz.sizeOf209 rfl rfl rfl rfl (.tail .head) ?_
        refine nl ?_
        refine sq ?_
        refine sr ?_
        refine mv rfl rfl ?_
        refine nl ?_
        refine cdT rfl (by omega) ?_
        refine rg ?_
        refine mv rfl rfl ?_
        refine cl rfl rfl rfl (d_tags hRx1) rfl (fun v_ H1 L1 le_12 hR_ => ?_)
        obtain ⟨N146, rfl, hR146, mt, rfl, hft⟩ := hR_
        have hu2 : u = rTags x1.2 := hu
        rw [← hu2] at hR146 hft
        refine nc rfl rfl ?_
        refine fa0 F211_3 rfl rfl ?_
        refine sa Tryz.sizeOf105 rfl rfl rfl rfl rfl (.tail .head) ?_
        refine nl ?_
        refine sr ?_
        refine cl rfl rfl rfl (r_complete hR146 (he.mono (le_3.trans (le_4.trans (hlf1.trans le_12))))) rfl (fun v_ H1 L1 hle_ hR_ => ?_)
        obtain ⟨rfl, rfl, rfl⟩ := hR_
        refine asg rfl rfl ?_
        refine nl ?_
        refine drW .head ?_
        have hA_ := (show At_AlterReplicaLogDirsResponse v _ (decP fs_AlterReplicaLogDirsResponse v true _).1 [.int .i16 v, .int .i32 (IntKind.i32.wrap x0.1.n), .slice a1 (lT x1.1).length c1, .map mt] from (by rw [hD]; exact ⟨a1, c1, mt, rfl, (hf1.mono At_AlterReplicaLogDirsResponseTopic.mono le_12), hft⟩))
        refine rT rfl rfl (le_3.trans (le_4.trans (hlf1.trans le_12))) (fun _ _ h => h) ⟨_, rfl, ?_⟩
        have hz := RdEnd.of (e := e) hA_
        rw [show (decP fs_AlterReplicaLogDirsResponse v true _).2.bad = u.2.bad by rw [hD]] at hz
        exact hz
end Go.Sx

import Derived.Test.YthgkgbaggjongaaGreatDoorSxTab
import Derived.Test.YthgkgbaggjongaaGreatDoorBAlterPartitionAssignmentsRequest
import Derived.Test.YthgkgbaggjongaaGreatDoorRK2
import Derived.KernelRfl
set_option linter.unusedVariables false
set_option linter.unusedSimpArgs false
set_option maxRecDepth 100000
set_option maxHeartbeats 20000000
namespace Go.Sx
open Go.Proofs
theorem def_AlterPartitionAssignmentsRequestTopicPartition {H : Fz} {L : Own} {b o : Nat} {pre post : List Value} {c0 c1 c2 : Value} (ho : o = pre.length) :
    Fn Tryz.prog 221 [.pointer (some ⟨b, o, none⟩)] H ([(b, .cells (pre ++ ([c0, c1, c2] : List Value) ++ post).toArray 239 (0, 0))] :: L) (fun _ H' L' => H = H' ∧ L' = [(b, .cells (pre ++ ([c0, c1, c2] : List Value) ++ post).toArray 239 (0, 0))] :: L) := by
  refine Fn.mk Tryz.call221 Tryz.func221 rfl Tryz.ntmps221 rfl ?_
  refine skN ?_
  exact fun _ _ hA hw => rn rfl (Fz.le.refl _) ⟨rfl, rfl⟩ hA hw
theorem def_AlterPartitionAssignmentsRequestTopic {H : Fz} {L : Own} {b o : Nat} {pre post : List Value} {c0 c1 c2 : Value} (ho : o = pre.length) :
    Fn Tryz.prog 216 [.pointer (some ⟨b, o, none⟩)] H ([(b, .cells (pre ++ ([c0, c1, c2] : List Value) ++ post).toArray 114 (0, 0))] :: L) (fun _ H' L' => H = H' ∧ L' = [(b, .cells (pre ++ ([c0, c1, c2] : List Value) ++ post).toArray 114 (0, 0))] :: L) := by
  refine Fn.mk Tryz.call216 Tryz.func216 rfl Tryz.ntmps216 rfl ?_
  refine skN ?_
  exact fun _ _ hA hw => rn rfl (Fz.le.refl _) ⟨rfl, rfl⟩ hA hw
theorem def0_AlterPartitionAssignmentsRequest {H : Fz} {L : Own} {b : Nat} {c0 c1 c2 c3 c4 : Value} :
    Fn Tryz.prog 135 [.pointer (some ⟨b, 0, none⟩)] H ([(b, .cells [c0, c1, c2, c3, c4].toArray 107 (0, 0))] :: L) (fun _ H' L' => H = H' ∧ L' = [(b, .cells [c0, .int .i32 60000, .bool true, c3, c4].toArray 107 (0, 0))] :: L) := by
  refine Fn.mk Tryz.call135 Tryz.func135 rfl Tryz.ntmps135 rfl ?_
  refine sr ?_
  refine mv rfl rfl ?_
  refine nc rfl rfl ?_
  refine fa0 F107_1 rfl rfl ?_
  refine st Tryz.sizeOf21 rfl rfl rfl rfl .head ?_
  refine nl ?_
  refine rg ?_
  refine mv rfl rfl ?_
  refine nc rfl rfl ?_
  refine fa0 F107_2 rfl rfl ?_
  refine st Tryz.sizeOf4 rfl rfl rfl rfl .head ?_
  refine nN ?_
  exact fun _ _ hA hw => rn rfl (Fz.le.refl _) ⟨rfl, rfl⟩ hA hw
theorem rd_AlterPartitionAssignmentsRequest_t {H : Fz} {L : Own} {b : Nat} {v : Int} {a : Option Addr} {c : Nat} {s : List UInt8} {e : Value} (hB : BytesAt H a c s) (hL_ : s.length ≤ BR) (he : H.at 1 0 [e]) (hv0 : 0 ≤ v) (hv1 : v ≤ 1) :
    Fn Tryz.prog 137 [.pointer (some ⟨b, 0, none⟩), .slice a s.length c, .bool false] H ([(b, .cells [.int .i16 v, .int .i32 60000, .bool true, .slice none 0 0, .map none].toArray 107 (0, 0))] :: L) (fun r H' L' => ∃ cs : List Value, L' = [(b, .cells cs.toArray 107 (0, 0))] :: L ∧ RdEnd H' (At_AlterPartitionAssignmentsRequest v) (decP fs_AlterPartitionAssignmentsRequest v true ⟨s, false, !a.isNone⟩) e r cs) := by
  refine Fn.mk Tryz.call137 Tryz.func137 rfl Tryz.ntmps137 rfl ?_
  refine sr ?_
  refine asg rfl rfl ?_
  refine nl ?_
  refine sr ?_
  refine mv rfl rfl ?_
  refine cl rfl rfl rfl def0_AlterPartitionAssignmentsRequest rfl (fun v_ H1 L1 hle_ hR_ => ?_)
  obtain ⟨rfl, rfl⟩ := hR_
  refine nl ?_
  refine sr ?_
  refine mv rfl rfl ?_
  refine bd' S232 rfl rfl rfl ?_
  refine al Tryz.zeroValue232 rfl rfl (fun b_1 => ?_)
  refine sa Tryz.sizeOf232 rfl rfl rfl rfl rfl .head ?_
  have hR0_ : RdAt H 232 b_1 ⟨s, false, !a.isNone⟩ [(b_1, .cells [_, _].toArray 232 (0, 0))] := ⟨a, c, rfl, hB, by simp⟩
  obtain ⟨x0, hx0⟩ : ∃ x, x = stepF (Fd.mk 3 0 (-1) (-1) (-1) 60000 0 []) v true ⟨s, false, !a.isNone⟩ := ⟨_, rfl⟩
  obtain ⟨x1, hx1⟩ : ∃ x, x = stepF (Fd.mk 0 1 (-1) (-1) (-1) 1 0 []) v true x0.2 := ⟨_, rfl⟩
  obtain ⟨x2, hx2⟩ : ∃ x, x = stepF (Fd.mk 11 0 (-1) (-1) (-1) 0 10 fs_sAlterPartitionAssignmentsRequestTopic) v true x1.2 := ⟨_, rfl⟩
  obtain ⟨u, hu⟩ : ∃ x, x = tailU true x2.2 := ⟨_, rfl⟩
  have hD : decP fs_AlterPartitionAssignmentsRequest v true ⟨s, false, !a.isNone⟩ = (.mk 0 [] false [x0.1, x1.1, x2.1] u.1, u.2) := by
    generalize (⟨s, false, !a.isNone⟩ : Rd) = r_ at hx0 ⊢
    rw [decP_eq]; unfold fs_AlterPartitionAssignmentsRequest; simp only [decFs_cons, decFs_nil, ← hx0, ← hx1, ← hx2, ← hu]
  have hL0 : x0.2.s.length ≤ BR := by rw [hx0]; exact Nat.le_trans (stepF_shr _ _ _ _) hL_
  have hL1 : x1.2.s.length ≤ BR := by rw [hx1]; exact Nat.le_trans (stepF_shr _ _ _ _) hL0
  have hL2 : x2.2.s.length ≤ BR := by rw [hx2]; exact Nat.le_trans (stepF_shr _ _ _ _) hL1
  have hE : u.2.bad = true → (decP fs_AlterPartitionAssignmentsRequest v true ⟨s, false, !a.isNone⟩).2.bad = true := fun h => by rw [hD]; exact h
  have hB2 : x2.2.bad = true → (decP fs_AlterPartitionAssignmentsRequest v true ⟨s, false, !a.isNone⟩).2.bad = true := fun h => hE (by rw [hu]; exact tailU_bad h)
  have hB1 : x1.2.bad = true → (decP fs_AlterPartitionAssignmentsRequest v true ⟨s, false, !a.isNone⟩).2.bad = true := fun h => hB2 (by rw [hx2]; exact step_bad h)
  have hB0 : x0.2.bad = true → (decP fs_AlterPartitionAssignmentsRequest v true ⟨s, false, !a.isNone⟩).2.bad = true := fun h => hB1 (by rw [hx1]; exact step_bad h)
  refine nl ?_
  refine sr ?_
  refine mv rfl rfl ?_
  refine nc rfl rfl ?_
  refine fa0 F107_0 rfl rfl ?_
  refine ld (Says.own (.tail .head)) Tryz.isAgg51 rfl (Nat.zero_add _).symm rfl rfl ?_
  refine asg rfl rfl ?_
  refine nl ?_
  refine sr ?_
  refine mv rfl rfl ?_
  refine nl ?_
  refine sr ?_
  refine mv rfl rfl ?_
  refine ge rfl rfl rfl ?_
  refine asg rfl rfl ?_
  refine nl ?_
  refine sr ?_
  refine mv rfl rfl ?_
  refine nl ?_
  refine sr ?_
  refine mv rfl rfl ?_
  refine asg rfl rfl ?_
  refine nl ?_
  refine sq ?_
  refine sr ?_
  have ex0 : x0 = decV 3 (decP [] v true) false true ⟨s, false, !a.isNone⟩ := (hx0.trans (step_yes (by decide) (show (0 : Int) ≤ v by omega) (Or.inl (by decide)))).trans (decF'_val (by decide) (rfl))
  refine cl rfl rfl rfl (d3 hR0_ ex0) rfl (fun v_ H1 L1 hle_ hR_ => ?_)
  obtain ⟨N45, rfl, hR45, rfl, rfl⟩ := hR_
  refine asg rfl rfl ?_
  refine nl ?_
  refine rg ?_
  refine mv rfl rfl ?_
  refine mv rfl rfl ?_
  refine nc rfl rfl ?_
  refine fa0 F107_1 rfl rfl ?_
  refine st Tryz.sizeOf21 rfl rfl rfl rfl (.tail .head) ?_
  refine nl ?_
  refine sq ?_
  refine sr ?_
  refine mv rfl rfl ?_
  refine ge rfl rfl rfl ?_
  refine nl ?_
  refine cutT (fun l' H' L' => ∃ (Nj1 : Chunk), [(2, .bool false), (7, .pointer (some ⟨b_1, 0, none⟩)), (8, .int .i16 v), (9, .bool (decide ((0 : Int) ≤ v))), (10, .pointer (some ⟨b, 0, none⟩))] = l' ∧ Nj1 :: [(b, .cells [.int .i16 v, .int .i32 (IntKind.i32.wrap x0.1.n), .bool (decide (x1.1.n % 2 = 1)), .slice none 0 0, .map none].toArray 107 (0, 0))] :: L = L' ∧ RdAt H' 232 b_1 x1.2 Nj1) ?_ (fun l' H' L' le_3 hI => ?_)
  · skip
    refine cd rfl (fun h51 => ?_) (fun h51 => ?_)
    · skip
      refine sr ?_
      have ex1 : x1 = decV 0 (decP [] v true) false true x0.2 := (hx1.trans (step_yes (by decide) (show (1 : Int) ≤ v by omega) (Or.inl (by decide)))).trans (decF'_val (by decide) (rfl))
      refine cl rfl rfl rfl (d0 hR45 ex1) rfl (fun v_ H1 L1 hle_ hR_ => ?_)
      obtain ⟨N52, rfl, hR52, rfl, rfl⟩ := hR_
      refine asg rfl rfl ?_
      refine nl ?_
      refine rg ?_
      refine mv rfl rfl ?_
      refine mv rfl rfl ?_
      refine nc rfl rfl ?_
      refine fa0 F107_2 rfl rfl ?_
      refine st Tryz.sizeOf4 rfl rfl rfl rfl (.tail .head) ?_
      refine nN ?_
      refine fun a_ w_ hA hw => ⟨_, _, _, hA.sub ?_, (Fz.le.refl _), hw, N52, rfl, rfl, hR52⟩
      exact (.cons rfl (.cons rfl (.cons rfl (.cons rfl (.cons rfl (.nil _))))))
    · skip
      refine skN ?_
      obtain rfl : x1 = ((Tr.mk 1 [] false [] []), x0.2) := (hx1.trans (step_no (Or.inl (show v < (1 : Int) by omega)))).trans (by rw [dflF_eq]; rfl)
      refine fun a_ w_ hA hw => ⟨_, _, _, hA.sub ?_, (Fz.le.refl _), hw, N45, rfl, rfl, hR45⟩
      exact (.cons rfl (.cons rfl (.cons rfl (.cons rfl (.cons rfl (.nil _))))))
  · skip
    obtain ⟨Nj1, rfl, rfl, pj0⟩ := hI
    have hRj1 := pj0
    refine sq ?_
    refine sr ?_
    refine mv rfl rfl ?_
    refine nc rfl rfl ?_
    refine fa0 F107_3 rfl rfl ?_
    refine ld (Says.own (.tail .head)) Tryz.isAgg102 rfl (Nat.zero_add _).symm rfl rfl ?_
    refine asg rfl rfl ?_
    refine nl ?_
    refine sr ?_
    refine mv rfl rfl ?_
    refine asg rfl rfl ?_
    refine nl ?_
    refine sr ?_
    refine asg rfl rfl ?_
    refine nl ?_
    refine sq ?_
    refine sr ?_
    refine mv rfl rfl ?_
    refine nl ?_
    refine cdT rfl (by omega) ?_
    refine rg ?_
    have ey2 : x2 = (.mk 0 [] (if 0 ≤ ((-1) : Int) ∧ (v < ((-1) : Int) ∨ (rArr true x1.2).1 = 0) then false else decide ((rArr true x1.2).1 ≤ 0)) (rMany (decV 10 (decP fs_sAlterPartitionAssignmentsRequestTopic v true) false true) (rArr true x1.2).1.toNat (rArr true x1.2).2).1 [], (rMany (decV 10 (decP fs_sAlterPartitionAssignmentsRequestTopic v true) false true) (rArr true x1.2).1.toNat (rArr true x1.2).2).2) := (hx2.trans (step_yes (by decide) (show (0 : Int) ≤ v by omega) (Or.inl (by decide)))).trans (decF'_list rfl rfl)
    have hn2 : (rArr true x1.2).1.toNat = (lT x2.1).length := by rw [ey2]; exact (lT_many nul_le).symm
    have ex2 := ey2
    rw [hn2] at ex2
    have hl2 := rArr_le true x1.2
    have hm2 : (rArr true x1.2).2.s.length ≤ BR := Nat.le_trans (rArr_len true x1.2) hL1
    have hnb2 : (lT x2.1).length ≤ BR := by omega
    refine cl rfl rfl rfl (r_arrt hRj1) rfl (fun v_ H1 L1 hle_ hR_ => ?_)
    obtain ⟨rfl, N63, rfl, hR63, rfl⟩ := hR_
    have hh2 := rArr_hi true x1.2
    refine asg rfl rfl ?_
    refine nl ?_
    refine sq ?_
    refine sr ?_
    refine cl rfl rfl rfl (r_ok hR63) rfl (fun v_ H1 L1 hle_ hR_ => ?_)
    obtain ⟨rfl, rfl, rfl⟩ := hR_
    refine nt rfl rfl ?_
    refine nl ?_
    refine cb rfl (fun h66 => ?_) (fun h66 => ?_)
    · skip
      have hbad_ : (rArr true x1.2).2.bad = true := by simpa using h66
      refine sr ?_
      refine cl rfl rfl rfl (r_complete hR63 (he.mono le_3)) rfl (fun v_ H1 L1 hle_ hR_ => ?_)
      obtain ⟨rfl, rfl, rfl⟩ := hR_
      refine asg rfl rfl ?_
      refine nl ?_
      refine drW .head ?_
      exact rT rfl rfl le_3 (fun _ _ h => h) ⟨_, rfl, RdEnd.out (hB2 (by rw [ey2]; exact rMany_bad (fun r h => decV_bad (decP_bad _ _ _) h) _ _ hbad_)) hbad_⟩
    · skip
      refine skt ?_
      refine sr ?_
      refine mv rfl rfl ?_
      refine sh' (j := 0) Tryz.runUnderlying102 Tryz.sizeOf114 rfl rfl rfl (Nat.zero_le _) rfl ?_
      refine asg rfl rfl ?_
      refine nl ?_
      refine sq ?_
      refine sr ?_
      refine mv rfl rfl ?_
      refine gt rfl rfl rfl ?_
      refine nl ?_
      refine nulC2 ?_
      refine cutT (fun l' H' L' => ∃ (a2 : Option Addr), ∃ (c2 : Nat), ∃ (Nr2 : Chunk), [(2, .bool false), (7, .pointer (some ⟨b_1, 0, none⟩)), (8, .int .i16 v), (9, .bool (decide ((0 : Int) ≤ v))), (10, .pointer (some ⟨b, 0, none⟩)), (13, .slice none 0 0), (14, .slice a2 (lT x2.1).length c2), (15, .int .i32 (rArr true x1.2).1)] = l' ∧ Nr2 :: N63 :: [(b, .cells [.int .i16 v, .int .i32 (IntKind.i32.wrap x0.1.n), .bool (decide (x1.1.n % 2 = 1)), .slice none 0 0, .map none].toArray 107 (0, 0))] :: L = L' ∧ Row 114 3 a2 (lT x2.1).length c2 (reps [.string ⟨#[]⟩, .slice none 0 0, .map none] (lT x2.1).length) Nr2 ∧ a2.isNone = (if 0 ≤ ((-1) : Int) ∧ (v < ((-1) : Int) ∨ (rArr true x1.2).1 = 0) then false else decide ((rArr true x1.2).1 ≤ 0))) ?_ (fun l' H' L' le_5 hI => ?_)
      · skip
        refine cd rfl (fun h71 => ?_) (fun h71 => ?_)
        · skip
          refine rg ?_
          refine mv rfl rfl ?_
          refine mv rfl rfl ?_
          refine apz (zs := [.string ⟨#[]⟩, .slice none 0 0, .map none]) (m := (lT x2.1).length) Tryz.underlying102 Tryz.underlying21 I114 rfl rfl rfl (by omega) (by omega) (by have h9 := hnb2; unfold BR at h9; omega) (by have h9 := hnb2; unfold BR at h9; unfold maxLen; omega) rfl (fun g74 cp74 N74 r74 => ?_)
          refine asg rfl rfl ?_
          refine nN ?_
          refine drN (.tail .head) ?_
          refine fun a_ w_ hA hw => ⟨_, _, _, hA.sub ?_, (Fz.le.refl _), hw, (some ⟨g74, 0, none⟩), cp74, N74, rfl, rfl, r74, (by rw [if_neg (by omega)]; exact (decide_eq_false (by omega)).symm)⟩
          exact (.cons rfl (.cons rfl (.cons rfl (.cons rfl (.cons rfl (.cons rfl (.cons rfl (.cons rfl (.nil _)))))))))
        · skip
          refine skN ?_
          refine fun a_ w_ hA hw => ⟨_, _, _, hA.sub ?_, (Fz.le.refl _), hw, none, 0, [], rfl, rfl, (by rw [show (lT x2.1).length = 0 by omega]; exact (Row.nil _ _)), (by rw [if_neg (by omega)]; exact (decide_eq_true (by omega)).symm)⟩
          exact (.cons rfl (.cons rfl (.cons rfl (.cons rfl (.cons rfl (.cons rfl (.cons (by rw [show (lT x2.1).length = 0 by omega]; rfl) (.cons rfl (.nil _)))))))))
      · skip
        obtain ⟨a2, c2, Nr2, rfl, rfl, pj0, pj1⟩ := hI
        have hr2 := pj0
        have hi2 := pj1
        refine sq ?_
        refine sr ?_
        refine asg rfl rfl ?_
        refine nl ?_
        refine bl (lp ((lT x2.1).length) (fun k2 l' H' L' => ∃ (es2 : List (KE 3)) (M2 RN2 : Chunk), [(2, .bool false), (7, .pointer (some ⟨b_1, 0, none⟩)), (8, .int .i16 v), (9, .bool (decide ((0 : Int) ≤ v))), (10, .pointer (some ⟨b, 0, none⟩)), (13, .slice none 0 0), (14, .slice a2 (lT x2.1).length c2), (15, .int .i32 (rArr true x1.2).1), (16, .int .i32 (k2 : Int))] = l' ∧ M2 :: RN2 :: [(b, .cells [.int .i16 v, .int .i32 (IntKind.i32.wrap x0.1.n), .bool (decide (x1.1.n % 2 = 1)), .slice none 0 0, .map none].toArray 107 (0, 0))] :: L = L' ∧ RdAt H' 232 b_1 (rMany (decV 10 (decP fs_sAlterPartitionAssignmentsRequestTopic v true) false true) k2 (rArr true x1.2).2).2 RN2 ∧ Row 114 3 a2 (lT x2.1).length c2 (es2.flatMap fk ++ reps [.string ⟨#[]⟩, .slice none 0 0, .map none] ((lT x2.1).length - k2)) M2 ∧ es2.map (·.2) = (rMany (decV 10 (decP fs_sAlterPartitionAssignmentsRequestTopic v true) false true) k2 (rArr true x1.2).2).1 ∧ ∀ p ∈ es2, At_AlterPartitionAssignmentsRequestTopic H' p.2 (fk p)) [(2, .bool false), (7, .pointer (some ⟨b_1, 0, none⟩)), (8, .int .i16 v), (9, .bool (decide ((0 : Int) ≤ v))), (10, .pointer (some ⟨b, 0, none⟩)), (13, .slice none 0 0), (14, .slice a2 (lT x2.1).length c2), (15, .int .i32 (rArr true x1.2).1), (16, .int .i32 (0 : Int))] (.cons rfl (.cons rfl (.cons rfl (.cons rfl (.cons rfl (.cons rfl (.cons rfl (.cons rfl (.cons rfl (.nil _)))))))))) ⟨[], Nr2, _, rfl, rfl, (hR63.mono le_5), hr2, rfl, (fun p hp => by cases hp)⟩ (fun k2 l' H' L' hk2 le_6 hI => ?_))
        obtain ⟨es2, M2, RN2, rfl, rfl, hR_2, hw_2, he_2, hg_2⟩ := hI
        have hs_2 := els_len he_2
        have hp_2 : (es2.flatMap fk).length = k2 * 3 := els_flat hs_2
        refine sq ?_
        refine sr ?_
        refine mv rfl rfl ?_
        refine mv rfl rfl ?_
        refine lt rfl rfl rfl ?_
        refine nl ?_
        refine cd rfl (fun h77 => ?_) (fun h77 => ?_)
        · skip
          have hkl2 : k2 < (lT x2.1).length := by omega
          obtain ⟨g2, po2, hga2, rfl, hbk2⟩ := hw_2.next (zs := [.string ⟨#[]⟩, .slice none 0 0, .map none]) hkl2 rfl (by decide)
          have ho2 : 0 + k2 * 3 = (es2.flatMap fk).length := by rw [hp_2]; omega
          have hbz2 : ((decV 10 (decP fs_sAlterPartitionAssignmentsRequestTopic v true) false true) (rMany (decV 10 (decP fs_sAlterPartitionAssignmentsRequestTopic v true) false true) k2 (rArr true x1.2).2).2).2.bad = true → (decP fs_AlterPartitionAssignmentsRequest v true ⟨s, false, !a.isNone⟩).2.bad = true := fun h => hB2 (by rw [ex2]; exact rMany_mono (fun r h => decV_bad (fun r h => decP_bad _ _ _ r h) h) _ (show k2 + 1 ≤ (lT x2.1).length from hkl2) (by rw [rMany_succ]; exact h))
          have hLk2 : (rMany (decV 10 (decP fs_sAlterPartitionAssignmentsRequestTopic v true) false true) k2 (rArr true x1.2).2).2.s.length ≤ BR := Nat.le_trans (rMany_shr (fun r => decV_shr (fun r => decP_shr _ _ _ r) r) _ _) hm2
          have hL2__ := hLk2
          obtain ⟨x2_0, hx2_0⟩ : ∃ x, x = stepF (Fd.mk 8 0 (-1) (-1) (-1) 0 0 []) v true (rMany (decV 10 (decP fs_sAlterPartitionAssignmentsRequestTopic v true) false true) k2 (rArr true x1.2).2).2 := ⟨_, rfl⟩
          obtain ⟨x2_1, hx2_1⟩ : ∃ x, x = stepF (Fd.mk 11 0 (-1) (-1) (-1) 0 10 fs_sAlterPartitionAssignmentsRequestTopicPartition) v true x2_0.2 := ⟨_, rfl⟩
          obtain ⟨u2_, hu2_⟩ : ∃ x, x = tailU true x2_1.2 := ⟨_, rfl⟩
          have hD2_ : decP fs_sAlterPartitionAssignmentsRequestTopic v true (rMany (decV 10 (decP fs_sAlterPartitionAssignmentsRequestTopic v true) false true) k2 (rArr true x1.2).2).2 = (.mk 0 [] false [x2_0.1, x2_1.1] u2_.1, u2_.2) := by
            generalize ((rMany (decV 10 (decP fs_sAlterPartitionAssignmentsRequestTopic v true) false true) k2 (rArr true x1.2).2).2 : Rd) = r_ at hx2_0 ⊢
            rw [decP_eq]; unfold fs_sAlterPartitionAssignmentsRequestTopic; simp only [decFs_cons, decFs_nil, ← hx2_0, ← hx2_1, ← hu2_]
          have hL2_0 : x2_0.2.s.length ≤ BR := by rw [hx2_0]; exact Nat.le_trans (stepF_shr _ _ _ _) hL2__
          have hL2_1 : x2_1.2.s.length ≤ BR := by rw [hx2_1]; exact Nat.le_trans (stepF_shr _ _ _ _) hL2_0
          have hE2_ : u2_.2.bad = true → (decP fs_AlterPartitionAssignmentsRequest v true ⟨s, false, !a.isNone⟩).2.bad = true := fun h => hbz2 (by show (decP fs_sAlterPartitionAssignmentsRequestTopic v true (rMany (decV 10 (decP fs_sAlterPartitionAssignmentsRequestTopic v true) false true) k2 (rArr true x1.2).2).2).2.bad = true; rw [hD2_]; exact h)
          have hB2_1 : x2_1.2.bad = true → (decP fs_AlterPartitionAssignmentsRequest v true ⟨s, false, !a.isNone⟩).2.bad = true := fun h => hE2_ (by rw [hu2_]; exact tailU_bad h)
          have hB2_0 : x2_0.2.bad = true → (decP fs_AlterPartitionAssignmentsRequest v true ⟨s, false, !a.isNone⟩).2.bad = true := fun h => hB2_1 (by rw [hx2_1]; exact step_bad h)
          refine skt ?_
          refine sq ?_
          refine bl ?_
          refine sr ?_
          refine mv rfl rfl ?_
          refine mv rfl rfl ?_
          refine ixk (j := k2) Tryz.runUnderlying102 Tryz.sizeOf114 rfl hga2 rfl rfl hkl2 rfl ?_
          refine asg rfl rfl ?_
          refine nl ?_
          refine sr ?_
          refine mv rfl rfl ?_
          refine cl rfl rfl rfl (def_AlterPartitionAssignmentsRequestTopic ho2) rfl (fun v_ H1 L1 hle_ hR_ => ?_)
          obtain ⟨rfl, rfl⟩ := hR_
          refine nl ?_
          refine sr ?_
          refine mv rfl rfl ?_
          refine asg rfl rfl ?_
          refine nl ?_
          refine sq ?_
          refine sr ?_
          refine asg rfl rfl ?_
          refine nl ?_
          refine sq ?_
          refine sr ?_
          refine mv rfl rfl ?_
          refine nl ?_
          refine cF rfl ?_
          refine sr ?_
          refine mv rfl rfl ?_
          refine nl ?_
          refine cdT rfl (by omega) ?_
          refine rg ?_
          refine tf (.tail .head) ?_
          have ex2_0 : x2_0 = decV 8 (decP [] v true) false true (rMany (decV 10 (decP fs_sAlterPartitionAssignmentsRequestTopic v true) false true) k2 (rArr true x1.2).2).2 := (hx2_0.trans (step_yes (by decide) (show (0 : Int) ≤ v by omega) (Or.inl (by decide)))).trans (decF'_val (by decide) (rfl))
          refine cl rfl rfl rfl (d8t hR_2 ex2_0) rfl (fun v_ H1 L1 le_7 hR_ => ?_)
          obtain ⟨N91, rfl, hR91, rfl, rfl⟩ := hR_
          refine asg rfl rfl ?_
          refine nl ?_
          refine rg ?_
          refine mv rfl rfl ?_
          refine mv rfl rfl ?_
          refine nc rfl rfl ?_
          refine fa F114_0 rfl rfl ?_
          refine stM (off := 0) Tryz.sizeOf9 rfl (by rw [ho2]) rfl rfl rfl (.tail .head) ?_
          refine nl ?_
          refine sq ?_
          refine sr ?_
          refine mv rfl rfl ?_
          refine nc rfl rfl ?_
          refine fa F114_1 rfl rfl ?_
          refine ld (j := 1) (off := 0 + k2 * 3) (Says.mid (.tail .head) ho2) Tryz.isAgg112 rfl rfl rfl rfl ?_
          refine asg rfl rfl ?_
          refine nl ?_
          refine sr ?_
          refine mv rfl rfl ?_
          refine asg rfl rfl ?_
          refine nl ?_
          refine sr ?_
          refine asg rfl rfl ?_
          refine nl ?_
          refine sq ?_
          refine sr ?_
          refine mv rfl rfl ?_
          refine nl ?_
          refine cdT rfl (by omega) ?_
          refine rg ?_
          have ey2_1 : x2_1 = (.mk 0 [] (if 0 ≤ ((-1) : Int) ∧ (v < ((-1) : Int) ∨ (rArr true x2_0.2).1 = 0) then false else decide ((rArr true x2_0.2).1 ≤ 0)) (rMany (decV 10 (decP fs_sAlterPartitionAssignmentsRequestTopicPartition v true) false true) (rArr true x2_0.2).1.toNat (rArr true x2_0.2).2).1 [], (rMany (decV 10 (decP fs_sAlterPartitionAssignmentsRequestTopicPartition v true) false true) (rArr true x2_0.2).1.toNat (rArr true x2_0.2).2).2) := (hx2_1.trans (step_yes (by decide) (show (0 : Int) ≤ v by omega) (Or.inl (by decide)))).trans (decF'_list rfl rfl)
          have hn2_1 : (rArr true x2_0.2).1.toNat = (lT x2_1.1).length := by rw [ey2_1]; exact (lT_many nul_le).symm
          have ex2_1 := ey2_1
          rw [hn2_1] at ex2_1
          have hl2_1 := rArr_le true x2_0.2
          have hm2_1 : (rArr true x2_0.2).2.s.length ≤ BR := Nat.le_trans (rArr_len true x2_0.2) hL2_0
          have hnb2_1 : (lT x2_1.1).length ≤ BR := by omega
          refine cl rfl rfl rfl (r_arrt hR91) rfl (fun v_ H1 L1 hle_ hR_ => ?_)
          obtain ⟨rfl, N103, rfl, hR103, rfl⟩ := hR_
          have hh2_1 := rArr_hi true x2_0.2
          refine asg rfl rfl ?_
          refine nl ?_
          refine sq ?_
          refine sr ?_
          refine cl rfl rfl rfl (r_ok hR103) rfl (fun v_ H1 L1 hle_ hR_ => ?_)
          obtain ⟨rfl, rfl, rfl⟩ := hR_
          refine nt rfl rfl ?_
          refine nl ?_
          refine cb rfl (fun h106 => ?_) (fun h106 => ?_)
          · skip
            have hbad_ : (rArr true x2_0.2).2.bad = true := by simpa using h106
            refine sr ?_
            refine cl rfl rfl rfl (r_complete hR103 (he.mono (le_3.trans (le_5.trans le_6)))) rfl (fun v_ H1 L1 hle_ hR_ => ?_)
            obtain ⟨rfl, rfl, rfl⟩ := hR_
            refine asg rfl rfl ?_
            refine nl ?_
            refine drW .head ?_
            refine drW .head ?_
            exact rT rfl rfl (le_3.trans (le_5.trans le_6)) (fun _ _ h => h) ⟨_, rfl, RdEnd.out (hB2_1 (by rw [ey2_1]; exact rMany_bad (fun r h => decV_bad (decP_bad _ _ _) h) _ _ hbad_)) hbad_⟩
          · skip
            refine skt ?_
            refine sr ?_
            refine mv rfl rfl ?_
            refine sh' (j := 0) Tryz.runUnderlying112 Tryz.sizeOf239 rfl rfl rfl (Nat.zero_le _) rfl ?_
            refine asg rfl rfl ?_
            refine nl ?_
            refine sq ?_
            refine sr ?_
            refine mv rfl rfl ?_
            refine gt rfl rfl rfl ?_
            refine nl ?_
            refine nulC2 ?_
            refine cutT (fun l' H' L' => ∃ (a2_1 : Option Addr), ∃ (c2_1 : Nat), ∃ (Nr2_1 : Chunk), [(2, .bool false), (7, .pointer (some ⟨b_1, 0, none⟩)), (8, .int .i16 v), (9, .bool (decide ((0 : Int) ≤ v))), (10, .pointer (some ⟨b, 0, none⟩)), (13, .slice none 0 0), (14, .slice a2 (lT x2.1).length c2), (15, .int .i32 (rArr true x1.2).1), (16, .int .i32 (k2 : Int)), (18, .pointer (some ⟨g2, 0 + k2 * 3, none⟩)), (20, .slice none 0 0), (21, .slice a2_1 (lT x2_1.1).length c2_1), (22, .int .i32 (rArr true x2_0.2).1)] = l' ∧ Nr2_1 :: N103 :: [(g2, .cells ((es2.flatMap fk) ++ ([.string ⟨x2_0.1.s.toArray⟩, .slice none 0 0, .map none] : List Value) ++ po2).toArray 114 (0, 0))] :: [(b, .cells [.int .i16 v, .int .i32 (IntKind.i32.wrap x0.1.n), .bool (decide (x1.1.n % 2 = 1)), .slice none 0 0, .map none].toArray 107 (0, 0))] :: L = L' ∧ Row 239 3 a2_1 (lT x2_1.1).length c2_1 (reps [.int .i32 0, .slice none 0 0, .map none] (lT x2_1.1).length) Nr2_1 ∧ a2_1.isNone = (if 0 ≤ ((-1) : Int) ∧ (v < ((-1) : Int) ∨ (rArr true x2_0.2).1 = 0) then false else decide ((rArr true x2_0.2).1 ≤ 0))) ?_ (fun l' H' L' le_8 hI => ?_)
            · skip
              refine cd rfl (fun h111 => ?_) (fun h111 => ?_)
              · skip
                refine rg ?_
                refine mv rfl rfl ?_
                refine mv rfl rfl ?_
                refine apz (zs := [.int .i32 0, .slice none 0 0, .map none]) (m := (lT x2_1.1).length) Tryz.underlying112 Tryz.underlying21 I239 rfl rfl rfl (by omega) (by omega) (by have h9 := hnb2_1; unfold BR at h9; omega) (by have h9 := hnb2_1; unfold BR at h9; unfold maxLen; omega) rfl (fun g114 cp114 N114 r114 => ?_)
                refine asg rfl rfl ?_
                refine nN ?_
                refine drN (.tail .head) ?_
                refine fun a_ w_ hA hw => ⟨_, _, _, hA.sub ?_, (Fz.le.refl _), hw, (some ⟨g114, 0, none⟩), cp114, N114, rfl, rfl, r114, (by rw [if_neg (by omega)]; exact (decide_eq_false (by omega)).symm)⟩
                exact (.cons rfl (.cons rfl (.cons rfl (.cons rfl (.cons rfl (.cons rfl (.cons rfl (.cons rfl (.cons rfl (.cons rfl (.cons rfl (.cons rfl (.cons rfl (.nil _))))))))))))))
              · skip
                refine skN ?_
                refine fun a_ w_ hA hw => ⟨_, _, _, hA.sub ?_, (Fz.le.refl _), hw, none, 0, [], rfl, rfl, (by rw [show (lT x2_1.1).length = 0 by omega]; exact (Row.nil _ _)), (by rw [if_neg (by omega)]; exact (decide_eq_true (by omega)).symm)⟩
                exact (.cons rfl (.cons rfl (.cons rfl (.cons rfl (.cons rfl (.cons rfl (.cons rfl (.cons rfl (.cons rfl (.cons rfl (.cons rfl (.cons (by rw [show (lT x2_1.1).length = 0 by omega]; rfl) (.cons rfl (.nil _))))))))))))))
            · skip
              obtain ⟨a2_1, c2_1, Nr2_1, rfl, rfl, pj0, pj1⟩ := hI
              have hr2_1 := pj0
              have hi2_1 := pj1
              refine sq ?_
              refine sr ?_
              refine asg rfl rfl ?_
              refine nl ?_
              refine bl (lp ((lT x2_1.1).length) (fun k2_1 l' H' L' => ∃ (es2_1 : List (KE 3)) (M2_1 RN2_1 : Chunk), [(2, .bool false), (7, .pointer (some ⟨b_1, 0, none⟩)), (8, .int .i16 v), (9, .bool (decide ((0 : Int) ≤ v))), (10, .pointer (some ⟨b, 0, none⟩)), (13, .slice none 0 0), (14, .slice a2 (lT x2.1).length c2), (15, .int .i32 (rArr true x1.2).1), (16, .int .i32 (k2 : Int)), (18, .pointer (some ⟨g2, 0 + k2 * 3, none⟩)), (20, .slice none 0 0), (21, .slice a2_1 (lT x2_1.1).length c2_1), (22, .int .i32 (rArr true x2_0.2).1), (23, .int .i32 (k2_1 : Int))] = l' ∧ M2_1 :: RN2_1 :: [(g2, .cells ((es2.flatMap fk) ++ ([.string ⟨x2_0.1.s.toArray⟩, .slice none 0 0, .map none] : List Value) ++ po2).toArray 114 (0, 0))] :: [(b, .cells [.int .i16 v, .int .i32 (IntKind.i32.wrap x0.1.n), .bool (decide (x1.1.n % 2 = 1)), .slice none 0 0, .map none].toArray 107 (0, 0))] :: L = L' ∧ RdAt H' 232 b_1 (rMany (decV 10 (decP fs_sAlterPartitionAssignmentsRequestTopicPartition v true) false true) k2_1 (rArr true x2_0.2).2).2 RN2_1 ∧ Row 239 3 a2_1 (lT x2_1.1).length c2_1 (es2_1.flatMap fk ++ reps [.int .i32 0, .slice none 0 0, .map none] ((lT x2_1.1).length - k2_1)) M2_1 ∧ es2_1.map (·.2) = (rMany (decV 10 (decP fs_sAlterPartitionAssignmentsRequestTopicPartition v true) false true) k2_1 (rArr true x2_0.2).2).1 ∧ ∀ p ∈ es2_1, At_AlterPartitionAssignmentsRequestTopicPartition H' p.2 (fk p)) [(2, .bool false), (7, .pointer (some ⟨b_1, 0, none⟩)), (8, .int .i16 v), (9, .bool (decide ((0 : Int) ≤ v))), (10, .pointer (some ⟨b, 0, none⟩)), (13, .slice none 0 0), (14, .slice a2 (lT x2.1).length c2), (15, .int .i32 (rArr true x1.2).1), (16, .int .i32 (k2 : Int)), (18, .pointer (some ⟨g2, 0 + k2 * 3, none⟩)), (20, .slice none 0 0), (21, .slice a2_1 (lT x2_1.1).length c2_1), (22, .int .i32 (rArr true x2_0.2).1), (23, .int .i32 (0 : Int))] (.cons rfl (.cons rfl (.cons rfl (.cons rfl (.cons rfl (.cons rfl (.cons rfl (.cons rfl (.cons rfl (.cons rfl (.cons rfl (.cons rfl (.cons rfl (.cons rfl (.nil _))))))))))))))) ⟨[], Nr2_1, _, rfl, rfl, (hR103.mono le_8), hr2_1, rfl, (fun p hp => by cases hp)⟩ (fun k2_1 l' H' L' hk2_1 le_9 hI => ?_))
              obtain ⟨es2_1, M2_1, RN2_1, rfl, rfl, hR_2_1, hw_2_1, he_2_1, hg_2_1⟩ := hI
              have hs_2_1 := els_len he_2_1
              have hp_2_1 : (es2_1.flatMap fk).length = k2_1 * 3 := els_flat hs_2_1
              refine sq ?_
              refine sr ?_
              refine mv rfl rfl ?_
              refine mv rfl rfl ?_
              refine lt rfl rfl rfl ?_
              refine nl ?_
              refine cd rfl (fun h117 => ?_) (fun h117 => ?_)
              · skip
                have hkl2_1 : k2_1 < (lT x2_1.1).length := by omega
                obtain ⟨g2_1, po2_1, hga2_1, rfl, hbk2_1⟩ := hw_2_1.next (zs := [.int .i32 0, .slice none 0 0, .map none]) hkl2_1 rfl (by decide)
                have ho2_1 : 0 + k2_1 * 3 = (es2_1.flatMap fk).length := by rw [hp_2_1]; omega
                have hbz2_1 : ((decV 10 (decP fs_sAlterPartitionAssignmentsRequestTopicPartition v true) false true) (rMany (decV 10 (decP fs_sAlterPartitionAssignmentsRequestTopicPartition v true) false true) k2_1 (rArr true x2_0.2).2).2).2.bad = true → (decP fs_AlterPartitionAssignmentsRequest v true ⟨s, false, !a.isNone⟩).2.bad = true := fun h => hB2_1 (by rw [ex2_1]; exact rMany_mono (fun r h => decV_bad (fun r h => decP_bad _ _ _ r h) h) _ (show k2_1 + 1 ≤ (lT x2_1.1).length from hkl2_1) (by rw [rMany_succ]; exact h))
                have hLk2_1 : (rMany (decV 10 (decP fs_sAlterPartitionAssignmentsRequestTopicPartition v true) false true) k2_1 (rArr true x2_0.2).2).2.s.length ≤ BR := Nat.le_trans (rMany_shr (fun r => decV_shr (fun r => decP_shr _ _ _ r) r) _ _) hm2_1
                have hL2_1__ := hLk2_1
                obtain ⟨x2_1_0, hx2_1_0⟩ : ∃ x, x = stepF (Fd.mk 3 0 (-1) (-1) (-1) 0 0 []) v true (rMany (decV 10 (decP fs_sAlterPartitionAssignmentsRequestTopicPartition v true) false true) k2_1 (rArr true x2_0.2).2).2 := ⟨_, rfl⟩
                obtain ⟨x2_1_1, hx2_1_1⟩ : ∃ x, x = stepF (Fd.mk 11 0 (-1) 0 (-1) 0 3 []) v true x2_1_0.2 := ⟨_, rfl⟩
                obtain ⟨u2_1_, hu2_1_⟩ : ∃ x, x = tailU true x2_1_1.2 := ⟨_, rfl⟩
                have hD2_1_ : decP fs_sAlterPartitionAssignmentsRequestTopicPartition v true (rMany (decV 10 (decP fs_sAlterPartitionAssignmentsRequestTopicPartition v true) false true) k2_1 (rArr true x2_0.2).2).2 = (.mk 0 [] false [x2_1_0.1, x2_1_1.1] u2_1_.1, u2_1_.2) := by
                  generalize ((rMany (decV 10 (decP fs_sAlterPartitionAssignmentsRequestTopicPartition v true) false true) k2_1 (rArr true x2_0.2).2).2 : Rd) = r_ at hx2_1_0 ⊢
                  rw [decP_eq]; unfold fs_sAlterPartitionAssignmentsRequestTopicPartition; simp only [decFs_cons, decFs_nil, ← hx2_1_0, ← hx2_1_1, ← hu2_1_]
                have hL2_1_0 : x2_1_0.2.s.length ≤ BR := by rw [hx2_1_0]; exact Nat.le_trans (stepF_shr _ _ _ _) hL2_1__
                have hL2_1_1 : x2_1_1.2.s.length ≤ BR := by rw [hx2_1_1]; exact Nat.le_trans (stepF_shr _ _ _ _) hL2_1_0
                have hE2_1_ : u2_1_.2.bad = true → (decP fs_AlterPartitionAssignmentsRequest v true ⟨s, false, !a.isNone⟩).2.bad = true := fun h => hbz2_1 (by show (decP fs_sAlterPartitionAssignmentsRequestTopicPartition v true (rMany (decV 10 (decP fs_sAlterPartitionAssignmentsRequestTopicPartition v true) false true) k2_1 (rArr true x2_0.2).2).2).2.bad = true; rw [hD2_1_]; exact h)
                have hB2_1_1 : x2_1_1.2.bad = true → (decP fs_AlterPartitionAssignmentsRequest v true ⟨s, false, !a.isNone⟩).2.bad = true := fun h => hE2_1_ (by rw [hu2_1_]; exact tailU_bad h)
                have hB2_1_0 : x2_1_0.2.bad = true → (decP fs_AlterPartitionAssignmentsRequest v true ⟨s, false, !a.isNone⟩).2.bad = true := fun h => hB2_1_1 (by rw [hx2_1_1]; exact step_bad h)
                refine skt ?_
                refine sq ?_
                refine bl ?_
                refine sr ?_
                refine mv rfl rfl ?_
                refine mv rfl rfl ?_
                refine ixk (j := k2_1) Tryz.runUnderlying112 Tryz.sizeOf239 rfl hga2_1 rfl rfl hkl2_1 rfl ?_
                refine asg rfl rfl ?_
                refine nl ?_
                refine sr ?_
                refine mv rfl rfl ?_
                refine cl rfl rfl rfl (def_AlterPartitionAssignmentsRequestTopicPartition ho2_1) rfl (fun v_ H1 L1 hle_ hR_ => ?_)
                obtain ⟨rfl, rfl⟩ := hR_
                refine nl ?_
                refine sr ?_
                refine mv rfl rfl ?_
                refine asg rfl rfl ?_
                refine nl ?_
                refine sq ?_
                refine sr ?_
                refine tf (.tail .head) ?_
                have ex2_1_0 : x2_1_0 = decV 3 (decP [] v true) false true (rMany (decV 10 (decP fs_sAlterPartitionAssignmentsRequestTopicPartition v true) false true) k2_1 (rArr true x2_0.2).2).2 := (hx2_1_0.trans (step_yes (by decide) (show (0 : Int) ≤ v by omega) (Or.inl (by decide)))).trans (decF'_val (by decide) (rfl))
                refine cl rfl rfl rfl (d3 hR_2_1 ex2_1_0) rfl (fun v_ H1 L1 hle_ hR_ => ?_)
                obtain ⟨N126, rfl, hR126, rfl, rfl⟩ := hR_
                refine asg rfl rfl ?_
                refine nl ?_
                refine rg ?_
                refine mv rfl rfl ?_
                refine mv rfl rfl ?_
                refine nc rfl rfl ?_
                refine fa F239_0 rfl rfl ?_
                refine stM (off := 0) Tryz.sizeOf21 rfl (by rw [ho2_1]) rfl rfl rfl (.tail .head) ?_
                refine nl ?_
                refine sq ?_
                refine sr ?_
                refine mv rfl rfl ?_
                refine nc rfl rfl ?_
                refine fa F239_1 rfl rfl ?_
                refine ld (j := 1) (off := 0 + k2_1 * 3) (Says.mid (.tail .head) ho2_1) Tryz.isAgg227 rfl rfl rfl rfl ?_
                refine asg rfl rfl ?_
                refine nl ?_
                refine sr ?_
                refine mv rfl rfl ?_
                refine asg rfl rfl ?_
                refine nl ?_
                refine sr ?_
                refine asg rfl rfl ?_
                refine nl ?_
                refine sq ?_
                refine sr ?_
                refine mv rfl rfl ?_
                refine nl ?_
                refine cdT rfl (by omega) ?_
                refine rg ?_
                have ey2_1_1 : x2_1_1 = (.mk 0 [] (if 0 ≤ (0 : Int) ∧ (v < (0 : Int) ∨ (rArr true x2_1_0.2).1 = 0) then false else decide ((rArr true x2_1_0.2).1 ≤ 0)) (rMany (decV 3 (decP [] v true) false true) (rArr true x2_1_0.2).1.toNat (rArr true x2_1_0.2).2).1 [], (rMany (decV 3 (decP [] v true) false true) (rArr true x2_1_0.2).1.toNat (rArr true x2_1_0.2).2).2) := (hx2_1_1.trans (step_yes (by decide) (show (0 : Int) ≤ v by omega) (Or.inl (by decide)))).trans (decF'_list rfl rfl)
                have hn2_1_1 : (rArr true x2_1_0.2).1.toNat = (lT x2_1_1.1).length := by rw [ey2_1_1]; exact (lT_many nul_le).symm
                have ex2_1_1 := ey2_1_1
                rw [hn2_1_1] at ex2_1_1
                have hl2_1_1 := rArr_le true x2_1_0.2
                have hm2_1_1 : (rArr true x2_1_0.2).2.s.length ≤ BR := Nat.le_trans (rArr_len true x2_1_0.2) hL2_1_0
                have hnb2_1_1 : (lT x2_1_1.1).length ≤ BR := by omega
                refine cl rfl rfl rfl (r_arrt hR126) rfl (fun v_ H1 L1 hle_ hR_ => ?_)
                obtain ⟨rfl, N137, rfl, hR137, rfl⟩ := hR_
                have hh2_1_1 := rArr_hi true x2_1_0.2
                refine asg rfl rfl ?_
                refine nl ?_
                refine sq ?_
                refine sr ?_
                refine mv rfl rfl ?_
                refine lt rfl rfl rfl ?_
                refine mv rfl rfl ?_
                refine spl (t := 141) rfl (fun hn_ => absurd hn_ (by omega)) (fun _ => ?_)
                refine gr rfl rfl ?_
                refine mv rfl rfl ?_
                refine gr rfl rfl ?_
                refine eq' rfl rfl rfl ?_
                refine pk rfl rfl rfl rfl ?_
                refine nl ?_
                refine nulC2 ?_
                refine cutT (fun l' H' L' => ∃ (az2_1_1 : Option Addr), ∃ (Nz2_1_1 : Chunk), [(2, .bool false), (7, .pointer (some ⟨b_1, 0, none⟩)), (8, .int .i16 v), (9, .bool (decide ((0 : Int) ≤ v))), (10, .pointer (some ⟨b, 0, none⟩)), (13, .slice none 0 0), (14, .slice a2 (lT x2.1).length c2), (15, .int .i32 (rArr true x1.2).1), (16, .int .i32 (k2 : Int)), (18, .pointer (some ⟨g2, 0 + k2 * 3, none⟩)), (20, .slice none 0 0), (21, .slice a2_1 (lT x2_1.1).length c2_1), (22, .int .i32 (rArr true x2_0.2).1), (23, .int .i32 (k2_1 : Int)), (25, .pointer (some ⟨g2_1, 0 + k2_1 * 3, none⟩)), (27, .slice none 0 0), (28, .slice az2_1_1 0 0), (29, .int .i32 (rArr true x2_1_0.2).1)] = l' ∧ Nz2_1_1 :: N137 :: [(g2_1, .cells ((es2_1.flatMap fk) ++ ([.int .i32 (IntKind.i32.wrap x2_1_0.1.n), .slice none 0 0, .map none] : List Value) ++ po2_1).toArray 239 (0, 0))] :: [(g2, .cells ((es2.flatMap fk) ++ ([.string ⟨x2_0.1.s.toArray⟩, .slice none 0 0, .map none] : List Value) ++ po2).toArray 114 (0, 0))] :: [(b, .cells [.int .i16 v, .int .i32 (IntKind.i32.wrap x0.1.n), .bool (decide (x1.1.n % 2 = 1)), .slice none 0 0, .map none].toArray 107 (0, 0))] :: L = L' ∧ Row 21 1 az2_1_1 0 0 [] Nz2_1_1 ∧ (¬ (0 : Int) < (rArr true x2_1_0.2).1 → az2_1_1.isNone = (if 0 ≤ (0 : Int) ∧ (v < (0 : Int) ∨ (rArr true x2_1_0.2).1 = 0) then false else decide ((rArr true x2_1_0.2).1 ≤ 0)))) ?_ (fun l' H' L' le_11 hI => ?_)
                · skip
                  refine cd rfl (fun h144 => ?_) (fun h144 => ?_)
                  · skip
                    refine rg ?_
                    refine bs' L227 rfl rfl rfl rfl (fun b_12 => ?_)
                    refine asg rfl rfl ?_
                    refine nN ?_
                    refine drN (.tail .head) ?_
                    refine fun a_ w_ hA hw => ⟨_, _, _, hA.sub ?_, (Fz.le.refl _), hw, (some ⟨b_12, 0, none⟩), _, rfl, rfl, (Row.whole (m := 0) rfl (by decide)), (fun _ => by rw [if_pos ⟨by decide, .inr h144⟩]; rfl)⟩
                    exact (.cons rfl (.cons rfl (.cons rfl (.cons rfl (.cons rfl (.cons rfl (.cons rfl (.cons rfl (.cons rfl (.cons rfl (.cons rfl (.cons rfl (.cons rfl (.cons rfl (.cons rfl (.cons rfl (.cons rfl (.cons rfl (.nil _)))))))))))))))))))
                  · skip
                    refine skN ?_
                    refine fun a_ w_ hA hw => ⟨_, _, _, hA.sub ?_, (Fz.le.refl _), hw, none, [], rfl, rfl, (Row.nil _ _), (fun hz_ => by rw [if_neg (by omega)]; exact (decide_eq_true (by omega)).symm)⟩
                    exact (.cons rfl (.cons rfl (.cons rfl (.cons rfl (.cons rfl (.cons rfl (.cons rfl (.cons rfl (.cons rfl (.cons rfl (.cons rfl (.cons rfl (.cons rfl (.cons rfl (.cons rfl (.cons rfl (.cons rfl (.cons rfl (.nil _)))))))))))))))))))
                · skip
                  obtain ⟨az2_1_1, Nz2_1_1, rfl, rfl, pj0, pj1⟩ := hI
                  have hz02_1_1 := pj0
                  have hz12_1_1 := pj1
                  refine sq ?_
                  refine sr ?_
                  refine tf (.tail .head) ?_
                  refine cl rfl rfl rfl (r_ok (hR137.mono le_11)) rfl (fun v_ H1 L1 hle_ hR_ => ?_)
                  obtain ⟨rfl, rfl, rfl⟩ := hR_
                  refine nt rfl rfl ?_
                  refine nl ?_
                  refine cb rfl (fun h147 => ?_) (fun h147 => ?_)
                  · skip
                    have hbad_ : (rArr true x2_1_0.2).2.bad = true := by simpa using h147
                    refine sr ?_
                    refine cl rfl rfl rfl (r_complete (hR137.mono le_11) (he.mono (le_3.trans (le_5.trans (le_6.trans (le_8.trans (le_9.trans le_11))))))) rfl (fun v_ H1 L1 hle_ hR_ => ?_)
                    obtain ⟨rfl, rfl, rfl⟩ := hR_
                    refine asg rfl rfl ?_
                    refine nl ?_
                    refine drW .head ?_
                    refine drW .head ?_
                    refine drW .head ?_
                    refine drW .head ?_
                    exact rT rfl rfl (le_3.trans (le_5.trans (le_6.trans (le_8.trans (le_9.trans le_11))))) (fun _ _ h => h) ⟨_, rfl, RdEnd.out (hB2_1_1 (by rw [ey2_1_1]; exact rMany_bad (fun r h => decV_bad (decP_bad _ _ _) h) _ _ hbad_)) hbad_⟩
                  · skip
                    refine skt ?_
                    refine sr ?_
                    refine mv rfl rfl ?_
                    refine sh' (j := 0) Tryz.runUnderlying227 Tryz.sizeOf21 rfl rfl rfl (Nat.zero_le _) rfl ?_
                    refine asg rfl rfl ?_
                    refine nl ?_
                    refine sq ?_
                    refine sr ?_
                    refine mv rfl rfl ?_
                    refine gt rfl rfl rfl ?_
                    refine nl ?_
                    refine cutT (fun l' H' L' => ∃ (a2_1_1 : Option Addr), ∃ (c2_1_1 : Nat), ∃ (Nr2_1_1 : Chunk), [(2, .bool false), (7, .pointer (some ⟨b_1, 0, none⟩)), (8, .int .i16 v), (9, .bool (decide ((0 : Int) ≤ v))), (10, .pointer (some ⟨b, 0, none⟩)), (13, .slice none 0 0), (14, .slice a2 (lT x2.1).length c2), (15, .int .i32 (rArr true x1.2).1), (16, .int .i32 (k2 : Int)), (18, .pointer (some ⟨g2, 0 + k2 * 3, none⟩)), (20, .slice none 0 0), (21, .slice a2_1 (lT x2_1.1).length c2_1), (22, .int .i32 (rArr true x2_0.2).1), (23, .int .i32 (k2_1 : Int)), (25, .pointer (some ⟨g2_1, 0 + k2_1 * 3, none⟩)), (27, .slice none 0 0), (28, .slice a2_1_1 (lT x2_1_1.1).length c2_1_1), (29, .int .i32 (rArr true x2_1_0.2).1)] = l' ∧ N137 :: Nr2_1_1 :: [(g2_1, .cells ((es2_1.flatMap fk) ++ ([.int .i32 (IntKind.i32.wrap x2_1_0.1.n), .slice none 0 0, .map none] : List Value) ++ po2_1).toArray 239 (0, 0))] :: [(g2, .cells ((es2.flatMap fk) ++ ([.string ⟨x2_0.1.s.toArray⟩, .slice none 0 0, .map none] : List Value) ++ po2).toArray 114 (0, 0))] :: [(b, .cells [.int .i16 v, .int .i32 (IntKind.i32.wrap x0.1.n), .bool (decide (x1.1.n % 2 = 1)), .slice none 0 0, .map none].toArray 107 (0, 0))] :: L = L' ∧ Row 21 1 a2_1_1 (lT x2_1_1.1).length c2_1_1 (reps [.int .i32 0] (lT x2_1_1.1).length) Nr2_1_1 ∧ a2_1_1.isNone = (if 0 ≤ (0 : Int) ∧ (v < (0 : Int) ∨ (rArr true x2_1_0.2).1 = 0) then false else decide ((rArr true x2_1_0.2).1 ≤ 0))) ?_ (fun l' H' L' le_13 hI => ?_)
                    · skip
                      refine cd rfl (fun h152 => ?_) (fun h152 => ?_)
                      · skip
                        refine rg ?_
                        refine mv rfl rfl ?_
                        refine mv rfl rfl ?_
                        refine apz (zs := [.int .i32 0]) (m := (lT x2_1_1.1).length) Tryz.underlying227 Tryz.underlying21 I21 rfl rfl rfl (by omega) (by omega) (by have h9 := hnb2_1_1; unfold BR at h9; omega) (by have h9 := hnb2_1_1; unfold BR at h9; unfold maxLen; omega) rfl (fun g155 cp155 N155 r155 => ?_)
                        refine asg rfl rfl ?_
                        refine nN ?_
                        refine drN (.tail (.tail .head)) ?_
                        refine tfN (.tail .head) ?_
                        refine fun a_ w_ hA hw => ⟨_, _, _, hA.sub ?_, (Fz.le.refl _), hw, (some ⟨g155, 0, none⟩), cp155, N155, rfl, rfl, r155, (by split; rfl; exact (decide_eq_false (by omega)).symm)⟩
                        exact (.cons rfl (.cons rfl (.cons rfl (.cons rfl (.cons rfl (.cons rfl (.cons rfl (.cons rfl (.cons rfl (.cons rfl (.cons rfl (.cons rfl (.cons rfl (.cons rfl (.cons rfl (.cons rfl (.cons rfl (.cons rfl (.nil _)))))))))))))))))))
                      · skip
                        refine skN ?_
                        refine fun a_ w_ hA hw => ⟨_, _, _, hA.sub ?_, (Fz.le.refl _), hw, az2_1_1, 0, Nz2_1_1, rfl, rfl, (by rw [show (lT x2_1_1.1).length = 0 by omega]; exact hz02_1_1), (hz12_1_1 (by omega))⟩
                        exact (.cons rfl (.cons rfl (.cons rfl (.cons rfl (.cons rfl (.cons rfl (.cons rfl (.cons rfl (.cons rfl (.cons rfl (.cons rfl (.cons rfl (.cons rfl (.cons rfl (.cons rfl (.cons rfl (.cons (by rw [show (lT x2_1_1.1).length = 0 by omega]; rfl) (.cons rfl (.nil _)))))))))))))))))))
                    · skip
                      obtain ⟨a2_1_1, c2_1_1, Nr2_1_1, rfl, rfl, pj0, pj1⟩ := hI
                      have hr2_1_1 := pj0
                      have hi2_1_1 := pj1
                      refine sq ?_
                      refine sr ?_
                      refine asg rfl rfl ?_
                      refine nl ?_
                      refine bl (lp ((lT x2_1_1.1).length) (fun k2_1_1 l' H' L' => ∃ (es2_1_1 : List (KE 1)) (M2_1_1 RN2_1_1 : Chunk), [(2, .bool false), (7, .pointer (some ⟨b_1, 0, none⟩)), (8, .int .i16 v), (9, .bool (decide ((0 : Int) ≤ v))), (10, .pointer (some ⟨b, 0, none⟩)), (13, .slice none 0 0), (14, .slice a2 (lT x2.1).length c2), (15, .int .i32 (rArr true x1.2).1), (16, .int .i32 (k2 : Int)), (18, .pointer (some ⟨g2, 0 + k2 * 3, none⟩)), (20, .slice none 0 0), (21, .slice a2_1 (lT x2_1.1).length c2_1), (22, .int .i32 (rArr true x2_0.2).1), (23, .int .i32 (k2_1 : Int)), (25, .pointer (some ⟨g2_1, 0 + k2_1 * 3, none⟩)), (27, .slice none 0 0), (28, .slice a2_1_1 (lT x2_1_1.1).length c2_1_1), (29, .int .i32 (rArr true x2_1_0.2).1), (30, .int .i32 (k2_1_1 : Int))] = l' ∧ RN2_1_1 :: M2_1_1 :: [(g2_1, .cells ((es2_1.flatMap fk) ++ ([.int .i32 (IntKind.i32.wrap x2_1_0.1.n), .slice none 0 0, .map none] : List Value) ++ po2_1).toArray 239 (0, 0))] :: [(g2, .cells ((es2.flatMap fk) ++ ([.string ⟨x2_0.1.s.toArray⟩, .slice none 0 0, .map none] : List Value) ++ po2).toArray 114 (0, 0))] :: [(b, .cells [.int .i16 v, .int .i32 (IntKind.i32.wrap x0.1.n), .bool (decide (x1.1.n % 2 = 1)), .slice none 0 0, .map none].toArray 107 (0, 0))] :: L = L' ∧ RdAt H' 232 b_1 (rMany (decV 3 (decP [] v true) false true) k2_1_1 (rArr true x2_1_0.2).2).2 RN2_1_1 ∧ Row 21 1 a2_1_1 (lT x2_1_1.1).length c2_1_1 (es2_1_1.flatMap fk ++ reps [.int .i32 0] ((lT x2_1_1.1).length - k2_1_1)) M2_1_1 ∧ es2_1_1.map (·.2) = (rMany (decV 3 (decP [] v true) false true) k2_1_1 (rArr true x2_1_0.2).2).1 ∧ ∀ p ∈ es2_1_1, RI32 H' p.2 (fk p)) [(2, .bool false), (7, .pointer (some ⟨b_1, 0, none⟩)), (8, .int .i16 v), (9, .bool (decide ((0 : Int) ≤ v))), (10, .pointer (some ⟨b, 0, none⟩)), (13, .slice none 0 0), (14, .slice a2 (lT x2.1).length c2), (15, .int .i32 (rArr true x1.2).1), (16, .int .i32 (k2 : Int)), (18, .pointer (some ⟨g2, 0 + k2 * 3, none⟩)), (20, .slice none 0 0), (21, .slice a2_1 (lT x2_1.1).length c2_1), (22, .int .i32 (rArr true x2_0.2).1), (23, .int .i32 (k2_1 : Int)), (25, .pointer (some ⟨g2_1, 0 + k2_1 * 3, none⟩)), (27, .slice none 0 0), (28, .slice a2_1_1 (lT x2_1_1.1).length c2_1_1), (29, .int .i32 (rArr true x2_1_0.2).1), (30, .int .i32 (0 : Int))] (.cons rfl (.cons rfl (.cons rfl (.cons rfl (.cons rfl (.cons rfl (.cons rfl (.cons rfl (.cons rfl (.cons rfl (.cons rfl (.cons rfl (.cons rfl (.cons rfl (.cons rfl (.cons rfl (.cons rfl (.cons rfl (.cons rfl (.nil _)))))))))))))))))))) ⟨[], Nr2_1_1, _, rfl, rfl, (hR137.mono (le_11.trans le_13)), hr2_1_1, rfl, (fun p hp => by cases hp)⟩ (fun k2_1_1 l' H' L' hk2_1_1 le_14 hI => ?_))
                      obtain ⟨es2_1_1, M2_1_1, RN2_1_1, rfl, rfl, hR_2_1_1, hw_2_1_1, he_2_1_1, hg_2_1_1⟩ := hI
                      have hs_2_1_1 := els_len he_2_1_1
                      have hp_2_1_1 : (es2_1_1.flatMap fk).length = k2_1_1 * 1 := els_flat hs_2_1_1
                      refine sq ?_
                      refine sr ?_
                      refine mv rfl rfl ?_
                      refine mv rfl rfl ?_
                      refine lt rfl rfl rfl ?_
                      refine nl ?_
                      refine cd rfl (fun h158 => ?_) (fun h158 => ?_)
                      · skip
                        have hkl2_1_1 : k2_1_1 < (lT x2_1_1.1).length := by omega
                        obtain ⟨g2_1_1, po2_1_1, hga2_1_1, rfl, hbk2_1_1⟩ := hw_2_1_1.next (zs := [.int .i32 0]) hkl2_1_1 rfl (by decide)
                        have ho2_1_1 : 0 + k2_1_1 * 1 = (es2_1_1.flatMap fk).length := by rw [hp_2_1_1]; omega
                        have hbz2_1_1 : ((decV 3 (decP [] v true) false true) (rMany (decV 3 (decP [] v true) false true) k2_1_1 (rArr true x2_1_0.2).2).2).2.bad = true → (decP fs_AlterPartitionAssignmentsRequest v true ⟨s, false, !a.isNone⟩).2.bad = true := fun h => hB2_1_1 (by rw [ex2_1_1]; exact rMany_mono (fun r h => decV_bad (fun r h => decP_bad _ _ _ r h) h) _ (show k2_1_1 + 1 ≤ (lT x2_1_1.1).length from hkl2_1_1) (by rw [rMany_succ]; exact h))
                        have hLk2_1_1 : (rMany (decV 3 (decP [] v true) false true) k2_1_1 (rArr true x2_1_0.2).2).2.s.length ≤ BR := Nat.le_trans (rMany_shr (fun r => decV_shr (fun r => decP_shr _ _ _ r) r) _ _) hm2_1_1
                        obtain ⟨y2_1_1, hy2_1_1⟩ : ∃ x, x = (decV 3 (decP [] v true) false true) (rMany (decV 3 (decP [] v true) false true) k2_1_1 (rArr true x2_1_0.2).2).2 := ⟨_, rfl⟩
                        refine skt ?_
                        refine sq ?_
                        refine bl ?_
                        refine sr ?_
                        refine cl rfl rfl rfl (d3 hR_2_1_1 hy2_1_1) rfl (fun v_ H1 L1 hle_ hR_ => ?_)
                        obtain ⟨N161, rfl, hR161, rfl, rfl⟩ := hR_
                        refine asg rfl rfl ?_
                        refine nl ?_
                        refine rg ?_
                        refine mv rfl rfl ?_
                        refine mv rfl rfl ?_
                        refine mv rfl rfl ?_
                        refine ixk (j := k2_1_1) Tryz.runUnderlying227 Tryz.sizeOf21 rfl hga2_1_1 rfl rfl hkl2_1_1 rfl ?_
                        refine stM (off := 0) Tryz.sizeOf21 rfl ho2_1_1 rfl rfl rfl (.tail .head) ?_
                        refine nN ?_
                        refine Nb ?_
                        refine Nt ?_
                        refine rg ?_
                        refine mv rfl rfl ?_
                        refine ad rfl rfl (c := ((k2_1_1 + 1 : Nat) : Int)) ((wrap32_le (by omega) (by omega)).trans (by omega)) rfl ?_
                        refine asg rfl rfl ?_
                        refine nN ?_
                        have hfs2_1_1 := flatMap_snoc' fk es2_1_1 ((⟨([.int .i32 (IntKind.i32.wrap y2_1_1.1.n)] : List Value), rfl, all_one rfl⟩, ((decV 3 (decP [] v true) false true) (rMany (decV 3 (decP [] v true) false true) k2_1_1 (rArr true x2_1_0.2).2).2).1) : KE 1)
                        have hrw2_1_1 := hbk2_1_1 ([.int .i32 (IntKind.i32.wrap y2_1_1.1.n)] : List Value) rfl
                        refine fun a_ w_ hA hw => ⟨hkl2_1_1, _, _, _, hA.sub ?_, le_14, hw, _, _, _, rfl, rfl, (by rw [rMany_succ, ← hy2_1_1]; exact hR161), (by rw [← hfs2_1_1]; exact hrw2_1_1), (dec_els he_2_1_1), (fun p hp => (mem_snoc hp).elim (fun h => RI32.mono _ _ _ _ (Fz.le.refl _) (hg_2_1_1 p h)) (fun h => h ▸ (by show RI32 _ ((decV 3 (decP [] v true) false true) (rMany (decV 3 (decP [] v true) false true) k2_1_1 (rArr true x2_1_0.2).2).2).1 [.int .i32 (IntKind.i32.wrap y2_1_1.1.n)]; rw [← hy2_1_1]; rfl)))⟩
                        exact (.cons rfl (.cons rfl (.cons rfl (.cons rfl (.cons rfl (.cons rfl (.cons rfl (.cons rfl (.cons rfl (.cons rfl (.cons rfl (.cons rfl (.cons rfl (.cons rfl (.cons rfl (.cons rfl (.cons rfl (.cons rfl (.cons rfl (.nil _))))))))))))))))))))
                      · skip
                        have hkn_ : k2_1_1 = (lT x2_1_1.1).length := by omega
                        subst hkn_
                        have hw2_2_1_1 : Row 21 1 a2_1_1 (lT x2_1_1.1).length c2_1_1 (es2_1_1.flatMap fk) M2_1_1 := by have h := hw_2_1_1; rw [Nat.sub_self] at h; simpa [reps] using h
                        refine frW hw2_2_1_1 (.tail .head) (fun Hf2_1_1 hlf2_1_1 hfz2_1_1 => ?_)
                        have hrs2_1_1 := RowsAt.row (R := RI32) hfz2_1_1 hs_2_1_1.symm hw2_2_1_1.le.1 (fun p hp => RI32.mono _ _ _ _ hlf2_1_1 (hg_2_1_1 p hp))
                        rw [he_2_1_1] at hrs2_1_1
                        have hf2_1_1 : ListAt Hf2_1_1 x2_1_1.1 1 RI32 a2_1_1 c2_1_1 := by rw [ex2_1_1]; exact listAt_of hrs2_1_1 hi2_1_1 (fun h => by have h1 := nul_le h; rw [show (lT x2_1_1.1).length = 0 by omega]; rfl)
                        have hRx2_1_1 : RdAt Hf2_1_1 232 b_1 x2_1_1.2 RN2_1_1 := by rw [ex2_1_1]; exact (hR_2_1_1.mono hlf2_1_1)
                        refine exX ?_
                        refine XT ?_
                        refine XT ?_
                        refine Xb ?_
                        refine Nt ?_
                        refine sr ?_
                        refine mv rfl rfl ?_
                        refine asg rfl rfl ?_
                        refine nl ?_
                        refine rg ?_
                        refine mv rfl rfl ?_
                        refine mv rfl rfl ?_
                        refine nc rfl rfl ?_
                        refine fa F239_1 rfl rfl ?_
                        refine stM (off := 1) Tryz.sizeOf227 rfl (by rw [ho2_1]) rfl rfl rfl (.tail .head) ?_
                        refine nl ?_
                        refine sr ?_
                        refine mv rfl rfl ?_
                        refine nl ?_
                        refine cdT rfl (by omega) ?_
                        refine rg ?_
                        refine mv rfl rfl ?_
                        refine cl rfl rfl rfl (d_tags hRx2_1_1) rfl (fun v_ H1 L1 le_16 hR_ => ?_)
                        obtain ⟨N173, rfl, hR173, m2_1_t, rfl, hft2_1_⟩ := hR_
                        have hu22_1_ : u2_1_ = rTags x2_1_1.2 := hu2_1_
                        rw [← hu22_1_] at hR173 hft2_1_
                        refine nc rfl rfl ?_
                        refine fa F239_2 rfl rfl ?_
                        refine saM (off := 2) Tryz.sizeOf105 rfl (by rw [ho2_1]) rfl rfl rfl rfl (.tail .head) ?_
                        refine nN ?_
                        refine Nb ?_
                        refine Nt ?_
                        refine rg ?_
                        refine mv rfl rfl ?_
                        refine ad rfl rfl (c := ((k2_1 + 1 : Nat) : Int)) ((wrap32_le (by omega) (by omega)).trans (by omega)) rfl ?_
                        refine asg rfl rfl ?_
                        refine nN ?_
                        have hfs2_1 := flatMap_snoc' fk es2_1 ((⟨([.int .i32 (IntKind.i32.wrap x2_1_0.1.n), .slice a2_1_1 (lT x2_1_1.1).length c2_1_1, .map m2_1_t] : List Value), rfl, all_one rfl⟩, ((decV 10 (decP fs_sAlterPartitionAssignmentsRequestTopicPartition v true) false true) (rMany (decV 10 (decP fs_sAlterPartitionAssignmentsRequestTopicPartition v true) false true) k2_1 (rArr true x2_0.2).2).2).1) : KE 3)
                        have hrw2_1 := hbk2_1 ([.int .i32 (IntKind.i32.wrap x2_1_0.1.n), .slice a2_1_1 (lT x2_1_1.1).length c2_1_1, .map m2_1_t] : List Value) rfl
                        refine tfN (.tail .head) ?_
                        refine fun a_ w_ hA hw => ⟨hkl2_1, _, _, _, hA.sub ?_, (le_9.trans (le_11.trans (le_13.trans (le_14.trans (hlf2_1_1.trans le_16))))), hw, _, _, _, rfl, rfl, (by rw [rMany_succ]; show RdAt _ 232 b_1 (decP fs_sAlterPartitionAssignmentsRequestTopicPartition v true (rMany (decV 10 (decP fs_sAlterPartitionAssignmentsRequestTopicPartition v true) false true) k2_1 (rArr true x2_0.2).2).2).2 _; rw [hD2_1_]; exact hR173), (by rw [← hfs2_1]; exact hrw2_1), (dec_els he_2_1), (fun p hp => (mem_snoc hp).elim (fun h => At_AlterPartitionAssignmentsRequestTopicPartition.mono _ _ _ _ (le_11.trans (le_13.trans (le_14.trans (hlf2_1_1.trans le_16)))) (hg_2_1 p h)) (fun h => h ▸ (by show At_AlterPartitionAssignmentsRequestTopicPartition _ (decP fs_sAlterPartitionAssignmentsRequestTopicPartition v true (rMany (decV 10 (decP fs_sAlterPartitionAssignmentsRequestTopicPartition v true) false true) k2_1 (rArr true x2_0.2).2).2).1 [.int .i32 (IntKind.i32.wrap x2_1_0.1.n), .slice a2_1_1 (lT x2_1_1.1).length c2_1_1, .map m2_1_t]; rw [hD2_1_]; exact ⟨a2_1_1, c2_1_1, m2_1_t, rfl, (hf2_1_1.mono RI32.mono le_16), hft2_1_⟩)))⟩
                        exact (.cons rfl (.cons rfl (.cons rfl (.cons rfl (.cons rfl (.cons rfl (.cons rfl (.cons rfl (.cons rfl (.cons rfl (.cons rfl (.cons rfl (.cons rfl (.cons rfl (.nil _)))))))))))))))
              · skip
                have hkn_ : k2_1 = (lT x2_1.1).length := by omega
                subst hkn_
                have hw2_2_1 : Row 239 3 a2_1 (lT x2_1.1).length c2_1 (es2_1.flatMap fk) M2_1 := by have h := hw_2_1; rw [Nat.sub_self] at h; simpa [reps] using h
                refine frW hw2_2_1 .head (fun Hf2_1 hlf2_1 hfz2_1 => ?_)
                have hrs2_1 := RowsAt.row (R := At_AlterPartitionAssignmentsRequestTopicPartition) hfz2_1 hs_2_1.symm hw2_2_1.le.1 (fun p hp => At_AlterPartitionAssignmentsRequestTopicPartition.mono _ _ _ _ hlf2_1 (hg_2_1 p hp))
                rw [he_2_1] at hrs2_1
                have hf2_1 : ListAt Hf2_1 x2_1.1 3 At_AlterPartitionAssignmentsRequestTopicPartition a2_1 c2_1 := by rw [ex2_1]; exact listAt_of hrs2_1 hi2_1 (fun h => by have h1 := nul_le h; rw [show (lT x2_1.1).length = 0 by omega]; rfl)
                have hRx2_1 : RdAt Hf2_1 232 b_1 x2_1.2 RN2_1 := by rw [ex2_1]; exact (hR_2_1.mono hlf2_1)
                refine exX ?_
                refine XT ?_
                refine XT ?_
                refine Xb ?_
                refine Nt ?_
                refine sr ?_
                refine mv rfl rfl ?_
                refine asg rfl rfl ?_
                refine nl ?_
                refine rg ?_
                refine mv rfl rfl ?_
                refine mv rfl rfl ?_
                refine nc rfl rfl ?_
                refine fa F114_1 rfl rfl ?_
                refine stM (off := 1) Tryz.sizeOf112 rfl (by rw [ho2]) rfl rfl rfl (.tail .head) ?_
                refine nl ?_
                refine sr ?_
                refine mv rfl rfl ?_
                refine nl ?_
                refine cdT rfl (by omega) ?_
                refine rg ?_
                refine mv rfl rfl ?_
                refine cl rfl rfl rfl (d_tags hRx2_1) rfl (fun v_ H1 L1 le_17 hR_ => ?_)
                obtain ⟨N183, rfl, hR183, m2_t, rfl, hft2_⟩ := hR_
                have hu22_ : u2_ = rTags x2_1.2 := hu2_
                rw [← hu22_] at hR183 hft2_
                refine nc rfl rfl ?_
                refine fa F114_2 rfl rfl ?_
                refine saM (off := 2) Tryz.sizeOf105 rfl (by rw [ho2]) rfl rfl rfl rfl (.tail .head) ?_
                refine nN ?_
                refine Nb ?_
                refine Nt ?_
                refine rg ?_
                refine mv rfl rfl ?_
                refine ad rfl rfl (c := ((k2 + 1 : Nat) : Int)) ((wrap32_le (by omega) (by omega)).trans (by omega)) rfl ?_
                refine asg rfl rfl ?_
                refine nN ?_
                have hfs2 := flatMap_snoc' fk es2 ((⟨([.string ⟨x2_0.1.s.toArray⟩, .slice a2_1 (lT x2_1.1).length c2_1, .map m2_t] : List Value), rfl, all_one rfl⟩, ((decV 10 (decP fs_sAlterPartitionAssignmentsRequestTopic v true) false true) (rMany (decV 10 (decP fs_sAlterPartitionAssignmentsRequestTopic v true) false true) k2 (rArr true x1.2).2).2).1) : KE 3)
                have hrw2 := hbk2 ([.string ⟨x2_0.1.s.toArray⟩, .slice a2_1 (lT x2_1.1).length c2_1, .map m2_t] : List Value) rfl
                refine tfN (.tail .head) ?_
                refine fun a_ w_ hA hw => ⟨hkl2, _, _, _, hA.sub ?_, (le_6.trans (le_8.trans (le_9.trans (hlf2_1.trans le_17)))), hw, _, _, _, rfl, rfl, (by rw [rMany_succ]; show RdAt _ 232 b_1 (decP fs_sAlterPartitionAssignmentsRequestTopic v true (rMany (decV 10 (decP fs_sAlterPartitionAssignmentsRequestTopic v true) false true) k2 (rArr true x1.2).2).2).2 _; rw [hD2_]; exact hR183), (by rw [← hfs2]; exact hrw2), (dec_els he_2), (fun p hp => (mem_snoc hp).elim (fun h => At_AlterPartitionAssignmentsRequestTopic.mono _ _ _ _ (le_8.trans (le_9.trans (hlf2_1.trans le_17))) (hg_2 p h)) (fun h => h ▸ (by show At_AlterPartitionAssignmentsRequestTopic _ (decP fs_sAlterPartitionAssignmentsRequestTopic v true (rMany (decV 10 (decP fs_sAlterPartitionAssignmentsRequestTopic v true) false true) k2 (rArr true x1.2).2).2).1 [.string ⟨x2_0.1.s.toArray⟩, .slice a2_1 (lT x2_1.1).length c2_1, .map m2_t]; rw [hD2_]; exact ⟨a2_1, c2_1, m2_t, rfl, (hf2_1.mono At_AlterPartitionAssignmentsRequestTopicPartition.mono le_17), hft2_⟩)))⟩
                exact (.cons rfl (.cons rfl (.cons rfl (.cons rfl (.cons rfl (.cons rfl (.cons rfl (.cons rfl (.cons rfl (.nil _))))))))))
        · skip
          have hkn_ : k2 = (lT x2.1).length := by omega
          subst hkn_
          have hw2_2 : Row 114 3 a2 (lT x2.1).length c2 (es2.flatMap fk) M2 := by have h := hw_2; rw [Nat.sub_self] at h; simpa [reps] using h
          refine frW hw2_2 .head (fun Hf2 hlf2 hfz2 => ?_)
          have hrs2 := RowsAt.row (R := At_AlterPartitionAssignmentsRequestTopic) hfz2 hs_2.symm hw2_2.le.1 (fun p hp => At_AlterPartitionAssignmentsRequestTopic.mono _ _ _ _ hlf2 (hg_2 p hp))
          rw [he_2] at hrs2
          have hf2 : ListAt Hf2 x2.1 3 At_AlterPartitionAssignmentsRequestTopic a2 c2 := by rw [ex2]; exact listAt_of hrs2 hi2 (fun h => by have h1 := nul_le h; rw [show (lT x2.1).length = 0 by omega]; rfl)
          have hRx2 : RdAt Hf2 232 b_1 x2.2 RN2 := by rw [ex2]; exact (hR_2.mono hlf2)
          refine exX ?_
          refine XT ?_
          refine XT ?_
          refine Xb ?_
          refine Nt ?_
          refine sr ?_
          refine mv rfl rfl ?_
          refine asg rfl rfl ?_
          refine nl ?_
          refine rg ?_
          refine mv rfl rfl ?_
          refine mv rfl rfl ?_
          refine nc rfl rfl ?_
          refine fa0 F107_3 rfl rfl ?_
          refine st Tryz.sizeOf102 rfl rfl rfl rfl (.tail .head) ?_
          refine nl ?_
          refine sq ?_
          refine sr ?_
          refine mv rfl rfl ?_
          refine nl ?_
          refine cdT rfl (by omega) ?_
          refine rg ?_
          refine mv rfl rfl ?_
          refine cl rfl rfl rfl (d_tags hRx2) rfl (fun v_ H1 L1 le_18 hR_ => ?_)
          obtain ⟨N193, rfl, hR193, mt, rfl, hft⟩ := hR_
          have hu2 : u = rTags x2.2 := hu
          rw [← hu2] at hR193 hft
          refine nc rfl rfl ?_
          refine fa0 F107_4 rfl rfl ?_
          refine sa Tryz.sizeOf105 rfl rfl rfl rfl rfl (.tail .head) ?_
          refine nl ?_
          refine sr ?_
          refine cl rfl rfl rfl (r_complete hR193 (he.mono (le_3.trans (le_5.trans (le_6.trans (hlf2.trans le_18)))))) rfl (fun v_ H1 L1 hle_ hR_ => ?_)
          obtain ⟨rfl, rfl, rfl⟩ := hR_
          refine asg rfl rfl ?_
          refine nl ?_
          refine drW .head ?_
          have hA_ := (show At_AlterPartitionAssignmentsRequest v _ (decP fs_AlterPartitionAssignmentsRequest v true _).1 [.int .i16 v, .int .i32 (IntKind.i32.wrap x0.1.n), .bool (decide (x1.1.n % 2 = 1)), .slice a2 (lT x2.1).length c2, .map mt] from (by rw [hD]; exact ⟨a2, c2, mt, rfl, (hf2.mono At_AlterPartitionAssignmentsRequestTopic.mono le_18), hft⟩))
          refine rT rfl rfl (le_3.trans (le_5.trans (le_6.trans (hlf2.trans le_18)))) (fun _ _ h => h) ⟨_, rfl, ?_⟩
          have hz := RdEnd.of (e := e) hA_
          rw [show (decP fs_AlterPartitionAssignmentsRequest v true _).2.bad = u.2.bad by rw [hD]] at hz
          exact hz
end Go.Sx

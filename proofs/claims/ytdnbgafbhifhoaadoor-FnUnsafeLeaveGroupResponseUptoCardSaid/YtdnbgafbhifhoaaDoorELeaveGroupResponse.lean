import Derived.Test.YtdnbgafbhifhoaaDoorCLeaveGroupResponse
import Derived.KernelRfl
set_option linter.unusedVariables false
set_option linter.unusedSimpArgs false
set_option maxRecDepth 100000
set_option maxHeartbeats 20000000
namespace Go.Sx
open Go.Proofs
theorem rd_LeaveGroupResponse_fu {H : Fz} {L : Own} {b : Nat} {v : Int} {a : Option Addr} {c : Nat} {s : List UInt8} {e : Value} (hB : BytesAt H a c s) (hL_ : s.length ≤ BR) (he : H.at 1 0 [e]) (hv0 : 0 ≤ v) (hv1 : v ≤ 3) :
    Fn Tryd.prog 122 [.pointer (some ⟨b, 0, none⟩), .slice a s.length c, .bool true] H ([(b, .cells [.int .i16 v, .int .i32 0, .int .i16 0, .slice none 0 0, .map none].toArray 101 (0, 0))] :: L) (fun r H' L' => ∃ cs : List Value, L' = [(b, .cells cs.toArray 101 (0, 0))] :: L ∧ RdEnd H' (At_LeaveGroupResponse v) (decP fs_LeaveGroupResponse v false ⟨s, false, !a.isNone⟩) e r cs) := by
  refine Fn.mk Tryd.call122 Tryd.func122 rfl Tryd.ntmps122 rfl ?_
  refine sr ?_
  refine asg rfl rfl ?_
  refine nl ?_
  refine sr ?_
  refine mv rfl rfl ?_
  refine cl rfl rfl rfl def0_LeaveGroupResponse rfl (fun v_ H1 L1 hle_ hR_ => ?_)
  obtain ⟨rfl, rfl⟩ := hR_
  refine nl ?_
  refine sr ?_
  refine mv rfl rfl ?_
  refine bd' S193 rfl rfl rfl ?_
  refine al Tryd.zeroValue193 rfl rfl (fun b_1 => ?_)
  refine sa Tryd.sizeOf193 rfl rfl rfl rfl rfl .head ?_
  have hR0_ : RdAt H 193 b_1 ⟨s, false, !a.isNone⟩ [(b_1, .cells [_, _].toArray 193 (0, 0))] := ⟨a, c, rfl, hB, by simp⟩
  obtain ⟨x0, hx0⟩ : ∃ x, x = stepF (Fd.mk 3 1 (-1) (-1) (-1) 0 0 []) v false ⟨s, false, !a.isNone⟩ := ⟨_, rfl⟩
  obtain ⟨x1, hx1⟩ : ∃ x, x = stepF (Fd.mk 2 0 (-1) (-1) (-1) 0 0 []) v false x0.2 := ⟨_, rfl⟩
  obtain ⟨x2, hx2⟩ : ∃ x, x = stepF (Fd.mk 11 3 (-1) (-1) (-1) 0 10 fs_sLeaveGroupResponseMember) v false x1.2 := ⟨_, rfl⟩
  obtain ⟨u, hu⟩ : ∃ x, x = tailU false x2.2 := ⟨_, rfl⟩
  have hD : decP fs_LeaveGroupResponse v false ⟨s, false, !a.isNone⟩ = (.mk 0 [] false [x0.1, x1.1, x2.1] u.1, u.2) := by
    generalize (⟨s, false, !a.isNone⟩ : Rd) = r_ at hx0 ⊢
    rw [decP_eq]; unfold fs_LeaveGroupResponse; simp only [decFs_cons, decFs_nil, ← hx0, ← hx1, ← hx2, ← hu]
  have hL0 : x0.2.s.length ≤ BR := by rw [hx0]; exact Nat.le_trans (stepF_shr _ _ _ _) hL_
  have hL1 : x1.2.s.length ≤ BR := by rw [hx1]; exact Nat.le_trans (stepF_shr _ _ _ _) hL0
  have hL2 : x2.2.s.length ≤ BR := by rw [hx2]; exact Nat.le_trans (stepF_shr _ _ _ _) hL1
  have hE : u.2.bad = true → (decP fs_LeaveGroupResponse v false ⟨s, false, !a.isNone⟩).2.bad = true := fun h => by rw [hD]; exact h
  have hB2 : x2.2.bad = true → (decP fs_LeaveGroupResponse v false ⟨s, false, !a.isNone⟩).2.bad = true := fun h => hE (by rw [hu]; exact tailU_bad h)
  have hB1 : x1.2.bad = true → (decP fs_LeaveGroupResponse v false ⟨s, false, !a.isNone⟩).2.bad = true := fun h => hB2 (by rw [hx2]; exact step_bad h)
  have hB0 : x0.2.bad = true → (decP fs_LeaveGroupResponse v false ⟨s, false, !a.isNone⟩).2.bad = true := fun h => hB1 (by rw [hx1]; exact step_bad h)
  refine nl ?_
  refine sr ?_
  refine mv rfl rfl ?_
  refine nc rfl rfl ?_
  refine fa0 F101_0 rfl rfl ?_
  refine ld (Says.own (.tail .head)) Tryd.isAgg45 rfl (Nat.zero_add _).symm rfl rfl ?_
  refine asg rfl rfl ?_
  refine nl ?_
  refine sr ?_
  refine mv rfl rfl ?_
  refine nl ?_
  refine sr ?_
  refine mv rfl rfl ?_
  refine ge rfl rfl rfl ?_
  refine asg rfl rfl ?_
  refine nl ?_
  refine sr ?_
  refine mv rfl rfl ?_
  refine nl ?_
  refine sr ?_
  refine mv rfl rfl ?_
  refine asg rfl rfl ?_
  refine nl ?_
  refine sq ?_
  refine sr ?_
  refine mv rfl rfl ?_
  refine ge rfl rfl rfl ?_
  refine nl ?_
  refine cutT (fun l' H' L' => ∃ (Nj0 : Chunk), [(2, .bool true), (7, .pointer (some ⟨b_1, 0, none⟩)), (8, .int .i16 v), (9, .bool (decide ((4 : Int) ≤ v))), (10, .pointer (some ⟨b, 0, none⟩))] = l' ∧ Nj0 :: [(b, .cells [.int .i16 v, .int .i32 (IntKind.i32.wrap x0.1.n), .int .i16 0, .slice none 0 0, .map none].toArray 101 (0, 0))] :: L = L' ∧ RdAt H' 193 b_1 x0.2 Nj0) ?_ (fun l' H' L' le_2 hI => ?_)
  · skip
    refine cd rfl (fun h36 => ?_) (fun h36 => ?_)
    · skip
      refine sr ?_
      have ex0 : x0 = decV 3 (decP [] v false) false false ⟨s, false, !a.isNone⟩ := (hx0.trans (step_yes (by decide) (show (1 : Int) ≤ v by omega) (Or.inl (by decide)))).trans (decF'_val (by decide) (rfl))
      refine cl rfl rfl rfl (d3 hR0_ ex0) rfl (fun v_ H1 L1 hle_ hR_ => ?_)
      obtain ⟨N37, rfl, hR37, rfl, rfl⟩ := hR_
      refine asg rfl rfl ?_
      refine nl ?_
      refine rg ?_
      refine mv rfl rfl ?_
      refine mv rfl rfl ?_
      refine nc rfl rfl ?_
      refine fa0 F101_1 rfl rfl ?_
      refine st Tryd.sizeOf21 rfl rfl rfl rfl (.tail .head) ?_
      refine nN ?_
      refine fun a_ w_ hA hw => ⟨_, _, _, hA.sub ?_, (Fz.le.refl _), hw, N37, rfl, rfl, hR37⟩
      exact (.cons rfl (.cons rfl (.cons rfl (.cons rfl (.cons rfl (.nil _))))))
    · skip
      refine skN ?_
      obtain rfl : x0 = ((Tr.mk 0 [] false [] []), ⟨s, false, !a.isNone⟩) := (hx0.trans (step_no (Or.inl (show v < (1 : Int) by omega)))).trans (by rw [dflF_eq]; rfl)
      refine fun a_ w_ hA hw => ⟨_, _, _, hA.sub ?_, (Fz.le.refl _), hw, [(b_1, .cells [_, _].toArray 193 (0, 0))], rfl, rfl, hR0_⟩
      exact (.cons rfl (.cons rfl (.cons rfl (.cons rfl (.cons rfl (.nil _))))))
  · skip
    obtain ⟨Nj0, rfl, rfl, pj0⟩ := hI
    have hRj0 := pj0
    refine sq ?_
    refine sr ?_
    have ex1 : x1 = decV 2 (decP [] v false) false false x0.2 := (hx1.trans (step_yes (by decide) (show (0 : Int) ≤ v by omega) (Or.inl (by decide)))).trans (decF'_val (by decide) (rfl))
    refine cl rfl rfl rfl (d2 hRj0 ex1) rfl (fun v_ H1 L1 hle_ hR_ => ?_)
    obtain ⟨N42, rfl, hR42, rfl, rfl⟩ := hR_
    refine asg rfl rfl ?_
    refine nl ?_
    refine rg ?_
    refine mv rfl rfl ?_
    refine mv rfl rfl ?_
    refine nc rfl rfl ?_
    refine fa0 F101_2 rfl rfl ?_
    refine st Tryd.sizeOf45 rfl rfl rfl rfl (.tail .head) ?_
    refine nl ?_
    refine sq ?_
    refine sr ?_
    refine mv rfl rfl ?_
    refine ge rfl rfl rfl ?_
    refine nl ?_
    refine cutT (fun l' H' L' => ∃ (a2 : Option Addr), ∃ (c2 : Nat), ∃ (Nj2 : Chunk), [(7, .pointer (some ⟨b_1, 0, none⟩)), (9, .bool (decide ((4 : Int) ≤ v))), (10, .pointer (some ⟨b, 0, none⟩))] = l' ∧ Nj2 :: [(b, .cells [.int .i16 v, .int .i32 (IntKind.i32.wrap x0.1.n), .int .i16 (IntKind.i16.wrap x1.1.n), .slice a2 (lT x2.1).length c2, .map none].toArray 101 (0, 0))] :: L = L' ∧ RdAt H' 193 b_1 x2.2 Nj2 ∧ ListAt H' x2.1 4 At_LeaveGroupResponseMember a2 c2) ?_ (fun l' H' L' le_5 hI => ?_)
    · skip
      refine cd rfl (fun h48 => ?_) (fun h48 => ?_)
      · skip
        refine sr ?_
        refine mv rfl rfl ?_
        refine nc rfl rfl ?_
        refine fa0 F101_3 rfl rfl ?_
        refine ld (Says.own (.tail .head)) Tryd.isAgg96 rfl (Nat.zero_add _).symm rfl rfl ?_
        refine asg rfl rfl ?_
        refine nl ?_
        refine sr ?_
        refine mv rfl rfl ?_
        refine asg rfl rfl ?_
        refine nl ?_
        refine sr ?_
        refine asg rfl rfl ?_
        refine nl ?_
        refine sq ?_
        refine sr ?_
        refine mv rfl rfl ?_
        refine nl ?_
        refine cdF rfl (by omega) ?_
        refine rg ?_
        have ey2 : x2 = (.mk 0 [] (if 0 ≤ ((-1) : Int) ∧ (v < ((-1) : Int) ∨ (rArr false x1.2).1 = 0) then false else decide ((rArr false x1.2).1 ≤ 0)) (rMany (decV 10 (decP fs_sLeaveGroupResponseMember v false) false false) (rArr false x1.2).1.toNat (rArr false x1.2).2).1 [], (rMany (decV 10 (decP fs_sLeaveGroupResponseMember v false) false false) (rArr false x1.2).1.toNat (rArr false x1.2).2).2) := (hx2.trans (step_yes (by decide) (show (3 : Int) ≤ v by omega) (Or.inl (by decide)))).trans (decF'_list rfl rfl)
        have hn2 : (rArr false x1.2).1.toNat = (lT x2.1).length := by rw [ey2]; exact (lT_many nul_le).symm
        have ex2 := ey2
        rw [hn2] at ex2
        have hl2 := rArr_le false x1.2
        have hm2 : (rArr false x1.2).2.s.length ≤ BR := Nat.le_trans (rArr_len false x1.2) hL1
        have hnb2 : (lT x2.1).length ≤ BR := by omega
        refine cl rfl rfl rfl (r_arrf hR42) rfl (fun v_ H1 L1 hle_ hR_ => ?_)
        obtain ⟨rfl, N56, rfl, hR56, rfl⟩ := hR_
        have hh2 := rArr_hi false x1.2
        refine asg rfl rfl ?_
        refine nl ?_
        refine sq ?_
        refine sr ?_
        refine cl rfl rfl rfl (r_ok hR56) rfl (fun v_ H1 L1 hle_ hR_ => ?_)
        obtain ⟨rfl, rfl, rfl⟩ := hR_
        refine nt rfl rfl ?_
        refine nl ?_
        refine cb rfl (fun h58 => ?_) (fun h58 => ?_)
        · skip
          have hbad_ : (rArr false x1.2).2.bad = true := by simpa using h58
          refine sr ?_
          refine cl rfl rfl rfl (r_complete hR56 (he.mono le_2)) rfl (fun v_ H1 L1 hle_ hR_ => ?_)
          obtain ⟨rfl, rfl, rfl⟩ := hR_
          refine asg rfl rfl ?_
          refine nl ?_
          refine drW .head ?_
          exact rT rfl rfl le_2 (fun _ _ h => h) ⟨_, rfl, RdEnd.out (hB2 (by rw [ey2]; exact rMany_bad (fun r h => decV_bad (decP_bad _ _ _) h) _ _ hbad_)) hbad_⟩
        · skip
          refine skt ?_
          refine sr ?_
          refine mv rfl rfl ?_
          refine sh' (j := 0) Tryd.runUnderlying96 Tryd.sizeOf106 rfl rfl rfl (Nat.zero_le _) rfl ?_
          refine asg rfl rfl ?_
          refine nl ?_
          refine sq ?_
          refine sr ?_
          refine mv rfl rfl ?_
          refine gt rfl rfl rfl ?_
          refine nl ?_
          refine nulC2 ?_
          refine cutT (fun l' H' L' => ∃ (a2 : Option Addr), ∃ (c2 : Nat), ∃ (Nr2 : Chunk), [(2, .bool true), (7, .pointer (some ⟨b_1, 0, none⟩)), (9, .bool (decide ((4 : Int) ≤ v))), (10, .pointer (some ⟨b, 0, none⟩)), (13, .slice none 0 0), (14, .slice a2 (lT x2.1).length c2), (15, .int .i32 (rArr false x1.2).1)] = l' ∧ Nr2 :: N56 :: [(b, .cells [.int .i16 v, .int .i32 (IntKind.i32.wrap x0.1.n), .int .i16 (IntKind.i16.wrap x1.1.n), .slice none 0 0, .map none].toArray 101 (0, 0))] :: L = L' ∧ Row 106 4 a2 (lT x2.1).length c2 (reps [.string ⟨#[]⟩, .pointer none, .int .i16 0, .map none] (lT x2.1).length) Nr2 ∧ a2.isNone = (if 0 ≤ ((-1) : Int) ∧ (v < ((-1) : Int) ∨ (rArr false x1.2).1 = 0) then false else decide ((rArr false x1.2).1 ≤ 0))) ?_ (fun l' H' L' le_6 hI => ?_)
          · skip
            refine cd rfl (fun h63 => ?_) (fun h63 => ?_)
            · skip
              refine rg ?_
              refine mv rfl rfl ?_
              refine mv rfl rfl ?_
              refine apz (zs := [.string ⟨#[]⟩, .pointer none, .int .i16 0, .map none]) (m := (lT x2.1).length) Tryd.underlying96 Tryd.underlying21 I106 rfl rfl rfl (by omega) (by omega) (by have h9 := hnb2; unfold BR at h9; omega) (by have h9 := hnb2; unfold BR at h9; unfold maxLen; omega) rfl (fun g66 cp66 N66 r66 => ?_)
              refine asg rfl rfl ?_
              refine nN ?_
              refine drN (.tail .head) ?_
              refine fun a_ w_ hA hw => ⟨_, _, _, hA.sub ?_, (Fz.le.refl _), hw, (some ⟨g66, 0, none⟩), cp66, N66, rfl, rfl, r66, (by rw [if_neg (by omega)]; exact (decide_eq_false (by omega)).symm)⟩
              exact (.cons rfl (.cons rfl (.cons rfl (.cons rfl (.cons rfl (.cons rfl (.cons rfl (.nil _))))))))
            · skip
              refine skN ?_
              refine fun a_ w_ hA hw => ⟨_, _, _, hA.sub ?_, (Fz.le.refl _), hw, none, 0, [], rfl, rfl, (by rw [show (lT x2.1).length = 0 by omega]; exact (Row.nil _ _)), (by rw [if_neg (by omega)]; exact (decide_eq_true (by omega)).symm)⟩
              exact (.cons rfl (.cons rfl (.cons rfl (.cons rfl (.cons rfl (.cons (by rw [show (lT x2.1).length = 0 by omega]; rfl) (.cons rfl (.nil _))))))))
          · skip
            obtain ⟨a2, c2, Nr2, rfl, rfl, pj0, pj1⟩ := hI
            have hr2 := pj0
            have hi2 := pj1
            refine sq ?_
            refine sr ?_
            refine asg rfl rfl ?_
            refine nl ?_
            refine bl (lp ((lT x2.1).length) (fun k2 l' H' L' => ∃ (es2 : List (KE 4)) (M2 RN2 : Chunk), [(2, .bool true), (7, .pointer (some ⟨b_1, 0, none⟩)), (9, .bool (decide ((4 : Int) ≤ v))), (10, .pointer (some ⟨b, 0, none⟩)), (13, .slice none 0 0), (14, .slice a2 (lT x2.1).length c2), (15, .int .i32 (rArr false x1.2).1), (16, .int .i32 (k2 : Int))] = l' ∧ M2 :: RN2 :: [(b, .cells [.int .i16 v, .int .i32 (IntKind.i32.wrap x0.1.n), .int .i16 (IntKind.i16.wrap x1.1.n), .slice none 0 0, .map none].toArray 101 (0, 0))] :: L = L' ∧ RdAt H' 193 b_1 (rMany (decV 10 (decP fs_sLeaveGroupResponseMember v false) false false) k2 (rArr false x1.2).2).2 RN2 ∧ Row 106 4 a2 (lT x2.1).length c2 (es2.flatMap fk ++ reps [.string ⟨#[]⟩, .pointer none, .int .i16 0, .map none] ((lT x2.1).length - k2)) M2 ∧ es2.map (·.2) = (rMany (decV 10 (decP fs_sLeaveGroupResponseMember v false) false false) k2 (rArr false x1.2).2).1 ∧ ∀ p ∈ es2, At_LeaveGroupResponseMember H' p.2 (fk p)) [(2, .bool true), (7, .pointer (some ⟨b_1, 0, none⟩)), (9, .bool (decide ((4 : Int) ≤ v))), (10, .pointer (some ⟨b, 0, none⟩)), (13, .slice none 0 0), (14, .slice a2 (lT x2.1).length c2), (15, .int .i32 (rArr false x1.2).1), (16, .int .i32 (0 : Int))] (.cons rfl (.cons rfl (.cons rfl (.cons rfl (.cons rfl (.cons rfl (.cons rfl (.cons rfl (.nil _))))))))) ⟨[], Nr2, _, rfl, rfl, (hR56.mono le_6), hr2, rfl, (fun p hp => by cases hp)⟩ (fun k2 l' H' L' hk2 le_7 hI => ?_))
            obtain ⟨es2, M2, RN2, rfl, rfl, hR_2, hw_2, he_2, hg_2⟩ := hI
            have hs_2 := els_len he_2
            have hp_2 : (es2.flatMap fk).length = k2 * 4 := els_flat hs_2
            refine sq ?_
            refine sr ?_
            refine mv rfl rfl ?_
            refine mv rfl rfl ?_
            refine lt rfl rfl rfl ?_
            refine nl ?_
            refine cd rfl (fun h69 => ?_) (fun h69 => ?_)
            · skip
              have hkl2 : k2 < (lT x2.1).length := by omega
              obtain ⟨g2, po2, hga2, rfl, hbk2⟩ := hw_2.next (zs := [.string ⟨#[]⟩, .pointer none, .int .i16 0, .map none]) hkl2 rfl (by decide)
              have ho2 : 0 + k2 * 4 = (es2.flatMap fk).length := by rw [hp_2]; omega
              have hbz2 : ((decV 10 (decP fs_sLeaveGroupResponseMember v false) false false) (rMany (decV 10 (decP fs_sLeaveGroupResponseMember v false) false false) k2 (rArr false x1.2).2).2).2.bad = true → (decP fs_LeaveGroupResponse v false ⟨s, false, !a.isNone⟩).2.bad = true := fun h => hB2 (by rw [ex2]; exact rMany_mono (fun r h => decV_bad (fun r h => decP_bad _ _ _ r h) h) _ (show k2 + 1 ≤ (lT x2.1).length from hkl2) (by rw [rMany_succ]; exact h))
              have hLk2 : (rMany (decV 10 (decP fs_sLeaveGroupResponseMember v false) false false) k2 (rArr false x1.2).2).2.s.length ≤ BR := Nat.le_trans (rMany_shr (fun r => decV_shr (fun r => decP_shr _ _ _ r) r) _ _) hm2
              have hL2__ := hLk2
              obtain ⟨x2_0, hx2_0⟩ : ∃ x, x = stepF (Fd.mk 8 0 (-1) (-1) (-1) 0 0 []) v false (rMany (decV 10 (decP fs_sLeaveGroupResponseMember v false) false false) k2 (rArr false x1.2).2).2 := ⟨_, rfl⟩
              obtain ⟨x2_1, hx2_1⟩ : ∃ x, x = stepF (Fd.mk 8 0 (-1) 0 (-1) 0 0 []) v false x2_0.2 := ⟨_, rfl⟩
              obtain ⟨x2_2, hx2_2⟩ : ∃ x, x = stepF (Fd.mk 2 0 (-1) (-1) (-1) 0 0 []) v false x2_1.2 := ⟨_, rfl⟩
              obtain ⟨u2_, hu2_⟩ : ∃ x, x = tailU false x2_2.2 := ⟨_, rfl⟩
              have hD2_ : decP fs_sLeaveGroupResponseMember v false (rMany (decV 10 (decP fs_sLeaveGroupResponseMember v false) false false) k2 (rArr false x1.2).2).2 = (.mk 0 [] false [x2_0.1, x2_1.1, x2_2.1] u2_.1, u2_.2) := by
                generalize ((rMany (decV 10 (decP fs_sLeaveGroupResponseMember v false) false false) k2 (rArr false x1.2).2).2 : Rd) = r_ at hx2_0 ⊢
                rw [decP_eq]; unfold fs_sLeaveGroupResponseMember; simp only [decFs_cons, decFs_nil, ← hx2_0, ← hx2_1, ← hx2_2, ← hu2_]
              have hL2_0 : x2_0.2.s.length ≤ BR := by rw [hx2_0]; exact Nat.le_trans (stepF_shr _ _ _ _) hL2__
              have hL2_1 : x2_1.2.s.length ≤ BR := by rw [hx2_1]; exact Nat.le_trans (stepF_shr _ _ _ _) hL2_0
              have hL2_2 : x2_2.2.s.length ≤ BR := by rw [hx2_2]; exact Nat.le_trans (stepF_shr _ _ _ _) hL2_1
              have hE2_ : u2_.2.bad = true → (decP fs_LeaveGroupResponse v false ⟨s, false, !a.isNone⟩).2.bad = true := fun h => hbz2 (by show (decP fs_sLeaveGroupResponseMember v false (rMany (decV 10 (decP fs_sLeaveGroupResponseMember v false) false false) k2 (rArr false x1.2).2).2).2.bad = true; rw [hD2_]; exact h)
              have hB2_2 : x2_2.2.bad = true → (decP fs_LeaveGroupResponse v false ⟨s, false, !a.isNone⟩).2.bad = true := fun h => hE2_ (by rw [hu2_]; exact tailU_bad h)
              have hB2_1 : x2_1.2.bad = true → (decP fs_LeaveGroupResponse v false ⟨s, false, !a.isNone⟩).2.bad = true := fun h => hB2_2 (by rw [hx2_2]; exact step_bad h)
              have hB2_0 : x2_0.2.bad = true → (decP fs_LeaveGroupResponse v false ⟨s, false, !a.isNone⟩).2.bad = true := fun h => hB2_1 (by rw [hx2_1]; exact step_bad h)
              refine skt ?_
              refine sq ?_
              refine bl ?_
              refine sr ?_
              refine mv rfl rfl ?_
              refine mv rfl rfl ?_
              refine ixk (j := k2) Tryd.runUnderlying96 Tryd.sizeOf106 rfl hga2 rfl rfl hkl2 rfl ?_
              refine asg rfl rfl ?_
              refine nl ?_
              refine sr ?_
              refine mv rfl rfl ?_
              refine cl rfl rfl rfl (def_LeaveGroupResponseMember ho2) rfl (fun v_ H1 L1 hle_ hR_ => ?_)
              obtain ⟨rfl, rfl⟩ := hR_
              refine nl ?_
              refine sr ?_
              refine mv rfl rfl ?_
              refine asg rfl rfl ?_
              refine nl ?_
              refine sq ?_
              refine sr ?_
              refine asg rfl rfl ?_
              refine nl ?_
              refine sq ?_
              refine sr ?_
              refine mv rfl rfl ?_
              refine nl ?_
              refine cT rfl ?_
              refine sr ?_
              refine mv rfl rfl ?_
              refine nl ?_
              refine cdF rfl (by omega) ?_
              refine rg ?_
              refine tf (.tail .head) ?_
              have ex2_0 : x2_0 = decV 8 (decP [] v false) false false (rMany (decV 10 (decP fs_sLeaveGroupResponseMember v false) false false) k2 (rArr false x1.2).2).2 := (hx2_0.trans (step_yes (by decide) (show (0 : Int) ≤ v by omega) (Or.inl (by decide)))).trans (decF'_val (by decide) (rfl))
              refine cl rfl rfl rfl (d8fu hR_2 ex2_0) rfl (fun v_ H1 L1 le_8 hR_ => ?_)
              obtain ⟨N81, rfl, hR81, rfl, rfl⟩ := hR_
              refine asg rfl rfl ?_
              refine nl ?_
              refine rg ?_
              refine mv rfl rfl ?_
              refine mv rfl rfl ?_
              refine nc rfl rfl ?_
              refine fa F106_0 rfl rfl ?_
              refine stM (off := 0) Tryd.sizeOf9 rfl (by rw [ho2]) rfl rfl rfl (.tail .head) ?_
              refine nl ?_
              refine sq ?_
              refine sr ?_
              refine asg rfl rfl ?_
              refine nl ?_
              refine sq ?_
              refine sr ?_
              refine mv rfl rfl ?_
              refine nl ?_
              refine cdF rfl (by omega) ?_
              refine sr ?_
              refine mv rfl rfl ?_
              refine nl ?_
              refine cT rfl ?_
              refine rg ?_
              have ex2_1 : x2_1 = decV 8 (decP [] v false) true false x2_0.2 := (hx2_1.trans (step_yes (by decide) (show (0 : Int) ≤ v by omega) (Or.inl (by decide)))).trans (decF'_val (by decide) (by simp only [Bool.and_eq_true, decide_eq_true_eq]; exact ⟨show (0 : Int) ≤ 0 by decide, show (0 : Int) ≤ v by omega⟩))
              refine cl rfl rfl rfl (d8fnu hR81 ex2_1) rfl (fun v_ H1 L1 le_9 hR_ => ?_)
              obtain ⟨N94, rfl, hR94, p2_1, rfl, hf2_1⟩ := hR_
              refine asg rfl rfl ?_
              refine nl ?_
              refine rg ?_
              refine mv rfl rfl ?_
              refine mv rfl rfl ?_
              refine nc rfl rfl ?_
              refine fa F106_1 rfl rfl ?_
              refine stM (off := 1) Tryd.sizeOf104 rfl (by rw [ho2]) rfl rfl rfl (.tail .head) ?_
              refine nl ?_
              refine sq ?_
              refine sr ?_
              have ex2_2 : x2_2 = decV 2 (decP [] v false) false false x2_1.2 := (hx2_2.trans (step_yes (by decide) (show (0 : Int) ≤ v by omega) (Or.inl (by decide)))).trans (decF'_val (by decide) (rfl))
              refine cl rfl rfl rfl (d2 hR94 ex2_2) rfl (fun v_ H1 L1 hle_ hR_ => ?_)
              obtain ⟨N100, rfl, hR100, rfl, rfl⟩ := hR_
              refine asg rfl rfl ?_
              refine nl ?_
              refine rg ?_
              refine mv rfl rfl ?_
              refine mv rfl rfl ?_
              refine nc rfl rfl ?_
              refine fa F106_2 rfl rfl ?_
              refine stM (off := 2) Tryd.sizeOf45 rfl (by rw [ho2]) rfl rfl rfl (.tail .head) ?_
              refine nl ?_
              refine sr ?_
              refine mv rfl rfl ?_
              refine nl ?_
              refine cdF rfl (by omega) ?_
              refine skN ?_
              refine Nb ?_
              refine Nt ?_
              refine rg ?_
              refine mv rfl rfl ?_
              refine ad rfl rfl (c := ((k2 + 1 : Nat) : Int)) ((wrap32_le (by omega) (by omega)).trans (by omega)) rfl ?_
              refine asg rfl rfl ?_
              refine nN ?_
              obtain rfl : u2_ = ([], x2_2.2) := hu2_
              have hfs2 := flatMap_snoc' fk es2 ((⟨([.string ⟨x2_0.1.s.toArray⟩, .pointer p2_1, .int .i16 (IntKind.i16.wrap x2_2.1.n), .map none] : List Value), rfl, all_one rfl⟩, ((decV 10 (decP fs_sLeaveGroupResponseMember v false) false false) (rMany (decV 10 (decP fs_sLeaveGroupResponseMember v false) false false) k2 (rArr false x1.2).2).2).1) : KE 4)
              have hrw2 := hbk2 ([.string ⟨x2_0.1.s.toArray⟩, .pointer p2_1, .int .i16 (IntKind.i16.wrap x2_2.1.n), .map none] : List Value) rfl
              refine tfN (.tail .head) ?_
              refine fun a_ w_ hA hw => ⟨hkl2, _, _, _, hA.sub ?_, (le_7.trans le_9), hw, _, _, _, rfl, rfl, (by rw [rMany_succ]; show RdAt _ 193 b_1 (decP fs_sLeaveGroupResponseMember v false (rMany (decV 10 (decP fs_sLeaveGroupResponseMember v false) false false) k2 (rArr false x1.2).2).2).2 _; rw [hD2_]; exact hR100), (by rw [← hfs2]; exact hrw2), (dec_els he_2), (fun p hp => (mem_snoc hp).elim (fun h => At_LeaveGroupResponseMember.mono _ _ _ _ le_9 (hg_2 p h)) (fun h => h ▸ (by show At_LeaveGroupResponseMember _ (decP fs_sLeaveGroupResponseMember v false (rMany (decV 10 (decP fs_sLeaveGroupResponseMember v false) false false) k2 (rArr false x1.2).2).2).1 [.string ⟨x2_0.1.s.toArray⟩, .pointer p2_1, .int .i16 (IntKind.i16.wrap x2_2.1.n), .map none]; rw [hD2_]; exact ⟨p2_1, none, rfl, hf2_1, (KvAt.nil _)⟩)))⟩
              exact (.cons rfl (.cons rfl (.cons rfl (.cons rfl (.cons rfl (.cons rfl (.cons rfl (.cons rfl (.nil _)))))))))
            · skip
              have hkn_ : k2 = (lT x2.1).length := by omega
              subst hkn_
              have hw2_2 : Row 106 4 a2 (lT x2.1).length c2 (es2.flatMap fk) M2 := by have h := hw_2; rw [Nat.sub_self] at h; simpa [reps] using h
              refine frW hw2_2 .head (fun Hf2 hlf2 hfz2 => ?_)
              have hrs2 := RowsAt.row (R := At_LeaveGroupResponseMember) hfz2 hs_2.symm hw2_2.le.1 (fun p hp => At_LeaveGroupResponseMember.mono _ _ _ _ hlf2 (hg_2 p hp))
              rw [he_2] at hrs2
              have hf2 : ListAt Hf2 x2.1 4 At_LeaveGroupResponseMember a2 c2 := by rw [ex2]; exact listAt_of hrs2 hi2 (fun h => by have h1 := nul_le h; rw [show (lT x2.1).length = 0 by omega]; rfl)
              have hRx2 : RdAt Hf2 193 b_1 x2.2 RN2 := by rw [ex2]; exact (hR_2.mono hlf2)
              refine exX ?_
              refine XT ?_
              refine XT ?_
              refine Xb ?_
              refine Nt ?_
              refine sr ?_
              refine mv rfl rfl ?_
              refine asg rfl rfl ?_
              refine nl ?_
              refine rg ?_
              refine mv rfl rfl ?_
              refine mv rfl rfl ?_
              refine nc rfl rfl ?_
              refine fa0 F101_3 rfl rfl ?_
              refine st Tryd.sizeOf96 rfl rfl rfl rfl (.tail .head) ?_
              refine nN ?_
              refine fun a_ w_ hA hw => ⟨_, _, _, hA.sub ?_, (le_6.trans (le_7.trans hlf2)), hw, a2, c2, RN2, rfl, rfl, hRx2, hf2⟩
              exact (.cons rfl (.cons rfl (.cons rfl (.nil _))))
      · skip
        refine skN ?_
        obtain rfl : x2 = ((Tr.mk 0 [] true [] []), x1.2) := (hx2.trans (step_no (Or.inl (show v < (3 : Int) by omega)))).trans (by rw [dflF_eq]; rfl)
        refine fun a_ w_ hA hw => ⟨_, _, _, hA.sub ?_, (Fz.le.refl _), hw, none, 0, N42, rfl, rfl, hR42, (ListAt.none rfl)⟩
        exact (.cons rfl (.cons rfl (.cons rfl (.nil _))))
    · skip
      obtain ⟨a2, c2, Nj2, rfl, rfl, pj0, pj1⟩ := hI
      have hRj2 := pj0
      have hf2 := pj1
      refine sq ?_
      refine sr ?_
      refine mv rfl rfl ?_
      refine nl ?_
      refine cdF rfl (by omega) ?_
      refine skt ?_
      refine sr ?_
      refine cl rfl rfl rfl (r_complete hRj2 (he.mono (le_2.trans le_5))) rfl (fun v_ H1 L1 hle_ hR_ => ?_)
      obtain ⟨rfl, rfl, rfl⟩ := hR_
      refine asg rfl rfl ?_
      refine nl ?_
      refine drW .head ?_
      obtain rfl : u = ([], x2.2) := hu
      have hA_ := (show At_LeaveGroupResponse v _ (decP fs_LeaveGroupResponse v false _).1 [.int .i16 v, .int .i32 (IntKind.i32.wrap x0.1.n), .int .i16 (IntKind.i16.wrap x1.1.n), .slice a2 (lT x2.1).length c2, .map none] from (by rw [hD]; exact ⟨a2, c2, none, rfl, hf2, (KvAt.nil _)⟩))
      refine rT rfl rfl (le_2.trans le_5) (fun _ _ h => h) ⟨_, rfl, ?_⟩
      have hz := RdEnd.of (e := e) hA_
      rw [show (decP fs_LeaveGroupResponse v false _).2.bad = x2.2.bad by rw [hD]] at hz
      exact hz
theorem rd_LeaveGroupResponse_tu {H : Fz} {L : Own} {b : Nat} {v : Int} {a : Option Addr} {c : Nat} {s : List UInt8} {e : Value} (hB : BytesAt H a c s) (hL_ : s.length ≤ BR) (he : H.at 1 0 [e]) (hv0 : 4 ≤ v) (hv1 : v ≤ 5) :
    Fn Tryd.prog 122 [.pointer (some ⟨b, 0, none⟩), .slice a s.length c, .bool true] H ([(b, .cells [.int .i16 v, .int .i32 0, .int .i16 0, .slice none 0 0, .map none].toArray 101 (0, 0))] :: L) (fun r H' L' => ∃ cs : List Value, L' = [(b, .cells cs.toArray 101 (0, 0))] :: L ∧ RdEnd H' (At_LeaveGroupResponse v) (decP fs_LeaveGroupResponse v true ⟨s, false, !a.isNone⟩) e r cs) := by
  refine Fn.mk Tryd.call122 Tryd.func122 rfl Tryd.ntmps122 rfl ?_
  refine sr ?_
  refine asg rfl rfl ?_
  refine nl ?_
  refine sr ?_
  refine mv rfl rfl ?_
  refine cl rfl rfl rfl def0_LeaveGroupResponse rfl (fun v_ H1 L1 hle_ hR_ => ?_)
  obtain ⟨rfl, rfl⟩ := hR_
  refine nl ?_
  refine sr ?_
  refine mv rfl rfl ?_
  refine bd' S193 rfl rfl rfl ?_
  refine al Tryd.zeroValue193 rfl rfl (fun b_1 => ?_)
  refine sa Tryd.sizeOf193 rfl rfl rfl rfl rfl .head ?_
  have hR0_ : RdAt H 193 b_1 ⟨s, false, !a.isNone⟩ [(b_1, .cells [_, _].toArray 193 (0, 0))] := ⟨a, c, rfl, hB, by simp⟩
  obtain ⟨x0, hx0⟩ : ∃ x, x = stepF (Fd.mk 3 1 (-1) (-1) (-1) 0 0 []) v true ⟨s, false, !a.isNone⟩ := ⟨_, rfl⟩
  obtain ⟨x1, hx1⟩ : ∃ x, x = stepF (Fd.mk 2 0 (-1) (-1) (-1) 0 0 []) v true x0.2 := ⟨_, rfl⟩
  obtain ⟨x2, hx2⟩ : ∃ x, x = stepF (Fd.mk 11 3 (-1) (-1) (-1) 0 10 fs_sLeaveGroupResponseMember) v true x1.2 := ⟨_, rfl⟩
  obtain ⟨u, hu⟩ : ∃ x, x = tailU true x2.2 := ⟨_, rfl⟩
  have hD : decP fs_LeaveGroupResponse v true ⟨s, false, !a.isNone⟩ = (.mk 0 [] false [x0.1, x1.1, x2.1] u.1, u.2) := by
    generalize (⟨s, false, !a.isNone⟩ : Rd) = r_ at hx0 ⊢
    rw [decP_eq]; unfold fs_LeaveGroupResponse; simp only [decFs_cons, decFs_nil, ← hx0, ← hx1, ← hx2, ← hu]
  have hL0 : x0.2.s.length ≤ BR := by rw [hx0]; exact Nat.le_trans (stepF_shr _ _ _ _) hL_
  have hL1 : x1.2.s.length ≤ BR := by rw [hx1]; exact Nat.le_trans (stepF_shr _ _ _ _) hL0
  have hL2 : x2.2.s.length ≤ BR := by rw [hx2]; exact Nat.le_trans (stepF_shr _ _ _ _) hL1
  have hE : u.2.bad = true → (decP fs_LeaveGroupResponse v true ⟨s, false, !a.isNone⟩).2.bad = true := fun h => by rw [hD]; exact h
  have hB2 : x2.2.bad = true → (decP fs_LeaveGroupResponse v true ⟨s, false, !a.isNone⟩).2.bad = true := fun h => hE (by rw [hu]; exact tailU_bad h)
  have hB1 : x1.2.bad = true → (decP fs_LeaveGroupResponse v true ⟨s, false, !a.isNone⟩).2.bad = true := fun h => hB2 (by rw [hx2]; exact step_bad h)
  have hB0 : x0.2.bad = true → (decP fs_LeaveGroupResponse v true ⟨s, false, !a.isNone⟩).2.bad = true := fun h => hB1 (by rw [hx1]; exact step_bad h)
  refine nl ?_
  refine sr ?_
  refine mv rfl rfl ?_
  refine nc rfl rfl ?_
  refine fa0 F101_0 rfl rfl ?_
  refine ld (Says.own (.tail .head)) Tryd.isAgg45 rfl (Nat.zero_add _).symm rfl rfl ?_
  refine asg rfl rfl ?_
  refine nl ?_
  refine sr ?_
  refine mv rfl rfl ?_
  refine nl ?_
  refine sr ?_
  refine mv rfl rfl ?_
  refine ge rfl rfl rfl ?_
  refine asg rfl rfl ?_
  refine nl ?_
  refine sr ?_
  refine mv rfl rfl ?_
  refine nl ?_
  refine sr ?_
  refine mv rfl rfl ?_
  refine asg rfl rfl ?_
  refine nl ?_
  refine sq ?_
  refine sr ?_
  refine mv rfl rfl ?_
  refine ge rfl rfl rfl ?_
  refine nl ?_
  refine cdT rfl (by omega) ?_
  refine sr ?_
  have ex0 : x0 = decV 3 (decP [] v true) false true ⟨s, false, !a.isNone⟩ := (hx0.trans (step_yes (by decide) (show (1 : Int) ≤ v by omega) (Or.inl (by decide)))).trans (decF'_val (by decide) (rfl))
  refine cl rfl rfl rfl (d3 hR0_ ex0) rfl (fun v_ H1 L1 hle_ hR_ => ?_)
  obtain ⟨N37, rfl, hR37, rfl, rfl⟩ := hR_
  refine asg rfl rfl ?_
  refine nl ?_
  refine rg ?_
  refine mv rfl rfl ?_
  refine mv rfl rfl ?_
  refine nc rfl rfl ?_
  refine fa0 F101_1 rfl rfl ?_
  refine st Tryd.sizeOf21 rfl rfl rfl rfl (.tail .head) ?_
  refine nl ?_
  refine sq ?_
  refine sr ?_
  have ex1 : x1 = decV 2 (decP [] v true) false true x0.2 := (hx1.trans (step_yes (by decide) (show (0 : Int) ≤ v by omega) (Or.inl (by decide)))).trans (decF'_val (by decide) (rfl))
  refine cl rfl rfl rfl (d2 hR37 ex1) rfl (fun v_ H1 L1 hle_ hR_ => ?_)
  obtain ⟨N42, rfl, hR42, rfl, rfl⟩ := hR_
  refine asg rfl rfl ?_
  refine nl ?_
  refine rg ?_
  refine mv rfl rfl ?_
  refine mv rfl rfl ?_
  refine nc rfl rfl ?_
  refine fa0 F101_2 rfl rfl ?_
  refine st Tryd.sizeOf45 rfl rfl rfl rfl (.tail .head) ?_
  refine nl ?_
  refine sq ?_
  refine sr ?_
  refine mv rfl rfl ?_
  refine ge rfl rfl rfl ?_
  refine nl ?_
  refine cdT rfl (by omega) ?_
  refine sr ?_
  refine mv rfl rfl ?_
  refine nc rfl rfl ?_
  refine fa0 F101_3 rfl rfl ?_
  refine ld (Says.own (.tail .head)) Tryd.isAgg96 rfl (Nat.zero_add _).symm rfl rfl ?_
  refine asg rfl rfl ?_
  refine nl ?_
  refine sr ?_
  refine mv rfl rfl ?_
  refine asg rfl rfl ?_
  refine nl ?_
  refine sr ?_
  refine asg rfl rfl ?_
  refine nl ?_
  refine sq ?_
  refine sr ?_
  refine mv rfl rfl ?_
  refine nl ?_
  refine cdT rfl (by omega) ?_
  refine rg ?_
  have ey2 : x2 = (.mk 0 [] (if 0 ≤ ((-1) : Int) ∧ (v < ((-1) : Int) ∨ (rArr true x1.2).1 = 0) then false else decide ((rArr true x1.2).1 ≤ 0)) (rMany (decV 10 (decP fs_sLeaveGroupResponseMember v true) false true) (rArr true x1.2).1.toNat (rArr true x1.2).2).1 [], (rMany (decV 10 (decP fs_sLeaveGroupResponseMember v true) false true) (rArr true x1.2).1.toNat (rArr true x1.2).2).2) := (hx2.trans (step_yes (by decide) (show (3 : Int) ≤ v by omega) (Or.inl (by decide)))).trans (decF'_list rfl rfl)
  have hn2 : (rArr true x1.2).1.toNat = (lT x2.1).length := by rw [ey2]; exact (lT_many nul_le).symm
  have ex2 := ey2
  rw [hn2] at ex2
  have hl2 := rArr_le true x1.2
  have hm2 : (rArr true x1.2).2.s.length ≤ BR := Nat.le_trans (rArr_len true x1.2) hL1
  have hnb2 : (lT x2.1).length ≤ BR := by omega
  refine cl rfl rfl rfl (r_arrt hR42) rfl (fun v_ H1 L1 hle_ hR_ => ?_)
  obtain ⟨rfl, N55, rfl, hR55, rfl⟩ := hR_
  have hh2 := rArr_hi true x1.2
  refine asg rfl rfl ?_
  refine nl ?_
  refine sq ?_
  refine sr ?_
  refine cl rfl rfl rfl (r_ok hR55) rfl (fun v_ H1 L1 hle_ hR_ => ?_)
  obtain ⟨rfl, rfl, rfl⟩ := hR_
  refine nt rfl rfl ?_
  refine nl ?_
  refine cb rfl (fun h58 => ?_) (fun h58 => ?_)
  · skip
    have hbad_ : (rArr true x1.2).2.bad = true := by simpa using h58
    refine sr ?_
    refine cl rfl rfl rfl (r_complete hR55 he) rfl (fun v_ H1 L1 hle_ hR_ => ?_)
    obtain ⟨rfl, rfl, rfl⟩ := hR_
    refine asg rfl rfl ?_
    refine nl ?_
    refine drW .head ?_
    exact rT rfl rfl (Fz.le.refl _) (fun _ _ h => h) ⟨_, rfl, RdEnd.out (hB2 (by rw [ey2]; exact rMany_bad (fun r h => decV_bad (decP_bad _ _ _) h) _ _ hbad_)) hbad_⟩
  · skip
    refine skt ?_
    refine sr ?_
    refine mv rfl rfl ?_
    refine sh' (j := 0) Tryd.runUnderlying96 Tryd.sizeOf106 rfl rfl rfl (Nat.zero_le _) rfl ?_
    refine asg rfl rfl ?_
    refine nl ?_
    refine sq ?_
    refine sr ?_
    refine mv rfl rfl ?_
    refine gt rfl rfl rfl ?_
    refine nl ?_
    refine nulC2 ?_
    refine cutT (fun l' H' L' => ∃ (a2 : Option Addr), ∃ (c2 : Nat), ∃ (Nr2 : Chunk), [(2, .bool true), (7, .pointer (some ⟨b_1, 0, none⟩)), (9, .bool (decide ((4 : Int) ≤ v))), (10, .pointer (some ⟨b, 0, none⟩)), (13, .slice none 0 0), (14, .slice a2 (lT x2.1).length c2), (15, .int .i32 (rArr true x1.2).1)] = l' ∧ Nr2 :: N55 :: [(b, .cells [.int .i16 v, .int .i32 (IntKind.i32.wrap x0.1.n), .int .i16 (IntKind.i16.wrap x1.1.n), .slice none 0 0, .map none].toArray 101 (0, 0))] :: L = L' ∧ Row 106 4 a2 (lT x2.1).length c2 (reps [.string ⟨#[]⟩, .pointer none, .int .i16 0, .map none] (lT x2.1).length) Nr2 ∧ a2.isNone = (if 0 ≤ ((-1) : Int) ∧ (v < ((-1) : Int) ∨ (rArr true x1.2).1 = 0) then false else decide ((rArr true x1.2).1 ≤ 0))) ?_ (fun l' H' L' le_4 hI => ?_)
    · skip
      refine cd rfl (fun h63 => ?_) (fun h63 => ?_)
      · skip
        refine rg ?_
        refine mv rfl rfl ?_
        refine mv rfl rfl ?_
        refine apz (zs := [.string ⟨#[]⟩, .pointer none, .int .i16 0, .map none]) (m := (lT x2.1).length) Tryd.underlying96 Tryd.underlying21 I106 rfl rfl rfl (by omega) (by omega) (by have h9 := hnb2; unfold BR at h9; omega) (by have h9 := hnb2; unfold BR at h9; unfold maxLen; omega) rfl (fun g66 cp66 N66 r66 => ?_)
        refine asg rfl rfl ?_
        refine nN ?_
        refine drN (.tail .head) ?_
        refine fun a_ w_ hA hw => ⟨_, _, _, hA.sub ?_, (Fz.le.refl _), hw, (some ⟨g66, 0, none⟩), cp66, N66, rfl, rfl, r66, (by rw [if_neg (by omega)]; exact (decide_eq_false (by omega)).symm)⟩
        exact (.cons rfl (.cons rfl (.cons rfl (.cons rfl (.cons rfl (.cons rfl (.cons rfl (.nil _))))))))
      · skip
        refine skN ?_
        refine fun a_ w_ hA hw => ⟨_, _, _, hA.sub ?_, (Fz.le.refl _), hw, none, 0, [], rfl, rfl, (by rw [show (lT x2.1).length = 0 by omega]; exact (Row.nil _ _)), (by rw [if_neg (by omega)]; exact (decide_eq_true (by omega)).symm)⟩
        exact (.cons rfl (.cons rfl (.cons rfl (.cons rfl (.cons rfl (.cons (by rw [show (lT x2.1).length = 0 by omega]; rfl) (.cons rfl (.nil _))))))))
    · skip
      obtain ⟨a2, c2, Nr2, rfl, rfl, pj0, pj1⟩ := hI
      have hr2 := pj0
      have hi2 := pj1
      refine sq ?_
      refine sr ?_
      refine asg rfl rfl ?_
      refine nl ?_
      refine bl (lp ((lT x2.1).length) (fun k2 l' H' L' => ∃ (es2 : List (KE 4)) (M2 RN2 : Chunk), [(2, .bool true), (7, .pointer (some ⟨b_1, 0, none⟩)), (9, .bool (decide ((4 : Int) ≤ v))), (10, .pointer (some ⟨b, 0, none⟩)), (13, .slice none 0 0), (14, .slice a2 (lT x2.1).length c2), (15, .int .i32 (rArr true x1.2).1), (16, .int .i32 (k2 : Int))] = l' ∧ M2 :: RN2 :: [(b, .cells [.int .i16 v, .int .i32 (IntKind.i32.wrap x0.1.n), .int .i16 (IntKind.i16.wrap x1.1.n), .slice none 0 0, .map none].toArray 101 (0, 0))] :: L = L' ∧ RdAt H' 193 b_1 (rMany (decV 10 (decP fs_sLeaveGroupResponseMember v true) false true) k2 (rArr true x1.2).2).2 RN2 ∧ Row 106 4 a2 (lT x2.1).length c2 (es2.flatMap fk ++ reps [.string ⟨#[]⟩, .pointer none, .int .i16 0, .map none] ((lT x2.1).length - k2)) M2 ∧ es2.map (·.2) = (rMany (decV 10 (decP fs_sLeaveGroupResponseMember v true) false true) k2 (rArr true x1.2).2).1 ∧ ∀ p ∈ es2, At_LeaveGroupResponseMember H' p.2 (fk p)) [(2, .bool true), (7, .pointer (some ⟨b_1, 0, none⟩)), (9, .bool (decide ((4 : Int) ≤ v))), (10, .pointer (some ⟨b, 0, none⟩)), (13, .slice none 0 0), (14, .slice a2 (lT x2.1).length c2), (15, .int .i32 (rArr true x1.2).1), (16, .int .i32 (0 : Int))] (.cons rfl (.cons rfl (.cons rfl (.cons rfl (.cons rfl (.cons rfl (.cons rfl (.cons rfl (.nil _))))))))) ⟨[], Nr2, _, rfl, rfl, (hR55.mono le_4), hr2, rfl, (fun p hp => by cases hp)⟩ (fun k2 l' H' L' hk2 le_5 hI => ?_))
      obtain ⟨es2, M2, RN2, rfl, rfl, hR_2, hw_2, he_2, hg_2⟩ := hI
      have hs_2 := els_len he_2
      have hp_2 : (es2.flatMap fk).length = k2 * 4 := els_flat hs_2
      refine sq ?_
      refine sr ?_
      refine mv rfl rfl ?_
      refine mv rfl rfl ?_
      refine lt rfl rfl rfl ?_
      refine nl ?_
      refine cd rfl (fun h69 => ?_) (fun h69 => ?_)
      · skip
        have hkl2 : k2 < (lT x2.1).length := by omega
        obtain ⟨g2, po2, hga2, rfl, hbk2⟩ := hw_2.next (zs := [.string ⟨#[]⟩, .pointer none, .int .i16 0, .map none]) hkl2 rfl (by decide)
        have ho2 : 0 + k2 * 4 = (es2.flatMap fk).length := by rw [hp_2]; omega
        have hbz2 : ((decV 10 (decP fs_sLeaveGroupResponseMember v true) false true) (rMany (decV 10 (decP fs_sLeaveGroupResponseMember v true) false true) k2 (rArr true x1.2).2).2).2.bad = true → (decP fs_LeaveGroupResponse v true ⟨s, false, !a.isNone⟩).2.bad = true := fun h => hB2 (by rw [ex2]; exact rMany_mono (fun r h => decV_bad (fun r h => decP_bad _ _ _ r h) h) _ (show k2 + 1 ≤ (lT x2.1).length from hkl2) (by rw [rMany_succ]; exact h))
        have hLk2 : (rMany (decV 10 (decP fs_sLeaveGroupResponseMember v true) false true) k2 (rArr true x1.2).2).2.s.length ≤ BR := Nat.le_trans (rMany_shr (fun r => decV_shr (fun r => decP_shr _ _ _ r) r) _ _) hm2
        have hL2__ := hLk2
        obtain ⟨x2_0, hx2_0⟩ : ∃ x, x = stepF (Fd.mk 8 0 (-1) (-1) (-1) 0 0 []) v true (rMany (decV 10 (decP fs_sLeaveGroupResponseMember v true) false true) k2 (rArr true x1.2).2).2 := ⟨_, rfl⟩
        obtain ⟨x2_1, hx2_1⟩ : ∃ x, x = stepF (Fd.mk 8 0 (-1) 0 (-1) 0 0 []) v true x2_0.2 := ⟨_, rfl⟩
        obtain ⟨x2_2, hx2_2⟩ : ∃ x, x = stepF (Fd.mk 2 0 (-1) (-1) (-1) 0 0 []) v true x2_1.2 := ⟨_, rfl⟩
        obtain ⟨u2_, hu2_⟩ : ∃ x, x = tailU true x2_2.2 := ⟨_, rfl⟩
        have hD2_ : decP fs_sLeaveGroupResponseMember v true (rMany (decV 10 (decP fs_sLeaveGroupResponseMember v true) false true) k2 (rArr true x1.2).2).2 = (.mk 0 [] false [x2_0.1, x2_1.1, x2_2.1] u2_.1, u2_.2) := by
          generalize ((rMany (decV 10 (decP fs_sLeaveGroupResponseMember v true) false true) k2 (rArr true x1.2).2).2 : Rd) = r_ at hx2_0 ⊢
          rw [decP_eq]; unfold fs_sLeaveGroupResponseMember; simp only [decFs_cons, decFs_nil, ← hx2_0, ← hx2_1, ← hx2_2, ← hu2_]
        have hL2_0 : x2_0.2.s.length ≤ BR := by rw [hx2_0]; exact Nat.le_trans (stepF_shr _ _ _ _) hL2__
        have hL2_1 : x2_1.2.s.length ≤ BR := by rw [hx2_1]; exact Nat.le_trans (stepF_shr _ _ _ _) hL2_0
        have hL2_2 : x2_2.2.s.length ≤ BR := by rw [hx2_2]; exact Nat.le_trans (stepF_shr _ _ _ _) hL2_1
        have hE2_ : u2_.2.bad = true → (decP fs_LeaveGroupResponse v true ⟨s, false, !a.isNone⟩).2.bad = true := fun h => hbz2 (by show (decP fs_sLeaveGroupResponseMember v true (rMany (decV 10 (decP fs_sLeaveGroupResponseMember v true) false true) k2 (rArr true x1.2).2).2).2.bad = true; rw [hD2_]; exact h)
        have hB2_2 : x2_2.2.bad = true → (decP fs_LeaveGroupResponse v true ⟨s, false, !a.isNone⟩).2.bad = true := fun h => hE2_ (by rw [hu2_]; exact tailU_bad h)
        have hB2_1 : x2_1.2.bad = true → (decP fs_LeaveGroupResponse v true ⟨s, false, !a.isNone⟩).2.bad = true := fun h => hB2_2 (by rw [hx2_2]; exact step_bad h)
        have hB2_0 : x2_0.2.bad = true → (decP fs_LeaveGroupResponse v true ⟨s, false, !a.isNone⟩).2.bad = true := fun h => hB2_1 (by rw [hx2_1]; exact step_bad h)
        refine skt ?_
        refine sq ?_
        refine bl ?_
        refine sr ?_
        refine mv rfl rfl ?_
        refine mv rfl rfl ?_
        refine ixk (j := k2) Tryd.runUnderlying96 Tryd.sizeOf106 rfl hga2 rfl rfl hkl2 rfl ?_
        refine asg rfl rfl ?_
        refine nl ?_
        refine sr ?_
        refine mv rfl rfl ?_
        refine cl rfl rfl rfl (def_LeaveGroupResponseMember ho2) rfl (fun v_ H1 L1 hle_ hR_ => ?_)
        obtain ⟨rfl, rfl⟩ := hR_
        refine nl ?_
        refine sr ?_
        refine mv rfl rfl ?_
        refine asg rfl rfl ?_
        refine nl ?_
        refine sq ?_
        refine sr ?_
        refine asg rfl rfl ?_
        refine nl ?_
        refine sq ?_
        refine sr ?_
        refine mv rfl rfl ?_
        refine nl ?_
        refine cT rfl ?_
        refine sr ?_
        refine mv rfl rfl ?_
        refine nl ?_
        refine cdT rfl (by omega) ?_
        refine rg ?_
        refine tf (.tail .head) ?_
        have ex2_0 : x2_0 = decV 8 (decP [] v true) false true (rMany (decV 10 (decP fs_sLeaveGroupResponseMember v true) false true) k2 (rArr true x1.2).2).2 := (hx2_0.trans (step_yes (by decide) (show (0 : Int) ≤ v by omega) (Or.inl (by decide)))).trans (decF'_val (by decide) (rfl))
        refine cl rfl rfl rfl (d8tu hR_2 ex2_0) rfl (fun v_ H1 L1 le_6 hR_ => ?_)
        obtain ⟨N80, rfl, hR80, rfl, rfl⟩ := hR_
        refine asg rfl rfl ?_
        refine nl ?_
        refine rg ?_
        refine mv rfl rfl ?_
        refine mv rfl rfl ?_
        refine nc rfl rfl ?_
        refine fa F106_0 rfl rfl ?_
        refine stM (off := 0) Tryd.sizeOf9 rfl (by rw [ho2]) rfl rfl rfl (.tail .head) ?_
        refine nl ?_
        refine sq ?_
        refine sr ?_
        refine asg rfl rfl ?_
        refine nl ?_
        refine sq ?_
        refine sr ?_
        refine mv rfl rfl ?_
        refine nl ?_
        refine cdT rfl (by omega) ?_
        refine sr ?_
        refine mv rfl rfl ?_
        refine nl ?_
        refine cT rfl ?_
        refine rg ?_
        have ex2_1 : x2_1 = decV 8 (decP [] v true) true true x2_0.2 := (hx2_1.trans (step_yes (by decide) (show (0 : Int) ≤ v by omega) (Or.inl (by decide)))).trans (decF'_val (by decide) (by simp only [Bool.and_eq_true, decide_eq_true_eq]; exact ⟨show (0 : Int) ≤ 0 by decide, show (0 : Int) ≤ v by omega⟩))
        refine cl rfl rfl rfl (d8tnu hR80 ex2_1) rfl (fun v_ H1 L1 le_7 hR_ => ?_)
        obtain ⟨N91, rfl, hR91, p2_1, rfl, hf2_1⟩ := hR_
        refine asg rfl rfl ?_
        refine nl ?_
        refine rg ?_
        refine mv rfl rfl ?_
        refine mv rfl rfl ?_
        refine nc rfl rfl ?_
        refine fa F106_1 rfl rfl ?_
        refine stM (off := 1) Tryd.sizeOf104 rfl (by rw [ho2]) rfl rfl rfl (.tail .head) ?_
        refine nl ?_
        refine sq ?_
        refine sr ?_
        have ex2_2 : x2_2 = decV 2 (decP [] v true) false true x2_1.2 := (hx2_2.trans (step_yes (by decide) (show (0 : Int) ≤ v by omega) (Or.inl (by decide)))).trans (decF'_val (by decide) (rfl))
        refine cl rfl rfl rfl (d2 hR91 ex2_2) rfl (fun v_ H1 L1 hle_ hR_ => ?_)
        obtain ⟨N100, rfl, hR100, rfl, rfl⟩ := hR_
        refine asg rfl rfl ?_
        refine nl ?_
        refine rg ?_
        refine mv rfl rfl ?_
        refine mv rfl rfl ?_
        refine nc rfl rfl ?_
        refine fa F106_2 rfl rfl ?_
        refine stM (off := 2) Tryd.sizeOf45 rfl (by rw [ho2]) rfl rfl rfl (.tail .head) ?_
        refine nl ?_
        refine sr ?_
        refine mv rfl rfl ?_
        refine nl ?_
        refine cdT rfl (by omega) ?_
        refine rg ?_
        refine mv rfl rfl ?_
        refine cl rfl rfl rfl (d_tags hR100) rfl (fun v_ H1 L1 le_9 hR_ => ?_)
        obtain ⟨N107, rfl, hR107, m2_t, rfl, hft2_⟩ := hR_
        have hu22_ : u2_ = rTags x2_2.2 := hu2_
        rw [← hu22_] at hR107 hft2_
        refine nc rfl rfl ?_
        refine fa F106_3 rfl rfl ?_
        refine saM (off := 3) Tryd.sizeOf99 rfl (by rw [ho2]) rfl rfl rfl rfl (.tail .head) ?_
        refine nN ?_
        refine Nb ?_
        refine Nt ?_
        refine rg ?_
        refine mv rfl rfl ?_
        refine ad rfl rfl (c := ((k2 + 1 : Nat) : Int)) ((wrap32_le (by omega) (by omega)).trans (by omega)) rfl ?_
        refine asg rfl rfl ?_
        refine nN ?_
        have hfs2 := flatMap_snoc' fk es2 ((⟨([.string ⟨x2_0.1.s.toArray⟩, .pointer p2_1, .int .i16 (IntKind.i16.wrap x2_2.1.n), .map m2_t] : List Value), rfl, all_one rfl⟩, ((decV 10 (decP fs_sLeaveGroupResponseMember v true) false true) (rMany (decV 10 (decP fs_sLeaveGroupResponseMember v true) false true) k2 (rArr true x1.2).2).2).1) : KE 4)
        have hrw2 := hbk2 ([.string ⟨x2_0.1.s.toArray⟩, .pointer p2_1, .int .i16 (IntKind.i16.wrap x2_2.1.n), .map m2_t] : List Value) rfl
        refine tfN (.tail .head) ?_
        refine fun a_ w_ hA hw => ⟨hkl2, _, _, _, hA.sub ?_, (le_5.trans (le_7.trans le_9)), hw, _, _, _, rfl, rfl, (by rw [rMany_succ]; show RdAt _ 193 b_1 (decP fs_sLeaveGroupResponseMember v true (rMany (decV 10 (decP fs_sLeaveGroupResponseMember v true) false true) k2 (rArr true x1.2).2).2).2 _; rw [hD2_]; exact hR107), (by rw [← hfs2]; exact hrw2), (dec_els he_2), (fun p hp => (mem_snoc hp).elim (fun h => At_LeaveGroupResponseMember.mono _ _ _ _ (le_7.trans le_9) (hg_2 p h)) (fun h => h ▸ (by show At_LeaveGroupResponseMember _ (decP fs_sLeaveGroupResponseMember v true (rMany (decV 10 (decP fs_sLeaveGroupResponseMember v true) false true) k2 (rArr true x1.2).2).2).1 [.string ⟨x2_0.1.s.toArray⟩, .pointer p2_1, .int .i16 (IntKind.i16.wrap x2_2.1.n), .map m2_t]; rw [hD2_]; exact ⟨p2_1, m2_t, rfl, (hf2_1.mono le_9), hft2_⟩)))⟩
        exact (.cons rfl (.cons rfl (.cons rfl (.cons rfl (.cons rfl (.cons rfl (.cons rfl (.cons rfl (.nil _)))))))))
      · skip
        have hkn_ : k2 = (lT x2.1).length := by omega
        subst hkn_
        have hw2_2 : Row 106 4 a2 (lT x2.1).length c2 (es2.flatMap fk) M2 := by have h := hw_2; rw [Nat.sub_self] at h; simpa [reps] using h
        refine frW hw2_2 .head (fun Hf2 hlf2 hfz2 => ?_)
        have hrs2 := RowsAt.row (R := At_LeaveGroupResponseMember) hfz2 hs_2.symm hw2_2.le.1 (fun p hp => At_LeaveGroupResponseMember.mono _ _ _ _ hlf2 (hg_2 p hp))
        rw [he_2] at hrs2
        have hf2 : ListAt Hf2 x2.1 4 At_LeaveGroupResponseMember a2 c2 := by rw [ex2]; exact listAt_of hrs2 hi2 (fun h => by have h1 := nul_le h; rw [show (lT x2.1).length = 0 by omega]; rfl)
        have hRx2 : RdAt Hf2 193 b_1 x2.2 RN2 := by rw [ex2]; exact (hR_2.mono hlf2)
        refine exX ?_
        refine XT ?_
        refine XT ?_
        refine Xb ?_
        refine Nt ?_
        refine sr ?_
        refine mv rfl rfl ?_
        refine asg rfl rfl ?_
        refine nl ?_
        refine rg ?_
        refine mv rfl rfl ?_
        refine mv rfl rfl ?_
        refine nc rfl rfl ?_
        refine fa0 F101_3 rfl rfl ?_
        refine st Tryd.sizeOf96 rfl rfl rfl rfl (.tail .head) ?_
        refine nl ?_
        refine sq ?_
        refine sr ?_
        refine mv rfl rfl ?_
        refine nl ?_
        refine cdT rfl (by omega) ?_
        refine rg ?_
        refine mv rfl rfl ?_
        refine cl rfl rfl rfl (d_tags hRx2) rfl (fun v_ H1 L1 le_10 hR_ => ?_)
        obtain ⟨N117, rfl, hR117, mt, rfl, hft⟩ := hR_
        have hu2 : u = rTags x2.2 := hu
        rw [← hu2] at hR117 hft
        refine nc rfl rfl ?_
        refine fa0 F101_4 rfl rfl ?_
        refine sa Tryd.sizeOf99 rfl rfl rfl rfl rfl (.tail .head) ?_
        refine nl ?_
        refine sr ?_
        refine cl rfl rfl rfl (r_complete hR117 (he.mono (le_4.trans (le_5.trans (hlf2.trans le_10))))) rfl (fun v_ H1 L1 hle_ hR_ => ?_)
        obtain ⟨rfl, rfl, rfl⟩ := hR_
        refine asg rfl rfl ?_
        refine nl ?_
        refine drW .head ?_
        have hA_ := (show At_LeaveGroupResponse v _ (decP fs_LeaveGroupResponse v true _).1 [.int .i16 v, .int .i32 (IntKind.i32.wrap x0.1.n), .int .i16 (IntKind.i16.wrap x1.1.n), .slice a2 (lT x2.1).length c2, .map mt] from (by rw [hD]; exact ⟨a2, c2, mt, rfl, (hf2.mono At_LeaveGroupResponseMember.mono le_10), hft⟩))
        refine rT rfl rfl (le_4.trans (le_5.trans (hlf2.trans le_10))) (fun _ _ h => h) ⟨_, rfl, ?_⟩
        have hz := RdEnd.of (e := e) hA_
        rw [show (decP fs_LeaveGroupResponse v true _).2.bad = u.2.bad by rw [hD]] at hz
        exact hz
end Go.Sx

import Derived.Test.YtdnbgafbhifhoaaDoorSxTab
import Derived.Test.YtdnbgafbhifhoaaDoorBCreateACLsRequest
import Derived.Test.YtdnbgafbhifhoaaDoorRK2
import Derived.KernelRfl
set_option linter.unusedVariables false
set_option linter.unusedSimpArgs false
set_option maxRecDepth 100000
set_option maxHeartbeats 20000000
namespace Go.Sx
open Go.Proofs
theorem def_CreateACLsRequestCreation {H : Fz} {L : Own} {b o : Nat} {pre post : List Value} {c0 c1 c2 c3 c4 c5 c6 c7 : Value} (ho : o = pre.length) :
    Fn Tryd.prog 200 [.pointer (some ⟨b, o, none⟩)] H ([(b, .cells (pre ++ ([c0, c1, c2, c3, c4, c5, c6, c7] : List Value) ++ post).toArray 132 (0, 0))] :: L) (fun _ H' L' => H = H' ∧ L' = [(b, .cells (pre ++ ([c0, c1, .int .i8 3, c3, c4, c5, c6, c7] : List Value) ++ post).toArray 132 (0, 0))] :: L) := by
  refine Fn.mk Tryd.call200 Tryd.func200 rfl Tryd.ntmps200 rfl ?_
  refine rg ?_
  refine mv rfl rfl ?_
  refine nc rfl rfl ?_
  refine fa F132_2 rfl rfl ?_
  refine stM (off := 2) Tryd.sizeOf128 rfl (by rw [ho]) rfl rfl rfl .head ?_
  refine nN ?_
  exact fun _ _ hA hw => rn rfl (Fz.le.refl _) ⟨rfl, rfl⟩ hA hw
theorem def0_CreateACLsRequest {H : Fz} {L : Own} {b : Nat} {c0 c1 c2 : Value} :
    Fn Tryd.prog 135 [.pointer (some ⟨b, 0, none⟩)] H ([(b, .cells [c0, c1, c2].toArray 123 (0, 0))] :: L) (fun _ H' L' => H = H' ∧ L' = [(b, .cells [c0, c1, c2].toArray 123 (0, 0))] :: L) := by
  refine Fn.mk Tryd.call135 Tryd.func135 rfl Tryd.ntmps135 rfl ?_
  refine skN ?_
  exact fun _ _ hA hw => rn rfl (Fz.le.refl _) ⟨rfl, rfl⟩ hA hw
theorem rd_CreateACLsRequest_f {H : Fz} {L : Own} {b : Nat} {v : Int} {a : Option Addr} {c : Nat} {s : List UInt8} {e : Value} (hB : BytesAt H a c s) (hL_ : s.length ≤ BR) (he : H.at 1 0 [e]) (hv0 : 0 ≤ v) (hv1 : v ≤ 1) :
    Fn Tryd.prog 136 [.pointer (some ⟨b, 0, none⟩), .slice a s.length c, .bool false] H ([(b, .cells [.int .i16 v, .slice none 0 0, .map none].toArray 123 (0, 0))] :: L) (fun r H' L' => ∃ cs : List Value, L' = [(b, .cells cs.toArray 123 (0, 0))] :: L ∧ RdEnd H' (At_CreateACLsRequest v) (decP fs_CreateACLsRequest v false ⟨s, false, !a.isNone⟩) e r cs) := by
  refine Fn.mk Tryd.call136 Tryd.func136 rfl Tryd.ntmps136 rfl ?_
  refine sr ?_
  refine asg rfl rfl ?_
  refine nl ?_
  refine sr ?_
  refine mv rfl rfl ?_
  refine cl rfl rfl rfl def0_CreateACLsRequest rfl (fun v_ H1 L1 hle_ hR_ => ?_)
  obtain ⟨rfl, rfl⟩ := hR_
  refine nl ?_
  refine sr ?_
  refine mv rfl rfl ?_
  refine bd' S193 rfl rfl rfl ?_
  refine al Tryd.zeroValue193 rfl rfl (fun b_1 => ?_)
  refine sa Tryd.sizeOf193 rfl rfl rfl rfl rfl .head ?_
  have hR0_ : RdAt H 193 b_1 ⟨s, false, !a.isNone⟩ [(b_1, .cells [_, _].toArray 193 (0, 0))] := ⟨a, c, rfl, hB, by simp⟩
  obtain ⟨x0, hx0⟩ : ∃ x, x = stepF (Fd.mk 11 0 (-1) (-1) (-1) 0 10 fs_sCreateACLsRequestCreation) v false ⟨s, false, !a.isNone⟩ := ⟨_, rfl⟩
  obtain ⟨u, hu⟩ : ∃ x, x = tailU false x0.2 := ⟨_, rfl⟩
  have hD : decP fs_CreateACLsRequest v false ⟨s, false, !a.isNone⟩ = (.mk 0 [] false [x0.1] u.1, u.2) := by
    generalize (⟨s, false, !a.isNone⟩ : Rd) = r_ at hx0 ⊢
    rw [decP_eq]; unfold fs_CreateACLsRequest; simp only [decFs_cons, decFs_nil, ← hx0, ← hu]
  have hL0 : x0.2.s.length ≤ BR := by rw [hx0]; exact Nat.le_trans (stepF_shr _ _ _ _) hL_
  have hE : u.2.bad = true → (decP fs_CreateACLsRequest v false ⟨s, false, !a.isNone⟩).2.bad = true := fun h => by rw [hD]; exact h
  have hB0 : x0.2.bad = true → (decP fs_CreateACLsRequest v false ⟨s, false, !a.isNone⟩).2.bad = true := fun h => hE (by rw [hu]; exact tailU_bad h)
  refine nl ?_
  refine sr ?_
  refine mv rfl rfl ?_
  refine nc rfl rfl ?_
  refine fa0 F123_0 rfl rfl ?_
  refine ld (Says.own (.tail .head)) Tryd.isAgg45 rfl (Nat.zero_add _).symm rfl rfl ?_
  refine asg rfl rfl ?_
  refine nl ?_
  refine sr ?_
  refine mv rfl rfl ?_
  refine nl ?_
  refine sr ?_
  refine mv rfl rfl ?_
  refine ge rfl rfl rfl ?_
  refine asg rfl rfl ?_
  refine nl ?_
  refine sr ?_
  refine mv rfl rfl ?_
  refine nl ?_
  refine sr ?_
  refine mv rfl rfl ?_
  refine asg rfl rfl ?_
  refine nl ?_
  refine sq ?_
  refine sr ?_
  refine mv rfl rfl ?_
  refine nc rfl rfl ?_
  refine fa0 F123_1 rfl rfl ?_
  refine ld (Says.own (.tail .head)) Tryd.isAgg121 rfl (Nat.zero_add _).symm rfl rfl ?_
  refine asg rfl rfl ?_
  refine nl ?_
  refine sr ?_
  refine mv rfl rfl ?_
  refine asg rfl rfl ?_
  refine nl ?_
  refine sr ?_
  refine asg rfl rfl ?_
  refine nl ?_
  refine sq ?_
  refine sr ?_
  refine mv rfl rfl ?_
  refine nl ?_
  refine cdF rfl (by omega) ?_
  refine rg ?_
  have ey0 : x0 = (.mk 0 [] (if 0 ≤ ((-1) : Int) ∧ (v < ((-1) : Int) ∨ (rArr false ⟨s, false, !a.isNone⟩).1 = 0) then false else decide ((rArr false ⟨s, false, !a.isNone⟩).1 ≤ 0)) (rMany (decV 10 (decP fs_sCreateACLsRequestCreation v false) false false) (rArr false ⟨s, false, !a.isNone⟩).1.toNat (rArr false ⟨s, false, !a.isNone⟩).2).1 [], (rMany (decV 10 (decP fs_sCreateACLsRequestCreation v false) false false) (rArr false ⟨s, false, !a.isNone⟩).1.toNat (rArr false ⟨s, false, !a.isNone⟩).2).2) := (hx0.trans (step_yes (by decide) (show (0 : Int) ≤ v by omega) (Or.inl (by decide)))).trans (decF'_list rfl rfl)
  have hn0 : (rArr false ⟨s, false, !a.isNone⟩).1.toNat = (lT x0.1).length := by rw [ey0]; exact (lT_many nul_le).symm
  have ex0 := ey0
  rw [hn0] at ex0
  have hl0 := rArr_le false ⟨s, false, !a.isNone⟩
  have hm0 : (rArr false ⟨s, false, !a.isNone⟩).2.s.length ≤ BR := Nat.le_trans (rArr_len false ⟨s, false, !a.isNone⟩) hL_
  have hnb0 : (lT x0.1).length ≤ BR := by omega
  refine cl rfl rfl rfl (r_arrf hR0_) rfl (fun v_ H1 L1 hle_ hR_ => ?_)
  obtain ⟨rfl, N52, rfl, hR52, rfl⟩ := hR_
  have hh0 := rArr_hi false ⟨s, false, !a.isNone⟩
  refine asg rfl rfl ?_
  refine nl ?_
  refine sq ?_
  refine sr ?_
  refine cl rfl rfl rfl (r_ok hR52) rfl (fun v_ H1 L1 hle_ hR_ => ?_)
  obtain ⟨rfl, rfl, rfl⟩ := hR_
  refine nt rfl rfl ?_
  refine nl ?_
  refine cb rfl (fun h54 => ?_) (fun h54 => ?_)
  · skip
    have hbad_ : (rArr false ⟨s, false, !a.isNone⟩).2.bad = true := by simpa using h54
    refine sr ?_
    refine cl rfl rfl rfl (r_complete hR52 he) rfl (fun v_ H1 L1 hle_ hR_ => ?_)
    obtain ⟨rfl, rfl, rfl⟩ := hR_
    refine asg rfl rfl ?_
    refine nl ?_
    refine drW .head ?_
    exact rT rfl rfl (Fz.le.refl _) (fun _ _ h => h) ⟨_, rfl, RdEnd.out (hB0 (by rw [ey0]; exact rMany_bad (fun r h => decV_bad (decP_bad _ _ _) h) _ _ hbad_)) hbad_⟩
  · skip
    refine skt ?_
    refine sr ?_
    refine mv rfl rfl ?_
    refine sh' (j := 0) Tryd.runUnderlying121 Tryd.sizeOf132 rfl rfl rfl (Nat.zero_le _) rfl ?_
    refine asg rfl rfl ?_
    refine nl ?_
    refine sq ?_
    refine sr ?_
    refine mv rfl rfl ?_
    refine gt rfl rfl rfl ?_
    refine nl ?_
    refine nulC2 ?_
    refine cutT (fun l' H' L' => ∃ (a0 : Option Addr), ∃ (c0 : Nat), ∃ (Nr0 : Chunk), [(2, .bool false), (7, .pointer (some ⟨b_1, 0, none⟩)), (8, .int .i16 v), (9, .bool (decide ((2 : Int) ≤ v))), (10, .pointer (some ⟨b, 0, none⟩)), (11, .slice none 0 0), (12, .slice a0 (lT x0.1).length c0), (13, .int .i32 (rArr false ⟨s, false, !a.isNone⟩).1)] = l' ∧ Nr0 :: N52 :: [(b, .cells [.int .i16 v, .slice none 0 0, .map none].toArray 123 (0, 0))] :: L = L' ∧ Row 132 8 a0 (lT x0.1).length c0 (reps [.int .i8 0, .string ⟨#[]⟩, .int .i8 0, .string ⟨#[]⟩, .string ⟨#[]⟩, .int .i8 0, .int .i8 0, .map none] (lT x0.1).length) Nr0 ∧ a0.isNone = (if 0 ≤ ((-1) : Int) ∧ (v < ((-1) : Int) ∨ (rArr false ⟨s, false, !a.isNone⟩).1 = 0) then false else decide ((rArr false ⟨s, false, !a.isNone⟩).1 ≤ 0))) ?_ (fun l' H' L' le_2 hI => ?_)
    · skip
      refine cd rfl (fun h59 => ?_) (fun h59 => ?_)
      · skip
        refine rg ?_
        refine mv rfl rfl ?_
        refine mv rfl rfl ?_
        refine apz (zs := [.int .i8 0, .string ⟨#[]⟩, .int .i8 0, .string ⟨#[]⟩, .string ⟨#[]⟩, .int .i8 0, .int .i8 0, .map none]) (m := (lT x0.1).length) Tryd.underlying121 Tryd.underlying21 I132 rfl rfl rfl (by omega) (by omega) (by have h9 := hnb0; unfold BR at h9; omega) (by have h9 := hnb0; unfold BR at h9; unfold maxLen; omega) rfl (fun g62 cp62 N62 r62 => ?_)
        refine asg rfl rfl ?_
        refine nN ?_
        refine drN (.tail .head) ?_
        refine fun a_ w_ hA hw => ⟨_, _, _, hA.sub ?_, (Fz.le.refl _), hw, (some ⟨g62, 0, none⟩), cp62, N62, rfl, rfl, r62, (by rw [if_neg (by omega)]; exact (decide_eq_false (by omega)).symm)⟩
        exact (.cons rfl (.cons rfl (.cons rfl (.cons rfl (.cons rfl (.cons rfl (.cons rfl (.cons rfl (.nil _)))))))))
      · skip
        refine skN ?_
        refine fun a_ w_ hA hw => ⟨_, _, _, hA.sub ?_, (Fz.le.refl _), hw, none, 0, [], rfl, rfl, (by rw [show (lT x0.1).length = 0 by omega]; exact (Row.nil _ _)), (by rw [if_neg (by omega)]; exact (decide_eq_true (by omega)).symm)⟩
        exact (.cons rfl (.cons rfl (.cons rfl (.cons rfl (.cons rfl (.cons rfl (.cons (by rw [show (lT x0.1).length = 0 by omega]; rfl) (.cons rfl (.nil _)))))))))
    · skip
      obtain ⟨a0, c0, Nr0, rfl, rfl, pj0, pj1⟩ := hI
      have hr0 := pj0
      have hi0 := pj1
      refine sq ?_
      refine sr ?_
      refine asg rfl rfl ?_
      refine nl ?_
      refine bl (lp ((lT x0.1).length) (fun k0 l' H' L' => ∃ (es0 : List (KE 8)) (M0 RN0 : Chunk), [(2, .bool false), (7, .pointer (some ⟨b_1, 0, none⟩)), (8, .int .i16 v), (9, .bool (decide ((2 : Int) ≤ v))), (10, .pointer (some ⟨b, 0, none⟩)), (11, .slice none 0 0), (12, .slice a0 (lT x0.1).length c0), (13, .int .i32 (rArr false ⟨s, false, !a.isNone⟩).1), (14, .int .i32 (k0 : Int))] = l' ∧ M0 :: RN0 :: [(b, .cells [.int .i16 v, .slice none 0 0, .map none].toArray 123 (0, 0))] :: L = L' ∧ RdAt H' 193 b_1 (rMany (decV 10 (decP fs_sCreateACLsRequestCreation v false) false false) k0 (rArr false ⟨s, false, !a.isNone⟩).2).2 RN0 ∧ Row 132 8 a0 (lT x0.1).length c0 (es0.flatMap fk ++ reps [.int .i8 0, .string ⟨#[]⟩, .int .i8 0, .string ⟨#[]⟩, .string ⟨#[]⟩, .int .i8 0, .int .i8 0, .map none] ((lT x0.1).length - k0)) M0 ∧ es0.map (·.2) = (rMany (decV 10 (decP fs_sCreateACLsRequestCreation v false) false false) k0 (rArr false ⟨s, false, !a.isNone⟩).2).1 ∧ ∀ p ∈ es0, At_CreateACLsRequestCreation H' p.2 (fk p)) [(2, .bool false), (7, .pointer (some ⟨b_1, 0, none⟩)), (8, .int .i16 v), (9, .bool (decide ((2 : Int) ≤ v))), (10, .pointer (some ⟨b, 0, none⟩)), (11, .slice none 0 0), (12, .slice a0 (lT x0.1).length c0), (13, .int .i32 (rArr false ⟨s, false, !a.isNone⟩).1), (14, .int .i32 (0 : Int))] (.cons rfl (.cons rfl (.cons rfl (.cons rfl (.cons rfl (.cons rfl (.cons rfl (.cons rfl (.cons rfl (.nil _)))))))))) ⟨[], Nr0, _, rfl, rfl, (hR52.mono le_2), hr0, rfl, (fun p hp => by cases hp)⟩ (fun k0 l' H' L' hk0 le_3 hI => ?_))
      obtain ⟨es0, M0, RN0, rfl, rfl, hR_0, hw_0, he_0, hg_0⟩ := hI
      have hs_0 := els_len he_0
      have hp_0 : (es0.flatMap fk).length = k0 * 8 := els_flat hs_0
      refine sq ?_
      refine sr ?_
      refine mv rfl rfl ?_
      refine mv rfl rfl ?_
      refine lt rfl rfl rfl ?_
      refine nl ?_
      refine cd rfl (fun h65 => ?_) (fun h65 => ?_)
      · skip
        have hkl0 : k0 < (lT x0.1).length := by omega
        obtain ⟨g0, po0, hga0, rfl, hbk0⟩ := hw_0.next (zs := [.int .i8 0, .string ⟨#[]⟩, .int .i8 0, .string ⟨#[]⟩, .string ⟨#[]⟩, .int .i8 0, .int .i8 0, .map none]) hkl0 rfl (by decide)
        have ho0 : 0 + k0 * 8 = (es0.flatMap fk).length := by rw [hp_0]; omega
        have hbz0 : ((decV 10 (decP fs_sCreateACLsRequestCreation v false) false false) (rMany (decV 10 (decP fs_sCreateACLsRequestCreation v false) false false) k0 (rArr false ⟨s, false, !a.isNone⟩).2).2).2.bad = true → (decP fs_CreateACLsRequest v false ⟨s, false, !a.isNone⟩).2.bad = true := fun h => hB0 (by rw [ex0]; exact rMany_mono (fun r h => decV_bad (fun r h => decP_bad _ _ _ r h) h) _ (show k0 + 1 ≤ (lT x0.1).length from hkl0) (by rw [rMany_succ]; exact h))
        have hLk0 : (rMany (decV 10 (decP fs_sCreateACLsRequestCreation v false) false false) k0 (rArr false ⟨s, false, !a.isNone⟩).2).2.s.length ≤ BR := Nat.le_trans (rMany_shr (fun r => decV_shr (fun r => decP_shr _ _ _ r) r) _ _) hm0
        have hL0__ := hLk0
        obtain ⟨x0_0, hx0_0⟩ : ∃ x, x = stepF (Fd.mk 1 0 (-1) (-1) (-1) 0 0 []) v false (rMany (decV 10 (decP fs_sCreateACLsRequestCreation v false) false false) k0 (rArr false ⟨s, false, !a.isNone⟩).2).2 := ⟨_, rfl⟩
        obtain ⟨x0_1, hx0_1⟩ : ∃ x, x = stepF (Fd.mk 8 0 (-1) (-1) (-1) 0 0 []) v false x0_0.2 := ⟨_, rfl⟩
        obtain ⟨x0_2, hx0_2⟩ : ∃ x, x = stepF (Fd.mk 1 1 (-1) (-1) (-1) 3 0 []) v false x0_1.2 := ⟨_, rfl⟩
        obtain ⟨x0_3, hx0_3⟩ : ∃ x, x = stepF (Fd.mk 8 0 (-1) (-1) (-1) 0 0 []) v false x0_2.2 := ⟨_, rfl⟩
        obtain ⟨x0_4, hx0_4⟩ : ∃ x, x = stepF (Fd.mk 8 0 (-1) (-1) (-1) 0 0 []) v false x0_3.2 := ⟨_, rfl⟩
        obtain ⟨x0_5, hx0_5⟩ : ∃ x, x = stepF (Fd.mk 1 0 (-1) (-1) (-1) 0 0 []) v false x0_4.2 := ⟨_, rfl⟩
        obtain ⟨x0_6, hx0_6⟩ : ∃ x, x = stepF (Fd.mk 1 0 (-1) (-1) (-1) 0 0 []) v false x0_5.2 := ⟨_, rfl⟩
        obtain ⟨u0_, hu0_⟩ : ∃ x, x = tailU false x0_6.2 := ⟨_, rfl⟩
        have hD0_ : decP fs_sCreateACLsRequestCreation v false (rMany (decV 10 (decP fs_sCreateACLsRequestCreation v false) false false) k0 (rArr false ⟨s, false, !a.isNone⟩).2).2 = (.mk 0 [] false [x0_0.1, x0_1.1, x0_2.1, x0_3.1, x0_4.1, x0_5.1, x0_6.1] u0_.1, u0_.2) := by
          generalize ((rMany (decV 10 (decP fs_sCreateACLsRequestCreation v false) false false) k0 (rArr false ⟨s, false, !a.isNone⟩).2).2 : Rd) = r_ at hx0_0 ⊢
          rw [decP_eq]; unfold fs_sCreateACLsRequestCreation; simp only [decFs_cons, decFs_nil, ← hx0_0, ← hx0_1, ← hx0_2, ← hx0_3, ← hx0_4, ← hx0_5, ← hx0_6, ← hu0_]
        have hL0_0 : x0_0.2.s.length ≤ BR := by rw [hx0_0]; exact Nat.le_trans (stepF_shr _ _ _ _) hL0__
        have hL0_1 : x0_1.2.s.length ≤ BR := by rw [hx0_1]; exact Nat.le_trans (stepF_shr _ _ _ _) hL0_0
        have hL0_2 : x0_2.2.s.length ≤ BR := by rw [hx0_2]; exact Nat.le_trans (stepF_shr _ _ _ _) hL0_1
        have hL0_3 : x0_3.2.s.length ≤ BR := by rw [hx0_3]; exact Nat.le_trans (stepF_shr _ _ _ _) hL0_2
        have hL0_4 : x0_4.2.s.length ≤ BR := by rw [hx0_4]; exact Nat.le_trans (stepF_shr _ _ _ _) hL0_3
        have hL0_5 : x0_5.2.s.length ≤ BR := by rw [hx0_5]; exact Nat.le_trans (stepF_shr _ _ _ _) hL0_4
        have hL0_6 : x0_6.2.s.length ≤ BR := by rw [hx0_6]; exact Nat.le_trans (stepF_shr _ _ _ _) hL0_5
        have hE0_ : u0_.2.bad = true → (decP fs_CreateACLsRequest v false ⟨s, false, !a.isNone⟩).2.bad = true := fun h => hbz0 (by show (decP fs_sCreateACLsRequestCreation v false (rMany (decV 10 (decP fs_sCreateACLsRequestCreation v false) false false) k0 (rArr false ⟨s, false, !a.isNone⟩).2).2).2.bad = true; rw [hD0_]; exact h)
        have hB0_6 : x0_6.2.bad = true → (decP fs_CreateACLsRequest v false ⟨s, false, !a.isNone⟩).2.bad = true := fun h => hE0_ (by rw [hu0_]; exact tailU_bad h)
        have hB0_5 : x0_5.2.bad = true → (decP fs_CreateACLsRequest v false ⟨s, false, !a.isNone⟩).2.bad = true := fun h => hB0_6 (by rw [hx0_6]; exact step_bad h)
        have hB0_4 : x0_4.2.bad = true → (decP fs_CreateACLsRequest v false ⟨s, false, !a.isNone⟩).2.bad = true := fun h => hB0_5 (by rw [hx0_5]; exact step_bad h)
        have hB0_3 : x0_3.2.bad = true → (decP fs_CreateACLsRequest v false ⟨s, false, !a.isNone⟩).2.bad = true := fun h => hB0_4 (by rw [hx0_4]; exact step_bad h)
        have hB0_2 : x0_2.2.bad = true → (decP fs_CreateACLsRequest v false ⟨s, false, !a.isNone⟩).2.bad = true := fun h => hB0_3 (by rw [hx0_3]; exact step_bad h)
        have hB0_1 : x0_1.2.bad = true → (decP fs_CreateACLsRequest v false ⟨s, false, !a.isNone⟩).2.bad = true := fun h => hB0_2 (by rw [hx0_2]; exact step_bad h)
        have hB0_0 : x0_0.2.bad = true → (decP fs_CreateACLsRequest v false ⟨s, false, !a.isNone⟩).2.bad = true := fun h => hB0_1 (by rw [hx0_1]; exact step_bad h)
        refine skt ?_
        refine sq ?_
        refine bl ?_
        refine sr ?_
        refine mv rfl rfl ?_
        refine mv rfl rfl ?_
        refine ixk (j := k0) Tryd.runUnderlying121 Tryd.sizeOf132 rfl hga0 rfl rfl hkl0 rfl ?_
        refine asg rfl rfl ?_
        refine nl ?_
        refine sr ?_
        refine mv rfl rfl ?_
        refine cl rfl rfl rfl (def_CreateACLsRequestCreation ho0) rfl (fun v_ H1 L1 hle_ hR_ => ?_)
        obtain ⟨rfl, rfl⟩ := hR_
        refine nl ?_
        refine sr ?_
        refine mv rfl rfl ?_
        refine asg rfl rfl ?_
        refine nl ?_
        refine sq ?_
        refine sr ?_
        refine asg rfl rfl ?_
        refine nl ?_
        refine sq ?_
        refine sr ?_
        refine tf (.tail .head) ?_
        have ex0_0 : x0_0 = decV 1 (decP [] v false) false false (rMany (decV 10 (decP fs_sCreateACLsRequestCreation v false) false false) k0 (rArr false ⟨s, false, !a.isNone⟩).2).2 := (hx0_0.trans (step_yes (by decide) (show (0 : Int) ≤ v by omega) (Or.inl (by decide)))).trans (decF'_val (by decide) (rfl))
        refine cl rfl rfl rfl (d1 hR_0 ex0_0) rfl (fun v_ H1 L1 hle_ hR_ => ?_)
        obtain ⟨N74, rfl, hR74, rfl, rfl⟩ := hR_
        refine asg rfl rfl ?_
        refine nl ?_
        refine rg ?_
        refine mv rfl rfl ?_
        refine asg rfl rfl ?_
        refine nl ?_
        refine sr ?_
        refine mv rfl rfl ?_
        refine asg rfl rfl ?_
        refine nl ?_
        refine rg ?_
        refine mv rfl rfl ?_
        refine mv rfl rfl ?_
        refine nc rfl rfl ?_
        refine fa F132_0 rfl rfl ?_
        refine stM (off := 0) Tryd.sizeOf127 rfl (by rw [ho0]) rfl rfl rfl (.tail .head) ?_
        refine nl ?_
        refine sq ?_
        refine sr ?_
        refine asg rfl rfl ?_
        refine nl ?_
        refine sq ?_
        refine sr ?_
        refine mv rfl rfl ?_
        refine nl ?_
        refine cF rfl ?_
        refine sr ?_
        refine mv rfl rfl ?_
        refine nl ?_
        refine cdF rfl (by omega) ?_
        refine rg ?_
        have ex0_1 : x0_1 = decV 8 (decP [] v false) false false x0_0.2 := (hx0_1.trans (step_yes (by decide) (show (0 : Int) ≤ v by omega) (Or.inl (by decide)))).trans (decF'_val (by decide) (rfl))
        refine cl rfl rfl rfl (d8f hR74 ex0_1) rfl (fun v_ H1 L1 le_5 hR_ => ?_)
        obtain ⟨N87, rfl, hR87, rfl, rfl⟩ := hR_
        refine asg rfl rfl ?_
        refine nl ?_
        refine rg ?_
        refine mv rfl rfl ?_
        refine mv rfl rfl ?_
        refine nc rfl rfl ?_
        refine fa F132_1 rfl rfl ?_
        refine stM (off := 1) Tryd.sizeOf9 rfl (by rw [ho0]) rfl rfl rfl (.tail .head) ?_
        refine nl ?_
        refine sq ?_
        refine sr ?_
        refine mv rfl rfl ?_
        refine ge rfl rfl rfl ?_
        refine nl ?_
        refine cutT (fun l' H' L' => ∃ (Nj0_2 : Chunk), [(2, .bool false), (7, .pointer (some ⟨b_1, 0, none⟩)), (8, .int .i16 v), (9, .bool (decide ((2 : Int) ≤ v))), (10, .pointer (some ⟨b, 0, none⟩)), (11, .slice none 0 0), (12, .slice a0 (lT x0.1).length c0), (13, .int .i32 (rArr false ⟨s, false, !a.isNone⟩).1), (14, .int .i32 (k0 : Int)), (16, .pointer (some ⟨g0, 0 + k0 * 8, none⟩))] = l' ∧ Nj0_2 :: [(g0, .cells ((es0.flatMap fk) ++ ([.int .i8 (IntKind.i8.wrap x0_0.1.n), .string ⟨x0_1.1.s.toArray⟩, .int .i8 (IntKind.i8.wrap x0_2.1.n), .string ⟨#[]⟩, .string ⟨#[]⟩, .int .i8 0, .int .i8 0, .map none] : List Value) ++ po0).toArray 132 (0, 0))] :: [(b, .cells [.int .i16 v, .slice none 0 0, .map none].toArray 123 (0, 0))] :: L = L' ∧ RdAt H' 193 b_1 x0_2.2 Nj0_2) ?_ (fun l' H' L' le_6 hI => ?_)
        · skip
          refine cd rfl (fun h93 => ?_) (fun h93 => ?_)
          · skip
            refine sr ?_
            refine asg rfl rfl ?_
            refine nl ?_
            refine sq ?_
            refine sr ?_
            have ex0_2 : x0_2 = decV 1 (decP [] v false) false false x0_1.2 := (hx0_2.trans (step_yes (by decide) (show (1 : Int) ≤ v by omega) (Or.inl (by decide)))).trans (decF'_val (by decide) (rfl))
            refine cl rfl rfl rfl (d1 hR87 ex0_2) rfl (fun v_ H1 L1 hle_ hR_ => ?_)
            obtain ⟨N94, rfl, hR94, rfl, rfl⟩ := hR_
            refine asg rfl rfl ?_
            refine nl ?_
            refine rg ?_
            refine mv rfl rfl ?_
            refine asg rfl rfl ?_
            refine nl ?_
            refine sr ?_
            refine mv rfl rfl ?_
            refine asg rfl rfl ?_
            refine nl ?_
            refine rg ?_
            refine mv rfl rfl ?_
            refine mv rfl rfl ?_
            refine nc rfl rfl ?_
            refine fa F132_2 rfl rfl ?_
            refine stM (off := 2) Tryd.sizeOf128 rfl (by rw [ho0]) rfl rfl rfl (.tail .head) ?_
            refine nN ?_
            refine fun a_ w_ hA hw => ⟨_, _, _, hA.sub ?_, (Fz.le.refl _), hw, N94, rfl, rfl, hR94⟩
            exact (.cons rfl (.cons rfl (.cons rfl (.cons rfl (.cons rfl (.cons rfl (.cons rfl (.cons rfl (.cons rfl (.cons rfl (.nil _)))))))))))
          · skip
            refine skN ?_
            obtain rfl : x0_2 = ((Tr.mk 3 [] false [] []), x0_1.2) := (hx0_2.trans (step_no (Or.inl (show v < (1 : Int) by omega)))).trans (by rw [dflF_eq]; rfl)
            refine fun a_ w_ hA hw => ⟨_, _, _, hA.sub ?_, (Fz.le.refl _), hw, N87, rfl, rfl, hR87⟩
            exact (.cons rfl (.cons rfl (.cons rfl (.cons rfl (.cons rfl (.cons rfl (.cons rfl (.cons rfl (.cons rfl (.cons rfl (.nil _)))))))))))
        · skip
          obtain ⟨Nj0_2, rfl, rfl, pj0⟩ := hI
          have hRj0_2 := pj0
          refine sq ?_
          refine sr ?_
          refine asg rfl rfl ?_
          refine nl ?_
          refine sq ?_
          refine sr ?_
          refine mv rfl rfl ?_
          refine nl ?_
          refine cF rfl ?_
          refine sr ?_
          refine mv rfl rfl ?_
          refine nl ?_
          refine cdF rfl (by omega) ?_
          refine rg ?_
          have ex0_3 : x0_3 = decV 8 (decP [] v false) false false x0_2.2 := (hx0_3.trans (step_yes (by decide) (show (0 : Int) ≤ v by omega) (Or.inl (by decide)))).trans (decF'_val (by decide) (rfl))
          refine cl rfl rfl rfl (d8f hRj0_2 ex0_3) rfl (fun v_ H1 L1 le_8 hR_ => ?_)
          obtain ⟨N107, rfl, hR107, rfl, rfl⟩ := hR_
          refine asg rfl rfl ?_
          refine nl ?_
          refine rg ?_
          refine mv rfl rfl ?_
          refine mv rfl rfl ?_
          refine nc rfl rfl ?_
          refine fa F132_3 rfl rfl ?_
          refine stM (off := 3) Tryd.sizeOf9 rfl (by rw [ho0]) rfl rfl rfl (.tail .head) ?_
          refine nl ?_
          refine sq ?_
          refine sr ?_
          refine asg rfl rfl ?_
          refine nl ?_
          refine sq ?_
          refine sr ?_
          refine mv rfl rfl ?_
          refine nl ?_
          refine cF rfl ?_
          refine sr ?_
          refine mv rfl rfl ?_
          refine nl ?_
          refine cdF rfl (by omega) ?_
          refine rg ?_
          have ex0_4 : x0_4 = decV 8 (decP [] v false) false false x0_3.2 := (hx0_4.trans (step_yes (by decide) (show (0 : Int) ≤ v by omega) (Or.inl (by decide)))).trans (decF'_val (by decide) (rfl))
          refine cl rfl rfl rfl (d8f hR107 ex0_4) rfl (fun v_ H1 L1 le_9 hR_ => ?_)
          obtain ⟨N118, rfl, hR118, rfl, rfl⟩ := hR_
          refine asg rfl rfl ?_
          refine nl ?_
          refine rg ?_
          refine mv rfl rfl ?_
          refine mv rfl rfl ?_
          refine nc rfl rfl ?_
          refine fa F132_4 rfl rfl ?_
          refine stM (off := 4) Tryd.sizeOf9 rfl (by rw [ho0]) rfl rfl rfl (.tail .head) ?_
          refine nl ?_
          refine sq ?_
          refine sr ?_
          refine asg rfl rfl ?_
          refine nl ?_
          refine sq ?_
          refine sr ?_
          have ex0_5 : x0_5 = decV 1 (decP [] v false) false false x0_4.2 := (hx0_5.trans (step_yes (by decide) (show (0 : Int) ≤ v by omega) (Or.inl (by decide)))).trans (decF'_val (by decide) (rfl))
          refine cl rfl rfl rfl (d1 hR118 ex0_5) rfl (fun v_ H1 L1 hle_ hR_ => ?_)
          obtain ⟨N123, rfl, hR123, rfl, rfl⟩ := hR_
          refine asg rfl rfl ?_
          refine nl ?_
          refine rg ?_
          refine mv rfl rfl ?_
          refine asg rfl rfl ?_
          refine nl ?_
          refine sr ?_
          refine mv rfl rfl ?_
          refine asg rfl rfl ?_
          refine nl ?_
          refine rg ?_
          refine mv rfl rfl ?_
          refine mv rfl rfl ?_
          refine nc rfl rfl ?_
          refine fa F132_5 rfl rfl ?_
          refine stM (off := 5) Tryd.sizeOf129 rfl (by rw [ho0]) rfl rfl rfl (.tail .head) ?_
          refine nl ?_
          refine sq ?_
          refine sr ?_
          refine asg rfl rfl ?_
          refine nl ?_
          refine sq ?_
          refine sr ?_
          have ex0_6 : x0_6 = decV 1 (decP [] v false) false false x0_5.2 := (hx0_6.trans (step_yes (by decide) (show (0 : Int) ≤ v by omega) (Or.inl (by decide)))).trans (decF'_val (by decide) (rfl))
          refine cl rfl rfl rfl (d1 hR123 ex0_6) rfl (fun v_ H1 L1 hle_ hR_ => ?_)
          obtain ⟨N130, rfl, hR130, rfl, rfl⟩ := hR_
          refine asg rfl rfl ?_
          refine nl ?_
          refine rg ?_
          refine mv rfl rfl ?_
          refine asg rfl rfl ?_
          refine nl ?_
          refine sr ?_
          refine mv rfl rfl ?_
          refine asg rfl rfl ?_
          refine nl ?_
          refine rg ?_
          refine mv rfl rfl ?_
          refine mv rfl rfl ?_
          refine nc rfl rfl ?_
          refine fa F132_6 rfl rfl ?_
          refine stM (off := 6) Tryd.sizeOf130 rfl (by rw [ho0]) rfl rfl rfl (.tail .head) ?_
          refine nl ?_
          refine sr ?_
          refine mv rfl rfl ?_
          refine nl ?_
          refine cdF rfl (by omega) ?_
          refine skN ?_
          refine Nb ?_
          refine Nt ?_
          refine rg ?_
          refine mv rfl rfl ?_
          refine ad rfl rfl (c := ((k0 + 1 : Nat) : Int)) ((wrap32_le (by omega) (by omega)).trans (by omega)) rfl ?_
          refine asg rfl rfl ?_
          refine nN ?_
          obtain rfl : u0_ = ([], x0_6.2) := hu0_
          have hfs0 := flatMap_snoc' fk es0 ((⟨([.int .i8 (IntKind.i8.wrap x0_0.1.n), .string ⟨x0_1.1.s.toArray⟩, .int .i8 (IntKind.i8.wrap x0_2.1.n), .string ⟨x0_3.1.s.toArray⟩, .string ⟨x0_4.1.s.toArray⟩, .int .i8 (IntKind.i8.wrap x0_5.1.n), .int .i8 (IntKind.i8.wrap x0_6.1.n), .map none] : List Value), rfl, all_one rfl⟩, ((decV 10 (decP fs_sCreateACLsRequestCreation v false) false false) (rMany (decV 10 (decP fs_sCreateACLsRequestCreation v false) false false) k0 (rArr false ⟨s, false, !a.isNone⟩).2).2).1) : KE 8)
          have hrw0 := hbk0 ([.int .i8 (IntKind.i8.wrap x0_0.1.n), .string ⟨x0_1.1.s.toArray⟩, .int .i8 (IntKind.i8.wrap x0_2.1.n), .string ⟨x0_3.1.s.toArray⟩, .string ⟨x0_4.1.s.toArray⟩, .int .i8 (IntKind.i8.wrap x0_5.1.n), .int .i8 (IntKind.i8.wrap x0_6.1.n), .map none] : List Value) rfl
          refine tfN (.tail .head) ?_
          refine fun a_ w_ hA hw => ⟨hkl0, _, _, _, hA.sub ?_, (le_3.trans le_6), hw, _, _, _, rfl, rfl, (by rw [rMany_succ]; show RdAt _ 193 b_1 (decP fs_sCreateACLsRequestCreation v false (rMany (decV 10 (decP fs_sCreateACLsRequestCreation v false) false false) k0 (rArr false ⟨s, false, !a.isNone⟩).2).2).2 _; rw [hD0_]; exact hR130), (by rw [← hfs0]; exact hrw0), (dec_els he_0), (fun p hp => (mem_snoc hp).elim (fun h => At_CreateACLsRequestCreation.mono _ _ _ _ le_6 (hg_0 p h)) (fun h => h ▸ (by show At_CreateACLsRequestCreation _ (decP fs_sCreateACLsRequestCreation v false (rMany (decV 10 (decP fs_sCreateACLsRequestCreation v false) false false) k0 (rArr false ⟨s, false, !a.isNone⟩).2).2).1 [.int .i8 (IntKind.i8.wrap x0_0.1.n), .string ⟨x0_1.1.s.toArray⟩, .int .i8 (IntKind.i8.wrap x0_2.1.n), .string ⟨x0_3.1.s.toArray⟩, .string ⟨x0_4.1.s.toArray⟩, .int .i8 (IntKind.i8.wrap x0_5.1.n), .int .i8 (IntKind.i8.wrap x0_6.1.n), .map none]; rw [hD0_]; exact ⟨none, rfl, (KvAt.nil _)⟩)))⟩
          exact (.cons rfl (.cons rfl (.cons rfl (.cons rfl (.cons rfl (.cons rfl (.cons rfl (.cons rfl (.cons rfl (.nil _))))))))))
      · skip
        have hkn_ : k0 = (lT x0.1).length := by omega
        subst hkn_
        have hw2_0 : Row 132 8 a0 (lT x0.1).length c0 (es0.flatMap fk) M0 := by have h := hw_0; rw [Nat.sub_self] at h; simpa [reps] using h
        refine frW hw2_0 .head (fun Hf0 hlf0 hfz0 => ?_)
        have hrs0 := RowsAt.row (R := At_CreateACLsRequestCreation) hfz0 hs_0.symm hw2_0.le.1 (fun p hp => At_CreateACLsRequestCreation.mono _ _ _ _ hlf0 (hg_0 p hp))
        rw [he_0] at hrs0
        have hf0 : ListAt Hf0 x0.1 8 At_CreateACLsRequestCreation a0 c0 := by rw [ex0]; exact listAt_of hrs0 hi0 (fun h => by have h1 := nul_le h; rw [show (lT x0.1).length = 0 by omega]; rfl)
        have hRx0 : RdAt Hf0 193 b_1 x0.2 RN0 := by rw [ex0]; exact (hR_0.mono hlf0)
        refine exX ?_
        refine XT ?_
        refine XT ?_
        refine Xb ?_
        refine Nt ?_
        refine sr ?_
        refine mv rfl rfl ?_
        refine asg rfl rfl ?_
        refine nl ?_
        refine rg ?_
        refine mv rfl rfl ?_
        refine mv rfl rfl ?_
        refine nc rfl rfl ?_
        refine fa0 F123_1 rfl rfl ?_
        refine st Tryd.sizeOf121 rfl rfl rfl rfl (.tail .head) ?_
        refine nl ?_
        refine sq ?_
        refine sr ?_
        refine mv rfl rfl ?_
        refine nl ?_
        refine cdF rfl (by omega) ?_
        refine skt ?_
        refine sr ?_
        refine cl rfl rfl rfl (r_complete hRx0 (he.mono (le_2.trans (le_3.trans hlf0)))) rfl (fun v_ H1 L1 hle_ hR_ => ?_)
        obtain ⟨rfl, rfl, rfl⟩ := hR_
        refine asg rfl rfl ?_
        refine nl ?_
        refine drW .head ?_
        obtain rfl : u = ([], x0.2) := hu
        have hA_ := (show At_CreateACLsRequest v _ (decP fs_CreateACLsRequest v false _).1 [.int .i16 v, .slice a0 (lT x0.1).length c0, .map none] from (by rw [hD]; exact ⟨a0, c0, none, rfl, hf0, (KvAt.nil _)⟩))
        refine rT rfl rfl (le_2.trans (le_3.trans hlf0)) (fun _ _ h => h) ⟨_, rfl, ?_⟩
        have hz := RdEnd.of (e := e) hA_
        rw [show (decP fs_CreateACLsRequest v false _).2.bad = x0.2.bad by rw [hD]] at hz
        exact hz
theorem rd_CreateACLsRequest_t {H : Fz} {L : Own} {b : Nat} {v : Int} {a : Option Addr} {c : Nat} {s : List UInt8} {e : Value} (hB : BytesAt H a c s) (hL_ : s.length ≤ BR) (he : H.at 1 0 [e]) (hv0 : 2 ≤ v) (hv1 : v ≤ 3) :
    Fn Tryd.prog 136 [.pointer (some ⟨b, 0, none⟩), .slice a s.length c, .bool false] H ([(b, .cells [.int .i16 v, .slice none 0 0, .map none].toArray 123 (0, 0))] :: L) (fun r H' L' => ∃ cs : List Value, L' = [(b, .cells cs.toArray 123 (0, 0))] :: L ∧ RdEnd H' (At_CreateACLsRequest v) (decP fs_CreateACLsRequest v true ⟨s, false, !a.isNone⟩) e r cs) := by
  refine Fn.mk Tryd.call136 Tryd.func136 rfl Tryd.ntmps136 rfl ?_
  refine sr ?_
  refine asg rfl rfl ?_
  refine nl ?_
  refine sr ?_
  refine mv rfl rfl ?_
  refine cl rfl rfl rfl def0_CreateACLsRequest rfl (fun v_ H1 L1 hle_ hR_ => ?_)
  obtain ⟨rfl, rfl⟩ := hR_
  refine nl ?_
  refine sr ?_
  refine mv rfl rfl ?_
  refine bd' S193 rfl rfl rfl ?_
  refine al Tryd.zeroValue193 rfl rfl (fun b_1 => ?_)
  refine sa Tryd.sizeOf193 rfl rfl rfl rfl rfl .head ?_
  have hR0_ : RdAt H 193 b_1 ⟨s, false, !a.isNone⟩ [(b_1, .cells [_, _].toArray 193 (0, 0))] := ⟨a, c, rfl, hB, by simp⟩
  obtain ⟨x0, hx0⟩ : ∃ x, x = stepF (Fd.mk 11 0 (-1) (-1) (-1) 0 10 fs_sCreateACLsRequestCreation) v true ⟨s, false, !a.isNone⟩ := ⟨_, rfl⟩
  obtain ⟨u, hu⟩ : ∃ x, x = tailU true x0.2 := ⟨_, rfl⟩
  have hD : decP fs_CreateACLsRequest v true ⟨s, false, !a.isNone⟩ = (.mk 0 [] false [x0.1] u.1, u.2) := by
    generalize (⟨s, false, !a.isNone⟩ : Rd) = r_ at hx0 ⊢
    rw [decP_eq]; unfold fs_CreateACLsRequest; simp only [decFs_cons, decFs_nil, ← hx0, ← hu]
  have hL0 : x0.2.s.length ≤ BR := by rw [hx0]; exact Nat.le_trans (stepF_shr _ _ _ _) hL_
  have hE : u.2.bad = true → (decP fs_CreateACLsRequest v true ⟨s, false, !a.isNone⟩).2.bad = true := fun h => by rw [hD]; exact h
  have hB0 : x0.2.bad = true → (decP fs_CreateACLsRequest v true ⟨s, false, !a.isNone⟩).2.bad = true := fun h => hE (by rw [hu]; exact tailU_bad h)
  refine nl ?_
  refine sr ?_
  refine mv rfl rfl ?_
  refine nc rfl rfl ?_
  refine fa0 F123_0 rfl rfl ?_
  refine ld (Says.own (.tail .head)) Tryd.isAgg45 rfl (Nat.zero_add _).symm rfl rfl ?_
  refine asg rfl rfl ?_
  refine nl ?_
  refine sr ?_
  refine mv rfl rfl ?_
  refine nl ?_
  refine sr ?_
  refine mv rfl rfl ?_
  refine ge rfl rfl rfl ?_
  refine asg rfl rfl ?_
  refine nl ?_
  refine sr ?_
  refine mv rfl rfl ?_
  refine nl ?_
  refine sr ?_
  refine mv rfl rfl ?_
  refine asg rfl rfl ?_
  refine nl ?_
  refine sq ?_
  refine sr ?_
  refine mv rfl rfl ?_
  refine nc rfl rfl ?_
  refine fa0 F123_1 rfl rfl ?_
  refine ld (Says.own (.tail .head)) Tryd.isAgg121 rfl (Nat.zero_add _).symm rfl rfl ?_
  refine asg rfl rfl ?_
  refine nl ?_
  refine sr ?_
  refine mv rfl rfl ?_
  refine asg rfl rfl ?_
  refine nl ?_
  refine sr ?_
  refine asg rfl rfl ?_
  refine nl ?_
  refine sq ?_
  refine sr ?_
  refine mv rfl rfl ?_
  refine nl ?_
  refine cdT rfl (by omega) ?_
  refine rg ?_
  have ey0 : x0 = (.mk 0 [] (if 0 ≤ ((-1) : Int) ∧ (v < ((-1) : Int) ∨ (rArr true ⟨s, false, !a.isNone⟩).1 = 0) then false else decide ((rArr true ⟨s, false, !a.isNone⟩).1 ≤ 0)) (rMany (decV 10 (decP fs_sCreateACLsRequestCreation v true) false true) (rArr true ⟨s, false, !a.isNone⟩).1.toNat (rArr true ⟨s, false, !a.isNone⟩).2).1 [], (rMany (decV 10 (decP fs_sCreateACLsRequestCreation v true) false true) (rArr true ⟨s, false, !a.isNone⟩).1.toNat (rArr true ⟨s, false, !a.isNone⟩).2).2) := (hx0.trans (step_yes (by decide) (show (0 : Int) ≤ v by omega) (Or.inl (by decide)))).trans (decF'_list rfl rfl)
  have hn0 : (rArr true ⟨s, false, !a.isNone⟩).1.toNat = (lT x0.1).length := by rw [ey0]; exact (lT_many nul_le).symm
  have ex0 := ey0
  rw [hn0] at ex0
  have hl0 := rArr_le true ⟨s, false, !a.isNone⟩
  have hm0 : (rArr true ⟨s, false, !a.isNone⟩).2.s.length ≤ BR := Nat.le_trans (rArr_len true ⟨s, false, !a.isNone⟩) hL_
  have hnb0 : (lT x0.1).length ≤ BR := by omega
  refine cl rfl rfl rfl (r_arrt hR0_) rfl (fun v_ H1 L1 hle_ hR_ => ?_)
  obtain ⟨rfl, N51, rfl, hR51, rfl⟩ := hR_
  have hh0 := rArr_hi true ⟨s, false, !a.isNone⟩
  refine asg rfl rfl ?_
  refine nl ?_
  refine sq ?_
  refine sr ?_
  refine cl rfl rfl rfl (r_ok hR51) rfl (fun v_ H1 L1 hle_ hR_ => ?_)
  obtain ⟨rfl, rfl, rfl⟩ := hR_
  refine nt rfl rfl ?_
  refine nl ?_
  refine cb rfl (fun h54 => ?_) (fun h54 => ?_)
  · skip
    have hbad_ : (rArr true ⟨s, false, !a.isNone⟩).2.bad = true := by simpa using h54
    refine sr ?_
    refine cl rfl rfl rfl (r_complete hR51 he) rfl (fun v_ H1 L1 hle_ hR_ => ?_)
    obtain ⟨rfl, rfl, rfl⟩ := hR_
    refine asg rfl rfl ?_
    refine nl ?_
    refine drW .head ?_
    exact rT rfl rfl (Fz.le.refl _) (fun _ _ h => h) ⟨_, rfl, RdEnd.out (hB0 (by rw [ey0]; exact rMany_bad (fun r h => decV_bad (decP_bad _ _ _) h) _ _ hbad_)) hbad_⟩
  · skip
    refine skt ?_
    refine sr ?_
    refine mv rfl rfl ?_
    refine sh' (j := 0) Tryd.runUnderlying121 Tryd.sizeOf132 rfl rfl rfl (Nat.zero_le _) rfl ?_
    refine asg rfl rfl ?_
    refine nl ?_
    refine sq ?_
    refine sr ?_
    refine mv rfl rfl ?_
    refine gt rfl rfl rfl ?_
    refine nl ?_
    refine nulC2 ?_
    refine cutT (fun l' H' L' => ∃ (a0 : Option Addr), ∃ (c0 : Nat), ∃ (Nr0 : Chunk), [(2, .bool false), (7, .pointer (some ⟨b_1, 0, none⟩)), (8, .int .i16 v), (9, .bool (decide ((2 : Int) ≤ v))), (10, .pointer (some ⟨b, 0, none⟩)), (11, .slice none 0 0), (12, .slice a0 (lT x0.1).length c0), (13, .int .i32 (rArr true ⟨s, false, !a.isNone⟩).1)] = l' ∧ Nr0 :: N51 :: [(b, .cells [.int .i16 v, .slice none 0 0, .map none].toArray 123 (0, 0))] :: L = L' ∧ Row 132 8 a0 (lT x0.1).length c0 (reps [.int .i8 0, .string ⟨#[]⟩, .int .i8 0, .string ⟨#[]⟩, .string ⟨#[]⟩, .int .i8 0, .int .i8 0, .map none] (lT x0.1).length) Nr0 ∧ a0.isNone = (if 0 ≤ ((-1) : Int) ∧ (v < ((-1) : Int) ∨ (rArr true ⟨s, false, !a.isNone⟩).1 = 0) then false else decide ((rArr true ⟨s, false, !a.isNone⟩).1 ≤ 0))) ?_ (fun l' H' L' le_2 hI => ?_)
    · skip
      refine cd rfl (fun h59 => ?_) (fun h59 => ?_)
      · skip
        refine rg ?_
        refine mv rfl rfl ?_
        refine mv rfl rfl ?_
        refine apz (zs := [.int .i8 0, .string ⟨#[]⟩, .int .i8 0, .string ⟨#[]⟩, .string ⟨#[]⟩, .int .i8 0, .int .i8 0, .map none]) (m := (lT x0.1).length) Tryd.underlying121 Tryd.underlying21 I132 rfl rfl rfl (by omega) (by omega) (by have h9 := hnb0; unfold BR at h9; omega) (by have h9 := hnb0; unfold BR at h9; unfold maxLen; omega) rfl (fun g62 cp62 N62 r62 => ?_)
        refine asg rfl rfl ?_
        refine nN ?_
        refine drN (.tail .head) ?_
        refine fun a_ w_ hA hw => ⟨_, _, _, hA.sub ?_, (Fz.le.refl _), hw, (some ⟨g62, 0, none⟩), cp62, N62, rfl, rfl, r62, (by rw [if_neg (by omega)]; exact (decide_eq_false (by omega)).symm)⟩
        exact (.cons rfl (.cons rfl (.cons rfl (.cons rfl (.cons rfl (.cons rfl (.cons rfl (.cons rfl (.nil _)))))))))
      · skip
        refine skN ?_
        refine fun a_ w_ hA hw => ⟨_, _, _, hA.sub ?_, (Fz.le.refl _), hw, none, 0, [], rfl, rfl, (by rw [show (lT x0.1).length = 0 by omega]; exact (Row.nil _ _)), (by rw [if_neg (by omega)]; exact (decide_eq_true (by omega)).symm)⟩
        exact (.cons rfl (.cons rfl (.cons rfl (.cons rfl (.cons rfl (.cons rfl (.cons (by rw [show (lT x0.1).length = 0 by omega]; rfl) (.cons rfl (.nil _)))))))))
    · skip
      obtain ⟨a0, c0, Nr0, rfl, rfl, pj0, pj1⟩ := hI
      have hr0 := pj0
      have hi0 := pj1
      refine sq ?_
      refine sr ?_
      refine asg rfl rfl ?_
      refine nl ?_
      refine bl (lp ((lT x0.1).length) (fun k0 l' H' L' => ∃ (es0 : List (KE 8)) (M0 RN0 : Chunk), [(2, .bool false), (7, .pointer (some ⟨b_1, 0, none⟩)), (8, .int .i16 v), (9, .bool (decide ((2 : Int) ≤ v))), (10, .pointer (some ⟨b, 0, none⟩)), (11, .slice none 0 0), (12, .slice a0 (lT x0.1).length c0), (13, .int .i32 (rArr true ⟨s, false, !a.isNone⟩).1), (14, .int .i32 (k0 : Int))] = l' ∧ M0 :: RN0 :: [(b, .cells [.int .i16 v, .slice none 0 0, .map none].toArray 123 (0, 0))] :: L = L' ∧ RdAt H' 193 b_1 (rMany (decV 10 (decP fs_sCreateACLsRequestCreation v true) false true) k0 (rArr true ⟨s, false, !a.isNone⟩).2).2 RN0 ∧ Row 132 8 a0 (lT x0.1).length c0 (es0.flatMap fk ++ reps [.int .i8 0, .string ⟨#[]⟩, .int .i8 0, .string ⟨#[]⟩, .string ⟨#[]⟩, .int .i8 0, .int .i8 0, .map none] ((lT x0.1).length - k0)) M0 ∧ es0.map (·.2) = (rMany (decV 10 (decP fs_sCreateACLsRequestCreation v true) false true) k0 (rArr true ⟨s, false, !a.isNone⟩).2).1 ∧ ∀ p ∈ es0, At_CreateACLsRequestCreation H' p.2 (fk p)) [(2, .bool false), (7, .pointer (some ⟨b_1, 0, none⟩)), (8, .int .i16 v), (9, .bool (decide ((2 : Int) ≤ v))), (10, .pointer (some ⟨b, 0, none⟩)), (11, .slice none 0 0), (12, .slice a0 (lT x0.1).length c0), (13, .int .i32 (rArr true ⟨s, false, !a.isNone⟩).1), (14, .int .i32 (0 : Int))] (.cons rfl (.cons rfl (.cons rfl (.cons rfl (.cons rfl (.cons rfl (.cons rfl (.cons rfl (.cons rfl (.nil _)))))))))) ⟨[], Nr0, _, rfl, rfl, (hR51.mono le_2), hr0, rfl, (fun p hp => by cases hp)⟩ (fun k0 l' H' L' hk0 le_3 hI => ?_))
      obtain ⟨es0, M0, RN0, rfl, rfl, hR_0, hw_0, he_0, hg_0⟩ := hI
      have hs_0 := els_len he_0
      have hp_0 : (es0.flatMap fk).length = k0 * 8 := els_flat hs_0
      refine sq ?_
      refine sr ?_
      refine mv rfl rfl ?_
      refine mv rfl rfl ?_
      refine lt rfl rfl rfl ?_
      refine nl ?_
      refine cd rfl (fun h65 => ?_) (fun h65 => ?_)
      · skip
        have hkl0 : k0 < (lT x0.1).length := by omega
        obtain ⟨g0, po0, hga0, rfl, hbk0⟩ := hw_0.next (zs := [.int .i8 0, .string ⟨#[]⟩, .int .i8 0, .string ⟨#[]⟩, .string ⟨#[]⟩, .int .i8 0, .int .i8 0, .map none]) hkl0 rfl (by decide)
        have ho0 : 0 + k0 * 8 = (es0.flatMap fk).length := by rw [hp_0]; omega
        have hbz0 : ((decV 10 (decP fs_sCreateACLsRequestCreation v true) false true) (rMany (decV 10 (decP fs_sCreateACLsRequestCreation v true) false true) k0 (rArr true ⟨s, false, !a.isNone⟩).2).2).2.bad = true → (decP fs_CreateACLsRequest v true ⟨s, false, !a.isNone⟩).2.bad = true := fun h => hB0 (by rw [ex0]; exact rMany_mono (fun r h => decV_bad (fun r h => decP_bad _ _ _ r h) h) _ (show k0 + 1 ≤ (lT x0.1).length from hkl0) (by rw [rMany_succ]; exact h))
        have hLk0 : (rMany (decV 10 (decP fs_sCreateACLsRequestCreation v true) false true) k0 (rArr true ⟨s, false, !a.isNone⟩).2).2.s.length ≤ BR := Nat.le_trans (rMany_shr (fun r => decV_shr (fun r => decP_shr _ _ _ r) r) _ _) hm0
        have hL0__ := hLk0
        obtain ⟨x0_0, hx0_0⟩ : ∃ x, x = stepF (Fd.mk 1 0 (-1) (-1) (-1) 0 0 []) v true (rMany (decV 10 (decP fs_sCreateACLsRequestCreation v true) false true) k0 (rArr true ⟨s, false, !a.isNone⟩).2).2 := ⟨_, rfl⟩
        obtain ⟨x0_1, hx0_1⟩ : ∃ x, x = stepF (Fd.mk 8 0 (-1) (-1) (-1) 0 0 []) v true x0_0.2 := ⟨_, rfl⟩
        obtain ⟨x0_2, hx0_2⟩ : ∃ x, x = stepF (Fd.mk 1 1 (-1) (-1) (-1) 3 0 []) v true x0_1.2 := ⟨_, rfl⟩
        obtain ⟨x0_3, hx0_3⟩ : ∃ x, x = stepF (Fd.mk 8 0 (-1) (-1) (-1) 0 0 []) v true x0_2.2 := ⟨_, rfl⟩
        obtain ⟨x0_4, hx0_4⟩ : ∃ x, x = stepF (Fd.mk 8 0 (-1) (-1) (-1) 0 0 []) v true x0_3.2 := ⟨_, rfl⟩
        obtain ⟨x0_5, hx0_5⟩ : ∃ x, x = stepF (Fd.mk 1 0 (-1) (-1) (-1) 0 0 []) v true x0_4.2 := ⟨_, rfl⟩
        obtain ⟨x0_6, hx0_6⟩ : ∃ x, x = stepF (Fd.mk 1 0 (-1) (-1) (-1) 0 0 []) v true x0_5.2 := ⟨_, rfl⟩
        obtain ⟨u0_, hu0_⟩ : ∃ x, x = tailU true x0_6.2 := ⟨_, rfl⟩
        have hD0_ : decP fs_sCreateACLsRequestCreation v true (rMany (decV 10 (decP fs_sCreateACLsRequestCreation v true) false true) k0 (rArr true ⟨s, false, !a.isNone⟩).2).2 = (.mk 0 [] false [x0_0.1, x0_1.1, x0_2.1, x0_3.1, x0_4.1, x0_5.1, x0_6.1] u0_.1, u0_.2) := by
          generalize ((rMany (decV 10 (decP fs_sCreateACLsRequestCreation v true) false true) k0 (rArr true ⟨s, false, !a.isNone⟩).2).2 : Rd) = r_ at hx0_0 ⊢
          rw [decP_eq]; unfold fs_sCreateACLsRequestCreation; simp only [decFs_cons, decFs_nil, ← hx0_0, ← hx0_1, ← hx0_2, ← hx0_3, ← hx0_4, ← hx0_5, ← hx0_6, ← hu0_]
        have hL0_0 : x0_0.2.s.length ≤ BR := by rw [hx0_0]; exact Nat.le_trans (stepF_shr _ _ _ _) hL0__
        have hL0_1 : x0_1.2.s.length ≤ BR := by rw [hx0_1]; exact Nat.le_trans (stepF_shr _ _ _ _) hL0_0
        have hL0_2 : x0_2.2.s.length ≤ BR := by rw [hx0_2]; exact Nat.le_trans (stepF_shr _ _ _ _) hL0_1
        have hL0_3 : x0_3.2.s.length ≤ BR := by rw [hx0_3]; exact Nat.le_trans (stepF_shr _ _ _ _) hL0_2
        have hL0_4 : x0_4.2.s.length ≤ BR := by rw [hx0_4]; exact Nat.le_trans (stepF_shr _ _ _ _) hL0_3
        have hL0_5 : x0_5.2.s.length ≤ BR := by rw [hx0_5]; exact Nat.le_trans (stepF_shr _ _ _ _) hL0_4
        have hL0_6 : x0_6.2.s.length ≤ BR := by rw [hx0_6]; exact Nat.le_trans (stepF_shr _ _ _ _) hL0_5
        have hE0_ : u0_.2.bad = true → (decP fs_CreateACLsRequest v true ⟨s, false, !a.isNone⟩).2.bad = true := fun h => hbz0 (by show (decP fs_sCreateACLsRequestCreation v true (rMany (decV 10 (decP fs_sCreateACLsRequestCreation v true) false true) k0 (rArr true ⟨s, false, !a.isNone⟩).2).2).2.bad = true; rw [hD0_]; exact h)
        have hB0_6 : x0_6.2.bad = true → (decP fs_CreateACLsRequest v true ⟨s, false, !a.isNone⟩).2.bad = true := fun h => hE0_ (by rw [hu0_]; exact tailU_bad h)
        have hB0_5 : x0_5.2.bad = true → (decP fs_CreateACLsRequest v true ⟨s, false, !a.isNone⟩).2.bad = true := fun h => hB0_6 (by rw [hx0_6]; exact step_bad h)
        have hB0_4 : x0_4.2.bad = true → (decP fs_CreateACLsRequest v true ⟨s, false, !a.isNone⟩).2.bad = true := fun h => hB0_5 (by rw [hx0_5]; exact step_bad h)
        have hB0_3 : x0_3.2.bad = true → (decP fs_CreateACLsRequest v true ⟨s, false, !a.isNone⟩).2.bad = true := fun h => hB0_4 (by rw [hx0_4]; exact step_bad h)
        have hB0_2 : x0_2.2.bad = true → (decP fs_CreateACLsRequest v true ⟨s, false, !a.isNone⟩).2.bad = true := fun h => hB0_3 (by rw [hx0_3]; exact step_bad h)
        have hB0_1 : x0_1.2.bad = true → (decP fs_CreateACLsRequest v true ⟨s, false, !a.isNone⟩).2.bad = true := fun h => hB0_2 (by rw [hx0_2]; exact step_bad h)
        have hB0_0 : x0_0.2.bad = true → (decP fs_CreateACLsRequest v true ⟨s, false, !a.isNone⟩).2.bad = true := fun h => hB0_1 (by rw [hx0_1]; exact step_bad h)
        refine skt ?_
        refine sq ?_
        refine bl ?_
        refine sr ?_
        refine mv rfl rfl ?_
        refine mv rfl rfl ?_
        refine ixk (j := k0) Tryd.runUnderlying121 Tryd.sizeOf132 rfl hga0 rfl rfl hkl0 rfl ?_
        refine asg rfl rfl ?_
        refine nl ?_
        refine sr ?_
        refine mv rfl rfl ?_
        refine cl rfl rfl rfl (def_CreateACLsRequestCreation ho0) rfl (fun v_ H1 L1 hle_ hR_ => ?_)
        obtain ⟨rfl, rfl⟩ := hR_
        refine nl ?_
        refine sr ?_
        refine mv rfl rfl ?_
        refine asg rfl rfl ?_
        refine nl ?_
        refine sq ?_
        refine sr ?_
        refine asg rfl rfl ?_
        refine nl ?_
        refine sq ?_
        refine sr ?_
        refine tf (.tail .head) ?_
        have ex0_0 : x0_0 = decV 1 (decP [] v true) false true (rMany (decV 10 (decP fs_sCreateACLsRequestCreation v true) false true) k0 (rArr true ⟨s, false, !a.isNone⟩).2).2 := (hx0_0.trans (step_yes (by decide) (show (0 : Int) ≤ v by omega) (Or.inl (by decide)))).trans (decF'_val (by decide) (rfl))
        refine cl rfl rfl rfl (d1 hR_0 ex0_0) rfl (fun v_ H1 L1 hle_ hR_ => ?_)
        obtain ⟨N74, rfl, hR74, rfl, rfl⟩ := hR_
        refine asg rfl rfl ?_
        refine nl ?_
        refine rg ?_
        refine mv rfl rfl ?_
        refine asg rfl rfl ?_
        refine nl ?_
        refine sr ?_
        refine mv rfl rfl ?_
        refine asg rfl rfl ?_
        refine nl ?_
        refine rg ?_
        refine mv rfl rfl ?_
        refine mv rfl rfl ?_
        refine nc rfl rfl ?_
        refine fa F132_0 rfl rfl ?_
        refine stM (off := 0) Tryd.sizeOf127 rfl (by rw [ho0]) rfl rfl rfl (.tail .head) ?_
        refine nl ?_
        refine sq ?_
        refine sr ?_
        refine asg rfl rfl ?_
        refine nl ?_
        refine sq ?_
        refine sr ?_
        refine mv rfl rfl ?_
        refine nl ?_
        refine cF rfl ?_
        refine sr ?_
        refine mv rfl rfl ?_
        refine nl ?_
        refine cdT rfl (by omega) ?_
        refine rg ?_
        have ex0_1 : x0_1 = decV 8 (decP [] v true) false true x0_0.2 := (hx0_1.trans (step_yes (by decide) (show (0 : Int) ≤ v by omega) (Or.inl (by decide)))).trans (decF'_val (by decide) (rfl))
        refine cl rfl rfl rfl (d8t hR74 ex0_1) rfl (fun v_ H1 L1 le_5 hR_ => ?_)
        obtain ⟨N86, rfl, hR86, rfl, rfl⟩ := hR_
        refine asg rfl rfl ?_
        refine nl ?_
        refine rg ?_
        refine mv rfl rfl ?_
        refine mv rfl rfl ?_
        refine nc rfl rfl ?_
        refine fa F132_1 rfl rfl ?_
        refine stM (off := 1) Tryd.sizeOf9 rfl (by rw [ho0]) rfl rfl rfl (.tail .head) ?_
        refine nl ?_
        refine sq ?_
        refine sr ?_
        refine mv rfl rfl ?_
        refine ge rfl rfl rfl ?_
        refine nl ?_
        refine cdT rfl (by omega) ?_
        refine sr ?_
        refine asg rfl rfl ?_
        refine nl ?_
        refine sq ?_
        refine sr ?_
        have ex0_2 : x0_2 = decV 1 (decP [] v true) false true x0_1.2 := (hx0_2.trans (step_yes (by decide) (show (1 : Int) ≤ v by omega) (Or.inl (by decide)))).trans (decF'_val (by decide) (rfl))
        refine cl rfl rfl rfl (d1 hR86 ex0_2) rfl (fun v_ H1 L1 hle_ hR_ => ?_)
        obtain ⟨N94, rfl, hR94, rfl, rfl⟩ := hR_
        refine asg rfl rfl ?_
        refine nl ?_
        refine rg ?_
        refine mv rfl rfl ?_
        refine asg rfl rfl ?_
        refine nl ?_
        refine sr ?_
        refine mv rfl rfl ?_
        refine asg rfl rfl ?_
        refine nl ?_
        refine rg ?_
        refine mv rfl rfl ?_
        refine mv rfl rfl ?_
        refine nc rfl rfl ?_
        refine fa F132_2 rfl rfl ?_
        refine stM (off := 2) Tryd.sizeOf128 rfl (by rw [ho0]) rfl rfl rfl (.tail .head) ?_
        refine nl ?_
        refine sq ?_
        refine sr ?_
        refine asg rfl rfl ?_
        refine nl ?_
        refine sq ?_
        refine sr ?_
        refine mv rfl rfl ?_
        refine nl ?_
        refine cF rfl ?_
        refine sr ?_
        refine mv rfl rfl ?_
        refine nl ?_
        refine cdT rfl (by omega) ?_
        refine rg ?_
        have ex0_3 : x0_3 = decV 8 (decP [] v true) false true x0_2.2 := (hx0_3.trans (step_yes (by decide) (show (0 : Int) ≤ v by omega) (Or.inl (by decide)))).trans (decF'_val (by decide) (rfl))
        refine cl rfl rfl rfl (d8t hR94 ex0_3) rfl (fun v_ H1 L1 le_7 hR_ => ?_)
        obtain ⟨N106, rfl, hR106, rfl, rfl⟩ := hR_
        refine asg rfl rfl ?_
        refine nl ?_
        refine rg ?_
        refine mv rfl rfl ?_
        refine mv rfl rfl ?_
        refine nc rfl rfl ?_
        refine fa F132_3 rfl rfl ?_
        refine stM (off := 3) Tryd.sizeOf9 rfl (by rw [ho0]) rfl rfl rfl (.tail .head) ?_
        refine nl ?_
        refine sq ?_
        refine sr ?_
        refine asg rfl rfl ?_
        refine nl ?_
        refine sq ?_
        refine sr ?_
        refine mv rfl rfl ?_
        refine nl ?_
        refine cF rfl ?_
        refine sr ?_
        refine mv rfl rfl ?_
        refine nl ?_
        refine cdT rfl (by omega) ?_
        refine rg ?_
        have ex0_4 : x0_4 = decV 8 (decP [] v true) false true x0_3.2 := (hx0_4.trans (step_yes (by decide) (show (0 : Int) ≤ v by omega) (Or.inl (by decide)))).trans (decF'_val (by decide) (rfl))
        refine cl rfl rfl rfl (d8t hR106 ex0_4) rfl (fun v_ H1 L1 le_8 hR_ => ?_)
        obtain ⟨N117, rfl, hR117, rfl, rfl⟩ := hR_
        refine asg rfl rfl ?_
        refine nl ?_
        refine rg ?_
        refine mv rfl rfl ?_
        refine mv rfl rfl ?_
        refine nc rfl rfl ?_
        refine fa F132_4 rfl rfl ?_
        refine stM (off := 4) Tryd.sizeOf9 rfl (by rw [ho0]) rfl rfl rfl (.tail .head) ?_
        refine nl ?_
        refine sq ?_
        refine sr ?_
        refine asg rfl rfl ?_
        refine nl ?_
        refine sq ?_
        refine sr ?_
        have ex0_5 : x0_5 = decV 1 (decP [] v true) false true x0_4.2 := (hx0_5.trans (step_yes (by decide) (show (0 : Int) ≤ v by omega) (Or.inl (by decide)))).trans (decF'_val (by decide) (rfl))
        refine cl rfl rfl rfl (d1 hR117 ex0_5) rfl (fun v_ H1 L1 hle_ hR_ => ?_)
        obtain ⟨N123, rfl, hR123, rfl, rfl⟩ := hR_
        refine asg rfl rfl ?_
        refine nl ?_
        refine rg ?_
        refine mv rfl rfl ?_
        refine asg rfl rfl ?_
        refine nl ?_
        refine sr ?_
        refine mv rfl rfl ?_
        refine asg rfl rfl ?_
        refine nl ?_
        refine rg ?_
        refine mv rfl rfl ?_
        refine mv rfl rfl ?_
        refine nc rfl rfl ?_
        refine fa F132_5 rfl rfl ?_
        refine stM (off := 5) Tryd.sizeOf129 rfl (by rw [ho0]) rfl rfl rfl (.tail .head) ?_
        refine nl ?_
        refine sq ?_
        refine sr ?_
        refine asg rfl rfl ?_
        refine nl ?_
        refine sq ?_
        refine sr ?_
        have ex0_6 : x0_6 = decV 1 (decP [] v true) false true x0_5.2 := (hx0_6.trans (step_yes (by decide) (show (0 : Int) ≤ v by omega) (Or.inl (by decide)))).trans (decF'_val (by decide) (rfl))
        refine cl rfl rfl rfl (d1 hR123 ex0_6) rfl (fun v_ H1 L1 hle_ hR_ => ?_)
        obtain ⟨N130, rfl, hR130, rfl, rfl⟩ := hR_
        refine asg rfl rfl ?_
        refine nl ?_
        refine rg ?_
        refine mv rfl rfl ?_
        refine asg rfl rfl ?_
        refine nl ?_
        refine sr ?_
        refine mv rfl rfl ?_
        refine asg rfl rfl ?_
        refine nl ?_
        refine rg ?_
        refine mv rfl rfl ?_
        refine mv rfl rfl ?_
        refine nc rfl rfl ?_
        refine fa F132_6 rfl rfl ?_
        refine stM (off := 6) Tryd.sizeOf130 rfl (by rw [ho0]) rfl rfl rfl (.tail .head) ?_
        refine nl ?_
        refine sr ?_
        refine mv rfl rfl ?_
        refine nl ?_
        refine cdT rfl (by omega) ?_
        refine rg ?_
        refine mv rfl rfl ?_
        refine cl rfl rfl rfl (d_tags hR130) rfl (fun v_ H1 L1 le_11 hR_ => ?_)
        obtain ⟨N139, rfl, hR139, m0_t, rfl, hft0_⟩ := hR_
        have hu20_ : u0_ = rTags x0_6.2 := hu0_
        rw [← hu20_] at hR139 hft0_
        refine nc rfl rfl ?_
        refine fa F132_7 rfl rfl ?_
        refine saM (off := 7) Tryd.sizeOf99 rfl (by rw [ho0]) rfl rfl rfl rfl (.tail .head) ?_
        refine nN ?_
        refine Nb ?_
        refine Nt ?_
        refine rg ?_
        refine mv rfl rfl ?_
        refine ad rfl rfl (c := ((k0 + 1 : Nat) : Int)) ((wrap32_le (by omega) (by omega)).trans (by omega)) rfl ?_
        refine asg rfl rfl ?_
        refine nN ?_
        have hfs0 := flatMap_snoc' fk es0 ((⟨([.int .i8 (IntKind.i8.wrap x0_0.1.n), .string ⟨x0_1.1.s.toArray⟩, .int .i8 (IntKind.i8.wrap x0_2.1.n), .string ⟨x0_3.1.s.toArray⟩, .string ⟨x0_4.1.s.toArray⟩, .int .i8 (IntKind.i8.wrap x0_5.1.n), .int .i8 (IntKind.i8.wrap x0_6.1.n), .map m0_t] : List Value), rfl, all_one rfl⟩, ((decV 10 (decP fs_sCreateACLsRequestCreation v true) false true) (rMany (decV 10 (decP fs_sCreateACLsRequestCreation v true) false true) k0 (rArr true ⟨s, false, !a.isNone⟩).2).2).1) : KE 8)
        have hrw0 := hbk0 ([.int .i8 (IntKind.i8.wrap x0_0.1.n), .string ⟨x0_1.1.s.toArray⟩, .int .i8 (IntKind.i8.wrap x0_2.1.n), .string ⟨x0_3.1.s.toArray⟩, .string ⟨x0_4.1.s.toArray⟩, .int .i8 (IntKind.i8.wrap x0_5.1.n), .int .i8 (IntKind.i8.wrap x0_6.1.n), .map m0_t] : List Value) rfl
        refine tfN (.tail .head) ?_
        refine fun a_ w_ hA hw => ⟨hkl0, _, _, _, hA.sub ?_, (le_3.trans le_11), hw, _, _, _, rfl, rfl, (by rw [rMany_succ]; show RdAt _ 193 b_1 (decP fs_sCreateACLsRequestCreation v true (rMany (decV 10 (decP fs_sCreateACLsRequestCreation v true) false true) k0 (rArr true ⟨s, false, !a.isNone⟩).2).2).2 _; rw [hD0_]; exact hR139), (by rw [← hfs0]; exact hrw0), (dec_els he_0), (fun p hp => (mem_snoc hp).elim (fun h => At_CreateACLsRequestCreation.mono _ _ _ _ le_11 (hg_0 p h)) (fun h => h ▸ (by show At_CreateACLsRequestCreation _ (decP fs_sCreateACLsRequestCreation v true (rMany (decV 10 (decP fs_sCreateACLsRequestCreation v true) false true) k0 (rArr true ⟨s, false, !a.isNone⟩).2).2).1 [.int .i8 (IntKind.i8.wrap x0_0.1.n), .string ⟨x0_1.1.s.toArray⟩, .int .i8 (IntKind.i8.wrap x0_2.1.n), .string ⟨x0_3.1.s.toArray⟩, .string ⟨x0_4.1.s.toArray⟩, .int .i8 (IntKind.i8.wrap x0_5.1.n), .int .i8 (IntKind.i8.wrap x0_6.1.n), .map m0_t]; rw [hD0_]; exact ⟨m0_t, rfl, hft0_⟩)))⟩
        exact (.cons rfl (.cons rfl (.cons rfl (.cons rfl (.cons rfl (.cons rfl (.cons rfl (.cons rfl (.cons rfl (.nil _))))))))))
      · skip
        have hkn_ : k0 = (lT x0.1).length := by omega
        subst hkn_
        have hw2_0 : Row 132 8 a0 (lT x0.1).length c0 (es0.flatMap fk) M0 := by have h := hw_0; rw [Nat.sub_self] at h; simpa [reps] using h
        refine frW hw2_0 .head (fun Hf0 hlf0 hfz0 => ?_)
        have hrs0 := RowsAt.row (R := At_CreateACLsRequestCreation) hfz0 hs_0.symm hw2_0.le.1 (fun p hp => At_CreateACLsRequestCreation.mono _ _ _ _ hlf0 (hg_0 p hp))
        rw [he_0] at hrs0
        have hf0 : ListAt Hf0 x0.1 8 At_CreateACLsRequestCreation a0 c0 := by rw [ex0]; exact listAt_of hrs0 hi0 (fun h => by have h1 := nul_le h; rw [show (lT x0.1).length = 0 by omega]; rfl)
        have hRx0 : RdAt Hf0 193 b_1 x0.2 RN0 := by rw [ex0]; exact (hR_0.mono hlf0)
        refine exX ?_
        refine XT ?_
        refine XT ?_
        refine Xb ?_
        refine Nt ?_
        refine sr ?_
        refine mv rfl rfl ?_
        refine asg rfl rfl ?_
        refine nl ?_
        refine rg ?_
        refine mv rfl rfl ?_
        refine mv rfl rfl ?_
        refine nc rfl rfl ?_
        refine fa0 F123_1 rfl rfl ?_
        refine st Tryd.sizeOf121 rfl rfl rfl rfl (.tail .head) ?_
        refine nl ?_
        refine sq ?_
        refine sr ?_
        refine mv rfl rfl ?_
        refine nl ?_
        refine cdT rfl (by omega) ?_
        refine rg ?_
        refine mv rfl rfl ?_
        refine cl rfl rfl rfl (d_tags hRx0) rfl (fun v_ H1 L1 le_12 hR_ => ?_)
        obtain ⟨N149, rfl, hR149, mt, rfl, hft⟩ := hR_
        have hu2 : u = rTags x0.2 := hu
        rw [← hu2] at hR149 hft
        refine nc rfl rfl ?_
        refine fa0 F123_2 rfl rfl ?_
        refine sa Tryd.sizeOf99 rfl rfl rfl rfl rfl (.tail .head) ?_
        refine nl ?_
        refine sr ?_
        refine cl rfl rfl rfl (r_complete hR149 (he.mono (le_2.trans (le_3.trans (hlf0.trans le_12))))) rfl (fun v_ H1 L1 hle_ hR_ => ?_)
        obtain ⟨rfl, rfl, rfl⟩ := hR_
        refine asg rfl rfl ?_
        refine nl ?_
        refine drW .head ?_
        have hA_ := (show At_CreateACLsRequest v _ (decP fs_CreateACLsRequest v true _).1 [.int .i16 v, .slice a0 (lT x0.1).length c0, .map mt] from (by rw [hD]; exact ⟨a0, c0, mt, rfl, (hf0.mono At_CreateACLsRequestCreation.mono le_12), hft⟩))
        refine rT rfl rfl (le_2.trans (le_3.trans (hlf0.trans le_12))) (fun _ _ h => h) ⟨_, rfl, ?_⟩
        have hz := RdEnd.of (e := e) hA_
        rw [show (decP fs_CreateACLsRequest v true _).2.bad = u.2.bad by rw [hD]] at hz
        exact hz
end Go.Sx

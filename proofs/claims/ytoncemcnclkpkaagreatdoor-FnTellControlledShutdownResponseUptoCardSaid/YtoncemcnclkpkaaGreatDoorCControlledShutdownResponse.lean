import Derived.Test.YtoncemcnclkpkaaGreatDoorSxTab
import Derived.Test.YtoncemcnclkpkaaGreatDoorBControlledShutdownResponse
import Derived.Test.YtoncemcnclkpkaaGreatDoorRK2
import Derived.KernelRfl
set_option linter.unusedVariables false
set_option linter.unusedSimpArgs false
set_option maxRecDepth 100000
set_option maxHeartbeats 20000000
namespace Go.Sx
open Go.Proofs
theorem def_ControlledShutdownResponsePartitionsRemaining {H : Fz} {L : Own} {b o : Nat} {pre post : List Value} {c0 c1 c2 : Value} (ho : o = pre.length) :
    Fn Tryz.prog 110 [.pointer (some ⟨b, o, none⟩)] H ([(b, .cells (pre ++ ([c0, c1, c2] : List Value) ++ post).toArray 93 (0, 0))] :: L) (fun _ H' L' => H = H' ∧ L' = [(b, .cells (pre ++ ([c0, c1, c2] : List Value) ++ post).toArray 93 (0, 0))] :: L) := by
  refine Fn.mk Tryz.call110 Tryz.func110 rfl Tryz.ntmps110 rfl ?_
  refine skN ?_
  exact fun _ _ hA hw => rn rfl (Fz.le.refl _) ⟨rfl, rfl⟩ hA hw
theorem def0_ControlledShutdownResponse {H : Fz} {L : Own} {b : Nat} {c0 c1 c2 c3 : Value} :
    Fn Tryz.prog 70 [.pointer (some ⟨b, 0, none⟩)] H ([(b, .cells [c0, c1, c2, c3].toArray 88 (0, 0))] :: L) (fun _ H' L' => H = H' ∧ L' = [(b, .cells [c0, c1, c2, c3].toArray 88 (0, 0))] :: L) := by
  refine Fn.mk Tryz.call70 Tryz.func70 rfl Tryz.ntmps70 rfl ?_
  refine skN ?_
  exact fun _ _ hA hw => rn rfl (Fz.le.refl _) ⟨rfl, rfl⟩ hA hw
theorem rd_ControlledShutdownResponse_f {H : Fz} {L : Own} {b : Nat} {v : Int} {a : Option Addr} {c : Nat} {s : List UInt8} {e : Value} (hB : BytesAt H a c s) (hL_ : s.length ≤ BR) (he : H.at 1 0 [e]) (hv0 : 0 ≤ v) (hv1 : v ≤ 2) :
    Fn Tryz.prog 71 [.pointer (some ⟨b, 0, none⟩), .slice a s.length c, .bool false] H ([(b, .cells [.int .i16 v, .int .i16 0, .slice none 0 0, .map none].toArray 88 (0, 0))] :: L) (fun r H' L' => ∃ cs : List Value, L' = [(b, .cells cs.toArray 88 (0, 0))] :: L ∧ RdEnd H' (At_ControlledShutdownResponse v) (decP fs_ControlledShutdownResponse v false ⟨s, false, !a.isNone⟩) e r cs) := by
  refine Fn.mk Tryz.call71 Tryz.func71 rfl Tryz.ntmps71 rfl ?_
  refine sr ?_
  refine asg rfl rfl ?_
  refine nl ?_
  refine sr ?_
  refine mv rfl rfl ?_
  refine cl rfl rfl rfl def0_ControlledShutdownResponse rfl (fun v_ H1 L1 hle_ hR_ => ?_)
  obtain ⟨rfl, rfl⟩ := hR_
  refine nl ?_
  refine sr ?_
  refine mv rfl rfl ?_
  refine bd' S144 rfl rfl rfl ?_
  refine al Tryz.zeroValue144 rfl rfl (fun b_1 => ?_)
  refine sa Tryz.sizeOf144 rfl rfl rfl rfl rfl .head ?_
  have hR0_ : RdAt H 144 b_1 ⟨s, false, !a.isNone⟩ [(b_1, .cells [_, _].toArray 144 (0, 0))] := ⟨a, c, rfl, hB, by simp⟩
  obtain ⟨x0, hx0⟩ : ∃ x, x = stepF (Fd.mk 2 0 (-1) (-1) (-1) 0 0 []) v false ⟨s, false, !a.isNone⟩ := ⟨_, rfl⟩
  obtain ⟨x1, hx1⟩ : ∃ x, x = stepF (Fd.mk 11 0 (-1) (-1) (-1) 0 10 fs_sControlledShutdownResponsePartitionsRemaining) v false x0.2 := ⟨_, rfl⟩
  obtain ⟨u, hu⟩ : ∃ x, x = tailU false x1.2 := ⟨_, rfl⟩
  have hD : decP fs_ControlledShutdownResponse v false ⟨s, false, !a.isNone⟩ = (.mk 0 [] false [x0.1, x1.1] u.1, u.2) := by
    generalize (⟨s, false, !a.isNone⟩ : Rd) = r_ at hx0 ⊢
    rw [decP_eq]; unfold fs_ControlledShutdownResponse; simp only [decFs_cons, decFs_nil, ← hx0, ← hx1, ← hu]
  have hL0 : x0.2.s.length ≤ BR := by rw [hx0]; exact Nat.le_trans (stepF_shr _ _ _ _) hL_
  have hL1 : x1.2.s.length ≤ BR := by rw [hx1]; exact Nat.le_trans (stepF_shr _ _ _ _) hL0
  have hE : u.2.bad = true → (decP fs_ControlledShutdownResponse v false ⟨s, false, !a.isNone⟩).2.bad = true := fun h => by rw [hD]; exact h
  have hB1 : x1.2.bad = true → (decP fs_ControlledShutdownResponse v false ⟨s, false, !a.isNone⟩).2.bad = true := fun h => hE (by rw [hu]; exact tailU_bad h)
  have hB0 : x0.2.bad = true → (decP fs_ControlledShutdownResponse v false ⟨s, false, !a.isNone⟩).2.bad = true := fun h => hB1 (by rw [hx1]; exact step_bad h)
  refine nl ?_
  refine sr ?_
  refine mv rfl rfl ?_
  refine nc rfl rfl ?_
  refine fa0 F88_0 rfl rfl ?_
  refine ld (Says.own (.tail .head)) Tryz.isAgg46 rfl (Nat.zero_add _).symm rfl rfl ?_
  refine asg rfl rfl ?_
  refine nl ?_
  refine sr ?_
  refine mv rfl rfl ?_
  refine nl ?_
  refine sr ?_
  refine mv rfl rfl ?_
  refine ge rfl rfl rfl ?_
  refine asg rfl rfl ?_
  refine nl ?_
  refine sr ?_
  refine mv rfl rfl ?_
  refine nl ?_
  refine sr ?_
  refine mv rfl rfl ?_
  refine asg rfl rfl ?_
  refine nl ?_
  refine sq ?_
  refine sr ?_
  have ex0 : x0 = decV 2 (decP [] v false) false false ⟨s, false, !a.isNone⟩ := (hx0.trans (step_yes (by decide) (show (0 : Int) ≤ v by omega) (Or.inl (by decide)))).trans (decF'_val (by decide) (rfl))
  refine cl rfl rfl rfl (d2 hR0_ ex0) rfl (fun v_ H1 L1 hle_ hR_ => ?_)
  obtain ⟨N33, rfl, hR33, rfl, rfl⟩ := hR_
  refine asg rfl rfl ?_
  refine nl ?_
  refine rg ?_
  refine mv rfl rfl ?_
  refine mv rfl rfl ?_
  refine nc rfl rfl ?_
  refine fa0 F88_1 rfl rfl ?_
  refine st Tryz.sizeOf46 rfl rfl rfl rfl (.tail .head) ?_
  refine nl ?_
  refine sq ?_
  refine sr ?_
  refine mv rfl rfl ?_
  refine nc rfl rfl ?_
  refine fa0 F88_2 rfl rfl ?_
  refine ld (Says.own (.tail .head)) Tryz.isAgg83 rfl (Nat.zero_add _).symm rfl rfl ?_
  refine asg rfl rfl ?_
  refine nl ?_
  refine sr ?_
  refine mv rfl rfl ?_
  refine asg rfl rfl ?_
  refine nl ?_
  refine sr ?_
  refine asg rfl rfl ?_
  refine nl ?_
  refine sq ?_
  refine sr ?_
  refine mv rfl rfl ?_
  refine nl ?_
  refine cdF rfl (by omega) ?_
  refine rg ?_
  have ey1 : x1 = (.mk 0 [] (if 0 ≤ ((-1) : Int) ∧ (v < ((-1) : Int) ∨ (rArr false x0.2).1 = 0) then false else decide ((rArr false x0.2).1 ≤ 0)) (rMany (decV 10 (decP fs_sControlledShutdownResponsePartitionsRemaining v false) false false) (rArr false x0.2).1.toNat (rArr false x0.2).2).1 [], (rMany (decV 10 (decP fs_sControlledShutdownResponsePartitionsRemaining v false) false false) (rArr false x0.2).1.toNat (rArr false x0.2).2).2) := (hx1.trans (step_yes (by decide) (show (0 : Int) ≤ v by omega) (Or.inl (by decide)))).trans (decF'_list rfl rfl)
  have hn1 : (rArr false x0.2).1.toNat = (lT x1.1).length := by rw [ey1]; exact (lT_many nul_le).symm
  have ex1 := ey1
  rw [hn1] at ex1
  have hl1 := rArr_le false x0.2
  have hm1 : (rArr false x0.2).2.s.length ≤ BR := Nat.le_trans (rArr_len false x0.2) hL0
  have hnb1 : (lT x1.1).length ≤ BR := by omega
  refine cl rfl rfl rfl (r_arrf hR33) rfl (fun v_ H1 L1 hle_ hR_ => ?_)
  obtain ⟨rfl, N45, rfl, hR45, rfl⟩ := hR_
  have hh1 := rArr_hi false x0.2
  refine asg rfl rfl ?_
  refine nl ?_
  refine sq ?_
  refine sr ?_
  refine cl rfl rfl rfl (r_ok hR45) rfl (fun v_ H1 L1 hle_ hR_ => ?_)
  obtain ⟨rfl, rfl, rfl⟩ := hR_
  refine nt rfl rfl ?_
  refine nl ?_
  refine cb rfl (fun h47 => ?_) (fun h47 => ?_)
  · skip
    have hbad_ : (rArr false x0.2).2.bad = true := by simpa using h47
    refine sr ?_
    refine cl rfl rfl rfl (r_complete hR45 he) rfl (fun v_ H1 L1 hle_ hR_ => ?_)
    obtain ⟨rfl, rfl, rfl⟩ := hR_
    refine asg rfl rfl ?_
    refine nl ?_
    refine drW .head ?_
    exact rT rfl rfl (Fz.le.refl _) (fun _ _ h => h) ⟨_, rfl, RdEnd.out (hB1 (by rw [ey1]; exact rMany_bad (fun r h => decV_bad (decP_bad _ _ _) h) _ _ hbad_)) hbad_⟩
  · skip
    refine skt ?_
    refine sr ?_
    refine mv rfl rfl ?_
    refine sh' (j := 0) Tryz.runUnderlying83 Tryz.sizeOf93 rfl rfl rfl (Nat.zero_le _) rfl ?_
    refine asg rfl rfl ?_
    refine nl ?_
    refine sq ?_
    refine sr ?_
    refine mv rfl rfl ?_
    refine gt rfl rfl rfl ?_
    refine nl ?_
    refine nulC2 ?_
    refine cutT (fun l' H' L' => ∃ (a1 : Option Addr), ∃ (c1 : Nat), ∃ (Nr1 : Chunk), [(2, .bool false), (7, .pointer (some ⟨b_1, 0, none⟩)), (9, .bool (decide ((3 : Int) ≤ v))), (10, .pointer (some ⟨b, 0, none⟩)), (12, .slice none 0 0), (13, .slice a1 (lT x1.1).length c1), (14, .int .i32 (rArr false x0.2).1)] = l' ∧ Nr1 :: N45 :: [(b, .cells [.int .i16 v, .int .i16 (IntKind.i16.wrap x0.1.n), .slice none 0 0, .map none].toArray 88 (0, 0))] :: L = L' ∧ Row 93 3 a1 (lT x1.1).length c1 (reps [.string ⟨#[]⟩, .int .i32 0, .map none] (lT x1.1).length) Nr1 ∧ a1.isNone = (if 0 ≤ ((-1) : Int) ∧ (v < ((-1) : Int) ∨ (rArr false x0.2).1 = 0) then false else decide ((rArr false x0.2).1 ≤ 0))) ?_ (fun l' H' L' le_3 hI => ?_)
    · skip
      refine cd rfl (fun h52 => ?_) (fun h52 => ?_)
      · skip
        refine rg ?_
        refine mv rfl rfl ?_
        refine mv rfl rfl ?_
        refine apz (zs := [.string ⟨#[]⟩, .int .i32 0, .map none]) (m := (lT x1.1).length) Tryz.underlying83 Tryz.underlying21 I93 rfl rfl rfl (by omega) (by omega) (by have h9 := hnb1; unfold BR at h9; omega) (by have h9 := hnb1; unfold BR at h9; unfold maxLen; omega) rfl (fun g55 cp55 N55 r55 => ?_)
        refine asg rfl rfl ?_
        refine nN ?_
        refine drN (.tail .head) ?_
        refine fun a_ w_ hA hw => ⟨_, _, _, hA.sub ?_, (Fz.le.refl _), hw, (some ⟨g55, 0, none⟩), cp55, N55, rfl, rfl, r55, (by rw [if_neg (by omega)]; exact (decide_eq_false (by omega)).symm)⟩
        exact (.cons rfl (.cons rfl (.cons rfl (.cons rfl (.cons rfl (.cons rfl (.cons rfl (.nil _))))))))
      · skip
        refine skN ?_
        refine fun a_ w_ hA hw => ⟨_, _, _, hA.sub ?_, (Fz.le.refl _), hw, none, 0, [], rfl, rfl, (by rw [show (lT x1.1).length = 0 by omega]; exact (Row.nil _ _)), (by rw [if_neg (by omega)]; exact (decide_eq_true (by omega)).symm)⟩
        exact (.cons rfl (.cons rfl (.cons rfl (.cons rfl (.cons rfl (.cons (by rw [show (lT x1.1).length = 0 by omega]; rfl) (.cons rfl (.nil _))))))))
    · skip
      obtain ⟨a1, c1, Nr1, rfl, rfl, pj0, pj1⟩ := hI
      have hr1 := pj0
      have hi1 := pj1
      refine sq ?_
      refine sr ?_
      refine asg rfl rfl ?_
      refine nl ?_
      refine bl (lp ((lT x1.1).length) (fun k1 l' H' L' => ∃ (es1 : List (KE 3)) (M1 RN1 : Chunk), [(2, .bool false), (7, .pointer (some ⟨b_1, 0, none⟩)), (9, .bool (decide ((3 : Int) ≤ v))), (10, .pointer (some ⟨b, 0, none⟩)), (12, .slice none 0 0), (13, .slice a1 (lT x1.1).length c1), (14, .int .i32 (rArr false x0.2).1), (15, .int .i32 (k1 : Int))] = l' ∧ M1 :: RN1 :: [(b, .cells [.int .i16 v, .int .i16 (IntKind.i16.wrap x0.1.n), .slice none 0 0, .map none].toArray 88 (0, 0))] :: L = L' ∧ RdAt H' 144 b_1 (rMany (decV 10 (decP fs_sControlledShutdownResponsePartitionsRemaining v false) false false) k1 (rArr false x0.2).2).2 RN1 ∧ Row 93 3 a1 (lT x1.1).length c1 (es1.flatMap fk ++ reps [.string ⟨#[]⟩, .int .i32 0, .map none] ((lT x1.1).length - k1)) M1 ∧ es1.map (·.2) = (rMany (decV 10 (decP fs_sControlledShutdownResponsePartitionsRemaining v false) false false) k1 (rArr false x0.2).2).1 ∧ ∀ p ∈ es1, At_ControlledShutdownResponsePartitionsRemaining H' p.2 (fk p)) [(2, .bool false), (7, .pointer (some ⟨b_1, 0, none⟩)), (9, .bool (decide ((3 : Int) ≤ v))), (10, .pointer (some ⟨b, 0, none⟩)), (12, .slice none 0 0), (13, .slice a1 (lT x1.1).length c1), (14, .int .i32 (rArr false x0.2).1), (15, .int .i32 (0 : Int))] (.cons rfl (.cons rfl (.cons rfl (.cons rfl (.cons rfl (.cons rfl (.cons rfl (.cons rfl (.nil _))))))))) ⟨[], Nr1, _, rfl, rfl, (hR45.mono le_3), hr1, rfl, (fun p hp => by cases hp)⟩ (fun k1 l' H' L' hk1 le_4 hI => ?_))
      obtain ⟨es1, M1, RN1, rfl, rfl, hR_1, hw_1, he_1, hg_1⟩ := hI
      have hs_1 := els_len he_1
      have hp_1 : (es1.flatMap fk).length = k1 * 3 := els_flat hs_1
      refine sq ?_
      refine sr ?_
      refine mv rfl rfl ?_
      refine mv rfl rfl ?_
      refine lt rfl rfl rfl ?_
      refine nl ?_
      refine cd rfl (fun h58 => ?_) (fun h58 => ?_)
      · skip
        have hkl1 : k1 < (lT x1.1).length := by omega
        obtain ⟨g1, po1, hga1, rfl, hbk1⟩ := hw_1.next (zs := [.string ⟨#[]⟩, .int .i32 0, .map none]) hkl1 rfl (by decide)
        have ho1 : 0 + k1 * 3 = (es1.flatMap fk).length := by rw [hp_1]; omega
        have hbz1 : ((decV 10 (decP fs_sControlledShutdownResponsePartitionsRemaining v false) false false) (rMany (decV 10 (decP fs_sControlledShutdownResponsePartitionsRemaining v false) false false) k1 (rArr false x0.2).2).2).2.bad = true → (decP fs_ControlledShutdownResponse v false ⟨s, false, !a.isNone⟩).2.bad = true := fun h => hB1 (by rw [ex1]; exact rMany_mono (fun r h => decV_bad (fun r h => decP_bad _ _ _ r h) h) _ (show k1 + 1 ≤ (lT x1.1).length from hkl1) (by rw [rMany_succ]; exact h))
        have hLk1 : (rMany (decV 10 (decP fs_sControlledShutdownResponsePartitionsRemaining v false) false false) k1 (rArr false x0.2).2).2.s.length ≤ BR := Nat.le_trans (rMany_shr (fun r => decV_shr (fun r => decP_shr _ _ _ r) r) _ _) hm1
        have hL1__ := hLk1
        obtain ⟨x1_0, hx1_0⟩ : ∃ x, x = stepF (Fd.mk 8 0 (-1) (-1) (-1) 0 0 []) v false (rMany (decV 10 (decP fs_sControlledShutdownResponsePartitionsRemaining v false) false false) k1 (rArr false x0.2).2).2 := ⟨_, rfl⟩
        obtain ⟨x1_1, hx1_1⟩ : ∃ x, x = stepF (Fd.mk 3 0 (-1) (-1) (-1) 0 0 []) v false x1_0.2 := ⟨_, rfl⟩
        obtain ⟨u1_, hu1_⟩ : ∃ x, x = tailU false x1_1.2 := ⟨_, rfl⟩
        have hD1_ : decP fs_sControlledShutdownResponsePartitionsRemaining v false (rMany (decV 10 (decP fs_sControlledShutdownResponsePartitionsRemaining v false) false false) k1 (rArr false x0.2).2).2 = (.mk 0 [] false [x1_0.1, x1_1.1] u1_.1, u1_.2) := by
          generalize ((rMany (decV 10 (decP fs_sControlledShutdownResponsePartitionsRemaining v false) false false) k1 (rArr false x0.2).2).2 : Rd) = r_ at hx1_0 ⊢
          rw [decP_eq]; unfold fs_sControlledShutdownResponsePartitionsRemaining; simp only [decFs_cons, decFs_nil, ← hx1_0, ← hx1_1, ← hu1_]
        have hL1_0 : x1_0.2.s.length ≤ BR := by rw [hx1_0]; exact Nat.le_trans (stepF_shr _ _ _ _) hL1__
        have hL1_1 : x1_1.2.s.length ≤ BR := by rw [hx1_1]; exact Nat.le_trans (stepF_shr _ _ _ _) hL1_0
        have hE1_ : u1_.2.bad = true → (decP fs_ControlledShutdownResponse v false ⟨s, false, !a.isNone⟩).2.bad = true := fun h => hbz1 (by show (decP fs_sControlledShutdownResponsePartitionsRemaining v false (rMany (decV 10 (decP fs_sControlledShutdownResponsePartitionsRemaining v false) false false) k1 (rArr false x0.2).2).2).2.bad = true; rw [hD1_]; exact h)
        have hB1_1 : x1_1.2.bad = true → (decP fs_ControlledShutdownResponse v false ⟨s, false, !a.isNone⟩).2.bad = true := fun h => hE1_ (by rw [hu1_]; exact tailU_bad h)
        have hB1_0 : x1_0.2.bad = true → (decP fs_ControlledShutdownResponse v false ⟨s, false, !a.isNone⟩).2.bad = true := fun h => hB1_1 (by rw [hx1_1]; exact step_bad h)
        refine skt ?_
        refine sq ?_
        refine bl ?_
        refine sr ?_
        refine mv rfl rfl ?_
        refine mv rfl rfl ?_
        refine ixk (j := k1) Tryz.runUnderlying83 Tryz.sizeOf93 rfl hga1 rfl rfl hkl1 rfl ?_
        refine asg rfl rfl ?_
        refine nl ?_
        refine sr ?_
        refine mv rfl rfl ?_
        refine cl rfl rfl rfl (def_ControlledShutdownResponsePartitionsRemaining ho1) rfl (fun v_ H1 L1 hle_ hR_ => ?_)
        obtain ⟨rfl, rfl⟩ := hR_
        refine nl ?_
        refine sr ?_
        refine mv rfl rfl ?_
        refine asg rfl rfl ?_
        refine nl ?_
        refine sq ?_
        refine sr ?_
        refine asg rfl rfl ?_
        refine nl ?_
        refine sq ?_
        refine sr ?_
        refine mv rfl rfl ?_
        refine nl ?_
        refine cF rfl ?_
        refine sr ?_
        refine mv rfl rfl ?_
        refine nl ?_
        refine cdF rfl (by omega) ?_
        refine rg ?_
        refine tf (.tail .head) ?_
        have ex1_0 : x1_0 = decV 8 (decP [] v false) false false (rMany (decV 10 (decP fs_sControlledShutdownResponsePartitionsRemaining v false) false false) k1 (rArr false x0.2).2).2 := (hx1_0.trans (step_yes (by decide) (show (0 : Int) ≤ v by omega) (Or.inl (by decide)))).trans (decF'_val (by decide) (rfl))
        refine cl rfl rfl rfl (d8f hR_1 ex1_0) rfl (fun v_ H1 L1 le_5 hR_ => ?_)
        obtain ⟨N73, rfl, hR73, rfl, rfl⟩ := hR_
        refine asg rfl rfl ?_
        refine nl ?_
        refine rg ?_
        refine mv rfl rfl ?_
        refine mv rfl rfl ?_
        refine nc rfl rfl ?_
        refine fa F93_0 rfl rfl ?_
        refine stM (off := 0) Tryz.sizeOf9 rfl (by rw [ho1]) rfl rfl rfl (.tail .head) ?_
        refine nl ?_
        refine sq ?_
        refine sr ?_
        have ex1_1 : x1_1 = decV 3 (decP [] v false) false false x1_0.2 := (hx1_1.trans (step_yes (by decide) (show (0 : Int) ≤ v by omega) (Or.inl (by decide)))).trans (decF'_val (by decide) (rfl))
        refine cl rfl rfl rfl (d3 hR73 ex1_1) rfl (fun v_ H1 L1 hle_ hR_ => ?_)
        obtain ⟨N78, rfl, hR78, rfl, rfl⟩ := hR_
        refine asg rfl rfl ?_
        refine nl ?_
        refine rg ?_
        refine mv rfl rfl ?_
        refine mv rfl rfl ?_
        refine nc rfl rfl ?_
        refine fa F93_1 rfl rfl ?_
        refine stM (off := 1) Tryz.sizeOf21 rfl (by rw [ho1]) rfl rfl rfl (.tail .head) ?_
        refine nl ?_
        refine sr ?_
        refine mv rfl rfl ?_
        refine nl ?_
        refine cdF rfl (by omega) ?_
        refine skN ?_
        refine Nb ?_
        refine Nt ?_
        refine rg ?_
        refine mv rfl rfl ?_
        refine ad rfl rfl (c := ((k1 + 1 : Nat) : Int)) ((wrap32_le (by omega) (by omega)).trans (by omega)) rfl ?_
        refine asg rfl rfl ?_
        refine nN ?_
        obtain rfl : u1_ = ([], x1_1.2) := hu1_
        have hfs1 := flatMap_snoc' fk es1 ((⟨([.string ⟨x1_0.1.s.toArray⟩, .int .i32 (IntKind.i32.wrap x1_1.1.n), .map none] : List Value), rfl, all_one rfl⟩, ((decV 10 (decP fs_sControlledShutdownResponsePartitionsRemaining v false) false false) (rMany (decV 10 (decP fs_sControlledShutdownResponsePartitionsRemaining v false) false false) k1 (rArr false x0.2).2).2).1) : KE 3)
        have hrw1 := hbk1 ([.string ⟨x1_0.1.s.toArray⟩, .int .i32 (IntKind.i32.wrap x1_1.1.n), .map none] : List Value) rfl
        refine tfN (.tail .head) ?_
        refine fun a_ w_ hA hw => ⟨hkl1, _, _, _, hA.sub ?_, le_4, hw, _, _, _, rfl, rfl, (by rw [rMany_succ]; show RdAt _ 144 b_1 (decP fs_sControlledShutdownResponsePartitionsRemaining v false (rMany (decV 10 (decP fs_sControlledShutdownResponsePartitionsRemaining v false) false false) k1 (rArr false x0.2).2).2).2 _; rw [hD1_]; exact hR78), (by rw [← hfs1]; exact hrw1), (dec_els he_1), (fun p hp => (mem_snoc hp).elim (fun h => At_ControlledShutdownResponsePartitionsRemaining.mono _ _ _ _ (Fz.le.refl _) (hg_1 p h)) (fun h => h ▸ (by show At_ControlledShutdownResponsePartitionsRemaining _ (decP fs_sControlledShutdownResponsePartitionsRemaining v false (rMany (decV 10 (decP fs_sControlledShutdownResponsePartitionsRemaining v false) false false) k1 (rArr false x0.2).2).2).1 [.string ⟨x1_0.1.s.toArray⟩, .int .i32 (IntKind.i32.wrap x1_1.1.n), .map none]; rw [hD1_]; exact ⟨none, rfl, (KvAt.nil _)⟩)))⟩
        exact (.cons rfl (.cons rfl (.cons rfl (.cons rfl (.cons rfl (.cons rfl (.cons rfl (.cons rfl (.nil _)))))))))
      · skip
        have hkn_ : k1 = (lT x1.1).length := by omega
        subst hkn_
        have hw2_1 : Row 93 3 a1 (lT x1.1).length c1 (es1.flatMap fk) M1 := by have h := hw_1; rw [Nat.sub_self] at h; simpa [reps] using h
        refine frW hw2_1 .head (fun Hf1 hlf1 hfz1 => ?_)
        have hrs1 := RowsAt.row (R := At_ControlledShutdownResponsePartitionsRemaining) hfz1 hs_1.symm hw2_1.le.1 (fun p hp => At_ControlledShutdownResponsePartitionsRemaining.mono _ _ _ _ hlf1 (hg_1 p hp))
        rw [he_1] at hrs1
        have hf1 : ListAt Hf1 x1.1 3 At_ControlledShutdownResponsePartitionsRemaining a1 c1 := by rw [ex1]; exact listAt_of hrs1 hi1 (fun h => by have h1 := nul_le h; rw [show (lT x1.1).length = 0 by omega]; rfl)
        have hRx1 : RdAt Hf1 144 b_1 x1.2 RN1 := by rw [ex1]; exact (hR_1.mono hlf1)
        refine exX ?_
        refine XT ?_
        refine XT ?_
        refine Xb ?_
        refine Nt ?_
        refine sr ?_
        refine mv rfl rfl ?_
        refine asg rfl rfl ?_
        refine nl ?_
        refine rg ?_
        refine mv rfl rfl ?_
        refine mv rfl rfl ?_
        refine nc rfl rfl ?_
        refine fa0 F88_2 rfl rfl ?_
        refine st Tryz.sizeOf83 rfl rfl rfl rfl (.tail .head) ?_
        refine nl ?_
        refine sq ?_
        refine sr ?_
        refine mv rfl rfl ?_
        refine nl ?_
        refine cdF rfl (by omega) ?_
        refine skt ?_
        refine sr ?_
        refine cl rfl rfl rfl (r_complete hRx1 (he.mono (le_3.trans (le_4.trans hlf1)))) rfl (fun v_ H1 L1 hle_ hR_ => ?_)
        obtain ⟨rfl, rfl, rfl⟩ := hR_
        refine asg rfl rfl ?_
        refine nl ?_
        refine drW .head ?_
        obtain rfl : u = ([], x1.2) := hu
        have hA_ := (show At_ControlledShutdownResponse v _ (decP fs_ControlledShutdownResponse v false _).1 [.int .i16 v, .int .i16 (IntKind.i16.wrap x0.1.n), .slice a1 (lT x1.1).length c1, .map none] from (by rw [hD]; exact ⟨a1, c1, none, rfl, hf1, (KvAt.nil _)⟩))
        refine rT rfl rfl (le_3.trans (le_4.trans hlf1)) (fun _ _ h => h) ⟨_, rfl, ?_⟩
        have hz := RdEnd.of (e := e) hA_
        rw [show (decP fs_ControlledShutdownResponse v false _).2.bad = x1.2.bad by rw [hD]] at hz
        exact hz
theorem rd_ControlledShutdownResponse_t {H : Fz} {L : Own} {b : Nat} {v : Int} {a : Option Addr} {c : Nat} {s : List UInt8} {e : Value} (hB : BytesAt H a c s) (hL_ : s.length ≤ BR) (he : H.at 1 0 [e]) (hv0 : 3 ≤ v) (hv1 : v ≤ 3) :
    Fn Tryz.prog 71 [.pointer (some ⟨b, 0, none⟩), .slice a s.length c, .bool false] H ([(b, .cells [.int .i16 v, .int .i16 0, .slice none 0 0, .map none].toArray 88 (0, 0))] :: L) (fun r H' L' => ∃ cs : List Value, L' = [(b, .cells cs.toArray 88 (0, 0))] :: L ∧ RdEnd H' (At_ControlledShutdownResponse v) (decP fs_ControlledShutdownResponse v true ⟨s, false, !a.isNone⟩) e r cs) := by
  refine Fn.mk Tryz.call71 Tryz.func71 rfl Tryz.ntmps71 rfl ?_
  refine sr ?_
  refine asg rfl rfl ?_
  refine nl ?_
  refine sr ?_
  refine mv rfl rfl ?_
  refine cl rfl rfl rfl def0_ControlledShutdownResponse rfl (fun v_ H1 L1 hle_ hR_ => ?_)
  obtain ⟨rfl, rfl⟩ := hR_
  refine nl ?_
  refine sr ?_
  refine mv rfl rfl ?_
  refine bd' S144 rfl rfl rfl ?_
  refine al Tryz.zeroValue144 rfl rfl (fun b_1 => ?_)
  refine sa Tryz.sizeOf144 rfl rfl rfl rfl rfl .head ?_
  have hR0_ : RdAt H 144 b_1 ⟨s, false, !a.isNone⟩ [(b_1, .cells [_, _].toArray 144 (0, 0))] := ⟨a, c, rfl, hB, by simp⟩
  obtain ⟨x0, hx0⟩ : ∃ x, x = stepF (Fd.mk 2 0 (-1) (-1) (-1) 0 0 []) v true ⟨s, false, !a.isNone⟩ := ⟨_, rfl⟩
  obtain ⟨x1, hx1⟩ : ∃ x, x = stepF (Fd.mk 11 0 (-1) (-1) (-1) 0 10 fs_sControlledShutdownResponsePartitionsRemaining) v true x0.2 := ⟨_, rfl⟩
  obtain ⟨u, hu⟩ : ∃ x, x = tailU true x1.2 := ⟨_, rfl⟩
  have hD : decP fs_ControlledShutdownResponse v true ⟨s, false, !a.isNone⟩ = (.mk 0 [] false [x0.1, x1.1] u.1, u.2) := by
    generalize (⟨s, false, !a.isNone⟩ : Rd) = r_ at hx0 ⊢
    rw [decP_eq]; unfold fs_ControlledShutdownResponse; simp only [decFs_cons, decFs_nil, ← hx0, ← hx1, ← hu]
  have hL0 : x0.2.s.length ≤ BR := by rw [hx0]; exact Nat.le_trans (stepF_shr _ _ _ _) hL_
  have hL1 : x1.2.s.length ≤ BR := by rw [hx1]; exact Nat.le_trans (stepF_shr _ _ _ _) hL0
  have hE : u.2.bad = true → (decP fs_ControlledShutdownResponse v true ⟨s, false, !a.isNone⟩).2.bad = true := fun h => by rw [hD]; exact h
  have hB1 : x1.2.bad = true → (decP fs_ControlledShutdownResponse v true ⟨s, false, !a.isNone⟩).2.bad = true := fun h => hE (by rw [hu]; exact tailU_bad h)
  have hB0 : x0.2.bad = true → (decP fs_ControlledShutdownResponse v true ⟨s, false, !a.isNone⟩).2.bad = true := fun h => hB1 (by rw [hx1]; exact step_bad h)
  refine nl ?_
  refine sr ?_
  refine mv rfl rfl ?_
  refine nc rfl rfl ?_
  refine fa0 F88_0 rfl rfl ?_
  refine ld (Says.own (.tail .head)) Tryz.isAgg46 rfl (Nat.zero_add _).symm rfl rfl ?_
  refine asg rfl rfl ?_
  refine nl ?_
  refine sr ?_
  refine mv rfl rfl ?_
  refine nl ?_
  refine sr ?_
  refine mv rfl rfl ?_
  refine ge rfl rfl rfl ?_
  refine asg rfl rfl ?_
  refine nl ?_
  refine sr ?_
  refine mv rfl rfl ?_
  refine nl ?_
  refine sr ?_
  refine mv rfl rfl ?_
  refine asg rfl rfl ?_
  refine nl ?_
  refine sq ?_
  refine sr ?_
  have ex0 : x0 = decV 2 (decP [] v true) false true ⟨s, false, !a.isNone⟩ := (hx0.trans (step_yes (by decide) (show (0 : Int) ≤ v by omega) (Or.inl (by decide)))).trans (decF'_val (by decide) (rfl))
  refine cl rfl rfl rfl (d2 hR0_ ex0) rfl (fun v_ H1 L1 hle_ hR_ => ?_)
  obtain ⟨N33, rfl, hR33, rfl, rfl⟩ := hR_
  refine asg rfl rfl ?_
  refine nl ?_
  refine rg ?_
  refine mv rfl rfl ?_
  refine mv rfl rfl ?_
  refine nc rfl rfl ?_
  refine fa0 F88_1 rfl rfl ?_
  refine st Tryz.sizeOf46 rfl rfl rfl rfl (.tail .head) ?_
  refine nl ?_
  refine sq ?_
  refine sr ?_
  refine mv rfl rfl ?_
  refine nc rfl rfl ?_
  refine fa0 F88_2 rfl rfl ?_
  refine ld (Says.own (.tail .head)) Tryz.isAgg83 rfl (Nat.zero_add _).symm rfl rfl ?_
  refine asg rfl rfl ?_
  refine nl ?_
  refine sr ?_
  refine mv rfl rfl ?_
  refine asg rfl rfl ?_
  refine nl ?_
  refine sr ?_
  refine asg rfl rfl ?_
  refine nl ?_
  refine sq ?_
  refine sr ?_
  refine mv rfl rfl ?_
  refine nl ?_
  refine cdT rfl (by omega) ?_
  refine rg ?_
  have ey1 : x1 = (.mk 0 [] (if 0 ≤ ((-1) : Int) ∧ (v < ((-1) : Int) ∨ (rArr true x0.2).1 = 0) then false else decide ((rArr true x0.2).1 ≤ 0)) (rMany (decV 10 (decP fs_sControlledShutdownResponsePartitionsRemaining v true) false true) (rArr true x0.2).1.toNat (rArr true x0.2).2).1 [], (rMany (decV 10 (decP fs_sControlledShutdownResponsePartitionsRemaining v true) false true) (rArr true x0.2).1.toNat (rArr true x0.2).2).2) := (hx1.trans (step_yes (by decide) (show (0 : Int) ≤ v by omega) (Or.inl (by decide)))).trans (decF'_list rfl rfl)
  have hn1 : (rArr true x0.2).1.toNat = (lT x1.1).length := by rw [ey1]; exact (lT_many nul_le).symm
  have ex1 := ey1
  rw [hn1] at ex1
  have hl1 := rArr_le true x0.2
  have hm1 : (rArr true x0.2).2.s.length ≤ BR := Nat.le_trans (rArr_len true x0.2) hL0
  have hnb1 : (lT x1.1).length ≤ BR := by omega
  refine cl rfl rfl rfl (r_arrt hR33) rfl (fun v_ H1 L1 hle_ hR_ => ?_)
  obtain ⟨rfl, N44, rfl, hR44, rfl⟩ := hR_
  have hh1 := rArr_hi true x0.2
  refine asg rfl rfl ?_
  refine nl ?_
  refine sq ?_
  refine sr ?_
  refine cl rfl rfl rfl (r_ok hR44) rfl (fun v_ H1 L1 hle_ hR_ => ?_)
  obtain ⟨rfl, rfl, rfl⟩ := hR_
  refine nt rfl rfl ?_
  refine nl ?_
  refine cb rfl (fun h47 => ?_) (fun h47 => ?_)
  · skip
    have hbad_ : (rArr true x0.2).2.bad = true := by simpa using h47
    refine sr ?_
    refine cl rfl rfl rfl (r_complete hR44 he) rfl (fun v_ H1 L1 hle_ hR_ => ?_)
    obtain ⟨rfl, rfl, rfl⟩ := hR_
    refine asg rfl rfl ?_
    refine nl ?_
    refine drW .head ?_
    exact rT rfl rfl (Fz.le.refl _) (fun _ _ h => h) ⟨_, rfl, RdEnd.out (hB1 (by rw [ey1]; exact rMany_bad (fun r h => decV_bad (decP_bad _ _ _) h) _ _ hbad_)) hbad_⟩
  · skip
    refine skt ?_
    refine sr ?_
    refine mv rfl rfl ?_
    refine sh' (j := 0) Tryz.runUnderlying83 Tryz.sizeOf93 rfl rfl rfl (Nat.zero_le _) rfl ?_
    refine asg rfl rfl ?_
    refine nl ?_
    refine sq ?_
    refine sr ?_
    refine mv rfl rfl ?_
    refine gt rfl rfl rfl ?_
    refine nl ?_
    refine nulC2 ?_
    refine cutT (fun l' H' L' => ∃ (a1 : Option Addr), ∃ (c1 : Nat), ∃ (Nr1 : Chunk), [(2, .bool false), (7, .pointer (some ⟨b_1, 0, none⟩)), (9, .bool (decide ((3 : Int) ≤ v))), (10, .pointer (some ⟨b, 0, none⟩)), (12, .slice none 0 0), (13, .slice a1 (lT x1.1).length c1), (14, .int .i32 (rArr true x0.2).1)] = l' ∧ Nr1 :: N44 :: [(b, .cells [.int .i16 v, .int .i16 (IntKind.i16.wrap x0.1.n), .slice none 0 0, .map none].toArray 88 (0, 0))] :: L = L' ∧ Row 93 3 a1 (lT x1.1).length c1 (reps [.string ⟨#[]⟩, .int .i32 0, .map none] (lT x1.1).length) Nr1 ∧ a1.isNone = (if 0 ≤ ((-1) : Int) ∧ (v < ((-1) : Int) ∨ (rArr true x0.2).1 = 0) then false else decide ((rArr true x0.2).1 ≤ 0))) ?_ (fun l' H' L' le_3 hI => ?_)
    · skip
      refine cd rfl (fun h52 => ?_) (fun h52 => ?_)
      · skip
        refine rg ?_
        refine mv rfl rfl ?_
        refine mv rfl rfl ?_
        refine apz (zs := [.string ⟨#[]⟩, .int .i32 0, .map none]) (m := (lT x1.1).length) Tryz.underlying83 Tryz.underlying21 I93 rfl rfl rfl (by omega) (by omega) (by have h9 := hnb1; unfold BR at h9; omega) (by have h9 := hnb1; unfold BR at h9; unfold maxLen; omega) rfl (fun g55 cp55 N55 r55 => ?_)
        refine asg rfl rfl ?_
        refine nN ?_
        refine drN (.tail .head) ?_
        refine fun a_ w_ hA hw => ⟨_, _, _, hA.sub ?_, (Fz.le.refl _), hw, (some ⟨g55, 0, none⟩), cp55, N55, rfl, rfl, r55, (by rw [if_neg (by omega)]; exact (decide_eq_false (by omega)).symm)⟩
        exact (.cons rfl (.cons rfl (.cons rfl (.cons rfl (.cons rfl (.cons rfl (.cons rfl (.nil _))))))))
      · skip
        refine skN ?_
        refine fun a_ w_ hA hw => ⟨_, _, _, hA.sub ?_, (Fz.le.refl _), hw, none, 0, [], rfl, rfl, (by rw [show (lT x1.1).length = 0 by omega]; exact (Row.nil _ _)), (by rw [if_neg (by omega)]; exact (decide_eq_true (by omega)).symm)⟩
        exact (.cons rfl (.cons rfl (.cons rfl (.cons rfl (.cons rfl (.cons (by rw [show (lT x1.1).length = 0 by omega]; rfl) (.cons rfl (.nil _))))))))
    · skip
      obtain ⟨a1, c1, Nr1, rfl, rfl, pj0, pj1⟩ := hI
      have hr1 := pj0
      have hi1 := pj1
      refine sq ?_
      refine sr ?_
      refine asg rfl rfl ?_
      refine nl ?_
      refine bl (lp ((lT x1.1).length) (fun k1 l' H' L' => ∃ (es1 : List (KE 3)) (M1 RN1 : Chunk), [(2, .bool false), (7, .pointer (some ⟨b_1, 0, none⟩)), (9, .bool (decide ((3 : Int) ≤ v))), (10, .pointer (some ⟨b, 0, none⟩)), (12, .slice none 0 0), (13, .slice a1 (lT x1.1).length c1), (14, .int .i32 (rArr true x0.2).1), (15, .int .i32 (k1 : Int))] = l' ∧ M1 :: RN1 :: [(b, .cells [.int .i16 v, .int .i16 (IntKind.i16.wrap x0.1.n), .slice none 0 0, .map none].toArray 88 (0, 0))] :: L = L' ∧ RdAt H' 144 b_1 (rMany (decV 10 (decP fs_sControlledShutdownResponsePartitionsRemaining v true) false true) k1 (rArr true x0.2).2).2 RN1 ∧ Row 93 3 a1 (lT x1.1).length c1 (es1.flatMap fk ++ reps [.string ⟨#[]⟩, .int .i32 0, .map none] ((lT x1.1).length - k1)) M1 ∧ es1.map (·.2) = (rMany (decV 10 (decP fs_sControlledShutdownResponsePartitionsRemaining v true) false true) k1 (rArr true x0.2).2).1 ∧ ∀ p ∈ es1, At_ControlledShutdownResponsePartitionsRemaining H' p.2 (fk p)) [(2, .bool false), (7, .pointer (some ⟨b_1, 0, none⟩)), (9, .bool (decide ((3 : Int) ≤ v))), (10, .pointer (some ⟨b, 0, none⟩)), (12, .slice none 0 0), (13, .slice a1 (lT x1.1).length c1), (14, .int .i32 (rArr true x0.2).1), (15, .int .i32 (0 : Int))] (.cons rfl (.cons rfl (.cons rfl (.cons rfl (.cons rfl (.cons rfl (.cons rfl (.cons rfl (.nil _))))))))) ⟨[], Nr1, _, rfl, rfl, (hR44.mono le_3), hr1, rfl, (fun p hp => by cases hp)⟩ (fun k1 l' H' L' hk1 le_4 hI => ?_))
      obtain ⟨es1, M1, RN1, rfl, rfl, hR_1, hw_1, he_1, hg_1⟩ := hI
      have hs_1 := els_len he_1
      have hp_1 : (es1.flatMap fk).length = k1 * 3 := els_flat hs_1
      refine sq ?_
      refine sr ?_
      refine mv rfl rfl ?_
      refine mv rfl rfl ?_
      refine lt rfl rfl rfl ?_
      refine nl ?_
      refine cd rfl (fun h58 => ?_) (fun h58 => ?_)
      · skip
        have hkl1 : k1 < (lT x1.1).length := by omega
        obtain ⟨g1, po1, hga1, rfl, hbk1⟩ := hw_1.next (zs := [.string ⟨#[]⟩, .int .i32 0, .map none]) hkl1 rfl (by decide)
        have ho1 : 0 + k1 * 3 = (es1.flatMap fk).length := by rw [hp_1]; omega
        have hbz1 : ((decV 10 (decP fs_sControlledShutdownResponsePartitionsRemaining v true) false true) (rMany (decV 10 (decP fs_sControlledShutdownResponsePartitionsRemaining v true) false true) k1 (rArr true x0.2).2).2).2.bad = true → (decP fs_ControlledShutdownResponse v true ⟨s, false, !a.isNone⟩).2.bad = true := fun h => hB1 (by rw [ex1]; exact rMany_mono (fun r h => decV_bad (fun r h => decP_bad _ _ _ r h) h) _ (show k1 + 1 ≤ (lT x1.1).length from hkl1) (by rw [rMany_succ]; exact h))
        have hLk1 : (rMany (decV 10 (decP fs_sControlledShutdownResponsePartitionsRemaining v true) false true) k1 (rArr true x0.2).2).2.s.length ≤ BR := Nat.le_trans (rMany_shr (fun r => decV_shr (fun r => decP_shr _ _ _ r) r) _ _) hm1
        have hL1__ := hLk1
        obtain ⟨x1_0, hx1_0⟩ : ∃ x, x = stepF (Fd.mk 8 0 (-1) (-1) (-1) 0 0 []) v true (rMany (decV 10 (decP fs_sControlledShutdownResponsePartitionsRemaining v true) false true) k1 (rArr true x0.2).2).2 := ⟨_, rfl⟩
        obtain ⟨x1_1, hx1_1⟩ : ∃ x, x = stepF (Fd.mk 3 0 (-1) (-1) (-1) 0 0 []) v true x1_0.2 := ⟨_, rfl⟩
        obtain ⟨u1_, hu1_⟩ : ∃ x, x = tailU true x1_1.2 := ⟨_, rfl⟩
        have hD1_ : decP fs_sControlledShutdownResponsePartitionsRemaining v true (rMany (decV 10 (decP fs_sControlledShutdownResponsePartitionsRemaining v true) false true) k1 (rArr true x0.2).2).2 = (.mk 0 [] false [x1_0.1, x1_1.1] u1_.1, u1_.2) := by
          generalize ((rMany (decV 10 (decP fs_sControlledShutdownResponsePartitionsRemaining v true) false true) k1 (rArr true x0.2).2).2 : Rd) = r_ at hx1_0 ⊢
          rw [decP_eq]; unfold fs_sControlledShutdownResponsePartitionsRemaining; simp only [decFs_cons, decFs_nil, ← hx1_0, ← hx1_1, ← hu1_]
        have hL1_0 : x1_0.2.s.length ≤ BR := by rw [hx1_0]; exact Nat.le_trans (stepF_shr _ _ _ _) hL1__
        have hL1_1 : x1_1.2.s.length ≤ BR := by rw [hx1_1]; exact Nat.le_trans (stepF_shr _ _ _ _) hL1_0
        have hE1_ : u1_.2.bad = true → (decP fs_ControlledShutdownResponse v true ⟨s, false, !a.isNone⟩).2.bad = true := fun h => hbz1 (by show (decP fs_sControlledShutdownResponsePartitionsRemaining v true (rMany (decV 10 (decP fs_sControlledShutdownResponsePartitionsRemaining v true) false true) k1 (rArr true x0.2).2).2).2.bad = true; rw [hD1_]; exact h)
        have hB1_1 : x1_1.2.bad = true → (decP fs_ControlledShutdownResponse v true ⟨s, false, !a.isNone⟩).2.bad = true := fun h => hE1_ (by rw [hu1_]; exact tailU_bad h)
        have hB1_0 : x1_0.2.bad = true → (decP fs_ControlledShutdownResponse v true ⟨s, false, !a.isNone⟩).2.bad = true := fun h => hB1_1 (by rw [hx1_1]; exact step_bad h)
        refine skt ?_
        refine sq ?_
        refine bl ?_
        refine sr ?_
        refine mv rfl rfl ?_
        refine mv rfl rfl ?_
        refine ixk (j := k1) Tryz.runUnderlying83 Tryz.sizeOf93 rfl hga1 rfl rfl hkl1 rfl ?_
        refine asg rfl rfl ?_
        refine nl ?_
        refine sr ?_
        refine mv rfl rfl ?_
        refine cl rfl rfl rfl (def_ControlledShutdownResponsePartitionsRemaining ho1) rfl (fun v_ H1 L1 hle_ hR_ => ?_)
        obtain ⟨rfl, rfl⟩ := hR_
        refine nl ?_
        refine sr ?_
        refine mv rfl rfl ?_
        refine asg rfl rfl ?_
        refine nl ?_
        refine sq ?_
        refine sr ?_
        refine asg rfl rfl ?_
        refine nl ?_
        refine sq ?_
        refine sr ?_
        refine mv rfl rfl ?_
        refine nl ?_
        refine cF rfl ?_
        refine sr ?_
        refine mv rfl rfl ?_
        refine nl ?_
        refine cdT rfl (by omega) ?_
        refine rg ?_
        refine tf (.tail .head) ?_
        have ex1_0 : x1_0 = decV 8 (decP [] v true) false true (rMany (decV 10 (decP fs_sControlledShutdownResponsePartitionsRemaining v true) false true) k1 (rArr true x0.2).2).2 := (hx1_0.trans (step_yes (by decide) (show (0 : Int) ≤ v by omega) (Or.inl (by decide)))).trans (decF'_val (by decide) (rfl))
        refine cl rfl rfl rfl (d8t hR_1 ex1_0) rfl (fun v_ H1 L1 le_5 hR_ => ?_)
        obtain ⟨N72, rfl, hR72, rfl, rfl⟩ := hR_
        refine asg rfl rfl ?_
        refine nl ?_
        refine rg ?_
        refine mv rfl rfl ?_
        refine mv rfl rfl ?_
        refine nc rfl rfl ?_
        refine fa F93_0 rfl rfl ?_
        refine stM (off := 0) Tryz.sizeOf9 rfl (by rw [ho1]) rfl rfl rfl (.tail .head) ?_
        refine nl ?_
        refine sq ?_
        refine sr ?_
        have ex1_1 : x1_1 = decV 3 (decP [] v true) false true x1_0.2 := (hx1_1.trans (step_yes (by decide) (show (0 : Int) ≤ v by omega) (Or.inl (by decide)))).trans (decF'_val (by decide) (rfl))
        refine cl rfl rfl rfl (d3 hR72 ex1_1) rfl (fun v_ H1 L1 hle_ hR_ => ?_)
        obtain ⟨N78, rfl, hR78, rfl, rfl⟩ := hR_
        refine asg rfl rfl ?_
        refine nl ?_
        refine rg ?_
        refine mv rfl rfl ?_
        refine mv rfl rfl ?_
        refine nc rfl rfl ?_
        refine fa F93_1 rfl rfl ?_
        refine stM (off := 1) Tryz.sizeOf21 rfl (by rw [ho1]) rfl rfl rfl (.tail .head) ?_
        refine nl ?_
        refine sr ?_
        refine mv rfl rfl ?_
        refine nl ?_
        refine cdT rfl (by omega) ?_
        refine rg ?_
        refine mv rfl rfl ?_
        refine cl rfl rfl rfl (d_tags hR78) rfl (fun v_ H1 L1 le_7 hR_ => ?_)
        obtain ⟨N85, rfl, hR85, m1_t, rfl, hft1_⟩ := hR_
        have hu21_ : u1_ = rTags x1_1.2 := hu1_
        rw [← hu21_] at hR85 hft1_
        refine nc rfl rfl ?_
        refine fa F93_2 rfl rfl ?_
        refine saM (off := 2) Tryz.sizeOf86 rfl (by rw [ho1]) rfl rfl rfl rfl (.tail .head) ?_
        refine nN ?_
        refine Nb ?_
        refine Nt ?_
        refine rg ?_
        refine mv rfl rfl ?_
        refine ad rfl rfl (c := ((k1 + 1 : Nat) : Int)) ((wrap32_le (by omega) (by omega)).trans (by omega)) rfl ?_
        refine asg rfl rfl ?_
        refine nN ?_
        have hfs1 := flatMap_snoc' fk es1 ((⟨([.string ⟨x1_0.1.s.toArray⟩, .int .i32 (IntKind.i32.wrap x1_1.1.n), .map m1_t] : List Value), rfl, all_one rfl⟩, ((decV 10 (decP fs_sControlledShutdownResponsePartitionsRemaining v true) false true) (rMany (decV 10 (decP fs_sControlledShutdownResponsePartitionsRemaining v true) false true) k1 (rArr true x0.2).2).2).1) : KE 3)
        have hrw1 := hbk1 ([.string ⟨x1_0.1.s.toArray⟩, .int .i32 (IntKind.i32.wrap x1_1.1.n), .map m1_t] : List Value) rfl
        refine tfN (.tail .head) ?_
        refine fun a_ w_ hA hw => ⟨hkl1, _, _, _, hA.sub ?_, (le_4.trans le_7), hw, _, _, _, rfl, rfl, (by rw [rMany_succ]; show RdAt _ 144 b_1 (decP fs_sControlledShutdownResponsePartitionsRemaining v true (rMany (decV 10 (decP fs_sControlledShutdownResponsePartitionsRemaining v true) false true) k1 (rArr true x0.2).2).2).2 _; rw [hD1_]; exact hR85), (by rw [← hfs1]; exact hrw1), (dec_els he_1), (fun p hp => (mem_snoc hp).elim (fun h => At_ControlledShutdownResponsePartitionsRemaining.mono _ _ _ _ le_7 (hg_1 p h)) (fun h => h ▸ (by show At_ControlledShutdownResponsePartitionsRemaining _ (decP fs_sControlledShutdownResponsePartitionsRemaining v true (rMany (decV 10 (decP fs_sControlledShutdownResponsePartitionsRemaining v true) false true) k1 (rArr true x0.2).2).2).1 [.string ⟨x1_0.1.s.toArray⟩, .int .i32 (IntKind.i32.wrap x1_1.1.n), .map m1_t]; rw [hD1_]; exact ⟨m1_t, rfl, hft1_⟩)))⟩
        exact (.cons rfl (.cons rfl (.cons rfl (.cons rfl (.cons rfl (.cons rfl (.cons rfl (.cons rfl (.nil _)))))))))
      · skip
        have hkn_ : k1 = (lT x1.1).length := by omega
        subst hkn_
        have hw2_1 : Row 93 3 a1 (lT x1.1).length c1 (es1.flatMap fk) M1 := by have h := hw_1; rw [Nat.sub_self] at h; simpa [reps] using h
        refine frW hw2_1 .head (fun Hf1 hlf1 hfz1 => ?_)
        have hrs1 := RowsAt.row (R := At_ControlledShutdownResponsePartitionsRemaining) hfz1 hs_1.symm hw2_1.le.1 (fun p hp => At_ControlledShutdownResponsePartitionsRemaining.mono _ _ _ _ hlf1 (hg_1 p hp))
        rw [he_1] at hrs1
        have hf1 : ListAt Hf1 x1.1 3 At_ControlledShutdownResponsePartitionsRemaining a1 c1 := by rw [ex1]; exact listAt_of hrs1 hi1 (fun h => by have h1 := nul_le h; rw [show (lT x1.1).length = 0 by omega]; rfl)
        have hRx1 : RdAt Hf1 144 b_1 x1.2 RN1 := by rw [ex1]; exact (hR_1.mono hlf1)
        refine exX ?_
        refine XT ?_
        refine XT ?_
        refine Xb ?_
        refine Nt ?_
        refine sr ?_
        refine mv rfl rfl ?_
        refine asg rfl rfl ?_
        refine nl ?_
        refine rg ?_
        refine mv rfl rfl ?_
        refine mv rfl rfl ?_
        refine nc rfl rfl ?_
        refine fa0 F88_2 rfl rfl ?_
        refine st Tryz.sizeOf83 rfl rfl rfl rfl (.tail .head) ?_
        refine nl ?_
        refine sq ?_
        refine sr ?_
        refine mv rfl rfl ?_
        refine nl ?_
        refine cdT rfl (by omega) ?_
        refine rg ?_
        refine mv rfl rfl ?_
        refine cl rfl rfl rfl (d_tags hRx1) rfl (fun v_ H1 L1 le_8 hR_ => ?_)
        obtain ⟨N95, rfl, hR95, mt, rfl, hft⟩ := hR_
        have hu2 : u = rTags x1.2 := hu
        rw [← hu2] at hR95 hft
        refine nc rfl rfl ?_
        refine fa0 F88_3 rfl rfl ?_
        refine sa Tryz.sizeOf86 rfl rfl rfl rfl rfl (.tail .head) ?_
        refine nl ?_
        refine sr ?_
        refine cl rfl rfl rfl (r_complete hR95 (he.mono (le_3.trans (le_4.trans (hlf1.trans le_8))))) rfl (fun v_ H1 L1 hle_ hR_ => ?_)
        obtain ⟨rfl, rfl, rfl⟩ := hR_
        refine asg rfl rfl ?_
        refine nl ?_
        refine drW .head ?_
        have hA_ := (show At_ControlledShutdownResponse v _ (decP fs_ControlledShutdownResponse v true _).1 [.int .i16 v, .int .i16 (IntKind.i16.wrap x0.1.n), .slice a1 (lT x1.1).length c1, .map mt] from (by rw [hD]; exact ⟨a1, c1, mt, rfl, (hf1.mono At_ControlledShutdownResponsePartitionsRemaining.mono le_8), hft⟩))
        refine rT rfl rfl (le_3.trans (le_4.trans (hlf1.trans le_8))) (fun _ _ h => h) ⟨_, rfl, ?_⟩
        have hz := RdEnd.of (e := e) hA_
        rw [show (decP fs_ControlledShutdownResponse v true _).2.bad = u.2.bad by rw [hD]] at hz
        exact hz
end Go.Sx

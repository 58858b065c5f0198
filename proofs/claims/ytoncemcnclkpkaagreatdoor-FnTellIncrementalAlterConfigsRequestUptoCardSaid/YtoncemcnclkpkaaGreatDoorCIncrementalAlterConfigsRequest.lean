import Derived.Test.YtoncemcnclkpkaaGreatDoorSxTab
import Derived.Test.YtoncemcnclkpkaaGreatDoorBIncrementalAlterConfigsRequest
import Derived.Test.YtoncemcnclkpkaaGreatDoorRK2
import Derived.KernelRfl
set_option linter.unusedVariables false
set_option linter.unusedSimpArgs false
set_option maxRecDepth 100000
set_option maxHeartbeats 20000000
namespace Go.Sx
open Go.Proofs
theorem def_IncrementalAlterConfigsRequestResourceConfig {H : Fz} {L : Own} {b o : Nat} {pre post : List Value} {c0 c1 c2 c3 : Value} (ho : o = pre.length) :
    Fn Tryz.prog 139 [.pointer (some ⟨b, o, none⟩)] H ([(b, .cells (pre ++ ([c0, c1, c2, c3] : List Value) ++ post).toArray 173 (0, 0))] :: L) (fun _ H' L' => H = H' ∧ L' = [(b, .cells (pre ++ ([c0, c1, c2, c3] : List Value) ++ post).toArray 173 (0, 0))] :: L) := by
  refine Fn.mk Tryz.call139 Tryz.func139 rfl Tryz.ntmps139 rfl ?_
  refine skN ?_
  exact fun _ _ hA hw => rn rfl (Fz.le.refl _) ⟨rfl, rfl⟩ hA hw
theorem def_IncrementalAlterConfigsRequestResource {H : Fz} {L : Own} {b o : Nat} {pre post : List Value} {c0 c1 c2 c3 : Value} (ho : o = pre.length) :
    Fn Tryz.prog 138 [.pointer (some ⟨b, o, none⟩)] H ([(b, .cells (pre ++ ([c0, c1, c2, c3] : List Value) ++ post).toArray 141 (0, 0))] :: L) (fun _ H' L' => H = H' ∧ L' = [(b, .cells (pre ++ ([c0, c1, c2, c3] : List Value) ++ post).toArray 141 (0, 0))] :: L) := by
  refine Fn.mk Tryz.call138 Tryz.func138 rfl Tryz.ntmps138 rfl ?_
  refine skN ?_
  exact fun _ _ hA hw => rn rfl (Fz.le.refl _) ⟨rfl, rfl⟩ hA hw
theorem def0_IncrementalAlterConfigsRequest {H : Fz} {L : Own} {b : Nat} {c0 c1 c2 c3 : Value} :
    Fn Tryz.prog 99 [.pointer (some ⟨b, 0, none⟩)] H ([(b, .cells [c0, c1, c2, c3].toArray 134 (0, 0))] :: L) (fun _ H' L' => H = H' ∧ L' = [(b, .cells [c0, c1, c2, c3].toArray 134 (0, 0))] :: L) := by
  refine Fn.mk Tryz.call99 Tryz.func99 rfl Tryz.ntmps99 rfl ?_
  refine skN ?_
  exact fun _ _ hA hw => rn rfl (Fz.le.refl _) ⟨rfl, rfl⟩ hA hw
theorem rd_IncrementalAlterConfigsRequest_f {H : Fz} {L : Own} {b : Nat} {v : Int} {a : Option Addr} {c : Nat} {s : List UInt8} {e : Value} (hB : BytesAt H a c s) (hL_ : s.length ≤ BR) (he : H.at 1 0 [e]) (hv0 : 0 ≤ v) (hv1 : v ≤ 0) :
    Fn Tryz.prog 101 [.pointer (some ⟨b, 0, none⟩), .slice a s.length c, .bool false] H ([(b, .cells [.int .i16 v, .slice none 0 0, .bool false, .map none].toArray 134 (0, 0))] :: L) (fun r H' L' => ∃ cs : List Value, L' = [(b, .cells cs.toArray 134 (0, 0))] :: L ∧ RdEnd H' (At_IncrementalAlterConfigsRequest v) (decP fs_IncrementalAlterConfigsRequest v false ⟨s, false, !a.isNone⟩) e r cs) := by
  refine Fn.mk Tryz.call101 Tryz.func101 rfl Tryz.ntmps101 rfl ?_
  refine sr ?_
  refine asg rfl rfl ?_
  refine nl ?_
  refine sr ?_
  refine mv rfl rfl ?_
  refine cl rfl rfl rfl def0_IncrementalAlterConfigsRequest rfl (fun v_ H1 L1 hle_ hR_ => ?_)
  obtain ⟨rfl, rfl⟩ := hR_
  refine nl ?_
  refine sr ?_
  refine mv rfl rfl ?_
  refine bd' S144 rfl rfl rfl ?_
  refine al Tryz.zeroValue144 rfl rfl (fun b_1 => ?_)
  refine sa Tryz.sizeOf144 rfl rfl rfl rfl rfl .head ?_
  have hR0_ : RdAt H 144 b_1 ⟨s, false, !a.isNone⟩ [(b_1, .cells [_, _].toArray 144 (0, 0))] := ⟨a, c, rfl, hB, by simp⟩
  obtain ⟨x0, hx0⟩ : ∃ x, x = stepF (Fd.mk 11 0 (-1) (-1) (-1) 0 10 fs_sIncrementalAlterConfigsRequestResource) v false ⟨s, false, !a.isNone⟩ := ⟨_, rfl⟩
  obtain ⟨x1, hx1⟩ : ∃ x, x = stepF (Fd.mk 0 0 (-1) (-1) (-1) 0 0 []) v false x0.2 := ⟨_, rfl⟩
  obtain ⟨u, hu⟩ : ∃ x, x = tailU false x1.2 := ⟨_, rfl⟩
  have hD : decP fs_IncrementalAlterConfigsRequest v false ⟨s, false, !a.isNone⟩ = (.mk 0 [] false [x0.1, x1.1] u.1, u.2) := by
    generalize (⟨s, false, !a.isNone⟩ : Rd) = r_ at hx0 ⊢
    rw [decP_eq]; unfold fs_IncrementalAlterConfigsRequest; simp only [decFs_cons, decFs_nil, ← hx0, ← hx1, ← hu]
  have hL0 : x0.2.s.length ≤ BR := by rw [hx0]; exact Nat.le_trans (stepF_shr _ _ _ _) hL_
  have hL1 : x1.2.s.length ≤ BR := by rw [hx1]; exact Nat.le_trans (stepF_shr _ _ _ _) hL0
  have hE : u.2.bad = true → (decP fs_IncrementalAlterConfigsRequest v false ⟨s, false, !a.isNone⟩).2.bad = true := fun h => by rw [hD]; exact h
  have hB1 : x1.2.bad = true → (decP fs_IncrementalAlterConfigsRequest v false ⟨s, false, !a.isNone⟩).2.bad = true := fun h => hE (by rw [hu]; exact tailU_bad h)
  have hB0 : x0.2.bad = true → (decP fs_IncrementalAlterConfigsRequest v false ⟨s, false, !a.isNone⟩).2.bad = true := fun h => hB1 (by rw [hx1]; exact step_bad h)
  refine nl ?_
  refine sr ?_
  refine mv rfl rfl ?_
  refine nc rfl rfl ?_
  refine fa0 F134_0 rfl rfl ?_
  refine ld (Says.own (.tail .head)) Tryz.isAgg46 rfl (Nat.zero_add _).symm rfl rfl ?_
  refine asg rfl rfl ?_
  refine nl ?_
  refine sr ?_
  refine mv rfl rfl ?_
  refine nl ?_
  refine sr ?_
  refine mv rfl rfl ?_
  refine ge rfl rfl rfl ?_
  refine asg rfl rfl ?_
  refine nl ?_
  refine sr ?_
  refine mv rfl rfl ?_
  refine nl ?_
  refine sr ?_
  refine mv rfl rfl ?_
  refine asg rfl rfl ?_
  refine nl ?_
  refine sq ?_
  refine sr ?_
  refine mv rfl rfl ?_
  refine nc rfl rfl ?_
  refine fa0 F134_1 rfl rfl ?_
  refine ld (Says.own (.tail .head)) Tryz.isAgg132 rfl (Nat.zero_add _).symm rfl rfl ?_
  refine asg rfl rfl ?_
  refine nl ?_
  refine sr ?_
  refine mv rfl rfl ?_
  refine asg rfl rfl ?_
  refine nl ?_
  refine sr ?_
  refine asg rfl rfl ?_
  refine nl ?_
  refine sq ?_
  refine sr ?_
  refine mv rfl rfl ?_
  refine nl ?_
  refine cdF rfl (by omega) ?_
  refine rg ?_
  have ey0 : x0 = (.mk 0 [] (if 0 ≤ ((-1) : Int) ∧ (v < ((-1) : Int) ∨ (rArr false ⟨s, false, !a.isNone⟩).1 = 0) then false else decide ((rArr false ⟨s, false, !a.isNone⟩).1 ≤ 0)) (rMany (decV 10 (decP fs_sIncrementalAlterConfigsRequestResource v false) false false) (rArr false ⟨s, false, !a.isNone⟩).1.toNat (rArr false ⟨s, false, !a.isNone⟩).2).1 [], (rMany (decV 10 (decP fs_sIncrementalAlterConfigsRequestResource v false) false false) (rArr false ⟨s, false, !a.isNone⟩).1.toNat (rArr false ⟨s, false, !a.isNone⟩).2).2) := (hx0.trans (step_yes (by decide) (show (0 : Int) ≤ v by omega) (Or.inl (by decide)))).trans (decF'_list rfl rfl)
  have hn0 : (rArr false ⟨s, false, !a.isNone⟩).1.toNat = (lT x0.1).length := by rw [ey0]; exact (lT_many nul_le).symm
  have ex0 := ey0
  rw [hn0] at ex0
  have hl0 := rArr_le false ⟨s, false, !a.isNone⟩
  have hm0 : (rArr false ⟨s, false, !a.isNone⟩).2.s.length ≤ BR := Nat.le_trans (rArr_len false ⟨s, false, !a.isNone⟩) hL_
  have hnb0 : (lT x0.1).length ≤ BR := by omega
  refine cl rfl rfl rfl (r_arrf hR0_) rfl (fun v_ H1 L1 hle_ hR_ => ?_)
  obtain ⟨rfl, N53, rfl, hR53, rfl⟩ := hR_
  have hh0 := rArr_hi false ⟨s, false, !a.isNone⟩
  refine asg rfl rfl ?_
  refine nl ?_
  refine sq ?_
  refine sr ?_
  refine cl rfl rfl rfl (r_ok hR53) rfl (fun v_ H1 L1 hle_ hR_ => ?_)
  obtain ⟨rfl, rfl, rfl⟩ := hR_
  refine nt rfl rfl ?_
  refine nl ?_
  refine cb rfl (fun h55 => ?_) (fun h55 => ?_)
  · skip
    have hbad_ : (rArr false ⟨s, false, !a.isNone⟩).2.bad = true := by simpa using h55
    refine sr ?_
    refine cl rfl rfl rfl (r_complete hR53 he) rfl (fun v_ H1 L1 hle_ hR_ => ?_)
    obtain ⟨rfl, rfl, rfl⟩ := hR_
    refine asg rfl rfl ?_
    refine nl ?_
    refine drW .head ?_
    exact rT rfl rfl (Fz.le.refl _) (fun _ _ h => h) ⟨_, rfl, RdEnd.out (hB0 (by rw [ey0]; exact rMany_bad (fun r h => decV_bad (decP_bad _ _ _) h) _ _ hbad_)) hbad_⟩
  · skip
    refine skt ?_
    refine sr ?_
    refine mv rfl rfl ?_
    refine sh' (j := 0) Tryz.runUnderlying132 Tryz.sizeOf141 rfl rfl rfl (Nat.zero_le _) rfl ?_
    refine asg rfl rfl ?_
    refine nl ?_
    refine sq ?_
    refine sr ?_
    refine mv rfl rfl ?_
    refine gt rfl rfl rfl ?_
    refine nl ?_
    refine nulC2 ?_
    refine cutT (fun l' H' L' => ∃ (a0 : Option Addr), ∃ (c0 : Nat), ∃ (Nr0 : Chunk), [(2, .bool false), (7, .pointer (some ⟨b_1, 0, none⟩)), (9, .bool (decide ((1 : Int) ≤ v))), (10, .pointer (some ⟨b, 0, none⟩)), (11, .slice none 0 0), (12, .slice a0 (lT x0.1).length c0), (13, .int .i32 (rArr false ⟨s, false, !a.isNone⟩).1)] = l' ∧ Nr0 :: N53 :: [(b, .cells [.int .i16 v, .slice none 0 0, .bool false, .map none].toArray 134 (0, 0))] :: L = L' ∧ Row 141 4 a0 (lT x0.1).length c0 (reps [.int .i8 0, .string ⟨#[]⟩, .slice none 0 0, .map none] (lT x0.1).length) Nr0 ∧ a0.isNone = (if 0 ≤ ((-1) : Int) ∧ (v < ((-1) : Int) ∨ (rArr false ⟨s, false, !a.isNone⟩).1 = 0) then false else decide ((rArr false ⟨s, false, !a.isNone⟩).1 ≤ 0))) ?_ (fun l' H' L' le_2 hI => ?_)
    · skip
      refine cd rfl (fun h60 => ?_) (fun h60 => ?_)
      · skip
        refine rg ?_
        refine mv rfl rfl ?_
        refine mv rfl rfl ?_
        refine apz (zs := [.int .i8 0, .string ⟨#[]⟩, .slice none 0 0, .map none]) (m := (lT x0.1).length) Tryz.underlying132 Tryz.underlying21 I141 rfl rfl rfl (by omega) (by omega) (by have h9 := hnb0; unfold BR at h9; omega) (by have h9 := hnb0; unfold BR at h9; unfold maxLen; omega) rfl (fun g63 cp63 N63 r63 => ?_)
        refine asg rfl rfl ?_
        refine nN ?_
        refine drN (.tail .head) ?_
        refine fun a_ w_ hA hw => ⟨_, _, _, hA.sub ?_, (Fz.le.refl _), hw, (some ⟨g63, 0, none⟩), cp63, N63, rfl, rfl, r63, (by rw [if_neg (by omega)]; exact (decide_eq_false (by omega)).symm)⟩
        exact (.cons rfl (.cons rfl (.cons rfl (.cons rfl (.cons rfl (.cons rfl (.cons rfl (.nil _))))))))
      · skip
        refine skN ?_
        refine fun a_ w_ hA hw => ⟨_, _, _, hA.sub ?_, (Fz.le.refl _), hw, none, 0, [], rfl, rfl, (by rw [show (lT x0.1).length = 0 by omega]; exact (Row.nil _ _)), (by rw [if_neg (by omega)]; exact (decide_eq_true (by omega)).symm)⟩
        exact (.cons rfl (.cons rfl (.cons rfl (.cons rfl (.cons rfl (.cons (by rw [show (lT x0.1).length = 0 by omega]; rfl) (.cons rfl (.nil _))))))))
    · skip
      obtain ⟨a0, c0, Nr0, rfl, rfl, pj0, pj1⟩ := hI
      have hr0 := pj0
      have hi0 := pj1
      refine sq ?_
      refine sr ?_
      refine asg rfl rfl ?_
      refine nl ?_
      refine bl (lp ((lT x0.1).length) (fun k0 l' H' L' => ∃ (es0 : List (KE 4)) (M0 RN0 : Chunk), [(2, .bool false), (7, .pointer (some ⟨b_1, 0, none⟩)), (9, .bool (decide ((1 : Int) ≤ v))), (10, .pointer (some ⟨b, 0, none⟩)), (11, .slice none 0 0), (12, .slice a0 (lT x0.1).length c0), (13, .int .i32 (rArr false ⟨s, false, !a.isNone⟩).1), (14, .int .i32 (k0 : Int))] = l' ∧ M0 :: RN0 :: [(b, .cells [.int .i16 v, .slice none 0 0, .bool false, .map none].toArray 134 (0, 0))] :: L = L' ∧ RdAt H' 144 b_1 (rMany (decV 10 (decP fs_sIncrementalAlterConfigsRequestResource v false) false false) k0 (rArr false ⟨s, false, !a.isNone⟩).2).2 RN0 ∧ Row 141 4 a0 (lT x0.1).length c0 (es0.flatMap fk ++ reps [.int .i8 0, .string ⟨#[]⟩, .slice none 0 0, .map none] ((lT x0.1).length - k0)) M0 ∧ es0.map (·.2) = (rMany (decV 10 (decP fs_sIncrementalAlterConfigsRequestResource v false) false false) k0 (rArr false ⟨s, false, !a.isNone⟩).2).1 ∧ ∀ p ∈ es0, At_IncrementalAlterConfigsRequestResource H' p.2 (fk p)) [(2, .bool false), (7, .pointer (some ⟨b_1, 0, none⟩)), (9, .bool (decide ((1 : Int) ≤ v))), (10, .pointer (some ⟨b, 0, none⟩)), (11, .slice none 0 0), (12, .slice a0 (lT x0.1).length c0), (13, .int .i32 (rArr false ⟨s, false, !a.isNone⟩).1), (14, .int .i32 (0 : Int))] (.cons rfl (.cons rfl (.cons rfl (.cons rfl (.cons rfl (.cons rfl (.cons rfl (.cons rfl (.nil _))))))))) ⟨[], Nr0, _, rfl, rfl, (hR53.mono le_2), hr0, rfl, (fun p hp => by cases hp)⟩ (fun k0 l' H' L' hk0 le_3 hI => ?_))
      obtain ⟨es0, M0, RN0, rfl, rfl, hR_0, hw_0, he_0, hg_0⟩ := hI
      have hs_0 := els_len he_0
      have hp_0 : (es0.flatMap fk).length = k0 * 4 := els_flat hs_0
      refine sq ?_
      refine sr ?_
      refine mv rfl rfl ?_
      refine mv rfl rfl ?_
      refine lt rfl rfl rfl ?_
      refine nl ?_
      refine cd rfl (fun h66 => ?_) (fun h66 => ?_)
      · skip
        have hkl0 : k0 < (lT x0.1).length := by omega
        obtain ⟨g0, po0, hga0, rfl, hbk0⟩ := hw_0.next (zs := [.int .i8 0, .string ⟨#[]⟩, .slice none 0 0, .map none]) hkl0 rfl (by decide)
        have ho0 : 0 + k0 * 4 = (es0.flatMap fk).length := by rw [hp_0]; omega
        have hbz0 : ((decV 10 (decP fs_sIncrementalAlterConfigsRequestResource v false) false false) (rMany (decV 10 (decP fs_sIncrementalAlterConfigsRequestResource v false) false false) k0 (rArr false ⟨s, false, !a.isNone⟩).2).2).2.bad = true → (decP fs_IncrementalAlterConfigsRequest v false ⟨s, false, !a.isNone⟩).2.bad = true := fun h => hB0 (by rw [ex0]; exact rMany_mono (fun r h => decV_bad (fun r h => decP_bad _ _ _ r h) h) _ (show k0 + 1 ≤ (lT x0.1).length from hkl0) (by rw [rMany_succ]; exact h))
        have hLk0 : (rMany (decV 10 (decP fs_sIncrementalAlterConfigsRequestResource v false) false false) k0 (rArr false ⟨s, false, !a.isNone⟩).2).2.s.length ≤ BR := Nat.le_trans (rMany_shr (fun r => decV_shr (fun r => decP_shr _ _ _ r) r) _ _) hm0
        have hL0__ := hLk0
        obtain ⟨x0_0, hx0_0⟩ : ∃ x, x = stepF (Fd.mk 1 0 (-1) (-1) (-1) 0 0 []) v false (rMany (decV 10 (decP fs_sIncrementalAlterConfigsRequestResource v false) false false) k0 (rArr false ⟨s, false, !a.isNone⟩).2).2 := ⟨_, rfl⟩
        obtain ⟨x0_1, hx0_1⟩ : ∃ x, x = stepF (Fd.mk 8 0 (-1) (-1) (-1) 0 0 []) v false x0_0.2 := ⟨_, rfl⟩
        obtain ⟨x0_2, hx0_2⟩ : ∃ x, x = stepF (Fd.mk 11 0 (-1) (-1) (-1) 0 10 fs_sIncrementalAlterConfigsRequestResourceConfig) v false x0_1.2 := ⟨_, rfl⟩
        obtain ⟨u0_, hu0_⟩ : ∃ x, x = tailU false x0_2.2 := ⟨_, rfl⟩
        have hD0_ : decP fs_sIncrementalAlterConfigsRequestResource v false (rMany (decV 10 (decP fs_sIncrementalAlterConfigsRequestResource v false) false false) k0 (rArr false ⟨s, false, !a.isNone⟩).2).2 = (.mk 0 [] false [x0_0.1, x0_1.1, x0_2.1] u0_.1, u0_.2) := by
          generalize ((rMany (decV 10 (decP fs_sIncrementalAlterConfigsRequestResource v false) false false) k0 (rArr false ⟨s, false, !a.isNone⟩).2).2 : Rd) = r_ at hx0_0 ⊢
          rw [decP_eq]; unfold fs_sIncrementalAlterConfigsRequestResource; simp only [decFs_cons, decFs_nil, ← hx0_0, ← hx0_1, ← hx0_2, ← hu0_]
        have hL0_0 : x0_0.2.s.length ≤ BR := by rw [hx0_0]; exact Nat.le_trans (stepF_shr _ _ _ _) hL0__
        have hL0_1 : x0_1.2.s.length ≤ BR := by rw [hx0_1]; exact Nat.le_trans (stepF_shr _ _ _ _) hL0_0
        have hL0_2 : x0_2.2.s.length ≤ BR := by rw [hx0_2]; exact Nat.le_trans (stepF_shr _ _ _ _) hL0_1
        have hE0_ : u0_.2.bad = true → (decP fs_IncrementalAlterConfigsRequest v false ⟨s, false, !a.isNone⟩).2.bad = true := fun h => hbz0 (by show (decP fs_sIncrementalAlterConfigsRequestResource v false (rMany (decV 10 (decP fs_sIncrementalAlterConfigsRequestResource v false) false false) k0 (rArr false ⟨s, false, !a.isNone⟩).2).2).2.bad = true; rw [hD0_]; exact h)
        have hB0_2 : x0_2.2.bad = true → (decP fs_IncrementalAlterConfigsRequest v false ⟨s, false, !a.isNone⟩).2.bad = true := fun h => hE0_ (by rw [hu0_]; exact tailU_bad h)
        have hB0_1 : x0_1.2.bad = true → (decP fs_IncrementalAlterConfigsRequest v false ⟨s, false, !a.isNone⟩).2.bad = true := fun h => hB0_2 (by rw [hx0_2]; exact step_bad h)
        have hB0_0 : x0_0.2.bad = true → (decP fs_IncrementalAlterConfigsRequest v false ⟨s, false, !a.isNone⟩).2.bad = true := fun h => hB0_1 (by rw [hx0_1]; exact step_bad h)
        refine skt ?_
        refine sq ?_
        refine bl ?_
        refine sr ?_
        refine mv rfl rfl ?_
        refine mv rfl rfl ?_
        refine ixk (j := k0) Tryz.runUnderlying132 Tryz.sizeOf141 rfl hga0 rfl rfl hkl0 rfl ?_
        refine asg rfl rfl ?_
        refine nl ?_
        refine sr ?_
        refine mv rfl rfl ?_
        refine cl rfl rfl rfl (def_IncrementalAlterConfigsRequestResource ho0) rfl (fun v_ H1 L1 hle_ hR_ => ?_)
        obtain ⟨rfl, rfl⟩ := hR_
        refine nl ?_
        refine sr ?_
        refine mv rfl rfl ?_
        refine asg rfl rfl ?_
        refine nl ?_
        refine sq ?_
        refine sr ?_
        refine asg rfl rfl ?_
        refine nl ?_
        refine sq ?_
        refine sr ?_
        refine tf (.tail .head) ?_
        have ex0_0 : x0_0 = decV 1 (decP [] v false) false false (rMany (decV 10 (decP fs_sIncrementalAlterConfigsRequestResource v false) false false) k0 (rArr false ⟨s, false, !a.isNone⟩).2).2 := (hx0_0.trans (step_yes (by decide) (show (0 : Int) ≤ v by omega) (Or.inl (by decide)))).trans (decF'_val (by decide) (rfl))
        refine cl rfl rfl rfl (d1 hR_0 ex0_0) rfl (fun v_ H1 L1 hle_ hR_ => ?_)
        obtain ⟨N75, rfl, hR75, rfl, rfl⟩ := hR_
        refine asg rfl rfl ?_
        refine nl ?_
        refine rg ?_
        refine mv rfl rfl ?_
        refine asg rfl rfl ?_
        refine nl ?_
        refine sr ?_
        refine mv rfl rfl ?_
        refine asg rfl rfl ?_
        refine nl ?_
        refine rg ?_
        refine mv rfl rfl ?_
        refine mv rfl rfl ?_
        refine nc rfl rfl ?_
        refine fa F141_0 rfl rfl ?_
        refine stM (off := 0) Tryz.sizeOf138 rfl (by rw [ho0]) rfl rfl rfl (.tail .head) ?_
        refine nl ?_
        refine sq ?_
        refine sr ?_
        refine asg rfl rfl ?_
        refine nl ?_
        refine sq ?_
        refine sr ?_
        refine mv rfl rfl ?_
        refine nl ?_
        refine cF rfl ?_
        refine sr ?_
        refine mv rfl rfl ?_
        refine nl ?_
        refine cdF rfl (by omega) ?_
        refine rg ?_
        have ex0_1 : x0_1 = decV 8 (decP [] v false) false false x0_0.2 := (hx0_1.trans (step_yes (by decide) (show (0 : Int) ≤ v by omega) (Or.inl (by decide)))).trans (decF'_val (by decide) (rfl))
        refine cl rfl rfl rfl (d8f hR75 ex0_1) rfl (fun v_ H1 L1 le_5 hR_ => ?_)
        obtain ⟨N88, rfl, hR88, rfl, rfl⟩ := hR_
        refine asg rfl rfl ?_
        refine nl ?_
        refine rg ?_
        refine mv rfl rfl ?_
        refine mv rfl rfl ?_
        refine nc rfl rfl ?_
        refine fa F141_1 rfl rfl ?_
        refine stM (off := 1) Tryz.sizeOf9 rfl (by rw [ho0]) rfl rfl rfl (.tail .head) ?_
        refine nl ?_
        refine sq ?_
        refine sr ?_
        refine mv rfl rfl ?_
        refine nc rfl rfl ?_
        refine fa F141_2 rfl rfl ?_
        refine ld (j := 2) (off := 0 + k0 * 4) (Says.mid (.tail .head) ho0) Tryz.isAgg139 rfl rfl rfl rfl ?_
        refine asg rfl rfl ?_
        refine nl ?_
        refine sr ?_
        refine mv rfl rfl ?_
        refine asg rfl rfl ?_
        refine nl ?_
        refine sr ?_
        refine asg rfl rfl ?_
        refine nl ?_
        refine sq ?_
        refine sr ?_
        refine mv rfl rfl ?_
        refine nl ?_
        refine cdF rfl (by omega) ?_
        refine rg ?_
        have ey0_2 : x0_2 = (.mk 0 [] (if 0 ≤ ((-1) : Int) ∧ (v < ((-1) : Int) ∨ (rArr false x0_1.2).1 = 0) then false else decide ((rArr false x0_1.2).1 ≤ 0)) (rMany (decV 10 (decP fs_sIncrementalAlterConfigsRequestResourceConfig v false) false false) (rArr false x0_1.2).1.toNat (rArr false x0_1.2).2).1 [], (rMany (decV 10 (decP fs_sIncrementalAlterConfigsRequestResourceConfig v false) false false) (rArr false x0_1.2).1.toNat (rArr false x0_1.2).2).2) := (hx0_2.trans (step_yes (by decide) (show (0 : Int) ≤ v by omega) (Or.inl (by decide)))).trans (decF'_list rfl rfl)
        have hn0_2 : (rArr false x0_1.2).1.toNat = (lT x0_2.1).length := by rw [ey0_2]; exact (lT_many nul_le).symm
        have ex0_2 := ey0_2
        rw [hn0_2] at ex0_2
        have hl0_2 := rArr_le false x0_1.2
        have hm0_2 : (rArr false x0_1.2).2.s.length ≤ BR := Nat.le_trans (rArr_len false x0_1.2) hL0_1
        have hnb0_2 : (lT x0_2.1).length ≤ BR := by omega
        refine cl rfl rfl rfl (r_arrf hR88) rfl (fun v_ H1 L1 hle_ hR_ => ?_)
        obtain ⟨rfl, N100, rfl, hR100, rfl⟩ := hR_
        have hh0_2 := rArr_hi false x0_1.2
        refine asg rfl rfl ?_
        refine nl ?_
        refine sq ?_
        refine sr ?_
        refine cl rfl rfl rfl (r_ok hR100) rfl (fun v_ H1 L1 hle_ hR_ => ?_)
        obtain ⟨rfl, rfl, rfl⟩ := hR_
        refine nt rfl rfl ?_
        refine nl ?_
        refine cb rfl (fun h102 => ?_) (fun h102 => ?_)
        · skip
          have hbad_ : (rArr false x0_1.2).2.bad = true := by simpa using h102
          refine sr ?_
          refine cl rfl rfl rfl (r_complete hR100 (he.mono (le_2.trans le_3))) rfl (fun v_ H1 L1 hle_ hR_ => ?_)
          obtain ⟨rfl, rfl, rfl⟩ := hR_
          refine asg rfl rfl ?_
          refine nl ?_
          refine drW .head ?_
          refine drW .head ?_
          exact rT rfl rfl (le_2.trans le_3) (fun _ _ h => h) ⟨_, rfl, RdEnd.out (hB0_2 (by rw [ey0_2]; exact rMany_bad (fun r h => decV_bad (decP_bad _ _ _) h) _ _ hbad_)) hbad_⟩
        · skip
          refine skt ?_
          refine sr ?_
          refine mv rfl rfl ?_
          refine sh' (j := 0) Tryz.runUnderlying139 Tryz.sizeOf173 rfl rfl rfl (Nat.zero_le _) rfl ?_
          refine asg rfl rfl ?_
          refine nl ?_
          refine sq ?_
          refine sr ?_
          refine mv rfl rfl ?_
          refine gt rfl rfl rfl ?_
          refine nl ?_
          refine nulC2 ?_
          refine cutT (fun l' H' L' => ∃ (a0_2 : Option Addr), ∃ (c0_2 : Nat), ∃ (Nr0_2 : Chunk), [(2, .bool false), (7, .pointer (some ⟨b_1, 0, none⟩)), (9, .bool (decide ((1 : Int) ≤ v))), (10, .pointer (some ⟨b, 0, none⟩)), (11, .slice none 0 0), (12, .slice a0 (lT x0.1).length c0), (13, .int .i32 (rArr false ⟨s, false, !a.isNone⟩).1), (14, .int .i32 (k0 : Int)), (16, .pointer (some ⟨g0, 0 + k0 * 4, none⟩)), (21, .slice none 0 0), (22, .slice a0_2 (lT x0_2.1).length c0_2), (23, .int .i32 (rArr false x0_1.2).1)] = l' ∧ Nr0_2 :: N100 :: [(g0, .cells ((es0.flatMap fk) ++ ([.int .i8 (IntKind.i8.wrap x0_0.1.n), .string ⟨x0_1.1.s.toArray⟩, .slice none 0 0, .map none] : List Value) ++ po0).toArray 141 (0, 0))] :: [(b, .cells [.int .i16 v, .slice none 0 0, .bool false, .map none].toArray 134 (0, 0))] :: L = L' ∧ Row 173 4 a0_2 (lT x0_2.1).length c0_2 (reps [.string ⟨#[]⟩, .int .i8 0, .pointer none, .map none] (lT x0_2.1).length) Nr0_2 ∧ a0_2.isNone = (if 0 ≤ ((-1) : Int) ∧ (v < ((-1) : Int) ∨ (rArr false x0_1.2).1 = 0) then false else decide ((rArr false x0_1.2).1 ≤ 0))) ?_ (fun l' H' L' le_6 hI => ?_)
          · skip
            refine cd rfl (fun h107 => ?_) (fun h107 => ?_)
            · skip
              refine rg ?_
              refine mv rfl rfl ?_
              refine mv rfl rfl ?_
              refine apz (zs := [.string ⟨#[]⟩, .int .i8 0, .pointer none, .map none]) (m := (lT x0_2.1).length) Tryz.underlying139 Tryz.underlying21 I173 rfl rfl rfl (by omega) (by omega) (by have h9 := hnb0_2; unfold BR at h9; omega) (by have h9 := hnb0_2; unfold BR at h9; unfold maxLen; omega) rfl (fun g110 cp110 N110 r110 => ?_)
              refine asg rfl rfl ?_
              refine nN ?_
              refine drN (.tail .head) ?_
              refine fun a_ w_ hA hw => ⟨_, _, _, hA.sub ?_, (Fz.le.refl _), hw, (some ⟨g110, 0, none⟩), cp110, N110, rfl, rfl, r110, (by rw [if_neg (by omega)]; exact (decide_eq_false (by omega)).symm)⟩
              exact (.cons rfl (.cons rfl (.cons rfl (.cons rfl (.cons rfl (.cons rfl (.cons rfl (.cons rfl (.cons rfl (.cons rfl (.cons rfl (.cons rfl (.nil _)))))))))))))
            · skip
              refine skN ?_
              refine fun a_ w_ hA hw => ⟨_, _, _, hA.sub ?_, (Fz.le.refl _), hw, none, 0, [], rfl, rfl, (by rw [show (lT x0_2.1).length = 0 by omega]; exact (Row.nil _ _)), (by rw [if_neg (by omega)]; exact (decide_eq_true (by omega)).symm)⟩
              exact (.cons rfl (.cons rfl (.cons rfl (.cons rfl (.cons rfl (.cons rfl (.cons rfl (.cons rfl (.cons rfl (.cons rfl (.cons (by rw [show (lT x0_2.1).length = 0 by omega]; rfl) (.cons rfl (.nil _)))))))))))))
          · skip
            obtain ⟨a0_2, c0_2, Nr0_2, rfl, rfl, pj0, pj1⟩ := hI
            have hr0_2 := pj0
            have hi0_2 := pj1
            refine sq ?_
            refine sr ?_
            refine asg rfl rfl ?_
            refine nl ?_
            refine bl (lp ((lT x0_2.1).length) (fun k0_2 l' H' L' => ∃ (es0_2 : List (KE 4)) (M0_2 RN0_2 : Chunk), [(2, .bool false), (7, .pointer (some ⟨b_1, 0, none⟩)), (9, .bool (decide ((1 : Int) ≤ v))), (10, .pointer (some ⟨b, 0, none⟩)), (11, .slice none 0 0), (12, .slice a0 (lT x0.1).length c0), (13, .int .i32 (rArr false ⟨s, false, !a.isNone⟩).1), (14, .int .i32 (k0 : Int)), (16, .pointer (some ⟨g0, 0 + k0 * 4, none⟩)), (21, .slice none 0 0), (22, .slice a0_2 (lT x0_2.1).length c0_2), (23, .int .i32 (rArr false x0_1.2).1), (24, .int .i32 (k0_2 : Int))] = l' ∧ M0_2 :: RN0_2 :: [(g0, .cells ((es0.flatMap fk) ++ ([.int .i8 (IntKind.i8.wrap x0_0.1.n), .string ⟨x0_1.1.s.toArray⟩, .slice none 0 0, .map none] : List Value) ++ po0).toArray 141 (0, 0))] :: [(b, .cells [.int .i16 v, .slice none 0 0, .bool false, .map none].toArray 134 (0, 0))] :: L = L' ∧ RdAt H' 144 b_1 (rMany (decV 10 (decP fs_sIncrementalAlterConfigsRequestResourceConfig v false) false false) k0_2 (rArr false x0_1.2).2).2 RN0_2 ∧ Row 173 4 a0_2 (lT x0_2.1).length c0_2 (es0_2.flatMap fk ++ reps [.string ⟨#[]⟩, .int .i8 0, .pointer none, .map none] ((lT x0_2.1).length - k0_2)) M0_2 ∧ es0_2.map (·.2) = (rMany (decV 10 (decP fs_sIncrementalAlterConfigsRequestResourceConfig v false) false false) k0_2 (rArr false x0_1.2).2).1 ∧ ∀ p ∈ es0_2, At_IncrementalAlterConfigsRequestResourceConfig H' p.2 (fk p)) [(2, .bool false), (7, .pointer (some ⟨b_1, 0, none⟩)), (9, .bool (decide ((1 : Int) ≤ v))), (10, .pointer (some ⟨b, 0, none⟩)), (11, .slice none 0 0), (12, .slice a0 (lT x0.1).length c0), (13, .int .i32 (rArr false ⟨s, false, !a.isNone⟩).1), (14, .int .i32 (k0 : Int)), (16, .pointer (some ⟨g0, 0 + k0 * 4, none⟩)), (21, .slice none 0 0), (22, .slice a0_2 (lT x0_2.1).length c0_2), (23, .int .i32 (rArr false x0_1.2).1), (24, .int .i32 (0 : Int))] (.cons rfl (.cons rfl (.cons rfl (.cons rfl (.cons rfl (.cons rfl (.cons rfl (.cons rfl (.cons rfl (.cons rfl (.cons rfl (.cons rfl (.cons rfl (.nil _)))))))))))))) ⟨[], Nr0_2, _, rfl, rfl, (hR100.mono le_6), hr0_2, rfl, (fun p hp => by cases hp)⟩ (fun k0_2 l' H' L' hk0_2 le_7 hI => ?_))
            obtain ⟨es0_2, M0_2, RN0_2, rfl, rfl, hR_0_2, hw_0_2, he_0_2, hg_0_2⟩ := hI
            have hs_0_2 := els_len he_0_2
            have hp_0_2 : (es0_2.flatMap fk).length = k0_2 * 4 := els_flat hs_0_2
            refine sq ?_
            refine sr ?_
            refine mv rfl rfl ?_
            refine mv rfl rfl ?_
            refine lt rfl rfl rfl ?_
            refine nl ?_
            refine cd rfl (fun h113 => ?_) (fun h113 => ?_)
            · skip
              have hkl0_2 : k0_2 < (lT x0_2.1).length := by omega
              obtain ⟨g0_2, po0_2, hga0_2, rfl, hbk0_2⟩ := hw_0_2.next (zs := [.string ⟨#[]⟩, .int .i8 0, .pointer none, .map none]) hkl0_2 rfl (by decide)
              have ho0_2 : 0 + k0_2 * 4 = (es0_2.flatMap fk).length := by rw [hp_0_2]; omega
              have hbz0_2 : ((decV 10 (decP fs_sIncrementalAlterConfigsRequestResourceConfig v false) false false) (rMany (decV 10 (decP fs_sIncrementalAlterConfigsRequestResourceConfig v false) false false) k0_2 (rArr false x0_1.2).2).2).2.bad = true → (decP fs_IncrementalAlterConfigsRequest v false ⟨s, false, !a.isNone⟩).2.bad = true := fun h => hB0_2 (by rw [ex0_2]; exact rMany_mono (fun r h => decV_bad (fun r h => decP_bad _ _ _ r h) h) _ (show k0_2 + 1 ≤ (lT x0_2.1).length from hkl0_2) (by rw [rMany_succ]; exact h))
              have hLk0_2 : (rMany (decV 10 (decP fs_sIncrementalAlterConfigsRequestResourceConfig v false) false false) k0_2 (rArr false x0_1.2).2).2.s.length ≤ BR := Nat.le_trans (rMany_shr (fun r => decV_shr (fun r => decP_shr _ _ _ r) r) _ _) hm0_2
              have hL0_2__ := hLk0_2
              obtain ⟨x0_2_0, hx0_2_0⟩ : ∃ x, x = stepF (Fd.mk 8 0 (-1) (-1) (-1) 0 0 []) v false (rMany (decV 10 (decP fs_sIncrementalAlterConfigsRequestResourceConfig v false) false false) k0_2 (rArr false x0_1.2).2).2 := ⟨_, rfl⟩
              obtain ⟨x0_2_1, hx0_2_1⟩ : ∃ x, x = stepF (Fd.mk 1 0 (-1) (-1) (-1) 0 0 []) v false x0_2_0.2 := ⟨_, rfl⟩
              obtain ⟨x0_2_2, hx0_2_2⟩ : ∃ x, x = stepF (Fd.mk 8 0 (-1) 0 (-1) 0 0 []) v false x0_2_1.2 := ⟨_, rfl⟩
              obtain ⟨u0_2_, hu0_2_⟩ : ∃ x, x = tailU false x0_2_2.2 := ⟨_, rfl⟩
              have hD0_2_ : decP fs_sIncrementalAlterConfigsRequestResourceConfig v false (rMany (decV 10 (decP fs_sIncrementalAlterConfigsRequestResourceConfig v false) false false) k0_2 (rArr false x0_1.2).2).2 = (.mk 0 [] false [x0_2_0.1, x0_2_1.1, x0_2_2.1] u0_2_.1, u0_2_.2) := by
                generalize ((rMany (decV 10 (decP fs_sIncrementalAlterConfigsRequestResourceConfig v false) false false) k0_2 (rArr false x0_1.2).2).2 : Rd) = r_ at hx0_2_0 ⊢
                rw [decP_eq]; unfold fs_sIncrementalAlterConfigsRequestResourceConfig; simp only [decFs_cons, decFs_nil, ← hx0_2_0, ← hx0_2_1, ← hx0_2_2, ← hu0_2_]
              have hL0_2_0 : x0_2_0.2.s.length ≤ BR := by rw [hx0_2_0]; exact Nat.le_trans (stepF_shr _ _ _ _) hL0_2__
              have hL0_2_1 : x0_2_1.2.s.length ≤ BR := by rw [hx0_2_1]; exact Nat.le_trans (stepF_shr _ _ _ _) hL0_2_0
              have hL0_2_2 : x0_2_2.2.s.length ≤ BR := by rw [hx0_2_2]; exact Nat.le_trans (stepF_shr _ _ _ _) hL0_2_1
              have hE0_2_ : u0_2_.2.bad = true → (decP fs_IncrementalAlterConfigsRequest v false ⟨s, false, !a.isNone⟩).2.bad = true := fun h => hbz0_2 (by show (decP fs_sIncrementalAlterConfigsRequestResourceConfig v false (rMany (decV 10 (decP fs_sIncrementalAlterConfigsRequestResourceConfig v false) false false) k0_2 (rArr false x0_1.2).2).2).2.bad = true; rw [hD0_2_]; exact h)
              have hB0_2_2 : x0_2_2.2.bad = true → (decP fs_IncrementalAlterConfigsRequest v false ⟨s, false, !a.isNone⟩).2.bad = true := fun h => hE0_2_ (by rw [hu0_2_]; exact tailU_bad h)
              have hB0_2_1 : x0_2_1.2.bad = true → (decP fs_IncrementalAlterConfigsRequest v false ⟨s, false, !a.isNone⟩).2.bad = true := fun h => hB0_2_2 (by rw [hx0_2_2]; exact step_bad h)
              have hB0_2_0 : x0_2_0.2.bad = true → (decP fs_IncrementalAlterConfigsRequest v false ⟨s, false, !a.isNone⟩).2.bad = true := fun h => hB0_2_1 (by rw [hx0_2_1]; exact step_bad h)
              refine skt ?_
              refine sq ?_
              refine bl ?_
              refine sr ?_
              refine mv rfl rfl ?_
              refine mv rfl rfl ?_
              refine ixk (j := k0_2) Tryz.runUnderlying139 Tryz.sizeOf173 rfl hga0_2 rfl rfl hkl0_2 rfl ?_
              refine asg rfl rfl ?_
              refine nl ?_
              refine sr ?_
              refine mv rfl rfl ?_
              refine cl rfl rfl rfl (def_IncrementalAlterConfigsRequestResourceConfig ho0_2) rfl (fun v_ H1 L1 hle_ hR_ => ?_)
              obtain ⟨rfl, rfl⟩ := hR_
              refine nl ?_
              refine sr ?_
              refine mv rfl rfl ?_
              refine asg rfl rfl ?_
              refine nl ?_
              refine sq ?_
              refine sr ?_
              refine asg rfl rfl ?_
              refine nl ?_
              refine sq ?_
              refine sr ?_
              refine mv rfl rfl ?_
              refine nl ?_
              refine cF rfl ?_
              refine sr ?_
              refine mv rfl rfl ?_
              refine nl ?_
              refine cdF rfl (by omega) ?_
              refine rg ?_
              refine tf (.tail .head) ?_
              have ex0_2_0 : x0_2_0 = decV 8 (decP [] v false) false false (rMany (decV 10 (decP fs_sIncrementalAlterConfigsRequestResourceConfig v false) false false) k0_2 (rArr false x0_1.2).2).2 := (hx0_2_0.trans (step_yes (by decide) (show (0 : Int) ≤ v by omega) (Or.inl (by decide)))).trans (decF'_val (by decide) (rfl))
              refine cl rfl rfl rfl (d8f hR_0_2 ex0_2_0) rfl (fun v_ H1 L1 le_8 hR_ => ?_)
              obtain ⟨N128, rfl, hR128, rfl, rfl⟩ := hR_
              refine asg rfl rfl ?_
              refine nl ?_
              refine rg ?_
              refine mv rfl rfl ?_
              refine mv rfl rfl ?_
              refine nc rfl rfl ?_
              refine fa F173_0 rfl rfl ?_
              refine stM (off := 0) Tryz.sizeOf9 rfl (by rw [ho0_2]) rfl rfl rfl (.tail .head) ?_
              refine nl ?_
              refine sq ?_
              refine sr ?_
              refine asg rfl rfl ?_
              refine nl ?_
              refine sq ?_
              refine sr ?_
              have ex0_2_1 : x0_2_1 = decV 1 (decP [] v false) false false x0_2_0.2 := (hx0_2_1.trans (step_yes (by decide) (show (0 : Int) ≤ v by omega) (Or.inl (by decide)))).trans (decF'_val (by decide) (rfl))
              refine cl rfl rfl rfl (d1 hR128 ex0_2_1) rfl (fun v_ H1 L1 hle_ hR_ => ?_)
              obtain ⟨N133, rfl, hR133, rfl, rfl⟩ := hR_
              refine asg rfl rfl ?_
              refine nl ?_
              refine rg ?_
              refine mv rfl rfl ?_
              refine asg rfl rfl ?_
              refine nl ?_
              refine sr ?_
              refine mv rfl rfl ?_
              refine asg rfl rfl ?_
              refine nl ?_
              refine rg ?_
              refine mv rfl rfl ?_
              refine mv rfl rfl ?_
              refine nc rfl rfl ?_
              refine fa F173_1 rfl rfl ?_
              refine stM (off := 1) Tryz.sizeOf171 rfl (by rw [ho0_2]) rfl rfl rfl (.tail .head) ?_
              refine nl ?_
              refine sq ?_
              refine sr ?_
              refine asg rfl rfl ?_
              refine nl ?_
              refine sq ?_
              refine sr ?_
              refine mv rfl rfl ?_
              refine nl ?_
              refine cdF rfl (by omega) ?_
              refine sr ?_
              refine mv rfl rfl ?_
              refine nl ?_
              refine cF rfl ?_
              refine rg ?_
              have ex0_2_2 : x0_2_2 = decV 8 (decP [] v false) true false x0_2_1.2 := (hx0_2_2.trans (step_yes (by decide) (show (0 : Int) ≤ v by omega) (Or.inl (by decide)))).trans (decF'_val (by decide) (by simp only [Bool.and_eq_true, decide_eq_true_eq]; exact ⟨show (0 : Int) ≤ 0 by decide, show (0 : Int) ≤ v by omega⟩))
              refine cl rfl rfl rfl (d8fn hR133 ex0_2_2) rfl (fun v_ H1 L1 le_10 hR_ => ?_)
              obtain ⟨N146, rfl, hR146, p0_2_2, rfl, hf0_2_2⟩ := hR_
              refine asg rfl rfl ?_
              refine nl ?_
              refine rg ?_
              refine mv rfl rfl ?_
              refine mv rfl rfl ?_
              refine nc rfl rfl ?_
              refine fa F173_2 rfl rfl ?_
              refine stM (off := 2) Tryz.sizeOf114 rfl (by rw [ho0_2]) rfl rfl rfl (.tail .head) ?_
              refine nl ?_
              refine sr ?_
              refine mv rfl rfl ?_
              refine nl ?_
              refine cdF rfl (by omega) ?_
              refine skN ?_
              refine Nb ?_
              refine Nt ?_
              refine rg ?_
              refine mv rfl rfl ?_
              refine ad rfl rfl (c := ((k0_2 + 1 : Nat) : Int)) ((wrap32_le (by omega) (by omega)).trans (by omega)) rfl ?_
              refine asg rfl rfl ?_
              refine nN ?_
              obtain rfl : u0_2_ = ([], x0_2_2.2) := hu0_2_
              have hfs0_2 := flatMap_snoc' fk es0_2 ((⟨([.string ⟨x0_2_0.1.s.toArray⟩, .int .i8 (IntKind.i8.wrap x0_2_1.1.n), .pointer p0_2_2, .map none] : List Value), rfl, all_one rfl⟩, ((decV 10 (decP fs_sIncrementalAlterConfigsRequestResourceConfig v false) false false) (rMany (decV 10 (decP fs_sIncrementalAlterConfigsRequestResourceConfig v false) false false) k0_2 (rArr false x0_1.2).2).2).1) : KE 4)
              have hrw0_2 := hbk0_2 ([.string ⟨x0_2_0.1.s.toArray⟩, .int .i8 (IntKind.i8.wrap x0_2_1.1.n), .pointer p0_2_2, .map none] : List Value) rfl
              refine tfN (.tail .head) ?_
              refine fun a_ w_ hA hw => ⟨hkl0_2, _, _, _, hA.sub ?_, (le_7.trans le_10), hw, _, _, _, rfl, rfl, (by rw [rMany_succ]; show RdAt _ 144 b_1 (decP fs_sIncrementalAlterConfigsRequestResourceConfig v false (rMany (decV 10 (decP fs_sIncrementalAlterConfigsRequestResourceConfig v false) false false) k0_2 (rArr false x0_1.2).2).2).2 _; rw [hD0_2_]; exact hR146), (by rw [← hfs0_2]; exact hrw0_2), (dec_els he_0_2), (fun p hp => (mem_snoc hp).elim (fun h => At_IncrementalAlterConfigsRequestResourceConfig.mono _ _ _ _ le_10 (hg_0_2 p h)) (fun h => h ▸ (by show At_IncrementalAlterConfigsRequestResourceConfig _ (decP fs_sIncrementalAlterConfigsRequestResourceConfig v false (rMany (decV 10 (decP fs_sIncrementalAlterConfigsRequestResourceConfig v false) false false) k0_2 (rArr false x0_1.2).2).2).1 [.string ⟨x0_2_0.1.s.toArray⟩, .int .i8 (IntKind.i8.wrap x0_2_1.1.n), .pointer p0_2_2, .map none]; rw [hD0_2_]; exact ⟨p0_2_2, none, rfl, hf0_2_2, (KvAt.nil _)⟩)))⟩
              exact (.cons rfl (.cons rfl (.cons rfl (.cons rfl (.cons rfl (.cons rfl (.cons rfl (.cons rfl (.cons rfl (.cons rfl (.cons rfl (.cons rfl (.cons rfl (.nil _))))))))))))))
            · skip
              have hkn_ : k0_2 = (lT x0_2.1).length := by omega
              subst hkn_
              have hw2_0_2 : Row 173 4 a0_2 (lT x0_2.1).length c0_2 (es0_2.flatMap fk) M0_2 := by have h := hw_0_2; rw [Nat.sub_self] at h; simpa [reps] using h
              refine frW hw2_0_2 .head (fun Hf0_2 hlf0_2 hfz0_2 => ?_)
              have hrs0_2 := RowsAt.row (R := At_IncrementalAlterConfigsRequestResourceConfig) hfz0_2 hs_0_2.symm hw2_0_2.le.1 (fun p hp => At_IncrementalAlterConfigsRequestResourceConfig.mono _ _ _ _ hlf0_2 (hg_0_2 p hp))
              rw [he_0_2] at hrs0_2
              have hf0_2 : ListAt Hf0_2 x0_2.1 4 At_IncrementalAlterConfigsRequestResourceConfig a0_2 c0_2 := by rw [ex0_2]; exact listAt_of hrs0_2 hi0_2 (fun h => by have h1 := nul_le h; rw [show (lT x0_2.1).length = 0 by omega]; rfl)
              have hRx0_2 : RdAt Hf0_2 144 b_1 x0_2.2 RN0_2 := by rw [ex0_2]; exact (hR_0_2.mono hlf0_2)
              refine exX ?_
              refine XT ?_
              refine XT ?_
              refine Xb ?_
              refine Nt ?_
              refine sr ?_
              refine mv rfl rfl ?_
              refine asg rfl rfl ?_
              refine nl ?_
              refine rg ?_
              refine mv rfl rfl ?_
              refine mv rfl rfl ?_
              refine nc rfl rfl ?_
              refine fa F141_2 rfl rfl ?_
              refine stM (off := 2) Tryz.sizeOf139 rfl (by rw [ho0]) rfl rfl rfl (.tail .head) ?_
              refine nl ?_
              refine sr ?_
              refine mv rfl rfl ?_
              refine nl ?_
              refine cdF rfl (by omega) ?_
              refine skN ?_
              refine Nb ?_
              refine Nt ?_
              refine rg ?_
              refine mv rfl rfl ?_
              refine ad rfl rfl (c := ((k0 + 1 : Nat) : Int)) ((wrap32_le (by omega) (by omega)).trans (by omega)) rfl ?_
              refine asg rfl rfl ?_
              refine nN ?_
              obtain rfl : u0_ = ([], x0_2.2) := hu0_
              have hfs0 := flatMap_snoc' fk es0 ((⟨([.int .i8 (IntKind.i8.wrap x0_0.1.n), .string ⟨x0_1.1.s.toArray⟩, .slice a0_2 (lT x0_2.1).length c0_2, .map none] : List Value), rfl, all_one rfl⟩, ((decV 10 (decP fs_sIncrementalAlterConfigsRequestResource v false) false false) (rMany (decV 10 (decP fs_sIncrementalAlterConfigsRequestResource v false) false false) k0 (rArr false ⟨s, false, !a.isNone⟩).2).2).1) : KE 4)
              have hrw0 := hbk0 ([.int .i8 (IntKind.i8.wrap x0_0.1.n), .string ⟨x0_1.1.s.toArray⟩, .slice a0_2 (lT x0_2.1).length c0_2, .map none] : List Value) rfl
              refine tfN (.tail .head) ?_
              refine fun a_ w_ hA hw => ⟨hkl0, _, _, _, hA.sub ?_, (le_3.trans (le_6.trans (le_7.trans hlf0_2))), hw, _, _, _, rfl, rfl, (by rw [rMany_succ]; show RdAt _ 144 b_1 (decP fs_sIncrementalAlterConfigsRequestResource v false (rMany (decV 10 (decP fs_sIncrementalAlterConfigsRequestResource v false) false false) k0 (rArr false ⟨s, false, !a.isNone⟩).2).2).2 _; rw [hD0_]; exact hRx0_2), (by rw [← hfs0]; exact hrw0), (dec_els he_0), (fun p hp => (mem_snoc hp).elim (fun h => At_IncrementalAlterConfigsRequestResource.mono _ _ _ _ (le_6.trans (le_7.trans hlf0_2)) (hg_0 p h)) (fun h => h ▸ (by show At_IncrementalAlterConfigsRequestResource _ (decP fs_sIncrementalAlterConfigsRequestResource v false (rMany (decV 10 (decP fs_sIncrementalAlterConfigsRequestResource v false) false false) k0 (rArr false ⟨s, false, !a.isNone⟩).2).2).1 [.int .i8 (IntKind.i8.wrap x0_0.1.n), .string ⟨x0_1.1.s.toArray⟩, .slice a0_2 (lT x0_2.1).length c0_2, .map none]; rw [hD0_]; exact ⟨a0_2, c0_2, none, rfl, hf0_2, (KvAt.nil _)⟩)))⟩
              exact (.cons rfl (.cons rfl (.cons rfl (.cons rfl (.cons rfl (.cons rfl (.cons rfl (.cons rfl (.nil _)))))))))
      · skip
        have hkn_ : k0 = (lT x0.1).length := by omega
        subst hkn_
        have hw2_0 : Row 141 4 a0 (lT x0.1).length c0 (es0.flatMap fk) M0 := by have h := hw_0; rw [Nat.sub_self] at h; simpa [reps] using h
        refine frW hw2_0 .head (fun Hf0 hlf0 hfz0 => ?_)
        have hrs0 := RowsAt.row (R := At_IncrementalAlterConfigsRequestResource) hfz0 hs_0.symm hw2_0.le.1 (fun p hp => At_IncrementalAlterConfigsRequestResource.mono _ _ _ _ hlf0 (hg_0 p hp))
        rw [he_0] at hrs0
        have hf0 : ListAt Hf0 x0.1 4 At_IncrementalAlterConfigsRequestResource a0 c0 := by rw [ex0]; exact listAt_of hrs0 hi0 (fun h => by have h1 := nul_le h; rw [show (lT x0.1).length = 0 by omega]; rfl)
        have hRx0 : RdAt Hf0 144 b_1 x0.2 RN0 := by rw [ex0]; exact (hR_0.mono hlf0)
        refine exX ?_
        refine XT ?_
        refine XT ?_
        refine Xb ?_
        refine Nt ?_
        refine sr ?_
        refine mv rfl rfl ?_
        refine asg rfl rfl ?_
        refine nl ?_
        refine rg ?_
        refine mv rfl rfl ?_
        refine mv rfl rfl ?_
        refine nc rfl rfl ?_
        refine fa0 F134_1 rfl rfl ?_
        refine st Tryz.sizeOf132 rfl rfl rfl rfl (.tail .head) ?_
        refine nl ?_
        refine sq ?_
        refine sr ?_
        have ex1 : x1 = decV 0 (decP [] v false) false false x0.2 := (hx1.trans (step_yes (by decide) (show (0 : Int) ≤ v by omega) (Or.inl (by decide)))).trans (decF'_val (by decide) (rfl))
        refine cl rfl rfl rfl (d0 hRx0 ex1) rfl (fun v_ H1 L1 hle_ hR_ => ?_)
        obtain ⟨N171, rfl, hR171, rfl, rfl⟩ := hR_
        refine asg rfl rfl ?_
        refine nl ?_
        refine rg ?_
        refine mv rfl rfl ?_
        refine mv rfl rfl ?_
        refine nc rfl rfl ?_
        refine fa0 F134_2 rfl rfl ?_
        refine st Tryz.sizeOf4 rfl rfl rfl rfl (.tail .head) ?_
        refine nl ?_
        refine sq ?_
        refine sr ?_
        refine mv rfl rfl ?_
        refine nl ?_
        refine cdF rfl (by omega) ?_
        refine skt ?_
        refine sr ?_
        refine cl rfl rfl rfl (r_complete hR171 (he.mono (le_2.trans (le_3.trans hlf0)))) rfl (fun v_ H1 L1 hle_ hR_ => ?_)
        obtain ⟨rfl, rfl, rfl⟩ := hR_
        refine asg rfl rfl ?_
        refine nl ?_
        refine drW .head ?_
        obtain rfl : u = ([], x1.2) := hu
        have hA_ := (show At_IncrementalAlterConfigsRequest v _ (decP fs_IncrementalAlterConfigsRequest v false _).1 [.int .i16 v, .slice a0 (lT x0.1).length c0, .bool (decide (x1.1.n % 2 = 1)), .map none] from (by rw [hD]; exact ⟨a0, c0, none, rfl, hf0, (KvAt.nil _)⟩))
        refine rT rfl rfl (le_2.trans (le_3.trans hlf0)) (fun _ _ h => h) ⟨_, rfl, ?_⟩
        have hz := RdEnd.of (e := e) hA_
        rw [show (decP fs_IncrementalAlterConfigsRequest v false _).2.bad = x1.2.bad by rw [hD]] at hz
        exact hz
theorem rd_IncrementalAlterConfigsRequest_t {H : Fz} {L : Own} {b : Nat} {v : Int} {a : Option Addr} {c : Nat} {s : List UInt8} {e : Value} (hB : BytesAt H a c s) (hL_ : s.length ≤ BR) (he : H.at 1 0 [e]) (hv0 : 1 ≤ v) (hv1 : v ≤ 1) :
    Fn Tryz.prog 101 [.pointer (some ⟨b, 0, none⟩), .slice a s.length c, .bool false] H ([(b, .cells [.int .i16 v, .slice none 0 0, .bool false, .map none].toArray 134 (0, 0))] :: L) (fun r H' L' => ∃ cs : List Value, L' = [(b, .cells cs.toArray 134 (0, 0))] :: L ∧ RdEnd H' (At_IncrementalAlterConfigsRequest v) (decP fs_IncrementalAlterConfigsRequest v true ⟨s, false, !a.isNone⟩) e r cs) := by
  refine Fn.mk Tryz.call101 Tryz.func101 rfl Tryz.ntmps101 rfl ?_
  refine sr ?_
  refine asg rfl rfl ?_
  refine nl ?_
  refine sr ?_
  refine mv rfl rfl ?_
  refine cl rfl rfl rfl def0_IncrementalAlterConfigsRequest rfl (fun v_ H1 L1 hle_ hR_ => ?_)
  obtain ⟨rfl, rfl⟩ := hR_
  refine nl ?_
  refine sr ?_
  refine mv rfl rfl ?_
  refine bd' S144 rfl rfl rfl ?_
  refine al Tryz.zeroValue144 rfl rfl (fun b_1 => ?_)
  refine sa Tryz.sizeOf144 rfl rfl rfl rfl rfl .head ?_
  have hR0_ : RdAt H 144 b_1 ⟨s, false, !a.isNone⟩ [(b_1, .cells [_, _].toArray 144 (0, 0))] := ⟨a, c, rfl, hB, by simp⟩
  obtain ⟨x0, hx0⟩ : ∃ x, x = stepF (Fd.mk 11 0 (-1) (-1) (-1) 0 10 fs_sIncrementalAlterConfigsRequestResource) v true ⟨s, false, !a.isNone⟩ := ⟨_, rfl⟩
  obtain ⟨x1, hx1⟩ : ∃ x, x = stepF (Fd.mk 0 0 (-1) (-1) (-1) 0 0 []) v true x0.2 := ⟨_, rfl⟩
  obtain ⟨u, hu⟩ : ∃ x, x = tailU true x1.2 := ⟨_, rfl⟩
  have hD : decP fs_IncrementalAlterConfigsRequest v true ⟨s, false, !a.isNone⟩ = (.mk 0 [] false [x0.1, x1.1] u.1, u.2) := by
    generalize (⟨s, false, !a.isNone⟩ : Rd) = r_ at hx0 ⊢
    rw [decP_eq]; unfold fs_IncrementalAlterConfigsRequest; simp only [decFs_cons, decFs_nil, ← hx0, ← hx1, ← hu]
  have hL0 : x0.2.s.length ≤ BR := by rw [hx0]; exact Nat.le_trans (stepF_shr _ _ _ _) hL_
  have hL1 : x1.2.s.length ≤ BR := by rw [hx1]; exact Nat.le_trans (stepF_shr _ _ _ _) hL0
  have hE : u.2.bad = true → (decP fs_IncrementalAlterConfigsRequest v true ⟨s, false, !a.isNone⟩).2.bad = true := fun h => by rw [hD]; exact h
  have hB1 : x1.2.bad = true → (decP fs_IncrementalAlterConfigsRequest v true ⟨s, false, !a.isNone⟩).2.bad = true := fun h => hE (by rw [hu]; exact tailU_bad h)
  have hB0 : x0.2.bad = true → (decP fs_IncrementalAlterConfigsRequest v true ⟨s, false, !a.isNone⟩).2.bad = true := fun h => hB1 (by rw [hx1]; exact step_bad h)
  refine nl ?_
  refine sr ?_
  refine mv rfl rfl ?_
  refine nc rfl rfl ?_
  refine fa0 F134_0 rfl rfl ?_
  refine ld (Says.own (.tail .head)) Tryz.isAgg46 rfl (Nat.zero_add _).symm rfl rfl ?_
  refine asg rfl rfl ?_
  refine nl ?_
  refine sr ?_
  refine mv rfl rfl ?_
  refine nl ?_
  refine sr ?_
  refine mv rfl rfl ?_
  refine ge rfl rfl rfl ?_
  refine asg rfl rfl ?_
  refine nl ?_
  refine sr ?_
  refine mv rfl rfl ?_
  refine nl ?_
  refine sr ?_
  refine mv rfl rfl ?_
  refine asg rfl rfl ?_
  refine nl ?_
  refine sq ?_
  refine sr ?_
  refine mv rfl rfl ?_
  refine nc rfl rfl ?_
  refine fa0 F134_1 rfl rfl ?_
  refine ld (Says.own (.tail .head)) Tryz.isAgg132 rfl (Nat.zero_add _).symm rfl rfl ?_
  refine asg rfl rfl ?_
  refine nl ?_
  refine sr ?_
  refine mv rfl rfl ?_
  refine asg rfl rfl ?_
  refine nl ?_
  refine sr ?_
  refine asg rfl rfl ?_
  refine nl ?_
  refine sq ?_
  refine sr ?_
  refine mv rfl rfl ?_
  refine nl ?_
  refine cdT rfl (by omega) ?_
  refine rg ?_
  have ey0 : x0 = (.mk 0 [] (if 0 ≤ ((-1) : Int) ∧ (v < ((-1) : Int) ∨ (rArr true ⟨s, false, !a.isNone⟩).1 = 0) then false else decide ((rArr true ⟨s, false, !a.isNone⟩).1 ≤ 0)) (rMany (decV 10 (decP fs_sIncrementalAlterConfigsRequestResource v true) false true) (rArr true ⟨s, false, !a.isNone⟩).1.toNat (rArr true ⟨s, false, !a.isNone⟩).2).1 [], (rMany (decV 10 (decP fs_sIncrementalAlterConfigsRequestResource v true) false true) (rArr true ⟨s, false, !a.isNone⟩).1.toNat (rArr true ⟨s, false, !a.isNone⟩).2).2) := (hx0.trans (step_yes (by decide) (show (0 : Int) ≤ v by omega) (Or.inl (by decide)))).trans (decF'_list rfl rfl)
  have hn0 : (rArr true ⟨s, false, !a.isNone⟩).1.toNat = (lT x0.1).length := by rw [ey0]; exact (lT_many nul_le).symm
  have ex0 := ey0
  rw [hn0] at ex0
  have hl0 := rArr_le true ⟨s, false, !a.isNone⟩
  have hm0 : (rArr true ⟨s, false, !a.isNone⟩).2.s.length ≤ BR := Nat.le_trans (rArr_len true ⟨s, false, !a.isNone⟩) hL_
  have hnb0 : (lT x0.1).length ≤ BR := by omega
  refine cl rfl rfl rfl (r_arrt hR0_) rfl (fun v_ H1 L1 hle_ hR_ => ?_)
  obtain ⟨rfl, N52, rfl, hR52, rfl⟩ := hR_
  have hh0 := rArr_hi true ⟨s, false, !a.isNone⟩
  refine asg rfl rfl ?_
  refine nl ?_
  refine sq ?_
  refine sr ?_
  refine cl rfl rfl rfl (r_ok hR52) rfl (fun v_ H1 L1 hle_ hR_ => ?_)
  obtain ⟨rfl, rfl, rfl⟩ := hR_
  refine nt rfl rfl ?_
  refine nl ?_
  refine cb rfl (fun h55 => ?_) (fun h55 => ?_)
  · skip
    have hbad_ : (rArr true ⟨s, false, !a.isNone⟩).2.bad = true := by simpa using h55
    refine sr ?_
    refine cl rfl rfl rfl (r_complete hR52 he) rfl (fun v_ H1 L1 hle_ hR_ => ?_)
    obtain ⟨rfl, rfl, rfl⟩ := hR_
    refine asg rfl rfl ?_
    refine nl ?_
    refine drW .head ?_
    exact rT rfl rfl (Fz.le.refl _) (fun _ _ h => h) ⟨_, rfl, RdEnd.out (hB0 (by rw [ey0]; exact rMany_bad (fun r h => decV_bad (decP_bad _ _ _) h) _ _ hbad_)) hbad_⟩
  · skip
    refine skt ?_
    refine sr ?_
    refine mv rfl rfl ?_
    refine sh' (j := 0) Tryz.runUnderlying132 Tryz.sizeOf141 rfl rfl rfl (Nat.zero_le _) rfl ?_
    refine asg rfl rfl ?_
    refine nl ?_
    refine sq ?_
    refine sr ?_
    refine mv rfl rfl ?_
    refine gt rfl rfl rfl ?_
    refine nl ?_
    refine nulC2 ?_
    refine cutT (fun l' H' L' => ∃ (a0 : Option Addr), ∃ (c0 : Nat), ∃ (Nr0 : Chunk), [(2, .bool false), (7, .pointer (some ⟨b_1, 0, none⟩)), (9, .bool (decide ((1 : Int) ≤ v))), (10, .pointer (some ⟨b, 0, none⟩)), (11, .slice none 0 0), (12, .slice a0 (lT x0.1).length c0), (13, .int .i32 (rArr true ⟨s, false, !a.isNone⟩).1)] = l' ∧ Nr0 :: N52 :: [(b, .cells [.int .i16 v, .slice none 0 0, .bool false, .map none].toArray 134 (0, 0))] :: L = L' ∧ Row 141 4 a0 (lT x0.1).length c0 (reps [.int .i8 0, .string ⟨#[]⟩, .slice none 0 0, .map none] (lT x0.1).length) Nr0 ∧ a0.isNone = (if 0 ≤ ((-1) : Int) ∧ (v < ((-1) : Int) ∨ (rArr true ⟨s, false, !a.isNone⟩).1 = 0) then false else decide ((rArr true ⟨s, false, !a.isNone⟩).1 ≤ 0))) ?_ (fun l' H' L' le_2 hI => ?_)
    · skip
      refine cd rfl (fun h60 => ?_) (fun h60 => ?_)
      · skip
        refine rg ?_
        refine mv rfl rfl ?_
        refine mv rfl rfl ?_
        refine apz (zs := [.int .i8 0, .string ⟨#[]⟩, .slice none 0 0, .map none]) (m := (lT x0.1).length) Tryz.underlying132 Tryz.underlying21 I141 rfl rfl rfl (by omega) (by omega) (by have h9 := hnb0; unfold BR at h9; omega) (by have h9 := hnb0; unfold BR at h9; unfold maxLen; omega) rfl (fun g63 cp63 N63 r63 => ?_)
        refine asg rfl rfl ?_
        refine nN ?_
        refine drN (.tail .head) ?_
        refine fun a_ w_ hA hw => ⟨_, _, _, hA.sub ?_, (Fz.le.refl _), hw, (some ⟨g63, 0, none⟩), cp63, N63, rfl, rfl, r63, (by rw [if_neg (by omega)]; exact (decide_eq_false (by omega)).symm)⟩
        exact (.cons rfl (.cons rfl (.cons rfl (.cons rfl (.cons rfl (.cons rfl (.cons rfl (.nil _))))))))
      · skip
        refine skN ?_
        refine fun a_ w_ hA hw => ⟨_, _, _, hA.sub ?_, (Fz.le.refl _), hw, none, 0, [], rfl, rfl, (by rw [show (lT x0.1).length = 0 by omega]; exact (Row.nil _ _)), (by rw [if_neg (by omega)]; exact (decide_eq_true (by omega)).symm)⟩
        exact (.cons rfl (.cons rfl (.cons rfl (.cons rfl (.cons rfl (.cons (by rw [show (lT x0.1).length = 0 by omega]; rfl) (.cons rfl (.nil _))))))))
    · skip
      obtain ⟨a0, c0, Nr0, rfl, rfl, pj0, pj1⟩ := hI
      have hr0 := pj0
      have hi0 := pj1
      refine sq ?_
      refine sr ?_
      refine asg rfl rfl ?_
      refine nl ?_
      refine bl (lp ((lT x0.1).length) (fun k0 l' H' L' => ∃ (es0 : List (KE 4)) (M0 RN0 : Chunk), [(2, .bool false), (7, .pointer (some ⟨b_1, 0, none⟩)), (9, .bool (decide ((1 : Int) ≤ v))), (10, .pointer (some ⟨b, 0, none⟩)), (11, .slice none 0 0), (12, .slice a0 (lT x0.1).length c0), (13, .int .i32 (rArr true ⟨s, false, !a.isNone⟩).1), (14, .int .i32 (k0 : Int))] = l' ∧ M0 :: RN0 :: [(b, .cells [.int .i16 v, .slice none 0 0, .bool false, .map none].toArray 134 (0, 0))] :: L = L' ∧ RdAt H' 144 b_1 (rMany (decV 10 (decP fs_sIncrementalAlterConfigsRequestResource v true) false true) k0 (rArr true ⟨s, false, !a.isNone⟩).2).2 RN0 ∧ Row 141 4 a0 (lT x0.1).length c0 (es0.flatMap fk ++ reps [.int .i8 0, .string ⟨#[]⟩, .slice none 0 0, .map none] ((lT x0.1).length - k0)) M0 ∧ es0.map (·.2) = (rMany (decV 10 (decP fs_sIncrementalAlterConfigsRequestResource v true) false true) k0 (rArr true ⟨s, false, !a.isNone⟩).2).1 ∧ ∀ p ∈ es0, At_IncrementalAlterConfigsRequestResource H' p.2 (fk p)) [(2, .bool false), (7, .pointer (some ⟨b_1, 0, none⟩)), (9, .bool (decide ((1 : Int) ≤ v))), (10, .pointer (some ⟨b, 0, none⟩)), (11, .slice none 0 0), (12, .slice a0 (lT x0.1).length c0), (13, .int .i32 (rArr true ⟨s, false, !a.isNone⟩).1), (14, .int .i32 (0 : Int))] (.cons rfl (.cons rfl (.cons rfl (.cons rfl (.cons rfl (.cons rfl (.cons rfl (.cons rfl (.nil _))))))))) ⟨[], Nr0, _, rfl, rfl, (hR52.mono le_2), hr0, rfl, (fun p hp => by cases hp)⟩ (fun k0 l' H' L' hk0 le_3 hI => ?_))
      obtain ⟨es0, M0, RN0, rfl, rfl, hR_0, hw_0, he_0, hg_0⟩ := hI
      have hs_0 := els_len he_0
      have hp_0 : (es0.flatMap fk).length = k0 * 4 := els_flat hs_0
      refine sq ?_
      refine sr ?_
      refine mv rfl rfl ?_
      refine mv rfl rfl ?_
      refine lt rfl rfl rfl ?_
      refine nl ?_
      refine cd rfl (fun h66 => ?_) (fun h66 => ?_)
      · skip
        have hkl0 : k0 < (lT x0.1).length := by omega
        obtain ⟨g0, po0, hga0, rfl, hbk0⟩ := hw_0.next (zs := [.int .i8 0, .string ⟨#[]⟩, .slice none 0 0, .map none]) hkl0 rfl (by decide)
        have ho0 : 0 + k0 * 4 = (es0.flatMap fk).length := by rw [hp_0]; omega
        have hbz0 : ((decV 10 (decP fs_sIncrementalAlterConfigsRequestResource v true) false true) (rMany (decV 10 (decP fs_sIncrementalAlterConfigsRequestResource v true) false true) k0 (rArr true ⟨s, false, !a.isNone⟩).2).2).2.bad = true → (decP fs_IncrementalAlterConfigsRequest v true ⟨s, false, !a.isNone⟩).2.bad = true := fun h => hB0 (by rw [ex0]; exact rMany_mono (fun r h => decV_bad (fun r h => decP_bad _ _ _ r h) h) _ (show k0 + 1 ≤ (lT x0.1).length from hkl0) (by rw [rMany_succ]; exact h))
        have hLk0 : (rMany (decV 10 (decP fs_sIncrementalAlterConfigsRequestResource v true) false true) k0 (rArr true ⟨s, false, !a.isNone⟩).2).2.s.length ≤ BR := Nat.le_trans (rMany_shr (fun r => decV_shr (fun r => decP_shr _ _ _ r) r) _ _) hm0
        have hL0__ := hLk0
        obtain ⟨x0_0, hx0_0⟩ : ∃ x, x = stepF (Fd.mk 1 0 (-1) (-1) (-1) 0 0 []) v true (rMany (decV 10 (decP fs_sIncrementalAlterConfigsRequestResource v true) false true) k0 (rArr true ⟨s, false, !a.isNone⟩).2).2 := ⟨_, rfl⟩
        obtain ⟨x0_1, hx0_1⟩ : ∃ x, x = stepF (Fd.mk 8 0 (-1) (-1) (-1) 0 0 []) v true x0_0.2 := ⟨_, rfl⟩
        obtain ⟨x0_2, hx0_2⟩ : ∃ x, x = stepF (Fd.mk 11 0 (-1) (-1) (-1) 0 10 fs_sIncrementalAlterConfigsRequestResourceConfig) v true x0_1.2 := ⟨_, rfl⟩
        obtain ⟨u0_, hu0_⟩ : ∃ x, x = tailU true x0_2.2 := ⟨_, rfl⟩
        have hD0_ : decP fs_sIncrementalAlterConfigsRequestResource v true (rMany (decV 10 (decP fs_sIncrementalAlterConfigsRequestResource v true) false true) k0 (rArr true ⟨s, false, !a.isNone⟩).2).2 = (.mk 0 [] false [x0_0.1, x0_1.1, x0_2.1] u0_.1, u0_.2) := by
          generalize ((rMany (decV 10 (decP fs_sIncrementalAlterConfigsRequestResource v true) false true) k0 (rArr true ⟨s, false, !a.isNone⟩).2).2 : Rd) = r_ at hx0_0 ⊢
          rw [decP_eq]; unfold fs_sIncrementalAlterConfigsRequestResource; simp only [decFs_cons, decFs_nil, ← hx0_0, ← hx0_1, ← hx0_2, ← hu0_]
        have hL0_0 : x0_0.2.s.length ≤ BR := by rw [hx0_0]; exact Nat.le_trans (stepF_shr _ _ _ _) hL0__
        have hL0_1 : x0_1.2.s.length ≤ BR := by rw [hx0_1]; exact Nat.le_trans (stepF_shr _ _ _ _) hL0_0
        have hL0_2 : x0_2.2.s.length ≤ BR := by rw [hx0_2]; exact Nat.le_trans (stepF_shr _ _ _ _) hL0_1
        have hE0_ : u0_.2.bad = true → (decP fs_IncrementalAlterConfigsRequest v true ⟨s, false, !a.isNone⟩).2.bad = true := fun h => hbz0 (by show (decP fs_sIncrementalAlterConfigsRequestResource v true (rMany (decV 10 (decP fs_sIncrementalAlterConfigsRequestResource v true) false true) k0 (rArr true ⟨s, false, !a.isNone⟩).2).2).2.bad = true; rw [hD0_]; exact h)
        have hB0_2 : x0_2.2.bad = true → (decP fs_IncrementalAlterConfigsRequest v true ⟨s, false, !a.isNone⟩).2.bad = true := fun h => hE0_ (by rw [hu0_]; exact tailU_bad h)
        have hB0_1 : x0_1.2.bad = true → (decP fs_IncrementalAlterConfigsRequest v true ⟨s, false, !a.isNone⟩).2.bad = true := fun h => hB0_2 (by rw [hx0_2]; exact step_bad h)
        have hB0_0 : x0_0.2.bad = true → (decP fs_IncrementalAlterConfigsRequest v true ⟨s, false, !a.isNone⟩).2.bad = true := fun h => hB0_1 (by rw [hx0_1]; exact step_bad h)
        refine skt ?_
        refine sq ?_
        refine bl ?_
        refine sr ?_
        refine mv rfl rfl ?_
        refine mv rfl rfl ?_
        refine ixk (j := k0) Tryz.runUnderlying132 Tryz.sizeOf141 rfl hga0 rfl rfl hkl0 rfl ?_
        refine asg rfl rfl ?_
        refine nl ?_
        refine sr ?_
        refine mv rfl rfl ?_
        refine cl rfl rfl rfl (def_IncrementalAlterConfigsRequestResource ho0) rfl (fun v_ H1 L1 hle_ hR_ => ?_)
        obtain ⟨rfl, rfl⟩ := hR_
        refine nl ?_
        refine sr ?_
        refine mv rfl rfl ?_
        refine asg rfl rfl ?_
        refine nl ?_
        refine sq ?_
        refine sr ?_
        refine asg rfl rfl ?_
        refine nl ?_
        refine sq ?_
        refine sr ?_
        refine tf (.tail .head) ?_
        have ex0_0 : x0_0 = decV 1 (decP [] v true) false true (rMany (decV 10 (decP fs_sIncrementalAlterConfigsRequestResource v true) false true) k0 (rArr true ⟨s, false, !a.isNone⟩).2).2 := (hx0_0.trans (step_yes (by decide) (show (0 : Int) ≤ v by omega) (Or.inl (by decide)))).trans (decF'_val (by decide) (rfl))
        refine cl rfl rfl rfl (d1 hR_0 ex0_0) rfl (fun v_ H1 L1 hle_ hR_ => ?_)
        obtain ⟨N75, rfl, hR75, rfl, rfl⟩ := hR_
        refine asg rfl rfl ?_
        refine nl ?_
        refine rg ?_
        refine mv rfl rfl ?_
        refine asg rfl rfl ?_
        refine nl ?_
        refine sr ?_
        refine mv rfl rfl ?_
        refine asg rfl rfl ?_
        refine nl ?_
        refine rg ?_
        refine mv rfl rfl ?_
        refine mv rfl rfl ?_
        refine nc rfl rfl ?_
        refine fa F141_0 rfl rfl ?_
        refine stM (off := 0) Tryz.sizeOf138 rfl (by rw [ho0]) rfl rfl rfl (.tail .head) ?_
        refine nl ?_
        refine sq ?_
        refine sr ?_
        refine asg rfl rfl ?_
        refine nl ?_
        refine sq ?_
        refine sr ?_
        refine mv rfl rfl ?_
        refine nl ?_
        refine cF rfl ?_
        refine sr ?_
        refine mv rfl rfl ?_
        refine nl ?_
        refine cdT rfl (by omega) ?_
        refine rg ?_
        have ex0_1 : x0_1 = decV 8 (decP [] v true) false true x0_0.2 := (hx0_1.trans (step_yes (by decide) (show (0 : Int) ≤ v by omega) (Or.inl (by decide)))).trans (decF'_val (by decide) (rfl))
        refine cl rfl rfl rfl (d8t hR75 ex0_1) rfl (fun v_ H1 L1 le_5 hR_ => ?_)
        obtain ⟨N87, rfl, hR87, rfl, rfl⟩ := hR_
        refine asg rfl rfl ?_
        refine nl ?_
        refine rg ?_
        refine mv rfl rfl ?_
        refine mv rfl rfl ?_
        refine nc rfl rfl ?_
        refine fa F141_1 rfl rfl ?_
        refine stM (off := 1) Tryz.sizeOf9 rfl (by rw [ho0]) rfl rfl rfl (.tail .head) ?_
        refine nl ?_
        refine sq ?_
        refine sr ?_
        refine mv rfl rfl ?_
        refine nc rfl rfl ?_
        refine fa F141_2 rfl rfl ?_
        refine ld (j := 2) (off := 0 + k0 * 4) (Says.mid (.tail .head) ho0) Tryz.isAgg139 rfl rfl rfl rfl ?_
        refine asg rfl rfl ?_
        refine nl ?_
        refine sr ?_
        refine mv rfl rfl ?_
        refine asg rfl rfl ?_
        refine nl ?_
        refine sr ?_
        refine asg rfl rfl ?_
        refine nl ?_
        refine sq ?_
        refine sr ?_
        refine mv rfl rfl ?_
        refine nl ?_
        refine cdT rfl (by omega) ?_
        refine rg ?_
        have ey0_2 : x0_2 = (.mk 0 [] (if 0 ≤ ((-1) : Int) ∧ (v < ((-1) : Int) ∨ (rArr true x0_1.2).1 = 0) then false else decide ((rArr true x0_1.2).1 ≤ 0)) (rMany (decV 10 (decP fs_sIncrementalAlterConfigsRequestResourceConfig v true) false true) (rArr true x0_1.2).1.toNat (rArr true x0_1.2).2).1 [], (rMany (decV 10 (decP fs_sIncrementalAlterConfigsRequestResourceConfig v true) false true) (rArr true x0_1.2).1.toNat (rArr true x0_1.2).2).2) := (hx0_2.trans (step_yes (by decide) (show (0 : Int) ≤ v by omega) (Or.inl (by decide)))).trans (decF'_list rfl rfl)
        have hn0_2 : (rArr true x0_1.2).1.toNat = (lT x0_2.1).length := by rw [ey0_2]; exact (lT_many nul_le).symm
        have ex0_2 := ey0_2
        rw [hn0_2] at ex0_2
        have hl0_2 := rArr_le true x0_1.2
        have hm0_2 : (rArr true x0_1.2).2.s.length ≤ BR := Nat.le_trans (rArr_len true x0_1.2) hL0_1
        have hnb0_2 : (lT x0_2.1).length ≤ BR := by omega
        refine cl rfl rfl rfl (r_arrt hR87) rfl (fun v_ H1 L1 hle_ hR_ => ?_)
        obtain ⟨rfl, N99, rfl, hR99, rfl⟩ := hR_
        have hh0_2 := rArr_hi true x0_1.2
        refine asg rfl rfl ?_
        refine nl ?_
        refine sq ?_
        refine sr ?_
        refine cl rfl rfl rfl (r_ok hR99) rfl (fun v_ H1 L1 hle_ hR_ => ?_)
        obtain ⟨rfl, rfl, rfl⟩ := hR_
        refine nt rfl rfl ?_
        refine nl ?_
        refine cb rfl (fun h102 => ?_) (fun h102 => ?_)
        · skip
          have hbad_ : (rArr true x0_1.2).2.bad = true := by simpa using h102
          refine sr ?_
          refine cl rfl rfl rfl (r_complete hR99 (he.mono (le_2.trans le_3))) rfl (fun v_ H1 L1 hle_ hR_ => ?_)
          obtain ⟨rfl, rfl, rfl⟩ := hR_
          refine asg rfl rfl ?_
          refine nl ?_
          refine drW .head ?_
          refine drW .head ?_
          exact rT rfl rfl (le_2.trans le_3) (fun _ _ h => h) ⟨_, rfl, RdEnd.out (hB0_2 (by rw [ey0_2]; exact rMany_bad (fun r h => decV_bad (decP_bad _ _ _) h) _ _ hbad_)) hbad_⟩
        · skip
          refine skt ?_
          refine sr ?_
          refine mv rfl rfl ?_
          refine sh' (j := 0) Tryz.runUnderlying139 Tryz.sizeOf173 rfl rfl rfl (Nat.zero_le _) rfl ?_
          refine asg rfl rfl ?_
          refine nl ?_
          refine sq ?_
          refine sr ?_
          refine mv rfl rfl ?_
          refine gt rfl rfl rfl ?_
          refine nl ?_
          refine nulC2 ?_
          refine cutT (fun l' H' L' => ∃ (a0_2 : Option Addr), ∃ (c0_2 : Nat), ∃ (Nr0_2 : Chunk), [(2, .bool false), (7, .pointer (some ⟨b_1, 0, none⟩)), (9, .bool (decide ((1 : Int) ≤ v))), (10, .pointer (some ⟨b, 0, none⟩)), (11, .slice none 0 0), (12, .slice a0 (lT x0.1).length c0), (13, .int .i32 (rArr true ⟨s, false, !a.isNone⟩).1), (14, .int .i32 (k0 : Int)), (16, .pointer (some ⟨g0, 0 + k0 * 4, none⟩)), (21, .slice none 0 0), (22, .slice a0_2 (lT x0_2.1).length c0_2), (23, .int .i32 (rArr true x0_1.2).1)] = l' ∧ Nr0_2 :: N99 :: [(g0, .cells ((es0.flatMap fk) ++ ([.int .i8 (IntKind.i8.wrap x0_0.1.n), .string ⟨x0_1.1.s.toArray⟩, .slice none 0 0, .map none] : List Value) ++ po0).toArray 141 (0, 0))] :: [(b, .cells [.int .i16 v, .slice none 0 0, .bool false, .map none].toArray 134 (0, 0))] :: L = L' ∧ Row 173 4 a0_2 (lT x0_2.1).length c0_2 (reps [.string ⟨#[]⟩, .int .i8 0, .pointer none, .map none] (lT x0_2.1).length) Nr0_2 ∧ a0_2.isNone = (if 0 ≤ ((-1) : Int) ∧ (v < ((-1) : Int) ∨ (rArr true x0_1.2).1 = 0) then false else decide ((rArr true x0_1.2).1 ≤ 0))) ?_ (fun l' H' L' le_6 hI => ?_)
          · skip
            refine cd rfl (fun h107 => ?_) (fun h107 => ?_)
            · skip
              refine rg ?_
              refine mv rfl rfl ?_
              refine mv rfl rfl ?_
              refine apz (zs := [.string ⟨#[]⟩, .int .i8 0, .pointer none, .map none]) (m := (lT x0_2.1).length) Tryz.underlying139 Tryz.underlying21 I173 rfl rfl rfl (by omega) (by omega) (by have h9 := hnb0_2; unfold BR at h9; omega) (by have h9 := hnb0_2; unfold BR at h9; unfold maxLen; omega) rfl (fun g110 cp110 N110 r110 => ?_)
              refine asg rfl rfl ?_
              refine nN ?_
              refine drN (.tail .head) ?_
              refine fun a_ w_ hA hw => ⟨_, _, _, hA.sub ?_, (Fz.le.refl _), hw, (some ⟨g110, 0, none⟩), cp110, N110, rfl, rfl, r110, (by rw [if_neg (by omega)]; exact (decide_eq_false (by omega)).symm)⟩
              exact (.cons rfl (.cons rfl (.cons rfl (.cons rfl (.cons rfl (.cons rfl (.cons rfl (.cons rfl (.cons rfl (.cons rfl (.cons rfl (.cons rfl (.nil _)))))))))))))
            · skip
              refine skN ?_
              refine fun a_ w_ hA hw => ⟨_, _, _, hA.sub ?_, (Fz.le.refl _), hw, none, 0, [], rfl, rfl, (by rw [show (lT x0_2.1).length = 0 by omega]; exact (Row.nil _ _)), (by rw [if_neg (by omega)]; exact (decide_eq_true (by omega)).symm)⟩
              exact (.cons rfl (.cons rfl (.cons rfl (.cons rfl (.cons rfl (.cons rfl (.cons rfl (.cons rfl (.cons rfl (.cons rfl (.cons (by rw [show (lT x0_2.1).length = 0 by omega]; rfl) (.cons rfl (.nil _)))))))))))))
          · skip
            obtain ⟨a0_2, c0_2, Nr0_2, rfl, rfl, pj0, pj1⟩ := hI
            have hr0_2 := pj0
            have hi0_2 := pj1
            refine sq ?_
            refine sr ?_
            refine asg rfl rfl ?_
            refine nl ?_
            refine bl (lp ((lT x0_2.1).length) (fun k0_2 l' H' L' => ∃ (es0_2 : List (KE 4)) (M0_2 RN0_2 : Chunk), [(2, .bool false), (7, .pointer (some ⟨b_1, 0, none⟩)), (9, .bool (decide ((1 : Int) ≤ v))), (10, .pointer (some ⟨b, 0, none⟩)), (11, .slice none 0 0), (12, .slice a0 (lT x0.1).length c0), (13, .int .i32 (rArr true ⟨s, false, !a.isNone⟩).1), (14, .int .i32 (k0 : Int)), (16, .pointer (some ⟨g0, 0 + k0 * 4, none⟩)), (21, .slice none 0 0), (22, .slice a0_2 (lT x0_2.1).length c0_2), (23, .int .i32 (rArr true x0_1.2).1), (24, .int .i32 (k0_2 : Int))] = l' ∧ M0_2 :: RN0_2 :: [(g0, .cells ((es0.flatMap fk) ++ ([.int .i8 (IntKind.i8.wrap x0_0.1.n), .string ⟨x0_1.1.s.toArray⟩, .slice none 0 0, .map none] : List Value) ++ po0).toArray 141 (0, 0))] :: [(b, .cells [.int .i16 v, .slice none 0 0, .bool false, .map none].toArray 134 (0, 0))] :: L = L' ∧ RdAt H' 144 b_1 (rMany (decV 10 (decP fs_sIncrementalAlterConfigsRequestResourceConfig v true) false true) k0_2 (rArr true x0_1.2).2).2 RN0_2 ∧ Row 173 4 a0_2 (lT x0_2.1).length c0_2 (es0_2.flatMap fk ++ reps [.string ⟨#[]⟩, .int .i8 0, .pointer none, .map none] ((lT x0_2.1).length - k0_2)) M0_2 ∧ es0_2.map (·.2) = (rMany (decV 10 (decP fs_sIncrementalAlterConfigsRequestResourceConfig v true) false true) k0_2 (rArr true x0_1.2).2).1 ∧ ∀ p ∈ es0_2, At_IncrementalAlterConfigsRequestResourceConfig H' p.2 (fk p)) [(2, .bool false), (7, .pointer (some ⟨b_1, 0, none⟩)), (9, .bool (decide ((1 : Int) ≤ v))), (10, .pointer (some ⟨b, 0, none⟩)), (11, .slice none 0 0), (12, .slice a0 (lT x0.1).length c0), (13, .int .i32 (rArr true ⟨s, false, !a.isNone⟩).1), (14, .int .i32 (k0 : Int)), (16, .pointer (some ⟨g0, 0 + k0 * 4, none⟩)), (21, .slice none 0 0), (22, .slice a0_2 (lT x0_2.1).length c0_2), (23, .int .i32 (rArr true x0_1.2).1), (24, .int .i32 (0 : Int))] (.cons rfl (.cons rfl (.cons rfl (.cons rfl (.cons rfl (.cons rfl (.cons rfl (.cons rfl (.cons rfl (.cons rfl (.cons rfl (.cons rfl (.cons rfl (.nil _)))))))))))))) ⟨[], Nr0_2, _, rfl, rfl, (hR99.mono le_6), hr0_2, rfl, (fun p hp => by cases hp)⟩ (fun k0_2 l' H' L' hk0_2 le_7 hI => ?_))
            obtain ⟨es0_2, M0_2, RN0_2, rfl, rfl, hR_0_2, hw_0_2, he_0_2, hg_0_2⟩ := hI
            have hs_0_2 := els_len he_0_2
            have hp_0_2 : (es0_2.flatMap fk).length = k0_2 * 4 := els_flat hs_0_2
            refine sq ?_
            refine sr ?_
            refine mv rfl rfl ?_
            refine mv rfl rfl ?_
            refine lt rfl rfl rfl ?_
            refine nl ?_
            refine cd rfl (fun h113 => ?_) (fun h113 => ?_)
            · skip
              have hkl0_2 : k0_2 < (lT x0_2.1).length := by omega
              obtain ⟨g0_2, po0_2, hga0_2, rfl, hbk0_2⟩ := hw_0_2.next (zs := [.string ⟨#[]⟩, .int .i8 0, .pointer none, .map none]) hkl0_2 rfl (by decide)
              have ho0_2 : 0 + k0_2 * 4 = (es0_2.flatMap fk).length := by rw [hp_0_2]; omega
              have hbz0_2 : ((decV 10 (decP fs_sIncrementalAlterConfigsRequestResourceConfig v true) false true) (rMany (decV 10 (decP fs_sIncrementalAlterConfigsRequestResourceConfig v true) false true) k0_2 (rArr true x0_1.2).2).2).2.bad = true → (decP fs_IncrementalAlterConfigsRequest v true ⟨s, false, !a.isNone⟩).2.bad = true := fun h => hB0_2 (by rw [ex0_2]; exact rMany_mono (fun r h => decV_bad (fun r h => decP_bad _ _ _ r h) h) _ (show k0_2 + 1 ≤ (lT x0_2.1).length from hkl0_2) (by rw [rMany_succ]; exact h))
              have hLk0_2 : (rMany (decV 10 (decP fs_sIncrementalAlterConfigsRequestResourceConfig v true) false true) k0_2 (rArr true x0_1.2).2).2.s.length ≤ BR := Nat.le_trans (rMany_shr (fun r => decV_shr (fun r => decP_shr _ _ _ r) r) _ _) hm0_2
              have hL0_2__ := hLk0_2
              obtain ⟨x0_2_0, hx0_2_0⟩ : ∃ x, x = stepF (Fd.mk 8 0 (-1) (-1) (-1) 0 0 []) v true (rMany (decV 10 (decP fs_sIncrementalAlterConfigsRequestResourceConfig v true) false true) k0_2 (rArr true x0_1.2).2).2 := ⟨_, rfl⟩
              obtain ⟨x0_2_1, hx0_2_1⟩ : ∃ x, x = stepF (Fd.mk 1 0 (-1) (-1) (-1) 0 0 []) v true x0_2_0.2 := ⟨_, rfl⟩
              obtain ⟨x0_2_2, hx0_2_2⟩ : ∃ x, x = stepF (Fd.mk 8 0 (-1) 0 (-1) 0 0 []) v true x0_2_1.2 := ⟨_, rfl⟩
              obtain ⟨u0_2_, hu0_2_⟩ : ∃ x, x = tailU true x0_2_2.2 := ⟨_, rfl⟩
              have hD0_2_ : decP fs_sIncrementalAlterConfigsRequestResourceConfig v true (rMany (decV 10 (decP fs_sIncrementalAlterConfigsRequestResourceConfig v true) false true) k0_2 (rArr true x0_1.2).2).2 = (.mk 0 [] false [x0_2_0.1, x0_2_1.1, x0_2_2.1] u0_2_.1, u0_2_.2) := by
                generalize ((rMany (decV 10 (decP fs_sIncrementalAlterConfigsRequestResourceConfig v true) false true) k0_2 (rArr true x0_1.2).2).2 : Rd) = r_ at hx0_2_0 ⊢
                rw [decP_eq]; unfold fs_sIncrementalAlterConfigsRequestResourceConfig; simp only [decFs_cons, decFs_nil, ← hx0_2_0, ← hx0_2_1, ← hx0_2_2, ← hu0_2_]
              have hL0_2_0 : x0_2_0.2.s.length ≤ BR := by rw [hx0_2_0]; exact Nat.le_trans (stepF_shr _ _ _ _) hL0_2__
              have hL0_2_1 : x0_2_1.2.s.length ≤ BR := by rw [hx0_2_1]; exact Nat.le_trans (stepF_shr _ _ _ _) hL0_2_0
              have hL0_2_2 : x0_2_2.2.s.length ≤ BR := by rw [hx0_2_2]; exact Nat.le_trans (stepF_shr _ _ _ _) hL0_2_1
              have hE0_2_ : u0_2_.2.bad = true → (decP fs_IncrementalAlterConfigsRequest v true ⟨s, false, !a.isNone⟩).2.bad = true := fun h => hbz0_2 (by show (decP fs_sIncrementalAlterConfigsRequestResourceConfig v true (rMany (decV 10 (decP fs_sIncrementalAlterConfigsRequestResourceConfig v true) false true) k0_2 (rArr true x0_1.2).2).2).2.bad = true; rw [hD0_2_]; exact h)
              have hB0_2_2 : x0_2_2.2.bad = true → (decP fs_IncrementalAlterConfigsRequest v true ⟨s, false, !a.isNone⟩).2.bad = true := fun h => hE0_2_ (by rw [hu0_2_]; exact tailU_bad h)
              have hB0_2_1 : x0_2_1.2.bad = true → (decP fs_IncrementalAlterConfigsRequest v true ⟨s, false, !a.isNone⟩).2.bad = true := fun h => hB0_2_2 (by rw [hx0_2_2]; exact step_bad h)
              have hB0_2_0 : x0_2_0.2.bad = true → (decP fs_IncrementalAlterConfigsRequest v true ⟨s, false, !a.isNone⟩).2.bad = true := fun h => hB0_2_1 (by rw [hx0_2_1]; exact step_bad h)
              refine skt ?_
              refine sq ?_
              refine bl ?_
              refine sr ?_
              refine mv rfl rfl ?_
              refine mv rfl rfl ?_
              refine ixk (j := k0_2) Tryz.runUnderlying139 Tryz.sizeOf173 rfl hga0_2 rfl rfl hkl0_2 rfl ?_
              refine asg rfl rfl ?_
              refine nl ?_
              refine sr ?_
              refine mv rfl rfl ?_
              refine cl rfl rfl rfl (def_IncrementalAlterConfigsRequestResourceConfig ho0_2) rfl (fun v_ H1 L1 hle_ hR_ => ?_)
              obtain ⟨rfl, rfl⟩ := hR_
              refine nl ?_
              refine sr ?_
              refine mv rfl rfl ?_
              refine asg rfl rfl ?_
              refine nl ?_
              refine sq ?_
              refine sr ?_
              refine asg rfl rfl ?_
              refine nl ?_
              refine sq ?_
              refine sr ?_
              refine mv rfl rfl ?_
              refine nl ?_
              refine cF rfl ?_
              refine sr ?_
              refine mv rfl rfl ?_
              refine nl ?_
              refine cdT rfl (by omega) ?_
              refine rg ?_
              refine tf (.tail .head) ?_
              have ex0_2_0 : x0_2_0 = decV 8 (decP [] v true) false true (rMany (decV 10 (decP fs_sIncrementalAlterConfigsRequestResourceConfig v true) false true) k0_2 (rArr true x0_1.2).2).2 := (hx0_2_0.trans (step_yes (by decide) (show (0 : Int) ≤ v by omega) (Or.inl (by decide)))).trans (decF'_val (by decide) (rfl))
              refine cl rfl rfl rfl (d8t hR_0_2 ex0_2_0) rfl (fun v_ H1 L1 le_8 hR_ => ?_)
              obtain ⟨N127, rfl, hR127, rfl, rfl⟩ := hR_
              refine asg rfl rfl ?_
              refine nl ?_
              refine rg ?_
              refine mv rfl rfl ?_
              refine mv rfl rfl ?_
              refine nc rfl rfl ?_
              refine fa F173_0 rfl rfl ?_
              refine stM (off := 0) Tryz.sizeOf9 rfl (by rw [ho0_2]) rfl rfl rfl (.tail .head) ?_
              refine nl ?_
              refine sq ?_
              refine sr ?_
              refine asg rfl rfl ?_
              refine nl ?_
              refine sq ?_
              refine sr ?_
              have ex0_2_1 : x0_2_1 = decV 1 (decP [] v true) false true x0_2_0.2 := (hx0_2_1.trans (step_yes (by decide) (show (0 : Int) ≤ v by omega) (Or.inl (by decide)))).trans (decF'_val (by decide) (rfl))
              refine cl rfl rfl rfl (d1 hR127 ex0_2_1) rfl (fun v_ H1 L1 hle_ hR_ => ?_)
              obtain ⟨N133, rfl, hR133, rfl, rfl⟩ := hR_
              refine asg rfl rfl ?_
              refine nl ?_
              refine rg ?_
              refine mv rfl rfl ?_
              refine asg rfl rfl ?_
              refine nl ?_
              refine sr ?_
              refine mv rfl rfl ?_
              refine asg rfl rfl ?_
              refine nl ?_
              refine rg ?_
              refine mv rfl rfl ?_
              refine mv rfl rfl ?_
              refine nc rfl rfl ?_
              refine fa F173_1 rfl rfl ?_
              refine stM (off := 1) Tryz.sizeOf171 rfl (by rw [ho0_2]) rfl rfl rfl (.tail .head) ?_
              refine nl ?_
              refine sq ?_
              refine sr ?_
              refine asg rfl rfl ?_
              refine nl ?_
              refine sq ?_
              refine sr ?_
              refine mv rfl rfl ?_
              refine nl ?_
              refine cdT rfl (by omega) ?_
              refine sr ?_
              refine mv rfl rfl ?_
              refine nl ?_
              refine cF rfl ?_
              refine rg ?_
              have ex0_2_2 : x0_2_2 = decV 8 (decP [] v true) true true x0_2_1.2 := (hx0_2_2.trans (step_yes (by decide) (show (0 : Int) ≤ v by omega) (Or.inl (by decide)))).trans (decF'_val (by decide) (by simp only [Bool.and_eq_true, decide_eq_true_eq]; exact ⟨show (0 : Int) ≤ 0 by decide, show (0 : Int) ≤ v by omega⟩))
              refine cl rfl rfl rfl (d8tn hR133 ex0_2_2) rfl (fun v_ H1 L1 le_10 hR_ => ?_)
              obtain ⟨N143, rfl, hR143, p0_2_2, rfl, hf0_2_2⟩ := hR_
              refine asg rfl rfl ?_
              refine nl ?_
              refine rg ?_
              refine mv rfl rfl ?_
              refine mv rfl rfl ?_
              refine nc rfl rfl ?_
              refine fa F173_2 rfl rfl ?_
              refine stM (off := 2) Tryz.sizeOf114 rfl (by rw [ho0_2]) rfl rfl rfl (.tail .head) ?_
              refine nl ?_
              refine sr ?_
              refine mv rfl rfl ?_
              refine nl ?_
              refine cdT rfl (by omega) ?_
              refine rg ?_
              refine mv rfl rfl ?_
              refine cl rfl rfl rfl (d_tags hR143) rfl (fun v_ H1 L1 le_11 hR_ => ?_)
              obtain ⟨N153, rfl, hR153, m0_2_t, rfl, hft0_2_⟩ := hR_
              have hu20_2_ : u0_2_ = rTags x0_2_2.2 := hu0_2_
              rw [← hu20_2_] at hR153 hft0_2_
              refine nc rfl rfl ?_
              refine fa F173_3 rfl rfl ?_
              refine saM (off := 3) Tryz.sizeOf86 rfl (by rw [ho0_2]) rfl rfl rfl rfl (.tail .head) ?_
              refine nN ?_
              refine Nb ?_
              refine Nt ?_
              refine rg ?_
              refine mv rfl rfl ?_
              refine ad rfl rfl (c := ((k0_2 + 1 : Nat) : Int)) ((wrap32_le (by omega) (by omega)).trans (by omega)) rfl ?_
              refine asg rfl rfl ?_
              refine nN ?_
              have hfs0_2 := flatMap_snoc' fk es0_2 ((⟨([.string ⟨x0_2_0.1.s.toArray⟩, .int .i8 (IntKind.i8.wrap x0_2_1.1.n), .pointer p0_2_2, .map m0_2_t] : List Value), rfl, all_one rfl⟩, ((decV 10 (decP fs_sIncrementalAlterConfigsRequestResourceConfig v true) false true) (rMany (decV 10 (decP fs_sIncrementalAlterConfigsRequestResourceConfig v true) false true) k0_2 (rArr true x0_1.2).2).2).1) : KE 4)
              have hrw0_2 := hbk0_2 ([.string ⟨x0_2_0.1.s.toArray⟩, .int .i8 (IntKind.i8.wrap x0_2_1.1.n), .pointer p0_2_2, .map m0_2_t] : List Value) rfl
              refine tfN (.tail .head) ?_
              refine fun a_ w_ hA hw => ⟨hkl0_2, _, _, _, hA.sub ?_, (le_7.trans (le_10.trans le_11)), hw, _, _, _, rfl, rfl, (by rw [rMany_succ]; show RdAt _ 144 b_1 (decP fs_sIncrementalAlterConfigsRequestResourceConfig v true (rMany (decV 10 (decP fs_sIncrementalAlterConfigsRequestResourceConfig v true) false true) k0_2 (rArr true x0_1.2).2).2).2 _; rw [hD0_2_]; exact hR153), (by rw [← hfs0_2]; exact hrw0_2), (dec_els he_0_2), (fun p hp => (mem_snoc hp).elim (fun h => At_IncrementalAlterConfigsRequestResourceConfig.mono _ _ _ _ (le_10.trans le_11) (hg_0_2 p h)) (fun h => h ▸ (by show At_IncrementalAlterConfigsRequestResourceConfig _ (decP fs_sIncrementalAlterConfigsRequestResourceConfig v true (rMany (decV 10 (decP fs_sIncrementalAlterConfigsRequestResourceConfig v true) false true) k0_2 (rArr true x0_1.2).2).2).1 [.string ⟨x0_2_0.1.s.toArray⟩, .int .i8 (IntKind.i8.wrap x0_2_1.1.n), .pointer p0_2_2, .map m0_2_t]; rw [hD0_2_]; exact ⟨p0_2_2, m0_2_t, rfl, (hf0_2_2.mono le_11), hft0_2_⟩)))⟩
              exact (.cons rfl (.cons rfl (.cons rfl (.cons rfl (.cons rfl (.cons rfl (.cons rfl (.cons rfl (.cons rfl (.cons rfl (.cons rfl (.cons rfl (.cons rfl (.nil _))))))))))))))
            · skip
              have hkn_ : k0_2 = (lT x0_2.1).length := by omega
              subst hkn_
              have hw2_0_2 : Row 173 4 a0_2 (lT x0_2.1).length c0_2 (es0_2.flatMap fk) M0_2 := by have h := hw_0_2; rw [Nat.sub_self] at h; simpa [reps] using h
              refine frW hw2_0_2 .head (fun Hf0_2 hlf0_2 hfz0_2 => ?_)
              have hrs0_2 := RowsAt.row (R := At_IncrementalAlterConfigsRequestResourceConfig) hfz0_2 hs_0_2.symm hw2_0_2.le.1 (fun p hp => At_IncrementalAlterConfigsRequestResourceConfig.mono _ _ _ _ hlf0_2 (hg_0_2 p hp))
              rw [he_0_2] at hrs0_2
              have hf0_2 : ListAt Hf0_2 x0_2.1 4 At_IncrementalAlterConfigsRequestResourceConfig a0_2 c0_2 := by rw [ex0_2]; exact listAt_of hrs0_2 hi0_2 (fun h => by have h1 := nul_le h; rw [show (lT x0_2.1).length = 0 by omega]; rfl)
              have hRx0_2 : RdAt Hf0_2 144 b_1 x0_2.2 RN0_2 := by rw [ex0_2]; exact (hR_0_2.mono hlf0_2)
              refine exX ?_
              refine XT ?_
              refine XT ?_
              refine Xb ?_
              refine Nt ?_
              refine sr ?_
              refine mv rfl rfl ?_
              refine asg rfl rfl ?_
              refine nl ?_
              refine rg ?_
              refine mv rfl rfl ?_
              refine mv rfl rfl ?_
              refine nc rfl rfl ?_
              refine fa F141_2 rfl rfl ?_
              refine stM (off := 2) Tryz.sizeOf139 rfl (by rw [ho0]) rfl rfl rfl (.tail .head) ?_
              refine nl ?_
              refine sr ?_
              refine mv rfl rfl ?_
              refine nl ?_
              refine cdT rfl (by omega) ?_
              refine rg ?_
              refine mv rfl rfl ?_
              refine cl rfl rfl rfl (d_tags hRx0_2) rfl (fun v_ H1 L1 le_12 hR_ => ?_)
              obtain ⟨N163, rfl, hR163, m0_t, rfl, hft0_⟩ := hR_
              have hu20_ : u0_ = rTags x0_2.2 := hu0_
              rw [← hu20_] at hR163 hft0_
              refine nc rfl rfl ?_
              refine fa F141_3 rfl rfl ?_
              refine saM (off := 3) Tryz.sizeOf86 rfl (by rw [ho0]) rfl rfl rfl rfl (.tail .head) ?_
              refine nN ?_
              refine Nb ?_
              refine Nt ?_
              refine rg ?_
              refine mv rfl rfl ?_
              refine ad rfl rfl (c := ((k0 + 1 : Nat) : Int)) ((wrap32_le (by omega) (by omega)).trans (by omega)) rfl ?_
              refine asg rfl rfl ?_
              refine nN ?_
              have hfs0 := flatMap_snoc' fk es0 ((⟨([.int .i8 (IntKind.i8.wrap x0_0.1.n), .string ⟨x0_1.1.s.toArray⟩, .slice a0_2 (lT x0_2.1).length c0_2, .map m0_t] : List Value), rfl, all_one rfl⟩, ((decV 10 (decP fs_sIncrementalAlterConfigsRequestResource v true) false true) (rMany (decV 10 (decP fs_sIncrementalAlterConfigsRequestResource v true) false true) k0 (rArr true ⟨s, false, !a.isNone⟩).2).2).1) : KE 4)
              have hrw0 := hbk0 ([.int .i8 (IntKind.i8.wrap x0_0.1.n), .string ⟨x0_1.1.s.toArray⟩, .slice a0_2 (lT x0_2.1).length c0_2, .map m0_t] : List Value) rfl
              refine tfN (.tail .head) ?_
              refine fun a_ w_ hA hw => ⟨hkl0, _, _, _, hA.sub ?_, (le_3.trans (le_6.trans (le_7.trans (hlf0_2.trans le_12)))), hw, _, _, _, rfl, rfl, (by rw [rMany_succ]; show RdAt _ 144 b_1 (decP fs_sIncrementalAlterConfigsRequestResource v true (rMany (decV 10 (decP fs_sIncrementalAlterConfigsRequestResource v true) false true) k0 (rArr true ⟨s, false, !a.isNone⟩).2).2).2 _; rw [hD0_]; exact hR163), (by rw [← hfs0]; exact hrw0), (dec_els he_0), (fun p hp => (mem_snoc hp).elim (fun h => At_IncrementalAlterConfigsRequestResource.mono _ _ _ _ (le_6.trans (le_7.trans (hlf0_2.trans le_12))) (hg_0 p h)) (fun h => h ▸ (by show At_IncrementalAlterConfigsRequestResource _ (decP fs_sIncrementalAlterConfigsRequestResource v true (rMany (decV 10 (decP fs_sIncrementalAlterConfigsRequestResource v true) false true) k0 (rArr true ⟨s, false, !a.isNone⟩).2).2).1 [.int .i8 (IntKind.i8.wrap x0_0.1.n), .string ⟨x0_1.1.s.toArray⟩, .slice a0_2 (lT x0_2.1).length c0_2, .map m0_t]; rw [hD0_]; exact ⟨a0_2, c0_2, m0_t, rfl, (hf0_2.mono At_IncrementalAlterConfigsRequestResourceConfig.mono le_12), hft0_⟩)))⟩
              exact (.cons rfl (.cons rfl (.cons rfl (.cons rfl (.cons rfl (.cons rfl (.cons rfl (.cons rfl (.nil _)))))))))
      · skip
        have hkn_ : k0 = (lT x0.1).length := by omega
        subst hkn_
        have hw2_0 : Row 141 4 a0 (lT x0.1).length c0 (es0.flatMap fk) M0 := by have h := hw_0; rw [Nat.sub_self] at h; simpa [reps] using h
        refine frW hw2_0 .head (fun Hf0 hlf0 hfz0 => ?_)
        have hrs0 := RowsAt.row (R := At_IncrementalAlterConfigsRequestResource) hfz0 hs_0.symm hw2_0.le.1 (fun p hp => At_IncrementalAlterConfigsRequestResource.mono _ _ _ _ hlf0 (hg_0 p hp))
        rw [he_0] at hrs0
        have hf0 : ListAt Hf0 x0.1 4 At_IncrementalAlterConfigsRequestResource a0 c0 := by rw [ex0]; exact listAt_of hrs0 hi0 (fun h => by have h1 := nul_le h; rw [show (lT x0.1).length = 0 by omega]; rfl)
        have hRx0 : RdAt Hf0 144 b_1 x0.2 RN0 := by rw [ex0]; exact (hR_0.mono hlf0)
        refine exX ?_
        refine XT ?_
        refine XT ?_
        refine Xb ?_
        refine Nt ?_
        refine sr ?_
        refine mv rfl rfl ?_
        refine asg rfl rfl ?_
        refine nl ?_
        refine rg ?_
        refine mv rfl rfl ?_
        refine mv rfl rfl ?_
        refine nc rfl rfl ?_
        refine fa0 F134_1 rfl rfl ?_
        refine st Tryz.sizeOf132 rfl rfl rfl rfl (.tail .head) ?_
        refine nl ?_
        refine sq ?_
        refine sr ?_
        have ex1 : x1 = decV 0 (decP [] v true) false true x0.2 := (hx1.trans (step_yes (by decide) (show (0 : Int) ≤ v by omega) (Or.inl (by decide)))).trans (decF'_val (by decide) (rfl))
        refine cl rfl rfl rfl (d0 hRx0 ex1) rfl (fun v_ H1 L1 hle_ hR_ => ?_)
        obtain ⟨N171, rfl, hR171, rfl, rfl⟩ := hR_
        refine asg rfl rfl ?_
        refine nl ?_
        refine rg ?_
        refine mv rfl rfl ?_
        refine mv rfl rfl ?_
        refine nc rfl rfl ?_
        refine fa0 F134_2 rfl rfl ?_
        refine st Tryz.sizeOf4 rfl rfl rfl rfl (.tail .head) ?_
        refine nl ?_
        refine sq ?_
        refine sr ?_
        refine mv rfl rfl ?_
        refine nl ?_
        refine cdT rfl (by omega) ?_
        refine rg ?_
        refine mv rfl rfl ?_
        refine cl rfl rfl rfl (d_tags hR171) rfl (fun v_ H1 L1 le_14 hR_ => ?_)
        obtain ⟨N178, rfl, hR178, mt, rfl, hft⟩ := hR_
        have hu2 : u = rTags x1.2 := hu
        rw [← hu2] at hR178 hft
        refine nc rfl rfl ?_
        refine fa0 F134_3 rfl rfl ?_
        refine sa Tryz.sizeOf86 rfl rfl rfl rfl rfl (.tail .head) ?_
        refine nl ?_
        refine sr ?_
        refine cl rfl rfl rfl (r_complete hR178 (he.mono (le_2.trans (le_3.trans (hlf0.trans le_14))))) rfl (fun v_ H1 L1 hle_ hR_ => ?_)
        obtain ⟨rfl, rfl, rfl⟩ := hR_
        refine asg rfl rfl ?_
        refine nl ?_
        refine drW .head ?_
        have hA_ := (show At_IncrementalAlterConfigsRequest v _ (decP fs_IncrementalAlterConfigsRequest v true _).1 [.int .i16 v, .slice a0 (lT x0.1).length c0, .bool (decide (x1.1.n % 2 = 1)), .map mt] from (by rw [hD]; exact ⟨a0, c0, mt, rfl, (hf0.mono At_IncrementalAlterConfigsRequestResource.mono le_14), hft⟩))
        refine rT rfl rfl (le_2.trans (le_3.trans (hlf0.trans le_14))) (fun _ _ h => h) ⟨_, rfl, ?_⟩
        have hz := RdEnd.of (e := e) hA_
        rw [show (decP fs_IncrementalAlterConfigsRequest v true _).2.bad = u.2.bad by rw [hD]] at hz
        exact hz
end Go.Sx

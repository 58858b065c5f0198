import Derived.Test.YthgkgbaggjongaaGreatDoorSxTab
import Derived.Test.YthgkgbaggjongaaGreatDoorBDeleteACLsResponse
import Derived.Test.YthgkgbaggjongaaGreatDoorRK2
import Derived.KernelRfl
set_option linter.unusedVariables false
set_option linter.unusedSimpArgs false
set_option maxRecDepth 100000
set_option maxHeartbeats 20000000
namespace Go.Sx
open Go.Proofs
theorem def_DeleteACLsResponseResultMatchingACL {H : Fz} {L : Own} {b o : Nat} {pre post : List Value} {c0 c1 c2 c3 c4 c5 c6 c7 c8 c9 : Value} (ho : o = pre.length) :
    Fn Tryz.prog 235 [.pointer (some ⟨b, o, none⟩)] H ([(b, .cells (pre ++ ([c0, c1, c2, c3, c4, c5, c6, c7, c8, c9] : List Value) ++ post).toArray 257 (0, 0))] :: L) (fun _ H' L' => H = H' ∧ L' = [(b, .cells (pre ++ ([c0, c1, c2, c3, .int .i8 3, c5, c6, c7, c8, c9] : List Value) ++ post).toArray 257 (0, 0))] :: L) := by
  refine Fn.mk Tryz.call235 Tryz.func235 rfl Tryz.ntmps235 rfl ?_
  refine rg ?_
  refine mv rfl rfl ?_
  refine nc rfl rfl ?_
  refine fa F257_4 rfl rfl ?_
  refine stM (off := 4) Tryz.sizeOf253 rfl (by rw [ho]) rfl rfl rfl .head ?_
  refine nN ?_
  exact fun _ _ hA hw => rn rfl (Fz.le.refl _) ⟨rfl, rfl⟩ hA hw
theorem def_DeleteACLsResponseResult {H : Fz} {L : Own} {b o : Nat} {pre post : List Value} {c0 c1 c2 c3 : Value} (ho : o = pre.length) :
    Fn Tryz.prog 229 [.pointer (some ⟨b, o, none⟩)] H ([(b, .cells (pre ++ ([c0, c1, c2, c3] : List Value) ++ post).toArray 134 (0, 0))] :: L) (fun _ H' L' => H = H' ∧ L' = [(b, .cells (pre ++ ([c0, c1, c2, c3] : List Value) ++ post).toArray 134 (0, 0))] :: L) := by
  refine Fn.mk Tryz.call229 Tryz.func229 rfl Tryz.ntmps229 rfl ?_
  refine skN ?_
  exact fun _ _ hA hw => rn rfl (Fz.le.refl _) ⟨rfl, rfl⟩ hA hw
theorem def0_DeleteACLsResponse {H : Fz} {L : Own} {b : Nat} {c0 c1 c2 c3 : Value} :
    Fn Tryz.prog 150 [.pointer (some ⟨b, 0, none⟩)] H ([(b, .cells [c0, c1, c2, c3].toArray 128 (0, 0))] :: L) (fun _ H' L' => H = H' ∧ L' = [(b, .cells [c0, c1, c2, c3].toArray 128 (0, 0))] :: L) := by
  refine Fn.mk Tryz.call150 Tryz.func150 rfl Tryz.ntmps150 rfl ?_
  refine skN ?_
  exact fun _ _ hA hw => rn rfl (Fz.le.refl _) ⟨rfl, rfl⟩ hA hw
theorem rd_DeleteACLsResponse_f {H : Fz} {L : Own} {b : Nat} {v : Int} {a : Option Addr} {c : Nat} {s : List UInt8} {e : Value} (hB : BytesAt H a c s) (hL_ : s.length ≤ BR) (he : H.at 1 0 [e]) (hv0 : 0 ≤ v) (hv1 : v ≤ 1) :
    Fn Tryz.prog 152 [.pointer (some ⟨b, 0, none⟩), .slice a s.length c, .bool false] H ([(b, .cells [.int .i16 v, .int .i32 0, .slice none 0 0, .map none].toArray 128 (0, 0))] :: L) (fun r H' L' => ∃ cs : List Value, L' = [(b, .cells cs.toArray 128 (0, 0))] :: L ∧ RdEnd H' (At_DeleteACLsResponse v) (decP fs_DeleteACLsResponse v false ⟨s, false, !a.isNone⟩) e r cs) := by
  refine Fn.mk Tryz.call152 Tryz.func152 rfl Tryz.ntmps152 rfl ?_
  refine sr ?_
  refine asg rfl rfl ?_
  refine nl ?_
  refine sr ?_
  refine mv rfl rfl ?_
  refine cl rfl rfl rfl def0_DeleteACLsResponse rfl (fun v_ H1 L1 hle_ hR_ => ?_)
  obtain ⟨rfl, rfl⟩ := hR_
  refine nl ?_
  refine sr ?_
  refine mv rfl rfl ?_
  refine bd' S232 rfl rfl rfl ?_
  refine al Tryz.zeroValue232 rfl rfl (fun b_1 => ?_)
  refine sa Tryz.sizeOf232 rfl rfl rfl rfl rfl .head ?_
  have hR0_ : RdAt H 232 b_1 ⟨s, false, !a.isNone⟩ [(b_1, .cells [_, _].toArray 232 (0, 0))] := ⟨a, c, rfl, hB, by simp⟩
  obtain ⟨x0, hx0⟩ : ∃ x, x = stepF (Fd.mk 3 0 (-1) (-1) (-1) 0 0 []) v false ⟨s, false, !a.isNone⟩ := ⟨_, rfl⟩
  obtain ⟨x1, hx1⟩ : ∃ x, x = stepF (Fd.mk 11 0 (-1) (-1) (-1) 0 10 fs_sDeleteACLsResponseResult) v false x0.2 := ⟨_, rfl⟩
  obtain ⟨u, hu⟩ : ∃ x, x = tailU false x1.2 := ⟨_, rfl⟩
  have hD : decP fs_DeleteACLsResponse v false ⟨s, false, !a.isNone⟩ = (.mk 0 [] false [x0.1, x1.1] u.1, u.2) := by
    generalize (⟨s, false, !a.isNone⟩ : Rd) = r_ at hx0 ⊢
    rw [decP_eq]; unfold fs_DeleteACLsResponse; simp only [decFs_cons, decFs_nil, ← hx0, ← hx1, ← hu]
  have hL0 : x0.2.s.length ≤ BR := by rw [hx0]; exact Nat.le_trans (stepF_shr _ _ _ _) hL_
  have hL1 : x1.2.s.length ≤ BR := by rw [hx1]; exact Nat.le_trans (stepF_shr _ _ _ _) hL0
  have hE : u.2.bad = true → (decP fs_DeleteACLsResponse v false ⟨s, false, !a.isNone⟩).2.bad = true := fun h => by rw [hD]; exact h
  have hB1 : x1.2.bad = true → (decP fs_DeleteACLsResponse v false ⟨s, false, !a.isNone⟩).2.bad = true := fun h => hE (by rw [hu]; exact tailU_bad h)
  have hB0 : x0.2.bad = true → (decP fs_DeleteACLsResponse v false ⟨s, false, !a.isNone⟩).2.bad = true := fun h => hB1 (by rw [hx1]; exact step_bad h)
  refine nl ?_
  refine sr ?_
  refine mv rfl rfl ?_
  refine nc rfl rfl ?_
  refine fa0 F128_0 rfl rfl ?_
  refine ld (Says.own (.tail .head)) Tryz.isAgg51 rfl (Nat.zero_add _).symm rfl rfl ?_
  refine asg rfl rfl ?_
  refine nl ?_
  refine sr ?_
  refine mv rfl rfl ?_
  refine nl ?_
  refine sr ?_
  refine mv rfl rfl ?_
  refine ge rfl rfl rfl ?_
  refine asg rfl rfl ?_
  refine nl ?_
  refine sr ?_
  refine mv rfl rfl ?_
  refine nl ?_
  refine sr ?_
  refine mv rfl rfl ?_
  refine asg rfl rfl ?_
  refine nl ?_
  refine sq ?_
  refine sr ?_
  have ex0 : x0 = decV 3 (decP [] v false) false false ⟨s, false, !a.isNone⟩ := (hx0.trans (step_yes (by decide) (show (0 : Int) ≤ v by omega) (Or.inl (by decide)))).trans (decF'_val (by decide) (rfl))
  refine cl rfl rfl rfl (d3 hR0_ ex0) rfl (fun v_ H1 L1 hle_ hR_ => ?_)
  obtain ⟨N56, rfl, hR56, rfl, rfl⟩ := hR_
  refine asg rfl rfl ?_
  refine nl ?_
  refine rg ?_
  refine mv rfl rfl ?_
  refine mv rfl rfl ?_
  refine nc rfl rfl ?_
  refine fa0 F128_1 rfl rfl ?_
  refine st Tryz.sizeOf21 rfl rfl rfl rfl (.tail .head) ?_
  refine nl ?_
  refine sq ?_
  refine sr ?_
  refine mv rfl rfl ?_
  refine nc rfl rfl ?_
  refine fa0 F128_2 rfl rfl ?_
  refine ld (Says.own (.tail .head)) Tryz.isAgg126 rfl (Nat.zero_add _).symm rfl rfl ?_
  refine asg rfl rfl ?_
  refine nl ?_
  refine sr ?_
  refine mv rfl rfl ?_
  refine asg rfl rfl ?_
  refine nl ?_
  refine sr ?_
  refine asg rfl rfl ?_
  refine nl ?_
  refine sq ?_
  refine sr ?_
  refine mv rfl rfl ?_
  refine nl ?_
  refine cdF rfl (by omega) ?_
  refine rg ?_
  have ey1 : x1 = (.mk 0 [] (if 0 ≤ ((-1) : Int) ∧ (v < ((-1) : Int) ∨ (rArr false x0.2).1 = 0) then false else decide ((rArr false x0.2).1 ≤ 0)) (rMany (decV 10 (decP fs_sDeleteACLsResponseResult v false) false false) (rArr false x0.2).1.toNat (rArr false x0.2).2).1 [], (rMany (decV 10 (decP fs_sDeleteACLsResponseResult v false) false false) (rArr false x0.2).1.toNat (rArr false x0.2).2).2) := (hx1.trans (step_yes (by decide) (show (0 : Int) ≤ v by omega) (Or.inl (by decide)))).trans (decF'_list rfl rfl)
  have hn1 : (rArr false x0.2).1.toNat = (lT x1.1).length := by rw [ey1]; exact (lT_many nul_le).symm
  have ex1 := ey1
  rw [hn1] at ex1
  have hl1 := rArr_le false x0.2
  have hm1 : (rArr false x0.2).2.s.length ≤ BR := Nat.le_trans (rArr_len false x0.2) hL0
  have hnb1 : (lT x1.1).length ≤ BR := by omega
  refine cl rfl rfl rfl (r_arrf hR56) rfl (fun v_ H1 L1 hle_ hR_ => ?_)
  obtain ⟨rfl, N68, rfl, hR68, rfl⟩ := hR_
  have hh1 := rArr_hi false x0.2
  refine asg rfl rfl ?_
  refine nl ?_
  refine sq ?_
  refine sr ?_
  refine cl rfl rfl rfl (r_ok hR68) rfl (fun v_ H1 L1 hle_ hR_ => ?_)
  obtain ⟨rfl, rfl, rfl⟩ := hR_
  refine nt rfl rfl ?_
  refine nl ?_
  refine cb rfl (fun h70 => ?_) (fun h70 => ?_)
  · skip
    have hbad_ : (rArr false x0.2).2.bad = true := by simpa using h70
    refine sr ?_
    refine cl rfl rfl rfl (r_complete hR68 he) rfl (fun v_ H1 L1 hle_ hR_ => ?_)
    obtain ⟨rfl, rfl, rfl⟩ := hR_
    refine asg rfl rfl ?_
    refine nl ?_
    refine drW .head ?_
    exact rT rfl rfl (Fz.le.refl _) (fun _ _ h => h) ⟨_, rfl, RdEnd.out (hB1 (by rw [ey1]; exact rMany_bad (fun r h => decV_bad (decP_bad _ _ _) h) _ _ hbad_)) hbad_⟩
  · skip
    refine skt ?_
    refine sr ?_
    refine mv rfl rfl ?_
    refine sh' (j := 0) Tryz.runUnderlying126 Tryz.sizeOf134 rfl rfl rfl (Nat.zero_le _) rfl ?_
    refine asg rfl rfl ?_
    refine nl ?_
    refine sq ?_
    refine sr ?_
    refine mv rfl rfl ?_
    refine gt rfl rfl rfl ?_
    refine nl ?_
    refine nulC2 ?_
    refine cutT (fun l' H' L' => ∃ (a1 : Option Addr), ∃ (c1 : Nat), ∃ (Nr1 : Chunk), [(2, .bool false), (7, .pointer (some ⟨b_1, 0, none⟩)), (8, .int .i16 v), (9, .bool (decide ((2 : Int) ≤ v))), (10, .pointer (some ⟨b, 0, none⟩)), (12, .slice none 0 0), (13, .slice a1 (lT x1.1).length c1), (14, .int .i32 (rArr false x0.2).1)] = l' ∧ Nr1 :: N68 :: [(b, .cells [.int .i16 v, .int .i32 (IntKind.i32.wrap x0.1.n), .slice none 0 0, .map none].toArray 128 (0, 0))] :: L = L' ∧ Row 134 4 a1 (lT x1.1).length c1 (reps [.int .i16 0, .pointer none, .slice none 0 0, .map none] (lT x1.1).length) Nr1 ∧ a1.isNone = (if 0 ≤ ((-1) : Int) ∧ (v < ((-1) : Int) ∨ (rArr false x0.2).1 = 0) then false else decide ((rArr false x0.2).1 ≤ 0))) ?_ (fun l' H' L' le_3 hI => ?_)
    · skip
      refine cd rfl (fun h75 => ?_) (fun h75 => ?_)
      · skip
        refine rg ?_
        refine mv rfl rfl ?_
        refine mv rfl rfl ?_
        refine apz (zs := [.int .i16 0, .pointer none, .slice none 0 0, .map none]) (m := (lT x1.1).length) Tryz.underlying126 Tryz.underlying21 I134 rfl rfl rfl (by omega) (by omega) (by have h9 := hnb1; unfold BR at h9; omega) (by have h9 := hnb1; unfold BR at h9; unfold maxLen; omega) rfl (fun g78 cp78 N78 r78 => ?_)
        refine asg rfl rfl ?_
        refine nN ?_
        refine drN (.tail .head) ?_
        refine fun a_ w_ hA hw => ⟨_, _, _, hA.sub ?_, (Fz.le.refl _), hw, (some ⟨g78, 0, none⟩), cp78, N78, rfl, rfl, r78, (by rw [if_neg (by omega)]; exact (decide_eq_false (by omega)).symm)⟩
        exact (.cons rfl (.cons rfl (.cons rfl (.cons rfl (.cons rfl (.cons rfl (.cons rfl (.cons rfl (.nil _)))))))))
      · skip
        refine skN ?_
        refine fun a_ w_ hA hw => ⟨_, _, _, hA.sub ?_, (Fz.le.refl _), hw, none, 0, [], rfl, rfl, (by rw [show (lT x1.1).length = 0 by omega]; exact (Row.nil _ _)), (by rw [if_neg (by omega)]; exact (decide_eq_true (by omega)).symm)⟩
        exact (.cons rfl (.cons rfl (.cons rfl (.cons rfl (.cons rfl (.cons rfl (.cons (by rw [show (lT x1.1).length = 0 by omega]; rfl) (.cons rfl (.nil _)))))))))
    · skip
      obtain ⟨a1, c1, Nr1, rfl, rfl, pj0, pj1⟩ := hI
      have hr1 := pj0
      have hi1 := pj1
      refine sq ?_
      refine sr ?_
      refine asg rfl rfl ?_
      refine nl ?_
      refine bl (lp ((lT x1.1).length) (fun k1 l' H' L' => ∃ (es1 : List (KE 4)) (M1 RN1 : Chunk), [(2, .bool false), (7, .pointer (some ⟨b_1, 0, none⟩)), (8, .int .i16 v), (9, .bool (decide ((2 : Int) ≤ v))), (10, .pointer (some ⟨b, 0, none⟩)), (12, .slice none 0 0), (13, .slice a1 (lT x1.1).length c1), (14, .int .i32 (rArr false x0.2).1), (15, .int .i32 (k1 : Int))] = l' ∧ M1 :: RN1 :: [(b, .cells [.int .i16 v, .int .i32 (IntKind.i32.wrap x0.1.n), .slice none 0 0, .map none].toArray 128 (0, 0))] :: L = L' ∧ RdAt H' 232 b_1 (rMany (decV 10 (decP fs_sDeleteACLsResponseResult v false) false false) k1 (rArr false x0.2).2).2 RN1 ∧ Row 134 4 a1 (lT x1.1).length c1 (es1.flatMap fk ++ reps [.int .i16 0, .pointer none, .slice none 0 0, .map none] ((lT x1.1).length - k1)) M1 ∧ es1.map (·.2) = (rMany (decV 10 (decP fs_sDeleteACLsResponseResult v false) false false) k1 (rArr false x0.2).2).1 ∧ ∀ p ∈ es1, At_DeleteACLsResponseResult H' p.2 (fk p)) [(2, .bool false), (7, .pointer (some ⟨b_1, 0, none⟩)), (8, .int .i16 v), (9, .bool (decide ((2 : Int) ≤ v))), (10, .pointer (some ⟨b, 0, none⟩)), (12, .slice none 0 0), (13, .slice a1 (lT x1.1).length c1), (14, .int .i32 (rArr false x0.2).1), (15, .int .i32 (0 : Int))] (.cons rfl (.cons rfl (.cons rfl (.cons rfl (.cons rfl (.cons rfl (.cons rfl (.cons rfl (.cons rfl (.nil _)))))))))) ⟨[], Nr1, _, rfl, rfl, (hR68.mono le_3), hr1, rfl, (fun p hp => by cases hp)⟩ (fun k1 l' H' L' hk1 le_4 hI => ?_))
      obtain ⟨es1, M1, RN1, rfl, rfl, hR_1, hw_1, he_1, hg_1⟩ := hI
      have hs_1 := els_len he_1
      have hp_1 : (es1.flatMap fk).length = k1 * 4 := els_flat hs_1
      refine sq ?_
      refine sr ?_
      refine mv rfl rfl ?_
      refine mv rfl rfl ?_
      refine lt rfl rfl rfl ?_
      refine nl ?_
      refine cd rfl (fun h81 => ?_) (fun h81 => ?_)
      · skip
        have hkl1 : k1 < (lT x1.1).length := by omega
        obtain ⟨g1, po1, hga1, rfl, hbk1⟩ := hw_1.next (zs := [.int .i16 0, .pointer none, .slice none 0 0, .map none]) hkl1 rfl (by decide)
        have ho1 : 0 + k1 * 4 = (es1.flatMap fk).length := by rw [hp_1]; omega
        have hbz1 : ((decV 10 (decP fs_sDeleteACLsResponseResult v false) false false) (rMany (decV 10 (decP fs_sDeleteACLsResponseResult v false) false false) k1 (rArr false x0.2).2).2).2.bad = true → (decP fs_DeleteACLsResponse v false ⟨s, false, !a.isNone⟩).2.bad = true := fun h => hB1 (by rw [ex1]; exact rMany_mono (fun r h => decV_bad (fun r h => decP_bad _ _ _ r h) h) _ (show k1 + 1 ≤ (lT x1.1).length from hkl1) (by rw [rMany_succ]; exact h))
        have hLk1 : (rMany (decV 10 (decP fs_sDeleteACLsResponseResult v false) false false) k1 (rArr false x0.2).2).2.s.length ≤ BR := Nat.le_trans (rMany_shr (fun r => decV_shr (fun r => decP_shr _ _ _ r) r) _ _) hm1
        have hL1__ := hLk1
        obtain ⟨x1_0, hx1_0⟩ : ∃ x, x = stepF (Fd.mk 2 0 (-1) (-1) (-1) 0 0 []) v false (rMany (decV 10 (decP fs_sDeleteACLsResponseResult v false) false false) k1 (rArr false x0.2).2).2 := ⟨_, rfl⟩
        obtain ⟨x1_1, hx1_1⟩ : ∃ x, x = stepF (Fd.mk 8 0 (-1) 0 (-1) 0 0 []) v false x1_0.2 := ⟨_, rfl⟩
        obtain ⟨x1_2, hx1_2⟩ : ∃ x, x = stepF (Fd.mk 11 0 (-1) (-1) (-1) 0 10 fs_sDeleteACLsResponseResultMatchingACL) v false x1_1.2 := ⟨_, rfl⟩
        obtain ⟨u1_, hu1_⟩ : ∃ x, x = tailU false x1_2.2 := ⟨_, rfl⟩
        have hD1_ : decP fs_sDeleteACLsResponseResult v false (rMany (decV 10 (decP fs_sDeleteACLsResponseResult v false) false false) k1 (rArr false x0.2).2).2 = (.mk 0 [] false [x1_0.1, x1_1.1, x1_2.1] u1_.1, u1_.2) := by
          generalize ((rMany (decV 10 (decP fs_sDeleteACLsResponseResult v false) false false) k1 (rArr false x0.2).2).2 : Rd) = r_ at hx1_0 ⊢
          rw [decP_eq]; unfold fs_sDeleteACLsResponseResult; simp only [decFs_cons, decFs_nil, ← hx1_0, ← hx1_1, ← hx1_2, ← hu1_]
        have hL1_0 : x1_0.2.s.length ≤ BR := by rw [hx1_0]; exact Nat.le_trans (stepF_shr _ _ _ _) hL1__
        have hL1_1 : x1_1.2.s.length ≤ BR := by rw [hx1_1]; exact Nat.le_trans (stepF_shr _ _ _ _) hL1_0
        have hL1_2 : x1_2.2.s.length ≤ BR := by rw [hx1_2]; exact Nat.le_trans (stepF_shr _ _ _ _) hL1_1
        have hE1_ : u1_.2.bad = true → (decP fs_DeleteACLsResponse v false ⟨s, false, !a.isNone⟩).2.bad = true := fun h => hbz1 (by show (decP fs_sDeleteACLsResponseResult v false (rMany (decV 10 (decP fs_sDeleteACLsResponseResult v false) false false) k1 (rArr false x0.2).2).2).2.bad = true; rw [hD1_]; exact h)
        have hB1_2 : x1_2.2.bad = true → (decP fs_DeleteACLsResponse v false ⟨s, false, !a.isNone⟩).2.bad = true := fun h => hE1_ (by rw [hu1_]; exact tailU_bad h)
        have hB1_1 : x1_1.2.bad = true → (decP fs_DeleteACLsResponse v false ⟨s, false, !a.isNone⟩).2.bad = true := fun h => hB1_2 (by rw [hx1_2]; exact step_bad h)
        have hB1_0 : x1_0.2.bad = true → (decP fs_DeleteACLsResponse v false ⟨s, false, !a.isNone⟩).2.bad = true := fun h => hB1_1 (by rw [hx1_1]; exact step_bad h)
        refine skt ?_
        refine sq ?_
        refine bl ?_
        refine sr ?_
        refine mv rfl rfl ?_
        refine mv rfl rfl ?_
        refine ixk (j := k1) Tryz.runUnderlying126 Tryz.sizeOf134 rfl hga1 rfl rfl hkl1 rfl ?_
        refine asg rfl rfl ?_
        refine nl ?_
        refine sr ?_
        refine mv rfl rfl ?_
        refine cl rfl rfl rfl (def_DeleteACLsResponseResult ho1) rfl (fun v_ H1 L1 hle_ hR_ => ?_)
        obtain ⟨rfl, rfl⟩ := hR_
        refine nl ?_
        refine sr ?_
        refine mv rfl rfl ?_
        refine asg rfl rfl ?_
        refine nl ?_
        refine sq ?_
        refine sr ?_
        refine tf (.tail .head) ?_
        have ex1_0 : x1_0 = decV 2 (decP [] v false) false false (rMany (decV 10 (decP fs_sDeleteACLsResponseResult v false) false false) k1 (rArr false x0.2).2).2 := (hx1_0.trans (step_yes (by decide) (show (0 : Int) ≤ v by omega) (Or.inl (by decide)))).trans (decF'_val (by decide) (rfl))
        refine cl rfl rfl rfl (d2 hR_1 ex1_0) rfl (fun v_ H1 L1 hle_ hR_ => ?_)
        obtain ⟨N90, rfl, hR90, rfl, rfl⟩ := hR_
        refine asg rfl rfl ?_
        refine nl ?_
        refine rg ?_
        refine mv rfl rfl ?_
        refine mv rfl rfl ?_
        refine nc rfl rfl ?_
        refine fa F134_0 rfl rfl ?_
        refine stM (off := 0) Tryz.sizeOf51 rfl (by rw [ho1]) rfl rfl rfl (.tail .head) ?_
        refine nl ?_
        refine sq ?_
        refine sr ?_
        refine asg rfl rfl ?_
        refine nl ?_
        refine sq ?_
        refine sr ?_
        refine mv rfl rfl ?_
        refine nl ?_
        refine cdF rfl (by omega) ?_
        refine sr ?_
        refine mv rfl rfl ?_
        refine nl ?_
        refine cF rfl ?_
        refine rg ?_
        have ex1_1 : x1_1 = decV 8 (decP [] v false) true false x1_0.2 := (hx1_1.trans (step_yes (by decide) (show (0 : Int) ≤ v by omega) (Or.inl (by decide)))).trans (decF'_val (by decide) (by simp only [Bool.and_eq_true, decide_eq_true_eq]; exact ⟨show (0 : Int) ≤ 0 by decide, show (0 : Int) ≤ v by omega⟩))
        refine cl rfl rfl rfl (d8fn hR90 ex1_1) rfl (fun v_ H1 L1 le_6 hR_ => ?_)
        obtain ⟨N101, rfl, hR101, p1_1, rfl, hf1_1⟩ := hR_
        refine asg rfl rfl ?_
        refine nl ?_
        refine rg ?_
        refine mv rfl rfl ?_
        refine mv rfl rfl ?_
        refine nc rfl rfl ?_
        refine fa F134_1 rfl rfl ?_
        refine stM (off := 1) Tryz.sizeOf131 rfl (by rw [ho1]) rfl rfl rfl (.tail .head) ?_
        refine nl ?_
        refine sq ?_
        refine sr ?_
        refine mv rfl rfl ?_
        refine nc rfl rfl ?_
        refine fa F134_2 rfl rfl ?_
        refine ld (j := 2) (off := 0 + k1 * 4) (Says.mid (.tail .head) ho1) Tryz.isAgg132 rfl rfl rfl rfl ?_
        refine asg rfl rfl ?_
        refine nl ?_
        refine sr ?_
        refine mv rfl rfl ?_
        refine asg rfl rfl ?_
        refine nl ?_
        refine sr ?_
        refine asg rfl rfl ?_
        refine nl ?_
        refine sq ?_
        refine sr ?_
        refine mv rfl rfl ?_
        refine nl ?_
        refine cdF rfl (by omega) ?_
        refine rg ?_
        have ey1_2 : x1_2 = (.mk 0 [] (if 0 ≤ ((-1) : Int) ∧ (v < ((-1) : Int) ∨ (rArr false x1_1.2).1 = 0) then false else decide ((rArr false x1_1.2).1 ≤ 0)) (rMany (decV 10 (decP fs_sDeleteACLsResponseResultMatchingACL v false) false false) (rArr false x1_1.2).1.toNat (rArr false x1_1.2).2).1 [], (rMany (decV 10 (decP fs_sDeleteACLsResponseResultMatchingACL v false) false false) (rArr false x1_1.2).1.toNat (rArr false x1_1.2).2).2) := (hx1_2.trans (step_yes (by decide) (show (0 : Int) ≤ v by omega) (Or.inl (by decide)))).trans (decF'_list rfl rfl)
        have hn1_2 : (rArr false x1_1.2).1.toNat = (lT x1_2.1).length := by rw [ey1_2]; exact (lT_many nul_le).symm
        have ex1_2 := ey1_2
        rw [hn1_2] at ex1_2
        have hl1_2 := rArr_le false x1_1.2
        have hm1_2 : (rArr false x1_1.2).2.s.length ≤ BR := Nat.le_trans (rArr_len false x1_1.2) hL1_1
        have hnb1_2 : (lT x1_2.1).length ≤ BR := by omega
        refine cl rfl rfl rfl (r_arrf hR101) rfl (fun v_ H1 L1 hle_ hR_ => ?_)
        obtain ⟨rfl, N113, rfl, hR113, rfl⟩ := hR_
        have hh1_2 := rArr_hi false x1_1.2
        refine asg rfl rfl ?_
        refine nl ?_
        refine sq ?_
        refine sr ?_
        refine cl rfl rfl rfl (r_ok hR113) rfl (fun v_ H1 L1 hle_ hR_ => ?_)
        obtain ⟨rfl, rfl, rfl⟩ := hR_
        refine nt rfl rfl ?_
        refine nl ?_
        refine cb rfl (fun h115 => ?_) (fun h115 => ?_)
        · skip
          have hbad_ : (rArr false x1_1.2).2.bad = true := by simpa using h115
          refine sr ?_
          refine cl rfl rfl rfl (r_complete hR113 (he.mono (le_3.trans (le_4.trans le_6)))) rfl (fun v_ H1 L1 hle_ hR_ => ?_)
          obtain ⟨rfl, rfl, rfl⟩ := hR_
          refine asg rfl rfl ?_
          refine nl ?_
          refine drW .head ?_
          refine drW .head ?_
          exact rT rfl rfl (le_3.trans (le_4.trans le_6)) (fun _ _ h => h) ⟨_, rfl, RdEnd.out (hB1_2 (by rw [ey1_2]; exact rMany_bad (fun r h => decV_bad (decP_bad _ _ _) h) _ _ hbad_)) hbad_⟩
        · skip
          refine skt ?_
          refine sr ?_
          refine mv rfl rfl ?_
          refine sh' (j := 0) Tryz.runUnderlying132 Tryz.sizeOf257 rfl rfl rfl (Nat.zero_le _) rfl ?_
          refine asg rfl rfl ?_
          refine nl ?_
          refine sq ?_
          refine sr ?_
          refine mv rfl rfl ?_
          refine gt rfl rfl rfl ?_
          refine nl ?_
          refine nulC2 ?_
          refine cutT (fun l' H' L' => ∃ (a1_2 : Option Addr), ∃ (c1_2 : Nat), ∃ (Nr1_2 : Chunk), [(2, .bool false), (7, .pointer (some ⟨b_1, 0, none⟩)), (8, .int .i16 v), (9, .bool (decide ((2 : Int) ≤ v))), (10, .pointer (some ⟨b, 0, none⟩)), (12, .slice none 0 0), (13, .slice a1 (lT x1.1).length c1), (14, .int .i32 (rArr false x0.2).1), (15, .int .i32 (k1 : Int)), (17, .pointer (some ⟨g1, 0 + k1 * 4, none⟩)), (20, .slice none 0 0), (21, .slice a1_2 (lT x1_2.1).length c1_2), (22, .int .i32 (rArr false x1_1.2).1)] = l' ∧ Nr1_2 :: N113 :: [(g1, .cells ((es1.flatMap fk) ++ ([.int .i16 (IntKind.i16.wrap x1_0.1.n), .pointer p1_1, .slice none 0 0, .map none] : List Value) ++ po1).toArray 134 (0, 0))] :: [(b, .cells [.int .i16 v, .int .i32 (IntKind.i32.wrap x0.1.n), .slice none 0 0, .map none].toArray 128 (0, 0))] :: L = L' ∧ Row 257 10 a1_2 (lT x1_2.1).length c1_2 (reps [.int .i16 0, .pointer none, .int .i8 0, .string ⟨#[]⟩, .int .i8 0, .string ⟨#[]⟩, .string ⟨#[]⟩, .int .i8 0, .int .i8 0, .map none] (lT x1_2.1).length) Nr1_2 ∧ a1_2.isNone = (if 0 ≤ ((-1) : Int) ∧ (v < ((-1) : Int) ∨ (rArr false x1_1.2).1 = 0) then false else decide ((rArr false x1_1.2).1 ≤ 0))) ?_ (fun l' H' L' le_7 hI => ?_)
          · skip
            refine cd rfl (fun h120 => ?_) (fun h120 => ?_)
            · skip
              refine rg ?_
              refine mv rfl rfl ?_
              refine mv rfl rfl ?_
              refine apz (zs := [.int .i16 0, .pointer none, .int .i8 0, .string ⟨#[]⟩, .int .i8 0, .string ⟨#[]⟩, .string ⟨#[]⟩, .int .i8 0, .int .i8 0, .map none]) (m := (lT x1_2.1).length) Tryz.underlying132 Tryz.underlying21 I257 rfl rfl rfl (by omega) (by omega) (by have h9 := hnb1_2; unfold BR at h9; omega) (by have h9 := hnb1_2; unfold BR at h9; unfold maxLen; omega) rfl (fun g123 cp123 N123 r123 => ?_)
              refine asg rfl rfl ?_
              refine nN ?_
              refine drN (.tail .head) ?_
              refine fun a_ w_ hA hw => ⟨_, _, _, hA.sub ?_, (Fz.le.refl _), hw, (some ⟨g123, 0, none⟩), cp123, N123, rfl, rfl, r123, (by rw [if_neg (by omega)]; exact (decide_eq_false (by omega)).symm)⟩
              exact (.cons rfl (.cons rfl (.cons rfl (.cons rfl (.cons rfl (.cons rfl (.cons rfl (.cons rfl (.cons rfl (.cons rfl (.cons rfl (.cons rfl (.cons rfl (.nil _))))))))))))))
            · skip
              refine skN ?_
              refine fun a_ w_ hA hw => ⟨_, _, _, hA.sub ?_, (Fz.le.refl _), hw, none, 0, [], rfl, rfl, (by rw [show (lT x1_2.1).length = 0 by omega]; exact (Row.nil _ _)), (by rw [if_neg (by omega)]; exact (decide_eq_true (by omega)).symm)⟩
              exact (.cons rfl (.cons rfl (.cons rfl (.cons rfl (.cons rfl (.cons rfl (.cons rfl (.cons rfl (.cons rfl (.cons rfl (.cons rfl (.cons (by rw [show (lT x1_2.1).length = 0 by omega]; rfl) (.cons rfl (.nil _))))))))))))))
          · skip
            obtain ⟨a1_2, c1_2, Nr1_2, rfl, rfl, pj0, pj1⟩ := hI
            have hr1_2 := pj0
            have hi1_2 := pj1
            refine sq ?_
            refine sr ?_
            refine asg rfl rfl ?_
            refine nl ?_
            refine bl (lp ((lT x1_2.1).length) (fun k1_2 l' H' L' => ∃ (es1_2 : List (KE 10)) (M1_2 RN1_2 : Chunk), [(2, .bool false), (7, .pointer (some ⟨b_1, 0, none⟩)), (8, .int .i16 v), (9, .bool (decide ((2 : Int) ≤ v))), (10, .pointer (some ⟨b, 0, none⟩)), (12, .slice none 0 0), (13, .slice a1 (lT x1.1).length c1), (14, .int .i32 (rArr false x0.2).1), (15, .int .i32 (k1 : Int)), (17, .pointer (some ⟨g1, 0 + k1 * 4, none⟩)), (20, .slice none 0 0), (21, .slice a1_2 (lT x1_2.1).length c1_2), (22, .int .i32 (rArr false x1_1.2).1), (23, .int .i32 (k1_2 : Int))] = l' ∧ M1_2 :: RN1_2 :: [(g1, .cells ((es1.flatMap fk) ++ ([.int .i16 (IntKind.i16.wrap x1_0.1.n), .pointer p1_1, .slice none 0 0, .map none] : List Value) ++ po1).toArray 134 (0, 0))] :: [(b, .cells [.int .i16 v, .int .i32 (IntKind.i32.wrap x0.1.n), .slice none 0 0, .map none].toArray 128 (0, 0))] :: L = L' ∧ RdAt H' 232 b_1 (rMany (decV 10 (decP fs_sDeleteACLsResponseResultMatchingACL v false) false false) k1_2 (rArr false x1_1.2).2).2 RN1_2 ∧ Row 257 10 a1_2 (lT x1_2.1).length c1_2 (es1_2.flatMap fk ++ reps [.int .i16 0, .pointer none, .int .i8 0, .string ⟨#[]⟩, .int .i8 0, .string ⟨#[]⟩, .string ⟨#[]⟩, .int .i8 0, .int .i8 0, .map none] ((lT x1_2.1).length - k1_2)) M1_2 ∧ es1_2.map (·.2) = (rMany (decV 10 (decP fs_sDeleteACLsResponseResultMatchingACL v false) false false) k1_2 (rArr false x1_1.2).2).1 ∧ ∀ p ∈ es1_2, At_DeleteACLsResponseResultMatchingACL H' p.2 (fk p)) [(2, .bool false), (7, .pointer (some ⟨b_1, 0, none⟩)), (8, .int .i16 v), (9, .bool (decide ((2 : Int) ≤ v))), (10, .pointer (some ⟨b, 0, none⟩)), (12, .slice none 0 0), (13, .slice a1 (lT x1.1).length c1), (14, .int .i32 (rArr false x0.2).1), (15, .int .i32 (k1 : Int)), (17, .pointer (some ⟨g1, 0 + k1 * 4, none⟩)), (20, .slice none 0 0), (21, .slice a1_2 (lT x1_2.1).length c1_2), (22, .int .i32 (rArr false x1_1.2).1), (23, .int .i32 (0 : Int))] (.cons rfl (.cons rfl (.cons rfl (.cons rfl (.cons rfl (.cons rfl (.cons rfl (.cons rfl (.cons rfl (.cons rfl (.cons rfl (.cons rfl (.cons rfl (.cons rfl (.nil _))))))))))))))) ⟨[], Nr1_2, _, rfl, rfl, (hR113.mono le_7), hr1_2, rfl, (fun p hp => by cases hp)⟩ (fun k1_2 l' H' L' hk1_2 le_8 hI => ?_))
            obtain ⟨es1_2, M1_2, RN1_2, rfl, rfl, hR_1_2, hw_1_2, he_1_2, hg_1_2⟩ := hI
            have hs_1_2 := els_len he_1_2
            have hp_1_2 : (es1_2.flatMap fk).length = k1_2 * 10 := els_flat hs_1_2
            refine sq ?_
            refine sr ?_
            refine mv rfl rfl ?_
            refine mv rfl rfl ?_
            refine lt rfl rfl rfl ?_
            refine nl ?_
            refine cd rfl (fun h126 => ?_) (fun h126 => ?_)
            · skip
              have hkl1_2 : k1_2 < (lT x1_2.1).length := by omega
              obtain ⟨g1_2, po1_2, hga1_2, rfl, hbk1_2⟩ := hw_1_2.next (zs := [.int .i16 0, .pointer none, .int .i8 0, .string ⟨#[]⟩, .int .i8 0, .string ⟨#[]⟩, .string ⟨#[]⟩, .int .i8 0, .int .i8 0, .map none]) hkl1_2 rfl (by decide)
              have ho1_2 : 0 + k1_2 * 10 = (es1_2.flatMap fk).length := by rw [hp_1_2]; omega
              have hbz1_2 : ((decV 10 (decP fs_sDeleteACLsResponseResultMatchingACL v false) false false) (rMany (decV 10 (decP fs_sDeleteACLsResponseResultMatchingACL v false) false false) k1_2 (rArr false x1_1.2).2).2).2.bad = true → (decP fs_DeleteACLsResponse v false ⟨s, false, !a.isNone⟩).2.bad = true := fun h => hB1_2 (by rw [ex1_2]; exact rMany_mono (fun r h => decV_bad (fun r h => decP_bad _ _ _ r h) h) _ (show k1_2 + 1 ≤ (lT x1_2.1).length from hkl1_2) (by rw [rMany_succ]; exact h))
              have hLk1_2 : (rMany (decV 10 (decP fs_sDeleteACLsResponseResultMatchingACL v false) false false) k1_2 (rArr false x1_1.2).2).2.s.length ≤ BR := Nat.le_trans (rMany_shr (fun r => decV_shr (fun r => decP_shr _ _ _ r) r) _ _) hm1_2
              have hL1_2__ := hLk1_2
              obtain ⟨x1_2_0, hx1_2_0⟩ : ∃ x, x = stepF (Fd.mk 2 0 (-1) (-1) (-1) 0 0 []) v false (rMany (decV 10 (decP fs_sDeleteACLsResponseResultMatchingACL v false) false false) k1_2 (rArr false x1_1.2).2).2 := ⟨_, rfl⟩
              obtain ⟨x1_2_1, hx1_2_1⟩ : ∃ x, x = stepF (Fd.mk 8 0 (-1) 0 (-1) 0 0 []) v false x1_2_0.2 := ⟨_, rfl⟩
              obtain ⟨x1_2_2, hx1_2_2⟩ : ∃ x, x = stepF (Fd.mk 1 0 (-1) (-1) (-1) 0 0 []) v false x1_2_1.2 := ⟨_, rfl⟩
              obtain ⟨x1_2_3, hx1_2_3⟩ : ∃ x, x = stepF (Fd.mk 8 0 (-1) (-1) (-1) 0 0 []) v false x1_2_2.2 := ⟨_, rfl⟩
              obtain ⟨x1_2_4, hx1_2_4⟩ : ∃ x, x = stepF (Fd.mk 1 1 (-1) (-1) (-1) 3 0 []) v false x1_2_3.2 := ⟨_, rfl⟩
              obtain ⟨x1_2_5, hx1_2_5⟩ : ∃ x, x = stepF (Fd.mk 8 0 (-1) (-1) (-1) 0 0 []) v false x1_2_4.2 := ⟨_, rfl⟩
              obtain ⟨x1_2_6, hx1_2_6⟩ : ∃ x, x = stepF (Fd.mk 8 0 (-1) (-1) (-1) 0 0 []) v false x1_2_5.2 := ⟨_, rfl⟩
              obtain ⟨x1_2_7, hx1_2_7⟩ : ∃ x, x = stepF (Fd.mk 1 0 (-1) (-1) (-1) 0 0 []) v false x1_2_6.2 := ⟨_, rfl⟩
              obtain ⟨x1_2_8, hx1_2_8⟩ : ∃ x, x = stepF (Fd.mk 1 0 (-1) (-1) (-1) 0 0 []) v false x1_2_7.2 := ⟨_, rfl⟩
              obtain ⟨u1_2_, hu1_2_⟩ : ∃ x, x = tailU false x1_2_8.2 := ⟨_, rfl⟩
              have hD1_2_ : decP fs_sDeleteACLsResponseResultMatchingACL v false (rMany (decV 10 (decP fs_sDeleteACLsResponseResultMatchingACL v false) false false) k1_2 (rArr false x1_1.2).2).2 = (.mk 0 [] false [x1_2_0.1, x1_2_1.1, x1_2_2.1, x1_2_3.1, x1_2_4.1, x1_2_5.1, x1_2_6.1, x1_2_7.1, x1_2_8.1] u1_2_.1, u1_2_.2) := by
                generalize ((rMany (decV 10 (decP fs_sDeleteACLsResponseResultMatchingACL v false) false false) k1_2 (rArr false x1_1.2).2).2 : Rd) = r_ at hx1_2_0 ⊢
                rw [decP_eq]; unfold fs_sDeleteACLsResponseResultMatchingACL; simp only [decFs_cons, decFs_nil, ← hx1_2_0, ← hx1_2_1, ← hx1_2_2, ← hx1_2_3, ← hx1_2_4, ← hx1_2_5, ← hx1_2_6, ← hx1_2_7, ← hx1_2_8, ← hu1_2_]
              have hL1_2_0 : x1_2_0.2.s.length ≤ BR := by rw [hx1_2_0]; exact Nat.le_trans (stepF_shr _ _ _ _) hL1_2__
              have hL1_2_1 : x1_2_1.2.s.length ≤ BR := by rw [hx1_2_1]; exact Nat.le_trans (stepF_shr _ _ _ _) hL1_2_0
              have hL1_2_2 : x1_2_2.2.s.length ≤ BR := by rw [hx1_2_2]; exact Nat.le_trans (stepF_shr _ _ _ _) hL1_2_1
              have hL1_2_3 : x1_2_3.2.s.length ≤ BR := by rw [hx1_2_3]; exact Nat.le_trans (stepF_shr _ _ _ _) hL1_2_2
              have hL1_2_4 : x1_2_4.2.s.length ≤ BR := by rw [hx1_2_4]; exact Nat.le_trans (stepF_shr _ _ _ _) hL1_2_3
              have hL1_2_5 : x1_2_5.2.s.length ≤ BR := by rw [hx1_2_5]; exact Nat.le_trans (stepF_shr _ _ _ _) hL1_2_4
              have hL1_2_6 : x1_2_6.2.s.length ≤ BR := by rw [hx1_2_6]; exact Nat.le_trans (stepF_shr _ _ _ _) hL1_2_5
              have hL1_2_7 : x1_2_7.2.s.length ≤ BR := by rw [hx1_2_7]; exact Nat.le_trans (stepF_shr _ _ _ _) hL1_2_6
              have hL1_2_8 : x1_2_8.2.s.length ≤ BR := by rw [hx1_2_8]; exact Nat.le_trans (stepF_shr _ _ _ _) hL1_2_7
              have hE1_2_ : u1_2_.2.bad = true → (decP fs_DeleteACLsResponse v false ⟨s, false, !a.isNone⟩).2.bad = true := fun h => hbz1_2 (by show (decP fs_sDeleteACLsResponseResultMatchingACL v false (rMany (decV 10 (decP fs_sDeleteACLsResponseResultMatchingACL v false) false false) k1_2 (rArr false x1_1.2).2).2).2.bad = true; rw [hD1_2_]; exact h)
              have hB1_2_8 : x1_2_8.2.bad = true → (decP fs_DeleteACLsResponse v false ⟨s, false, !a.isNone⟩).2.bad = true := fun h => hE1_2_ (by rw [hu1_2_]; exact tailU_bad h)
              have hB1_2_7 : x1_2_7.2.bad = true → (decP fs_DeleteACLsResponse v false ⟨s, false, !a.isNone⟩).2.bad = true := fun h => hB1_2_8 (by rw [hx1_2_8]; exact step_bad h)
              have hB1_2_6 : x1_2_6.2.bad = true → (decP fs_DeleteACLsResponse v false ⟨s, false, !a.isNone⟩).2.bad = true := fun h => hB1_2_7 (by rw [hx1_2_7]; exact step_bad h)
              have hB1_2_5 : x1_2_5.2.bad = true → (decP fs_DeleteACLsResponse v false ⟨s, false, !a.isNone⟩).2.bad = true := fun h => hB1_2_6 (by rw [hx1_2_6]; exact step_bad h)
              have hB1_2_4 : x1_2_4.2.bad = true → (decP fs_DeleteACLsResponse v false ⟨s, false, !a.isNone⟩).2.bad = true := fun h => hB1_2_5 (by rw [hx1_2_5]; exact step_bad h)
              have hB1_2_3 : x1_2_3.2.bad = true → (decP fs_DeleteACLsResponse v false ⟨s, false, !a.isNone⟩).2.bad = true := fun h => hB1_2_4 (by rw [hx1_2_4]; exact step_bad h)
              have hB1_2_2 : x1_2_2.2.bad = true → (decP fs_DeleteACLsResponse v false ⟨s, false, !a.isNone⟩).2.bad = true := fun h => hB1_2_3 (by rw [hx1_2_3]; exact step_bad h)
              have hB1_2_1 : x1_2_1.2.bad = true → (decP fs_DeleteACLsResponse v false ⟨s, false, !a.isNone⟩).2.bad = true := fun h => hB1_2_2 (by rw [hx1_2_2]; exact step_bad h)
              have hB1_2_0 : x1_2_0.2.bad = true → (decP fs_DeleteACLsResponse v false ⟨s, false, !a.isNone⟩).2.bad = true := fun h => hB1_2_1 (by rw [hx1_2_1]; exact step_bad h)
              refine skt ?_
              refine sq ?_
              refine bl ?_
              refine sr ?_
              refine mv rfl rfl ?_
              refine mv rfl rfl ?_
              refine ixk (j := k1_2) Tryz.runUnderlying132 Tryz.sizeOf257 rfl hga1_2 rfl rfl hkl1_2 rfl ?_
              refine asg rfl rfl ?_
              refine nl ?_
              refine sr ?_
              refine mv rfl rfl ?_
              refine cl rfl rfl rfl (def_DeleteACLsResponseResultMatchingACL ho1_2) rfl (fun v_ H1 L1 hle_ hR_ => ?_)
              obtain ⟨rfl, rfl⟩ := hR_
              refine nl ?_
              refine sr ?_
              refine mv rfl rfl ?_
              refine asg rfl rfl ?_
              refine nl ?_
              refine sq ?_
              refine sr ?_
              refine tf (.tail .head) ?_
              have ex1_2_0 : x1_2_0 = decV 2 (decP [] v false) false false (rMany (decV 10 (decP fs_sDeleteACLsResponseResultMatchingACL v false) false false) k1_2 (rArr false x1_1.2).2).2 := (hx1_2_0.trans (step_yes (by decide) (show (0 : Int) ≤ v by omega) (Or.inl (by decide)))).trans (decF'_val (by decide) (rfl))
              refine cl rfl rfl rfl (d2 hR_1_2 ex1_2_0) rfl (fun v_ H1 L1 hle_ hR_ => ?_)
              obtain ⟨N135, rfl, hR135, rfl, rfl⟩ := hR_
              refine asg rfl rfl ?_
              refine nl ?_
              refine rg ?_
              refine mv rfl rfl ?_
              refine mv rfl rfl ?_
              refine nc rfl rfl ?_
              refine fa F257_0 rfl rfl ?_
              refine stM (off := 0) Tryz.sizeOf51 rfl (by rw [ho1_2]) rfl rfl rfl (.tail .head) ?_
              refine nl ?_
              refine sq ?_
              refine sr ?_
              refine asg rfl rfl ?_
              refine nl ?_
              refine sq ?_
              refine sr ?_
              refine mv rfl rfl ?_
              refine nl ?_
              refine cdF rfl (by omega) ?_
              refine sr ?_
              refine mv rfl rfl ?_
              refine nl ?_
              refine cF rfl ?_
              refine rg ?_
              have ex1_2_1 : x1_2_1 = decV 8 (decP [] v false) true false x1_2_0.2 := (hx1_2_1.trans (step_yes (by decide) (show (0 : Int) ≤ v by omega) (Or.inl (by decide)))).trans (decF'_val (by decide) (by simp only [Bool.and_eq_true, decide_eq_true_eq]; exact ⟨show (0 : Int) ≤ 0 by decide, show (0 : Int) ≤ v by omega⟩))
              refine cl rfl rfl rfl (d8fn hR135 ex1_2_1) rfl (fun v_ H1 L1 le_10 hR_ => ?_)
              obtain ⟨N146, rfl, hR146, p1_2_1, rfl, hf1_2_1⟩ := hR_
              refine asg rfl rfl ?_
              refine nl ?_
              refine rg ?_
              refine mv rfl rfl ?_
              refine mv rfl rfl ?_
              refine nc rfl rfl ?_
              refine fa F257_1 rfl rfl ?_
              refine stM (off := 1) Tryz.sizeOf131 rfl (by rw [ho1_2]) rfl rfl rfl (.tail .head) ?_
              refine nl ?_
              refine sq ?_
              refine sr ?_
              refine asg rfl rfl ?_
              refine nl ?_
              refine sq ?_
              refine sr ?_
              have ex1_2_2 : x1_2_2 = decV 1 (decP [] v false) false false x1_2_1.2 := (hx1_2_2.trans (step_yes (by decide) (show (0 : Int) ≤ v by omega) (Or.inl (by decide)))).trans (decF'_val (by decide) (rfl))
              refine cl rfl rfl rfl (d1 hR146 ex1_2_2) rfl (fun v_ H1 L1 hle_ hR_ => ?_)
              obtain ⟨N151, rfl, hR151, rfl, rfl⟩ := hR_
              refine asg rfl rfl ?_
              refine nl ?_
              refine rg ?_
              refine mv rfl rfl ?_
              refine asg rfl rfl ?_
              refine nl ?_
              refine sr ?_
              refine mv rfl rfl ?_
              refine asg rfl rfl ?_
              refine nl ?_
              refine rg ?_
              refine mv rfl rfl ?_
              refine mv rfl rfl ?_
              refine nc rfl rfl ?_
              refine fa F257_2 rfl rfl ?_
              refine stM (off := 2) Tryz.sizeOf252 rfl (by rw [ho1_2]) rfl rfl rfl (.tail .head) ?_
              refine nl ?_
              refine sq ?_
              refine sr ?_
              refine asg rfl rfl ?_
              refine nl ?_
              refine sq ?_
              refine sr ?_
              refine mv rfl rfl ?_
              refine nl ?_
              refine cF rfl ?_
              refine sr ?_
              refine mv rfl rfl ?_
              refine nl ?_
              refine cdF rfl (by omega) ?_
              refine rg ?_
              have ex1_2_3 : x1_2_3 = decV 8 (decP [] v false) false false x1_2_2.2 := (hx1_2_3.trans (step_yes (by decide) (show (0 : Int) ≤ v by omega) (Or.inl (by decide)))).trans (decF'_val (by decide) (rfl))
              refine cl rfl rfl rfl (d8f hR151 ex1_2_3) rfl (fun v_ H1 L1 le_12 hR_ => ?_)
              obtain ⟨N164, rfl, hR164, rfl, rfl⟩ := hR_
              refine asg rfl rfl ?_
              refine nl ?_
              refine rg ?_
              refine mv rfl rfl ?_
              refine mv rfl rfl ?_
              refine nc rfl rfl ?_
              refine fa F257_3 rfl rfl ?_
              refine stM (off := 3) Tryz.sizeOf9 rfl (by rw [ho1_2]) rfl rfl rfl (.tail .head) ?_
              refine nl ?_
              refine sq ?_
              refine sr ?_
              refine mv rfl rfl ?_
              refine ge rfl rfl rfl ?_
              refine nl ?_
              refine cutT (fun l' H' L' => ∃ (Nj1_2_4 : Chunk), [(2, .bool false), (7, .pointer (some ⟨b_1, 0, none⟩)), (8, .int .i16 v), (9, .bool (decide ((2 : Int) ≤ v))), (10, .pointer (some ⟨b, 0, none⟩)), (12, .slice none 0 0), (13, .slice a1 (lT x1.1).length c1), (14, .int .i32 (rArr false x0.2).1), (15, .int .i32 (k1 : Int)), (17, .pointer (some ⟨g1, 0 + k1 * 4, none⟩)), (20, .slice none 0 0), (21, .slice a1_2 (lT x1_2.1).length c1_2), (22, .int .i32 (rArr false x1_1.2).1), (23, .int .i32 (k1_2 : Int)), (25, .pointer (some ⟨g1_2, 0 + k1_2 * 10, none⟩))] = l' ∧ Nj1_2_4 :: [(g1_2, .cells ((es1_2.flatMap fk) ++ ([.int .i16 (IntKind.i16.wrap x1_2_0.1.n), .pointer p1_2_1, .int .i8 (IntKind.i8.wrap x1_2_2.1.n), .string ⟨x1_2_3.1.s.toArray⟩, .int .i8 (IntKind.i8.wrap x1_2_4.1.n), .string ⟨#[]⟩, .string ⟨#[]⟩, .int .i8 0, .int .i8 0, .map none] : List Value) ++ po1_2).toArray 257 (0, 0))] :: [(g1, .cells ((es1.flatMap fk) ++ ([.int .i16 (IntKind.i16.wrap x1_0.1.n), .pointer p1_1, .slice none 0 0, .map none] : List Value) ++ po1).toArray 134 (0, 0))] :: [(b, .cells [.int .i16 v, .int .i32 (IntKind.i32.wrap x0.1.n), .slice none 0 0, .map none].toArray 128 (0, 0))] :: L = L' ∧ RdAt H' 232 b_1 x1_2_4.2 Nj1_2_4) ?_ (fun l' H' L' le_13 hI => ?_)
              · skip
                refine cd rfl (fun h170 => ?_) (fun h170 => ?_)
                · skip
                  refine sr ?_
                  refine asg rfl rfl ?_
                  refine nl ?_
                  refine sq ?_
                  refine sr ?_
                  have ex1_2_4 : x1_2_4 = decV 1 (decP [] v false) false false x1_2_3.2 := (hx1_2_4.trans (step_yes (by decide) (show (1 : Int) ≤ v by omega) (Or.inl (by decide)))).trans (decF'_val (by decide) (rfl))
                  refine cl rfl rfl rfl (d1 hR164 ex1_2_4) rfl (fun v_ H1 L1 hle_ hR_ => ?_)
                  obtain ⟨N171, rfl, hR171, rfl, rfl⟩ := hR_
                  refine asg rfl rfl ?_
                  refine nl ?_
                  refine rg ?_
                  refine mv rfl rfl ?_
                  refine asg rfl rfl ?_
                  refine nl ?_
                  refine sr ?_
                  refine mv rfl rfl ?_
                  refine asg rfl rfl ?_
                  refine nl ?_
                  refine rg ?_
                  refine mv rfl rfl ?_
                  refine mv rfl rfl ?_
                  refine nc rfl rfl ?_
                  refine fa F257_4 rfl rfl ?_
                  refine stM (off := 4) Tryz.sizeOf253 rfl (by rw [ho1_2]) rfl rfl rfl (.tail .head) ?_
                  refine nN ?_
                  refine fun a_ w_ hA hw => ⟨_, _, _, hA.sub ?_, (Fz.le.refl _), hw, N171, rfl, rfl, hR171⟩
                  exact (.cons rfl (.cons rfl (.cons rfl (.cons rfl (.cons rfl (.cons rfl (.cons rfl (.cons rfl (.cons rfl (.cons rfl (.cons rfl (.cons rfl (.cons rfl (.cons rfl (.cons rfl (.nil _))))))))))))))))
                · skip
                  refine skN ?_
                  obtain rfl : x1_2_4 = ((Tr.mk 3 [] false [] []), x1_2_3.2) := (hx1_2_4.trans (step_no (Or.inl (show v < (1 : Int) by omega)))).trans (by rw [dflF_eq]; rfl)
                  refine fun a_ w_ hA hw => ⟨_, _, _, hA.sub ?_, (Fz.le.refl _), hw, N164, rfl, rfl, hR164⟩
                  exact (.cons rfl (.cons rfl (.cons rfl (.cons rfl (.cons rfl (.cons rfl (.cons rfl (.cons rfl (.cons rfl (.cons rfl (.cons rfl (.cons rfl (.cons rfl (.cons rfl (.cons rfl (.nil _))))))))))))))))
              · skip
                obtain ⟨Nj1_2_4, rfl, rfl, pj0⟩ := hI
                have hRj1_2_4 := pj0
                refine sq ?_
                refine sr ?_
                refine asg rfl rfl ?_
                refine nl ?_
                refine sq ?_
                refine sr ?_
                refine mv rfl rfl ?_
                refine nl ?_
                refine cF rfl ?_
                refine sr ?_
                refine mv rfl rfl ?_
                refine nl ?_
                refine cdF rfl (by omega) ?_
                refine rg ?_
                have ex1_2_5 : x1_2_5 = decV 8 (decP [] v false) false false x1_2_4.2 := (hx1_2_5.trans (step_yes (by decide) (show (0 : Int) ≤ v by omega) (Or.inl (by decide)))).trans (decF'_val (by decide) (rfl))
                refine cl rfl rfl rfl (d8f hRj1_2_4 ex1_2_5) rfl (fun v_ H1 L1 le_15 hR_ => ?_)
                obtain ⟨N184, rfl, hR184, rfl, rfl⟩ := hR_
                refine asg rfl rfl ?_
                refine nl ?_
                refine rg ?_
                refine mv rfl rfl ?_
                refine mv rfl rfl ?_
                refine nc rfl rfl ?_
                refine fa F257_5 rfl rfl ?_
                refine stM (off := 5) Tryz.sizeOf9 rfl (by rw [ho1_2]) rfl rfl rfl (.tail .head) ?_
                refine nl ?_
                refine sq ?_
                refine sr ?_
                refine asg rfl rfl ?_
                refine nl ?_
                refine sq ?_
                refine sr ?_
                refine mv rfl rfl ?_
                refine nl ?_
                refine cF rfl ?_
                refine sr ?_
                refine mv rfl rfl ?_
                refine nl ?_
                refine cdF rfl (by omega) ?_
                refine rg ?_
                have ex1_2_6 : x1_2_6 = decV 8 (decP [] v false) false false x1_2_5.2 := (hx1_2_6.trans (step_yes (by decide) (show (0 : Int) ≤ v by omega) (Or.inl (by decide)))).trans (decF'_val (by decide) (rfl))
                refine cl rfl rfl rfl (d8f hR184 ex1_2_6) rfl (fun v_ H1 L1 le_16 hR_ => ?_)
                obtain ⟨N195, rfl, hR195, rfl, rfl⟩ := hR_
                refine asg rfl rfl ?_
                refine nl ?_
                refine rg ?_
                refine mv rfl rfl ?_
                refine mv rfl rfl ?_
                refine nc rfl rfl ?_
                refine fa F257_6 rfl rfl ?_
                refine stM (off := 6) Tryz.sizeOf9 rfl (by rw [ho1_2]) rfl rfl rfl (.tail .head) ?_
                refine nl ?_
                refine sq ?_
                refine sr ?_
                refine asg rfl rfl ?_
                refine nl ?_
                refine sq ?_
                refine sr ?_
                have ex1_2_7 : x1_2_7 = decV 1 (decP [] v false) false false x1_2_6.2 := (hx1_2_7.trans (step_yes (by decide) (show (0 : Int) ≤ v by omega) (Or.inl (by decide)))).trans (decF'_val (by decide) (rfl))
                refine cl rfl rfl rfl (d1 hR195 ex1_2_7) rfl (fun v_ H1 L1 hle_ hR_ => ?_)
                obtain ⟨N200, rfl, hR200, rfl, rfl⟩ := hR_
                refine asg rfl rfl ?_
                refine nl ?_
                refine rg ?_
                refine mv rfl rfl ?_
                refine asg rfl rfl ?_
                refine nl ?_
                refine sr ?_
                refine mv rfl rfl ?_
                refine asg rfl rfl ?_
                refine nl ?_
                refine rg ?_
                refine mv rfl rfl ?_
                refine mv rfl rfl ?_
                refine nc rfl rfl ?_
                refine fa F257_7 rfl rfl ?_
                refine stM (off := 7) Tryz.sizeOf254 rfl (by rw [ho1_2]) rfl rfl rfl (.tail .head) ?_
                refine nl ?_
                refine sq ?_
                refine sr ?_
                refine asg rfl rfl ?_
                refine nl ?_
                refine sq ?_
                refine sr ?_
                have ex1_2_8 : x1_2_8 = decV 1 (decP [] v false) false false x1_2_7.2 := (hx1_2_8.trans (step_yes (by decide) (show (0 : Int) ≤ v by omega) (Or.inl (by decide)))).trans (decF'_val (by decide) (rfl))
                refine cl rfl rfl rfl (d1 hR200 ex1_2_8) rfl (fun v_ H1 L1 hle_ hR_ => ?_)
                obtain ⟨N207, rfl, hR207, rfl, rfl⟩ := hR_
                refine asg rfl rfl ?_
                refine nl ?_
                refine rg ?_
                refine mv rfl rfl ?_
                refine asg rfl rfl ?_
                refine nl ?_
                refine sr ?_
                refine mv rfl rfl ?_
                refine asg rfl rfl ?_
                refine nl ?_
                refine rg ?_
                refine mv rfl rfl ?_
                refine mv rfl rfl ?_
                refine nc rfl rfl ?_
                refine fa F257_8 rfl rfl ?_
                refine stM (off := 8) Tryz.sizeOf255 rfl (by rw [ho1_2]) rfl rfl rfl (.tail .head) ?_
                refine nl ?_
                refine sr ?_
                refine mv rfl rfl ?_
                refine nl ?_
                refine cdF rfl (by omega) ?_
                refine skN ?_
                refine Nb ?_
                refine Nt ?_
                refine rg ?_
                refine mv rfl rfl ?_
                refine ad rfl rfl (c := ((k1_2 + 1 : Nat) : Int)) ((wrap32_le (by omega) (by omega)).trans (by omega)) rfl ?_
                refine asg rfl rfl ?_
                refine nN ?_
                obtain rfl : u1_2_ = ([], x1_2_8.2) := hu1_2_
                have hfs1_2 := flatMap_snoc' fk es1_2 ((⟨([.int .i16 (IntKind.i16.wrap x1_2_0.1.n), .pointer p1_2_1, .int .i8 (IntKind.i8.wrap x1_2_2.1.n), .string ⟨x1_2_3.1.s.toArray⟩, .int .i8 (IntKind.i8.wrap x1_2_4.1.n), .string ⟨x1_2_5.1.s.toArray⟩, .string ⟨x1_2_6.1.s.toArray⟩, .int .i8 (IntKind.i8.wrap x1_2_7.1.n), .int .i8 (IntKind.i8.wrap x1_2_8.1.n), .map none] : List Value), rfl, all_one rfl⟩, ((decV 10 (decP fs_sDeleteACLsResponseResultMatchingACL v false) false false) (rMany (decV 10 (decP fs_sDeleteACLsResponseResultMatchingACL v false) false false) k1_2 (rArr false x1_1.2).2).2).1) : KE 10)
                have hrw1_2 := hbk1_2 ([.int .i16 (IntKind.i16.wrap x1_2_0.1.n), .pointer p1_2_1, .int .i8 (IntKind.i8.wrap x1_2_2.1.n), .string ⟨x1_2_3.1.s.toArray⟩, .int .i8 (IntKind.i8.wrap x1_2_4.1.n), .string ⟨x1_2_5.1.s.toArray⟩, .string ⟨x1_2_6.1.s.toArray⟩, .int .i8 (IntKind.i8.wrap x1_2_7.1.n), .int .i8 (IntKind.i8.wrap x1_2_8.1.n), .map none] : List Value) rfl
                refine tfN (.tail .head) ?_
                refine fun a_ w_ hA hw => ⟨hkl1_2, _, _, _, hA.sub ?_, (le_8.trans (le_10.trans le_13)), hw, _, _, _, rfl, rfl, (by rw [rMany_succ]; show RdAt _ 232 b_1 (decP fs_sDeleteACLsResponseResultMatchingACL v false (rMany (decV 10 (decP fs_sDeleteACLsResponseResultMatchingACL v false) false false) k1_2 (rArr false x1_1.2).2).2).2 _; rw [hD1_2_]; exact hR207), (by rw [← hfs1_2]; exact hrw1_2), (dec_els he_1_2), (fun p hp => (mem_snoc hp).elim (fun h => At_DeleteACLsResponseResultMatchingACL.mono _ _ _ _ (le_10.trans le_13) (hg_1_2 p h)) (fun h => h ▸ (by show At_DeleteACLsResponseResultMatchingACL _ (decP fs_sDeleteACLsResponseResultMatchingACL v false (rMany (decV 10 (decP fs_sDeleteACLsResponseResultMatchingACL v false) false false) k1_2 (rArr false x1_1.2).2).2).1 [.int .i16 (IntKind.i16.wrap x1_2_0.1.n), .pointer p1_2_1, .int .i8 (IntKind.i8.wrap x1_2_2.1.n), .string ⟨x1_2_3.1.s.toArray⟩, .int .i8 (IntKind.i8.wrap x1_2_4.1.n), .string ⟨x1_2_5.1.s.toArray⟩, .string ⟨x1_2_6.1.s.toArray⟩, .int .i8 (IntKind.i8.wrap x1_2_7.1.n), .int .i8 (IntKind.i8.wrap x1_2_8.1.n), .map none]; rw [hD1_2_]; exact ⟨p1_2_1, none, rfl, (hf1_2_1.mono le_13), (KvAt.nil _)⟩)))⟩
                exact (.cons rfl (.cons rfl (.cons rfl (.cons rfl (.cons rfl (.cons rfl (.cons rfl (.cons rfl (.cons rfl (.cons rfl (.cons rfl (.cons rfl (.cons rfl (.cons rfl (.nil _)))))))))))))))
            · skip
              have hkn_ : k1_2 = (lT x1_2.1).length := by omega
              subst hkn_
              have hw2_1_2 : Row 257 10 a1_2 (lT x1_2.1).length c1_2 (es1_2.flatMap fk) M1_2 := by have h := hw_1_2; rw [Nat.sub_self] at h; simpa [reps] using h
              refine frW hw2_1_2 .head (fun Hf1_2 hlf1_2 hfz1_2 => ?_)
              have hrs1_2 := RowsAt.row (R := At_DeleteACLsResponseResultMatchingACL) hfz1_2 hs_1_2.symm hw2_1_2.le.1 (fun p hp => At_DeleteACLsResponseResultMatchingACL.mono _ _ _ _ hlf1_2 (hg_1_2 p hp))
              rw [he_1_2] at hrs1_2
              have hf1_2 : ListAt Hf1_2 x1_2.1 10 At_DeleteACLsResponseResultMatchingACL a1_2 c1_2 := by rw [ex1_2]; exact listAt_of hrs1_2 hi1_2 (fun h => by have h1 := nul_le h; rw [show (lT x1_2.1).length = 0 by omega]; rfl)
              have hRx1_2 : RdAt Hf1_2 232 b_1 x1_2.2 RN1_2 := by rw [ex1_2]; exact (hR_1_2.mono hlf1_2)
              refine exX ?_
              refine XT ?_
              refine XT ?_
              refine Xb ?_
              refine Nt ?_
              refine sr ?_
              refine mv rfl rfl ?_
              refine asg rfl rfl ?_
              refine nl ?_
              refine rg ?_
              refine mv rfl rfl ?_
              refine mv rfl rfl ?_
              refine nc rfl rfl ?_
              refine fa F134_2 rfl rfl ?_
              refine stM (off := 2) Tryz.sizeOf132 rfl (by rw [ho1]) rfl rfl rfl (.tail .head) ?_
              refine nl ?_
              refine sr ?_
              refine mv rfl rfl ?_
              refine nl ?_
              refine cdF rfl (by omega) ?_
              refine skN ?_
              refine Nb ?_
              refine Nt ?_
              refine rg ?_
              refine mv rfl rfl ?_
              refine ad rfl rfl (c := ((k1 + 1 : Nat) : Int)) ((wrap32_le (by omega) (by omega)).trans (by omega)) rfl ?_
              refine asg rfl rfl ?_
              refine nN ?_
              obtain rfl : u1_ = ([], x1_2.2) := hu1_
              have hfs1 := flatMap_snoc' fk es1 ((⟨([.int .i16 (IntKind.i16.wrap x1_0.1.n), .pointer p1_1, .slice a1_2 (lT x1_2.1).length c1_2, .map none] : List Value), rfl, all_one rfl⟩, ((decV 10 (decP fs_sDeleteACLsResponseResult v false) false false) (rMany (decV 10 (decP fs_sDeleteACLsResponseResult v false) false false) k1 (rArr false x0.2).2).2).1) : KE 4)
              have hrw1 := hbk1 ([.int .i16 (IntKind.i16.wrap x1_0.1.n), .pointer p1_1, .slice a1_2 (lT x1_2.1).length c1_2, .map none] : List Value) rfl
              refine tfN (.tail .head) ?_
              refine fun a_ w_ hA hw => ⟨hkl1, _, _, _, hA.sub ?_, (le_4.trans (le_6.trans (le_7.trans (le_8.trans hlf1_2)))), hw, _, _, _, rfl, rfl, (by rw [rMany_succ]; show RdAt _ 232 b_1 (decP fs_sDeleteACLsResponseResult v false (rMany (decV 10 (decP fs_sDeleteACLsResponseResult v false) false false) k1 (rArr false x0.2).2).2).2 _; rw [hD1_]; exact hRx1_2), (by rw [← hfs1]; exact hrw1), (dec_els he_1), (fun p hp => (mem_snoc hp).elim (fun h => At_DeleteACLsResponseResult.mono _ _ _ _ (le_6.trans (le_7.trans (le_8.trans hlf1_2))) (hg_1 p h)) (fun h => h ▸ (by show At_DeleteACLsResponseResult _ (decP fs_sDeleteACLsResponseResult v false (rMany (decV 10 (decP fs_sDeleteACLsResponseResult v false) false false) k1 (rArr false x0.2).2).2).1 [.int .i16 (IntKind.i16.wrap x1_0.1.n), .pointer p1_1, .slice a1_2 (lT x1_2.1).length c1_2, .map none]; rw [hD1_]; exact ⟨p1_1, a1_2, c1_2, none, rfl, (hf1_1.mono (le_7.trans (le_8.trans hlf1_2))), hf1_2, (KvAt.nil _)⟩)))⟩
              exact (.cons rfl (.cons rfl (.cons rfl (.cons rfl (.cons rfl (.cons rfl (.cons rfl (.cons rfl (.cons rfl (.nil _))))))))))
      · skip
        have hkn_ : k1 = (lT x1.1).length := by omega
        subst hkn_
        have hw2_1 : Row 134 4 a1 (lT x1.1).length c1 (es1.flatMap fk) M1 := by have h := hw_1; rw [Nat.sub_self] at h; simpa [reps] using h
        refine frW hw2_1 .head (fun Hf1 hlf1 hfz1 => ?_)
        have hrs1 := RowsAt.row (R := At_DeleteACLsResponseResult) hfz1 hs_1.symm hw2_1.le.1 (fun p hp => At_DeleteACLsResponseResult.mono _ _ _ _ hlf1 (hg_1 p hp))
        rw [he_1] at hrs1
        have hf1 : ListAt Hf1 x1.1 4 At_DeleteACLsResponseResult a1 c1 := by rw [ex1]; exact listAt_of hrs1 hi1 (fun h => by have h1 := nul_le h; rw [show (lT x1.1).length = 0 by omega]; rfl)
        have hRx1 : RdAt Hf1 232 b_1 x1.2 RN1 := by rw [ex1]; exact (hR_1.mono hlf1)
        refine exX ?_
        refine XT ?_
        refine XT ?_
        refine Xb ?_
        refine Nt ?_
        refine sr ?_
        refine mv rfl rfl ?_
        refine asg rfl rfl ?_
        refine nl ?_
        refine rg ?_
        refine mv rfl rfl ?_
        refine mv rfl rfl ?_
        refine nc rfl rfl ?_
        refine fa0 F128_2 rfl rfl ?_
        refine st Tryz.sizeOf126 rfl rfl rfl rfl (.tail .head) ?_
        refine nl ?_
        refine sq ?_
        refine sr ?_
        refine mv rfl rfl ?_
        refine nl ?_
        refine cdF rfl (by omega) ?_
        refine skt ?_
        refine sr ?_
        refine cl rfl rfl rfl (r_complete hRx1 (he.mono (le_3.trans (le_4.trans hlf1)))) rfl (fun v_ H1 L1 hle_ hR_ => ?_)
        obtain ⟨rfl, rfl, rfl⟩ := hR_
        refine asg rfl rfl ?_
        refine nl ?_
        refine drW .head ?_
        obtain rfl : u = ([], x1.2) := hu
        have hA_ := (show At_DeleteACLsResponse v _ (decP fs_DeleteACLsResponse v false _).1 [.int .i16 v, .int .i32 (IntKind.i32.wrap x0.1.n), .slice a1 (lT x1.1).length c1, .map none] from (by rw [hD]; exact ⟨a1, c1, none, rfl, hf1, (KvAt.nil _)⟩))
        refine rT rfl rfl (le_3.trans (le_4.trans hlf1)) (fun _ _ h => h) ⟨_, rfl, ?_⟩
        have hz := RdEnd.of (e := e) hA_
        rw [show (decP fs_DeleteACLsResponse v false _).2.bad = x1.2.bad by rw [hD]] at hz
        exact hz
theorem rd_DeleteACLsResponse_t {H : Fz} {L : Own} {b : Nat} {v : Int} {a : Option Addr} {c : Nat} {s : List UInt8} {e : Value} (hB : BytesAt H a c s) (hL_ : s.length ≤ BR) (he : H.at 1 0 [e]) (hv0 : 2 ≤ v) (hv1 : v ≤ 3) :
    Fn Tryz.prog 152 [.pointer (some ⟨b, 0, none⟩), .slice a s.length c, .bool false] H ([(b, .cells [.int .i16 v, .int .i32 0, .slice none 0 0, .map none].toArray 128 (0, 0))] :: L) (fun r H' L' => ∃ cs : List Value, L' = [(b, .cells cs.toArray 128 (0, 0))] :: L ∧ RdEnd H' (At_DeleteACLsResponse v) (decP fs_DeleteACLsResponse v true ⟨s, false, !a.isNone⟩) e r cs) := by
  refine Fn.mk Tryz.call152 Tryz.func152 rfl Tryz.ntmps152 rfl ?_
  refine sr ?_
  refine asg rfl rfl ?_
  refine nl ?_
  refine sr ?_
  refine mv rfl rfl ?_
  refine cl rfl rfl rfl def0_DeleteACLsResponse rfl (fun v_ H1 L1 hle_ hR_ => ?_)
  obtain ⟨rfl, rfl⟩ := hR_
  refine nl ?_
  refine sr ?_
  refine mv rfl rfl ?_
  refine bd' S232 rfl rfl rfl ?_
  refine al Tryz.zeroValue232 rfl rfl (fun b_1 => ?_)
  refine sa Tryz.sizeOf232 rfl rfl rfl rfl rfl .head ?_
  have hR0_ : RdAt H 232 b_1 ⟨s, false, !a.isNone⟩ [(b_1, .cells [_, _].toArray 232 (0, 0))] := ⟨a, c, rfl, hB, by simp⟩
  obtain ⟨x0, hx0⟩ : ∃ x, x = stepF (Fd.mk 3 0 (-1) (-1) (-1) 0 0 []) v true ⟨s, false, !a.isNone⟩ := ⟨_, rfl⟩
  obtain ⟨x1, hx1⟩ : ∃ x, x = stepF (Fd.mk 11 0 (-1) (-1) (-1) 0 10 fs_sDeleteACLsResponseResult) v true x0.2 := ⟨_, rfl⟩
  obtain ⟨u, hu⟩ : ∃ x, x = tailU true x1.2 := ⟨_, rfl⟩
  have hD : decP fs_DeleteACLsResponse v true ⟨s, false, !a.isNone⟩ = (.mk 0 [] false [x0.1, x1.1] u.1, u.2) := by
    generalize (⟨s, false, !a.isNone⟩ : Rd) = r_ at hx0 ⊢
    rw [decP_eq]; unfold fs_DeleteACLsResponse; simp only [decFs_cons, decFs_nil, ← hx0, ← hx1, ← hu]
  have hL0 : x0.2.s.length ≤ BR := by rw [hx0]; exact Nat.le_trans (stepF_shr _ _ _ _) hL_
  have hL1 : x1.2.s.length ≤ BR := by rw [hx1]; exact Nat.le_trans (stepF_shr _ _ _ _) hL0
  have hE : u.2.bad = true → (decP fs_DeleteACLsResponse v true ⟨s, false, !a.isNone⟩).2.bad = true := fun h => by rw [hD]; exact h
  have hB1 : x1.2.bad = true → (decP fs_DeleteACLsResponse v true ⟨s, false, !a.isNone⟩).2.bad = true := fun h => hE (by rw [hu]; exact tailU_bad h)
  have hB0 : x0.2.bad = true → (decP fs_DeleteACLsResponse v true ⟨s, false, !a.isNone⟩).2.bad = true := fun h => hB1 (by rw [hx1]; exact step_bad h)
  refine nl ?_
  refine sr ?_
  refine mv rfl rfl ?_
  refine nc rfl rfl ?_
  refine fa0 F128_0 rfl rfl ?_
  refine ld (Says.own (.tail .head)) Tryz.isAgg51 rfl (Nat.zero_add _).symm rfl rfl ?_
  refine asg rfl rfl ?_
  refine nl ?_
  refine sr ?_
  refine mv rfl rfl ?_
  refine nl ?_
  refine sr ?_
  refine mv rfl rfl ?_
  refine ge rfl rfl rfl ?_
  refine asg rfl rfl ?_
  refine nl ?_
  refine sr ?_
  refine mv rfl rfl ?_
  refine nl ?_
  refine sr ?_
  refine mv rfl rfl ?_
  refine asg rfl rfl ?_
  refine nl ?_
  refine sq ?_
  refine sr ?_
  have ex0 : x0 = decV 3 (decP [] v true) false true ⟨s, false, !a.isNone⟩ := (hx0.trans (step_yes (by decide) (show (0 : Int) ≤ v by omega) (Or.inl (by decide)))).trans (decF'_val (by decide) (rfl))
  refine cl rfl rfl rfl (d3 hR0_ ex0) rfl (fun v_ H1 L1 hle_ hR_ => ?_)
  obtain ⟨N56, rfl, hR56, rfl, rfl⟩ := hR_
  refine asg rfl rfl ?_
  refine nl ?_
  refine rg ?_
  refine mv rfl rfl ?_
  refine mv rfl rfl ?_
  refine nc rfl rfl ?_
  refine fa0 F128_1 rfl rfl ?_
  refine st Tryz.sizeOf21 rfl rfl rfl rfl (.tail .head) ?_
  refine nl ?_
  refine sq ?_
  refine sr ?_
  refine mv rfl rfl ?_
  refine nc rfl rfl ?_
  refine fa0 F128_2 rfl rfl ?_
  refine ld (Says.own (.tail .head)) Tryz.isAgg126 rfl (Nat.zero_add _).symm rfl rfl ?_
  refine asg rfl rfl ?_
  refine nl ?_
  refine sr ?_
  refine mv rfl rfl ?_
  refine asg rfl rfl ?_
  refine nl ?_
  refine sr ?_
  refine asg rfl rfl ?_
  refine nl ?_
  refine sq ?_
  refine sr ?_
  refine mv rfl rfl ?_
  refine nl ?_
  refine cdT rfl (by omega) ?_
  refine rg ?_
  have ey1 : x1 = (.mk 0 [] (if 0 ≤ ((-1) : Int) ∧ (v < ((-1) : Int) ∨ (rArr true x0.2).1 = 0) then false else decide ((rArr true x0.2).1 ≤ 0)) (rMany (decV 10 (decP fs_sDeleteACLsResponseResult v true) false true) (rArr true x0.2).1.toNat (rArr true x0.2).2).1 [], (rMany (decV 10 (decP fs_sDeleteACLsResponseResult v true) false true) (rArr true x0.2).1.toNat (rArr true x0.2).2).2) := (hx1.trans (step_yes (by decide) (show (0 : Int) ≤ v by omega) (Or.inl (by decide)))).trans (decF'_list rfl rfl)
  have hn1 : (rArr true x0.2).1.toNat = (lT x1.1).length := by rw [ey1]; exact (lT_many nul_le).symm
  have ex1 := ey1
  rw [hn1] at ex1
  have hl1 := rArr_le true x0.2
  have hm1 : (rArr true x0.2).2.s.length ≤ BR := Nat.le_trans (rArr_len true x0.2) hL0
  have hnb1 : (lT x1.1).length ≤ BR := by omega
  refine cl rfl rfl rfl (r_arrt hR56) rfl (fun v_ H1 L1 hle_ hR_ => ?_)
  obtain ⟨rfl, N67, rfl, hR67, rfl⟩ := hR_
  have hh1 := rArr_hi true x0.2
  refine asg rfl rfl ?_
  refine nl ?_
  refine sq ?_
  refine sr ?_
  refine cl rfl rfl rfl (r_ok hR67) rfl (fun v_ H1 L1 hle_ hR_ => ?_)
  obtain ⟨rfl, rfl, rfl⟩ := hR_
  refine nt rfl rfl ?_
  refine nl ?_
  refine cb rfl (fun h70 => ?_) (fun h70 => ?_)
  · skip
    have hbad_ : (rArr true x0.2).2.bad = true := by simpa using h70
    refine sr ?_
    refine cl rfl rfl rfl (r_complete hR67 he) rfl (fun v_ H1 L1 hle_ hR_ => ?_)
    obtain ⟨rfl, rfl, rfl⟩ := hR_
    refine asg rfl rfl ?_
    refine nl ?_
    refine drW .head ?_
    exact rT rfl rfl (Fz.le.refl _) (fun _ _ h => h) ⟨_, rfl, RdEnd.out (hB1 (by rw [ey1]; exact rMany_bad (fun r h => decV_bad (decP_bad _ _ _) h) _ _ hbad_)) hbad_⟩
  · skip
    refine skt ?_
    refine sr ?_
    refine mv rfl rfl ?_
    refine sh' (j := 0) Tryz.runUnderlying126 Tryz.sizeOf134 rfl rfl rfl (Nat.zero_le _) rfl ?_
    refine asg rfl rfl ?_
    refine nl ?_
    refine sq ?_
    refine sr ?_
    refine mv rfl rfl ?_
    refine gt rfl rfl rfl ?_
    refine nl ?_
    refine nulC2 ?_
    refine cutT (fun l' H' L' => ∃ (a1 : Option Addr), ∃ (c1 : Nat), ∃ (Nr1 : Chunk), [(2, .bool false), (7, .pointer (some ⟨b_1, 0, none⟩)), (8, .int .i16 v), (9, .bool (decide ((2 : Int) ≤ v))), (10, .pointer (some ⟨b, 0, none⟩)), (12, .slice none 0 0), (13, .slice a1 (lT x1.1).length c1), (14, .int .i32 (rArr true x0.2).1)] = l' ∧ Nr1 :: N67 :: [(b, .cells [.int .i16 v, .int .i32 (IntKind.i32.wrap x0.1.n), .slice none 0 0, .map none].toArray 128 (0, 0))] :: L = L' ∧ Row 134 4 a1 (lT x1.1).length c1 (reps [.int .i16 0, .pointer none, .slice none 0 0, .map none] (lT x1.1).length) Nr1 ∧ a1.isNone = (if 0 ≤ ((-1) : Int) ∧ (v < ((-1) : Int) ∨ (rArr true x0.2).1 = 0) then false else decide ((rArr true x0.2).1 ≤ 0))) ?_ (fun l' H' L' le_3 hI => ?_)
    · skip
      refine cd rfl (fun h75 => ?_) (fun h75 => ?_)
      · skip
        refine rg ?_
        refine mv rfl rfl ?_
        refine mv rfl rfl ?_
        refine apz (zs := [.int .i16 0, .pointer none, .slice none 0 0, .map none]) (m := (lT x1.1).length) Tryz.underlying126 Tryz.underlying21 I134 rfl rfl rfl (by omega) (by omega) (by have h9 := hnb1; unfold BR at h9; omega) (by have h9 := hnb1; unfold BR at h9; unfold maxLen; omega) rfl (fun g78 cp78 N78 r78 => ?_)
        refine asg rfl rfl ?_
        refine nN ?_
        refine drN (.tail .head) ?_
        refine fun a_ w_ hA hw => ⟨_, _, _, hA.sub ?_, (Fz.le.refl _), hw, (some ⟨g78, 0, none⟩), cp78, N78, rfl, rfl, r78, (by rw [if_neg (by omega)]; exact (decide_eq_false (by omega)).symm)⟩
        exact (.cons rfl (.cons rfl (.cons rfl (.cons rfl (.cons rfl (.cons rfl (.cons rfl (.cons rfl (.nil _)))))))))
      · skip
        refine skN ?_
        refine fun a_ w_ hA hw => ⟨_, _, _, hA.sub ?_, (Fz.le.refl _), hw, none, 0, [], rfl, rfl, (by rw [show (lT x1.1).length = 0 by omega]; exact (Row.nil _ _)), (by rw [if_neg (by omega)]; exact (decide_eq_true (by omega)).symm)⟩
        exact (.cons rfl (.cons rfl (.cons rfl (.cons rfl (.cons rfl (.cons rfl (.cons (by rw [show (lT x1.1).length = 0 by omega]; rfl) (.cons rfl (.nil _)))))))))
    · skip
      obtain ⟨a1, c1, Nr1, rfl, rfl, pj0, pj1⟩ := hI
      have hr1 := pj0
      have hi1 := pj1
      refine sq ?_
      refine sr ?_
      refine asg rfl rfl ?_
      refine nl ?_
      refine bl (lp ((lT x1.1).length) (fun k1 l' H' L' => ∃ (es1 : List (KE 4)) (M1 RN1 : Chunk), [(2, .bool false), (7, .pointer (some ⟨b_1, 0, none⟩)), (8, .int .i16 v), (9, .bool (decide ((2 : Int) ≤ v))), (10, .pointer (some ⟨b, 0, none⟩)), (12, .slice none 0 0), (13, .slice a1 (lT x1.1).length c1), (14, .int .i32 (rArr true x0.2).1), (15, .int .i32 (k1 : Int))] = l' ∧ M1 :: RN1 :: [(b, .cells [.int .i16 v, .int .i32 (IntKind.i32.wrap x0.1.n), .slice none 0 0, .map none].toArray 128 (0, 0))] :: L = L' ∧ RdAt H' 232 b_1 (rMany (decV 10 (decP fs_sDeleteACLsResponseResult v true) false true) k1 (rArr true x0.2).2).2 RN1 ∧ Row 134 4 a1 (lT x1.1).length c1 (es1.flatMap fk ++ reps [.int .i16 0, .pointer none, .slice none 0 0, .map none] ((lT x1.1).length - k1)) M1 ∧ es1.map (·.2) = (rMany (decV 10 (decP fs_sDeleteACLsResponseResult v true) false true) k1 (rArr true x0.2).2).1 ∧ ∀ p ∈ es1, At_DeleteACLsResponseResult H' p.2 (fk p)) [(2, .bool false), (7, .pointer (some ⟨b_1, 0, none⟩)), (8, .int .i16 v), (9, .bool (decide ((2 : Int) ≤ v))), (10, .pointer (some ⟨b, 0, none⟩)), (12, .slice none 0 0), (13, .slice a1 (lT x1.1).length c1), (14, .int .i32 (rArr true x0.2).1), (15, .int .i32 (0 : Int))] (.cons rfl (.cons rfl (.cons rfl (.cons rfl (.cons rfl (.cons rfl (.cons rfl (.cons rfl (.cons rfl (.nil _)))))))))) ⟨[], Nr1, _, rfl, rfl, (hR67.mono le_3), hr1, rfl, (fun p hp => by cases hp)⟩ (fun k1 l' H' L' hk1 le_4 hI => ?_))
      obtain ⟨es1, M1, RN1, rfl, rfl, hR_1, hw_1, he_1, hg_1⟩ := hI
      have hs_1 := els_len he_1
      have hp_1 : (es1.flatMap fk).length = k1 * 4 := els_flat hs_1
      refine sq ?_
      refine sr ?_
      refine mv rfl rfl ?_
      refine mv rfl rfl ?_
      refine lt rfl rfl rfl ?_
      refine nl ?_
      refine cd rfl (fun h81 => ?_) (fun h81 => ?_)
      · skip
        have hkl1 : k1 < (lT x1.1).length := by omega
        obtain ⟨g1, po1, hga1, rfl, hbk1⟩ := hw_1.next (zs := [.int .i16 0, .pointer none, .slice none 0 0, .map none]) hkl1 rfl (by decide)
        have ho1 : 0 + k1 * 4 = (es1.flatMap fk).length := by rw [hp_1]; omega
        have hbz1 : ((decV 10 (decP fs_sDeleteACLsResponseResult v true) false true) (rMany (decV 10 (decP fs_sDeleteACLsResponseResult v true) false true) k1 (rArr true x0.2).2).2).2.bad = true → (decP fs_DeleteACLsResponse v true ⟨s, false, !a.isNone⟩).2.bad = true := fun h => hB1 (by rw [ex1]; exact rMany_mono (fun r h => decV_bad (fun r h => decP_bad _ _ _ r h) h) _ (show k1 + 1 ≤ (lT x1.1).length from hkl1) (by rw [rMany_succ]; exact h))
        have hLk1 : (rMany (decV 10 (decP fs_sDeleteACLsResponseResult v true) false true) k1 (rArr true x0.2).2).2.s.length ≤ BR := Nat.le_trans (rMany_shr (fun r => decV_shr (fun r => decP_shr _ _ _ r) r) _ _) hm1
        have hL1__ := hLk1
        obtain ⟨x1_0, hx1_0⟩ : ∃ x, x = stepF (Fd.mk 2 0 (-1) (-1) (-1) 0 0 []) v true (rMany (decV 10 (decP fs_sDeleteACLsResponseResult v true) false true) k1 (rArr true x0.2).2).2 := ⟨_, rfl⟩
        obtain ⟨x1_1, hx1_1⟩ : ∃ x, x = stepF (Fd.mk 8 0 (-1) 0 (-1) 0 0 []) v true x1_0.2 := ⟨_, rfl⟩
        obtain ⟨x1_2, hx1_2⟩ : ∃ x, x = stepF (Fd.mk 11 0 (-1) (-1) (-1) 0 10 fs_sDeleteACLsResponseResultMatchingACL) v true x1_1.2 := ⟨_, rfl⟩
        obtain ⟨u1_, hu1_⟩ : ∃ x, x = tailU true x1_2.2 := ⟨_, rfl⟩
        have hD1_ : decP fs_sDeleteACLsResponseResult v true (rMany (decV 10 (decP fs_sDeleteACLsResponseResult v true) false true) k1 (rArr true x0.2).2).2 = (.mk 0 [] false [x1_0.1, x1_1.1, x1_2.1] u1_.1, u1_.2) := by
          generalize ((rMany (decV 10 (decP fs_sDeleteACLsResponseResult v true) false true) k1 (rArr true x0.2).2).2 : Rd) = r_ at hx1_0 ⊢
          rw [decP_eq]; unfold fs_sDeleteACLsResponseResult; simp only [decFs_cons, decFs_nil, ← hx1_0, ← hx1_1, ← hx1_2, ← hu1_]
        have hL1_0 : x1_0.2.s.length ≤ BR := by rw [hx1_0]; exact Nat.le_trans (stepF_shr _ _ _ _) hL1__
        have hL1_1 : x1_1.2.s.length ≤ BR := by rw [hx1_1]; exact Nat.le_trans (stepF_shr _ _ _ _) hL1_0
        have hL1_2 : x1_2.2.s.length ≤ BR := by rw [hx1_2]; exact Nat.le_trans (stepF_shr _ _ _ _) hL1_1
        have hE1_ : u1_.2.bad = true → (decP fs_DeleteACLsResponse v true ⟨s, false, !a.isNone⟩).2.bad = true := fun h => hbz1 (by show (decP fs_sDeleteACLsResponseResult v true (rMany (decV 10 (decP fs_sDeleteACLsResponseResult v true) false true) k1 (rArr true x0.2).2).2).2.bad = true; rw [hD1_]; exact h)
        have hB1_2 : x1_2.2.bad = true → (decP fs_DeleteACLsResponse v true ⟨s, false, !a.isNone⟩).2.bad = true := fun h => hE1_ (by rw [hu1_]; exact tailU_bad h)
        have hB1_1 : x1_1.2.bad = true → (decP fs_DeleteACLsResponse v true ⟨s, false, !a.isNone⟩).2.bad = true := fun h => hB1_2 (by rw [hx1_2]; exact step_bad h)
        have hB1_0 : x1_0.2.bad = true → (decP fs_DeleteACLsResponse v true ⟨s, false, !a.isNone⟩).2.bad = true := fun h => hB1_1 (by rw [hx1_1]; exact step_bad h)
        refine skt ?_
        refine sq ?_
        refine bl ?_
        refine sr ?_
        refine mv rfl rfl ?_
        refine mv rfl rfl ?_
        refine ixk (j := k1) Tryz.runUnderlying126 Tryz.sizeOf134 rfl hga1 rfl rfl hkl1 rfl ?_
        refine asg rfl rfl ?_
        refine nl ?_
        refine sr ?_
        refine mv rfl rfl ?_
        refine cl rfl rfl rfl (def_DeleteACLsResponseResult ho1) rfl (fun v_ H1 L1 hle_ hR_ => ?_)
        obtain ⟨rfl, rfl⟩ := hR_
        refine nl ?_
        refine sr ?_
        refine mv rfl rfl ?_
        refine asg rfl rfl ?_
        refine nl ?_
        refine sq ?_
        refine sr ?_
        refine tf (.tail .head) ?_
        have ex1_0 : x1_0 = decV 2 (decP [] v true) false true (rMany (decV 10 (decP fs_sDeleteACLsResponseResult v true) false true) k1 (rArr true x0.2).2).2 := (hx1_0.trans (step_yes (by decide) (show (0 : Int) ≤ v by omega) (Or.inl (by decide)))).trans (decF'_val (by decide) (rfl))
        refine cl rfl rfl rfl (d2 hR_1 ex1_0) rfl (fun v_ H1 L1 hle_ hR_ => ?_)
        obtain ⟨N90, rfl, hR90, rfl, rfl⟩ := hR_
        refine asg rfl rfl ?_
        refine nl ?_
        refine rg ?_
        refine mv rfl rfl ?_
        refine mv rfl rfl ?_
        refine nc rfl rfl ?_
        refine fa F134_0 rfl rfl ?_
        refine stM (off := 0) Tryz.sizeOf51 rfl (by rw [ho1]) rfl rfl rfl (.tail .head) ?_
        refine nl ?_
        refine sq ?_
        refine sr ?_
        refine asg rfl rfl ?_
        refine nl ?_
        refine sq ?_
        refine sr ?_
        refine mv rfl rfl ?_
        refine nl ?_
        refine cdT rfl (by omega) ?_
        refine sr ?_
        refine mv rfl rfl ?_
        refine nl ?_
        refine cF rfl ?_
        refine rg ?_
        have ex1_1 : x1_1 = decV 8 (decP [] v true) true true x1_0.2 := (hx1_1.trans (step_yes (by decide) (show (0 : Int) ≤ v by omega) (Or.inl (by decide)))).trans (decF'_val (by decide) (by simp only [Bool.and_eq_true, decide_eq_true_eq]; exact ⟨show (0 : Int) ≤ 0 by decide, show (0 : Int) ≤ v by omega⟩))
        refine cl rfl rfl rfl (d8tn hR90 ex1_1) rfl (fun v_ H1 L1 le_6 hR_ => ?_)
        obtain ⟨N98, rfl, hR98, p1_1, rfl, hf1_1⟩ := hR_
        refine asg rfl rfl ?_
        refine nl ?_
        refine rg ?_
        refine mv rfl rfl ?_
        refine mv rfl rfl ?_
        refine nc rfl rfl ?_
        refine fa F134_1 rfl rfl ?_
        refine stM (off := 1) Tryz.sizeOf131 rfl (by rw [ho1]) rfl rfl rfl (.tail .head) ?_
        refine nl ?_
        refine sq ?_
        refine sr ?_
        refine mv rfl rfl ?_
        refine nc rfl rfl ?_
        refine fa F134_2 rfl rfl ?_
        refine ld (j := 2) (off := 0 + k1 * 4) (Says.mid (.tail .head) ho1) Tryz.isAgg132 rfl rfl rfl rfl ?_
        refine asg rfl rfl ?_
        refine nl ?_
        refine sr ?_
        refine mv rfl rfl ?_
        refine asg rfl rfl ?_
        refine nl ?_
        refine sr ?_
        refine asg rfl rfl ?_
        refine nl ?_
        refine sq ?_
        refine sr ?_
        refine mv rfl rfl ?_
        refine nl ?_
        refine cdT rfl (by omega) ?_
        refine rg ?_
        have ey1_2 : x1_2 = (.mk 0 [] (if 0 ≤ ((-1) : Int) ∧ (v < ((-1) : Int) ∨ (rArr true x1_1.2).1 = 0) then false else decide ((rArr true x1_1.2).1 ≤ 0)) (rMany (decV 10 (decP fs_sDeleteACLsResponseResultMatchingACL v true) false true) (rArr true x1_1.2).1.toNat (rArr true x1_1.2).2).1 [], (rMany (decV 10 (decP fs_sDeleteACLsResponseResultMatchingACL v true) false true) (rArr true x1_1.2).1.toNat (rArr true x1_1.2).2).2) := (hx1_2.trans (step_yes (by decide) (show (0 : Int) ≤ v by omega) (Or.inl (by decide)))).trans (decF'_list rfl rfl)
        have hn1_2 : (rArr true x1_1.2).1.toNat = (lT x1_2.1).length := by rw [ey1_2]; exact (lT_many nul_le).symm
        have ex1_2 := ey1_2
        rw [hn1_2] at ex1_2
        have hl1_2 := rArr_le true x1_1.2
        have hm1_2 : (rArr true x1_1.2).2.s.length ≤ BR := Nat.le_trans (rArr_len true x1_1.2) hL1_1
        have hnb1_2 : (lT x1_2.1).length ≤ BR := by omega
        refine cl rfl rfl rfl (r_arrt hR98) rfl (fun v_ H1 L1 hle_ hR_ => ?_)
        obtain ⟨rfl, N112, rfl, hR112, rfl⟩ := hR_
        have hh1_2 := rArr_hi true x1_1.2
        refine asg rfl rfl ?_
        refine nl ?_
        refine sq ?_
        refine sr ?_
        refine cl rfl rfl rfl (r_ok hR112) rfl (fun v_ H1 L1 hle_ hR_ => ?_)
        obtain ⟨rfl, rfl, rfl⟩ := hR_
        refine nt rfl rfl ?_
        refine nl ?_
        refine cb rfl (fun h115 => ?_) (fun h115 => ?_)
        · skip
          have hbad_ : (rArr true x1_1.2).2.bad = true := by simpa using h115
          refine sr ?_
          refine cl rfl rfl rfl (r_complete hR112 (he.mono (le_3.trans (le_4.trans le_6)))) rfl (fun v_ H1 L1 hle_ hR_ => ?_)
          obtain ⟨rfl, rfl, rfl⟩ := hR_
          refine asg rfl rfl ?_
          refine nl ?_
          refine drW .head ?_
          refine drW .head ?_
          exact rT rfl rfl (le_3.trans (le_4.trans le_6)) (fun _ _ h => h) ⟨_, rfl, RdEnd.out (hB1_2 (by rw [ey1_2]; exact rMany_bad (fun r h => decV_bad (decP_bad _ _ _) h) _ _ hbad_)) hbad_⟩
        · skip
          refine skt ?_
          refine sr ?_
          refine mv rfl rfl ?_
          refine sh' (j := 0) Tryz.runUnderlying132 Tryz.sizeOf257 rfl rfl rfl (Nat.zero_le _) rfl ?_
          refine asg rfl rfl ?_
          refine nl ?_
          refine sq ?_
          refine sr ?_
          refine mv rfl rfl ?_
          refine gt rfl rfl rfl ?_
          refine nl ?_
          refine nulC2 ?_
          refine cutT (fun l' H' L' => ∃ (a1_2 : Option Addr), ∃ (c1_2 : Nat), ∃ (Nr1_2 : Chunk), [(2, .bool false), (7, .pointer (some ⟨b_1, 0, none⟩)), (8, .int .i16 v), (9, .bool (decide ((2 : Int) ≤ v))), (10, .pointer (some ⟨b, 0, none⟩)), (12, .slice none 0 0), (13, .slice a1 (lT x1.1).length c1), (14, .int .i32 (rArr true x0.2).1), (15, .int .i32 (k1 : Int)), (17, .pointer (some ⟨g1, 0 + k1 * 4, none⟩)), (20, .slice none 0 0), (21, .slice a1_2 (lT x1_2.1).length c1_2), (22, .int .i32 (rArr true x1_1.2).1)] = l' ∧ Nr1_2 :: N112 :: [(g1, .cells ((es1.flatMap fk) ++ ([.int .i16 (IntKind.i16.wrap x1_0.1.n), .pointer p1_1, .slice none 0 0, .map none] : List Value) ++ po1).toArray 134 (0, 0))] :: [(b, .cells [.int .i16 v, .int .i32 (IntKind.i32.wrap x0.1.n), .slice none 0 0, .map none].toArray 128 (0, 0))] :: L = L' ∧ Row 257 10 a1_2 (lT x1_2.1).length c1_2 (reps [.int .i16 0, .pointer none, .int .i8 0, .string ⟨#[]⟩, .int .i8 0, .string ⟨#[]⟩, .string ⟨#[]⟩, .int .i8 0, .int .i8 0, .map none] (lT x1_2.1).length) Nr1_2 ∧ a1_2.isNone = (if 0 ≤ ((-1) : Int) ∧ (v < ((-1) : Int) ∨ (rArr true x1_1.2).1 = 0) then false else decide ((rArr true x1_1.2).1 ≤ 0))) ?_ (fun l' H' L' le_7 hI => ?_)
          · skip
            refine cd rfl (fun h120 => ?_) (fun h120 => ?_)
            · skip
              refine rg ?_
              refine mv rfl rfl ?_
              refine mv rfl rfl ?_
              refine apz (zs := [.int .i16 0, .pointer none, .int .i8 0, .string ⟨#[]⟩, .int .i8 0, .string ⟨#[]⟩, .string ⟨#[]⟩, .int .i8 0, .int .i8 0, .map none]) (m := (lT x1_2.1).length) Tryz.underlying132 Tryz.underlying21 I257 rfl rfl rfl (by omega) (by omega) (by have h9 := hnb1_2; unfold BR at h9; omega) (by have h9 := hnb1_2; unfold BR at h9; unfold maxLen; omega) rfl (fun g123 cp123 N123 r123 => ?_)
              refine asg rfl rfl ?_
              refine nN ?_
              refine drN (.tail .head) ?_
              refine fun a_ w_ hA hw => ⟨_, _, _, hA.sub ?_, (Fz.le.refl _), hw, (some ⟨g123, 0, none⟩), cp123, N123, rfl, rfl, r123, (by rw [if_neg (by omega)]; exact (decide_eq_false (by omega)).symm)⟩
              exact (.cons rfl (.cons rfl (.cons rfl (.cons rfl (.cons rfl (.cons rfl (.cons rfl (.cons rfl (.cons rfl (.cons rfl (.cons rfl (.cons rfl (.cons rfl (.nil _))))))))))))))
            · skip
              refine skN ?_
              refine fun a_ w_ hA hw => ⟨_, _, _, hA.sub ?_, (Fz.le.refl _), hw, none, 0, [], rfl, rfl, (by rw [show (lT x1_2.1).length = 0 by omega]; exact (Row.nil _ _)), (by rw [if_neg (by omega)]; exact (decide_eq_true (by omega)).symm)⟩
              exact (.cons rfl (.cons rfl (.cons rfl (.cons rfl (.cons rfl (.cons rfl (.cons rfl (.cons rfl (.cons rfl (.cons rfl (.cons rfl (.cons (by rw [show (lT x1_2.1).length = 0 by omega]; rfl) (.cons rfl (.nil _))))))))))))))
          · skip
            obtain ⟨a1_2, c1_2, Nr1_2, rfl, rfl, pj0, pj1⟩ := hI
            have hr1_2 := pj0
            have hi1_2 := pj1
            refine sq ?_
            refine sr ?_
            refine asg rfl rfl ?_
            refine nl ?_
            refine bl (lp ((lT x1_2.1).length) (fun k1_2 l' H' L' => ∃ (es1_2 : List (KE 10)) (M1_2 RN1_2 : Chunk), [(2, .bool false), (7, .pointer (some ⟨b_1, 0, none⟩)), (8, .int .i16 v), (9, .bool (decide ((2 : Int) ≤ v))), (10, .pointer (some ⟨b, 0, none⟩)), (12, .slice none 0 0), (13, .slice a1 (lT x1.1).length c1), (14, .int .i32 (rArr true x0.2).1), (15, .int .i32 (k1 : Int)), (17, .pointer (some ⟨g1, 0 + k1 * 4, none⟩)), (20, .slice none 0 0), (21, .slice a1_2 (lT x1_2.1).length c1_2), (22, .int .i32 (rArr true x1_1.2).1), (23, .int .i32 (k1_2 : Int))] = l' ∧ M1_2 :: RN1_2 :: [(g1, .cells ((es1.flatMap fk) ++ ([.int .i16 (IntKind.i16.wrap x1_0.1.n), .pointer p1_1, .slice none 0 0, .map none] : List Value) ++ po1).toArray 134 (0, 0))] :: [(b, .cells [.int .i16 v, .int .i32 (IntKind.i32.wrap x0.1.n), .slice none 0 0, .map none].toArray 128 (0, 0))] :: L = L' ∧ RdAt H' 232 b_1 (rMany (decV 10 (decP fs_sDeleteACLsResponseResultMatchingACL v true) false true) k1_2 (rArr true x1_1.2).2).2 RN1_2 ∧ Row 257 10 a1_2 (lT x1_2.1).length c1_2 (es1_2.flatMap fk ++ reps [.int .i16 0, .pointer none, .int .i8 0, .string ⟨#[]⟩, .int .i8 0, .string ⟨#[]⟩, .string ⟨#[]⟩, .int .i8 0, .int .i8 0, .map none] ((lT x1_2.1).length - k1_2)) M1_2 ∧ es1_2.map (·.2) = (rMany (decV 10 (decP fs_sDeleteACLsResponseResultMatchingACL v true) false true) k1_2 (rArr true x1_1.2).2).1 ∧ ∀ p ∈ es1_2, At_DeleteACLsResponseResultMatchingACL H' p.2 (fk p)) [(2, .bool false), (7, .pointer (some ⟨b_1, 0, none⟩)), (8, .int .i16 v), (9, .bool (decide ((2 : Int) ≤ v))), (10, .pointer (some ⟨b, 0, none⟩)), (12, .slice none 0 0), (13, .slice a1 (lT x1.1).length c1), (14, .int .i32 (rArr true x0.2).1), (15, .int .i32 (k1 : Int)), (17, .pointer (some ⟨g1, 0 + k1 * 4, none⟩)), (20, .slice none 0 0), (21, .slice a1_2 (lT x1_2.1).length c1_2), (22, .int .i32 (rArr true x1_1.2).1), (23, .int .i32 (0 : Int))] (.cons rfl (.cons rfl (.cons rfl (.cons rfl (.cons rfl (.cons rfl (.cons rfl (.cons rfl (.cons rfl (.cons rfl (.cons rfl (.cons rfl (.cons rfl (.cons rfl (.nil _))))))))))))))) ⟨[], Nr1_2, _, rfl, rfl, (hR112.mono le_7), hr1_2, rfl, (fun p hp => by cases hp)⟩ (fun k1_2 l' H' L' hk1_2 le_8 hI => ?_))
            obtain ⟨es1_2, M1_2, RN1_2, rfl, rfl, hR_1_2, hw_1_2, he_1_2, hg_1_2⟩ := hI
            have hs_1_2 := els_len he_1_2
            have hp_1_2 : (es1_2.flatMap fk).length = k1_2 * 10 := els_flat hs_1_2
            refine sq ?_
            refine sr ?_
            refine mv rfl rfl ?_
            refine mv rfl rfl ?_
            refine lt rfl rfl rfl ?_
            refine nl ?_
            refine cd rfl (fun h126 => ?_) (fun h126 => ?_)
            · skip
              have hkl1_2 : k1_2 < (lT x1_2.1).length := by omega
              obtain ⟨g1_2, po1_2, hga1_2, rfl, hbk1_2⟩ := hw_1_2.next (zs := [.int .i16 0, .pointer none, .int .i8 0, .string ⟨#[]⟩, .int .i8 0, .string ⟨#[]⟩, .string ⟨#[]⟩, .int .i8 0, .int .i8 0, .map none]) hkl1_2 rfl (by decide)
              have ho1_2 : 0 + k1_2 * 10 = (es1_2.flatMap fk).length := by rw [hp_1_2]; omega
              have hbz1_2 : ((decV 10 (decP fs_sDeleteACLsResponseResultMatchingACL v true) false true) (rMany (decV 10 (decP fs_sDeleteACLsResponseResultMatchingACL v true) false true) k1_2 (rArr true x1_1.2).2).2).2.bad = true → (decP fs_DeleteACLsResponse v true ⟨s, false, !a.isNone⟩).2.bad = true := fun h => hB1_2 (by rw [ex1_2]; exact rMany_mono (fun r h => decV_bad (fun r h => decP_bad _ _ _ r h) h) _ (show k1_2 + 1 ≤ (lT x1_2.1).length from hkl1_2) (by rw [rMany_succ]; exact h))
              have hLk1_2 : (rMany (decV 10 (decP fs_sDeleteACLsResponseResultMatchingACL v true) false true) k1_2 (rArr true x1_1.2).2).2.s.length ≤ BR := Nat.le_trans (rMany_shr (fun r => decV_shr (fun r => decP_shr _ _ _ r) r) _ _) hm1_2
              have hL1_2__ := hLk1_2
              obtain ⟨x1_2_0, hx1_2_0⟩ : ∃ x, x = stepF (Fd.mk 2 0 (-1) (-1) (-1) 0 0 []) v true (rMany (decV 10 (decP fs_sDeleteACLsResponseResultMatchingACL v true) false true) k1_2 (rArr true x1_1.2).2).2 := ⟨_, rfl⟩
              obtain ⟨x1_2_1, hx1_2_1⟩ : ∃ x, x = stepF (Fd.mk 8 0 (-1) 0 (-1) 0 0 []) v true x1_2_0.2 := ⟨_, rfl⟩
              obtain ⟨x1_2_2, hx1_2_2⟩ : ∃ x, x = stepF (Fd.mk 1 0 (-1) (-1) (-1) 0 0 []) v true x1_2_1.2 := ⟨_, rfl⟩
              obtain ⟨x1_2_3, hx1_2_3⟩ : ∃ x, x = stepF (Fd.mk 8 0 (-1) (-1) (-1) 0 0 []) v true x1_2_2.2 := ⟨_, rfl⟩
              obtain ⟨x1_2_4, hx1_2_4⟩ : ∃ x, x = stepF (Fd.mk 1 1 (-1) (-1) (-1) 3 0 []) v true x1_2_3.2 := ⟨_, rfl⟩
              obtain ⟨x1_2_5, hx1_2_5⟩ : ∃ x, x = stepF (Fd.mk 8 0 (-1) (-1) (-1) 0 0 []) v true x1_2_4.2 := ⟨_, rfl⟩
              obtain ⟨x1_2_6, hx1_2_6⟩ : ∃ x, x = stepF (Fd.mk 8 0 (-1) (-1) (-1) 0 0 []) v true x1_2_5.2 := ⟨_, rfl⟩
              obtain ⟨x1_2_7, hx1_2_7⟩ : ∃ x, x = stepF (Fd.mk 1 0 (-1) (-1) (-1) 0 0 []) v true x1_2_6.2 := ⟨_, rfl⟩
              obtain ⟨x1_2_8, hx1_2_8⟩ : ∃ x, x = stepF (Fd.mk 1 0 (-1) (-1) (-1) 0 0 []) v true x1_2_7.2 := ⟨_, rfl⟩
              obtain ⟨u1_2_, hu1_2_⟩ : ∃ x, x = tailU true x1_2_8.2 := ⟨_, rfl⟩
              have hD1_2_ : decP fs_sDeleteACLsResponseResultMatchingACL v true (rMany (decV 10 (decP fs_sDeleteACLsResponseResultMatchingACL v true) false true) k1_2 (rArr true x1_1.2).2).2 = (.mk 0 [] false [x1_2_0.1, x1_2_1.1, x1_2_2.1, x1_2_3.1, x1_2_4.1, x1_2_5.1, x1_2_6.1, x1_2_7.1, x1_2_8.1] u1_2_.1, u1_2_.2) := by
                generalize ((rMany (decV 10 (decP fs_sDeleteACLsResponseResultMatchingACL v true) false true) k1_2 (rArr true x1_1.2).2).2 : Rd) = r_ at hx1_2_0 ⊢
                rw [decP_eq]; unfold fs_sDeleteACLsResponseResultMatchingACL; simp only [decFs_cons, decFs_nil, ← hx1_2_0, ← hx1_2_1, ← hx1_2_2, ← hx1_2_3, ← hx1_2_4, ← hx1_2_5, ← hx1_2_6, ← hx1_2_7, ← hx1_2_8, ← hu1_2_]
              have hL1_2_0 : x1_2_0.2.s.length ≤ BR := by rw [hx1_2_0]; exact Nat.le_trans (stepF_shr _ _ _ _) hL1_2__
              have hL1_2_1 : x1_2_1.2.s.length ≤ BR := by rw [hx1_2_1]; exact Nat.le_trans (stepF_shr _ _ _ _) hL1_2_0
              have hL1_2_2 : x1_2_2.2.s.length ≤ BR := by rw [hx1_2_2]; exact Nat.le_trans (stepF_shr _ _ _ _) hL1_2_1
              have hL1_2_3 : x1_2_3.2.s.length ≤ BR := by rw [hx1_2_3]; exact Nat.le_trans (stepF_shr _ _ _ _) hL1_2_2
              have hL1_2_4 : x1_2_4.2.s.length ≤ BR := by rw [hx1_2_4]; exact Nat.le_trans (stepF_shr _ _ _ _) hL1_2_3
              have hL1_2_5 : x1_2_5.2.s.length ≤ BR := by rw [hx1_2_5]; exact Nat.le_trans (stepF_shr _ _ _ _) hL1_2_4
              have hL1_2_6 : x1_2_6.2.s.length ≤ BR := by rw [hx1_2_6]; exact Nat.le_trans (stepF_shr _ _ _ _) hL1_2_5
              have hL1_2_7 : x1_2_7.2.s.length ≤ BR := by rw [hx1_2_7]; exact Nat.le_trans (stepF_shr _ _ _ _) hL1_2_6
              have hL1_2_8 : x1_2_8.2.s.length ≤ BR := by rw [hx1_2_8]; exact Nat.le_trans (stepF_shr _ _ _ _) hL1_2_7
              have hE1_2_ : u1_2_.2.bad = true → (decP fs_DeleteACLsResponse v true ⟨s, false, !a.isNone⟩).2.bad = true := fun h => hbz1_2 (by show (decP fs_sDeleteACLsResponseResultMatchingACL v true (rMany (decV 10 (decP fs_sDeleteACLsResponseResultMatchingACL v true) false true) k1_2 (rArr true x1_1.2).2).2).2.bad = true; rw [hD1_2_]; exact h)
              have hB1_2_8 : x1_2_8.2.bad = true → (decP fs_DeleteACLsResponse v true ⟨s, false, !a.isNone⟩).2.bad = true := fun h => hE1_2_ (by rw [hu1_2_]; exact tailU_bad h)
              have hB1_2_7 : x1_2_7.2.bad = true → (decP fs_DeleteACLsResponse v true ⟨s, false, !a.isNone⟩).2.bad = true := fun h => hB1_2_8 (by rw [hx1_2_8]; exact step_bad h)
              have hB1_2_6 : x1_2_6.2.bad = true → (decP fs_DeleteACLsResponse v true ⟨s, false, !a.isNone⟩).2.bad = true := fun h => hB1_2_7 (by rw [hx1_2_7]; exact step_bad h)
              have hB1_2_5 : x1_2_5.2.bad = true → (decP fs_DeleteACLsResponse v true ⟨s, false, !a.isNone⟩).2.bad = true := fun h => hB1_2_6 (by rw [hx1_2_6]; exact step_bad h)
              have hB1_2_4 : x1_2_4.2.bad = true → (decP fs_DeleteACLsResponse v true ⟨s, false, !a.isNone⟩).2.bad = true := fun h => hB1_2_5 (by rw [hx1_2_5]; exact step_bad h)
              have hB1_2_3 : x1_2_3.2.bad = true → (decP fs_DeleteACLsResponse v true ⟨s, false, !a.isNone⟩).2.bad = true := fun h => hB1_2_4 (by rw [hx1_2_4]; exact step_bad h)
              have hB1_2_2 : x1_2_2.2.bad = true → (decP fs_DeleteACLsResponse v true ⟨s, false, !a.isNone⟩).2.bad = true := fun h => hB1_2_3 (by rw [hx1_2_3]; exact step_bad h)
              have hB1_2_1 : x1_2_1.2.bad = true → (decP fs_DeleteACLsResponse v true ⟨s, false, !a.isNone⟩).2.bad = true := fun h => hB1_2_2 (by rw [hx1_2_2]; exact step_bad h)
              have hB1_2_0 : x1_2_0.2.bad = true → (decP fs_DeleteACLsResponse v true ⟨s, false, !a.isNone⟩).2.bad = true := fun h => hB1_2_1 (by rw [hx1_2_1]; exact step_bad h)
              refine skt ?_
              refine sq ?_
              refine bl ?_
              refine sr ?_
              refine mv rfl rfl ?_
              refine mv rfl rfl ?_
              refine ixk (j := k1_2) Tryz.runUnderlying132 Tryz.sizeOf257 rfl hga1_2 rfl rfl hkl1_2 rfl ?_
              refine asg rfl rfl ?_
              refine nl ?_
              refine sr ?_
              refine mv rfl rfl ?_
              refine cl rfl rfl rfl (def_DeleteACLsResponseResultMatchingACL ho1_2) rfl (fun v_ H1 L1 hle_ hR_ => ?_)
              obtain ⟨rfl, rfl⟩ := hR_
              refine nl ?_
              refine sr ?_
              refine mv rfl rfl ?_
              refine asg rfl rfl ?_
              refine nl ?_
              refine sq ?_
              refine sr ?_
              refine tf (.tail .head) ?_
              have ex1_2_0 : x1_2_0 = decV 2 (decP [] v true) false true (rMany (decV 10 (decP fs_sDeleteACLsResponseResultMatchingACL v true) false true) k1_2 (rArr true x1_1.2).2).2 := (hx1_2_0.trans (step_yes (by decide) (show (0 : Int) ≤ v by omega) (Or.inl (by decide)))).trans (decF'_val (by decide) (rfl))
              refine cl rfl rfl rfl (d2 hR_1_2 ex1_2_0) rfl (fun v_ H1 L1 hle_ hR_ => ?_)
              obtain ⟨N135, rfl, hR135, rfl, rfl⟩ := hR_
              refine asg rfl rfl ?_
              refine nl ?_
              refine rg ?_
              refine mv rfl rfl ?_
              refine mv rfl rfl ?_
              refine nc rfl rfl ?_
              refine fa F257_0 rfl rfl ?_
              refine stM (off := 0) Tryz.sizeOf51 rfl (by rw [ho1_2]) rfl rfl rfl (.tail .head) ?_
              refine nl ?_
              refine sq ?_
              refine sr ?_
              refine asg rfl rfl ?_
              refine nl ?_
              refine sq ?_
              refine sr ?_
              refine mv rfl rfl ?_
              refine nl ?_
              refine cdT rfl (by omega) ?_
              refine sr ?_
              refine mv rfl rfl ?_
              refine nl ?_
              refine cF rfl ?_
              refine rg ?_
              have ex1_2_1 : x1_2_1 = decV 8 (decP [] v true) true true x1_2_0.2 := (hx1_2_1.trans (step_yes (by decide) (show (0 : Int) ≤ v by omega) (Or.inl (by decide)))).trans (decF'_val (by decide) (by simp only [Bool.and_eq_true, decide_eq_true_eq]; exact ⟨show (0 : Int) ≤ 0 by decide, show (0 : Int) ≤ v by omega⟩))
              refine cl rfl rfl rfl (d8tn hR135 ex1_2_1) rfl (fun v_ H1 L1 le_10 hR_ => ?_)
              obtain ⟨N143, rfl, hR143, p1_2_1, rfl, hf1_2_1⟩ := hR_
              refine asg rfl rfl ?_
              refine nl ?_
              refine rg ?_
              refine mv rfl rfl ?_
              refine mv rfl rfl ?_
              refine nc rfl rfl ?_
              refine fa F257_1 rfl rfl ?_
              refine stM (off := 1) Tryz.sizeOf131 rfl (by rw [ho1_2]) rfl rfl rfl (.tail .head) ?_
              refine nl ?_
              refine sq ?_
              refine sr ?_
              refine asg rfl rfl ?_
              refine nl ?_
              refine sq ?_
              refine sr ?_
              have ex1_2_2 : x1_2_2 = decV 1 (decP [] v true) false true x1_2_1.2 := (hx1_2_2.trans (step_yes (by decide) (show (0 : Int) ≤ v by omega) (Or.inl (by decide)))).trans (decF'_val (by decide) (rfl))
              refine cl rfl rfl rfl (d1 hR143 ex1_2_2) rfl (fun v_ H1 L1 hle_ hR_ => ?_)
              obtain ⟨N151, rfl, hR151, rfl, rfl⟩ := hR_
              refine asg rfl rfl ?_
              refine nl ?_
              refine rg ?_
              refine mv rfl rfl ?_
              refine asg rfl rfl ?_
              refine nl ?_
              refine sr ?_
              refine mv rfl rfl ?_
              refine asg rfl rfl ?_
              refine nl ?_
              refine rg ?_
              refine mv rfl rfl ?_
              refine mv rfl rfl ?_
              refine nc rfl rfl ?_
              refine fa F257_2 rfl rfl ?_
              refine stM (off := 2) Tryz.sizeOf252 rfl (by rw [ho1_2]) rfl rfl rfl (.tail .head) ?_
              refine nl ?_
              refine sq ?_
              refine sr ?_
              refine asg rfl rfl ?_
              refine nl ?_
              refine sq ?_
              refine sr ?_
              refine mv rfl rfl ?_
              refine nl ?_
              refine cF rfl ?_
              refine sr ?_
              refine mv rfl rfl ?_
              refine nl ?_
              refine cdT rfl (by omega) ?_
              refine rg ?_
              have ex1_2_3 : x1_2_3 = decV 8 (decP [] v true) false true x1_2_2.2 := (hx1_2_3.trans (step_yes (by decide) (show (0 : Int) ≤ v by omega) (Or.inl (by decide)))).trans (decF'_val (by decide) (rfl))
              refine cl rfl rfl rfl (d8t hR151 ex1_2_3) rfl (fun v_ H1 L1 le_12 hR_ => ?_)
              obtain ⟨N163, rfl, hR163, rfl, rfl⟩ := hR_
              refine asg rfl rfl ?_
              refine nl ?_
              refine rg ?_
              refine mv rfl rfl ?_
              refine mv rfl rfl ?_
              refine nc rfl rfl ?_
              refine fa F257_3 rfl rfl ?_
              refine stM (off := 3) Tryz.sizeOf9 rfl (by rw [ho1_2]) rfl rfl rfl (.tail .head) ?_
              refine nl ?_
              refine sq ?_
              refine sr ?_
              refine mv rfl rfl ?_
              refine ge rfl rfl rfl ?_
              refine nl ?_
              refine cdT rfl (by omega) ?_
              refine sr ?_
              refine asg rfl rfl ?_
              refine nl ?_
              refine sq ?_
              refine sr ?_
              have ex1_2_4 : x1_2_4 = decV 1 (decP [] v true) false true x1_2_3.2 := (hx1_2_4.trans (step_yes (by decide) (show (1 : Int) ≤ v by omega) (Or.inl (by decide)))).trans (decF'_val (by decide) (rfl))
              refine cl rfl rfl rfl (d1 hR163 ex1_2_4) rfl (fun v_ H1 L1 hle_ hR_ => ?_)
              obtain ⟨N171, rfl, hR171, rfl, rfl⟩ := hR_
              refine asg rfl rfl ?_
              refine nl ?_
              refine rg ?_
              refine mv rfl rfl ?_
              refine asg rfl rfl ?_
              refine nl ?_
              refine sr ?_
              refine mv rfl rfl ?_
              refine asg rfl rfl ?_
              refine nl ?_
              refine rg ?_
              refine mv rfl rfl ?_
              refine mv rfl rfl ?_
              refine nc rfl rfl ?_
              refine fa F257_4 rfl rfl ?_
              refine stM (off := 4) Tryz.sizeOf253 rfl (by rw [ho1_2]) rfl rfl rfl (.tail .head) ?_
              refine nl ?_
              refine sq ?_
              refine sr ?_
              refine asg rfl rfl ?_
              refine nl ?_
              refine sq ?_
              refine sr ?_
              refine mv rfl rfl ?_
              refine nl ?_
              refine cF rfl ?_
              refine sr ?_
              refine mv rfl rfl ?_
              refine nl ?_
              refine cdT rfl (by omega) ?_
              refine rg ?_
              have ex1_2_5 : x1_2_5 = decV 8 (decP [] v true) false true x1_2_4.2 := (hx1_2_5.trans (step_yes (by decide) (show (0 : Int) ≤ v by omega) (Or.inl (by decide)))).trans (decF'_val (by decide) (rfl))
              refine cl rfl rfl rfl (d8t hR171 ex1_2_5) rfl (fun v_ H1 L1 le_14 hR_ => ?_)
              obtain ⟨N183, rfl, hR183, rfl, rfl⟩ := hR_
              refine asg rfl rfl ?_
              refine nl ?_
              refine rg ?_
              refine mv rfl rfl ?_
              refine mv rfl rfl ?_
              refine nc rfl rfl ?_
              refine fa F257_5 rfl rfl ?_
              refine stM (off := 5) Tryz.sizeOf9 rfl (by rw [ho1_2]) rfl rfl rfl (.tail .head) ?_
              refine nl ?_
              refine sq ?_
              refine sr ?_
              refine asg rfl rfl ?_
              refine nl ?_
              refine sq ?_
              refine sr ?_
              refine mv rfl rfl ?_
              refine nl ?_
              refine cF rfl ?_
              refine sr ?_
              refine mv rfl rfl ?_
              refine nl ?_
              refine cdT rfl (by omega) ?_
              refine rg ?_
              have ex1_2_6 : x1_2_6 = decV 8 (decP [] v true) false true x1_2_5.2 := (hx1_2_6.trans (step_yes (by decide) (show (0 : Int) ≤ v by omega) (Or.inl (by decide)))).trans (decF'_val (by decide) (rfl))
              refine cl rfl rfl rfl (d8t hR183 ex1_2_6) rfl (fun v_ H1 L1 le_15 hR_ => ?_)
              obtain ⟨N194, rfl, hR194, rfl, rfl⟩ := hR_
              refine asg rfl rfl ?_
              refine nl ?_
              refine rg ?_
              refine mv rfl rfl ?_
              refine mv rfl rfl ?_
              refine nc rfl rfl ?_
              refine fa F257_6 rfl rfl ?_
              refine stM (off := 6) Tryz.sizeOf9 rfl (by rw [ho1_2]) rfl rfl rfl (.tail .head) ?_
              refine nl ?_
              refine sq ?_
              refine sr ?_
              refine asg rfl rfl ?_
              refine nl ?_
              refine sq ?_
              refine sr ?_
              have ex1_2_7 : x1_2_7 = decV 1 (decP [] v true) false true x1_2_6.2 := (hx1_2_7.trans (step_yes (by decide) (show (0 : Int) ≤ v by omega) (Or.inl (by decide)))).trans (decF'_val (by decide) (rfl))
              refine cl rfl rfl rfl (d1 hR194 ex1_2_7) rfl (fun v_ H1 L1 hle_ hR_ => ?_)
              obtain ⟨N200, rfl, hR200, rfl, rfl⟩ := hR_
              refine asg rfl rfl ?_
              refine nl ?_
              refine rg ?_
              refine mv rfl rfl ?_
              refine asg rfl rfl ?_
              refine nl ?_
              refine sr ?_
              refine mv rfl rfl ?_
              refine asg rfl rfl ?_
              refine nl ?_
              refine rg ?_
              refine mv rfl rfl ?_
              refine mv rfl rfl ?_
              refine nc rfl rfl ?_
              refine fa F257_7 rfl rfl ?_
              refine stM (off := 7) Tryz.sizeOf254 rfl (by rw [ho1_2]) rfl rfl rfl (.tail .head) ?_
              refine nl ?_
              refine sq ?_
              refine sr ?_
              refine asg rfl rfl ?_
              refine nl ?_
              refine sq ?_
              refine sr ?_
              have ex1_2_8 : x1_2_8 = decV 1 (decP [] v true) false true x1_2_7.2 := (hx1_2_8.trans (step_yes (by decide) (show (0 : Int) ≤ v by omega) (Or.inl (by decide)))).trans (decF'_val (by decide) (rfl))
              refine cl rfl rfl rfl (d1 hR200 ex1_2_8) rfl (fun v_ H1 L1 hle_ hR_ => ?_)
              obtain ⟨N207, rfl, hR207, rfl, rfl⟩ := hR_
              refine asg rfl rfl ?_
              refine nl ?_
              refine rg ?_
              refine mv rfl rfl ?_
              refine asg rfl rfl ?_
              refine nl ?_
              refine sr ?_
              refine mv rfl rfl ?_
              refine asg rfl rfl ?_
              refine nl ?_
              refine rg ?_
              refine mv rfl rfl ?_
              refine mv rfl rfl ?_
              refine nc rfl rfl ?_
              refine fa F257_8 rfl rfl ?_
              refine stM (off := 8) Tryz.sizeOf255 rfl (by rw [ho1_2]) rfl rfl rfl (.tail .head) ?_
              refine nl ?_
              refine sr ?_
              refine mv rfl rfl ?_
              refine nl ?_
              refine cdT rfl (by omega) ?_
              refine rg ?_
              refine mv rfl rfl ?_
              refine cl rfl rfl rfl (d_tags hR207) rfl (fun v_ H1 L1 le_18 hR_ => ?_)
              obtain ⟨N216, rfl, hR216, m1_2_t, rfl, hft1_2_⟩ := hR_
              have hu21_2_ : u1_2_ = rTags x1_2_8.2 := hu1_2_
              rw [← hu21_2_] at hR216 hft1_2_
              refine nc rfl rfl ?_
              refine fa F257_9 rfl rfl ?_
              refine saM (off := 9) Tryz.sizeOf105 rfl (by rw [ho1_2]) rfl rfl rfl rfl (.tail .head) ?_
              refine nN ?_
              refine Nb ?_
              refine Nt ?_
              refine rg ?_
              refine mv rfl rfl ?_
              refine ad rfl rfl (c := ((k1_2 + 1 : Nat) : Int)) ((wrap32_le (by omega) (by omega)).trans (by omega)) rfl ?_
              refine asg rfl rfl ?_
              refine nN ?_
              have hfs1_2 := flatMap_snoc' fk es1_2 ((⟨([.int .i16 (IntKind.i16.wrap x1_2_0.1.n), .pointer p1_2_1, .int .i8 (IntKind.i8.wrap x1_2_2.1.n), .string ⟨x1_2_3.1.s.toArray⟩, .int .i8 (IntKind.i8.wrap x1_2_4.1.n), .string ⟨x1_2_5.1.s.toArray⟩, .string ⟨x1_2_6.1.s.toArray⟩, .int .i8 (IntKind.i8.wrap x1_2_7.1.n), .int .i8 (IntKind.i8.wrap x1_2_8.1.n), .map m1_2_t] : List Value), rfl, all_one rfl⟩, ((decV 10 (decP fs_sDeleteACLsResponseResultMatchingACL v true) false true) (rMany (decV 10 (decP fs_sDeleteACLsResponseResultMatchingACL v true) false true) k1_2 (rArr true x1_1.2).2).2).1) : KE 10)
              have hrw1_2 := hbk1_2 ([.int .i16 (IntKind.i16.wrap x1_2_0.1.n), .pointer p1_2_1, .int .i8 (IntKind.i8.wrap x1_2_2.1.n), .string ⟨x1_2_3.1.s.toArray⟩, .int .i8 (IntKind.i8.wrap x1_2_4.1.n), .string ⟨x1_2_5.1.s.toArray⟩, .string ⟨x1_2_6.1.s.toArray⟩, .int .i8 (IntKind.i8.wrap x1_2_7.1.n), .int .i8 (IntKind.i8.wrap x1_2_8.1.n), .map m1_2_t] : List Value) rfl
              refine tfN (.tail .head) ?_
              refine fun a_ w_ hA hw => ⟨hkl1_2, _, _, _, hA.sub ?_, (le_8.trans (le_10.trans le_18)), hw, _, _, _, rfl, rfl, (by rw [rMany_succ]; show RdAt _ 232 b_1 (decP fs_sDeleteACLsResponseResultMatchingACL v true (rMany (decV 10 (decP fs_sDeleteACLsResponseResultMatchingACL v true) false true) k1_2 (rArr true x1_1.2).2).2).2 _; rw [hD1_2_]; exact hR216), (by rw [← hfs1_2]; exact hrw1_2), (dec_els he_1_2), (fun p hp => (mem_snoc hp).elim (fun h => At_DeleteACLsResponseResultMatchingACL.mono _ _ _ _ (le_10.trans le_18) (hg_1_2 p h)) (fun h => h ▸ (by show At_DeleteACLsResponseResultMatchingACL _ (decP fs_sDeleteACLsResponseResultMatchingACL v true (rMany (decV 10 (decP fs_sDeleteACLsResponseResultMatchingACL v true) false true) k1_2 (rArr true x1_1.2).2).2).1 [.int .i16 (IntKind.i16.wrap x1_2_0.1.n), .pointer p1_2_1, .int .i8 (IntKind.i8.wrap x1_2_2.1.n), .string ⟨x1_2_3.1.s.toArray⟩, .int .i8 (IntKind.i8.wrap x1_2_4.1.n), .string ⟨x1_2_5.1.s.toArray⟩, .string ⟨x1_2_6.1.s.toArray⟩, .int .i8 (IntKind.i8.wrap x1_2_7.1.n), .int .i8 (IntKind.i8.wrap x1_2_8.1.n), .map m1_2_t]; rw [hD1_2_]; exact ⟨p1_2_1, m1_2_t, rfl, (hf1_2_1.mono le_18), hft1_2_⟩)))⟩
              exact (.cons rfl (.cons rfl (.cons rfl (.cons rfl (.cons rfl (.cons rfl (.cons rfl (.cons rfl (.cons rfl (.cons rfl (.cons rfl (.cons rfl (.cons rfl (.cons rfl (.nil _)))))))))))))))
            · skip
              have hkn_ : k1_2 = (lT x1_2.1).length := by omega
              subst hkn_
              have hw2_1_2 : Row 257 10 a1_2 (lT x1_2.1).length c1_2 (es1_2.flatMap fk) M1_2 := by have h := hw_1_2; rw [Nat.sub_self] at h; simpa [reps] using h
              refine frW hw2_1_2 .head (fun Hf1_2 hlf1_2 hfz1_2 => ?_)
              have hrs1_2 := RowsAt.row (R := At_DeleteACLsResponseResultMatchingACL) hfz1_2 hs_1_2.symm hw2_1_2.le.1 (fun p hp => At_DeleteACLsResponseResultMatchingACL.mono _ _ _ _ hlf1_2 (hg_1_2 p hp))
              rw [he_1_2] at hrs1_2
              have hf1_2 : ListAt Hf1_2 x1_2.1 10 At_DeleteACLsResponseResultMatchingACL a1_2 c1_2 := by rw [ex1_2]; exact listAt_of hrs1_2 hi1_2 (fun h => by have h1 := nul_le h; rw [show (lT x1_2.1).length = 0 by omega]; rfl)
              have hRx1_2 : RdAt Hf1_2 232 b_1 x1_2.2 RN1_2 := by rw [ex1_2]; exact (hR_1_2.mono hlf1_2)
              refine exX ?_
              refine XT ?_
              refine XT ?_
              refine Xb ?_
              refine Nt ?_
              refine sr ?_
              refine mv rfl rfl ?_
              refine asg rfl rfl ?_
              refine nl ?_
              refine rg ?_
              refine mv rfl rfl ?_
              refine mv rfl rfl ?_
              refine nc rfl rfl ?_
              refine fa F134_2 rfl rfl ?_
              refine stM (off := 2) Tryz.sizeOf132 rfl (by rw [ho1]) rfl rfl rfl (.tail .head) ?_
              refine nl ?_
              refine sr ?_
              refine mv rfl rfl ?_
              refine nl ?_
              refine cdT rfl (by omega) ?_
              refine rg ?_
              refine mv rfl rfl ?_
              refine cl rfl rfl rfl (d_tags hRx1_2) rfl (fun v_ H1 L1 le_19 hR_ => ?_)
              obtain ⟨N226, rfl, hR226, m1_t, rfl, hft1_⟩ := hR_
              have hu21_ : u1_ = rTags x1_2.2 := hu1_
              rw [← hu21_] at hR226 hft1_
              refine nc rfl rfl ?_
              refine fa F134_3 rfl rfl ?_
              refine saM (off := 3) Tryz.sizeOf105 rfl (by rw [ho1]) rfl rfl rfl rfl (.tail .head) ?_
              refine nN ?_
              refine Nb ?_
              refine Nt ?_
              refine rg ?_
              refine mv rfl rfl ?_
              refine ad rfl rfl (c := ((k1 + 1 : Nat) : Int)) ((wrap32_le (by omega) (by omega)).trans (by omega)) rfl ?_
              refine asg rfl rfl ?_
              refine nN ?_
              have hfs1 := flatMap_snoc' fk es1 ((⟨([.int .i16 (IntKind.i16.wrap x1_0.1.n), .pointer p1_1, .slice a1_2 (lT x1_2.1).length c1_2, .map m1_t] : List Value), rfl, all_one rfl⟩, ((decV 10 (decP fs_sDeleteACLsResponseResult v true) false true) (rMany (decV 10 (decP fs_sDeleteACLsResponseResult v true) false true) k1 (rArr true x0.2).2).2).1) : KE 4)
              have hrw1 := hbk1 ([.int .i16 (IntKind.i16.wrap x1_0.1.n), .pointer p1_1, .slice a1_2 (lT x1_2.1).length c1_2, .map m1_t] : List Value) rfl
              refine tfN (.tail .head) ?_
              refine fun a_ w_ hA hw => ⟨hkl1, _, _, _, hA.sub ?_, (le_4.trans (le_6.trans (le_7.trans (le_8.trans (hlf1_2.trans le_19))))), hw, _, _, _, rfl, rfl, (by rw [rMany_succ]; show RdAt _ 232 b_1 (decP fs_sDeleteACLsResponseResult v true (rMany (decV 10 (decP fs_sDeleteACLsResponseResult v true) false true) k1 (rArr true x0.2).2).2).2 _; rw [hD1_]; exact hR226), (by rw [← hfs1]; exact hrw1), (dec_els he_1), (fun p hp => (mem_snoc hp).elim (fun h => At_DeleteACLsResponseResult.mono _ _ _ _ (le_6.trans (le_7.trans (le_8.trans (hlf1_2.trans le_19)))) (hg_1 p h)) (fun h => h ▸ (by show At_DeleteACLsResponseResult _ (decP fs_sDeleteACLsResponseResult v true (rMany (decV 10 (decP fs_sDeleteACLsResponseResult v true) false true) k1 (rArr true x0.2).2).2).1 [.int .i16 (IntKind.i16.wrap x1_0.1.n), .pointer p1_1, .slice a1_2 (lT x1_2.1).length c1_2, .map m1_t]; rw [hD1_]; exact ⟨p1_1, a1_2, c1_2, m1_t, rfl, (hf1_1.mono (le_7.trans (le_8.trans (hlf1_2.trans le_19)))), (hf1_2.mono At_DeleteACLsResponseResultMatchingACL.mono le_19), hft1_⟩)))⟩
              exact (.cons rfl (.cons rfl (.cons rfl (.cons rfl (.cons rfl (.cons rfl (.cons rfl (.cons rfl (.cons rfl (.nil _))))))))))
      · skip
        have hkn_ : k1 = (lT x1.1).length := by omega
        subst hkn_
        have hw2_1 : Row 134 4 a1 (lT x1.1).length c1 (es1.flatMap fk) M1 := by have h := hw_1; rw [Nat.sub_self] at h; simpa [reps] using h
        refine frW hw2_1 .head (fun Hf1 hlf1 hfz1 => ?_)
        have hrs1 := RowsAt.row (R := At_DeleteACLsResponseResult) hfz1 hs_1.symm hw2_1.le.1 (fun p hp => At_DeleteACLsResponseResult.mono _ _ _ _ hlf1 (hg_1 p hp))
        rw [he_1] at hrs1
        have hf1 : ListAt Hf1 x1.1 4 At_DeleteACLsResponseResult a1 c1 := by rw [ex1]; exact listAt_of hrs1 hi1 (fun h => by have h1 := nul_le h; rw [show (lT x1.1).length = 0 by omega]; rfl)
        have hRx1 : RdAt Hf1 232 b_1 x1.2 RN1 := by rw [ex1]; exact (hR_1.mono hlf1)
        refine exX ?_
        refine XT ?_
        refine XT ?_
        refine Xb ?_
        refine Nt ?_
        refine sr ?_
        refine mv rfl rfl ?_
        refine asg rfl rfl ?_
        refine nl ?_
        refine rg ?_
        refine mv rfl rfl ?_
        refine mv rfl rfl ?_
        refine nc rfl rfl ?_
        refine fa0 F128_2 rfl rfl ?_
        refine st Tryz.sizeOf126 rfl rfl rfl rfl (.tail .head) ?_
        refine nl ?_
        refine sq ?_
        refine sr ?_
        refine mv rfl rfl ?_
        refine nl ?_
        refine cdT rfl (by omega) ?_
        refine rg ?_
        refine mv rfl rfl ?_
        refine cl rfl rfl rfl (d_tags hRx1) rfl (fun v_ H1 L1 le_20 hR_ => ?_)
        obtain ⟨N236, rfl, hR236, mt, rfl, hft⟩ := hR_
        have hu2 : u = rTags x1.2 := hu
        rw [← hu2] at hR236 hft
        refine nc rfl rfl ?_
        refine fa0 F128_3 rfl rfl ?_
        refine sa Tryz.sizeOf105 rfl rfl rfl rfl rfl (.tail .head) ?_
        refine nl ?_
        refine sr ?_
        refine cl rfl rfl rfl (r_complete hR236 (he.mono (le_3.trans (le_4.trans (hlf1.trans le_20))))) rfl (fun v_ H1 L1 hle_ hR_ => ?_)
        obtain ⟨rfl, rfl, rfl⟩ := hR_
        refine asg rfl rfl ?_
        refine nl ?_
        refine drW .head ?_
        have hA_ := (show At_DeleteACLsResponse v _ (decP fs_DeleteACLsResponse v true _).1 [.int .i16 v, .int .i32 (IntKind.i32.wrap x0.1.n), .slice a1 (lT x1.1).length c1, .map mt] from (by rw [hD]; exact ⟨a1, c1, mt, rfl, (hf1.mono At_DeleteACLsResponseResult.mono le_20), hft⟩))
        refine rT rfl rfl (le_3.trans (le_4.trans (hlf1.trans le_20))) (fun _ _ h => h) ⟨_, rfl, ?_⟩
        have hz := RdEnd.of (e := e) hA_
        rw [show (decP fs_DeleteACLsResponse v true _).2.bad = u.2.bad by rw [hD]] at hz
        exact hz
end Go.Sx

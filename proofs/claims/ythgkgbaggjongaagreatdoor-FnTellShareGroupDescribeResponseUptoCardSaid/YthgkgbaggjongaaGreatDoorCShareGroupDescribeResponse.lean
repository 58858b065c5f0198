import Derived.Test.YthgkgbaggjongaaGreatDoorSxTab
import Derived.Test.YthgkgbaggjongaaGreatDoorBShareGroupDescribeResponse
import Derived.Test.YthgkgbaggjongaaGreatDoorRK2
import Derived.KernelRfl
set_option linter.unusedVariables false
set_option linter.unusedSimpArgs false
set_option maxRecDepth 100000
set_option maxHeartbeats 20000000
namespace Go.Sx
open Go.Proofs
theorem def_ShareGroupDescribeResponseGroupMemberAssignmentTopicPartition {H : Fz} {L : Own} {b o : Nat} {pre post : List Value} {c0 c1 c2 c3 c4 c5 c6 c7 c8 c9 c10 c11 c12 c13 c14 c15 c16 c17 c18 : Value} (ho : o = pre.length) :
  Fn Tryz.prog 276 [.pointer (some ⟨b, o, none⟩)] H ([(b, .cells (pre ++ ([c0, c1, c2, c3, c4, c5, c6, c7, c8, c9, c10, c11, c12, c13, c14, c15, c16, c17, c18] : List Value) ++ post).toArray 302 (0, 0))] :: L) (fun _ H' L' => H = H' ∧ L' = [(b, .cells (pre ++ ([c0, c1, c2, c3, c4, c5, c6, c7, c8, c9, c10, c11, c12, c13, c14, c15, c16, c17, c18] : List Value) ++ post).toArray 302 (0, 0))] :: L) := by
 refine Fn.mk Tryz.call276 Tryz.func276 rfl Tryz.ntmps276 rfl ?_
 refine skN ?_
 exact fun _ _ hA hw => rn rfl (Fz.le.refl _) ⟨rfl, rfl⟩ hA hw
theorem defE_ShareGroupDescribeResponseGroupMemberAssignment {H : Fz} {L : Own} {p : Value} :
  Fn Tryz.prog 275 [p] H L (fun _ H' L' => H = H' ∧ L = L') := by
 refine Fn.mk Tryz.call275 Tryz.func275 rfl Tryz.ntmps275 rfl ?_
 refine skN ?_
 exact fun _ _ hA hw => rn rfl (Fz.le.refl _) ⟨rfl, rfl⟩ hA hw
theorem def_ShareGroupDescribeResponseGroupMember {H : Fz} {L : Own} {b o : Nat} {pre post : List Value} {c0 c1 c2 c3 c4 c5 c6 c7 c8 : Value} (ho : o = pre.length) :
  Fn Tryz.prog 274 [.pointer (some ⟨b, o, none⟩)] H ([(b, .cells (pre ++ ([c0, c1, c2, c3, c4, c5, c6, c7, c8] : List Value) ++ post).toArray 298 (0, 0))] :: L) (fun _ H' L' => H = H' ∧ L' = [(b, .cells (pre ++ ([c0, c1, c2, c3, c4, c5, c6, c7, c8] : List Value) ++ post).toArray 298 (0, 0))] :: L) := by
 refine Fn.mk Tryz.call274 Tryz.func274 rfl Tryz.ntmps274 rfl ?_
 refine sr ?_
 refine mv rfl rfl ?_
 refine nc rfl rfl ?_
 refine fa F298_6 rfl rfl ?_
 refine asg rfl rfl ?_
 refine nl ?_
 refine rg ?_
 refine mv rfl rfl ?_
 refine nN ?_
 exact fun _ _ hA hw => rn rfl (Fz.le.refl _) ⟨rfl, rfl⟩ hA hw
theorem def_ShareGroupDescribeResponseGroup {H : Fz} {L : Own} {b o : Nat} {pre post : List Value} {c0 c1 c2 c3 c4 c5 c6 c7 c8 c9 : Value} (ho : o = pre.length) :
  Fn Tryz.prog 273 [.pointer (some ⟨b, o, none⟩)] H ([(b, .cells (pre ++ ([c0, c1, c2, c3, c4, c5, c6, c7, c8, c9] : List Value) ++ post).toArray 193 (0, 0))] :: L) (fun _ H' L' => H = H' ∧ L' = [(b, .cells (pre ++ ([c0, c1, c2, c3, c4, c5, c6, c7, .int .i32 (-2147483648), c9] : List Value) ++ post).toArray 193 (0, 0))] :: L) := by
 refine Fn.mk Tryz.call273 Tryz.func273 rfl Tryz.ntmps273 rfl ?_
 refine rg ?_
 refine mv rfl rfl ?_
 refine nc rfl rfl ?_
 refine fa F193_8 rfl rfl ?_
 refine stM (off := 8) Tryz.sizeOf21 rfl (by rw [ho]) rfl rfl rfl .head ?_
 refine nN ?_
 exact fun _ _ hA hw => rn rfl (Fz.le.refl _) ⟨rfl, rfl⟩ hA hw
theorem def0_ShareGroupDescribeResponse {H : Fz} {L : Own} {b : Nat} {c0 c1 c2 c3 : Value} :
  Fn Tryz.prog 180 [.pointer (some ⟨b, 0, none⟩)] H ([(b, .cells [c0, c1, c2, c3].toArray 188 (0, 0))] :: L) (fun _ H' L' => H = H' ∧ L' = [(b, .cells [c0, c1, c2, c3].toArray 188 (0, 0))] :: L) := by
 refine Fn.mk Tryz.call180 Tryz.func180 rfl Tryz.ntmps180 rfl ?_
 refine skN ?_
 exact fun _ _ hA hw => rn rfl (Fz.le.refl _) ⟨rfl, rfl⟩ hA hw
theorem rd_ShareGroupDescribeResponse_t {H : Fz} {L : Own} {b : Nat} {v : Int} {a : Option Addr} {c : Nat} {s : List UInt8} {e : Value} (hB : BytesAt H a c s) (hL_ : s.length ≤ BR) (he : H.at 1 0 [e]) (hv0 : 0 ≤ v) (hv1 : v ≤ 1) :
  Fn Tryz.prog 182 [.pointer (some ⟨b, 0, none⟩), .slice a s.length c, .bool false] H ([(b, .cells [.int .i16 v, .int .i32 0, .slice none 0 0, .map none].toArray 188 (0, 0))] :: L) (fun r H' L' => ∃ cs : List Value, L' = [(b, .cells cs.toArray 188 (0, 0))] :: L ∧ RdEnd H' (At_ShareGroupDescribeResponse v) (decP fs_ShareGroupDescribeResponse v true ⟨s, false, !a.isNone⟩) e r cs) := by
 refine Fn.mk Tryz.call182 Tryz.func182 rfl Tryz.ntmps182 rfl ?_
 refine sr ?_
 refine asg rfl rfl ?_
 refine nl ?_
 refine sr ?_
 refine mv rfl rfl ?_
 refine cl rfl rfl rfl def0_ShareGroupDescribeResponse rfl (fun v_ H1 L1 hle_ hR_ => ?_)
 obtain ⟨rfl, rfl⟩ := hR_
 refine nl ?_
 refine sr ?_
 refine mv rfl rfl ?_
 refine bd' S232 rfl rfl rfl ?_
 refine al Tryz.zeroValue232 rfl rfl (fun b_1 => ?_)
 refine sa Tryz.sizeOf232 rfl rfl rfl rfl rfl .head ?_
 have hR0_ : RdAt H 232 b_1 ⟨s, false, !a.isNone⟩ [(b_1, .cells [_, _].toArray 232 (0, 0))] := ⟨a, c, rfl, hB, by simp⟩
 obtain ⟨x0, hx0⟩ : ∃ x, x = stepF (Fd.mk 3 0 (-1) (-1) (-1) 0 0 []) v true ⟨s, false, !a.isNone⟩ := ⟨_, rfl⟩
 obtain ⟨x1, hx1⟩ : ∃ x, x = stepF (Fd.mk 11 0 (-1) (-1) (-1) 0 10 fs_sShareGroupDescribeResponseGroup) v true x0.2 := ⟨_, rfl⟩
 obtain ⟨u, hu⟩ : ∃ x, x = tailU true x1.2 := ⟨_, rfl⟩
 have hD : decP fs_ShareGroupDescribeResponse v true ⟨s, false, !a.isNone⟩ = (.mk 0 [] false [x0.1, x1.1] u.1, u.2) := by
  generalize (⟨s, false, !a.isNone⟩ : Rd) = r_ at hx0 ⊢
  rw [decP_eq]; unfold fs_ShareGroupDescribeResponse; simp only [decFs_cons, decFs_nil, ← hx0, ← hx1, ← hu]
 have hL0 : x0.2.s.length ≤ BR := by rw [hx0]; exact Nat.le_trans (stepF_shr _ _ _ _) hL_
 have hL1 : x1.2.s.length ≤ BR := by rw [hx1]; exact Nat.le_trans (stepF_shr _ _ _ _) hL0
 have hE : u.2.bad = true → (decP fs_ShareGroupDescribeResponse v true ⟨s, false, !a.isNone⟩).2.bad = true := fun h => by rw [hD]; exact h
 have hB1 : x1.2.bad = true → (decP fs_ShareGroupDescribeResponse v true ⟨s, false, !a.isNone⟩).2.bad = true := fun h => hE (by rw [hu]; exact tailU_bad h)
 have hB0 : x0.2.bad = true → (decP fs_ShareGroupDescribeResponse v true ⟨s, false, !a.isNone⟩).2.bad = true := fun h => hB1 (by rw [hx1]; exact step_bad h)
 refine nl ?_
 refine sr ?_
 refine mv rfl rfl ?_
 refine nc rfl rfl ?_
 refine fa0 F188_0 rfl rfl ?_
 refine ld (Says.own (.tail .head)) Tryz.isAgg51 rfl (Nat.zero_add _).symm rfl rfl ?_
 refine asg rfl rfl ?_
 refine nl ?_
 refine sr ?_
 refine mv rfl rfl ?_
 refine nl ?_
 refine sr ?_
 refine mv rfl rfl ?_
 refine ge rfl rfl rfl ?_
 refine asg rfl rfl ?_
 refine nl ?_
 refine sr ?_
 refine mv rfl rfl ?_
 refine nl ?_
 refine sr ?_
 refine mv rfl rfl ?_
 refine asg rfl rfl ?_
 refine nl ?_
 refine sq ?_
 refine sr ?_
 have ex0 : x0 = decV 3 (decP [] v true) false true ⟨s, false, !a.isNone⟩ := (hx0.trans (step_yes (by decide) (show (0 : Int) ≤ v by omega) (Or.inl (by decide)))).trans (decF'_val (by decide) (rfl))
 refine cl rfl rfl rfl (d3 hR0_ ex0) rfl (fun v_ H1 L1 hle_ hR_ => ?_)
 obtain ⟨N70, rfl, hR70, rfl, rfl⟩ := hR_
 refine asg rfl rfl ?_
 refine nl ?_
 refine rg ?_
 refine mv rfl rfl ?_
 refine mv rfl rfl ?_
 refine nc rfl rfl ?_
 refine fa0 F188_1 rfl rfl ?_
 refine st Tryz.sizeOf21 rfl rfl rfl rfl (.tail .head) ?_
 refine nl ?_
 refine sq ?_
 refine sr ?_
 refine mv rfl rfl ?_
 refine nc rfl rfl ?_
 refine fa0 F188_2 rfl rfl ?_
 refine ld (Says.own (.tail .head)) Tryz.isAgg186 rfl (Nat.zero_add _).symm rfl rfl ?_
 refine asg rfl rfl ?_
 refine nl ?_
 refine sr ?_
 refine mv rfl rfl ?_
 refine asg rfl rfl ?_
 refine nl ?_
 refine sr ?_
 refine asg rfl rfl ?_
 refine nl ?_
 refine sq ?_
 refine sr ?_
 refine mv rfl rfl ?_
 refine nl ?_
 refine cdT rfl (by omega) ?_
 refine rg ?_
 have ey1 : x1 = (.mk 0 [] (if 0 ≤ ((-1) : Int) ∧ (v < ((-1) : Int) ∨ (rArr true x0.2).1 = 0) then false else decide ((rArr true x0.2).1 ≤ 0)) (rMany (decV 10 (decP fs_sShareGroupDescribeResponseGroup v true) false true) (rArr true x0.2).1.toNat (rArr true x0.2).2).1 [], (rMany (decV 10 (decP fs_sShareGroupDescribeResponseGroup v true) false true) (rArr true x0.2).1.toNat (rArr true x0.2).2).2) := (hx1.trans (step_yes (by decide) (show (0 : Int) ≤ v by omega) (Or.inl (by decide)))).trans (decF'_list rfl rfl)
 have hn1 : (rArr true x0.2).1.toNat = (lT x1.1).length := by rw [ey1]; exact (lT_many nul_le).symm
 have ex1 := ey1
 rw [hn1] at ex1
 have hl1 := rArr_le true x0.2
 have hm1 : (rArr true x0.2).2.s.length ≤ BR := Nat.le_trans (rArr_len true x0.2) hL0
 have hnb1 : (lT x1.1).length ≤ BR := by omega
 refine cl rfl rfl rfl (r_arrt hR70) rfl (fun v_ H1 L1 hle_ hR_ => ?_)
 obtain ⟨rfl, N81, rfl, hR81, rfl⟩ := hR_
 have hh1 := rArr_hi true x0.2
 refine asg rfl rfl ?_
 refine nl ?_
 refine sq ?_
 refine sr ?_
 refine cl rfl rfl rfl (r_ok hR81) rfl (fun v_ H1 L1 hle_ hR_ => ?_)
 obtain ⟨rfl, rfl, rfl⟩ := hR_
 refine nt rfl rfl ?_
 refine nl ?_
 refine cb rfl (fun h84 => ?_) (fun h84 => ?_)
 ·
  have hbad_ : (rArr true x0.2).2.bad = true := by simpa using h84
  refine sr ?_
  refine cl rfl rfl rfl (r_complete hR81 he) rfl (fun v_ H1 L1 hle_ hR_ => ?_)
  obtain ⟨rfl, rfl, rfl⟩ := hR_
  refine asg rfl rfl ?_
  refine nl ?_
  refine drW .head ?_
  exact rT rfl rfl (Fz.le.refl _) (fun _ _ h => h) ⟨_, rfl, RdEnd.out (hB1 (by rw [ey1]; exact rMany_bad (fun r h => decV_bad (decP_bad _ _ _) h) _ _ hbad_)) hbad_⟩
 ·
  refine skt ?_
  refine sr ?_
  refine mv rfl rfl ?_
  refine sh' (j := 0) Tryz.runUnderlying186 Tryz.sizeOf193 rfl rfl rfl (Nat.zero_le _) rfl ?_
  refine asg rfl rfl ?_
  refine nl ?_
  refine sq ?_
  refine sr ?_
  refine mv rfl rfl ?_
  refine gt rfl rfl rfl ?_
  refine nl ?_
  refine nulC2 ?_
  refine cutT (fun l' H' L' => ∃ (a1 : Option Addr), ∃ (c1 : Nat), ∃ (Nr1 : Chunk), [(2, .bool false), (7, .pointer (some ⟨b_1, 0, none⟩)), (9, .bool (decide ((0 : Int) ≤ v))), (10, .pointer (some ⟨b, 0, none⟩)), (12, .slice none 0 0), (13, .slice a1 (lT x1.1).length c1), (14, .int .i32 (rArr true x0.2).1)] = l' ∧ Nr1 :: N81 :: [(b, .cells [.int .i16 v, .int .i32 (IntKind.i32.wrap x0.1.n), .slice none 0 0, .map none].toArray 188 (0, 0))] :: L = L' ∧ Row 193 10 a1 (lT x1.1).length c1 (reps [.int .i16 0, .pointer none, .string ⟨#[]⟩, .string ⟨#[]⟩, .int .i32 0, .int .i32 0, .string ⟨#[]⟩, .slice none 0 0, .int .i32 0, .map none] (lT x1.1).length) Nr1 ∧ a1.isNone = (if 0 ≤ ((-1) : Int) ∧ (v < ((-1) : Int) ∨ (rArr true x0.2).1 = 0) then false else decide ((rArr true x0.2).1 ≤ 0))) ?_ (fun l' H' L' le_3 hI => ?_)
  ·
   refine cd rfl (fun h89 => ?_) (fun h89 => ?_)
   ·
    refine rg ?_
    refine mv rfl rfl ?_
    refine mv rfl rfl ?_
    refine apz (zs := [.int .i16 0, .pointer none, .string ⟨#[]⟩, .string ⟨#[]⟩, .int .i32 0, .int .i32 0, .string ⟨#[]⟩, .slice none 0 0, .int .i32 0, .map none]) (m := (lT x1.1).length) Tryz.underlying186 Tryz.underlying21 I193 rfl rfl rfl (by omega) (by omega) (by have h9 := hnb1; unfold BR at h9; omega) (by have h9 := hnb1; unfold BR at h9; unfold maxLen; omega) rfl (fun g92 cp92 N92 r92 => ?_)
    refine asg rfl rfl ?_
    refine nN ?_
    refine drN (.tail .head) ?_
    refine fun a_ w_ hA hw => ⟨_, _, _, hA.sub ?_, (Fz.le.refl _), hw, (some ⟨g92, 0, none⟩), cp92, N92, rfl, rfl, r92, (by rw [if_neg (by omega)]; exact (decide_eq_false (by omega)).symm)⟩
    exact (.cons rfl (.cons rfl (.cons rfl (.cons rfl (.cons rfl (.cons rfl (.cons rfl (.nil _))))))))
   ·
    refine skN ?_
    refine fun a_ w_ hA hw => ⟨_, _, _, hA.sub ?_, (Fz.le.refl _), hw, none, 0, [], rfl, rfl, (by rw [show (lT x1.1).length = 0 by omega]; exact (Row.nil _ _)), (by rw [if_neg (by omega)]; exact (decide_eq_true (by omega)).symm)⟩
    exact (.cons rfl (.cons rfl (.cons rfl (.cons rfl (.cons rfl (.cons (by rw [show (lT x1.1).length = 0 by omega]; rfl) (.cons rfl (.nil _))))))))
  ·
   obtain ⟨a1, c1, Nr1, rfl, rfl, pj0, pj1⟩ := hI
   have hr1 := pj0
   have hi1 := pj1
   refine sq ?_
   refine sr ?_
   refine asg rfl rfl ?_
   refine nl ?_
   refine bl (lp ((lT x1.1).length) (fun k1 l' H' L' => ∃ (es1 : List (KE 10)) (M1 RN1 : Chunk), [(2, .bool false), (7, .pointer (some ⟨b_1, 0, none⟩)), (9, .bool (decide ((0 : Int) ≤ v))), (10, .pointer (some ⟨b, 0, none⟩)), (12, .slice none 0 0), (13, .slice a1 (lT x1.1).length c1), (14, .int .i32 (rArr true x0.2).1), (15, .int .i32 (k1 : Int))] = l' ∧ M1 :: RN1 :: [(b, .cells [.int .i16 v, .int .i32 (IntKind.i32.wrap x0.1.n), .slice none 0 0, .map none].toArray 188 (0, 0))] :: L = L' ∧ RdAt H' 232 b_1 (rMany (decV 10 (decP fs_sShareGroupDescribeResponseGroup v true) false true) k1 (rArr true x0.2).2).2 RN1 ∧ Row 193 10 a1 (lT x1.1).length c1 (es1.flatMap fk ++ reps [.int .i16 0, .pointer none, .string ⟨#[]⟩, .string ⟨#[]⟩, .int .i32 0, .int .i32 0, .string ⟨#[]⟩, .slice none 0 0, .int .i32 0, .map none] ((lT x1.1).length - k1)) M1 ∧ es1.map (·.2) = (rMany (decV 10 (decP fs_sShareGroupDescribeResponseGroup v true) false true) k1 (rArr true x0.2).2).1 ∧ ∀ p ∈ es1, At_ShareGroupDescribeResponseGroup H' p.2 (fk p)) [(2, .bool false), (7, .pointer (some ⟨b_1, 0, none⟩)), (9, .bool (decide ((0 : Int) ≤ v))), (10, .pointer (some ⟨b, 0, none⟩)), (12, .slice none 0 0), (13, .slice a1 (lT x1.1).length c1), (14, .int .i32 (rArr true x0.2).1), (15, .int .i32 (0 : Int))] (.cons rfl (.cons rfl (.cons rfl (.cons rfl (.cons rfl (.cons rfl (.cons rfl (.cons rfl (.nil _))))))))) ⟨[], Nr1, _, rfl, rfl, (hR81.mono le_3), hr1, rfl, (fun p hp => by cases hp)⟩ (fun k1 l' H' L' hk1 le_4 hI => ?_))
   obtain ⟨es1, M1, RN1, rfl, rfl, hR_1, hw_1, he_1, hg_1⟩ := hI
   have hs_1 := els_len he_1
   have hp_1 : (es1.flatMap fk).length = k1 * 10 := els_flat hs_1
   refine sq ?_
   refine sr ?_
   refine mv rfl rfl ?_
   refine mv rfl rfl ?_
   refine lt rfl rfl rfl ?_
   refine nl ?_
   refine cd rfl (fun h95 => ?_) (fun h95 => ?_)
   ·
    have hkl1 : k1 < (lT x1.1).length := by omega
    obtain ⟨g1, po1, hga1, rfl, hbk1⟩ := hw_1.next (zs := [.int .i16 0, .pointer none, .string ⟨#[]⟩, .string ⟨#[]⟩, .int .i32 0, .int .i32 0, .string ⟨#[]⟩, .slice none 0 0, .int .i32 0, .map none]) hkl1 rfl (by decide)
    have ho1 : 0 + k1 * 10 = (es1.flatMap fk).length := by rw [hp_1]; omega
    have hbz1 : ((decV 10 (decP fs_sShareGroupDescribeResponseGroup v true) false true) (rMany (decV 10 (decP fs_sShareGroupDescribeResponseGroup v true) false true) k1 (rArr true x0.2).2).2).2.bad = true → (decP fs_ShareGroupDescribeResponse v true ⟨s, false, !a.isNone⟩).2.bad = true := fun h => hB1 (by rw [ex1]; exact rMany_mono (fun r h => decV_bad (fun r h => decP_bad _ _ _ r h) h) _ (show k1 + 1 ≤ (lT x1.1).length from hkl1) (by rw [rMany_succ]; exact h))
    have hLk1 : (rMany (decV 10 (decP fs_sShareGroupDescribeResponseGroup v true) false true) k1 (rArr true x0.2).2).2.s.length ≤ BR := Nat.le_trans (rMany_shr (fun r => decV_shr (fun r => decP_shr _ _ _ r) r) _ _) hm1
    have hL1__ := hLk1
    obtain ⟨x1_0, hx1_0⟩ : ∃ x, x = stepF (Fd.mk 2 0 (-1) (-1) (-1) 0 0 []) v true (rMany (decV 10 (decP fs_sShareGroupDescribeResponseGroup v true) false true) k1 (rArr true x0.2).2).2 := ⟨_, rfl⟩
    obtain ⟨x1_1, hx1_1⟩ : ∃ x, x = stepF (Fd.mk 8 0 (-1) 0 (-1) 0 0 []) v true x1_0.2 := ⟨_, rfl⟩
    obtain ⟨x1_2, hx1_2⟩ : ∃ x, x = stepF (Fd.mk 8 0 (-1) (-1) (-1) 0 0 []) v true x1_1.2 := ⟨_, rfl⟩
    obtain ⟨x1_3, hx1_3⟩ : ∃ x, x = stepF (Fd.mk 8 0 (-1) (-1) (-1) 0 0 []) v true x1_2.2 := ⟨_, rfl⟩
    obtain ⟨x1_4, hx1_4⟩ : ∃ x, x = stepF (Fd.mk 3 0 (-1) (-1) (-1) 0 0 []) v true x1_3.2 := ⟨_, rfl⟩
    obtain ⟨x1_5, hx1_5⟩ : ∃ x, x = stepF (Fd.mk 3 0 (-1) (-1) (-1) 0 0 []) v true x1_4.2 := ⟨_, rfl⟩
    obtain ⟨x1_6, hx1_6⟩ : ∃ x, x = stepF (Fd.mk 8 0 (-1) (-1) (-1) 0 0 []) v true x1_5.2 := ⟨_, rfl⟩
    obtain ⟨x1_7, hx1_7⟩ : ∃ x, x = stepF (Fd.mk 11 0 (-1) (-1) (-1) 0 10 fs_sShareGroupDescribeResponseGroupMember) v true x1_6.2 := ⟨_, rfl⟩
    obtain ⟨x1_8, hx1_8⟩ : ∃ x, x = stepF (Fd.mk 3 0 (-1) (-1) (-1) (-2147483648) 0 []) v true x1_7.2 := ⟨_, rfl⟩
    obtain ⟨u1_, hu1_⟩ : ∃ x, x = tailU true x1_8.2 := ⟨_, rfl⟩
    have hD1_ : decP fs_sShareGroupDescribeResponseGroup v true (rMany (decV 10 (decP fs_sShareGroupDescribeResponseGroup v true) false true) k1 (rArr true x0.2).2).2 = (.mk 0 [] false [x1_0.1, x1_1.1, x1_2.1, x1_3.1, x1_4.1, x1_5.1, x1_6.1, x1_7.1, x1_8.1] u1_.1, u1_.2) := by
     generalize ((rMany (decV 10 (decP fs_sShareGroupDescribeResponseGroup v true) false true) k1 (rArr true x0.2).2).2 : Rd) = r_ at hx1_0 ⊢
     rw [decP_eq]; unfold fs_sShareGroupDescribeResponseGroup; simp only [decFs_cons, decFs_nil, ← hx1_0, ← hx1_1, ← hx1_2, ← hx1_3, ← hx1_4, ← hx1_5, ← hx1_6, ← hx1_7, ← hx1_8, ← hu1_]
    have hL1_0 : x1_0.2.s.length ≤ BR := by rw [hx1_0]; exact Nat.le_trans (stepF_shr _ _ _ _) hL1__
    have hL1_1 : x1_1.2.s.length ≤ BR := by rw [hx1_1]; exact Nat.le_trans (stepF_shr _ _ _ _) hL1_0
    have hL1_2 : x1_2.2.s.length ≤ BR := by rw [hx1_2]; exact Nat.le_trans (stepF_shr _ _ _ _) hL1_1
    have hL1_3 : x1_3.2.s.length ≤ BR := by rw [hx1_3]; exact Nat.le_trans (stepF_shr _ _ _ _) hL1_2
    have hL1_4 : x1_4.2.s.length ≤ BR := by rw [hx1_4]; exact Nat.le_trans (stepF_shr _ _ _ _) hL1_3
    have hL1_5 : x1_5.2.s.length ≤ BR := by rw [hx1_5]; exact Nat.le_trans (stepF_shr _ _ _ _) hL1_4
    have hL1_6 : x1_6.2.s.length ≤ BR := by rw [hx1_6]; exact Nat.le_trans (stepF_shr _ _ _ _) hL1_5
    have hL1_7 : x1_7.2.s.length ≤ BR := by rw [hx1_7]; exact Nat.le_trans (stepF_shr _ _ _ _) hL1_6
    have hL1_8 : x1_8.2.s.length ≤ BR := by rw [hx1_8]; exact Nat.le_trans (stepF_shr _ _ _ _) hL1_7
    have hE1_ : u1_.2.bad = true → (decP fs_ShareGroupDescribeResponse v true ⟨s, false, !a.isNone⟩).2.bad = true := fun h => hbz1 (by show (decP fs_sShareGroupDescribeResponseGroup v true (rMany (decV 10 (decP fs_sShareGroupDescribeResponseGroup v true) false true) k1 (rArr true x0.2).2).2).2.bad = true; rw [hD1_]; exact h)
    have hB1_8 : x1_8.2.bad = true → (decP fs_ShareGroupDescribeResponse v true ⟨s, false, !a.isNone⟩).2.bad = true := fun h => hE1_ (by rw [hu1_]; exact tailU_bad h)
    have hB1_7 : x1_7.2.bad = true → (decP fs_ShareGroupDescribeResponse v true ⟨s, false, !a.isNone⟩).2.bad = true := fun h => hB1_8 (by rw [hx1_8]; exact step_bad h)
    have hB1_6 : x1_6.2.bad = true → (decP fs_ShareGroupDescribeResponse v true ⟨s, false, !a.isNone⟩).2.bad = true := fun h => hB1_7 (by rw [hx1_7]; exact step_bad h)
    have hB1_5 : x1_5.2.bad = true → (decP fs_ShareGroupDescribeResponse v true ⟨s, false, !a.isNone⟩).2.bad = true := fun h => hB1_6 (by rw [hx1_6]; exact step_bad h)
    have hB1_4 : x1_4.2.bad = true → (decP fs_ShareGroupDescribeResponse v true ⟨s, false, !a.isNone⟩).2.bad = true := fun h => hB1_5 (by rw [hx1_5]; exact step_bad h)
    have hB1_3 : x1_3.2.bad = true → (decP fs_ShareGroupDescribeResponse v true ⟨s, false, !a.isNone⟩).2.bad = true := fun h => hB1_4 (by rw [hx1_4]; exact step_bad h)
    have hB1_2 : x1_2.2.bad = true → (decP fs_ShareGroupDescribeResponse v true ⟨s, false, !a.isNone⟩).2.bad = true := fun h => hB1_3 (by rw [hx1_3]; exact step_bad h)
    have hB1_1 : x1_1.2.bad = true → (decP fs_ShareGroupDescribeResponse v true ⟨s, false, !a.isNone⟩).2.bad = true := fun h => hB1_2 (by rw [hx1_2]; exact step_bad h)
    have hB1_0 : x1_0.2.bad = true → (decP fs_ShareGroupDescribeResponse v true ⟨s, false, !a.isNone⟩).2.bad = true := fun h => hB1_1 (by rw [hx1_1]; exact step_bad h)
    refine skt ?_
    refine sq ?_
    refine bl ?_
    refine sr ?_
    refine mv rfl rfl ?_
    refine mv rfl rfl ?_
    refine ixk (j := k1) Tryz.runUnderlying186 Tryz.sizeOf193 rfl hga1 rfl rfl hkl1 rfl ?_
    refine asg rfl rfl ?_
    refine nl ?_
    refine sr ?_
    refine mv rfl rfl ?_
    refine cl rfl rfl rfl (def_ShareGroupDescribeResponseGroup ho1) rfl (fun v_ H1 L1 hle_ hR_ => ?_)
    obtain ⟨rfl, rfl⟩ := hR_
    refine nl ?_
    refine sr ?_
    refine mv rfl rfl ?_
    refine asg rfl rfl ?_
    refine nl ?_
    refine sq ?_
    refine sr ?_
    refine tf (.tail .head) ?_
    have ex1_0 : x1_0 = decV 2 (decP [] v true) false true (rMany (decV 10 (decP fs_sShareGroupDescribeResponseGroup v true) false true) k1 (rArr true x0.2).2).2 := (hx1_0.trans (step_yes (by decide) (show (0 : Int) ≤ v by omega) (Or.inl (by decide)))).trans (decF'_val (by decide) (rfl))
    refine cl rfl rfl rfl (d2 hR_1 ex1_0) rfl (fun v_ H1 L1 hle_ hR_ => ?_)
    obtain ⟨N104, rfl, hR104, rfl, rfl⟩ := hR_
    refine asg rfl rfl ?_
    refine nl ?_
    refine rg ?_
    refine mv rfl rfl ?_
    refine mv rfl rfl ?_
    refine nc rfl rfl ?_
    refine fa F193_0 rfl rfl ?_
    refine stM (off := 0) Tryz.sizeOf51 rfl (by rw [ho1]) rfl rfl rfl (.tail .head) ?_
    refine nl ?_
    refine sq ?_
    refine sr ?_
    refine asg rfl rfl ?_
    refine nl ?_
    refine sq ?_
    refine sr ?_
    refine mv rfl rfl ?_
    refine nl ?_
    refine cdT rfl (by omega) ?_
    refine sr ?_
    refine mv rfl rfl ?_
    refine nl ?_
    refine cF rfl ?_
    refine rg ?_
    have ex1_1 : x1_1 = decV 8 (decP [] v true) true true x1_0.2 := (hx1_1.trans (step_yes (by decide) (show (0 : Int) ≤ v by omega) (Or.inl (by decide)))).trans (decF'_val (by decide) (by simp only [Bool.and_eq_true, decide_eq_true_eq]; exact ⟨show (0 : Int) ≤ 0 by decide, show (0 : Int) ≤ v by omega⟩))
    refine cl rfl rfl rfl (d8tn hR104 ex1_1) rfl (fun v_ H1 L1 le_6 hR_ => ?_)
    obtain ⟨N112, rfl, hR112, p1_1, rfl, hf1_1⟩ := hR_
    refine asg rfl rfl ?_
    refine nl ?_
    refine rg ?_
    refine mv rfl rfl ?_
    refine mv rfl rfl ?_
    refine nc rfl rfl ?_
    refine fa F193_1 rfl rfl ?_
    refine stM (off := 1) Tryz.sizeOf131 rfl (by rw [ho1]) rfl rfl rfl (.tail .head) ?_
    refine nl ?_
    refine sq ?_
    refine sr ?_
    refine asg rfl rfl ?_
    refine nl ?_
    refine sq ?_
    refine sr ?_
    refine mv rfl rfl ?_
    refine nl ?_
    refine cF rfl ?_
    refine sr ?_
    refine mv rfl rfl ?_
    refine nl ?_
    refine cdT rfl (by omega) ?_
    refine rg ?_
    have ex1_2 : x1_2 = decV 8 (decP [] v true) false true x1_1.2 := (hx1_2.trans (step_yes (by decide) (show (0 : Int) ≤ v by omega) (Or.inl (by decide)))).trans (decF'_val (by decide) (rfl))
    refine cl rfl rfl rfl (d8t hR112 ex1_2) rfl (fun v_ H1 L1 le_7 hR_ => ?_)
    obtain ⟨N125, rfl, hR125, rfl, rfl⟩ := hR_
    refine asg rfl rfl ?_
    refine nl ?_
    refine rg ?_
    refine mv rfl rfl ?_
    refine mv rfl rfl ?_
    refine nc rfl rfl ?_
    refine fa F193_2 rfl rfl ?_
    refine stM (off := 2) Tryz.sizeOf9 rfl (by rw [ho1]) rfl rfl rfl (.tail .head) ?_
    refine nl ?_
    refine sq ?_
    refine sr ?_
    refine asg rfl rfl ?_
    refine nl ?_
    refine sq ?_
    refine sr ?_
    refine mv rfl rfl ?_
    refine nl ?_
    refine cF rfl ?_
    refine sr ?_
    refine mv rfl rfl ?_
    refine nl ?_
    refine cdT rfl (by omega) ?_
    refine rg ?_
    have ex1_3 : x1_3 = decV 8 (decP [] v true) false true x1_2.2 := (hx1_3.trans (step_yes (by decide) (show (0 : Int) ≤ v by omega) (Or.inl (by decide)))).trans (decF'_val (by decide) (rfl))
    refine cl rfl rfl rfl (d8t hR125 ex1_3) rfl (fun v_ H1 L1 le_8 hR_ => ?_)
    obtain ⟨N136, rfl, hR136, rfl, rfl⟩ := hR_
    refine asg rfl rfl ?_
    refine nl ?_
    refine rg ?_
    refine mv rfl rfl ?_
    refine mv rfl rfl ?_
    refine nc rfl rfl ?_
    refine fa F193_3 rfl rfl ?_
    refine stM (off := 3) Tryz.sizeOf9 rfl (by rw [ho1]) rfl rfl rfl (.tail .head) ?_
    refine nl ?_
    refine sq ?_
    refine sr ?_
    have ex1_4 : x1_4 = decV 3 (decP [] v true) false true x1_3.2 := (hx1_4.trans (step_yes (by decide) (show (0 : Int) ≤ v by omega) (Or.inl (by decide)))).trans (decF'_val (by decide) (rfl))
    refine cl rfl rfl rfl (d3 hR136 ex1_4) rfl (fun v_ H1 L1 hle_ hR_ => ?_)
    obtain ⟨N142, rfl, hR142, rfl, rfl⟩ := hR_
    refine asg rfl rfl ?_
    refine nl ?_
    refine rg ?_
    refine mv rfl rfl ?_
    refine mv rfl rfl ?_
    refine nc rfl rfl ?_
    refine fa F193_4 rfl rfl ?_
    refine stM (off := 4) Tryz.sizeOf21 rfl (by rw [ho1]) rfl rfl rfl (.tail .head) ?_
    refine nl ?_
    refine sq ?_
    refine sr ?_
    have ex1_5 : x1_5 = decV 3 (decP [] v true) false true x1_4.2 := (hx1_5.trans (step_yes (by decide) (show (0 : Int) ≤ v by omega) (Or.inl (by decide)))).trans (decF'_val (by decide) (rfl))
    refine cl rfl rfl rfl (d3 hR142 ex1_5) rfl (fun v_ H1 L1 hle_ hR_ => ?_)
    obtain ⟨N147, rfl, hR147, rfl, rfl⟩ := hR_
    refine asg rfl rfl ?_
    refine nl ?_
    refine rg ?_
    refine mv rfl rfl ?_
    refine mv rfl rfl ?_
    refine nc rfl rfl ?_
    refine fa F193_5 rfl rfl ?_
    refine stM (off := 5) Tryz.sizeOf21 rfl (by rw [ho1]) rfl rfl rfl (.tail .head) ?_
    refine nl ?_
    refine sq ?_
    refine sr ?_
    refine asg rfl rfl ?_
    refine nl ?_
    refine sq ?_
    refine sr ?_
    refine mv rfl rfl ?_
    refine nl ?_
    refine cF rfl ?_
    refine sr ?_
    refine mv rfl rfl ?_
    refine nl ?_
    refine cdT rfl (by omega) ?_
    refine rg ?_
    have ex1_6 : x1_6 = decV 8 (decP [] v true) false true x1_5.2 := (hx1_6.trans (step_yes (by decide) (show (0 : Int) ≤ v by omega) (Or.inl (by decide)))).trans (decF'_val (by decide) (rfl))
    refine cl rfl rfl rfl (d8t hR147 ex1_6) rfl (fun v_ H1 L1 le_11 hR_ => ?_)
    obtain ⟨N157, rfl, hR157, rfl, rfl⟩ := hR_
    refine asg rfl rfl ?_
    refine nl ?_
    refine rg ?_
    refine mv rfl rfl ?_
    refine mv rfl rfl ?_
    refine nc rfl rfl ?_
    refine fa F193_6 rfl rfl ?_
    refine stM (off := 6) Tryz.sizeOf9 rfl (by rw [ho1]) rfl rfl rfl (.tail .head) ?_
    refine nl ?_
    refine sq ?_
    refine sr ?_
    refine mv rfl rfl ?_
    refine nc rfl rfl ?_
    refine fa F193_7 rfl rfl ?_
    refine ld (j := 7) (off := 0 + k1 * 10) (Says.mid (.tail .head) ho1) Tryz.isAgg191 rfl rfl rfl rfl ?_
    refine asg rfl rfl ?_
    refine nl ?_
    refine sr ?_
    refine mv rfl rfl ?_
    refine asg rfl rfl ?_
    refine nl ?_
    refine sr ?_
    refine asg rfl rfl ?_
    refine nl ?_
    refine sq ?_
    refine sr ?_
    refine mv rfl rfl ?_
    refine nl ?_
    refine cdT rfl (by omega) ?_
    refine rg ?_
    have ey1_7 : x1_7 = (.mk 0 [] (if 0 ≤ ((-1) : Int) ∧ (v < ((-1) : Int) ∨ (rArr true x1_6.2).1 = 0) then false else decide ((rArr true x1_6.2).1 ≤ 0)) (rMany (decV 10 (decP fs_sShareGroupDescribeResponseGroupMember v true) false true) (rArr true x1_6.2).1.toNat (rArr true x1_6.2).2).1 [], (rMany (decV 10 (decP fs_sShareGroupDescribeResponseGroupMember v true) false true) (rArr true x1_6.2).1.toNat (rArr true x1_6.2).2).2) := (hx1_7.trans (step_yes (by decide) (show (0 : Int) ≤ v by omega) (Or.inl (by decide)))).trans (decF'_list rfl rfl)
    have hn1_7 : (rArr true x1_6.2).1.toNat = (lT x1_7.1).length := by rw [ey1_7]; exact (lT_many nul_le).symm
    have ex1_7 := ey1_7
    rw [hn1_7] at ex1_7
    have hl1_7 := rArr_le true x1_6.2
    have hm1_7 : (rArr true x1_6.2).2.s.length ≤ BR := Nat.le_trans (rArr_len true x1_6.2) hL1_6
    have hnb1_7 : (lT x1_7.1).length ≤ BR := by omega
    refine cl rfl rfl rfl (r_arrt hR157) rfl (fun v_ H1 L1 hle_ hR_ => ?_)
    obtain ⟨rfl, N169, rfl, hR169, rfl⟩ := hR_
    have hh1_7 := rArr_hi true x1_6.2
    refine asg rfl rfl ?_
    refine nl ?_
    refine sq ?_
    refine sr ?_
    refine cl rfl rfl rfl (r_ok hR169) rfl (fun v_ H1 L1 hle_ hR_ => ?_)
    obtain ⟨rfl, rfl, rfl⟩ := hR_
    refine nt rfl rfl ?_
    refine nl ?_
    refine cb rfl (fun h172 => ?_) (fun h172 => ?_)
    ·
     have hbad_ : (rArr true x1_6.2).2.bad = true := by simpa using h172
     refine sr ?_
     refine cl rfl rfl rfl (r_complete hR169 (he.mono (le_3.trans (le_4.trans le_6)))) rfl (fun v_ H1 L1 hle_ hR_ => ?_)
     obtain ⟨rfl, rfl, rfl⟩ := hR_
     refine asg rfl rfl ?_
     refine nl ?_
     refine drW .head ?_
     refine drW .head ?_
     exact rT rfl rfl (le_3.trans (le_4.trans le_6)) (fun _ _ h => h) ⟨_, rfl, RdEnd.out (hB1_7 (by rw [ey1_7]; exact rMany_bad (fun r h => decV_bad (decP_bad _ _ _) h) _ _ hbad_)) hbad_⟩
    ·
     refine skt ?_
     refine sr ?_
     refine mv rfl rfl ?_
     refine sh' (j := 0) Tryz.runUnderlying191 Tryz.sizeOf298 rfl rfl rfl (Nat.zero_le _) rfl ?_
     refine asg rfl rfl ?_
     refine nl ?_
     refine sq ?_
     refine sr ?_
     refine mv rfl rfl ?_
     refine gt rfl rfl rfl ?_
     refine nl ?_
     refine nulC2 ?_
     refine cutT (fun l' H' L' => ∃ (a1_7 : Option Addr), ∃ (c1_7 : Nat), ∃ (Nr1_7 : Chunk), [(2, .bool false), (7, .pointer (some ⟨b_1, 0, none⟩)), (9, .bool (decide ((0 : Int) ≤ v))), (10, .pointer (some ⟨b, 0, none⟩)), (12, .slice none 0 0), (13, .slice a1 (lT x1.1).length c1), (14, .int .i32 (rArr true x0.2).1), (15, .int .i32 (k1 : Int)), (17, .pointer (some ⟨g1, 0 + k1 * 10, none⟩)), (25, .slice none 0 0), (26, .slice a1_7 (lT x1_7.1).length c1_7), (27, .int .i32 (rArr true x1_6.2).1)] = l' ∧ Nr1_7 :: N169 :: [(g1, .cells ((es1.flatMap fk) ++ ([.int .i16 (IntKind.i16.wrap x1_0.1.n), .pointer p1_1, .string ⟨x1_2.1.s.toArray⟩, .string ⟨x1_3.1.s.toArray⟩, .int .i32 (IntKind.i32.wrap x1_4.1.n), .int .i32 (IntKind.i32.wrap x1_5.1.n), .string ⟨x1_6.1.s.toArray⟩, .slice none 0 0, .int .i32 (-2147483648), .map none] : List Value) ++ po1).toArray 193 (0, 0))] :: [(b, .cells [.int .i16 v, .int .i32 (IntKind.i32.wrap x0.1.n), .slice none 0 0, .map none].toArray 188 (0, 0))] :: L = L' ∧ Row 298 9 a1_7 (lT x1_7.1).length c1_7 (reps [.string ⟨#[]⟩, .pointer none, .int .i32 0, .string ⟨#[]⟩, .string ⟨#[]⟩, .slice none 0 0, .slice none 0 0, .map none, .map none] (lT x1_7.1).length) Nr1_7 ∧ a1_7.isNone = (if 0 ≤ ((-1) : Int) ∧ (v < ((-1) : Int) ∨ (rArr true x1_6.2).1 = 0) then false else decide ((rArr true x1_6.2).1 ≤ 0))) ?_ (fun l' H' L' le_12 hI => ?_)
     ·
      refine cd rfl (fun h177 => ?_) (fun h177 => ?_)
      ·
       refine rg ?_
       refine mv rfl rfl ?_
       refine mv rfl rfl ?_
       refine apz (zs := [.string ⟨#[]⟩, .pointer none, .int .i32 0, .string ⟨#[]⟩, .string ⟨#[]⟩, .slice none 0 0, .slice none 0 0, .map none, .map none]) (m := (lT x1_7.1).length) Tryz.underlying191 Tryz.underlying21 I298 rfl rfl rfl (by omega) (by omega) (by have h9 := hnb1_7; unfold BR at h9; omega) (by have h9 := hnb1_7; unfold BR at h9; unfold maxLen; omega) rfl (fun g180 cp180 N180 r180 => ?_)
       refine asg rfl rfl ?_
       refine nN ?_
       refine drN (.tail .head) ?_
       refine fun a_ w_ hA hw => ⟨_, _, _, hA.sub ?_, (Fz.le.refl _), hw, (some ⟨g180, 0, none⟩), cp180, N180, rfl, rfl, r180, (by rw [if_neg (by omega)]; exact (decide_eq_false (by omega)).symm)⟩
       exact (.cons rfl (.cons rfl (.cons rfl (.cons rfl (.cons rfl (.cons rfl (.cons rfl (.cons rfl (.cons rfl (.cons rfl (.cons rfl (.cons rfl (.nil _)))))))))))))
      ·
       refine skN ?_
       refine fun a_ w_ hA hw => ⟨_, _, _, hA.sub ?_, (Fz.le.refl _), hw, none, 0, [], rfl, rfl, (by rw [show (lT x1_7.1).length = 0 by omega]; exact (Row.nil _ _)), (by rw [if_neg (by omega)]; exact (decide_eq_true (by omega)).symm)⟩
       exact (.cons rfl (.cons rfl (.cons rfl (.cons rfl (.cons rfl (.cons rfl (.cons rfl (.cons rfl (.cons rfl (.cons rfl (.cons (by rw [show (lT x1_7.1).length = 0 by omega]; rfl) (.cons rfl (.nil _)))))))))))))
     ·
      obtain ⟨a1_7, c1_7, Nr1_7, rfl, rfl, pj0, pj1⟩ := hI
      have hr1_7 := pj0
      have hi1_7 := pj1
      refine sq ?_
      refine sr ?_
      refine asg rfl rfl ?_
      refine nl ?_
      refine bl (lp ((lT x1_7.1).length) (fun k1_7 l' H' L' => ∃ (es1_7 : List (KE 9)) (M1_7 RN1_7 : Chunk), [(2, .bool false), (7, .pointer (some ⟨b_1, 0, none⟩)), (9, .bool (decide ((0 : Int) ≤ v))), (10, .pointer (some ⟨b, 0, none⟩)), (12, .slice none 0 0), (13, .slice a1 (lT x1.1).length c1), (14, .int .i32 (rArr true x0.2).1), (15, .int .i32 (k1 : Int)), (17, .pointer (some ⟨g1, 0 + k1 * 10, none⟩)), (25, .slice none 0 0), (26, .slice a1_7 (lT x1_7.1).length c1_7), (27, .int .i32 (rArr true x1_6.2).1), (28, .int .i32 (k1_7 : Int))] = l' ∧ M1_7 :: RN1_7 :: [(g1, .cells ((es1.flatMap fk) ++ ([.int .i16 (IntKind.i16.wrap x1_0.1.n), .pointer p1_1, .string ⟨x1_2.1.s.toArray⟩, .string ⟨x1_3.1.s.toArray⟩, .int .i32 (IntKind.i32.wrap x1_4.1.n), .int .i32 (IntKind.i32.wrap x1_5.1.n), .string ⟨x1_6.1.s.toArray⟩, .slice none 0 0, .int .i32 (-2147483648), .map none] : List Value) ++ po1).toArray 193 (0, 0))] :: [(b, .cells [.int .i16 v, .int .i32 (IntKind.i32.wrap x0.1.n), .slice none 0 0, .map none].toArray 188 (0, 0))] :: L = L' ∧ RdAt H' 232 b_1 (rMany (decV 10 (decP fs_sShareGroupDescribeResponseGroupMember v true) false true) k1_7 (rArr true x1_6.2).2).2 RN1_7 ∧ Row 298 9 a1_7 (lT x1_7.1).length c1_7 (es1_7.flatMap fk ++ reps [.string ⟨#[]⟩, .pointer none, .int .i32 0, .string ⟨#[]⟩, .string ⟨#[]⟩, .slice none 0 0, .slice none 0 0, .map none, .map none] ((lT x1_7.1).length - k1_7)) M1_7 ∧ es1_7.map (·.2) = (rMany (decV 10 (decP fs_sShareGroupDescribeResponseGroupMember v true) false true) k1_7 (rArr true x1_6.2).2).1 ∧ ∀ p ∈ es1_7, At_ShareGroupDescribeResponseGroupMember H' p.2 (fk p)) [(2, .bool false), (7, .pointer (some ⟨b_1, 0, none⟩)), (9, .bool (decide ((0 : Int) ≤ v))), (10, .pointer (some ⟨b, 0, none⟩)), (12, .slice none 0 0), (13, .slice a1 (lT x1.1).length c1), (14, .int .i32 (rArr true x0.2).1), (15, .int .i32 (k1 : Int)), (17, .pointer (some ⟨g1, 0 + k1 * 10, none⟩)), (25, .slice none 0 0), (26, .slice a1_7 (lT x1_7.1).length c1_7), (27, .int .i32 (rArr true x1_6.2).1), (28, .int .i32 (0 : Int))] (.cons rfl (.cons rfl (.cons rfl (.cons rfl (.cons rfl (.cons rfl (.cons rfl (.cons rfl (.cons rfl (.cons rfl (.cons rfl (.cons rfl (.cons rfl (.nil _)))))))))))))) ⟨[], Nr1_7, _, rfl, rfl, (hR169.mono le_12), hr1_7, rfl, (fun p hp => by cases hp)⟩ (fun k1_7 l' H' L' hk1_7 le_13 hI => ?_))
      obtain ⟨es1_7, M1_7, RN1_7, rfl, rfl, hR_1_7, hw_1_7, he_1_7, hg_1_7⟩ := hI
      have hs_1_7 := els_len he_1_7
      have hp_1_7 : (es1_7.flatMap fk).length = k1_7 * 9 := els_flat hs_1_7
      refine sq ?_
      refine sr ?_
      refine mv rfl rfl ?_
      refine mv rfl rfl ?_
      refine lt rfl rfl rfl ?_
      refine nl ?_
      refine cd rfl (fun h183 => ?_) (fun h183 => ?_)
      ·
       have hkl1_7 : k1_7 < (lT x1_7.1).length := by omega
       obtain ⟨g1_7, po1_7, hga1_7, rfl, hbk1_7⟩ := hw_1_7.next (zs := [.string ⟨#[]⟩, .pointer none, .int .i32 0, .string ⟨#[]⟩, .string ⟨#[]⟩, .slice none 0 0, .slice none 0 0, .map none, .map none]) hkl1_7 rfl (by decide)
       have ho1_7 : 0 + k1_7 * 9 = (es1_7.flatMap fk).length := by rw [hp_1_7]; omega
       have hbz1_7 : ((decV 10 (decP fs_sShareGroupDescribeResponseGroupMember v true) false true) (rMany (decV 10 (decP fs_sShareGroupDescribeResponseGroupMember v true) false true) k1_7 (rArr true x1_6.2).2).2).2.bad = true → (decP fs_ShareGroupDescribeResponse v true ⟨s, false, !a.isNone⟩).2.bad = true := fun h => hB1_7 (by rw [ex1_7]; exact rMany_mono (fun r h => decV_bad (fun r h => decP_bad _ _ _ r h) h) _ (show k1_7 + 1 ≤ (lT x1_7.1).length from hkl1_7) (by rw [rMany_succ]; exact h))
       have hLk1_7 : (rMany (decV 10 (decP fs_sShareGroupDescribeResponseGroupMember v true) false true) k1_7 (rArr true x1_6.2).2).2.s.length ≤ BR := Nat.le_trans (rMany_shr (fun r => decV_shr (fun r => decP_shr _ _ _ r) r) _ _) hm1_7
       have hL1_7__ := hLk1_7
       obtain ⟨x1_7_0, hx1_7_0⟩ : ∃ x, x = stepF (Fd.mk 8 0 (-1) (-1) (-1) 0 0 []) v true (rMany (decV 10 (decP fs_sShareGroupDescribeResponseGroupMember v true) false true) k1_7 (rArr true x1_6.2).2).2 := ⟨_, rfl⟩
       obtain ⟨x1_7_1, hx1_7_1⟩ : ∃ x, x = stepF (Fd.mk 8 0 (-1) 0 (-1) 0 0 []) v true x1_7_0.2 := ⟨_, rfl⟩
       obtain ⟨x1_7_2, hx1_7_2⟩ : ∃ x, x = stepF (Fd.mk 3 0 (-1) (-1) (-1) 0 0 []) v true x1_7_1.2 := ⟨_, rfl⟩
       obtain ⟨x1_7_3, hx1_7_3⟩ : ∃ x, x = stepF (Fd.mk 8 0 (-1) (-1) (-1) 0 0 []) v true x1_7_2.2 := ⟨_, rfl⟩
       obtain ⟨x1_7_4, hx1_7_4⟩ : ∃ x, x = stepF (Fd.mk 8 0 (-1) (-1) (-1) 0 0 []) v true x1_7_3.2 := ⟨_, rfl⟩
       obtain ⟨x1_7_5, hx1_7_5⟩ : ∃ x, x = stepF (Fd.mk 11 0 (-1) (-1) (-1) 0 8 []) v true x1_7_4.2 := ⟨_, rfl⟩
       obtain ⟨x1_7_6, hx1_7_6⟩ : ∃ x, x = stepF (Fd.mk 10 0 (-1) (-1) (-1) 0 0 fs_sShareGroupDescribeResponseGroupMemberAssignment) v true x1_7_5.2 := ⟨_, rfl⟩
       obtain ⟨u1_7_, hu1_7_⟩ : ∃ x, x = tailU true x1_7_6.2 := ⟨_, rfl⟩
       have hD1_7_ : decP fs_sShareGroupDescribeResponseGroupMember v true (rMany (decV 10 (decP fs_sShareGroupDescribeResponseGroupMember v true) false true) k1_7 (rArr true x1_6.2).2).2 = (.mk 0 [] false [x1_7_0.1, x1_7_1.1, x1_7_2.1, x1_7_3.1, x1_7_4.1, x1_7_5.1, x1_7_6.1] u1_7_.1, u1_7_.2) := by
        generalize ((rMany (decV 10 (decP fs_sShareGroupDescribeResponseGroupMember v true) false true) k1_7 (rArr true x1_6.2).2).2 : Rd) = r_ at hx1_7_0 ⊢
        rw [decP_eq]; unfold fs_sShareGroupDescribeResponseGroupMember; simp only [decFs_cons, decFs_nil, ← hx1_7_0, ← hx1_7_1, ← hx1_7_2, ← hx1_7_3, ← hx1_7_4, ← hx1_7_5, ← hx1_7_6, ← hu1_7_]
       have hL1_7_0 : x1_7_0.2.s.length ≤ BR := by rw [hx1_7_0]; exact Nat.le_trans (stepF_shr _ _ _ _) hL1_7__
       have hL1_7_1 : x1_7_1.2.s.length ≤ BR := by rw [hx1_7_1]; exact Nat.le_trans (stepF_shr _ _ _ _) hL1_7_0
       have hL1_7_2 : x1_7_2.2.s.length ≤ BR := by rw [hx1_7_2]; exact Nat.le_trans (stepF_shr _ _ _ _) hL1_7_1
       have hL1_7_3 : x1_7_3.2.s.length ≤ BR := by rw [hx1_7_3]; exact Nat.le_trans (stepF_shr _ _ _ _) hL1_7_2
       have hL1_7_4 : x1_7_4.2.s.length ≤ BR := by rw [hx1_7_4]; exact Nat.le_trans (stepF_shr _ _ _ _) hL1_7_3
       have hL1_7_5 : x1_7_5.2.s.length ≤ BR := by rw [hx1_7_5]; exact Nat.le_trans (stepF_shr _ _ _ _) hL1_7_4
       have hL1_7_6 : x1_7_6.2.s.length ≤ BR := by rw [hx1_7_6]; exact Nat.le_trans (stepF_shr _ _ _ _) hL1_7_5
       have hE1_7_ : u1_7_.2.bad = true → (decP fs_ShareGroupDescribeResponse v true ⟨s, false, !a.isNone⟩).2.bad = true := fun h => hbz1_7 (by show (decP fs_sShareGroupDescribeResponseGroupMember v true (rMany (decV 10 (decP fs_sShareGroupDescribeResponseGroupMember v true) false true) k1_7 (rArr true x1_6.2).2).2).2.bad = true; rw [hD1_7_]; exact h)
       have hB1_7_6 : x1_7_6.2.bad = true → (decP fs_ShareGroupDescribeResponse v true ⟨s, false, !a.isNone⟩).2.bad = true := fun h => hE1_7_ (by rw [hu1_7_]; exact tailU_bad h)
       have hB1_7_5 : x1_7_5.2.bad = true → (decP fs_ShareGroupDescribeResponse v true ⟨s, false, !a.isNone⟩).2.bad = true := fun h => hB1_7_6 (by rw [hx1_7_6]; exact step_bad h)
       have hB1_7_4 : x1_7_4.2.bad = true → (decP fs_ShareGroupDescribeResponse v true ⟨s, false, !a.isNone⟩).2.bad = true := fun h => hB1_7_5 (by rw [hx1_7_5]; exact step_bad h)
       have hB1_7_3 : x1_7_3.2.bad = true → (decP fs_ShareGroupDescribeResponse v true ⟨s, false, !a.isNone⟩).2.bad = true := fun h => hB1_7_4 (by rw [hx1_7_4]; exact step_bad h)
       have hB1_7_2 : x1_7_2.2.bad = true → (decP fs_ShareGroupDescribeResponse v true ⟨s, false, !a.isNone⟩).2.bad = true := fun h => hB1_7_3 (by rw [hx1_7_3]; exact step_bad h)
       have hB1_7_1 : x1_7_1.2.bad = true → (decP fs_ShareGroupDescribeResponse v true ⟨s, false, !a.isNone⟩).2.bad = true := fun h => hB1_7_2 (by rw [hx1_7_2]; exact step_bad h)
       have hB1_7_0 : x1_7_0.2.bad = true → (decP fs_ShareGroupDescribeResponse v true ⟨s, false, !a.isNone⟩).2.bad = true := fun h => hB1_7_1 (by rw [hx1_7_1]; exact step_bad h)
       refine skt ?_
       refine sq ?_
       refine bl ?_
       refine sr ?_
       refine mv rfl rfl ?_
       refine mv rfl rfl ?_
       refine ixk (j := k1_7) Tryz.runUnderlying191 Tryz.sizeOf298 rfl hga1_7 rfl rfl hkl1_7 rfl ?_
       refine asg rfl rfl ?_
       refine nl ?_
       refine sr ?_
       refine mv rfl rfl ?_
       refine cl rfl rfl rfl (def_ShareGroupDescribeResponseGroupMember ho1_7) rfl (fun v_ H1 L1 hle_ hR_ => ?_)
       obtain ⟨rfl, rfl⟩ := hR_
       refine nl ?_
       refine sr ?_
       refine mv rfl rfl ?_
       refine asg rfl rfl ?_
       refine nl ?_
       refine sq ?_
       refine sr ?_
       refine asg rfl rfl ?_
       refine nl ?_
       refine sq ?_
       refine sr ?_
       refine mv rfl rfl ?_
       refine nl ?_
       refine cF rfl ?_
       refine sr ?_
       refine mv rfl rfl ?_
       refine nl ?_
       refine cdT rfl (by omega) ?_
       refine rg ?_
       refine tf (.tail .head) ?_
       have ex1_7_0 : x1_7_0 = decV 8 (decP [] v true) false true (rMany (decV 10 (decP fs_sShareGroupDescribeResponseGroupMember v true) false true) k1_7 (rArr true x1_6.2).2).2 := (hx1_7_0.trans (step_yes (by decide) (show (0 : Int) ≤ v by omega) (Or.inl (by decide)))).trans (decF'_val (by decide) (rfl))
       refine cl rfl rfl rfl (d8t hR_1_7 ex1_7_0) rfl (fun v_ H1 L1 le_14 hR_ => ?_)
       obtain ⟨N197, rfl, hR197, rfl, rfl⟩ := hR_
       refine asg rfl rfl ?_
       refine nl ?_
       refine rg ?_
       refine mv rfl rfl ?_
       refine mv rfl rfl ?_
       refine nc rfl rfl ?_
       refine fa F298_0 rfl rfl ?_
       refine stM (off := 0) Tryz.sizeOf9 rfl (by rw [ho1_7]) rfl rfl rfl (.tail .head) ?_
       refine nl ?_
       refine sq ?_
       refine sr ?_
       refine asg rfl rfl ?_
       refine nl ?_
       refine sq ?_
       refine sr ?_
       refine mv rfl rfl ?_
       refine nl ?_
       refine cdT rfl (by omega) ?_
       refine sr ?_
       refine mv rfl rfl ?_
       refine nl ?_
       refine cF rfl ?_
       refine rg ?_
       have ex1_7_1 : x1_7_1 = decV 8 (decP [] v true) true true x1_7_0.2 := (hx1_7_1.trans (step_yes (by decide) (show (0 : Int) ≤ v by omega) (Or.inl (by decide)))).trans (decF'_val (by decide) (by simp only [Bool.and_eq_true, decide_eq_true_eq]; exact ⟨show (0 : Int) ≤ 0 by decide, show (0 : Int) ≤ v by omega⟩))
       refine cl rfl rfl rfl (d8tn hR197 ex1_7_1) rfl (fun v_ H1 L1 le_15 hR_ => ?_)
       obtain ⟨N206, rfl, hR206, p1_7_1, rfl, hf1_7_1⟩ := hR_
       refine asg rfl rfl ?_
       refine nl ?_
       refine rg ?_
       refine mv rfl rfl ?_
       refine mv rfl rfl ?_
       refine nc rfl rfl ?_
       refine fa F298_1 rfl rfl ?_
       refine stM (off := 1) Tryz.sizeOf131 rfl (by rw [ho1_7]) rfl rfl rfl (.tail .head) ?_
       refine nl ?_
       refine sq ?_
       refine sr ?_
       have ex1_7_2 : x1_7_2 = decV 3 (decP [] v true) false true x1_7_1.2 := (hx1_7_2.trans (step_yes (by decide) (show (0 : Int) ≤ v by omega) (Or.inl (by decide)))).trans (decF'_val (by decide) (rfl))
       refine cl rfl rfl rfl (d3 hR206 ex1_7_2) rfl (fun v_ H1 L1 hle_ hR_ => ?_)
       obtain ⟨N214, rfl, hR214, rfl, rfl⟩ := hR_
       refine asg rfl rfl ?_
       refine nl ?_
       refine rg ?_
       refine mv rfl rfl ?_
       refine mv rfl rfl ?_
       refine nc rfl rfl ?_
       refine fa F298_2 rfl rfl ?_
       refine stM (off := 2) Tryz.sizeOf21 rfl (by rw [ho1_7]) rfl rfl rfl (.tail .head) ?_
       refine nl ?_
       refine sq ?_
       refine sr ?_
       refine asg rfl rfl ?_
       refine nl ?_
       refine sq ?_
       refine sr ?_
       refine mv rfl rfl ?_
       refine nl ?_
       refine cF rfl ?_
       refine sr ?_
       refine mv rfl rfl ?_
       refine nl ?_
       refine cdT rfl (by omega) ?_
       refine rg ?_
       have ex1_7_3 : x1_7_3 = decV 8 (decP [] v true) false true x1_7_2.2 := (hx1_7_3.trans (step_yes (by decide) (show (0 : Int) ≤ v by omega) (Or.inl (by decide)))).trans (decF'_val (by decide) (rfl))
       refine cl rfl rfl rfl (d8t hR214 ex1_7_3) rfl (fun v_ H1 L1 le_17 hR_ => ?_)
       obtain ⟨N224, rfl, hR224, rfl, rfl⟩ := hR_
       refine asg rfl rfl ?_
       refine nl ?_
       refine rg ?_
       refine mv rfl rfl ?_
       refine mv rfl rfl ?_
       refine nc rfl rfl ?_
       refine fa F298_3 rfl rfl ?_
       refine stM (off := 3) Tryz.sizeOf9 rfl (by rw [ho1_7]) rfl rfl rfl (.tail .head) ?_
       refine nl ?_
       refine sq ?_
       refine sr ?_
       refine asg rfl rfl ?_
       refine nl ?_
       refine sq ?_
       refine sr ?_
       refine mv rfl rfl ?_
       refine nl ?_
       refine cF rfl ?_
       refine sr ?_
       refine mv rfl rfl ?_
       refine nl ?_
       refine cdT rfl (by omega) ?_
       refine rg ?_
       have ex1_7_4 : x1_7_4 = decV 8 (decP [] v true) false true x1_7_3.2 := (hx1_7_4.trans (step_yes (by decide) (show (0 : Int) ≤ v by omega) (Or.inl (by decide)))).trans (decF'_val (by decide) (rfl))
       refine cl rfl rfl rfl (d8t hR224 ex1_7_4) rfl (fun v_ H1 L1 le_18 hR_ => ?_)
       obtain ⟨N235, rfl, hR235, rfl, rfl⟩ := hR_
       refine asg rfl rfl ?_
       refine nl ?_
       refine rg ?_
       refine mv rfl rfl ?_
       refine mv rfl rfl ?_
       refine nc rfl rfl ?_
       refine fa F298_4 rfl rfl ?_
       refine stM (off := 4) Tryz.sizeOf9 rfl (by rw [ho1_7]) rfl rfl rfl (.tail .head) ?_
       refine nl ?_
       refine sq ?_
       refine sr ?_
       refine mv rfl rfl ?_
       refine nc rfl rfl ?_
       refine fa F298_5 rfl rfl ?_
       refine ld (j := 5) (off := 0 + k1_7 * 9) (Says.mid (.tail .head) ho1_7) Tryz.isAgg203 rfl rfl rfl rfl ?_
       refine asg rfl rfl ?_
       refine nl ?_
       refine sr ?_
       refine mv rfl rfl ?_
       refine asg rfl rfl ?_
       refine nl ?_
       refine sr ?_
       refine asg rfl rfl ?_
       refine nl ?_
       refine sq ?_
       refine sr ?_
       refine mv rfl rfl ?_
       refine nl ?_
       refine cdT rfl (by omega) ?_
       refine rg ?_
       have ey1_7_5 : x1_7_5 = (.mk 0 [] (if 0 ≤ ((-1) : Int) ∧ (v < ((-1) : Int) ∨ (rArr true x1_7_4.2).1 = 0) then false else decide ((rArr true x1_7_4.2).1 ≤ 0)) (rMany (decV 8 (decP [] v true) false true) (rArr true x1_7_4.2).1.toNat (rArr true x1_7_4.2).2).1 [], (rMany (decV 8 (decP [] v true) false true) (rArr true x1_7_4.2).1.toNat (rArr true x1_7_4.2).2).2) := (hx1_7_5.trans (step_yes (by decide) (show (0 : Int) ≤ v by omega) (Or.inl (by decide)))).trans (decF'_list rfl rfl)
       have hn1_7_5 : (rArr true x1_7_4.2).1.toNat = (lT x1_7_5.1).length := by rw [ey1_7_5]; exact (lT_many nul_le).symm
       have ex1_7_5 := ey1_7_5
       rw [hn1_7_5] at ex1_7_5
       have hl1_7_5 := rArr_le true x1_7_4.2
       have hm1_7_5 : (rArr true x1_7_4.2).2.s.length ≤ BR := Nat.le_trans (rArr_len true x1_7_4.2) hL1_7_4
       have hnb1_7_5 : (lT x1_7_5.1).length ≤ BR := by omega
       refine cl rfl rfl rfl (r_arrt hR235) rfl (fun v_ H1 L1 hle_ hR_ => ?_)
       obtain ⟨rfl, N247, rfl, hR247, rfl⟩ := hR_
       have hh1_7_5 := rArr_hi true x1_7_4.2
       refine asg rfl rfl ?_
       refine nl ?_
       refine sq ?_
       refine sr ?_
       refine cl rfl rfl rfl (r_ok hR247) rfl (fun v_ H1 L1 hle_ hR_ => ?_)
       obtain ⟨rfl, rfl, rfl⟩ := hR_
       refine nt rfl rfl ?_
       refine nl ?_
       refine cb rfl (fun h250 => ?_) (fun h250 => ?_)
       ·
        have hbad_ : (rArr true x1_7_4.2).2.bad = true := by simpa using h250
        refine sr ?_
        refine cl rfl rfl rfl (r_complete hR247 (he.mono (le_3.trans (le_4.trans (le_6.trans (le_12.trans (le_13.trans le_15))))))) rfl (fun v_ H1 L1 hle_ hR_ => ?_)
        obtain ⟨rfl, rfl, rfl⟩ := hR_
        refine asg rfl rfl ?_
        refine nl ?_
        refine drW .head ?_
        refine drW .head ?_
        refine drW .head ?_
        exact rT rfl rfl (le_3.trans (le_4.trans (le_6.trans (le_12.trans (le_13.trans le_15))))) (fun _ _ h => h) ⟨_, rfl, RdEnd.out (hB1_7_5 (by rw [ey1_7_5]; exact rMany_bad (fun r h => decV_bad (decP_bad _ _ _) h) _ _ hbad_)) hbad_⟩
       ·
        refine skt ?_
        refine sr ?_
        refine mv rfl rfl ?_
        refine sh' (j := 0) Tryz.runUnderlying203 Tryz.sizeOf9 rfl rfl rfl (Nat.zero_le _) rfl ?_
        refine asg rfl rfl ?_
        refine nl ?_
        refine sq ?_
        refine sr ?_
        refine mv rfl rfl ?_
        refine gt rfl rfl rfl ?_
        refine nl ?_
        refine nulC2 ?_
        refine cutT (fun l' H' L' => ∃ (a1_7_5 : Option Addr), ∃ (c1_7_5 : Nat), ∃ (Nr1_7_5 : Chunk), [(2, .bool false), (7, .pointer (some ⟨b_1, 0, none⟩)), (9, .bool (decide ((0 : Int) ≤ v))), (10, .pointer (some ⟨b, 0, none⟩)), (12, .slice none 0 0), (13, .slice a1 (lT x1.1).length c1), (14, .int .i32 (rArr true x0.2).1), (15, .int .i32 (k1 : Int)), (17, .pointer (some ⟨g1, 0 + k1 * 10, none⟩)), (25, .slice none 0 0), (26, .slice a1_7 (lT x1_7.1).length c1_7), (27, .int .i32 (rArr true x1_6.2).1), (28, .int .i32 (k1_7 : Int)), (30, .pointer (some ⟨g1_7, 0 + k1_7 * 9, none⟩)), (36, .slice none 0 0), (37, .slice a1_7_5 (lT x1_7_5.1).length c1_7_5), (38, .int .i32 (rArr true x1_7_4.2).1)] = l' ∧ Nr1_7_5 :: N247 :: [(g1_7, .cells ((es1_7.flatMap fk) ++ ([.string ⟨x1_7_0.1.s.toArray⟩, .pointer p1_7_1, .int .i32 (IntKind.i32.wrap x1_7_2.1.n), .string ⟨x1_7_3.1.s.toArray⟩, .string ⟨x1_7_4.1.s.toArray⟩, .slice none 0 0, .slice none 0 0, .map none, .map none] : List Value) ++ po1_7).toArray 298 (0, 0))] :: [(g1, .cells ((es1.flatMap fk) ++ ([.int .i16 (IntKind.i16.wrap x1_0.1.n), .pointer p1_1, .string ⟨x1_2.1.s.toArray⟩, .string ⟨x1_3.1.s.toArray⟩, .int .i32 (IntKind.i32.wrap x1_4.1.n), .int .i32 (IntKind.i32.wrap x1_5.1.n), .string ⟨x1_6.1.s.toArray⟩, .slice none 0 0, .int .i32 (-2147483648), .map none] : List Value) ++ po1).toArray 193 (0, 0))] :: [(b, .cells [.int .i16 v, .int .i32 (IntKind.i32.wrap x0.1.n), .slice none 0 0, .map none].toArray 188 (0, 0))] :: L = L' ∧ Row 9 1 a1_7_5 (lT x1_7_5.1).length c1_7_5 (reps [.string ⟨#[]⟩] (lT x1_7_5.1).length) Nr1_7_5 ∧ a1_7_5.isNone = (if 0 ≤ ((-1) : Int) ∧ (v < ((-1) : Int) ∨ (rArr true x1_7_4.2).1 = 0) then false else decide ((rArr true x1_7_4.2).1 ≤ 0))) ?_ (fun l' H' L' le_19 hI => ?_)
        ·
         refine cd rfl (fun h255 => ?_) (fun h255 => ?_)
         ·
          refine rg ?_
          refine mv rfl rfl ?_
          refine mv rfl rfl ?_
          refine apz (zs := [.string ⟨#[]⟩]) (m := (lT x1_7_5.1).length) Tryz.underlying203 Tryz.underlying21 I9 rfl rfl rfl (by omega) (by omega) (by have h9 := hnb1_7_5; unfold BR at h9; omega) (by have h9 := hnb1_7_5; unfold BR at h9; unfold maxLen; omega) rfl (fun g258 cp258 N258 r258 => ?_)
          refine asg rfl rfl ?_
          refine nN ?_
          refine drN (.tail .head) ?_
          refine fun a_ w_ hA hw => ⟨_, _, _, hA.sub ?_, (Fz.le.refl _), hw, (some ⟨g258, 0, none⟩), cp258, N258, rfl, rfl, r258, (by rw [if_neg (by omega)]; exact (decide_eq_false (by omega)).symm)⟩
          exact (.cons rfl (.cons rfl (.cons rfl (.cons rfl (.cons rfl (.cons rfl (.cons rfl (.cons rfl (.cons rfl (.cons rfl (.cons rfl (.cons rfl (.cons rfl (.cons rfl (.cons rfl (.cons rfl (.cons rfl (.nil _))))))))))))))))))
         ·
          refine skN ?_
          refine fun a_ w_ hA hw => ⟨_, _, _, hA.sub ?_, (Fz.le.refl _), hw, none, 0, [], rfl, rfl, (by rw [show (lT x1_7_5.1).length = 0 by omega]; exact (Row.nil _ _)), (by rw [if_neg (by omega)]; exact (decide_eq_true (by omega)).symm)⟩
          exact (.cons rfl (.cons rfl (.cons rfl (.cons rfl (.cons rfl (.cons rfl (.cons rfl (.cons rfl (.cons rfl (.cons rfl (.cons rfl (.cons rfl (.cons rfl (.cons rfl (.cons rfl (.cons (by rw [show (lT x1_7_5.1).length = 0 by omega]; rfl) (.cons rfl (.nil _))))))))))))))))))
        ·
         obtain ⟨a1_7_5, c1_7_5, Nr1_7_5, rfl, rfl, pj0, pj1⟩ := hI
         have hr1_7_5 := pj0
         have hi1_7_5 := pj1
         refine sq ?_
         refine sr ?_
         refine asg rfl rfl ?_
         refine nl ?_
         refine bl (lp ((lT x1_7_5.1).length) (fun k1_7_5 l' H' L' => ∃ (es1_7_5 : List (KE 1)) (M1_7_5 RN1_7_5 : Chunk), [(2, .bool false), (7, .pointer (some ⟨b_1, 0, none⟩)), (9, .bool (decide ((0 : Int) ≤ v))), (10, .pointer (some ⟨b, 0, none⟩)), (12, .slice none 0 0), (13, .slice a1 (lT x1.1).length c1), (14, .int .i32 (rArr true x0.2).1), (15, .int .i32 (k1 : Int)), (17, .pointer (some ⟨g1, 0 + k1 * 10, none⟩)), (25, .slice none 0 0), (26, .slice a1_7 (lT x1_7.1).length c1_7), (27, .int .i32 (rArr true x1_6.2).1), (28, .int .i32 (k1_7 : Int)), (30, .pointer (some ⟨g1_7, 0 + k1_7 * 9, none⟩)), (36, .slice none 0 0), (37, .slice a1_7_5 (lT x1_7_5.1).length c1_7_5), (38, .int .i32 (rArr true x1_7_4.2).1), (39, .int .i32 (k1_7_5 : Int))] = l' ∧ M1_7_5 :: RN1_7_5 :: [(g1_7, .cells ((es1_7.flatMap fk) ++ ([.string ⟨x1_7_0.1.s.toArray⟩, .pointer p1_7_1, .int .i32 (IntKind.i32.wrap x1_7_2.1.n), .string ⟨x1_7_3.1.s.toArray⟩, .string ⟨x1_7_4.1.s.toArray⟩, .slice none 0 0, .slice none 0 0, .map none, .map none] : List Value) ++ po1_7).toArray 298 (0, 0))] :: [(g1, .cells ((es1.flatMap fk) ++ ([.int .i16 (IntKind.i16.wrap x1_0.1.n), .pointer p1_1, .string ⟨x1_2.1.s.toArray⟩, .string ⟨x1_3.1.s.toArray⟩, .int .i32 (IntKind.i32.wrap x1_4.1.n), .int .i32 (IntKind.i32.wrap x1_5.1.n), .string ⟨x1_6.1.s.toArray⟩, .slice none 0 0, .int .i32 (-2147483648), .map none] : List Value) ++ po1).toArray 193 (0, 0))] :: [(b, .cells [.int .i16 v, .int .i32 (IntKind.i32.wrap x0.1.n), .slice none 0 0, .map none].toArray 188 (0, 0))] :: L = L' ∧ RdAt H' 232 b_1 (rMany (decV 8 (decP [] v true) false true) k1_7_5 (rArr true x1_7_4.2).2).2 RN1_7_5 ∧ Row 9 1 a1_7_5 (lT x1_7_5.1).length c1_7_5 (es1_7_5.flatMap fk ++ reps [.string ⟨#[]⟩] ((lT x1_7_5.1).length - k1_7_5)) M1_7_5 ∧ es1_7_5.map (·.2) = (rMany (decV 8 (decP [] v true) false true) k1_7_5 (rArr true x1_7_4.2).2).1 ∧ ∀ p ∈ es1_7_5, RText H' p.2 (fk p)) [(2, .bool false), (7, .pointer (some ⟨b_1, 0, none⟩)), (9, .bool (decide ((0 : Int) ≤ v))), (10, .pointer (some ⟨b, 0, none⟩)), (12, .slice none 0 0), (13, .slice a1 (lT x1.1).length c1), (14, .int .i32 (rArr true x0.2).1), (15, .int .i32 (k1 : Int)), (17, .pointer (some ⟨g1, 0 + k1 * 10, none⟩)), (25, .slice none 0 0), (26, .slice a1_7 (lT x1_7.1).length c1_7), (27, .int .i32 (rArr true x1_6.2).1), (28, .int .i32 (k1_7 : Int)), (30, .pointer (some ⟨g1_7, 0 + k1_7 * 9, none⟩)), (36, .slice none 0 0), (37, .slice a1_7_5 (lT x1_7_5.1).length c1_7_5), (38, .int .i32 (rArr true x1_7_4.2).1), (39, .int .i32 (0 : Int))] (.cons rfl (.cons rfl (.cons rfl (.cons rfl (.cons rfl (.cons rfl (.cons rfl (.cons rfl (.cons rfl (.cons rfl (.cons rfl (.cons rfl (.cons rfl (.cons rfl (.cons rfl (.cons rfl (.cons rfl (.cons rfl (.nil _))))))))))))))))))) ⟨[], Nr1_7_5, _, rfl, rfl, (hR247.mono le_19), hr1_7_5, rfl, (fun p hp => by cases hp)⟩ (fun k1_7_5 l' H' L' hk1_7_5 le_20 hI => ?_))
         obtain ⟨es1_7_5, M1_7_5, RN1_7_5, rfl, rfl, hR_1_7_5, hw_1_7_5, he_1_7_5, hg_1_7_5⟩ := hI
         have hs_1_7_5 := els_len he_1_7_5
         have hp_1_7_5 : (es1_7_5.flatMap fk).length = k1_7_5 * 1 := els_flat hs_1_7_5
         refine sq ?_
         refine sr ?_
         refine mv rfl rfl ?_
         refine mv rfl rfl ?_
         refine lt rfl rfl rfl ?_
         refine nl ?_
         refine cd rfl (fun h261 => ?_) (fun h261 => ?_)
         ·
          have hkl1_7_5 : k1_7_5 < (lT x1_7_5.1).length := by omega
          obtain ⟨g1_7_5, po1_7_5, hga1_7_5, rfl, hbk1_7_5⟩ := hw_1_7_5.next (zs := [.string ⟨#[]⟩]) hkl1_7_5 rfl (by decide)
          have ho1_7_5 : 0 + k1_7_5 * 1 = (es1_7_5.flatMap fk).length := by rw [hp_1_7_5]; omega
          have hbz1_7_5 : ((decV 8 (decP [] v true) false true) (rMany (decV 8 (decP [] v true) false true) k1_7_5 (rArr true x1_7_4.2).2).2).2.bad = true → (decP fs_ShareGroupDescribeResponse v true ⟨s, false, !a.isNone⟩).2.bad = true := fun h => hB1_7_5 (by rw [ex1_7_5]; exact rMany_mono (fun r h => decV_bad (fun r h => decP_bad _ _ _ r h) h) _ (show k1_7_5 + 1 ≤ (lT x1_7_5.1).length from hkl1_7_5) (by rw [rMany_succ]; exact h))
          have hLk1_7_5 : (rMany (decV 8 (decP [] v true) false true) k1_7_5 (rArr true x1_7_4.2).2).2.s.length ≤ BR := Nat.le_trans (rMany_shr (fun r => decV_shr (fun r => decP_shr _ _ _ r) r) _ _) hm1_7_5
          obtain ⟨y1_7_5, hy1_7_5⟩ : ∃ x, x = (decV 8 (decP [] v true) false true) (rMany (decV 8 (decP [] v true) false true) k1_7_5 (rArr true x1_7_4.2).2).2 := ⟨_, rfl⟩
          refine skt ?_
          refine sq ?_
          refine bl ?_
          refine sr ?_
          refine asg rfl rfl ?_
          refine nl ?_
          refine sq ?_
          refine sr ?_
          refine mv rfl rfl ?_
          refine nl ?_
          refine cF rfl ?_
          refine sr ?_
          refine mv rfl rfl ?_
          refine nl ?_
          refine cdT rfl (by omega) ?_
          refine rg ?_
          refine tf (.tail .head) ?_
          refine cl rfl rfl rfl (d8t hR_1_7_5 hy1_7_5) rfl (fun v_ H1 L1 hle_ hR_ => ?_)
          obtain ⟨N269, rfl, hR269, rfl, rfl⟩ := hR_
          refine asg rfl rfl ?_
          refine nl ?_
          refine rg ?_
          refine mv rfl rfl ?_
          refine mv rfl rfl ?_
          refine mv rfl rfl ?_
          refine ixk (j := k1_7_5) Tryz.runUnderlying203 Tryz.sizeOf9 rfl hga1_7_5 rfl rfl hkl1_7_5 rfl ?_
          refine stM (off := 0) Tryz.sizeOf9 rfl ho1_7_5 rfl rfl rfl (.tail .head) ?_
          refine nN ?_
          refine Nb ?_
          refine Nt ?_
          refine rg ?_
          refine mv rfl rfl ?_
          refine ad rfl rfl (c := ((k1_7_5 + 1 : Nat) : Int)) ((wrap32_le (by omega) (by omega)).trans (by omega)) rfl ?_
          refine asg rfl rfl ?_
          refine nN ?_
          have hfs1_7_5 := flatMap_snoc' fk es1_7_5 ((⟨([.string ⟨y1_7_5.1.s.toArray⟩] : List Value), rfl, all_one rfl⟩, ((decV 8 (decP [] v true) false true) (rMany (decV 8 (decP [] v true) false true) k1_7_5 (rArr true x1_7_4.2).2).2).1) : KE 1)
          have hrw1_7_5 := hbk1_7_5 ([.string ⟨y1_7_5.1.s.toArray⟩] : List Value) rfl
          refine tfN (.tail .head) ?_
          refine fun a_ w_ hA hw => ⟨hkl1_7_5, _, _, _, hA.sub ?_, le_20, hw, _, _, _, rfl, rfl, (by rw [rMany_succ, ← hy1_7_5]; exact hR269), (by rw [← hfs1_7_5]; exact hrw1_7_5), (dec_els he_1_7_5), (fun p hp => (mem_snoc hp).elim (fun h => RText.mono _ _ _ _ (Fz.le.refl _) (hg_1_7_5 p h)) (fun h => h ▸ (by show RText _ ((decV 8 (decP [] v true) false true) (rMany (decV 8 (decP [] v true) false true) k1_7_5 (rArr true x1_7_4.2).2).2).1 [.string ⟨y1_7_5.1.s.toArray⟩]; rw [← hy1_7_5]; rfl)))⟩
          exact (.cons rfl (.cons rfl (.cons rfl (.cons rfl (.cons rfl (.cons rfl (.cons rfl (.cons rfl (.cons rfl (.cons rfl (.cons rfl (.cons rfl (.cons rfl (.cons rfl (.cons rfl (.cons rfl (.cons rfl (.cons rfl (.nil _)))))))))))))))))))
         ·
          have hkn_ : k1_7_5 = (lT x1_7_5.1).length := by omega
          subst hkn_
          have hw2_1_7_5 : Row 9 1 a1_7_5 (lT x1_7_5.1).length c1_7_5 (es1_7_5.flatMap fk) M1_7_5 := by have h := hw_1_7_5; rw [Nat.sub_self] at h; simpa [reps] using h
          refine frW hw2_1_7_5 .head (fun Hf1_7_5 hlf1_7_5 hfz1_7_5 => ?_)
          have hrs1_7_5 := RowsAt.row (R := RText) hfz1_7_5 hs_1_7_5.symm hw2_1_7_5.le.1 (fun p hp => RText.mono _ _ _ _ hlf1_7_5 (hg_1_7_5 p hp))
          rw [he_1_7_5] at hrs1_7_5
          have hf1_7_5 : ListAt Hf1_7_5 x1_7_5.1 1 RText a1_7_5 c1_7_5 := by rw [ex1_7_5]; exact listAt_of hrs1_7_5 hi1_7_5 (fun h => by have h1 := nul_le h; rw [show (lT x1_7_5.1).length = 0 by omega]; rfl)
          have hRx1_7_5 : RdAt Hf1_7_5 232 b_1 x1_7_5.2 RN1_7_5 := by rw [ex1_7_5]; exact (hR_1_7_5.mono hlf1_7_5)
          refine exX ?_
          refine XT ?_
          refine XT ?_
          refine Xb ?_
          refine Nt ?_
          refine sr ?_
          refine mv rfl rfl ?_
          refine asg rfl rfl ?_
          refine nl ?_
          refine rg ?_
          refine mv rfl rfl ?_
          refine mv rfl rfl ?_
          refine nc rfl rfl ?_
          refine fa F298_5 rfl rfl ?_
          refine stM (off := 5) Tryz.sizeOf203 rfl (by rw [ho1_7]) rfl rfl rfl (.tail .head) ?_
          refine nl ?_
          refine sq ?_
          refine sr ?_
          refine mv rfl rfl ?_
          refine nc rfl rfl ?_
          refine fa F298_6 rfl rfl ?_
          refine asg rfl rfl ?_
          refine nl ?_
          refine sr ?_
          refine mv rfl rfl ?_
          refine cl rfl rfl rfl defE_ShareGroupDescribeResponseGroupMemberAssignment rfl (fun v_ H1 L1 hle_ hR_ => ?_)
          obtain ⟨rfl, rfl⟩ := hR_
          have ey1_7_6 : x1_7_6 = decP fs_sShareGroupDescribeResponseGroupMemberAssignment v true x1_7_5.2 := ((hx1_7_6.trans (step_yes (by decide) (show (0 : Int) ≤ v by omega) (Or.inl (by decide)))).trans (decF'_val (by decide) rfl)).trans dV10
          have hL1_7_6__ := hL1_7_5
          obtain ⟨x1_7_6_0, hx1_7_6_0⟩ : ∃ x, x = stepF (Fd.mk 11 0 (-1) (-1) (-1) 0 10 fs_sShareGroupDescribeResponseGroupMemberAssignmentTopicPartition) v true x1_7_5.2 := ⟨_, rfl⟩
          obtain ⟨u1_7_6_, hu1_7_6_⟩ : ∃ x, x = tailU true x1_7_6_0.2 := ⟨_, rfl⟩
          have hD1_7_6_ : decP fs_sShareGroupDescribeResponseGroupMemberAssignment v true x1_7_5.2 = (.mk 0 [] false [x1_7_6_0.1] u1_7_6_.1, u1_7_6_.2) := by
           generalize (x1_7_5.2 : Rd) = r_ at hx1_7_6_0 ⊢
           rw [decP_eq]; unfold fs_sShareGroupDescribeResponseGroupMemberAssignment; simp only [decFs_cons, decFs_nil, ← hx1_7_6_0, ← hu1_7_6_]
          have hL1_7_6_0 : x1_7_6_0.2.s.length ≤ BR := by rw [hx1_7_6_0]; exact Nat.le_trans (stepF_shr _ _ _ _) hL1_7_6__
          have hE1_7_6_ : u1_7_6_.2.bad = true → (decP fs_ShareGroupDescribeResponse v true ⟨s, false, !a.isNone⟩).2.bad = true := fun h => hB1_7_6 (by rw [ey1_7_6, hD1_7_6_]; exact h)
          have hB1_7_6_0 : x1_7_6_0.2.bad = true → (decP fs_ShareGroupDescribeResponse v true ⟨s, false, !a.isNone⟩).2.bad = true := fun h => hE1_7_6_ (by rw [hu1_7_6_]; exact tailU_bad h)
          refine nl ?_
          refine sr ?_
          refine mv rfl rfl ?_
          refine asg rfl rfl ?_
          refine nl ?_
          refine sq ?_
          refine sr ?_
          refine mv rfl rfl ?_
          refine nc rfl rfl ?_
          refine fa F296_0 rfl rfl ?_
          refine ld (j := 6) (off := 0 + k1_7 * 9) (Says.mid (.tail .head) ho1_7) Tryz.isAgg294 rfl rfl rfl rfl ?_
          refine asg rfl rfl ?_
          refine nl ?_
          refine sr ?_
          refine mv rfl rfl ?_
          refine asg rfl rfl ?_
          refine nl ?_
          refine sr ?_
          refine asg rfl rfl ?_
          refine nl ?_
          refine sq ?_
          refine sr ?_
          refine mv rfl rfl ?_
          refine nl ?_
          refine cdT rfl (by omega) ?_
          refine rg ?_
          have ey1_7_6_0 : x1_7_6_0 = (.mk 0 [] (if 0 ≤ ((-1) : Int) ∧ (v < ((-1) : Int) ∨ (rArr true x1_7_5.2).1 = 0) then false else decide ((rArr true x1_7_5.2).1 ≤ 0)) (rMany (decV 10 (decP fs_sShareGroupDescribeResponseGroupMemberAssignmentTopicPartition v true) false true) (rArr true x1_7_5.2).1.toNat (rArr true x1_7_5.2).2).1 [], (rMany (decV 10 (decP fs_sShareGroupDescribeResponseGroupMemberAssignmentTopicPartition v true) false true) (rArr true x1_7_5.2).1.toNat (rArr true x1_7_5.2).2).2) := (hx1_7_6_0.trans (step_yes (by decide) (show (0 : Int) ≤ v by omega) (Or.inl (by decide)))).trans (decF'_list rfl rfl)
          have hn1_7_6_0 : (rArr true x1_7_5.2).1.toNat = (lT x1_7_6_0.1).length := by rw [ey1_7_6_0]; exact (lT_many nul_le).symm
          have ex1_7_6_0 := ey1_7_6_0
          rw [hn1_7_6_0] at ex1_7_6_0
          have hl1_7_6_0 := rArr_le true x1_7_5.2
          have hm1_7_6_0 : (rArr true x1_7_5.2).2.s.length ≤ BR := Nat.le_trans (rArr_len true x1_7_5.2) hL1_7_6__
          have hnb1_7_6_0 : (lT x1_7_6_0.1).length ≤ BR := by omega
          refine cl rfl rfl rfl (r_arrt hRx1_7_5) rfl (fun v_ H1 L1 hle_ hR_ => ?_)
          obtain ⟨rfl, N292, rfl, hR292, rfl⟩ := hR_
          have hh1_7_6_0 := rArr_hi true x1_7_5.2
          refine asg rfl rfl ?_
          refine nl ?_
          refine sq ?_
          refine sr ?_
          refine cl rfl rfl rfl (r_ok hR292) rfl (fun v_ H1 L1 hle_ hR_ => ?_)
          obtain ⟨rfl, rfl, rfl⟩ := hR_
          refine nt rfl rfl ?_
          refine nl ?_
          refine cb rfl (fun h295 => ?_) (fun h295 => ?_)
          ·
           have hbad_ : (rArr true x1_7_5.2).2.bad = true := by simpa using h295
           refine sr ?_
           refine cl rfl rfl rfl (r_complete hR292 (he.mono (le_3.trans (le_4.trans (le_6.trans (le_12.trans (le_13.trans (le_15.trans (le_19.trans (le_20.trans hlf1_7_5)))))))))) rfl (fun v_ H1 L1 hle_ hR_ => ?_)
           obtain ⟨rfl, rfl, rfl⟩ := hR_
           refine asg rfl rfl ?_
           refine nl ?_
           refine drW .head ?_
           refine drW .head ?_
           refine drW .head ?_
           exact rT rfl rfl (le_3.trans (le_4.trans (le_6.trans (le_12.trans (le_13.trans (le_15.trans (le_19.trans (le_20.trans hlf1_7_5)))))))) (fun _ _ h => h) ⟨_, rfl, RdEnd.out (hB1_7_6_0 (by rw [ey1_7_6_0]; exact rMany_bad (fun r h => decV_bad (decP_bad _ _ _) h) _ _ hbad_)) hbad_⟩
          ·
           refine skt ?_
           refine sr ?_
           refine mv rfl rfl ?_
           refine sh' (j := 0) Tryz.runUnderlying294 Tryz.sizeOf302 rfl rfl rfl (Nat.zero_le _) rfl ?_
           refine asg rfl rfl ?_
           refine nl ?_
           refine sq ?_
           refine sr ?_
           refine mv rfl rfl ?_
           refine gt rfl rfl rfl ?_
           refine nl ?_
           refine nulC2 ?_
           refine cutT (fun l' H' L' => ∃ (a1_7_6_0 : Option Addr), ∃ (c1_7_6_0 : Nat), ∃ (Nr1_7_6_0 : Chunk), [(2, .bool false), (7, .pointer (some ⟨b_1, 0, none⟩)), (9, .bool (decide ((0 : Int) ≤ v))), (10, .pointer (some ⟨b, 0, none⟩)), (12, .slice none 0 0), (13, .slice a1 (lT x1.1).length c1), (14, .int .i32 (rArr true x0.2).1), (15, .int .i32 (k1 : Int)), (17, .pointer (some ⟨g1, 0 + k1 * 10, none⟩)), (25, .slice none 0 0), (26, .slice a1_7 (lT x1_7.1).length c1_7), (27, .int .i32 (rArr true x1_6.2).1), (28, .int .i32 (k1_7 : Int)), (30, .pointer (some ⟨g1_7, 0 + k1_7 * 9, none⟩)), (42, .pointer (some ⟨g1_7, 0 + k1_7 * 9 + 6, none⟩)), (43, .slice none 0 0), (44, .slice a1_7_6_0 (lT x1_7_6_0.1).length c1_7_6_0), (45, .int .i32 (rArr true x1_7_5.2).1)] = l' ∧ Nr1_7_6_0 :: N292 :: [(g1_7, .cells ((es1_7.flatMap fk) ++ ([.string ⟨x1_7_0.1.s.toArray⟩, .pointer p1_7_1, .int .i32 (IntKind.i32.wrap x1_7_2.1.n), .string ⟨x1_7_3.1.s.toArray⟩, .string ⟨x1_7_4.1.s.toArray⟩, .slice a1_7_5 (lT x1_7_5.1).length c1_7_5, .slice none 0 0, .map none, .map none] : List Value) ++ po1_7).toArray 298 (0, 0))] :: [(g1, .cells ((es1.flatMap fk) ++ ([.int .i16 (IntKind.i16.wrap x1_0.1.n), .pointer p1_1, .string ⟨x1_2.1.s.toArray⟩, .string ⟨x1_3.1.s.toArray⟩, .int .i32 (IntKind.i32.wrap x1_4.1.n), .int .i32 (IntKind.i32.wrap x1_5.1.n), .string ⟨x1_6.1.s.toArray⟩, .slice none 0 0, .int .i32 (-2147483648), .map none] : List Value) ++ po1).toArray 193 (0, 0))] :: [(b, .cells [.int .i16 v, .int .i32 (IntKind.i32.wrap x0.1.n), .slice none 0 0, .map none].toArray 188 (0, 0))] :: L = L' ∧ Row 302 19 a1_7_6_0 (lT x1_7_6_0.1).length c1_7_6_0 (reps [.int .u8 0, .int .u8 0, .int .u8 0, .int .u8 0, .int .u8 0, .int .u8 0, .int .u8 0, .int .u8 0, .int .u8 0, .int .u8 0, .int .u8 0, .int .u8 0, .int .u8 0, .int .u8 0, .int .u8 0, .int .u8 0, .string ⟨#[]⟩, .slice none 0 0, .map none] (lT x1_7_6_0.1).length) Nr1_7_6_0 ∧ a1_7_6_0.isNone = (if 0 ≤ ((-1) : Int) ∧ (v < ((-1) : Int) ∨ (rArr true x1_7_5.2).1 = 0) then false else decide ((rArr true x1_7_5.2).1 ≤ 0))) ?_ (fun l' H' L' le_22 hI => ?_)
           ·
            refine cd rfl (fun h300 => ?_) (fun h300 => ?_)
            ·
             refine rg ?_
             refine mv rfl rfl ?_
             refine mv rfl rfl ?_
             refine apz (zs := [.int .u8 0, .int .u8 0, .int .u8 0, .int .u8 0, .int .u8 0, .int .u8 0, .int .u8 0, .int .u8 0, .int .u8 0, .int .u8 0, .int .u8 0, .int .u8 0, .int .u8 0, .int .u8 0, .int .u8 0, .int .u8 0, .string ⟨#[]⟩, .slice none 0 0, .map none]) (m := (lT x1_7_6_0.1).length) Tryz.underlying294 Tryz.underlying21 I302 rfl rfl rfl (by omega) (by omega) (by have h9 := hnb1_7_6_0; unfold BR at h9; omega) (by have h9 := hnb1_7_6_0; unfold BR at h9; unfold maxLen; omega) rfl (fun g303 cp303 N303 r303 => ?_)
             refine asg rfl rfl ?_
             refine nN ?_
             refine drN (.tail .head) ?_
             refine fun a_ w_ hA hw => ⟨_, _, _, hA.sub ?_, (Fz.le.refl _), hw, (some ⟨g303, 0, none⟩), cp303, N303, rfl, rfl, r303, (by rw [if_neg (by omega)]; exact (decide_eq_false (by omega)).symm)⟩
             exact (.cons rfl (.cons rfl (.cons rfl (.cons rfl (.cons rfl (.cons rfl (.cons rfl (.cons rfl (.cons rfl (.cons rfl (.cons rfl (.cons rfl (.cons rfl (.cons rfl (.cons rfl (.cons rfl (.cons rfl (.cons rfl (.nil _)))))))))))))))))))
            ·
             refine skN ?_
             refine fun a_ w_ hA hw => ⟨_, _, _, hA.sub ?_, (Fz.le.refl _), hw, none, 0, [], rfl, rfl, (by rw [show (lT x1_7_6_0.1).length = 0 by omega]; exact (Row.nil _ _)), (by rw [if_neg (by omega)]; exact (decide_eq_true (by omega)).symm)⟩
             exact (.cons rfl (.cons rfl (.cons rfl (.cons rfl (.cons rfl (.cons rfl (.cons rfl (.cons rfl (.cons rfl (.cons rfl (.cons rfl (.cons rfl (.cons rfl (.cons rfl (.cons rfl (.cons rfl (.cons (by rw [show (lT x1_7_6_0.1).length = 0 by omega]; rfl) (.cons rfl (.nil _)))))))))))))))))))
           ·
            obtain ⟨a1_7_6_0, c1_7_6_0, Nr1_7_6_0, rfl, rfl, pj0, pj1⟩ := hI
            have hr1_7_6_0 := pj0
            have hi1_7_6_0 := pj1
            refine sq ?_
            refine sr ?_
            refine asg rfl rfl ?_
            refine nl ?_
            refine bl (lp ((lT x1_7_6_0.1).length) (fun k1_7_6_0 l' H' L' => ∃ (es1_7_6_0 : List (KE 19)) (M1_7_6_0 RN1_7_6_0 : Chunk), [(2, .bool false), (7, .pointer (some ⟨b_1, 0, none⟩)), (9, .bool (decide ((0 : Int) ≤ v))), (10, .pointer (some ⟨b, 0, none⟩)), (12, .slice none 0 0), (13, .slice a1 (lT x1.1).length c1), (14, .int .i32 (rArr true x0.2).1), (15, .int .i32 (k1 : Int)), (17, .pointer (some ⟨g1, 0 + k1 * 10, none⟩)), (25, .slice none 0 0), (26, .slice a1_7 (lT x1_7.1).length c1_7), (27, .int .i32 (rArr true x1_6.2).1), (28, .int .i32 (k1_7 : Int)), (30, .pointer (some ⟨g1_7, 0 + k1_7 * 9, none⟩)), (42, .pointer (some ⟨g1_7, 0 + k1_7 * 9 + 6, none⟩)), (43, .slice none 0 0), (44, .slice a1_7_6_0 (lT x1_7_6_0.1).length c1_7_6_0), (45, .int .i32 (rArr true x1_7_5.2).1), (46, .int .i32 (k1_7_6_0 : Int))] = l' ∧ M1_7_6_0 :: RN1_7_6_0 :: [(g1_7, .cells ((es1_7.flatMap fk) ++ ([.string ⟨x1_7_0.1.s.toArray⟩, .pointer p1_7_1, .int .i32 (IntKind.i32.wrap x1_7_2.1.n), .string ⟨x1_7_3.1.s.toArray⟩, .string ⟨x1_7_4.1.s.toArray⟩, .slice a1_7_5 (lT x1_7_5.1).length c1_7_5, .slice none 0 0, .map none, .map none] : List Value) ++ po1_7).toArray 298 (0, 0))] :: [(g1, .cells ((es1.flatMap fk) ++ ([.int .i16 (IntKind.i16.wrap x1_0.1.n), .pointer p1_1, .string ⟨x1_2.1.s.toArray⟩, .string ⟨x1_3.1.s.toArray⟩, .int .i32 (IntKind.i32.wrap x1_4.1.n), .int .i32 (IntKind.i32.wrap x1_5.1.n), .string ⟨x1_6.1.s.toArray⟩, .slice none 0 0, .int .i32 (-2147483648), .map none] : List Value) ++ po1).toArray 193 (0, 0))] :: [(b, .cells [.int .i16 v, .int .i32 (IntKind.i32.wrap x0.1.n), .slice none 0 0, .map none].toArray 188 (0, 0))] :: L = L' ∧ RdAt H' 232 b_1 (rMany (decV 10 (decP fs_sShareGroupDescribeResponseGroupMemberAssignmentTopicPartition v true) false true) k1_7_6_0 (rArr true x1_7_5.2).2).2 RN1_7_6_0 ∧ Row 302 19 a1_7_6_0 (lT x1_7_6_0.1).length c1_7_6_0 (es1_7_6_0.flatMap fk ++ reps [.int .u8 0, .int .u8 0, .int .u8 0, .int .u8 0, .int .u8 0, .int .u8 0, .int .u8 0, .int .u8 0, .int .u8 0, .int .u8 0, .int .u8 0, .int .u8 0, .int .u8 0, .int .u8 0, .int .u8 0, .int .u8 0, .string ⟨#[]⟩, .slice none 0 0, .map none] ((lT x1_7_6_0.1).length - k1_7_6_0)) M1_7_6_0 ∧ es1_7_6_0.map (·.2) = (rMany (decV 10 (decP fs_sShareGroupDescribeResponseGroupMemberAssignmentTopicPartition v true) false true) k1_7_6_0 (rArr true x1_7_5.2).2).1 ∧ ∀ p ∈ es1_7_6_0, At_ShareGroupDescribeResponseGroupMemberAssignmentTopicPartition H' p.2 (fk p)) [(2, .bool false), (7, .pointer (some ⟨b_1, 0, none⟩)), (9, .bool (decide ((0 : Int) ≤ v))), (10, .pointer (some ⟨b, 0, none⟩)), (12, .slice none 0 0), (13, .slice a1 (lT x1.1).length c1), (14, .int .i32 (rArr true x0.2).1), (15, .int .i32 (k1 : Int)), (17, .pointer (some ⟨g1, 0 + k1 * 10, none⟩)), (25, .slice none 0 0), (26, .slice a1_7 (lT x1_7.1).length c1_7), (27, .int .i32 (rArr true x1_6.2).1), (28, .int .i32 (k1_7 : Int)), (30, .pointer (some ⟨g1_7, 0 + k1_7 * 9, none⟩)), (42, .pointer (some ⟨g1_7, 0 + k1_7 * 9 + 6, none⟩)), (43, .slice none 0 0), (44, .slice a1_7_6_0 (lT x1_7_6_0.1).length c1_7_6_0), (45, .int .i32 (rArr true x1_7_5.2).1), (46, .int .i32 (0 : Int))] (.cons rfl (.cons rfl (.cons rfl (.cons rfl (.cons rfl (.cons rfl (.cons rfl (.cons rfl (.cons rfl (.cons rfl (.cons rfl (.cons rfl (.cons rfl (.cons rfl (.cons rfl (.cons rfl (.cons rfl (.cons rfl (.cons rfl (.nil _)))))))))))))))))))) ⟨[], Nr1_7_6_0, _, rfl, rfl, (hR292.mono le_22), hr1_7_6_0, rfl, (fun p hp => by cases hp)⟩ (fun k1_7_6_0 l' H' L' hk1_7_6_0 le_23 hI => ?_))
            obtain ⟨es1_7_6_0, M1_7_6_0, RN1_7_6_0, rfl, rfl, hR_1_7_6_0, hw_1_7_6_0, he_1_7_6_0, hg_1_7_6_0⟩ := hI
            have hs_1_7_6_0 := els_len he_1_7_6_0
            have hp_1_7_6_0 : (es1_7_6_0.flatMap fk).length = k1_7_6_0 * 19 := els_flat hs_1_7_6_0
            refine sq ?_
            refine sr ?_
            refine mv rfl rfl ?_
            refine mv rfl rfl ?_
            refine lt rfl rfl rfl ?_
            refine nl ?_
            refine cd rfl (fun h306 => ?_) (fun h306 => ?_)
            ·
             have hkl1_7_6_0 : k1_7_6_0 < (lT x1_7_6_0.1).length := by omega
             obtain ⟨g1_7_6_0, po1_7_6_0, hga1_7_6_0, rfl, hbk1_7_6_0⟩ := hw_1_7_6_0.next (zs := [.int .u8 0, .int .u8 0, .int .u8 0, .int .u8 0, .int .u8 0, .int .u8 0, .int .u8 0, .int .u8 0, .int .u8 0, .int .u8 0, .int .u8 0, .int .u8 0, .int .u8 0, .int .u8 0, .int .u8 0, .int .u8 0, .string ⟨#[]⟩, .slice none 0 0, .map none]) hkl1_7_6_0 rfl (by decide)
             have ho1_7_6_0 : 0 + k1_7_6_0 * 19 = (es1_7_6_0.flatMap fk).length := by rw [hp_1_7_6_0]; omega
             have hbz1_7_6_0 : ((decV 10 (decP fs_sShareGroupDescribeResponseGroupMemberAssignmentTopicPartition v true) false true) (rMany (decV 10 (decP fs_sShareGroupDescribeResponseGroupMemberAssignmentTopicPartition v true) false true) k1_7_6_0 (rArr true x1_7_5.2).2).2).2.bad = true → (decP fs_ShareGroupDescribeResponse v true ⟨s, false, !a.isNone⟩).2.bad = true := fun h => hB1_7_6_0 (by rw [ex1_7_6_0]; exact rMany_mono (fun r h => decV_bad (fun r h => decP_bad _ _ _ r h) h) _ (show k1_7_6_0 + 1 ≤ (lT x1_7_6_0.1).length from hkl1_7_6_0) (by rw [rMany_succ]; exact h))
             have hLk1_7_6_0 : (rMany (decV 10 (decP fs_sShareGroupDescribeResponseGroupMemberAssignmentTopicPartition v true) false true) k1_7_6_0 (rArr true x1_7_5.2).2).2.s.length ≤ BR := Nat.le_trans (rMany_shr (fun r => decV_shr (fun r => decP_shr _ _ _ r) r) _ _) hm1_7_6_0
             have hL1_7_6_0__ := hLk1_7_6_0
             obtain ⟨x1_7_6_0_0, hx1_7_6_0_0⟩ : ∃ x, x = stepF (Fd.mk 7 0 (-1) (-1) (-1) 0 0 []) v true (rMany (decV 10 (decP fs_sShareGroupDescribeResponseGroupMemberAssignmentTopicPartition v true) false true) k1_7_6_0 (rArr true x1_7_5.2).2).2 := ⟨_, rfl⟩
             obtain ⟨x1_7_6_0_1, hx1_7_6_0_1⟩ : ∃ x, x = stepF (Fd.mk 8 0 (-1) (-1) (-1) 0 0 []) v true x1_7_6_0_0.2 := ⟨_, rfl⟩
             obtain ⟨x1_7_6_0_2, hx1_7_6_0_2⟩ : ∃ x, x = stepF (Fd.mk 11 0 (-1) (-1) (-1) 0 3 []) v true x1_7_6_0_1.2 := ⟨_, rfl⟩
             obtain ⟨u1_7_6_0_, hu1_7_6_0_⟩ : ∃ x, x = tailU true x1_7_6_0_2.2 := ⟨_, rfl⟩
             have hD1_7_6_0_ : decP fs_sShareGroupDescribeResponseGroupMemberAssignmentTopicPartition v true (rMany (decV 10 (decP fs_sShareGroupDescribeResponseGroupMemberAssignmentTopicPartition v true) false true) k1_7_6_0 (rArr true x1_7_5.2).2).2 = (.mk 0 [] false [x1_7_6_0_0.1, x1_7_6_0_1.1, x1_7_6_0_2.1] u1_7_6_0_.1, u1_7_6_0_.2) := by
              generalize ((rMany (decV 10 (decP fs_sShareGroupDescribeResponseGroupMemberAssignmentTopicPartition v true) false true) k1_7_6_0 (rArr true x1_7_5.2).2).2 : Rd) = r_ at hx1_7_6_0_0 ⊢
              rw [decP_eq]; unfold fs_sShareGroupDescribeResponseGroupMemberAssignmentTopicPartition; simp only [decFs_cons, decFs_nil, ← hx1_7_6_0_0, ← hx1_7_6_0_1, ← hx1_7_6_0_2, ← hu1_7_6_0_]
             have hL1_7_6_0_0 : x1_7_6_0_0.2.s.length ≤ BR := by rw [hx1_7_6_0_0]; exact Nat.le_trans (stepF_shr _ _ _ _) hL1_7_6_0__
             have hL1_7_6_0_1 : x1_7_6_0_1.2.s.length ≤ BR := by rw [hx1_7_6_0_1]; exact Nat.le_trans (stepF_shr _ _ _ _) hL1_7_6_0_0
             have hL1_7_6_0_2 : x1_7_6_0_2.2.s.length ≤ BR := by rw [hx1_7_6_0_2]; exact Nat.le_trans (stepF_shr _ _ _ _) hL1_7_6_0_1
             have hE1_7_6_0_ : u1_7_6_0_.2.bad = true → (decP fs_ShareGroupDescribeResponse v true ⟨s, false, !a.isNone⟩).2.bad = true := fun h => hbz1_7_6_0 (by show (decP fs_sShareGroupDescribeResponseGroupMemberAssignmentTopicPartition v true (rMany (decV 10 (decP fs_sShareGroupDescribeResponseGroupMemberAssignmentTopicPartition v true) false true) k1_7_6_0 (rArr true x1_7_5.2).2).2).2.bad = true; rw [hD1_7_6_0_]; exact h)
             have hB1_7_6_0_2 : x1_7_6_0_2.2.bad = true → (decP fs_ShareGroupDescribeResponse v true ⟨s, false, !a.isNone⟩).2.bad = true := fun h => hE1_7_6_0_ (by rw [hu1_7_6_0_]; exact tailU_bad h)
             have hB1_7_6_0_1 : x1_7_6_0_1.2.bad = true → (decP fs_ShareGroupDescribeResponse v true ⟨s, false, !a.isNone⟩).2.bad = true := fun h => hB1_7_6_0_2 (by rw [hx1_7_6_0_2]; exact step_bad h)
             have hB1_7_6_0_0 : x1_7_6_0_0.2.bad = true → (decP fs_ShareGroupDescribeResponse v true ⟨s, false, !a.isNone⟩).2.bad = true := fun h => hB1_7_6_0_1 (by rw [hx1_7_6_0_1]; exact step_bad h)
             refine skt ?_
             refine sq ?_
             refine bl ?_
             refine sr ?_
             refine mv rfl rfl ?_
             refine mv rfl rfl ?_
             refine ixk (j := k1_7_6_0) Tryz.runUnderlying294 Tryz.sizeOf302 rfl hga1_7_6_0 rfl rfl hkl1_7_6_0 rfl ?_
             refine asg rfl rfl ?_
             refine nl ?_
             refine sr ?_
             refine mv rfl rfl ?_
             refine cl rfl rfl rfl (def_ShareGroupDescribeResponseGroupMemberAssignmentTopicPartition ho1_7_6_0) rfl (fun v_ H1 L1 hle_ hR_ => ?_)
             obtain ⟨rfl, rfl⟩ := hR_
             refine nl ?_
             refine sr ?_
             refine mv rfl rfl ?_
             refine asg rfl rfl ?_
             refine nl ?_
             refine sq ?_
             refine sr ?_
             refine tf (.tail .head) ?_
             have ex1_7_6_0_0 : x1_7_6_0_0 = decV 7 (decP [] v true) false true (rMany (decV 10 (decP fs_sShareGroupDescribeResponseGroupMemberAssignmentTopicPartition v true) false true) k1_7_6_0 (rArr true x1_7_5.2).2).2 := (hx1_7_6_0_0.trans (step_yes (by decide) (show (0 : Int) ≤ v by omega) (Or.inl (by decide)))).trans (decF'_val (by decide) (rfl))
             refine cl rfl rfl rfl (d7 hR_1_7_6_0 ex1_7_6_0_0) rfl (fun v_ H1 L1 hle_ hR_ => ?_)
             obtain ⟨N315, rfl, hR315, rfl, rfl⟩ := hR_
             refine al Tryz.zeroValue182 rfl rfl (fun b_25 => ?_)
             refine sa Tryz.sizeOf182 rfl rfl rfl rfl rfl .head ?_
             refine nl ?_
             refine rg ?_
             refine mv rfl rfl ?_
             refine la (Says.own .head) Tryz.isAgg182 Tryz.sizeOf182 rfl (Nat.zero_add _).symm rfl rfl ?_
             refine nc rfl rfl ?_
             refine fa F302_0 rfl rfl ?_
             refine saM (off := 0) Tryz.sizeOf182 rfl (by rw [ho1_7_6_0]) rfl rfl rfl rfl (.tail (.tail .head)) ?_
             refine nl ?_
             refine sq ?_
             refine sr ?_
             refine asg rfl rfl ?_
             refine nl ?_
             refine sq ?_
             refine sr ?_
             refine mv rfl rfl ?_
             refine nl ?_
             refine cF rfl ?_
             refine sr ?_
             refine mv rfl rfl ?_
             refine nl ?_
             refine cdT rfl (by omega) ?_
             refine rg ?_
             refine tf (.tail .head) ?_
             have ex1_7_6_0_1 : x1_7_6_0_1 = decV 8 (decP [] v true) false true x1_7_6_0_0.2 := (hx1_7_6_0_1.trans (step_yes (by decide) (show (0 : Int) ≤ v by omega) (Or.inl (by decide)))).trans (decF'_val (by decide) (rfl))
             refine cl rfl rfl rfl (d8t hR315 ex1_7_6_0_1) rfl (fun v_ H1 L1 le_26 hR_ => ?_)
             obtain ⟨N325, rfl, hR325, rfl, rfl⟩ := hR_
             refine asg rfl rfl ?_
             refine nl ?_
             refine rg ?_
             refine mv rfl rfl ?_
             refine mv rfl rfl ?_
             refine nc rfl rfl ?_
             refine fa F302_1 rfl rfl ?_
             refine stM (off := 16) Tryz.sizeOf9 rfl (by rw [ho1_7_6_0]) rfl rfl rfl (.tail (.tail .head)) ?_
             refine nl ?_
             refine sq ?_
             refine sr ?_
             refine mv rfl rfl ?_
             refine nc rfl rfl ?_
             refine fa F302_2 rfl rfl ?_
             refine ld (j := 17) (off := 0 + k1_7_6_0 * 19) (Says.mid (.tail (.tail .head)) ho1_7_6_0) Tryz.isAgg227 rfl rfl rfl rfl ?_
             refine asg rfl rfl ?_
             refine nl ?_
             refine sr ?_
             refine mv rfl rfl ?_
             refine asg rfl rfl ?_
             refine nl ?_
             refine sr ?_
             refine asg rfl rfl ?_
             refine nl ?_
             refine sq ?_
             refine sr ?_
             refine mv rfl rfl ?_
             refine nl ?_
             refine cdT rfl (by omega) ?_
             refine rg ?_
             have ey1_7_6_0_2 : x1_7_6_0_2 = (.mk 0 [] (if 0 ≤ ((-1) : Int) ∧ (v < ((-1) : Int) ∨ (rArr true x1_7_6_0_1.2).1 = 0) then false else decide ((rArr true x1_7_6_0_1.2).1 ≤ 0)) (rMany (decV 3 (decP [] v true) false true) (rArr true x1_7_6_0_1.2).1.toNat (rArr true x1_7_6_0_1.2).2).1 [], (rMany (decV 3 (decP [] v true) false true) (rArr true x1_7_6_0_1.2).1.toNat (rArr true x1_7_6_0_1.2).2).2) := (hx1_7_6_0_2.trans (step_yes (by decide) (show (0 : Int) ≤ v by omega) (Or.inl (by decide)))).trans (decF'_list rfl rfl)
             have hn1_7_6_0_2 : (rArr true x1_7_6_0_1.2).1.toNat = (lT x1_7_6_0_2.1).length := by rw [ey1_7_6_0_2]; exact (lT_many nul_le).symm
             have ex1_7_6_0_2 := ey1_7_6_0_2
             rw [hn1_7_6_0_2] at ex1_7_6_0_2
             have hl1_7_6_0_2 := rArr_le true x1_7_6_0_1.2
             have hm1_7_6_0_2 : (rArr true x1_7_6_0_1.2).2.s.length ≤ BR := Nat.le_trans (rArr_len true x1_7_6_0_1.2) hL1_7_6_0_1
             have hnb1_7_6_0_2 : (lT x1_7_6_0_2.1).length ≤ BR := by omega
             refine cl rfl rfl rfl (r_arrt hR325) rfl (fun v_ H1 L1 hle_ hR_ => ?_)
             obtain ⟨rfl, N337, rfl, hR337, rfl⟩ := hR_
             have hh1_7_6_0_2 := rArr_hi true x1_7_6_0_1.2
             refine asg rfl rfl ?_
             refine nl ?_
             refine sq ?_
             refine sr ?_
             refine cl rfl rfl rfl (r_ok hR337) rfl (fun v_ H1 L1 hle_ hR_ => ?_)
             obtain ⟨rfl, rfl, rfl⟩ := hR_
             refine nt rfl rfl ?_
             refine nl ?_
             refine cb rfl (fun h340 => ?_) (fun h340 => ?_)
             ·
              have hbad_ : (rArr true x1_7_6_0_1.2).2.bad = true := by simpa using h340
              refine sr ?_
              refine cl rfl rfl rfl (r_complete hR337 (he.mono (le_3.trans (le_4.trans (le_6.trans (le_12.trans (le_13.trans (le_15.trans (le_19.trans (le_20.trans (hlf1_7_5.trans (le_22.trans le_23)))))))))))) rfl (fun v_ H1 L1 hle_ hR_ => ?_)
              obtain ⟨rfl, rfl, rfl⟩ := hR_
              refine asg rfl rfl ?_
              refine nl ?_
              refine drW .head ?_
              refine drW .head ?_
              refine drW .head ?_
              refine drW .head ?_
              refine drW .head ?_
              exact rT rfl rfl (le_3.trans (le_4.trans (le_6.trans (le_12.trans (le_13.trans (le_15.trans (le_19.trans (le_20.trans (hlf1_7_5.trans (le_22.trans le_23)))))))))) (fun _ _ h => h) ⟨_, rfl, RdEnd.out (hB1_7_6_0_2 (by rw [ey1_7_6_0_2]; exact rMany_bad (fun r h => decV_bad (decP_bad _ _ _) h) _ _ hbad_)) hbad_⟩
             ·
              refine skt ?_
              refine sr ?_
              refine mv rfl rfl ?_
              refine sh' (j := 0) Tryz.runUnderlying227 Tryz.sizeOf21 rfl rfl rfl (Nat.zero_le _) rfl ?_
              refine asg rfl rfl ?_
              refine nl ?_
              refine sq ?_
              refine sr ?_
              refine mv rfl rfl ?_
              refine gt rfl rfl rfl ?_
              refine nl ?_
              refine nulC2 ?_
              refine cutT (fun l' H' L' => ∃ (a1_7_6_0_2 : Option Addr), ∃ (c1_7_6_0_2 : Nat), ∃ (Nr1_7_6_0_2 : Chunk), [(2, .bool false), (7, .pointer (some ⟨b_1, 0, none⟩)), (9, .bool (decide ((0 : Int) ≤ v))), (10, .pointer (some ⟨b, 0, none⟩)), (12, .slice none 0 0), (13, .slice a1 (lT x1.1).length c1), (14, .int .i32 (rArr true x0.2).1), (15, .int .i32 (k1 : Int)), (17, .pointer (some ⟨g1, 0 + k1 * 10, none⟩)), (25, .slice none 0 0), (26, .slice a1_7 (lT x1_7.1).length c1_7), (27, .int .i32 (rArr true x1_6.2).1), (28, .int .i32 (k1_7 : Int)), (30, .pointer (some ⟨g1_7, 0 + k1_7 * 9, none⟩)), (42, .pointer (some ⟨g1_7, 0 + k1_7 * 9 + 6, none⟩)), (43, .slice none 0 0), (44, .slice a1_7_6_0 (lT x1_7_6_0.1).length c1_7_6_0), (45, .int .i32 (rArr true x1_7_5.2).1), (46, .int .i32 (k1_7_6_0 : Int)), (48, .pointer (some ⟨g1_7_6_0, 0 + k1_7_6_0 * 19, none⟩)), (51, .slice none 0 0), (52, .slice a1_7_6_0_2 (lT x1_7_6_0_2.1).length c1_7_6_0_2), (53, .int .i32 (rArr true x1_7_6_0_1.2).1)] = l' ∧ Nr1_7_6_0_2 :: N337 :: [(b_25, .cells [ub x1_7_6_0_0.1.s 0, ub x1_7_6_0_0.1.s 1, ub x1_7_6_0_0.1.s 2, ub x1_7_6_0_0.1.s 3, ub x1_7_6_0_0.1.s 4, ub x1_7_6_0_0.1.s 5, ub x1_7_6_0_0.1.s 6, ub x1_7_6_0_0.1.s 7, ub x1_7_6_0_0.1.s 8, ub x1_7_6_0_0.1.s 9, ub x1_7_6_0_0.1.s 10, ub x1_7_6_0_0.1.s 11, ub x1_7_6_0_0.1.s 12, ub x1_7_6_0_0.1.s 13, ub x1_7_6_0_0.1.s 14, ub x1_7_6_0_0.1.s 15].toArray 182 (0, 0))] :: [(g1_7_6_0, .cells ((es1_7_6_0.flatMap fk) ++ ([ub x1_7_6_0_0.1.s 0, ub x1_7_6_0_0.1.s 1, ub x1_7_6_0_0.1.s 2, ub x1_7_6_0_0.1.s 3, ub x1_7_6_0_0.1.s 4, ub x1_7_6_0_0.1.s 5, ub x1_7_6_0_0.1.s 6, ub x1_7_6_0_0.1.s 7, ub x1_7_6_0_0.1.s 8, ub x1_7_6_0_0.1.s 9, ub x1_7_6_0_0.1.s 10, ub x1_7_6_0_0.1.s 11, ub x1_7_6_0_0.1.s 12, ub x1_7_6_0_0.1.s 13, ub x1_7_6_0_0.1.s 14, ub x1_7_6_0_0.1.s 15, .string ⟨x1_7_6_0_1.1.s.toArray⟩, .slice none 0 0, .map none] : List Value) ++ po1_7_6_0).toArray 302 (0, 0))] :: [(g1_7, .cells ((es1_7.flatMap fk) ++ ([.string ⟨x1_7_0.1.s.toArray⟩, .pointer p1_7_1, .int .i32 (IntKind.i32.wrap x1_7_2.1.n), .string ⟨x1_7_3.1.s.toArray⟩, .string ⟨x1_7_4.1.s.toArray⟩, .slice a1_7_5 (lT x1_7_5.1).length c1_7_5, .slice none 0 0, .map none, .map none] : List Value) ++ po1_7).toArray 298 (0, 0))] :: [(g1, .cells ((es1.flatMap fk) ++ ([.int .i16 (IntKind.i16.wrap x1_0.1.n), .pointer p1_1, .string ⟨x1_2.1.s.toArray⟩, .string ⟨x1_3.1.s.toArray⟩, .int .i32 (IntKind.i32.wrap x1_4.1.n), .int .i32 (IntKind.i32.wrap x1_5.1.n), .string ⟨x1_6.1.s.toArray⟩, .slice none 0 0, .int .i32 (-2147483648), .map none] : List Value) ++ po1).toArray 193 (0, 0))] :: [(b, .cells [.int .i16 v, .int .i32 (IntKind.i32.wrap x0.1.n), .slice none 0 0, .map none].toArray 188 (0, 0))] :: L = L' ∧ Row 21 1 a1_7_6_0_2 (lT x1_7_6_0_2.1).length c1_7_6_0_2 (reps [.int .i32 0] (lT x1_7_6_0_2.1).length) Nr1_7_6_0_2 ∧ a1_7_6_0_2.isNone = (if 0 ≤ ((-1) : Int) ∧ (v < ((-1) : Int) ∨ (rArr true x1_7_6_0_1.2).1 = 0) then false else decide ((rArr true x1_7_6_0_1.2).1 ≤ 0))) ?_ (fun l' H' L' le_27 hI => ?_)
              ·
               refine cd rfl (fun h345 => ?_) (fun h345 => ?_)
               ·
                refine rg ?_
                refine mv rfl rfl ?_
                refine mv rfl rfl ?_
                refine apz (zs := [.int .i32 0]) (m := (lT x1_7_6_0_2.1).length) Tryz.underlying227 Tryz.underlying21 I21 rfl rfl rfl (by omega) (by omega) (by have h9 := hnb1_7_6_0_2; unfold BR at h9; omega) (by have h9 := hnb1_7_6_0_2; unfold BR at h9; unfold maxLen; omega) rfl (fun g348 cp348 N348 r348 => ?_)
                refine asg rfl rfl ?_
                refine nN ?_
                refine drN (.tail .head) ?_
                refine fun a_ w_ hA hw => ⟨_, _, _, hA.sub ?_, (Fz.le.refl _), hw, (some ⟨g348, 0, none⟩), cp348, N348, rfl, rfl, r348, (by rw [if_neg (by omega)]; exact (decide_eq_false (by omega)).symm)⟩
                exact (.cons rfl (.cons rfl (.cons rfl (.cons rfl (.cons rfl (.cons rfl (.cons rfl (.cons rfl (.cons rfl (.cons rfl (.cons rfl (.cons rfl (.cons rfl (.cons rfl (.cons rfl (.cons rfl (.cons rfl (.cons rfl (.cons rfl (.cons rfl (.cons rfl (.cons rfl (.cons rfl (.nil _))))))))))))))))))))))))
               ·
                refine skN ?_
                refine fun a_ w_ hA hw => ⟨_, _, _, hA.sub ?_, (Fz.le.refl _), hw, none, 0, [], rfl, rfl, (by rw [show (lT x1_7_6_0_2.1).length = 0 by omega]; exact (Row.nil _ _)), (by rw [if_neg (by omega)]; exact (decide_eq_true (by omega)).symm)⟩
                exact (.cons rfl (.cons rfl (.cons rfl (.cons rfl (.cons rfl (.cons rfl (.cons rfl (.cons rfl (.cons rfl (.cons rfl (.cons rfl (.cons rfl (.cons rfl (.cons rfl (.cons rfl (.cons rfl (.cons rfl (.cons rfl (.cons rfl (.cons rfl (.cons rfl (.cons (by rw [show (lT x1_7_6_0_2.1).length = 0 by omega]; rfl) (.cons rfl (.nil _))))))))))))))))))))))))
              ·
               obtain ⟨a1_7_6_0_2, c1_7_6_0_2, Nr1_7_6_0_2, rfl, rfl, pj0, pj1⟩ := hI
               have hr1_7_6_0_2 := pj0
               have hi1_7_6_0_2 := pj1
               refine sq ?_
               refine sr ?_
               refine asg rfl rfl ?_
               refine nl ?_
               refine bl (lp ((lT x1_7_6_0_2.1).length) (fun k1_7_6_0_2 l' H' L' => ∃ (es1_7_6_0_2 : List (KE 1)) (M1_7_6_0_2 RN1_7_6_0_2 : Chunk), [(2, .bool false), (7, .pointer (some ⟨b_1, 0, none⟩)), (9, .bool (decide ((0 : Int) ≤ v))), (10, .pointer (some ⟨b, 0, none⟩)), (12, .slice none 0 0), (13, .slice a1 (lT x1.1).length c1), (14, .int .i32 (rArr true x0.2).1), (15, .int .i32 (k1 : Int)), (17, .pointer (some ⟨g1, 0 + k1 * 10, none⟩)), (25, .slice none 0 0), (26, .slice a1_7 (lT x1_7.1).length c1_7), (27, .int .i32 (rArr true x1_6.2).1), (28, .int .i32 (k1_7 : Int)), (30, .pointer (some ⟨g1_7, 0 + k1_7 * 9, none⟩)), (42, .pointer (some ⟨g1_7, 0 + k1_7 * 9 + 6, none⟩)), (43, .slice none 0 0), (44, .slice a1_7_6_0 (lT x1_7_6_0.1).length c1_7_6_0), (45, .int .i32 (rArr true x1_7_5.2).1), (46, .int .i32 (k1_7_6_0 : Int)), (48, .pointer (some ⟨g1_7_6_0, 0 + k1_7_6_0 * 19, none⟩)), (51, .slice none 0 0), (52, .slice a1_7_6_0_2 (lT x1_7_6_0_2.1).length c1_7_6_0_2), (53, .int .i32 (rArr true x1_7_6_0_1.2).1), (54, .int .i32 (k1_7_6_0_2 : Int))] = l' ∧ M1_7_6_0_2 :: RN1_7_6_0_2 :: [(b_25, .cells [ub x1_7_6_0_0.1.s 0, ub x1_7_6_0_0.1.s 1, ub x1_7_6_0_0.1.s 2, ub x1_7_6_0_0.1.s 3, ub x1_7_6_0_0.1.s 4, ub x1_7_6_0_0.1.s 5, ub x1_7_6_0_0.1.s 6, ub x1_7_6_0_0.1.s 7, ub x1_7_6_0_0.1.s 8, ub x1_7_6_0_0.1.s 9, ub x1_7_6_0_0.1.s 10, ub x1_7_6_0_0.1.s 11, ub x1_7_6_0_0.1.s 12, ub x1_7_6_0_0.1.s 13, ub x1_7_6_0_0.1.s 14, ub x1_7_6_0_0.1.s 15].toArray 182 (0, 0))] :: [(g1_7_6_0, .cells ((es1_7_6_0.flatMap fk) ++ ([ub x1_7_6_0_0.1.s 0, ub x1_7_6_0_0.1.s 1, ub x1_7_6_0_0.1.s 2, ub x1_7_6_0_0.1.s 3, ub x1_7_6_0_0.1.s 4, ub x1_7_6_0_0.1.s 5, ub x1_7_6_0_0.1.s 6, ub x1_7_6_0_0.1.s 7, ub x1_7_6_0_0.1.s 8, ub x1_7_6_0_0.1.s 9, ub x1_7_6_0_0.1.s 10, ub x1_7_6_0_0.1.s 11, ub x1_7_6_0_0.1.s 12, ub x1_7_6_0_0.1.s 13, ub x1_7_6_0_0.1.s 14, ub x1_7_6_0_0.1.s 15, .string ⟨x1_7_6_0_1.1.s.toArray⟩, .slice none 0 0, .map none] : List Value) ++ po1_7_6_0).toArray 302 (0, 0))] :: [(g1_7, .cells ((es1_7.flatMap fk) ++ ([.string ⟨x1_7_0.1.s.toArray⟩, .pointer p1_7_1, .int .i32 (IntKind.i32.wrap x1_7_2.1.n), .string ⟨x1_7_3.1.s.toArray⟩, .string ⟨x1_7_4.1.s.toArray⟩, .slice a1_7_5 (lT x1_7_5.1).length c1_7_5, .slice none 0 0, .map none, .map none] : List Value) ++ po1_7).toArray 298 (0, 0))] :: [(g1, .cells ((es1.flatMap fk) ++ ([.int .i16 (IntKind.i16.wrap x1_0.1.n), .pointer p1_1, .string ⟨x1_2.1.s.toArray⟩, .string ⟨x1_3.1.s.toArray⟩, .int .i32 (IntKind.i32.wrap x1_4.1.n), .int .i32 (IntKind.i32.wrap x1_5.1.n), .string ⟨x1_6.1.s.toArray⟩, .slice none 0 0, .int .i32 (-2147483648), .map none] : List Value) ++ po1).toArray 193 (0, 0))] :: [(b, .cells [.int .i16 v, .int .i32 (IntKind.i32.wrap x0.1.n), .slice none 0 0, .map none].toArray 188 (0, 0))] :: L = L' ∧ RdAt H' 232 b_1 (rMany (decV 3 (decP [] v true) false true) k1_7_6_0_2 (rArr true x1_7_6_0_1.2).2).2 RN1_7_6_0_2 ∧ Row 21 1 a1_7_6_0_2 (lT x1_7_6_0_2.1).length c1_7_6_0_2 (es1_7_6_0_2.flatMap fk ++ reps [.int .i32 0] ((lT x1_7_6_0_2.1).length - k1_7_6_0_2)) M1_7_6_0_2 ∧ es1_7_6_0_2.map (·.2) = (rMany (decV 3 (decP [] v true) false true) k1_7_6_0_2 (rArr true x1_7_6_0_1.2).2).1 ∧ ∀ p ∈ es1_7_6_0_2, RI32 H' p.2 (fk p)) [(2, .bool false), (7, .pointer (some ⟨b_1, 0, none⟩)), (9, .bool (decide ((0 : Int) ≤ v))), (10, .pointer (some ⟨b, 0, none⟩)), (12, .slice none 0 0), (13, .slice a1 (lT x1.1).length c1), (14, .int .i32 (rArr true x0.2).1), (15, .int .i32 (k1 : Int)), (17, .pointer (some ⟨g1, 0 + k1 * 10, none⟩)), (25, .slice none 0 0), (26, .slice a1_7 (lT x1_7.1).length c1_7), (27, .int .i32 (rArr true x1_6.2).1), (28, .int .i32 (k1_7 : Int)), (30, .pointer (some ⟨g1_7, 0 + k1_7 * 9, none⟩)), (42, .pointer (some ⟨g1_7, 0 + k1_7 * 9 + 6, none⟩)), (43, .slice none 0 0), (44, .slice a1_7_6_0 (lT x1_7_6_0.1).length c1_7_6_0), (45, .int .i32 (rArr true x1_7_5.2).1), (46, .int .i32 (k1_7_6_0 : Int)), (48, .pointer (some ⟨g1_7_6_0, 0 + k1_7_6_0 * 19, none⟩)), (51, .slice none 0 0), (52, .slice a1_7_6_0_2 (lT x1_7_6_0_2.1).length c1_7_6_0_2), (53, .int .i32 (rArr true x1_7_6_0_1.2).1), (54, .int .i32 (0 : Int))] (.cons rfl (.cons rfl (.cons rfl (.cons rfl (.cons rfl (.cons rfl (.cons rfl (.cons rfl (.cons rfl (.cons rfl (.cons rfl (.cons rfl (.cons rfl (.cons rfl (.cons rfl (.cons rfl (.cons rfl (.cons rfl (.cons rfl (.cons rfl (.cons rfl (.cons rfl (.cons rfl (.cons rfl (.nil _))))))))))))))))))))))))) ⟨[], Nr1_7_6_0_2, _, rfl, rfl, (hR337.mono le_27), hr1_7_6_0_2, rfl, (fun p hp => by cases hp)⟩ (fun k1_7_6_0_2 l' H' L' hk1_7_6_0_2 le_28 hI => ?_))
               obtain ⟨es1_7_6_0_2, M1_7_6_0_2, RN1_7_6_0_2, rfl, rfl, hR_1_7_6_0_2, hw_1_7_6_0_2, he_1_7_6_0_2, hg_1_7_6_0_2⟩ := hI
               have hs_1_7_6_0_2 := els_len he_1_7_6_0_2
               have hp_1_7_6_0_2 : (es1_7_6_0_2.flatMap fk).length = k1_7_6_0_2 * 1 := els_flat hs_1_7_6_0_2
               refine sq ?_
               refine sr ?_
               refine mv rfl rfl ?_
               refine mv rfl rfl ?_
               refine lt rfl rfl rfl ?_
               refine nl ?_
               refine cd rfl (fun h351 => ?_) (fun h351 => ?_)
               ·
                have hkl1_7_6_0_2 : k1_7_6_0_2 < (lT x1_7_6_0_2.1).length := by omega
                obtain ⟨g1_7_6_0_2, po1_7_6_0_2, hga1_7_6_0_2, rfl, hbk1_7_6_0_2⟩ := hw_1_7_6_0_2.next (zs := [.int .i32 0]) hkl1_7_6_0_2 rfl (by decide)
                have ho1_7_6_0_2 : 0 + k1_7_6_0_2 * 1 = (es1_7_6_0_2.flatMap fk).length := by rw [hp_1_7_6_0_2]; omega
                have hbz1_7_6_0_2 : ((decV 3 (decP [] v true) false true) (rMany (decV 3 (decP [] v true) false true) k1_7_6_0_2 (rArr true x1_7_6_0_1.2).2).2).2.bad = true → (decP fs_ShareGroupDescribeResponse v true ⟨s, false, !a.isNone⟩).2.bad = true := fun h => hB1_7_6_0_2 (by rw [ex1_7_6_0_2]; exact rMany_mono (fun r h => decV_bad (fun r h => decP_bad _ _ _ r h) h) _ (show k1_7_6_0_2 + 1 ≤ (lT x1_7_6_0_2.1).length from hkl1_7_6_0_2) (by rw [rMany_succ]; exact h))
                have hLk1_7_6_0_2 : (rMany (decV 3 (decP [] v true) false true) k1_7_6_0_2 (rArr true x1_7_6_0_1.2).2).2.s.length ≤ BR := Nat.le_trans (rMany_shr (fun r => decV_shr (fun r => decP_shr _ _ _ r) r) _ _) hm1_7_6_0_2
                obtain ⟨y1_7_6_0_2, hy1_7_6_0_2⟩ : ∃ x, x = (decV 3 (decP [] v true) false true) (rMany (decV 3 (decP [] v true) false true) k1_7_6_0_2 (rArr true x1_7_6_0_1.2).2).2 := ⟨_, rfl⟩
                refine skt ?_
                refine sq ?_
                refine bl ?_
                refine sr ?_
                refine tf (.tail .head) ?_
                refine cl rfl rfl rfl (d3 hR_1_7_6_0_2 hy1_7_6_0_2) rfl (fun v_ H1 L1 hle_ hR_ => ?_)
                obtain ⟨N354, rfl, hR354, rfl, rfl⟩ := hR_
                refine asg rfl rfl ?_
                refine nl ?_
                refine rg ?_
                refine mv rfl rfl ?_
                refine mv rfl rfl ?_
                refine mv rfl rfl ?_
                refine ixk (j := k1_7_6_0_2) Tryz.runUnderlying227 Tryz.sizeOf21 rfl hga1_7_6_0_2 rfl rfl hkl1_7_6_0_2 rfl ?_
                refine stM (off := 0) Tryz.sizeOf21 rfl ho1_7_6_0_2 rfl rfl rfl (.tail .head) ?_
                refine nN ?_
                refine Nb ?_
                refine Nt ?_
                refine rg ?_
                refine mv rfl rfl ?_
                refine ad rfl rfl (c := ((k1_7_6_0_2 + 1 : Nat) : Int)) ((wrap32_le (by omega) (by omega)).trans (by omega)) rfl ?_
                refine asg rfl rfl ?_
                refine nN ?_
                have hfs1_7_6_0_2 := flatMap_snoc' fk es1_7_6_0_2 ((⟨([.int .i32 (IntKind.i32.wrap y1_7_6_0_2.1.n)] : List Value), rfl, all_one rfl⟩, ((decV 3 (decP [] v true) false true) (rMany (decV 3 (decP [] v true) false true) k1_7_6_0_2 (rArr true x1_7_6_0_1.2).2).2).1) : KE 1)
                have hrw1_7_6_0_2 := hbk1_7_6_0_2 ([.int .i32 (IntKind.i32.wrap y1_7_6_0_2.1.n)] : List Value) rfl
                refine tfN (.tail .head) ?_
                refine fun a_ w_ hA hw => ⟨hkl1_7_6_0_2, _, _, _, hA.sub ?_, le_28, hw, _, _, _, rfl, rfl, (by rw [rMany_succ, ← hy1_7_6_0_2]; exact hR354), (by rw [← hfs1_7_6_0_2]; exact hrw1_7_6_0_2), (dec_els he_1_7_6_0_2), (fun p hp => (mem_snoc hp).elim (fun h => RI32.mono _ _ _ _ (Fz.le.refl _) (hg_1_7_6_0_2 p h)) (fun h => h ▸ (by show RI32 _ ((decV 3 (decP [] v true) false true) (rMany (decV 3 (decP [] v true) false true) k1_7_6_0_2 (rArr true x1_7_6_0_1.2).2).2).1 [.int .i32 (IntKind.i32.wrap y1_7_6_0_2.1.n)]; rw [← hy1_7_6_0_2]; rfl)))⟩
                exact (.cons rfl (.cons rfl (.cons rfl (.cons rfl (.cons rfl (.cons rfl (.cons rfl (.cons rfl (.cons rfl (.cons rfl (.cons rfl (.cons rfl (.cons rfl (.cons rfl (.cons rfl (.cons rfl (.cons rfl (.cons rfl (.cons rfl (.cons rfl (.cons rfl (.cons rfl (.cons rfl (.cons rfl (.nil _)))))))))))))))))))))))))
               ·
                have hkn_ : k1_7_6_0_2 = (lT x1_7_6_0_2.1).length := by omega
                subst hkn_
                have hw2_1_7_6_0_2 : Row 21 1 a1_7_6_0_2 (lT x1_7_6_0_2.1).length c1_7_6_0_2 (es1_7_6_0_2.flatMap fk) M1_7_6_0_2 := by have h := hw_1_7_6_0_2; rw [Nat.sub_self] at h; simpa [reps] using h
                refine frW hw2_1_7_6_0_2 .head (fun Hf1_7_6_0_2 hlf1_7_6_0_2 hfz1_7_6_0_2 => ?_)
                have hrs1_7_6_0_2 := RowsAt.row (R := RI32) hfz1_7_6_0_2 hs_1_7_6_0_2.symm hw2_1_7_6_0_2.le.1 (fun p hp => RI32.mono _ _ _ _ hlf1_7_6_0_2 (hg_1_7_6_0_2 p hp))
                rw [he_1_7_6_0_2] at hrs1_7_6_0_2
                have hf1_7_6_0_2 : ListAt Hf1_7_6_0_2 x1_7_6_0_2.1 1 RI32 a1_7_6_0_2 c1_7_6_0_2 := by rw [ex1_7_6_0_2]; exact listAt_of hrs1_7_6_0_2 hi1_7_6_0_2 (fun h => by have h1 := nul_le h; rw [show (lT x1_7_6_0_2.1).length = 0 by omega]; rfl)
                have hRx1_7_6_0_2 : RdAt Hf1_7_6_0_2 232 b_1 x1_7_6_0_2.2 RN1_7_6_0_2 := by rw [ex1_7_6_0_2]; exact (hR_1_7_6_0_2.mono hlf1_7_6_0_2)
                refine exX ?_
                refine XT ?_
                refine XT ?_
                refine Xb ?_
                refine Nt ?_
                refine sr ?_
                refine mv rfl rfl ?_
                refine asg rfl rfl ?_
                refine nl ?_
                refine rg ?_
                refine mv rfl rfl ?_
                refine mv rfl rfl ?_
                refine nc rfl rfl ?_
                refine fa F302_2 rfl rfl ?_
                refine stM (off := 17) Tryz.sizeOf227 rfl (by rw [ho1_7_6_0]) rfl rfl rfl (.tail (.tail .head)) ?_
                refine nl ?_
                refine sr ?_
                refine mv rfl rfl ?_
                refine nl ?_
                refine cdT rfl (by omega) ?_
                refine rg ?_
                refine mv rfl rfl ?_
                refine cl rfl rfl rfl (d_tags hRx1_7_6_0_2) rfl (fun v_ H1 L1 le_30 hR_ => ?_)
                obtain ⟨N366, rfl, hR366, m1_7_6_0_t, rfl, hft1_7_6_0_⟩ := hR_
                have hu21_7_6_0_ : u1_7_6_0_ = rTags x1_7_6_0_2.2 := hu1_7_6_0_
                rw [← hu21_7_6_0_] at hR366 hft1_7_6_0_
                refine nc rfl rfl ?_
                refine fa F302_3 rfl rfl ?_
                refine saM (off := 18) Tryz.sizeOf105 rfl (by rw [ho1_7_6_0]) rfl rfl rfl rfl (.tail (.tail .head)) ?_
                refine nN ?_
                refine Nb ?_
                refine Nt ?_
                refine rg ?_
                refine mv rfl rfl ?_
                refine ad rfl rfl (c := ((k1_7_6_0 + 1 : Nat) : Int)) ((wrap32_le (by omega) (by omega)).trans (by omega)) rfl ?_
                refine asg rfl rfl ?_
                refine nN ?_
                have hfs1_7_6_0 := flatMap_snoc' fk es1_7_6_0 ((⟨([ub x1_7_6_0_0.1.s 0, ub x1_7_6_0_0.1.s 1, ub x1_7_6_0_0.1.s 2, ub x1_7_6_0_0.1.s 3, ub x1_7_6_0_0.1.s 4, ub x1_7_6_0_0.1.s 5, ub x1_7_6_0_0.1.s 6, ub x1_7_6_0_0.1.s 7, ub x1_7_6_0_0.1.s 8, ub x1_7_6_0_0.1.s 9, ub x1_7_6_0_0.1.s 10, ub x1_7_6_0_0.1.s 11, ub x1_7_6_0_0.1.s 12, ub x1_7_6_0_0.1.s 13, ub x1_7_6_0_0.1.s 14, ub x1_7_6_0_0.1.s 15, .string ⟨x1_7_6_0_1.1.s.toArray⟩, .slice a1_7_6_0_2 (lT x1_7_6_0_2.1).length c1_7_6_0_2, .map m1_7_6_0_t] : List Value), rfl, all_one rfl⟩, ((decV 10 (decP fs_sShareGroupDescribeResponseGroupMemberAssignmentTopicPartition v true) false true) (rMany (decV 10 (decP fs_sShareGroupDescribeResponseGroupMemberAssignmentTopicPartition v true) false true) k1_7_6_0 (rArr true x1_7_5.2).2).2).1) : KE 19)
                have hrw1_7_6_0 := hbk1_7_6_0 ([ub x1_7_6_0_0.1.s 0, ub x1_7_6_0_0.1.s 1, ub x1_7_6_0_0.1.s 2, ub x1_7_6_0_0.1.s 3, ub x1_7_6_0_0.1.s 4, ub x1_7_6_0_0.1.s 5, ub x1_7_6_0_0.1.s 6, ub x1_7_6_0_0.1.s 7, ub x1_7_6_0_0.1.s 8, ub x1_7_6_0_0.1.s 9, ub x1_7_6_0_0.1.s 10, ub x1_7_6_0_0.1.s 11, ub x1_7_6_0_0.1.s 12, ub x1_7_6_0_0.1.s 13, ub x1_7_6_0_0.1.s 14, ub x1_7_6_0_0.1.s 15, .string ⟨x1_7_6_0_1.1.s.toArray⟩, .slice a1_7_6_0_2 (lT x1_7_6_0_2.1).length c1_7_6_0_2, .map m1_7_6_0_t] : List Value) rfl
                refine drN (.tail .head) ?_
                refine tfN (.tail .head) ?_
                refine fun a_ w_ hA hw => ⟨hkl1_7_6_0, _, _, _, hA.sub ?_, (le_23.trans (le_27.trans (le_28.trans (hlf1_7_6_0_2.trans le_30)))), hw, _, _, _, rfl, rfl, (by rw [rMany_succ]; show RdAt _ 232 b_1 (decP fs_sShareGroupDescribeResponseGroupMemberAssignmentTopicPartition v true (rMany (decV 10 (decP fs_sShareGroupDescribeResponseGroupMemberAssignmentTopicPartition v true) false true) k1_7_6_0 (rArr true x1_7_5.2).2).2).2 _; rw [hD1_7_6_0_]; exact hR366), (by rw [← hfs1_7_6_0]; exact hrw1_7_6_0), (dec_els he_1_7_6_0), (fun p hp => (mem_snoc hp).elim (fun h => At_ShareGroupDescribeResponseGroupMemberAssignmentTopicPartition.mono _ _ _ _ (le_27.trans (le_28.trans (hlf1_7_6_0_2.trans le_30))) (hg_1_7_6_0 p h)) (fun h => h ▸ (by show At_ShareGroupDescribeResponseGroupMemberAssignmentTopicPartition _ (decP fs_sShareGroupDescribeResponseGroupMemberAssignmentTopicPartition v true (rMany (decV 10 (decP fs_sShareGroupDescribeResponseGroupMemberAssignmentTopicPartition v true) false true) k1_7_6_0 (rArr true x1_7_5.2).2).2).1 [ub x1_7_6_0_0.1.s 0, ub x1_7_6_0_0.1.s 1, ub x1_7_6_0_0.1.s 2, ub x1_7_6_0_0.1.s 3, ub x1_7_6_0_0.1.s 4, ub x1_7_6_0_0.1.s 5, ub x1_7_6_0_0.1.s 6, ub x1_7_6_0_0.1.s 7, ub x1_7_6_0_0.1.s 8, ub x1_7_6_0_0.1.s 9, ub x1_7_6_0_0.1.s 10, ub x1_7_6_0_0.1.s 11, ub x1_7_6_0_0.1.s 12, ub x1_7_6_0_0.1.s 13, ub x1_7_6_0_0.1.s 14, ub x1_7_6_0_0.1.s 15, .string ⟨x1_7_6_0_1.1.s.toArray⟩, .slice a1_7_6_0_2 (lT x1_7_6_0_2.1).length c1_7_6_0_2, .map m1_7_6_0_t]; rw [hD1_7_6_0_]; exact ⟨a1_7_6_0_2, c1_7_6_0_2, m1_7_6_0_t, rfl, (hf1_7_6_0_2.mono RI32.mono le_30), hft1_7_6_0_⟩)))⟩
                exact (.cons rfl (.cons rfl (.cons rfl (.cons rfl (.cons rfl (.cons rfl (.cons rfl (.cons rfl (.cons rfl (.cons rfl (.cons rfl (.cons rfl (.cons rfl (.cons rfl (.cons rfl (.cons rfl (.cons rfl (.cons rfl (.cons rfl (.nil _))))))))))))))))))))
            ·
             have hkn_ : k1_7_6_0 = (lT x1_7_6_0.1).length := by omega
             subst hkn_
             have hw2_1_7_6_0 : Row 302 19 a1_7_6_0 (lT x1_7_6_0.1).length c1_7_6_0 (es1_7_6_0.flatMap fk) M1_7_6_0 := by have h := hw_1_7_6_0; rw [Nat.sub_self] at h; simpa [reps] using h
             refine frW hw2_1_7_6_0 .head (fun Hf1_7_6_0 hlf1_7_6_0 hfz1_7_6_0 => ?_)
             have hrs1_7_6_0 := RowsAt.row (R := At_ShareGroupDescribeResponseGroupMemberAssignmentTopicPartition) hfz1_7_6_0 hs_1_7_6_0.symm hw2_1_7_6_0.le.1 (fun p hp => At_ShareGroupDescribeResponseGroupMemberAssignmentTopicPartition.mono _ _ _ _ hlf1_7_6_0 (hg_1_7_6_0 p hp))
             rw [he_1_7_6_0] at hrs1_7_6_0
             have hf1_7_6_0 : ListAt Hf1_7_6_0 x1_7_6_0.1 19 At_ShareGroupDescribeResponseGroupMemberAssignmentTopicPartition a1_7_6_0 c1_7_6_0 := by rw [ex1_7_6_0]; exact listAt_of hrs1_7_6_0 hi1_7_6_0 (fun h => by have h1 := nul_le h; rw [show (lT x1_7_6_0.1).length = 0 by omega]; rfl)
             have hRx1_7_6_0 : RdAt Hf1_7_6_0 232 b_1 x1_7_6_0.2 RN1_7_6_0 := by rw [ex1_7_6_0]; exact (hR_1_7_6_0.mono hlf1_7_6_0)
             refine exX ?_
             refine XT ?_
             refine XT ?_
             refine Xb ?_
             refine Nt ?_
             refine sr ?_
             refine mv rfl rfl ?_
             refine asg rfl rfl ?_
             refine nl ?_
             refine rg ?_
             refine mv rfl rfl ?_
             refine mv rfl rfl ?_
             refine nc rfl rfl ?_
             refine fa F296_0 rfl rfl ?_
             refine stM (off := 6) Tryz.sizeOf294 rfl (by have := ho1_7; omega) rfl rfl rfl (.tail .head) ?_
             refine nl ?_
             refine sr ?_
             refine mv rfl rfl ?_
             refine nl ?_
             refine cdT rfl (by omega) ?_
             refine rg ?_
             refine mv rfl rfl ?_
             refine cl rfl rfl rfl (d_tags hRx1_7_6_0) rfl (fun v_ H1 L1 le_31 hR_ => ?_)
             obtain ⟨N376, rfl, hR376, m1_7_6_t, rfl, hft1_7_6_⟩ := hR_
             have hu21_7_6_ : u1_7_6_ = rTags x1_7_6_0.2 := hu1_7_6_
             rw [← hu21_7_6_] at hR376 hft1_7_6_
             refine nc rfl rfl ?_
             refine fa F296_1 rfl rfl ?_
             refine saM (off := 7) Tryz.sizeOf105 rfl (by have := ho1_7; omega) rfl rfl rfl rfl (.tail .head) ?_
             refine nl ?_
             refine sr ?_
             refine mv rfl rfl ?_
             refine nl ?_
             refine cdT rfl (by omega) ?_
             refine rg ?_
             refine mv rfl rfl ?_
             obtain rfl : x1_7_6 = ((Tr.mk 0 [] false [x1_7_6_0.1] u1_7_6_.1), u1_7_6_.2) := ey1_7_6.trans hD1_7_6_
             refine cl rfl rfl rfl (d_tags hR376) rfl (fun v_ H1 L1 le_32 hR_ => ?_)
             obtain ⟨N381, rfl, hR381, m1_7_t, rfl, hft1_7_⟩ := hR_
             have hu21_7_ : u1_7_ = rTags u1_7_6_.2 := hu1_7_
             rw [← hu21_7_] at hR381 hft1_7_
             refine nc rfl rfl ?_
             refine fa F298_7 rfl rfl ?_
             refine saM (off := 8) Tryz.sizeOf105 rfl (by rw [ho1_7]) rfl rfl rfl rfl (.tail .head) ?_
             refine nN ?_
             refine Nb ?_
             refine Nt ?_
             refine rg ?_
             refine mv rfl rfl ?_
             refine ad rfl rfl (c := ((k1_7 + 1 : Nat) : Int)) ((wrap32_le (by omega) (by omega)).trans (by omega)) rfl ?_
             refine asg rfl rfl ?_
             refine nN ?_
             have hfs1_7 := flatMap_snoc' fk es1_7 ((⟨([.string ⟨x1_7_0.1.s.toArray⟩, .pointer p1_7_1, .int .i32 (IntKind.i32.wrap x1_7_2.1.n), .string ⟨x1_7_3.1.s.toArray⟩, .string ⟨x1_7_4.1.s.toArray⟩, .slice a1_7_5 (lT x1_7_5.1).length c1_7_5, .slice a1_7_6_0 (lT x1_7_6_0.1).length c1_7_6_0, .map m1_7_6_t, .map m1_7_t] : List Value), rfl, all_one rfl⟩, ((decV 10 (decP fs_sShareGroupDescribeResponseGroupMember v true) false true) (rMany (decV 10 (decP fs_sShareGroupDescribeResponseGroupMember v true) false true) k1_7 (rArr true x1_6.2).2).2).1) : KE 9)
             have hrw1_7 := hbk1_7 ([.string ⟨x1_7_0.1.s.toArray⟩, .pointer p1_7_1, .int .i32 (IntKind.i32.wrap x1_7_2.1.n), .string ⟨x1_7_3.1.s.toArray⟩, .string ⟨x1_7_4.1.s.toArray⟩, .slice a1_7_5 (lT x1_7_5.1).length c1_7_5, .slice a1_7_6_0 (lT x1_7_6_0.1).length c1_7_6_0, .map m1_7_6_t, .map m1_7_t] : List Value) rfl
             refine tfN (.tail .head) ?_
             refine fun a_ w_ hA hw => ⟨hkl1_7, _, _, _, hA.sub ?_, (le_13.trans (le_15.trans (le_19.trans (le_20.trans (hlf1_7_5.trans (le_22.trans (le_23.trans (hlf1_7_6_0.trans (le_31.trans le_32))))))))), hw, _, _, _, rfl, rfl, (by rw [rMany_succ]; show RdAt _ 232 b_1 (decP fs_sShareGroupDescribeResponseGroupMember v true (rMany (decV 10 (decP fs_sShareGroupDescribeResponseGroupMember v true) false true) k1_7 (rArr true x1_6.2).2).2).2 _; rw [hD1_7_]; exact hR381), (by rw [← hfs1_7]; exact hrw1_7), (dec_els he_1_7), (fun p hp => (mem_snoc hp).elim (fun h => At_ShareGroupDescribeResponseGroupMember.mono _ _ _ _ (le_15.trans (le_19.trans (le_20.trans (hlf1_7_5.trans (le_22.trans (le_23.trans (hlf1_7_6_0.trans (le_31.trans le_32)))))))) (hg_1_7 p h)) (fun h => h ▸ (by show At_ShareGroupDescribeResponseGroupMember _ (decP fs_sShareGroupDescribeResponseGroupMember v true (rMany (decV 10 (decP fs_sShareGroupDescribeResponseGroupMember v true) false true) k1_7 (rArr true x1_6.2).2).2).1 [.string ⟨x1_7_0.1.s.toArray⟩, .pointer p1_7_1, .int .i32 (IntKind.i32.wrap x1_7_2.1.n), .string ⟨x1_7_3.1.s.toArray⟩, .string ⟨x1_7_4.1.s.toArray⟩, .slice a1_7_5 (lT x1_7_5.1).length c1_7_5, .slice a1_7_6_0 (lT x1_7_6_0.1).length c1_7_6_0, .map m1_7_6_t, .map m1_7_t]; rw [hD1_7_]; exact ⟨p1_7_1, a1_7_5, c1_7_5, a1_7_6_0, c1_7_6_0, m1_7_6_t, m1_7_t, rfl, (hf1_7_1.mono (le_19.trans (le_20.trans (hlf1_7_5.trans (le_22.trans (le_23.trans (hlf1_7_6_0.trans (le_31.trans le_32)))))))), (hf1_7_5.mono RText.mono (le_22.trans (le_23.trans (hlf1_7_6_0.trans (le_31.trans le_32))))), (hf1_7_6_0.mono At_ShareGroupDescribeResponseGroupMemberAssignmentTopicPartition.mono (le_31.trans le_32)), (hft1_7_6_.mono le_32), hft1_7_⟩)))⟩
             exact (.cons rfl (.cons rfl (.cons rfl (.cons rfl (.cons rfl (.cons rfl (.cons rfl (.cons rfl (.cons rfl (.cons rfl (.cons rfl (.cons rfl (.cons rfl (.nil _))))))))))))))
      ·
       have hkn_ : k1_7 = (lT x1_7.1).length := by omega
       subst hkn_
       have hw2_1_7 : Row 298 9 a1_7 (lT x1_7.1).length c1_7 (es1_7.flatMap fk) M1_7 := by have h := hw_1_7; rw [Nat.sub_self] at h; simpa [reps] using h
       refine frW hw2_1_7 .head (fun Hf1_7 hlf1_7 hfz1_7 => ?_)
       have hrs1_7 := RowsAt.row (R := At_ShareGroupDescribeResponseGroupMember) hfz1_7 hs_1_7.symm hw2_1_7.le.1 (fun p hp => At_ShareGroupDescribeResponseGroupMember.mono _ _ _ _ hlf1_7 (hg_1_7 p hp))
       rw [he_1_7] at hrs1_7
       have hf1_7 : ListAt Hf1_7 x1_7.1 9 At_ShareGroupDescribeResponseGroupMember a1_7 c1_7 := by rw [ex1_7]; exact listAt_of hrs1_7 hi1_7 (fun h => by have h1 := nul_le h; rw [show (lT x1_7.1).length = 0 by omega]; rfl)
       have hRx1_7 : RdAt Hf1_7 232 b_1 x1_7.2 RN1_7 := by rw [ex1_7]; exact (hR_1_7.mono hlf1_7)
       refine exX ?_
       refine XT ?_
       refine XT ?_
       refine Xb ?_
       refine Nt ?_
       refine sr ?_
       refine mv rfl rfl ?_
       refine asg rfl rfl ?_
       refine nl ?_
       refine rg ?_
       refine mv rfl rfl ?_
       refine mv rfl rfl ?_
       refine nc rfl rfl ?_
       refine fa F193_7 rfl rfl ?_
       refine stM (off := 7) Tryz.sizeOf191 rfl (by rw [ho1]) rfl rfl rfl (.tail .head) ?_
       refine nl ?_
       refine sq ?_
       refine sr ?_
       have ex1_8 : x1_8 = decV 3 (decP [] v true) false true x1_7.2 := (hx1_8.trans (step_yes (by decide) (show (0 : Int) ≤ v by omega) (Or.inl (by decide)))).trans (decF'_val (by decide) (rfl))
       refine cl rfl rfl rfl (d3 hRx1_7 ex1_8) rfl (fun v_ H1 L1 hle_ hR_ => ?_)
       obtain ⟨N389, rfl, hR389, rfl, rfl⟩ := hR_
       refine asg rfl rfl ?_
       refine nl ?_
       refine rg ?_
       refine mv rfl rfl ?_
       refine mv rfl rfl ?_
       refine nc rfl rfl ?_
       refine fa F193_8 rfl rfl ?_
       refine stM (off := 8) Tryz.sizeOf21 rfl (by rw [ho1]) rfl rfl rfl (.tail .head) ?_
       refine nl ?_
       refine sr ?_
       refine mv rfl rfl ?_
       refine nl ?_
       refine cdT rfl (by omega) ?_
       refine rg ?_
       refine mv rfl rfl ?_
       refine cl rfl rfl rfl (d_tags hR389) rfl (fun v_ H1 L1 le_34 hR_ => ?_)
       obtain ⟨N396, rfl, hR396, m1_t, rfl, hft1_⟩ := hR_
       have hu21_ : u1_ = rTags x1_8.2 := hu1_
       rw [← hu21_] at hR396 hft1_
       refine nc rfl rfl ?_
       refine fa F193_9 rfl rfl ?_
       refine saM (off := 9) Tryz.sizeOf105 rfl (by rw [ho1]) rfl rfl rfl rfl (.tail .head) ?_
       refine nN ?_
       refine Nb ?_
       refine Nt ?_
       refine rg ?_
       refine mv rfl rfl ?_
       refine ad rfl rfl (c := ((k1 + 1 : Nat) : Int)) ((wrap32_le (by omega) (by omega)).trans (by omega)) rfl ?_
       refine asg rfl rfl ?_
       refine nN ?_
       have hfs1 := flatMap_snoc' fk es1 ((⟨([.int .i16 (IntKind.i16.wrap x1_0.1.n), .pointer p1_1, .string ⟨x1_2.1.s.toArray⟩, .string ⟨x1_3.1.s.toArray⟩, .int .i32 (IntKind.i32.wrap x1_4.1.n), .int .i32 (IntKind.i32.wrap x1_5.1.n), .string ⟨x1_6.1.s.toArray⟩, .slice a1_7 (lT x1_7.1).length c1_7, .int .i32 (IntKind.i32.wrap x1_8.1.n), .map m1_t] : List Value), rfl, all_one rfl⟩, ((decV 10 (decP fs_sShareGroupDescribeResponseGroup v true) false true) (rMany (decV 10 (decP fs_sShareGroupDescribeResponseGroup v true) false true) k1 (rArr true x0.2).2).2).1) : KE 10)
       have hrw1 := hbk1 ([.int .i16 (IntKind.i16.wrap x1_0.1.n), .pointer p1_1, .string ⟨x1_2.1.s.toArray⟩, .string ⟨x1_3.1.s.toArray⟩, .int .i32 (IntKind.i32.wrap x1_4.1.n), .int .i32 (IntKind.i32.wrap x1_5.1.n), .string ⟨x1_6.1.s.toArray⟩, .slice a1_7 (lT x1_7.1).length c1_7, .int .i32 (IntKind.i32.wrap x1_8.1.n), .map m1_t] : List Value) rfl
       refine tfN (.tail .head) ?_
       refine fun a_ w_ hA hw => ⟨hkl1, _, _, _, hA.sub ?_, (le_4.trans (le_6.trans (le_12.trans (le_13.trans (hlf1_7.trans le_34))))), hw, _, _, _, rfl, rfl, (by rw [rMany_succ]; show RdAt _ 232 b_1 (decP fs_sShareGroupDescribeResponseGroup v true (rMany (decV 10 (decP fs_sShareGroupDescribeResponseGroup v true) false true) k1 (rArr true x0.2).2).2).2 _; rw [hD1_]; exact hR396), (by rw [← hfs1]; exact hrw1), (dec_els he_1), (fun p hp => (mem_snoc hp).elim (fun h => At_ShareGroupDescribeResponseGroup.mono _ _ _ _ (le_6.trans (le_12.trans (le_13.trans (hlf1_7.trans le_34)))) (hg_1 p h)) (fun h => h ▸ (by show At_ShareGroupDescribeResponseGroup _ (decP fs_sShareGroupDescribeResponseGroup v true (rMany (decV 10 (decP fs_sShareGroupDescribeResponseGroup v true) false true) k1 (rArr true x0.2).2).2).1 [.int .i16 (IntKind.i16.wrap x1_0.1.n), .pointer p1_1, .string ⟨x1_2.1.s.toArray⟩, .string ⟨x1_3.1.s.toArray⟩, .int .i32 (IntKind.i32.wrap x1_4.1.n), .int .i32 (IntKind.i32.wrap x1_5.1.n), .string ⟨x1_6.1.s.toArray⟩, .slice a1_7 (lT x1_7.1).length c1_7, .int .i32 (IntKind.i32.wrap x1_8.1.n), .map m1_t]; rw [hD1_]; exact ⟨p1_1, a1_7, c1_7, m1_t, rfl, (hf1_1.mono (le_12.trans (le_13.trans (hlf1_7.trans le_34)))), (hf1_7.mono At_ShareGroupDescribeResponseGroupMember.mono le_34), hft1_⟩)))⟩
       exact (.cons rfl (.cons rfl (.cons rfl (.cons rfl (.cons rfl (.cons rfl (.cons rfl (.cons rfl (.nil _)))))))))
   ·
    have hkn_ : k1 = (lT x1.1).length := by omega
    subst hkn_
    have hw2_1 : Row 193 10 a1 (lT x1.1).length c1 (es1.flatMap fk) M1 := by have h := hw_1; rw [Nat.sub_self] at h; simpa [reps] using h
    refine frW hw2_1 .head (fun Hf1 hlf1 hfz1 => ?_)
    have hrs1 := RowsAt.row (R := At_ShareGroupDescribeResponseGroup) hfz1 hs_1.symm hw2_1.le.1 (fun p hp => At_ShareGroupDescribeResponseGroup.mono _ _ _ _ hlf1 (hg_1 p hp))
    rw [he_1] at hrs1
    have hf1 : ListAt Hf1 x1.1 10 At_ShareGroupDescribeResponseGroup a1 c1 := by rw [ex1]; exact listAt_of hrs1 hi1 (fun h => by have h1 := nul_le h; rw [show (lT x1.1).length = 0 by omega]; rfl)
    have hRx1 : RdAt Hf1 232 b_1 x1.2 RN1 := by rw [ex1]; exact (hR_1.mono hlf1)
    refine exX ?_
    refine XT ?_
    refine XT ?_
    refine Xb ?_
    refine Nt ?_
    refine sr ?_
    refine mv rfl rfl ?_
    refine asg rfl rfl ?_
    refine nl ?_
    refine rg ?_
    refine mv rfl rfl ?_
    refine mv rfl rfl ?_
    refine nc rfl rfl ?_
    refine fa0 F188_2 rfl rfl ?_
    refine st Tryz.sizeOf186 rfl rfl rfl rfl (.tail .head) ?_
    refine nl ?_
    refine sq ?_
    refine sr ?_
    refine mv rfl rfl ?_
    refine nl ?_
    refine cdT rfl (by omega) ?_
    refine rg ?_
    refine mv rfl rfl ?_
    refine cl rfl rfl rfl (d_tags hRx1) rfl (fun v_ H1 L1 le_35 hR_ => ?_)
    obtain ⟨N406, rfl, hR406, mt, rfl, hft⟩ := hR_
    have hu2 : u = rTags x1.2 := hu
    rw [← hu2] at hR406 hft
    refine nc rfl rfl ?_
    refine fa0 F188_3 rfl rfl ?_
    refine sa Tryz.sizeOf105 rfl rfl rfl rfl rfl (.tail .head) ?_
    refine nl ?_
    refine sr ?_
    refine cl rfl rfl rfl (r_complete hR406 (he.mono (le_3.trans (le_4.trans (hlf1.trans le_35))))) rfl (fun v_ H1 L1 hle_ hR_ => ?_)
    obtain ⟨rfl, rfl, rfl⟩ := hR_
    refine asg rfl rfl ?_
    refine nl ?_
    refine drW .head ?_
    have hA_ := (show At_ShareGroupDescribeResponse v _ (decP fs_ShareGroupDescribeResponse v true _).1 [.int .i16 v, .int .i32 (IntKind.i32.wrap x0.1.n), .slice a1 (lT x1.1).length c1, .map mt] from (by rw [hD]; exact ⟨a1, c1, mt, rfl, (hf1.mono At_ShareGroupDescribeResponseGroup.mono le_35), hft⟩))
    refine rT rfl rfl (le_3.trans (le_4.trans (hlf1.trans le_35))) (fun _ _ h => h) ⟨_, rfl, ?_⟩
    have hz := RdEnd.of (e := e) hA_
    rw [show (decP fs_ShareGroupDescribeResponse v true _).2.bad = u.2.bad by rw [hD]] at hz
    exact hz
end Go.Sx

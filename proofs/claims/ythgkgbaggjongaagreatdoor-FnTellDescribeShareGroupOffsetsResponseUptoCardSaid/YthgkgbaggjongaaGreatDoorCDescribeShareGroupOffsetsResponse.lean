import Derived.Test.YthgkgbaggjongaaGreatDoorSxTab
import Derived.Test.YthgkgbaggjongaaGreatDoorBDescribeShareGroupOffsetsResponse
import Derived.Test.YthgkgbaggjongaaGreatDoorRK2
import Derived.KernelRfl
set_option linter.unusedVariables false
set_option linter.unusedSimpArgs false
set_option maxRecDepth 100000
set_option maxHeartbeats 20000000
namespace Go.Sx
open Go.Proofs
theorem def_DescribeShareGroupOffsetsResponseGroupTopicPartition {H : Fz} {L : Own} {b o : Nat} {pre post : List Value} {c0 c1 c2 c3 c4 c5 c6 : Value} (ho : o = pre.length) :
    Fn Tryz.prog 253 [.pointer (some ⟨b, o, none⟩)] H ([(b, .cells (pre ++ ([c0, c1, c2, c3, c4, c5, c6] : List Value) ++ post).toArray 277 (0, 0))] :: L) (fun _ H' L' => H = H' ∧ L' = [(b, .cells (pre ++ ([c0, c1, c2, .int .i64 (-1), c4, c5, c6] : List Value) ++ post).toArray 277 (0, 0))] :: L) := by
  refine Fn.mk Tryz.call253 Tryz.func253 rfl Tryz.ntmps253 rfl ?_
  refine rg ?_
  refine mv rfl rfl ?_
  refine nc rfl rfl ?_
  refine fa F277_3 rfl rfl ?_
  refine stM (off := 3) Tryz.sizeOf2 rfl (by rw [ho]) rfl rfl rfl .head ?_
  refine nN ?_
  exact fun _ _ hA hw => rn rfl (Fz.le.refl _) ⟨rfl, rfl⟩ hA hw
theorem def_DescribeShareGroupOffsetsResponseGroupTopic {H : Fz} {L : Own} {b o : Nat} {pre post : List Value} {c0 c1 c2 c3 c4 c5 c6 c7 c8 c9 c10 c11 c12 c13 c14 c15 c16 c17 c18 : Value} (ho : o = pre.length) :
    Fn Tryz.prog 251 [.pointer (some ⟨b, o, none⟩)] H ([(b, .cells (pre ++ ([c0, c1, c2, c3, c4, c5, c6, c7, c8, c9, c10, c11, c12, c13, c14, c15, c16, c17, c18] : List Value) ++ post).toArray 273 (0, 0))] :: L) (fun _ H' L' => H = H' ∧ L' = [(b, .cells (pre ++ ([c0, c1, c2, c3, c4, c5, c6, c7, c8, c9, c10, c11, c12, c13, c14, c15, c16, c17, c18] : List Value) ++ post).toArray 273 (0, 0))] :: L) := by
  refine Fn.mk Tryz.call251 Tryz.func251 rfl Tryz.ntmps251 rfl ?_
  refine skN ?_
  exact fun _ _ hA hw => rn rfl (Fz.le.refl _) ⟨rfl, rfl⟩ hA hw
theorem def_DescribeShareGroupOffsetsResponseGroup {H : Fz} {L : Own} {b o : Nat} {pre post : List Value} {c0 c1 c2 c3 c4 : Value} (ho : o = pre.length) :
    Fn Tryz.prog 250 [.pointer (some ⟨b, o, none⟩)] H ([(b, .cells (pre ++ ([c0, c1, c2, c3, c4] : List Value) ++ post).toArray 156 (0, 0))] :: L) (fun _ H' L' => H = H' ∧ L' = [(b, .cells (pre ++ ([c0, c1, c2, c3, c4] : List Value) ++ post).toArray 156 (0, 0))] :: L) := by
  refine Fn.mk Tryz.call250 Tryz.func250 rfl Tryz.ntmps250 rfl ?_
  refine skN ?_
  exact fun _ _ hA hw => rn rfl (Fz.le.refl _) ⟨rfl, rfl⟩ hA hw
theorem def0_DescribeShareGroupOffsetsResponse {H : Fz} {L : Own} {b : Nat} {c0 c1 c2 c3 : Value} :
    Fn Tryz.prog 162 [.pointer (some ⟨b, 0, none⟩)] H ([(b, .cells [c0, c1, c2, c3].toArray 151 (0, 0))] :: L) (fun _ H' L' => H = H' ∧ L' = [(b, .cells [c0, c1, c2, c3].toArray 151 (0, 0))] :: L) := by
  refine Fn.mk Tryz.call162 Tryz.func162 rfl Tryz.ntmps162 rfl ?_
  refine skN ?_
  exact fun _ _ hA hw => rn rfl (Fz.le.refl _) ⟨rfl, rfl⟩ hA hw
theorem rd_DescribeShareGroupOffsetsResponse_t {H : Fz} {L : Own} {b : Nat} {v : Int} {a : Option Addr} {c : Nat} {s : List UInt8} {e : Value} (hB : BytesAt H a c s) (hL_ : s.length ≤ BR) (he : H.at 1 0 [e]) (hv0 : 0 ≤ v) (hv1 : v ≤ 1) :
    Fn Tryz.prog 164 [.pointer (some ⟨b, 0, none⟩), .slice a s.length c, .bool false] H ([(b, .cells [.int .i16 v, .int .i32 0, .slice none 0 0, .map none].toArray 151 (0, 0))] :: L) (fun r H' L' => ∃ cs : List Value, L' = [(b, .cells cs.toArray 151 (0, 0))] :: L ∧ RdEnd H' (At_DescribeShareGroupOffsetsResponse v) (decP fs_DescribeShareGroupOffsetsResponse v true ⟨s, false, !a.isNone⟩) e r cs) := by
  refine Fn.mk Tryz.call164 Tryz.func164 rfl Tryz.ntmps164 rfl ?_
  refine sr ?_
  refine asg rfl rfl ?_
  refine nl ?_
  refine sr ?_
  refine mv rfl rfl ?_
  refine cl rfl rfl rfl def0_DescribeShareGroupOffsetsResponse rfl (fun v_ H1 L1 hle_ hR_ => ?_)
  obtain ⟨rfl, rfl⟩ := hR_
  refine nl ?_
  refine sr ?_
  refine mv rfl rfl ?_
  refine bd' S232 rfl rfl rfl ?_
  refine al Tryz.zeroValue232 rfl rfl (fun b_1 => ?_)
  refine sa Tryz.sizeOf232 rfl rfl rfl rfl rfl .head ?_
  have hR0_ : RdAt H 232 b_1 ⟨s, false, !a.isNone⟩ [(b_1, .cells [_, _].toArray 232 (0, 0))] := ⟨a, c, rfl, hB, by simp⟩
  obtain ⟨x0, hx0⟩ : ∃ x, x = stepF (Fd.mk 3 0 (-1) (-1) (-1) 0 0 []) v true ⟨s, false, !a.isNone⟩ := ⟨_, rfl⟩
  obtain ⟨x1, hx1⟩ : ∃ x, x = stepF (Fd.mk 11 0 (-1) (-1) (-1) 0 10 fs_sDescribeShareGroupOffsetsResponseGroup) v true x0.2 := ⟨_, rfl⟩
  obtain ⟨u, hu⟩ : ∃ x, x = tailU true x1.2 := ⟨_, rfl⟩
  have hD : decP fs_DescribeShareGroupOffsetsResponse v true ⟨s, false, !a.isNone⟩ = (.mk 0 [] false [x0.1, x1.1] u.1, u.2) := by
    generalize (⟨s, false, !a.isNone⟩ : Rd) = r_ at hx0 ⊢
    rw [decP_eq]; unfold fs_DescribeShareGroupOffsetsResponse; simp only [decFs_cons, decFs_nil, ← hx0, ← hx1, ← hu]
  have hL0 : x0.2.s.length ≤ BR := by rw [hx0]; exact Nat.le_trans (stepF_shr _ _ _ _) hL_
  have hL1 : x1.2.s.length ≤ BR := by rw [hx1]; exact Nat.le_trans (stepF_shr _ _ _ _) hL0
  have hE : u.2.bad = true → (decP fs_DescribeShareGroupOffsetsResponse v true ⟨s, false, !a.isNone⟩).2.bad = true := fun h => by rw [hD]; exact h
  have hB1 : x1.2.bad = true → (decP fs_DescribeShareGroupOffsetsResponse v true ⟨s, false, !a.isNone⟩).2.bad = true := fun h => hE (by rw [hu]; exact tailU_bad h)
  have hB0 : x0.2.bad = true → (decP fs_DescribeShareGroupOffsetsResponse v true ⟨s, false, !a.isNone⟩).2.bad = true := fun h => hB1 (by rw [hx1]; exact step_bad h)
  refine nl ?_
  refine sr ?_
  refine mv rfl rfl ?_
  refine nc rfl rfl ?_
  refine fa0 F151_0 rfl rfl ?_
  refine ld (Says.own (.tail .head)) Tryz.isAgg51 rfl (Nat.zero_add _).symm rfl rfl ?_
  refine asg rfl rfl ?_
  refine nl ?_
  refine sr ?_
  refine mv rfl rfl ?_
  refine nl ?_
  refine sr ?_
  refine mv rfl rfl ?_
  refine ge rfl rfl rfl ?_
  refine asg rfl rfl ?_
  refine nl ?_
  refine sr ?_
  refine mv rfl rfl ?_
  refine nl ?_
  refine sr ?_
  refine mv rfl rfl ?_
  refine asg rfl rfl ?_
  refine nl ?_
  refine sq ?_
  refine sr ?_
  have ex0 : x0 = decV 3 (decP [] v true) false true ⟨s, false, !a.isNone⟩ := (hx0.trans (step_yes (by decide) (show (0 : Int) ≤ v by omega) (Or.inl (by decide)))).trans (decF'_val (by decide) (rfl))
  refine cl rfl rfl rfl (d3 hR0_ ex0) rfl (fun v_ H1 L1 hle_ hR_ => ?_)
  obtain ⟨N54, rfl, hR54, rfl, rfl⟩ := hR_
  refine asg rfl rfl ?_
  refine nl ?_
  refine rg ?_
  refine mv rfl rfl ?_
  refine mv rfl rfl ?_
  refine nc rfl rfl ?_
  refine fa0 F151_1 rfl rfl ?_
  refine st Tryz.sizeOf21 rfl rfl rfl rfl (.tail .head) ?_
  refine nl ?_
  refine sq ?_
  refine sr ?_
  refine mv rfl rfl ?_
  refine nc rfl rfl ?_
  refine fa0 F151_2 rfl rfl ?_
  refine ld (Says.own (.tail .head)) Tryz.isAgg149 rfl (Nat.zero_add _).symm rfl rfl ?_
  refine asg rfl rfl ?_
  refine nl ?_
  refine sr ?_
  refine mv rfl rfl ?_
  refine asg rfl rfl ?_
  refine nl ?_
  refine sr ?_
  refine asg rfl rfl ?_
  refine nl ?_
  refine sq ?_
  refine sr ?_
  refine mv rfl rfl ?_
  refine nl ?_
  refine cdT rfl (by omega) ?_
  refine rg ?_
  have ey1 : x1 = (.mk 0 [] (if 0 ≤ ((-1) : Int) ∧ (v < ((-1) : Int) ∨ (rArr true x0.2).1 = 0) then false else decide ((rArr true x0.2).1 ≤ 0)) (rMany (decV 10 (decP fs_sDescribeShareGroupOffsetsResponseGroup v true) false true) (rArr true x0.2).1.toNat (rArr true x0.2).2).1 [], (rMany (decV 10 (decP fs_sDescribeShareGroupOffsetsResponseGroup v true) false true) (rArr true x0.2).1.toNat (rArr true x0.2).2).2) := (hx1.trans (step_yes (by decide) (show (0 : Int) ≤ v by omega) (Or.inl (by decide)))).trans (decF'_list rfl rfl)
  have hn1 : (rArr true x0.2).1.toNat = (lT x1.1).length := by rw [ey1]; exact (lT_many nul_le).symm
  have ex1 := ey1
  rw [hn1] at ex1
  have hl1 := rArr_le true x0.2
  have hm1 : (rArr true x0.2).2.s.length ≤ BR := Nat.le_trans (rArr_len true x0.2) hL0
  have hnb1 : (lT x1.1).length ≤ BR := by omega
  refine cl rfl rfl rfl (r_arrt hR54) rfl (fun v_ H1 L1 hle_ hR_ => ?_)
  obtain ⟨rfl, N65, rfl, hR65, rfl⟩ := hR_
  have hh1 := rArr_hi true x0.2
  refine asg rfl rfl ?_
  refine nl ?_
  refine sq ?_
  refine sr ?_
  refine cl rfl rfl rfl (r_ok hR65) rfl (fun v_ H1 L1 hle_ hR_ => ?_)
  obtain ⟨rfl, rfl, rfl⟩ := hR_
  refine nt rfl rfl ?_
  refine nl ?_
  refine cb rfl (fun h68 => ?_) (fun h68 => ?_)
  · skip
    have hbad_ : (rArr true x0.2).2.bad = true := by simpa using h68
    refine sr ?_
    refine cl rfl rfl rfl (r_complete hR65 he) rfl (fun v_ H1 L1 hle_ hR_ => ?_)
    obtain ⟨rfl, rfl, rfl⟩ := hR_
    refine asg rfl rfl ?_
    refine nl ?_
    refine drW .head ?_
    exact rT rfl rfl (Fz.le.refl _) (fun _ _ h => h) ⟨_, rfl, RdEnd.out (hB1 (by rw [ey1]; exact rMany_bad (fun r h => decV_bad (decP_bad _ _ _) h) _ _ hbad_)) hbad_⟩
  · skip
    refine skt ?_
    refine sr ?_
    refine mv rfl rfl ?_
    refine sh' (j := 0) Tryz.runUnderlying149 Tryz.sizeOf156 rfl rfl rfl (Nat.zero_le _) rfl ?_
    refine asg rfl rfl ?_
    refine nl ?_
    refine sq ?_
    refine sr ?_
    refine mv rfl rfl ?_
    refine gt rfl rfl rfl ?_
    refine nl ?_
    refine nulC2 ?_
    refine cutT (fun l' H' L' => ∃ (a1 : Option Addr), ∃ (c1 : Nat), ∃ (Nr1 : Chunk), [(2, .bool false), (7, .pointer (some ⟨b_1, 0, none⟩)), (8, .int .i16 v), (9, .bool (decide ((0 : Int) ≤ v))), (10, .pointer (some ⟨b, 0, none⟩)), (12, .slice none 0 0), (13, .slice a1 (lT x1.1).length c1), (14, .int .i32 (rArr true x0.2).1)] = l' ∧ Nr1 :: N65 :: [(b, .cells [.int .i16 v, .int .i32 (IntKind.i32.wrap x0.1.n), .slice none 0 0, .map none].toArray 151 (0, 0))] :: L = L' ∧ Row 156 5 a1 (lT x1.1).length c1 (reps [.string ⟨#[]⟩, .slice none 0 0, .int .i16 0, .pointer none, .map none] (lT x1.1).length) Nr1 ∧ a1.isNone = (if 0 ≤ ((-1) : Int) ∧ (v < ((-1) : Int) ∨ (rArr true x0.2).1 = 0) then false else decide ((rArr true x0.2).1 ≤ 0))) ?_ (fun l' H' L' le_3 hI => ?_)
    · skip
      refine cd rfl (fun h73 => ?_) (fun h73 => ?_)
      · skip
        refine rg ?_
        refine mv rfl rfl ?_
        refine mv rfl rfl ?_
        refine apz (zs := [.string ⟨#[]⟩, .slice none 0 0, .int .i16 0, .pointer none, .map none]) (m := (lT x1.1).length) Tryz.underlying149 Tryz.underlying21 I156 rfl rfl rfl (by omega) (by omega) (by have h9 := hnb1; unfold BR at h9; omega) (by have h9 := hnb1; unfold BR at h9; unfold maxLen; omega) rfl (fun g76 cp76 N76 r76 => ?_)
        refine asg rfl rfl ?_
        refine nN ?_
        refine drN (.tail .head) ?_
        refine fun a_ w_ hA hw => ⟨_, _, _, hA.sub ?_, (Fz.le.refl _), hw, (some ⟨g76, 0, none⟩), cp76, N76, rfl, rfl, r76, (by rw [if_neg (by omega)]; exact (decide_eq_false (by omega)).symm)⟩
        exact (.cons rfl (.cons rfl (.cons rfl (.cons rfl (.cons rfl (.cons rfl (.cons rfl (.cons rfl (.nil _)))))))))
      · skip
        refine skN ?_
        refine fun a_ w_ hA hw => ⟨_, _, _, hA.sub ?_, (Fz.le.refl _), hw, none, 0, [], rfl, rfl, (by rw [show (lT x1.1).length = 0 by omega]; exact (Row.nil _ _)), (by rw [if_neg (by omega)]; exact (decide_eq_true (by omega)).symm)⟩
        exact (.cons rfl (.cons rfl (.cons rfl (.cons rfl (.cons rfl (.cons rfl (.cons (by rw [show (lT x1.1).length = 0 by omega]; rfl) (.cons rfl (.nil _)))))))))
    · skip
      obtain ⟨a1, c1, Nr1, rfl, rfl, pj0, pj1⟩ := hI
      have hr1 := pj0
      have hi1 := pj1
      refine sq ?_
      refine sr ?_
      refine asg rfl rfl ?_
      refine nl ?_
      refine bl (lp ((lT x1.1).length) (fun k1 l' H' L' => ∃ (es1 : List (KE 5)) (M1 RN1 : Chunk), [(2, .bool false), (7, .pointer (some ⟨b_1, 0, none⟩)), (8, .int .i16 v), (9, .bool (decide ((0 : Int) ≤ v))), (10, .pointer (some ⟨b, 0, none⟩)), (12, .slice none 0 0), (13, .slice a1 (lT x1.1).length c1), (14, .int .i32 (rArr true x0.2).1), (15, .int .i32 (k1 : Int))] = l' ∧ M1 :: RN1 :: [(b, .cells [.int .i16 v, .int .i32 (IntKind.i32.wrap x0.1.n), .slice none 0 0, .map none].toArray 151 (0, 0))] :: L = L' ∧ RdAt H' 232 b_1 (rMany (decV 10 (decP fs_sDescribeShareGroupOffsetsResponseGroup v true) false true) k1 (rArr true x0.2).2).2 RN1 ∧ Row 156 5 a1 (lT x1.1).length c1 (es1.flatMap fk ++ reps [.string ⟨#[]⟩, .slice none 0 0, .int .i16 0, .pointer none, .map none] ((lT x1.1).length - k1)) M1 ∧ es1.map (·.2) = (rMany (decV 10 (decP fs_sDescribeShareGroupOffsetsResponseGroup v true) false true) k1 (rArr true x0.2).2).1 ∧ ∀ p ∈ es1, At_DescribeShareGroupOffsetsResponseGroup H' p.2 (fk p)) [(2, .bool false), (7, .pointer (some ⟨b_1, 0, none⟩)), (8, .int .i16 v), (9, .bool (decide ((0 : Int) ≤ v))), (10, .pointer (some ⟨b, 0, none⟩)), (12, .slice none 0 0), (13, .slice a1 (lT x1.1).length c1), (14, .int .i32 (rArr true x0.2).1), (15, .int .i32 (0 : Int))] (.cons rfl (.cons rfl (.cons rfl (.cons rfl (.cons rfl (.cons rfl (.cons rfl (.cons rfl (.cons rfl (.nil _)))))))))) ⟨[], Nr1, _, rfl, rfl, (hR65.mono le_3), hr1, rfl, (fun p hp => by cases hp)⟩ (fun k1 l' H' L' hk1 le_4 hI => ?_))
      obtain ⟨es1, M1, RN1, rfl, rfl, hR_1, hw_1, he_1, hg_1⟩ := hI
      have hs_1 := els_len he_1
      have hp_1 : (es1.flatMap fk).length = k1 * 5 := els_flat hs_1
      refine sq ?_
      refine sr ?_
      refine mv rfl rfl ?_
      refine mv rfl rfl ?_
      refine lt rfl rfl rfl ?_
      refine nl ?_
      refine cd rfl (fun h79 => ?_) (fun h79 => ?_)
      · skip
        have hkl1 : k1 < (lT x1.1).length := by omega
        obtain ⟨g1, po1, hga1, rfl, hbk1⟩ := hw_1.next (zs := [.string ⟨#[]⟩, .slice none 0 0, .int .i16 0, .pointer none, .map none]) hkl1 rfl (by decide)
        have ho1 : 0 + k1 * 5 = (es1.flatMap fk).length := by rw [hp_1]; omega
        have hbz1 : ((decV 10 (decP fs_sDescribeShareGroupOffsetsResponseGroup v true) false true) (rMany (decV 10 (decP fs_sDescribeShareGroupOffsetsResponseGroup v true) false true) k1 (rArr true x0.2).2).2).2.bad = true → (decP fs_DescribeShareGroupOffsetsResponse v true ⟨s, false, !a.isNone⟩).2.bad = true := fun h => hB1 (by rw [ex1]; exact rMany_mono (fun r h => decV_bad (fun r h => decP_bad _ _ _ r h) h) _ (show k1 + 1 ≤ (lT x1.1).length from hkl1) (by rw [rMany_succ]; exact h))
        have hLk1 : (rMany (decV 10 (decP fs_sDescribeShareGroupOffsetsResponseGroup v true) false true) k1 (rArr true x0.2).2).2.s.length ≤ BR := Nat.le_trans (rMany_shr (fun r => decV_shr (fun r => decP_shr _ _ _ r) r) _ _) hm1
        have hL1__ := hLk1
        obtain ⟨x1_0, hx1_0⟩ : ∃ x, x = stepF (Fd.mk 8 0 (-1) (-1) (-1) 0 0 []) v true (rMany (decV 10 (decP fs_sDescribeShareGroupOffsetsResponseGroup v true) false true) k1 (rArr true x0.2).2).2 := ⟨_, rfl⟩
        obtain ⟨x1_1, hx1_1⟩ : ∃ x, x = stepF (Fd.mk 11 0 (-1) (-1) (-1) 0 10 fs_sDescribeShareGroupOffsetsResponseGroupTopic) v true x1_0.2 := ⟨_, rfl⟩
        obtain ⟨x1_2, hx1_2⟩ : ∃ x, x = stepF (Fd.mk 2 0 (-1) (-1) (-1) 0 0 []) v true x1_1.2 := ⟨_, rfl⟩
        obtain ⟨x1_3, hx1_3⟩ : ∃ x, x = stepF (Fd.mk 8 0 (-1) 0 (-1) 0 0 []) v true x1_2.2 := ⟨_, rfl⟩
        obtain ⟨u1_, hu1_⟩ : ∃ x, x = tailU true x1_3.2 := ⟨_, rfl⟩
        have hD1_ : decP fs_sDescribeShareGroupOffsetsResponseGroup v true (rMany (decV 10 (decP fs_sDescribeShareGroupOffsetsResponseGroup v true) false true) k1 (rArr true x0.2).2).2 = (.mk 0 [] false [x1_0.1, x1_1.1, x1_2.1, x1_3.1] u1_.1, u1_.2) := by
          generalize ((rMany (decV 10 (decP fs_sDescribeShareGroupOffsetsResponseGroup v true) false true) k1 (rArr true x0.2).2).2 : Rd) = r_ at hx1_0 ⊢
          rw [decP_eq]; unfold fs_sDescribeShareGroupOffsetsResponseGroup; simp only [decFs_cons, decFs_nil, ← hx1_0, ← hx1_1, ← hx1_2, ← hx1_3, ← hu1_]
        have hL1_0 : x1_0.2.s.length ≤ BR := by rw [hx1_0]; exact Nat.le_trans (stepF_shr _ _ _ _) hL1__
        have hL1_1 : x1_1.2.s.length ≤ BR := by rw [hx1_1]; exact Nat.le_trans (stepF_shr _ _ _ _) hL1_0
        have hL1_2 : x1_2.2.s.length ≤ BR := by rw [hx1_2]; exact Nat.le_trans (stepF_shr _ _ _ _) hL1_1
        have hL1_3 : x1_3.2.s.length ≤ BR := by rw [hx1_3]; exact Nat.le_trans (stepF_shr _ _ _ _) hL1_2
        have hE1_ : u1_.2.bad = true → (decP fs_DescribeShareGroupOffsetsResponse v true ⟨s, false, !a.isNone⟩).2.bad = true := fun h => hbz1 (by show (decP fs_sDescribeShareGroupOffsetsResponseGroup v true (rMany (decV 10 (decP fs_sDescribeShareGroupOffsetsResponseGroup v true) false true) k1 (rArr true x0.2).2).2).2.bad = true; rw [hD1_]; exact h)
        have hB1_3 : x1_3.2.bad = true → (decP fs_DescribeShareGroupOffsetsResponse v true ⟨s, false, !a.isNone⟩).2.bad = true := fun h => hE1_ (by rw [hu1_]; exact tailU_bad h)
        have hB1_2 : x1_2.2.bad = true → (decP fs_DescribeShareGroupOffsetsResponse v true ⟨s, false, !a.isNone⟩).2.bad = true := fun h => hB1_3 (by rw [hx1_3]; exact step_bad h)
        have hB1_1 : x1_1.2.bad = true → (decP fs_DescribeShareGroupOffsetsResponse v true ⟨s, false, !a.isNone⟩).2.bad = true := fun h => hB1_2 (by rw [hx1_2]; exact step_bad h)
        have hB1_0 : x1_0.2.bad = true → (decP fs_DescribeShareGroupOffsetsResponse v true ⟨s, false, !a.isNone⟩).2.bad = true := fun h => hB1_1 (by rw [hx1_1]; exact step_bad h)
        refine skt ?_
        refine sq ?_
        refine bl ?_
        refine sr ?_
        refine mv rfl rfl ?_
        refine mv rfl rfl ?_
        refine ixk (j := k1) Tryz.runUnderlying149 Tryz.sizeOf156 rfl hga1 rfl rfl hkl1 rfl ?_
        refine asg rfl rfl ?_
        refine nl ?_
        refine sr ?_
        refine mv rfl rfl ?_
        refine cl rfl rfl rfl (def_DescribeShareGroupOffsetsResponseGroup ho1) rfl (fun v_ H1 L1 hle_ hR_ => ?_)
        obtain ⟨rfl, rfl⟩ := hR_
        refine nl ?_
        refine sr ?_
        refine mv rfl rfl ?_
        refine asg rfl rfl ?_
        refine nl ?_
        refine sq ?_
        refine sr ?_
        refine asg rfl rfl ?_
        refine nl ?_
        refine sq ?_
        refine sr ?_
        refine mv rfl rfl ?_
        refine nl ?_
        refine cF rfl ?_
        refine sr ?_
        refine mv rfl rfl ?_
        refine nl ?_
        refine cdT rfl (by omega) ?_
        refine rg ?_
        refine tf (.tail .head) ?_
        have ex1_0 : x1_0 = decV 8 (decP [] v true) false true (rMany (decV 10 (decP fs_sDescribeShareGroupOffsetsResponseGroup v true) false true) k1 (rArr true x0.2).2).2 := (hx1_0.trans (step_yes (by decide) (show (0 : Int) ≤ v by omega) (Or.inl (by decide)))).trans (decF'_val (by decide) (rfl))
        refine cl rfl rfl rfl (d8t hR_1 ex1_0) rfl (fun v_ H1 L1 le_5 hR_ => ?_)
        obtain ⟨N93, rfl, hR93, rfl, rfl⟩ := hR_
        refine asg rfl rfl ?_
        refine nl ?_
        refine rg ?_
        refine mv rfl rfl ?_
        refine mv rfl rfl ?_
        refine nc rfl rfl ?_
        refine fa F156_0 rfl rfl ?_
        refine stM (off := 0) Tryz.sizeOf9 rfl (by rw [ho1]) rfl rfl rfl (.tail .head) ?_
        refine nl ?_
        refine sq ?_
        refine sr ?_
        refine mv rfl rfl ?_
        refine nc rfl rfl ?_
        refine fa F156_1 rfl rfl ?_
        refine ld (j := 1) (off := 0 + k1 * 5) (Says.mid (.tail .head) ho1) Tryz.isAgg154 rfl rfl rfl rfl ?_
        refine asg rfl rfl ?_
        refine nl ?_
        refine sr ?_
        refine mv rfl rfl ?_
        refine asg rfl rfl ?_
        refine nl ?_
        refine sr ?_
        refine asg rfl rfl ?_
        refine nl ?_
        refine sq ?_
        refine sr ?_
        refine mv rfl rfl ?_
        refine nl ?_
        refine cdT rfl (by omega) ?_
        refine rg ?_
        have ey1_1 : x1_1 = (.mk 0 [] (if 0 ≤ ((-1) : Int) ∧ (v < ((-1) : Int) ∨ (rArr true x1_0.2).1 = 0) then false else decide ((rArr true x1_0.2).1 ≤ 0)) (rMany (decV 10 (decP fs_sDescribeShareGroupOffsetsResponseGroupTopic v true) false true) (rArr true x1_0.2).1.toNat (rArr true x1_0.2).2).1 [], (rMany (decV 10 (decP fs_sDescribeShareGroupOffsetsResponseGroupTopic v true) false true) (rArr true x1_0.2).1.toNat (rArr true x1_0.2).2).2) := (hx1_1.trans (step_yes (by decide) (show (0 : Int) ≤ v by omega) (Or.inl (by decide)))).trans (decF'_list rfl rfl)
        have hn1_1 : (rArr true x1_0.2).1.toNat = (lT x1_1.1).length := by rw [ey1_1]; exact (lT_many nul_le).symm
        have ex1_1 := ey1_1
        rw [hn1_1] at ex1_1
        have hl1_1 := rArr_le true x1_0.2
        have hm1_1 : (rArr true x1_0.2).2.s.length ≤ BR := Nat.le_trans (rArr_len true x1_0.2) hL1_0
        have hnb1_1 : (lT x1_1.1).length ≤ BR := by omega
        refine cl rfl rfl rfl (r_arrt hR93) rfl (fun v_ H1 L1 hle_ hR_ => ?_)
        obtain ⟨rfl, N105, rfl, hR105, rfl⟩ := hR_
        have hh1_1 := rArr_hi true x1_0.2
        refine asg rfl rfl ?_
        refine nl ?_
        refine sq ?_
        refine sr ?_
        refine cl rfl rfl rfl (r_ok hR105) rfl (fun v_ H1 L1 hle_ hR_ => ?_)
        obtain ⟨rfl, rfl, rfl⟩ := hR_
        refine nt rfl rfl ?_
        refine nl ?_
        refine cb rfl (fun h108 => ?_) (fun h108 => ?_)
        · skip
          have hbad_ : (rArr true x1_0.2).2.bad = true := by simpa using h108
          refine sr ?_
          refine cl rfl rfl rfl (r_complete hR105 (he.mono (le_3.trans le_4))) rfl (fun v_ H1 L1 hle_ hR_ => ?_)
          obtain ⟨rfl, rfl, rfl⟩ := hR_
          refine asg rfl rfl ?_
          refine nl ?_
          refine drW .head ?_
          refine drW .head ?_
          exact rT rfl rfl (le_3.trans le_4) (fun _ _ h => h) ⟨_, rfl, RdEnd.out (hB1_1 (by rw [ey1_1]; exact rMany_bad (fun r h => decV_bad (decP_bad _ _ _) h) _ _ hbad_)) hbad_⟩
        · skip
          refine skt ?_
          refine sr ?_
          refine mv rfl rfl ?_
          refine sh' (j := 0) Tryz.runUnderlying154 Tryz.sizeOf273 rfl rfl rfl (Nat.zero_le _) rfl ?_
          refine asg rfl rfl ?_
          refine nl ?_
          refine sq ?_
          refine sr ?_
          refine mv rfl rfl ?_
          refine gt rfl rfl rfl ?_
          refine nl ?_
          refine nulC2 ?_
          refine cutT (fun l' H' L' => ∃ (a1_1 : Option Addr), ∃ (c1_1 : Nat), ∃ (Nr1_1 : Chunk), [(2, .bool false), (7, .pointer (some ⟨b_1, 0, none⟩)), (8, .int .i16 v), (9, .bool (decide ((0 : Int) ≤ v))), (10, .pointer (some ⟨b, 0, none⟩)), (12, .slice none 0 0), (13, .slice a1 (lT x1.1).length c1), (14, .int .i32 (rArr true x0.2).1), (15, .int .i32 (k1 : Int)), (17, .pointer (some ⟨g1, 0 + k1 * 5, none⟩)), (19, .slice none 0 0), (20, .slice a1_1 (lT x1_1.1).length c1_1), (21, .int .i32 (rArr true x1_0.2).1)] = l' ∧ Nr1_1 :: N105 :: [(g1, .cells ((es1.flatMap fk) ++ ([.string ⟨x1_0.1.s.toArray⟩, .slice none 0 0, .int .i16 0, .pointer none, .map none] : List Value) ++ po1).toArray 156 (0, 0))] :: [(b, .cells [.int .i16 v, .int .i32 (IntKind.i32.wrap x0.1.n), .slice none 0 0, .map none].toArray 151 (0, 0))] :: L = L' ∧ Row 273 19 a1_1 (lT x1_1.1).length c1_1 (reps [.string ⟨#[]⟩, .int .u8 0, .int .u8 0, .int .u8 0, .int .u8 0, .int .u8 0, .int .u8 0, .int .u8 0, .int .u8 0, .int .u8 0, .int .u8 0, .int .u8 0, .int .u8 0, .int .u8 0, .int .u8 0, .int .u8 0, .int .u8 0, .slice none 0 0, .map none] (lT x1_1.1).length) Nr1_1 ∧ a1_1.isNone = (if 0 ≤ ((-1) : Int) ∧ (v < ((-1) : Int) ∨ (rArr true x1_0.2).1 = 0) then false else decide ((rArr true x1_0.2).1 ≤ 0))) ?_ (fun l' H' L' le_6 hI => ?_)
          · skip
            refine cd rfl (fun h113 => ?_) (fun h113 => ?_)
            · skip
              refine rg ?_
              refine mv rfl rfl ?_
              refine mv rfl rfl ?_
              refine apz (zs := [.string ⟨#[]⟩, .int .u8 0, .int .u8 0, .int .u8 0, .int .u8 0, .int .u8 0, .int .u8 0, .int .u8 0, .int .u8 0, .int .u8 0, .int .u8 0, .int .u8 0, .int .u8 0, .int .u8 0, .int .u8 0, .int .u8 0, .int .u8 0, .slice none 0 0, .map none]) (m := (lT x1_1.1).length) Tryz.underlying154 Tryz.underlying21 I273 rfl rfl rfl (by omega) (by omega) (by have h9 := hnb1_1; unfold BR at h9; omega) (by have h9 := hnb1_1; unfold BR at h9; unfold maxLen; omega) rfl (fun g116 cp116 N116 r116 => ?_)
              refine asg rfl rfl ?_
              refine nN ?_
              refine drN (.tail .head) ?_
              refine fun a_ w_ hA hw => ⟨_, _, _, hA.sub ?_, (Fz.le.refl _), hw, (some ⟨g116, 0, none⟩), cp116, N116, rfl, rfl, r116, (by rw [if_neg (by omega)]; exact (decide_eq_false (by omega)).symm)⟩
              exact (.cons rfl (.cons rfl (.cons rfl (.cons rfl (.cons rfl (.cons rfl (.cons rfl (.cons rfl (.cons rfl (.cons rfl (.cons rfl (.cons rfl (.cons rfl (.nil _))))))))))))))
            · skip
              refine skN ?_
              refine fun a_ w_ hA hw => ⟨_, _, _, hA.sub ?_, (Fz.le.refl _), hw, none, 0, [], rfl, rfl, (by rw [show (lT x1_1.1).length = 0 by omega]; exact (Row.nil _ _)), (by rw [if_neg (by omega)]; exact (decide_eq_true (by omega)).symm)⟩
              exact (.cons rfl (.cons rfl (.cons rfl (.cons rfl (.cons rfl (.cons rfl (.cons rfl (.cons rfl (.cons rfl (.cons rfl (.cons rfl (.cons (by rw [show (lT x1_1.1).length = 0 by omega]; rfl) (.cons rfl (.nil _))))))))))))))
          · skip
            obtain ⟨a1_1, c1_1, Nr1_1, rfl, rfl, pj0, pj1⟩ := hI
            have hr1_1 := pj0
            have hi1_1 := pj1
            refine sq ?_
            refine sr ?_
            refine asg rfl rfl ?_
            refine nl ?_
            refine bl (lp ((lT x1_1.1).length) (fun k1_1 l' H' L' => ∃ (es1_1 : List (KE 19)) (M1_1 RN1_1 : Chunk), [(2, .bool false), (7, .pointer (some ⟨b_1, 0, none⟩)), (8, .int .i16 v), (9, .bool (decide ((0 : Int) ≤ v))), (10, .pointer (some ⟨b, 0, none⟩)), (12, .slice none 0 0), (13, .slice a1 (lT x1.1).length c1), (14, .int .i32 (rArr true x0.2).1), (15, .int .i32 (k1 : Int)), (17, .pointer (some ⟨g1, 0 + k1 * 5, none⟩)), (19, .slice none 0 0), (20, .slice a1_1 (lT x1_1.1).length c1_1), (21, .int .i32 (rArr true x1_0.2).1), (22, .int .i32 (k1_1 : Int))] = l' ∧ M1_1 :: RN1_1 :: [(g1, .cells ((es1.flatMap fk) ++ ([.string ⟨x1_0.1.s.toArray⟩, .slice none 0 0, .int .i16 0, .pointer none, .map none] : List Value) ++ po1).toArray 156 (0, 0))] :: [(b, .cells [.int .i16 v, .int .i32 (IntKind.i32.wrap x0.1.n), .slice none 0 0, .map none].toArray 151 (0, 0))] :: L = L' ∧ RdAt H' 232 b_1 (rMany (decV 10 (decP fs_sDescribeShareGroupOffsetsResponseGroupTopic v true) false true) k1_1 (rArr true x1_0.2).2).2 RN1_1 ∧ Row 273 19 a1_1 (lT x1_1.1).length c1_1 (es1_1.flatMap fk ++ reps [.string ⟨#[]⟩, .int .u8 0, .int .u8 0, .int .u8 0, .int .u8 0, .int .u8 0, .int .u8 0, .int .u8 0, .int .u8 0, .int .u8 0, .int .u8 0, .int .u8 0, .int .u8 0, .int .u8 0, .int .u8 0, .int .u8 0, .int .u8 0, .slice none 0 0, .map none] ((lT x1_1.1).length - k1_1)) M1_1 ∧ es1_1.map (·.2) = (rMany (decV 10 (decP fs_sDescribeShareGroupOffsetsResponseGroupTopic v true) false true) k1_1 (rArr true x1_0.2).2).1 ∧ ∀ p ∈ es1_1, At_DescribeShareGroupOffsetsResponseGroupTopic H' p.2 (fk p)) [(2, .bool false), (7, .pointer (some ⟨b_1, 0, none⟩)), (8, .int .i16 v), (9, .bool (decide ((0 : Int) ≤ v))), (10, .pointer (some ⟨b, 0, none⟩)), (12, .slice none 0 0), (13, .slice a1 (lT x1.1).length c1), (14, .int .i32 (rArr true x0.2).1), (15, .int .i32 (k1 : Int)), (17, .pointer (some ⟨g1, 0 + k1 * 5, none⟩)), (19, .slice none 0 0), (20, .slice a1_1 (lT x1_1.1).length c1_1), (21, .int .i32 (rArr true x1_0.2).1), (22, .int .i32 (0 : Int))] (.cons rfl (.cons rfl (.cons rfl (.cons rfl (.cons rfl (.cons rfl (.cons rfl (.cons rfl (.cons rfl (.cons rfl (.cons rfl (.cons rfl (.cons rfl (.cons rfl (.nil _))))))))))))))) ⟨[], Nr1_1, _, rfl, rfl, (hR105.mono le_6), hr1_1, rfl, (fun p hp => by cases hp)⟩ (fun k1_1 l' H' L' hk1_1 le_7 hI => ?_))
            obtain ⟨es1_1, M1_1, RN1_1, rfl, rfl, hR_1_1, hw_1_1, he_1_1, hg_1_1⟩ := hI
            have hs_1_1 := els_len he_1_1
            have hp_1_1 : (es1_1.flatMap fk).length = k1_1 * 19 := els_flat hs_1_1
            refine sq ?_
            refine sr ?_
            refine mv rfl rfl ?_
            refine mv rfl rfl ?_
            refine lt rfl rfl rfl ?_
            refine nl ?_
            refine cd rfl (fun h119 => ?_) (fun h119 => ?_)
            · skip
              have hkl1_1 : k1_1 < (lT x1_1.1).length := by omega
              obtain ⟨g1_1, po1_1, hga1_1, rfl, hbk1_1⟩ := hw_1_1.next (zs := [.string ⟨#[]⟩, .int .u8 0, .int .u8 0, .int .u8 0, .int .u8 0, .int .u8 0, .int .u8 0, .int .u8 0, .int .u8 0, .int .u8 0, .int .u8 0, .int .u8 0, .int .u8 0, .int .u8 0, .int .u8 0, .int .u8 0, .int .u8 0, .slice none 0 0, .map none]) hkl1_1 rfl (by decide)
              have ho1_1 : 0 + k1_1 * 19 = (es1_1.flatMap fk).length := by rw [hp_1_1]; omega
              have hbz1_1 : ((decV 10 (decP fs_sDescribeShareGroupOffsetsResponseGroupTopic v true) false true) (rMany (decV 10 (decP fs_sDescribeShareGroupOffsetsResponseGroupTopic v true) false true) k1_1 (rArr true x1_0.2).2).2).2.bad = true → (decP fs_DescribeShareGroupOffsetsResponse v true ⟨s, false, !a.isNone⟩).2.bad = true := fun h => hB1_1 (by rw [ex1_1]; exact rMany_mono (fun r h => decV_bad (fun r h => decP_bad _ _ _ r h) h) _ (show k1_1 + 1 ≤ (lT x1_1.1).length from hkl1_1) (by rw [rMany_succ]; exact h))
              have hLk1_1 : (rMany (decV 10 (decP fs_sDescribeShareGroupOffsetsResponseGroupTopic v true) false true) k1_1 (rArr true x1_0.2).2).2.s.length ≤ BR := Nat.le_trans (rMany_shr (fun r => decV_shr (fun r => decP_shr _ _ _ r) r) _ _) hm1_1
              have hL1_1__ := hLk1_1
              obtain ⟨x1_1_0, hx1_1_0⟩ : ∃ x, x = stepF (Fd.mk 8 0 (-1) (-1) (-1) 0 0 []) v true (rMany (decV 10 (decP fs_sDescribeShareGroupOffsetsResponseGroupTopic v true) false true) k1_1 (rArr true x1_0.2).2).2 := ⟨_, rfl⟩
              obtain ⟨x1_1_1, hx1_1_1⟩ : ∃ x, x = stepF (Fd.mk 7 0 (-1) (-1) (-1) 0 0 []) v true x1_1_0.2 := ⟨_, rfl⟩
              obtain ⟨x1_1_2, hx1_1_2⟩ : ∃ x, x = stepF (Fd.mk 11 0 (-1) (-1) (-1) 0 10 fs_sDescribeShareGroupOffsetsResponseGroupTopicPartition) v true x1_1_1.2 := ⟨_, rfl⟩
              obtain ⟨u1_1_, hu1_1_⟩ : ∃ x, x = tailU true x1_1_2.2 := ⟨_, rfl⟩
              have hD1_1_ : decP fs_sDescribeShareGroupOffsetsResponseGroupTopic v true (rMany (decV 10 (decP fs_sDescribeShareGroupOffsetsResponseGroupTopic v true) false true) k1_1 (rArr true x1_0.2).2).2 = (.mk 0 [] false [x1_1_0.1, x1_1_1.1, x1_1_2.1] u1_1_.1, u1_1_.2) := by
                generalize ((rMany (decV 10 (decP fs_sDescribeShareGroupOffsetsResponseGroupTopic v true) false true) k1_1 (rArr true x1_0.2).2).2 : Rd) = r_ at hx1_1_0 ⊢
                rw [decP_eq]; unfold fs_sDescribeShareGroupOffsetsResponseGroupTopic; simp only [decFs_cons, decFs_nil, ← hx1_1_0, ← hx1_1_1, ← hx1_1_2, ← hu1_1_]
              have hL1_1_0 : x1_1_0.2.s.length ≤ BR := by rw [hx1_1_0]; exact Nat.le_trans (stepF_shr _ _ _ _) hL1_1__
              have hL1_1_1 : x1_1_1.2.s.length ≤ BR := by rw [hx1_1_1]; exact Nat.le_trans (stepF_shr _ _ _ _) hL1_1_0
              have hL1_1_2 : x1_1_2.2.s.length ≤ BR := by rw [hx1_1_2]; exact Nat.le_trans (stepF_shr _ _ _ _) hL1_1_1
              have hE1_1_ : u1_1_.2.bad = true → (decP fs_DescribeShareGroupOffsetsResponse v true ⟨s, false, !a.isNone⟩).2.bad = true := fun h => hbz1_1 (by show (decP fs_sDescribeShareGroupOffsetsResponseGroupTopic v true (rMany (decV 10 (decP fs_sDescribeShareGroupOffsetsResponseGroupTopic v true) false true) k1_1 (rArr true x1_0.2).2).2).2.bad = true; rw [hD1_1_]; exact h)
              have hB1_1_2 : x1_1_2.2.bad = true → (decP fs_DescribeShareGroupOffsetsResponse v true ⟨s, false, !a.isNone⟩).2.bad = true := fun h => hE1_1_ (by rw [hu1_1_]; exact tailU_bad h)
              have hB1_1_1 : x1_1_1.2.bad = true → (decP fs_DescribeShareGroupOffsetsResponse v true ⟨s, false, !a.isNone⟩).2.bad = true := fun h => hB1_1_2 (by rw [hx1_1_2]; exact step_bad h)
              have hB1_1_0 : x1_1_0.2.bad = true → (decP fs_DescribeShareGroupOffsetsResponse v true ⟨s, false, !a.isNone⟩).2.bad = true := fun h => hB1_1_1 (by rw [hx1_1_1]; exact step_bad h)
              refine skt ?_
              refine sq ?_
              refine bl ?_
              refine sr ?_
              refine mv rfl rfl ?_
              refine mv rfl rfl ?_
              refine ixk (j := k1_1) Tryz.runUnderlying154 Tryz.sizeOf273 rfl hga1_1 rfl rfl hkl1_1 rfl ?_
              refine asg rfl rfl ?_
              refine nl ?_
              refine sr ?_
              refine mv rfl rfl ?_
              refine cl rfl rfl rfl (def_DescribeShareGroupOffsetsResponseGroupTopic ho1_1) rfl (fun v_ H1 L1 hle_ hR_ => ?_)
              obtain ⟨rfl, rfl⟩ := hR_
              refine nl ?_
              refine sr ?_
              refine mv rfl rfl ?_
              refine asg rfl rfl ?_
              refine nl ?_
              refine sq ?_
              refine sr ?_
              refine asg rfl rfl ?_
              refine nl ?_
              refine sq ?_
              refine sr ?_
              refine mv rfl rfl ?_
              refine nl ?_
              refine cF rfl ?_
              refine sr ?_
              refine mv rfl rfl ?_
              refine nl ?_
              refine cdT rfl (by omega) ?_
              refine rg ?_
              refine tf (.tail .head) ?_
              have ex1_1_0 : x1_1_0 = decV 8 (decP [] v true) false true (rMany (decV 10 (decP fs_sDescribeShareGroupOffsetsResponseGroupTopic v true) false true) k1_1 (rArr true x1_0.2).2).2 := (hx1_1_0.trans (step_yes (by decide) (show (0 : Int) ≤ v by omega) (Or.inl (by decide)))).trans (decF'_val (by decide) (rfl))
              refine cl rfl rfl rfl (d8t hR_1_1 ex1_1_0) rfl (fun v_ H1 L1 le_8 hR_ => ?_)
              obtain ⟨N133, rfl, hR133, rfl, rfl⟩ := hR_
              refine asg rfl rfl ?_
              refine nl ?_
              refine rg ?_
              refine mv rfl rfl ?_
              refine mv rfl rfl ?_
              refine nc rfl rfl ?_
              refine fa F273_0 rfl rfl ?_
              refine stM (off := 0) Tryz.sizeOf9 rfl (by rw [ho1_1]) rfl rfl rfl (.tail .head) ?_
              refine nl ?_
              refine sq ?_
              refine sr ?_
              have ex1_1_1 : x1_1_1 = decV 7 (decP [] v true) false true x1_1_0.2 := (hx1_1_1.trans (step_yes (by decide) (show (0 : Int) ≤ v by omega) (Or.inl (by decide)))).trans (decF'_val (by decide) (rfl))
              refine cl rfl rfl rfl (d7 hR133 ex1_1_1) rfl (fun v_ H1 L1 hle_ hR_ => ?_)
              obtain ⟨N139, rfl, hR139, rfl, rfl⟩ := hR_
              refine al Tryz.zeroValue182 rfl rfl (fun b_10 => ?_)
              refine sa Tryz.sizeOf182 rfl rfl rfl rfl rfl .head ?_
              refine nl ?_
              refine rg ?_
              refine mv rfl rfl ?_
              refine la (Says.own .head) Tryz.isAgg182 Tryz.sizeOf182 rfl (Nat.zero_add _).symm rfl rfl ?_
              refine nc rfl rfl ?_
              refine fa F273_1 rfl rfl ?_
              refine saM (off := 1) Tryz.sizeOf182 rfl (by rw [ho1_1]) rfl rfl rfl rfl (.tail (.tail .head)) ?_
              refine nl ?_
              refine sq ?_
              refine sr ?_
              refine mv rfl rfl ?_
              refine nc rfl rfl ?_
              refine fa F273_2 rfl rfl ?_
              refine ld (j := 17) (off := 0 + k1_1 * 19) (Says.mid (.tail (.tail .head)) ho1_1) Tryz.isAgg271 rfl rfl rfl rfl ?_
              refine asg rfl rfl ?_
              refine nl ?_
              refine sr ?_
              refine mv rfl rfl ?_
              refine asg rfl rfl ?_
              refine nl ?_
              refine sr ?_
              refine asg rfl rfl ?_
              refine nl ?_
              refine sq ?_
              refine sr ?_
              refine mv rfl rfl ?_
              refine nl ?_
              refine cdT rfl (by omega) ?_
              refine rg ?_
              have ey1_1_2 : x1_1_2 = (.mk 0 [] (if 0 ≤ ((-1) : Int) ∧ (v < ((-1) : Int) ∨ (rArr true x1_1_1.2).1 = 0) then false else decide ((rArr true x1_1_1.2).1 ≤ 0)) (rMany (decV 10 (decP fs_sDescribeShareGroupOffsetsResponseGroupTopicPartition v true) false true) (rArr true x1_1_1.2).1.toNat (rArr true x1_1_1.2).2).1 [], (rMany (decV 10 (decP fs_sDescribeShareGroupOffsetsResponseGroupTopicPartition v true) false true) (rArr true x1_1_1.2).1.toNat (rArr true x1_1_1.2).2).2) := (hx1_1_2.trans (step_yes (by decide) (show (0 : Int) ≤ v by omega) (Or.inl (by decide)))).trans (decF'_list rfl rfl)
              have hn1_1_2 : (rArr true x1_1_1.2).1.toNat = (lT x1_1_2.1).length := by rw [ey1_1_2]; exact (lT_many nul_le).symm
              have ex1_1_2 := ey1_1_2
              rw [hn1_1_2] at ex1_1_2
              have hl1_1_2 := rArr_le true x1_1_1.2
              have hm1_1_2 : (rArr true x1_1_1.2).2.s.length ≤ BR := Nat.le_trans (rArr_len true x1_1_1.2) hL1_1_1
              have hnb1_1_2 : (lT x1_1_2.1).length ≤ BR := by omega
              refine tf (.tail .head) ?_
              refine cl rfl rfl rfl (r_arrt hR139) rfl (fun v_ H1 L1 hle_ hR_ => ?_)
              obtain ⟨rfl, N150, rfl, hR150, rfl⟩ := hR_
              have hh1_1_2 := rArr_hi true x1_1_1.2
              refine asg rfl rfl ?_
              refine nl ?_
              refine sq ?_
              refine sr ?_
              refine cl rfl rfl rfl (r_ok hR150) rfl (fun v_ H1 L1 hle_ hR_ => ?_)
              obtain ⟨rfl, rfl, rfl⟩ := hR_
              refine nt rfl rfl ?_
              refine nl ?_
              refine cb rfl (fun h153 => ?_) (fun h153 => ?_)
              · skip
                have hbad_ : (rArr true x1_1_1.2).2.bad = true := by simpa using h153
                refine sr ?_
                refine cl rfl rfl rfl (r_complete hR150 (he.mono (le_3.trans (le_4.trans (le_6.trans le_7))))) rfl (fun v_ H1 L1 hle_ hR_ => ?_)
                obtain ⟨rfl, rfl, rfl⟩ := hR_
                refine asg rfl rfl ?_
                refine nl ?_
                refine drW .head ?_
                refine drW .head ?_
                refine drW .head ?_
                refine drW .head ?_
                exact rT rfl rfl (le_3.trans (le_4.trans (le_6.trans le_7))) (fun _ _ h => h) ⟨_, rfl, RdEnd.out (hB1_1_2 (by rw [ey1_1_2]; exact rMany_bad (fun r h => decV_bad (decP_bad _ _ _) h) _ _ hbad_)) hbad_⟩
              · skip
                refine skt ?_
                refine sr ?_
                refine mv rfl rfl ?_
                refine sh' (j := 0) Tryz.runUnderlying271 Tryz.sizeOf277 rfl rfl rfl (Nat.zero_le _) rfl ?_
                refine asg rfl rfl ?_
                refine nl ?_
                refine sq ?_
                refine sr ?_
                refine mv rfl rfl ?_
                refine gt rfl rfl rfl ?_
                refine nl ?_
                refine nulC2 ?_
                refine cutT (fun l' H' L' => ∃ (a1_1_2 : Option Addr), ∃ (c1_1_2 : Nat), ∃ (Nr1_1_2 : Chunk), [(2, .bool false), (7, .pointer (some ⟨b_1, 0, none⟩)), (8, .int .i16 v), (9, .bool (decide ((0 : Int) ≤ v))), (10, .pointer (some ⟨b, 0, none⟩)), (12, .slice none 0 0), (13, .slice a1 (lT x1.1).length c1), (14, .int .i32 (rArr true x0.2).1), (15, .int .i32 (k1 : Int)), (17, .pointer (some ⟨g1, 0 + k1 * 5, none⟩)), (19, .slice none 0 0), (20, .slice a1_1 (lT x1_1.1).length c1_1), (21, .int .i32 (rArr true x1_0.2).1), (22, .int .i32 (k1_1 : Int)), (24, .pointer (some ⟨g1_1, 0 + k1_1 * 19, none⟩)), (27, .slice none 0 0), (28, .slice a1_1_2 (lT x1_1_2.1).length c1_1_2), (29, .int .i32 (rArr true x1_1_1.2).1)] = l' ∧ Nr1_1_2 :: N150 :: [(b_10, .cells [ub x1_1_1.1.s 0, ub x1_1_1.1.s 1, ub x1_1_1.1.s 2, ub x1_1_1.1.s 3, ub x1_1_1.1.s 4, ub x1_1_1.1.s 5, ub x1_1_1.1.s 6, ub x1_1_1.1.s 7, ub x1_1_1.1.s 8, ub x1_1_1.1.s 9, ub x1_1_1.1.s 10, ub x1_1_1.1.s 11, ub x1_1_1.1.s 12, ub x1_1_1.1.s 13, ub x1_1_1.1.s 14, ub x1_1_1.1.s 15].toArray 182 (0, 0))] :: [(g1_1, .cells ((es1_1.flatMap fk) ++ ([.string ⟨x1_1_0.1.s.toArray⟩, ub x1_1_1.1.s 0, ub x1_1_1.1.s 1, ub x1_1_1.1.s 2, ub x1_1_1.1.s 3, ub x1_1_1.1.s 4, ub x1_1_1.1.s 5, ub x1_1_1.1.s 6, ub x1_1_1.1.s 7, ub x1_1_1.1.s 8, ub x1_1_1.1.s 9, ub x1_1_1.1.s 10, ub x1_1_1.1.s 11, ub x1_1_1.1.s 12, ub x1_1_1.1.s 13, ub x1_1_1.1.s 14, ub x1_1_1.1.s 15, .slice none 0 0, .map none] : List Value) ++ po1_1).toArray 273 (0, 0))] :: [(g1, .cells ((es1.flatMap fk) ++ ([.string ⟨x1_0.1.s.toArray⟩, .slice none 0 0, .int .i16 0, .pointer none, .map none] : List Value) ++ po1).toArray 156 (0, 0))] :: [(b, .cells [.int .i16 v, .int .i32 (IntKind.i32.wrap x0.1.n), .slice none 0 0, .map none].toArray 151 (0, 0))] :: L = L' ∧ Row 277 7 a1_1_2 (lT x1_1_2.1).length c1_1_2 (reps [.int .i32 0, .int .i64 0, .int .i32 0, .int .i64 0, .int .i16 0, .pointer none, .map none] (lT x1_1_2.1).length) Nr1_1_2 ∧ a1_1_2.isNone = (if 0 ≤ ((-1) : Int) ∧ (v < ((-1) : Int) ∨ (rArr true x1_1_1.2).1 = 0) then false else decide ((rArr true x1_1_1.2).1 ≤ 0))) ?_ (fun l' H' L' le_11 hI => ?_)
                · skip
                  refine cd rfl (fun h158 => ?_) (fun h158 => ?_)
                  · skip
                    refine rg ?_
                    refine mv rfl rfl ?_
                    refine mv rfl rfl ?_
                    refine apz (zs := [.int .i32 0, .int .i64 0, .int .i32 0, .int .i64 0, .int .i16 0, .pointer none, .map none]) (m := (lT x1_1_2.1).length) Tryz.underlying271 Tryz.underlying21 I277 rfl rfl rfl (by omega) (by omega) (by have h9 := hnb1_1_2; unfold BR at h9; omega) (by have h9 := hnb1_1_2; unfold BR at h9; unfold maxLen; omega) rfl (fun g161 cp161 N161 r161 => ?_)
                    refine asg rfl rfl ?_
                    refine nN ?_
                    refine drN (.tail .head) ?_
                    refine fun a_ w_ hA hw => ⟨_, _, _, hA.sub ?_, (Fz.le.refl _), hw, (some ⟨g161, 0, none⟩), cp161, N161, rfl, rfl, r161, (by rw [if_neg (by omega)]; exact (decide_eq_false (by omega)).symm)⟩
                    exact (.cons rfl (.cons rfl (.cons rfl (.cons rfl (.cons rfl (.cons rfl (.cons rfl (.cons rfl (.cons rfl (.cons rfl (.cons rfl (.cons rfl (.cons rfl (.cons rfl (.cons rfl (.cons rfl (.cons rfl (.cons rfl (.nil _)))))))))))))))))))
                  · skip
                    refine skN ?_
                    refine fun a_ w_ hA hw => ⟨_, _, _, hA.sub ?_, (Fz.le.refl _), hw, none, 0, [], rfl, rfl, (by rw [show (lT x1_1_2.1).length = 0 by omega]; exact (Row.nil _ _)), (by rw [if_neg (by omega)]; exact (decide_eq_true (by omega)).symm)⟩
                    exact (.cons rfl (.cons rfl (.cons rfl (.cons rfl (.cons rfl (.cons rfl (.cons rfl (.cons rfl (.cons rfl (.cons rfl (.cons rfl (.cons rfl (.cons rfl (.cons rfl (.cons rfl (.cons rfl (.cons (by rw [show (lT x1_1_2.1).length = 0 by omega]; rfl) (.cons rfl (.nil _)))))))))))))))))))
                · skip
                  obtain ⟨a1_1_2, c1_1_2, Nr1_1_2, rfl, rfl, pj0, pj1⟩ := hI
                  have hr1_1_2 := pj0
                  have hi1_1_2 := pj1
                  refine sq ?_
                  refine sr ?_
                  refine asg rfl rfl ?_
                  refine nl ?_
                  refine bl (lp ((lT x1_1_2.1).length) (fun k1_1_2 l' H' L' => ∃ (es1_1_2 : List (KE 7)) (M1_1_2 RN1_1_2 : Chunk), [(2, .bool false), (7, .pointer (some ⟨b_1, 0, none⟩)), (8, .int .i16 v), (9, .bool (decide ((0 : Int) ≤ v))), (10, .pointer (some ⟨b, 0, none⟩)), (12, .slice none 0 0), (13, .slice a1 (lT x1.1).length c1), (14, .int .i32 (rArr true x0.2).1), (15, .int .i32 (k1 : Int)), (17, .pointer (some ⟨g1, 0 + k1 * 5, none⟩)), (19, .slice none 0 0), (20, .slice a1_1 (lT x1_1.1).length c1_1), (21, .int .i32 (rArr true x1_0.2).1), (22, .int .i32 (k1_1 : Int)), (24, .pointer (some ⟨g1_1, 0 + k1_1 * 19, none⟩)), (27, .slice none 0 0), (28, .slice a1_1_2 (lT x1_1_2.1).length c1_1_2), (29, .int .i32 (rArr true x1_1_1.2).1), (30, .int .i32 (k1_1_2 : Int))] = l' ∧ M1_1_2 :: RN1_1_2 :: [(b_10, .cells [ub x1_1_1.1.s 0, ub x1_1_1.1.s 1, ub x1_1_1.1.s 2, ub x1_1_1.1.s 3, ub x1_1_1.1.s 4, ub x1_1_1.1.s 5, ub x1_1_1.1.s 6, ub x1_1_1.1.s 7, ub x1_1_1.1.s 8, ub x1_1_1.1.s 9, ub x1_1_1.1.s 10, ub x1_1_1.1.s 11, ub x1_1_1.1.s 12, ub x1_1_1.1.s 13, ub x1_1_1.1.s 14, ub x1_1_1.1.s 15].toArray 182 (0, 0))] :: [(g1_1, .cells ((es1_1.flatMap fk) ++ ([.string ⟨x1_1_0.1.s.toArray⟩, ub x1_1_1.1.s 0, ub x1_1_1.1.s 1, ub x1_1_1.1.s 2, ub x1_1_1.1.s 3, ub x1_1_1.1.s 4, ub x1_1_1.1.s 5, ub x1_1_1.1.s 6, ub x1_1_1.1.s 7, ub x1_1_1.1.s 8, ub x1_1_1.1.s 9, ub x1_1_1.1.s 10, ub x1_1_1.1.s 11, ub x1_1_1.1.s 12, ub x1_1_1.1.s 13, ub x1_1_1.1.s 14, ub x1_1_1.1.s 15, .slice none 0 0, .map none] : List Value) ++ po1_1).toArray 273 (0, 0))] :: [(g1, .cells ((es1.flatMap fk) ++ ([.string ⟨x1_0.1.s.toArray⟩, .slice none 0 0, .int .i16 0, .pointer none, .map none] : List Value) ++ po1).toArray 156 (0, 0))] :: [(b, .cells [.int .i16 v, .int .i32 (IntKind.i32.wrap x0.1.n), .slice none 0 0, .map none].toArray 151 (0, 0))] :: L = L' ∧ RdAt H' 232 b_1 (rMany (decV 10 (decP fs_sDescribeShareGroupOffsetsResponseGroupTopicPartition v true) false true) k1_1_2 (rArr true x1_1_1.2).2).2 RN1_1_2 ∧ Row 277 7 a1_1_2 (lT x1_1_2.1).length c1_1_2 (es1_1_2.flatMap fk ++ reps [.int .i32 0, .int .i64 0, .int .i32 0, .int .i64 0, .int .i16 0, .pointer none, .map none] ((lT x1_1_2.1).length - k1_1_2)) M1_1_2 ∧ es1_1_2.map (·.2) = (rMany (decV 10 (decP fs_sDescribeShareGroupOffsetsResponseGroupTopicPartition v true) false true) k1_1_2 (rArr true x1_1_1.2).2).1 ∧ ∀ p ∈ es1_1_2, At_DescribeShareGroupOffsetsResponseGroupTopicPartition H' p.2 (fk p)) [(2, .bool false), (7, .pointer (some ⟨b_1, 0, none⟩)), (8, .int .i16 v), (9, .bool (decide ((0 : Int) ≤ v))), (10, .pointer (some ⟨b, 0, none⟩)), (12, .slice none 0 0), (13, .slice a1 (lT x1.1).length c1), (14, .int .i32 (rArr true x0.2).1), (15, .int .i32 (k1 : Int)), (17, .pointer (some ⟨g1, 0 + k1 * 5, none⟩)), (19, .slice none 0 0), (20, .slice a1_1 (lT x1_1.1).length c1_1), (21, .int .i32 (rArr true x1_0.2).1), (22, .int .i32 (k1_1 : Int)), (24, .pointer (some ⟨g1_1, 0 + k1_1 * 19, none⟩)), (27, .slice none 0 0), (28, .slice a1_1_2 (lT x1_1_2.1).length c1_1_2), (29, .int .i32 (rArr true x1_1_1.2).1), (30, .int .i32 (0 : Int))] (.cons rfl (.cons rfl (.cons rfl (.cons rfl (.cons rfl (.cons rfl (.cons rfl (.cons rfl (.cons rfl (.cons rfl (.cons rfl (.cons rfl (.cons rfl (.cons rfl (.cons rfl (.cons rfl (.cons rfl (.cons rfl (.cons rfl (.nil _)))))))))))))))))))) ⟨[], Nr1_1_2, _, rfl, rfl, (hR150.mono le_11), hr1_1_2, rfl, (fun p hp => by cases hp)⟩ (fun k1_1_2 l' H' L' hk1_1_2 le_12 hI => ?_))
                  obtain ⟨es1_1_2, M1_1_2, RN1_1_2, rfl, rfl, hR_1_1_2, hw_1_1_2, he_1_1_2, hg_1_1_2⟩ := hI
                  have hs_1_1_2 := els_len he_1_1_2
                  have hp_1_1_2 : (es1_1_2.flatMap fk).length = k1_1_2 * 7 := els_flat hs_1_1_2
                  refine sq ?_
                  refine sr ?_
                  refine mv rfl rfl ?_
                  refine mv rfl rfl ?_
                  refine lt rfl rfl rfl ?_
                  refine nl ?_
                  refine cd rfl (fun h164 => ?_) (fun h164 => ?_)
                  · skip
                    have hkl1_1_2 : k1_1_2 < (lT x1_1_2.1).length := by omega
                    obtain ⟨g1_1_2, po1_1_2, hga1_1_2, rfl, hbk1_1_2⟩ := hw_1_1_2.next (zs := [.int .i32 0, .int .i64 0, .int .i32 0, .int .i64 0, .int .i16 0, .pointer none, .map none]) hkl1_1_2 rfl (by decide)
                    have ho1_1_2 : 0 + k1_1_2 * 7 = (es1_1_2.flatMap fk).length := by rw [hp_1_1_2]; omega
                    have hbz1_1_2 : ((decV 10 (decP fs_sDescribeShareGroupOffsetsResponseGroupTopicPartition v true) false true) (rMany (decV 10 (decP fs_sDescribeShareGroupOffsetsResponseGroupTopicPartition v true) false true) k1_1_2 (rArr true x1_1_1.2).2).2).2.bad = true → (decP fs_DescribeShareGroupOffsetsResponse v true ⟨s, false, !a.isNone⟩).2.bad = true := fun h => hB1_1_2 (by rw [ex1_1_2]; exact rMany_mono (fun r h => decV_bad (fun r h => decP_bad _ _ _ r h) h) _ (show k1_1_2 + 1 ≤ (lT x1_1_2.1).length from hkl1_1_2) (by rw [rMany_succ]; exact h))
                    have hLk1_1_2 : (rMany (decV 10 (decP fs_sDescribeShareGroupOffsetsResponseGroupTopicPartition v true) false true) k1_1_2 (rArr true x1_1_1.2).2).2.s.length ≤ BR := Nat.le_trans (rMany_shr (fun r => decV_shr (fun r => decP_shr _ _ _ r) r) _ _) hm1_1_2
                    have hL1_1_2__ := hLk1_1_2
                    obtain ⟨x1_1_2_0, hx1_1_2_0⟩ : ∃ x, x = stepF (Fd.mk 3 0 (-1) (-1) (-1) 0 0 []) v true (rMany (decV 10 (decP fs_sDescribeShareGroupOffsetsResponseGroupTopicPartition v true) false true) k1_1_2 (rArr true x1_1_1.2).2).2 := ⟨_, rfl⟩
                    obtain ⟨x1_1_2_1, hx1_1_2_1⟩ : ∃ x, x = stepF (Fd.mk 4 0 (-1) (-1) (-1) 0 0 []) v true x1_1_2_0.2 := ⟨_, rfl⟩
                    obtain ⟨x1_1_2_2, hx1_1_2_2⟩ : ∃ x, x = stepF (Fd.mk 3 0 (-1) (-1) (-1) 0 0 []) v true x1_1_2_1.2 := ⟨_, rfl⟩
                    obtain ⟨x1_1_2_3, hx1_1_2_3⟩ : ∃ x, x = stepF (Fd.mk 4 1 (-1) (-1) (-1) (-1) 0 []) v true x1_1_2_2.2 := ⟨_, rfl⟩
                    obtain ⟨x1_1_2_4, hx1_1_2_4⟩ : ∃ x, x = stepF (Fd.mk 2 0 (-1) (-1) (-1) 0 0 []) v true x1_1_2_3.2 := ⟨_, rfl⟩
                    obtain ⟨x1_1_2_5, hx1_1_2_5⟩ : ∃ x, x = stepF (Fd.mk 8 0 (-1) 0 (-1) 0 0 []) v true x1_1_2_4.2 := ⟨_, rfl⟩
                    obtain ⟨u1_1_2_, hu1_1_2_⟩ : ∃ x, x = tailU true x1_1_2_5.2 := ⟨_, rfl⟩
                    have hD1_1_2_ : decP fs_sDescribeShareGroupOffsetsResponseGroupTopicPartition v true (rMany (decV 10 (decP fs_sDescribeShareGroupOffsetsResponseGroupTopicPartition v true) false true) k1_1_2 (rArr true x1_1_1.2).2).2 = (.mk 0 [] false [x1_1_2_0.1, x1_1_2_1.1, x1_1_2_2.1, x1_1_2_3.1, x1_1_2_4.1, x1_1_2_5.1] u1_1_2_.1, u1_1_2_.2) := by
                      generalize ((rMany (decV 10 (decP fs_sDescribeShareGroupOffsetsResponseGroupTopicPartition v true) false true) k1_1_2 (rArr true x1_1_1.2).2).2 : Rd) = r_ at hx1_1_2_0 ⊢
                      rw [decP_eq]; unfold fs_sDescribeShareGroupOffsetsResponseGroupTopicPartition; simp only [decFs_cons, decFs_nil, ← hx1_1_2_0, ← hx1_1_2_1, ← hx1_1_2_2, ← hx1_1_2_3, ← hx1_1_2_4, ← hx1_1_2_5, ← hu1_1_2_]
                    have hL1_1_2_0 : x1_1_2_0.2.s.length ≤ BR := by rw [hx1_1_2_0]; exact Nat.le_trans (stepF_shr _ _ _ _) hL1_1_2__
                    have hL1_1_2_1 : x1_1_2_1.2.s.length ≤ BR := by rw [hx1_1_2_1]; exact Nat.le_trans (stepF_shr _ _ _ _) hL1_1_2_0
                    have hL1_1_2_2 : x1_1_2_2.2.s.length ≤ BR := by rw [hx1_1_2_2]; exact Nat.le_trans (stepF_shr _ _ _ _) hL1_1_2_1
                    have hL1_1_2_3 : x1_1_2_3.2.s.length ≤ BR := by rw [hx1_1_2_3]; exact Nat.le_trans (stepF_shr _ _ _ _) hL1_1_2_2
                    have hL1_1_2_4 : x1_1_2_4.2.s.length ≤ BR := by rw [hx1_1_2_4]; exact Nat.le_trans (stepF_shr _ _ _ _) hL1_1_2_3
                    have hL1_1_2_5 : x1_1_2_5.2.s.length ≤ BR := by rw [hx1_1_2_5]; exact Nat.le_trans (stepF_shr _ _ _ _) hL1_1_2_4
                    have hE1_1_2_ : u1_1_2_.2.bad = true → (decP fs_DescribeShareGroupOffsetsResponse v true ⟨s, false, !a.isNone⟩).2.bad = true := fun h => hbz1_1_2 (by show (decP fs_sDescribeShareGroupOffsetsResponseGroupTopicPartition v true (rMany (decV 10 (decP fs_sDescribeShareGroupOffsetsResponseGroupTopicPartition v true) false true) k1_1_2 (rArr true x1_1_1.2).2).2).2.bad = true; rw [hD1_1_2_]; exact h)
                    have hB1_1_2_5 : x1_1_2_5.2.bad = true → (decP fs_DescribeShareGroupOffsetsResponse v true ⟨s, false, !a.isNone⟩).2.bad = true := fun h => hE1_1_2_ (by rw [hu1_1_2_]; exact tailU_bad h)
                    have hB1_1_2_4 : x1_1_2_4.2.bad = true → (decP fs_DescribeShareGroupOffsetsResponse v true ⟨s, false, !a.isNone⟩).2.bad = true := fun h => hB1_1_2_5 (by rw [hx1_1_2_5]; exact step_bad h)
                    have hB1_1_2_3 : x1_1_2_3.2.bad = true → (decP fs_DescribeShareGroupOffsetsResponse v true ⟨s, false, !a.isNone⟩).2.bad = true := fun h => hB1_1_2_4 (by rw [hx1_1_2_4]; exact step_bad h)
                    have hB1_1_2_2 : x1_1_2_2.2.bad = true → (decP fs_DescribeShareGroupOffsetsResponse v true ⟨s, false, !a.isNone⟩).2.bad = true := fun h => hB1_1_2_3 (by rw [hx1_1_2_3]; exact step_bad h)
                    have hB1_1_2_1 : x1_1_2_1.2.bad = true → (decP fs_DescribeShareGroupOffsetsResponse v true ⟨s, false, !a.isNone⟩).2.bad = true := fun h => hB1_1_2_2 (by rw [hx1_1_2_2]; exact step_bad h)
                    have hB1_1_2_0 : x1_1_2_0.2.bad = true → (decP fs_DescribeShareGroupOffsetsResponse v true ⟨s, false, !a.isNone⟩).2.bad = true := fun h => hB1_1_2_1 (by rw [hx1_1_2_1]; exact step_bad h)
                    refine skt ?_
                    refine sq ?_
                    refine bl ?_
                    refine sr ?_
                    refine mv rfl rfl ?_
                    refine mv rfl rfl ?_
                    refine ixk (j := k1_1_2) Tryz.runUnderlying271 Tryz.sizeOf277 rfl hga1_1_2 rfl rfl hkl1_1_2 rfl ?_
                    refine asg rfl rfl ?_
                    refine nl ?_
                    refine sr ?_
                    refine mv rfl rfl ?_
                    refine cl rfl rfl rfl (def_DescribeShareGroupOffsetsResponseGroupTopicPartition ho1_1_2) rfl (fun v_ H1 L1 hle_ hR_ => ?_)
                    obtain ⟨rfl, rfl⟩ := hR_
                    refine nl ?_
                    refine sr ?_
                    refine mv rfl rfl ?_
                    refine asg rfl rfl ?_
                    refine nl ?_
                    refine sq ?_
                    refine sr ?_
                    refine tf (.tail .head) ?_
                    have ex1_1_2_0 : x1_1_2_0 = decV 3 (decP [] v true) false true (rMany (decV 10 (decP fs_sDescribeShareGroupOffsetsResponseGroupTopicPartition v true) false true) k1_1_2 (rArr true x1_1_1.2).2).2 := (hx1_1_2_0.trans (step_yes (by decide) (show (0 : Int) ≤ v by omega) (Or.inl (by decide)))).trans (decF'_val (by decide) (rfl))
                    refine cl rfl rfl rfl (d3 hR_1_1_2 ex1_1_2_0) rfl (fun v_ H1 L1 hle_ hR_ => ?_)
                    obtain ⟨N173, rfl, hR173, rfl, rfl⟩ := hR_
                    refine asg rfl rfl ?_
                    refine nl ?_
                    refine rg ?_
                    refine mv rfl rfl ?_
                    refine mv rfl rfl ?_
                    refine nc rfl rfl ?_
                    refine fa F277_0 rfl rfl ?_
                    refine stM (off := 0) Tryz.sizeOf21 rfl (by rw [ho1_1_2]) rfl rfl rfl (.tail .head) ?_
                    refine nl ?_
                    refine sq ?_
                    refine sr ?_
                    have ex1_1_2_1 : x1_1_2_1 = decV 4 (decP [] v true) false true x1_1_2_0.2 := (hx1_1_2_1.trans (step_yes (by decide) (show (0 : Int) ≤ v by omega) (Or.inl (by decide)))).trans (decF'_val (by decide) (rfl))
                    refine cl rfl rfl rfl (d4 hR173 ex1_1_2_1) rfl (fun v_ H1 L1 hle_ hR_ => ?_)
                    obtain ⟨N178, rfl, hR178, rfl, rfl⟩ := hR_
                    refine asg rfl rfl ?_
                    refine nl ?_
                    refine rg ?_
                    refine mv rfl rfl ?_
                    refine mv rfl rfl ?_
                    refine nc rfl rfl ?_
                    refine fa F277_1 rfl rfl ?_
                    refine stM (off := 1) Tryz.sizeOf2 rfl (by rw [ho1_1_2]) rfl rfl rfl (.tail .head) ?_
                    refine nl ?_
                    refine sq ?_
                    refine sr ?_
                    have ex1_1_2_2 : x1_1_2_2 = decV 3 (decP [] v true) false true x1_1_2_1.2 := (hx1_1_2_2.trans (step_yes (by decide) (show (0 : Int) ≤ v by omega) (Or.inl (by decide)))).trans (decF'_val (by decide) (rfl))
                    refine cl rfl rfl rfl (d3 hR178 ex1_1_2_2) rfl (fun v_ H1 L1 hle_ hR_ => ?_)
                    obtain ⟨N183, rfl, hR183, rfl, rfl⟩ := hR_
                    refine asg rfl rfl ?_
                    refine nl ?_
                    refine rg ?_
                    refine mv rfl rfl ?_
                    refine mv rfl rfl ?_
                    refine nc rfl rfl ?_
                    refine fa F277_2 rfl rfl ?_
                    refine stM (off := 2) Tryz.sizeOf21 rfl (by rw [ho1_1_2]) rfl rfl rfl (.tail .head) ?_
                    refine nl ?_
                    refine sq ?_
                    refine sr ?_
                    refine mv rfl rfl ?_
                    refine ge rfl rfl rfl ?_
                    refine nl ?_
                    refine cutT (fun l' H' L' => ∃ (Nj1_1_2_3 : Chunk), [(2, .bool false), (7, .pointer (some ⟨b_1, 0, none⟩)), (8, .int .i16 v), (9, .bool (decide ((0 : Int) ≤ v))), (10, .pointer (some ⟨b, 0, none⟩)), (12, .slice none 0 0), (13, .slice a1 (lT x1.1).length c1), (14, .int .i32 (rArr true x0.2).1), (15, .int .i32 (k1 : Int)), (17, .pointer (some ⟨g1, 0 + k1 * 5, none⟩)), (19, .slice none 0 0), (20, .slice a1_1 (lT x1_1.1).length c1_1), (21, .int .i32 (rArr true x1_0.2).1), (22, .int .i32 (k1_1 : Int)), (24, .pointer (some ⟨g1_1, 0 + k1_1 * 19, none⟩)), (27, .slice none 0 0), (28, .slice a1_1_2 (lT x1_1_2.1).length c1_1_2), (29, .int .i32 (rArr true x1_1_1.2).1), (30, .int .i32 (k1_1_2 : Int)), (32, .pointer (some ⟨g1_1_2, 0 + k1_1_2 * 7, none⟩))] = l' ∧ Nj1_1_2_3 :: [(g1_1_2, .cells ((es1_1_2.flatMap fk) ++ ([.int .i32 (IntKind.i32.wrap x1_1_2_0.1.n), .int .i64 x1_1_2_1.1.n, .int .i32 (IntKind.i32.wrap x1_1_2_2.1.n), .int .i64 x1_1_2_3.1.n, .int .i16 0, .pointer none, .map none] : List Value) ++ po1_1_2).toArray 277 (0, 0))] :: [(b_10, .cells [ub x1_1_1.1.s 0, ub x1_1_1.1.s 1, ub x1_1_1.1.s 2, ub x1_1_1.1.s 3, ub x1_1_1.1.s 4, ub x1_1_1.1.s 5, ub x1_1_1.1.s 6, ub x1_1_1.1.s 7, ub x1_1_1.1.s 8, ub x1_1_1.1.s 9, ub x1_1_1.1.s 10, ub x1_1_1.1.s 11, ub x1_1_1.1.s 12, ub x1_1_1.1.s 13, ub x1_1_1.1.s 14, ub x1_1_1.1.s 15].toArray 182 (0, 0))] :: [(g1_1, .cells ((es1_1.flatMap fk) ++ ([.string ⟨x1_1_0.1.s.toArray⟩, ub x1_1_1.1.s 0, ub x1_1_1.1.s 1, ub x1_1_1.1.s 2, ub x1_1_1.1.s 3, ub x1_1_1.1.s 4, ub x1_1_1.1.s 5, ub x1_1_1.1.s 6, ub x1_1_1.1.s 7, ub x1_1_1.1.s 8, ub x1_1_1.1.s 9, ub x1_1_1.1.s 10, ub x1_1_1.1.s 11, ub x1_1_1.1.s 12, ub x1_1_1.1.s 13, ub x1_1_1.1.s 14, ub x1_1_1.1.s 15, .slice none 0 0, .map none] : List Value) ++ po1_1).toArray 273 (0, 0))] :: [(g1, .cells ((es1.flatMap fk) ++ ([.string ⟨x1_0.1.s.toArray⟩, .slice none 0 0, .int .i16 0, .pointer none, .map none] : List Value) ++ po1).toArray 156 (0, 0))] :: [(b, .cells [.int .i16 v, .int .i32 (IntKind.i32.wrap x0.1.n), .slice none 0 0, .map none].toArray 151 (0, 0))] :: L = L' ∧ RdAt H' 232 b_1 x1_1_2_3.2 Nj1_1_2_3) ?_ (fun l' H' L' le_16 hI => ?_)
                    · skip
                      refine cd rfl (fun h189 => ?_) (fun h189 => ?_)
                      · skip
                        refine sr ?_
                        have ex1_1_2_3 : x1_1_2_3 = decV 4 (decP [] v true) false true x1_1_2_2.2 := (hx1_1_2_3.trans (step_yes (by decide) (show (1 : Int) ≤ v by omega) (Or.inl (by decide)))).trans (decF'_val (by decide) (rfl))
                        refine cl rfl rfl rfl (d4 hR183 ex1_1_2_3) rfl (fun v_ H1 L1 hle_ hR_ => ?_)
                        obtain ⟨N190, rfl, hR190, rfl, rfl⟩ := hR_
                        refine asg rfl rfl ?_
                        refine nl ?_
                        refine rg ?_
                        refine mv rfl rfl ?_
                        refine mv rfl rfl ?_
                        refine nc rfl rfl ?_
                        refine fa F277_3 rfl rfl ?_
                        refine stM (off := 3) Tryz.sizeOf2 rfl (by rw [ho1_1_2]) rfl rfl rfl (.tail .head) ?_
                        refine nN ?_
                        refine fun a_ w_ hA hw => ⟨_, _, _, hA.sub ?_, (Fz.le.refl _), hw, N190, rfl, rfl, hR190⟩
                        exact (.cons rfl (.cons rfl (.cons rfl (.cons rfl (.cons rfl (.cons rfl (.cons rfl (.cons rfl (.cons rfl (.cons rfl (.cons rfl (.cons rfl (.cons rfl (.cons rfl (.cons rfl (.cons rfl (.cons rfl (.cons rfl (.cons rfl (.cons rfl (.nil _)))))))))))))))))))))
                      · skip
                        refine skN ?_
                        obtain rfl : x1_1_2_3 = ((Tr.mk (-1) [] false [] []), x1_1_2_2.2) := (hx1_1_2_3.trans (step_no (Or.inl (show v < (1 : Int) by omega)))).trans (by rw [dflF_eq]; rfl)
                        refine fun a_ w_ hA hw => ⟨_, _, _, hA.sub ?_, (Fz.le.refl _), hw, N183, rfl, rfl, hR183⟩
                        exact (.cons rfl (.cons rfl (.cons rfl (.cons rfl (.cons rfl (.cons rfl (.cons rfl (.cons rfl (.cons rfl (.cons rfl (.cons rfl (.cons rfl (.cons rfl (.cons rfl (.cons rfl (.cons rfl (.cons rfl (.cons rfl (.cons rfl (.cons rfl (.nil _)))))))))))))))))))))
                    · skip
                      obtain ⟨Nj1_1_2_3, rfl, rfl, pj0⟩ := hI
                      have hRj1_1_2_3 := pj0
                      refine sq ?_
                      refine sr ?_
                      have ex1_1_2_4 : x1_1_2_4 = decV 2 (decP [] v true) false true x1_1_2_3.2 := (hx1_1_2_4.trans (step_yes (by decide) (show (0 : Int) ≤ v by omega) (Or.inl (by decide)))).trans (decF'_val (by decide) (rfl))
                      refine cl rfl rfl rfl (d2 hRj1_1_2_3 ex1_1_2_4) rfl (fun v_ H1 L1 hle_ hR_ => ?_)
                      obtain ⟨N195, rfl, hR195, rfl, rfl⟩ := hR_
                      refine asg rfl rfl ?_
                      refine nl ?_
                      refine rg ?_
                      refine mv rfl rfl ?_
                      refine mv rfl rfl ?_
                      refine nc rfl rfl ?_
                      refine fa F277_4 rfl rfl ?_
                      refine stM (off := 4) Tryz.sizeOf51 rfl (by rw [ho1_1_2]) rfl rfl rfl (.tail .head) ?_
                      refine nl ?_
                      refine sq ?_
                      refine sr ?_
                      refine asg rfl rfl ?_
                      refine nl ?_
                      refine sq ?_
                      refine sr ?_
                      refine mv rfl rfl ?_
                      refine nl ?_
                      refine cdT rfl (by omega) ?_
                      refine sr ?_
                      refine mv rfl rfl ?_
                      refine nl ?_
                      refine cF rfl ?_
                      refine rg ?_
                      have ex1_1_2_5 : x1_1_2_5 = decV 8 (decP [] v true) true true x1_1_2_4.2 := (hx1_1_2_5.trans (step_yes (by decide) (show (0 : Int) ≤ v by omega) (Or.inl (by decide)))).trans (decF'_val (by decide) (by simp only [Bool.and_eq_true, decide_eq_true_eq]; exact ⟨show (0 : Int) ≤ 0 by decide, show (0 : Int) ≤ v by omega⟩))
                      refine cl rfl rfl rfl (d8tn hR195 ex1_1_2_5) rfl (fun v_ H1 L1 le_19 hR_ => ?_)
                      obtain ⟨N203, rfl, hR203, p1_1_2_5, rfl, hf1_1_2_5⟩ := hR_
                      refine asg rfl rfl ?_
                      refine nl ?_
                      refine rg ?_
                      refine mv rfl rfl ?_
                      refine mv rfl rfl ?_
                      refine nc rfl rfl ?_
                      refine fa F277_5 rfl rfl ?_
                      refine stM (off := 5) Tryz.sizeOf131 rfl (by rw [ho1_1_2]) rfl rfl rfl (.tail .head) ?_
                      refine nl ?_
                      refine sr ?_
                      refine mv rfl rfl ?_
                      refine nl ?_
                      refine cdT rfl (by omega) ?_
                      refine rg ?_
                      refine mv rfl rfl ?_
                      refine cl rfl rfl rfl (d_tags hR203) rfl (fun v_ H1 L1 le_20 hR_ => ?_)
                      obtain ⟨N213, rfl, hR213, m1_1_2_t, rfl, hft1_1_2_⟩ := hR_
                      have hu21_1_2_ : u1_1_2_ = rTags x1_1_2_5.2 := hu1_1_2_
                      rw [← hu21_1_2_] at hR213 hft1_1_2_
                      refine nc rfl rfl ?_
                      refine fa F277_6 rfl rfl ?_
                      refine saM (off := 6) Tryz.sizeOf105 rfl (by rw [ho1_1_2]) rfl rfl rfl rfl (.tail .head) ?_
                      refine nN ?_
                      refine Nb ?_
                      refine Nt ?_
                      refine rg ?_
                      refine mv rfl rfl ?_
                      refine ad rfl rfl (c := ((k1_1_2 + 1 : Nat) : Int)) ((wrap32_le (by omega) (by omega)).trans (by omega)) rfl ?_
                      refine asg rfl rfl ?_
                      refine nN ?_
                      have hfs1_1_2 := flatMap_snoc' fk es1_1_2 ((⟨([.int .i32 (IntKind.i32.wrap x1_1_2_0.1.n), .int .i64 x1_1_2_1.1.n, .int .i32 (IntKind.i32.wrap x1_1_2_2.1.n), .int .i64 x1_1_2_3.1.n, .int .i16 (IntKind.i16.wrap x1_1_2_4.1.n), .pointer p1_1_2_5, .map m1_1_2_t] : List Value), rfl, all_one rfl⟩, ((decV 10 (decP fs_sDescribeShareGroupOffsetsResponseGroupTopicPartition v true) false true) (rMany (decV 10 (decP fs_sDescribeShareGroupOffsetsResponseGroupTopicPartition v true) false true) k1_1_2 (rArr true x1_1_1.2).2).2).1) : KE 7)
                      have hrw1_1_2 := hbk1_1_2 ([.int .i32 (IntKind.i32.wrap x1_1_2_0.1.n), .int .i64 x1_1_2_1.1.n, .int .i32 (IntKind.i32.wrap x1_1_2_2.1.n), .int .i64 x1_1_2_3.1.n, .int .i16 (IntKind.i16.wrap x1_1_2_4.1.n), .pointer p1_1_2_5, .map m1_1_2_t] : List Value) rfl
                      refine tfN (.tail .head) ?_
                      refine fun a_ w_ hA hw => ⟨hkl1_1_2, _, _, _, hA.sub ?_, (le_12.trans (le_16.trans (le_19.trans le_20))), hw, _, _, _, rfl, rfl, (by rw [rMany_succ]; show RdAt _ 232 b_1 (decP fs_sDescribeShareGroupOffsetsResponseGroupTopicPartition v true (rMany (decV 10 (decP fs_sDescribeShareGroupOffsetsResponseGroupTopicPartition v true) false true) k1_1_2 (rArr true x1_1_1.2).2).2).2 _; rw [hD1_1_2_]; exact hR213), (by rw [← hfs1_1_2]; exact hrw1_1_2), (dec_els he_1_1_2), (fun p hp => (mem_snoc hp).elim (fun h => At_DescribeShareGroupOffsetsResponseGroupTopicPartition.mono _ _ _ _ (le_16.trans (le_19.trans le_20)) (hg_1_1_2 p h)) (fun h => h ▸ (by show At_DescribeShareGroupOffsetsResponseGroupTopicPartition _ (decP fs_sDescribeShareGroupOffsetsResponseGroupTopicPartition v true (rMany (decV 10 (decP fs_sDescribeShareGroupOffsetsResponseGroupTopicPartition v true) false true) k1_1_2 (rArr true x1_1_1.2).2).2).1 [.int .i32 (IntKind.i32.wrap x1_1_2_0.1.n), .int .i64 x1_1_2_1.1.n, .int .i32 (IntKind.i32.wrap x1_1_2_2.1.n), .int .i64 x1_1_2_3.1.n, .int .i16 (IntKind.i16.wrap x1_1_2_4.1.n), .pointer p1_1_2_5, .map m1_1_2_t]; rw [hD1_1_2_]; exact ⟨p1_1_2_5, m1_1_2_t, rfl, (hf1_1_2_5.mono le_20), hft1_1_2_⟩)))⟩
                      exact (.cons rfl (.cons rfl (.cons rfl (.cons rfl (.cons rfl (.cons rfl (.cons rfl (.cons rfl (.cons rfl (.cons rfl (.cons rfl (.cons rfl (.cons rfl (.cons rfl (.cons rfl (.cons rfl (.cons rfl (.cons rfl (.cons rfl (.nil _))))))))))))))))))))
                  · skip
                    have hkn_ : k1_1_2 = (lT x1_1_2.1).length := by omega
                    subst hkn_
                    have hw2_1_1_2 : Row 277 7 a1_1_2 (lT x1_1_2.1).length c1_1_2 (es1_1_2.flatMap fk) M1_1_2 := by have h := hw_1_1_2; rw [Nat.sub_self] at h; simpa [reps] using h
                    refine frW hw2_1_1_2 .head (fun Hf1_1_2 hlf1_1_2 hfz1_1_2 => ?_)
                    have hrs1_1_2 := RowsAt.row (R := At_DescribeShareGroupOffsetsResponseGroupTopicPartition) hfz1_1_2 hs_1_1_2.symm hw2_1_1_2.le.1 (fun p hp => At_DescribeShareGroupOffsetsResponseGroupTopicPartition.mono _ _ _ _ hlf1_1_2 (hg_1_1_2 p hp))
                    rw [he_1_1_2] at hrs1_1_2
                    have hf1_1_2 : ListAt Hf1_1_2 x1_1_2.1 7 At_DescribeShareGroupOffsetsResponseGroupTopicPartition a1_1_2 c1_1_2 := by rw [ex1_1_2]; exact listAt_of hrs1_1_2 hi1_1_2 (fun h => by have h1 := nul_le h; rw [show (lT x1_1_2.1).length = 0 by omega]; rfl)
                    have hRx1_1_2 : RdAt Hf1_1_2 232 b_1 x1_1_2.2 RN1_1_2 := by rw [ex1_1_2]; exact (hR_1_1_2.mono hlf1_1_2)
                    refine exX ?_
                    refine XT ?_
                    refine XT ?_
                    refine Xb ?_
                    refine Nt ?_
                    refine sr ?_
                    refine mv rfl rfl ?_
                    refine asg rfl rfl ?_
                    refine nl ?_
                    refine rg ?_
                    refine mv rfl rfl ?_
                    refine mv rfl rfl ?_
                    refine nc rfl rfl ?_
                    refine fa F273_2 rfl rfl ?_
                    refine stM (off := 17) Tryz.sizeOf271 rfl (by rw [ho1_1]) rfl rfl rfl (.tail (.tail .head)) ?_
                    refine nl ?_
                    refine sr ?_
                    refine mv rfl rfl ?_
                    refine nl ?_
                    refine cdT rfl (by omega) ?_
                    refine rg ?_
                    refine mv rfl rfl ?_
                    refine cl rfl rfl rfl (d_tags hRx1_1_2) rfl (fun v_ H1 L1 le_21 hR_ => ?_)
                    obtain ⟨N223, rfl, hR223, m1_1_t, rfl, hft1_1_⟩ := hR_
                    have hu21_1_ : u1_1_ = rTags x1_1_2.2 := hu1_1_
                    rw [← hu21_1_] at hR223 hft1_1_
                    refine nc rfl rfl ?_
                    refine fa F273_3 rfl rfl ?_
                    refine saM (off := 18) Tryz.sizeOf105 rfl (by rw [ho1_1]) rfl rfl rfl rfl (.tail (.tail .head)) ?_
                    refine nN ?_
                    refine Nb ?_
                    refine Nt ?_
                    refine rg ?_
                    refine mv rfl rfl ?_
                    refine ad rfl rfl (c := ((k1_1 + 1 : Nat) : Int)) ((wrap32_le (by omega) (by omega)).trans (by omega)) rfl ?_
                    refine asg rfl rfl ?_
                    refine nN ?_
                    have hfs1_1 := flatMap_snoc' fk es1_1 ((⟨([.string ⟨x1_1_0.1.s.toArray⟩, ub x1_1_1.1.s 0, ub x1_1_1.1.s 1, ub x1_1_1.1.s 2, ub x1_1_1.1.s 3, ub x1_1_1.1.s 4, ub x1_1_1.1.s 5, ub x1_1_1.1.s 6, ub x1_1_1.1.s 7, ub x1_1_1.1.s 8, ub x1_1_1.1.s 9, ub x1_1_1.1.s 10, ub x1_1_1.1.s 11, ub x1_1_1.1.s 12, ub x1_1_1.1.s 13, ub x1_1_1.1.s 14, ub x1_1_1.1.s 15, .slice a1_1_2 (lT x1_1_2.1).length c1_1_2, .map m1_1_t] : List Value), rfl, all_one rfl⟩, ((decV 10 (decP fs_sDescribeShareGroupOffsetsResponseGroupTopic v true) false true) (rMany (decV 10 (decP fs_sDescribeShareGroupOffsetsResponseGroupTopic v true) false true) k1_1 (rArr true x1_0.2).2).2).1) : KE 19)
                    have hrw1_1 := hbk1_1 ([.string ⟨x1_1_0.1.s.toArray⟩, ub x1_1_1.1.s 0, ub x1_1_1.1.s 1, ub x1_1_1.1.s 2, ub x1_1_1.1.s 3, ub x1_1_1.1.s 4, ub x1_1_1.1.s 5, ub x1_1_1.1.s 6, ub x1_1_1.1.s 7, ub x1_1_1.1.s 8, ub x1_1_1.1.s 9, ub x1_1_1.1.s 10, ub x1_1_1.1.s 11, ub x1_1_1.1.s 12, ub x1_1_1.1.s 13, ub x1_1_1.1.s 14, ub x1_1_1.1.s 15, .slice a1_1_2 (lT x1_1_2.1).length c1_1_2, .map m1_1_t] : List Value) rfl
                    refine drN (.tail .head) ?_
                    refine tfN (.tail .head) ?_
                    refine fun a_ w_ hA hw => ⟨hkl1_1, _, _, _, hA.sub ?_, (le_7.trans (le_11.trans (le_12.trans (hlf1_1_2.trans le_21)))), hw, _, _, _, rfl, rfl, (by rw [rMany_succ]; show RdAt _ 232 b_1 (decP fs_sDescribeShareGroupOffsetsResponseGroupTopic v true (rMany (decV 10 (decP fs_sDescribeShareGroupOffsetsResponseGroupTopic v true) false true) k1_1 (rArr true x1_0.2).2).2).2 _; rw [hD1_1_]; exact hR223), (by rw [← hfs1_1]; exact hrw1_1), (dec_els he_1_1), (fun p hp => (mem_snoc hp).elim (fun h => At_DescribeShareGroupOffsetsResponseGroupTopic.mono _ _ _ _ (le_11.trans (le_12.trans (hlf1_1_2.trans le_21))) (hg_1_1 p h)) (fun h => h ▸ (by show At_DescribeShareGroupOffsetsResponseGroupTopic _ (decP fs_sDescribeShareGroupOffsetsResponseGroupTopic v true (rMany (decV 10 (decP fs_sDescribeShareGroupOffsetsResponseGroupTopic v true) false true) k1_1 (rArr true x1_0.2).2).2).1 [.string ⟨x1_1_0.1.s.toArray⟩, ub x1_1_1.1.s 0, ub x1_1_1.1.s 1, ub x1_1_1.1.s 2, ub x1_1_1.1.s 3, ub x1_1_1.1.s 4, ub x1_1_1.1.s 5, ub x1_1_1.1.s 6, ub x1_1_1.1.s 7, ub x1_1_1.1.s 8, ub x1_1_1.1.s 9, ub x1_1_1.1.s 10, ub x1_1_1.1.s 11, ub x1_1_1.1.s 12, ub x1_1_1.1.s 13, ub x1_1_1.1.s 14, ub x1_1_1.1.s 15, .slice a1_1_2 (lT x1_1_2.1).length c1_1_2, .map m1_1_t]; rw [hD1_1_]; exact ⟨a1_1_2, c1_1_2, m1_1_t, rfl, (hf1_1_2.mono At_DescribeShareGroupOffsetsResponseGroupTopicPartition.mono le_21), hft1_1_⟩)))⟩
                    exact (.cons rfl (.cons rfl (.cons rfl (.cons rfl (.cons rfl (.cons rfl (.cons rfl (.cons rfl (.cons rfl (.cons rfl (.cons rfl (.cons rfl (.cons rfl (.cons rfl (.nil _)))))))))))))))
            · skip
              have hkn_ : k1_1 = (lT x1_1.1).length := by omega
              subst hkn_
              have hw2_1_1 : Row 273 19 a1_1 (lT x1_1.1).length c1_1 (es1_1.flatMap fk) M1_1 := by have h := hw_1_1; rw [Nat.sub_self] at h; simpa [reps] using h
              refine frW hw2_1_1 .head (fun Hf1_1 hlf1_1 hfz1_1 => ?_)
              have hrs1_1 := RowsAt.row (R := At_DescribeShareGroupOffsetsResponseGroupTopic) hfz1_1 hs_1_1.symm hw2_1_1.le.1 (fun p hp => At_DescribeShareGroupOffsetsResponseGroupTopic.mono _ _ _ _ hlf1_1 (hg_1_1 p hp))
              rw [he_1_1] at hrs1_1
              have hf1_1 : ListAt Hf1_1 x1_1.1 19 At_DescribeShareGroupOffsetsResponseGroupTopic a1_1 c1_1 := by rw [ex1_1]; exact listAt_of hrs1_1 hi1_1 (fun h => by have h1 := nul_le h; rw [show (lT x1_1.1).length = 0 by omega]; rfl)
              have hRx1_1 : RdAt Hf1_1 232 b_1 x1_1.2 RN1_1 := by rw [ex1_1]; exact (hR_1_1.mono hlf1_1)
              refine exX ?_
              refine XT ?_
              refine XT ?_
              refine Xb ?_
              refine Nt ?_
              refine sr ?_
              refine mv rfl rfl ?_
              refine asg rfl rfl ?_
              refine nl ?_
              refine rg ?_
              refine mv rfl rfl ?_
              refine mv rfl rfl ?_
              refine nc rfl rfl ?_
              refine fa F156_1 rfl rfl ?_
              refine stM (off := 1) Tryz.sizeOf154 rfl (by rw [ho1]) rfl rfl rfl (.tail .head) ?_
              refine nl ?_
              refine sq ?_
              refine sr ?_
              have ex1_2 : x1_2 = decV 2 (decP [] v true) false true x1_1.2 := (hx1_2.trans (step_yes (by decide) (show (0 : Int) ≤ v by omega) (Or.inl (by decide)))).trans (decF'_val (by decide) (rfl))
              refine cl rfl rfl rfl (d2 hRx1_1 ex1_2) rfl (fun v_ H1 L1 hle_ hR_ => ?_)
              obtain ⟨N231, rfl, hR231, rfl, rfl⟩ := hR_
              refine asg rfl rfl ?_
              refine nl ?_
              refine rg ?_
              refine mv rfl rfl ?_
              refine mv rfl rfl ?_
              refine nc rfl rfl ?_
              refine fa F156_2 rfl rfl ?_
              refine stM (off := 2) Tryz.sizeOf51 rfl (by rw [ho1]) rfl rfl rfl (.tail .head) ?_
              refine nl ?_
              refine sq ?_
              refine sr ?_
              refine asg rfl rfl ?_
              refine nl ?_
              refine sq ?_
              refine sr ?_
              refine mv rfl rfl ?_
              refine nl ?_
              refine cdT rfl (by omega) ?_
              refine sr ?_
              refine mv rfl rfl ?_
              refine nl ?_
              refine cF rfl ?_
              refine rg ?_
              have ex1_3 : x1_3 = decV 8 (decP [] v true) true true x1_2.2 := (hx1_3.trans (step_yes (by decide) (show (0 : Int) ≤ v by omega) (Or.inl (by decide)))).trans (decF'_val (by decide) (by simp only [Bool.and_eq_true, decide_eq_true_eq]; exact ⟨show (0 : Int) ≤ 0 by decide, show (0 : Int) ≤ v by omega⟩))
              refine cl rfl rfl rfl (d8tn hR231 ex1_3) rfl (fun v_ H1 L1 le_23 hR_ => ?_)
              obtain ⟨N239, rfl, hR239, p1_3, rfl, hf1_3⟩ := hR_
              refine asg rfl rfl ?_
              refine nl ?_
              refine rg ?_
              refine mv rfl rfl ?_
              refine mv rfl rfl ?_
              refine nc rfl rfl ?_
              refine fa F156_3 rfl rfl ?_
              refine stM (off := 3) Tryz.sizeOf131 rfl (by rw [ho1]) rfl rfl rfl (.tail .head) ?_
              refine nl ?_
              refine sr ?_
              refine mv rfl rfl ?_
              refine nl ?_
              refine cdT rfl (by omega) ?_
              refine rg ?_
              refine mv rfl rfl ?_
              refine cl rfl rfl rfl (d_tags hR239) rfl (fun v_ H1 L1 le_24 hR_ => ?_)
              obtain ⟨N249, rfl, hR249, m1_t, rfl, hft1_⟩ := hR_
              have hu21_ : u1_ = rTags x1_3.2 := hu1_
              rw [← hu21_] at hR249 hft1_
              refine nc rfl rfl ?_
              refine fa F156_4 rfl rfl ?_
              refine saM (off := 4) Tryz.sizeOf105 rfl (by rw [ho1]) rfl rfl rfl rfl (.tail .head) ?_
              refine nN ?_
              refine Nb ?_
              refine Nt ?_
              refine rg ?_
              refine mv rfl rfl ?_
              refine ad rfl rfl (c := ((k1 + 1 : Nat) : Int)) ((wrap32_le (by omega) (by omega)).trans (by omega)) rfl ?_
              refine asg rfl rfl ?_
              refine nN ?_
              have hfs1 := flatMap_snoc' fk es1 ((⟨([.string ⟨x1_0.1.s.toArray⟩, .slice a1_1 (lT x1_1.1).length c1_1, .int .i16 (IntKind.i16.wrap x1_2.1.n), .pointer p1_3, .map m1_t] : List Value), rfl, all_one rfl⟩, ((decV 10 (decP fs_sDescribeShareGroupOffsetsResponseGroup v true) false true) (rMany (decV 10 (decP fs_sDescribeShareGroupOffsetsResponseGroup v true) false true) k1 (rArr true x0.2).2).2).1) : KE 5)
              have hrw1 := hbk1 ([.string ⟨x1_0.1.s.toArray⟩, .slice a1_1 (lT x1_1.1).length c1_1, .int .i16 (IntKind.i16.wrap x1_2.1.n), .pointer p1_3, .map m1_t] : List Value) rfl
              refine tfN (.tail .head) ?_
              refine fun a_ w_ hA hw => ⟨hkl1, _, _, _, hA.sub ?_, (le_4.trans (le_6.trans (le_7.trans (hlf1_1.trans (le_23.trans le_24))))), hw, _, _, _, rfl, rfl, (by rw [rMany_succ]; show RdAt _ 232 b_1 (decP fs_sDescribeShareGroupOffsetsResponseGroup v true (rMany (decV 10 (decP fs_sDescribeShareGroupOffsetsResponseGroup v true) false true) k1 (rArr true x0.2).2).2).2 _; rw [hD1_]; exact hR249), (by rw [← hfs1]; exact hrw1), (dec_els he_1), (fun p hp => (mem_snoc hp).elim (fun h => At_DescribeShareGroupOffsetsResponseGroup.mono _ _ _ _ (le_6.trans (le_7.trans (hlf1_1.trans (le_23.trans le_24)))) (hg_1 p h)) (fun h => h ▸ (by show At_DescribeShareGroupOffsetsResponseGroup _ (decP fs_sDescribeShareGroupOffsetsResponseGroup v true (rMany (decV 10 (decP fs_sDescribeShareGroupOffsetsResponseGroup v true) false true) k1 (rArr true x0.2).2).2).1 [.string ⟨x1_0.1.s.toArray⟩, .slice a1_1 (lT x1_1.1).length c1_1, .int .i16 (IntKind.i16.wrap x1_2.1.n), .pointer p1_3, .map m1_t]; rw [hD1_]; exact ⟨a1_1, c1_1, p1_3, m1_t, rfl, (hf1_1.mono At_DescribeShareGroupOffsetsResponseGroupTopic.mono (le_23.trans le_24)), (hf1_3.mono le_24), hft1_⟩)))⟩
              exact (.cons rfl (.cons rfl (.cons rfl (.cons rfl (.cons rfl (.cons rfl (.cons rfl (.cons rfl (.cons rfl (.nil _))))))))))
      · skip
        have hkn_ : k1 = (lT x1.1).length := by omega
        subst hkn_
        have hw2_1 : Row 156 5 a1 (lT x1.1).length c1 (es1.flatMap fk) M1 := by have h := hw_1; rw [Nat.sub_self] at h; simpa [reps] using h
        refine frW hw2_1 .head (fun Hf1 hlf1 hfz1 => ?_)
        have hrs1 := RowsAt.row (R := At_DescribeShareGroupOffsetsResponseGroup) hfz1 hs_1.symm hw2_1.le.1 (fun p hp => At_DescribeShareGroupOffsetsResponseGroup.mono _ _ _ _ hlf1 (hg_1 p hp))
        rw [he_1] at hrs1
        have hf1 : ListAt Hf1 x1.1 5 At_DescribeShareGroupOffsetsResponseGroup a1 c1 := by rw [ex1]; exact listAt_of hrs1 hi1 (fun h => by have h1 := nul_le h; rw [show (lT x1.1).length = 0 by omega]; rfl)
        have hRx1 : RdAt Hf1 232 b_1 x1.2 RN1 := by rw [ex1]; exact (hR_1.mono hlf1)
        refine exX ?_
        refine XT ?_
        refine XT ?_
        refine Xb ?_
        refine Nt ?_
        refine sr ?_
        refine mv rfl rfl ?_
        refine asg rfl rfl ?_
        refine nl ?_
        refine rg ?_
        refine mv rfl rfl ?_
        refine mv rfl rfl ?_
        refine nc rfl rfl ?_
        refine fa0 F151_2 rfl rfl ?_
        refine st Tryz.sizeOf149 rfl rfl rfl rfl (.tail .head) ?_
        refine nl ?_
        refine sq ?_
        refine sr ?_
        refine mv rfl rfl ?_
        refine nl ?_
        refine cdT rfl (by omega) ?_
        refine rg ?_
        refine mv rfl rfl ?_
        refine cl rfl rfl rfl (d_tags hRx1) rfl (fun v_ H1 L1 le_25 hR_ => ?_)
        obtain ⟨N259, rfl, hR259, mt, rfl, hft⟩ := hR_
        have hu2 : u = rTags x1.2 := hu
        rw [← hu2] at hR259 hft
        refine nc rfl rfl ?_
        refine fa0 F151_3 rfl rfl ?_
        refine sa Tryz.sizeOf105 rfl rfl rfl rfl rfl (.tail .head) ?_
        refine nl ?_
        refine sr ?_
        refine cl rfl rfl rfl (r_complete hR259 (he.mono (le_3.trans (le_4.trans (hlf1.trans le_25))))) rfl (fun v_ H1 L1 hle_ hR_ => ?_)
        obtain ⟨rfl, rfl, rfl⟩ := hR_
        refine asg rfl rfl ?_
        refine nl ?_
        refine drW .head ?_
        have hA_ := (show At_DescribeShareGroupOffsetsResponse v _ (decP fs_DescribeShareGroupOffsetsResponse v true _).1 [.int .i16 v, .int .i32 (IntKind.i32.wrap x0.1.n), .slice a1 (lT x1.1).length c1, .map mt] from (by rw [hD]; exact ⟨a1, c1, mt, rfl, (hf1.mono At_DescribeShareGroupOffsetsResponseGroup.mono le_25), hft⟩))
        refine rT rfl rfl (le_3.trans (le_4.trans (hlf1.trans le_25))) (fun _ _ h => h) ⟨_, rfl, ?_⟩
        have hz := RdEnd.of (e := e) hA_
        rw [show (decP fs_DescribeShareGroupOffsetsResponse v true _).2.bad = u.2.bad by rw [hD]] at hz
        exact hz
end Go.Sx

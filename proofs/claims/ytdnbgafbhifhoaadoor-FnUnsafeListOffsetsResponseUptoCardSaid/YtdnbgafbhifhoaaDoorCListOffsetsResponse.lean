import Derived.Test.YtdnbgafbhifhoaaDoorSxTab
import Derived.Test.YtdnbgafbhifhoaaDoorBListOffsetsResponse
import Derived.Test.YtdnbgafbhifhoaaDoorRK2
import Derived.KernelRfl
set_option linter.unusedVariables false
set_option linter.unusedSimpArgs false
set_option maxRecDepth 100000
set_option maxHeartbeats 20000000
namespace Go.Sx
open Go.Proofs
theorem def_ListOffsetsResponseTopicPartition {H : Fz} {L : Own} {b o : Nat} {pre post : List Value} {c0 c1 c2 c3 c4 c5 c6 : Value} (ho : o = pre.length) :
    Fn Tryd.prog 207 [.pointer (some ⟨b, o, none⟩)] H ([(b, .cells (pre ++ ([c0, c1, c2, c3, c4, c5, c6] : List Value) ++ post).toArray 224 (0, 0))] :: L) (fun _ H' L' => H = H' ∧ L' = [(b, .cells (pre ++ ([c0, c1, c2, .int .i64 (-1), .int .i64 (-1), .int .i32 (-1), c6] : List Value) ++ post).toArray 224 (0, 0))] :: L) := by
  refine Fn.mk Tryd.call207 Tryd.func207 rfl Tryd.ntmps207 rfl ?_
  refine sr ?_
  refine mv rfl rfl ?_
  refine nc rfl rfl ?_
  refine fa F224_3 rfl rfl ?_
  refine stM (off := 3) Tryd.sizeOf2 rfl (by rw [ho]) rfl rfl rfl .head ?_
  refine nl ?_
  refine sr ?_
  refine mv rfl rfl ?_
  refine nc rfl rfl ?_
  refine fa F224_4 rfl rfl ?_
  refine stM (off := 4) Tryd.sizeOf2 rfl (by rw [ho]) rfl rfl rfl .head ?_
  refine nl ?_
  refine rg ?_
  refine mv rfl rfl ?_
  refine nc rfl rfl ?_
  refine fa F224_5 rfl rfl ?_
  refine stM (off := 5) Tryd.sizeOf21 rfl (by rw [ho]) rfl rfl rfl .head ?_
  refine nN ?_
  exact fun _ _ hA hw => rn rfl (Fz.le.refl _) ⟨rfl, rfl⟩ hA hw
theorem def_ListOffsetsResponseTopic {H : Fz} {L : Own} {b o : Nat} {pre post : List Value} {c0 c1 c2 : Value} (ho : o = pre.length) :
    Fn Tryd.prog 206 [.pointer (some ⟨b, o, none⟩)] H ([(b, .cells (pre ++ ([c0, c1, c2] : List Value) ++ post).toArray 153 (0, 0))] :: L) (fun _ H' L' => H = H' ∧ L' = [(b, .cells (pre ++ ([c0, c1, c2] : List Value) ++ post).toArray 153 (0, 0))] :: L) := by
  refine Fn.mk Tryd.call206 Tryd.func206 rfl Tryd.ntmps206 rfl ?_
  refine skN ?_
  exact fun _ _ hA hw => rn rfl (Fz.le.refl _) ⟨rfl, rfl⟩ hA hw
theorem def0_ListOffsetsResponse {H : Fz} {L : Own} {b : Nat} {c0 c1 c2 c3 : Value} :
    Fn Tryd.prog 147 [.pointer (some ⟨b, 0, none⟩)] H ([(b, .cells [c0, c1, c2, c3].toArray 148 (0, 0))] :: L) (fun _ H' L' => H = H' ∧ L' = [(b, .cells [c0, c1, c2, c3].toArray 148 (0, 0))] :: L) := by
  refine Fn.mk Tryd.call147 Tryd.func147 rfl Tryd.ntmps147 rfl ?_
  refine skN ?_
  exact fun _ _ hA hw => rn rfl (Fz.le.refl _) ⟨rfl, rfl⟩ hA hw
theorem rd_ListOffsetsResponse_f {H : Fz} {L : Own} {b : Nat} {v : Int} {a : Option Addr} {c : Nat} {s : List UInt8} {e : Value} (hB : BytesAt H a c s) (hL_ : s.length ≤ BR) (he : H.at 1 0 [e]) (hv0 : 0 ≤ v) (hv1 : v ≤ 5) :
    Fn Tryd.prog 148 [.pointer (some ⟨b, 0, none⟩), .slice a s.length c, .bool false] H ([(b, .cells [.int .i16 v, .int .i32 0, .slice none 0 0, .map none].toArray 148 (0, 0))] :: L) (fun r H' L' => ∃ cs : List Value, L' = [(b, .cells cs.toArray 148 (0, 0))] :: L ∧ RdEnd H' (At_ListOffsetsResponse v) (decP fs_ListOffsetsResponse v false ⟨s, false, !a.isNone⟩) e r cs) := by
  refine Fn.mk Tryd.call148 Tryd.func148 rfl Tryd.ntmps148 rfl ?_
  refine sr ?_
  refine asg rfl rfl ?_
  refine nl ?_
  refine sr ?_
  refine mv rfl rfl ?_
  refine cl rfl rfl rfl def0_ListOffsetsResponse rfl (fun v_ H1 L1 hle_ hR_ => ?_)
  obtain ⟨rfl, rfl⟩ := hR_
  refine nl ?_
  refine sr ?_
  refine mv rfl rfl ?_
  refine bd' S193 rfl rfl rfl ?_
  refine al Tryd.zeroValue193 rfl rfl (fun b_1 => ?_)
  refine sa Tryd.sizeOf193 rfl rfl rfl rfl rfl .head ?_
  have hR0_ : RdAt H 193 b_1 ⟨s, false, !a.isNone⟩ [(b_1, .cells [_, _].toArray 193 (0, 0))] := ⟨a, c, rfl, hB, by simp⟩
  obtain ⟨x0, hx0⟩ : ∃ x, x = stepF (Fd.mk 3 2 (-1) (-1) (-1) 0 0 []) v false ⟨s, false, !a.isNone⟩ := ⟨_, rfl⟩
  obtain ⟨x1, hx1⟩ : ∃ x, x = stepF (Fd.mk 11 0 (-1) (-1) (-1) 0 10 fs_sListOffsetsResponseTopic) v false x0.2 := ⟨_, rfl⟩
  obtain ⟨u, hu⟩ : ∃ x, x = tailU false x1.2 := ⟨_, rfl⟩
  have hD : decP fs_ListOffsetsResponse v false ⟨s, false, !a.isNone⟩ = (.mk 0 [] false [x0.1, x1.1] u.1, u.2) := by
    generalize (⟨s, false, !a.isNone⟩ : Rd) = r_ at hx0 ⊢
    rw [decP_eq]; unfold fs_ListOffsetsResponse; simp only [decFs_cons, decFs_nil, ← hx0, ← hx1, ← hu]
  have hL0 : x0.2.s.length ≤ BR := by rw [hx0]; exact Nat.le_trans (stepF_shr _ _ _ _) hL_
  have hL1 : x1.2.s.length ≤ BR := by rw [hx1]; exact Nat.le_trans (stepF_shr _ _ _ _) hL0
  have hE : u.2.bad = true → (decP fs_ListOffsetsResponse v false ⟨s, false, !a.isNone⟩).2.bad = true := fun h => by rw [hD]; exact h
  have hB1 : x1.2.bad = true → (decP fs_ListOffsetsResponse v false ⟨s, false, !a.isNone⟩).2.bad = true := fun h => hE (by rw [hu]; exact tailU_bad h)
  have hB0 : x0.2.bad = true → (decP fs_ListOffsetsResponse v false ⟨s, false, !a.isNone⟩).2.bad = true := fun h => hB1 (by rw [hx1]; exact step_bad h)
  refine nl ?_
  refine sr ?_
  refine mv rfl rfl ?_
  refine nc rfl rfl ?_
  refine fa0 F148_0 rfl rfl ?_
  refine ld (Says.own (.tail .head)) Tryd.isAgg45 rfl (Nat.zero_add _).symm rfl rfl ?_
  refine asg rfl rfl ?_
  refine nl ?_
  refine sr ?_
  refine mv rfl rfl ?_
  refine nl ?_
  refine sr ?_
  refine mv rfl rfl ?_
  refine ge rfl rfl rfl ?_
  refine asg rfl rfl ?_
  refine nl ?_
  refine sr ?_
  refine mv rfl rfl ?_
  refine nl ?_
  refine sr ?_
  refine mv rfl rfl ?_
  refine asg rfl rfl ?_
  refine nl ?_
  refine sq ?_
  refine sr ?_
  refine mv rfl rfl ?_
  refine ge rfl rfl rfl ?_
  refine nl ?_
  refine cutT (fun l' H' L' => ∃ (Nj0 : Chunk), [(2, .bool false), (7, .pointer (some ⟨b_1, 0, none⟩)), (8, .int .i16 v), (9, .bool (decide ((6 : Int) ≤ v))), (10, .pointer (some ⟨b, 0, none⟩))] = l' ∧ Nj0 :: [(b, .cells [.int .i16 v, .int .i32 (IntKind.i32.wrap x0.1.n), .slice none 0 0, .map none].toArray 148 (0, 0))] :: L = L' ∧ RdAt H' 193 b_1 x0.2 Nj0) ?_ (fun l' H' L' le_2 hI => ?_)
  · skip
    refine cd rfl (fun h49 => ?_) (fun h49 => ?_)
    · skip
      refine sr ?_
      have ex0 : x0 = decV 3 (decP [] v false) false false ⟨s, false, !a.isNone⟩ := (hx0.trans (step_yes (by decide) (show (2 : Int) ≤ v by omega) (Or.inl (by decide)))).trans (decF'_val (by decide) (rfl))
      refine cl rfl rfl rfl (d3 hR0_ ex0) rfl (fun v_ H1 L1 hle_ hR_ => ?_)
      obtain ⟨N50, rfl, hR50, rfl, rfl⟩ := hR_
      refine asg rfl rfl ?_
      refine nl ?_
      refine rg ?_
      refine mv rfl rfl ?_
      refine mv rfl rfl ?_
      refine nc rfl rfl ?_
      refine fa0 F148_1 rfl rfl ?_
      refine st Tryd.sizeOf21 rfl rfl rfl rfl (.tail .head) ?_
      refine nN ?_
      refine fun a_ w_ hA hw => ⟨_, _, _, hA.sub ?_, (Fz.le.refl _), hw, N50, rfl, rfl, hR50⟩
      exact (.cons rfl (.cons rfl (.cons rfl (.cons rfl (.cons rfl (.nil _))))))
    · skip
      refine skN ?_
      obtain rfl : x0 = ((Tr.mk 0 [] false [] []), ⟨s, false, !a.isNone⟩) := (hx0.trans (step_no (Or.inl (show v < (2 : Int) by omega)))).trans (by rw [dflF_eq]; rfl)
      refine fun a_ w_ hA hw => ⟨_, _, _, hA.sub ?_, (Fz.le.refl _), hw, [(b_1, .cells [_, _].toArray 193 (0, 0))], rfl, rfl, hR0_⟩
      exact (.cons rfl (.cons rfl (.cons rfl (.cons rfl (.cons rfl (.nil _))))))
  · skip
    obtain ⟨Nj0, rfl, rfl, pj0⟩ := hI
    have hRj0 := pj0
    refine sq ?_
    refine sr ?_
    refine mv rfl rfl ?_
    refine nc rfl rfl ?_
    refine fa0 F148_2 rfl rfl ?_
    refine ld (Says.own (.tail .head)) Tryd.isAgg146 rfl (Nat.zero_add _).symm rfl rfl ?_
    refine asg rfl rfl ?_
    refine nl ?_
    refine sr ?_
    refine mv rfl rfl ?_
    refine asg rfl rfl ?_
    refine nl ?_
    refine sr ?_
    refine asg rfl rfl ?_
    refine nl ?_
    refine sq ?_
    refine sr ?_
    refine mv rfl rfl ?_
    refine nl ?_
    refine cdF rfl (by omega) ?_
    refine rg ?_
    have ey1 : x1 = (.mk 0 [] (if 0 ≤ ((-1) : Int) ∧ (v < ((-1) : Int) ∨ (rArr false x0.2).1 = 0) then false else decide ((rArr false x0.2).1 ≤ 0)) (rMany (decV 10 (decP fs_sListOffsetsResponseTopic v false) false false) (rArr false x0.2).1.toNat (rArr false x0.2).2).1 [], (rMany (decV 10 (decP fs_sListOffsetsResponseTopic v false) false false) (rArr false x0.2).1.toNat (rArr false x0.2).2).2) := (hx1.trans (step_yes (by decide) (show (0 : Int) ≤ v by omega) (Or.inl (by decide)))).trans (decF'_list rfl rfl)
    have hn1 : (rArr false x0.2).1.toNat = (lT x1.1).length := by rw [ey1]; exact (lT_many nul_le).symm
    have ex1 := ey1
    rw [hn1] at ex1
    have hl1 := rArr_le false x0.2
    have hm1 : (rArr false x0.2).2.s.length ≤ BR := Nat.le_trans (rArr_len false x0.2) hL0
    have hnb1 : (lT x1.1).length ≤ BR := by omega
    refine cl rfl rfl rfl (r_arrf hRj0) rfl (fun v_ H1 L1 hle_ hR_ => ?_)
    obtain ⟨rfl, N62, rfl, hR62, rfl⟩ := hR_
    have hh1 := rArr_hi false x0.2
    refine asg rfl rfl ?_
    refine nl ?_
    refine sq ?_
    refine sr ?_
    refine cl rfl rfl rfl (r_ok hR62) rfl (fun v_ H1 L1 hle_ hR_ => ?_)
    obtain ⟨rfl, rfl, rfl⟩ := hR_
    refine nt rfl rfl ?_
    refine nl ?_
    refine cb rfl (fun h64 => ?_) (fun h64 => ?_)
    · skip
      have hbad_ : (rArr false x0.2).2.bad = true := by simpa using h64
      refine sr ?_
      refine cl rfl rfl rfl (r_complete hR62 (he.mono le_2)) rfl (fun v_ H1 L1 hle_ hR_ => ?_)
      obtain ⟨rfl, rfl, rfl⟩ := hR_
      refine asg rfl rfl ?_
      refine nl ?_
      refine drW .head ?_
      exact rT rfl rfl le_2 (fun _ _ h => h) ⟨_, rfl, RdEnd.out (hB1 (by rw [ey1]; exact rMany_bad (fun r h => decV_bad (decP_bad _ _ _) h) _ _ hbad_)) hbad_⟩
    · skip
      refine skt ?_
      refine sr ?_
      refine mv rfl rfl ?_
      refine sh' (j := 0) Tryd.runUnderlying146 Tryd.sizeOf153 rfl rfl rfl (Nat.zero_le _) rfl ?_
      refine asg rfl rfl ?_
      refine nl ?_
      refine sq ?_
      refine sr ?_
      refine mv rfl rfl ?_
      refine gt rfl rfl rfl ?_
      refine nl ?_
      refine nulC2 ?_
      refine cutT (fun l' H' L' => ∃ (a1 : Option Addr), ∃ (c1 : Nat), ∃ (Nr1 : Chunk), [(2, .bool false), (7, .pointer (some ⟨b_1, 0, none⟩)), (8, .int .i16 v), (9, .bool (decide ((6 : Int) ≤ v))), (10, .pointer (some ⟨b, 0, none⟩)), (12, .slice none 0 0), (13, .slice a1 (lT x1.1).length c1), (14, .int .i32 (rArr false x0.2).1)] = l' ∧ Nr1 :: N62 :: [(b, .cells [.int .i16 v, .int .i32 (IntKind.i32.wrap x0.1.n), .slice none 0 0, .map none].toArray 148 (0, 0))] :: L = L' ∧ Row 153 3 a1 (lT x1.1).length c1 (reps [.string ⟨#[]⟩, .slice none 0 0, .map none] (lT x1.1).length) Nr1 ∧ a1.isNone = (if 0 ≤ ((-1) : Int) ∧ (v < ((-1) : Int) ∨ (rArr false x0.2).1 = 0) then false else decide ((rArr false x0.2).1 ≤ 0))) ?_ (fun l' H' L' le_4 hI => ?_)
      · skip
        refine cd rfl (fun h69 => ?_) (fun h69 => ?_)
        · skip
          refine rg ?_
          refine mv rfl rfl ?_
          refine mv rfl rfl ?_
          refine apz (zs := [.string ⟨#[]⟩, .slice none 0 0, .map none]) (m := (lT x1.1).length) Tryd.underlying146 Tryd.underlying21 I153 rfl rfl rfl (by omega) (by omega) (by have h9 := hnb1; unfold BR at h9; omega) (by have h9 := hnb1; unfold BR at h9; unfold maxLen; omega) rfl (fun g72 cp72 N72 r72 => ?_)
          refine asg rfl rfl ?_
          refine nN ?_
          refine drN (.tail .head) ?_
          refine fun a_ w_ hA hw => ⟨_, _, _, hA.sub ?_, (Fz.le.refl _), hw, (some ⟨g72, 0, none⟩), cp72, N72, rfl, rfl, r72, (by rw [if_neg (by omega)]; exact (decide_eq_false (by omega)).symm)⟩
          exact (.cons rfl (.cons rfl (.cons rfl (.cons rfl (.cons rfl (.cons rfl (.cons rfl (.cons rfl (.nil _)))))))))
        · skip
          refine skN ?_
          refine fun a_ w_ hA hw => ⟨_, _, _, hA.sub ?_, (Fz.le.refl _), hw, none, 0, [], rfl, rfl, (by rw [show (lT x1.1).length = 0 by omega]; exact (Row.nil _ _)), (by rw [if_neg (by omega)]; exact (decide_eq_true (by omega)).symm)⟩
          exact (.cons rfl (.cons rfl (.cons rfl (.cons rfl (.cons rfl (.cons rfl (.cons (by rw [show (lT x1.1).length = 0 by omega]; rfl) (.cons rfl (.nil _)))))))))
      · skip
        obtain ⟨a1, c1, Nr1, rfl, rfl, pj0, pj1⟩ := hI
        have hr1 := pj0
        have hi1 := pj1
        refine sq ?_
        refine sr ?_
        refine asg rfl rfl ?_
        refine nl ?_
        refine bl (lp ((lT x1.1).length) (fun k1 l' H' L' => ∃ (es1 : List (KE 3)) (M1 RN1 : Chunk), [(2, .bool false), (7, .pointer (some ⟨b_1, 0, none⟩)), (8, .int .i16 v), (9, .bool (decide ((6 : Int) ≤ v))), (10, .pointer (some ⟨b, 0, none⟩)), (12, .slice none 0 0), (13, .slice a1 (lT x1.1).length c1), (14, .int .i32 (rArr false x0.2).1), (15, .int .i32 (k1 : Int))] = l' ∧ M1 :: RN1 :: [(b, .cells [.int .i16 v, .int .i32 (IntKind.i32.wrap x0.1.n), .slice none 0 0, .map none].toArray 148 (0, 0))] :: L = L' ∧ RdAt H' 193 b_1 (rMany (decV 10 (decP fs_sListOffsetsResponseTopic v false) false false) k1 (rArr false x0.2).2).2 RN1 ∧ Row 153 3 a1 (lT x1.1).length c1 (es1.flatMap fk ++ reps [.string ⟨#[]⟩, .slice none 0 0, .map none] ((lT x1.1).length - k1)) M1 ∧ es1.map (·.2) = (rMany (decV 10 (decP fs_sListOffsetsResponseTopic v false) false false) k1 (rArr false x0.2).2).1 ∧ ∀ p ∈ es1, At_ListOffsetsResponseTopic H' p.2 (fk p)) [(2, .bool false), (7, .pointer (some ⟨b_1, 0, none⟩)), (8, .int .i16 v), (9, .bool (decide ((6 : Int) ≤ v))), (10, .pointer (some ⟨b, 0, none⟩)), (12, .slice none 0 0), (13, .slice a1 (lT x1.1).length c1), (14, .int .i32 (rArr false x0.2).1), (15, .int .i32 (0 : Int))] (.cons rfl (.cons rfl (.cons rfl (.cons rfl (.cons rfl (.cons rfl (.cons rfl (.cons rfl (.cons rfl (.nil _)))))))))) ⟨[], Nr1, _, rfl, rfl, (hR62.mono le_4), hr1, rfl, (fun p hp => by cases hp)⟩ (fun k1 l' H' L' hk1 le_5 hI => ?_))
        obtain ⟨es1, M1, RN1, rfl, rfl, hR_1, hw_1, he_1, hg_1⟩ := hI
        have hs_1 := els_len he_1
        have hp_1 : (es1.flatMap fk).length = k1 * 3 := els_flat hs_1
        refine sq ?_
        refine sr ?_
        refine mv rfl rfl ?_
        refine mv rfl rfl ?_
        refine lt rfl rfl rfl ?_
        refine nl ?_
        refine cd rfl (fun h75 => ?_) (fun h75 => ?_)
        · skip
          have hkl1 : k1 < (lT x1.1).length := by omega
          obtain ⟨g1, po1, hga1, rfl, hbk1⟩ := hw_1.next (zs := [.string ⟨#[]⟩, .slice none 0 0, .map none]) hkl1 rfl (by decide)
          have ho1 : 0 + k1 * 3 = (es1.flatMap fk).length := by rw [hp_1]; omega
          have hbz1 : ((decV 10 (decP fs_sListOffsetsResponseTopic v false) false false) (rMany (decV 10 (decP fs_sListOffsetsResponseTopic v false) false false) k1 (rArr false x0.2).2).2).2.bad = true → (decP fs_ListOffsetsResponse v false ⟨s, false, !a.isNone⟩).2.bad = true := fun h => hB1 (by rw [ex1]; exact rMany_mono (fun r h => decV_bad (fun r h => decP_bad _ _ _ r h) h) _ (show k1 + 1 ≤ (lT x1.1).length from hkl1) (by rw [rMany_succ]; exact h))
          have hLk1 : (rMany (decV 10 (decP fs_sListOffsetsResponseTopic v false) false false) k1 (rArr false x0.2).2).2.s.length ≤ BR := Nat.le_trans (rMany_shr (fun r => decV_shr (fun r => decP_shr _ _ _ r) r) _ _) hm1
          have hL1__ := hLk1
          obtain ⟨x1_0, hx1_0⟩ : ∃ x, x = stepF (Fd.mk 8 0 (-1) (-1) (-1) 0 0 []) v false (rMany (decV 10 (decP fs_sListOffsetsResponseTopic v false) false false) k1 (rArr false x0.2).2).2 := ⟨_, rfl⟩
          obtain ⟨x1_1, hx1_1⟩ : ∃ x, x = stepF (Fd.mk 11 0 (-1) (-1) (-1) 0 10 fs_sListOffsetsResponseTopicPartition) v false x1_0.2 := ⟨_, rfl⟩
          obtain ⟨u1_, hu1_⟩ : ∃ x, x = tailU false x1_1.2 := ⟨_, rfl⟩
          have hD1_ : decP fs_sListOffsetsResponseTopic v false (rMany (decV 10 (decP fs_sListOffsetsResponseTopic v false) false false) k1 (rArr false x0.2).2).2 = (.mk 0 [] false [x1_0.1, x1_1.1] u1_.1, u1_.2) := by
            generalize ((rMany (decV 10 (decP fs_sListOffsetsResponseTopic v false) false false) k1 (rArr false x0.2).2).2 : Rd) = r_ at hx1_0 ⊢
            rw [decP_eq]; unfold fs_sListOffsetsResponseTopic; simp only [decFs_cons, decFs_nil, ← hx1_0, ← hx1_1, ← hu1_]
          have hL1_0 : x1_0.2.s.length ≤ BR := by rw [hx1_0]; exact Nat.le_trans (stepF_shr _ _ _ _) hL1__
          have hL1_1 : x1_1.2.s.length ≤ BR := by rw [hx1_1]; exact Nat.le_trans (stepF_shr _ _ _ _) hL1_0
          have hE1_ : u1_.2.bad = true → (decP fs_ListOffsetsResponse v false ⟨s, false, !a.isNone⟩).2.bad = true := fun h => hbz1 (by show (decP fs_sListOffsetsResponseTopic v false (rMany (decV 10 (decP fs_sListOffsetsResponseTopic v false) false false) k1 (rArr false x0.2).2).2).2.bad = true; rw [hD1_]; exact h)
          have hB1_1 : x1_1.2.bad = true → (decP fs_ListOffsetsResponse v false ⟨s, false, !a.isNone⟩).2.bad = true := fun h => hE1_ (by rw [hu1_]; exact tailU_bad h)
          have hB1_0 : x1_0.2.bad = true → (decP fs_ListOffsetsResponse v false ⟨s, false, !a.isNone⟩).2.bad = true := fun h => hB1_1 (by rw [hx1_1]; exact step_bad h)
          refine skt ?_
          refine sq ?_
          refine bl ?_
          refine sr ?_
          refine mv rfl rfl ?_
          refine mv rfl rfl ?_
          refine ixk (j := k1) Tryd.runUnderlying146 Tryd.sizeOf153 rfl hga1 rfl rfl hkl1 rfl ?_
          refine asg rfl rfl ?_
          refine nl ?_
          refine sr ?_
          refine mv rfl rfl ?_
          refine cl rfl rfl rfl (def_ListOffsetsResponseTopic ho1) rfl (fun v_ H1 L1 hle_ hR_ => ?_)
          obtain ⟨rfl, rfl⟩ := hR_
          refine nl ?_
          refine sr ?_
          refine mv rfl rfl ?_
          refine asg rfl rfl ?_
          refine nl ?_
          refine sq ?_
          refine sr ?_
          refine asg rfl rfl ?_
          refine nl ?_
          refine sq ?_
          refine sr ?_
          refine mv rfl rfl ?_
          refine nl ?_
          refine cF rfl ?_
          refine sr ?_
          refine mv rfl rfl ?_
          refine nl ?_
          refine cdF rfl (by omega) ?_
          refine rg ?_
          refine tf (.tail .head) ?_
          have ex1_0 : x1_0 = decV 8 (decP [] v false) false false (rMany (decV 10 (decP fs_sListOffsetsResponseTopic v false) false false) k1 (rArr false x0.2).2).2 := (hx1_0.trans (step_yes (by decide) (show (0 : Int) ≤ v by omega) (Or.inl (by decide)))).trans (decF'_val (by decide) (rfl))
          refine cl rfl rfl rfl (d8f hR_1 ex1_0) rfl (fun v_ H1 L1 le_6 hR_ => ?_)
          obtain ⟨N90, rfl, hR90, rfl, rfl⟩ := hR_
          refine asg rfl rfl ?_
          refine nl ?_
          refine rg ?_
          refine mv rfl rfl ?_
          refine mv rfl rfl ?_
          refine nc rfl rfl ?_
          refine fa F153_0 rfl rfl ?_
          refine stM (off := 0) Tryd.sizeOf9 rfl (by rw [ho1]) rfl rfl rfl (.tail .head) ?_
          refine nl ?_
          refine sq ?_
          refine sr ?_
          refine mv rfl rfl ?_
          refine nc rfl rfl ?_
          refine fa F153_1 rfl rfl ?_
          refine ld (j := 1) (off := 0 + k1 * 3) (Says.mid (.tail .head) ho1) Tryd.isAgg151 rfl rfl rfl rfl ?_
          refine asg rfl rfl ?_
          refine nl ?_
          refine sr ?_
          refine mv rfl rfl ?_
          refine asg rfl rfl ?_
          refine nl ?_
          refine sr ?_
          refine asg rfl rfl ?_
          refine nl ?_
          refine sq ?_
          refine sr ?_
          refine mv rfl rfl ?_
          refine nl ?_
          refine cdF rfl (by omega) ?_
          refine rg ?_
          have ey1_1 : x1_1 = (.mk 0 [] (if 0 ≤ ((-1) : Int) ∧ (v < ((-1) : Int) ∨ (rArr false x1_0.2).1 = 0) then false else decide ((rArr false x1_0.2).1 ≤ 0)) (rMany (decV 10 (decP fs_sListOffsetsResponseTopicPartition v false) false false) (rArr false x1_0.2).1.toNat (rArr false x1_0.2).2).1 [], (rMany (decV 10 (decP fs_sListOffsetsResponseTopicPartition v false) false false) (rArr false x1_0.2).1.toNat (rArr false x1_0.2).2).2) := (hx1_1.trans (step_yes (by decide) (show (0 : Int) ≤ v by omega) (Or.inl (by decide)))).trans (decF'_list rfl rfl)
          have hn1_1 : (rArr false x1_0.2).1.toNat = (lT x1_1.1).length := by rw [ey1_1]; exact (lT_many nul_le).symm
          have ex1_1 := ey1_1
          rw [hn1_1] at ex1_1
          have hl1_1 := rArr_le false x1_0.2
          have hm1_1 : (rArr false x1_0.2).2.s.length ≤ BR := Nat.le_trans (rArr_len false x1_0.2) hL1_0
          have hnb1_1 : (lT x1_1.1).length ≤ BR := by omega
          refine cl rfl rfl rfl (r_arrf hR90) rfl (fun v_ H1 L1 hle_ hR_ => ?_)
          obtain ⟨rfl, N102, rfl, hR102, rfl⟩ := hR_
          have hh1_1 := rArr_hi false x1_0.2
          refine asg rfl rfl ?_
          refine nl ?_
          refine sq ?_
          refine sr ?_
          refine cl rfl rfl rfl (r_ok hR102) rfl (fun v_ H1 L1 hle_ hR_ => ?_)
          obtain ⟨rfl, rfl, rfl⟩ := hR_
          refine nt rfl rfl ?_
          refine nl ?_
          refine cb rfl (fun h104 => ?_) (fun h104 => ?_)
          · skip
            have hbad_ : (rArr false x1_0.2).2.bad = true := by simpa using h104
            refine sr ?_
            refine cl rfl rfl rfl (r_complete hR102 (he.mono (le_2.trans (le_4.trans le_5)))) rfl (fun v_ H1 L1 hle_ hR_ => ?_)
            obtain ⟨rfl, rfl, rfl⟩ := hR_
            refine asg rfl rfl ?_
            refine nl ?_
            refine drW .head ?_
            refine drW .head ?_
            exact rT rfl rfl (le_2.trans (le_4.trans le_5)) (fun _ _ h => h) ⟨_, rfl, RdEnd.out (hB1_1 (by rw [ey1_1]; exact rMany_bad (fun r h => decV_bad (decP_bad _ _ _) h) _ _ hbad_)) hbad_⟩
          · skip
            refine skt ?_
            refine sr ?_
            refine mv rfl rfl ?_
            refine sh' (j := 0) Tryd.runUnderlying151 Tryd.sizeOf224 rfl rfl rfl (Nat.zero_le _) rfl ?_
            refine asg rfl rfl ?_
            refine nl ?_
            refine sq ?_
            refine sr ?_
            refine mv rfl rfl ?_
            refine gt rfl rfl rfl ?_
            refine nl ?_
            refine nulC2 ?_
            refine cutT (fun l' H' L' => ∃ (a1_1 : Option Addr), ∃ (c1_1 : Nat), ∃ (Nr1_1 : Chunk), [(2, .bool false), (7, .pointer (some ⟨b_1, 0, none⟩)), (8, .int .i16 v), (9, .bool (decide ((6 : Int) ≤ v))), (10, .pointer (some ⟨b, 0, none⟩)), (12, .slice none 0 0), (13, .slice a1 (lT x1.1).length c1), (14, .int .i32 (rArr false x0.2).1), (15, .int .i32 (k1 : Int)), (17, .pointer (some ⟨g1, 0 + k1 * 3, none⟩)), (19, .slice none 0 0), (20, .slice a1_1 (lT x1_1.1).length c1_1), (21, .int .i32 (rArr false x1_0.2).1)] = l' ∧ Nr1_1 :: N102 :: [(g1, .cells ((es1.flatMap fk) ++ ([.string ⟨x1_0.1.s.toArray⟩, .slice none 0 0, .map none] : List Value) ++ po1).toArray 153 (0, 0))] :: [(b, .cells [.int .i16 v, .int .i32 (IntKind.i32.wrap x0.1.n), .slice none 0 0, .map none].toArray 148 (0, 0))] :: L = L' ∧ Row 224 7 a1_1 (lT x1_1.1).length c1_1 (reps [.int .i32 0, .int .i16 0, .slice none 0 0, .int .i64 0, .int .i64 0, .int .i32 0, .map none] (lT x1_1.1).length) Nr1_1 ∧ a1_1.isNone = (if 0 ≤ ((-1) : Int) ∧ (v < ((-1) : Int) ∨ (rArr false x1_0.2).1 = 0) then false else decide ((rArr false x1_0.2).1 ≤ 0))) ?_ (fun l' H' L' le_7 hI => ?_)
            · skip
              refine cd rfl (fun h109 => ?_) (fun h109 => ?_)
              · skip
                refine rg ?_
                refine mv rfl rfl ?_
                refine mv rfl rfl ?_
                refine apz (zs := [.int .i32 0, .int .i16 0, .slice none 0 0, .int .i64 0, .int .i64 0, .int .i32 0, .map none]) (m := (lT x1_1.1).length) Tryd.underlying151 Tryd.underlying21 I224 rfl rfl rfl (by omega) (by omega) (by have h9 := hnb1_1; unfold BR at h9; omega) (by have h9 := hnb1_1; unfold BR at h9; unfold maxLen; omega) rfl (fun g112 cp112 N112 r112 => ?_)
                refine asg rfl rfl ?_
                refine nN ?_
                refine drN (.tail .head) ?_
                refine fun a_ w_ hA hw => ⟨_, _, _, hA.sub ?_, (Fz.le.refl _), hw, (some ⟨g112, 0, none⟩), cp112, N112, rfl, rfl, r112, (by rw [if_neg (by omega)]; exact (decide_eq_false (by omega)).symm)⟩
                exact (.cons rfl (.cons rfl (.cons rfl (.cons rfl (.cons rfl (.cons rfl (.cons rfl (.cons rfl (.cons rfl (.cons rfl (.cons rfl (.cons rfl (.cons rfl (.nil _))))))))))))))
              · skip
                refine skN ?_
                refine fun a_ w_ hA hw => ⟨_, _, _, hA.sub ?_, (Fz.le.refl _), hw, none, 0, [], rfl, rfl, (by rw [show (lT x1_1.1).length = 0 by omega]; exact (Row.nil _ _)), (by rw [if_neg (by omega)]; exact (decide_eq_true (by omega)).symm)⟩
                exact (.cons rfl (.cons rfl (.cons rfl (.cons rfl (.cons rfl (.cons rfl (.cons rfl (.cons rfl (.cons rfl (.cons rfl (.cons rfl (.cons (by rw [show (lT x1_1.1).length = 0 by omega]; rfl) (.cons rfl (.nil _))))))))))))))
            · skip
              obtain ⟨a1_1, c1_1, Nr1_1, rfl, rfl, pj0, pj1⟩ := hI
              have hr1_1 := pj0
              have hi1_1 := pj1
              refine sq ?_
              refine sr ?_
              refine asg rfl rfl ?_
              refine nl ?_
              refine bl (lp ((lT x1_1.1).length) (fun k1_1 l' H' L' => ∃ (es1_1 : List (KE 7)) (M1_1 RN1_1 : Chunk), [(2, .bool false), (7, .pointer (some ⟨b_1, 0, none⟩)), (8, .int .i16 v), (9, .bool (decide ((6 : Int) ≤ v))), (10, .pointer (some ⟨b, 0, none⟩)), (12, .slice none 0 0), (13, .slice a1 (lT x1.1).length c1), (14, .int .i32 (rArr false x0.2).1), (15, .int .i32 (k1 : Int)), (17, .pointer (some ⟨g1, 0 + k1 * 3, none⟩)), (19, .slice none 0 0), (20, .slice a1_1 (lT x1_1.1).length c1_1), (21, .int .i32 (rArr false x1_0.2).1), (22, .int .i32 (k1_1 : Int))] = l' ∧ M1_1 :: RN1_1 :: [(g1, .cells ((es1.flatMap fk) ++ ([.string ⟨x1_0.1.s.toArray⟩, .slice none 0 0, .map none] : List Value) ++ po1).toArray 153 (0, 0))] :: [(b, .cells [.int .i16 v, .int .i32 (IntKind.i32.wrap x0.1.n), .slice none 0 0, .map none].toArray 148 (0, 0))] :: L = L' ∧ RdAt H' 193 b_1 (rMany (decV 10 (decP fs_sListOffsetsResponseTopicPartition v false) false false) k1_1 (rArr false x1_0.2).2).2 RN1_1 ∧ Row 224 7 a1_1 (lT x1_1.1).length c1_1 (es1_1.flatMap fk ++ reps [.int .i32 0, .int .i16 0, .slice none 0 0, .int .i64 0, .int .i64 0, .int .i32 0, .map none] ((lT x1_1.1).length - k1_1)) M1_1 ∧ es1_1.map (·.2) = (rMany (decV 10 (decP fs_sListOffsetsResponseTopicPartition v false) false false) k1_1 (rArr false x1_0.2).2).1 ∧ ∀ p ∈ es1_1, At_ListOffsetsResponseTopicPartition H' p.2 (fk p)) [(2, .bool false), (7, .pointer (some ⟨b_1, 0, none⟩)), (8, .int .i16 v), (9, .bool (decide ((6 : Int) ≤ v))), (10, .pointer (some ⟨b, 0, none⟩)), (12, .slice none 0 0), (13, .slice a1 (lT x1.1).length c1), (14, .int .i32 (rArr false x0.2).1), (15, .int .i32 (k1 : Int)), (17, .pointer (some ⟨g1, 0 + k1 * 3, none⟩)), (19, .slice none 0 0), (20, .slice a1_1 (lT x1_1.1).length c1_1), (21, .int .i32 (rArr false x1_0.2).1), (22, .int .i32 (0 : Int))] (.cons rfl (.cons rfl (.cons rfl (.cons rfl (.cons rfl (.cons rfl (.cons rfl (.cons rfl (.cons rfl (.cons rfl (.cons rfl (.cons rfl (.cons rfl (.cons rfl (.nil _))))))))))))))) ⟨[], Nr1_1, _, rfl, rfl, (hR102.mono le_7), hr1_1, rfl, (fun p hp => by cases hp)⟩ (fun k1_1 l' H' L' hk1_1 le_8 hI => ?_))
              obtain ⟨es1_1, M1_1, RN1_1, rfl, rfl, hR_1_1, hw_1_1, he_1_1, hg_1_1⟩ := hI
              have hs_1_1 := els_len he_1_1
              have hp_1_1 : (es1_1.flatMap fk).length = k1_1 * 7 := els_flat hs_1_1
              refine sq ?_
              refine sr ?_
              refine mv rfl rfl ?_
              refine mv rfl rfl ?_
              refine lt rfl rfl rfl ?_
              refine nl ?_
              refine cd rfl (fun h115 => ?_) (fun h115 => ?_)
              · skip
                have hkl1_1 : k1_1 < (lT x1_1.1).length := by omega
                obtain ⟨g1_1, po1_1, hga1_1, rfl, hbk1_1⟩ := hw_1_1.next (zs := [.int .i32 0, .int .i16 0, .slice none 0 0, .int .i64 0, .int .i64 0, .int .i32 0, .map none]) hkl1_1 rfl (by decide)
                have ho1_1 : 0 + k1_1 * 7 = (es1_1.flatMap fk).length := by rw [hp_1_1]; omega
                have hbz1_1 : ((decV 10 (decP fs_sListOffsetsResponseTopicPartition v false) false false) (rMany (decV 10 (decP fs_sListOffsetsResponseTopicPartition v false) false false) k1_1 (rArr false x1_0.2).2).2).2.bad = true → (decP fs_ListOffsetsResponse v false ⟨s, false, !a.isNone⟩).2.bad = true := fun h => hB1_1 (by rw [ex1_1]; exact rMany_mono (fun r h => decV_bad (fun r h => decP_bad _ _ _ r h) h) _ (show k1_1 + 1 ≤ (lT x1_1.1).length from hkl1_1) (by rw [rMany_succ]; exact h))
                have hLk1_1 : (rMany (decV 10 (decP fs_sListOffsetsResponseTopicPartition v false) false false) k1_1 (rArr false x1_0.2).2).2.s.length ≤ BR := Nat.le_trans (rMany_shr (fun r => decV_shr (fun r => decP_shr _ _ _ r) r) _ _) hm1_1
                have hL1_1__ := hLk1_1
                obtain ⟨x1_1_0, hx1_1_0⟩ : ∃ x, x = stepF (Fd.mk 3 0 (-1) (-1) (-1) 0 0 []) v false (rMany (decV 10 (decP fs_sListOffsetsResponseTopicPartition v false) false false) k1_1 (rArr false x1_0.2).2).2 := ⟨_, rfl⟩
                obtain ⟨x1_1_1, hx1_1_1⟩ : ∃ x, x = stepF (Fd.mk 2 0 (-1) (-1) (-1) 0 0 []) v false x1_1_0.2 := ⟨_, rfl⟩
                obtain ⟨x1_1_2, hx1_1_2⟩ : ∃ x, x = stepF (Fd.mk 11 0 0 (-1) (-1) 0 4 []) v false x1_1_1.2 := ⟨_, rfl⟩
                obtain ⟨x1_1_3, hx1_1_3⟩ : ∃ x, x = stepF (Fd.mk 4 1 (-1) (-1) (-1) (-1) 0 []) v false x1_1_2.2 := ⟨_, rfl⟩
                obtain ⟨x1_1_4, hx1_1_4⟩ : ∃ x, x = stepF (Fd.mk 4 1 (-1) (-1) (-1) (-1) 0 []) v false x1_1_3.2 := ⟨_, rfl⟩
                obtain ⟨x1_1_5, hx1_1_5⟩ : ∃ x, x = stepF (Fd.mk 3 4 (-1) (-1) (-1) (-1) 0 []) v false x1_1_4.2 := ⟨_, rfl⟩
                obtain ⟨u1_1_, hu1_1_⟩ : ∃ x, x = tailU false x1_1_5.2 := ⟨_, rfl⟩
                have hD1_1_ : decP fs_sListOffsetsResponseTopicPartition v false (rMany (decV 10 (decP fs_sListOffsetsResponseTopicPartition v false) false false) k1_1 (rArr false x1_0.2).2).2 = (.mk 0 [] false [x1_1_0.1, x1_1_1.1, x1_1_2.1, x1_1_3.1, x1_1_4.1, x1_1_5.1] u1_1_.1, u1_1_.2) := by
                  generalize ((rMany (decV 10 (decP fs_sListOffsetsResponseTopicPartition v false) false false) k1_1 (rArr false x1_0.2).2).2 : Rd) = r_ at hx1_1_0 ⊢
                  rw [decP_eq]; unfold fs_sListOffsetsResponseTopicPartition; simp only [decFs_cons, decFs_nil, ← hx1_1_0, ← hx1_1_1, ← hx1_1_2, ← hx1_1_3, ← hx1_1_4, ← hx1_1_5, ← hu1_1_]
                have hL1_1_0 : x1_1_0.2.s.length ≤ BR := by rw [hx1_1_0]; exact Nat.le_trans (stepF_shr _ _ _ _) hL1_1__
                have hL1_1_1 : x1_1_1.2.s.length ≤ BR := by rw [hx1_1_1]; exact Nat.le_trans (stepF_shr _ _ _ _) hL1_1_0
                have hL1_1_2 : x1_1_2.2.s.length ≤ BR := by rw [hx1_1_2]; exact Nat.le_trans (stepF_shr _ _ _ _) hL1_1_1
                have hL1_1_3 : x1_1_3.2.s.length ≤ BR := by rw [hx1_1_3]; exact Nat.le_trans (stepF_shr _ _ _ _) hL1_1_2
                have hL1_1_4 : x1_1_4.2.s.length ≤ BR := by rw [hx1_1_4]; exact Nat.le_trans (stepF_shr _ _ _ _) hL1_1_3
                have hL1_1_5 : x1_1_5.2.s.length ≤ BR := by rw [hx1_1_5]; exact Nat.le_trans (stepF_shr _ _ _ _) hL1_1_4
                have hE1_1_ : u1_1_.2.bad = true → (decP fs_ListOffsetsResponse v false ⟨s, false, !a.isNone⟩).2.bad = true := fun h => hbz1_1 (by show (decP fs_sListOffsetsResponseTopicPartition v false (rMany (decV 10 (decP fs_sListOffsetsResponseTopicPartition v false) false false) k1_1 (rArr false x1_0.2).2).2).2.bad = true; rw [hD1_1_]; exact h)
                have hB1_1_5 : x1_1_5.2.bad = true → (decP fs_ListOffsetsResponse v false ⟨s, false, !a.isNone⟩).2.bad = true := fun h => hE1_1_ (by rw [hu1_1_]; exact tailU_bad h)
                have hB1_1_4 : x1_1_4.2.bad = true → (decP fs_ListOffsetsResponse v false ⟨s, false, !a.isNone⟩).2.bad = true := fun h => hB1_1_5 (by rw [hx1_1_5]; exact step_bad h)
                have hB1_1_3 : x1_1_3.2.bad = true → (decP fs_ListOffsetsResponse v false ⟨s, false, !a.isNone⟩).2.bad = true := fun h => hB1_1_4 (by rw [hx1_1_4]; exact step_bad h)
                have hB1_1_2 : x1_1_2.2.bad = true → (decP fs_ListOffsetsResponse v false ⟨s, false, !a.isNone⟩).2.bad = true := fun h => hB1_1_3 (by rw [hx1_1_3]; exact step_bad h)
                have hB1_1_1 : x1_1_1.2.bad = true → (decP fs_ListOffsetsResponse v false ⟨s, false, !a.isNone⟩).2.bad = true := fun h => hB1_1_2 (by rw [hx1_1_2]; exact step_bad h)
                have hB1_1_0 : x1_1_0.2.bad = true → (decP fs_ListOffsetsResponse v false ⟨s, false, !a.isNone⟩).2.bad = true := fun h => hB1_1_1 (by rw [hx1_1_1]; exact step_bad h)
                refine skt ?_
                refine sq ?_
                refine bl ?_
                refine sr ?_
                refine mv rfl rfl ?_
                refine mv rfl rfl ?_
                refine ixk (j := k1_1) Tryd.runUnderlying151 Tryd.sizeOf224 rfl hga1_1 rfl rfl hkl1_1 rfl ?_
                refine asg rfl rfl ?_
                refine nl ?_
                refine sr ?_
                refine mv rfl rfl ?_
                refine cl rfl rfl rfl (def_ListOffsetsResponseTopicPartition ho1_1) rfl (fun v_ H1 L1 hle_ hR_ => ?_)
                obtain ⟨rfl, rfl⟩ := hR_
                refine nl ?_
                refine sr ?_
                refine mv rfl rfl ?_
                refine asg rfl rfl ?_
                refine nl ?_
                refine sq ?_
                refine sr ?_
                refine tf (.tail .head) ?_
                have ex1_1_0 : x1_1_0 = decV 3 (decP [] v false) false false (rMany (decV 10 (decP fs_sListOffsetsResponseTopicPartition v false) false false) k1_1 (rArr false x1_0.2).2).2 := (hx1_1_0.trans (step_yes (by decide) (show (0 : Int) ≤ v by omega) (Or.inl (by decide)))).trans (decF'_val (by decide) (rfl))
                refine cl rfl rfl rfl (d3 hR_1_1 ex1_1_0) rfl (fun v_ H1 L1 hle_ hR_ => ?_)
                obtain ⟨N124, rfl, hR124, rfl, rfl⟩ := hR_
                refine asg rfl rfl ?_
                refine nl ?_
                refine rg ?_
                refine mv rfl rfl ?_
                refine mv rfl rfl ?_
                refine nc rfl rfl ?_
                refine fa F224_0 rfl rfl ?_
                refine stM (off := 0) Tryd.sizeOf21 rfl (by rw [ho1_1]) rfl rfl rfl (.tail .head) ?_
                refine nl ?_
                refine sq ?_
                refine sr ?_
                have ex1_1_1 : x1_1_1 = decV 2 (decP [] v false) false false x1_1_0.2 := (hx1_1_1.trans (step_yes (by decide) (show (0 : Int) ≤ v by omega) (Or.inl (by decide)))).trans (decF'_val (by decide) (rfl))
                refine cl rfl rfl rfl (d2 hR124 ex1_1_1) rfl (fun v_ H1 L1 hle_ hR_ => ?_)
                obtain ⟨N129, rfl, hR129, rfl, rfl⟩ := hR_
                refine asg rfl rfl ?_
                refine nl ?_
                refine rg ?_
                refine mv rfl rfl ?_
                refine mv rfl rfl ?_
                refine nc rfl rfl ?_
                refine fa F224_1 rfl rfl ?_
                refine stM (off := 1) Tryd.sizeOf45 rfl (by rw [ho1_1]) rfl rfl rfl (.tail .head) ?_
                refine nl ?_
                refine sq ?_
                refine sr ?_
                refine mv rfl rfl ?_
                refine ge rfl rfl rfl ?_
                refine mv rfl rfl ?_
                refine spl (t := 136) rfl (fun _ => ?_) (fun hn_ => absurd (by omega) hn_)
                refine gr rfl rfl ?_
                refine mv rfl rfl ?_
                refine gr rfl rfl ?_
                refine le rfl rfl rfl ?_
                refine pk rfl rfl rfl rfl ?_
                refine nl ?_
                refine cutT (fun l' H' L' => ∃ (a1_1_2 : Option Addr), ∃ (c1_1_2 : Nat), ∃ (Nj1_1_2 : Chunk), [(2, .bool false), (7, .pointer (some ⟨b_1, 0, none⟩)), (8, .int .i16 v), (9, .bool (decide ((6 : Int) ≤ v))), (10, .pointer (some ⟨b, 0, none⟩)), (12, .slice none 0 0), (13, .slice a1 (lT x1.1).length c1), (14, .int .i32 (rArr false x0.2).1), (15, .int .i32 (k1 : Int)), (17, .pointer (some ⟨g1, 0 + k1 * 3, none⟩)), (19, .slice none 0 0), (20, .slice a1_1 (lT x1_1.1).length c1_1), (21, .int .i32 (rArr false x1_0.2).1), (22, .int .i32 (k1_1 : Int)), (24, .pointer (some ⟨g1_1, 0 + k1_1 * 7, none⟩))] = l' ∧ Nj1_1_2 :: [(g1_1, .cells ((es1_1.flatMap fk) ++ ([.int .i32 (IntKind.i32.wrap x1_1_0.1.n), .int .i16 (IntKind.i16.wrap x1_1_1.1.n), .slice a1_1_2 (lT x1_1_2.1).length c1_1_2, .int .i64 (-1), .int .i64 (-1), .int .i32 (-1), .map none] : List Value) ++ po1_1).toArray 224 (0, 0))] :: [(g1, .cells ((es1.flatMap fk) ++ ([.string ⟨x1_0.1.s.toArray⟩, .slice none 0 0, .map none] : List Value) ++ po1).toArray 153 (0, 0))] :: [(b, .cells [.int .i16 v, .int .i32 (IntKind.i32.wrap x0.1.n), .slice none 0 0, .map none].toArray 148 (0, 0))] :: L = L' ∧ RdAt H' 193 b_1 x1_1_2.2 Nj1_1_2 ∧ ListAt H' x1_1_2.1 1 RI64 a1_1_2 c1_1_2) ?_ (fun l' H' L' le_11 hI => ?_)
                · skip
                  refine cd rfl (fun h139 => ?_) (fun h139 => ?_)
                  · skip
                    refine sr ?_
                    refine mv rfl rfl ?_
                    refine nc rfl rfl ?_
                    refine fa F224_2 rfl rfl ?_
                    refine ld (j := 2) (off := 0 + k1_1 * 7) (Says.mid (.tail .head) ho1_1) Tryd.isAgg134 rfl rfl rfl rfl ?_
                    refine asg rfl rfl ?_
                    refine nl ?_
                    refine sr ?_
                    refine mv rfl rfl ?_
                    refine asg rfl rfl ?_
                    refine nl ?_
                    refine sr ?_
                    refine asg rfl rfl ?_
                    refine nl ?_
                    refine sq ?_
                    refine sr ?_
                    refine mv rfl rfl ?_
                    refine nl ?_
                    refine cdF rfl (by omega) ?_
                    refine rg ?_
                    have ey1_1_2 : x1_1_2 = (.mk 0 [] (if 0 ≤ ((-1) : Int) ∧ (v < ((-1) : Int) ∨ (rArr false x1_1_1.2).1 = 0) then false else decide ((rArr false x1_1_1.2).1 ≤ 0)) (rMany (decV 4 (decP [] v false) false false) (rArr false x1_1_1.2).1.toNat (rArr false x1_1_1.2).2).1 [], (rMany (decV 4 (decP [] v false) false false) (rArr false x1_1_1.2).1.toNat (rArr false x1_1_1.2).2).2) := (hx1_1_2.trans (step_yes (by decide) (show (0 : Int) ≤ v by omega) (Or.inr (show v ≤ (0 : Int) by omega)))).trans (decF'_list rfl rfl)
                    have hn1_1_2 : (rArr false x1_1_1.2).1.toNat = (lT x1_1_2.1).length := by rw [ey1_1_2]; exact (lT_many nul_le).symm
                    have ex1_1_2 := ey1_1_2
                    rw [hn1_1_2] at ex1_1_2
                    have hl1_1_2 := rArr_le false x1_1_1.2
                    have hm1_1_2 : (rArr false x1_1_1.2).2.s.length ≤ BR := Nat.le_trans (rArr_len false x1_1_1.2) hL1_1_1
                    have hnb1_1_2 : (lT x1_1_2.1).length ≤ BR := by omega
                    refine cl rfl rfl rfl (r_arrf hR129) rfl (fun v_ H1 L1 hle_ hR_ => ?_)
                    obtain ⟨rfl, N147, rfl, hR147, rfl⟩ := hR_
                    have hh1_1_2 := rArr_hi false x1_1_1.2
                    refine asg rfl rfl ?_
                    refine nl ?_
                    refine sq ?_
                    refine sr ?_
                    refine cl rfl rfl rfl (r_ok hR147) rfl (fun v_ H1 L1 hle_ hR_ => ?_)
                    obtain ⟨rfl, rfl, rfl⟩ := hR_
                    refine nt rfl rfl ?_
                    refine nl ?_
                    refine cb rfl (fun h149 => ?_) (fun h149 => ?_)
                    · skip
                      have hbad_ : (rArr false x1_1_1.2).2.bad = true := by simpa using h149
                      refine sr ?_
                      refine cl rfl rfl rfl (r_complete hR147 (he.mono (le_2.trans (le_4.trans (le_5.trans (le_7.trans le_8)))))) rfl (fun v_ H1 L1 hle_ hR_ => ?_)
                      obtain ⟨rfl, rfl, rfl⟩ := hR_
                      refine asg rfl rfl ?_
                      refine nl ?_
                      refine drW .head ?_
                      refine drW .head ?_
                      refine drW .head ?_
                      exact rT rfl rfl (le_2.trans (le_4.trans (le_5.trans (le_7.trans le_8)))) (fun _ _ h => h) ⟨_, rfl, RdEnd.out (hB1_1_2 (by rw [ey1_1_2]; exact rMany_bad (fun r h => decV_bad (decP_bad _ _ _) h) _ _ hbad_)) hbad_⟩
                    · skip
                      refine skt ?_
                      refine sr ?_
                      refine mv rfl rfl ?_
                      refine sh' (j := 0) Tryd.runUnderlying134 Tryd.sizeOf2 rfl rfl rfl (Nat.zero_le _) rfl ?_
                      refine asg rfl rfl ?_
                      refine nl ?_
                      refine sq ?_
                      refine sr ?_
                      refine mv rfl rfl ?_
                      refine gt rfl rfl rfl ?_
                      refine nl ?_
                      refine nulC2 ?_
                      refine cutT (fun l' H' L' => ∃ (a1_1_2 : Option Addr), ∃ (c1_1_2 : Nat), ∃ (Nr1_1_2 : Chunk), [(2, .bool false), (7, .pointer (some ⟨b_1, 0, none⟩)), (8, .int .i16 v), (9, .bool (decide ((6 : Int) ≤ v))), (10, .pointer (some ⟨b, 0, none⟩)), (12, .slice none 0 0), (13, .slice a1 (lT x1.1).length c1), (14, .int .i32 (rArr false x0.2).1), (15, .int .i32 (k1 : Int)), (17, .pointer (some ⟨g1, 0 + k1 * 3, none⟩)), (19, .slice none 0 0), (20, .slice a1_1 (lT x1_1.1).length c1_1), (21, .int .i32 (rArr false x1_0.2).1), (22, .int .i32 (k1_1 : Int)), (24, .pointer (some ⟨g1_1, 0 + k1_1 * 7, none⟩)), (27, .slice none 0 0), (28, .slice a1_1_2 (lT x1_1_2.1).length c1_1_2), (29, .int .i32 (rArr false x1_1_1.2).1)] = l' ∧ Nr1_1_2 :: N147 :: [(g1_1, .cells ((es1_1.flatMap fk) ++ ([.int .i32 (IntKind.i32.wrap x1_1_0.1.n), .int .i16 (IntKind.i16.wrap x1_1_1.1.n), .slice none 0 0, .int .i64 (-1), .int .i64 (-1), .int .i32 (-1), .map none] : List Value) ++ po1_1).toArray 224 (0, 0))] :: [(g1, .cells ((es1.flatMap fk) ++ ([.string ⟨x1_0.1.s.toArray⟩, .slice none 0 0, .map none] : List Value) ++ po1).toArray 153 (0, 0))] :: [(b, .cells [.int .i16 v, .int .i32 (IntKind.i32.wrap x0.1.n), .slice none 0 0, .map none].toArray 148 (0, 0))] :: L = L' ∧ Row 2 1 a1_1_2 (lT x1_1_2.1).length c1_1_2 (reps [.int .i64 0] (lT x1_1_2.1).length) Nr1_1_2 ∧ a1_1_2.isNone = (if 0 ≤ ((-1) : Int) ∧ (v < ((-1) : Int) ∨ (rArr false x1_1_1.2).1 = 0) then false else decide ((rArr false x1_1_1.2).1 ≤ 0))) ?_ (fun l' H' L' le_12 hI => ?_)
                      · skip
                        refine cd rfl (fun h154 => ?_) (fun h154 => ?_)
                        · skip
                          refine rg ?_
                          refine mv rfl rfl ?_
                          refine mv rfl rfl ?_
                          refine apz (zs := [.int .i64 0]) (m := (lT x1_1_2.1).length) Tryd.underlying134 Tryd.underlying21 I2 rfl rfl rfl (by omega) (by omega) (by have h9 := hnb1_1_2; unfold BR at h9; omega) (by have h9 := hnb1_1_2; unfold BR at h9; unfold maxLen; omega) rfl (fun g157 cp157 N157 r157 => ?_)
                          refine asg rfl rfl ?_
                          refine nN ?_
                          refine drN (.tail .head) ?_
                          refine fun a_ w_ hA hw => ⟨_, _, _, hA.sub ?_, (Fz.le.refl _), hw, (some ⟨g157, 0, none⟩), cp157, N157, rfl, rfl, r157, (by rw [if_neg (by omega)]; exact (decide_eq_false (by omega)).symm)⟩
                          exact (.cons rfl (.cons rfl (.cons rfl (.cons rfl (.cons rfl (.cons rfl (.cons rfl (.cons rfl (.cons rfl (.cons rfl (.cons rfl (.cons rfl (.cons rfl (.cons rfl (.cons rfl (.cons rfl (.cons rfl (.cons rfl (.nil _)))))))))))))))))))
                        · skip
                          refine skN ?_
                          refine fun a_ w_ hA hw => ⟨_, _, _, hA.sub ?_, (Fz.le.refl _), hw, none, 0, [], rfl, rfl, (by rw [show (lT x1_1_2.1).length = 0 by omega]; exact (Row.nil _ _)), (by rw [if_neg (by omega)]; exact (decide_eq_true (by omega)).symm)⟩
                          exact (.cons rfl (.cons rfl (.cons rfl (.cons rfl (.cons rfl (.cons rfl (.cons rfl (.cons rfl (.cons rfl (.cons rfl (.cons rfl (.cons rfl (.cons rfl (.cons rfl (.cons rfl (.cons rfl (.cons (by rw [show (lT x1_1_2.1).length = 0 by omega]; rfl) (.cons rfl (.nil _)))))))))))))))))))
                      · skip
                        obtain ⟨a1_1_2, c1_1_2, Nr1_1_2, rfl, rfl, pj0, pj1⟩ := hI
                        have hr1_1_2 := pj0
                        have hi1_1_2 := pj1
                        refine sq ?_
                        refine sr ?_
                        refine asg rfl rfl ?_
                        refine nl ?_
                        refine bl (lp ((lT x1_1_2.1).length) (fun k1_1_2 l' H' L' => ∃ (es1_1_2 : List (KE 1)) (M1_1_2 RN1_1_2 : Chunk), [(2, .bool false), (7, .pointer (some ⟨b_1, 0, none⟩)), (8, .int .i16 v), (9, .bool (decide ((6 : Int) ≤ v))), (10, .pointer (some ⟨b, 0, none⟩)), (12, .slice none 0 0), (13, .slice a1 (lT x1.1).length c1), (14, .int .i32 (rArr false x0.2).1), (15, .int .i32 (k1 : Int)), (17, .pointer (some ⟨g1, 0 + k1 * 3, none⟩)), (19, .slice none 0 0), (20, .slice a1_1 (lT x1_1.1).length c1_1), (21, .int .i32 (rArr false x1_0.2).1), (22, .int .i32 (k1_1 : Int)), (24, .pointer (some ⟨g1_1, 0 + k1_1 * 7, none⟩)), (27, .slice none 0 0), (28, .slice a1_1_2 (lT x1_1_2.1).length c1_1_2), (29, .int .i32 (rArr false x1_1_1.2).1), (30, .int .i32 (k1_1_2 : Int))] = l' ∧ M1_1_2 :: RN1_1_2 :: [(g1_1, .cells ((es1_1.flatMap fk) ++ ([.int .i32 (IntKind.i32.wrap x1_1_0.1.n), .int .i16 (IntKind.i16.wrap x1_1_1.1.n), .slice none 0 0, .int .i64 (-1), .int .i64 (-1), .int .i32 (-1), .map none] : List Value) ++ po1_1).toArray 224 (0, 0))] :: [(g1, .cells ((es1.flatMap fk) ++ ([.string ⟨x1_0.1.s.toArray⟩, .slice none 0 0, .map none] : List Value) ++ po1).toArray 153 (0, 0))] :: [(b, .cells [.int .i16 v, .int .i32 (IntKind.i32.wrap x0.1.n), .slice none 0 0, .map none].toArray 148 (0, 0))] :: L = L' ∧ RdAt H' 193 b_1 (rMany (decV 4 (decP [] v false) false false) k1_1_2 (rArr false x1_1_1.2).2).2 RN1_1_2 ∧ Row 2 1 a1_1_2 (lT x1_1_2.1).length c1_1_2 (es1_1_2.flatMap fk ++ reps [.int .i64 0] ((lT x1_1_2.1).length - k1_1_2)) M1_1_2 ∧ es1_1_2.map (·.2) = (rMany (decV 4 (decP [] v false) false false) k1_1_2 (rArr false x1_1_1.2).2).1 ∧ ∀ p ∈ es1_1_2, RI64 H' p.2 (fk p)) [(2, .bool false), (7, .pointer (some ⟨b_1, 0, none⟩)), (8, .int .i16 v), (9, .bool (decide ((6 : Int) ≤ v))), (10, .pointer (some ⟨b, 0, none⟩)), (12, .slice none 0 0), (13, .slice a1 (lT x1.1).length c1), (14, .int .i32 (rArr false x0.2).1), (15, .int .i32 (k1 : Int)), (17, .pointer (some ⟨g1, 0 + k1 * 3, none⟩)), (19, .slice none 0 0), (20, .slice a1_1 (lT x1_1.1).length c1_1), (21, .int .i32 (rArr false x1_0.2).1), (22, .int .i32 (k1_1 : Int)), (24, .pointer (some ⟨g1_1, 0 + k1_1 * 7, none⟩)), (27, .slice none 0 0), (28, .slice a1_1_2 (lT x1_1_2.1).length c1_1_2), (29, .int .i32 (rArr false x1_1_1.2).1), (30, .int .i32 (0 : Int))] (.cons rfl (.cons rfl (.cons rfl (.cons rfl (.cons rfl (.cons rfl (.cons rfl (.cons rfl (.cons rfl (.cons rfl (.cons rfl (.cons rfl (.cons rfl (.cons rfl (.cons rfl (.cons rfl (.cons rfl (.cons rfl (.cons rfl (.nil _)))))))))))))))))))) ⟨[], Nr1_1_2, _, rfl, rfl, (hR147.mono le_12), hr1_1_2, rfl, (fun p hp => by cases hp)⟩ (fun k1_1_2 l' H' L' hk1_1_2 le_13 hI => ?_))
                        obtain ⟨es1_1_2, M1_1_2, RN1_1_2, rfl, rfl, hR_1_1_2, hw_1_1_2, he_1_1_2, hg_1_1_2⟩ := hI
                        have hs_1_1_2 := els_len he_1_1_2
                        have hp_1_1_2 : (es1_1_2.flatMap fk).length = k1_1_2 * 1 := els_flat hs_1_1_2
                        refine sq ?_
                        refine sr ?_
                        refine mv rfl rfl ?_
                        refine mv rfl rfl ?_
                        refine lt rfl rfl rfl ?_
                        refine nl ?_
                        refine cd rfl (fun h160 => ?_) (fun h160 => ?_)
                        · skip
                          have hkl1_1_2 : k1_1_2 < (lT x1_1_2.1).length := by omega
                          obtain ⟨g1_1_2, po1_1_2, hga1_1_2, rfl, hbk1_1_2⟩ := hw_1_1_2.next (zs := [.int .i64 0]) hkl1_1_2 rfl (by decide)
                          have ho1_1_2 : 0 + k1_1_2 * 1 = (es1_1_2.flatMap fk).length := by rw [hp_1_1_2]; omega
                          have hbz1_1_2 : ((decV 4 (decP [] v false) false false) (rMany (decV 4 (decP [] v false) false false) k1_1_2 (rArr false x1_1_1.2).2).2).2.bad = true → (decP fs_ListOffsetsResponse v false ⟨s, false, !a.isNone⟩).2.bad = true := fun h => hB1_1_2 (by rw [ex1_1_2]; exact rMany_mono (fun r h => decV_bad (fun r h => decP_bad _ _ _ r h) h) _ (show k1_1_2 + 1 ≤ (lT x1_1_2.1).length from hkl1_1_2) (by rw [rMany_succ]; exact h))
                          have hLk1_1_2 : (rMany (decV 4 (decP [] v false) false false) k1_1_2 (rArr false x1_1_1.2).2).2.s.length ≤ BR := Nat.le_trans (rMany_shr (fun r => decV_shr (fun r => decP_shr _ _ _ r) r) _ _) hm1_1_2
                          obtain ⟨y1_1_2, hy1_1_2⟩ : ∃ x, x = (decV 4 (decP [] v false) false false) (rMany (decV 4 (decP [] v false) false false) k1_1_2 (rArr false x1_1_1.2).2).2 := ⟨_, rfl⟩
                          refine skt ?_
                          refine sq ?_
                          refine bl ?_
                          refine sr ?_
                          refine tf (.tail .head) ?_
                          refine cl rfl rfl rfl (d4 hR_1_1_2 hy1_1_2) rfl (fun v_ H1 L1 hle_ hR_ => ?_)
                          obtain ⟨N163, rfl, hR163, rfl, rfl⟩ := hR_
                          refine asg rfl rfl ?_
                          refine nl ?_
                          refine rg ?_
                          refine mv rfl rfl ?_
                          refine mv rfl rfl ?_
                          refine mv rfl rfl ?_
                          refine ixk (j := k1_1_2) Tryd.runUnderlying134 Tryd.sizeOf2 rfl hga1_1_2 rfl rfl hkl1_1_2 rfl ?_
                          refine stM (off := 0) Tryd.sizeOf2 rfl ho1_1_2 rfl rfl rfl (.tail .head) ?_
                          refine nN ?_
                          refine Nb ?_
                          refine Nt ?_
                          refine rg ?_
                          refine mv rfl rfl ?_
                          refine ad rfl rfl (c := ((k1_1_2 + 1 : Nat) : Int)) ((wrap32_le (by omega) (by omega)).trans (by omega)) rfl ?_
                          refine asg rfl rfl ?_
                          refine nN ?_
                          have hfs1_1_2 := flatMap_snoc' fk es1_1_2 ((⟨([.int .i64 y1_1_2.1.n] : List Value), rfl, all_one rfl⟩, ((decV 4 (decP [] v false) false false) (rMany (decV 4 (decP [] v false) false false) k1_1_2 (rArr false x1_1_1.2).2).2).1) : KE 1)
                          have hrw1_1_2 := hbk1_1_2 ([.int .i64 y1_1_2.1.n] : List Value) rfl
                          refine tfN (.tail .head) ?_
                          refine fun a_ w_ hA hw => ⟨hkl1_1_2, _, _, _, hA.sub ?_, le_13, hw, _, _, _, rfl, rfl, (by rw [rMany_succ, ← hy1_1_2]; exact hR163), (by rw [← hfs1_1_2]; exact hrw1_1_2), (dec_els he_1_1_2), (fun p hp => (mem_snoc hp).elim (fun h => RI64.mono _ _ _ _ (Fz.le.refl _) (hg_1_1_2 p h)) (fun h => h ▸ (by show RI64 _ ((decV 4 (decP [] v false) false false) (rMany (decV 4 (decP [] v false) false false) k1_1_2 (rArr false x1_1_1.2).2).2).1 [.int .i64 y1_1_2.1.n]; rw [← hy1_1_2]; rfl)))⟩
                          exact (.cons rfl (.cons rfl (.cons rfl (.cons rfl (.cons rfl (.cons rfl (.cons rfl (.cons rfl (.cons rfl (.cons rfl (.cons rfl (.cons rfl (.cons rfl (.cons rfl (.cons rfl (.cons rfl (.cons rfl (.cons rfl (.cons rfl (.nil _))))))))))))))))))))
                        · skip
                          have hkn_ : k1_1_2 = (lT x1_1_2.1).length := by omega
                          subst hkn_
                          have hw2_1_1_2 : Row 2 1 a1_1_2 (lT x1_1_2.1).length c1_1_2 (es1_1_2.flatMap fk) M1_1_2 := by have h := hw_1_1_2; rw [Nat.sub_self] at h; simpa [reps] using h
                          refine frW hw2_1_1_2 .head (fun Hf1_1_2 hlf1_1_2 hfz1_1_2 => ?_)
                          have hrs1_1_2 := RowsAt.row (R := RI64) hfz1_1_2 hs_1_1_2.symm hw2_1_1_2.le.1 (fun p hp => RI64.mono _ _ _ _ hlf1_1_2 (hg_1_1_2 p hp))
                          rw [he_1_1_2] at hrs1_1_2
                          have hf1_1_2 : ListAt Hf1_1_2 x1_1_2.1 1 RI64 a1_1_2 c1_1_2 := by rw [ex1_1_2]; exact listAt_of hrs1_1_2 hi1_1_2 (fun h => by have h1 := nul_le h; rw [show (lT x1_1_2.1).length = 0 by omega]; rfl)
                          have hRx1_1_2 : RdAt Hf1_1_2 193 b_1 x1_1_2.2 RN1_1_2 := by rw [ex1_1_2]; exact (hR_1_1_2.mono hlf1_1_2)
                          refine exX ?_
                          refine XT ?_
                          refine XT ?_
                          refine Xb ?_
                          refine Nt ?_
                          refine sr ?_
                          refine mv rfl rfl ?_
                          refine asg rfl rfl ?_
                          refine nl ?_
                          refine rg ?_
                          refine mv rfl rfl ?_
                          refine mv rfl rfl ?_
                          refine nc rfl rfl ?_
                          refine fa F224_2 rfl rfl ?_
                          refine stM (off := 2) Tryd.sizeOf134 rfl (by rw [ho1_1]) rfl rfl rfl (.tail .head) ?_
                          refine nN ?_
                          refine fun a_ w_ hA hw => ⟨_, _, _, hA.sub ?_, (le_12.trans (le_13.trans hlf1_1_2)), hw, a1_1_2, c1_1_2, RN1_1_2, rfl, rfl, hRx1_1_2, hf1_1_2⟩
                          exact (.cons rfl (.cons rfl (.cons rfl (.cons rfl (.cons rfl (.cons rfl (.cons rfl (.cons rfl (.cons rfl (.cons rfl (.cons rfl (.cons rfl (.cons rfl (.cons rfl (.cons rfl (.nil _))))))))))))))))
                  · skip
                    refine skN ?_
                    obtain rfl : x1_1_2 = ((Tr.mk 0 [] true [] []), x1_1_1.2) := (hx1_1_2.trans (step_no (Or.inr ⟨by decide, show (0 : Int) < v by omega⟩))).trans (by rw [dflF_eq]; rfl)
                    refine fun a_ w_ hA hw => ⟨_, _, _, hA.sub ?_, (Fz.le.refl _), hw, none, 0, N129, rfl, rfl, hR129, (ListAt.none rfl)⟩
                    exact (.cons rfl (.cons rfl (.cons rfl (.cons rfl (.cons rfl (.cons rfl (.cons rfl (.cons rfl (.cons rfl (.cons rfl (.cons rfl (.cons rfl (.cons rfl (.cons rfl (.cons rfl (.nil _))))))))))))))))
                · skip
                  obtain ⟨a1_1_2, c1_1_2, Nj1_1_2, rfl, rfl, pj0, pj1⟩ := hI
                  have hRj1_1_2 := pj0
                  have hf1_1_2 := pj1
                  refine sq ?_
                  refine sr ?_
                  refine mv rfl rfl ?_
                  refine ge rfl rfl rfl ?_
                  refine nl ?_
                  refine cutT (fun l' H' L' => ∃ (Nj1_1_3 : Chunk), [(2, .bool false), (7, .pointer (some ⟨b_1, 0, none⟩)), (8, .int .i16 v), (9, .bool (decide ((6 : Int) ≤ v))), (10, .pointer (some ⟨b, 0, none⟩)), (12, .slice none 0 0), (13, .slice a1 (lT x1.1).length c1), (14, .int .i32 (rArr false x0.2).1), (15, .int .i32 (k1 : Int)), (17, .pointer (some ⟨g1, 0 + k1 * 3, none⟩)), (19, .slice none 0 0), (20, .slice a1_1 (lT x1_1.1).length c1_1), (21, .int .i32 (rArr false x1_0.2).1), (22, .int .i32 (k1_1 : Int)), (24, .pointer (some ⟨g1_1, 0 + k1_1 * 7, none⟩))] = l' ∧ Nj1_1_3 :: [(g1_1, .cells ((es1_1.flatMap fk) ++ ([.int .i32 (IntKind.i32.wrap x1_1_0.1.n), .int .i16 (IntKind.i16.wrap x1_1_1.1.n), .slice a1_1_2 (lT x1_1_2.1).length c1_1_2, .int .i64 x1_1_3.1.n, .int .i64 (-1), .int .i32 (-1), .map none] : List Value) ++ po1_1).toArray 224 (0, 0))] :: [(g1, .cells ((es1.flatMap fk) ++ ([.string ⟨x1_0.1.s.toArray⟩, .slice none 0 0, .map none] : List Value) ++ po1).toArray 153 (0, 0))] :: [(b, .cells [.int .i16 v, .int .i32 (IntKind.i32.wrap x0.1.n), .slice none 0 0, .map none].toArray 148 (0, 0))] :: L = L' ∧ RdAt H' 193 b_1 x1_1_3.2 Nj1_1_3) ?_ (fun l' H' L' le_15 hI => ?_)
                  · skip
                    refine cd rfl (fun h174 => ?_) (fun h174 => ?_)
                    · skip
                      refine sr ?_
                      have ex1_1_3 : x1_1_3 = decV 4 (decP [] v false) false false x1_1_2.2 := (hx1_1_3.trans (step_yes (by decide) (show (1 : Int) ≤ v by omega) (Or.inl (by decide)))).trans (decF'_val (by decide) (rfl))
                      refine cl rfl rfl rfl (d4 hRj1_1_2 ex1_1_3) rfl (fun v_ H1 L1 hle_ hR_ => ?_)
                      obtain ⟨N175, rfl, hR175, rfl, rfl⟩ := hR_
                      refine asg rfl rfl ?_
                      refine nl ?_
                      refine rg ?_
                      refine mv rfl rfl ?_
                      refine mv rfl rfl ?_
                      refine nc rfl rfl ?_
                      refine fa F224_3 rfl rfl ?_
                      refine stM (off := 3) Tryd.sizeOf2 rfl (by rw [ho1_1]) rfl rfl rfl (.tail .head) ?_
                      refine nN ?_
                      refine fun a_ w_ hA hw => ⟨_, _, _, hA.sub ?_, (Fz.le.refl _), hw, N175, rfl, rfl, hR175⟩
                      exact (.cons rfl (.cons rfl (.cons rfl (.cons rfl (.cons rfl (.cons rfl (.cons rfl (.cons rfl (.cons rfl (.cons rfl (.cons rfl (.cons rfl (.cons rfl (.cons rfl (.cons rfl (.nil _))))))))))))))))
                    · skip
                      refine skN ?_
                      obtain rfl : x1_1_3 = ((Tr.mk (-1) [] false [] []), x1_1_2.2) := (hx1_1_3.trans (step_no (Or.inl (show v < (1 : Int) by omega)))).trans (by rw [dflF_eq]; rfl)
                      refine fun a_ w_ hA hw => ⟨_, _, _, hA.sub ?_, (Fz.le.refl _), hw, Nj1_1_2, rfl, rfl, hRj1_1_2⟩
                      exact (.cons rfl (.cons rfl (.cons rfl (.cons rfl (.cons rfl (.cons rfl (.cons rfl (.cons rfl (.cons rfl (.cons rfl (.cons rfl (.cons rfl (.cons rfl (.cons rfl (.cons rfl (.nil _))))))))))))))))
                  · skip
                    obtain ⟨Nj1_1_3, rfl, rfl, pj0⟩ := hI
                    have hRj1_1_3 := pj0
                    refine sq ?_
                    refine sr ?_
                    refine mv rfl rfl ?_
                    refine ge rfl rfl rfl ?_
                    refine nl ?_
                    refine cutT (fun l' H' L' => ∃ (Nj1_1_4 : Chunk), [(2, .bool false), (7, .pointer (some ⟨b_1, 0, none⟩)), (8, .int .i16 v), (9, .bool (decide ((6 : Int) ≤ v))), (10, .pointer (some ⟨b, 0, none⟩)), (12, .slice none 0 0), (13, .slice a1 (lT x1.1).length c1), (14, .int .i32 (rArr false x0.2).1), (15, .int .i32 (k1 : Int)), (17, .pointer (some ⟨g1, 0 + k1 * 3, none⟩)), (19, .slice none 0 0), (20, .slice a1_1 (lT x1_1.1).length c1_1), (21, .int .i32 (rArr false x1_0.2).1), (22, .int .i32 (k1_1 : Int)), (24, .pointer (some ⟨g1_1, 0 + k1_1 * 7, none⟩))] = l' ∧ Nj1_1_4 :: [(g1_1, .cells ((es1_1.flatMap fk) ++ ([.int .i32 (IntKind.i32.wrap x1_1_0.1.n), .int .i16 (IntKind.i16.wrap x1_1_1.1.n), .slice a1_1_2 (lT x1_1_2.1).length c1_1_2, .int .i64 x1_1_3.1.n, .int .i64 x1_1_4.1.n, .int .i32 (-1), .map none] : List Value) ++ po1_1).toArray 224 (0, 0))] :: [(g1, .cells ((es1.flatMap fk) ++ ([.string ⟨x1_0.1.s.toArray⟩, .slice none 0 0, .map none] : List Value) ++ po1).toArray 153 (0, 0))] :: [(b, .cells [.int .i16 v, .int .i32 (IntKind.i32.wrap x0.1.n), .slice none 0 0, .map none].toArray 148 (0, 0))] :: L = L' ∧ RdAt H' 193 b_1 x1_1_4.2 Nj1_1_4) ?_ (fun l' H' L' le_17 hI => ?_)
                    · skip
                      refine cd rfl (fun h181 => ?_) (fun h181 => ?_)
                      · skip
                        refine sr ?_
                        have ex1_1_4 : x1_1_4 = decV 4 (decP [] v false) false false x1_1_3.2 := (hx1_1_4.trans (step_yes (by decide) (show (1 : Int) ≤ v by omega) (Or.inl (by decide)))).trans (decF'_val (by decide) (rfl))
                        refine cl rfl rfl rfl (d4 hRj1_1_3 ex1_1_4) rfl (fun v_ H1 L1 hle_ hR_ => ?_)
                        obtain ⟨N182, rfl, hR182, rfl, rfl⟩ := hR_
                        refine asg rfl rfl ?_
                        refine nl ?_
                        refine rg ?_
                        refine mv rfl rfl ?_
                        refine mv rfl rfl ?_
                        refine nc rfl rfl ?_
                        refine fa F224_4 rfl rfl ?_
                        refine stM (off := 4) Tryd.sizeOf2 rfl (by rw [ho1_1]) rfl rfl rfl (.tail .head) ?_
                        refine nN ?_
                        refine fun a_ w_ hA hw => ⟨_, _, _, hA.sub ?_, (Fz.le.refl _), hw, N182, rfl, rfl, hR182⟩
                        exact (.cons rfl (.cons rfl (.cons rfl (.cons rfl (.cons rfl (.cons rfl (.cons rfl (.cons rfl (.cons rfl (.cons rfl (.cons rfl (.cons rfl (.cons rfl (.cons rfl (.cons rfl (.nil _))))))))))))))))
                      · skip
                        refine skN ?_
                        obtain rfl : x1_1_4 = ((Tr.mk (-1) [] false [] []), x1_1_3.2) := (hx1_1_4.trans (step_no (Or.inl (show v < (1 : Int) by omega)))).trans (by rw [dflF_eq]; rfl)
                        refine fun a_ w_ hA hw => ⟨_, _, _, hA.sub ?_, (Fz.le.refl _), hw, Nj1_1_3, rfl, rfl, hRj1_1_3⟩
                        exact (.cons rfl (.cons rfl (.cons rfl (.cons rfl (.cons rfl (.cons rfl (.cons rfl (.cons rfl (.cons rfl (.cons rfl (.cons rfl (.cons rfl (.cons rfl (.cons rfl (.cons rfl (.nil _))))))))))))))))
                    · skip
                      obtain ⟨Nj1_1_4, rfl, rfl, pj0⟩ := hI
                      have hRj1_1_4 := pj0
                      refine sq ?_
                      refine sr ?_
                      refine mv rfl rfl ?_
                      refine ge rfl rfl rfl ?_
                      refine nl ?_
                      refine cutT (fun l' H' L' => ∃ (Nj1_1_5 : Chunk), [(2, .bool false), (7, .pointer (some ⟨b_1, 0, none⟩)), (8, .int .i16 v), (9, .bool (decide ((6 : Int) ≤ v))), (10, .pointer (some ⟨b, 0, none⟩)), (12, .slice none 0 0), (13, .slice a1 (lT x1.1).length c1), (14, .int .i32 (rArr false x0.2).1), (15, .int .i32 (k1 : Int)), (17, .pointer (some ⟨g1, 0 + k1 * 3, none⟩)), (19, .slice none 0 0), (20, .slice a1_1 (lT x1_1.1).length c1_1), (21, .int .i32 (rArr false x1_0.2).1), (22, .int .i32 (k1_1 : Int)), (24, .pointer (some ⟨g1_1, 0 + k1_1 * 7, none⟩))] = l' ∧ Nj1_1_5 :: [(g1_1, .cells ((es1_1.flatMap fk) ++ ([.int .i32 (IntKind.i32.wrap x1_1_0.1.n), .int .i16 (IntKind.i16.wrap x1_1_1.1.n), .slice a1_1_2 (lT x1_1_2.1).length c1_1_2, .int .i64 x1_1_3.1.n, .int .i64 x1_1_4.1.n, .int .i32 (IntKind.i32.wrap x1_1_5.1.n), .map none] : List Value) ++ po1_1).toArray 224 (0, 0))] :: [(g1, .cells ((es1.flatMap fk) ++ ([.string ⟨x1_0.1.s.toArray⟩, .slice none 0 0, .map none] : List Value) ++ po1).toArray 153 (0, 0))] :: [(b, .cells [.int .i16 v, .int .i32 (IntKind.i32.wrap x0.1.n), .slice none 0 0, .map none].toArray 148 (0, 0))] :: L = L' ∧ RdAt H' 193 b_1 x1_1_5.2 Nj1_1_5) ?_ (fun l' H' L' le_19 hI => ?_)
                      · skip
                        refine cd rfl (fun h188 => ?_) (fun h188 => ?_)
                        · skip
                          refine sr ?_
                          have ex1_1_5 : x1_1_5 = decV 3 (decP [] v false) false false x1_1_4.2 := (hx1_1_5.trans (step_yes (by decide) (show (4 : Int) ≤ v by omega) (Or.inl (by decide)))).trans (decF'_val (by decide) (rfl))
                          refine cl rfl rfl rfl (d3 hRj1_1_4 ex1_1_5) rfl (fun v_ H1 L1 hle_ hR_ => ?_)
                          obtain ⟨N189, rfl, hR189, rfl, rfl⟩ := hR_
                          refine asg rfl rfl ?_
                          refine nl ?_
                          refine rg ?_
                          refine mv rfl rfl ?_
                          refine mv rfl rfl ?_
                          refine nc rfl rfl ?_
                          refine fa F224_5 rfl rfl ?_
                          refine stM (off := 5) Tryd.sizeOf21 rfl (by rw [ho1_1]) rfl rfl rfl (.tail .head) ?_
                          refine nN ?_
                          refine fun a_ w_ hA hw => ⟨_, _, _, hA.sub ?_, (Fz.le.refl _), hw, N189, rfl, rfl, hR189⟩
                          exact (.cons rfl (.cons rfl (.cons rfl (.cons rfl (.cons rfl (.cons rfl (.cons rfl (.cons rfl (.cons rfl (.cons rfl (.cons rfl (.cons rfl (.cons rfl (.cons rfl (.cons rfl (.nil _))))))))))))))))
                        · skip
                          refine skN ?_
                          obtain rfl : x1_1_5 = ((Tr.mk (-1) [] false [] []), x1_1_4.2) := (hx1_1_5.trans (step_no (Or.inl (show v < (4 : Int) by omega)))).trans (by rw [dflF_eq]; rfl)
                          refine fun a_ w_ hA hw => ⟨_, _, _, hA.sub ?_, (Fz.le.refl _), hw, Nj1_1_4, rfl, rfl, hRj1_1_4⟩
                          exact (.cons rfl (.cons rfl (.cons rfl (.cons rfl (.cons rfl (.cons rfl (.cons rfl (.cons rfl (.cons rfl (.cons rfl (.cons rfl (.cons rfl (.cons rfl (.cons rfl (.cons rfl (.nil _))))))))))))))))
                      · skip
                        obtain ⟨Nj1_1_5, rfl, rfl, pj0⟩ := hI
                        have hRj1_1_5 := pj0
                        refine sr ?_
                        refine mv rfl rfl ?_
                        refine nl ?_
                        refine cdF rfl (by omega) ?_
                        refine skN ?_
                        refine Nb ?_
                        refine Nt ?_
                        refine rg ?_
                        refine mv rfl rfl ?_
                        refine ad rfl rfl (c := ((k1_1 + 1 : Nat) : Int)) ((wrap32_le (by omega) (by omega)).trans (by omega)) rfl ?_
                        refine asg rfl rfl ?_
                        refine nN ?_
                        obtain rfl : u1_1_ = ([], x1_1_5.2) := hu1_1_
                        have hfs1_1 := flatMap_snoc' fk es1_1 ((⟨([.int .i32 (IntKind.i32.wrap x1_1_0.1.n), .int .i16 (IntKind.i16.wrap x1_1_1.1.n), .slice a1_1_2 (lT x1_1_2.1).length c1_1_2, .int .i64 x1_1_3.1.n, .int .i64 x1_1_4.1.n, .int .i32 (IntKind.i32.wrap x1_1_5.1.n), .map none] : List Value), rfl, all_one rfl⟩, ((decV 10 (decP fs_sListOffsetsResponseTopicPartition v false) false false) (rMany (decV 10 (decP fs_sListOffsetsResponseTopicPartition v false) false false) k1_1 (rArr false x1_0.2).2).2).1) : KE 7)
                        have hrw1_1 := hbk1_1 ([.int .i32 (IntKind.i32.wrap x1_1_0.1.n), .int .i16 (IntKind.i16.wrap x1_1_1.1.n), .slice a1_1_2 (lT x1_1_2.1).length c1_1_2, .int .i64 x1_1_3.1.n, .int .i64 x1_1_4.1.n, .int .i32 (IntKind.i32.wrap x1_1_5.1.n), .map none] : List Value) rfl
                        refine tfN (.tail .head) ?_
                        refine fun a_ w_ hA hw => ⟨hkl1_1, _, _, _, hA.sub ?_, (le_8.trans (le_11.trans (le_15.trans (le_17.trans le_19)))), hw, _, _, _, rfl, rfl, (by rw [rMany_succ]; show RdAt _ 193 b_1 (decP fs_sListOffsetsResponseTopicPartition v false (rMany (decV 10 (decP fs_sListOffsetsResponseTopicPartition v false) false false) k1_1 (rArr false x1_0.2).2).2).2 _; rw [hD1_1_]; exact hRj1_1_5), (by rw [← hfs1_1]; exact hrw1_1), (dec_els he_1_1), (fun p hp => (mem_snoc hp).elim (fun h => At_ListOffsetsResponseTopicPartition.mono _ _ _ _ (le_11.trans (le_15.trans (le_17.trans le_19))) (hg_1_1 p h)) (fun h => h ▸ (by show At_ListOffsetsResponseTopicPartition _ (decP fs_sListOffsetsResponseTopicPartition v false (rMany (decV 10 (decP fs_sListOffsetsResponseTopicPartition v false) false false) k1_1 (rArr false x1_0.2).2).2).1 [.int .i32 (IntKind.i32.wrap x1_1_0.1.n), .int .i16 (IntKind.i16.wrap x1_1_1.1.n), .slice a1_1_2 (lT x1_1_2.1).length c1_1_2, .int .i64 x1_1_3.1.n, .int .i64 x1_1_4.1.n, .int .i32 (IntKind.i32.wrap x1_1_5.1.n), .map none]; rw [hD1_1_]; exact ⟨a1_1_2, c1_1_2, none, rfl, (hf1_1_2.mono RI64.mono (le_15.trans (le_17.trans le_19))), (KvAt.nil _)⟩)))⟩
                        exact (.cons rfl (.cons rfl (.cons rfl (.cons rfl (.cons rfl (.cons rfl (.cons rfl (.cons rfl (.cons rfl (.cons rfl (.cons rfl (.cons rfl (.cons rfl (.cons rfl (.nil _)))))))))))))))
              · skip
                have hkn_ : k1_1 = (lT x1_1.1).length := by omega
                subst hkn_
                have hw2_1_1 : Row 224 7 a1_1 (lT x1_1.1).length c1_1 (es1_1.flatMap fk) M1_1 := by have h := hw_1_1; rw [Nat.sub_self] at h; simpa [reps] using h
                refine frW hw2_1_1 .head (fun Hf1_1 hlf1_1 hfz1_1 => ?_)
                have hrs1_1 := RowsAt.row (R := At_ListOffsetsResponseTopicPartition) hfz1_1 hs_1_1.symm hw2_1_1.le.1 (fun p hp => At_ListOffsetsResponseTopicPartition.mono _ _ _ _ hlf1_1 (hg_1_1 p hp))
                rw [he_1_1] at hrs1_1
                have hf1_1 : ListAt Hf1_1 x1_1.1 7 At_ListOffsetsResponseTopicPartition a1_1 c1_1 := by rw [ex1_1]; exact listAt_of hrs1_1 hi1_1 (fun h => by have h1 := nul_le h; rw [show (lT x1_1.1).length = 0 by omega]; rfl)
                have hRx1_1 : RdAt Hf1_1 193 b_1 x1_1.2 RN1_1 := by rw [ex1_1]; exact (hR_1_1.mono hlf1_1)
                refine exX ?_
                refine XT ?_
                refine XT ?_
                refine Xb ?_
                refine Nt ?_
                refine sr ?_
                refine mv rfl rfl ?_
                refine asg rfl rfl ?_
                refine nl ?_
                refine rg ?_
                refine mv rfl rfl ?_
                refine mv rfl rfl ?_
                refine nc rfl rfl ?_
                refine fa F153_1 rfl rfl ?_
                refine stM (off := 1) Tryd.sizeOf151 rfl (by rw [ho1]) rfl rfl rfl (.tail .head) ?_
                refine nl ?_
                refine sr ?_
                refine mv rfl rfl ?_
                refine nl ?_
                refine cdF rfl (by omega) ?_
                refine skN ?_
                refine Nb ?_
                refine Nt ?_
                refine rg ?_
                refine mv rfl rfl ?_
                refine ad rfl rfl (c := ((k1 + 1 : Nat) : Int)) ((wrap32_le (by omega) (by omega)).trans (by omega)) rfl ?_
                refine asg rfl rfl ?_
                refine nN ?_
                obtain rfl : u1_ = ([], x1_1.2) := hu1_
                have hfs1 := flatMap_snoc' fk es1 ((⟨([.string ⟨x1_0.1.s.toArray⟩, .slice a1_1 (lT x1_1.1).length c1_1, .map none] : List Value), rfl, all_one rfl⟩, ((decV 10 (decP fs_sListOffsetsResponseTopic v false) false false) (rMany (decV 10 (decP fs_sListOffsetsResponseTopic v false) false false) k1 (rArr false x0.2).2).2).1) : KE 3)
                have hrw1 := hbk1 ([.string ⟨x1_0.1.s.toArray⟩, .slice a1_1 (lT x1_1.1).length c1_1, .map none] : List Value) rfl
                refine tfN (.tail .head) ?_
                refine fun a_ w_ hA hw => ⟨hkl1, _, _, _, hA.sub ?_, (le_5.trans (le_7.trans (le_8.trans hlf1_1))), hw, _, _, _, rfl, rfl, (by rw [rMany_succ]; show RdAt _ 193 b_1 (decP fs_sListOffsetsResponseTopic v false (rMany (decV 10 (decP fs_sListOffsetsResponseTopic v false) false false) k1 (rArr false x0.2).2).2).2 _; rw [hD1_]; exact hRx1_1), (by rw [← hfs1]; exact hrw1), (dec_els he_1), (fun p hp => (mem_snoc hp).elim (fun h => At_ListOffsetsResponseTopic.mono _ _ _ _ (le_7.trans (le_8.trans hlf1_1)) (hg_1 p h)) (fun h => h ▸ (by show At_ListOffsetsResponseTopic _ (decP fs_sListOffsetsResponseTopic v false (rMany (decV 10 (decP fs_sListOffsetsResponseTopic v false) false false) k1 (rArr false x0.2).2).2).1 [.string ⟨x1_0.1.s.toArray⟩, .slice a1_1 (lT x1_1.1).length c1_1, .map none]; rw [hD1_]; exact ⟨a1_1, c1_1, none, rfl, hf1_1, (KvAt.nil _)⟩)))⟩
                exact (.cons rfl (.cons rfl (.cons rfl (.cons rfl (.cons rfl (.cons rfl (.cons rfl (.cons rfl (.cons rfl (.nil _))))))))))
        · skip
          have hkn_ : k1 = (lT x1.1).length := by omega
          subst hkn_
          have hw2_1 : Row 153 3 a1 (lT x1.1).length c1 (es1.flatMap fk) M1 := by have h := hw_1; rw [Nat.sub_self] at h; simpa [reps] using h
          refine frW hw2_1 .head (fun Hf1 hlf1 hfz1 => ?_)
          have hrs1 := RowsAt.row (R := At_ListOffsetsResponseTopic) hfz1 hs_1.symm hw2_1.le.1 (fun p hp => At_ListOffsetsResponseTopic.mono _ _ _ _ hlf1 (hg_1 p hp))
          rw [he_1] at hrs1
          have hf1 : ListAt Hf1 x1.1 3 At_ListOffsetsResponseTopic a1 c1 := by rw [ex1]; exact listAt_of hrs1 hi1 (fun h => by have h1 := nul_le h; rw [show (lT x1.1).length = 0 by omega]; rfl)
          have hRx1 : RdAt Hf1 193 b_1 x1.2 RN1 := by rw [ex1]; exact (hR_1.mono hlf1)
          refine exX ?_
          refine XT ?_
          refine XT ?_
          refine Xb ?_
          refine Nt ?_
          refine sr ?_
          refine mv rfl rfl ?_
          refine asg rfl rfl ?_
          refine nl ?_
          refine rg ?_
          refine mv rfl rfl ?_
          refine mv rfl rfl ?_
          refine nc rfl rfl ?_
          refine fa0 F148_2 rfl rfl ?_
          refine st Tryd.sizeOf146 rfl rfl rfl rfl (.tail .head) ?_
          refine nl ?_
          refine sq ?_
          refine sr ?_
          refine mv rfl rfl ?_
          refine nl ?_
          refine cdF rfl (by omega) ?_
          refine skt ?_
          refine sr ?_
          refine cl rfl rfl rfl (r_complete hRx1 (he.mono (le_2.trans (le_4.trans (le_5.trans hlf1))))) rfl (fun v_ H1 L1 hle_ hR_ => ?_)
          obtain ⟨rfl, rfl, rfl⟩ := hR_
          refine asg rfl rfl ?_
          refine nl ?_
          refine drW .head ?_
          obtain rfl : u = ([], x1.2) := hu
          have hA_ := (show At_ListOffsetsResponse v _ (decP fs_ListOffsetsResponse v false _).1 [.int .i16 v, .int .i32 (IntKind.i32.wrap x0.1.n), .slice a1 (lT x1.1).length c1, .map none] from (by rw [hD]; exact ⟨a1, c1, none, rfl, hf1, (KvAt.nil _)⟩))
          refine rT rfl rfl (le_2.trans (le_4.trans (le_5.trans hlf1))) (fun _ _ h => h) ⟨_, rfl, ?_⟩
          have hz := RdEnd.of (e := e) hA_
          rw [show (decP fs_ListOffsetsResponse v false _).2.bad = x1.2.bad by rw [hD]] at hz
          exact hz
theorem rd_ListOffsetsResponse_t {H : Fz} {L : Own} {b : Nat} {v : Int} {a : Option Addr} {c : Nat} {s : List UInt8} {e : Value} (hB : BytesAt H a c s) (hL_ : s.length ≤ BR) (he : H.at 1 0 [e]) (hv0 : 6 ≤ v) (hv1 : v ≤ 11) :
    Fn Tryd.prog 148 [.pointer (some ⟨b, 0, none⟩), .slice a s.length c, .bool false] H ([(b, .cells [.int .i16 v, .int .i32 0, .slice none 0 0, .map none].toArray 148 (0, 0))] :: L) (fun r H' L' => ∃ cs : List Value, L' = [(b, .cells cs.toArray 148 (0, 0))] :: L ∧ RdEnd H' (At_ListOffsetsResponse v) (decP fs_ListOffsetsResponse v true ⟨s, false, !a.isNone⟩) e r cs) := by
  refine Fn.mk Tryd.call148 Tryd.func148 rfl Tryd.ntmps148 rfl ?_
  refine sr ?_
  refine asg rfl rfl ?_
  refine nl ?_
  refine sr ?_
  refine mv rfl rfl ?_
  refine cl rfl rfl rfl def0_ListOffsetsResponse rfl (fun v_ H1 L1 hle_ hR_ => ?_)
  obtain ⟨rfl, rfl⟩ := hR_
  refine nl ?_
  refine sr ?_
  refine mv rfl rfl ?_
  refine bd' S193 rfl rfl rfl ?_
  refine al Tryd.zeroValue193 rfl rfl (fun b_1 => ?_)
  refine sa Tryd.sizeOf193 rfl rfl rfl rfl rfl .head ?_
  have hR0_ : RdAt H 193 b_1 ⟨s, false, !a.isNone⟩ [(b_1, .cells [_, _].toArray 193 (0, 0))] := ⟨a, c, rfl, hB, by simp⟩
  obtain ⟨x0, hx0⟩ : ∃ x, x = stepF (Fd.mk 3 2 (-1) (-1) (-1) 0 0 []) v true ⟨s, false, !a.isNone⟩ := ⟨_, rfl⟩
  obtain ⟨x1, hx1⟩ : ∃ x, x = stepF (Fd.mk 11 0 (-1) (-1) (-1) 0 10 fs_sListOffsetsResponseTopic) v true x0.2 := ⟨_, rfl⟩
  obtain ⟨u, hu⟩ : ∃ x, x = tailU true x1.2 := ⟨_, rfl⟩
  have hD : decP fs_ListOffsetsResponse v true ⟨s, false, !a.isNone⟩ = (.mk 0 [] false [x0.1, x1.1] u.1, u.2) := by
    generalize (⟨s, false, !a.isNone⟩ : Rd) = r_ at hx0 ⊢
    rw [decP_eq]; unfold fs_ListOffsetsResponse; simp only [decFs_cons, decFs_nil, ← hx0, ← hx1, ← hu]
  have hL0 : x0.2.s.length ≤ BR := by rw [hx0]; exact Nat.le_trans (stepF_shr _ _ _ _) hL_
  have hL1 : x1.2.s.length ≤ BR := by rw [hx1]; exact Nat.le_trans (stepF_shr _ _ _ _) hL0
  have hE : u.2.bad = true → (decP fs_ListOffsetsResponse v true ⟨s, false, !a.isNone⟩).2.bad = true := fun h => by rw [hD]; exact h
  have hB1 : x1.2.bad = true → (decP fs_ListOffsetsResponse v true ⟨s, false, !a.isNone⟩).2.bad = true := fun h => hE (by rw [hu]; exact tailU_bad h)
  have hB0 : x0.2.bad = true → (decP fs_ListOffsetsResponse v true ⟨s, false, !a.isNone⟩).2.bad = true := fun h => hB1 (by rw [hx1]; exact step_bad h)
  refine nl ?_
  refine sr ?_
  refine mv rfl rfl ?_
  refine nc rfl rfl ?_
  refine fa0 F148_0 rfl rfl ?_
  refine ld (Says.own (.tail .head)) Tryd.isAgg45 rfl (Nat.zero_add _).symm rfl rfl ?_
  refine asg rfl rfl ?_
  refine nl ?_
  refine sr ?_
  refine mv rfl rfl ?_
  refine nl ?_
  refine sr ?_
  refine mv rfl rfl ?_
  refine ge rfl rfl rfl ?_
  refine asg rfl rfl ?_
  refine nl ?_
  refine sr ?_
  refine mv rfl rfl ?_
  refine nl ?_
  refine sr ?_
  refine mv rfl rfl ?_
  refine asg rfl rfl ?_
  refine nl ?_
  refine sq ?_
  refine sr ?_
  refine mv rfl rfl ?_
  refine ge rfl rfl rfl ?_
  refine nl ?_
  refine cdT rfl (by omega) ?_
  refine sr ?_
  have ex0 : x0 = decV 3 (decP [] v true) false true ⟨s, false, !a.isNone⟩ := (hx0.trans (step_yes (by decide) (show (2 : Int) ≤ v by omega) (Or.inl (by decide)))).trans (decF'_val (by decide) (rfl))
  refine cl rfl rfl rfl (d3 hR0_ ex0) rfl (fun v_ H1 L1 hle_ hR_ => ?_)
  obtain ⟨N50, rfl, hR50, rfl, rfl⟩ := hR_
  refine asg rfl rfl ?_
  refine nl ?_
  refine rg ?_
  refine mv rfl rfl ?_
  refine mv rfl rfl ?_
  refine nc rfl rfl ?_
  refine fa0 F148_1 rfl rfl ?_
  refine st Tryd.sizeOf21 rfl rfl rfl rfl (.tail .head) ?_
  refine nl ?_
  refine sq ?_
  refine sr ?_
  refine mv rfl rfl ?_
  refine nc rfl rfl ?_
  refine fa0 F148_2 rfl rfl ?_
  refine ld (Says.own (.tail .head)) Tryd.isAgg146 rfl (Nat.zero_add _).symm rfl rfl ?_
  refine asg rfl rfl ?_
  refine nl ?_
  refine sr ?_
  refine mv rfl rfl ?_
  refine asg rfl rfl ?_
  refine nl ?_
  refine sr ?_
  refine asg rfl rfl ?_
  refine nl ?_
  refine sq ?_
  refine sr ?_
  refine mv rfl rfl ?_
  refine nl ?_
  refine cdT rfl (by omega) ?_
  refine rg ?_
  have ey1 : x1 = (.mk 0 [] (if 0 ≤ ((-1) : Int) ∧ (v < ((-1) : Int) ∨ (rArr true x0.2).1 = 0) then false else decide ((rArr true x0.2).1 ≤ 0)) (rMany (decV 10 (decP fs_sListOffsetsResponseTopic v true) false true) (rArr true x0.2).1.toNat (rArr true x0.2).2).1 [], (rMany (decV 10 (decP fs_sListOffsetsResponseTopic v true) false true) (rArr true x0.2).1.toNat (rArr true x0.2).2).2) := (hx1.trans (step_yes (by decide) (show (0 : Int) ≤ v by omega) (Or.inl (by decide)))).trans (decF'_list rfl rfl)
  have hn1 : (rArr true x0.2).1.toNat = (lT x1.1).length := by rw [ey1]; exact (lT_many nul_le).symm
  have ex1 := ey1
  rw [hn1] at ex1
  have hl1 := rArr_le true x0.2
  have hm1 : (rArr true x0.2).2.s.length ≤ BR := Nat.le_trans (rArr_len true x0.2) hL0
  have hnb1 : (lT x1.1).length ≤ BR := by omega
  refine cl rfl rfl rfl (r_arrt hR50) rfl (fun v_ H1 L1 hle_ hR_ => ?_)
  obtain ⟨rfl, N61, rfl, hR61, rfl⟩ := hR_
  have hh1 := rArr_hi true x0.2
  refine asg rfl rfl ?_
  refine nl ?_
  refine sq ?_
  refine sr ?_
  refine cl rfl rfl rfl (r_ok hR61) rfl (fun v_ H1 L1 hle_ hR_ => ?_)
  obtain ⟨rfl, rfl, rfl⟩ := hR_
  refine nt rfl rfl ?_
  refine nl ?_
  refine cb rfl (fun h64 => ?_) (fun h64 => ?_)
  · skip
    have hbad_ : (rArr true x0.2).2.bad = true := by simpa using h64
    refine sr ?_
    refine cl rfl rfl rfl (r_complete hR61 he) rfl (fun v_ H1 L1 hle_ hR_ => ?_)
    obtain ⟨rfl, rfl, rfl⟩ := hR_
    refine asg rfl rfl ?_
    refine nl ?_
    refine drW .head ?_
    exact rT rfl rfl (Fz.le.refl _) (fun _ _ h => h) ⟨_, rfl, RdEnd.out (hB1 (by rw [ey1]; exact rMany_bad (fun r h => decV_bad (decP_bad _ _ _) h) _ _ hbad_)) hbad_⟩
  · skip
    refine skt ?_
    refine sr ?_
    refine mv rfl rfl ?_
    refine sh' (j := 0) Tryd.runUnderlying146 Tryd.sizeOf153 rfl rfl rfl (Nat.zero_le _) rfl ?_
    refine asg rfl rfl ?_
    refine nl ?_
    refine sq ?_
    refine sr ?_
    refine mv rfl rfl ?_
    refine gt rfl rfl rfl ?_
    refine nl ?_
    refine nulC2 ?_
    refine cutT (fun l' H' L' => ∃ (a1 : Option Addr), ∃ (c1 : Nat), ∃ (Nr1 : Chunk), [(2, .bool false), (7, .pointer (some ⟨b_1, 0, none⟩)), (8, .int .i16 v), (9, .bool (decide ((6 : Int) ≤ v))), (10, .pointer (some ⟨b, 0, none⟩)), (12, .slice none 0 0), (13, .slice a1 (lT x1.1).length c1), (14, .int .i32 (rArr true x0.2).1)] = l' ∧ Nr1 :: N61 :: [(b, .cells [.int .i16 v, .int .i32 (IntKind.i32.wrap x0.1.n), .slice none 0 0, .map none].toArray 148 (0, 0))] :: L = L' ∧ Row 153 3 a1 (lT x1.1).length c1 (reps [.string ⟨#[]⟩, .slice none 0 0, .map none] (lT x1.1).length) Nr1 ∧ a1.isNone = (if 0 ≤ ((-1) : Int) ∧ (v < ((-1) : Int) ∨ (rArr true x0.2).1 = 0) then false else decide ((rArr true x0.2).1 ≤ 0))) ?_ (fun l' H' L' le_3 hI => ?_)
    · skip
      refine cd rfl (fun h69 => ?_) (fun h69 => ?_)
      · skip
        refine rg ?_
        refine mv rfl rfl ?_
        refine mv rfl rfl ?_
        refine apz (zs := [.string ⟨#[]⟩, .slice none 0 0, .map none]) (m := (lT x1.1).length) Tryd.underlying146 Tryd.underlying21 I153 rfl rfl rfl (by omega) (by omega) (by have h9 := hnb1; unfold BR at h9; omega) (by have h9 := hnb1; unfold BR at h9; unfold maxLen; omega) rfl (fun g72 cp72 N72 r72 => ?_)
        refine asg rfl rfl ?_
        refine nN ?_
        refine drN (.tail .head) ?_
        refine fun a_ w_ hA hw => ⟨_, _, _, hA.sub ?_, (Fz.le.refl _), hw, (some ⟨g72, 0, none⟩), cp72, N72, rfl, rfl, r72, (by rw [if_neg (by omega)]; exact (decide_eq_false (by omega)).symm)⟩
        exact (.cons rfl (.cons rfl (.cons rfl (.cons rfl (.cons rfl (.cons rfl (.cons rfl (.cons rfl (.nil _)))))))))
      · skip
        refine skN ?_
        refine fun a_ w_ hA hw => ⟨_, _, _, hA.sub ?_, (Fz.le.refl _), hw, none, 0, [], rfl, rfl, (by rw [show (lT x1.1).length = 0 by omega]; exact (Row.nil _ _)), (by rw [if_neg (by omega)]; exact (decide_eq_true (by omega)).symm)⟩
        exact (.cons rfl (.cons rfl (.cons rfl (.cons rfl (.cons rfl (.cons rfl (.cons (by rw [show (lT x1.1).length = 0 by omega]; rfl) (.cons rfl (.nil _)))))))))
    · skip
      obtain ⟨a1, c1, Nr1, rfl, rfl, pj0, pj1⟩ := hI
      have hr1 := pj0
      have hi1 := pj1
      refine sq ?_
      refine sr ?_
      refine asg rfl rfl ?_
      refine nl ?_
      refine bl (lp ((lT x1.1).length) (fun k1 l' H' L' => ∃ (es1 : List (KE 3)) (M1 RN1 : Chunk), [(2, .bool false), (7, .pointer (some ⟨b_1, 0, none⟩)), (8, .int .i16 v), (9, .bool (decide ((6 : Int) ≤ v))), (10, .pointer (some ⟨b, 0, none⟩)), (12, .slice none 0 0), (13, .slice a1 (lT x1.1).length c1), (14, .int .i32 (rArr true x0.2).1), (15, .int .i32 (k1 : Int))] = l' ∧ M1 :: RN1 :: [(b, .cells [.int .i16 v, .int .i32 (IntKind.i32.wrap x0.1.n), .slice none 0 0, .map none].toArray 148 (0, 0))] :: L = L' ∧ RdAt H' 193 b_1 (rMany (decV 10 (decP fs_sListOffsetsResponseTopic v true) false true) k1 (rArr true x0.2).2).2 RN1 ∧ Row 153 3 a1 (lT x1.1).length c1 (es1.flatMap fk ++ reps [.string ⟨#[]⟩, .slice none 0 0, .map none] ((lT x1.1).length - k1)) M1 ∧ es1.map (·.2) = (rMany (decV 10 (decP fs_sListOffsetsResponseTopic v true) false true) k1 (rArr true x0.2).2).1 ∧ ∀ p ∈ es1, At_ListOffsetsResponseTopic H' p.2 (fk p)) [(2, .bool false), (7, .pointer (some ⟨b_1, 0, none⟩)), (8, .int .i16 v), (9, .bool (decide ((6 : Int) ≤ v))), (10, .pointer (some ⟨b, 0, none⟩)), (12, .slice none 0 0), (13, .slice a1 (lT x1.1).length c1), (14, .int .i32 (rArr true x0.2).1), (15, .int .i32 (0 : Int))] (.cons rfl (.cons rfl (.cons rfl (.cons rfl (.cons rfl (.cons rfl (.cons rfl (.cons rfl (.cons rfl (.nil _)))))))))) ⟨[], Nr1, _, rfl, rfl, (hR61.mono le_3), hr1, rfl, (fun p hp => by cases hp)⟩ (fun k1 l' H' L' hk1 le_4 hI => ?_))
      obtain ⟨es1, M1, RN1, rfl, rfl, hR_1, hw_1, he_1, hg_1⟩ := hI
      have hs_1 := els_len he_1
      have hp_1 : (es1.flatMap fk).length = k1 * 3 := els_flat hs_1
      refine sq ?_
      refine sr ?_
      refine mv rfl rfl ?_
      refine mv rfl rfl ?_
      refine lt rfl rfl rfl ?_
      refine nl ?_
      refine cd rfl (fun h75 => ?_) (fun h75 => ?_)
      · skip
        have hkl1 : k1 < (lT x1.1).length := by omega
        obtain ⟨g1, po1, hga1, rfl, hbk1⟩ := hw_1.next (zs := [.string ⟨#[]⟩, .slice none 0 0, .map none]) hkl1 rfl (by decide)
        have ho1 : 0 + k1 * 3 = (es1.flatMap fk).length := by rw [hp_1]; omega
        have hbz1 : ((decV 10 (decP fs_sListOffsetsResponseTopic v true) false true) (rMany (decV 10 (decP fs_sListOffsetsResponseTopic v true) false true) k1 (rArr true x0.2).2).2).2.bad = true → (decP fs_ListOffsetsResponse v true ⟨s, false, !a.isNone⟩).2.bad = true := fun h => hB1 (by rw [ex1]; exact rMany_mono (fun r h => decV_bad (fun r h => decP_bad _ _ _ r h) h) _ (show k1 + 1 ≤ (lT x1.1).length from hkl1) (by rw [rMany_succ]; exact h))
        have hLk1 : (rMany (decV 10 (decP fs_sListOffsetsResponseTopic v true) false true) k1 (rArr true x0.2).2).2.s.length ≤ BR := Nat.le_trans (rMany_shr (fun r => decV_shr (fun r => decP_shr _ _ _ r) r) _ _) hm1
        have hL1__ := hLk1
        obtain ⟨x1_0, hx1_0⟩ : ∃ x, x = stepF (Fd.mk 8 0 (-1) (-1) (-1) 0 0 []) v true (rMany (decV 10 (decP fs_sListOffsetsResponseTopic v true) false true) k1 (rArr true x0.2).2).2 := ⟨_, rfl⟩
        obtain ⟨x1_1, hx1_1⟩ : ∃ x, x = stepF (Fd.mk 11 0 (-1) (-1) (-1) 0 10 fs_sListOffsetsResponseTopicPartition) v true x1_0.2 := ⟨_, rfl⟩
        obtain ⟨u1_, hu1_⟩ : ∃ x, x = tailU true x1_1.2 := ⟨_, rfl⟩
        have hD1_ : decP fs_sListOffsetsResponseTopic v true (rMany (decV 10 (decP fs_sListOffsetsResponseTopic v true) false true) k1 (rArr true x0.2).2).2 = (.mk 0 [] false [x1_0.1, x1_1.1] u1_.1, u1_.2) := by
          generalize ((rMany (decV 10 (decP fs_sListOffsetsResponseTopic v true) false true) k1 (rArr true x0.2).2).2 : Rd) = r_ at hx1_0 ⊢
          rw [decP_eq]; unfold fs_sListOffsetsResponseTopic; simp only [decFs_cons, decFs_nil, ← hx1_0, ← hx1_1, ← hu1_]
        have hL1_0 : x1_0.2.s.length ≤ BR := by rw [hx1_0]; exact Nat.le_trans (stepF_shr _ _ _ _) hL1__
        have hL1_1 : x1_1.2.s.length ≤ BR := by rw [hx1_1]; exact Nat.le_trans (stepF_shr _ _ _ _) hL1_0
        have hE1_ : u1_.2.bad = true → (decP fs_ListOffsetsResponse v true ⟨s, false, !a.isNone⟩).2.bad = true := fun h => hbz1 (by show (decP fs_sListOffsetsResponseTopic v true (rMany (decV 10 (decP fs_sListOffsetsResponseTopic v true) false true) k1 (rArr true x0.2).2).2).2.bad = true; rw [hD1_]; exact h)
        have hB1_1 : x1_1.2.bad = true → (decP fs_ListOffsetsResponse v true ⟨s, false, !a.isNone⟩).2.bad = true := fun h => hE1_ (by rw [hu1_]; exact tailU_bad h)
        have hB1_0 : x1_0.2.bad = true → (decP fs_ListOffsetsResponse v true ⟨s, false, !a.isNone⟩).2.bad = true := fun h => hB1_1 (by rw [hx1_1]; exact step_bad h)
        refine skt ?_
        refine sq ?_
        refine bl ?_
        refine sr ?_
        refine mv rfl rfl ?_
        refine mv rfl rfl ?_
        refine ixk (j := k1) Tryd.runUnderlying146 Tryd.sizeOf153 rfl hga1 rfl rfl hkl1 rfl ?_
        refine asg rfl rfl ?_
        refine nl ?_
        refine sr ?_
        refine mv rfl rfl ?_
        refine cl rfl rfl rfl (def_ListOffsetsResponseTopic ho1) rfl (fun v_ H1 L1 hle_ hR_ => ?_)
        obtain ⟨rfl, rfl⟩ := hR_
        refine nl ?_
        refine sr ?_
        refine mv rfl rfl ?_
        refine asg rfl rfl ?_
        refine nl ?_
        refine sq ?_
        refine sr ?_
        refine asg rfl rfl ?_
        refine nl ?_
        refine sq ?_
        refine sr ?_
        refine mv rfl rfl ?_
        refine nl ?_
        refine cF rfl ?_
        refine sr ?_
        refine mv rfl rfl ?_
        refine nl ?_
        refine cdT rfl (by omega) ?_
        refine rg ?_
        refine tf (.tail .head) ?_
        have ex1_0 : x1_0 = decV 8 (decP [] v true) false true (rMany (decV 10 (decP fs_sListOffsetsResponseTopic v true) false true) k1 (rArr true x0.2).2).2 := (hx1_0.trans (step_yes (by decide) (show (0 : Int) ≤ v by omega) (Or.inl (by decide)))).trans (decF'_val (by decide) (rfl))
        refine cl rfl rfl rfl (d8t hR_1 ex1_0) rfl (fun v_ H1 L1 le_5 hR_ => ?_)
        obtain ⟨N89, rfl, hR89, rfl, rfl⟩ := hR_
        refine asg rfl rfl ?_
        refine nl ?_
        refine rg ?_
        refine mv rfl rfl ?_
        refine mv rfl rfl ?_
        refine nc rfl rfl ?_
        refine fa F153_0 rfl rfl ?_
        refine stM (off := 0) Tryd.sizeOf9 rfl (by rw [ho1]) rfl rfl rfl (.tail .head) ?_
        refine nl ?_
        refine sq ?_
        refine sr ?_
        refine mv rfl rfl ?_
        refine nc rfl rfl ?_
        refine fa F153_1 rfl rfl ?_
        refine ld (j := 1) (off := 0 + k1 * 3) (Says.mid (.tail .head) ho1) Tryd.isAgg151 rfl rfl rfl rfl ?_
        refine asg rfl rfl ?_
        refine nl ?_
        refine sr ?_
        refine mv rfl rfl ?_
        refine asg rfl rfl ?_
        refine nl ?_
        refine sr ?_
        refine asg rfl rfl ?_
        refine nl ?_
        refine sq ?_
        refine sr ?_
        refine mv rfl rfl ?_
        refine nl ?_
        refine cdT rfl (by omega) ?_
        refine rg ?_
        have ey1_1 : x1_1 = (.mk 0 [] (if 0 ≤ ((-1) : Int) ∧ (v < ((-1) : Int) ∨ (rArr true x1_0.2).1 = 0) then false else decide ((rArr true x1_0.2).1 ≤ 0)) (rMany (decV 10 (decP fs_sListOffsetsResponseTopicPartition v true) false true) (rArr true x1_0.2).1.toNat (rArr true x1_0.2).2).1 [], (rMany (decV 10 (decP fs_sListOffsetsResponseTopicPartition v true) false true) (rArr true x1_0.2).1.toNat (rArr true x1_0.2).2).2) := (hx1_1.trans (step_yes (by decide) (show (0 : Int) ≤ v by omega) (Or.inl (by decide)))).trans (decF'_list rfl rfl)
        have hn1_1 : (rArr true x1_0.2).1.toNat = (lT x1_1.1).length := by rw [ey1_1]; exact (lT_many nul_le).symm
        have ex1_1 := ey1_1
        rw [hn1_1] at ex1_1
        have hl1_1 := rArr_le true x1_0.2
        have hm1_1 : (rArr true x1_0.2).2.s.length ≤ BR := Nat.le_trans (rArr_len true x1_0.2) hL1_0
        have hnb1_1 : (lT x1_1.1).length ≤ BR := by omega
        refine cl rfl rfl rfl (r_arrt hR89) rfl (fun v_ H1 L1 hle_ hR_ => ?_)
        obtain ⟨rfl, N101, rfl, hR101, rfl⟩ := hR_
        have hh1_1 := rArr_hi true x1_0.2
        refine asg rfl rfl ?_
        refine nl ?_
        refine sq ?_
        refine sr ?_
        refine cl rfl rfl rfl (r_ok hR101) rfl (fun v_ H1 L1 hle_ hR_ => ?_)
        obtain ⟨rfl, rfl, rfl⟩ := hR_
        refine nt rfl rfl ?_
        refine nl ?_
        refine cb rfl (fun h104 => ?_) (fun h104 => ?_)
        · skip
          have hbad_ : (rArr true x1_0.2).2.bad = true := by simpa using h104
          refine sr ?_
          refine cl rfl rfl rfl (r_complete hR101 (he.mono (le_3.trans le_4))) rfl (fun v_ H1 L1 hle_ hR_ => ?_)
          obtain ⟨rfl, rfl, rfl⟩ := hR_
          refine asg rfl rfl ?_
          refine nl ?_
          refine drW .head ?_
          refine drW .head ?_
          exact rT rfl rfl (le_3.trans le_4) (fun _ _ h => h) ⟨_, rfl, RdEnd.out (hB1_1 (by rw [ey1_1]; exact rMany_bad (fun r h => decV_bad (decP_bad _ _ _) h) _ _ hbad_)) hbad_⟩
        · skip
          refine skt ?_
          refine sr ?_
          refine mv rfl rfl ?_
          refine sh' (j := 0) Tryd.runUnderlying151 Tryd.sizeOf224 rfl rfl rfl (Nat.zero_le _) rfl ?_
          refine asg rfl rfl ?_
          refine nl ?_
          refine sq ?_
          refine sr ?_
          refine mv rfl rfl ?_
          refine gt rfl rfl rfl ?_
          refine nl ?_
          refine nulC2 ?_
          refine cutT (fun l' H' L' => ∃ (a1_1 : Option Addr), ∃ (c1_1 : Nat), ∃ (Nr1_1 : Chunk), [(2, .bool false), (7, .pointer (some ⟨b_1, 0, none⟩)), (8, .int .i16 v), (9, .bool (decide ((6 : Int) ≤ v))), (10, .pointer (some ⟨b, 0, none⟩)), (12, .slice none 0 0), (13, .slice a1 (lT x1.1).length c1), (14, .int .i32 (rArr true x0.2).1), (15, .int .i32 (k1 : Int)), (17, .pointer (some ⟨g1, 0 + k1 * 3, none⟩)), (19, .slice none 0 0), (20, .slice a1_1 (lT x1_1.1).length c1_1), (21, .int .i32 (rArr true x1_0.2).1)] = l' ∧ Nr1_1 :: N101 :: [(g1, .cells ((es1.flatMap fk) ++ ([.string ⟨x1_0.1.s.toArray⟩, .slice none 0 0, .map none] : List Value) ++ po1).toArray 153 (0, 0))] :: [(b, .cells [.int .i16 v, .int .i32 (IntKind.i32.wrap x0.1.n), .slice none 0 0, .map none].toArray 148 (0, 0))] :: L = L' ∧ Row 224 7 a1_1 (lT x1_1.1).length c1_1 (reps [.int .i32 0, .int .i16 0, .slice none 0 0, .int .i64 0, .int .i64 0, .int .i32 0, .map none] (lT x1_1.1).length) Nr1_1 ∧ a1_1.isNone = (if 0 ≤ ((-1) : Int) ∧ (v < ((-1) : Int) ∨ (rArr true x1_0.2).1 = 0) then false else decide ((rArr true x1_0.2).1 ≤ 0))) ?_ (fun l' H' L' le_6 hI => ?_)
          · skip
            refine cd rfl (fun h109 => ?_) (fun h109 => ?_)
            · skip
              refine rg ?_
              refine mv rfl rfl ?_
              refine mv rfl rfl ?_
              refine apz (zs := [.int .i32 0, .int .i16 0, .slice none 0 0, .int .i64 0, .int .i64 0, .int .i32 0, .map none]) (m := (lT x1_1.1).length) Tryd.underlying151 Tryd.underlying21 I224 rfl rfl rfl (by omega) (by omega) (by have h9 := hnb1_1; unfold BR at h9; omega) (by have h9 := hnb1_1; unfold BR at h9; unfold maxLen; omega) rfl (fun g112 cp112 N112 r112 => ?_)
              refine asg rfl rfl ?_
              refine nN ?_
              refine drN (.tail .head) ?_
              refine fun a_ w_ hA hw => ⟨_, _, _, hA.sub ?_, (Fz.le.refl _), hw, (some ⟨g112, 0, none⟩), cp112, N112, rfl, rfl, r112, (by rw [if_neg (by omega)]; exact (decide_eq_false (by omega)).symm)⟩
              exact (.cons rfl (.cons rfl (.cons rfl (.cons rfl (.cons rfl (.cons rfl (.cons rfl (.cons rfl (.cons rfl (.cons rfl (.cons rfl (.cons rfl (.cons rfl (.nil _))))))))))))))
            · skip
              refine skN ?_
              refine fun a_ w_ hA hw => ⟨_, _, _, hA.sub ?_, (Fz.le.refl _), hw, none, 0, [], rfl, rfl, (by rw [show (lT x1_1.1).length = 0 by omega]; exact (Row.nil _ _)), (by rw [if_neg (by omega)]; exact (decide_eq_true (by omega)).symm)⟩
              exact (.cons rfl (.cons rfl (.cons rfl (.cons rfl (.cons rfl (.cons rfl (.cons rfl (.cons rfl (.cons rfl (.cons rfl (.cons rfl (.cons (by rw [show (lT x1_1.1).length = 0 by omega]; rfl) (.cons rfl (.nil _))))))))))))))
          · skip
            obtain ⟨a1_1, c1_1, Nr1_1, rfl, rfl, pj0, pj1⟩ := hI
            have hr1_1 := pj0
            have hi1_1 := pj1
            refine sq ?_
            refine sr ?_
            refine asg rfl rfl ?_
            refine nl ?_
            refine bl (lp ((lT x1_1.1).length) (fun k1_1 l' H' L' => ∃ (es1_1 : List (KE 7)) (M1_1 RN1_1 : Chunk), [(2, .bool false), (7, .pointer (some ⟨b_1, 0, none⟩)), (8, .int .i16 v), (9, .bool (decide ((6 : Int) ≤ v))), (10, .pointer (some ⟨b, 0, none⟩)), (12, .slice none 0 0), (13, .slice a1 (lT x1.1).length c1), (14, .int .i32 (rArr true x0.2).1), (15, .int .i32 (k1 : Int)), (17, .pointer (some ⟨g1, 0 + k1 * 3, none⟩)), (19, .slice none 0 0), (20, .slice a1_1 (lT x1_1.1).length c1_1), (21, .int .i32 (rArr true x1_0.2).1), (22, .int .i32 (k1_1 : Int))] = l' ∧ M1_1 :: RN1_1 :: [(g1, .cells ((es1.flatMap fk) ++ ([.string ⟨x1_0.1.s.toArray⟩, .slice none 0 0, .map none] : List Value) ++ po1).toArray 153 (0, 0))] :: [(b, .cells [.int .i16 v, .int .i32 (IntKind.i32.wrap x0.1.n), .slice none 0 0, .map none].toArray 148 (0, 0))] :: L = L' ∧ RdAt H' 193 b_1 (rMany (decV 10 (decP fs_sListOffsetsResponseTopicPartition v true) false true) k1_1 (rArr true x1_0.2).2).2 RN1_1 ∧ Row 224 7 a1_1 (lT x1_1.1).length c1_1 (es1_1.flatMap fk ++ reps [.int .i32 0, .int .i16 0, .slice none 0 0, .int .i64 0, .int .i64 0, .int .i32 0, .map none] ((lT x1_1.1).length - k1_1)) M1_1 ∧ es1_1.map (·.2) = (rMany (decV 10 (decP fs_sListOffsetsResponseTopicPartition v true) false true) k1_1 (rArr true x1_0.2).2).1 ∧ ∀ p ∈ es1_1, At_ListOffsetsResponseTopicPartition H' p.2 (fk p)) [(2, .bool false), (7, .pointer (some ⟨b_1, 0, none⟩)), (8, .int .i16 v), (9, .bool (decide ((6 : Int) ≤ v))), (10, .pointer (some ⟨b, 0, none⟩)), (12, .slice none 0 0), (13, .slice a1 (lT x1.1).length c1), (14, .int .i32 (rArr true x0.2).1), (15, .int .i32 (k1 : Int)), (17, .pointer (some ⟨g1, 0 + k1 * 3, none⟩)), (19, .slice none 0 0), (20, .slice a1_1 (lT x1_1.1).length c1_1), (21, .int .i32 (rArr true x1_0.2).1), (22, .int .i32 (0 : Int))] (.cons rfl (.cons rfl (.cons rfl (.cons rfl (.cons rfl (.cons rfl (.cons rfl (.cons rfl (.cons rfl (.cons rfl (.cons rfl (.cons rfl (.cons rfl (.cons rfl (.nil _))))))))))))))) ⟨[], Nr1_1, _, rfl, rfl, (hR101.mono le_6), hr1_1, rfl, (fun p hp => by cases hp)⟩ (fun k1_1 l' H' L' hk1_1 le_7 hI => ?_))
            obtain ⟨es1_1, M1_1, RN1_1, rfl, rfl, hR_1_1, hw_1_1, he_1_1, hg_1_1⟩ := hI
            have hs_1_1 := els_len he_1_1
            have hp_1_1 : (es1_1.flatMap fk).length = k1_1 * 7 := els_flat hs_1_1
            refine sq ?_
            refine sr ?_
            refine mv rfl rfl ?_
            refine mv rfl rfl ?_
            refine lt rfl rfl rfl ?_
            refine nl ?_
            refine cd rfl (fun h115 => ?_) (fun h115 => ?_)
            · skip
              have hkl1_1 : k1_1 < (lT x1_1.1).length := by omega
              obtain ⟨g1_1, po1_1, hga1_1, rfl, hbk1_1⟩ := hw_1_1.next (zs := [.int .i32 0, .int .i16 0, .slice none 0 0, .int .i64 0, .int .i64 0, .int .i32 0, .map none]) hkl1_1 rfl (by decide)
              have ho1_1 : 0 + k1_1 * 7 = (es1_1.flatMap fk).length := by rw [hp_1_1]; omega
              have hbz1_1 : ((decV 10 (decP fs_sListOffsetsResponseTopicPartition v true) false true) (rMany (decV 10 (decP fs_sListOffsetsResponseTopicPartition v true) false true) k1_1 (rArr true x1_0.2).2).2).2.bad = true → (decP fs_ListOffsetsResponse v true ⟨s, false, !a.isNone⟩).2.bad = true := fun h => hB1_1 (by rw [ex1_1]; exact rMany_mono (fun r h => decV_bad (fun r h => decP_bad _ _ _ r h) h) _ (show k1_1 + 1 ≤ (lT x1_1.1).length from hkl1_1) (by rw [rMany_succ]; exact h))
              have hLk1_1 : (rMany (decV 10 (decP fs_sListOffsetsResponseTopicPartition v true) false true) k1_1 (rArr true x1_0.2).2).2.s.length ≤ BR := Nat.le_trans (rMany_shr (fun r => decV_shr (fun r => decP_shr _ _ _ r) r) _ _) hm1_1
              have hL1_1__ := hLk1_1
              obtain ⟨x1_1_0, hx1_1_0⟩ : ∃ x, x = stepF (Fd.mk 3 0 (-1) (-1) (-1) 0 0 []) v true (rMany (decV 10 (decP fs_sListOffsetsResponseTopicPartition v true) false true) k1_1 (rArr true x1_0.2).2).2 := ⟨_, rfl⟩
              obtain ⟨x1_1_1, hx1_1_1⟩ : ∃ x, x = stepF (Fd.mk 2 0 (-1) (-1) (-1) 0 0 []) v true x1_1_0.2 := ⟨_, rfl⟩
              obtain ⟨x1_1_2, hx1_1_2⟩ : ∃ x, x = stepF (Fd.mk 11 0 0 (-1) (-1) 0 4 []) v true x1_1_1.2 := ⟨_, rfl⟩
              obtain ⟨x1_1_3, hx1_1_3⟩ : ∃ x, x = stepF (Fd.mk 4 1 (-1) (-1) (-1) (-1) 0 []) v true x1_1_2.2 := ⟨_, rfl⟩
              obtain ⟨x1_1_4, hx1_1_4⟩ : ∃ x, x = stepF (Fd.mk 4 1 (-1) (-1) (-1) (-1) 0 []) v true x1_1_3.2 := ⟨_, rfl⟩
              obtain ⟨x1_1_5, hx1_1_5⟩ : ∃ x, x = stepF (Fd.mk 3 4 (-1) (-1) (-1) (-1) 0 []) v true x1_1_4.2 := ⟨_, rfl⟩
              obtain ⟨u1_1_, hu1_1_⟩ : ∃ x, x = tailU true x1_1_5.2 := ⟨_, rfl⟩
              have hD1_1_ : decP fs_sListOffsetsResponseTopicPartition v true (rMany (decV 10 (decP fs_sListOffsetsResponseTopicPartition v true) false true) k1_1 (rArr true x1_0.2).2).2 = (.mk 0 [] false [x1_1_0.1, x1_1_1.1, x1_1_2.1, x1_1_3.1, x1_1_4.1, x1_1_5.1] u1_1_.1, u1_1_.2) := by
                generalize ((rMany (decV 10 (decP fs_sListOffsetsResponseTopicPartition v true) false true) k1_1 (rArr true x1_0.2).2).2 : Rd) = r_ at hx1_1_0 ⊢
                rw [decP_eq]; unfold fs_sListOffsetsResponseTopicPartition; simp only [decFs_cons, decFs_nil, ← hx1_1_0, ← hx1_1_1, ← hx1_1_2, ← hx1_1_3, ← hx1_1_4, ← hx1_1_5, ← hu1_1_]
              have hL1_1_0 : x1_1_0.2.s.length ≤ BR := by rw [hx1_1_0]; exact Nat.le_trans (stepF_shr _ _ _ _) hL1_1__
              have hL1_1_1 : x1_1_1.2.s.length ≤ BR := by rw [hx1_1_1]; exact Nat.le_trans (stepF_shr _ _ _ _) hL1_1_0
              have hL1_1_2 : x1_1_2.2.s.length ≤ BR := by rw [hx1_1_2]; exact Nat.le_trans (stepF_shr _ _ _ _) hL1_1_1
              have hL1_1_3 : x1_1_3.2.s.length ≤ BR := by rw [hx1_1_3]; exact Nat.le_trans (stepF_shr _ _ _ _) hL1_1_2
              have hL1_1_4 : x1_1_4.2.s.length ≤ BR := by rw [hx1_1_4]; exact Nat.le_trans (stepF_shr _ _ _ _) hL1_1_3
              have hL1_1_5 : x1_1_5.2.s.length ≤ BR := by rw [hx1_1_5]; exact Nat.le_trans (stepF_shr _ _ _ _) hL1_1_4
              have hE1_1_ : u1_1_.2.bad = true → (decP fs_ListOffsetsResponse v true ⟨s, false, !a.isNone⟩).2.bad = true := fun h => hbz1_1 (by show (decP fs_sListOffsetsResponseTopicPartition v true (rMany (decV 10 (decP fs_sListOffsetsResponseTopicPartition v true) false true) k1_1 (rArr true x1_0.2).2).2).2.bad = true; rw [hD1_1_]; exact h)
              have hB1_1_5 : x1_1_5.2.bad = true → (decP fs_ListOffsetsResponse v true ⟨s, false, !a.isNone⟩).2.bad = true := fun h => hE1_1_ (by rw [hu1_1_]; exact tailU_bad h)
              have hB1_1_4 : x1_1_4.2.bad = true → (decP fs_ListOffsetsResponse v true ⟨s, false, !a.isNone⟩).2.bad = true := fun h => hB1_1_5 (by rw [hx1_1_5]; exact step_bad h)
              have hB1_1_3 : x1_1_3.2.bad = true → (decP fs_ListOffsetsResponse v true ⟨s, false, !a.isNone⟩).2.bad = true := fun h => hB1_1_4 (by rw [hx1_1_4]; exact step_bad h)
              have hB1_1_2 : x1_1_2.2.bad = true → (decP fs_ListOffsetsResponse v true ⟨s, false, !a.isNone⟩).2.bad = true := fun h => hB1_1_3 (by rw [hx1_1_3]; exact step_bad h)
              have hB1_1_1 : x1_1_1.2.bad = true → (decP fs_ListOffsetsResponse v true ⟨s, false, !a.isNone⟩).2.bad = true := fun h => hB1_1_2 (by rw [hx1_1_2]; exact step_bad h)
              have hB1_1_0 : x1_1_0.2.bad = true → (decP fs_ListOffsetsResponse v true ⟨s, false, !a.isNone⟩).2.bad = true := fun h => hB1_1_1 (by rw [hx1_1_1]; exact step_bad h)
              refine skt ?_
              refine sq ?_
              refine bl ?_
              refine sr ?_
              refine mv rfl rfl ?_
              refine mv rfl rfl ?_
              refine ixk (j := k1_1) Tryd.runUnderlying151 Tryd.sizeOf224 rfl hga1_1 rfl rfl hkl1_1 rfl ?_
              refine asg rfl rfl ?_
              refine nl ?_
              refine sr ?_
              refine mv rfl rfl ?_
              refine cl rfl rfl rfl (def_ListOffsetsResponseTopicPartition ho1_1) rfl (fun v_ H1 L1 hle_ hR_ => ?_)
              obtain ⟨rfl, rfl⟩ := hR_
              refine nl ?_
              refine sr ?_
              refine mv rfl rfl ?_
              refine asg rfl rfl ?_
              refine nl ?_
              refine sq ?_
              refine sr ?_
              refine tf (.tail .head) ?_
              have ex1_1_0 : x1_1_0 = decV 3 (decP [] v true) false true (rMany (decV 10 (decP fs_sListOffsetsResponseTopicPartition v true) false true) k1_1 (rArr true x1_0.2).2).2 := (hx1_1_0.trans (step_yes (by decide) (show (0 : Int) ≤ v by omega) (Or.inl (by decide)))).trans (decF'_val (by decide) (rfl))
              refine cl rfl rfl rfl (d3 hR_1_1 ex1_1_0) rfl (fun v_ H1 L1 hle_ hR_ => ?_)
              obtain ⟨N124, rfl, hR124, rfl, rfl⟩ := hR_
              refine asg rfl rfl ?_
              refine nl ?_
              refine rg ?_
              refine mv rfl rfl ?_
              refine mv rfl rfl ?_
              refine nc rfl rfl ?_
              refine fa F224_0 rfl rfl ?_
              refine stM (off := 0) Tryd.sizeOf21 rfl (by rw [ho1_1]) rfl rfl rfl (.tail .head) ?_
              refine nl ?_
              refine sq ?_
              refine sr ?_
              have ex1_1_1 : x1_1_1 = decV 2 (decP [] v true) false true x1_1_0.2 := (hx1_1_1.trans (step_yes (by decide) (show (0 : Int) ≤ v by omega) (Or.inl (by decide)))).trans (decF'_val (by decide) (rfl))
              refine cl rfl rfl rfl (d2 hR124 ex1_1_1) rfl (fun v_ H1 L1 hle_ hR_ => ?_)
              obtain ⟨N129, rfl, hR129, rfl, rfl⟩ := hR_
              refine asg rfl rfl ?_
              refine nl ?_
              refine rg ?_
              refine mv rfl rfl ?_
              refine mv rfl rfl ?_
              refine nc rfl rfl ?_
              refine fa F224_1 rfl rfl ?_
              refine stM (off := 1) Tryd.sizeOf45 rfl (by rw [ho1_1]) rfl rfl rfl (.tail .head) ?_
              refine nl ?_
              refine sq ?_
              refine sr ?_
              refine mv rfl rfl ?_
              refine ge rfl rfl rfl ?_
              refine mv rfl rfl ?_
              refine spl (t := 136) rfl (fun _ => ?_) (fun hn_ => absurd (by omega) hn_)
              refine gr rfl rfl ?_
              refine mv rfl rfl ?_
              refine gr rfl rfl ?_
              refine le rfl rfl rfl ?_
              refine pk rfl rfl rfl rfl ?_
              refine nl ?_
              refine cdF rfl (by omega) ?_
              refine skt ?_
              refine sq ?_
              refine sr ?_
              refine mv rfl rfl ?_
              refine ge rfl rfl rfl ?_
              refine nl ?_
              refine cdT rfl (by omega) ?_
              refine sr ?_
              obtain rfl : x1_1_2 = ((Tr.mk 0 [] true [] []), x1_1_1.2) := (hx1_1_2.trans (step_no (Or.inr ⟨by decide, show (0 : Int) < v by omega⟩))).trans (by rw [dflF_eq]; rfl)
              have ex1_1_3 : x1_1_3 = decV 4 (decP [] v true) false true x1_1_1.2 := (hx1_1_3.trans (step_yes (by decide) (show (1 : Int) ≤ v by omega) (Or.inl (by decide)))).trans (decF'_val (by decide) (rfl))
              refine cl rfl rfl rfl (d4 hR129 ex1_1_3) rfl (fun v_ H1 L1 hle_ hR_ => ?_)
              obtain ⟨N175, rfl, hR175, rfl, rfl⟩ := hR_
              refine asg rfl rfl ?_
              refine nl ?_
              refine rg ?_
              refine mv rfl rfl ?_
              refine mv rfl rfl ?_
              refine nc rfl rfl ?_
              refine fa F224_3 rfl rfl ?_
              refine stM (off := 3) Tryd.sizeOf2 rfl (by rw [ho1_1]) rfl rfl rfl (.tail .head) ?_
              refine nl ?_
              refine sq ?_
              refine sr ?_
              refine mv rfl rfl ?_
              refine ge rfl rfl rfl ?_
              refine nl ?_
              refine cdT rfl (by omega) ?_
              refine sr ?_
              have ex1_1_4 : x1_1_4 = decV 4 (decP [] v true) false true x1_1_3.2 := (hx1_1_4.trans (step_yes (by decide) (show (1 : Int) ≤ v by omega) (Or.inl (by decide)))).trans (decF'_val (by decide) (rfl))
              refine cl rfl rfl rfl (d4 hR175 ex1_1_4) rfl (fun v_ H1 L1 hle_ hR_ => ?_)
              obtain ⟨N182, rfl, hR182, rfl, rfl⟩ := hR_
              refine asg rfl rfl ?_
              refine nl ?_
              refine rg ?_
              refine mv rfl rfl ?_
              refine mv rfl rfl ?_
              refine nc rfl rfl ?_
              refine fa F224_4 rfl rfl ?_
              refine stM (off := 4) Tryd.sizeOf2 rfl (by rw [ho1_1]) rfl rfl rfl (.tail .head) ?_
              refine nl ?_
              refine sq ?_
              refine sr ?_
              refine mv rfl rfl ?_
              refine ge rfl rfl rfl ?_
              refine nl ?_
              refine cdT rfl (by omega) ?_
              refine sr ?_
              have ex1_1_5 : x1_1_5 = decV 3 (decP [] v true) false true x1_1_4.2 := (hx1_1_5.trans (step_yes (by decide) (show (4 : Int) ≤ v by omega) (Or.inl (by decide)))).trans (decF'_val (by decide) (rfl))
              refine cl rfl rfl rfl (d3 hR182 ex1_1_5) rfl (fun v_ H1 L1 hle_ hR_ => ?_)
              obtain ⟨N189, rfl, hR189, rfl, rfl⟩ := hR_
              refine asg rfl rfl ?_
              refine nl ?_
              refine rg ?_
              refine mv rfl rfl ?_
              refine mv rfl rfl ?_
              refine nc rfl rfl ?_
              refine fa F224_5 rfl rfl ?_
              refine stM (off := 5) Tryd.sizeOf21 rfl (by rw [ho1_1]) rfl rfl rfl (.tail .head) ?_
              refine nl ?_
              refine sr ?_
              refine mv rfl rfl ?_
              refine nl ?_
              refine cdT rfl (by omega) ?_
              refine rg ?_
              refine mv rfl rfl ?_
              refine cl rfl rfl rfl (d_tags hR189) rfl (fun v_ H1 L1 le_13 hR_ => ?_)
              obtain ⟨N196, rfl, hR196, m1_1_t, rfl, hft1_1_⟩ := hR_
              have hu21_1_ : u1_1_ = rTags x1_1_5.2 := hu1_1_
              rw [← hu21_1_] at hR196 hft1_1_
              refine nc rfl rfl ?_
              refine fa F224_6 rfl rfl ?_
              refine saM (off := 6) Tryd.sizeOf99 rfl (by rw [ho1_1]) rfl rfl rfl rfl (.tail .head) ?_
              refine nN ?_
              refine Nb ?_
              refine Nt ?_
              refine rg ?_
              refine mv rfl rfl ?_
              refine ad rfl rfl (c := ((k1_1 + 1 : Nat) : Int)) ((wrap32_le (by omega) (by omega)).trans (by omega)) rfl ?_
              refine asg rfl rfl ?_
              refine nN ?_
              have hfs1_1 := flatMap_snoc' fk es1_1 ((⟨([.int .i32 (IntKind.i32.wrap x1_1_0.1.n), .int .i16 (IntKind.i16.wrap x1_1_1.1.n), .slice none 0 0, .int .i64 x1_1_3.1.n, .int .i64 x1_1_4.1.n, .int .i32 (IntKind.i32.wrap x1_1_5.1.n), .map m1_1_t] : List Value), rfl, all_one rfl⟩, ((decV 10 (decP fs_sListOffsetsResponseTopicPartition v true) false true) (rMany (decV 10 (decP fs_sListOffsetsResponseTopicPartition v true) false true) k1_1 (rArr true x1_0.2).2).2).1) : KE 7)
              have hrw1_1 := hbk1_1 ([.int .i32 (IntKind.i32.wrap x1_1_0.1.n), .int .i16 (IntKind.i16.wrap x1_1_1.1.n), .slice none 0 0, .int .i64 x1_1_3.1.n, .int .i64 x1_1_4.1.n, .int .i32 (IntKind.i32.wrap x1_1_5.1.n), .map m1_1_t] : List Value) rfl
              refine tfN (.tail .head) ?_
              refine fun a_ w_ hA hw => ⟨hkl1_1, _, _, _, hA.sub ?_, (le_7.trans le_13), hw, _, _, _, rfl, rfl, (by rw [rMany_succ]; show RdAt _ 193 b_1 (decP fs_sListOffsetsResponseTopicPartition v true (rMany (decV 10 (decP fs_sListOffsetsResponseTopicPartition v true) false true) k1_1 (rArr true x1_0.2).2).2).2 _; rw [hD1_1_]; exact hR196), (by rw [← hfs1_1]; exact hrw1_1), (dec_els he_1_1), (fun p hp => (mem_snoc hp).elim (fun h => At_ListOffsetsResponseTopicPartition.mono _ _ _ _ le_13 (hg_1_1 p h)) (fun h => h ▸ (by show At_ListOffsetsResponseTopicPartition _ (decP fs_sListOffsetsResponseTopicPartition v true (rMany (decV 10 (decP fs_sListOffsetsResponseTopicPartition v true) false true) k1_1 (rArr true x1_0.2).2).2).1 [.int .i32 (IntKind.i32.wrap x1_1_0.1.n), .int .i16 (IntKind.i16.wrap x1_1_1.1.n), .slice none 0 0, .int .i64 x1_1_3.1.n, .int .i64 x1_1_4.1.n, .int .i32 (IntKind.i32.wrap x1_1_5.1.n), .map m1_1_t]; rw [hD1_1_]; exact ⟨none, 0, m1_1_t, rfl, (ListAt.none rfl), hft1_1_⟩)))⟩
              exact (.cons rfl (.cons rfl (.cons rfl (.cons rfl (.cons rfl (.cons rfl (.cons rfl (.cons rfl (.cons rfl (.cons rfl (.cons rfl (.cons rfl (.cons rfl (.cons rfl (.nil _)))))))))))))))
            · skip
              have hkn_ : k1_1 = (lT x1_1.1).length := by omega
              subst hkn_
              have hw2_1_1 : Row 224 7 a1_1 (lT x1_1.1).length c1_1 (es1_1.flatMap fk) M1_1 := by have h := hw_1_1; rw [Nat.sub_self] at h; simpa [reps] using h
              refine frW hw2_1_1 .head (fun Hf1_1 hlf1_1 hfz1_1 => ?_)
              have hrs1_1 := RowsAt.row (R := At_ListOffsetsResponseTopicPartition) hfz1_1 hs_1_1.symm hw2_1_1.le.1 (fun p hp => At_ListOffsetsResponseTopicPartition.mono _ _ _ _ hlf1_1 (hg_1_1 p hp))
              rw [he_1_1] at hrs1_1
              have hf1_1 : ListAt Hf1_1 x1_1.1 7 At_ListOffsetsResponseTopicPartition a1_1 c1_1 := by rw [ex1_1]; exact listAt_of hrs1_1 hi1_1 (fun h => by have h1 := nul_le h; rw [show (lT x1_1.1).length = 0 by omega]; rfl)
              have hRx1_1 : RdAt Hf1_1 193 b_1 x1_1.2 RN1_1 := by rw [ex1_1]; exact (hR_1_1.mono hlf1_1)
              refine exX ?_
              refine XT ?_
              refine XT ?_
              refine Xb ?_
              refine Nt ?_
              refine sr ?_
              refine mv rfl rfl ?_
              refine asg rfl rfl ?_
              refine nl ?_
              refine rg ?_
              refine mv rfl rfl ?_
              refine mv rfl rfl ?_
              refine nc rfl rfl ?_
              refine fa F153_1 rfl rfl ?_
              refine stM (off := 1) Tryd.sizeOf151 rfl (by rw [ho1]) rfl rfl rfl (.tail .head) ?_
              refine nl ?_
              refine sr ?_
              refine mv rfl rfl ?_
              refine nl ?_
              refine cdT rfl (by omega) ?_
              refine rg ?_
              refine mv rfl rfl ?_
              refine cl rfl rfl rfl (d_tags hRx1_1) rfl (fun v_ H1 L1 le_14 hR_ => ?_)
              obtain ⟨N206, rfl, hR206, m1_t, rfl, hft1_⟩ := hR_
              have hu21_ : u1_ = rTags x1_1.2 := hu1_
              rw [← hu21_] at hR206 hft1_
              refine nc rfl rfl ?_
              refine fa F153_2 rfl rfl ?_
              refine saM (off := 2) Tryd.sizeOf99 rfl (by rw [ho1]) rfl rfl rfl rfl (.tail .head) ?_
              refine nN ?_
              refine Nb ?_
              refine Nt ?_
              refine rg ?_
              refine mv rfl rfl ?_
              refine ad rfl rfl (c := ((k1 + 1 : Nat) : Int)) ((wrap32_le (by omega) (by omega)).trans (by omega)) rfl ?_
              refine asg rfl rfl ?_
              refine nN ?_
              have hfs1 := flatMap_snoc' fk es1 ((⟨([.string ⟨x1_0.1.s.toArray⟩, .slice a1_1 (lT x1_1.1).length c1_1, .map m1_t] : List Value), rfl, all_one rfl⟩, ((decV 10 (decP fs_sListOffsetsResponseTopic v true) false true) (rMany (decV 10 (decP fs_sListOffsetsResponseTopic v true) false true) k1 (rArr true x0.2).2).2).1) : KE 3)
              have hrw1 := hbk1 ([.string ⟨x1_0.1.s.toArray⟩, .slice a1_1 (lT x1_1.1).length c1_1, .map m1_t] : List Value) rfl
              refine tfN (.tail .head) ?_
              refine fun a_ w_ hA hw => ⟨hkl1, _, _, _, hA.sub ?_, (le_4.trans (le_6.trans (le_7.trans (hlf1_1.trans le_14)))), hw, _, _, _, rfl, rfl, (by rw [rMany_succ]; show RdAt _ 193 b_1 (decP fs_sListOffsetsResponseTopic v true (rMany (decV 10 (decP fs_sListOffsetsResponseTopic v true) false true) k1 (rArr true x0.2).2).2).2 _; rw [hD1_]; exact hR206), (by rw [← hfs1]; exact hrw1), (dec_els he_1), (fun p hp => (mem_snoc hp).elim (fun h => At_ListOffsetsResponseTopic.mono _ _ _ _ (le_6.trans (le_7.trans (hlf1_1.trans le_14))) (hg_1 p h)) (fun h => h ▸ (by show At_ListOffsetsResponseTopic _ (decP fs_sListOffsetsResponseTopic v true (rMany (decV 10 (decP fs_sListOffsetsResponseTopic v true) false true) k1 (rArr true x0.2).2).2).1 [.string ⟨x1_0.1.s.toArray⟩, .slice a1_1 (lT x1_1.1).length c1_1, .map m1_t]; rw [hD1_]; exact ⟨a1_1, c1_1, m1_t, rfl, (hf1_1.mono At_ListOffsetsResponseTopicPartition.mono le_14), hft1_⟩)))⟩
              exact (.cons rfl (.cons rfl (.cons rfl (.cons rfl (.cons rfl (.cons rfl (.cons rfl (.cons rfl (.cons rfl (.nil _))))))))))
      · skip
        have hkn_ : k1 = (lT x1.1).length := by omega
        subst hkn_
        have hw2_1 : Row 153 3 a1 (lT x1.1).length c1 (es1.flatMap fk) M1 := by have h := hw_1; rw [Nat.sub_self] at h; simpa [reps] using h
        refine frW hw2_1 .head (fun Hf1 hlf1 hfz1 => ?_)
        have hrs1 := RowsAt.row (R := At_ListOffsetsResponseTopic) hfz1 hs_1.symm hw2_1.le.1 (fun p hp => At_ListOffsetsResponseTopic.mono _ _ _ _ hlf1 (hg_1 p hp))
        rw [he_1] at hrs1
        have hf1 : ListAt Hf1 x1.1 3 At_ListOffsetsResponseTopic a1 c1 := by rw [ex1]; exact listAt_of hrs1 hi1 (fun h => by have h1 := nul_le h; rw [show (lT x1.1).length = 0 by omega]; rfl)
        have hRx1 : RdAt Hf1 193 b_1 x1.2 RN1 := by rw [ex1]; exact (hR_1.mono hlf1)
        refine exX ?_
        refine XT ?_
        refine XT ?_
        refine Xb ?_
        refine Nt ?_
        refine sr ?_
        refine mv rfl rfl ?_
        refine asg rfl rfl ?_
        refine nl ?_
        refine rg ?_
        refine mv rfl rfl ?_
        refine mv rfl rfl ?_
        refine nc rfl rfl ?_
        refine fa0 F148_2 rfl rfl ?_
        refine st Tryd.sizeOf146 rfl rfl rfl rfl (.tail .head) ?_
        refine nl ?_
        refine sq ?_
        refine sr ?_
        refine mv rfl rfl ?_
        refine nl ?_
        refine cdT rfl (by omega) ?_
        refine rg ?_
        refine mv rfl rfl ?_
        refine cl rfl rfl rfl (d_tags hRx1) rfl (fun v_ H1 L1 le_15 hR_ => ?_)
        obtain ⟨N216, rfl, hR216, mt, rfl, hft⟩ := hR_
        have hu2 : u = rTags x1.2 := hu
        rw [← hu2] at hR216 hft
        refine nc rfl rfl ?_
        refine fa0 F148_3 rfl rfl ?_
        refine sa Tryd.sizeOf99 rfl rfl rfl rfl rfl (.tail .head) ?_
        refine nl ?_
        refine sr ?_
        refine cl rfl rfl rfl (r_complete hR216 (he.mono (le_3.trans (le_4.trans (hlf1.trans le_15))))) rfl (fun v_ H1 L1 hle_ hR_ => ?_)
        obtain ⟨rfl, rfl, rfl⟩ := hR_
        refine asg rfl rfl ?_
        refine nl ?_
        refine drW .head ?_
        have hA_ := (show At_ListOffsetsResponse v _ (decP fs_ListOffsetsResponse v true _).1 [.int .i16 v, .int .i32 (IntKind.i32.wrap x0.1.n), .slice a1 (lT x1.1).length c1, .map mt] from (by rw [hD]; exact ⟨a1, c1, mt, rfl, (hf1.mono At_ListOffsetsResponseTopic.mono le_15), hft⟩))
        refine rT rfl rfl (le_3.trans (le_4.trans (hlf1.trans le_15))) (fun _ _ h => h) ⟨_, rfl, ?_⟩
        have hz := RdEnd.of (e := e) hA_
        rw [show (decP fs_ListOffsetsResponse v true _).2.bad = u.2.bad by rw [hD]] at hz
        exact hz
end Go.Sx

import Derived.Test.YtoncemcnclkpkaaGreatDoorSxTab
import Derived.Test.YtoncemcnclkpkaaGreatDoorBDescribeQuorumRequest
import Derived.Test.YtoncemcnclkpkaaGreatDoorRK2
import Derived.KernelRfl
set_option linter.unusedVariables false
set_option linter.unusedSimpArgs false
set_option maxRecDepth 100000
set_option maxHeartbeats 20000000
namespace Go.Sx
open Go.Proofs
theorem def_DescribeQuorumRequestTopicPartition {H : Fz} {L : Own} {b o : Nat} {pre post : List Value} {c0 c1 : Value} (ho : o = pre.length) :
    Fn Tryz.prog 123 [.pointer (some ⟨b, o, none⟩)] H ([(b, .cells (pre ++ ([c0, c1] : List Value) ++ post).toArray 161 (0, 0))] :: L) (fun _ H' L' => H = H' ∧ L' = [(b, .cells (pre ++ ([c0, c1] : List Value) ++ post).toArray 161 (0, 0))] :: L) := by
  refine Fn.mk Tryz.call123 Tryz.func123 rfl Tryz.ntmps123 rfl ?_
  refine skN ?_
  exact fun _ _ hA hw => rn rfl (Fz.le.refl _) ⟨rfl, rfl⟩ hA hw
theorem def_DescribeQuorumRequestTopic {H : Fz} {L : Own} {b o : Nat} {pre post : List Value} {c0 c1 c2 : Value} (ho : o = pre.length) :
    Fn Tryz.prog 122 [.pointer (some ⟨b, o, none⟩)] H ([(b, .cells (pre ++ ([c0, c1, c2] : List Value) ++ post).toArray 113 (0, 0))] :: L) (fun _ H' L' => H = H' ∧ L' = [(b, .cells (pre ++ ([c0, c1, c2] : List Value) ++ post).toArray 113 (0, 0))] :: L) := by
  refine Fn.mk Tryz.call122 Tryz.func122 rfl Tryz.ntmps122 rfl ?_
  refine skN ?_
  exact fun _ _ hA hw => rn rfl (Fz.le.refl _) ⟨rfl, rfl⟩ hA hw
theorem def0_DescribeQuorumRequest {H : Fz} {L : Own} {b : Nat} {c0 c1 c2 : Value} :
    Fn Tryz.prog 84 [.pointer (some ⟨b, 0, none⟩)] H ([(b, .cells [c0, c1, c2].toArray 108 (0, 0))] :: L) (fun _ H' L' => H = H' ∧ L' = [(b, .cells [c0, c1, c2].toArray 108 (0, 0))] :: L) := by
  refine Fn.mk Tryz.call84 Tryz.func84 rfl Tryz.ntmps84 rfl ?_
  refine skN ?_
  exact fun _ _ hA hw => rn rfl (Fz.le.refl _) ⟨rfl, rfl⟩ hA hw
theorem rd_DescribeQuorumRequest_t {H : Fz} {L : Own} {b : Nat} {v : Int} {a : Option Addr} {c : Nat} {s : List UInt8} {e : Value} (hB : BytesAt H a c s) (hL_ : s.length ≤ BR) (he : H.at 1 0 [e]) (hv0 : 0 ≤ v) (hv1 : v ≤ 2) :
    Fn Tryz.prog 86 [.pointer (some ⟨b, 0, none⟩), .slice a s.length c, .bool false] H ([(b, .cells [.int .i16 v, .slice none 0 0, .map none].toArray 108 (0, 0))] :: L) (fun r H' L' => ∃ cs : List Value, L' = [(b, .cells cs.toArray 108 (0, 0))] :: L ∧ RdEnd H' (At_DescribeQuorumRequest v) (decP fs_DescribeQuorumRequest v true ⟨s, false, !a.isNone⟩) e r cs) := by
  refine Fn.mk Tryz.call86 Tryz.func86 rfl Tryz.ntmps86 rfl ?_
  refine sr ?_
  refine asg rfl rfl ?_
  refine nl ?_
  refine sr ?_
  refine mv rfl rfl ?_
  refine cl rfl rfl rfl def0_DescribeQuorumRequest rfl (fun v_ H1 L1 hle_ hR_ => ?_)
  obtain ⟨rfl, rfl⟩ := hR_
  refine nl ?_
  refine sr ?_
  refine mv rfl rfl ?_
  refine bd' S144 rfl rfl rfl ?_
  refine al Tryz.zeroValue144 rfl rfl (fun b_1 => ?_)
  refine sa Tryz.sizeOf144 rfl rfl rfl rfl rfl .head ?_
  have hR0_ : RdAt H 144 b_1 ⟨s, false, !a.isNone⟩ [(b_1, .cells [_, _].toArray 144 (0, 0))] := ⟨a, c, rfl, hB, by simp⟩
  obtain ⟨x0, hx0⟩ : ∃ x, x = stepF (Fd.mk 11 0 (-1) (-1) (-1) 0 10 fs_sDescribeQuorumRequestTopic) v true ⟨s, false, !a.isNone⟩ := ⟨_, rfl⟩
  obtain ⟨u, hu⟩ : ∃ x, x = tailU true x0.2 := ⟨_, rfl⟩
  have hD : decP fs_DescribeQuorumRequest v true ⟨s, false, !a.isNone⟩ = (.mk 0 [] false [x0.1] u.1, u.2) := by
    generalize (⟨s, false, !a.isNone⟩ : Rd) = r_ at hx0 ⊢
    rw [decP_eq]; unfold fs_DescribeQuorumRequest; simp only [decFs_cons, decFs_nil, ← hx0, ← hu]
  have hL0 : x0.2.s.length ≤ BR := by rw [hx0]; exact Nat.le_trans (stepF_shr _ _ _ _) hL_
  have hE : u.2.bad = true → (decP fs_DescribeQuorumRequest v true ⟨s, false, !a.isNone⟩).2.bad = true := fun h => by rw [hD]; exact h
  have hB0 : x0.2.bad = true → (decP fs_DescribeQuorumRequest v true ⟨s, false, !a.isNone⟩).2.bad = true := fun h => hE (by rw [hu]; exact tailU_bad h)
  refine nl ?_
  refine sr ?_
  refine mv rfl rfl ?_
  refine nc rfl rfl ?_
  refine fa0 F108_0 rfl rfl ?_
  refine ld (Says.own (.tail .head)) Tryz.isAgg46 rfl (Nat.zero_add _).symm rfl rfl ?_
  refine asg rfl rfl ?_
  refine nl ?_
  refine sr ?_
  refine mv rfl rfl ?_
  refine nl ?_
  refine sr ?_
  refine mv rfl rfl ?_
  refine ge rfl rfl rfl ?_
  refine asg rfl rfl ?_
  refine nl ?_
  refine sr ?_
  refine mv rfl rfl ?_
  refine nl ?_
  refine sr ?_
  refine mv rfl rfl ?_
  refine asg rfl rfl ?_
  refine nl ?_
  refine sq ?_
  refine sr ?_
  refine mv rfl rfl ?_
  refine nc rfl rfl ?_
  refine fa0 F108_1 rfl rfl ?_
  refine ld (Says.own (.tail .head)) Tryz.isAgg106 rfl (Nat.zero_add _).symm rfl rfl ?_
  refine asg rfl rfl ?_
  refine nl ?_
  refine sr ?_
  refine mv rfl rfl ?_
  refine asg rfl rfl ?_
  refine nl ?_
  refine sr ?_
  refine asg rfl rfl ?_
  refine nl ?_
  refine sq ?_
  refine sr ?_
  refine mv rfl rfl ?_
  refine nl ?_
  refine cdT rfl (by omega) ?_
  refine rg ?_
  have ey0 : x0 = (.mk 0 [] (if 0 ≤ ((-1) : Int) ∧ (v < ((-1) : Int) ∨ (rArr true ⟨s, false, !a.isNone⟩).1 = 0) then false else decide ((rArr true ⟨s, false, !a.isNone⟩).1 ≤ 0)) (rMany (decV 10 (decP fs_sDescribeQuorumRequestTopic v true) false true) (rArr true ⟨s, false, !a.isNone⟩).1.toNat (rArr true ⟨s, false, !a.isNone⟩).2).1 [], (rMany (decV 10 (decP fs_sDescribeQuorumRequestTopic v true) false true) (rArr true ⟨s, false, !a.isNone⟩).1.toNat (rArr true ⟨s, false, !a.isNone⟩).2).2) := (hx0.trans (step_yes (by decide) (show (0 : Int) ≤ v by omega) (Or.inl (by decide)))).trans (decF'_list rfl rfl)
  have hn0 : (rArr true ⟨s, false, !a.isNone⟩).1.toNat = (lT x0.1).length := by rw [ey0]; exact (lT_many nul_le).symm
  have ex0 := ey0
  rw [hn0] at ex0
  have hl0 := rArr_le true ⟨s, false, !a.isNone⟩
  have hm0 : (rArr true ⟨s, false, !a.isNone⟩).2.s.length ≤ BR := Nat.le_trans (rArr_len true ⟨s, false, !a.isNone⟩) hL_
  have hnb0 : (lT x0.1).length ≤ BR := by omega
  refine cl rfl rfl rfl (r_arrt hR0_) rfl (fun v_ H1 L1 hle_ hR_ => ?_)
  obtain ⟨rfl, N44, rfl, hR44, rfl⟩ := hR_
  have hh0 := rArr_hi true ⟨s, false, !a.isNone⟩
  refine asg rfl rfl ?_
  refine nl ?_
  refine sq ?_
  refine sr ?_
  refine cl rfl rfl rfl (r_ok hR44) rfl (fun v_ H1 L1 hle_ hR_ => ?_)
  obtain ⟨rfl, rfl, rfl⟩ := hR_
  refine nt rfl rfl ?_
  refine nl ?_
  refine cb rfl (fun h47 => ?_) (fun h47 => ?_)
  · skip
    have hbad_ : (rArr true ⟨s, false, !a.isNone⟩).2.bad = true := by simpa using h47
    refine sr ?_
    refine cl rfl rfl rfl (r_complete hR44 he) rfl (fun v_ H1 L1 hle_ hR_ => ?_)
    obtain ⟨rfl, rfl, rfl⟩ := hR_
    refine asg rfl rfl ?_
    refine nl ?_
    refine drW .head ?_
    exact rT rfl rfl (Fz.le.refl _) (fun _ _ h => h) ⟨_, rfl, RdEnd.out (hB0 (by rw [ey0]; exact rMany_bad (fun r h => decV_bad (decP_bad _ _ _) h) _ _ hbad_)) hbad_⟩
  · skip
    refine skt ?_
    refine sr ?_
    refine mv rfl rfl ?_
    refine sh' (j := 0) Tryz.runUnderlying106 Tryz.sizeOf113 rfl rfl rfl (Nat.zero_le _) rfl ?_
    refine asg rfl rfl ?_
    refine nl ?_
    refine sq ?_
    refine sr ?_
    refine mv rfl rfl ?_
    refine gt rfl rfl rfl ?_
    refine nl ?_
    refine nulC2 ?_
    refine cutT (fun l' H' L' => ∃ (a0 : Option Addr), ∃ (c0 : Nat), ∃ (Nr0 : Chunk), [(2, .bool false), (7, .pointer (some ⟨b_1, 0, none⟩)), (9, .bool (decide ((0 : Int) ≤ v))), (10, .pointer (some ⟨b, 0, none⟩)), (11, .slice none 0 0), (12, .slice a0 (lT x0.1).length c0), (13, .int .i32 (rArr true ⟨s, false, !a.isNone⟩).1)] = l' ∧ Nr0 :: N44 :: [(b, .cells [.int .i16 v, .slice none 0 0, .map none].toArray 108 (0, 0))] :: L = L' ∧ Row 113 3 a0 (lT x0.1).length c0 (reps [.string ⟨#[]⟩, .slice none 0 0, .map none] (lT x0.1).length) Nr0 ∧ a0.isNone = (if 0 ≤ ((-1) : Int) ∧ (v < ((-1) : Int) ∨ (rArr true ⟨s, false, !a.isNone⟩).1 = 0) then false else decide ((rArr true ⟨s, false, !a.isNone⟩).1 ≤ 0))) ?_ (fun l' H' L' le_2 hI => ?_)
    · skip
      refine cd rfl (fun h52 => ?_) (fun h52 => ?_)
      · skip
        refine rg ?_
        refine mv rfl rfl ?_
        refine mv rfl rfl ?_
        refine apz (zs := [.string ⟨#[]⟩, .slice none 0 0, .map none]) (m := (lT x0.1).length) Tryz.underlying106 Tryz.underlying21 I113 rfl rfl rfl (by omega) (by omega) (by have h9 := hnb0; unfold BR at h9; omega) (by have h9 := hnb0; unfold BR at h9; unfold maxLen; omega) rfl (fun g55 cp55 N55 r55 => ?_)
        refine asg rfl rfl ?_
        refine nN ?_
        refine drN (.tail .head) ?_
        refine fun a_ w_ hA hw => ⟨_, _, _, hA.sub ?_, (Fz.le.refl _), hw, (some ⟨g55, 0, none⟩), cp55, N55, rfl, rfl, r55, (by rw [if_neg (by omega)]; exact (decide_eq_false (by omega)).symm)⟩
        exact (.cons rfl (.cons rfl (.cons rfl (.cons rfl (.cons rfl (.cons rfl (.cons rfl (.nil _))))))))
      · skip
        refine skN ?_
        refine fun a_ w_ hA hw => ⟨_, _, _, hA.sub ?_, (Fz.le.refl _), hw, none, 0, [], rfl, rfl, (by rw [show (lT x0.1).length = 0 by omega]; exact (Row.nil _ _)), (by rw [if_neg (by omega)]; exact (decide_eq_true (by omega)).symm)⟩
        exact (.cons rfl (.cons rfl (.cons rfl (.cons rfl (.cons rfl (.cons (by rw [show (lT x0.1).length = 0 by omega]; rfl) (.cons rfl (.nil _))))))))
    · skip
      obtain ⟨a0, c0, Nr0, rfl, rfl, pj0, pj1⟩ := hI
      have hr0 := pj0
      have hi0 := pj1
      refine sq ?_
      refine sr ?_
      refine asg rfl rfl ?_
      refine nl ?_
      refine bl (lp ((lT x0.1).length) (fun k0 l' H' L' => ∃ (es0 : List (KE 3)) (M0 RN0 : Chunk), [(2, .bool false), (7, .pointer (some ⟨b_1, 0, none⟩)), (9, .bool (decide ((0 : Int) ≤ v))), (10, .pointer (some ⟨b, 0, none⟩)), (11, .slice none 0 0), (12, .slice a0 (lT x0.1).length c0), (13, .int .i32 (rArr true ⟨s, false, !a.isNone⟩).1), (14, .int .i32 (k0 : Int))] = l' ∧ M0 :: RN0 :: [(b, .cells [.int .i16 v, .slice none 0 0, .map none].toArray 108 (0, 0))] :: L = L' ∧ RdAt H' 144 b_1 (rMany (decV 10 (decP fs_sDescribeQuorumRequestTopic v true) false true) k0 (rArr true ⟨s, false, !a.isNone⟩).2).2 RN0 ∧ Row 113 3 a0 (lT x0.1).length c0 (es0.flatMap fk ++ reps [.string ⟨#[]⟩, .slice none 0 0, .map none] ((lT x0.1).length - k0)) M0 ∧ es0.map (·.2) = (rMany (decV 10 (decP fs_sDescribeQuorumRequestTopic v true) false true) k0 (rArr true ⟨s, false, !a.isNone⟩).2).1 ∧ ∀ p ∈ es0, At_DescribeQuorumRequestTopic H' p.2 (fk p)) [(2, .bool false), (7, .pointer (some ⟨b_1, 0, none⟩)), (9, .bool (decide ((0 : Int) ≤ v))), (10, .pointer (some ⟨b, 0, none⟩)), (11, .slice none 0 0), (12, .slice a0 (lT x0.1).length c0), (13, .int .i32 (rArr true ⟨s, false, !a.isNone⟩).1), (14, .int .i32 (0 : Int))] (.cons rfl (.cons rfl (.cons rfl (.cons rfl (.cons rfl (.cons rfl (.cons rfl (.cons rfl (.nil _))))))))) ⟨[], Nr0, _, rfl, rfl, (hR44.mono le_2), hr0, rfl, (fun p hp => by cases hp)⟩ (fun k0 l' H' L' hk0 le_3 hI => ?_))
      obtain ⟨es0, M0, RN0, rfl, rfl, hR_0, hw_0, he_0, hg_0⟩ := hI
      have hs_0 := els_len he_0
      have hp_0 : (es0.flatMap fk).length = k0 * 3 := els_flat hs_0
      refine sq ?_
      refine sr ?_
      refine mv rfl rfl ?_
      refine mv rfl rfl ?_
      refine lt rfl rfl rfl ?_
      refine nl ?_
      refine cd rfl (fun h58 => ?_) (fun h58 => ?_)
      · skip
        have hkl0 : k0 < (lT x0.1).length := by omega
        obtain ⟨g0, po0, hga0, rfl, hbk0⟩ := hw_0.next (zs := [.string ⟨#[]⟩, .slice none 0 0, .map none]) hkl0 rfl (by decide)
        have ho0 : 0 + k0 * 3 = (es0.flatMap fk).length := by rw [hp_0]; omega
        have hbz0 : ((decV 10 (decP fs_sDescribeQuorumRequestTopic v true) false true) (rMany (decV 10 (decP fs_sDescribeQuorumRequestTopic v true) false true) k0 (rArr true ⟨s, false, !a.isNone⟩).2).2).2.bad = true → (decP fs_DescribeQuorumRequest v true ⟨s, false, !a.isNone⟩).2.bad = true := fun h => hB0 (by rw [ex0]; exact rMany_mono (fun r h => decV_bad (fun r h => decP_bad _ _ _ r h) h) _ (show k0 + 1 ≤ (lT x0.1).length from hkl0) (by rw [rMany_succ]; exact h))
        have hLk0 : (rMany (decV 10 (decP fs_sDescribeQuorumRequestTopic v true) false true) k0 (rArr true ⟨s, false, !a.isNone⟩).2).2.s.length ≤ BR := Nat.le_trans (rMany_shr (fun r => decV_shr (fun r => decP_shr _ _ _ r) r) _ _) hm0
        have hL0__ := hLk0
        obtain ⟨x0_0, hx0_0⟩ : ∃ x, x = stepF (Fd.mk 8 0 (-1) (-1) (-1) 0 0 []) v true (rMany (decV 10 (decP fs_sDescribeQuorumRequestTopic v true) false true) k0 (rArr true ⟨s, false, !a.isNone⟩).2).2 := ⟨_, rfl⟩
        obtain ⟨x0_1, hx0_1⟩ : ∃ x, x = stepF (Fd.mk 11 0 (-1) (-1) (-1) 0 10 fs_sDescribeQuorumRequestTopicPartition) v true x0_0.2 := ⟨_, rfl⟩
        obtain ⟨u0_, hu0_⟩ : ∃ x, x = tailU true x0_1.2 := ⟨_, rfl⟩
        have hD0_ : decP fs_sDescribeQuorumRequestTopic v true (rMany (decV 10 (decP fs_sDescribeQuorumRequestTopic v true) false true) k0 (rArr true ⟨s, false, !a.isNone⟩).2).2 = (.mk 0 [] false [x0_0.1, x0_1.1] u0_.1, u0_.2) := by
          generalize ((rMany (decV 10 (decP fs_sDescribeQuorumRequestTopic v true) false true) k0 (rArr true ⟨s, false, !a.isNone⟩).2).2 : Rd) = r_ at hx0_0 ⊢
          rw [decP_eq]; unfold fs_sDescribeQuorumRequestTopic; simp only [decFs_cons, decFs_nil, ← hx0_0, ← hx0_1, ← hu0_]
        have hL0_0 : x0_0.2.s.length ≤ BR := by rw [hx0_0]; exact Nat.le_trans (stepF_shr _ _ _ _) hL0__
        have hL0_1 : x0_1.2.s.length ≤ BR := by rw [hx0_1]; exact Nat.le_trans (stepF_shr _ _ _ _) hL0_0
        have hE0_ : u0_.2.bad = true → (decP fs_DescribeQuorumRequest v true ⟨s, false, !a.isNone⟩).2.bad = true := fun h => hbz0 (by show (decP fs_sDescribeQuorumRequestTopic v true (rMany (decV 10 (decP fs_sDescribeQuorumRequestTopic v true) false true) k0 (rArr true ⟨s, false, !a.isNone⟩).2).2).2.bad = true; rw [hD0_]; exact h)
        have hB0_1 : x0_1.2.bad = true → (decP fs_DescribeQuorumRequest v true ⟨s, false, !a.isNone⟩).2.bad = true := fun h => hE0_ (by rw [hu0_]; exact tailU_bad h)
        have hB0_0 : x0_0.2.bad = true → (decP fs_DescribeQuorumRequest v true ⟨s, false, !a.isNone⟩).2.bad = true := fun h => hB0_1 (by rw [hx0_1]; exact step_bad h)
        refine skt ?_
        refine sq ?_
        refine bl ?_
        refine sr ?_
        refine mv rfl rfl ?_
        refine mv rfl rfl ?_
        refine ixk (j := k0) Tryz.runUnderlying106 Tryz.sizeOf113 rfl hga0 rfl rfl hkl0 rfl ?_
        refine asg rfl rfl ?_
        refine nl ?_
        refine sr ?_
        refine mv rfl rfl ?_
        refine cl rfl rfl rfl (def_DescribeQuorumRequestTopic ho0) rfl (fun v_ H1 L1 hle_ hR_ => ?_)
        obtain ⟨rfl, rfl⟩ := hR_
        refine nl ?_
        refine sr ?_
        refine mv rfl rfl ?_
        refine asg rfl rfl ?_
        refine nl ?_
        refine sq ?_
        refine sr ?_
        refine asg rfl rfl ?_
        refine nl ?_
        refine sq ?_
        refine sr ?_
        refine mv rfl rfl ?_
        refine nl ?_
        refine cF rfl ?_
        refine sr ?_
        refine mv rfl rfl ?_
        refine nl ?_
        refine cdT rfl (by omega) ?_
        refine rg ?_
        refine tf (.tail .head) ?_
        have ex0_0 : x0_0 = decV 8 (decP [] v true) false true (rMany (decV 10 (decP fs_sDescribeQuorumRequestTopic v true) false true) k0 (rArr true ⟨s, false, !a.isNone⟩).2).2 := (hx0_0.trans (step_yes (by decide) (show (0 : Int) ≤ v by omega) (Or.inl (by decide)))).trans (decF'_val (by decide) (rfl))
        refine cl rfl rfl rfl (d8t hR_0 ex0_0) rfl (fun v_ H1 L1 le_4 hR_ => ?_)
        obtain ⟨N72, rfl, hR72, rfl, rfl⟩ := hR_
        refine asg rfl rfl ?_
        refine nl ?_
        refine rg ?_
        refine mv rfl rfl ?_
        refine mv rfl rfl ?_
        refine nc rfl rfl ?_
        refine fa F113_0 rfl rfl ?_
        refine stM (off := 0) Tryz.sizeOf9 rfl (by rw [ho0]) rfl rfl rfl (.tail .head) ?_
        refine nl ?_
        refine sq ?_
        refine sr ?_
        refine mv rfl rfl ?_
        refine nc rfl rfl ?_
        refine fa F113_1 rfl rfl ?_
        refine ld (j := 1) (off := 0 + k0 * 3) (Says.mid (.tail .head) ho0) Tryz.isAgg111 rfl rfl rfl rfl ?_
        refine asg rfl rfl ?_
        refine nl ?_
        refine sr ?_
        refine mv rfl rfl ?_
        refine asg rfl rfl ?_
        refine nl ?_
        refine sr ?_
        refine asg rfl rfl ?_
        refine nl ?_
        refine sq ?_
        refine sr ?_
        refine mv rfl rfl ?_
        refine nl ?_
        refine cdT rfl (by omega) ?_
        refine rg ?_
        have ey0_1 : x0_1 = (.mk 0 [] (if 0 ≤ ((-1) : Int) ∧ (v < ((-1) : Int) ∨ (rArr true x0_0.2).1 = 0) then false else decide ((rArr true x0_0.2).1 ≤ 0)) (rMany (decV 10 (decP fs_sDescribeQuorumRequestTopicPartition v true) false true) (rArr true x0_0.2).1.toNat (rArr true x0_0.2).2).1 [], (rMany (decV 10 (decP fs_sDescribeQuorumRequestTopicPartition v true) false true) (rArr true x0_0.2).1.toNat (rArr true x0_0.2).2).2) := (hx0_1.trans (step_yes (by decide) (show (0 : Int) ≤ v by omega) (Or.inl (by decide)))).trans (decF'_list rfl rfl)
        have hn0_1 : (rArr true x0_0.2).1.toNat = (lT x0_1.1).length := by rw [ey0_1]; exact (lT_many nul_le).symm
        have ex0_1 := ey0_1
        rw [hn0_1] at ex0_1
        have hl0_1 := rArr_le true x0_0.2
        have hm0_1 : (rArr true x0_0.2).2.s.length ≤ BR := Nat.le_trans (rArr_len true x0_0.2) hL0_0
        have hnb0_1 : (lT x0_1.1).length ≤ BR := by omega
        refine cl rfl rfl rfl (r_arrt hR72) rfl (fun v_ H1 L1 hle_ hR_ => ?_)
        obtain ⟨rfl, N84, rfl, hR84, rfl⟩ := hR_
        have hh0_1 := rArr_hi true x0_0.2
        refine asg rfl rfl ?_
        refine nl ?_
        refine sq ?_
        refine sr ?_
        refine cl rfl rfl rfl (r_ok hR84) rfl (fun v_ H1 L1 hle_ hR_ => ?_)
        obtain ⟨rfl, rfl, rfl⟩ := hR_
        refine nt rfl rfl ?_
        refine nl ?_
        refine cb rfl (fun h87 => ?_) (fun h87 => ?_)
        · skip
          have hbad_ : (rArr true x0_0.2).2.bad = true := by simpa using h87
          refine sr ?_
          refine cl rfl rfl rfl (r_complete hR84 (he.mono (le_2.trans le_3))) rfl (fun v_ H1 L1 hle_ hR_ => ?_)
          obtain ⟨rfl, rfl, rfl⟩ := hR_
          refine asg rfl rfl ?_
          refine nl ?_
          refine drW .head ?_
          refine drW .head ?_
          exact rT rfl rfl (le_2.trans le_3) (fun _ _ h => h) ⟨_, rfl, RdEnd.out (hB0_1 (by rw [ey0_1]; exact rMany_bad (fun r h => decV_bad (decP_bad _ _ _) h) _ _ hbad_)) hbad_⟩
        · skip
          refine skt ?_
          refine sr ?_
          refine mv rfl rfl ?_
          refine sh' (j := 0) Tryz.runUnderlying111 Tryz.sizeOf161 rfl rfl rfl (Nat.zero_le _) rfl ?_
          refine asg rfl rfl ?_
          refine nl ?_
          refine sq ?_
          refine sr ?_
          refine mv rfl rfl ?_
          refine gt rfl rfl rfl ?_
          refine nl ?_
          refine nulC2 ?_
          refine cutT (fun l' H' L' => ∃ (a0_1 : Option Addr), ∃ (c0_1 : Nat), ∃ (Nr0_1 : Chunk), [(2, .bool false), (7, .pointer (some ⟨b_1, 0, none⟩)), (9, .bool (decide ((0 : Int) ≤ v))), (10, .pointer (some ⟨b, 0, none⟩)), (11, .slice none 0 0), (12, .slice a0 (lT x0.1).length c0), (13, .int .i32 (rArr true ⟨s, false, !a.isNone⟩).1), (14, .int .i32 (k0 : Int)), (16, .pointer (some ⟨g0, 0 + k0 * 3, none⟩)), (18, .slice none 0 0), (19, .slice a0_1 (lT x0_1.1).length c0_1), (20, .int .i32 (rArr true x0_0.2).1)] = l' ∧ Nr0_1 :: N84 :: [(g0, .cells ((es0.flatMap fk) ++ ([.string ⟨x0_0.1.s.toArray⟩, .slice none 0 0, .map none] : List Value) ++ po0).toArray 113 (0, 0))] :: [(b, .cells [.int .i16 v, .slice none 0 0, .map none].toArray 108 (0, 0))] :: L = L' ∧ Row 161 2 a0_1 (lT x0_1.1).length c0_1 (reps [.int .i32 0, .map none] (lT x0_1.1).length) Nr0_1 ∧ a0_1.isNone = (if 0 ≤ ((-1) : Int) ∧ (v < ((-1) : Int) ∨ (rArr true x0_0.2).1 = 0) then false else decide ((rArr true x0_0.2).1 ≤ 0))) ?_ (fun l' H' L' le_5 hI => ?_)
          · skip
            refine cd rfl (fun h92 => ?_) (fun h92 => ?_)
            · skip
              refine rg ?_
              refine mv rfl rfl ?_
              refine mv rfl rfl ?_
              refine apz (zs := [.int .i32 0, .map none]) (m := (lT x0_1.1).length) Tryz.underlying111 Tryz.underlying21 I161 rfl rfl rfl (by omega) (by omega) (by have h9 := hnb0_1; unfold BR at h9; omega) (by have h9 := hnb0_1; unfold BR at h9; unfold maxLen; omega) rfl (fun g95 cp95 N95 r95 => ?_)
              refine asg rfl rfl ?_
              refine nN ?_
              refine drN (.tail .head) ?_
              refine fun a_ w_ hA hw => ⟨_, _, _, hA.sub ?_, (Fz.le.refl _), hw, (some ⟨g95, 0, none⟩), cp95, N95, rfl, rfl, r95, (by rw [if_neg (by omega)]; exact (decide_eq_false (by omega)).symm)⟩
              exact (.cons rfl (.cons rfl (.cons rfl (.cons rfl (.cons rfl (.cons rfl (.cons rfl (.cons rfl (.cons rfl (.cons rfl (.cons rfl (.cons rfl (.nil _)))))))))))))
            · skip
              refine skN ?_
              refine fun a_ w_ hA hw => ⟨_, _, _, hA.sub ?_, (Fz.le.refl _), hw, none, 0, [], rfl, rfl, (by rw [show (lT x0_1.1).length = 0 by omega]; exact (Row.nil _ _)), (by rw [if_neg (by omega)]; exact (decide_eq_true (by omega)).symm)⟩
              exact (.cons rfl (.cons rfl (.cons rfl (.cons rfl (.cons rfl (.cons rfl (.cons rfl (.cons rfl (.cons rfl (.cons rfl (.cons (by rw [show (lT x0_1.1).length = 0 by omega]; rfl) (.cons rfl (.nil _)))))))))))))
          · skip
            obtain ⟨a0_1, c0_1, Nr0_1, rfl, rfl, pj0, pj1⟩ := hI
            have hr0_1 := pj0
            have hi0_1 := pj1
            refine sq ?_
            refine sr ?_
            refine asg rfl rfl ?_
            refine nl ?_
            refine bl (lp ((lT x0_1.1).length) (fun k0_1 l' H' L' => ∃ (es0_1 : List (KE 2)) (M0_1 RN0_1 : Chunk), [(2, .bool false), (7, .pointer (some ⟨b_1, 0, none⟩)), (9, .bool (decide ((0 : Int) ≤ v))), (10, .pointer (some ⟨b, 0, none⟩)), (11, .slice none 0 0), (12, .slice a0 (lT x0.1).length c0), (13, .int .i32 (rArr true ⟨s, false, !a.isNone⟩).1), (14, .int .i32 (k0 : Int)), (16, .pointer (some ⟨g0, 0 + k0 * 3, none⟩)), (18, .slice none 0 0), (19, .slice a0_1 (lT x0_1.1).length c0_1), (20, .int .i32 (rArr true x0_0.2).1), (21, .int .i32 (k0_1 : Int))] = l' ∧ M0_1 :: RN0_1 :: [(g0, .cells ((es0.flatMap fk) ++ ([.string ⟨x0_0.1.s.toArray⟩, .slice none 0 0, .map none] : List Value) ++ po0).toArray 113 (0, 0))] :: [(b, .cells [.int .i16 v, .slice none 0 0, .map none].toArray 108 (0, 0))] :: L = L' ∧ RdAt H' 144 b_1 (rMany (decV 10 (decP fs_sDescribeQuorumRequestTopicPartition v true) false true) k0_1 (rArr true x0_0.2).2).2 RN0_1 ∧ Row 161 2 a0_1 (lT x0_1.1).length c0_1 (es0_1.flatMap fk ++ reps [.int .i32 0, .map none] ((lT x0_1.1).length - k0_1)) M0_1 ∧ es0_1.map (·.2) = (rMany (decV 10 (decP fs_sDescribeQuorumRequestTopicPartition v true) false true) k0_1 (rArr true x0_0.2).2).1 ∧ ∀ p ∈ es0_1, At_DescribeQuorumRequestTopicPartition H' p.2 (fk p)) [(2, .bool false), (7, .pointer (some ⟨b_1, 0, none⟩)), (9, .bool (decide ((0 : Int) ≤ v))), (10, .pointer (some ⟨b, 0, none⟩)), (11, .slice none 0 0), (12, .slice a0 (lT x0.1).length c0), (13, .int .i32 (rArr true ⟨s, false, !a.isNone⟩).1), (14, .int .i32 (k0 : Int)), (16, .pointer (some ⟨g0, 0 + k0 * 3, none⟩)), (18, .slice none 0 0), (19, .slice a0_1 (lT x0_1.1).length c0_1), (20, .int .i32 (rArr true x0_0.2).1), (21, .int .i32 (0 : Int))] (.cons rfl (.cons rfl (.cons rfl (.cons rfl (.cons rfl (.cons rfl (.cons rfl (.cons rfl (.cons rfl (.cons rfl (.cons rfl (.cons rfl (.cons rfl (.nil _)))))))))))))) ⟨[], Nr0_1, _, rfl, rfl, (hR84.mono le_5), hr0_1, rfl, (fun p hp => by cases hp)⟩ (fun k0_1 l' H' L' hk0_1 le_6 hI => ?_))
            obtain ⟨es0_1, M0_1, RN0_1, rfl, rfl, hR_0_1, hw_0_1, he_0_1, hg_0_1⟩ := hI
            have hs_0_1 := els_len he_0_1
            have hp_0_1 : (es0_1.flatMap fk).length = k0_1 * 2 := els_flat hs_0_1
            refine sq ?_
            refine sr ?_
            refine mv rfl rfl ?_
            refine mv rfl rfl ?_
            refine lt rfl rfl rfl ?_
            refine nl ?_
            refine cd rfl (fun h98 => ?_) (fun h98 => ?_)
            · skip
              have hkl0_1 : k0_1 < (lT x0_1.1).length := by omega
              obtain ⟨g0_1, po0_1, hga0_1, rfl, hbk0_1⟩ := hw_0_1.next (zs := [.int .i32 0, .map none]) hkl0_1 rfl (by decide)
              have ho0_1 : 0 + k0_1 * 2 = (es0_1.flatMap fk).length := by rw [hp_0_1]; omega
              have hbz0_1 : ((decV 10 (decP fs_sDescribeQuorumRequestTopicPartition v true) false true) (rMany (decV 10 (decP fs_sDescribeQuorumRequestTopicPartition v true) false true) k0_1 (rArr true x0_0.2).2).2).2.bad = true → (decP fs_DescribeQuorumRequest v true ⟨s, false, !a.isNone⟩).2.bad = true := fun h => hB0_1 (by rw [ex0_1]; exact rMany_mono (fun r h => decV_bad (fun r h => decP_bad _ _ _ r h) h) _ (show k0_1 + 1 ≤ (lT x0_1.1).length from hkl0_1) (by rw [rMany_succ]; exact h))
              have hLk0_1 : (rMany (decV 10 (decP fs_sDescribeQuorumRequestTopicPartition v true) false true) k0_1 (rArr true x0_0.2).2).2.s.length ≤ BR := Nat.le_trans (rMany_shr (fun r => decV_shr (fun r => decP_shr _ _ _ r) r) _ _) hm0_1
              have hL0_1__ := hLk0_1
              obtain ⟨x0_1_0, hx0_1_0⟩ : ∃ x, x = stepF (Fd.mk 3 0 (-1) (-1) (-1) 0 0 []) v true (rMany (decV 10 (decP fs_sDescribeQuorumRequestTopicPartition v true) false true) k0_1 (rArr true x0_0.2).2).2 := ⟨_, rfl⟩
              obtain ⟨u0_1_, hu0_1_⟩ : ∃ x, x = tailU true x0_1_0.2 := ⟨_, rfl⟩
              have hD0_1_ : decP fs_sDescribeQuorumRequestTopicPartition v true (rMany (decV 10 (decP fs_sDescribeQuorumRequestTopicPartition v true) false true) k0_1 (rArr true x0_0.2).2).2 = (.mk 0 [] false [x0_1_0.1] u0_1_.1, u0_1_.2) := by
                generalize ((rMany (decV 10 (decP fs_sDescribeQuorumRequestTopicPartition v true) false true) k0_1 (rArr true x0_0.2).2).2 : Rd) = r_ at hx0_1_0 ⊢
                rw [decP_eq]; unfold fs_sDescribeQuorumRequestTopicPartition; simp only [decFs_cons, decFs_nil, ← hx0_1_0, ← hu0_1_]
              have hL0_1_0 : x0_1_0.2.s.length ≤ BR := by rw [hx0_1_0]; exact Nat.le_trans (stepF_shr _ _ _ _) hL0_1__
              have hE0_1_ : u0_1_.2.bad = true → (decP fs_DescribeQuorumRequest v true ⟨s, false, !a.isNone⟩).2.bad = true := fun h => hbz0_1 (by show (decP fs_sDescribeQuorumRequestTopicPartition v true (rMany (decV 10 (decP fs_sDescribeQuorumRequestTopicPartition v true) false true) k0_1 (rArr true x0_0.2).2).2).2.bad = true; rw [hD0_1_]; exact h)
              have hB0_1_0 : x0_1_0.2.bad = true → (decP fs_DescribeQuorumRequest v true ⟨s, false, !a.isNone⟩).2.bad = true := fun h => hE0_1_ (by rw [hu0_1_]; exact tailU_bad h)
              refine skt ?_
              refine sq ?_
              refine bl ?_
              refine sr ?_
              refine mv rfl rfl ?_
              refine mv rfl rfl ?_
              refine ixk (j := k0_1) Tryz.runUnderlying111 Tryz.sizeOf161 rfl hga0_1 rfl rfl hkl0_1 rfl ?_
              refine asg rfl rfl ?_
              refine nl ?_
              refine sr ?_
              refine mv rfl rfl ?_
              refine cl rfl rfl rfl (def_DescribeQuorumRequestTopicPartition ho0_1) rfl (fun v_ H1 L1 hle_ hR_ => ?_)
              obtain ⟨rfl, rfl⟩ := hR_
              refine nl ?_
              refine sr ?_
              refine mv rfl rfl ?_
              refine asg rfl rfl ?_
              refine nl ?_
              refine sq ?_
              refine sr ?_
              refine tf (.tail .head) ?_
              have ex0_1_0 : x0_1_0 = decV 3 (decP [] v true) false true (rMany (decV 10 (decP fs_sDescribeQuorumRequestTopicPartition v true) false true) k0_1 (rArr true x0_0.2).2).2 := (hx0_1_0.trans (step_yes (by decide) (show (0 : Int) ≤ v by omega) (Or.inl (by decide)))).trans (decF'_val (by decide) (rfl))
              refine cl rfl rfl rfl (d3 hR_0_1 ex0_1_0) rfl (fun v_ H1 L1 hle_ hR_ => ?_)
              obtain ⟨N107, rfl, hR107, rfl, rfl⟩ := hR_
              refine asg rfl rfl ?_
              refine nl ?_
              refine rg ?_
              refine mv rfl rfl ?_
              refine mv rfl rfl ?_
              refine nc rfl rfl ?_
              refine fa F161_0 rfl rfl ?_
              refine stM (off := 0) Tryz.sizeOf21 rfl (by rw [ho0_1]) rfl rfl rfl (.tail .head) ?_
              refine nl ?_
              refine sr ?_
              refine mv rfl rfl ?_
              refine nl ?_
              refine cdT rfl (by omega) ?_
              refine rg ?_
              refine mv rfl rfl ?_
              refine cl rfl rfl rfl (d_tags hR107) rfl (fun v_ H1 L1 le_8 hR_ => ?_)
              obtain ⟨N114, rfl, hR114, m0_1_t, rfl, hft0_1_⟩ := hR_
              have hu20_1_ : u0_1_ = rTags x0_1_0.2 := hu0_1_
              rw [← hu20_1_] at hR114 hft0_1_
              refine nc rfl rfl ?_
              refine fa F161_1 rfl rfl ?_
              refine saM (off := 1) Tryz.sizeOf86 rfl (by rw [ho0_1]) rfl rfl rfl rfl (.tail .head) ?_
              refine nN ?_
              refine Nb ?_
              refine Nt ?_
              refine rg ?_
              refine mv rfl rfl ?_
              refine ad rfl rfl (c := ((k0_1 + 1 : Nat) : Int)) ((wrap32_le (by omega) (by omega)).trans (by omega)) rfl ?_
              refine asg rfl rfl ?_
              refine nN ?_
              have hfs0_1 := flatMap_snoc' fk es0_1 ((⟨([.int .i32 (IntKind.i32.wrap x0_1_0.1.n), .map m0_1_t] : List Value), rfl, all_one rfl⟩, ((decV 10 (decP fs_sDescribeQuorumRequestTopicPartition v true) false true) (rMany (decV 10 (decP fs_sDescribeQuorumRequestTopicPartition v true) false true) k0_1 (rArr true x0_0.2).2).2).1) : KE 2)
              have hrw0_1 := hbk0_1 ([.int .i32 (IntKind.i32.wrap x0_1_0.1.n), .map m0_1_t] : List Value) rfl
              refine tfN (.tail .head) ?_
              refine fun a_ w_ hA hw => ⟨hkl0_1, _, _, _, hA.sub ?_, (le_6.trans le_8), hw, _, _, _, rfl, rfl, (by rw [rMany_succ]; show RdAt _ 144 b_1 (decP fs_sDescribeQuorumRequestTopicPartition v true (rMany (decV 10 (decP fs_sDescribeQuorumRequestTopicPartition v true) false true) k0_1 (rArr true x0_0.2).2).2).2 _; rw [hD0_1_]; exact hR114), (by rw [← hfs0_1]; exact hrw0_1), (dec_els he_0_1), (fun p hp => (mem_snoc hp).elim (fun h => At_DescribeQuorumRequestTopicPartition.mono _ _ _ _ le_8 (hg_0_1 p h)) (fun h => h ▸ (by show At_DescribeQuorumRequestTopicPartition _ (decP fs_sDescribeQuorumRequestTopicPartition v true (rMany (decV 10 (decP fs_sDescribeQuorumRequestTopicPartition v true) false true) k0_1 (rArr true x0_0.2).2).2).1 [.int .i32 (IntKind.i32.wrap x0_1_0.1.n), .map m0_1_t]; rw [hD0_1_]; exact ⟨m0_1_t, rfl, hft0_1_⟩)))⟩
              exact (.cons rfl (.cons rfl (.cons rfl (.cons rfl (.cons rfl (.cons rfl (.cons rfl (.cons rfl (.cons rfl (.cons rfl (.cons rfl (.cons rfl (.cons rfl (.nil _))))))))))))))
            · skip
              have hkn_ : k0_1 = (lT x0_1.1).length := by omega
              subst hkn_
              have hw2_0_1 : Row 161 2 a0_1 (lT x0_1.1).length c0_1 (es0_1.flatMap fk) M0_1 := by have h := hw_0_1; rw [Nat.sub_self] at h; simpa [reps] using h
              refine frW hw2_0_1 .head (fun Hf0_1 hlf0_1 hfz0_1 => ?_)
              have hrs0_1 := RowsAt.row (R := At_DescribeQuorumRequestTopicPartition) hfz0_1 hs_0_1.symm hw2_0_1.le.1 (fun p hp => At_DescribeQuorumRequestTopicPartition.mono _ _ _ _ hlf0_1 (hg_0_1 p hp))
              rw [he_0_1] at hrs0_1
              have hf0_1 : ListAt Hf0_1 x0_1.1 2 At_DescribeQuorumRequestTopicPartition a0_1 c0_1 := by rw [ex0_1]; exact listAt_of hrs0_1 hi0_1 (fun h => by have h1 := nul_le h; rw [show (lT x0_1.1).length = 0 by omega]; rfl)
              have hRx0_1 : RdAt Hf0_1 144 b_1 x0_1.2 RN0_1 := by rw [ex0_1]; exact (hR_0_1.mono hlf0_1)
              refine exX ?_
              refine XT ?_
              refine XT ?_
              refine Xb ?_
              refine Nt ?_
              refine sr ?_
              refine mv rfl rfl ?_
              refine asg rfl rfl ?_
              refine nl ?_
              refine rg ?_
              refine mv rfl rfl ?_
              refine mv rfl rfl ?_
              refine nc rfl rfl ?_
              refine fa F113_1 rfl rfl ?_
              refine stM (off := 1) Tryz.sizeOf111 rfl (by rw [ho0]) rfl rfl rfl (.tail .head) ?_
              refine nl ?_
              refine sr ?_
              refine mv rfl rfl ?_
              refine nl ?_
              refine cdT rfl (by omega) ?_
              refine rg ?_
              refine mv rfl rfl ?_
              refine cl rfl rfl rfl (d_tags hRx0_1) rfl (fun v_ H1 L1 le_9 hR_ => ?_)
              obtain ⟨N124, rfl, hR124, m0_t, rfl, hft0_⟩ := hR_
              have hu20_ : u0_ = rTags x0_1.2 := hu0_
              rw [← hu20_] at hR124 hft0_
              refine nc rfl rfl ?_
              refine fa F113_2 rfl rfl ?_
              refine saM (off := 2) Tryz.sizeOf86 rfl (by rw [ho0]) rfl rfl rfl rfl (.tail .head) ?_
              refine nN ?_
              refine Nb ?_
              refine Nt ?_
              refine rg ?_
              refine mv rfl rfl ?_
              refine ad rfl rfl (c := ((k0 + 1 : Nat) : Int)) ((wrap32_le (by omega) (by omega)).trans (by omega)) rfl ?_
              refine asg rfl rfl ?_
              refine nN ?_
              have hfs0 := flatMap_snoc' fk es0 ((⟨([.string ⟨x0_0.1.s.toArray⟩, .slice a0_1 (lT x0_1.1).length c0_1, .map m0_t] : List Value), rfl, all_one rfl⟩, ((decV 10 (decP fs_sDescribeQuorumRequestTopic v true) false true) (rMany (decV 10 (decP fs_sDescribeQuorumRequestTopic v true) false true) k0 (rArr true ⟨s, false, !a.isNone⟩).2).2).1) : KE 3)
              have hrw0 := hbk0 ([.string ⟨x0_0.1.s.toArray⟩, .slice a0_1 (lT x0_1.1).length c0_1, .map m0_t] : List Value) rfl
              refine tfN (.tail .head) ?_
              refine fun a_ w_ hA hw => ⟨hkl0, _, _, _, hA.sub ?_, (le_3.trans (le_5.trans (le_6.trans (hlf0_1.trans le_9)))), hw, _, _, _, rfl, rfl, (by rw [rMany_succ]; show RdAt _ 144 b_1 (decP fs_sDescribeQuorumRequestTopic v true (rMany (decV 10 (decP fs_sDescribeQuorumRequestTopic v true) false true) k0 (rArr true ⟨s, false, !a.isNone⟩).2).2).2 _; rw [hD0_]; exact hR124), (by rw [← hfs0]; exact hrw0), (dec_els he_0), (fun p hp => (mem_snoc hp).elim (fun h => At_DescribeQuorumRequestTopic.mono _ _ _ _ (le_5.trans (le_6.trans (hlf0_1.trans le_9))) (hg_0 p h)) (fun h => h ▸ (by show At_DescribeQuorumRequestTopic _ (decP fs_sDescribeQuorumRequestTopic v true (rMany (decV 10 (decP fs_sDescribeQuorumRequestTopic v true) false true) k0 (rArr true ⟨s, false, !a.isNone⟩).2).2).1 [.string ⟨x0_0.1.s.toArray⟩, .slice a0_1 (lT x0_1.1).length c0_1, .map m0_t]; rw [hD0_]; exact ⟨a0_1, c0_1, m0_t, rfl, (hf0_1.mono At_DescribeQuorumRequestTopicPartition.mono le_9), hft0_⟩)))⟩
              exact (.cons rfl (.cons rfl (.cons rfl (.cons rfl (.cons rfl (.cons rfl (.cons rfl (.cons rfl (.nil _)))))))))
      · skip
        have hkn_ : k0 = (lT x0.1).length := by omega
        subst hkn_
        have hw2_0 : Row 113 3 a0 (lT x0.1).length c0 (es0.flatMap fk) M0 := by have h := hw_0; rw [Nat.sub_self] at h; simpa [reps] using h
        refine frW hw2_0 .head (fun Hf0 hlf0 hfz0 => ?_)
        have hrs0 := RowsAt.row (R := At_DescribeQuorumRequestTopic) hfz0 hs_0.symm hw2_0.le.1 (fun p hp => At_DescribeQuorumRequestTopic.mono _ _ _ _ hlf0 (hg_0 p hp))
        rw [he_0] at hrs0
        have hf0 : ListAt Hf0 x0.1 3 At_DescribeQuorumRequestTopic a0 c0 := by rw [ex0]; exact listAt_of hrs0 hi0 (fun h => by have h1 := nul_le h; rw [show (lT x0.1).length = 0 by omega]; rfl)
        have hRx0 : RdAt Hf0 144 b_1 x0.2 RN0 := by rw [ex0]; exact (hR_0.mono hlf0)
        refine exX ?_
        refine XT ?_
        refine XT ?_
        refine Xb ?_
        refine Nt ?_
        refine sr ?_
        refine mv rfl rfl ?_
        refine asg rfl rfl ?_
        refine nl ?_
        refine rg ?_
        refine mv rfl rfl ?_
        refine mv rfl rfl ?_
        refine nc rfl rfl ?_
        refine fa0 F108_1 rfl rfl ?_
        refine st Tryz.sizeOf106 rfl rfl rfl rfl (.tail .head) ?_
        refine nl ?_
        refine sq ?_
        refine sr ?_
        refine mv rfl rfl ?_
        refine nl ?_
        refine cdT rfl (by omega) ?_
        refine rg ?_
        refine mv rfl rfl ?_
        refine cl rfl rfl rfl (d_tags hRx0) rfl (fun v_ H1 L1 le_10 hR_ => ?_)
        obtain ⟨N134, rfl, hR134, mt, rfl, hft⟩ := hR_
        have hu2 : u = rTags x0.2 := hu
        rw [← hu2] at hR134 hft
        refine nc rfl rfl ?_
        refine fa0 F108_2 rfl rfl ?_
        refine sa Tryz.sizeOf86 rfl rfl rfl rfl rfl (.tail .head) ?_
        refine nl ?_
        refine sr ?_
        refine cl rfl rfl rfl (r_complete hR134 (he.mono (le_2.trans (le_3.trans (hlf0.trans le_10))))) rfl (fun v_ H1 L1 hle_ hR_ => ?_)
        obtain ⟨rfl, rfl, rfl⟩ := hR_
        refine asg rfl rfl ?_
        refine nl ?_
        refine drW .head ?_
        have hA_ := (show At_DescribeQuorumRequest v _ (decP fs_DescribeQuorumRequest v true _).1 [.int .i16 v, .slice a0 (lT x0.1).length c0, .map mt] from (by rw [hD]; exact ⟨a0, c0, mt, rfl, (hf0.mono At_DescribeQuorumRequestTopic.mono le_10), hft⟩))
        refine rT rfl rfl (le_2.trans (le_3.trans (hlf0.trans le_10))) (fun _ _ h => h) ⟨_, rfl, ?_⟩
        have hz := RdEnd.of (e := e) hA_
        rw [show (decP fs_DescribeQuorumRequest v true _).2.bad = u.2.bad by rw [hD]] at hz
        exact hz
end Go.Sx

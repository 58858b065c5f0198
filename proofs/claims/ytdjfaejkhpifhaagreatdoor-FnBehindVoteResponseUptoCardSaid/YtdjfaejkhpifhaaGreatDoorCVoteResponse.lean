import Derived.Test.YtdjfaejkhpifhaaGreatDoorSxTab
import Derived.Test.YtdjfaejkhpifhaaGreatDoorBVoteResponse
import Derived.Test.YtdjfaejkhpifhaaGreatDoorRK2
import Derived.Test.YtdjfaejkhpifhaaGreatDoorTagR
import Derived.Test.YtdjfaejkhpifhaaGreatDoorT1
import Derived.Test.YtdjfaejkhpifhaaGreatDoorTVoteResponse
import Derived.KernelRfl
set_option linter.unusedVariables false
set_option linter.unusedSimpArgs false
set_option maxRecDepth 100000
set_option maxHeartbeats 20000000
namespace Go.Sx
open Go.Proofs
theorem def_VoteResponseTopicPartition {H : Fz} {L : Own} {b o : Nat} {pre post : List Value} {c0 c1 c2 c3 c4 c5 : Value} (ho : o = pre.length) :
  Fn Tryz.prog 74 [.pointer (some ⟨b, o, none⟩)] H ([(b, .cells (pre ++ ([c0, c1, c2, c3, c4, c5] : List Value) ++ post).toArray 84 (0, 0))] :: L) (fun _ H' L' => H = H' ∧ L' = [(b, .cells (pre ++ ([c0, c1, c2, c3, c4, c5] : List Value) ++ post).toArray 84 (0, 0))] :: L) := by
 refine Fn.mk Tryz.call74 Tryz.func74 rfl Tryz.ntmps74 rfl ?_
 refine skN ?_
 exact fun _ _ hA hw => rn rfl ler ⟨rfl, rfl⟩ hA hw
theorem def_VoteResponseTopic {H : Fz} {L : Own} {b o : Nat} {pre post : List Value} {c0 c1 c2 : Value} (ho : o = pre.length) :
  Fn Tryz.prog 69 [.pointer (some ⟨b, o, none⟩)] H ([(b, .cells (pre ++ ([c0, c1, c2] : List Value) ++ post).toArray 80 (0, 0))] :: L) (fun _ H' L' => H = H' ∧ L' = [(b, .cells (pre ++ ([c0, c1, c2] : List Value) ++ post).toArray 80 (0, 0))] :: L) := by
 refine Fn.mk Tryz.call69 Tryz.func69 rfl Tryz.ntmps69 rfl ?_
 refine skN ?_
 exact fun _ _ hA hw => rn rfl ler ⟨rfl, rfl⟩ hA hw
theorem def_VoteResponseNodeEndpoint {H : Fz} {L : Own} {b o : Nat} {pre post : List Value} {c0 c1 c2 c3 : Value} (ho : o = pre.length) :
  Fn Tryz.prog 81 [.pointer (some ⟨b, o, none⟩)] H ([(b, .cells (pre ++ ([c0, c1, c2, c3] : List Value) ++ post).toArray 92 (0, 0))] :: L) (fun _ H' L' => H = H' ∧ L' = [(b, .cells (pre ++ ([c0, c1, c2, c3] : List Value) ++ post).toArray 92 (0, 0))] :: L) := by
 refine Fn.mk Tryz.call81 Tryz.func81 rfl Tryz.ntmps81 rfl ?_
 refine skN ?_
 exact fun _ _ hA hw => rn rfl ler ⟨rfl, rfl⟩ hA hw
theorem def0_VoteResponse {H : Fz} {L : Own} {b : Nat} {c0 c1 c2 c3 c4 : Value} :
  Fn Tryz.prog 33 [.pointer (some ⟨b, 0, none⟩)] H ([(b, .cells [c0, c1, c2, c3, c4].toArray 65 (0, 0))] :: L) (fun _ H' L' => H = H' ∧ L' = [(b, .cells [c0, c1, c2, c3, c4].toArray 65 (0, 0))] :: L) := by
 refine Fn.mk Tryz.call33 Tryz.func33 rfl Tryz.ntmps33 rfl ?_
 refine skN ?_
 exact fun _ _ hA hw => rn rfl ler ⟨rfl, rfl⟩ hA hw
theorem rd_VoteResponse_t {H : Fz} {L : Own} {b : Nat} {v : Int} {a : Option Addr} {c et : Nat} {s : List UInt8} {ev : Value} (hB : BytesAt H a c s) (hL_ : s.length ≤ BR) (he : H.at 1 0 [.iface et ev]) (hFr : FreshR fs_VoteResponse v ⟨s, false, !a.isNone⟩) (hv0 : 0 ≤ v) (hv1 : v ≤ 2) :
  Fn Tryz.prog 43 [.pointer (some ⟨b, 0, none⟩), .slice a s.length c, .bool false] H ([(b, .cells [.int .i16 v, .int .i16 0, .slice none 0 0, .slice none 0 0, .map none].toArray 65 (0, 0))] :: L) (fun r H' L' => ∃ cs : List Value, L' = [(b, .cells cs.toArray 65 (0, 0))] :: L ∧ RdEnd H' (At_VoteResponse v) (decM fs_VoteResponse v true ⟨s, false, !a.isNone⟩) (.iface et ev) r cs) := by
 refine Fn.mk Tryz.call43 Tryz.func43 rfl Tryz.ntmps43 rfl ?_
 refine sr ?_
 refine asg rfl rfl ?_
 refine nl ?_
 refine sr ?_
 refine mv rfl rfl ?_
 refine cl rfl rfl rfl def0_VoteResponse rfl (fun v_ H1 L1 hle_ hR_ => ?_)
 obtain ⟨rfl, rfl⟩ := hR_
 refine nl ?_
 refine sr ?_
 refine mv rfl rfl ?_
 refine bd' S117 rfl rfl rfl ?_
 refine al Tryz.zeroValue117 rfl rfl (fun b_1 => ?_)
 refine sa Tryz.sizeOf117 rfl rfl rfl rfl rfl .head ?_
 have hR0_ : RdAt H 117 b_1 ⟨s, false, !a.isNone⟩ [(b_1, .cells [_, _].toArray 117 (0, 0))] := ⟨a, c, rfl, hB, by simp⟩
 obtain ⟨x0, hx0⟩ : ∃ x, x = stepF (Fd.mk 2 0 (-1) (-1) (-1) 0 0 []) v true ⟨s, false, !a.isNone⟩ := ⟨_, rfl⟩
 obtain ⟨x1, hx1⟩ : ∃ x, x = stepF (Fd.mk 11 0 (-1) (-1) (-1) 0 10 fs_sVoteResponseTopic) v true x0.2 := ⟨_, rfl⟩
 obtain ⟨x2, hx2⟩ : ∃ x, x = stepF (Fd.mk 11 0 (-1) (-1) 0 0 10 fs_sVoteResponseNodeEndpoint) v true x1.2 := ⟨_, rfl⟩
 obtain ⟨K0, hK0⟩ : ∃ z : KS, z = ⟨[x0.1, x1.1, x2.1], [], (rU x2.2).2⟩ := ⟨_, rfl⟩
 obtain ⟨sK, hsK⟩ : ∃ z : KS, z = kSteps fs_VoteResponse v (rU x2.2).1 K0 := ⟨_, rfl⟩
 have hF : decFs fs_VoteResponse v true ⟨s, false, !a.isNone⟩ = ([x0.1, x1.1, x2.1], x2.2) := by
  generalize (⟨s, false, !a.isNone⟩ : Rd) = r_ at hx0 ⊢
  unfold fs_VoteResponse; simp only [decFs_cons, decFs_nil, ← hx0, ← hx1, ← hx2]
 have hD : decM fs_VoteResponse v true ⟨s, false, !a.isNone⟩ = (.mk 0 [] false sK.l sK.u, sK.r) := by
  show decPK fs_VoteResponse v ⟨s, false, !a.isNone⟩ = _
  unfold decPK; rw [hF]; dsimp only; rw [← hK0, ← hsK]
 have hFresh : FreshN fs_VoteResponse v (rU x2.2).1 K0 := by
  have h := hFr
  unfold FreshR at h; rw [hF] at h; dsimp only at h; rw [← hK0] at h; exact h
 clear hF
 have hL0 : x0.2.s.length ≤ BR := by rw [hx0]; exact Nat.le_trans (stepF_shr _ _ _ _) hL_
 have hL1 : x1.2.s.length ≤ BR := by rw [hx1]; exact Nat.le_trans (stepF_shr _ _ _ _) hL0
 have hL2 : x2.2.s.length ≤ BR := by rw [hx2]; exact Nat.le_trans (stepF_shr _ _ _ _) hL1
 have hLK0 : K0.r.s.length ≤ BR := by rw [hK0]; exact Nat.le_trans (rU_len _) hL2
 have hE : sK.r.bad = true → (decM fs_VoteResponse v true ⟨s, false, !a.isNone⟩).2.bad = true := fun h => by rw [hD]; exact h
 have hB2 : x2.2.bad = true → (decM fs_VoteResponse v true ⟨s, false, !a.isNone⟩).2.bad = true := fun h => hE (by rw [hsK]; exact kSteps_bad (by rw [hK0]; exact rU_bad h))
 have hB1 : x1.2.bad = true → (decM fs_VoteResponse v true ⟨s, false, !a.isNone⟩).2.bad = true := fun h => hB2 (by rw [hx2]; exact step_bad h)
 have hB0 : x0.2.bad = true → (decM fs_VoteResponse v true ⟨s, false, !a.isNone⟩).2.bad = true := fun h => hB1 (by rw [hx1]; exact step_bad h)
 refine nl ?_
 refine sr ?_
 refine mv rfl rfl ?_
 refine nc rfl rfl ?_
 refine fa0 F65_0 rfl rfl ?_
 refine ld (Says.own (.tail .head)) Tryz.isAgg40 rfl (Nat.zero_add _).symm rfl rfl ?_
 refine asg rfl rfl ?_
 refine nl ?_
 refine sr ?_
 refine mv rfl rfl ?_
 refine nl ?_
 refine sr ?_
 refine mv rfl rfl ?_
 refine ge rfl rfl rfl ?_
 refine asg rfl rfl ?_
 refine nl ?_
 refine sr ?_
 refine mv rfl rfl ?_
 refine nl ?_
 refine sr ?_
 refine mv rfl rfl ?_
 refine asg rfl rfl ?_
 refine nl ?_
 refine sq ?_
 refine sr ?_
 have ex0 : x0 = decV 2 (decP [] v true) false true ⟨s, false, !a.isNone⟩ := (hx0.trans (step_yes (by decide) (show (0 : Int) ≤ v by omega) (Or.inl (by decide)))).trans (decF'_val (by decide) (rfl))
 refine cl rfl rfl rfl (d2 hR0_ ex0) rfl (fun v_ H1 L1 hle_ hR_ => ?_)
 obtain ⟨N56, rfl, hR56, rfl, rfl⟩ := hR_
 refine asg rfl rfl ?_
 refine nl ?_
 refine rg ?_
 refine mv rfl rfl ?_
 refine mv rfl rfl ?_
 refine nc rfl rfl ?_
 refine fa0 F65_1 rfl rfl ?_
 refine st Tryz.sizeOf40 rfl rfl rfl rfl (.tail .head) ?_
 refine nl ?_
 refine sq ?_
 refine sr ?_
 refine mv rfl rfl ?_
 refine nc rfl rfl ?_
 refine fa0 F65_2 rfl rfl ?_
 refine ld (Says.own (.tail .head)) Tryz.isAgg59 rfl (Nat.zero_add _).symm rfl rfl ?_
 refine asg rfl rfl ?_
 refine nl ?_
 refine sr ?_
 refine mv rfl rfl ?_
 refine asg rfl rfl ?_
 refine nl ?_
 refine sr ?_
 refine asg rfl rfl ?_
 refine nl ?_
 refine sq ?_
 refine sr ?_
 refine mv rfl rfl ?_
 refine nl ?_
 refine cdT rfl (by omega) ?_
 refine rg ?_
 have ey1 : x1 = (.mk 0 [] (if 0 ≤ ((-1) : Int) ∧ (v < ((-1) : Int) ∨ (rArr true x0.2).1 = 0) then false else decide ((rArr true x0.2).1 ≤ 0)) (rMany (decV 10 (decP fs_sVoteResponseTopic v true) false true) (rArr true x0.2).1.toNat (rArr true x0.2).2).1 [], (rMany (decV 10 (decP fs_sVoteResponseTopic v true) false true) (rArr true x0.2).1.toNat (rArr true x0.2).2).2) := (hx1.trans (step_yes (by decide) (show (0 : Int) ≤ v by omega) (Or.inl (by decide)))).trans (decF'_list rfl rfl)
 have hn1 : (rArr true x0.2).1.toNat = (lT x1.1).length := by rw [ey1]; exact (lT_many nul_le).symm
 have ex1 := ey1
 rw [hn1] at ex1
 have hl1 := rArr_le true x0.2
 have hm1 : (rArr true x0.2).2.s.length ≤ BR := Nat.le_trans (rArr_len true x0.2) hL0
 have hnb1 : (lT x1.1).length ≤ BR := by omega
 refine cl rfl rfl rfl (r_arrt hR56) rfl (fun v_ H1 L1 hle_ hR_ => ?_)
 obtain ⟨rfl, N67, rfl, hR67, rfl⟩ := hR_
 have hh1 := rArr_hi true x0.2
 refine asg rfl rfl ?_
 refine nl ?_
 refine sq ?_
 refine sr ?_
 refine cl rfl rfl rfl (r_ok hR67) rfl (fun v_ H1 L1 hle_ hR_ => ?_)
 obtain ⟨rfl, rfl, rfl⟩ := hR_
 refine nt rfl rfl ?_
 refine nl ?_
 refine cb rfl (fun h70 => ?_) (fun h70 => ?_)
 ·
  have hbad_ : (rArr true x0.2).2.bad = true := by simpa using h70
  refine sr ?_
  refine cl rfl rfl rfl (r_complete hR67 he) rfl (fun v_ H1 L1 hle_ hR_ => ?_)
  obtain ⟨rfl, rfl, rfl⟩ := hR_
  refine asg rfl rfl ?_
  refine nl ?_
  refine drW .head ?_
  exact rT rfl rfl ler (fun _ _ h => h) ⟨_, rfl, RdEnd.out (hB1 (by rw [ey1]; exact rMany_bad (fun r h => decV_bad (decP_bad _ _ _) h) _ _ hbad_)) hbad_⟩
 ·
  refine skt ?_
  refine sr ?_
  refine mv rfl rfl ?_
  refine sh' (j := 0) Tryz.runUnderlying59 Tryz.sizeOf80 rfl rfl rfl (Nat.zero_le _) rfl ?_
  refine asg rfl rfl ?_
  refine nl ?_
  refine sq ?_
  refine sr ?_
  refine mv rfl rfl ?_
  refine gt rfl rfl rfl ?_
  refine nl ?_
  refine nulC2 ?_
  refine cutT (fun l' H' L' => ∃ (a1 : Option Addr), ∃ (c1 : Nat), ∃ (Nr1 : Chunk), [(2, .bool false), (7, .pointer (some ⟨b_1, 0, none⟩)), (8, .int .i16 v), (9, .bool (decide ((0 : Int) ≤ v))), (10, .pointer (some ⟨b, 0, none⟩)), (12, .slice none 0 0), (13, .slice a1 (lT x1.1).length c1), (14, .int .i32 (rArr true x0.2).1)] = l' ∧ Nr1 :: N67 :: [(b, .cells [.int .i16 v, .int .i16 (IntKind.i16.wrap x0.1.n), .slice none 0 0, .slice none 0 0, .map none].toArray 65 (0, 0))] :: L = L' ∧ Row 80 3 a1 (lT x1.1).length c1 (reps [.string ⟨#[]⟩, .slice none 0 0, .map none] (lT x1.1).length) Nr1 ∧ a1.isNone = (if 0 ≤ ((-1) : Int) ∧ (v < ((-1) : Int) ∨ (rArr true x0.2).1 = 0) then false else decide ((rArr true x0.2).1 ≤ 0))) ?_ (fun l' H' L' le_3 hI => ?_)
  ·
   refine cd rfl (fun h75 => ?_) (fun h75 => ?_)
   ·
    refine rg ?_
    refine mv rfl rfl ?_
    refine mv rfl rfl ?_
    refine apz (zs := [.string ⟨#[]⟩, .slice none 0 0, .map none]) (m := (lT x1.1).length) Tryz.underlying59 Tryz.underlying21 I80 rfl rfl rfl (by omega) (by omega) (by have h9 := hnb1; unfold BR at h9; omega) (by have h9 := hnb1; unfold BR at h9; unfold maxLen; omega) rfl (fun g78 cp78 N78 r78 => ?_)
    refine asg rfl rfl ?_
    refine nN ?_
    refine drN (.tail .head) ?_
    refine fun a_ w_ hA hw => ⟨_, _, _, hA.sub ?_, ler, hw, (some ⟨g78, 0, none⟩), cp78, N78, rfl, rfl, r78, (by rw [if_neg (by omega)]; exact (decide_eq_false (by omega)).symm)⟩
    exact (.cons rfl (.cons rfl (.cons rfl (.cons rfl (.cons rfl (.cons rfl (.cons rfl (.cons rfl (.nil _)))))))))
   ·
    refine skN ?_
    refine fun a_ w_ hA hw => ⟨_, _, _, hA.sub ?_, ler, hw, none, 0, [], rfl, rfl, (by rw [show (lT x1.1).length = 0 by omega]; exact (Row.nil _ _)), (by rw [if_neg (by omega)]; exact (decide_eq_true (by omega)).symm)⟩
    exact (.cons rfl (.cons rfl (.cons rfl (.cons rfl (.cons rfl (.cons rfl (.cons (by rw [show (lT x1.1).length = 0 by omega]; rfl) (.cons rfl (.nil _)))))))))
  ·
   obtain ⟨a1, c1, Nr1, rfl, rfl, pj0, pj1⟩ := hI
   have hr1 := pj0
   have hi1 := pj1
   refine sq ?_
   refine sr ?_
   refine asg rfl rfl ?_
   refine nl ?_
   refine bl (lp ((lT x1.1).length) (fun k1 l' H' L' => ∃ (es1 : List (KE 3)) (M1 RN1 : Chunk), [(2, .bool false), (7, .pointer (some ⟨b_1, 0, none⟩)), (8, .int .i16 v), (9, .bool (decide ((0 : Int) ≤ v))), (10, .pointer (some ⟨b, 0, none⟩)), (12, .slice none 0 0), (13, .slice a1 (lT x1.1).length c1), (14, .int .i32 (rArr true x0.2).1), (15, .int .i32 (k1 : Int))] = l' ∧ M1 :: RN1 :: [(b, .cells [.int .i16 v, .int .i16 (IntKind.i16.wrap x0.1.n), .slice none 0 0, .slice none 0 0, .map none].toArray 65 (0, 0))] :: L = L' ∧ RdAt H' 117 b_1 (rMany (decV 10 (decP fs_sVoteResponseTopic v true) false true) k1 (rArr true x0.2).2).2 RN1 ∧ Row 80 3 a1 (lT x1.1).length c1 (es1.flatMap fk ++ reps [.string ⟨#[]⟩, .slice none 0 0, .map none] ((lT x1.1).length - k1)) M1 ∧ es1.map (·.2) = (rMany (decV 10 (decP fs_sVoteResponseTopic v true) false true) k1 (rArr true x0.2).2).1 ∧ ∀ p ∈ es1, At_VoteResponseTopic H' p.2 (fk p)) [(2, .bool false), (7, .pointer (some ⟨b_1, 0, none⟩)), (8, .int .i16 v), (9, .bool (decide ((0 : Int) ≤ v))), (10, .pointer (some ⟨b, 0, none⟩)), (12, .slice none 0 0), (13, .slice a1 (lT x1.1).length c1), (14, .int .i32 (rArr true x0.2).1), (15, .int .i32 (0 : Int))] (.of ⟨rfl, rfl, rfl, rfl, rfl, rfl, rfl, rfl, rfl, trivial⟩) ⟨[], Nr1, _, rfl, rfl, (hR67.mono le_3), hr1, rfl, (fun p hp => by cases hp)⟩ (fun k1 l' H' L' hk1 le_4 hI => ?_))
   obtain ⟨es1, M1, RN1, rfl, rfl, hR_1, hw_1, he_1, hg_1⟩ := hI
   have hs_1 := els_len he_1
   have hp_1 : (es1.flatMap fk).length = k1 * 3 := els_flat hs_1
   refine sq ?_
   refine sr ?_
   refine mv rfl rfl ?_
   refine mv rfl rfl ?_
   refine lt rfl rfl rfl ?_
   refine nl ?_
   refine cd rfl (fun h81 => ?_) (fun h81 => ?_)
   ·
    have hkl1 : k1 < (lT x1.1).length := by omega
    obtain ⟨g1, po1, hga1, rfl, hbk1⟩ := hw_1.next (zs := [.string ⟨#[]⟩, .slice none 0 0, .map none]) hkl1 rfl (by decide)
    have ho1 : 0 + k1 * 3 = (es1.flatMap fk).length := by rw [hp_1]; omega
    have hbz1 : ((decV 10 (decP fs_sVoteResponseTopic v true) false true) (rMany (decV 10 (decP fs_sVoteResponseTopic v true) false true) k1 (rArr true x0.2).2).2).2.bad = true → (decM fs_VoteResponse v true ⟨s, false, !a.isNone⟩).2.bad = true := fun h => hB1 (by rw [ex1]; exact rMany_mono (fun r h => decV_bad (fun r h => decP_bad _ _ _ r h) h) _ (show k1 + 1 ≤ (lT x1.1).length from hkl1) (by rw [rMany_succ]; exact h))
    have hLk1 : (rMany (decV 10 (decP fs_sVoteResponseTopic v true) false true) k1 (rArr true x0.2).2).2.s.length ≤ BR := Nat.le_trans (rMany_shr (fun r => decV_shr (fun r => decP_shr _ _ _ r) r) _ _) hm1
    have hL1__ := hLk1
    obtain ⟨x1_0, hx1_0⟩ : ∃ x, x = stepF (Fd.mk 8 0 (-1) (-1) (-1) 0 0 []) v true (rMany (decV 10 (decP fs_sVoteResponseTopic v true) false true) k1 (rArr true x0.2).2).2 := ⟨_, rfl⟩
    obtain ⟨x1_1, hx1_1⟩ : ∃ x, x = stepF (Fd.mk 11 0 (-1) (-1) (-1) 0 10 fs_sVoteResponseTopicPartition) v true x1_0.2 := ⟨_, rfl⟩
    obtain ⟨u1_, hu1_⟩ : ∃ x, x = tailU true x1_1.2 := ⟨_, rfl⟩
    have hD1_ : decP fs_sVoteResponseTopic v true (rMany (decV 10 (decP fs_sVoteResponseTopic v true) false true) k1 (rArr true x0.2).2).2 = (.mk 0 [] false [x1_0.1, x1_1.1] u1_.1, u1_.2) := by
     generalize ((rMany (decV 10 (decP fs_sVoteResponseTopic v true) false true) k1 (rArr true x0.2).2).2 : Rd) = r_ at hx1_0 ⊢
     rw [decP_eq]; unfold fs_sVoteResponseTopic; simp only [decFs_cons, decFs_nil, ← hx1_0, ← hx1_1, ← hu1_]
    have hL1_0 : x1_0.2.s.length ≤ BR := by rw [hx1_0]; exact Nat.le_trans (stepF_shr _ _ _ _) hL1__
    have hL1_1 : x1_1.2.s.length ≤ BR := by rw [hx1_1]; exact Nat.le_trans (stepF_shr _ _ _ _) hL1_0
    have hE1_ : u1_.2.bad = true → (decM fs_VoteResponse v true ⟨s, false, !a.isNone⟩).2.bad = true := fun h => hbz1 (by show (decP fs_sVoteResponseTopic v true (rMany (decV 10 (decP fs_sVoteResponseTopic v true) false true) k1 (rArr true x0.2).2).2).2.bad = true; rw [hD1_]; exact h)
    have hB1_1 : x1_1.2.bad = true → (decM fs_VoteResponse v true ⟨s, false, !a.isNone⟩).2.bad = true := fun h => hE1_ (by rw [hu1_]; exact tailU_bad h)
    have hB1_0 : x1_0.2.bad = true → (decM fs_VoteResponse v true ⟨s, false, !a.isNone⟩).2.bad = true := fun h => hB1_1 (by rw [hx1_1]; exact step_bad h)
    refine skt ?_
    refine sq ?_
    refine bl ?_
    refine sr ?_
    refine mv rfl rfl ?_
    refine mv rfl rfl ?_
    refine ixk (j := k1) Tryz.runUnderlying59 Tryz.sizeOf80 rfl hga1 rfl rfl hkl1 rfl ?_
    refine asg rfl rfl ?_
    refine nl ?_
    refine sr ?_
    refine mv rfl rfl ?_
    refine cl rfl rfl rfl (def_VoteResponseTopic ho1) rfl (fun v_ H1 L1 hle_ hR_ => ?_)
    obtain ⟨rfl, rfl⟩ := hR_
    refine nl ?_
    refine sr ?_
    refine mv rfl rfl ?_
    refine asg rfl rfl ?_
    refine nl ?_
    refine sq ?_
    refine sr ?_
    refine asg rfl rfl ?_
    refine nl ?_
    refine sq ?_
    refine sr ?_
    refine mv rfl rfl ?_
    refine nl ?_
    refine cF rfl ?_
    refine sr ?_
    refine mv rfl rfl ?_
    refine nl ?_
    refine cdT rfl (by omega) ?_
    refine rg ?_
    refine tf (.tail .head) ?_
    have ex1_0 : x1_0 = decV 8 (decP [] v true) false true (rMany (decV 10 (decP fs_sVoteResponseTopic v true) false true) k1 (rArr true x0.2).2).2 := (hx1_0.trans (step_yes (by decide) (show (0 : Int) ≤ v by omega) (Or.inl (by decide)))).trans (decF'_val (by decide) (rfl))
    refine cl rfl rfl rfl (d8t hR_1 ex1_0) rfl (fun v_ H1 L1 le_5 hR_ => ?_)
    obtain ⟨N95, rfl, hR95, rfl, rfl⟩ := hR_
    refine asg rfl rfl ?_
    refine nl ?_
    refine rg ?_
    refine mv rfl rfl ?_
    refine mv rfl rfl ?_
    refine nc rfl rfl ?_
    refine fa F80_0 rfl rfl ?_
    refine stM (off := 0) Tryz.sizeOf9 rfl (by rw [ho1]) rfl rfl rfl (.tail .head) ?_
    refine nl ?_
    refine sq ?_
    refine sr ?_
    refine mv rfl rfl ?_
    refine nc rfl rfl ?_
    refine fa F80_1 rfl rfl ?_
    refine ld (j := 1) (off := 0 + k1 * 3) (Says.mid (.tail .head) ho1) Tryz.isAgg78 rfl rfl rfl rfl ?_
    refine asg rfl rfl ?_
    refine nl ?_
    refine sr ?_
    refine mv rfl rfl ?_
    refine asg rfl rfl ?_
    refine nl ?_
    refine sr ?_
    refine asg rfl rfl ?_
    refine nl ?_
    refine sq ?_
    refine sr ?_
    refine mv rfl rfl ?_
    refine nl ?_
    refine cdT rfl (by omega) ?_
    refine rg ?_
    have ey1_1 : x1_1 = (.mk 0 [] (if 0 ≤ ((-1) : Int) ∧ (v < ((-1) : Int) ∨ (rArr true x1_0.2).1 = 0) then false else decide ((rArr true x1_0.2).1 ≤ 0)) (rMany (decV 10 (decP fs_sVoteResponseTopicPartition v true) false true) (rArr true x1_0.2).1.toNat (rArr true x1_0.2).2).1 [], (rMany (decV 10 (decP fs_sVoteResponseTopicPartition v true) false true) (rArr true x1_0.2).1.toNat (rArr true x1_0.2).2).2) := (hx1_1.trans (step_yes (by decide) (show (0 : Int) ≤ v by omega) (Or.inl (by decide)))).trans (decF'_list rfl rfl)
    have hn1_1 : (rArr true x1_0.2).1.toNat = (lT x1_1.1).length := by rw [ey1_1]; exact (lT_many nul_le).symm
    have ex1_1 := ey1_1
    rw [hn1_1] at ex1_1
    have hl1_1 := rArr_le true x1_0.2
    have hm1_1 : (rArr true x1_0.2).2.s.length ≤ BR := Nat.le_trans (rArr_len true x1_0.2) hL1_0
    have hnb1_1 : (lT x1_1.1).length ≤ BR := by omega
    refine cl rfl rfl rfl (r_arrt hR95) rfl (fun v_ H1 L1 hle_ hR_ => ?_)
    obtain ⟨rfl, N107, rfl, hR107, rfl⟩ := hR_
    have hh1_1 := rArr_hi true x1_0.2
    refine asg rfl rfl ?_
    refine nl ?_
    refine sq ?_
    refine sr ?_
    refine cl rfl rfl rfl (r_ok hR107) rfl (fun v_ H1 L1 hle_ hR_ => ?_)
    obtain ⟨rfl, rfl, rfl⟩ := hR_
    refine nt rfl rfl ?_
    refine nl ?_
    refine cb rfl (fun h110 => ?_) (fun h110 => ?_)
    ·
     have hbad_ : (rArr true x1_0.2).2.bad = true := by simpa using h110
     refine sr ?_
     refine cl rfl rfl rfl (r_complete hR107 (he.mono (le_3.trans le_4))) rfl (fun v_ H1 L1 hle_ hR_ => ?_)
     obtain ⟨rfl, rfl, rfl⟩ := hR_
     refine asg rfl rfl ?_
     refine nl ?_
     refine drW .head ?_
     refine drW .head ?_
     exact rT rfl rfl (le_3.trans le_4) (fun _ _ h => h) ⟨_, rfl, RdEnd.out (hB1_1 (by rw [ey1_1]; exact rMany_bad (fun r h => decV_bad (decP_bad _ _ _) h) _ _ hbad_)) hbad_⟩
    ·
     refine skt ?_
     refine sr ?_
     refine mv rfl rfl ?_
     refine sh' (j := 0) Tryz.runUnderlying78 Tryz.sizeOf84 rfl rfl rfl (Nat.zero_le _) rfl ?_
     refine asg rfl rfl ?_
     refine nl ?_
     refine sq ?_
     refine sr ?_
     refine mv rfl rfl ?_
     refine gt rfl rfl rfl ?_
     refine nl ?_
     refine nulC2 ?_
     refine cutT (fun l' H' L' => ∃ (a1_1 : Option Addr), ∃ (c1_1 : Nat), ∃ (Nr1_1 : Chunk), [(2, .bool false), (7, .pointer (some ⟨b_1, 0, none⟩)), (8, .int .i16 v), (9, .bool (decide ((0 : Int) ≤ v))), (10, .pointer (some ⟨b, 0, none⟩)), (12, .slice none 0 0), (13, .slice a1 (lT x1.1).length c1), (14, .int .i32 (rArr true x0.2).1), (15, .int .i32 (k1 : Int)), (17, .pointer (some ⟨g1, 0 + k1 * 3, none⟩)), (19, .slice none 0 0), (20, .slice a1_1 (lT x1_1.1).length c1_1), (21, .int .i32 (rArr true x1_0.2).1)] = l' ∧ Nr1_1 :: N107 :: [(g1, .cells ((es1.flatMap fk) ++ ([.string ⟨x1_0.1.s.toArray⟩, .slice none 0 0, .map none] : List Value) ++ po1).toArray 80 (0, 0))] :: [(b, .cells [.int .i16 v, .int .i16 (IntKind.i16.wrap x0.1.n), .slice none 0 0, .slice none 0 0, .map none].toArray 65 (0, 0))] :: L = L' ∧ Row 84 6 a1_1 (lT x1_1.1).length c1_1 (reps [.int .i32 0, .int .i16 0, .int .i32 0, .int .i32 0, .bool false, .map none] (lT x1_1.1).length) Nr1_1 ∧ a1_1.isNone = (if 0 ≤ ((-1) : Int) ∧ (v < ((-1) : Int) ∨ (rArr true x1_0.2).1 = 0) then false else decide ((rArr true x1_0.2).1 ≤ 0))) ?_ (fun l' H' L' le_6 hI => ?_)
     ·
      refine cd rfl (fun h115 => ?_) (fun h115 => ?_)
      ·
       refine rg ?_
       refine mv rfl rfl ?_
       refine mv rfl rfl ?_
       refine apz (zs := [.int .i32 0, .int .i16 0, .int .i32 0, .int .i32 0, .bool false, .map none]) (m := (lT x1_1.1).length) Tryz.underlying78 Tryz.underlying21 I84 rfl rfl rfl (by omega) (by omega) (by have h9 := hnb1_1; unfold BR at h9; omega) (by have h9 := hnb1_1; unfold BR at h9; unfold maxLen; omega) rfl (fun g118 cp118 N118 r118 => ?_)
       refine asg rfl rfl ?_
       refine nN ?_
       refine drN (.tail .head) ?_
       refine fun a_ w_ hA hw => ⟨_, _, _, hA.sub ?_, ler, hw, (some ⟨g118, 0, none⟩), cp118, N118, rfl, rfl, r118, (by rw [if_neg (by omega)]; exact (decide_eq_false (by omega)).symm)⟩
       exact (.cons rfl (.cons rfl (.cons rfl (.cons rfl (.cons rfl (.cons rfl (.cons rfl (.cons rfl (.cons rfl (.cons rfl (.cons rfl (.cons rfl (.cons rfl (.nil _))))))))))))))
      ·
       refine skN ?_
       refine fun a_ w_ hA hw => ⟨_, _, _, hA.sub ?_, ler, hw, none, 0, [], rfl, rfl, (by rw [show (lT x1_1.1).length = 0 by omega]; exact (Row.nil _ _)), (by rw [if_neg (by omega)]; exact (decide_eq_true (by omega)).symm)⟩
       exact (.cons rfl (.cons rfl (.cons rfl (.cons rfl (.cons rfl (.cons rfl (.cons rfl (.cons rfl (.cons rfl (.cons rfl (.cons rfl (.cons (by rw [show (lT x1_1.1).length = 0 by omega]; rfl) (.cons rfl (.nil _))))))))))))))
     ·
      obtain ⟨a1_1, c1_1, Nr1_1, rfl, rfl, pj0, pj1⟩ := hI
      have hr1_1 := pj0
      have hi1_1 := pj1
      refine sq ?_
      refine sr ?_
      refine asg rfl rfl ?_
      refine nl ?_
      refine bl (lp ((lT x1_1.1).length) (fun k1_1 l' H' L' => ∃ (es1_1 : List (KE 6)) (M1_1 RN1_1 : Chunk), [(2, .bool false), (7, .pointer (some ⟨b_1, 0, none⟩)), (8, .int .i16 v), (9, .bool (decide ((0 : Int) ≤ v))), (10, .pointer (some ⟨b, 0, none⟩)), (12, .slice none 0 0), (13, .slice a1 (lT x1.1).length c1), (14, .int .i32 (rArr true x0.2).1), (15, .int .i32 (k1 : Int)), (17, .pointer (some ⟨g1, 0 + k1 * 3, none⟩)), (19, .slice none 0 0), (20, .slice a1_1 (lT x1_1.1).length c1_1), (21, .int .i32 (rArr true x1_0.2).1), (22, .int .i32 (k1_1 : Int))] = l' ∧ M1_1 :: RN1_1 :: [(g1, .cells ((es1.flatMap fk) ++ ([.string ⟨x1_0.1.s.toArray⟩, .slice none 0 0, .map none] : List Value) ++ po1).toArray 80 (0, 0))] :: [(b, .cells [.int .i16 v, .int .i16 (IntKind.i16.wrap x0.1.n), .slice none 0 0, .slice none 0 0, .map none].toArray 65 (0, 0))] :: L = L' ∧ RdAt H' 117 b_1 (rMany (decV 10 (decP fs_sVoteResponseTopicPartition v true) false true) k1_1 (rArr true x1_0.2).2).2 RN1_1 ∧ Row 84 6 a1_1 (lT x1_1.1).length c1_1 (es1_1.flatMap fk ++ reps [.int .i32 0, .int .i16 0, .int .i32 0, .int .i32 0, .bool false, .map none] ((lT x1_1.1).length - k1_1)) M1_1 ∧ es1_1.map (·.2) = (rMany (decV 10 (decP fs_sVoteResponseTopicPartition v true) false true) k1_1 (rArr true x1_0.2).2).1 ∧ ∀ p ∈ es1_1, At_VoteResponseTopicPartition H' p.2 (fk p)) [(2, .bool false), (7, .pointer (some ⟨b_1, 0, none⟩)), (8, .int .i16 v), (9, .bool (decide ((0 : Int) ≤ v))), (10, .pointer (some ⟨b, 0, none⟩)), (12, .slice none 0 0), (13, .slice a1 (lT x1.1).length c1), (14, .int .i32 (rArr true x0.2).1), (15, .int .i32 (k1 : Int)), (17, .pointer (some ⟨g1, 0 + k1 * 3, none⟩)), (19, .slice none 0 0), (20, .slice a1_1 (lT x1_1.1).length c1_1), (21, .int .i32 (rArr true x1_0.2).1), (22, .int .i32 (0 : Int))] (.of ⟨rfl, rfl, rfl, rfl, rfl, rfl, rfl, rfl, rfl, rfl, rfl, rfl, rfl, rfl, trivial⟩) ⟨[], Nr1_1, _, rfl, rfl, (hR107.mono le_6), hr1_1, rfl, (fun p hp => by cases hp)⟩ (fun k1_1 l' H' L' hk1_1 le_7 hI => ?_))
      obtain ⟨es1_1, M1_1, RN1_1, rfl, rfl, hR_1_1, hw_1_1, he_1_1, hg_1_1⟩ := hI
      have hs_1_1 := els_len he_1_1
      have hp_1_1 : (es1_1.flatMap fk).length = k1_1 * 6 := els_flat hs_1_1
      refine sq ?_
      refine sr ?_
      refine mv rfl rfl ?_
      refine mv rfl rfl ?_
      refine lt rfl rfl rfl ?_
      refine nl ?_
      refine cd rfl (fun h121 => ?_) (fun h121 => ?_)
      ·
       have hkl1_1 : k1_1 < (lT x1_1.1).length := by omega
       obtain ⟨g1_1, po1_1, hga1_1, rfl, hbk1_1⟩ := hw_1_1.next (zs := [.int .i32 0, .int .i16 0, .int .i32 0, .int .i32 0, .bool false, .map none]) hkl1_1 rfl (by decide)
       have ho1_1 : 0 + k1_1 * 6 = (es1_1.flatMap fk).length := by rw [hp_1_1]; omega
       have hbz1_1 : ((decV 10 (decP fs_sVoteResponseTopicPartition v true) false true) (rMany (decV 10 (decP fs_sVoteResponseTopicPartition v true) false true) k1_1 (rArr true x1_0.2).2).2).2.bad = true → (decM fs_VoteResponse v true ⟨s, false, !a.isNone⟩).2.bad = true := fun h => hB1_1 (by rw [ex1_1]; exact rMany_mono (fun r h => decV_bad (fun r h => decP_bad _ _ _ r h) h) _ (show k1_1 + 1 ≤ (lT x1_1.1).length from hkl1_1) (by rw [rMany_succ]; exact h))
       have hLk1_1 : (rMany (decV 10 (decP fs_sVoteResponseTopicPartition v true) false true) k1_1 (rArr true x1_0.2).2).2.s.length ≤ BR := Nat.le_trans (rMany_shr (fun r => decV_shr (fun r => decP_shr _ _ _ r) r) _ _) hm1_1
       have hL1_1__ := hLk1_1
       obtain ⟨x1_1_0, hx1_1_0⟩ : ∃ x, x = stepF (Fd.mk 3 0 (-1) (-1) (-1) 0 0 []) v true (rMany (decV 10 (decP fs_sVoteResponseTopicPartition v true) false true) k1_1 (rArr true x1_0.2).2).2 := ⟨_, rfl⟩
       obtain ⟨x1_1_1, hx1_1_1⟩ : ∃ x, x = stepF (Fd.mk 2 0 (-1) (-1) (-1) 0 0 []) v true x1_1_0.2 := ⟨_, rfl⟩
       obtain ⟨x1_1_2, hx1_1_2⟩ : ∃ x, x = stepF (Fd.mk 3 0 (-1) (-1) (-1) 0 0 []) v true x1_1_1.2 := ⟨_, rfl⟩
       obtain ⟨x1_1_3, hx1_1_3⟩ : ∃ x, x = stepF (Fd.mk 3 0 (-1) (-1) (-1) 0 0 []) v true x1_1_2.2 := ⟨_, rfl⟩
       obtain ⟨x1_1_4, hx1_1_4⟩ : ∃ x, x = stepF (Fd.mk 0 0 (-1) (-1) (-1) 0 0 []) v true x1_1_3.2 := ⟨_, rfl⟩
       obtain ⟨u1_1_, hu1_1_⟩ : ∃ x, x = tailU true x1_1_4.2 := ⟨_, rfl⟩
       have hD1_1_ : decP fs_sVoteResponseTopicPartition v true (rMany (decV 10 (decP fs_sVoteResponseTopicPartition v true) false true) k1_1 (rArr true x1_0.2).2).2 = (.mk 0 [] false [x1_1_0.1, x1_1_1.1, x1_1_2.1, x1_1_3.1, x1_1_4.1] u1_1_.1, u1_1_.2) := by
        generalize ((rMany (decV 10 (decP fs_sVoteResponseTopicPartition v true) false true) k1_1 (rArr true x1_0.2).2).2 : Rd) = r_ at hx1_1_0 ⊢
        rw [decP_eq]; unfold fs_sVoteResponseTopicPartition; simp only [decFs_cons, decFs_nil, ← hx1_1_0, ← hx1_1_1, ← hx1_1_2, ← hx1_1_3, ← hx1_1_4, ← hu1_1_]
       have hL1_1_0 : x1_1_0.2.s.length ≤ BR := by rw [hx1_1_0]; exact Nat.le_trans (stepF_shr _ _ _ _) hL1_1__
       have hL1_1_1 : x1_1_1.2.s.length ≤ BR := by rw [hx1_1_1]; exact Nat.le_trans (stepF_shr _ _ _ _) hL1_1_0
       have hL1_1_2 : x1_1_2.2.s.length ≤ BR := by rw [hx1_1_2]; exact Nat.le_trans (stepF_shr _ _ _ _) hL1_1_1
       have hL1_1_3 : x1_1_3.2.s.length ≤ BR := by rw [hx1_1_3]; exact Nat.le_trans (stepF_shr _ _ _ _) hL1_1_2
       have hL1_1_4 : x1_1_4.2.s.length ≤ BR := by rw [hx1_1_4]; exact Nat.le_trans (stepF_shr _ _ _ _) hL1_1_3
       have hE1_1_ : u1_1_.2.bad = true → (decM fs_VoteResponse v true ⟨s, false, !a.isNone⟩).2.bad = true := fun h => hbz1_1 (by show (decP fs_sVoteResponseTopicPartition v true (rMany (decV 10 (decP fs_sVoteResponseTopicPartition v true) false true) k1_1 (rArr true x1_0.2).2).2).2.bad = true; rw [hD1_1_]; exact h)
       have hB1_1_4 : x1_1_4.2.bad = true → (decM fs_VoteResponse v true ⟨s, false, !a.isNone⟩).2.bad = true := fun h => hE1_1_ (by rw [hu1_1_]; exact tailU_bad h)
       have hB1_1_3 : x1_1_3.2.bad = true → (decM fs_VoteResponse v true ⟨s, false, !a.isNone⟩).2.bad = true := fun h => hB1_1_4 (by rw [hx1_1_4]; exact step_bad h)
       have hB1_1_2 : x1_1_2.2.bad = true → (decM fs_VoteResponse v true ⟨s, false, !a.isNone⟩).2.bad = true := fun h => hB1_1_3 (by rw [hx1_1_3]; exact step_bad h)
       have hB1_1_1 : x1_1_1.2.bad = true → (decM fs_VoteResponse v true ⟨s, false, !a.isNone⟩).2.bad = true := fun h => hB1_1_2 (by rw [hx1_1_2]; exact step_bad h)
       have hB1_1_0 : x1_1_0.2.bad = true → (decM fs_VoteResponse v true ⟨s, false, !a.isNone⟩).2.bad = true := fun h => hB1_1_1 (by rw [hx1_1_1]; exact step_bad h)
       refine skt ?_
       refine sq ?_
       refine bl ?_
       refine sr ?_
       refine mv rfl rfl ?_
       refine mv rfl rfl ?_
       refine ixk (j := k1_1) Tryz.runUnderlying78 Tryz.sizeOf84 rfl hga1_1 rfl rfl hkl1_1 rfl ?_
       refine asg rfl rfl ?_
       refine nl ?_
       refine sr ?_
       refine mv rfl rfl ?_
       refine cl rfl rfl rfl (def_VoteResponseTopicPartition ho1_1) rfl (fun v_ H1 L1 hle_ hR_ => ?_)
       obtain ⟨rfl, rfl⟩ := hR_
       refine nl ?_
       refine sr ?_
       refine mv rfl rfl ?_
       refine asg rfl rfl ?_
       refine nl ?_
       refine sq ?_
       refine sr ?_
       refine tf (.tail .head) ?_
       have ex1_1_0 : x1_1_0 = decV 3 (decP [] v true) false true (rMany (decV 10 (decP fs_sVoteResponseTopicPartition v true) false true) k1_1 (rArr true x1_0.2).2).2 := (hx1_1_0.trans (step_yes (by decide) (show (0 : Int) ≤ v by omega) (Or.inl (by decide)))).trans (decF'_val (by decide) (rfl))
       refine cl rfl rfl rfl (d3 hR_1_1 ex1_1_0) rfl (fun v_ H1 L1 hle_ hR_ => ?_)
       obtain ⟨N130, rfl, hR130, rfl, rfl⟩ := hR_
       refine asg rfl rfl ?_
       refine nl ?_
       refine rg ?_
       refine mv rfl rfl ?_
       refine mv rfl rfl ?_
       refine nc rfl rfl ?_
       refine fa F84_0 rfl rfl ?_
       refine stM (off := 0) Tryz.sizeOf21 rfl (by rw [ho1_1]) rfl rfl rfl (.tail .head) ?_
       refine nl ?_
       refine sq ?_
       refine sr ?_
       have ex1_1_1 : x1_1_1 = decV 2 (decP [] v true) false true x1_1_0.2 := (hx1_1_1.trans (step_yes (by decide) (show (0 : Int) ≤ v by omega) (Or.inl (by decide)))).trans (decF'_val (by decide) (rfl))
       refine cl rfl rfl rfl (d2 hR130 ex1_1_1) rfl (fun v_ H1 L1 hle_ hR_ => ?_)
       obtain ⟨N135, rfl, hR135, rfl, rfl⟩ := hR_
       refine asg rfl rfl ?_
       refine nl ?_
       refine rg ?_
       refine mv rfl rfl ?_
       refine mv rfl rfl ?_
       refine nc rfl rfl ?_
       refine fa F84_1 rfl rfl ?_
       refine stM (off := 1) Tryz.sizeOf40 rfl (by rw [ho1_1]) rfl rfl rfl (.tail .head) ?_
       refine nl ?_
       refine sq ?_
       refine sr ?_
       have ex1_1_2 : x1_1_2 = decV 3 (decP [] v true) false true x1_1_1.2 := (hx1_1_2.trans (step_yes (by decide) (show (0 : Int) ≤ v by omega) (Or.inl (by decide)))).trans (decF'_val (by decide) (rfl))
       refine cl rfl rfl rfl (d3 hR135 ex1_1_2) rfl (fun v_ H1 L1 hle_ hR_ => ?_)
       obtain ⟨N140, rfl, hR140, rfl, rfl⟩ := hR_
       refine asg rfl rfl ?_
       refine nl ?_
       refine rg ?_
       refine mv rfl rfl ?_
       refine mv rfl rfl ?_
       refine nc rfl rfl ?_
       refine fa F84_2 rfl rfl ?_
       refine stM (off := 2) Tryz.sizeOf21 rfl (by rw [ho1_1]) rfl rfl rfl (.tail .head) ?_
       refine nl ?_
       refine sq ?_
       refine sr ?_
       have ex1_1_3 : x1_1_3 = decV 3 (decP [] v true) false true x1_1_2.2 := (hx1_1_3.trans (step_yes (by decide) (show (0 : Int) ≤ v by omega) (Or.inl (by decide)))).trans (decF'_val (by decide) (rfl))
       refine cl rfl rfl rfl (d3 hR140 ex1_1_3) rfl (fun v_ H1 L1 hle_ hR_ => ?_)
       obtain ⟨N145, rfl, hR145, rfl, rfl⟩ := hR_
       refine asg rfl rfl ?_
       refine nl ?_
       refine rg ?_
       refine mv rfl rfl ?_
       refine mv rfl rfl ?_
       refine nc rfl rfl ?_
       refine fa F84_3 rfl rfl ?_
       refine stM (off := 3) Tryz.sizeOf21 rfl (by rw [ho1_1]) rfl rfl rfl (.tail .head) ?_
       refine nl ?_
       refine sq ?_
       refine sr ?_
       have ex1_1_4 : x1_1_4 = decV 0 (decP [] v true) false true x1_1_3.2 := (hx1_1_4.trans (step_yes (by decide) (show (0 : Int) ≤ v by omega) (Or.inl (by decide)))).trans (decF'_val (by decide) (rfl))
       refine cl rfl rfl rfl (d0 hR145 ex1_1_4) rfl (fun v_ H1 L1 hle_ hR_ => ?_)
       obtain ⟨N150, rfl, hR150, rfl, rfl⟩ := hR_
       refine asg rfl rfl ?_
       refine nl ?_
       refine rg ?_
       refine mv rfl rfl ?_
       refine mv rfl rfl ?_
       refine nc rfl rfl ?_
       refine fa F84_4 rfl rfl ?_
       refine stM (off := 4) Tryz.sizeOf4 rfl (by rw [ho1_1]) rfl rfl rfl (.tail .head) ?_
       refine nl ?_
       refine sr ?_
       refine mv rfl rfl ?_
       refine nl ?_
       refine cdT rfl (by omega) ?_
       refine rg ?_
       refine mv rfl rfl ?_
       refine cl rfl rfl rfl (d_tags hR150) rfl (fun v_ H1 L1 le_13 hR_ => ?_)
       obtain ⟨N157, rfl, hR157, m1_1_t, rfl, hft1_1_⟩ := hR_
       have hu21_1_ : u1_1_ = rTags x1_1_4.2 := hu1_1_
       rw [← hu21_1_] at hR157 hft1_1_
       refine nc rfl rfl ?_
       refine fa F84_5 rfl rfl ?_
       refine saM (off := 5) Tryz.sizeOf63 rfl (by rw [ho1_1]) rfl rfl rfl rfl (.tail .head) ?_
       refine nN ?_
       refine Nb ?_
       refine Nt ?_
       refine rg ?_
       refine mv rfl rfl ?_
       refine ad rfl rfl (c := ((k1_1 + 1 : Nat) : Int)) ((wrap32_le (by omega) (by omega)).trans (by omega)) rfl ?_
       refine asg rfl rfl ?_
       refine nN ?_
       have hfs1_1 := flatMap_snoc' fk es1_1 ((⟨([.int .i32 (IntKind.i32.wrap x1_1_0.1.n), .int .i16 (IntKind.i16.wrap x1_1_1.1.n), .int .i32 (IntKind.i32.wrap x1_1_2.1.n), .int .i32 (IntKind.i32.wrap x1_1_3.1.n), .bool (decide (x1_1_4.1.n % 2 = 1)), .map m1_1_t] : List Value), rfl, all_one rfl⟩, ((decV 10 (decP fs_sVoteResponseTopicPartition v true) false true) (rMany (decV 10 (decP fs_sVoteResponseTopicPartition v true) false true) k1_1 (rArr true x1_0.2).2).2).1) : KE 6)
       have hrw1_1 := hbk1_1 ([.int .i32 (IntKind.i32.wrap x1_1_0.1.n), .int .i16 (IntKind.i16.wrap x1_1_1.1.n), .int .i32 (IntKind.i32.wrap x1_1_2.1.n), .int .i32 (IntKind.i32.wrap x1_1_3.1.n), .bool (decide (x1_1_4.1.n % 2 = 1)), .map m1_1_t] : List Value) rfl
       refine tfN (.tail .head) ?_
       refine fun a_ w_ hA hw => ⟨hkl1_1, _, _, _, hA.sub ?_, (le_7.trans le_13), hw, _, _, _, rfl, rfl, (by rw [rMany_succ]; show RdAt _ 117 b_1 (decP fs_sVoteResponseTopicPartition v true (rMany (decV 10 (decP fs_sVoteResponseTopicPartition v true) false true) k1_1 (rArr true x1_0.2).2).2).2 _; rw [hD1_1_]; exact hR157), (by rw [← hfs1_1]; exact hrw1_1), (dec_els he_1_1), (fun p hp => (mem_snoc hp).elim (fun h => At_VoteResponseTopicPartition.mono _ _ _ _ le_13 (hg_1_1 p h)) (fun h => h ▸ (by show At_VoteResponseTopicPartition _ (decP fs_sVoteResponseTopicPartition v true (rMany (decV 10 (decP fs_sVoteResponseTopicPartition v true) false true) k1_1 (rArr true x1_0.2).2).2).1 [.int .i32 (IntKind.i32.wrap x1_1_0.1.n), .int .i16 (IntKind.i16.wrap x1_1_1.1.n), .int .i32 (IntKind.i32.wrap x1_1_2.1.n), .int .i32 (IntKind.i32.wrap x1_1_3.1.n), .bool (decide (x1_1_4.1.n % 2 = 1)), .map m1_1_t]; rw [hD1_1_]; exact ⟨m1_1_t, rfl, hft1_1_⟩)))⟩
       exact (.of ⟨rfl, rfl, rfl, rfl, rfl, rfl, rfl, rfl, rfl, rfl, rfl, rfl, rfl, rfl, trivial⟩)
      ·
       have hkn_ : k1_1 = (lT x1_1.1).length := by omega
       subst hkn_
       have hw2_1_1 : Row 84 6 a1_1 (lT x1_1.1).length c1_1 (es1_1.flatMap fk) M1_1 := by have h := hw_1_1; rw [Nat.sub_self] at h; simpa [reps] using h
       refine frW hw2_1_1 .head (fun Hf1_1 hlf1_1 hfz1_1 => ?_)
       have hrs1_1 := RowsAt.row (R := At_VoteResponseTopicPartition) hfz1_1 hs_1_1.symm hw2_1_1.le.1 (fun p hp => At_VoteResponseTopicPartition.mono _ _ _ _ hlf1_1 (hg_1_1 p hp))
       rw [he_1_1] at hrs1_1
       have hf1_1 : ListAt Hf1_1 x1_1.1 6 At_VoteResponseTopicPartition a1_1 c1_1 := by rw [ex1_1]; exact listAt_of hrs1_1 hi1_1 (fun h => by have h1 := nul_le h; rw [show (lT x1_1.1).length = 0 by omega]; rfl)
       have hRx1_1 : RdAt Hf1_1 117 b_1 x1_1.2 RN1_1 := by rw [ex1_1]; exact (hR_1_1.mono hlf1_1)
       refine exX ?_
       refine XT ?_
       refine XT ?_
       refine Xb ?_
       refine Nt ?_
       refine sr ?_
       refine mv rfl rfl ?_
       refine asg rfl rfl ?_
       refine nl ?_
       refine rg ?_
       refine mv rfl rfl ?_
       refine mv rfl rfl ?_
       refine nc rfl rfl ?_
       refine fa F80_1 rfl rfl ?_
       refine stM (off := 1) Tryz.sizeOf78 rfl (by rw [ho1]) rfl rfl rfl (.tail .head) ?_
       refine nl ?_
       refine sr ?_
       refine mv rfl rfl ?_
       refine nl ?_
       refine cdT rfl (by omega) ?_
       refine rg ?_
       refine mv rfl rfl ?_
       refine cl rfl rfl rfl (d_tags hRx1_1) rfl (fun v_ H1 L1 le_14 hR_ => ?_)
       obtain ⟨N167, rfl, hR167, m1_t, rfl, hft1_⟩ := hR_
       have hu21_ : u1_ = rTags x1_1.2 := hu1_
       rw [← hu21_] at hR167 hft1_
       refine nc rfl rfl ?_
       refine fa F80_2 rfl rfl ?_
       refine saM (off := 2) Tryz.sizeOf63 rfl (by rw [ho1]) rfl rfl rfl rfl (.tail .head) ?_
       refine nN ?_
       refine Nb ?_
       refine Nt ?_
       refine rg ?_
       refine mv rfl rfl ?_
       refine ad rfl rfl (c := ((k1 + 1 : Nat) : Int)) ((wrap32_le (by omega) (by omega)).trans (by omega)) rfl ?_
       refine asg rfl rfl ?_
       refine nN ?_
       have hfs1 := flatMap_snoc' fk es1 ((⟨([.string ⟨x1_0.1.s.toArray⟩, .slice a1_1 (lT x1_1.1).length c1_1, .map m1_t] : List Value), rfl, all_one rfl⟩, ((decV 10 (decP fs_sVoteResponseTopic v true) false true) (rMany (decV 10 (decP fs_sVoteResponseTopic v true) false true) k1 (rArr true x0.2).2).2).1) : KE 3)
       have hrw1 := hbk1 ([.string ⟨x1_0.1.s.toArray⟩, .slice a1_1 (lT x1_1.1).length c1_1, .map m1_t] : List Value) rfl
       refine tfN (.tail .head) ?_
       refine fun a_ w_ hA hw => ⟨hkl1, _, _, _, hA.sub ?_, (le_4.trans (le_6.trans (le_7.trans (hlf1_1.trans le_14)))), hw, _, _, _, rfl, rfl, (by rw [rMany_succ]; show RdAt _ 117 b_1 (decP fs_sVoteResponseTopic v true (rMany (decV 10 (decP fs_sVoteResponseTopic v true) false true) k1 (rArr true x0.2).2).2).2 _; rw [hD1_]; exact hR167), (by rw [← hfs1]; exact hrw1), (dec_els he_1), (fun p hp => (mem_snoc hp).elim (fun h => At_VoteResponseTopic.mono _ _ _ _ (le_6.trans (le_7.trans (hlf1_1.trans le_14))) (hg_1 p h)) (fun h => h ▸ (by show At_VoteResponseTopic _ (decP fs_sVoteResponseTopic v true (rMany (decV 10 (decP fs_sVoteResponseTopic v true) false true) k1 (rArr true x0.2).2).2).1 [.string ⟨x1_0.1.s.toArray⟩, .slice a1_1 (lT x1_1.1).length c1_1, .map m1_t]; rw [hD1_]; exact ⟨a1_1, c1_1, m1_t, rfl, (hf1_1.mono At_VoteResponseTopicPartition.mono le_14), hft1_⟩)))⟩
       exact (.of ⟨rfl, rfl, rfl, rfl, rfl, rfl, rfl, rfl, rfl, trivial⟩)
   ·
    have hkn_ : k1 = (lT x1.1).length := by omega
    subst hkn_
    have hw2_1 : Row 80 3 a1 (lT x1.1).length c1 (es1.flatMap fk) M1 := by have h := hw_1; rw [Nat.sub_self] at h; simpa [reps] using h
    refine frW hw2_1 .head (fun Hf1 hlf1 hfz1 => ?_)
    have hrs1 := RowsAt.row (R := At_VoteResponseTopic) hfz1 hs_1.symm hw2_1.le.1 (fun p hp => At_VoteResponseTopic.mono _ _ _ _ hlf1 (hg_1 p hp))
    rw [he_1] at hrs1
    have hf1 : ListAt Hf1 x1.1 3 At_VoteResponseTopic a1 c1 := by rw [ex1]; exact listAt_of hrs1 hi1 (fun h => by have h1 := nul_le h; rw [show (lT x1.1).length = 0 by omega]; rfl)
    have hRx1 : RdAt Hf1 117 b_1 x1.2 RN1 := by rw [ex1]; exact (hR_1.mono hlf1)
    refine exX ?_
    refine XT ?_
    refine XT ?_
    refine Xb ?_
    refine Nt ?_
    refine sr ?_
    refine mv rfl rfl ?_
    refine asg rfl rfl ?_
    refine nl ?_
    refine rg ?_
    refine mv rfl rfl ?_
    refine mv rfl rfl ?_
    refine nc rfl rfl ?_
    refine fa0 F65_2 rfl rfl ?_
    refine st Tryz.sizeOf59 rfl rfl rfl rfl (.tail .head) ?_
    refine nl ?_
    refine sq ?_
    refine sr ?_
    refine mv rfl rfl ?_
    refine nl ?_
    refine cdT rfl (by omega) ?_
    refine sr ?_
    obtain rfl : x2 = ((Tr.mk 0 [] true [] []), x1.2) := (hx2.trans (step_tag (by decide))).trans (by rw [dflF_eq]; rfl)
    refine cl rfl rfl rfl (r_Uvarint hRx1) rfl (fun v_ H1 L1 hle_ hR_ => ?_)
    obtain ⟨rfl, N176, rfl, hR176, rfl⟩ := hR_
    have hu176 := rU_lt x1.2
    refine asg rfl rfl ?_
    refine nl ?_
    have hK0l : K0.l = [x0.1, x1.1, (Tr.mk 0 [] true [] [])] := by rw [hK0]
    have hK0u : K0.u = [] := by rw [hK0]
    have hK0r : K0.r = (rU x1.2).2 := by rw [hK0]
    refine nulC2 ?_
    refine bl (lp ((rU x1.2).1) (fun kt l' H' L' => ∃ (xt2 : Tr), ∃ (a2 : Option Addr), ∃ (c2 : Nat), ∃ (mt : Option Nat) (kvs : List KV) (MT NT : Chunk), [(2, .bool false), (7, .pointer (some ⟨b_1, 0, none⟩)), (8, .int .i16 v), (9, .bool (decide ((0 : Int) ≤ v))), (10, .pointer (some ⟨b, 0, none⟩)), (30, .int .u32 (((rU x1.2).1 - kt : Nat) : Int))] = l' ∧ MT :: NT :: [(b, .cells [.int .i16 v, .int .i16 (IntKind.i16.wrap x0.1.n), .slice a1 (lT x1.1).length c1, .slice a2 (lT xt2).length c2, .map mt].toArray 65 (0, 0))] :: L = L' ∧ RdAt H' 117 b_1 (kSteps fs_VoteResponse v kt K0).r NT ∧ MapC mt kvs MT ∧ KvSet H' (kSteps fs_VoteResponse v kt K0).u kvs ∧ (kSteps fs_VoteResponse v kt K0).l = [x0.1, x1.1, xt2] ∧ ListAt H' xt2 4 At_VoteResponseNodeEndpoint a2 c2 ∧ (xt2 = (Tr.mk 0 [] true [] []) → a2 = none ∧ c2 = 0)) [(2, .bool false), (7, .pointer (some ⟨b_1, 0, none⟩)), (8, .int .i16 v), (9, .bool (decide ((0 : Int) ≤ v))), (10, .pointer (some ⟨b, 0, none⟩)), (30, .int .u32 (((rU x1.2).1 - 0 : Nat) : Int))] (.of ⟨rfl, rfl, rfl, rfl, rfl, rfl, trivial⟩) ⟨(Tr.mk 0 [] true [] []), none, 0, none, [], [], _, rfl, rfl, (by show RdAt _ 117 b_1 K0.r _; rw [hK0r]; exact hR176), MapC.nil, (by show KvSet _ K0.u _; rw [hK0u]; exact KvSet.nil _), (show K0.l = _ from hK0l), (ListAt.none rfl), (fun _ => ⟨rfl, rfl⟩)⟩ (fun kt l' H' L' hkt le_15 hI => ?_))
    obtain ⟨xt2, a2, c2, mt, kvs, MT, NT, rfl, rfl, hRT, hMT, hKT, hlT, hfT2, hz2⟩ := hI
    have hLK : (kSteps fs_VoteResponse v kt K0).r.s.length ≤ BR := Nat.le_trans (kSteps_shr _ _ _ _) hLK0
    refine sq ?_
    refine sr ?_
    refine mv rfl rfl ?_
    refine gt rfl rfl rfl ?_
    refine nl ?_
    refine cd rfl (fun h178 => ?_) (fun h178 => ?_)
    ·
     have hkn : kt < (rU x1.2).1 := by omega
     refine skt ?_
     refine sq ?_
     refine bl ?_
     refine sr ?_
     refine tf (.tail .head) ?_
     refine cl rfl rfl rfl (r_Uvarint hRT) rfl (fun v_ H1 L1 hle_ hR_ => ?_)
     obtain ⟨rfl, N181, rfl, hR181, rfl⟩ := hR_
     have hu181 := rU_lt (kSteps fs_VoteResponse v kt K0).r
     refine asg rfl rfl ?_
     refine nl ?_
     refine sr ?_
     refine mv rfl rfl ?_
     refine nl ?_
     refine bl ?_
     refine sr ?_
     refine eq' rfl rfl rfl ?_
     refine asg rfl rfl ?_
     refine nl ?_
     refine cd rfl (fun h191 => ?_) (fun h191 => ?_)
     ·
      have hkey : (rU (kSteps fs_VoteResponse v kt K0).r).1 = 0 := by omega
      have hxt : xt2 = (Tr.mk 0 [] true [] []) := by
       have h := hFresh.at_ kt hkn _ (show _ = some (fs_VoteResponse[2]'(by decide)) by rw [hkey, ti_fs_VoteResponse_0]; rfl)
       rw [hkey, ti_fs_VoteResponse_0, hlT] at h
       exact (Option.some.inj h).trans (by rw [dflF_eq]; rfl)
      obtain ⟨rfl, rfl⟩ := hz2 hxt
      refine sr ?_
      refine cl rfl rfl rfl (r_Uvarint hR181) rfl (fun v_ H1 L1 hle_ hR_ => ?_)
      obtain ⟨rfl, N193, rfl, hR193, rfl⟩ := hR_
      have hu193 := rU_lt (rU (kSteps fs_VoteResponse v kt K0).r).2
      refine cv Tryz.runUnderlying55 Tryz.runUnderlying3 rfl (w64 (by omega) (by omega)) rfl ?_
      refine cl rfl rfl rfl (r_Span hR193) rfl (fun v_ H1 L1 hle_ hR_ => ?_)
      obtain ⟨rfl, N195, rfl, hR195, as195, cs195, rfl, hBs195, hns195⟩ := hR_
      refine bd' S117 rfl rfl rfl ?_
      refine al Tryz.zeroValue117 rfl rfl (fun b_16 => ?_)
      refine sa Tryz.sizeOf117 rfl rfl rfl rfl rfl .head ?_
      have hRi : RdAt _ 117 b_16 ⟨(rSpan (rU (rU (kSteps fs_VoteResponse v kt K0).r).2).1 (rU (rU (kSteps fs_VoteResponse v kt K0).r).2).2).1.1, false, !(rSpan (rU (rU (kSteps fs_VoteResponse v kt K0).r).2).1 (rU (rU (kSteps fs_VoteResponse v kt K0).r).2).2).1.2⟩ [(b_16, .cells [_, _].toArray 117 (0, 0))] := ⟨_, _, rfl, hBs195, by simp [hns195]⟩
      obtain ⟨xt0_2, hxt0_2⟩ : ∃ x, x = stepF (Fd.mk 11 0 (-1) (-1) (-1) 0 10 fs_sVoteResponseNodeEndpoint) v true ⟨(rSpan (rU (rU (kSteps fs_VoteResponse v kt K0).r).2).1 (rU (rU (kSteps fs_VoteResponse v kt K0).r).2).2).1.1, false, !(rSpan (rU (rU (kSteps fs_VoteResponse v kt K0).r).2).1 (rU (rU (kSteps fs_VoteResponse v kt K0).r).2).2).1.2⟩ := ⟨_, rfl⟩
      have hst := kStep_yes (v := v) hkey ti_fs_VoteResponse_0 (show fs_VoteResponse[2]? = some (fs_VoteResponse[2]'(by decide)) from rfl)
      have hxd : decF (fs_VoteResponse[2]'(by decide)) v true ⟨(rSpan (rU (rU (kSteps fs_VoteResponse v kt K0).r).2).1 (rU (rU (kSteps fs_VoteResponse v kt K0).r).2).2).1.1, false, !(rSpan (rU (rU (kSteps fs_VoteResponse v kt K0).r).2).1 (rU (rU (kSteps fs_VoteResponse v kt K0).r).2).2).1.2⟩ = xt0_2 := (hxt0_2.trans (step_untag (f := (fs_VoteResponse[2]'(by decide))) (has_yes (show (0 : Int) ≤ v by omega) (Or.inl (by decide))))).symm
      have hLt0__ : (⟨(rSpan (rU (rU (kSteps fs_VoteResponse v kt K0).r).2).1 (rU (rU (kSteps fs_VoteResponse v kt K0).r).2).2).1.1, false, !(rSpan (rU (rU (kSteps fs_VoteResponse v kt K0).r).2).1 (rU (rU (kSteps fs_VoteResponse v kt K0).r).2).2).1.2⟩ : Rd).s.length ≤ BR := Nat.le_trans (rSpan_take _ _) (Nat.le_trans (rU_len _) (Nat.le_trans (rU_len _) hLK))
      have hLt0_2 : xt0_2.2.s.length ≤ BR := by rw [hxt0_2]; exact Nat.le_trans (stepF_shr _ _ _ _) hLt0__
      have hBt0_2 : xt0_2.2.bad = true → (decM fs_VoteResponse v true ⟨s, false, !a.isNone⟩).2.bad = true := fun h => hE (by rw [hsK]; exact kSteps_mono (show kt + 1 ≤ (rU x1.2).1 from hkn) (by rw [kSteps_succ, hst, hxd, if_pos h]; rfl))
      refine nl ?_
      refine sr ?_
      refine mv rfl rfl ?_
      refine nc rfl rfl ?_
      refine fa0 F65_3 rfl rfl ?_
      refine ld (Says.own (.tail (.tail (.tail .head)))) Tryz.isAgg60 rfl (Nat.zero_add _).symm rfl rfl ?_
      refine asg rfl rfl ?_
      refine nl ?_
      refine sr ?_
      refine mv rfl rfl ?_
      refine asg rfl rfl ?_
      refine nl ?_
      refine sr ?_
      refine asg rfl rfl ?_
      refine nl ?_
      refine sq ?_
      refine sr ?_
      refine mv rfl rfl ?_
      refine nl ?_
      refine cdT rfl (by omega) ?_
      refine rg ?_
      have eyt0_2 : xt0_2 = (.mk 0 [] (if 0 ≤ ((-1) : Int) ∧ (v < ((-1) : Int) ∨ (rArr true ⟨(rSpan (rU (rU (kSteps fs_VoteResponse v kt K0).r).2).1 (rU (rU (kSteps fs_VoteResponse v kt K0).r).2).2).1.1, false, !(rSpan (rU (rU (kSteps fs_VoteResponse v kt K0).r).2).1 (rU (rU (kSteps fs_VoteResponse v kt K0).r).2).2).1.2⟩).1 = 0) then false else decide ((rArr true ⟨(rSpan (rU (rU (kSteps fs_VoteResponse v kt K0).r).2).1 (rU (rU (kSteps fs_VoteResponse v kt K0).r).2).2).1.1, false, !(rSpan (rU (rU (kSteps fs_VoteResponse v kt K0).r).2).1 (rU (rU (kSteps fs_VoteResponse v kt K0).r).2).2).1.2⟩).1 ≤ 0)) (rMany (decV 10 (decP fs_sVoteResponseNodeEndpoint v true) false true) (rArr true ⟨(rSpan (rU (rU (kSteps fs_VoteResponse v kt K0).r).2).1 (rU (rU (kSteps fs_VoteResponse v kt K0).r).2).2).1.1, false, !(rSpan (rU (rU (kSteps fs_VoteResponse v kt K0).r).2).1 (rU (rU (kSteps fs_VoteResponse v kt K0).r).2).2).1.2⟩).1.toNat (rArr true ⟨(rSpan (rU (rU (kSteps fs_VoteResponse v kt K0).r).2).1 (rU (rU (kSteps fs_VoteResponse v kt K0).r).2).2).1.1, false, !(rSpan (rU (rU (kSteps fs_VoteResponse v kt K0).r).2).1 (rU (rU (kSteps fs_VoteResponse v kt K0).r).2).2).1.2⟩).2).1 [], (rMany (decV 10 (decP fs_sVoteResponseNodeEndpoint v true) false true) (rArr true ⟨(rSpan (rU (rU (kSteps fs_VoteResponse v kt K0).r).2).1 (rU (rU (kSteps fs_VoteResponse v kt K0).r).2).2).1.1, false, !(rSpan (rU (rU (kSteps fs_VoteResponse v kt K0).r).2).1 (rU (rU (kSteps fs_VoteResponse v kt K0).r).2).2).1.2⟩).1.toNat (rArr true ⟨(rSpan (rU (rU (kSteps fs_VoteResponse v kt K0).r).2).1 (rU (rU (kSteps fs_VoteResponse v kt K0).r).2).2).1.1, false, !(rSpan (rU (rU (kSteps fs_VoteResponse v kt K0).r).2).1 (rU (rU (kSteps fs_VoteResponse v kt K0).r).2).2).1.2⟩).2).2) := (hxt0_2.trans (step_yes (by decide) (show (0 : Int) ≤ v by omega) (Or.inl (by decide)))).trans (decF'_list rfl rfl)
      have hnt0_2 : (rArr true ⟨(rSpan (rU (rU (kSteps fs_VoteResponse v kt K0).r).2).1 (rU (rU (kSteps fs_VoteResponse v kt K0).r).2).2).1.1, false, !(rSpan (rU (rU (kSteps fs_VoteResponse v kt K0).r).2).1 (rU (rU (kSteps fs_VoteResponse v kt K0).r).2).2).1.2⟩).1.toNat = (lT xt0_2.1).length := by rw [eyt0_2]; exact (lT_many nul_le).symm
      have ext0_2 := eyt0_2
      rw [hnt0_2] at ext0_2
      have hlt0_2 := rArr_le true ⟨(rSpan (rU (rU (kSteps fs_VoteResponse v kt K0).r).2).1 (rU (rU (kSteps fs_VoteResponse v kt K0).r).2).2).1.1, false, !(rSpan (rU (rU (kSteps fs_VoteResponse v kt K0).r).2).1 (rU (rU (kSteps fs_VoteResponse v kt K0).r).2).2).1.2⟩
      have hmt0_2 : (rArr true ⟨(rSpan (rU (rU (kSteps fs_VoteResponse v kt K0).r).2).1 (rU (rU (kSteps fs_VoteResponse v kt K0).r).2).2).1.1, false, !(rSpan (rU (rU (kSteps fs_VoteResponse v kt K0).r).2).1 (rU (rU (kSteps fs_VoteResponse v kt K0).r).2).2).1.2⟩).2.s.length ≤ BR := Nat.le_trans (rArr_len true ⟨(rSpan (rU (rU (kSteps fs_VoteResponse v kt K0).r).2).1 (rU (rU (kSteps fs_VoteResponse v kt K0).r).2).2).1.1, false, !(rSpan (rU (rU (kSteps fs_VoteResponse v kt K0).r).2).1 (rU (rU (kSteps fs_VoteResponse v kt K0).r).2).2).1.2⟩) hLt0__
      have hnbt0_2 : (lT xt0_2.1).length ≤ BR := by omega
      refine cl rfl rfl rfl (r_arrt hRi) rfl (fun v_ H1 L1 hle_ hR_ => ?_)
      obtain ⟨rfl, N203, rfl, hR203, rfl⟩ := hR_
      have hht0_2 := rArr_hi true ⟨(rSpan (rU (rU (kSteps fs_VoteResponse v kt K0).r).2).1 (rU (rU (kSteps fs_VoteResponse v kt K0).r).2).2).1.1, false, !(rSpan (rU (rU (kSteps fs_VoteResponse v kt K0).r).2).1 (rU (rU (kSteps fs_VoteResponse v kt K0).r).2).2).1.2⟩
      refine asg rfl rfl ?_
      refine nl ?_
      refine sq ?_
      refine sr ?_
      refine cl rfl rfl rfl (r_ok hR203) rfl (fun v_ H1 L1 hle_ hR_ => ?_)
      obtain ⟨rfl, rfl, rfl⟩ := hR_
      refine nt rfl rfl ?_
      refine nl ?_
      refine cb rfl (fun h206 => ?_) (fun h206 => ?_)
      ·
       have hbad_ : (rArr true ⟨(rSpan (rU (rU (kSteps fs_VoteResponse v kt K0).r).2).1 (rU (rU (kSteps fs_VoteResponse v kt K0).r).2).2).1.1, false, !(rSpan (rU (rU (kSteps fs_VoteResponse v kt K0).r).2).1 (rU (rU (kSteps fs_VoteResponse v kt K0).r).2).2).1.2⟩).2.bad = true := by simpa using h206
       refine sr ?_
       refine cl rfl rfl rfl (r_complete hR203 (he.mono (le_3.trans (le_4.trans (hlf1.trans le_15))))) rfl (fun v_ H1 L1 hle_ hR_ => ?_)
       obtain ⟨rfl, rfl, rfl⟩ := hR_
       refine asg rfl rfl ?_
       refine nl ?_
       refine drW .head ?_
       refine drW .head ?_
       refine drW .head ?_
       exact rT rfl rfl (le_3.trans (le_4.trans (hlf1.trans le_15))) (fun _ _ h => h) ⟨_, rfl, RdEnd.out (hBt0_2 (by rw [eyt0_2]; exact rMany_bad (fun r h => decV_bad (decP_bad _ _ _) h) _ _ hbad_)) hbad_⟩
      ·
       refine skt ?_
       refine sr ?_
       refine mv rfl rfl ?_
       refine sh' (j := 0) Tryz.runUnderlying60 Tryz.sizeOf92 rfl rfl rfl (Nat.zero_le _) rfl ?_
       refine asg rfl rfl ?_
       refine nl ?_
       refine sq ?_
       refine sr ?_
       refine mv rfl rfl ?_
       refine gt rfl rfl rfl ?_
       refine nl ?_
       refine nulC2 ?_
       refine cutT (fun l' H' L' => ∃ (at0_2 : Option Addr), ∃ (ct0_2 : Nat), ∃ (Nrt0_2 : Chunk), [(2, .bool false), (7, .pointer (some ⟨b_1, 0, none⟩)), (8, .int .i16 v), (9, .bool (decide ((0 : Int) ≤ v))), (10, .pointer (some ⟨b, 0, none⟩)), (30, .int .u32 (((rU x1.2).1 - kt : Nat) : Int)), (32, .pointer (some ⟨b_16, 0, none⟩)), (33, .slice none (lT xt2).length 0), (34, .slice at0_2 (lT xt0_2.1).length ct0_2), (35, .int .i32 (rArr true ⟨(rSpan (rU (rU (kSteps fs_VoteResponse v kt K0).r).2).1 (rU (rU (kSteps fs_VoteResponse v kt K0).r).2).2).1.1, false, !(rSpan (rU (rU (kSteps fs_VoteResponse v kt K0).r).2).1 (rU (rU (kSteps fs_VoteResponse v kt K0).r).2).2).1.2⟩).1)] = l' ∧ Nrt0_2 :: N203 :: N195 :: MT :: [(b, .cells [.int .i16 v, .int .i16 (IntKind.i16.wrap x0.1.n), .slice a1 (lT x1.1).length c1, .slice none (lT xt2).length 0, .map mt].toArray 65 (0, 0))] :: L = L' ∧ Row 92 4 at0_2 (lT xt0_2.1).length ct0_2 (reps [.int .i32 0, .string ⟨#[]⟩, .int .u16 0, .map none] (lT xt0_2.1).length) Nrt0_2 ∧ at0_2.isNone = (if 0 ≤ ((-1) : Int) ∧ (v < ((-1) : Int) ∨ (rArr true ⟨(rSpan (rU (rU (kSteps fs_VoteResponse v kt K0).r).2).1 (rU (rU (kSteps fs_VoteResponse v kt K0).r).2).2).1.1, false, !(rSpan (rU (rU (kSteps fs_VoteResponse v kt K0).r).2).1 (rU (rU (kSteps fs_VoteResponse v kt K0).r).2).2).1.2⟩).1 = 0) then false else decide ((rArr true ⟨(rSpan (rU (rU (kSteps fs_VoteResponse v kt K0).r).2).1 (rU (rU (kSteps fs_VoteResponse v kt K0).r).2).2).1.1, false, !(rSpan (rU (rU (kSteps fs_VoteResponse v kt K0).r).2).1 (rU (rU (kSteps fs_VoteResponse v kt K0).r).2).2).1.2⟩).1 ≤ 0))) ?_ (fun l' H' L' le_17 hI => ?_)
       ·
        refine cd rfl (fun h211 => ?_) (fun h211 => ?_)
        ·
         refine rg ?_
         refine mv rfl rfl ?_
         refine mv rfl rfl ?_
         refine apz (zs := [.int .i32 0, .string ⟨#[]⟩, .int .u16 0, .map none]) (m := (lT xt0_2.1).length) Tryz.underlying60 Tryz.underlying21 I92 rfl rfl rfl (by omega) (by omega) (by have h9 := hnbt0_2; unfold BR at h9; omega) (by have h9 := hnbt0_2; unfold BR at h9; unfold maxLen; omega) rfl (fun g214 cp214 N214 r214 => ?_)
         refine asg rfl rfl ?_
         refine nN ?_
         refine drN (.tail .head) ?_
         refine fun a_ w_ hA hw => ⟨_, _, _, hA.sub ?_, ler, hw, (some ⟨g214, 0, none⟩), cp214, N214, rfl, rfl, r214, (by rw [if_neg (by omega)]; exact (decide_eq_false (by omega)).symm)⟩
         exact (.cons rfl (.cons rfl (.cons rfl (.cons rfl (.cons rfl (.cons rfl (.cons rfl (.cons rfl (.cons rfl (.cons rfl (.nil _)))))))))))
        ·
         refine skN ?_
         refine fun a_ w_ hA hw => ⟨_, _, _, hA.sub ?_, ler, hw, none, 0, [], rfl, rfl, (by rw [show (lT xt0_2.1).length = 0 by omega]; exact (Row.nil _ _)), (by rw [if_neg (by omega)]; exact (decide_eq_true (by omega)).symm)⟩
         exact (.cons rfl (.cons rfl (.cons rfl (.cons rfl (.cons rfl (.cons rfl (.cons rfl (.cons rfl (.cons (by rw [show (lT xt0_2.1).length = 0 by omega]; rfl) (.cons rfl (.nil _)))))))))))
       ·
        obtain ⟨at0_2, ct0_2, Nrt0_2, rfl, rfl, pj0, pj1⟩ := hI
        have hrt0_2 := pj0
        have hit0_2 := pj1
        refine sq ?_
        refine sr ?_
        refine asg rfl rfl ?_
        refine nl ?_
        refine bl (lp ((lT xt0_2.1).length) (fun kt0_2 l' H' L' => ∃ (est0_2 : List (KE 4)) (Mt0_2 RNt0_2 : Chunk), [(2, .bool false), (7, .pointer (some ⟨b_1, 0, none⟩)), (8, .int .i16 v), (9, .bool (decide ((0 : Int) ≤ v))), (10, .pointer (some ⟨b, 0, none⟩)), (30, .int .u32 (((rU x1.2).1 - kt : Nat) : Int)), (32, .pointer (some ⟨b_16, 0, none⟩)), (33, .slice none (lT xt2).length 0), (34, .slice at0_2 (lT xt0_2.1).length ct0_2), (35, .int .i32 (rArr true ⟨(rSpan (rU (rU (kSteps fs_VoteResponse v kt K0).r).2).1 (rU (rU (kSteps fs_VoteResponse v kt K0).r).2).2).1.1, false, !(rSpan (rU (rU (kSteps fs_VoteResponse v kt K0).r).2).1 (rU (rU (kSteps fs_VoteResponse v kt K0).r).2).2).1.2⟩).1), (36, .int .i32 (kt0_2 : Int))] = l' ∧ Mt0_2 :: RNt0_2 :: N195 :: MT :: [(b, .cells [.int .i16 v, .int .i16 (IntKind.i16.wrap x0.1.n), .slice a1 (lT x1.1).length c1, .slice none (lT xt2).length 0, .map mt].toArray 65 (0, 0))] :: L = L' ∧ RdAt H' 117 b_16 (rMany (decV 10 (decP fs_sVoteResponseNodeEndpoint v true) false true) kt0_2 (rArr true ⟨(rSpan (rU (rU (kSteps fs_VoteResponse v kt K0).r).2).1 (rU (rU (kSteps fs_VoteResponse v kt K0).r).2).2).1.1, false, !(rSpan (rU (rU (kSteps fs_VoteResponse v kt K0).r).2).1 (rU (rU (kSteps fs_VoteResponse v kt K0).r).2).2).1.2⟩).2).2 RNt0_2 ∧ Row 92 4 at0_2 (lT xt0_2.1).length ct0_2 (est0_2.flatMap fk ++ reps [.int .i32 0, .string ⟨#[]⟩, .int .u16 0, .map none] ((lT xt0_2.1).length - kt0_2)) Mt0_2 ∧ est0_2.map (·.2) = (rMany (decV 10 (decP fs_sVoteResponseNodeEndpoint v true) false true) kt0_2 (rArr true ⟨(rSpan (rU (rU (kSteps fs_VoteResponse v kt K0).r).2).1 (rU (rU (kSteps fs_VoteResponse v kt K0).r).2).2).1.1, false, !(rSpan (rU (rU (kSteps fs_VoteResponse v kt K0).r).2).1 (rU (rU (kSteps fs_VoteResponse v kt K0).r).2).2).1.2⟩).2).1 ∧ ∀ p ∈ est0_2, At_VoteResponseNodeEndpoint H' p.2 (fk p)) [(2, .bool false), (7, .pointer (some ⟨b_1, 0, none⟩)), (8, .int .i16 v), (9, .bool (decide ((0 : Int) ≤ v))), (10, .pointer (some ⟨b, 0, none⟩)), (30, .int .u32 (((rU x1.2).1 - kt : Nat) : Int)), (32, .pointer (some ⟨b_16, 0, none⟩)), (33, .slice none (lT xt2).length 0), (34, .slice at0_2 (lT xt0_2.1).length ct0_2), (35, .int .i32 (rArr true ⟨(rSpan (rU (rU (kSteps fs_VoteResponse v kt K0).r).2).1 (rU (rU (kSteps fs_VoteResponse v kt K0).r).2).2).1.1, false, !(rSpan (rU (rU (kSteps fs_VoteResponse v kt K0).r).2).1 (rU (rU (kSteps fs_VoteResponse v kt K0).r).2).2).1.2⟩).1), (36, .int .i32 (0 : Int))] (.of ⟨rfl, rfl, rfl, rfl, rfl, rfl, rfl, rfl, rfl, rfl, rfl, trivial⟩) ⟨[], Nrt0_2, _, rfl, rfl, (hR203.mono le_17), hrt0_2, rfl, (fun p hp => by cases hp)⟩ (fun kt0_2 l' H' L' hkt0_2 le_18 hI => ?_))
        obtain ⟨est0_2, Mt0_2, RNt0_2, rfl, rfl, hR_t0_2, hw_t0_2, he_t0_2, hg_t0_2⟩ := hI
        have hs_t0_2 := els_len he_t0_2
        have hp_t0_2 : (est0_2.flatMap fk).length = kt0_2 * 4 := els_flat hs_t0_2
        refine sq ?_
        refine sr ?_
        refine mv rfl rfl ?_
        refine mv rfl rfl ?_
        refine lt rfl rfl rfl ?_
        refine nl ?_
        refine cd rfl (fun h217 => ?_) (fun h217 => ?_)
        ·
         have hklt0_2 : kt0_2 < (lT xt0_2.1).length := by omega
         obtain ⟨gt0_2, pot0_2, hgat0_2, rfl, hbkt0_2⟩ := hw_t0_2.next (zs := [.int .i32 0, .string ⟨#[]⟩, .int .u16 0, .map none]) hklt0_2 rfl (by decide)
         have hot0_2 : 0 + kt0_2 * 4 = (est0_2.flatMap fk).length := by rw [hp_t0_2]; omega
         have hbzt0_2 : ((decV 10 (decP fs_sVoteResponseNodeEndpoint v true) false true) (rMany (decV 10 (decP fs_sVoteResponseNodeEndpoint v true) false true) kt0_2 (rArr true ⟨(rSpan (rU (rU (kSteps fs_VoteResponse v kt K0).r).2).1 (rU (rU (kSteps fs_VoteResponse v kt K0).r).2).2).1.1, false, !(rSpan (rU (rU (kSteps fs_VoteResponse v kt K0).r).2).1 (rU (rU (kSteps fs_VoteResponse v kt K0).r).2).2).1.2⟩).2).2).2.bad = true → (decM fs_VoteResponse v true ⟨s, false, !a.isNone⟩).2.bad = true := fun h => hBt0_2 (by rw [ext0_2]; exact rMany_mono (fun r h => decV_bad (fun r h => decP_bad _ _ _ r h) h) _ (show kt0_2 + 1 ≤ (lT xt0_2.1).length from hklt0_2) (by rw [rMany_succ]; exact h))
         have hLkt0_2 : (rMany (decV 10 (decP fs_sVoteResponseNodeEndpoint v true) false true) kt0_2 (rArr true ⟨(rSpan (rU (rU (kSteps fs_VoteResponse v kt K0).r).2).1 (rU (rU (kSteps fs_VoteResponse v kt K0).r).2).2).1.1, false, !(rSpan (rU (rU (kSteps fs_VoteResponse v kt K0).r).2).1 (rU (rU (kSteps fs_VoteResponse v kt K0).r).2).2).1.2⟩).2).2.s.length ≤ BR := Nat.le_trans (rMany_shr (fun r => decV_shr (fun r => decP_shr _ _ _ r) r) _ _) hmt0_2
         have hLt0_2__ := hLkt0_2
         obtain ⟨xt0_2_0, hxt0_2_0⟩ : ∃ x, x = stepF (Fd.mk 3 1 (-1) (-1) (-1) 0 0 []) v true (rMany (decV 10 (decP fs_sVoteResponseNodeEndpoint v true) false true) kt0_2 (rArr true ⟨(rSpan (rU (rU (kSteps fs_VoteResponse v kt K0).r).2).1 (rU (rU (kSteps fs_VoteResponse v kt K0).r).2).2).1.1, false, !(rSpan (rU (rU (kSteps fs_VoteResponse v kt K0).r).2).1 (rU (rU (kSteps fs_VoteResponse v kt K0).r).2).2).1.2⟩).2).2 := ⟨_, rfl⟩
         obtain ⟨xt0_2_1, hxt0_2_1⟩ : ∃ x, x = stepF (Fd.mk 8 1 (-1) (-1) (-1) 0 0 []) v true xt0_2_0.2 := ⟨_, rfl⟩
         obtain ⟨xt0_2_2, hxt0_2_2⟩ : ∃ x, x = stepF (Fd.mk 5 1 (-1) (-1) (-1) 0 0 []) v true xt0_2_1.2 := ⟨_, rfl⟩
         obtain ⟨ut0_2_, hut0_2_⟩ : ∃ x, x = tailU true xt0_2_2.2 := ⟨_, rfl⟩
         have hDt0_2_ : decP fs_sVoteResponseNodeEndpoint v true (rMany (decV 10 (decP fs_sVoteResponseNodeEndpoint v true) false true) kt0_2 (rArr true ⟨(rSpan (rU (rU (kSteps fs_VoteResponse v kt K0).r).2).1 (rU (rU (kSteps fs_VoteResponse v kt K0).r).2).2).1.1, false, !(rSpan (rU (rU (kSteps fs_VoteResponse v kt K0).r).2).1 (rU (rU (kSteps fs_VoteResponse v kt K0).r).2).2).1.2⟩).2).2 = (.mk 0 [] false [xt0_2_0.1, xt0_2_1.1, xt0_2_2.1] ut0_2_.1, ut0_2_.2) := by
          generalize ((rMany (decV 10 (decP fs_sVoteResponseNodeEndpoint v true) false true) kt0_2 (rArr true ⟨(rSpan (rU (rU (kSteps fs_VoteResponse v kt K0).r).2).1 (rU (rU (kSteps fs_VoteResponse v kt K0).r).2).2).1.1, false, !(rSpan (rU (rU (kSteps fs_VoteResponse v kt K0).r).2).1 (rU (rU (kSteps fs_VoteResponse v kt K0).r).2).2).1.2⟩).2).2 : Rd) = r_ at hxt0_2_0 ⊢
          rw [decP_eq]; unfold fs_sVoteResponseNodeEndpoint; simp only [decFs_cons, decFs_nil, ← hxt0_2_0, ← hxt0_2_1, ← hxt0_2_2, ← hut0_2_]
         have hLt0_2_0 : xt0_2_0.2.s.length ≤ BR := by rw [hxt0_2_0]; exact Nat.le_trans (stepF_shr _ _ _ _) hLt0_2__
         have hLt0_2_1 : xt0_2_1.2.s.length ≤ BR := by rw [hxt0_2_1]; exact Nat.le_trans (stepF_shr _ _ _ _) hLt0_2_0
         have hLt0_2_2 : xt0_2_2.2.s.length ≤ BR := by rw [hxt0_2_2]; exact Nat.le_trans (stepF_shr _ _ _ _) hLt0_2_1
         have hEt0_2_ : ut0_2_.2.bad = true → (decM fs_VoteResponse v true ⟨s, false, !a.isNone⟩).2.bad = true := fun h => hbzt0_2 (by show (decP fs_sVoteResponseNodeEndpoint v true (rMany (decV 10 (decP fs_sVoteResponseNodeEndpoint v true) false true) kt0_2 (rArr true ⟨(rSpan (rU (rU (kSteps fs_VoteResponse v kt K0).r).2).1 (rU (rU (kSteps fs_VoteResponse v kt K0).r).2).2).1.1, false, !(rSpan (rU (rU (kSteps fs_VoteResponse v kt K0).r).2).1 (rU (rU (kSteps fs_VoteResponse v kt K0).r).2).2).1.2⟩).2).2).2.bad = true; rw [hDt0_2_]; exact h)
         have hBt0_2_2 : xt0_2_2.2.bad = true → (decM fs_VoteResponse v true ⟨s, false, !a.isNone⟩).2.bad = true := fun h => hEt0_2_ (by rw [hut0_2_]; exact tailU_bad h)
         have hBt0_2_1 : xt0_2_1.2.bad = true → (decM fs_VoteResponse v true ⟨s, false, !a.isNone⟩).2.bad = true := fun h => hBt0_2_2 (by rw [hxt0_2_2]; exact step_bad h)
         have hBt0_2_0 : xt0_2_0.2.bad = true → (decM fs_VoteResponse v true ⟨s, false, !a.isNone⟩).2.bad = true := fun h => hBt0_2_1 (by rw [hxt0_2_1]; exact step_bad h)
         refine skt ?_
         refine sq ?_
         refine bl ?_
         refine sr ?_
         refine mv rfl rfl ?_
         refine mv rfl rfl ?_
         refine ixk (j := kt0_2) Tryz.runUnderlying60 Tryz.sizeOf92 rfl hgat0_2 rfl rfl hklt0_2 rfl ?_
         refine asg rfl rfl ?_
         refine nl ?_
         refine sr ?_
         refine mv rfl rfl ?_
         refine cl rfl rfl rfl (def_VoteResponseNodeEndpoint hot0_2) rfl (fun v_ H1 L1 hle_ hR_ => ?_)
         obtain ⟨rfl, rfl⟩ := hR_
         refine nl ?_
         refine sr ?_
         refine mv rfl rfl ?_
         refine asg rfl rfl ?_
         refine nl ?_
         refine sq ?_
         refine sr ?_
         refine mv rfl rfl ?_
         refine ge rfl rfl rfl ?_
         refine nl ?_
         refine cutT (fun l' H' L' => ∃ (Njt0_2_0 : Chunk), [(2, .bool false), (7, .pointer (some ⟨b_1, 0, none⟩)), (8, .int .i16 v), (9, .bool (decide ((0 : Int) ≤ v))), (10, .pointer (some ⟨b, 0, none⟩)), (30, .int .u32 (((rU x1.2).1 - kt : Nat) : Int)), (32, .pointer (some ⟨b_16, 0, none⟩)), (33, .slice none (lT xt2).length 0), (34, .slice at0_2 (lT xt0_2.1).length ct0_2), (35, .int .i32 (rArr true ⟨(rSpan (rU (rU (kSteps fs_VoteResponse v kt K0).r).2).1 (rU (rU (kSteps fs_VoteResponse v kt K0).r).2).2).1.1, false, !(rSpan (rU (rU (kSteps fs_VoteResponse v kt K0).r).2).1 (rU (rU (kSteps fs_VoteResponse v kt K0).r).2).2).1.2⟩).1), (36, .int .i32 (kt0_2 : Int)), (38, .pointer (some ⟨gt0_2, 0 + kt0_2 * 4, none⟩))] = l' ∧ [(gt0_2, .cells ((est0_2.flatMap fk) ++ ([.int .i32 (IntKind.i32.wrap xt0_2_0.1.n), .string ⟨#[]⟩, .int .u16 0, .map none] : List Value) ++ pot0_2).toArray 92 (0, 0))] :: Njt0_2_0 :: N195 :: MT :: [(b, .cells [.int .i16 v, .int .i16 (IntKind.i16.wrap x0.1.n), .slice a1 (lT x1.1).length c1, .slice none (lT xt2).length 0, .map mt].toArray 65 (0, 0))] :: L = L' ∧ RdAt H' 117 b_16 xt0_2_0.2 Njt0_2_0) ?_ (fun l' H' L' le_19 hI => ?_)
         ·
          refine cd rfl (fun h227 => ?_) (fun h227 => ?_)
          ·
           refine sr ?_
           refine tf (.tail .head) ?_
           have ext0_2_0 : xt0_2_0 = decV 3 (decP [] v true) false true (rMany (decV 10 (decP fs_sVoteResponseNodeEndpoint v true) false true) kt0_2 (rArr true ⟨(rSpan (rU (rU (kSteps fs_VoteResponse v kt K0).r).2).1 (rU (rU (kSteps fs_VoteResponse v kt K0).r).2).2).1.1, false, !(rSpan (rU (rU (kSteps fs_VoteResponse v kt K0).r).2).1 (rU (rU (kSteps fs_VoteResponse v kt K0).r).2).2).1.2⟩).2).2 := (hxt0_2_0.trans (step_yes (by decide) (show (1 : Int) ≤ v by omega) (Or.inl (by decide)))).trans (decF'_val (by decide) (rfl))
           refine cl rfl rfl rfl (d3 hR_t0_2 ext0_2_0) rfl (fun v_ H1 L1 hle_ hR_ => ?_)
           obtain ⟨N228, rfl, hR228, rfl, rfl⟩ := hR_
           refine asg rfl rfl ?_
           refine nl ?_
           refine rg ?_
           refine mv rfl rfl ?_
           refine mv rfl rfl ?_
           refine nc rfl rfl ?_
           refine fa F92_0 rfl rfl ?_
           refine stM (off := 0) Tryz.sizeOf21 rfl (by rw [hot0_2]) rfl rfl rfl (.tail .head) ?_
           refine nN ?_
           refine tfN (.tail .head) ?_
           refine fun a_ w_ hA hw => ⟨_, _, _, hA.sub ?_, ler, hw, N228, rfl, rfl, hR228⟩
           exact (.cons rfl (.cons rfl (.cons rfl (.cons rfl (.cons rfl (.cons rfl (.cons rfl (.cons rfl (.cons rfl (.cons rfl (.cons rfl (.cons rfl (.nil _)))))))))))))
          ·
           refine skN ?_
           obtain rfl : xt0_2_0 = ((Tr.mk 0 [] false [] []), (rMany (decV 10 (decP fs_sVoteResponseNodeEndpoint v true) false true) kt0_2 (rArr true ⟨(rSpan (rU (rU (kSteps fs_VoteResponse v kt K0).r).2).1 (rU (rU (kSteps fs_VoteResponse v kt K0).r).2).2).1.1, false, !(rSpan (rU (rU (kSteps fs_VoteResponse v kt K0).r).2).1 (rU (rU (kSteps fs_VoteResponse v kt K0).r).2).2).1.2⟩).2).2) := (hxt0_2_0.trans (step_no (Or.inl (show v < (1 : Int) by omega)))).trans (by rw [dflF_eq]; rfl)
           refine fun a_ w_ hA hw => ⟨_, _, _, hA.sub ?_, ler, hw, RNt0_2, rfl, rfl, hR_t0_2⟩
           exact (.cons rfl (.cons rfl (.cons rfl (.cons rfl (.cons rfl (.cons rfl (.cons rfl (.cons rfl (.cons rfl (.cons rfl (.cons rfl (.cons rfl (.nil _)))))))))))))
         ·
          obtain ⟨Njt0_2_0, rfl, rfl, pj0⟩ := hI
          have hRjt0_2_0 := pj0
          refine sq ?_
          refine sr ?_
          refine mv rfl rfl ?_
          refine ge rfl rfl rfl ?_
          refine nl ?_
          refine cutT (fun l' H' L' => ∃ (Njt0_2_1 : Chunk), [(2, .bool false), (7, .pointer (some ⟨b_1, 0, none⟩)), (8, .int .i16 v), (9, .bool (decide ((0 : Int) ≤ v))), (10, .pointer (some ⟨b, 0, none⟩)), (30, .int .u32 (((rU x1.2).1 - kt : Nat) : Int)), (32, .pointer (some ⟨b_16, 0, none⟩)), (33, .slice none (lT xt2).length 0), (34, .slice at0_2 (lT xt0_2.1).length ct0_2), (35, .int .i32 (rArr true ⟨(rSpan (rU (rU (kSteps fs_VoteResponse v kt K0).r).2).1 (rU (rU (kSteps fs_VoteResponse v kt K0).r).2).2).1.1, false, !(rSpan (rU (rU (kSteps fs_VoteResponse v kt K0).r).2).1 (rU (rU (kSteps fs_VoteResponse v kt K0).r).2).2).1.2⟩).1), (36, .int .i32 (kt0_2 : Int)), (38, .pointer (some ⟨gt0_2, 0 + kt0_2 * 4, none⟩))] = l' ∧ [(gt0_2, .cells ((est0_2.flatMap fk) ++ ([.int .i32 (IntKind.i32.wrap xt0_2_0.1.n), .string ⟨xt0_2_1.1.s.toArray⟩, .int .u16 0, .map none] : List Value) ++ pot0_2).toArray 92 (0, 0))] :: Njt0_2_1 :: N195 :: MT :: [(b, .cells [.int .i16 v, .int .i16 (IntKind.i16.wrap x0.1.n), .slice a1 (lT x1.1).length c1, .slice none (lT xt2).length 0, .map mt].toArray 65 (0, 0))] :: L = L' ∧ RdAt H' 117 b_16 xt0_2_1.2 Njt0_2_1) ?_ (fun l' H' L' le_21 hI => ?_)
          ·
           refine cd rfl (fun h234 => ?_) (fun h234 => ?_)
           ·
            refine sr ?_
            refine asg rfl rfl ?_
            refine nl ?_
            refine sq ?_
            refine sr ?_
            refine mv rfl rfl ?_
            refine nl ?_
            refine cF rfl ?_
            refine sr ?_
            refine mv rfl rfl ?_
            refine nl ?_
            refine cdT rfl (by omega) ?_
            refine rg ?_
            refine tf (.tail .head) ?_
            have ext0_2_1 : xt0_2_1 = decV 8 (decP [] v true) false true xt0_2_0.2 := (hxt0_2_1.trans (step_yes (by decide) (show (1 : Int) ≤ v by omega) (Or.inl (by decide)))).trans (decF'_val (by decide) (rfl))
            refine cl rfl rfl rfl (d8t hRjt0_2_0 ext0_2_1) rfl (fun v_ H1 L1 le_22 hR_ => ?_)
            obtain ⟨N240, rfl, hR240, rfl, rfl⟩ := hR_
            refine asg rfl rfl ?_
            refine nl ?_
            refine rg ?_
            refine mv rfl rfl ?_
            refine mv rfl rfl ?_
            refine nc rfl rfl ?_
            refine fa F92_1 rfl rfl ?_
            refine stM (off := 1) Tryz.sizeOf9 rfl (by rw [hot0_2]) rfl rfl rfl (.tail .head) ?_
            refine nN ?_
            refine tfN (.tail .head) ?_
            refine fun a_ w_ hA hw => ⟨_, _, _, hA.sub ?_, ler, hw, N240, rfl, rfl, hR240⟩
            exact (.cons rfl (.cons rfl (.cons rfl (.cons rfl (.cons rfl (.cons rfl (.cons rfl (.cons rfl (.cons rfl (.cons rfl (.cons rfl (.cons rfl (.nil _)))))))))))))
           ·
            refine skN ?_
            obtain rfl : xt0_2_1 = ((Tr.mk 0 [] false [] []), xt0_2_0.2) := (hxt0_2_1.trans (step_no (Or.inl (show v < (1 : Int) by omega)))).trans (by rw [dflF_eq]; rfl)
            refine fun a_ w_ hA hw => ⟨_, _, _, hA.sub ?_, ler, hw, Njt0_2_0, rfl, rfl, hRjt0_2_0⟩
            exact (.cons rfl (.cons rfl (.cons rfl (.cons rfl (.cons rfl (.cons rfl (.cons rfl (.cons rfl (.cons rfl (.cons rfl (.cons rfl (.cons rfl (.nil _)))))))))))))
          ·
           obtain ⟨Njt0_2_1, rfl, rfl, pj0⟩ := hI
           have hRjt0_2_1 := pj0
           refine sq ?_
           refine sr ?_
           refine mv rfl rfl ?_
           refine ge rfl rfl rfl ?_
           refine nl ?_
           refine cutT (fun l' H' L' => ∃ (Njt0_2_2 : Chunk), [(2, .bool false), (7, .pointer (some ⟨b_1, 0, none⟩)), (8, .int .i16 v), (9, .bool (decide ((0 : Int) ≤ v))), (10, .pointer (some ⟨b, 0, none⟩)), (30, .int .u32 (((rU x1.2).1 - kt : Nat) : Int)), (32, .pointer (some ⟨b_16, 0, none⟩)), (33, .slice none (lT xt2).length 0), (34, .slice at0_2 (lT xt0_2.1).length ct0_2), (35, .int .i32 (rArr true ⟨(rSpan (rU (rU (kSteps fs_VoteResponse v kt K0).r).2).1 (rU (rU (kSteps fs_VoteResponse v kt K0).r).2).2).1.1, false, !(rSpan (rU (rU (kSteps fs_VoteResponse v kt K0).r).2).1 (rU (rU (kSteps fs_VoteResponse v kt K0).r).2).2).1.2⟩).1), (36, .int .i32 (kt0_2 : Int)), (38, .pointer (some ⟨gt0_2, 0 + kt0_2 * 4, none⟩))] = l' ∧ [(gt0_2, .cells ((est0_2.flatMap fk) ++ ([.int .i32 (IntKind.i32.wrap xt0_2_0.1.n), .string ⟨xt0_2_1.1.s.toArray⟩, .int .u16 (IntKind.u16.wrap xt0_2_2.1.n), .map none] : List Value) ++ pot0_2).toArray 92 (0, 0))] :: Njt0_2_2 :: N195 :: MT :: [(b, .cells [.int .i16 v, .int .i16 (IntKind.i16.wrap x0.1.n), .slice a1 (lT x1.1).length c1, .slice none (lT xt2).length 0, .map mt].toArray 65 (0, 0))] :: L = L' ∧ RdAt H' 117 b_16 xt0_2_2.2 Njt0_2_2) ?_ (fun l' H' L' le_23 hI => ?_)
           ·
            refine cd rfl (fun h247 => ?_) (fun h247 => ?_)
            ·
             refine sr ?_
             refine tf (.tail .head) ?_
             have ext0_2_2 : xt0_2_2 = decV 5 (decP [] v true) false true xt0_2_1.2 := (hxt0_2_2.trans (step_yes (by decide) (show (1 : Int) ≤ v by omega) (Or.inl (by decide)))).trans (decF'_val (by decide) (rfl))
             refine cl rfl rfl rfl (d5 hRjt0_2_1 ext0_2_2) rfl (fun v_ H1 L1 hle_ hR_ => ?_)
             obtain ⟨N248, rfl, hR248, rfl, rfl⟩ := hR_
             refine asg rfl rfl ?_
             refine nl ?_
             refine rg ?_
             refine mv rfl rfl ?_
             refine mv rfl rfl ?_
             refine nc rfl rfl ?_
             refine fa F92_2 rfl rfl ?_
             refine stM (off := 2) Tryz.sizeOf90 rfl (by rw [hot0_2]) rfl rfl rfl (.tail .head) ?_
             refine nN ?_
             refine tfN (.tail .head) ?_
             refine fun a_ w_ hA hw => ⟨_, _, _, hA.sub ?_, ler, hw, N248, rfl, rfl, hR248⟩
             exact (.cons rfl (.cons rfl (.cons rfl (.cons rfl (.cons rfl (.cons rfl (.cons rfl (.cons rfl (.cons rfl (.cons rfl (.cons rfl (.cons rfl (.nil _)))))))))))))
            ·
             refine skN ?_
             obtain rfl : xt0_2_2 = ((Tr.mk 0 [] false [] []), xt0_2_1.2) := (hxt0_2_2.trans (step_no (Or.inl (show v < (1 : Int) by omega)))).trans (by rw [dflF_eq]; rfl)
             refine fun a_ w_ hA hw => ⟨_, _, _, hA.sub ?_, ler, hw, Njt0_2_1, rfl, rfl, hRjt0_2_1⟩
             exact (.cons rfl (.cons rfl (.cons rfl (.cons rfl (.cons rfl (.cons rfl (.cons rfl (.cons rfl (.cons rfl (.cons rfl (.cons rfl (.cons rfl (.nil _)))))))))))))
           ·
            obtain ⟨Njt0_2_2, rfl, rfl, pj0⟩ := hI
            have hRjt0_2_2 := pj0
            refine sr ?_
            refine mv rfl rfl ?_
            refine nl ?_
            refine cdT rfl (by omega) ?_
            refine rg ?_
            refine mv rfl rfl ?_
            refine tf (.tail .head) ?_
            refine cl rfl rfl rfl (d_tags hRjt0_2_2) rfl (fun v_ H1 L1 le_25 hR_ => ?_)
            obtain ⟨N255, rfl, hR255, mt0_2_t, rfl, hftt0_2_⟩ := hR_
            have hu2t0_2_ : ut0_2_ = rTags xt0_2_2.2 := hut0_2_
            rw [← hu2t0_2_] at hR255 hftt0_2_
            refine nc rfl rfl ?_
            refine fa F92_3 rfl rfl ?_
            refine saM (off := 3) Tryz.sizeOf63 rfl (by rw [hot0_2]) rfl rfl rfl rfl (.tail .head) ?_
            refine nN ?_
            refine Nb ?_
            refine Nt ?_
            refine rg ?_
            refine mv rfl rfl ?_
            refine ad rfl rfl (c := ((kt0_2 + 1 : Nat) : Int)) ((wrap32_le (by omega) (by omega)).trans (by omega)) rfl ?_
            refine asg rfl rfl ?_
            refine nN ?_
            have hfst0_2 := flatMap_snoc' fk est0_2 ((⟨([.int .i32 (IntKind.i32.wrap xt0_2_0.1.n), .string ⟨xt0_2_1.1.s.toArray⟩, .int .u16 (IntKind.u16.wrap xt0_2_2.1.n), .map mt0_2_t] : List Value), rfl, all_one rfl⟩, ((decV 10 (decP fs_sVoteResponseNodeEndpoint v true) false true) (rMany (decV 10 (decP fs_sVoteResponseNodeEndpoint v true) false true) kt0_2 (rArr true ⟨(rSpan (rU (rU (kSteps fs_VoteResponse v kt K0).r).2).1 (rU (rU (kSteps fs_VoteResponse v kt K0).r).2).2).1.1, false, !(rSpan (rU (rU (kSteps fs_VoteResponse v kt K0).r).2).1 (rU (rU (kSteps fs_VoteResponse v kt K0).r).2).2).1.2⟩).2).2).1) : KE 4)
            have hrwt0_2 := hbkt0_2 ([.int .i32 (IntKind.i32.wrap xt0_2_0.1.n), .string ⟨xt0_2_1.1.s.toArray⟩, .int .u16 (IntKind.u16.wrap xt0_2_2.1.n), .map mt0_2_t] : List Value) rfl
            refine tfN (.tail .head) ?_
            refine fun a_ w_ hA hw => ⟨hklt0_2, _, _, _, hA.sub ?_, (le_18.trans (le_19.trans (le_21.trans (le_23.trans le_25)))), hw, _, _, _, rfl, rfl, (by rw [rMany_succ]; show RdAt _ 117 b_16 (decP fs_sVoteResponseNodeEndpoint v true (rMany (decV 10 (decP fs_sVoteResponseNodeEndpoint v true) false true) kt0_2 (rArr true ⟨(rSpan (rU (rU (kSteps fs_VoteResponse v kt K0).r).2).1 (rU (rU (kSteps fs_VoteResponse v kt K0).r).2).2).1.1, false, !(rSpan (rU (rU (kSteps fs_VoteResponse v kt K0).r).2).1 (rU (rU (kSteps fs_VoteResponse v kt K0).r).2).2).1.2⟩).2).2).2 _; rw [hDt0_2_]; exact hR255), (by rw [← hfst0_2]; exact hrwt0_2), (dec_els he_t0_2), (fun p hp => (mem_snoc hp).elim (fun h => At_VoteResponseNodeEndpoint.mono _ _ _ _ (le_19.trans (le_21.trans (le_23.trans le_25))) (hg_t0_2 p h)) (fun h => h ▸ (by show At_VoteResponseNodeEndpoint _ (decP fs_sVoteResponseNodeEndpoint v true (rMany (decV 10 (decP fs_sVoteResponseNodeEndpoint v true) false true) kt0_2 (rArr true ⟨(rSpan (rU (rU (kSteps fs_VoteResponse v kt K0).r).2).1 (rU (rU (kSteps fs_VoteResponse v kt K0).r).2).2).1.1, false, !(rSpan (rU (rU (kSteps fs_VoteResponse v kt K0).r).2).1 (rU (rU (kSteps fs_VoteResponse v kt K0).r).2).2).1.2⟩).2).2).1 [.int .i32 (IntKind.i32.wrap xt0_2_0.1.n), .string ⟨xt0_2_1.1.s.toArray⟩, .int .u16 (IntKind.u16.wrap xt0_2_2.1.n), .map mt0_2_t]; rw [hDt0_2_]; exact ⟨mt0_2_t, rfl, hftt0_2_⟩)))⟩
            exact (.of ⟨rfl, rfl, rfl, rfl, rfl, rfl, rfl, rfl, rfl, rfl, rfl, trivial⟩)
        ·
         have hkn_ : kt0_2 = (lT xt0_2.1).length := by omega
         subst hkn_
         have hw2_t0_2 : Row 92 4 at0_2 (lT xt0_2.1).length ct0_2 (est0_2.flatMap fk) Mt0_2 := by have h := hw_t0_2; rw [Nat.sub_self] at h; simpa [reps] using h
         refine frW hw2_t0_2 .head (fun Hft0_2 hlft0_2 hfzt0_2 => ?_)
         have hrst0_2 := RowsAt.row (R := At_VoteResponseNodeEndpoint) hfzt0_2 hs_t0_2.symm hw2_t0_2.le.1 (fun p hp => At_VoteResponseNodeEndpoint.mono _ _ _ _ hlft0_2 (hg_t0_2 p hp))
         rw [he_t0_2] at hrst0_2
         have hft0_2 : ListAt Hft0_2 xt0_2.1 4 At_VoteResponseNodeEndpoint at0_2 ct0_2 := by rw [ext0_2]; exact listAt_of hrst0_2 hit0_2 (fun h => by have h1 := nul_le h; rw [show (lT xt0_2.1).length = 0 by omega]; rfl)
         have hRxt0_2 : RdAt Hft0_2 117 b_16 xt0_2.2 RNt0_2 := by rw [ext0_2]; exact (hR_t0_2.mono hlft0_2)
         refine exX ?_
         refine XT ?_
         refine XT ?_
         refine Xb ?_
         refine Nt ?_
         refine sr ?_
         refine mv rfl rfl ?_
         refine asg rfl rfl ?_
         refine nl ?_
         refine sr ?_
         refine mv rfl rfl ?_
         refine mv rfl rfl ?_
         refine nc rfl rfl ?_
         refine fa0 F65_3 rfl rfl ?_
         refine st Tryz.sizeOf60 rfl rfl rfl rfl (.tail (.tail (.tail .head))) ?_
         refine nl ?_
         refine sr ?_
         refine cl rfl rfl rfl (r_complete hRxt0_2 (he.mono (le_3.trans (le_4.trans (hlf1.trans (le_15.trans (le_17.trans (le_18.trans hlft0_2)))))))) rfl (fun v_ H1 L1 hle_ hR_ => ?_)
         obtain ⟨rfl, rfl, rfl⟩ := hR_
         refine asg rfl rfl ?_
         refine nl ?_
         refine sr ?_
         refine mv rfl rfl ?_
         rcases hbd : xt0_2.2.bad with _ | _
         ·
          refine nei0 Tryz.underlying50 rfl rfl ?_
          refine nl ?_
          refine cF rfl ?_
          refine skN ?_
          refine Nb ?_
          refine Nb ?_
          refine Nt ?_
          refine rg ?_
          refine mv rfl rfl ?_
          refine sb rfl rfl (c := (((rU x1.2).1 - kt - 1 : Nat) : Int)) ((w32u (by omega) (by omega)).trans (by omega)) rfl ?_
          refine asg rfl rfl ?_
          refine nN ?_
          have hst2 : kStep fs_VoteResponse v (kSteps fs_VoteResponse v kt K0) = ⟨(kSteps fs_VoteResponse v kt K0).l.set 2 xt0_2.1, (kSteps fs_VoteResponse v kt K0).u, (rSpan (rU (rU (kSteps fs_VoteResponse v kt K0).r).2).1 (rU (rU (kSteps fs_VoteResponse v kt K0).r).2).2).2⟩ := by rw [hst, hxd, if_neg (by rw [hbd]; decide)]
          refine drN .head ?_
          refine tfN (.tail .head) ?_
          refine fun a_ w_ hA hw => ⟨hkn, _, _, _, hA.sub ?_, (le_15.trans (le_17.trans (le_18.trans hlft0_2))), hw, xt0_2.1, at0_2, ct0_2, mt, kvs, MT, _, rfl, rfl, (by rw [kSteps_succ, hst2]; exact (hR195.mono (le_17.trans (le_18.trans hlft0_2)))), hMT, (by rw [kSteps_succ, hst2]; exact (hKT.mono (le_17.trans (le_18.trans hlft0_2)))), (by rw [kSteps_succ, hst2]; show List.set _ _ _ = _; rw [hlT]; rfl), hft0_2, (fun h => Row.none0 hw2_t0_2 (by have h9 := congrArg Tr.nul h; rw [eyt0_2] at h9; rw [hit0_2]; exact h9))⟩
          exact (.cons rfl (.cons rfl (.cons rfl (.cons rfl (.cons rfl (.cons (by rw [show (rU x1.2).1 - (kt + 1) = (rU x1.2).1 - kt - 1 by omega]; rfl) (.nil _)))))))
         ·
          refine nei1 Tryz.underlying50 rfl rfl ?_
          refine nl ?_
          refine cT rfl ?_
          refine sr ?_
          refine mv rfl rfl ?_
          refine asg rfl rfl ?_
          refine nl ?_
          refine drW .head ?_
          refine drW .head ?_
          refine drW .head ?_
          exact rT rfl rfl (le_3.trans (le_4.trans (hlf1.trans (le_15.trans (le_17.trans (le_18.trans hlft0_2)))))) (fun _ _ h => h) ⟨_, rfl, RdEnd.out (hBt0_2 hbd) rfl⟩
     ·
      refine rgD 8 .nil mixed ?_
      refine dU 0 rfl rfl rfl (y_mv rfl) .nil ler ?_
      refine dU 1 rfl rfl rfl (y_nc rfl) .nil ler ?_
      refine dU 2 rfl rfl rfl (y_fa0 F65_4 rfl) .nil ler ?_
      refine dU 3 rfl rfl rfl (y_mv rfl) .nil ler ?_
      refine dE 4 (by kernel_rfl) rfl ?_
      refine cl rfl rfl rfl (r_Uvarint hR181) rfl (fun v_ H1 L1 hle_ hR_ => ?_)
      obtain ⟨rfl, N187, rfl, hR187, rfl⟩ := hR_
      have hu187 := rU_lt (rU (kSteps fs_VoteResponse v kt K0).r).2
      refine dN .nil ler ?_
      refine dU 5 rfl rfl rfl (y_cv Tryz.runUnderlying55 Tryz.runUnderlying3 rfl (w64 (by omega) (by omega))) .nil ler ?_
      refine dE 6 (by kernel_rfl) rfl ?_
      refine cl rfl rfl rfl (r_Span hR187) rfl (fun v_ H1 L1 hle_ hR_ => ?_)
      obtain ⟨rfl, N189, rfl, hR189, as189, cs189, rfl, hBs189, hns189⟩ := hR_
      refine dN .nil ler ?_
      refine dE 7 (by kernel_rfl) rfl ?_
      refine tf (.tail (.tail .head)) ?_
      refine tf (.tail (.tail .head)) ?_
      refine cl rfl rfl rfl (t_set (off := 4) hMT rfl) rfl (fun v_ H1 L1 hle_ hR_ => ?_)
      obtain ⟨rfl, g190, cs190, hs190, rfl⟩ := hR_
      obtain rfl : [.int .i16 v, .int .i16 (IntKind.i16.wrap x0.1.n), .slice a1 (lT x1.1).length c1, .slice a2 (lT xt2).length c2, .map (some g190)] = cs190 := Option.some.inj hs190
      refine dN .nil ler ?_
      refine dD (by kernel_rfl) ?_
      refine Nb ?_
      refine Nb ?_
      refine Nt ?_
      refine rg ?_
      refine mv rfl rfl ?_
      refine sb rfl rfl (c := (((rU x1.2).1 - kt - 1 : Nat) : Int)) ((w32u (by omega) (by omega)).trans (by omega)) rfl ?_
      refine asg rfl rfl ?_
      refine nN ?_
      have hst2 := kStep_no (v := v) (show known fs_VoteResponse ≤ (rU (kSteps fs_VoteResponse v kt K0).r).1 by rw [kn_fs_VoteResponse]; omega)
      refine tfN (.tail .head) ?_
      refine tfN (.tail (.tail .head)) ?_
      refine tfN (.tail (.tail .head)) ?_
      refine fun a_ w_ hA hw => ⟨hkn, _, _, _, hA.sub ?_, le_15, hw, xt2, a2, c2, some g190, _, _, _, rfl, rfl, (by rw [kSteps_succ, hst2]; exact hR189), (.inr ⟨g190, rfl, rfl⟩), (by rw [kSteps_succ, hst2]; exact hKT.put ⟨⟨as189, cs189, rfl, hBs189⟩, by omega, by omega⟩), (by rw [kSteps_succ, hst2]; exact hlT), hfT2, hz2⟩
      exact (.cons rfl (.cons rfl (.cons rfl (.cons rfl (.cons rfl (.cons (by rw [show (rU x1.2).1 - (kt + 1) = (rU x1.2).1 - kt - 1 by omega]; rfl) (.nil _)))))))
    ·
     obtain rfl : kt = (rU x1.2).1 := by omega
     rw [← hsK] at hRT hKT hlT
     refine exX ?_
     refine XT ?_
     refine XT ?_
     refine Xb ?_
     refine Nt ?_
     refine sr ?_
     refine tf (.tail .head) ?_
     refine cl rfl rfl rfl (r_complete hRT (he.mono (le_3.trans (le_4.trans (hlf1.trans le_15))))) rfl (fun v_ H1 L1 hle_ hR_ => ?_)
     obtain ⟨rfl, rfl, rfl⟩ := hR_
     refine asg rfl rfl ?_
     refine nl ?_
     refine frMW hMT (.tail .head) (fun H3 hle3 hmf => ?_)
     have hKv := ((hKT.mono hle3)).at_ hmf
     refine drW .head ?_
     have hA_ := (show At_VoteResponse v _ (decM fs_VoteResponse v true _).1 [.int .i16 v, .int .i16 (IntKind.i16.wrap x0.1.n), .slice a1 (lT x1.1).length c1, .slice a2 (lT xt2).length c2, .map mt] from (by rw [hD, hlT]; exact ⟨a1, c1, a2, c2, mt, rfl, (hf1.mono At_VoteResponseTopic.mono (le_15.trans hle3)), (hfT2.mono At_VoteResponseNodeEndpoint.mono hle3), hKv⟩))
     refine rT rfl rfl (le_3.trans (le_4.trans (hlf1.trans (le_15.trans hle3)))) (fun _ _ h => h) ⟨_, rfl, ?_⟩
     have hz := RdEnd.of (e := .iface et ev) hA_
     rw [show (decM fs_VoteResponse v true _).2.bad = sK.r.bad by rw [hD]] at hz
     exact hz
end Go.Sx

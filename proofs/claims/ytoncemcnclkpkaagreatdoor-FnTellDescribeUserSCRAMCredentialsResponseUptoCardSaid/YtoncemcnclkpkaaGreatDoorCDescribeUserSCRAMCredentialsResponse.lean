import Derived.Test.YtoncemcnclkpkaaGreatDoorSxTab
import Derived.Test.YtoncemcnclkpkaaGreatDoorBDescribeUserSCRAMCredentialsResponse
import Derived.Test.YtoncemcnclkpkaaGreatDoorRK2
import Derived.KernelRfl
set_option linter.unusedVariables false
set_option linter.unusedSimpArgs false
set_option maxRecDepth 100000
set_option maxHeartbeats 20000000
namespace Go.Sx
open Go.Proofs
theorem def_DescribeUserSCRAMCredentialsResponseResultCredentialInfo {H : Fz} {L : Own} {b o : Nat} {pre post : List Value} {c0 c1 c2 : Value} (ho : o = pre.length) :
    Fn Tryz.prog 134 [.pointer (some ⟨b, o, none⟩)] H ([(b, .cells (pre ++ ([c0, c1, c2] : List Value) ++ post).toArray 167 (0, 0))] :: L) (fun _ H' L' => H = H' ∧ L' = [(b, .cells (pre ++ ([c0, c1, c2] : List Value) ++ post).toArray 167 (0, 0))] :: L) := by
  refine Fn.mk Tryz.call134 Tryz.func134 rfl Tryz.ntmps134 rfl ?_
  refine skN ?_
  exact fun _ _ hA hw => rn rfl (Fz.le.refl _) ⟨rfl, rfl⟩ hA hw
theorem def_DescribeUserSCRAMCredentialsResponseResult {H : Fz} {L : Own} {b o : Nat} {pre post : List Value} {c0 c1 c2 c3 c4 : Value} (ho : o = pre.length) :
    Fn Tryz.prog 133 [.pointer (some ⟨b, o, none⟩)] H ([(b, .cells (pre ++ ([c0, c1, c2, c3, c4] : List Value) ++ post).toArray 131 (0, 0))] :: L) (fun _ H' L' => H = H' ∧ L' = [(b, .cells (pre ++ ([c0, c1, c2, c3, c4] : List Value) ++ post).toArray 131 (0, 0))] :: L) := by
  refine Fn.mk Tryz.call133 Tryz.func133 rfl Tryz.ntmps133 rfl ?_
  refine skN ?_
  exact fun _ _ hA hw => rn rfl (Fz.le.refl _) ⟨rfl, rfl⟩ hA hw
theorem def0_DescribeUserSCRAMCredentialsResponse {H : Fz} {L : Own} {b : Nat} {c0 c1 c2 c3 c4 c5 : Value} :
    Fn Tryz.prog 94 [.pointer (some ⟨b, 0, none⟩)] H ([(b, .cells [c0, c1, c2, c3, c4, c5].toArray 126 (0, 0))] :: L) (fun _ H' L' => H = H' ∧ L' = [(b, .cells [c0, c1, c2, c3, c4, c5].toArray 126 (0, 0))] :: L) := by
  refine Fn.mk Tryz.call94 Tryz.func94 rfl Tryz.ntmps94 rfl ?_
  refine skN ?_
  exact fun _ _ hA hw => rn rfl (Fz.le.refl _) ⟨rfl, rfl⟩ hA hw
theorem rd_DescribeUserSCRAMCredentialsResponse_t {H : Fz} {L : Own} {b : Nat} {v : Int} {a : Option Addr} {c : Nat} {s : List UInt8} {e : Value} (hB : BytesAt H a c s) (hL_ : s.length ≤ BR) (he : H.at 1 0 [e]) (hv0 : 0 ≤ v) (hv1 : v ≤ 0) :
    Fn Tryz.prog 96 [.pointer (some ⟨b, 0, none⟩), .slice a s.length c, .bool false] H ([(b, .cells [.int .i16 v, .int .i32 0, .int .i16 0, .pointer none, .slice none 0 0, .map none].toArray 126 (0, 0))] :: L) (fun r H' L' => ∃ cs : List Value, L' = [(b, .cells cs.toArray 126 (0, 0))] :: L ∧ RdEnd H' (At_DescribeUserSCRAMCredentialsResponse v) (decP fs_DescribeUserSCRAMCredentialsResponse v true ⟨s, false, !a.isNone⟩) e r cs) := by
  refine Fn.mk Tryz.call96 Tryz.func96 rfl Tryz.ntmps96 rfl ?_
  refine sr ?_
  refine asg rfl rfl ?_
  refine nl ?_
  refine sr ?_
  refine mv rfl rfl ?_
  refine cl rfl rfl rfl def0_DescribeUserSCRAMCredentialsResponse rfl (fun v_ H1 L1 hle_ hR_ => ?_)
  obtain ⟨rfl, rfl⟩ := hR_
  refine nl ?_
  refine sr ?_
  refine mv rfl rfl ?_
  refine bd' S144 rfl rfl rfl ?_
  refine al Tryz.zeroValue144 rfl rfl (fun b_1 => ?_)
  refine sa Tryz.sizeOf144 rfl rfl rfl rfl rfl .head ?_
  have hR0_ : RdAt H 144 b_1 ⟨s, false, !a.isNone⟩ [(b_1, .cells [_, _].toArray 144 (0, 0))] := ⟨a, c, rfl, hB, by simp⟩
  obtain ⟨x0, hx0⟩ : ∃ x, x = stepF (Fd.mk 3 0 (-1) (-1) (-1) 0 0 []) v true ⟨s, false, !a.isNone⟩ := ⟨_, rfl⟩
  obtain ⟨x1, hx1⟩ : ∃ x, x = stepF (Fd.mk 2 0 (-1) (-1) (-1) 0 0 []) v true x0.2 := ⟨_, rfl⟩
  obtain ⟨x2, hx2⟩ : ∃ x, x = stepF (Fd.mk 8 0 (-1) 0 (-1) 0 0 []) v true x1.2 := ⟨_, rfl⟩
  obtain ⟨x3, hx3⟩ : ∃ x, x = stepF (Fd.mk 11 0 (-1) (-1) (-1) 0 10 fs_sDescribeUserSCRAMCredentialsResponseResult) v true x2.2 := ⟨_, rfl⟩
  obtain ⟨u, hu⟩ : ∃ x, x = tailU true x3.2 := ⟨_, rfl⟩
  have hD : decP fs_DescribeUserSCRAMCredentialsResponse v true ⟨s, false, !a.isNone⟩ = (.mk 0 [] false [x0.1, x1.1, x2.1, x3.1] u.1, u.2) := by
    generalize (⟨s, false, !a.isNone⟩ : Rd) = r_ at hx0 ⊢
    rw [decP_eq]; unfold fs_DescribeUserSCRAMCredentialsResponse; simp only [decFs_cons, decFs_nil, ← hx0, ← hx1, ← hx2, ← hx3, ← hu]
  have hL0 : x0.2.s.length ≤ BR := by rw [hx0]; exact Nat.le_trans (stepF_shr _ _ _ _) hL_
  have hL1 : x1.2.s.length ≤ BR := by rw [hx1]; exact Nat.le_trans (stepF_shr _ _ _ _) hL0
  have hL2 : x2.2.s.length ≤ BR := by rw [hx2]; exact Nat.le_trans (stepF_shr _ _ _ _) hL1
  have hL3 : x3.2.s.length ≤ BR := by rw [hx3]; exact Nat.le_trans (stepF_shr _ _ _ _) hL2
  have hE : u.2.bad = true → (decP fs_DescribeUserSCRAMCredentialsResponse v true ⟨s, false, !a.isNone⟩).2.bad = true := fun h => by rw [hD]; exact h
  have hB3 : x3.2.bad = true → (decP fs_DescribeUserSCRAMCredentialsResponse v true ⟨s, false, !a.isNone⟩).2.bad = true := fun h => hE (by rw [hu]; exact tailU_bad h)
  have hB2 : x2.2.bad = true → (decP fs_DescribeUserSCRAMCredentialsResponse v true ⟨s, false, !a.isNone⟩).2.bad = true := fun h => hB3 (by rw [hx3]; exact step_bad h)
  have hB1 : x1.2.bad = true → (decP fs_DescribeUserSCRAMCredentialsResponse v true ⟨s, false, !a.isNone⟩).2.bad = true := fun h => hB2 (by rw [hx2]; exact step_bad h)
  have hB0 : x0.2.bad = true → (decP fs_DescribeUserSCRAMCredentialsResponse v true ⟨s, false, !a.isNone⟩).2.bad = true := fun h => hB1 (by rw [hx1]; exact step_bad h)
  refine nl ?_
  refine sr ?_
  refine mv rfl rfl ?_
  refine nc rfl rfl ?_
  refine fa0 F126_0 rfl rfl ?_
  refine ld (Says.own (.tail .head)) Tryz.isAgg46 rfl (Nat.zero_add _).symm rfl rfl ?_
  refine asg rfl rfl ?_
  refine nl ?_
  refine sr ?_
  refine mv rfl rfl ?_
  refine nl ?_
  refine sr ?_
  refine mv rfl rfl ?_
  refine ge rfl rfl rfl ?_
  refine asg rfl rfl ?_
  refine nl ?_
  refine sr ?_
  refine mv rfl rfl ?_
  refine nl ?_
  refine sr ?_
  refine mv rfl rfl ?_
  refine asg rfl rfl ?_
  refine nl ?_
  refine sq ?_
  refine sr ?_
  have ex0 : x0 = decV 3 (decP [] v true) false true ⟨s, false, !a.isNone⟩ := (hx0.trans (step_yes (by decide) (show (0 : Int) ≤ v by omega) (Or.inl (by decide)))).trans (decF'_val (by decide) (rfl))
  refine cl rfl rfl rfl (d3 hR0_ ex0) rfl (fun v_ H1 L1 hle_ hR_ => ?_)
  obtain ⟨N44, rfl, hR44, rfl, rfl⟩ := hR_
  refine asg rfl rfl ?_
  refine nl ?_
  refine rg ?_
  refine mv rfl rfl ?_
  refine mv rfl rfl ?_
  refine nc rfl rfl ?_
  refine fa0 F126_1 rfl rfl ?_
  refine st Tryz.sizeOf21 rfl rfl rfl rfl (.tail .head) ?_
  refine nl ?_
  refine sq ?_
  refine sr ?_
  have ex1 : x1 = decV 2 (decP [] v true) false true x0.2 := (hx1.trans (step_yes (by decide) (show (0 : Int) ≤ v by omega) (Or.inl (by decide)))).trans (decF'_val (by decide) (rfl))
  refine cl rfl rfl rfl (d2 hR44 ex1) rfl (fun v_ H1 L1 hle_ hR_ => ?_)
  obtain ⟨N49, rfl, hR49, rfl, rfl⟩ := hR_
  refine asg rfl rfl ?_
  refine nl ?_
  refine rg ?_
  refine mv rfl rfl ?_
  refine mv rfl rfl ?_
  refine nc rfl rfl ?_
  refine fa0 F126_2 rfl rfl ?_
  refine st Tryz.sizeOf46 rfl rfl rfl rfl (.tail .head) ?_
  refine nl ?_
  refine sq ?_
  refine sr ?_
  refine asg rfl rfl ?_
  refine nl ?_
  refine sq ?_
  refine sr ?_
  refine mv rfl rfl ?_
  refine nl ?_
  refine cdT rfl (by omega) ?_
  refine sr ?_
  refine mv rfl rfl ?_
  refine nl ?_
  refine cF rfl ?_
  refine rg ?_
  have ex2 : x2 = decV 8 (decP [] v true) true true x1.2 := (hx2.trans (step_yes (by decide) (show (0 : Int) ≤ v by omega) (Or.inl (by decide)))).trans (decF'_val (by decide) (by simp only [Bool.and_eq_true, decide_eq_true_eq]; exact ⟨show (0 : Int) ≤ 0 by decide, show (0 : Int) ≤ v by omega⟩))
  refine cl rfl rfl rfl (d8tn hR49 ex2) rfl (fun v_ H1 L1 le_4 hR_ => ?_)
  obtain ⟨N57, rfl, hR57, p2, rfl, hf2⟩ := hR_
  refine asg rfl rfl ?_
  refine nl ?_
  refine rg ?_
  refine mv rfl rfl ?_
  refine mv rfl rfl ?_
  refine nc rfl rfl ?_
  refine fa0 F126_3 rfl rfl ?_
  refine st Tryz.sizeOf114 rfl rfl rfl rfl (.tail .head) ?_
  refine nl ?_
  refine sq ?_
  refine sr ?_
  refine mv rfl rfl ?_
  refine nc rfl rfl ?_
  refine fa0 F126_4 rfl rfl ?_
  refine ld (Says.own (.tail .head)) Tryz.isAgg124 rfl (Nat.zero_add _).symm rfl rfl ?_
  refine asg rfl rfl ?_
  refine nl ?_
  refine sr ?_
  refine mv rfl rfl ?_
  refine asg rfl rfl ?_
  refine nl ?_
  refine sr ?_
  refine asg rfl rfl ?_
  refine nl ?_
  refine sq ?_
  refine sr ?_
  refine mv rfl rfl ?_
  refine nl ?_
  refine cdT rfl (by omega) ?_
  refine rg ?_
  have ey3 : x3 = (.mk 0 [] (if 0 ≤ ((-1) : Int) ∧ (v < ((-1) : Int) ∨ (rArr true x2.2).1 = 0) then false else decide ((rArr true x2.2).1 ≤ 0)) (rMany (decV 10 (decP fs_sDescribeUserSCRAMCredentialsResponseResult v true) false true) (rArr true x2.2).1.toNat (rArr true x2.2).2).1 [], (rMany (decV 10 (decP fs_sDescribeUserSCRAMCredentialsResponseResult v true) false true) (rArr true x2.2).1.toNat (rArr true x2.2).2).2) := (hx3.trans (step_yes (by decide) (show (0 : Int) ≤ v by omega) (Or.inl (by decide)))).trans (decF'_list rfl rfl)
  have hn3 : (rArr true x2.2).1.toNat = (lT x3.1).length := by rw [ey3]; exact (lT_many nul_le).symm
  have ex3 := ey3
  rw [hn3] at ex3
  have hl3 := rArr_le true x2.2
  have hm3 : (rArr true x2.2).2.s.length ≤ BR := Nat.le_trans (rArr_len true x2.2) hL2
  have hnb3 : (lT x3.1).length ≤ BR := by omega
  refine cl rfl rfl rfl (r_arrt hR57) rfl (fun v_ H1 L1 hle_ hR_ => ?_)
  obtain ⟨rfl, N71, rfl, hR71, rfl⟩ := hR_
  have hh3 := rArr_hi true x2.2
  refine asg rfl rfl ?_
  refine nl ?_
  refine sq ?_
  refine sr ?_
  refine cl rfl rfl rfl (r_ok hR71) rfl (fun v_ H1 L1 hle_ hR_ => ?_)
  obtain ⟨rfl, rfl, rfl⟩ := hR_
  refine nt rfl rfl ?_
  refine nl ?_
  refine cb rfl (fun h74 => ?_) (fun h74 => ?_)
  · skip
    have hbad_ : (rArr true x2.2).2.bad = true := by simpa using h74
    refine sr ?_
    refine cl rfl rfl rfl (r_complete hR71 (he.mono le_4)) rfl (fun v_ H1 L1 hle_ hR_ => ?_)
    obtain ⟨rfl, rfl, rfl⟩ := hR_
    refine asg rfl rfl ?_
    refine nl ?_
    refine drW .head ?_
    exact rT rfl rfl le_4 (fun _ _ h => h) ⟨_, rfl, RdEnd.out (hB3 (by rw [ey3]; exact rMany_bad (fun r h => decV_bad (decP_bad _ _ _) h) _ _ hbad_)) hbad_⟩
  · skip
    refine skt ?_
    refine sr ?_
    refine mv rfl rfl ?_
    refine sh' (j := 0) Tryz.runUnderlying124 Tryz.sizeOf131 rfl rfl rfl (Nat.zero_le _) rfl ?_
    refine asg rfl rfl ?_
    refine nl ?_
    refine sq ?_
    refine sr ?_
    refine mv rfl rfl ?_
    refine gt rfl rfl rfl ?_
    refine nl ?_
    refine nulC2 ?_
    refine cutT (fun l' H' L' => ∃ (a3 : Option Addr), ∃ (c3 : Nat), ∃ (Nr3 : Chunk), [(2, .bool false), (7, .pointer (some ⟨b_1, 0, none⟩)), (9, .bool (decide ((0 : Int) ≤ v))), (10, .pointer (some ⟨b, 0, none⟩)), (14, .slice none 0 0), (15, .slice a3 (lT x3.1).length c3), (16, .int .i32 (rArr true x2.2).1)] = l' ∧ Nr3 :: N71 :: [(b, .cells [.int .i16 v, .int .i32 (IntKind.i32.wrap x0.1.n), .int .i16 (IntKind.i16.wrap x1.1.n), .pointer p2, .slice none 0 0, .map none].toArray 126 (0, 0))] :: L = L' ∧ Row 131 5 a3 (lT x3.1).length c3 (reps [.string ⟨#[]⟩, .int .i16 0, .pointer none, .slice none 0 0, .map none] (lT x3.1).length) Nr3 ∧ a3.isNone = (if 0 ≤ ((-1) : Int) ∧ (v < ((-1) : Int) ∨ (rArr true x2.2).1 = 0) then false else decide ((rArr true x2.2).1 ≤ 0))) ?_ (fun l' H' L' le_5 hI => ?_)
    · skip
      refine cd rfl (fun h79 => ?_) (fun h79 => ?_)
      · skip
        refine rg ?_
        refine mv rfl rfl ?_
        refine mv rfl rfl ?_
        refine apz (zs := [.string ⟨#[]⟩, .int .i16 0, .pointer none, .slice none 0 0, .map none]) (m := (lT x3.1).length) Tryz.underlying124 Tryz.underlying21 I131 rfl rfl rfl (by omega) (by omega) (by have h9 := hnb3; unfold BR at h9; omega) (by have h9 := hnb3; unfold BR at h9; unfold maxLen; omega) rfl (fun g82 cp82 N82 r82 => ?_)
        refine asg rfl rfl ?_
        refine nN ?_
        refine drN (.tail .head) ?_
        refine fun a_ w_ hA hw => ⟨_, _, _, hA.sub ?_, (Fz.le.refl _), hw, (some ⟨g82, 0, none⟩), cp82, N82, rfl, rfl, r82, (by rw [if_neg (by omega)]; exact (decide_eq_false (by omega)).symm)⟩
        exact (.cons rfl (.cons rfl (.cons rfl (.cons rfl (.cons rfl (.cons rfl (.cons rfl (.nil _))))))))
      · skip
        refine skN ?_
        refine fun a_ w_ hA hw => ⟨_, _, _, hA.sub ?_, (Fz.le.refl _), hw, none, 0, [], rfl, rfl, (by rw [show (lT x3.1).length = 0 by omega]; exact (Row.nil _ _)), (by rw [if_neg (by omega)]; exact (decide_eq_true (by omega)).symm)⟩
        exact (.cons rfl (.cons rfl (.cons rfl (.cons rfl (.cons rfl (.cons (by rw [show (lT x3.1).length = 0 by omega]; rfl) (.cons rfl (.nil _))))))))
    · skip
      obtain ⟨a3, c3, Nr3, rfl, rfl, pj0, pj1⟩ := hI
      have hr3 := pj0
      have hi3 := pj1
      refine sq ?_
      refine sr ?_
      refine asg rfl rfl ?_
      refine nl ?_
      refine bl (lp ((lT x3.1).length) (fun k3 l' H' L' => ∃ (es3 : List (KE 5)) (M3 RN3 : Chunk), [(2, .bool false), (7, .pointer (some ⟨b_1, 0, none⟩)), (9, .bool (decide ((0 : Int) ≤ v))), (10, .pointer (some ⟨b, 0, none⟩)), (14, .slice none 0 0), (15, .slice a3 (lT x3.1).length c3), (16, .int .i32 (rArr true x2.2).1), (17, .int .i32 (k3 : Int))] = l' ∧ M3 :: RN3 :: [(b, .cells [.int .i16 v, .int .i32 (IntKind.i32.wrap x0.1.n), .int .i16 (IntKind.i16.wrap x1.1.n), .pointer p2, .slice none 0 0, .map none].toArray 126 (0, 0))] :: L = L' ∧ RdAt H' 144 b_1 (rMany (decV 10 (decP fs_sDescribeUserSCRAMCredentialsResponseResult v true) false true) k3 (rArr true x2.2).2).2 RN3 ∧ Row 131 5 a3 (lT x3.1).length c3 (es3.flatMap fk ++ reps [.string ⟨#[]⟩, .int .i16 0, .pointer none, .slice none 0 0, .map none] ((lT x3.1).length - k3)) M3 ∧ es3.map (·.2) = (rMany (decV 10 (decP fs_sDescribeUserSCRAMCredentialsResponseResult v true) false true) k3 (rArr true x2.2).2).1 ∧ ∀ p ∈ es3, At_DescribeUserSCRAMCredentialsResponseResult H' p.2 (fk p)) [(2, .bool false), (7, .pointer (some ⟨b_1, 0, none⟩)), (9, .bool (decide ((0 : Int) ≤ v))), (10, .pointer (some ⟨b, 0, none⟩)), (14, .slice none 0 0), (15, .slice a3 (lT x3.1).length c3), (16, .int .i32 (rArr true x2.2).1), (17, .int .i32 (0 : Int))] (.cons rfl (.cons rfl (.cons rfl (.cons rfl (.cons rfl (.cons rfl (.cons rfl (.cons rfl (.nil _))))))))) ⟨[], Nr3, _, rfl, rfl, (hR71.mono le_5), hr3, rfl, (fun p hp => by cases hp)⟩ (fun k3 l' H' L' hk3 le_6 hI => ?_))
      obtain ⟨es3, M3, RN3, rfl, rfl, hR_3, hw_3, he_3, hg_3⟩ := hI
      have hs_3 := els_len he_3
      have hp_3 : (es3.flatMap fk).length = k3 * 5 := els_flat hs_3
      refine sq ?_
      refine sr ?_
      refine mv rfl rfl ?_
      refine mv rfl rfl ?_
      refine lt rfl rfl rfl ?_
      refine nl ?_
      refine cd rfl (fun h85 => ?_) (fun h85 => ?_)
      · skip
        have hkl3 : k3 < (lT x3.1).length := by omega
        obtain ⟨g3, po3, hga3, rfl, hbk3⟩ := hw_3.next (zs := [.string ⟨#[]⟩, .int .i16 0, .pointer none, .slice none 0 0, .map none]) hkl3 rfl (by decide)
        have ho3 : 0 + k3 * 5 = (es3.flatMap fk).length := by rw [hp_3]; omega
        have hbz3 : ((decV 10 (decP fs_sDescribeUserSCRAMCredentialsResponseResult v true) false true) (rMany (decV 10 (decP fs_sDescribeUserSCRAMCredentialsResponseResult v true) false true) k3 (rArr true x2.2).2).2).2.bad = true → (decP fs_DescribeUserSCRAMCredentialsResponse v true ⟨s, false, !a.isNone⟩).2.bad = true := fun h => hB3 (by rw [ex3]; exact rMany_mono (fun r h => decV_bad (fun r h => decP_bad _ _ _ r h) h) _ (show k3 + 1 ≤ (lT x3.1).length from hkl3) (by rw [rMany_succ]; exact h))
        have hLk3 : (rMany (decV 10 (decP fs_sDescribeUserSCRAMCredentialsResponseResult v true) false true) k3 (rArr true x2.2).2).2.s.length ≤ BR := Nat.le_trans (rMany_shr (fun r => decV_shr (fun r => decP_shr _ _ _ r) r) _ _) hm3
        have hL3__ := hLk3
        obtain ⟨x3_0, hx3_0⟩ : ∃ x, x = stepF (Fd.mk 8 0 (-1) (-1) (-1) 0 0 []) v true (rMany (decV 10 (decP fs_sDescribeUserSCRAMCredentialsResponseResult v true) false true) k3 (rArr true x2.2).2).2 := ⟨_, rfl⟩
        obtain ⟨x3_1, hx3_1⟩ : ∃ x, x = stepF (Fd.mk 2 0 (-1) (-1) (-1) 0 0 []) v true x3_0.2 := ⟨_, rfl⟩
        obtain ⟨x3_2, hx3_2⟩ : ∃ x, x = stepF (Fd.mk 8 0 (-1) 0 (-1) 0 0 []) v true x3_1.2 := ⟨_, rfl⟩
        obtain ⟨x3_3, hx3_3⟩ : ∃ x, x = stepF (Fd.mk 11 0 (-1) (-1) (-1) 0 10 fs_sDescribeUserSCRAMCredentialsResponseResultCredentialInfo) v true x3_2.2 := ⟨_, rfl⟩
        obtain ⟨u3_, hu3_⟩ : ∃ x, x = tailU true x3_3.2 := ⟨_, rfl⟩
        have hD3_ : decP fs_sDescribeUserSCRAMCredentialsResponseResult v true (rMany (decV 10 (decP fs_sDescribeUserSCRAMCredentialsResponseResult v true) false true) k3 (rArr true x2.2).2).2 = (.mk 0 [] false [x3_0.1, x3_1.1, x3_2.1, x3_3.1] u3_.1, u3_.2) := by
          generalize ((rMany (decV 10 (decP fs_sDescribeUserSCRAMCredentialsResponseResult v true) false true) k3 (rArr true x2.2).2).2 : Rd) = r_ at hx3_0 ⊢
          rw [decP_eq]; unfold fs_sDescribeUserSCRAMCredentialsResponseResult; simp only [decFs_cons, decFs_nil, ← hx3_0, ← hx3_1, ← hx3_2, ← hx3_3, ← hu3_]
        have hL3_0 : x3_0.2.s.length ≤ BR := by rw [hx3_0]; exact Nat.le_trans (stepF_shr _ _ _ _) hL3__
        have hL3_1 : x3_1.2.s.length ≤ BR := by rw [hx3_1]; exact Nat.le_trans (stepF_shr _ _ _ _) hL3_0
        have hL3_2 : x3_2.2.s.length ≤ BR := by rw [hx3_2]; exact Nat.le_trans (stepF_shr _ _ _ _) hL3_1
        have hL3_3 : x3_3.2.s.length ≤ BR := by rw [hx3_3]; exact Nat.le_trans (stepF_shr _ _ _ _) hL3_2
        have hE3_ : u3_.2.bad = true → (decP fs_DescribeUserSCRAMCredentialsResponse v true ⟨s, false, !a.isNone⟩).2.bad = true := fun h => hbz3 (by show (decP fs_sDescribeUserSCRAMCredentialsResponseResult v true (rMany (decV 10 (decP fs_sDescribeUserSCRAMCredentialsResponseResult v true) false true) k3 (rArr true x2.2).2).2).2.bad = true; rw [hD3_]; exact h)
        have hB3_3 : x3_3.2.bad = true → (decP fs_DescribeUserSCRAMCredentialsResponse v true ⟨s, false, !a.isNone⟩).2.bad = true := fun h => hE3_ (by rw [hu3_]; exact tailU_bad h)
        have hB3_2 : x3_2.2.bad = true → (decP fs_DescribeUserSCRAMCredentialsResponse v true ⟨s, false, !a.isNone⟩).2.bad = true := fun h => hB3_3 (by rw [hx3_3]; exact step_bad h)
        have hB3_1 : x3_1.2.bad = true → (decP fs_DescribeUserSCRAMCredentialsResponse v true ⟨s, false, !a.isNone⟩).2.bad = true := fun h => hB3_2 (by rw [hx3_2]; exact step_bad h)
        have hB3_0 : x3_0.2.bad = true → (decP fs_DescribeUserSCRAMCredentialsResponse v true ⟨s, false, !a.isNone⟩).2.bad = true := fun h => hB3_1 (by rw [hx3_1]; exact step_bad h)
        refine skt ?_
        refine sq ?_
        refine bl ?_
        refine sr ?_
        refine mv rfl rfl ?_
        refine mv rfl rfl ?_
        refine ixk (j := k3) Tryz.runUnderlying124 Tryz.sizeOf131 rfl hga3 rfl rfl hkl3 rfl ?_
        refine asg rfl rfl ?_
        refine nl ?_
        refine sr ?_
        refine mv rfl rfl ?_
        refine cl rfl rfl rfl (def_DescribeUserSCRAMCredentialsResponseResult ho3) rfl (fun v_ H1 L1 hle_ hR_ => ?_)
        obtain ⟨rfl, rfl⟩ := hR_
        refine nl ?_
        refine sr ?_
        refine mv rfl rfl ?_
        refine asg rfl rfl ?_
        refine nl ?_
        refine sq ?_
        refine sr ?_
        refine asg rfl rfl ?_
        refine nl ?_
        refine sq ?_
        refine sr ?_
        refine mv rfl rfl ?_
        refine nl ?_
        refine cF rfl ?_
        refine sr ?_
        refine mv rfl rfl ?_
        refine nl ?_
        refine cdT rfl (by omega) ?_
        refine rg ?_
        refine tf (.tail .head) ?_
        have ex3_0 : x3_0 = decV 8 (decP [] v true) false true (rMany (decV 10 (decP fs_sDescribeUserSCRAMCredentialsResponseResult v true) false true) k3 (rArr true x2.2).2).2 := (hx3_0.trans (step_yes (by decide) (show (0 : Int) ≤ v by omega) (Or.inl (by decide)))).trans (decF'_val (by decide) (rfl))
        refine cl rfl rfl rfl (d8t hR_3 ex3_0) rfl (fun v_ H1 L1 le_7 hR_ => ?_)
        obtain ⟨N99, rfl, hR99, rfl, rfl⟩ := hR_
        refine asg rfl rfl ?_
        refine nl ?_
        refine rg ?_
        refine mv rfl rfl ?_
        refine mv rfl rfl ?_
        refine nc rfl rfl ?_
        refine fa F131_0 rfl rfl ?_
        refine stM (off := 0) Tryz.sizeOf9 rfl (by rw [ho3]) rfl rfl rfl (.tail .head) ?_
        refine nl ?_
        refine sq ?_
        refine sr ?_
        have ex3_1 : x3_1 = decV 2 (decP [] v true) false true x3_0.2 := (hx3_1.trans (step_yes (by decide) (show (0 : Int) ≤ v by omega) (Or.inl (by decide)))).trans (decF'_val (by decide) (rfl))
        refine cl rfl rfl rfl (d2 hR99 ex3_1) rfl (fun v_ H1 L1 hle_ hR_ => ?_)
        obtain ⟨N105, rfl, hR105, rfl, rfl⟩ := hR_
        refine asg rfl rfl ?_
        refine nl ?_
        refine rg ?_
        refine mv rfl rfl ?_
        refine mv rfl rfl ?_
        refine nc rfl rfl ?_
        refine fa F131_1 rfl rfl ?_
        refine stM (off := 1) Tryz.sizeOf46 rfl (by rw [ho3]) rfl rfl rfl (.tail .head) ?_
        refine nl ?_
        refine sq ?_
        refine sr ?_
        refine asg rfl rfl ?_
        refine nl ?_
        refine sq ?_
        refine sr ?_
        refine mv rfl rfl ?_
        refine nl ?_
        refine cdT rfl (by omega) ?_
        refine sr ?_
        refine mv rfl rfl ?_
        refine nl ?_
        refine cF rfl ?_
        refine rg ?_
        have ex3_2 : x3_2 = decV 8 (decP [] v true) true true x3_1.2 := (hx3_2.trans (step_yes (by decide) (show (0 : Int) ≤ v by omega) (Or.inl (by decide)))).trans (decF'_val (by decide) (by simp only [Bool.and_eq_true, decide_eq_true_eq]; exact ⟨show (0 : Int) ≤ 0 by decide, show (0 : Int) ≤ v by omega⟩))
        refine cl rfl rfl rfl (d8tn hR105 ex3_2) rfl (fun v_ H1 L1 le_9 hR_ => ?_)
        obtain ⟨N113, rfl, hR113, p3_2, rfl, hf3_2⟩ := hR_
        refine asg rfl rfl ?_
        refine nl ?_
        refine rg ?_
        refine mv rfl rfl ?_
        refine mv rfl rfl ?_
        refine nc rfl rfl ?_
        refine fa F131_2 rfl rfl ?_
        refine stM (off := 2) Tryz.sizeOf114 rfl (by rw [ho3]) rfl rfl rfl (.tail .head) ?_
        refine nl ?_
        refine sq ?_
        refine sr ?_
        refine mv rfl rfl ?_
        refine nc rfl rfl ?_
        refine fa F131_3 rfl rfl ?_
        refine ld (j := 3) (off := 0 + k3 * 5) (Says.mid (.tail .head) ho3) Tryz.isAgg129 rfl rfl rfl rfl ?_
        refine asg rfl rfl ?_
        refine nl ?_
        refine sr ?_
        refine mv rfl rfl ?_
        refine asg rfl rfl ?_
        refine nl ?_
        refine sr ?_
        refine asg rfl rfl ?_
        refine nl ?_
        refine sq ?_
        refine sr ?_
        refine mv rfl rfl ?_
        refine nl ?_
        refine cdT rfl (by omega) ?_
        refine rg ?_
        have ey3_3 : x3_3 = (.mk 0 [] (if 0 ≤ ((-1) : Int) ∧ (v < ((-1) : Int) ∨ (rArr true x3_2.2).1 = 0) then false else decide ((rArr true x3_2.2).1 ≤ 0)) (rMany (decV 10 (decP fs_sDescribeUserSCRAMCredentialsResponseResultCredentialInfo v true) false true) (rArr true x3_2.2).1.toNat (rArr true x3_2.2).2).1 [], (rMany (decV 10 (decP fs_sDescribeUserSCRAMCredentialsResponseResultCredentialInfo v true) false true) (rArr true x3_2.2).1.toNat (rArr true x3_2.2).2).2) := (hx3_3.trans (step_yes (by decide) (show (0 : Int) ≤ v by omega) (Or.inl (by decide)))).trans (decF'_list rfl rfl)
        have hn3_3 : (rArr true x3_2.2).1.toNat = (lT x3_3.1).length := by rw [ey3_3]; exact (lT_many nul_le).symm
        have ex3_3 := ey3_3
        rw [hn3_3] at ex3_3
        have hl3_3 := rArr_le true x3_2.2
        have hm3_3 : (rArr true x3_2.2).2.s.length ≤ BR := Nat.le_trans (rArr_len true x3_2.2) hL3_2
        have hnb3_3 : (lT x3_3.1).length ≤ BR := by omega
        refine cl rfl rfl rfl (r_arrt hR113) rfl (fun v_ H1 L1 hle_ hR_ => ?_)
        obtain ⟨rfl, N127, rfl, hR127, rfl⟩ := hR_
        have hh3_3 := rArr_hi true x3_2.2
        refine asg rfl rfl ?_
        refine nl ?_
        refine sq ?_
        refine sr ?_
        refine cl rfl rfl rfl (r_ok hR127) rfl (fun v_ H1 L1 hle_ hR_ => ?_)
        obtain ⟨rfl, rfl, rfl⟩ := hR_
        refine nt rfl rfl ?_
        refine nl ?_
        refine cb rfl (fun h130 => ?_) (fun h130 => ?_)
        · skip
          have hbad_ : (rArr true x3_2.2).2.bad = true := by simpa using h130
          refine sr ?_
          refine cl rfl rfl rfl (r_complete hR127 (he.mono (le_4.trans (le_5.trans (le_6.trans le_9))))) rfl (fun v_ H1 L1 hle_ hR_ => ?_)
          obtain ⟨rfl, rfl, rfl⟩ := hR_
          refine asg rfl rfl ?_
          refine nl ?_
          refine drW .head ?_
          refine drW .head ?_
          exact rT rfl rfl (le_4.trans (le_5.trans (le_6.trans le_9))) (fun _ _ h => h) ⟨_, rfl, RdEnd.out (hB3_3 (by rw [ey3_3]; exact rMany_bad (fun r h => decV_bad (decP_bad _ _ _) h) _ _ hbad_)) hbad_⟩
        · skip
          refine skt ?_
          refine sr ?_
          refine mv rfl rfl ?_
          refine sh' (j := 0) Tryz.runUnderlying129 Tryz.sizeOf167 rfl rfl rfl (Nat.zero_le _) rfl ?_
          refine asg rfl rfl ?_
          refine nl ?_
          refine sq ?_
          refine sr ?_
          refine mv rfl rfl ?_
          refine gt rfl rfl rfl ?_
          refine nl ?_
          refine nulC2 ?_
          refine cutT (fun l' H' L' => ∃ (a3_3 : Option Addr), ∃ (c3_3 : Nat), ∃ (Nr3_3 : Chunk), [(2, .bool false), (7, .pointer (some ⟨b_1, 0, none⟩)), (9, .bool (decide ((0 : Int) ≤ v))), (10, .pointer (some ⟨b, 0, none⟩)), (14, .slice none 0 0), (15, .slice a3 (lT x3.1).length c3), (16, .int .i32 (rArr true x2.2).1), (17, .int .i32 (k3 : Int)), (19, .pointer (some ⟨g3, 0 + k3 * 5, none⟩)), (23, .slice none 0 0), (24, .slice a3_3 (lT x3_3.1).length c3_3), (25, .int .i32 (rArr true x3_2.2).1)] = l' ∧ Nr3_3 :: N127 :: [(g3, .cells ((es3.flatMap fk) ++ ([.string ⟨x3_0.1.s.toArray⟩, .int .i16 (IntKind.i16.wrap x3_1.1.n), .pointer p3_2, .slice none 0 0, .map none] : List Value) ++ po3).toArray 131 (0, 0))] :: [(b, .cells [.int .i16 v, .int .i32 (IntKind.i32.wrap x0.1.n), .int .i16 (IntKind.i16.wrap x1.1.n), .pointer p2, .slice none 0 0, .map none].toArray 126 (0, 0))] :: L = L' ∧ Row 167 3 a3_3 (lT x3_3.1).length c3_3 (reps [.int .i8 0, .int .i32 0, .map none] (lT x3_3.1).length) Nr3_3 ∧ a3_3.isNone = (if 0 ≤ ((-1) : Int) ∧ (v < ((-1) : Int) ∨ (rArr true x3_2.2).1 = 0) then false else decide ((rArr true x3_2.2).1 ≤ 0))) ?_ (fun l' H' L' le_10 hI => ?_)
          · skip
            refine cd rfl (fun h135 => ?_) (fun h135 => ?_)
            · skip
              refine rg ?_
              refine mv rfl rfl ?_
              refine mv rfl rfl ?_
              refine apz (zs := [.int .i8 0, .int .i32 0, .map none]) (m := (lT x3_3.1).length) Tryz.underlying129 Tryz.underlying21 I167 rfl rfl rfl (by omega) (by omega) (by have h9 := hnb3_3; unfold BR at h9; omega) (by have h9 := hnb3_3; unfold BR at h9; unfold maxLen; omega) rfl (fun g138 cp138 N138 r138 => ?_)
              refine asg rfl rfl ?_
              refine nN ?_
              refine drN (.tail .head) ?_
              refine fun a_ w_ hA hw => ⟨_, _, _, hA.sub ?_, (Fz.le.refl _), hw, (some ⟨g138, 0, none⟩), cp138, N138, rfl, rfl, r138, (by rw [if_neg (by omega)]; exact (decide_eq_false (by omega)).symm)⟩
              exact (.cons rfl (.cons rfl (.cons rfl (.cons rfl (.cons rfl (.cons rfl (.cons rfl (.cons rfl (.cons rfl (.cons rfl (.cons rfl (.cons rfl (.nil _)))))))))))))
            · skip
              refine skN ?_
              refine fun a_ w_ hA hw => ⟨_, _, _, hA.sub ?_, (Fz.le.refl _), hw, none, 0, [], rfl, rfl, (by rw [show (lT x3_3.1).length = 0 by omega]; exact (Row.nil _ _)), (by rw [if_neg (by omega)]; exact (decide_eq_true (by omega)).symm)⟩
              exact (.cons rfl (.cons rfl (.cons rfl (.cons rfl (.cons rfl (.cons rfl (.cons rfl (.cons rfl (.cons rfl (.cons rfl (.cons (by rw [show (lT x3_3.1).length = 0 by omega]; rfl) (.cons rfl (.nil _)))))))))))))
          · skip
            obtain ⟨a3_3, c3_3, Nr3_3, rfl, rfl, pj0, pj1⟩ := hI
            have hr3_3 := pj0
            have hi3_3 := pj1
            refine sq ?_
            refine sr ?_
            refine asg rfl rfl ?_
            refine nl ?_
            refine bl (lp ((lT x3_3.1).length) (fun k3_3 l' H' L' => ∃ (es3_3 : List (KE 3)) (M3_3 RN3_3 : Chunk), [(2, .bool false), (7, .pointer (some ⟨b_1, 0, none⟩)), (9, .bool (decide ((0 : Int) ≤ v))), (10, .pointer (some ⟨b, 0, none⟩)), (14, .slice none 0 0), (15, .slice a3 (lT x3.1).length c3), (16, .int .i32 (rArr true x2.2).1), (17, .int .i32 (k3 : Int)), (19, .pointer (some ⟨g3, 0 + k3 * 5, none⟩)), (23, .slice none 0 0), (24, .slice a3_3 (lT x3_3.1).length c3_3), (25, .int .i32 (rArr true x3_2.2).1), (26, .int .i32 (k3_3 : Int))] = l' ∧ M3_3 :: RN3_3 :: [(g3, .cells ((es3.flatMap fk) ++ ([.string ⟨x3_0.1.s.toArray⟩, .int .i16 (IntKind.i16.wrap x3_1.1.n), .pointer p3_2, .slice none 0 0, .map none] : List Value) ++ po3).toArray 131 (0, 0))] :: [(b, .cells [.int .i16 v, .int .i32 (IntKind.i32.wrap x0.1.n), .int .i16 (IntKind.i16.wrap x1.1.n), .pointer p2, .slice none 0 0, .map none].toArray 126 (0, 0))] :: L = L' ∧ RdAt H' 144 b_1 (rMany (decV 10 (decP fs_sDescribeUserSCRAMCredentialsResponseResultCredentialInfo v true) false true) k3_3 (rArr true x3_2.2).2).2 RN3_3 ∧ Row 167 3 a3_3 (lT x3_3.1).length c3_3 (es3_3.flatMap fk ++ reps [.int .i8 0, .int .i32 0, .map none] ((lT x3_3.1).length - k3_3)) M3_3 ∧ es3_3.map (·.2) = (rMany (decV 10 (decP fs_sDescribeUserSCRAMCredentialsResponseResultCredentialInfo v true) false true) k3_3 (rArr true x3_2.2).2).1 ∧ ∀ p ∈ es3_3, At_DescribeUserSCRAMCredentialsResponseResultCredentialInfo H' p.2 (fk p)) [(2, .bool false), (7, .pointer (some ⟨b_1, 0, none⟩)), (9, .bool (decide ((0 : Int) ≤ v))), (10, .pointer (some ⟨b, 0, none⟩)), (14, .slice none 0 0), (15, .slice a3 (lT x3.1).length c3), (16, .int .i32 (rArr true x2.2).1), (17, .int .i32 (k3 : Int)), (19, .pointer (some ⟨g3, 0 + k3 * 5, none⟩)), (23, .slice none 0 0), (24, .slice a3_3 (lT x3_3.1).length c3_3), (25, .int .i32 (rArr true x3_2.2).1), (26, .int .i32 (0 : Int))] (.cons rfl (.cons rfl (.cons rfl (.cons rfl (.cons rfl (.cons rfl (.cons rfl (.cons rfl (.cons rfl (.cons rfl (.cons rfl (.cons rfl (.cons rfl (.nil _)))))))))))))) ⟨[], Nr3_3, _, rfl, rfl, (hR127.mono le_10), hr3_3, rfl, (fun p hp => by cases hp)⟩ (fun k3_3 l' H' L' hk3_3 le_11 hI => ?_))
            obtain ⟨es3_3, M3_3, RN3_3, rfl, rfl, hR_3_3, hw_3_3, he_3_3, hg_3_3⟩ := hI
            have hs_3_3 := els_len he_3_3
            have hp_3_3 : (es3_3.flatMap fk).length = k3_3 * 3 := els_flat hs_3_3
            refine sq ?_
            refine sr ?_
            refine mv rfl rfl ?_
            refine mv rfl rfl ?_
            refine lt rfl rfl rfl ?_
            refine nl ?_
            refine cd rfl (fun h141 => ?_) (fun h141 => ?_)
            · skip
              have hkl3_3 : k3_3 < (lT x3_3.1).length := by omega
              obtain ⟨g3_3, po3_3, hga3_3, rfl, hbk3_3⟩ := hw_3_3.next (zs := [.int .i8 0, .int .i32 0, .map none]) hkl3_3 rfl (by decide)
              have ho3_3 : 0 + k3_3 * 3 = (es3_3.flatMap fk).length := by rw [hp_3_3]; omega
              have hbz3_3 : ((decV 10 (decP fs_sDescribeUserSCRAMCredentialsResponseResultCredentialInfo v true) false true) (rMany (decV 10 (decP fs_sDescribeUserSCRAMCredentialsResponseResultCredentialInfo v true) false true) k3_3 (rArr true x3_2.2).2).2).2.bad = true → (decP fs_DescribeUserSCRAMCredentialsResponse v true ⟨s, false, !a.isNone⟩).2.bad = true := fun h => hB3_3 (by rw [ex3_3]; exact rMany_mono (fun r h => decV_bad (fun r h => decP_bad _ _ _ r h) h) _ (show k3_3 + 1 ≤ (lT x3_3.1).length from hkl3_3) (by rw [rMany_succ]; exact h))
              have hLk3_3 : (rMany (decV 10 (decP fs_sDescribeUserSCRAMCredentialsResponseResultCredentialInfo v true) false true) k3_3 (rArr true x3_2.2).2).2.s.length ≤ BR := Nat.le_trans (rMany_shr (fun r => decV_shr (fun r => decP_shr _ _ _ r) r) _ _) hm3_3
              have hL3_3__ := hLk3_3
              obtain ⟨x3_3_0, hx3_3_0⟩ : ∃ x, x = stepF (Fd.mk 1 0 (-1) (-1) (-1) 0 0 []) v true (rMany (decV 10 (decP fs_sDescribeUserSCRAMCredentialsResponseResultCredentialInfo v true) false true) k3_3 (rArr true x3_2.2).2).2 := ⟨_, rfl⟩
              obtain ⟨x3_3_1, hx3_3_1⟩ : ∃ x, x = stepF (Fd.mk 3 0 (-1) (-1) (-1) 0 0 []) v true x3_3_0.2 := ⟨_, rfl⟩
              obtain ⟨u3_3_, hu3_3_⟩ : ∃ x, x = tailU true x3_3_1.2 := ⟨_, rfl⟩
              have hD3_3_ : decP fs_sDescribeUserSCRAMCredentialsResponseResultCredentialInfo v true (rMany (decV 10 (decP fs_sDescribeUserSCRAMCredentialsResponseResultCredentialInfo v true) false true) k3_3 (rArr true x3_2.2).2).2 = (.mk 0 [] false [x3_3_0.1, x3_3_1.1] u3_3_.1, u3_3_.2) := by
                generalize ((rMany (decV 10 (decP fs_sDescribeUserSCRAMCredentialsResponseResultCredentialInfo v true) false true) k3_3 (rArr true x3_2.2).2).2 : Rd) = r_ at hx3_3_0 ⊢
                rw [decP_eq]; unfold fs_sDescribeUserSCRAMCredentialsResponseResultCredentialInfo; simp only [decFs_cons, decFs_nil, ← hx3_3_0, ← hx3_3_1, ← hu3_3_]
              have hL3_3_0 : x3_3_0.2.s.length ≤ BR := by rw [hx3_3_0]; exact Nat.le_trans (stepF_shr _ _ _ _) hL3_3__
              have hL3_3_1 : x3_3_1.2.s.length ≤ BR := by rw [hx3_3_1]; exact Nat.le_trans (stepF_shr _ _ _ _) hL3_3_0
              have hE3_3_ : u3_3_.2.bad = true → (decP fs_DescribeUserSCRAMCredentialsResponse v true ⟨s, false, !a.isNone⟩).2.bad = true := fun h => hbz3_3 (by show (decP fs_sDescribeUserSCRAMCredentialsResponseResultCredentialInfo v true (rMany (decV 10 (decP fs_sDescribeUserSCRAMCredentialsResponseResultCredentialInfo v true) false true) k3_3 (rArr true x3_2.2).2).2).2.bad = true; rw [hD3_3_]; exact h)
              have hB3_3_1 : x3_3_1.2.bad = true → (decP fs_DescribeUserSCRAMCredentialsResponse v true ⟨s, false, !a.isNone⟩).2.bad = true := fun h => hE3_3_ (by rw [hu3_3_]; exact tailU_bad h)
              have hB3_3_0 : x3_3_0.2.bad = true → (decP fs_DescribeUserSCRAMCredentialsResponse v true ⟨s, false, !a.isNone⟩).2.bad = true := fun h => hB3_3_1 (by rw [hx3_3_1]; exact step_bad h)
              refine skt ?_
              refine sq ?_
              refine bl ?_
              refine sr ?_
              refine mv rfl rfl ?_
              refine mv rfl rfl ?_
              refine ixk (j := k3_3) Tryz.runUnderlying129 Tryz.sizeOf167 rfl hga3_3 rfl rfl hkl3_3 rfl ?_
              refine asg rfl rfl ?_
              refine nl ?_
              refine sr ?_
              refine mv rfl rfl ?_
              refine cl rfl rfl rfl (def_DescribeUserSCRAMCredentialsResponseResultCredentialInfo ho3_3) rfl (fun v_ H1 L1 hle_ hR_ => ?_)
              obtain ⟨rfl, rfl⟩ := hR_
              refine nl ?_
              refine sr ?_
              refine mv rfl rfl ?_
              refine asg rfl rfl ?_
              refine nl ?_
              refine sq ?_
              refine sr ?_
              refine tf (.tail .head) ?_
              have ex3_3_0 : x3_3_0 = decV 1 (decP [] v true) false true (rMany (decV 10 (decP fs_sDescribeUserSCRAMCredentialsResponseResultCredentialInfo v true) false true) k3_3 (rArr true x3_2.2).2).2 := (hx3_3_0.trans (step_yes (by decide) (show (0 : Int) ≤ v by omega) (Or.inl (by decide)))).trans (decF'_val (by decide) (rfl))
              refine cl rfl rfl rfl (d1 hR_3_3 ex3_3_0) rfl (fun v_ H1 L1 hle_ hR_ => ?_)
              obtain ⟨N150, rfl, hR150, rfl, rfl⟩ := hR_
              refine asg rfl rfl ?_
              refine nl ?_
              refine rg ?_
              refine mv rfl rfl ?_
              refine mv rfl rfl ?_
              refine nc rfl rfl ?_
              refine fa F167_0 rfl rfl ?_
              refine stM (off := 0) Tryz.sizeOf137 rfl (by rw [ho3_3]) rfl rfl rfl (.tail .head) ?_
              refine nl ?_
              refine sq ?_
              refine sr ?_
              have ex3_3_1 : x3_3_1 = decV 3 (decP [] v true) false true x3_3_0.2 := (hx3_3_1.trans (step_yes (by decide) (show (0 : Int) ≤ v by omega) (Or.inl (by decide)))).trans (decF'_val (by decide) (rfl))
              refine cl rfl rfl rfl (d3 hR150 ex3_3_1) rfl (fun v_ H1 L1 hle_ hR_ => ?_)
              obtain ⟨N155, rfl, hR155, rfl, rfl⟩ := hR_
              refine asg rfl rfl ?_
              refine nl ?_
              refine rg ?_
              refine mv rfl rfl ?_
              refine mv rfl rfl ?_
              refine nc rfl rfl ?_
              refine fa F167_1 rfl rfl ?_
              refine stM (off := 1) Tryz.sizeOf21 rfl (by rw [ho3_3]) rfl rfl rfl (.tail .head) ?_
              refine nl ?_
              refine sr ?_
              refine mv rfl rfl ?_
              refine nl ?_
              refine cdT rfl (by omega) ?_
              refine rg ?_
              refine mv rfl rfl ?_
              refine cl rfl rfl rfl (d_tags hR155) rfl (fun v_ H1 L1 le_14 hR_ => ?_)
              obtain ⟨N162, rfl, hR162, m3_3_t, rfl, hft3_3_⟩ := hR_
              have hu23_3_ : u3_3_ = rTags x3_3_1.2 := hu3_3_
              rw [← hu23_3_] at hR162 hft3_3_
              refine nc rfl rfl ?_
              refine fa F167_2 rfl rfl ?_
              refine saM (off := 2) Tryz.sizeOf86 rfl (by rw [ho3_3]) rfl rfl rfl rfl (.tail .head) ?_
              refine nN ?_
              refine Nb ?_
              refine Nt ?_
              refine rg ?_
              refine mv rfl rfl ?_
              refine ad rfl rfl (c := ((k3_3 + 1 : Nat) : Int)) ((wrap32_le (by omega) (by omega)).trans (by omega)) rfl ?_
              refine asg rfl rfl ?_
              refine nN ?_
              have hfs3_3 := flatMap_snoc' fk es3_3 ((⟨([.int .i8 (IntKind.i8.wrap x3_3_0.1.n), .int .i32 (IntKind.i32.wrap x3_3_1.1.n), .map m3_3_t] : List Value), rfl, all_one rfl⟩, ((decV 10 (decP fs_sDescribeUserSCRAMCredentialsResponseResultCredentialInfo v true) false true) (rMany (decV 10 (decP fs_sDescribeUserSCRAMCredentialsResponseResultCredentialInfo v true) false true) k3_3 (rArr true x3_2.2).2).2).1) : KE 3)
              have hrw3_3 := hbk3_3 ([.int .i8 (IntKind.i8.wrap x3_3_0.1.n), .int .i32 (IntKind.i32.wrap x3_3_1.1.n), .map m3_3_t] : List Value) rfl
              refine tfN (.tail .head) ?_
              refine fun a_ w_ hA hw => ⟨hkl3_3, _, _, _, hA.sub ?_, (le_11.trans le_14), hw, _, _, _, rfl, rfl, (by rw [rMany_succ]; show RdAt _ 144 b_1 (decP fs_sDescribeUserSCRAMCredentialsResponseResultCredentialInfo v true (rMany (decV 10 (decP fs_sDescribeUserSCRAMCredentialsResponseResultCredentialInfo v true) false true) k3_3 (rArr true x3_2.2).2).2).2 _; rw [hD3_3_]; exact hR162), (by rw [← hfs3_3]; exact hrw3_3), (dec_els he_3_3), (fun p hp => (mem_snoc hp).elim (fun h => At_DescribeUserSCRAMCredentialsResponseResultCredentialInfo.mono _ _ _ _ le_14 (hg_3_3 p h)) (fun h => h ▸ (by show At_DescribeUserSCRAMCredentialsResponseResultCredentialInfo _ (decP fs_sDescribeUserSCRAMCredentialsResponseResultCredentialInfo v true (rMany (decV 10 (decP fs_sDescribeUserSCRAMCredentialsResponseResultCredentialInfo v true) false true) k3_3 (rArr true x3_2.2).2).2).1 [.int .i8 (IntKind.i8.wrap x3_3_0.1.n), .int .i32 (IntKind.i32.wrap x3_3_1.1.n), .map m3_3_t]; rw [hD3_3_]; exact ⟨m3_3_t, rfl, hft3_3_⟩)))⟩
              exact (.cons rfl (.cons rfl (.cons rfl (.cons rfl (.cons rfl (.cons rfl (.cons rfl (.cons rfl (.cons rfl (.cons rfl (.cons rfl (.cons rfl (.cons rfl (.nil _))))))))))))))
            · skip
              have hkn_ : k3_3 = (lT x3_3.1).length := by omega
              subst hkn_
              have hw2_3_3 : Row 167 3 a3_3 (lT x3_3.1).length c3_3 (es3_3.flatMap fk) M3_3 := by have h := hw_3_3; rw [Nat.sub_self] at h; simpa [reps] using h
              refine frW hw2_3_3 .head (fun Hf3_3 hlf3_3 hfz3_3 => ?_)
              have hrs3_3 := RowsAt.row (R := At_DescribeUserSCRAMCredentialsResponseResultCredentialInfo) hfz3_3 hs_3_3.symm hw2_3_3.le.1 (fun p hp => At_DescribeUserSCRAMCredentialsResponseResultCredentialInfo.mono _ _ _ _ hlf3_3 (hg_3_3 p hp))
              rw [he_3_3] at hrs3_3
              have hf3_3 : ListAt Hf3_3 x3_3.1 3 At_DescribeUserSCRAMCredentialsResponseResultCredentialInfo a3_3 c3_3 := by rw [ex3_3]; exact listAt_of hrs3_3 hi3_3 (fun h => by have h1 := nul_le h; rw [show (lT x3_3.1).length = 0 by omega]; rfl)
              have hRx3_3 : RdAt Hf3_3 144 b_1 x3_3.2 RN3_3 := by rw [ex3_3]; exact (hR_3_3.mono hlf3_3)
              refine exX ?_
              refine XT ?_
              refine XT ?_
              refine Xb ?_
              refine Nt ?_
              refine sr ?_
              refine mv rfl rfl ?_
              refine asg rfl rfl ?_
              refine nl ?_
              refine rg ?_
              refine mv rfl rfl ?_
              refine mv rfl rfl ?_
              refine nc rfl rfl ?_
              refine fa F131_3 rfl rfl ?_
              refine stM (off := 3) Tryz.sizeOf129 rfl (by rw [ho3]) rfl rfl rfl (.tail .head) ?_
              refine nl ?_
              refine sr ?_
              refine mv rfl rfl ?_
              refine nl ?_
              refine cdT rfl (by omega) ?_
              refine rg ?_
              refine mv rfl rfl ?_
              refine cl rfl rfl rfl (d_tags hRx3_3) rfl (fun v_ H1 L1 le_15 hR_ => ?_)
              obtain ⟨N172, rfl, hR172, m3_t, rfl, hft3_⟩ := hR_
              have hu23_ : u3_ = rTags x3_3.2 := hu3_
              rw [← hu23_] at hR172 hft3_
              refine nc rfl rfl ?_
              refine fa F131_4 rfl rfl ?_
              refine saM (off := 4) Tryz.sizeOf86 rfl (by rw [ho3]) rfl rfl rfl rfl (.tail .head) ?_
              refine nN ?_
              refine Nb ?_
              refine Nt ?_
              refine rg ?_
              refine mv rfl rfl ?_
              refine ad rfl rfl (c := ((k3 + 1 : Nat) : Int)) ((wrap32_le (by omega) (by omega)).trans (by omega)) rfl ?_
              refine asg rfl rfl ?_
              refine nN ?_
              have hfs3 := flatMap_snoc' fk es3 ((⟨([.string ⟨x3_0.1.s.toArray⟩, .int .i16 (IntKind.i16.wrap x3_1.1.n), .pointer p3_2, .slice a3_3 (lT x3_3.1).length c3_3, .map m3_t] : List Value), rfl, all_one rfl⟩, ((decV 10 (decP fs_sDescribeUserSCRAMCredentialsResponseResult v true) false true) (rMany (decV 10 (decP fs_sDescribeUserSCRAMCredentialsResponseResult v true) false true) k3 (rArr true x2.2).2).2).1) : KE 5)
              have hrw3 := hbk3 ([.string ⟨x3_0.1.s.toArray⟩, .int .i16 (IntKind.i16.wrap x3_1.1.n), .pointer p3_2, .slice a3_3 (lT x3_3.1).length c3_3, .map m3_t] : List Value) rfl
              refine tfN (.tail .head) ?_
              refine fun a_ w_ hA hw => ⟨hkl3, _, _, _, hA.sub ?_, (le_6.trans (le_9.trans (le_10.trans (le_11.trans (hlf3_3.trans le_15))))), hw, _, _, _, rfl, rfl, (by rw [rMany_succ]; show RdAt _ 144 b_1 (decP fs_sDescribeUserSCRAMCredentialsResponseResult v true (rMany (decV 10 (decP fs_sDescribeUserSCRAMCredentialsResponseResult v true) false true) k3 (rArr true x2.2).2).2).2 _; rw [hD3_]; exact hR172), (by rw [← hfs3]; exact hrw3), (dec_els he_3), (fun p hp => (mem_snoc hp).elim (fun h => At_DescribeUserSCRAMCredentialsResponseResult.mono _ _ _ _ (le_9.trans (le_10.trans (le_11.trans (hlf3_3.trans le_15)))) (hg_3 p h)) (fun h => h ▸ (by show At_DescribeUserSCRAMCredentialsResponseResult _ (decP fs_sDescribeUserSCRAMCredentialsResponseResult v true (rMany (decV 10 (decP fs_sDescribeUserSCRAMCredentialsResponseResult v true) false true) k3 (rArr true x2.2).2).2).1 [.string ⟨x3_0.1.s.toArray⟩, .int .i16 (IntKind.i16.wrap x3_1.1.n), .pointer p3_2, .slice a3_3 (lT x3_3.1).length c3_3, .map m3_t]; rw [hD3_]; exact ⟨p3_2, a3_3, c3_3, m3_t, rfl, (hf3_2.mono (le_10.trans (le_11.trans (hlf3_3.trans le_15)))), (hf3_3.mono At_DescribeUserSCRAMCredentialsResponseResultCredentialInfo.mono le_15), hft3_⟩)))⟩
              exact (.cons rfl (.cons rfl (.cons rfl (.cons rfl (.cons rfl (.cons rfl (.cons rfl (.cons rfl (.nil _)))))))))
      · skip
        have hkn_ : k3 = (lT x3.1).length := by omega
        subst hkn_
        have hw2_3 : Row 131 5 a3 (lT x3.1).length c3 (es3.flatMap fk) M3 := by have h := hw_3; rw [Nat.sub_self] at h; simpa [reps] using h
        refine frW hw2_3 .head (fun Hf3 hlf3 hfz3 => ?_)
        have hrs3 := RowsAt.row (R := At_DescribeUserSCRAMCredentialsResponseResult) hfz3 hs_3.symm hw2_3.le.1 (fun p hp => At_DescribeUserSCRAMCredentialsResponseResult.mono _ _ _ _ hlf3 (hg_3 p hp))
        rw [he_3] at hrs3
        have hf3 : ListAt Hf3 x3.1 5 At_DescribeUserSCRAMCredentialsResponseResult a3 c3 := by rw [ex3]; exact listAt_of hrs3 hi3 (fun h => by have h1 := nul_le h; rw [show (lT x3.1).length = 0 by omega]; rfl)
        have hRx3 : RdAt Hf3 144 b_1 x3.2 RN3 := by rw [ex3]; exact (hR_3.mono hlf3)
        refine exX ?_
        refine XT ?_
        refine XT ?_
        refine Xb ?_
        refine Nt ?_
        refine sr ?_
        refine mv rfl rfl ?_
        refine asg rfl rfl ?_
        refine nl ?_
        refine rg ?_
        refine mv rfl rfl ?_
        refine mv rfl rfl ?_
        refine nc rfl rfl ?_
        refine fa0 F126_4 rfl rfl ?_
        refine st Tryz.sizeOf124 rfl rfl rfl rfl (.tail .head) ?_
        refine nl ?_
        refine sq ?_
        refine sr ?_
        refine mv rfl rfl ?_
        refine nl ?_
        refine cdT rfl (by omega) ?_
        refine rg ?_
        refine mv rfl rfl ?_
        refine cl rfl rfl rfl (d_tags hRx3) rfl (fun v_ H1 L1 le_16 hR_ => ?_)
        obtain ⟨N182, rfl, hR182, mt, rfl, hft⟩ := hR_
        have hu2 : u = rTags x3.2 := hu
        rw [← hu2] at hR182 hft
        refine nc rfl rfl ?_
        refine fa0 F126_5 rfl rfl ?_
        refine sa Tryz.sizeOf86 rfl rfl rfl rfl rfl (.tail .head) ?_
        refine nl ?_
        refine sr ?_
        refine cl rfl rfl rfl (r_complete hR182 (he.mono (le_4.trans (le_5.trans (le_6.trans (hlf3.trans le_16)))))) rfl (fun v_ H1 L1 hle_ hR_ => ?_)
        obtain ⟨rfl, rfl, rfl⟩ := hR_
        refine asg rfl rfl ?_
        refine nl ?_
        refine drW .head ?_
        have hA_ := (show At_DescribeUserSCRAMCredentialsResponse v _ (decP fs_DescribeUserSCRAMCredentialsResponse v true _).1 [.int .i16 v, .int .i32 (IntKind.i32.wrap x0.1.n), .int .i16 (IntKind.i16.wrap x1.1.n), .pointer p2, .slice a3 (lT x3.1).length c3, .map mt] from (by rw [hD]; exact ⟨p2, a3, c3, mt, rfl, (hf2.mono (le_5.trans (le_6.trans (hlf3.trans le_16)))), (hf3.mono At_DescribeUserSCRAMCredentialsResponseResult.mono le_16), hft⟩))
        refine rT rfl rfl (le_4.trans (le_5.trans (le_6.trans (hlf3.trans le_16)))) (fun _ _ h => h) ⟨_, rfl, ?_⟩
        have hz := RdEnd.of (e := e) hA_
        rw [show (decP fs_DescribeUserSCRAMCredentialsResponse v true _).2.bad = u.2.bad by rw [hD]] at hz
        exact hz
end Go.Sx

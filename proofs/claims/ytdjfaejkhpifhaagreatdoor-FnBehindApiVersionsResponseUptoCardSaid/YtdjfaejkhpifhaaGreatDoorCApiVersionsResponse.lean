import Derived.Test.YtdjfaejkhpifhaaGreatDoorSxTab
import Derived.Test.YtdjfaejkhpifhaaGreatDoorBApiVersionsResponse
import Derived.Test.YtdjfaejkhpifhaaGreatDoorRK2
import Derived.Test.YtdjfaejkhpifhaaGreatDoorTagR
import Derived.Test.YtdjfaejkhpifhaaGreatDoorT1
import Derived.Test.YtdjfaejkhpifhaaGreatDoorTApiVersionsResponse
import Derived.KernelRfl
set_option linter.unusedVariables false
set_option linter.unusedSimpArgs false
set_option maxRecDepth 100000
set_option maxHeartbeats 20000000
namespace Go.Sx
open Go.Proofs
theorem def_ApiVersionsResponseApiKey {H : Fz} {L : Own} {b o : Nat} {pre post : List Value} {c0 c1 c2 c3 : Value} (ho : o = pre.length) :
  Fn Tryz.prog 87 [.pointer (some ⟨b, o, none⟩)] H ([(b, .cells (pre ++ ([c0, c1, c2, c3] : List Value) ++ post).toArray 101 (0, 0))] :: L) (fun _ H' L' => H = H' ∧ L' = [(b, .cells (pre ++ ([c0, c1, c2, c3] : List Value) ++ post).toArray 101 (0, 0))] :: L) := by
 refine Fn.mk Tryz.call87 Tryz.func87 rfl Tryz.ntmps87 rfl ?_
 refine skN ?_
 exact fun _ _ hA hw => rn rfl ler ⟨rfl, rfl⟩ hA hw
theorem def_ApiVersionsResponseSupportedFeature {H : Fz} {L : Own} {b o : Nat} {pre post : List Value} {c0 c1 c2 c3 : Value} (ho : o = pre.length) :
  Fn Tryz.prog 88 [.pointer (some ⟨b, o, none⟩)] H ([(b, .cells (pre ++ ([c0, c1, c2, c3] : List Value) ++ post).toArray 104 (0, 0))] :: L) (fun _ H' L' => H = H' ∧ L' = [(b, .cells (pre ++ ([c0, c1, c2, c3] : List Value) ++ post).toArray 104 (0, 0))] :: L) := by
 refine Fn.mk Tryz.call88 Tryz.func88 rfl Tryz.ntmps88 rfl ?_
 refine skN ?_
 exact fun _ _ hA hw => rn rfl ler ⟨rfl, rfl⟩ hA hw
theorem def_ApiVersionsResponseFinalizedFeature {H : Fz} {L : Own} {b o : Nat} {pre post : List Value} {c0 c1 c2 c3 : Value} (ho : o = pre.length) :
  Fn Tryz.prog 90 [.pointer (some ⟨b, o, none⟩)] H ([(b, .cells (pre ++ ([c0, c1, c2, c3] : List Value) ++ post).toArray 108 (0, 0))] :: L) (fun _ H' L' => H = H' ∧ L' = [(b, .cells (pre ++ ([c0, c1, c2, c3] : List Value) ++ post).toArray 108 (0, 0))] :: L) := by
 refine Fn.mk Tryz.call90 Tryz.func90 rfl Tryz.ntmps90 rfl ?_
 refine skN ?_
 exact fun _ _ hA hw => rn rfl ler ⟨rfl, rfl⟩ hA hw
theorem def0_ApiVersionsResponse {H : Fz} {L : Own} {b : Nat} {c0 c1 c2 c3 c4 c5 c6 c7 c8 : Value} :
  Fn Tryz.prog 55 [.pointer (some ⟨b, 0, none⟩)] H ([(b, .cells [c0, c1, c2, c3, c4, c5, c6, c7, c8].toArray 98 (0, 0))] :: L) (fun _ H' L' => H = H' ∧ L' = [(b, .cells [c0, c1, c2, c3, c4, .int .i64 (-1), c6, c7, c8].toArray 98 (0, 0))] :: L) := by
 refine Fn.mk Tryz.call55 Tryz.func55 rfl Tryz.ntmps55 rfl ?_
 refine rg ?_
 refine mv rfl rfl ?_
 refine nc rfl rfl ?_
 refine fa0 F98_5 rfl rfl ?_
 refine st Tryz.sizeOf2 rfl rfl rfl rfl .head ?_
 refine nN ?_
 exact fun _ _ hA hw => rn rfl ler ⟨rfl, rfl⟩ hA hw
theorem rd_ApiVersionsResponse_f {H : Fz} {L : Own} {b : Nat} {v : Int} {a : Option Addr} {c : Nat} {s : List UInt8} {e : Value} (hB : BytesAt H a c s) (hL_ : s.length ≤ BR) (he : H.at 1 0 [e]) (hv0 : 0 ≤ v) (hv1 : v ≤ 2) :
  Fn Tryz.prog 56 [.pointer (some ⟨b, 0, none⟩), .slice a s.length c, .bool false] H ([(b, .cells [.int .i16 v, .int .i16 0, .slice none 0 0, .int .i32 0, .slice none 0 0, .int .i64 (-1), .slice none 0 0, .bool false, .map none].toArray 98 (0, 0))] :: L) (fun r H' L' => ∃ cs : List Value, L' = [(b, .cells cs.toArray 98 (0, 0))] :: L ∧ RdEnd H' (At_ApiVersionsResponse v) (decP fs_ApiVersionsResponse v false ⟨s, false, !a.isNone⟩) e r cs) := by
 refine Fn.mk Tryz.call56 Tryz.func56 rfl Tryz.ntmps56 rfl ?_
 refine sr ?_
 refine asg rfl rfl ?_
 refine nl ?_
 refine sr ?_
 refine mv rfl rfl ?_
 refine cl rfl rfl rfl def0_ApiVersionsResponse rfl (fun v_ H1 L1 hle_ hR_ => ?_)
 obtain ⟨rfl, rfl⟩ := hR_
 refine nl ?_
 refine sr ?_
 refine mv rfl rfl ?_
 refine bd' S117 rfl rfl rfl ?_
 refine al Tryz.zeroValue117 rfl rfl (fun b_1 => ?_)
 refine sa Tryz.sizeOf117 rfl rfl rfl rfl rfl .head ?_
 have hR0_ : RdAt H 117 b_1 ⟨s, false, !a.isNone⟩ [(b_1, .cells [_, _].toArray 117 (0, 0))] := ⟨a, c, rfl, hB, by simp⟩
 obtain ⟨x0, hx0⟩ : ∃ x, x = stepF (Fd.mk 2 0 (-1) (-1) (-1) 0 0 []) v false ⟨s, false, !a.isNone⟩ := ⟨_, rfl⟩
 obtain ⟨x1, hx1⟩ : ∃ x, x = stepF (Fd.mk 11 0 (-1) (-1) (-1) 0 10 fs_sApiVersionsResponseApiKey) v false x0.2 := ⟨_, rfl⟩
 obtain ⟨x2, hx2⟩ : ∃ x, x = stepF (Fd.mk 3 1 (-1) (-1) (-1) 0 0 []) v false x1.2 := ⟨_, rfl⟩
 obtain ⟨x3, hx3⟩ : ∃ x, x = stepF (Fd.mk 11 0 (-1) (-1) 0 0 10 fs_sApiVersionsResponseSupportedFeature) v false x2.2 := ⟨_, rfl⟩
 obtain ⟨x4, hx4⟩ : ∃ x, x = stepF (Fd.mk 4 0 (-1) (-1) 1 (-1) 0 []) v false x3.2 := ⟨_, rfl⟩
 obtain ⟨x5, hx5⟩ : ∃ x, x = stepF (Fd.mk 11 0 (-1) (-1) 2 0 10 fs_sApiVersionsResponseFinalizedFeature) v false x4.2 := ⟨_, rfl⟩
 obtain ⟨x6, hx6⟩ : ∃ x, x = stepF (Fd.mk 0 0 (-1) (-1) 3 0 0 []) v false x5.2 := ⟨_, rfl⟩
 obtain ⟨u, hu⟩ : ∃ x, x = tailU false x6.2 := ⟨_, rfl⟩
 have hD : decP fs_ApiVersionsResponse v false ⟨s, false, !a.isNone⟩ = (.mk 0 [] false [x0.1, x1.1, x2.1, x3.1, x4.1, x5.1, x6.1] u.1, u.2) := by
  generalize (⟨s, false, !a.isNone⟩ : Rd) = r_ at hx0 ⊢
  rw [decP_eq]; unfold fs_ApiVersionsResponse; simp only [decFs_cons, decFs_nil, ← hx0, ← hx1, ← hx2, ← hx3, ← hx4, ← hx5, ← hx6, ← hu]
 have hL0 : x0.2.s.length ≤ BR := by rw [hx0]; exact Nat.le_trans (stepF_shr _ _ _ _) hL_
 have hL1 : x1.2.s.length ≤ BR := by rw [hx1]; exact Nat.le_trans (stepF_shr _ _ _ _) hL0
 have hL2 : x2.2.s.length ≤ BR := by rw [hx2]; exact Nat.le_trans (stepF_shr _ _ _ _) hL1
 have hL3 : x3.2.s.length ≤ BR := by rw [hx3]; exact Nat.le_trans (stepF_shr _ _ _ _) hL2
 have hL4 : x4.2.s.length ≤ BR := by rw [hx4]; exact Nat.le_trans (stepF_shr _ _ _ _) hL3
 have hL5 : x5.2.s.length ≤ BR := by rw [hx5]; exact Nat.le_trans (stepF_shr _ _ _ _) hL4
 have hL6 : x6.2.s.length ≤ BR := by rw [hx6]; exact Nat.le_trans (stepF_shr _ _ _ _) hL5
 have hE : u.2.bad = true → (decP fs_ApiVersionsResponse v false ⟨s, false, !a.isNone⟩).2.bad = true := fun h => by rw [hD]; exact h
 have hB6 : x6.2.bad = true → (decP fs_ApiVersionsResponse v false ⟨s, false, !a.isNone⟩).2.bad = true := fun h => hE (by rw [hu]; exact tailU_bad h)
 have hB5 : x5.2.bad = true → (decP fs_ApiVersionsResponse v false ⟨s, false, !a.isNone⟩).2.bad = true := fun h => hB6 (by rw [hx6]; exact step_bad h)
 have hB4 : x4.2.bad = true → (decP fs_ApiVersionsResponse v false ⟨s, false, !a.isNone⟩).2.bad = true := fun h => hB5 (by rw [hx5]; exact step_bad h)
 have hB3 : x3.2.bad = true → (decP fs_ApiVersionsResponse v false ⟨s, false, !a.isNone⟩).2.bad = true := fun h => hB4 (by rw [hx4]; exact step_bad h)
 have hB2 : x2.2.bad = true → (decP fs_ApiVersionsResponse v false ⟨s, false, !a.isNone⟩).2.bad = true := fun h => hB3 (by rw [hx3]; exact step_bad h)
 have hB1 : x1.2.bad = true → (decP fs_ApiVersionsResponse v false ⟨s, false, !a.isNone⟩).2.bad = true := fun h => hB2 (by rw [hx2]; exact step_bad h)
 have hB0 : x0.2.bad = true → (decP fs_ApiVersionsResponse v false ⟨s, false, !a.isNone⟩).2.bad = true := fun h => hB1 (by rw [hx1]; exact step_bad h)
 refine nl ?_
 refine sr ?_
 refine mv rfl rfl ?_
 refine nc rfl rfl ?_
 refine fa0 F98_0 rfl rfl ?_
 refine ld (Says.own (.tail .head)) Tryz.isAgg40 rfl (Nat.zero_add _).symm rfl rfl ?_
 refine asg rfl rfl ?_
 refine nl ?_
 refine sr ?_
 refine mv rfl rfl ?_
 refine nl ?_
 refine sr ?_
 refine mv rfl rfl ?_
 refine ge rfl rfl rfl ?_
 refine asg rfl rfl ?_
 refine nl ?_
 refine sr ?_
 refine mv rfl rfl ?_
 refine nl ?_
 refine sr ?_
 refine mv rfl rfl ?_
 refine asg rfl rfl ?_
 refine nl ?_
 refine sq ?_
 refine sr ?_
 have ex0 : x0 = decV 2 (decP [] v false) false false ⟨s, false, !a.isNone⟩ := (hx0.trans (step_yes (by decide) (show (0 : Int) ≤ v by omega) (Or.inl (by decide)))).trans (decF'_val (by decide) (rfl))
 refine cl rfl rfl rfl (d2 hR0_ ex0) rfl (fun v_ H1 L1 hle_ hR_ => ?_)
 obtain ⟨N65, rfl, hR65, rfl, rfl⟩ := hR_
 refine asg rfl rfl ?_
 refine nl ?_
 refine rg ?_
 refine mv rfl rfl ?_
 refine mv rfl rfl ?_
 refine nc rfl rfl ?_
 refine fa0 F98_1 rfl rfl ?_
 refine st Tryz.sizeOf40 rfl rfl rfl rfl (.tail .head) ?_
 refine nl ?_
 refine sq ?_
 refine sr ?_
 refine mv rfl rfl ?_
 refine nc rfl rfl ?_
 refine fa0 F98_2 rfl rfl ?_
 refine ld (Says.own (.tail .head)) Tryz.isAgg94 rfl (Nat.zero_add _).symm rfl rfl ?_
 refine asg rfl rfl ?_
 refine nl ?_
 refine sr ?_
 refine mv rfl rfl ?_
 refine asg rfl rfl ?_
 refine nl ?_
 refine sr ?_
 refine asg rfl rfl ?_
 refine nl ?_
 refine sq ?_
 refine sr ?_
 refine mv rfl rfl ?_
 refine nl ?_
 refine cdF rfl (by omega) ?_
 refine rg ?_
 have ey1 : x1 = (.mk 0 [] (if 0 ≤ ((-1) : Int) ∧ (v < ((-1) : Int) ∨ (rArr false x0.2).1 = 0) then false else decide ((rArr false x0.2).1 ≤ 0)) (rMany (decV 10 (decP fs_sApiVersionsResponseApiKey v false) false false) (rArr false x0.2).1.toNat (rArr false x0.2).2).1 [], (rMany (decV 10 (decP fs_sApiVersionsResponseApiKey v false) false false) (rArr false x0.2).1.toNat (rArr false x0.2).2).2) := (hx1.trans (step_yes (by decide) (show (0 : Int) ≤ v by omega) (Or.inl (by decide)))).trans (decF'_list rfl rfl)
 have hn1 : (rArr false x0.2).1.toNat = (lT x1.1).length := by rw [ey1]; exact (lT_many nul_le).symm
 have ex1 := ey1
 rw [hn1] at ex1
 have hl1 := rArr_le false x0.2
 have hm1 : (rArr false x0.2).2.s.length ≤ BR := Nat.le_trans (rArr_len false x0.2) hL0
 have hnb1 : (lT x1.1).length ≤ BR := by omega
 refine cl rfl rfl rfl (r_arrf hR65) rfl (fun v_ H1 L1 hle_ hR_ => ?_)
 obtain ⟨rfl, N77, rfl, hR77, rfl⟩ := hR_
 have hh1 := rArr_hi false x0.2
 refine asg rfl rfl ?_
 refine nl ?_
 refine sq ?_
 refine sr ?_
 refine cl rfl rfl rfl (r_ok hR77) rfl (fun v_ H1 L1 hle_ hR_ => ?_)
 obtain ⟨rfl, rfl, rfl⟩ := hR_
 refine nt rfl rfl ?_
 refine nl ?_
 refine cb rfl (fun h79 => ?_) (fun h79 => ?_)
 ·
  have hbad_ : (rArr false x0.2).2.bad = true := by simpa using h79
  refine sr ?_
  refine cl rfl rfl rfl (r_complete hR77 he) rfl (fun v_ H1 L1 hle_ hR_ => ?_)
  obtain ⟨rfl, rfl, rfl⟩ := hR_
  refine asg rfl rfl ?_
  refine nl ?_
  refine drW .head ?_
  exact rT rfl rfl ler (fun _ _ h => h) ⟨_, rfl, RdEnd.out (hB1 (by rw [ey1]; exact rMany_bad (fun r h => decV_bad (decP_bad _ _ _) h) _ _ hbad_)) hbad_⟩
 ·
  refine skt ?_
  refine sr ?_
  refine mv rfl rfl ?_
  refine sh' (j := 0) Tryz.runUnderlying94 Tryz.sizeOf101 rfl rfl rfl (Nat.zero_le _) rfl ?_
  refine asg rfl rfl ?_
  refine nl ?_
  refine sq ?_
  refine sr ?_
  refine mv rfl rfl ?_
  refine gt rfl rfl rfl ?_
  refine nl ?_
  refine nulC2 ?_
  refine cutT (fun l' H' L' => ∃ (a1 : Option Addr), ∃ (c1 : Nat), ∃ (Nr1 : Chunk), [(2, .bool false), (7, .pointer (some ⟨b_1, 0, none⟩)), (8, .int .i16 v), (9, .bool (decide ((3 : Int) ≤ v))), (10, .pointer (some ⟨b, 0, none⟩)), (12, .slice none 0 0), (13, .slice a1 (lT x1.1).length c1), (14, .int .i32 (rArr false x0.2).1)] = l' ∧ Nr1 :: N77 :: [(b, .cells [.int .i16 v, .int .i16 (IntKind.i16.wrap x0.1.n), .slice none 0 0, .int .i32 0, .slice none 0 0, .int .i64 (-1), .slice none 0 0, .bool false, .map none].toArray 98 (0, 0))] :: L = L' ∧ Row 101 4 a1 (lT x1.1).length c1 (reps [.int .i16 0, .int .i16 0, .int .i16 0, .map none] (lT x1.1).length) Nr1 ∧ a1.isNone = (if 0 ≤ ((-1) : Int) ∧ (v < ((-1) : Int) ∨ (rArr false x0.2).1 = 0) then false else decide ((rArr false x0.2).1 ≤ 0))) ?_ (fun l' H' L' le_3 hI => ?_)
  ·
   refine cd rfl (fun h84 => ?_) (fun h84 => ?_)
   ·
    refine rg ?_
    refine mv rfl rfl ?_
    refine mv rfl rfl ?_
    refine apz (zs := [.int .i16 0, .int .i16 0, .int .i16 0, .map none]) (m := (lT x1.1).length) Tryz.underlying94 Tryz.underlying21 I101 rfl rfl rfl (by omega) (by omega) (by have h9 := hnb1; unfold BR at h9; omega) (by have h9 := hnb1; unfold BR at h9; unfold maxLen; omega) rfl (fun g87 cp87 N87 r87 => ?_)
    refine asg rfl rfl ?_
    refine nN ?_
    refine drN (.tail .head) ?_
    refine fun a_ w_ hA hw => ⟨_, _, _, hA.sub ?_, ler, hw, (some ⟨g87, 0, none⟩), cp87, N87, rfl, rfl, r87, (by rw [if_neg (by omega)]; exact (decide_eq_false (by omega)).symm)⟩
    exact (.cons rfl (.cons rfl (.cons rfl (.cons rfl (.cons rfl (.cons rfl (.cons rfl (.cons rfl (.nil _)))))))))
   ·
    refine skN ?_
    refine fun a_ w_ hA hw => ⟨_, _, _, hA.sub ?_, ler, hw, none, 0, [], rfl, rfl, (by rw [show (lT x1.1).length = 0 by omega]; exact (Row.nil _ _)), (by rw [if_neg (by omega)]; exact (decide_eq_true (by omega)).symm)⟩
    exact (.cons rfl (.cons rfl (.cons rfl (.cons rfl (.cons rfl (.cons rfl (.cons (by rw [show (lT x1.1).length = 0 by omega]; rfl) (.cons rfl (.nil _)))))))))
  ·
   obtain ⟨a1, c1, Nr1, rfl, rfl, pj0, pj1⟩ := hI
   have hr1 := pj0
   have hi1 := pj1
   refine sq ?_
   refine sr ?_
   refine asg rfl rfl ?_
   refine nl ?_
   refine bl (lp ((lT x1.1).length) (fun k1 l' H' L' => ∃ (es1 : List (KE 4)) (M1 RN1 : Chunk), [(2, .bool false), (7, .pointer (some ⟨b_1, 0, none⟩)), (8, .int .i16 v), (9, .bool (decide ((3 : Int) ≤ v))), (10, .pointer (some ⟨b, 0, none⟩)), (12, .slice none 0 0), (13, .slice a1 (lT x1.1).length c1), (14, .int .i32 (rArr false x0.2).1), (15, .int .i32 (k1 : Int))] = l' ∧ M1 :: RN1 :: [(b, .cells [.int .i16 v, .int .i16 (IntKind.i16.wrap x0.1.n), .slice none 0 0, .int .i32 0, .slice none 0 0, .int .i64 (-1), .slice none 0 0, .bool false, .map none].toArray 98 (0, 0))] :: L = L' ∧ RdAt H' 117 b_1 (rMany (decV 10 (decP fs_sApiVersionsResponseApiKey v false) false false) k1 (rArr false x0.2).2).2 RN1 ∧ Row 101 4 a1 (lT x1.1).length c1 (es1.flatMap fk ++ reps [.int .i16 0, .int .i16 0, .int .i16 0, .map none] ((lT x1.1).length - k1)) M1 ∧ es1.map (·.2) = (rMany (decV 10 (decP fs_sApiVersionsResponseApiKey v false) false false) k1 (rArr false x0.2).2).1 ∧ ∀ p ∈ es1, At_ApiVersionsResponseApiKey H' p.2 (fk p)) [(2, .bool false), (7, .pointer (some ⟨b_1, 0, none⟩)), (8, .int .i16 v), (9, .bool (decide ((3 : Int) ≤ v))), (10, .pointer (some ⟨b, 0, none⟩)), (12, .slice none 0 0), (13, .slice a1 (lT x1.1).length c1), (14, .int .i32 (rArr false x0.2).1), (15, .int .i32 (0 : Int))] (.of ⟨rfl, rfl, rfl, rfl, rfl, rfl, rfl, rfl, rfl, trivial⟩) ⟨[], Nr1, _, rfl, rfl, (hR77.mono le_3), hr1, rfl, (fun p hp => by cases hp)⟩ (fun k1 l' H' L' hk1 le_4 hI => ?_))
   obtain ⟨es1, M1, RN1, rfl, rfl, hR_1, hw_1, he_1, hg_1⟩ := hI
   have hs_1 := els_len he_1
   have hp_1 : (es1.flatMap fk).length = k1 * 4 := els_flat hs_1
   refine sq ?_
   refine sr ?_
   refine mv rfl rfl ?_
   refine mv rfl rfl ?_
   refine lt rfl rfl rfl ?_
   refine nl ?_
   refine cd rfl (fun h90 => ?_) (fun h90 => ?_)
   ·
    have hkl1 : k1 < (lT x1.1).length := by omega
    obtain ⟨g1, po1, hga1, rfl, hbk1⟩ := hw_1.next (zs := [.int .i16 0, .int .i16 0, .int .i16 0, .map none]) hkl1 rfl (by decide)
    have ho1 : 0 + k1 * 4 = (es1.flatMap fk).length := by rw [hp_1]; omega
    have hbz1 : ((decV 10 (decP fs_sApiVersionsResponseApiKey v false) false false) (rMany (decV 10 (decP fs_sApiVersionsResponseApiKey v false) false false) k1 (rArr false x0.2).2).2).2.bad = true → (decP fs_ApiVersionsResponse v false ⟨s, false, !a.isNone⟩).2.bad = true := fun h => hB1 (by rw [ex1]; exact rMany_mono (fun r h => decV_bad (fun r h => decP_bad _ _ _ r h) h) _ (show k1 + 1 ≤ (lT x1.1).length from hkl1) (by rw [rMany_succ]; exact h))
    have hLk1 : (rMany (decV 10 (decP fs_sApiVersionsResponseApiKey v false) false false) k1 (rArr false x0.2).2).2.s.length ≤ BR := Nat.le_trans (rMany_shr (fun r => decV_shr (fun r => decP_shr _ _ _ r) r) _ _) hm1
    have hL1__ := hLk1
    obtain ⟨x1_0, hx1_0⟩ : ∃ x, x = stepF (Fd.mk 2 0 (-1) (-1) (-1) 0 0 []) v false (rMany (decV 10 (decP fs_sApiVersionsResponseApiKey v false) false false) k1 (rArr false x0.2).2).2 := ⟨_, rfl⟩
    obtain ⟨x1_1, hx1_1⟩ : ∃ x, x = stepF (Fd.mk 2 0 (-1) (-1) (-1) 0 0 []) v false x1_0.2 := ⟨_, rfl⟩
    obtain ⟨x1_2, hx1_2⟩ : ∃ x, x = stepF (Fd.mk 2 0 (-1) (-1) (-1) 0 0 []) v false x1_1.2 := ⟨_, rfl⟩
    obtain ⟨u1_, hu1_⟩ : ∃ x, x = tailU false x1_2.2 := ⟨_, rfl⟩
    have hD1_ : decP fs_sApiVersionsResponseApiKey v false (rMany (decV 10 (decP fs_sApiVersionsResponseApiKey v false) false false) k1 (rArr false x0.2).2).2 = (.mk 0 [] false [x1_0.1, x1_1.1, x1_2.1] u1_.1, u1_.2) := by
     generalize ((rMany (decV 10 (decP fs_sApiVersionsResponseApiKey v false) false false) k1 (rArr false x0.2).2).2 : Rd) = r_ at hx1_0 ⊢
     rw [decP_eq]; unfold fs_sApiVersionsResponseApiKey; simp only [decFs_cons, decFs_nil, ← hx1_0, ← hx1_1, ← hx1_2, ← hu1_]
    have hL1_0 : x1_0.2.s.length ≤ BR := by rw [hx1_0]; exact Nat.le_trans (stepF_shr _ _ _ _) hL1__
    have hL1_1 : x1_1.2.s.length ≤ BR := by rw [hx1_1]; exact Nat.le_trans (stepF_shr _ _ _ _) hL1_0
    have hL1_2 : x1_2.2.s.length ≤ BR := by rw [hx1_2]; exact Nat.le_trans (stepF_shr _ _ _ _) hL1_1
    have hE1_ : u1_.2.bad = true → (decP fs_ApiVersionsResponse v false ⟨s, false, !a.isNone⟩).2.bad = true := fun h => hbz1 (by show (decP fs_sApiVersionsResponseApiKey v false (rMany (decV 10 (decP fs_sApiVersionsResponseApiKey v false) false false) k1 (rArr false x0.2).2).2).2.bad = true; rw [hD1_]; exact h)
    have hB1_2 : x1_2.2.bad = true → (decP fs_ApiVersionsResponse v false ⟨s, false, !a.isNone⟩).2.bad = true := fun h => hE1_ (by rw [hu1_]; exact tailU_bad h)
    have hB1_1 : x1_1.2.bad = true → (decP fs_ApiVersionsResponse v false ⟨s, false, !a.isNone⟩).2.bad = true := fun h => hB1_2 (by rw [hx1_2]; exact step_bad h)
    have hB1_0 : x1_0.2.bad = true → (decP fs_ApiVersionsResponse v false ⟨s, false, !a.isNone⟩).2.bad = true := fun h => hB1_1 (by rw [hx1_1]; exact step_bad h)
    refine skt ?_
    refine sq ?_
    refine bl ?_
    refine sr ?_
    refine mv rfl rfl ?_
    refine mv rfl rfl ?_
    refine ixk (j := k1) Tryz.runUnderlying94 Tryz.sizeOf101 rfl hga1 rfl rfl hkl1 rfl ?_
    refine asg rfl rfl ?_
    refine nl ?_
    refine sr ?_
    refine mv rfl rfl ?_
    refine cl rfl rfl rfl (def_ApiVersionsResponseApiKey ho1) rfl (fun v_ H1 L1 hle_ hR_ => ?_)
    obtain ⟨rfl, rfl⟩ := hR_
    refine nl ?_
    refine sr ?_
    refine mv rfl rfl ?_
    refine asg rfl rfl ?_
    refine nl ?_
    refine sq ?_
    refine sr ?_
    refine tf (.tail .head) ?_
    have ex1_0 : x1_0 = decV 2 (decP [] v false) false false (rMany (decV 10 (decP fs_sApiVersionsResponseApiKey v false) false false) k1 (rArr false x0.2).2).2 := (hx1_0.trans (step_yes (by decide) (show (0 : Int) ≤ v by omega) (Or.inl (by decide)))).trans (decF'_val (by decide) (rfl))
    refine cl rfl rfl rfl (d2 hR_1 ex1_0) rfl (fun v_ H1 L1 hle_ hR_ => ?_)
    obtain ⟨N99, rfl, hR99, rfl, rfl⟩ := hR_
    refine asg rfl rfl ?_
    refine nl ?_
    refine rg ?_
    refine mv rfl rfl ?_
    refine mv rfl rfl ?_
    refine nc rfl rfl ?_
    refine fa F101_0 rfl rfl ?_
    refine stM (off := 0) Tryz.sizeOf40 rfl (by rw [ho1]) rfl rfl rfl (.tail .head) ?_
    refine nl ?_
    refine sq ?_
    refine sr ?_
    have ex1_1 : x1_1 = decV 2 (decP [] v false) false false x1_0.2 := (hx1_1.trans (step_yes (by decide) (show (0 : Int) ≤ v by omega) (Or.inl (by decide)))).trans (decF'_val (by decide) (rfl))
    refine cl rfl rfl rfl (d2 hR99 ex1_1) rfl (fun v_ H1 L1 hle_ hR_ => ?_)
    obtain ⟨N104, rfl, hR104, rfl, rfl⟩ := hR_
    refine asg rfl rfl ?_
    refine nl ?_
    refine rg ?_
    refine mv rfl rfl ?_
    refine mv rfl rfl ?_
    refine nc rfl rfl ?_
    refine fa F101_1 rfl rfl ?_
    refine stM (off := 1) Tryz.sizeOf40 rfl (by rw [ho1]) rfl rfl rfl (.tail .head) ?_
    refine nl ?_
    refine sq ?_
    refine sr ?_
    have ex1_2 : x1_2 = decV 2 (decP [] v false) false false x1_1.2 := (hx1_2.trans (step_yes (by decide) (show (0 : Int) ≤ v by omega) (Or.inl (by decide)))).trans (decF'_val (by decide) (rfl))
    refine cl rfl rfl rfl (d2 hR104 ex1_2) rfl (fun v_ H1 L1 hle_ hR_ => ?_)
    obtain ⟨N109, rfl, hR109, rfl, rfl⟩ := hR_
    refine asg rfl rfl ?_
    refine nl ?_
    refine rg ?_
    refine mv rfl rfl ?_
    refine mv rfl rfl ?_
    refine nc rfl rfl ?_
    refine fa F101_2 rfl rfl ?_
    refine stM (off := 2) Tryz.sizeOf40 rfl (by rw [ho1]) rfl rfl rfl (.tail .head) ?_
    refine nl ?_
    refine sr ?_
    refine mv rfl rfl ?_
    refine nl ?_
    refine cdF rfl (by omega) ?_
    refine skN ?_
    refine Nb ?_
    refine Nt ?_
    refine rg ?_
    refine mv rfl rfl ?_
    refine ad rfl rfl (c := ((k1 + 1 : Nat) : Int)) ((wrap32_le (by omega) (by omega)).trans (by omega)) rfl ?_
    refine asg rfl rfl ?_
    refine nN ?_
    obtain rfl : u1_ = ([], x1_2.2) := hu1_
    have hfs1 := flatMap_snoc' fk es1 ((⟨([.int .i16 (IntKind.i16.wrap x1_0.1.n), .int .i16 (IntKind.i16.wrap x1_1.1.n), .int .i16 (IntKind.i16.wrap x1_2.1.n), .map none] : List Value), rfl, all_one rfl⟩, ((decV 10 (decP fs_sApiVersionsResponseApiKey v false) false false) (rMany (decV 10 (decP fs_sApiVersionsResponseApiKey v false) false false) k1 (rArr false x0.2).2).2).1) : KE 4)
    have hrw1 := hbk1 ([.int .i16 (IntKind.i16.wrap x1_0.1.n), .int .i16 (IntKind.i16.wrap x1_1.1.n), .int .i16 (IntKind.i16.wrap x1_2.1.n), .map none] : List Value) rfl
    refine tfN (.tail .head) ?_
    refine fun a_ w_ hA hw => ⟨hkl1, _, _, _, hA.sub ?_, le_4, hw, _, _, _, rfl, rfl, (by rw [rMany_succ]; show RdAt _ 117 b_1 (decP fs_sApiVersionsResponseApiKey v false (rMany (decV 10 (decP fs_sApiVersionsResponseApiKey v false) false false) k1 (rArr false x0.2).2).2).2 _; rw [hD1_]; exact hR109), (by rw [← hfs1]; exact hrw1), (dec_els he_1), (fun p hp => (mem_snoc hp).elim (fun h => At_ApiVersionsResponseApiKey.mono _ _ _ _ ler (hg_1 p h)) (fun h => h ▸ (by show At_ApiVersionsResponseApiKey _ (decP fs_sApiVersionsResponseApiKey v false (rMany (decV 10 (decP fs_sApiVersionsResponseApiKey v false) false false) k1 (rArr false x0.2).2).2).1 [.int .i16 (IntKind.i16.wrap x1_0.1.n), .int .i16 (IntKind.i16.wrap x1_1.1.n), .int .i16 (IntKind.i16.wrap x1_2.1.n), .map none]; rw [hD1_]; exact ⟨none, rfl, (KvAt.nil _)⟩)))⟩
    exact (.of ⟨rfl, rfl, rfl, rfl, rfl, rfl, rfl, rfl, rfl, trivial⟩)
   ·
    have hkn_ : k1 = (lT x1.1).length := by omega
    subst hkn_
    have hw2_1 : Row 101 4 a1 (lT x1.1).length c1 (es1.flatMap fk) M1 := by have h := hw_1; rw [Nat.sub_self] at h; simpa [reps] using h
    refine frW hw2_1 .head (fun Hf1 hlf1 hfz1 => ?_)
    have hrs1 := RowsAt.row (R := At_ApiVersionsResponseApiKey) hfz1 hs_1.symm hw2_1.le.1 (fun p hp => At_ApiVersionsResponseApiKey.mono _ _ _ _ hlf1 (hg_1 p hp))
    rw [he_1] at hrs1
    have hf1 : ListAt Hf1 x1.1 4 At_ApiVersionsResponseApiKey a1 c1 := by rw [ex1]; exact listAt_of hrs1 hi1 (fun h => by have h1 := nul_le h; rw [show (lT x1.1).length = 0 by omega]; rfl)
    have hRx1 : RdAt Hf1 117 b_1 x1.2 RN1 := by rw [ex1]; exact (hR_1.mono hlf1)
    refine exX ?_
    refine XT ?_
    refine XT ?_
    refine Xb ?_
    refine Nt ?_
    refine sr ?_
    refine mv rfl rfl ?_
    refine asg rfl rfl ?_
    refine nl ?_
    refine rg ?_
    refine mv rfl rfl ?_
    refine mv rfl rfl ?_
    refine nc rfl rfl ?_
    refine fa0 F98_2 rfl rfl ?_
    refine st Tryz.sizeOf94 rfl rfl rfl rfl (.tail .head) ?_
    refine nl ?_
    refine sq ?_
    refine sr ?_
    refine mv rfl rfl ?_
    refine ge rfl rfl rfl ?_
    refine nl ?_
    refine cutT (fun l' H' L' => ∃ (Nj2 : Chunk), [(2, .bool false), (7, .pointer (some ⟨b_1, 0, none⟩)), (9, .bool (decide ((3 : Int) ≤ v))), (10, .pointer (some ⟨b, 0, none⟩))] = l' ∧ Nj2 :: [(b, .cells [.int .i16 v, .int .i16 (IntKind.i16.wrap x0.1.n), .slice a1 (lT x1.1).length c1, .int .i32 (IntKind.i32.wrap x2.1.n), .slice none 0 0, .int .i64 (-1), .slice none 0 0, .bool false, .map none].toArray 98 (0, 0))] :: L = L' ∧ RdAt H' 117 b_1 x2.2 Nj2) ?_ (fun l' H' L' le_8 hI => ?_)
    ·
     refine cd rfl (fun h125 => ?_) (fun h125 => ?_)
     ·
      refine sr ?_
      have ex2 : x2 = decV 3 (decP [] v false) false false x1.2 := (hx2.trans (step_yes (by decide) (show (1 : Int) ≤ v by omega) (Or.inl (by decide)))).trans (decF'_val (by decide) (rfl))
      refine cl rfl rfl rfl (d3 hRx1 ex2) rfl (fun v_ H1 L1 hle_ hR_ => ?_)
      obtain ⟨N126, rfl, hR126, rfl, rfl⟩ := hR_
      refine asg rfl rfl ?_
      refine nl ?_
      refine rg ?_
      refine mv rfl rfl ?_
      refine mv rfl rfl ?_
      refine nc rfl rfl ?_
      refine fa0 F98_3 rfl rfl ?_
      refine st Tryz.sizeOf21 rfl rfl rfl rfl (.tail .head) ?_
      refine nN ?_
      refine fun a_ w_ hA hw => ⟨_, _, _, hA.sub ?_, ler, hw, N126, rfl, rfl, hR126⟩
      exact (.cons rfl (.cons rfl (.cons rfl (.cons rfl (.nil _)))))
     ·
      refine skN ?_
      obtain rfl : x2 = ((Tr.mk 0 [] false [] []), x1.2) := (hx2.trans (step_no (Or.inl (show v < (1 : Int) by omega)))).trans (by rw [dflF_eq]; rfl)
      refine fun a_ w_ hA hw => ⟨_, _, _, hA.sub ?_, ler, hw, RN1, rfl, rfl, hRx1⟩
      exact (.cons rfl (.cons rfl (.cons rfl (.cons rfl (.nil _)))))
    ·
     obtain ⟨Nj2, rfl, rfl, pj0⟩ := hI
     have hRj2 := pj0
     refine sq ?_
     refine sr ?_
     refine mv rfl rfl ?_
     refine nl ?_
     refine cdF rfl (by omega) ?_
     refine skt ?_
     refine sr ?_
     refine cl rfl rfl rfl (r_complete hRj2 (he.mono (le_3.trans (le_4.trans (hlf1.trans le_8))))) rfl (fun v_ H1 L1 hle_ hR_ => ?_)
     obtain ⟨rfl, rfl, rfl⟩ := hR_
     refine asg rfl rfl ?_
     refine nl ?_
     refine drW .head ?_
     obtain rfl : x3 = ((Tr.mk 0 [] true [] []), x2.2) := (hx3.trans (step_tag (by decide))).trans (by rw [dflF_eq]; rfl)
     obtain rfl : x4 = ((Tr.mk (-1) [] false [] []), x2.2) := (hx4.trans (step_tag (by decide))).trans (by rw [dflF_eq]; rfl)
     obtain rfl : x5 = ((Tr.mk 0 [] true [] []), x2.2) := (hx5.trans (step_tag (by decide))).trans (by rw [dflF_eq]; rfl)
     obtain rfl : x6 = ((Tr.mk 0 [] false [] []), x2.2) := (hx6.trans (step_tag (by decide))).trans (by rw [dflF_eq]; rfl)
     obtain rfl : u = ([], x2.2) := hu
     have hA_ := (show At_ApiVersionsResponse v _ (decP fs_ApiVersionsResponse v false _).1 [.int .i16 v, .int .i16 (IntKind.i16.wrap x0.1.n), .slice a1 (lT x1.1).length c1, .int .i32 (IntKind.i32.wrap x2.1.n), .slice none 0 0, .int .i64 (-1), .slice none 0 0, .bool false, .map none] from (by rw [hD]; exact ⟨a1, c1, none, 0, none, 0, none, rfl, (hf1.mono At_ApiVersionsResponseApiKey.mono le_8), (ListAt.none rfl), (ListAt.none rfl), (KvAt.nil _)⟩))
     refine rT rfl rfl (le_3.trans (le_4.trans (hlf1.trans le_8))) (fun _ _ h => h) ⟨_, rfl, ?_⟩
     have hz := RdEnd.of (e := e) hA_
     rw [show (decP fs_ApiVersionsResponse v false _).2.bad = x2.2.bad by rw [hD]] at hz
     exact hz
theorem rd_ApiVersionsResponse_t {H : Fz} {L : Own} {b : Nat} {v : Int} {a : Option Addr} {c et : Nat} {s : List UInt8} {ev : Value} (hB : BytesAt H a c s) (hL_ : s.length ≤ BR) (he : H.at 1 0 [.iface et ev]) (hFr : FreshR fs_ApiVersionsResponse v ⟨s, false, !a.isNone⟩) (hv0 : 3 ≤ v) (hv1 : v ≤ 5) :
  Fn Tryz.prog 56 [.pointer (some ⟨b, 0, none⟩), .slice a s.length c, .bool false] H ([(b, .cells [.int .i16 v, .int .i16 0, .slice none 0 0, .int .i32 0, .slice none 0 0, .int .i64 (-1), .slice none 0 0, .bool false, .map none].toArray 98 (0, 0))] :: L) (fun r H' L' => ∃ cs : List Value, L' = [(b, .cells cs.toArray 98 (0, 0))] :: L ∧ RdEnd H' (At_ApiVersionsResponse v) (decM fs_ApiVersionsResponse v true ⟨s, false, !a.isNone⟩) (.iface et ev) r cs) := by
 refine Fn.mk Tryz.call56 Tryz.func56 rfl Tryz.ntmps56 rfl ?_
 refine sr ?_
 refine asg rfl rfl ?_
 refine nl ?_
 refine sr ?_
 refine mv rfl rfl ?_
 refine cl rfl rfl rfl def0_ApiVersionsResponse rfl (fun v_ H1 L1 hle_ hR_ => ?_)
 obtain ⟨rfl, rfl⟩ := hR_
 refine nl ?_
 refine sr ?_
 refine mv rfl rfl ?_
 refine bd' S117 rfl rfl rfl ?_
 refine al Tryz.zeroValue117 rfl rfl (fun b_1 => ?_)
 refine sa Tryz.sizeOf117 rfl rfl rfl rfl rfl .head ?_
 have hR0_ : RdAt H 117 b_1 ⟨s, false, !a.isNone⟩ [(b_1, .cells [_, _].toArray 117 (0, 0))] := ⟨a, c, rfl, hB, by simp⟩
 obtain ⟨x0, hx0⟩ : ∃ x, x = stepF (Fd.mk 2 0 (-1) (-1) (-1) 0 0 []) v true ⟨s, false, !a.isNone⟩ := ⟨_, rfl⟩
 obtain ⟨x1, hx1⟩ : ∃ x, x = stepF (Fd.mk 11 0 (-1) (-1) (-1) 0 10 fs_sApiVersionsResponseApiKey) v true x0.2 := ⟨_, rfl⟩
 obtain ⟨x2, hx2⟩ : ∃ x, x = stepF (Fd.mk 3 1 (-1) (-1) (-1) 0 0 []) v true x1.2 := ⟨_, rfl⟩
 obtain ⟨x3, hx3⟩ : ∃ x, x = stepF (Fd.mk 11 0 (-1) (-1) 0 0 10 fs_sApiVersionsResponseSupportedFeature) v true x2.2 := ⟨_, rfl⟩
 obtain ⟨x4, hx4⟩ : ∃ x, x = stepF (Fd.mk 4 0 (-1) (-1) 1 (-1) 0 []) v true x3.2 := ⟨_, rfl⟩
 obtain ⟨x5, hx5⟩ : ∃ x, x = stepF (Fd.mk 11 0 (-1) (-1) 2 0 10 fs_sApiVersionsResponseFinalizedFeature) v true x4.2 := ⟨_, rfl⟩
 obtain ⟨x6, hx6⟩ : ∃ x, x = stepF (Fd.mk 0 0 (-1) (-1) 3 0 0 []) v true x5.2 := ⟨_, rfl⟩
 obtain ⟨K0, hK0⟩ : ∃ z : KS, z = ⟨[x0.1, x1.1, x2.1, x3.1, x4.1, x5.1, x6.1], [], (rU x6.2).2⟩ := ⟨_, rfl⟩
 obtain ⟨sK, hsK⟩ : ∃ z : KS, z = kSteps fs_ApiVersionsResponse v (rU x6.2).1 K0 := ⟨_, rfl⟩
 have hF : decFs fs_ApiVersionsResponse v true ⟨s, false, !a.isNone⟩ = ([x0.1, x1.1, x2.1, x3.1, x4.1, x5.1, x6.1], x6.2) := by
  generalize (⟨s, false, !a.isNone⟩ : Rd) = r_ at hx0 ⊢
  unfold fs_ApiVersionsResponse; simp only [decFs_cons, decFs_nil, ← hx0, ← hx1, ← hx2, ← hx3, ← hx4, ← hx5, ← hx6]
 have hD : decM fs_ApiVersionsResponse v true ⟨s, false, !a.isNone⟩ = (.mk 0 [] false sK.l sK.u, sK.r) := by
  show decPK fs_ApiVersionsResponse v ⟨s, false, !a.isNone⟩ = _
  unfold decPK; rw [hF]; dsimp only; rw [← hK0, ← hsK]
 have hFresh : FreshN fs_ApiVersionsResponse v (rU x6.2).1 K0 := by
  have h := hFr
  unfold FreshR at h; rw [hF] at h; dsimp only at h; rw [← hK0] at h; exact h
 clear hF
 have hL0 : x0.2.s.length ≤ BR := by rw [hx0]; exact Nat.le_trans (stepF_shr _ _ _ _) hL_
 have hL1 : x1.2.s.length ≤ BR := by rw [hx1]; exact Nat.le_trans (stepF_shr _ _ _ _) hL0
 have hL2 : x2.2.s.length ≤ BR := by rw [hx2]; exact Nat.le_trans (stepF_shr _ _ _ _) hL1
 have hL3 : x3.2.s.length ≤ BR := by rw [hx3]; exact Nat.le_trans (stepF_shr _ _ _ _) hL2
 have hL4 : x4.2.s.length ≤ BR := by rw [hx4]; exact Nat.le_trans (stepF_shr _ _ _ _) hL3
 have hL5 : x5.2.s.length ≤ BR := by rw [hx5]; exact Nat.le_trans (stepF_shr _ _ _ _) hL4
 have hL6 : x6.2.s.length ≤ BR := by rw [hx6]; exact Nat.le_trans (stepF_shr _ _ _ _) hL5
 have hLK0 : K0.r.s.length ≤ BR := by rw [hK0]; exact Nat.le_trans (rU_len _) hL6
 have hE : sK.r.bad = true → (decM fs_ApiVersionsResponse v true ⟨s, false, !a.isNone⟩).2.bad = true := fun h => by rw [hD]; exact h
 have hB6 : x6.2.bad = true → (decM fs_ApiVersionsResponse v true ⟨s, false, !a.isNone⟩).2.bad = true := fun h => hE (by rw [hsK]; exact kSteps_bad (by rw [hK0]; exact rU_bad h))
 have hB5 : x5.2.bad = true → (decM fs_ApiVersionsResponse v true ⟨s, false, !a.isNone⟩).2.bad = true := fun h => hB6 (by rw [hx6]; exact step_bad h)
 have hB4 : x4.2.bad = true → (decM fs_ApiVersionsResponse v true ⟨s, false, !a.isNone⟩).2.bad = true := fun h => hB5 (by rw [hx5]; exact step_bad h)
 have hB3 : x3.2.bad = true → (decM fs_ApiVersionsResponse v true ⟨s, false, !a.isNone⟩).2.bad = true := fun h => hB4 (by rw [hx4]; exact step_bad h)
 have hB2 : x2.2.bad = true → (decM fs_ApiVersionsResponse v true ⟨s, false, !a.isNone⟩).2.bad = true := fun h => hB3 (by rw [hx3]; exact step_bad h)
 have hB1 : x1.2.bad = true → (decM fs_ApiVersionsResponse v true ⟨s, false, !a.isNone⟩).2.bad = true := fun h => hB2 (by rw [hx2]; exact step_bad h)
 have hB0 : x0.2.bad = true → (decM fs_ApiVersionsResponse v true ⟨s, false, !a.isNone⟩).2.bad = true := fun h => hB1 (by rw [hx1]; exact step_bad h)
 refine nl ?_
 refine sr ?_
 refine mv rfl rfl ?_
 refine nc rfl rfl ?_
 refine fa0 F98_0 rfl rfl ?_
 refine ld (Says.own (.tail .head)) Tryz.isAgg40 rfl (Nat.zero_add _).symm rfl rfl ?_
 refine asg rfl rfl ?_
 refine nl ?_
 refine sr ?_
 refine mv rfl rfl ?_
 refine nl ?_
 refine sr ?_
 refine mv rfl rfl ?_
 refine ge rfl rfl rfl ?_
 refine asg rfl rfl ?_
 refine nl ?_
 refine sr ?_
 refine mv rfl rfl ?_
 refine nl ?_
 refine sr ?_
 refine mv rfl rfl ?_
 refine asg rfl rfl ?_
 refine nl ?_
 refine sq ?_
 refine sr ?_
 have ex0 : x0 = decV 2 (decP [] v true) false true ⟨s, false, !a.isNone⟩ := (hx0.trans (step_yes (by decide) (show (0 : Int) ≤ v by omega) (Or.inl (by decide)))).trans (decF'_val (by decide) (rfl))
 refine cl rfl rfl rfl (d2 hR0_ ex0) rfl (fun v_ H1 L1 hle_ hR_ => ?_)
 obtain ⟨N65, rfl, hR65, rfl, rfl⟩ := hR_
 refine asg rfl rfl ?_
 refine nl ?_
 refine rg ?_
 refine mv rfl rfl ?_
 refine mv rfl rfl ?_
 refine nc rfl rfl ?_
 refine fa0 F98_1 rfl rfl ?_
 refine st Tryz.sizeOf40 rfl rfl rfl rfl (.tail .head) ?_
 refine nl ?_
 refine sq ?_
 refine sr ?_
 refine mv rfl rfl ?_
 refine nc rfl rfl ?_
 refine fa0 F98_2 rfl rfl ?_
 refine ld (Says.own (.tail .head)) Tryz.isAgg94 rfl (Nat.zero_add _).symm rfl rfl ?_
 refine asg rfl rfl ?_
 refine nl ?_
 refine sr ?_
 refine mv rfl rfl ?_
 refine asg rfl rfl ?_
 refine nl ?_
 refine sr ?_
 refine asg rfl rfl ?_
 refine nl ?_
 refine sq ?_
 refine sr ?_
 refine mv rfl rfl ?_
 refine nl ?_
 refine cdT rfl (by omega) ?_
 refine rg ?_
 have ey1 : x1 = (.mk 0 [] (if 0 ≤ ((-1) : Int) ∧ (v < ((-1) : Int) ∨ (rArr true x0.2).1 = 0) then false else decide ((rArr true x0.2).1 ≤ 0)) (rMany (decV 10 (decP fs_sApiVersionsResponseApiKey v true) false true) (rArr true x0.2).1.toNat (rArr true x0.2).2).1 [], (rMany (decV 10 (decP fs_sApiVersionsResponseApiKey v true) false true) (rArr true x0.2).1.toNat (rArr true x0.2).2).2) := (hx1.trans (step_yes (by decide) (show (0 : Int) ≤ v by omega) (Or.inl (by decide)))).trans (decF'_list rfl rfl)
 have hn1 : (rArr true x0.2).1.toNat = (lT x1.1).length := by rw [ey1]; exact (lT_many nul_le).symm
 have ex1 := ey1
 rw [hn1] at ex1
 have hl1 := rArr_le true x0.2
 have hm1 : (rArr true x0.2).2.s.length ≤ BR := Nat.le_trans (rArr_len true x0.2) hL0
 have hnb1 : (lT x1.1).length ≤ BR := by omega
 refine cl rfl rfl rfl (r_arrt hR65) rfl (fun v_ H1 L1 hle_ hR_ => ?_)
 obtain ⟨rfl, N76, rfl, hR76, rfl⟩ := hR_
 have hh1 := rArr_hi true x0.2
 refine asg rfl rfl ?_
 refine nl ?_
 refine sq ?_
 refine sr ?_
 refine cl rfl rfl rfl (r_ok hR76) rfl (fun v_ H1 L1 hle_ hR_ => ?_)
 obtain ⟨rfl, rfl, rfl⟩ := hR_
 refine nt rfl rfl ?_
 refine nl ?_
 refine cb rfl (fun h79 => ?_) (fun h79 => ?_)
 ·
  have hbad_ : (rArr true x0.2).2.bad = true := by simpa using h79
  refine sr ?_
  refine cl rfl rfl rfl (r_complete hR76 he) rfl (fun v_ H1 L1 hle_ hR_ => ?_)
  obtain ⟨rfl, rfl, rfl⟩ := hR_
  refine asg rfl rfl ?_
  refine nl ?_
  refine drW .head ?_
  exact rT rfl rfl ler (fun _ _ h => h) ⟨_, rfl, RdEnd.out (hB1 (by rw [ey1]; exact rMany_bad (fun r h => decV_bad (decP_bad _ _ _) h) _ _ hbad_)) hbad_⟩
 ·
  refine skt ?_
  refine sr ?_
  refine mv rfl rfl ?_
  refine sh' (j := 0) Tryz.runUnderlying94 Tryz.sizeOf101 rfl rfl rfl (Nat.zero_le _) rfl ?_
  refine asg rfl rfl ?_
  refine nl ?_
  refine sq ?_
  refine sr ?_
  refine mv rfl rfl ?_
  refine gt rfl rfl rfl ?_
  refine nl ?_
  refine nulC2 ?_
  refine cutT (fun l' H' L' => ∃ (a1 : Option Addr), ∃ (c1 : Nat), ∃ (Nr1 : Chunk), [(2, .bool false), (7, .pointer (some ⟨b_1, 0, none⟩)), (8, .int .i16 v), (9, .bool (decide ((3 : Int) ≤ v))), (10, .pointer (some ⟨b, 0, none⟩)), (12, .slice none 0 0), (13, .slice a1 (lT x1.1).length c1), (14, .int .i32 (rArr true x0.2).1)] = l' ∧ Nr1 :: N76 :: [(b, .cells [.int .i16 v, .int .i16 (IntKind.i16.wrap x0.1.n), .slice none 0 0, .int .i32 0, .slice none 0 0, .int .i64 (-1), .slice none 0 0, .bool false, .map none].toArray 98 (0, 0))] :: L = L' ∧ Row 101 4 a1 (lT x1.1).length c1 (reps [.int .i16 0, .int .i16 0, .int .i16 0, .map none] (lT x1.1).length) Nr1 ∧ a1.isNone = (if 0 ≤ ((-1) : Int) ∧ (v < ((-1) : Int) ∨ (rArr true x0.2).1 = 0) then false else decide ((rArr true x0.2).1 ≤ 0))) ?_ (fun l' H' L' le_3 hI => ?_)
  ·
   refine cd rfl (fun h84 => ?_) (fun h84 => ?_)
   ·
    refine rg ?_
    refine mv rfl rfl ?_
    refine mv rfl rfl ?_
    refine apz (zs := [.int .i16 0, .int .i16 0, .int .i16 0, .map none]) (m := (lT x1.1).length) Tryz.underlying94 Tryz.underlying21 I101 rfl rfl rfl (by omega) (by omega) (by have h9 := hnb1; unfold BR at h9; omega) (by have h9 := hnb1; unfold BR at h9; unfold maxLen; omega) rfl (fun g87 cp87 N87 r87 => ?_)
    refine asg rfl rfl ?_
    refine nN ?_
    refine drN (.tail .head) ?_
    refine fun a_ w_ hA hw => ⟨_, _, _, hA.sub ?_, ler, hw, (some ⟨g87, 0, none⟩), cp87, N87, rfl, rfl, r87, (by rw [if_neg (by omega)]; exact (decide_eq_false (by omega)).symm)⟩
    exact (.cons rfl (.cons rfl (.cons rfl (.cons rfl (.cons rfl (.cons rfl (.cons rfl (.cons rfl (.nil _)))))))))
   ·
    refine skN ?_
    refine fun a_ w_ hA hw => ⟨_, _, _, hA.sub ?_, ler, hw, none, 0, [], rfl, rfl, (by rw [show (lT x1.1).length = 0 by omega]; exact (Row.nil _ _)), (by rw [if_neg (by omega)]; exact (decide_eq_true (by omega)).symm)⟩
    exact (.cons rfl (.cons rfl (.cons rfl (.cons rfl (.cons rfl (.cons rfl (.cons (by rw [show (lT x1.1).length = 0 by omega]; rfl) (.cons rfl (.nil _)))))))))
  ·
   obtain ⟨a1, c1, Nr1, rfl, rfl, pj0, pj1⟩ := hI
   have hr1 := pj0
   have hi1 := pj1
   refine sq ?_
   refine sr ?_
   refine asg rfl rfl ?_
   refine nl ?_
   refine bl (lp ((lT x1.1).length) (fun k1 l' H' L' => ∃ (es1 : List (KE 4)) (M1 RN1 : Chunk), [(2, .bool false), (7, .pointer (some ⟨b_1, 0, none⟩)), (8, .int .i16 v), (9, .bool (decide ((3 : Int) ≤ v))), (10, .pointer (some ⟨b, 0, none⟩)), (12, .slice none 0 0), (13, .slice a1 (lT x1.1).length c1), (14, .int .i32 (rArr true x0.2).1), (15, .int .i32 (k1 : Int))] = l' ∧ M1 :: RN1 :: [(b, .cells [.int .i16 v, .int .i16 (IntKind.i16.wrap x0.1.n), .slice none 0 0, .int .i32 0, .slice none 0 0, .int .i64 (-1), .slice none 0 0, .bool false, .map none].toArray 98 (0, 0))] :: L = L' ∧ RdAt H' 117 b_1 (rMany (decV 10 (decP fs_sApiVersionsResponseApiKey v true) false true) k1 (rArr true x0.2).2).2 RN1 ∧ Row 101 4 a1 (lT x1.1).length c1 (es1.flatMap fk ++ reps [.int .i16 0, .int .i16 0, .int .i16 0, .map none] ((lT x1.1).length - k1)) M1 ∧ es1.map (·.2) = (rMany (decV 10 (decP fs_sApiVersionsResponseApiKey v true) false true) k1 (rArr true x0.2).2).1 ∧ ∀ p ∈ es1, At_ApiVersionsResponseApiKey H' p.2 (fk p)) [(2, .bool false), (7, .pointer (some ⟨b_1, 0, none⟩)), (8, .int .i16 v), (9, .bool (decide ((3 : Int) ≤ v))), (10, .pointer (some ⟨b, 0, none⟩)), (12, .slice none 0 0), (13, .slice a1 (lT x1.1).length c1), (14, .int .i32 (rArr true x0.2).1), (15, .int .i32 (0 : Int))] (.of ⟨rfl, rfl, rfl, rfl, rfl, rfl, rfl, rfl, rfl, trivial⟩) ⟨[], Nr1, _, rfl, rfl, (hR76.mono le_3), hr1, rfl, (fun p hp => by cases hp)⟩ (fun k1 l' H' L' hk1 le_4 hI => ?_))
   obtain ⟨es1, M1, RN1, rfl, rfl, hR_1, hw_1, he_1, hg_1⟩ := hI
   have hs_1 := els_len he_1
   have hp_1 : (es1.flatMap fk).length = k1 * 4 := els_flat hs_1
   refine sq ?_
   refine sr ?_
   refine mv rfl rfl ?_
   refine mv rfl rfl ?_
   refine lt rfl rfl rfl ?_
   refine nl ?_
   refine cd rfl (fun h90 => ?_) (fun h90 => ?_)
   ·
    have hkl1 : k1 < (lT x1.1).length := by omega
    obtain ⟨g1, po1, hga1, rfl, hbk1⟩ := hw_1.next (zs := [.int .i16 0, .int .i16 0, .int .i16 0, .map none]) hkl1 rfl (by decide)
    have ho1 : 0 + k1 * 4 = (es1.flatMap fk).length := by rw [hp_1]; omega
    have hbz1 : ((decV 10 (decP fs_sApiVersionsResponseApiKey v true) false true) (rMany (decV 10 (decP fs_sApiVersionsResponseApiKey v true) false true) k1 (rArr true x0.2).2).2).2.bad = true → (decM fs_ApiVersionsResponse v true ⟨s, false, !a.isNone⟩).2.bad = true := fun h => hB1 (by rw [ex1]; exact rMany_mono (fun r h => decV_bad (fun r h => decP_bad _ _ _ r h) h) _ (show k1 + 1 ≤ (lT x1.1).length from hkl1) (by rw [rMany_succ]; exact h))
    have hLk1 : (rMany (decV 10 (decP fs_sApiVersionsResponseApiKey v true) false true) k1 (rArr true x0.2).2).2.s.length ≤ BR := Nat.le_trans (rMany_shr (fun r => decV_shr (fun r => decP_shr _ _ _ r) r) _ _) hm1
    have hL1__ := hLk1
    obtain ⟨x1_0, hx1_0⟩ : ∃ x, x = stepF (Fd.mk 2 0 (-1) (-1) (-1) 0 0 []) v true (rMany (decV 10 (decP fs_sApiVersionsResponseApiKey v true) false true) k1 (rArr true x0.2).2).2 := ⟨_, rfl⟩
    obtain ⟨x1_1, hx1_1⟩ : ∃ x, x = stepF (Fd.mk 2 0 (-1) (-1) (-1) 0 0 []) v true x1_0.2 := ⟨_, rfl⟩
    obtain ⟨x1_2, hx1_2⟩ : ∃ x, x = stepF (Fd.mk 2 0 (-1) (-1) (-1) 0 0 []) v true x1_1.2 := ⟨_, rfl⟩
    obtain ⟨u1_, hu1_⟩ : ∃ x, x = tailU true x1_2.2 := ⟨_, rfl⟩
    have hD1_ : decP fs_sApiVersionsResponseApiKey v true (rMany (decV 10 (decP fs_sApiVersionsResponseApiKey v true) false true) k1 (rArr true x0.2).2).2 = (.mk 0 [] false [x1_0.1, x1_1.1, x1_2.1] u1_.1, u1_.2) := by
     generalize ((rMany (decV 10 (decP fs_sApiVersionsResponseApiKey v true) false true) k1 (rArr true x0.2).2).2 : Rd) = r_ at hx1_0 ⊢
     rw [decP_eq]; unfold fs_sApiVersionsResponseApiKey; simp only [decFs_cons, decFs_nil, ← hx1_0, ← hx1_1, ← hx1_2, ← hu1_]
    have hL1_0 : x1_0.2.s.length ≤ BR := by rw [hx1_0]; exact Nat.le_trans (stepF_shr _ _ _ _) hL1__
    have hL1_1 : x1_1.2.s.length ≤ BR := by rw [hx1_1]; exact Nat.le_trans (stepF_shr _ _ _ _) hL1_0
    have hL1_2 : x1_2.2.s.length ≤ BR := by rw [hx1_2]; exact Nat.le_trans (stepF_shr _ _ _ _) hL1_1
    have hE1_ : u1_.2.bad = true → (decM fs_ApiVersionsResponse v true ⟨s, false, !a.isNone⟩).2.bad = true := fun h => hbz1 (by show (decP fs_sApiVersionsResponseApiKey v true (rMany (decV 10 (decP fs_sApiVersionsResponseApiKey v true) false true) k1 (rArr true x0.2).2).2).2.bad = true; rw [hD1_]; exact h)
    have hB1_2 : x1_2.2.bad = true → (decM fs_ApiVersionsResponse v true ⟨s, false, !a.isNone⟩).2.bad = true := fun h => hE1_ (by rw [hu1_]; exact tailU_bad h)
    have hB1_1 : x1_1.2.bad = true → (decM fs_ApiVersionsResponse v true ⟨s, false, !a.isNone⟩).2.bad = true := fun h => hB1_2 (by rw [hx1_2]; exact step_bad h)
    have hB1_0 : x1_0.2.bad = true → (decM fs_ApiVersionsResponse v true ⟨s, false, !a.isNone⟩).2.bad = true := fun h => hB1_1 (by rw [hx1_1]; exact step_bad h)
    refine skt ?_
    refine sq ?_
    refine bl ?_
    refine sr ?_
    refine mv rfl rfl ?_
    refine mv rfl rfl ?_
    refine ixk (j := k1) Tryz.runUnderlying94 Tryz.sizeOf101 rfl hga1 rfl rfl hkl1 rfl ?_
    refine asg rfl rfl ?_
    refine nl ?_
    refine sr ?_
    refine mv rfl rfl ?_
    refine cl rfl rfl rfl (def_ApiVersionsResponseApiKey ho1) rfl (fun v_ H1 L1 hle_ hR_ => ?_)
    obtain ⟨rfl, rfl⟩ := hR_
    refine nl ?_
    refine sr ?_
    refine mv rfl rfl ?_
    refine asg rfl rfl ?_
    refine nl ?_
    refine sq ?_
    refine sr ?_
    refine tf (.tail .head) ?_
    have ex1_0 : x1_0 = decV 2 (decP [] v true) false true (rMany (decV 10 (decP fs_sApiVersionsResponseApiKey v true) false true) k1 (rArr true x0.2).2).2 := (hx1_0.trans (step_yes (by decide) (show (0 : Int) ≤ v by omega) (Or.inl (by decide)))).trans (decF'_val (by decide) (rfl))
    refine cl rfl rfl rfl (d2 hR_1 ex1_0) rfl (fun v_ H1 L1 hle_ hR_ => ?_)
    obtain ⟨N99, rfl, hR99, rfl, rfl⟩ := hR_
    refine asg rfl rfl ?_
    refine nl ?_
    refine rg ?_
    refine mv rfl rfl ?_
    refine mv rfl rfl ?_
    refine nc rfl rfl ?_
    refine fa F101_0 rfl rfl ?_
    refine stM (off := 0) Tryz.sizeOf40 rfl (by rw [ho1]) rfl rfl rfl (.tail .head) ?_
    refine nl ?_
    refine sq ?_
    refine sr ?_
    have ex1_1 : x1_1 = decV 2 (decP [] v true) false true x1_0.2 := (hx1_1.trans (step_yes (by decide) (show (0 : Int) ≤ v by omega) (Or.inl (by decide)))).trans (decF'_val (by decide) (rfl))
    refine cl rfl rfl rfl (d2 hR99 ex1_1) rfl (fun v_ H1 L1 hle_ hR_ => ?_)
    obtain ⟨N104, rfl, hR104, rfl, rfl⟩ := hR_
    refine asg rfl rfl ?_
    refine nl ?_
    refine rg ?_
    refine mv rfl rfl ?_
    refine mv rfl rfl ?_
    refine nc rfl rfl ?_
    refine fa F101_1 rfl rfl ?_
    refine stM (off := 1) Tryz.sizeOf40 rfl (by rw [ho1]) rfl rfl rfl (.tail .head) ?_
    refine nl ?_
    refine sq ?_
    refine sr ?_
    have ex1_2 : x1_2 = decV 2 (decP [] v true) false true x1_1.2 := (hx1_2.trans (step_yes (by decide) (show (0 : Int) ≤ v by omega) (Or.inl (by decide)))).trans (decF'_val (by decide) (rfl))
    refine cl rfl rfl rfl (d2 hR104 ex1_2) rfl (fun v_ H1 L1 hle_ hR_ => ?_)
    obtain ⟨N109, rfl, hR109, rfl, rfl⟩ := hR_
    refine asg rfl rfl ?_
    refine nl ?_
    refine rg ?_
    refine mv rfl rfl ?_
    refine mv rfl rfl ?_
    refine nc rfl rfl ?_
    refine fa F101_2 rfl rfl ?_
    refine stM (off := 2) Tryz.sizeOf40 rfl (by rw [ho1]) rfl rfl rfl (.tail .head) ?_
    refine nl ?_
    refine sr ?_
    refine mv rfl rfl ?_
    refine nl ?_
    refine cdT rfl (by omega) ?_
    refine rg ?_
    refine mv rfl rfl ?_
    refine cl rfl rfl rfl (d_tags hR109) rfl (fun v_ H1 L1 le_8 hR_ => ?_)
    obtain ⟨N116, rfl, hR116, m1_t, rfl, hft1_⟩ := hR_
    have hu21_ : u1_ = rTags x1_2.2 := hu1_
    rw [← hu21_] at hR116 hft1_
    refine nc rfl rfl ?_
    refine fa F101_3 rfl rfl ?_
    refine saM (off := 3) Tryz.sizeOf63 rfl (by rw [ho1]) rfl rfl rfl rfl (.tail .head) ?_
    refine nN ?_
    refine Nb ?_
    refine Nt ?_
    refine rg ?_
    refine mv rfl rfl ?_
    refine ad rfl rfl (c := ((k1 + 1 : Nat) : Int)) ((wrap32_le (by omega) (by omega)).trans (by omega)) rfl ?_
    refine asg rfl rfl ?_
    refine nN ?_
    have hfs1 := flatMap_snoc' fk es1 ((⟨([.int .i16 (IntKind.i16.wrap x1_0.1.n), .int .i16 (IntKind.i16.wrap x1_1.1.n), .int .i16 (IntKind.i16.wrap x1_2.1.n), .map m1_t] : List Value), rfl, all_one rfl⟩, ((decV 10 (decP fs_sApiVersionsResponseApiKey v true) false true) (rMany (decV 10 (decP fs_sApiVersionsResponseApiKey v true) false true) k1 (rArr true x0.2).2).2).1) : KE 4)
    have hrw1 := hbk1 ([.int .i16 (IntKind.i16.wrap x1_0.1.n), .int .i16 (IntKind.i16.wrap x1_1.1.n), .int .i16 (IntKind.i16.wrap x1_2.1.n), .map m1_t] : List Value) rfl
    refine tfN (.tail .head) ?_
    refine fun a_ w_ hA hw => ⟨hkl1, _, _, _, hA.sub ?_, (le_4.trans le_8), hw, _, _, _, rfl, rfl, (by rw [rMany_succ]; show RdAt _ 117 b_1 (decP fs_sApiVersionsResponseApiKey v true (rMany (decV 10 (decP fs_sApiVersionsResponseApiKey v true) false true) k1 (rArr true x0.2).2).2).2 _; rw [hD1_]; exact hR116), (by rw [← hfs1]; exact hrw1), (dec_els he_1), (fun p hp => (mem_snoc hp).elim (fun h => At_ApiVersionsResponseApiKey.mono _ _ _ _ le_8 (hg_1 p h)) (fun h => h ▸ (by show At_ApiVersionsResponseApiKey _ (decP fs_sApiVersionsResponseApiKey v true (rMany (decV 10 (decP fs_sApiVersionsResponseApiKey v true) false true) k1 (rArr true x0.2).2).2).1 [.int .i16 (IntKind.i16.wrap x1_0.1.n), .int .i16 (IntKind.i16.wrap x1_1.1.n), .int .i16 (IntKind.i16.wrap x1_2.1.n), .map m1_t]; rw [hD1_]; exact ⟨m1_t, rfl, hft1_⟩)))⟩
    exact (.of ⟨rfl, rfl, rfl, rfl, rfl, rfl, rfl, rfl, rfl, trivial⟩)
   ·
    have hkn_ : k1 = (lT x1.1).length := by omega
    subst hkn_
    have hw2_1 : Row 101 4 a1 (lT x1.1).length c1 (es1.flatMap fk) M1 := by have h := hw_1; rw [Nat.sub_self] at h; simpa [reps] using h
    refine frW hw2_1 .head (fun Hf1 hlf1 hfz1 => ?_)
    have hrs1 := RowsAt.row (R := At_ApiVersionsResponseApiKey) hfz1 hs_1.symm hw2_1.le.1 (fun p hp => At_ApiVersionsResponseApiKey.mono _ _ _ _ hlf1 (hg_1 p hp))
    rw [he_1] at hrs1
    have hf1 : ListAt Hf1 x1.1 4 At_ApiVersionsResponseApiKey a1 c1 := by rw [ex1]; exact listAt_of hrs1 hi1 (fun h => by have h1 := nul_le h; rw [show (lT x1.1).length = 0 by omega]; rfl)
    have hRx1 : RdAt Hf1 117 b_1 x1.2 RN1 := by rw [ex1]; exact (hR_1.mono hlf1)
    refine exX ?_
    refine XT ?_
    refine XT ?_
    refine Xb ?_
    refine Nt ?_
    refine sr ?_
    refine mv rfl rfl ?_
    refine asg rfl rfl ?_
    refine nl ?_
    refine rg ?_
    refine mv rfl rfl ?_
    refine mv rfl rfl ?_
    refine nc rfl rfl ?_
    refine fa0 F98_2 rfl rfl ?_
    refine st Tryz.sizeOf94 rfl rfl rfl rfl (.tail .head) ?_
    refine nl ?_
    refine sq ?_
    refine sr ?_
    refine mv rfl rfl ?_
    refine ge rfl rfl rfl ?_
    refine nl ?_
    refine cdT rfl (by omega) ?_
    refine sr ?_
    have ex2 : x2 = decV 3 (decP [] v true) false true x1.2 := (hx2.trans (step_yes (by decide) (show (1 : Int) ≤ v by omega) (Or.inl (by decide)))).trans (decF'_val (by decide) (rfl))
    refine cl rfl rfl rfl (d3 hRx1 ex2) rfl (fun v_ H1 L1 hle_ hR_ => ?_)
    obtain ⟨N126, rfl, hR126, rfl, rfl⟩ := hR_
    refine asg rfl rfl ?_
    refine nl ?_
    refine rg ?_
    refine mv rfl rfl ?_
    refine mv rfl rfl ?_
    refine nc rfl rfl ?_
    refine fa0 F98_3 rfl rfl ?_
    refine st Tryz.sizeOf21 rfl rfl rfl rfl (.tail .head) ?_
    refine nl ?_
    refine sq ?_
    refine sr ?_
    refine mv rfl rfl ?_
    refine nl ?_
    refine cdT rfl (by omega) ?_
    refine sr ?_
    obtain rfl : x3 = ((Tr.mk 0 [] true [] []), x2.2) := (hx3.trans (step_tag (by decide))).trans (by rw [dflF_eq]; rfl)
    obtain rfl : x4 = ((Tr.mk (-1) [] false [] []), x2.2) := (hx4.trans (step_tag (by decide))).trans (by rw [dflF_eq]; rfl)
    obtain rfl : x5 = ((Tr.mk 0 [] true [] []), x2.2) := (hx5.trans (step_tag (by decide))).trans (by rw [dflF_eq]; rfl)
    obtain rfl : x6 = ((Tr.mk 0 [] false [] []), x2.2) := (hx6.trans (step_tag (by decide))).trans (by rw [dflF_eq]; rfl)
    refine cl rfl rfl rfl (r_Uvarint hR126) rfl (fun v_ H1 L1 hle_ hR_ => ?_)
    obtain ⟨rfl, N132, rfl, hR132, rfl⟩ := hR_
    have hu132 := rU_lt x2.2
    refine asg rfl rfl ?_
    refine nl ?_
    have hK0l : K0.l = [x0.1, x1.1, x2.1, (Tr.mk 0 [] true [] []), (Tr.mk (-1) [] false [] []), (Tr.mk 0 [] true [] []), (Tr.mk 0 [] false [] [])] := by rw [hK0]
    have hK0u : K0.u = [] := by rw [hK0]
    have hK0r : K0.r = (rU x2.2).2 := by rw [hK0]
    refine nulC2 ?_
    refine bl (lp ((rU x2.2).1) (fun kt l' H' L' => ∃ (xt3 : Tr), ∃ (a3 : Option Addr), ∃ (c3 : Nat), ∃ (xt4 : Tr), ∃ (xt5 : Tr), ∃ (a5 : Option Addr), ∃ (c5 : Nat), ∃ (xt6 : Tr), ∃ (mt : Option Nat) (kvs : List KV) (MT NT : Chunk), [(2, .bool false), (7, .pointer (some ⟨b_1, 0, none⟩)), (9, .bool (decide ((3 : Int) ≤ v))), (10, .pointer (some ⟨b, 0, none⟩)), (22, .int .u32 (((rU x2.2).1 - kt : Nat) : Int))] = l' ∧ MT :: NT :: [(b, .cells [.int .i16 v, .int .i16 (IntKind.i16.wrap x0.1.n), .slice a1 (lT x1.1).length c1, .int .i32 (IntKind.i32.wrap x2.1.n), .slice a3 (lT xt3).length c3, .int .i64 xt4.n, .slice a5 (lT xt5).length c5, .bool (decide (xt6.n % 2 = 1)), .map mt].toArray 98 (0, 0))] :: L = L' ∧ RdAt H' 117 b_1 (kSteps fs_ApiVersionsResponse v kt K0).r NT ∧ MapC mt kvs MT ∧ KvSet H' (kSteps fs_ApiVersionsResponse v kt K0).u kvs ∧ (kSteps fs_ApiVersionsResponse v kt K0).l = [x0.1, x1.1, x2.1, xt3, xt4, xt5, xt6] ∧ ListAt H' xt3 4 At_ApiVersionsResponseSupportedFeature a3 c3 ∧ ListAt H' xt5 4 At_ApiVersionsResponseFinalizedFeature a5 c5 ∧ (xt3 = (Tr.mk 0 [] true [] []) → a3 = none ∧ c3 = 0) ∧ (xt5 = (Tr.mk 0 [] true [] []) → a5 = none ∧ c5 = 0)) [(2, .bool false), (7, .pointer (some ⟨b_1, 0, none⟩)), (9, .bool (decide ((3 : Int) ≤ v))), (10, .pointer (some ⟨b, 0, none⟩)), (22, .int .u32 (((rU x2.2).1 - 0 : Nat) : Int))] (.of ⟨rfl, rfl, rfl, rfl, rfl, trivial⟩) ⟨(Tr.mk 0 [] true [] []), none, 0, (Tr.mk (-1) [] false [] []), (Tr.mk 0 [] true [] []), none, 0, (Tr.mk 0 [] false [] []), none, [], [], _, rfl, rfl, (by show RdAt _ 117 b_1 K0.r _; rw [hK0r]; exact hR132), MapC.nil, (by show KvSet _ K0.u _; rw [hK0u]; exact KvSet.nil _), (show K0.l = _ from hK0l), (ListAt.none rfl), (ListAt.none rfl), (fun _ => ⟨rfl, rfl⟩), (fun _ => ⟨rfl, rfl⟩)⟩ (fun kt l' H' L' hkt le_10 hI => ?_))
    obtain ⟨xt3, a3, c3, xt4, xt5, a5, c5, xt6, mt, kvs, MT, NT, rfl, rfl, hRT, hMT, hKT, hlT, hfT3, hfT5, hz3, hz5⟩ := hI
    have hLK : (kSteps fs_ApiVersionsResponse v kt K0).r.s.length ≤ BR := Nat.le_trans (kSteps_shr _ _ _ _) hLK0
    refine sq ?_
    refine sr ?_
    refine mv rfl rfl ?_
    refine gt rfl rfl rfl ?_
    refine nl ?_
    refine cd rfl (fun h134 => ?_) (fun h134 => ?_)
    ·
     have hkn : kt < (rU x2.2).1 := by omega
     refine skt ?_
     refine sq ?_
     refine bl ?_
     refine sr ?_
     refine tf (.tail .head) ?_
     refine cl rfl rfl rfl (r_Uvarint hRT) rfl (fun v_ H1 L1 hle_ hR_ => ?_)
     obtain ⟨rfl, N137, rfl, hR137, rfl⟩ := hR_
     have hu137 := rU_lt (kSteps fs_ApiVersionsResponse v kt K0).r
     refine asg rfl rfl ?_
     refine nl ?_
     refine sr ?_
     refine mv rfl rfl ?_
     refine nl ?_
     refine bl ?_
     refine sr ?_
     refine eq' rfl rfl rfl ?_
     refine asg rfl rfl ?_
     refine nl ?_
     refine cd rfl (fun h147 => ?_) (fun h147 => ?_)
     ·
      have hkey : (rU (kSteps fs_ApiVersionsResponse v kt K0).r).1 = 0 := by omega
      have hxt : xt3 = (Tr.mk 0 [] true [] []) := by
       have h := hFresh.at_ kt hkn _ (show _ = some (fs_ApiVersionsResponse[3]'(by decide)) by rw [hkey, ti_fs_ApiVersionsResponse_0]; rfl)
       rw [hkey, ti_fs_ApiVersionsResponse_0, hlT] at h
       exact (Option.some.inj h).trans (by rw [dflF_eq]; rfl)
      obtain ⟨rfl, rfl⟩ := hz3 hxt
      refine sr ?_
      refine cl rfl rfl rfl (r_Uvarint hR137) rfl (fun v_ H1 L1 hle_ hR_ => ?_)
      obtain ⟨rfl, N149, rfl, hR149, rfl⟩ := hR_
      have hu149 := rU_lt (rU (kSteps fs_ApiVersionsResponse v kt K0).r).2
      refine cv Tryz.runUnderlying55 Tryz.runUnderlying3 rfl (w64 (by omega) (by omega)) rfl ?_
      refine cl rfl rfl rfl (r_Span hR149) rfl (fun v_ H1 L1 hle_ hR_ => ?_)
      obtain ⟨rfl, N151, rfl, hR151, as151, cs151, rfl, hBs151, hns151⟩ := hR_
      refine bd' S117 rfl rfl rfl ?_
      refine al Tryz.zeroValue117 rfl rfl (fun b_11 => ?_)
      refine sa Tryz.sizeOf117 rfl rfl rfl rfl rfl .head ?_
      have hRi : RdAt _ 117 b_11 ⟨(rSpan (rU (rU (kSteps fs_ApiVersionsResponse v kt K0).r).2).1 (rU (rU (kSteps fs_ApiVersionsResponse v kt K0).r).2).2).1.1, false, !(rSpan (rU (rU (kSteps fs_ApiVersionsResponse v kt K0).r).2).1 (rU (rU (kSteps fs_ApiVersionsResponse v kt K0).r).2).2).1.2⟩ [(b_11, .cells [_, _].toArray 117 (0, 0))] := ⟨_, _, rfl, hBs151, by simp [hns151]⟩
      obtain ⟨xt0_3, hxt0_3⟩ : ∃ x, x = stepF (Fd.mk 11 0 (-1) (-1) (-1) 0 10 fs_sApiVersionsResponseSupportedFeature) v true ⟨(rSpan (rU (rU (kSteps fs_ApiVersionsResponse v kt K0).r).2).1 (rU (rU (kSteps fs_ApiVersionsResponse v kt K0).r).2).2).1.1, false, !(rSpan (rU (rU (kSteps fs_ApiVersionsResponse v kt K0).r).2).1 (rU (rU (kSteps fs_ApiVersionsResponse v kt K0).r).2).2).1.2⟩ := ⟨_, rfl⟩
      have hst := kStep_yes (v := v) hkey ti_fs_ApiVersionsResponse_0 (show fs_ApiVersionsResponse[3]? = some (fs_ApiVersionsResponse[3]'(by decide)) from rfl)
      have hxd : decF (fs_ApiVersionsResponse[3]'(by decide)) v true ⟨(rSpan (rU (rU (kSteps fs_ApiVersionsResponse v kt K0).r).2).1 (rU (rU (kSteps fs_ApiVersionsResponse v kt K0).r).2).2).1.1, false, !(rSpan (rU (rU (kSteps fs_ApiVersionsResponse v kt K0).r).2).1 (rU (rU (kSteps fs_ApiVersionsResponse v kt K0).r).2).2).1.2⟩ = xt0_3 := (hxt0_3.trans (step_untag (f := (fs_ApiVersionsResponse[3]'(by decide))) (has_yes (show (0 : Int) ≤ v by omega) (Or.inl (by decide))))).symm
      have hLt0__ : (⟨(rSpan (rU (rU (kSteps fs_ApiVersionsResponse v kt K0).r).2).1 (rU (rU (kSteps fs_ApiVersionsResponse v kt K0).r).2).2).1.1, false, !(rSpan (rU (rU (kSteps fs_ApiVersionsResponse v kt K0).r).2).1 (rU (rU (kSteps fs_ApiVersionsResponse v kt K0).r).2).2).1.2⟩ : Rd).s.length ≤ BR := Nat.le_trans (rSpan_take _ _) (Nat.le_trans (rU_len _) (Nat.le_trans (rU_len _) hLK))
      have hLt0_3 : xt0_3.2.s.length ≤ BR := by rw [hxt0_3]; exact Nat.le_trans (stepF_shr _ _ _ _) hLt0__
      have hBt0_3 : xt0_3.2.bad = true → (decM fs_ApiVersionsResponse v true ⟨s, false, !a.isNone⟩).2.bad = true := fun h => hE (by rw [hsK]; exact kSteps_mono (show kt + 1 ≤ (rU x2.2).1 from hkn) (by rw [kSteps_succ, hst, hxd, if_pos h]; rfl))
      refine nl ?_
      refine sr ?_
      refine mv rfl rfl ?_
      refine nc rfl rfl ?_
      refine fa0 F98_4 rfl rfl ?_
      refine ld (Says.own (.tail (.tail (.tail .head)))) Tryz.isAgg95 rfl (Nat.zero_add _).symm rfl rfl ?_
      refine asg rfl rfl ?_
      refine nl ?_
      refine sr ?_
      refine mv rfl rfl ?_
      refine asg rfl rfl ?_
      refine nl ?_
      refine sr ?_
      refine asg rfl rfl ?_
      refine nl ?_
      refine sq ?_
      refine sr ?_
      refine mv rfl rfl ?_
      refine nl ?_
      refine cdT rfl (by omega) ?_
      refine rg ?_
      have eyt0_3 : xt0_3 = (.mk 0 [] (if 0 ≤ ((-1) : Int) ∧ (v < ((-1) : Int) ∨ (rArr true ⟨(rSpan (rU (rU (kSteps fs_ApiVersionsResponse v kt K0).r).2).1 (rU (rU (kSteps fs_ApiVersionsResponse v kt K0).r).2).2).1.1, false, !(rSpan (rU (rU (kSteps fs_ApiVersionsResponse v kt K0).r).2).1 (rU (rU (kSteps fs_ApiVersionsResponse v kt K0).r).2).2).1.2⟩).1 = 0) then false else decide ((rArr true ⟨(rSpan (rU (rU (kSteps fs_ApiVersionsResponse v kt K0).r).2).1 (rU (rU (kSteps fs_ApiVersionsResponse v kt K0).r).2).2).1.1, false, !(rSpan (rU (rU (kSteps fs_ApiVersionsResponse v kt K0).r).2).1 (rU (rU (kSteps fs_ApiVersionsResponse v kt K0).r).2).2).1.2⟩).1 ≤ 0)) (rMany (decV 10 (decP fs_sApiVersionsResponseSupportedFeature v true) false true) (rArr true ⟨(rSpan (rU (rU (kSteps fs_ApiVersionsResponse v kt K0).r).2).1 (rU (rU (kSteps fs_ApiVersionsResponse v kt K0).r).2).2).1.1, false, !(rSpan (rU (rU (kSteps fs_ApiVersionsResponse v kt K0).r).2).1 (rU (rU (kSteps fs_ApiVersionsResponse v kt K0).r).2).2).1.2⟩).1.toNat (rArr true ⟨(rSpan (rU (rU (kSteps fs_ApiVersionsResponse v kt K0).r).2).1 (rU (rU (kSteps fs_ApiVersionsResponse v kt K0).r).2).2).1.1, false, !(rSpan (rU (rU (kSteps fs_ApiVersionsResponse v kt K0).r).2).1 (rU (rU (kSteps fs_ApiVersionsResponse v kt K0).r).2).2).1.2⟩).2).1 [], (rMany (decV 10 (decP fs_sApiVersionsResponseSupportedFeature v true) false true) (rArr true ⟨(rSpan (rU (rU (kSteps fs_ApiVersionsResponse v kt K0).r).2).1 (rU (rU (kSteps fs_ApiVersionsResponse v kt K0).r).2).2).1.1, false, !(rSpan (rU (rU (kSteps fs_ApiVersionsResponse v kt K0).r).2).1 (rU (rU (kSteps fs_ApiVersionsResponse v kt K0).r).2).2).1.2⟩).1.toNat (rArr true ⟨(rSpan (rU (rU (kSteps fs_ApiVersionsResponse v kt K0).r).2).1 (rU (rU (kSteps fs_ApiVersionsResponse v kt K0).r).2).2).1.1, false, !(rSpan (rU (rU (kSteps fs_ApiVersionsResponse v kt K0).r).2).1 (rU (rU (kSteps fs_ApiVersionsResponse v kt K0).r).2).2).1.2⟩).2).2) := (hxt0_3.trans (step_yes (by decide) (show (0 : Int) ≤ v by omega) (Or.inl (by decide)))).trans (decF'_list rfl rfl)
      have hnt0_3 : (rArr true ⟨(rSpan (rU (rU (kSteps fs_ApiVersionsResponse v kt K0).r).2).1 (rU (rU (kSteps fs_ApiVersionsResponse v kt K0).r).2).2).1.1, false, !(rSpan (rU (rU (kSteps fs_ApiVersionsResponse v kt K0).r).2).1 (rU (rU (kSteps fs_ApiVersionsResponse v kt K0).r).2).2).1.2⟩).1.toNat = (lT xt0_3.1).length := by rw [eyt0_3]; exact (lT_many nul_le).symm
      have ext0_3 := eyt0_3
      rw [hnt0_3] at ext0_3
      have hlt0_3 := rArr_le true ⟨(rSpan (rU (rU (kSteps fs_ApiVersionsResponse v kt K0).r).2).1 (rU (rU (kSteps fs_ApiVersionsResponse v kt K0).r).2).2).1.1, false, !(rSpan (rU (rU (kSteps fs_ApiVersionsResponse v kt K0).r).2).1 (rU (rU (kSteps fs_ApiVersionsResponse v kt K0).r).2).2).1.2⟩
      have hmt0_3 : (rArr true ⟨(rSpan (rU (rU (kSteps fs_ApiVersionsResponse v kt K0).r).2).1 (rU (rU (kSteps fs_ApiVersionsResponse v kt K0).r).2).2).1.1, false, !(rSpan (rU (rU (kSteps fs_ApiVersionsResponse v kt K0).r).2).1 (rU (rU (kSteps fs_ApiVersionsResponse v kt K0).r).2).2).1.2⟩).2.s.length ≤ BR := Nat.le_trans (rArr_len true ⟨(rSpan (rU (rU (kSteps fs_ApiVersionsResponse v kt K0).r).2).1 (rU (rU (kSteps fs_ApiVersionsResponse v kt K0).r).2).2).1.1, false, !(rSpan (rU (rU (kSteps fs_ApiVersionsResponse v kt K0).r).2).1 (rU (rU (kSteps fs_ApiVersionsResponse v kt K0).r).2).2).1.2⟩) hLt0__
      have hnbt0_3 : (lT xt0_3.1).length ≤ BR := by omega
      refine cl rfl rfl rfl (r_arrt hRi) rfl (fun v_ H1 L1 hle_ hR_ => ?_)
      obtain ⟨rfl, N159, rfl, hR159, rfl⟩ := hR_
      have hht0_3 := rArr_hi true ⟨(rSpan (rU (rU (kSteps fs_ApiVersionsResponse v kt K0).r).2).1 (rU (rU (kSteps fs_ApiVersionsResponse v kt K0).r).2).2).1.1, false, !(rSpan (rU (rU (kSteps fs_ApiVersionsResponse v kt K0).r).2).1 (rU (rU (kSteps fs_ApiVersionsResponse v kt K0).r).2).2).1.2⟩
      refine asg rfl rfl ?_
      refine nl ?_
      refine sq ?_
      refine sr ?_
      refine cl rfl rfl rfl (r_ok hR159) rfl (fun v_ H1 L1 hle_ hR_ => ?_)
      obtain ⟨rfl, rfl, rfl⟩ := hR_
      refine nt rfl rfl ?_
      refine nl ?_
      refine cb rfl (fun h162 => ?_) (fun h162 => ?_)
      ·
       have hbad_ : (rArr true ⟨(rSpan (rU (rU (kSteps fs_ApiVersionsResponse v kt K0).r).2).1 (rU (rU (kSteps fs_ApiVersionsResponse v kt K0).r).2).2).1.1, false, !(rSpan (rU (rU (kSteps fs_ApiVersionsResponse v kt K0).r).2).1 (rU (rU (kSteps fs_ApiVersionsResponse v kt K0).r).2).2).1.2⟩).2.bad = true := by simpa using h162
       refine sr ?_
       refine cl rfl rfl rfl (r_complete hR159 (he.mono (le_3.trans (le_4.trans (hlf1.trans le_10))))) rfl (fun v_ H1 L1 hle_ hR_ => ?_)
       obtain ⟨rfl, rfl, rfl⟩ := hR_
       refine asg rfl rfl ?_
       refine nl ?_
       refine drW .head ?_
       refine drW .head ?_
       refine drW .head ?_
       exact rT rfl rfl (le_3.trans (le_4.trans (hlf1.trans le_10))) (fun _ _ h => h) ⟨_, rfl, RdEnd.out (hBt0_3 (by rw [eyt0_3]; exact rMany_bad (fun r h => decV_bad (decP_bad _ _ _) h) _ _ hbad_)) hbad_⟩
      ·
       refine skt ?_
       refine sr ?_
       refine mv rfl rfl ?_
       refine sh' (j := 0) Tryz.runUnderlying95 Tryz.sizeOf104 rfl rfl rfl (Nat.zero_le _) rfl ?_
       refine asg rfl rfl ?_
       refine nl ?_
       refine sq ?_
       refine sr ?_
       refine mv rfl rfl ?_
       refine gt rfl rfl rfl ?_
       refine nl ?_
       refine nulC2 ?_
       refine cutT (fun l' H' L' => ∃ (at0_3 : Option Addr), ∃ (ct0_3 : Nat), ∃ (Nrt0_3 : Chunk), [(2, .bool false), (7, .pointer (some ⟨b_1, 0, none⟩)), (9, .bool (decide ((3 : Int) ≤ v))), (10, .pointer (some ⟨b, 0, none⟩)), (22, .int .u32 (((rU x2.2).1 - kt : Nat) : Int)), (24, .pointer (some ⟨b_11, 0, none⟩)), (25, .slice none (lT xt3).length 0), (26, .slice at0_3 (lT xt0_3.1).length ct0_3), (27, .int .i32 (rArr true ⟨(rSpan (rU (rU (kSteps fs_ApiVersionsResponse v kt K0).r).2).1 (rU (rU (kSteps fs_ApiVersionsResponse v kt K0).r).2).2).1.1, false, !(rSpan (rU (rU (kSteps fs_ApiVersionsResponse v kt K0).r).2).1 (rU (rU (kSteps fs_ApiVersionsResponse v kt K0).r).2).2).1.2⟩).1)] = l' ∧ Nrt0_3 :: N159 :: N151 :: MT :: [(b, .cells [.int .i16 v, .int .i16 (IntKind.i16.wrap x0.1.n), .slice a1 (lT x1.1).length c1, .int .i32 (IntKind.i32.wrap x2.1.n), .slice none (lT xt3).length 0, .int .i64 xt4.n, .slice a5 (lT xt5).length c5, .bool (decide (xt6.n % 2 = 1)), .map mt].toArray 98 (0, 0))] :: L = L' ∧ Row 104 4 at0_3 (lT xt0_3.1).length ct0_3 (reps [.string ⟨#[]⟩, .int .i16 0, .int .i16 0, .map none] (lT xt0_3.1).length) Nrt0_3 ∧ at0_3.isNone = (if 0 ≤ ((-1) : Int) ∧ (v < ((-1) : Int) ∨ (rArr true ⟨(rSpan (rU (rU (kSteps fs_ApiVersionsResponse v kt K0).r).2).1 (rU (rU (kSteps fs_ApiVersionsResponse v kt K0).r).2).2).1.1, false, !(rSpan (rU (rU (kSteps fs_ApiVersionsResponse v kt K0).r).2).1 (rU (rU (kSteps fs_ApiVersionsResponse v kt K0).r).2).2).1.2⟩).1 = 0) then false else decide ((rArr true ⟨(rSpan (rU (rU (kSteps fs_ApiVersionsResponse v kt K0).r).2).1 (rU (rU (kSteps fs_ApiVersionsResponse v kt K0).r).2).2).1.1, false, !(rSpan (rU (rU (kSteps fs_ApiVersionsResponse v kt K0).r).2).1 (rU (rU (kSteps fs_ApiVersionsResponse v kt K0).r).2).2).1.2⟩).1 ≤ 0))) ?_ (fun l' H' L' le_12 hI => ?_)
       ·
        refine cd rfl (fun h167 => ?_) (fun h167 => ?_)
        ·
         refine rg ?_
         refine mv rfl rfl ?_
         refine mv rfl rfl ?_
         refine apz (zs := [.string ⟨#[]⟩, .int .i16 0, .int .i16 0, .map none]) (m := (lT xt0_3.1).length) Tryz.underlying95 Tryz.underlying21 I104 rfl rfl rfl (by omega) (by omega) (by have h9 := hnbt0_3; unfold BR at h9; omega) (by have h9 := hnbt0_3; unfold BR at h9; unfold maxLen; omega) rfl (fun g170 cp170 N170 r170 => ?_)
         refine asg rfl rfl ?_
         refine nN ?_
         refine drN (.tail .head) ?_
         refine fun a_ w_ hA hw => ⟨_, _, _, hA.sub ?_, ler, hw, (some ⟨g170, 0, none⟩), cp170, N170, rfl, rfl, r170, (by rw [if_neg (by omega)]; exact (decide_eq_false (by omega)).symm)⟩
         exact (.cons rfl (.cons rfl (.cons rfl (.cons rfl (.cons rfl (.cons rfl (.cons rfl (.cons rfl (.cons rfl (.nil _))))))))))
        ·
         refine skN ?_
         refine fun a_ w_ hA hw => ⟨_, _, _, hA.sub ?_, ler, hw, none, 0, [], rfl, rfl, (by rw [show (lT xt0_3.1).length = 0 by omega]; exact (Row.nil _ _)), (by rw [if_neg (by omega)]; exact (decide_eq_true (by omega)).symm)⟩
         exact (.cons rfl (.cons rfl (.cons rfl (.cons rfl (.cons rfl (.cons rfl (.cons rfl (.cons (by rw [show (lT xt0_3.1).length = 0 by omega]; rfl) (.cons rfl (.nil _))))))))))
       ·
        obtain ⟨at0_3, ct0_3, Nrt0_3, rfl, rfl, pj0, pj1⟩ := hI
        have hrt0_3 := pj0
        have hit0_3 := pj1
        refine sq ?_
        refine sr ?_
        refine asg rfl rfl ?_
        refine nl ?_
        refine bl (lp ((lT xt0_3.1).length) (fun kt0_3 l' H' L' => ∃ (est0_3 : List (KE 4)) (Mt0_3 RNt0_3 : Chunk), [(2, .bool false), (7, .pointer (some ⟨b_1, 0, none⟩)), (9, .bool (decide ((3 : Int) ≤ v))), (10, .pointer (some ⟨b, 0, none⟩)), (22, .int .u32 (((rU x2.2).1 - kt : Nat) : Int)), (24, .pointer (some ⟨b_11, 0, none⟩)), (25, .slice none (lT xt3).length 0), (26, .slice at0_3 (lT xt0_3.1).length ct0_3), (27, .int .i32 (rArr true ⟨(rSpan (rU (rU (kSteps fs_ApiVersionsResponse v kt K0).r).2).1 (rU (rU (kSteps fs_ApiVersionsResponse v kt K0).r).2).2).1.1, false, !(rSpan (rU (rU (kSteps fs_ApiVersionsResponse v kt K0).r).2).1 (rU (rU (kSteps fs_ApiVersionsResponse v kt K0).r).2).2).1.2⟩).1), (28, .int .i32 (kt0_3 : Int))] = l' ∧ Mt0_3 :: RNt0_3 :: N151 :: MT :: [(b, .cells [.int .i16 v, .int .i16 (IntKind.i16.wrap x0.1.n), .slice a1 (lT x1.1).length c1, .int .i32 (IntKind.i32.wrap x2.1.n), .slice none (lT xt3).length 0, .int .i64 xt4.n, .slice a5 (lT xt5).length c5, .bool (decide (xt6.n % 2 = 1)), .map mt].toArray 98 (0, 0))] :: L = L' ∧ RdAt H' 117 b_11 (rMany (decV 10 (decP fs_sApiVersionsResponseSupportedFeature v true) false true) kt0_3 (rArr true ⟨(rSpan (rU (rU (kSteps fs_ApiVersionsResponse v kt K0).r).2).1 (rU (rU (kSteps fs_ApiVersionsResponse v kt K0).r).2).2).1.1, false, !(rSpan (rU (rU (kSteps fs_ApiVersionsResponse v kt K0).r).2).1 (rU (rU (kSteps fs_ApiVersionsResponse v kt K0).r).2).2).1.2⟩).2).2 RNt0_3 ∧ Row 104 4 at0_3 (lT xt0_3.1).length ct0_3 (est0_3.flatMap fk ++ reps [.string ⟨#[]⟩, .int .i16 0, .int .i16 0, .map none] ((lT xt0_3.1).length - kt0_3)) Mt0_3 ∧ est0_3.map (·.2) = (rMany (decV 10 (decP fs_sApiVersionsResponseSupportedFeature v true) false true) kt0_3 (rArr true ⟨(rSpan (rU (rU (kSteps fs_ApiVersionsResponse v kt K0).r).2).1 (rU (rU (kSteps fs_ApiVersionsResponse v kt K0).r).2).2).1.1, false, !(rSpan (rU (rU (kSteps fs_ApiVersionsResponse v kt K0).r).2).1 (rU (rU (kSteps fs_ApiVersionsResponse v kt K0).r).2).2).1.2⟩).2).1 ∧ ∀ p ∈ est0_3, At_ApiVersionsResponseSupportedFeature H' p.2 (fk p)) [(2, .bool false), (7, .pointer (some ⟨b_1, 0, none⟩)), (9, .bool (decide ((3 : Int) ≤ v))), (10, .pointer (some ⟨b, 0, none⟩)), (22, .int .u32 (((rU x2.2).1 - kt : Nat) : Int)), (24, .pointer (some ⟨b_11, 0, none⟩)), (25, .slice none (lT xt3).length 0), (26, .slice at0_3 (lT xt0_3.1).length ct0_3), (27, .int .i32 (rArr true ⟨(rSpan (rU (rU (kSteps fs_ApiVersionsResponse v kt K0).r).2).1 (rU (rU (kSteps fs_ApiVersionsResponse v kt K0).r).2).2).1.1, false, !(rSpan (rU (rU (kSteps fs_ApiVersionsResponse v kt K0).r).2).1 (rU (rU (kSteps fs_ApiVersionsResponse v kt K0).r).2).2).1.2⟩).1), (28, .int .i32 (0 : Int))] (.of ⟨rfl, rfl, rfl, rfl, rfl, rfl, rfl, rfl, rfl, rfl, trivial⟩) ⟨[], Nrt0_3, _, rfl, rfl, (hR159.mono le_12), hrt0_3, rfl, (fun p hp => by cases hp)⟩ (fun kt0_3 l' H' L' hkt0_3 le_13 hI => ?_))
        obtain ⟨est0_3, Mt0_3, RNt0_3, rfl, rfl, hR_t0_3, hw_t0_3, he_t0_3, hg_t0_3⟩ := hI
        have hs_t0_3 := els_len he_t0_3
        have hp_t0_3 : (est0_3.flatMap fk).length = kt0_3 * 4 := els_flat hs_t0_3
        refine sq ?_
        refine sr ?_
        refine mv rfl rfl ?_
        refine mv rfl rfl ?_
        refine lt rfl rfl rfl ?_
        refine nl ?_
        refine cd rfl (fun h173 => ?_) (fun h173 => ?_)
        ·
         have hklt0_3 : kt0_3 < (lT xt0_3.1).length := by omega
         obtain ⟨gt0_3, pot0_3, hgat0_3, rfl, hbkt0_3⟩ := hw_t0_3.next (zs := [.string ⟨#[]⟩, .int .i16 0, .int .i16 0, .map none]) hklt0_3 rfl (by decide)
         have hot0_3 : 0 + kt0_3 * 4 = (est0_3.flatMap fk).length := by rw [hp_t0_3]; omega
         have hbzt0_3 : ((decV 10 (decP fs_sApiVersionsResponseSupportedFeature v true) false true) (rMany (decV 10 (decP fs_sApiVersionsResponseSupportedFeature v true) false true) kt0_3 (rArr true ⟨(rSpan (rU (rU (kSteps fs_ApiVersionsResponse v kt K0).r).2).1 (rU (rU (kSteps fs_ApiVersionsResponse v kt K0).r).2).2).1.1, false, !(rSpan (rU (rU (kSteps fs_ApiVersionsResponse v kt K0).r).2).1 (rU (rU (kSteps fs_ApiVersionsResponse v kt K0).r).2).2).1.2⟩).2).2).2.bad = true → (decM fs_ApiVersionsResponse v true ⟨s, false, !a.isNone⟩).2.bad = true := fun h => hBt0_3 (by rw [ext0_3]; exact rMany_mono (fun r h => decV_bad (fun r h => decP_bad _ _ _ r h) h) _ (show kt0_3 + 1 ≤ (lT xt0_3.1).length from hklt0_3) (by rw [rMany_succ]; exact h))
         have hLkt0_3 : (rMany (decV 10 (decP fs_sApiVersionsResponseSupportedFeature v true) false true) kt0_3 (rArr true ⟨(rSpan (rU (rU (kSteps fs_ApiVersionsResponse v kt K0).r).2).1 (rU (rU (kSteps fs_ApiVersionsResponse v kt K0).r).2).2).1.1, false, !(rSpan (rU (rU (kSteps fs_ApiVersionsResponse v kt K0).r).2).1 (rU (rU (kSteps fs_ApiVersionsResponse v kt K0).r).2).2).1.2⟩).2).2.s.length ≤ BR := Nat.le_trans (rMany_shr (fun r => decV_shr (fun r => decP_shr _ _ _ r) r) _ _) hmt0_3
         have hLt0_3__ := hLkt0_3
         obtain ⟨xt0_3_0, hxt0_3_0⟩ : ∃ x, x = stepF (Fd.mk 8 0 (-1) (-1) (-1) 0 0 []) v true (rMany (decV 10 (decP fs_sApiVersionsResponseSupportedFeature v true) false true) kt0_3 (rArr true ⟨(rSpan (rU (rU (kSteps fs_ApiVersionsResponse v kt K0).r).2).1 (rU (rU (kSteps fs_ApiVersionsResponse v kt K0).r).2).2).1.1, false, !(rSpan (rU (rU (kSteps fs_ApiVersionsResponse v kt K0).r).2).1 (rU (rU (kSteps fs_ApiVersionsResponse v kt K0).r).2).2).1.2⟩).2).2 := ⟨_, rfl⟩
         obtain ⟨xt0_3_1, hxt0_3_1⟩ : ∃ x, x = stepF (Fd.mk 2 0 (-1) (-1) (-1) 0 0 []) v true xt0_3_0.2 := ⟨_, rfl⟩
         obtain ⟨xt0_3_2, hxt0_3_2⟩ : ∃ x, x = stepF (Fd.mk 2 0 (-1) (-1) (-1) 0 0 []) v true xt0_3_1.2 := ⟨_, rfl⟩
         obtain ⟨ut0_3_, hut0_3_⟩ : ∃ x, x = tailU true xt0_3_2.2 := ⟨_, rfl⟩
         have hDt0_3_ : decP fs_sApiVersionsResponseSupportedFeature v true (rMany (decV 10 (decP fs_sApiVersionsResponseSupportedFeature v true) false true) kt0_3 (rArr true ⟨(rSpan (rU (rU (kSteps fs_ApiVersionsResponse v kt K0).r).2).1 (rU (rU (kSteps fs_ApiVersionsResponse v kt K0).r).2).2).1.1, false, !(rSpan (rU (rU (kSteps fs_ApiVersionsResponse v kt K0).r).2).1 (rU (rU (kSteps fs_ApiVersionsResponse v kt K0).r).2).2).1.2⟩).2).2 = (.mk 0 [] false [xt0_3_0.1, xt0_3_1.1, xt0_3_2.1] ut0_3_.1, ut0_3_.2) := by
          generalize ((rMany (decV 10 (decP fs_sApiVersionsResponseSupportedFeature v true) false true) kt0_3 (rArr true ⟨(rSpan (rU (rU (kSteps fs_ApiVersionsResponse v kt K0).r).2).1 (rU (rU (kSteps fs_ApiVersionsResponse v kt K0).r).2).2).1.1, false, !(rSpan (rU (rU (kSteps fs_ApiVersionsResponse v kt K0).r).2).1 (rU (rU (kSteps fs_ApiVersionsResponse v kt K0).r).2).2).1.2⟩).2).2 : Rd) = r_ at hxt0_3_0 ⊢
          rw [decP_eq]; unfold fs_sApiVersionsResponseSupportedFeature; simp only [decFs_cons, decFs_nil, ← hxt0_3_0, ← hxt0_3_1, ← hxt0_3_2, ← hut0_3_]
         have hLt0_3_0 : xt0_3_0.2.s.length ≤ BR := by rw [hxt0_3_0]; exact Nat.le_trans (stepF_shr _ _ _ _) hLt0_3__
         have hLt0_3_1 : xt0_3_1.2.s.length ≤ BR := by rw [hxt0_3_1]; exact Nat.le_trans (stepF_shr _ _ _ _) hLt0_3_0
         have hLt0_3_2 : xt0_3_2.2.s.length ≤ BR := by rw [hxt0_3_2]; exact Nat.le_trans (stepF_shr _ _ _ _) hLt0_3_1
         have hEt0_3_ : ut0_3_.2.bad = true → (decM fs_ApiVersionsResponse v true ⟨s, false, !a.isNone⟩).2.bad = true := fun h => hbzt0_3 (by show (decP fs_sApiVersionsResponseSupportedFeature v true (rMany (decV 10 (decP fs_sApiVersionsResponseSupportedFeature v true) false true) kt0_3 (rArr true ⟨(rSpan (rU (rU (kSteps fs_ApiVersionsResponse v kt K0).r).2).1 (rU (rU (kSteps fs_ApiVersionsResponse v kt K0).r).2).2).1.1, false, !(rSpan (rU (rU (kSteps fs_ApiVersionsResponse v kt K0).r).2).1 (rU (rU (kSteps fs_ApiVersionsResponse v kt K0).r).2).2).1.2⟩).2).2).2.bad = true; rw [hDt0_3_]; exact h)
         have hBt0_3_2 : xt0_3_2.2.bad = true → (decM fs_ApiVersionsResponse v true ⟨s, false, !a.isNone⟩).2.bad = true := fun h => hEt0_3_ (by rw [hut0_3_]; exact tailU_bad h)
         have hBt0_3_1 : xt0_3_1.2.bad = true → (decM fs_ApiVersionsResponse v true ⟨s, false, !a.isNone⟩).2.bad = true := fun h => hBt0_3_2 (by rw [hxt0_3_2]; exact step_bad h)
         have hBt0_3_0 : xt0_3_0.2.bad = true → (decM fs_ApiVersionsResponse v true ⟨s, false, !a.isNone⟩).2.bad = true := fun h => hBt0_3_1 (by rw [hxt0_3_1]; exact step_bad h)
         refine skt ?_
         refine sq ?_
         refine bl ?_
         refine sr ?_
         refine mv rfl rfl ?_
         refine mv rfl rfl ?_
         refine ixk (j := kt0_3) Tryz.runUnderlying95 Tryz.sizeOf104 rfl hgat0_3 rfl rfl hklt0_3 rfl ?_
         refine asg rfl rfl ?_
         refine nl ?_
         refine sr ?_
         refine mv rfl rfl ?_
         refine cl rfl rfl rfl (def_ApiVersionsResponseSupportedFeature hot0_3) rfl (fun v_ H1 L1 hle_ hR_ => ?_)
         obtain ⟨rfl, rfl⟩ := hR_
         refine nl ?_
         refine sr ?_
         refine mv rfl rfl ?_
         refine asg rfl rfl ?_
         refine nl ?_
         refine sq ?_
         refine sr ?_
         refine asg rfl rfl ?_
         refine nl ?_
         refine sq ?_
         refine sr ?_
         refine mv rfl rfl ?_
         refine nl ?_
         refine cF rfl ?_
         refine sr ?_
         refine mv rfl rfl ?_
         refine nl ?_
         refine cdT rfl (by omega) ?_
         refine rg ?_
         refine tf (.tail .head) ?_
         have ext0_3_0 : xt0_3_0 = decV 8 (decP [] v true) false true (rMany (decV 10 (decP fs_sApiVersionsResponseSupportedFeature v true) false true) kt0_3 (rArr true ⟨(rSpan (rU (rU (kSteps fs_ApiVersionsResponse v kt K0).r).2).1 (rU (rU (kSteps fs_ApiVersionsResponse v kt K0).r).2).2).1.1, false, !(rSpan (rU (rU (kSteps fs_ApiVersionsResponse v kt K0).r).2).1 (rU (rU (kSteps fs_ApiVersionsResponse v kt K0).r).2).2).1.2⟩).2).2 := (hxt0_3_0.trans (step_yes (by decide) (show (0 : Int) ≤ v by omega) (Or.inl (by decide)))).trans (decF'_val (by decide) (rfl))
         refine cl rfl rfl rfl (d8t hR_t0_3 ext0_3_0) rfl (fun v_ H1 L1 le_14 hR_ => ?_)
         obtain ⟨N187, rfl, hR187, rfl, rfl⟩ := hR_
         refine asg rfl rfl ?_
         refine nl ?_
         refine rg ?_
         refine mv rfl rfl ?_
         refine mv rfl rfl ?_
         refine nc rfl rfl ?_
         refine fa F104_0 rfl rfl ?_
         refine stM (off := 0) Tryz.sizeOf9 rfl (by rw [hot0_3]) rfl rfl rfl (.tail .head) ?_
         refine nl ?_
         refine sq ?_
         refine sr ?_
         have ext0_3_1 : xt0_3_1 = decV 2 (decP [] v true) false true xt0_3_0.2 := (hxt0_3_1.trans (step_yes (by decide) (show (0 : Int) ≤ v by omega) (Or.inl (by decide)))).trans (decF'_val (by decide) (rfl))
         refine cl rfl rfl rfl (d2 hR187 ext0_3_1) rfl (fun v_ H1 L1 hle_ hR_ => ?_)
         obtain ⟨N193, rfl, hR193, rfl, rfl⟩ := hR_
         refine asg rfl rfl ?_
         refine nl ?_
         refine rg ?_
         refine mv rfl rfl ?_
         refine mv rfl rfl ?_
         refine nc rfl rfl ?_
         refine fa F104_1 rfl rfl ?_
         refine stM (off := 1) Tryz.sizeOf40 rfl (by rw [hot0_3]) rfl rfl rfl (.tail .head) ?_
         refine nl ?_
         refine sq ?_
         refine sr ?_
         have ext0_3_2 : xt0_3_2 = decV 2 (decP [] v true) false true xt0_3_1.2 := (hxt0_3_2.trans (step_yes (by decide) (show (0 : Int) ≤ v by omega) (Or.inl (by decide)))).trans (decF'_val (by decide) (rfl))
         refine cl rfl rfl rfl (d2 hR193 ext0_3_2) rfl (fun v_ H1 L1 hle_ hR_ => ?_)
         obtain ⟨N198, rfl, hR198, rfl, rfl⟩ := hR_
         refine asg rfl rfl ?_
         refine nl ?_
         refine rg ?_
         refine mv rfl rfl ?_
         refine mv rfl rfl ?_
         refine nc rfl rfl ?_
         refine fa F104_2 rfl rfl ?_
         refine stM (off := 2) Tryz.sizeOf40 rfl (by rw [hot0_3]) rfl rfl rfl (.tail .head) ?_
         refine nl ?_
         refine sr ?_
         refine mv rfl rfl ?_
         refine nl ?_
         refine cdT rfl (by omega) ?_
         refine rg ?_
         refine mv rfl rfl ?_
         refine cl rfl rfl rfl (d_tags hR198) rfl (fun v_ H1 L1 le_17 hR_ => ?_)
         obtain ⟨N205, rfl, hR205, mt0_3_t, rfl, hftt0_3_⟩ := hR_
         have hu2t0_3_ : ut0_3_ = rTags xt0_3_2.2 := hut0_3_
         rw [← hu2t0_3_] at hR205 hftt0_3_
         refine nc rfl rfl ?_
         refine fa F104_3 rfl rfl ?_
         refine saM (off := 3) Tryz.sizeOf63 rfl (by rw [hot0_3]) rfl rfl rfl rfl (.tail .head) ?_
         refine nN ?_
         refine Nb ?_
         refine Nt ?_
         refine rg ?_
         refine mv rfl rfl ?_
         refine ad rfl rfl (c := ((kt0_3 + 1 : Nat) : Int)) ((wrap32_le (by omega) (by omega)).trans (by omega)) rfl ?_
         refine asg rfl rfl ?_
         refine nN ?_
         have hfst0_3 := flatMap_snoc' fk est0_3 ((⟨([.string ⟨xt0_3_0.1.s.toArray⟩, .int .i16 (IntKind.i16.wrap xt0_3_1.1.n), .int .i16 (IntKind.i16.wrap xt0_3_2.1.n), .map mt0_3_t] : List Value), rfl, all_one rfl⟩, ((decV 10 (decP fs_sApiVersionsResponseSupportedFeature v true) false true) (rMany (decV 10 (decP fs_sApiVersionsResponseSupportedFeature v true) false true) kt0_3 (rArr true ⟨(rSpan (rU (rU (kSteps fs_ApiVersionsResponse v kt K0).r).2).1 (rU (rU (kSteps fs_ApiVersionsResponse v kt K0).r).2).2).1.1, false, !(rSpan (rU (rU (kSteps fs_ApiVersionsResponse v kt K0).r).2).1 (rU (rU (kSteps fs_ApiVersionsResponse v kt K0).r).2).2).1.2⟩).2).2).1) : KE 4)
         have hrwt0_3 := hbkt0_3 ([.string ⟨xt0_3_0.1.s.toArray⟩, .int .i16 (IntKind.i16.wrap xt0_3_1.1.n), .int .i16 (IntKind.i16.wrap xt0_3_2.1.n), .map mt0_3_t] : List Value) rfl
         refine tfN (.tail .head) ?_
         refine fun a_ w_ hA hw => ⟨hklt0_3, _, _, _, hA.sub ?_, (le_13.trans le_17), hw, _, _, _, rfl, rfl, (by rw [rMany_succ]; show RdAt _ 117 b_11 (decP fs_sApiVersionsResponseSupportedFeature v true (rMany (decV 10 (decP fs_sApiVersionsResponseSupportedFeature v true) false true) kt0_3 (rArr true ⟨(rSpan (rU (rU (kSteps fs_ApiVersionsResponse v kt K0).r).2).1 (rU (rU (kSteps fs_ApiVersionsResponse v kt K0).r).2).2).1.1, false, !(rSpan (rU (rU (kSteps fs_ApiVersionsResponse v kt K0).r).2).1 (rU (rU (kSteps fs_ApiVersionsResponse v kt K0).r).2).2).1.2⟩).2).2).2 _; rw [hDt0_3_]; exact hR205), (by rw [← hfst0_3]; exact hrwt0_3), (dec_els he_t0_3), (fun p hp => (mem_snoc hp).elim (fun h => At_ApiVersionsResponseSupportedFeature.mono _ _ _ _ le_17 (hg_t0_3 p h)) (fun h => h ▸ (by show At_ApiVersionsResponseSupportedFeature _ (decP fs_sApiVersionsResponseSupportedFeature v true (rMany (decV 10 (decP fs_sApiVersionsResponseSupportedFeature v true) false true) kt0_3 (rArr true ⟨(rSpan (rU (rU (kSteps fs_ApiVersionsResponse v kt K0).r).2).1 (rU (rU (kSteps fs_ApiVersionsResponse v kt K0).r).2).2).1.1, false, !(rSpan (rU (rU (kSteps fs_ApiVersionsResponse v kt K0).r).2).1 (rU (rU (kSteps fs_ApiVersionsResponse v kt K0).r).2).2).1.2⟩).2).2).1 [.string ⟨xt0_3_0.1.s.toArray⟩, .int .i16 (IntKind.i16.wrap xt0_3_1.1.n), .int .i16 (IntKind.i16.wrap xt0_3_2.1.n), .map mt0_3_t]; rw [hDt0_3_]; exact ⟨mt0_3_t, rfl, hftt0_3_⟩)))⟩
         exact (.of ⟨rfl, rfl, rfl, rfl, rfl, rfl, rfl, rfl, rfl, rfl, trivial⟩)
        ·
         have hkn_ : kt0_3 = (lT xt0_3.1).length := by omega
         subst hkn_
         have hw2_t0_3 : Row 104 4 at0_3 (lT xt0_3.1).length ct0_3 (est0_3.flatMap fk) Mt0_3 := by have h := hw_t0_3; rw [Nat.sub_self] at h; simpa [reps] using h
         refine frW hw2_t0_3 .head (fun Hft0_3 hlft0_3 hfzt0_3 => ?_)
         have hrst0_3 := RowsAt.row (R := At_ApiVersionsResponseSupportedFeature) hfzt0_3 hs_t0_3.symm hw2_t0_3.le.1 (fun p hp => At_ApiVersionsResponseSupportedFeature.mono _ _ _ _ hlft0_3 (hg_t0_3 p hp))
         rw [he_t0_3] at hrst0_3
         have hft0_3 : ListAt Hft0_3 xt0_3.1 4 At_ApiVersionsResponseSupportedFeature at0_3 ct0_3 := by rw [ext0_3]; exact listAt_of hrst0_3 hit0_3 (fun h => by have h1 := nul_le h; rw [show (lT xt0_3.1).length = 0 by omega]; rfl)
         have hRxt0_3 : RdAt Hft0_3 117 b_11 xt0_3.2 RNt0_3 := by rw [ext0_3]; exact (hR_t0_3.mono hlft0_3)
         refine exX ?_
         refine XT ?_
         refine XT ?_
         refine Xb ?_
         refine Nt ?_
         refine sr ?_
         refine mv rfl rfl ?_
         refine asg rfl rfl ?_
         refine nl ?_
         refine sr ?_
         refine mv rfl rfl ?_
         refine mv rfl rfl ?_
         refine nc rfl rfl ?_
         refine fa0 F98_4 rfl rfl ?_
         refine st Tryz.sizeOf95 rfl rfl rfl rfl (.tail (.tail (.tail .head))) ?_
         refine nl ?_
         refine sr ?_
         refine cl rfl rfl rfl (r_complete hRxt0_3 (he.mono (le_3.trans (le_4.trans (hlf1.trans (le_10.trans (le_12.trans (le_13.trans hlft0_3)))))))) rfl (fun v_ H1 L1 hle_ hR_ => ?_)
         obtain ⟨rfl, rfl, rfl⟩ := hR_
         refine asg rfl rfl ?_
         refine nl ?_
         refine sr ?_
         refine mv rfl rfl ?_
         rcases hbd : xt0_3.2.bad with _ | _
         ·
          refine nei0 Tryz.underlying50 rfl rfl ?_
          refine nl ?_
          refine cF rfl ?_
          refine skN ?_
          refine Nb ?_
          refine Nb ?_
          refine Nt ?_
          refine rg ?_
          refine mv rfl rfl ?_
          refine sb rfl rfl (c := (((rU x2.2).1 - kt - 1 : Nat) : Int)) ((w32u (by omega) (by omega)).trans (by omega)) rfl ?_
          refine asg rfl rfl ?_
          refine nN ?_
          have hst2 : kStep fs_ApiVersionsResponse v (kSteps fs_ApiVersionsResponse v kt K0) = ⟨(kSteps fs_ApiVersionsResponse v kt K0).l.set 3 xt0_3.1, (kSteps fs_ApiVersionsResponse v kt K0).u, (rSpan (rU (rU (kSteps fs_ApiVersionsResponse v kt K0).r).2).1 (rU (rU (kSteps fs_ApiVersionsResponse v kt K0).r).2).2).2⟩ := by rw [hst, hxd, if_neg (by rw [hbd]; decide)]
          refine drN .head ?_
          refine tfN (.tail .head) ?_
          refine fun a_ w_ hA hw => ⟨hkn, _, _, _, hA.sub ?_, (le_10.trans (le_12.trans (le_13.trans hlft0_3))), hw, xt0_3.1, at0_3, ct0_3, xt4, xt5, a5, c5, xt6, mt, kvs, MT, _, rfl, rfl, (by rw [kSteps_succ, hst2]; exact (hR151.mono (le_12.trans (le_13.trans hlft0_3)))), hMT, (by rw [kSteps_succ, hst2]; exact (hKT.mono (le_12.trans (le_13.trans hlft0_3)))), (by rw [kSteps_succ, hst2]; show List.set _ _ _ = _; rw [hlT]; rfl), hft0_3, (hfT5.mono At_ApiVersionsResponseFinalizedFeature.mono (le_12.trans (le_13.trans hlft0_3))), (fun h => Row.none0 hw2_t0_3 (by have h9 := congrArg Tr.nul h; rw [eyt0_3] at h9; rw [hit0_3]; exact h9)), hz5⟩
          exact (.cons rfl (.cons rfl (.cons rfl (.cons rfl (.cons (by rw [show (rU x2.2).1 - (kt + 1) = (rU x2.2).1 - kt - 1 by omega]; rfl) (.nil _))))))
         ·
          refine nei1 Tryz.underlying50 rfl rfl ?_
          refine nl ?_
          refine cT rfl ?_
          refine sr ?_
          refine mv rfl rfl ?_
          refine asg rfl rfl ?_
          refine nl ?_
          refine drW .head ?_
          refine drW .head ?_
          refine drW .head ?_
          exact rT rfl rfl (le_3.trans (le_4.trans (hlf1.trans (le_10.trans (le_12.trans (le_13.trans hlft0_3)))))) (fun _ _ h => h) ⟨_, rfl, RdEnd.out (hBt0_3 hbd) rfl⟩
     ·
      refine sr ?_
      refine eq' rfl rfl rfl ?_
      refine asg rfl rfl ?_
      refine nl ?_
      refine cd rfl (fun h217 => ?_) (fun h217 => ?_)
      ·
       have hkey : (rU (kSteps fs_ApiVersionsResponse v kt K0).r).1 = 1 := by omega
       refine sr ?_
       refine cl rfl rfl rfl (r_Uvarint hR137) rfl (fun v_ H1 L1 hle_ hR_ => ?_)
       obtain ⟨rfl, N219, rfl, hR219, rfl⟩ := hR_
       have hu219 := rU_lt (rU (kSteps fs_ApiVersionsResponse v kt K0).r).2
       refine cv Tryz.runUnderlying55 Tryz.runUnderlying3 rfl (w64 (by omega) (by omega)) rfl ?_
       refine cl rfl rfl rfl (r_Span hR219) rfl (fun v_ H1 L1 hle_ hR_ => ?_)
       obtain ⟨rfl, N221, rfl, hR221, as221, cs221, rfl, hBs221, hns221⟩ := hR_
       refine bd' S117 rfl rfl rfl ?_
       refine al Tryz.zeroValue117 rfl rfl (fun b_18 => ?_)
       refine sa Tryz.sizeOf117 rfl rfl rfl rfl rfl .head ?_
       have hRi : RdAt _ 117 b_18 ⟨(rSpan (rU (rU (kSteps fs_ApiVersionsResponse v kt K0).r).2).1 (rU (rU (kSteps fs_ApiVersionsResponse v kt K0).r).2).2).1.1, false, !(rSpan (rU (rU (kSteps fs_ApiVersionsResponse v kt K0).r).2).1 (rU (rU (kSteps fs_ApiVersionsResponse v kt K0).r).2).2).1.2⟩ [(b_18, .cells [_, _].toArray 117 (0, 0))] := ⟨_, _, rfl, hBs221, by simp [hns221]⟩
       obtain ⟨xt1_4, hxt1_4⟩ : ∃ x, x = stepF (Fd.mk 4 0 (-1) (-1) (-1) (-1) 0 []) v true ⟨(rSpan (rU (rU (kSteps fs_ApiVersionsResponse v kt K0).r).2).1 (rU (rU (kSteps fs_ApiVersionsResponse v kt K0).r).2).2).1.1, false, !(rSpan (rU (rU (kSteps fs_ApiVersionsResponse v kt K0).r).2).1 (rU (rU (kSteps fs_ApiVersionsResponse v kt K0).r).2).2).1.2⟩ := ⟨_, rfl⟩
       have hst := kStep_yes (v := v) hkey ti_fs_ApiVersionsResponse_1 (show fs_ApiVersionsResponse[4]? = some (fs_ApiVersionsResponse[4]'(by decide)) from rfl)
       have hxd : decF (fs_ApiVersionsResponse[4]'(by decide)) v true ⟨(rSpan (rU (rU (kSteps fs_ApiVersionsResponse v kt K0).r).2).1 (rU (rU (kSteps fs_ApiVersionsResponse v kt K0).r).2).2).1.1, false, !(rSpan (rU (rU (kSteps fs_ApiVersionsResponse v kt K0).r).2).1 (rU (rU (kSteps fs_ApiVersionsResponse v kt K0).r).2).2).1.2⟩ = xt1_4 := (hxt1_4.trans (step_untag (f := (fs_ApiVersionsResponse[4]'(by decide))) (has_yes (show (0 : Int) ≤ v by omega) (Or.inl (by decide))))).symm
       have hLt1__ : (⟨(rSpan (rU (rU (kSteps fs_ApiVersionsResponse v kt K0).r).2).1 (rU (rU (kSteps fs_ApiVersionsResponse v kt K0).r).2).2).1.1, false, !(rSpan (rU (rU (kSteps fs_ApiVersionsResponse v kt K0).r).2).1 (rU (rU (kSteps fs_ApiVersionsResponse v kt K0).r).2).2).1.2⟩ : Rd).s.length ≤ BR := Nat.le_trans (rSpan_take _ _) (Nat.le_trans (rU_len _) (Nat.le_trans (rU_len _) hLK))
       have hLt1_4 : xt1_4.2.s.length ≤ BR := by rw [hxt1_4]; exact Nat.le_trans (stepF_shr _ _ _ _) hLt1__
       have hBt1_4 : xt1_4.2.bad = true → (decM fs_ApiVersionsResponse v true ⟨s, false, !a.isNone⟩).2.bad = true := fun h => hE (by rw [hsK]; exact kSteps_mono (show kt + 1 ≤ (rU x2.2).1 from hkn) (by rw [kSteps_succ, hst, hxd, if_pos h]; rfl))
       refine nl ?_
       refine sr ?_
       have ext1_4 : xt1_4 = decV 4 (decP [] v true) false true ⟨(rSpan (rU (rU (kSteps fs_ApiVersionsResponse v kt K0).r).2).1 (rU (rU (kSteps fs_ApiVersionsResponse v kt K0).r).2).2).1.1, false, !(rSpan (rU (rU (kSteps fs_ApiVersionsResponse v kt K0).r).2).1 (rU (rU (kSteps fs_ApiVersionsResponse v kt K0).r).2).2).1.2⟩ := (hxt1_4.trans (step_yes (by decide) (show (0 : Int) ≤ v by omega) (Or.inl (by decide)))).trans (decF'_val (by decide) (rfl))
       refine cl rfl rfl rfl (d4 hRi ext1_4) rfl (fun v_ H1 L1 hle_ hR_ => ?_)
       obtain ⟨N223, rfl, hR223, rfl, rfl⟩ := hR_
       refine asg rfl rfl ?_
       refine nl ?_
       refine sr ?_
       refine mv rfl rfl ?_
       refine mv rfl rfl ?_
       refine nc rfl rfl ?_
       refine fa0 F98_5 rfl rfl ?_
       refine st Tryz.sizeOf2 rfl rfl rfl rfl (.tail (.tail (.tail .head))) ?_
       refine nl ?_
       refine sr ?_
       refine cl rfl rfl rfl (r_complete hR223 (he.mono (le_3.trans (le_4.trans (hlf1.trans le_10))))) rfl (fun v_ H1 L1 hle_ hR_ => ?_)
       obtain ⟨rfl, rfl, rfl⟩ := hR_
       refine asg rfl rfl ?_
       refine nl ?_
       refine sr ?_
       refine mv rfl rfl ?_
       rcases hbd : xt1_4.2.bad with _ | _
       ·
        refine nei0 Tryz.underlying50 rfl rfl ?_
        refine nl ?_
        refine cF rfl ?_
        refine skN ?_
        refine Nb ?_
        refine Nb ?_
        refine Nt ?_
        refine rg ?_
        refine mv rfl rfl ?_
        refine sb rfl rfl (c := (((rU x2.2).1 - kt - 1 : Nat) : Int)) ((w32u (by omega) (by omega)).trans (by omega)) rfl ?_
        refine asg rfl rfl ?_
        refine nN ?_
        have hst2 : kStep fs_ApiVersionsResponse v (kSteps fs_ApiVersionsResponse v kt K0) = ⟨(kSteps fs_ApiVersionsResponse v kt K0).l.set 4 xt1_4.1, (kSteps fs_ApiVersionsResponse v kt K0).u, (rSpan (rU (rU (kSteps fs_ApiVersionsResponse v kt K0).r).2).1 (rU (rU (kSteps fs_ApiVersionsResponse v kt K0).r).2).2).2⟩ := by rw [hst, hxd, if_neg (by rw [hbd]; decide)]
        refine drN .head ?_
        refine tfN (.tail .head) ?_
        refine fun a_ w_ hA hw => ⟨hkn, _, _, _, hA.sub ?_, le_10, hw, xt3, a3, c3, xt1_4.1, xt5, a5, c5, xt6, mt, kvs, MT, _, rfl, rfl, (by rw [kSteps_succ, hst2]; exact hR221), hMT, (by rw [kSteps_succ, hst2]; exact hKT), (by rw [kSteps_succ, hst2]; show List.set _ _ _ = _; rw [hlT]; rfl), hfT3, hfT5, hz3, hz5⟩
        exact (.cons rfl (.cons rfl (.cons rfl (.cons rfl (.cons (by rw [show (rU x2.2).1 - (kt + 1) = (rU x2.2).1 - kt - 1 by omega]; rfl) (.nil _))))))
       ·
        refine nei1 Tryz.underlying50 rfl rfl ?_
        refine nl ?_
        refine cT rfl ?_
        refine sr ?_
        refine mv rfl rfl ?_
        refine asg rfl rfl ?_
        refine nl ?_
        refine drW .head ?_
        refine drW .head ?_
        refine drW .head ?_
        exact rT rfl rfl (le_3.trans (le_4.trans (hlf1.trans le_10))) (fun _ _ h => h) ⟨_, rfl, RdEnd.out (hBt1_4 hbd) rfl⟩
      ·
       refine sr ?_
       refine eq' rfl rfl rfl ?_
       refine asg rfl rfl ?_
       refine nl ?_
       refine cd rfl (fun h232 => ?_) (fun h232 => ?_)
       ·
        have hkey : (rU (kSteps fs_ApiVersionsResponse v kt K0).r).1 = 2 := by omega
        have hxt : xt5 = (Tr.mk 0 [] true [] []) := by
         have h := hFresh.at_ kt hkn _ (show _ = some (fs_ApiVersionsResponse[5]'(by decide)) by rw [hkey, ti_fs_ApiVersionsResponse_2]; rfl)
         rw [hkey, ti_fs_ApiVersionsResponse_2, hlT] at h
         exact (Option.some.inj h).trans (by rw [dflF_eq]; rfl)
        obtain ⟨rfl, rfl⟩ := hz5 hxt
        refine sr ?_
        refine cl rfl rfl rfl (r_Uvarint hR137) rfl (fun v_ H1 L1 hle_ hR_ => ?_)
        obtain ⟨rfl, N234, rfl, hR234, rfl⟩ := hR_
        have hu234 := rU_lt (rU (kSteps fs_ApiVersionsResponse v kt K0).r).2
        refine cv Tryz.runUnderlying55 Tryz.runUnderlying3 rfl (w64 (by omega) (by omega)) rfl ?_
        refine cl rfl rfl rfl (r_Span hR234) rfl (fun v_ H1 L1 hle_ hR_ => ?_)
        obtain ⟨rfl, N236, rfl, hR236, as236, cs236, rfl, hBs236, hns236⟩ := hR_
        refine bd' S117 rfl rfl rfl ?_
        refine al Tryz.zeroValue117 rfl rfl (fun b_20 => ?_)
        refine sa Tryz.sizeOf117 rfl rfl rfl rfl rfl .head ?_
        have hRi : RdAt _ 117 b_20 ⟨(rSpan (rU (rU (kSteps fs_ApiVersionsResponse v kt K0).r).2).1 (rU (rU (kSteps fs_ApiVersionsResponse v kt K0).r).2).2).1.1, false, !(rSpan (rU (rU (kSteps fs_ApiVersionsResponse v kt K0).r).2).1 (rU (rU (kSteps fs_ApiVersionsResponse v kt K0).r).2).2).1.2⟩ [(b_20, .cells [_, _].toArray 117 (0, 0))] := ⟨_, _, rfl, hBs236, by simp [hns236]⟩
        obtain ⟨xt2_5, hxt2_5⟩ : ∃ x, x = stepF (Fd.mk 11 0 (-1) (-1) (-1) 0 10 fs_sApiVersionsResponseFinalizedFeature) v true ⟨(rSpan (rU (rU (kSteps fs_ApiVersionsResponse v kt K0).r).2).1 (rU (rU (kSteps fs_ApiVersionsResponse v kt K0).r).2).2).1.1, false, !(rSpan (rU (rU (kSteps fs_ApiVersionsResponse v kt K0).r).2).1 (rU (rU (kSteps fs_ApiVersionsResponse v kt K0).r).2).2).1.2⟩ := ⟨_, rfl⟩
        have hst := kStep_yes (v := v) hkey ti_fs_ApiVersionsResponse_2 (show fs_ApiVersionsResponse[5]? = some (fs_ApiVersionsResponse[5]'(by decide)) from rfl)
        have hxd : decF (fs_ApiVersionsResponse[5]'(by decide)) v true ⟨(rSpan (rU (rU (kSteps fs_ApiVersionsResponse v kt K0).r).2).1 (rU (rU (kSteps fs_ApiVersionsResponse v kt K0).r).2).2).1.1, false, !(rSpan (rU (rU (kSteps fs_ApiVersionsResponse v kt K0).r).2).1 (rU (rU (kSteps fs_ApiVersionsResponse v kt K0).r).2).2).1.2⟩ = xt2_5 := (hxt2_5.trans (step_untag (f := (fs_ApiVersionsResponse[5]'(by decide))) (has_yes (show (0 : Int) ≤ v by omega) (Or.inl (by decide))))).symm
        have hLt2__ : (⟨(rSpan (rU (rU (kSteps fs_ApiVersionsResponse v kt K0).r).2).1 (rU (rU (kSteps fs_ApiVersionsResponse v kt K0).r).2).2).1.1, false, !(rSpan (rU (rU (kSteps fs_ApiVersionsResponse v kt K0).r).2).1 (rU (rU (kSteps fs_ApiVersionsResponse v kt K0).r).2).2).1.2⟩ : Rd).s.length ≤ BR := Nat.le_trans (rSpan_take _ _) (Nat.le_trans (rU_len _) (Nat.le_trans (rU_len _) hLK))
        have hLt2_5 : xt2_5.2.s.length ≤ BR := by rw [hxt2_5]; exact Nat.le_trans (stepF_shr _ _ _ _) hLt2__
        have hBt2_5 : xt2_5.2.bad = true → (decM fs_ApiVersionsResponse v true ⟨s, false, !a.isNone⟩).2.bad = true := fun h => hE (by rw [hsK]; exact kSteps_mono (show kt + 1 ≤ (rU x2.2).1 from hkn) (by rw [kSteps_succ, hst, hxd, if_pos h]; rfl))
        refine nl ?_
        refine sr ?_
        refine mv rfl rfl ?_
        refine nc rfl rfl ?_
        refine fa0 F98_6 rfl rfl ?_
        refine ld (Says.own (.tail (.tail (.tail .head)))) Tryz.isAgg96 rfl (Nat.zero_add _).symm rfl rfl ?_
        refine asg rfl rfl ?_
        refine nl ?_
        refine sr ?_
        refine mv rfl rfl ?_
        refine asg rfl rfl ?_
        refine nl ?_
        refine sr ?_
        refine asg rfl rfl ?_
        refine nl ?_
        refine sq ?_
        refine sr ?_
        refine mv rfl rfl ?_
        refine nl ?_
        refine cdT rfl (by omega) ?_
        refine rg ?_
        have eyt2_5 : xt2_5 = (.mk 0 [] (if 0 ≤ ((-1) : Int) ∧ (v < ((-1) : Int) ∨ (rArr true ⟨(rSpan (rU (rU (kSteps fs_ApiVersionsResponse v kt K0).r).2).1 (rU (rU (kSteps fs_ApiVersionsResponse v kt K0).r).2).2).1.1, false, !(rSpan (rU (rU (kSteps fs_ApiVersionsResponse v kt K0).r).2).1 (rU (rU (kSteps fs_ApiVersionsResponse v kt K0).r).2).2).1.2⟩).1 = 0) then false else decide ((rArr true ⟨(rSpan (rU (rU (kSteps fs_ApiVersionsResponse v kt K0).r).2).1 (rU (rU (kSteps fs_ApiVersionsResponse v kt K0).r).2).2).1.1, false, !(rSpan (rU (rU (kSteps fs_ApiVersionsResponse v kt K0).r).2).1 (rU (rU (kSteps fs_ApiVersionsResponse v kt K0).r).2).2).1.2⟩).1 ≤ 0)) (rMany (decV 10 (decP fs_sApiVersionsResponseFinalizedFeature v true) false true) (rArr true ⟨(rSpan (rU (rU (kSteps fs_ApiVersionsResponse v kt K0).r).2).1 (rU (rU (kSteps fs_ApiVersionsResponse v kt K0).r).2).2).1.1, false, !(rSpan (rU (rU (kSteps fs_ApiVersionsResponse v kt K0).r).2).1 (rU (rU (kSteps fs_ApiVersionsResponse v kt K0).r).2).2).1.2⟩).1.toNat (rArr true ⟨(rSpan (rU (rU (kSteps fs_ApiVersionsResponse v kt K0).r).2).1 (rU (rU (kSteps fs_ApiVersionsResponse v kt K0).r).2).2).1.1, false, !(rSpan (rU (rU (kSteps fs_ApiVersionsResponse v kt K0).r).2).1 (rU (rU (kSteps fs_ApiVersionsResponse v kt K0).r).2).2).1.2⟩).2).1 [], (rMany (decV 10 (decP fs_sApiVersionsResponseFinalizedFeature v true) false true) (rArr true ⟨(rSpan (rU (rU (kSteps fs_ApiVersionsResponse v kt K0).r).2).1 (rU (rU (kSteps fs_ApiVersionsResponse v kt K0).r).2).2).1.1, false, !(rSpan (rU (rU (kSteps fs_ApiVersionsResponse v kt K0).r).2).1 (rU (rU (kSteps fs_ApiVersionsResponse v kt K0).r).2).2).1.2⟩).1.toNat (rArr true ⟨(rSpan (rU (rU (kSteps fs_ApiVersionsResponse v kt K0).r).2).1 (rU (rU (kSteps fs_ApiVersionsResponse v kt K0).r).2).2).1.1, false, !(rSpan (rU (rU (kSteps fs_ApiVersionsResponse v kt K0).r).2).1 (rU (rU (kSteps fs_ApiVersionsResponse v kt K0).r).2).2).1.2⟩).2).2) := (hxt2_5.trans (step_yes (by decide) (show (0 : Int) ≤ v by omega) (Or.inl (by decide)))).trans (decF'_list rfl rfl)
        have hnt2_5 : (rArr true ⟨(rSpan (rU (rU (kSteps fs_ApiVersionsResponse v kt K0).r).2).1 (rU (rU (kSteps fs_ApiVersionsResponse v kt K0).r).2).2).1.1, false, !(rSpan (rU (rU (kSteps fs_ApiVersionsResponse v kt K0).r).2).1 (rU (rU (kSteps fs_ApiVersionsResponse v kt K0).r).2).2).1.2⟩).1.toNat = (lT xt2_5.1).length := by rw [eyt2_5]; exact (lT_many nul_le).symm
        have ext2_5 := eyt2_5
        rw [hnt2_5] at ext2_5
        have hlt2_5 := rArr_le true ⟨(rSpan (rU (rU (kSteps fs_ApiVersionsResponse v kt K0).r).2).1 (rU (rU (kSteps fs_ApiVersionsResponse v kt K0).r).2).2).1.1, false, !(rSpan (rU (rU (kSteps fs_ApiVersionsResponse v kt K0).r).2).1 (rU (rU (kSteps fs_ApiVersionsResponse v kt K0).r).2).2).1.2⟩
        have hmt2_5 : (rArr true ⟨(rSpan (rU (rU (kSteps fs_ApiVersionsResponse v kt K0).r).2).1 (rU (rU (kSteps fs_ApiVersionsResponse v kt K0).r).2).2).1.1, false, !(rSpan (rU (rU (kSteps fs_ApiVersionsResponse v kt K0).r).2).1 (rU (rU (kSteps fs_ApiVersionsResponse v kt K0).r).2).2).1.2⟩).2.s.length ≤ BR := Nat.le_trans (rArr_len true ⟨(rSpan (rU (rU (kSteps fs_ApiVersionsResponse v kt K0).r).2).1 (rU (rU (kSteps fs_ApiVersionsResponse v kt K0).r).2).2).1.1, false, !(rSpan (rU (rU (kSteps fs_ApiVersionsResponse v kt K0).r).2).1 (rU (rU (kSteps fs_ApiVersionsResponse v kt K0).r).2).2).1.2⟩) hLt2__
        have hnbt2_5 : (lT xt2_5.1).length ≤ BR := by omega
        refine cl rfl rfl rfl (r_arrt hRi) rfl (fun v_ H1 L1 hle_ hR_ => ?_)
        obtain ⟨rfl, N244, rfl, hR244, rfl⟩ := hR_
        have hht2_5 := rArr_hi true ⟨(rSpan (rU (rU (kSteps fs_ApiVersionsResponse v kt K0).r).2).1 (rU (rU (kSteps fs_ApiVersionsResponse v kt K0).r).2).2).1.1, false, !(rSpan (rU (rU (kSteps fs_ApiVersionsResponse v kt K0).r).2).1 (rU (rU (kSteps fs_ApiVersionsResponse v kt K0).r).2).2).1.2⟩
        refine asg rfl rfl ?_
        refine nl ?_
        refine sq ?_
        refine sr ?_
        refine cl rfl rfl rfl (r_ok hR244) rfl (fun v_ H1 L1 hle_ hR_ => ?_)
        obtain ⟨rfl, rfl, rfl⟩ := hR_
        refine nt rfl rfl ?_
        refine nl ?_
        refine cb rfl (fun h247 => ?_) (fun h247 => ?_)
        ·
         have hbad_ : (rArr true ⟨(rSpan (rU (rU (kSteps fs_ApiVersionsResponse v kt K0).r).2).1 (rU (rU (kSteps fs_ApiVersionsResponse v kt K0).r).2).2).1.1, false, !(rSpan (rU (rU (kSteps fs_ApiVersionsResponse v kt K0).r).2).1 (rU (rU (kSteps fs_ApiVersionsResponse v kt K0).r).2).2).1.2⟩).2.bad = true := by simpa using h247
         refine sr ?_
         refine cl rfl rfl rfl (r_complete hR244 (he.mono (le_3.trans (le_4.trans (hlf1.trans le_10))))) rfl (fun v_ H1 L1 hle_ hR_ => ?_)
         obtain ⟨rfl, rfl, rfl⟩ := hR_
         refine asg rfl rfl ?_
         refine nl ?_
         refine drW .head ?_
         refine drW .head ?_
         refine drW .head ?_
         exact rT rfl rfl (le_3.trans (le_4.trans (hlf1.trans le_10))) (fun _ _ h => h) ⟨_, rfl, RdEnd.out (hBt2_5 (by rw [eyt2_5]; exact rMany_bad (fun r h => decV_bad (decP_bad _ _ _) h) _ _ hbad_)) hbad_⟩
        ·
         refine skt ?_
         refine sr ?_
         refine mv rfl rfl ?_
         refine sh' (j := 0) Tryz.runUnderlying96 Tryz.sizeOf108 rfl rfl rfl (Nat.zero_le _) rfl ?_
         refine asg rfl rfl ?_
         refine nl ?_
         refine sq ?_
         refine sr ?_
         refine mv rfl rfl ?_
         refine gt rfl rfl rfl ?_
         refine nl ?_
         refine nulC2 ?_
         refine cutT (fun l' H' L' => ∃ (at2_5 : Option Addr), ∃ (ct2_5 : Nat), ∃ (Nrt2_5 : Chunk), [(2, .bool false), (7, .pointer (some ⟨b_1, 0, none⟩)), (9, .bool (decide ((3 : Int) ≤ v))), (10, .pointer (some ⟨b, 0, none⟩)), (22, .int .u32 (((rU x2.2).1 - kt : Nat) : Int)), (38, .pointer (some ⟨b_20, 0, none⟩)), (39, .slice none (lT xt5).length 0), (40, .slice at2_5 (lT xt2_5.1).length ct2_5), (41, .int .i32 (rArr true ⟨(rSpan (rU (rU (kSteps fs_ApiVersionsResponse v kt K0).r).2).1 (rU (rU (kSteps fs_ApiVersionsResponse v kt K0).r).2).2).1.1, false, !(rSpan (rU (rU (kSteps fs_ApiVersionsResponse v kt K0).r).2).1 (rU (rU (kSteps fs_ApiVersionsResponse v kt K0).r).2).2).1.2⟩).1)] = l' ∧ Nrt2_5 :: N244 :: N236 :: MT :: [(b, .cells [.int .i16 v, .int .i16 (IntKind.i16.wrap x0.1.n), .slice a1 (lT x1.1).length c1, .int .i32 (IntKind.i32.wrap x2.1.n), .slice a3 (lT xt3).length c3, .int .i64 xt4.n, .slice none (lT xt5).length 0, .bool (decide (xt6.n % 2 = 1)), .map mt].toArray 98 (0, 0))] :: L = L' ∧ Row 108 4 at2_5 (lT xt2_5.1).length ct2_5 (reps [.string ⟨#[]⟩, .int .i16 0, .int .i16 0, .map none] (lT xt2_5.1).length) Nrt2_5 ∧ at2_5.isNone = (if 0 ≤ ((-1) : Int) ∧ (v < ((-1) : Int) ∨ (rArr true ⟨(rSpan (rU (rU (kSteps fs_ApiVersionsResponse v kt K0).r).2).1 (rU (rU (kSteps fs_ApiVersionsResponse v kt K0).r).2).2).1.1, false, !(rSpan (rU (rU (kSteps fs_ApiVersionsResponse v kt K0).r).2).1 (rU (rU (kSteps fs_ApiVersionsResponse v kt K0).r).2).2).1.2⟩).1 = 0) then false else decide ((rArr true ⟨(rSpan (rU (rU (kSteps fs_ApiVersionsResponse v kt K0).r).2).1 (rU (rU (kSteps fs_ApiVersionsResponse v kt K0).r).2).2).1.1, false, !(rSpan (rU (rU (kSteps fs_ApiVersionsResponse v kt K0).r).2).1 (rU (rU (kSteps fs_ApiVersionsResponse v kt K0).r).2).2).1.2⟩).1 ≤ 0))) ?_ (fun l' H' L' le_21 hI => ?_)
         ·
          refine cd rfl (fun h252 => ?_) (fun h252 => ?_)
          ·
           refine rg ?_
           refine mv rfl rfl ?_
           refine mv rfl rfl ?_
           refine apz (zs := [.string ⟨#[]⟩, .int .i16 0, .int .i16 0, .map none]) (m := (lT xt2_5.1).length) Tryz.underlying96 Tryz.underlying21 I108 rfl rfl rfl (by omega) (by omega) (by have h9 := hnbt2_5; unfold BR at h9; omega) (by have h9 := hnbt2_5; unfold BR at h9; unfold maxLen; omega) rfl (fun g255 cp255 N255 r255 => ?_)
           refine asg rfl rfl ?_
           refine nN ?_
           refine drN (.tail .head) ?_
           refine fun a_ w_ hA hw => ⟨_, _, _, hA.sub ?_, ler, hw, (some ⟨g255, 0, none⟩), cp255, N255, rfl, rfl, r255, (by rw [if_neg (by omega)]; exact (decide_eq_false (by omega)).symm)⟩
           exact (.cons rfl (.cons rfl (.cons rfl (.cons rfl (.cons rfl (.cons rfl (.cons rfl (.cons rfl (.cons rfl (.nil _))))))))))
          ·
           refine skN ?_
           refine fun a_ w_ hA hw => ⟨_, _, _, hA.sub ?_, ler, hw, none, 0, [], rfl, rfl, (by rw [show (lT xt2_5.1).length = 0 by omega]; exact (Row.nil _ _)), (by rw [if_neg (by omega)]; exact (decide_eq_true (by omega)).symm)⟩
           exact (.cons rfl (.cons rfl (.cons rfl (.cons rfl (.cons rfl (.cons rfl (.cons rfl (.cons (by rw [show (lT xt2_5.1).length = 0 by omega]; rfl) (.cons rfl (.nil _))))))))))
         ·
          obtain ⟨at2_5, ct2_5, Nrt2_5, rfl, rfl, pj0, pj1⟩ := hI
          have hrt2_5 := pj0
          have hit2_5 := pj1
          refine sq ?_
          refine sr ?_
          refine asg rfl rfl ?_
          refine nl ?_
          refine bl (lp ((lT xt2_5.1).length) (fun kt2_5 l' H' L' => ∃ (est2_5 : List (KE 4)) (Mt2_5 RNt2_5 : Chunk), [(2, .bool false), (7, .pointer (some ⟨b_1, 0, none⟩)), (9, .bool (decide ((3 : Int) ≤ v))), (10, .pointer (some ⟨b, 0, none⟩)), (22, .int .u32 (((rU x2.2).1 - kt : Nat) : Int)), (38, .pointer (some ⟨b_20, 0, none⟩)), (39, .slice none (lT xt5).length 0), (40, .slice at2_5 (lT xt2_5.1).length ct2_5), (41, .int .i32 (rArr true ⟨(rSpan (rU (rU (kSteps fs_ApiVersionsResponse v kt K0).r).2).1 (rU (rU (kSteps fs_ApiVersionsResponse v kt K0).r).2).2).1.1, false, !(rSpan (rU (rU (kSteps fs_ApiVersionsResponse v kt K0).r).2).1 (rU (rU (kSteps fs_ApiVersionsResponse v kt K0).r).2).2).1.2⟩).1), (42, .int .i32 (kt2_5 : Int))] = l' ∧ Mt2_5 :: RNt2_5 :: N236 :: MT :: [(b, .cells [.int .i16 v, .int .i16 (IntKind.i16.wrap x0.1.n), .slice a1 (lT x1.1).length c1, .int .i32 (IntKind.i32.wrap x2.1.n), .slice a3 (lT xt3).length c3, .int .i64 xt4.n, .slice none (lT xt5).length 0, .bool (decide (xt6.n % 2 = 1)), .map mt].toArray 98 (0, 0))] :: L = L' ∧ RdAt H' 117 b_20 (rMany (decV 10 (decP fs_sApiVersionsResponseFinalizedFeature v true) false true) kt2_5 (rArr true ⟨(rSpan (rU (rU (kSteps fs_ApiVersionsResponse v kt K0).r).2).1 (rU (rU (kSteps fs_ApiVersionsResponse v kt K0).r).2).2).1.1, false, !(rSpan (rU (rU (kSteps fs_ApiVersionsResponse v kt K0).r).2).1 (rU (rU (kSteps fs_ApiVersionsResponse v kt K0).r).2).2).1.2⟩).2).2 RNt2_5 ∧ Row 108 4 at2_5 (lT xt2_5.1).length ct2_5 (est2_5.flatMap fk ++ reps [.string ⟨#[]⟩, .int .i16 0, .int .i16 0, .map none] ((lT xt2_5.1).length - kt2_5)) Mt2_5 ∧ est2_5.map (·.2) = (rMany (decV 10 (decP fs_sApiVersionsResponseFinalizedFeature v true) false true) kt2_5 (rArr true ⟨(rSpan (rU (rU (kSteps fs_ApiVersionsResponse v kt K0).r).2).1 (rU (rU (kSteps fs_ApiVersionsResponse v kt K0).r).2).2).1.1, false, !(rSpan (rU (rU (kSteps fs_ApiVersionsResponse v kt K0).r).2).1 (rU (rU (kSteps fs_ApiVersionsResponse v kt K0).r).2).2).1.2⟩).2).1 ∧ ∀ p ∈ est2_5, At_ApiVersionsResponseFinalizedFeature H' p.2 (fk p)) [(2, .bool false), (7, .pointer (some ⟨b_1, 0, none⟩)), (9, .bool (decide ((3 : Int) ≤ v))), (10, .pointer (some ⟨b, 0, none⟩)), (22, .int .u32 (((rU x2.2).1 - kt : Nat) : Int)), (38, .pointer (some ⟨b_20, 0, none⟩)), (39, .slice none (lT xt5).length 0), (40, .slice at2_5 (lT xt2_5.1).length ct2_5), (41, .int .i32 (rArr true ⟨(rSpan (rU (rU (kSteps fs_ApiVersionsResponse v kt K0).r).2).1 (rU (rU (kSteps fs_ApiVersionsResponse v kt K0).r).2).2).1.1, false, !(rSpan (rU (rU (kSteps fs_ApiVersionsResponse v kt K0).r).2).1 (rU (rU (kSteps fs_ApiVersionsResponse v kt K0).r).2).2).1.2⟩).1), (42, .int .i32 (0 : Int))] (.of ⟨rfl, rfl, rfl, rfl, rfl, rfl, rfl, rfl, rfl, rfl, trivial⟩) ⟨[], Nrt2_5, _, rfl, rfl, (hR244.mono le_21), hrt2_5, rfl, (fun p hp => by cases hp)⟩ (fun kt2_5 l' H' L' hkt2_5 le_22 hI => ?_))
          obtain ⟨est2_5, Mt2_5, RNt2_5, rfl, rfl, hR_t2_5, hw_t2_5, he_t2_5, hg_t2_5⟩ := hI
          have hs_t2_5 := els_len he_t2_5
          have hp_t2_5 : (est2_5.flatMap fk).length = kt2_5 * 4 := els_flat hs_t2_5
          refine sq ?_
          refine sr ?_
          refine mv rfl rfl ?_
          refine mv rfl rfl ?_
          refine lt rfl rfl rfl ?_
          refine nl ?_
          refine cd rfl (fun h258 => ?_) (fun h258 => ?_)
          ·
           have hklt2_5 : kt2_5 < (lT xt2_5.1).length := by omega
           obtain ⟨gt2_5, pot2_5, hgat2_5, rfl, hbkt2_5⟩ := hw_t2_5.next (zs := [.string ⟨#[]⟩, .int .i16 0, .int .i16 0, .map none]) hklt2_5 rfl (by decide)
           have hot2_5 : 0 + kt2_5 * 4 = (est2_5.flatMap fk).length := by rw [hp_t2_5]; omega
           have hbzt2_5 : ((decV 10 (decP fs_sApiVersionsResponseFinalizedFeature v true) false true) (rMany (decV 10 (decP fs_sApiVersionsResponseFinalizedFeature v true) false true) kt2_5 (rArr true ⟨(rSpan (rU (rU (kSteps fs_ApiVersionsResponse v kt K0).r).2).1 (rU (rU (kSteps fs_ApiVersionsResponse v kt K0).r).2).2).1.1, false, !(rSpan (rU (rU (kSteps fs_ApiVersionsResponse v kt K0).r).2).1 (rU (rU (kSteps fs_ApiVersionsResponse v kt K0).r).2).2).1.2⟩).2).2).2.bad = true → (decM fs_ApiVersionsResponse v true ⟨s, false, !a.isNone⟩).2.bad = true := fun h => hBt2_5 (by rw [ext2_5]; exact rMany_mono (fun r h => decV_bad (fun r h => decP_bad _ _ _ r h) h) _ (show kt2_5 + 1 ≤ (lT xt2_5.1).length from hklt2_5) (by rw [rMany_succ]; exact h))
           have hLkt2_5 : (rMany (decV 10 (decP fs_sApiVersionsResponseFinalizedFeature v true) false true) kt2_5 (rArr true ⟨(rSpan (rU (rU (kSteps fs_ApiVersionsResponse v kt K0).r).2).1 (rU (rU (kSteps fs_ApiVersionsResponse v kt K0).r).2).2).1.1, false, !(rSpan (rU (rU (kSteps fs_ApiVersionsResponse v kt K0).r).2).1 (rU (rU (kSteps fs_ApiVersionsResponse v kt K0).r).2).2).1.2⟩).2).2.s.length ≤ BR := Nat.le_trans (rMany_shr (fun r => decV_shr (fun r => decP_shr _ _ _ r) r) _ _) hmt2_5
           have hLt2_5__ := hLkt2_5
           obtain ⟨xt2_5_0, hxt2_5_0⟩ : ∃ x, x = stepF (Fd.mk 8 0 (-1) (-1) (-1) 0 0 []) v true (rMany (decV 10 (decP fs_sApiVersionsResponseFinalizedFeature v true) false true) kt2_5 (rArr true ⟨(rSpan (rU (rU (kSteps fs_ApiVersionsResponse v kt K0).r).2).1 (rU (rU (kSteps fs_ApiVersionsResponse v kt K0).r).2).2).1.1, false, !(rSpan (rU (rU (kSteps fs_ApiVersionsResponse v kt K0).r).2).1 (rU (rU (kSteps fs_ApiVersionsResponse v kt K0).r).2).2).1.2⟩).2).2 := ⟨_, rfl⟩
           obtain ⟨xt2_5_1, hxt2_5_1⟩ : ∃ x, x = stepF (Fd.mk 2 0 (-1) (-1) (-1) 0 0 []) v true xt2_5_0.2 := ⟨_, rfl⟩
           obtain ⟨xt2_5_2, hxt2_5_2⟩ : ∃ x, x = stepF (Fd.mk 2 0 (-1) (-1) (-1) 0 0 []) v true xt2_5_1.2 := ⟨_, rfl⟩
           obtain ⟨ut2_5_, hut2_5_⟩ : ∃ x, x = tailU true xt2_5_2.2 := ⟨_, rfl⟩
           have hDt2_5_ : decP fs_sApiVersionsResponseFinalizedFeature v true (rMany (decV 10 (decP fs_sApiVersionsResponseFinalizedFeature v true) false true) kt2_5 (rArr true ⟨(rSpan (rU (rU (kSteps fs_ApiVersionsResponse v kt K0).r).2).1 (rU (rU (kSteps fs_ApiVersionsResponse v kt K0).r).2).2).1.1, false, !(rSpan (rU (rU (kSteps fs_ApiVersionsResponse v kt K0).r).2).1 (rU (rU (kSteps fs_ApiVersionsResponse v kt K0).r).2).2).1.2⟩).2).2 = (.mk 0 [] false [xt2_5_0.1, xt2_5_1.1, xt2_5_2.1] ut2_5_.1, ut2_5_.2) := by
            generalize ((rMany (decV 10 (decP fs_sApiVersionsResponseFinalizedFeature v true) false true) kt2_5 (rArr true ⟨(rSpan (rU (rU (kSteps fs_ApiVersionsResponse v kt K0).r).2).1 (rU (rU (kSteps fs_ApiVersionsResponse v kt K0).r).2).2).1.1, false, !(rSpan (rU (rU (kSteps fs_ApiVersionsResponse v kt K0).r).2).1 (rU (rU (kSteps fs_ApiVersionsResponse v kt K0).r).2).2).1.2⟩).2).2 : Rd) = r_ at hxt2_5_0 ⊢
            rw [decP_eq]; unfold fs_sApiVersionsResponseFinalizedFeature; simp only [decFs_cons, decFs_nil, ← hxt2_5_0, ← hxt2_5_1, ← hxt2_5_2, ← hut2_5_]
           have hLt2_5_0 : xt2_5_0.2.s.length ≤ BR := by rw [hxt2_5_0]; exact Nat.le_trans (stepF_shr _ _ _ _) hLt2_5__
           have hLt2_5_1 : xt2_5_1.2.s.length ≤ BR := by rw [hxt2_5_1]; exact Nat.le_trans (stepF_shr _ _ _ _) hLt2_5_0
           have hLt2_5_2 : xt2_5_2.2.s.length ≤ BR := by rw [hxt2_5_2]; exact Nat.le_trans (stepF_shr _ _ _ _) hLt2_5_1
           have hEt2_5_ : ut2_5_.2.bad = true → (decM fs_ApiVersionsResponse v true ⟨s, false, !a.isNone⟩).2.bad = true := fun h => hbzt2_5 (by show (decP fs_sApiVersionsResponseFinalizedFeature v true (rMany (decV 10 (decP fs_sApiVersionsResponseFinalizedFeature v true) false true) kt2_5 (rArr true ⟨(rSpan (rU (rU (kSteps fs_ApiVersionsResponse v kt K0).r).2).1 (rU (rU (kSteps fs_ApiVersionsResponse v kt K0).r).2).2).1.1, false, !(rSpan (rU (rU (kSteps fs_ApiVersionsResponse v kt K0).r).2).1 (rU (rU (kSteps fs_ApiVersionsResponse v kt K0).r).2).2).1.2⟩).2).2).2.bad = true; rw [hDt2_5_]; exact h)
           have hBt2_5_2 : xt2_5_2.2.bad = true → (decM fs_ApiVersionsResponse v true ⟨s, false, !a.isNone⟩).2.bad = true := fun h => hEt2_5_ (by rw [hut2_5_]; exact tailU_bad h)
           have hBt2_5_1 : xt2_5_1.2.bad = true → (decM fs_ApiVersionsResponse v true ⟨s, false, !a.isNone⟩).2.bad = true := fun h => hBt2_5_2 (by rw [hxt2_5_2]; exact step_bad h)
           have hBt2_5_0 : xt2_5_0.2.bad = true → (decM fs_ApiVersionsResponse v true ⟨s, false, !a.isNone⟩).2.bad = true := fun h => hBt2_5_1 (by rw [hxt2_5_1]; exact step_bad h)
           refine skt ?_
           refine sq ?_
           refine bl ?_
           refine sr ?_
           refine mv rfl rfl ?_
           refine mv rfl rfl ?_
           refine ixk (j := kt2_5) Tryz.runUnderlying96 Tryz.sizeOf108 rfl hgat2_5 rfl rfl hklt2_5 rfl ?_
           refine asg rfl rfl ?_
           refine nl ?_
           refine sr ?_
           refine mv rfl rfl ?_
           refine cl rfl rfl rfl (def_ApiVersionsResponseFinalizedFeature hot2_5) rfl (fun v_ H1 L1 hle_ hR_ => ?_)
           obtain ⟨rfl, rfl⟩ := hR_
           refine nl ?_
           refine sr ?_
           refine mv rfl rfl ?_
           refine asg rfl rfl ?_
           refine nl ?_
           refine sq ?_
           refine sr ?_
           refine asg rfl rfl ?_
           refine nl ?_
           refine sq ?_
           refine sr ?_
           refine mv rfl rfl ?_
           refine nl ?_
           refine cF rfl ?_
           refine sr ?_
           refine mv rfl rfl ?_
           refine nl ?_
           refine cdT rfl (by omega) ?_
           refine rg ?_
           refine tf (.tail .head) ?_
           have ext2_5_0 : xt2_5_0 = decV 8 (decP [] v true) false true (rMany (decV 10 (decP fs_sApiVersionsResponseFinalizedFeature v true) false true) kt2_5 (rArr true ⟨(rSpan (rU (rU (kSteps fs_ApiVersionsResponse v kt K0).r).2).1 (rU (rU (kSteps fs_ApiVersionsResponse v kt K0).r).2).2).1.1, false, !(rSpan (rU (rU (kSteps fs_ApiVersionsResponse v kt K0).r).2).1 (rU (rU (kSteps fs_ApiVersionsResponse v kt K0).r).2).2).1.2⟩).2).2 := (hxt2_5_0.trans (step_yes (by decide) (show (0 : Int) ≤ v by omega) (Or.inl (by decide)))).trans (decF'_val (by decide) (rfl))
           refine cl rfl rfl rfl (d8t hR_t2_5 ext2_5_0) rfl (fun v_ H1 L1 le_23 hR_ => ?_)
           obtain ⟨N272, rfl, hR272, rfl, rfl⟩ := hR_
           refine asg rfl rfl ?_
           refine nl ?_
           refine rg ?_
           refine mv rfl rfl ?_
           refine mv rfl rfl ?_
           refine nc rfl rfl ?_
           refine fa F108_0 rfl rfl ?_
           refine stM (off := 0) Tryz.sizeOf9 rfl (by rw [hot2_5]) rfl rfl rfl (.tail .head) ?_
           refine nl ?_
           refine sq ?_
           refine sr ?_
           have ext2_5_1 : xt2_5_1 = decV 2 (decP [] v true) false true xt2_5_0.2 := (hxt2_5_1.trans (step_yes (by decide) (show (0 : Int) ≤ v by omega) (Or.inl (by decide)))).trans (decF'_val (by decide) (rfl))
           refine cl rfl rfl rfl (d2 hR272 ext2_5_1) rfl (fun v_ H1 L1 hle_ hR_ => ?_)
           obtain ⟨N278, rfl, hR278, rfl, rfl⟩ := hR_
           refine asg rfl rfl ?_
           refine nl ?_
           refine rg ?_
           refine mv rfl rfl ?_
           refine mv rfl rfl ?_
           refine nc rfl rfl ?_
           refine fa F108_1 rfl rfl ?_
           refine stM (off := 1) Tryz.sizeOf40 rfl (by rw [hot2_5]) rfl rfl rfl (.tail .head) ?_
           refine nl ?_
           refine sq ?_
           refine sr ?_
           have ext2_5_2 : xt2_5_2 = decV 2 (decP [] v true) false true xt2_5_1.2 := (hxt2_5_2.trans (step_yes (by decide) (show (0 : Int) ≤ v by omega) (Or.inl (by decide)))).trans (decF'_val (by decide) (rfl))
           refine cl rfl rfl rfl (d2 hR278 ext2_5_2) rfl (fun v_ H1 L1 hle_ hR_ => ?_)
           obtain ⟨N283, rfl, hR283, rfl, rfl⟩ := hR_
           refine asg rfl rfl ?_
           refine nl ?_
           refine rg ?_
           refine mv rfl rfl ?_
           refine mv rfl rfl ?_
           refine nc rfl rfl ?_
           refine fa F108_2 rfl rfl ?_
           refine stM (off := 2) Tryz.sizeOf40 rfl (by rw [hot2_5]) rfl rfl rfl (.tail .head) ?_
           refine nl ?_
           refine sr ?_
           refine mv rfl rfl ?_
           refine nl ?_
           refine cdT rfl (by omega) ?_
           refine rg ?_
           refine mv rfl rfl ?_
           refine cl rfl rfl rfl (d_tags hR283) rfl (fun v_ H1 L1 le_26 hR_ => ?_)
           obtain ⟨N290, rfl, hR290, mt2_5_t, rfl, hftt2_5_⟩ := hR_
           have hu2t2_5_ : ut2_5_ = rTags xt2_5_2.2 := hut2_5_
           rw [← hu2t2_5_] at hR290 hftt2_5_
           refine nc rfl rfl ?_
           refine fa F108_3 rfl rfl ?_
           refine saM (off := 3) Tryz.sizeOf63 rfl (by rw [hot2_5]) rfl rfl rfl rfl (.tail .head) ?_
           refine nN ?_
           refine Nb ?_
           refine Nt ?_
           refine rg ?_
           refine mv rfl rfl ?_
           refine ad rfl rfl (c := ((kt2_5 + 1 : Nat) : Int)) ((wrap32_le (by omega) (by omega)).trans (by omega)) rfl ?_
           refine asg rfl rfl ?_
           refine nN ?_
           have hfst2_5 := flatMap_snoc' fk est2_5 ((⟨([.string ⟨xt2_5_0.1.s.toArray⟩, .int .i16 (IntKind.i16.wrap xt2_5_1.1.n), .int .i16 (IntKind.i16.wrap xt2_5_2.1.n), .map mt2_5_t] : List Value), rfl, all_one rfl⟩, ((decV 10 (decP fs_sApiVersionsResponseFinalizedFeature v true) false true) (rMany (decV 10 (decP fs_sApiVersionsResponseFinalizedFeature v true) false true) kt2_5 (rArr true ⟨(rSpan (rU (rU (kSteps fs_ApiVersionsResponse v kt K0).r).2).1 (rU (rU (kSteps fs_ApiVersionsResponse v kt K0).r).2).2).1.1, false, !(rSpan (rU (rU (kSteps fs_ApiVersionsResponse v kt K0).r).2).1 (rU (rU (kSteps fs_ApiVersionsResponse v kt K0).r).2).2).1.2⟩).2).2).1) : KE 4)
           have hrwt2_5 := hbkt2_5 ([.string ⟨xt2_5_0.1.s.toArray⟩, .int .i16 (IntKind.i16.wrap xt2_5_1.1.n), .int .i16 (IntKind.i16.wrap xt2_5_2.1.n), .map mt2_5_t] : List Value) rfl
           refine tfN (.tail .head) ?_
           refine fun a_ w_ hA hw => ⟨hklt2_5, _, _, _, hA.sub ?_, (le_22.trans le_26), hw, _, _, _, rfl, rfl, (by rw [rMany_succ]; show RdAt _ 117 b_20 (decP fs_sApiVersionsResponseFinalizedFeature v true (rMany (decV 10 (decP fs_sApiVersionsResponseFinalizedFeature v true) false true) kt2_5 (rArr true ⟨(rSpan (rU (rU (kSteps fs_ApiVersionsResponse v kt K0).r).2).1 (rU (rU (kSteps fs_ApiVersionsResponse v kt K0).r).2).2).1.1, false, !(rSpan (rU (rU (kSteps fs_ApiVersionsResponse v kt K0).r).2).1 (rU (rU (kSteps fs_ApiVersionsResponse v kt K0).r).2).2).1.2⟩).2).2).2 _; rw [hDt2_5_]; exact hR290), (by rw [← hfst2_5]; exact hrwt2_5), (dec_els he_t2_5), (fun p hp => (mem_snoc hp).elim (fun h => At_ApiVersionsResponseFinalizedFeature.mono _ _ _ _ le_26 (hg_t2_5 p h)) (fun h => h ▸ (by show At_ApiVersionsResponseFinalizedFeature _ (decP fs_sApiVersionsResponseFinalizedFeature v true (rMany (decV 10 (decP fs_sApiVersionsResponseFinalizedFeature v true) false true) kt2_5 (rArr true ⟨(rSpan (rU (rU (kSteps fs_ApiVersionsResponse v kt K0).r).2).1 (rU (rU (kSteps fs_ApiVersionsResponse v kt K0).r).2).2).1.1, false, !(rSpan (rU (rU (kSteps fs_ApiVersionsResponse v kt K0).r).2).1 (rU (rU (kSteps fs_ApiVersionsResponse v kt K0).r).2).2).1.2⟩).2).2).1 [.string ⟨xt2_5_0.1.s.toArray⟩, .int .i16 (IntKind.i16.wrap xt2_5_1.1.n), .int .i16 (IntKind.i16.wrap xt2_5_2.1.n), .map mt2_5_t]; rw [hDt2_5_]; exact ⟨mt2_5_t, rfl, hftt2_5_⟩)))⟩
           exact (.of ⟨rfl, rfl, rfl, rfl, rfl, rfl, rfl, rfl, rfl, rfl, trivial⟩)
          ·
           have hkn_ : kt2_5 = (lT xt2_5.1).length := by omega
           subst hkn_
           have hw2_t2_5 : Row 108 4 at2_5 (lT xt2_5.1).length ct2_5 (est2_5.flatMap fk) Mt2_5 := by have h := hw_t2_5; rw [Nat.sub_self] at h; simpa [reps] using h
           refine frW hw2_t2_5 .head (fun Hft2_5 hlft2_5 hfzt2_5 => ?_)
           have hrst2_5 := RowsAt.row (R := At_ApiVersionsResponseFinalizedFeature) hfzt2_5 hs_t2_5.symm hw2_t2_5.le.1 (fun p hp => At_ApiVersionsResponseFinalizedFeature.mono _ _ _ _ hlft2_5 (hg_t2_5 p hp))
           rw [he_t2_5] at hrst2_5
           have hft2_5 : ListAt Hft2_5 xt2_5.1 4 At_ApiVersionsResponseFinalizedFeature at2_5 ct2_5 := by rw [ext2_5]; exact listAt_of hrst2_5 hit2_5 (fun h => by have h1 := nul_le h; rw [show (lT xt2_5.1).length = 0 by omega]; rfl)
           have hRxt2_5 : RdAt Hft2_5 117 b_20 xt2_5.2 RNt2_5 := by rw [ext2_5]; exact (hR_t2_5.mono hlft2_5)
           refine exX ?_
           refine XT ?_
           refine XT ?_
           refine Xb ?_
           refine Nt ?_
           refine sr ?_
           refine mv rfl rfl ?_
           refine asg rfl rfl ?_
           refine nl ?_
           refine sr ?_
           refine mv rfl rfl ?_
           refine mv rfl rfl ?_
           refine nc rfl rfl ?_
           refine fa0 F98_6 rfl rfl ?_
           refine st Tryz.sizeOf96 rfl rfl rfl rfl (.tail (.tail (.tail .head))) ?_
           refine nl ?_
           refine sr ?_
           refine cl rfl rfl rfl (r_complete hRxt2_5 (he.mono (le_3.trans (le_4.trans (hlf1.trans (le_10.trans (le_21.trans (le_22.trans hlft2_5)))))))) rfl (fun v_ H1 L1 hle_ hR_ => ?_)
           obtain ⟨rfl, rfl, rfl⟩ := hR_
           refine asg rfl rfl ?_
           refine nl ?_
           refine sr ?_
           refine mv rfl rfl ?_
           rcases hbd : xt2_5.2.bad with _ | _
           ·
            refine nei0 Tryz.underlying50 rfl rfl ?_
            refine nl ?_
            refine cF rfl ?_
            refine skN ?_
            refine Nb ?_
            refine Nb ?_
            refine Nt ?_
            refine rg ?_
            refine mv rfl rfl ?_
            refine sb rfl rfl (c := (((rU x2.2).1 - kt - 1 : Nat) : Int)) ((w32u (by omega) (by omega)).trans (by omega)) rfl ?_
            refine asg rfl rfl ?_
            refine nN ?_
            have hst2 : kStep fs_ApiVersionsResponse v (kSteps fs_ApiVersionsResponse v kt K0) = ⟨(kSteps fs_ApiVersionsResponse v kt K0).l.set 5 xt2_5.1, (kSteps fs_ApiVersionsResponse v kt K0).u, (rSpan (rU (rU (kSteps fs_ApiVersionsResponse v kt K0).r).2).1 (rU (rU (kSteps fs_ApiVersionsResponse v kt K0).r).2).2).2⟩ := by rw [hst, hxd, if_neg (by rw [hbd]; decide)]
            refine drN .head ?_
            refine tfN (.tail .head) ?_
            refine fun a_ w_ hA hw => ⟨hkn, _, _, _, hA.sub ?_, (le_10.trans (le_21.trans (le_22.trans hlft2_5))), hw, xt3, a3, c3, xt4, xt2_5.1, at2_5, ct2_5, xt6, mt, kvs, MT, _, rfl, rfl, (by rw [kSteps_succ, hst2]; exact (hR236.mono (le_21.trans (le_22.trans hlft2_5)))), hMT, (by rw [kSteps_succ, hst2]; exact (hKT.mono (le_21.trans (le_22.trans hlft2_5)))), (by rw [kSteps_succ, hst2]; show List.set _ _ _ = _; rw [hlT]; rfl), (hfT3.mono At_ApiVersionsResponseSupportedFeature.mono (le_21.trans (le_22.trans hlft2_5))), hft2_5, hz3, (fun h => Row.none0 hw2_t2_5 (by have h9 := congrArg Tr.nul h; rw [eyt2_5] at h9; rw [hit2_5]; exact h9))⟩
            exact (.cons rfl (.cons rfl (.cons rfl (.cons rfl (.cons (by rw [show (rU x2.2).1 - (kt + 1) = (rU x2.2).1 - kt - 1 by omega]; rfl) (.nil _))))))
           ·
            refine nei1 Tryz.underlying50 rfl rfl ?_
            refine nl ?_
            refine cT rfl ?_
            refine sr ?_
            refine mv rfl rfl ?_
            refine asg rfl rfl ?_
            refine nl ?_
            refine drW .head ?_
            refine drW .head ?_
            refine drW .head ?_
            exact rT rfl rfl (le_3.trans (le_4.trans (hlf1.trans (le_10.trans (le_21.trans (le_22.trans hlft2_5)))))) (fun _ _ h => h) ⟨_, rfl, RdEnd.out (hBt2_5 hbd) rfl⟩
       ·
        refine sr ?_
        refine eq' rfl rfl rfl ?_
        refine asg rfl rfl ?_
        refine nl ?_
        refine cd rfl (fun h302 => ?_) (fun h302 => ?_)
        ·
         have hkey : (rU (kSteps fs_ApiVersionsResponse v kt K0).r).1 = 3 := by omega
         refine sr ?_
         refine cl rfl rfl rfl (r_Uvarint hR137) rfl (fun v_ H1 L1 hle_ hR_ => ?_)
         obtain ⟨rfl, N304, rfl, hR304, rfl⟩ := hR_
         have hu304 := rU_lt (rU (kSteps fs_ApiVersionsResponse v kt K0).r).2
         refine cv Tryz.runUnderlying55 Tryz.runUnderlying3 rfl (w64 (by omega) (by omega)) rfl ?_
         refine cl rfl rfl rfl (r_Span hR304) rfl (fun v_ H1 L1 hle_ hR_ => ?_)
         obtain ⟨rfl, N306, rfl, hR306, as306, cs306, rfl, hBs306, hns306⟩ := hR_
         refine bd' S117 rfl rfl rfl ?_
         refine al Tryz.zeroValue117 rfl rfl (fun b_27 => ?_)
         refine sa Tryz.sizeOf117 rfl rfl rfl rfl rfl .head ?_
         have hRi : RdAt _ 117 b_27 ⟨(rSpan (rU (rU (kSteps fs_ApiVersionsResponse v kt K0).r).2).1 (rU (rU (kSteps fs_ApiVersionsResponse v kt K0).r).2).2).1.1, false, !(rSpan (rU (rU (kSteps fs_ApiVersionsResponse v kt K0).r).2).1 (rU (rU (kSteps fs_ApiVersionsResponse v kt K0).r).2).2).1.2⟩ [(b_27, .cells [_, _].toArray 117 (0, 0))] := ⟨_, _, rfl, hBs306, by simp [hns306]⟩
         obtain ⟨xt3_6, hxt3_6⟩ : ∃ x, x = stepF (Fd.mk 0 0 (-1) (-1) (-1) 0 0 []) v true ⟨(rSpan (rU (rU (kSteps fs_ApiVersionsResponse v kt K0).r).2).1 (rU (rU (kSteps fs_ApiVersionsResponse v kt K0).r).2).2).1.1, false, !(rSpan (rU (rU (kSteps fs_ApiVersionsResponse v kt K0).r).2).1 (rU (rU (kSteps fs_ApiVersionsResponse v kt K0).r).2).2).1.2⟩ := ⟨_, rfl⟩
         have hst := kStep_yes (v := v) hkey ti_fs_ApiVersionsResponse_3 (show fs_ApiVersionsResponse[6]? = some (fs_ApiVersionsResponse[6]'(by decide)) from rfl)
         have hxd : decF (fs_ApiVersionsResponse[6]'(by decide)) v true ⟨(rSpan (rU (rU (kSteps fs_ApiVersionsResponse v kt K0).r).2).1 (rU (rU (kSteps fs_ApiVersionsResponse v kt K0).r).2).2).1.1, false, !(rSpan (rU (rU (kSteps fs_ApiVersionsResponse v kt K0).r).2).1 (rU (rU (kSteps fs_ApiVersionsResponse v kt K0).r).2).2).1.2⟩ = xt3_6 := (hxt3_6.trans (step_untag (f := (fs_ApiVersionsResponse[6]'(by decide))) (has_yes (show (0 : Int) ≤ v by omega) (Or.inl (by decide))))).symm
         have hLt3__ : (⟨(rSpan (rU (rU (kSteps fs_ApiVersionsResponse v kt K0).r).2).1 (rU (rU (kSteps fs_ApiVersionsResponse v kt K0).r).2).2).1.1, false, !(rSpan (rU (rU (kSteps fs_ApiVersionsResponse v kt K0).r).2).1 (rU (rU (kSteps fs_ApiVersionsResponse v kt K0).r).2).2).1.2⟩ : Rd).s.length ≤ BR := Nat.le_trans (rSpan_take _ _) (Nat.le_trans (rU_len _) (Nat.le_trans (rU_len _) hLK))
         have hLt3_6 : xt3_6.2.s.length ≤ BR := by rw [hxt3_6]; exact Nat.le_trans (stepF_shr _ _ _ _) hLt3__
         have hBt3_6 : xt3_6.2.bad = true → (decM fs_ApiVersionsResponse v true ⟨s, false, !a.isNone⟩).2.bad = true := fun h => hE (by rw [hsK]; exact kSteps_mono (show kt + 1 ≤ (rU x2.2).1 from hkn) (by rw [kSteps_succ, hst, hxd, if_pos h]; rfl))
         refine nl ?_
         refine sr ?_
         have ext3_6 : xt3_6 = decV 0 (decP [] v true) false true ⟨(rSpan (rU (rU (kSteps fs_ApiVersionsResponse v kt K0).r).2).1 (rU (rU (kSteps fs_ApiVersionsResponse v kt K0).r).2).2).1.1, false, !(rSpan (rU (rU (kSteps fs_ApiVersionsResponse v kt K0).r).2).1 (rU (rU (kSteps fs_ApiVersionsResponse v kt K0).r).2).2).1.2⟩ := (hxt3_6.trans (step_yes (by decide) (show (0 : Int) ≤ v by omega) (Or.inl (by decide)))).trans (decF'_val (by decide) (rfl))
         refine cl rfl rfl rfl (d0 hRi ext3_6) rfl (fun v_ H1 L1 hle_ hR_ => ?_)
         obtain ⟨N308, rfl, hR308, rfl, rfl⟩ := hR_
         refine asg rfl rfl ?_
         refine nl ?_
         refine sr ?_
         refine mv rfl rfl ?_
         refine mv rfl rfl ?_
         refine nc rfl rfl ?_
         refine fa0 F98_7 rfl rfl ?_
         refine st Tryz.sizeOf4 rfl rfl rfl rfl (.tail (.tail (.tail .head))) ?_
         refine nl ?_
         refine sr ?_
         refine cl rfl rfl rfl (r_complete hR308 (he.mono (le_3.trans (le_4.trans (hlf1.trans le_10))))) rfl (fun v_ H1 L1 hle_ hR_ => ?_)
         obtain ⟨rfl, rfl, rfl⟩ := hR_
         refine asg rfl rfl ?_
         refine nl ?_
         refine sr ?_
         refine mv rfl rfl ?_
         rcases hbd : xt3_6.2.bad with _ | _
         ·
          refine nei0 Tryz.underlying50 rfl rfl ?_
          refine nl ?_
          refine cF rfl ?_
          refine skN ?_
          refine Nb ?_
          refine Nb ?_
          refine Nt ?_
          refine rg ?_
          refine mv rfl rfl ?_
          refine sb rfl rfl (c := (((rU x2.2).1 - kt - 1 : Nat) : Int)) ((w32u (by omega) (by omega)).trans (by omega)) rfl ?_
          refine asg rfl rfl ?_
          refine nN ?_
          have hst2 : kStep fs_ApiVersionsResponse v (kSteps fs_ApiVersionsResponse v kt K0) = ⟨(kSteps fs_ApiVersionsResponse v kt K0).l.set 6 xt3_6.1, (kSteps fs_ApiVersionsResponse v kt K0).u, (rSpan (rU (rU (kSteps fs_ApiVersionsResponse v kt K0).r).2).1 (rU (rU (kSteps fs_ApiVersionsResponse v kt K0).r).2).2).2⟩ := by rw [hst, hxd, if_neg (by rw [hbd]; decide)]
          refine drN .head ?_
          refine tfN (.tail .head) ?_
          refine fun a_ w_ hA hw => ⟨hkn, _, _, _, hA.sub ?_, le_10, hw, xt3, a3, c3, xt4, xt5, a5, c5, xt3_6.1, mt, kvs, MT, _, rfl, rfl, (by rw [kSteps_succ, hst2]; exact hR306), hMT, (by rw [kSteps_succ, hst2]; exact hKT), (by rw [kSteps_succ, hst2]; show List.set _ _ _ = _; rw [hlT]; rfl), hfT3, hfT5, hz3, hz5⟩
          exact (.cons rfl (.cons rfl (.cons rfl (.cons rfl (.cons (by rw [show (rU x2.2).1 - (kt + 1) = (rU x2.2).1 - kt - 1 by omega]; rfl) (.nil _))))))
         ·
          refine nei1 Tryz.underlying50 rfl rfl ?_
          refine nl ?_
          refine cT rfl ?_
          refine sr ?_
          refine mv rfl rfl ?_
          refine asg rfl rfl ?_
          refine nl ?_
          refine drW .head ?_
          refine drW .head ?_
          refine drW .head ?_
          exact rT rfl rfl (le_3.trans (le_4.trans (hlf1.trans le_10))) (fun _ _ h => h) ⟨_, rfl, RdEnd.out (hBt3_6 hbd) rfl⟩
        ·
         refine rgD 8 .nil mixed ?_
         refine dU 0 rfl rfl rfl (y_mv rfl) .nil ler ?_
         refine dU 1 rfl rfl rfl (y_nc rfl) .nil ler ?_
         refine dU 2 rfl rfl rfl (y_fa0 F98_8 rfl) .nil ler ?_
         refine dU 3 rfl rfl rfl (y_mv rfl) .nil ler ?_
         refine dE 4 (by kernel_rfl) rfl ?_
         refine cl rfl rfl rfl (r_Uvarint hR137) rfl (fun v_ H1 L1 hle_ hR_ => ?_)
         obtain ⟨rfl, N143, rfl, hR143, rfl⟩ := hR_
         have hu143 := rU_lt (rU (kSteps fs_ApiVersionsResponse v kt K0).r).2
         refine dN .nil ler ?_
         refine dU 5 rfl rfl rfl (y_cv Tryz.runUnderlying55 Tryz.runUnderlying3 rfl (w64 (by omega) (by omega))) .nil ler ?_
         refine dE 6 (by kernel_rfl) rfl ?_
         refine cl rfl rfl rfl (r_Span hR143) rfl (fun v_ H1 L1 hle_ hR_ => ?_)
         obtain ⟨rfl, N145, rfl, hR145, as145, cs145, rfl, hBs145, hns145⟩ := hR_
         refine dN .nil ler ?_
         refine dE 7 (by kernel_rfl) rfl ?_
         refine tf (.tail (.tail .head)) ?_
         refine tf (.tail (.tail .head)) ?_
         refine cl rfl rfl rfl (t_set (off := 8) hMT rfl) rfl (fun v_ H1 L1 hle_ hR_ => ?_)
         obtain ⟨rfl, g146, cs146, hs146, rfl⟩ := hR_
         obtain rfl : [.int .i16 v, .int .i16 (IntKind.i16.wrap x0.1.n), .slice a1 (lT x1.1).length c1, .int .i32 (IntKind.i32.wrap x2.1.n), .slice a3 (lT xt3).length c3, .int .i64 xt4.n, .slice a5 (lT xt5).length c5, .bool (decide (xt6.n % 2 = 1)), .map (some g146)] = cs146 := Option.some.inj hs146
         refine dN .nil ler ?_
         refine dD (by kernel_rfl) ?_
         refine Nb ?_
         refine Nb ?_
         refine Nt ?_
         refine rg ?_
         refine mv rfl rfl ?_
         refine sb rfl rfl (c := (((rU x2.2).1 - kt - 1 : Nat) : Int)) ((w32u (by omega) (by omega)).trans (by omega)) rfl ?_
         refine asg rfl rfl ?_
         refine nN ?_
         have hst2 := kStep_no (v := v) (show known fs_ApiVersionsResponse ≤ (rU (kSteps fs_ApiVersionsResponse v kt K0).r).1 by rw [kn_fs_ApiVersionsResponse]; omega)
         refine tfN (.tail .head) ?_
         refine tfN (.tail (.tail .head)) ?_
         refine tfN (.tail (.tail .head)) ?_
         refine fun a_ w_ hA hw => ⟨hkn, _, _, _, hA.sub ?_, le_10, hw, xt3, a3, c3, xt4, xt5, a5, c5, xt6, some g146, _, _, _, rfl, rfl, (by rw [kSteps_succ, hst2]; exact hR145), (.inr ⟨g146, rfl, rfl⟩), (by rw [kSteps_succ, hst2]; exact hKT.put ⟨⟨as145, cs145, rfl, hBs145⟩, by omega, by omega⟩), (by rw [kSteps_succ, hst2]; exact hlT), hfT3, hfT5, hz3, hz5⟩
         exact (.cons rfl (.cons rfl (.cons rfl (.cons rfl (.cons (by rw [show (rU x2.2).1 - (kt + 1) = (rU x2.2).1 - kt - 1 by omega]; rfl) (.nil _))))))
    ·
     obtain rfl : kt = (rU x2.2).1 := by omega
     rw [← hsK] at hRT hKT hlT
     refine exX ?_
     refine XT ?_
     refine XT ?_
     refine Xb ?_
     refine Nt ?_
     refine sr ?_
     refine tf (.tail .head) ?_
     refine cl rfl rfl rfl (r_complete hRT (he.mono (le_3.trans (le_4.trans (hlf1.trans le_10))))) rfl (fun v_ H1 L1 hle_ hR_ => ?_)
     obtain ⟨rfl, rfl, rfl⟩ := hR_
     refine asg rfl rfl ?_
     refine nl ?_
     refine frMW hMT (.tail .head) (fun H3 hle3 hmf => ?_)
     have hKv := ((hKT.mono hle3)).at_ hmf
     refine drW .head ?_
     have hA_ := (show At_ApiVersionsResponse v _ (decM fs_ApiVersionsResponse v true _).1 [.int .i16 v, .int .i16 (IntKind.i16.wrap x0.1.n), .slice a1 (lT x1.1).length c1, .int .i32 (IntKind.i32.wrap x2.1.n), .slice a3 (lT xt3).length c3, .int .i64 xt4.n, .slice a5 (lT xt5).length c5, .bool (decide (xt6.n % 2 = 1)), .map mt] from (by rw [hD, hlT]; exact ⟨a1, c1, a3, c3, a5, c5, mt, rfl, (hf1.mono At_ApiVersionsResponseApiKey.mono (le_10.trans hle3)), (hfT3.mono At_ApiVersionsResponseSupportedFeature.mono hle3), (hfT5.mono At_ApiVersionsResponseFinalizedFeature.mono hle3), hKv⟩))
     refine rT rfl rfl (le_3.trans (le_4.trans (hlf1.trans (le_10.trans hle3)))) (fun _ _ h => h) ⟨_, rfl, ?_⟩
     have hz := RdEnd.of (e := .iface et ev) hA_
     rw [show (decM fs_ApiVersionsResponse v true _).2.bad = sK.r.bad by rw [hD]] at hz
     exact hz
end Go.Sx

import Derived.Test.YtjpidbdhoiagpaaGreatDoorSxTab
import Derived.Test.YtjpidbdhoiagpaaGreatDoorBDescribeConfigsRequest
import Derived.Test.YtjpidbdhoiagpaaGreatDoorRK2
import Derived.KernelRfl
set_option linter.unusedVariables false
set_option linter.unusedSimpArgs false
set_option maxRecDepth 100000
set_option maxHeartbeats 20000000
namespace Go.Sx
open Go.Proofs
theorem def_DescribeConfigsRequestResource {H : Fz} {L : Own} {b o : Nat} {pre post : List Value} {c0 c1 c2 c3 : Value} (ho : o = pre.length) :
  Fn Tryz.prog 120 [.pointer (some ⟨b, o, none⟩)] H ([(b, .cells (pre ++ ([c0, c1, c2, c3] : List Value) ++ post).toArray 163 (0, 0))] :: L) (fun _ H' L' => H = H' ∧ L' = [(b, .cells (pre ++ ([c0, c1, c2, c3] : List Value) ++ post).toArray 163 (0, 0))] :: L) := by
 refine Fn.mk Tryz.call120 Tryz.func120 rfl Tryz.ntmps120 rfl ?_
 refine skN ?_
 exact fun _ _ hA hw => rn rfl ler ⟨rfl, rfl⟩ hA hw
theorem def0_DescribeConfigsRequest {H : Fz} {L : Own} {b : Nat} {c0 c1 c2 c3 c4 : Value} :
  Fn Tryz.prog 81 [.pointer (some ⟨b, 0, none⟩)] H ([(b, .cells [c0, c1, c2, c3, c4].toArray 110 (0, 0))] :: L) (fun _ H' L' => H = H' ∧ L' = [(b, .cells [c0, c1, c2, c3, c4].toArray 110 (0, 0))] :: L) := by
 refine Fn.mk Tryz.call81 Tryz.func81 rfl Tryz.ntmps81 rfl ?_
 refine skN ?_
 exact fun _ _ hA hw => rn rfl ler ⟨rfl, rfl⟩ hA hw
theorem rd_DescribeConfigsRequest_f {H : Fz} {L : Own} {b : Nat} {v : Int} {a : Option Addr} {c : Nat} {s : List UInt8} {e : Value} (hB : BytesAt H a c s) (hL_ : s.length ≤ BR) (he : H.at 0 0 [e]) (hv0 : 0 ≤ v) (hv1 : v ≤ 3) :
  Fn Tryz.prog 82 [.pointer (some ⟨b, 0, none⟩), .slice a s.length c, .bool false] H ([(b, .cells [.int .i16 v, .slice none 0 0, .bool false, .bool false, .map none].toArray 110 (0, 0))] :: L) (fun r H' L' => ∃ cs : List Value, L' = [(b, .cells cs.toArray 110 (0, 0))] :: L ∧ RdEnd H' (At_DescribeConfigsRequest v) (decP fs_DescribeConfigsRequest v false ⟨s, false, !a.isNone⟩) e r cs) := by
 refine Fn.mk Tryz.call82 Tryz.func82 rfl Tryz.ntmps82 rfl ?_
 refine sr ?_
 refine asg rfl rfl ?_
 refine nl ?_
 refine sr ?_
 refine mv rfl rfl ?_
 refine cl rfl rfl rfl def0_DescribeConfigsRequest rfl (fun v_ H1 L1 hle_ hR_ => ?_)
 obtain ⟨rfl, rfl⟩ := hR_
 refine nl ?_
 refine sr ?_
 refine mv rfl rfl ?_
 refine bd' S118 rfl rfl rfl ?_
 refine al Tryz.zeroValue118 rfl rfl (fun b_1 => ?_)
 refine sa Tryz.sizeOf118 rfl rfl rfl rfl rfl .head ?_
 have hR0_ : RdAt H 118 b_1 ⟨s, false, !a.isNone⟩ [(b_1, .cells [_, _].toArray 118 (0, 0))] := ⟨a, c, rfl, hB, by simp⟩
 obtain ⟨x0, hx0⟩ : ∃ x, x = stepF (Fd.mk 11 0 (-1) (-1) (-1) 0 10 fs_sDescribeConfigsRequestResource) v false ⟨s, false, !a.isNone⟩ := ⟨_, rfl⟩
 obtain ⟨x1, hx1⟩ : ∃ x, x = stepF (Fd.mk 0 1 (-1) (-1) (-1) 0 0 []) v false x0.2 := ⟨_, rfl⟩
 obtain ⟨x2, hx2⟩ : ∃ x, x = stepF (Fd.mk 0 3 (-1) (-1) (-1) 0 0 []) v false x1.2 := ⟨_, rfl⟩
 obtain ⟨u, hu⟩ : ∃ x, x = tailU false x2.2 := ⟨_, rfl⟩
 have hD : decP fs_DescribeConfigsRequest v false ⟨s, false, !a.isNone⟩ = (.mk 0 [] false [x0.1, x1.1, x2.1] u.1, u.2) := by
  generalize (⟨s, false, !a.isNone⟩ : Rd) = r_ at hx0 ⊢
  rw [decP_eq]; unfold fs_DescribeConfigsRequest; simp only [decFs_cons, decFs_nil, ← hx0, ← hx1, ← hx2, ← hu]
 have hL0 : x0.2.s.length ≤ BR := by rw [hx0]; exact Nat.le_trans (stepF_shr _ _ _ _) hL_
 have hL1 : x1.2.s.length ≤ BR := by rw [hx1]; exact Nat.le_trans (stepF_shr _ _ _ _) hL0
 have hL2 : x2.2.s.length ≤ BR := by rw [hx2]; exact Nat.le_trans (stepF_shr _ _ _ _) hL1
 have hE : u.2.bad = true → (decP fs_DescribeConfigsRequest v false ⟨s, false, !a.isNone⟩).2.bad = true := fun h => by rw [hD]; exact h
 have hB2 : x2.2.bad = true → (decP fs_DescribeConfigsRequest v false ⟨s, false, !a.isNone⟩).2.bad = true := fun h => hE (by rw [hu]; exact tailU_bad h)
 have hB1 : x1.2.bad = true → (decP fs_DescribeConfigsRequest v false ⟨s, false, !a.isNone⟩).2.bad = true := fun h => hB2 (by rw [hx2]; exact step_bad h)
 have hB0 : x0.2.bad = true → (decP fs_DescribeConfigsRequest v false ⟨s, false, !a.isNone⟩).2.bad = true := fun h => hB1 (by rw [hx1]; exact step_bad h)
 refine nl ?_
 refine sr ?_
 refine mv rfl rfl ?_
 refine nc rfl rfl ?_
 refine fa0 F110_0 rfl rfl ?_
 refine ld (Says.own (.tail .head)) Tryz.isAgg45 rfl (Nat.zero_add _).symm rfl rfl ?_
 refine asg rfl rfl ?_
 refine nl ?_
 refine sr ?_
 refine mv rfl rfl ?_
 refine nl ?_
 refine sr ?_
 refine mv rfl rfl ?_
 refine ge rfl rfl rfl ?_
 refine asg rfl rfl ?_
 refine nl ?_
 refine sr ?_
 refine mv rfl rfl ?_
 refine nl ?_
 refine sr ?_
 refine mv rfl rfl ?_
 refine asg rfl rfl ?_
 refine nl ?_
 refine sq ?_
 refine sr ?_
 refine mv rfl rfl ?_
 refine nc rfl rfl ?_
 refine fa0 F110_1 rfl rfl ?_
 refine ld (Says.own (.tail .head)) Tryz.isAgg108 rfl (Nat.zero_add _).symm rfl rfl ?_
 refine asg rfl rfl ?_
 refine nl ?_
 refine sr ?_
 refine mv rfl rfl ?_
 refine asg rfl rfl ?_
 refine nl ?_
 refine sr ?_
 refine asg rfl rfl ?_
 refine nl ?_
 refine sq ?_
 refine sr ?_
 refine mv rfl rfl ?_
 refine nl ?_
 refine cdF rfl (by omega) ?_
 refine rg ?_
 have ey0 : x0 = (.mk 0 [] (if 0 ≤ ((-1) : Int) ∧ (v < ((-1) : Int) ∨ (rArr false ⟨s, false, !a.isNone⟩).1 = 0) then false else decide ((rArr false ⟨s, false, !a.isNone⟩).1 ≤ 0)) (rMany (decV 10 (decP fs_sDescribeConfigsRequestResource v false) false false) (rArr false ⟨s, false, !a.isNone⟩).1.toNat (rArr false ⟨s, false, !a.isNone⟩).2).1 [], (rMany (decV 10 (decP fs_sDescribeConfigsRequestResource v false) false false) (rArr false ⟨s, false, !a.isNone⟩).1.toNat (rArr false ⟨s, false, !a.isNone⟩).2).2) := (hx0.trans (step_yes (by decide) (show (0 : Int) ≤ v by omega) (Or.inl (by decide)))).trans (decF'_list rfl rfl)
 have hn0 : (rArr false ⟨s, false, !a.isNone⟩).1.toNat = (lT x0.1).length := by rw [ey0]; exact (lT_many nul_le).symm
 have ex0 := ey0
 rw [hn0] at ex0
 have hl0 := rArr_le false ⟨s, false, !a.isNone⟩
 have hm0 : (rArr false ⟨s, false, !a.isNone⟩).2.s.length ≤ BR := Nat.le_trans (rArr_len false ⟨s, false, !a.isNone⟩) hL_
 have hnb0 : (lT x0.1).length ≤ BR := by omega
 refine cl rfl rfl rfl (r_arrf hR0_) rfl (fun v_ H1 L1 hle_ hR_ => ?_)
 obtain ⟨rfl, N48, rfl, hR48, rfl⟩ := hR_
 have hh0 := rArr_hi false ⟨s, false, !a.isNone⟩
 refine asg rfl rfl ?_
 refine nl ?_
 refine sq ?_
 refine sr ?_
 refine cl rfl rfl rfl (r_ok hR48) rfl (fun v_ H1 L1 hle_ hR_ => ?_)
 obtain ⟨rfl, rfl, rfl⟩ := hR_
 refine nt rfl rfl ?_
 refine nl ?_
 refine cb rfl (fun h50 => ?_) (fun h50 => ?_)
 ·
  have hbad_ : (rArr false ⟨s, false, !a.isNone⟩).2.bad = true := by simpa using h50
  refine sr ?_
  refine cl rfl rfl rfl (r_complete hR48 he) rfl (fun v_ H1 L1 hle_ hR_ => ?_)
  obtain ⟨rfl, rfl, rfl⟩ := hR_
  refine asg rfl rfl ?_
  refine nl ?_
  refine drW .head ?_
  exact rT rfl rfl ler (fun _ _ h => h) ⟨_, rfl, RdEnd.out (hB0 (by rw [ey0]; exact rMany_bad (fun r h => decV_bad (decP_bad _ _ _) h) _ _ hbad_)) hbad_⟩
 ·
  refine skt ?_
  refine sr ?_
  refine mv rfl rfl ?_
  refine sh' (j := 0) Tryz.runUnderlying108 Tryz.sizeOf163 rfl rfl rfl (Nat.zero_le _) rfl ?_
  refine asg rfl rfl ?_
  refine nl ?_
  refine sq ?_
  refine sr ?_
  refine mv rfl rfl ?_
  refine gt rfl rfl rfl ?_
  refine nl ?_
  refine nulC2 ?_
  refine cutT (fun l' H' L' => ∃ (a0 : Option Addr), ∃ (c0 : Nat), ∃ (Nr0 : Chunk), [(2, .bool false), (7, .pointer (some ⟨b_1, 0, none⟩)), (8, .int .i16 v), (9, .bool (decide ((4 : Int) ≤ v))), (10, .pointer (some ⟨b, 0, none⟩)), (11, .slice none 0 0), (12, .slice a0 (lT x0.1).length c0), (13, .int .i32 (rArr false ⟨s, false, !a.isNone⟩).1)] = l' ∧ Nr0 :: N48 :: [(b, .cells [.int .i16 v, .slice none 0 0, .bool false, .bool false, .map none].toArray 110 (0, 0))] :: L = L' ∧ Row 163 4 a0 (lT x0.1).length c0 (reps [.int .i8 0, .string ⟨#[]⟩, .slice none 0 0, .map none] (lT x0.1).length) Nr0 ∧ a0.isNone = (if 0 ≤ ((-1) : Int) ∧ (v < ((-1) : Int) ∨ (rArr false ⟨s, false, !a.isNone⟩).1 = 0) then false else decide ((rArr false ⟨s, false, !a.isNone⟩).1 ≤ 0))) ?_ (fun l' H' L' le_2 hI => ?_)
  ·
   refine cd rfl (fun h55 => ?_) (fun h55 => ?_)
   ·
    refine rg ?_
    refine mv rfl rfl ?_
    refine mv rfl rfl ?_
    refine apz (zs := [.int .i8 0, .string ⟨#[]⟩, .slice none 0 0, .map none]) (m := (lT x0.1).length) Tryz.underlying108 Tryz.underlying21 I163 rfl rfl rfl (by omega) (by omega) (by have h9 := hnb0; unfold BR at h9; omega) (by have h9 := hnb0; unfold BR at h9; unfold maxLen; omega) rfl (fun g58 cp58 N58 r58 => ?_)
    refine asg rfl rfl ?_
    refine nN ?_
    refine drN (.tail .head) ?_
    refine fun a_ w_ hA hw => ⟨_, _, _, hA.sub ?_, ler, hw, (some ⟨g58, 0, none⟩), cp58, N58, rfl, rfl, r58, (by rw [if_neg (by omega)]; exact (decide_eq_false (by omega)).symm)⟩
    exact (.cons rfl (.cons rfl (.cons rfl (.cons rfl (.cons rfl (.cons rfl (.cons rfl (.cons rfl (.nil _)))))))))
   ·
    refine skN ?_
    refine fun a_ w_ hA hw => ⟨_, _, _, hA.sub ?_, ler, hw, none, 0, [], rfl, rfl, (by rw [show (lT x0.1).length = 0 by omega]; exact (Row.nil _ _)), (by rw [if_neg (by omega)]; exact (decide_eq_true (by omega)).symm)⟩
    exact (.cons rfl (.cons rfl (.cons rfl (.cons rfl (.cons rfl (.cons rfl (.cons (by rw [show (lT x0.1).length = 0 by omega]; rfl) (.cons rfl (.nil _)))))))))
  ·
   obtain ⟨a0, c0, Nr0, rfl, rfl, pj0, pj1⟩ := hI
   have hr0 := pj0
   have hi0 := pj1
   refine sq ?_
   refine sr ?_
   refine asg rfl rfl ?_
   refine nl ?_
   refine bl (lp ((lT x0.1).length) (fun k0 l' H' L' => ∃ (es0 : List (KE 4)) (M0 RN0 : Chunk), [(2, .bool false), (7, .pointer (some ⟨b_1, 0, none⟩)), (8, .int .i16 v), (9, .bool (decide ((4 : Int) ≤ v))), (10, .pointer (some ⟨b, 0, none⟩)), (11, .slice none 0 0), (12, .slice a0 (lT x0.1).length c0), (13, .int .i32 (rArr false ⟨s, false, !a.isNone⟩).1), (14, .int .i32 (k0 : Int))] = l' ∧ M0 :: RN0 :: [(b, .cells [.int .i16 v, .slice none 0 0, .bool false, .bool false, .map none].toArray 110 (0, 0))] :: L = L' ∧ RdAt H' 118 b_1 (rMany (decV 10 (decP fs_sDescribeConfigsRequestResource v false) false false) k0 (rArr false ⟨s, false, !a.isNone⟩).2).2 RN0 ∧ Row 163 4 a0 (lT x0.1).length c0 (es0.flatMap fk ++ reps [.int .i8 0, .string ⟨#[]⟩, .slice none 0 0, .map none] ((lT x0.1).length - k0)) M0 ∧ es0.map (·.2) = (rMany (decV 10 (decP fs_sDescribeConfigsRequestResource v false) false false) k0 (rArr false ⟨s, false, !a.isNone⟩).2).1 ∧ ∀ p ∈ es0, At_DescribeConfigsRequestResource H' p.2 (fk p)) [(2, .bool false), (7, .pointer (some ⟨b_1, 0, none⟩)), (8, .int .i16 v), (9, .bool (decide ((4 : Int) ≤ v))), (10, .pointer (some ⟨b, 0, none⟩)), (11, .slice none 0 0), (12, .slice a0 (lT x0.1).length c0), (13, .int .i32 (rArr false ⟨s, false, !a.isNone⟩).1), (14, .int .i32 (0 : Int))] (.of ⟨rfl, rfl, rfl, rfl, rfl, rfl, rfl, rfl, rfl, trivial⟩) ⟨[], Nr0, _, rfl, rfl, (hR48.mono le_2), hr0, rfl, (fun p hp => by cases hp)⟩ (fun k0 l' H' L' hk0 le_3 hI => ?_))
   obtain ⟨es0, M0, RN0, rfl, rfl, hR_0, hw_0, he_0, hg_0⟩ := hI
   have hs_0 := els_len he_0
   have hp_0 : (es0.flatMap fk).length = k0 * 4 := els_flat hs_0
   refine sq ?_
   refine sr ?_
   refine mv rfl rfl ?_
   refine mv rfl rfl ?_
   refine lt rfl rfl rfl ?_
   refine nl ?_
   refine cd rfl (fun h61 => ?_) (fun h61 => ?_)
   ·
    have hkl0 : k0 < (lT x0.1).length := by omega
    obtain ⟨g0, po0, hga0, rfl, hbk0⟩ := hw_0.next (zs := [.int .i8 0, .string ⟨#[]⟩, .slice none 0 0, .map none]) hkl0 rfl (by decide)
    have ho0 : 0 + k0 * 4 = (es0.flatMap fk).length := by rw [hp_0]; omega
    have hbz0 : ((decV 10 (decP fs_sDescribeConfigsRequestResource v false) false false) (rMany (decV 10 (decP fs_sDescribeConfigsRequestResource v false) false false) k0 (rArr false ⟨s, false, !a.isNone⟩).2).2).2.bad = true → (decP fs_DescribeConfigsRequest v false ⟨s, false, !a.isNone⟩).2.bad = true := fun h => hB0 (by rw [ex0]; exact rMany_mono (fun r h => decV_bad (fun r h => decP_bad _ _ _ r h) h) _ (show k0 + 1 ≤ (lT x0.1).length from hkl0) (by rw [rMany_succ]; exact h))
    have hLk0 : (rMany (decV 10 (decP fs_sDescribeConfigsRequestResource v false) false false) k0 (rArr false ⟨s, false, !a.isNone⟩).2).2.s.length ≤ BR := Nat.le_trans (rMany_shr (fun r => decV_shr (fun r => decP_shr _ _ _ r) r) _ _) hm0
    have hL0__ := hLk0
    obtain ⟨x0_0, hx0_0⟩ : ∃ x, x = stepF (Fd.mk 1 0 (-1) (-1) (-1) 0 0 []) v false (rMany (decV 10 (decP fs_sDescribeConfigsRequestResource v false) false false) k0 (rArr false ⟨s, false, !a.isNone⟩).2).2 := ⟨_, rfl⟩
    obtain ⟨x0_1, hx0_1⟩ : ∃ x, x = stepF (Fd.mk 8 0 (-1) (-1) (-1) 0 0 []) v false x0_0.2 := ⟨_, rfl⟩
    obtain ⟨x0_2, hx0_2⟩ : ∃ x, x = stepF (Fd.mk 11 0 (-1) 0 (-1) 0 8 []) v false x0_1.2 := ⟨_, rfl⟩
    obtain ⟨u0_, hu0_⟩ : ∃ x, x = tailU false x0_2.2 := ⟨_, rfl⟩
    have hD0_ : decP fs_sDescribeConfigsRequestResource v false (rMany (decV 10 (decP fs_sDescribeConfigsRequestResource v false) false false) k0 (rArr false ⟨s, false, !a.isNone⟩).2).2 = (.mk 0 [] false [x0_0.1, x0_1.1, x0_2.1] u0_.1, u0_.2) := by
     generalize ((rMany (decV 10 (decP fs_sDescribeConfigsRequestResource v false) false false) k0 (rArr false ⟨s, false, !a.isNone⟩).2).2 : Rd) = r_ at hx0_0 ⊢
     rw [decP_eq]; unfold fs_sDescribeConfigsRequestResource; simp only [decFs_cons, decFs_nil, ← hx0_0, ← hx0_1, ← hx0_2, ← hu0_]
    have hL0_0 : x0_0.2.s.length ≤ BR := by rw [hx0_0]; exact Nat.le_trans (stepF_shr _ _ _ _) hL0__
    have hL0_1 : x0_1.2.s.length ≤ BR := by rw [hx0_1]; exact Nat.le_trans (stepF_shr _ _ _ _) hL0_0
    have hL0_2 : x0_2.2.s.length ≤ BR := by rw [hx0_2]; exact Nat.le_trans (stepF_shr _ _ _ _) hL0_1
    have hE0_ : u0_.2.bad = true → (decP fs_DescribeConfigsRequest v false ⟨s, false, !a.isNone⟩).2.bad = true := fun h => hbz0 (by show (decP fs_sDescribeConfigsRequestResource v false (rMany (decV 10 (decP fs_sDescribeConfigsRequestResource v false) false false) k0 (rArr false ⟨s, false, !a.isNone⟩).2).2).2.bad = true; rw [hD0_]; exact h)
    have hB0_2 : x0_2.2.bad = true → (decP fs_DescribeConfigsRequest v false ⟨s, false, !a.isNone⟩).2.bad = true := fun h => hE0_ (by rw [hu0_]; exact tailU_bad h)
    have hB0_1 : x0_1.2.bad = true → (decP fs_DescribeConfigsRequest v false ⟨s, false, !a.isNone⟩).2.bad = true := fun h => hB0_2 (by rw [hx0_2]; exact step_bad h)
    have hB0_0 : x0_0.2.bad = true → (decP fs_DescribeConfigsRequest v false ⟨s, false, !a.isNone⟩).2.bad = true := fun h => hB0_1 (by rw [hx0_1]; exact step_bad h)
    refine skt ?_
    refine sq ?_
    refine bl ?_
    refine sr ?_
    refine mv rfl rfl ?_
    refine mv rfl rfl ?_
    refine ixk (j := k0) Tryz.runUnderlying108 Tryz.sizeOf163 rfl hga0 rfl rfl hkl0 rfl ?_
    refine asg rfl rfl ?_
    refine nl ?_
    refine sr ?_
    refine mv rfl rfl ?_
    refine cl rfl rfl rfl (def_DescribeConfigsRequestResource ho0) rfl (fun v_ H1 L1 hle_ hR_ => ?_)
    obtain ⟨rfl, rfl⟩ := hR_
    refine nl ?_
    refine sr ?_
    refine mv rfl rfl ?_
    refine asg rfl rfl ?_
    refine nl ?_
    refine sq ?_
    refine sr ?_
    refine asg rfl rfl ?_
    refine nl ?_
    refine sq ?_
    refine sr ?_
    refine tf (.tail .head) ?_
    have ex0_0 : x0_0 = decV 1 (decP [] v false) false false (rMany (decV 10 (decP fs_sDescribeConfigsRequestResource v false) false false) k0 (rArr false ⟨s, false, !a.isNone⟩).2).2 := (hx0_0.trans (step_yes (by decide) (show (0 : Int) ≤ v by omega) (Or.inl (by decide)))).trans (decF'_val (by decide) (rfl))
    refine cl rfl rfl rfl (d1 hR_0 ex0_0) rfl (fun v_ H1 L1 hle_ hR_ => ?_)
    obtain ⟨N70, rfl, hR70, rfl, rfl⟩ := hR_
    refine asg rfl rfl ?_
    refine nl ?_
    refine rg ?_
    refine mv rfl rfl ?_
    refine asg rfl rfl ?_
    refine nl ?_
    refine sr ?_
    refine mv rfl rfl ?_
    refine asg rfl rfl ?_
    refine nl ?_
    refine rg ?_
    refine mv rfl rfl ?_
    refine mv rfl rfl ?_
    refine nc rfl rfl ?_
    refine fa F163_0 rfl rfl ?_
    refine stM (off := 0) Tryz.sizeOf160 rfl (by rw [ho0]) rfl rfl rfl (.tail .head) ?_
    refine nl ?_
    refine sq ?_
    refine sr ?_
    refine asg rfl rfl ?_
    refine nl ?_
    refine sq ?_
    refine sr ?_
    refine mv rfl rfl ?_
    refine nl ?_
    refine cF rfl ?_
    refine sr ?_
    refine mv rfl rfl ?_
    refine nl ?_
    refine cdF rfl (by omega) ?_
    refine rg ?_
    have ex0_1 : x0_1 = decV 8 (decP [] v false) false false x0_0.2 := (hx0_1.trans (step_yes (by decide) (show (0 : Int) ≤ v by omega) (Or.inl (by decide)))).trans (decF'_val (by decide) (rfl))
    refine cl rfl rfl rfl (d8f hR70 ex0_1) rfl (fun v_ H1 L1 le_5 hR_ => ?_)
    obtain ⟨N83, rfl, hR83, rfl, rfl⟩ := hR_
    refine asg rfl rfl ?_
    refine nl ?_
    refine rg ?_
    refine mv rfl rfl ?_
    refine mv rfl rfl ?_
    refine nc rfl rfl ?_
    refine fa F163_1 rfl rfl ?_
    refine stM (off := 1) Tryz.sizeOf9 rfl (by rw [ho0]) rfl rfl rfl (.tail .head) ?_
    refine nl ?_
    refine sq ?_
    refine sr ?_
    refine mv rfl rfl ?_
    refine nc rfl rfl ?_
    refine fa F163_2 rfl rfl ?_
    refine ld (j := 2) (off := 0 + k0 * 4) (Says.mid (.tail .head) ho0) Tryz.isAgg161 rfl rfl rfl rfl ?_
    refine asg rfl rfl ?_
    refine nl ?_
    refine sr ?_
    refine mv rfl rfl ?_
    refine asg rfl rfl ?_
    refine nl ?_
    refine sr ?_
    refine asg rfl rfl ?_
    refine nl ?_
    refine sq ?_
    refine sr ?_
    refine mv rfl rfl ?_
    refine nl ?_
    refine cdF rfl (by omega) ?_
    refine rg ?_
    have ey0_2 : x0_2 = (.mk 0 [] (if 0 ≤ (0 : Int) ∧ (v < (0 : Int) ∨ (rArr false x0_1.2).1 = 0) then false else decide ((rArr false x0_1.2).1 ≤ 0)) (rMany (decV 8 (decP [] v false) false false) (rArr false x0_1.2).1.toNat (rArr false x0_1.2).2).1 [], (rMany (decV 8 (decP [] v false) false false) (rArr false x0_1.2).1.toNat (rArr false x0_1.2).2).2) := (hx0_2.trans (step_yes (by decide) (show (0 : Int) ≤ v by omega) (Or.inl (by decide)))).trans (decF'_list rfl rfl)
    have hn0_2 : (rArr false x0_1.2).1.toNat = (lT x0_2.1).length := by rw [ey0_2]; exact (lT_many nul_le).symm
    have ex0_2 := ey0_2
    rw [hn0_2] at ex0_2
    have hl0_2 := rArr_le false x0_1.2
    have hm0_2 : (rArr false x0_1.2).2.s.length ≤ BR := Nat.le_trans (rArr_len false x0_1.2) hL0_1
    have hnb0_2 : (lT x0_2.1).length ≤ BR := by omega
    refine cl rfl rfl rfl (r_arrf hR83) rfl (fun v_ H1 L1 hle_ hR_ => ?_)
    obtain ⟨rfl, N95, rfl, hR95, rfl⟩ := hR_
    have hh0_2 := rArr_hi false x0_1.2
    refine asg rfl rfl ?_
    refine nl ?_
    refine sq ?_
    refine sr ?_
    refine mv rfl rfl ?_
    refine lt rfl rfl rfl ?_
    refine mv rfl rfl ?_
    refine spl (t := 98) rfl (fun hn_ => absurd hn_ (by omega)) (fun _ => ?_)
    refine gr rfl rfl ?_
    refine mv rfl rfl ?_
    refine gr rfl rfl ?_
    refine eq' rfl rfl rfl ?_
    refine pk rfl rfl rfl rfl ?_
    refine nl ?_
    refine nulC2 ?_
    refine cutT (fun l' H' L' => ∃ (az0_2 : Option Addr), ∃ (Nz0_2 : Chunk), [(2, .bool false), (7, .pointer (some ⟨b_1, 0, none⟩)), (8, .int .i16 v), (9, .bool (decide ((4 : Int) ≤ v))), (10, .pointer (some ⟨b, 0, none⟩)), (11, .slice none 0 0), (12, .slice a0 (lT x0.1).length c0), (13, .int .i32 (rArr false ⟨s, false, !a.isNone⟩).1), (14, .int .i32 (k0 : Int)), (16, .pointer (some ⟨g0, 0 + k0 * 4, none⟩)), (21, .slice none 0 0), (22, .slice az0_2 0 0), (23, .int .i32 (rArr false x0_1.2).1)] = l' ∧ Nz0_2 :: N95 :: [(g0, .cells ((es0.flatMap fk) ++ ([.int .i8 (IntKind.i8.wrap x0_0.1.n), .string ⟨x0_1.1.s.toArray⟩, .slice none 0 0, .map none] : List Value) ++ po0).toArray 163 (0, 0))] :: [(b, .cells [.int .i16 v, .slice none 0 0, .bool false, .bool false, .map none].toArray 110 (0, 0))] :: L = L' ∧ Row 9 1 az0_2 0 0 [] Nz0_2 ∧ (¬ (0 : Int) < (rArr false x0_1.2).1 → az0_2.isNone = (if 0 ≤ (0 : Int) ∧ (v < (0 : Int) ∨ (rArr false x0_1.2).1 = 0) then false else decide ((rArr false x0_1.2).1 ≤ 0)))) ?_ (fun l' H' L' le_6 hI => ?_)
    ·
     refine cd rfl (fun h101 => ?_) (fun h101 => ?_)
     ·
      refine rg ?_
      refine bs' L161 rfl rfl rfl rfl (fun b_7 => ?_)
      refine asg rfl rfl ?_
      refine nN ?_
      refine drN (.tail .head) ?_
      refine fun a_ w_ hA hw => ⟨_, _, _, hA.sub ?_, ler, hw, (some ⟨b_7, 0, none⟩), _, rfl, rfl, (Row.whole (m := 0) rfl (by decide)), (fun _ => by rw [if_pos ⟨by decide, .inr h101⟩]; rfl)⟩
      exact (.cons rfl (.cons rfl (.cons rfl (.cons rfl (.cons rfl (.cons rfl (.cons rfl (.cons rfl (.cons rfl (.cons rfl (.cons rfl (.cons rfl (.cons rfl (.nil _))))))))))))))
     ·
      refine skN ?_
      refine fun a_ w_ hA hw => ⟨_, _, _, hA.sub ?_, ler, hw, none, [], rfl, rfl, (Row.nil _ _), (fun hz_ => by rw [if_neg (by omega)]; exact (decide_eq_true (by omega)).symm)⟩
      exact (.cons rfl (.cons rfl (.cons rfl (.cons rfl (.cons rfl (.cons rfl (.cons rfl (.cons rfl (.cons rfl (.cons rfl (.cons rfl (.cons rfl (.cons rfl (.nil _))))))))))))))
    ·
     obtain ⟨az0_2, Nz0_2, rfl, rfl, pj0, pj1⟩ := hI
     have hz00_2 := pj0
     have hz10_2 := pj1
     refine sq ?_
     refine sr ?_
     refine tf (.tail .head) ?_
     refine cl rfl rfl rfl (r_ok (hR95.mono le_6)) rfl (fun v_ H1 L1 hle_ hR_ => ?_)
     obtain ⟨rfl, rfl, rfl⟩ := hR_
     refine nt rfl rfl ?_
     refine nl ?_
     refine cb rfl (fun h104 => ?_) (fun h104 => ?_)
     ·
      have hbad_ : (rArr false x0_1.2).2.bad = true := by simpa using h104
      refine sr ?_
      refine cl rfl rfl rfl (r_complete (hR95.mono le_6) (he.mono (le_2.trans (le_3.trans le_6)))) rfl (fun v_ H1 L1 hle_ hR_ => ?_)
      obtain ⟨rfl, rfl, rfl⟩ := hR_
      refine asg rfl rfl ?_
      refine nl ?_
      refine drW .head ?_
      refine drW .head ?_
      refine drW .head ?_
      exact rT rfl rfl (le_2.trans (le_3.trans le_6)) (fun _ _ h => h) ⟨_, rfl, RdEnd.out (hB0_2 (by rw [ey0_2]; exact rMany_bad (fun r h => decV_bad (decP_bad _ _ _) h) _ _ hbad_)) hbad_⟩
     ·
      refine skt ?_
      refine sr ?_
      refine mv rfl rfl ?_
      refine sh' (j := 0) Tryz.runUnderlying161 Tryz.sizeOf9 rfl rfl rfl (Nat.zero_le _) rfl ?_
      refine asg rfl rfl ?_
      refine nl ?_
      refine sq ?_
      refine sr ?_
      refine mv rfl rfl ?_
      refine gt rfl rfl rfl ?_
      refine nl ?_
      refine cutT (fun l' H' L' => ∃ (a0_2 : Option Addr), ∃ (c0_2 : Nat), ∃ (Nr0_2 : Chunk), [(2, .bool false), (7, .pointer (some ⟨b_1, 0, none⟩)), (8, .int .i16 v), (9, .bool (decide ((4 : Int) ≤ v))), (10, .pointer (some ⟨b, 0, none⟩)), (11, .slice none 0 0), (12, .slice a0 (lT x0.1).length c0), (13, .int .i32 (rArr false ⟨s, false, !a.isNone⟩).1), (14, .int .i32 (k0 : Int)), (16, .pointer (some ⟨g0, 0 + k0 * 4, none⟩)), (21, .slice none 0 0), (22, .slice a0_2 (lT x0_2.1).length c0_2), (23, .int .i32 (rArr false x0_1.2).1)] = l' ∧ N95 :: Nr0_2 :: [(g0, .cells ((es0.flatMap fk) ++ ([.int .i8 (IntKind.i8.wrap x0_0.1.n), .string ⟨x0_1.1.s.toArray⟩, .slice none 0 0, .map none] : List Value) ++ po0).toArray 163 (0, 0))] :: [(b, .cells [.int .i16 v, .slice none 0 0, .bool false, .bool false, .map none].toArray 110 (0, 0))] :: L = L' ∧ Row 9 1 a0_2 (lT x0_2.1).length c0_2 (reps [.string ⟨#[]⟩] (lT x0_2.1).length) Nr0_2 ∧ a0_2.isNone = (if 0 ≤ (0 : Int) ∧ (v < (0 : Int) ∨ (rArr false x0_1.2).1 = 0) then false else decide ((rArr false x0_1.2).1 ≤ 0))) ?_ (fun l' H' L' le_8 hI => ?_)
      ·
       refine cd rfl (fun h109 => ?_) (fun h109 => ?_)
       ·
        refine rg ?_
        refine mv rfl rfl ?_
        refine mv rfl rfl ?_
        refine apz (zs := [.string ⟨#[]⟩]) (m := (lT x0_2.1).length) Tryz.underlying161 Tryz.underlying21 I9 rfl rfl rfl (by omega) (by omega) (by have h9 := hnb0_2; unfold BR at h9; omega) (by have h9 := hnb0_2; unfold BR at h9; unfold maxLen; omega) rfl (fun g112 cp112 N112 r112 => ?_)
        refine asg rfl rfl ?_
        refine nN ?_
        refine drN (.tail (.tail .head)) ?_
        refine tfN (.tail .head) ?_
        refine fun a_ w_ hA hw => ⟨_, _, _, hA.sub ?_, ler, hw, (some ⟨g112, 0, none⟩), cp112, N112, rfl, rfl, r112, (by split; rfl; exact (decide_eq_false (by omega)).symm)⟩
        exact (.cons rfl (.cons rfl (.cons rfl (.cons rfl (.cons rfl (.cons rfl (.cons rfl (.cons rfl (.cons rfl (.cons rfl (.cons rfl (.cons rfl (.cons rfl (.nil _))))))))))))))
       ·
        refine skN ?_
        refine fun a_ w_ hA hw => ⟨_, _, _, hA.sub ?_, ler, hw, az0_2, 0, Nz0_2, rfl, rfl, (by rw [show (lT x0_2.1).length = 0 by omega]; exact hz00_2), (hz10_2 (by omega))⟩
        exact (.cons rfl (.cons rfl (.cons rfl (.cons rfl (.cons rfl (.cons rfl (.cons rfl (.cons rfl (.cons rfl (.cons rfl (.cons rfl (.cons (by rw [show (lT x0_2.1).length = 0 by omega]; rfl) (.cons rfl (.nil _))))))))))))))
      ·
       obtain ⟨a0_2, c0_2, Nr0_2, rfl, rfl, pj0, pj1⟩ := hI
       have hr0_2 := pj0
       have hi0_2 := pj1
       refine sq ?_
       refine sr ?_
       refine asg rfl rfl ?_
       refine nl ?_
       refine bl (lp ((lT x0_2.1).length) (fun k0_2 l' H' L' => ∃ (es0_2 : List (KE 1)) (M0_2 RN0_2 : Chunk), [(2, .bool false), (7, .pointer (some ⟨b_1, 0, none⟩)), (8, .int .i16 v), (9, .bool (decide ((4 : Int) ≤ v))), (10, .pointer (some ⟨b, 0, none⟩)), (11, .slice none 0 0), (12, .slice a0 (lT x0.1).length c0), (13, .int .i32 (rArr false ⟨s, false, !a.isNone⟩).1), (14, .int .i32 (k0 : Int)), (16, .pointer (some ⟨g0, 0 + k0 * 4, none⟩)), (21, .slice none 0 0), (22, .slice a0_2 (lT x0_2.1).length c0_2), (23, .int .i32 (rArr false x0_1.2).1), (24, .int .i32 (k0_2 : Int))] = l' ∧ RN0_2 :: M0_2 :: [(g0, .cells ((es0.flatMap fk) ++ ([.int .i8 (IntKind.i8.wrap x0_0.1.n), .string ⟨x0_1.1.s.toArray⟩, .slice none 0 0, .map none] : List Value) ++ po0).toArray 163 (0, 0))] :: [(b, .cells [.int .i16 v, .slice none 0 0, .bool false, .bool false, .map none].toArray 110 (0, 0))] :: L = L' ∧ RdAt H' 118 b_1 (rMany (decV 8 (decP [] v false) false false) k0_2 (rArr false x0_1.2).2).2 RN0_2 ∧ Row 9 1 a0_2 (lT x0_2.1).length c0_2 (es0_2.flatMap fk ++ reps [.string ⟨#[]⟩] ((lT x0_2.1).length - k0_2)) M0_2 ∧ es0_2.map (·.2) = (rMany (decV 8 (decP [] v false) false false) k0_2 (rArr false x0_1.2).2).1 ∧ ∀ p ∈ es0_2, RText H' p.2 (fk p)) [(2, .bool false), (7, .pointer (some ⟨b_1, 0, none⟩)), (8, .int .i16 v), (9, .bool (decide ((4 : Int) ≤ v))), (10, .pointer (some ⟨b, 0, none⟩)), (11, .slice none 0 0), (12, .slice a0 (lT x0.1).length c0), (13, .int .i32 (rArr false ⟨s, false, !a.isNone⟩).1), (14, .int .i32 (k0 : Int)), (16, .pointer (some ⟨g0, 0 + k0 * 4, none⟩)), (21, .slice none 0 0), (22, .slice a0_2 (lT x0_2.1).length c0_2), (23, .int .i32 (rArr false x0_1.2).1), (24, .int .i32 (0 : Int))] (.of ⟨rfl, rfl, rfl, rfl, rfl, rfl, rfl, rfl, rfl, rfl, rfl, rfl, rfl, rfl, trivial⟩) ⟨[], Nr0_2, _, rfl, rfl, (hR95.mono (le_6.trans le_8)), hr0_2, rfl, (fun p hp => by cases hp)⟩ (fun k0_2 l' H' L' hk0_2 le_9 hI => ?_))
       obtain ⟨es0_2, M0_2, RN0_2, rfl, rfl, hR_0_2, hw_0_2, he_0_2, hg_0_2⟩ := hI
       have hs_0_2 := els_len he_0_2
       have hp_0_2 : (es0_2.flatMap fk).length = k0_2 * 1 := els_flat hs_0_2
       refine sq ?_
       refine sr ?_
       refine mv rfl rfl ?_
       refine mv rfl rfl ?_
       refine lt rfl rfl rfl ?_
       refine nl ?_
       refine cd rfl (fun h115 => ?_) (fun h115 => ?_)
       ·
        have hkl0_2 : k0_2 < (lT x0_2.1).length := by omega
        obtain ⟨g0_2, po0_2, hga0_2, rfl, hbk0_2⟩ := hw_0_2.next (zs := [.string ⟨#[]⟩]) hkl0_2 rfl (by decide)
        have ho0_2 : 0 + k0_2 * 1 = (es0_2.flatMap fk).length := by rw [hp_0_2]; omega
        have hbz0_2 : ((decV 8 (decP [] v false) false false) (rMany (decV 8 (decP [] v false) false false) k0_2 (rArr false x0_1.2).2).2).2.bad = true → (decP fs_DescribeConfigsRequest v false ⟨s, false, !a.isNone⟩).2.bad = true := fun h => hB0_2 (by rw [ex0_2]; exact rMany_mono (fun r h => decV_bad (fun r h => decP_bad _ _ _ r h) h) _ (show k0_2 + 1 ≤ (lT x0_2.1).length from hkl0_2) (by rw [rMany_succ]; exact h))
        have hLk0_2 : (rMany (decV 8 (decP [] v false) false false) k0_2 (rArr false x0_1.2).2).2.s.length ≤ BR := Nat.le_trans (rMany_shr (fun r => decV_shr (fun r => decP_shr _ _ _ r) r) _ _) hm0_2
        obtain ⟨y0_2, hy0_2⟩ : ∃ x, x = (decV 8 (decP [] v false) false false) (rMany (decV 8 (decP [] v false) false false) k0_2 (rArr false x0_1.2).2).2 := ⟨_, rfl⟩
        refine skt ?_
        refine sq ?_
        refine bl ?_
        refine sr ?_
        refine asg rfl rfl ?_
        refine nl ?_
        refine sq ?_
        refine sr ?_
        refine mv rfl rfl ?_
        refine nl ?_
        refine cF rfl ?_
        refine sr ?_
        refine mv rfl rfl ?_
        refine nl ?_
        refine cdF rfl (by omega) ?_
        refine rg ?_
        refine cl rfl rfl rfl (d8f hR_0_2 hy0_2) rfl (fun v_ H1 L1 hle_ hR_ => ?_)
        obtain ⟨N124, rfl, hR124, rfl, rfl⟩ := hR_
        refine asg rfl rfl ?_
        refine nl ?_
        refine rg ?_
        refine mv rfl rfl ?_
        refine mv rfl rfl ?_
        refine mv rfl rfl ?_
        refine ixk (j := k0_2) Tryz.runUnderlying161 Tryz.sizeOf9 rfl hga0_2 rfl rfl hkl0_2 rfl ?_
        refine stM (off := 0) Tryz.sizeOf9 rfl ho0_2 rfl rfl rfl (.tail .head) ?_
        refine nN ?_
        refine Nb ?_
        refine Nt ?_
        refine rg ?_
        refine mv rfl rfl ?_
        refine ad rfl rfl (c := ((k0_2 + 1 : Nat) : Int)) ((wrap32_le (by omega) (by omega)).trans (by omega)) rfl ?_
        refine asg rfl rfl ?_
        refine nN ?_
        have hfs0_2 := flatMap_snoc' fk es0_2 ((⟨([.string ⟨y0_2.1.s.toArray⟩] : List Value), rfl, all_one rfl⟩, ((decV 8 (decP [] v false) false false) (rMany (decV 8 (decP [] v false) false false) k0_2 (rArr false x0_1.2).2).2).1) : KE 1)
        have hrw0_2 := hbk0_2 ([.string ⟨y0_2.1.s.toArray⟩] : List Value) rfl
        refine fun a_ w_ hA hw => ⟨hkl0_2, _, _, _, hA.sub ?_, le_9, hw, _, _, _, rfl, rfl, (by rw [rMany_succ, ← hy0_2]; exact hR124), (by rw [← hfs0_2]; exact hrw0_2), (dec_els he_0_2), (fun p hp => (mem_snoc hp).elim (fun h => RText.mono _ _ _ _ ler (hg_0_2 p h)) (fun h => h ▸ (by show RText _ ((decV 8 (decP [] v false) false false) (rMany (decV 8 (decP [] v false) false false) k0_2 (rArr false x0_1.2).2).2).1 [.string ⟨y0_2.1.s.toArray⟩]; rw [← hy0_2]; rfl)))⟩
        exact (.of ⟨rfl, rfl, rfl, rfl, rfl, rfl, rfl, rfl, rfl, rfl, rfl, rfl, rfl, rfl, trivial⟩)
       ·
        have hkn_ : k0_2 = (lT x0_2.1).length := by omega
        subst hkn_
        have hw2_0_2 : Row 9 1 a0_2 (lT x0_2.1).length c0_2 (es0_2.flatMap fk) M0_2 := by have h := hw_0_2; rw [Nat.sub_self] at h; simpa [reps] using h
        refine frW hw2_0_2 (.tail .head) (fun Hf0_2 hlf0_2 hfz0_2 => ?_)
        have hrs0_2 := RowsAt.row (R := RText) hfz0_2 hs_0_2.symm hw2_0_2.le.1 (fun p hp => RText.mono _ _ _ _ hlf0_2 (hg_0_2 p hp))
        rw [he_0_2] at hrs0_2
        have hf0_2 : ListAt Hf0_2 x0_2.1 1 RText a0_2 c0_2 := by rw [ex0_2]; exact listAt_of hrs0_2 hi0_2 (fun h => by have h1 := nul_le h; rw [show (lT x0_2.1).length = 0 by omega]; rfl)
        have hRx0_2 : RdAt Hf0_2 118 b_1 x0_2.2 RN0_2 := by rw [ex0_2]; exact (hR_0_2.mono hlf0_2)
        refine exX ?_
        refine XT ?_
        refine XT ?_
        refine Xb ?_
        refine Nt ?_
        refine sr ?_
        refine mv rfl rfl ?_
        refine asg rfl rfl ?_
        refine nl ?_
        refine rg ?_
        refine mv rfl rfl ?_
        refine mv rfl rfl ?_
        refine nc rfl rfl ?_
        refine fa F163_2 rfl rfl ?_
        refine stM (off := 2) Tryz.sizeOf161 rfl (by rw [ho0]) rfl rfl rfl (.tail .head) ?_
        refine nl ?_
        refine sr ?_
        refine mv rfl rfl ?_
        refine nl ?_
        refine cdF rfl (by omega) ?_
        refine skN ?_
        refine Nb ?_
        refine Nt ?_
        refine rg ?_
        refine mv rfl rfl ?_
        refine ad rfl rfl (c := ((k0 + 1 : Nat) : Int)) ((wrap32_le (by omega) (by omega)).trans (by omega)) rfl ?_
        refine asg rfl rfl ?_
        refine nN ?_
        obtain rfl : u0_ = ([], x0_2.2) := hu0_
        have hfs0 := flatMap_snoc' fk es0 ((⟨([.int .i8 (IntKind.i8.wrap x0_0.1.n), .string ⟨x0_1.1.s.toArray⟩, .slice a0_2 (lT x0_2.1).length c0_2, .map none] : List Value), rfl, all_one rfl⟩, ((decV 10 (decP fs_sDescribeConfigsRequestResource v false) false false) (rMany (decV 10 (decP fs_sDescribeConfigsRequestResource v false) false false) k0 (rArr false ⟨s, false, !a.isNone⟩).2).2).1) : KE 4)
        have hrw0 := hbk0 ([.int .i8 (IntKind.i8.wrap x0_0.1.n), .string ⟨x0_1.1.s.toArray⟩, .slice a0_2 (lT x0_2.1).length c0_2, .map none] : List Value) rfl
        refine tfN (.tail .head) ?_
        refine fun a_ w_ hA hw => ⟨hkl0, _, _, _, hA.sub ?_, (le_3.trans (le_6.trans (le_8.trans (le_9.trans hlf0_2)))), hw, _, _, _, rfl, rfl, (by rw [rMany_succ]; show RdAt _ 118 b_1 (decP fs_sDescribeConfigsRequestResource v false (rMany (decV 10 (decP fs_sDescribeConfigsRequestResource v false) false false) k0 (rArr false ⟨s, false, !a.isNone⟩).2).2).2 _; rw [hD0_]; exact hRx0_2), (by rw [← hfs0]; exact hrw0), (dec_els he_0), (fun p hp => (mem_snoc hp).elim (fun h => At_DescribeConfigsRequestResource.mono _ _ _ _ (le_6.trans (le_8.trans (le_9.trans hlf0_2))) (hg_0 p h)) (fun h => h ▸ (by show At_DescribeConfigsRequestResource _ (decP fs_sDescribeConfigsRequestResource v false (rMany (decV 10 (decP fs_sDescribeConfigsRequestResource v false) false false) k0 (rArr false ⟨s, false, !a.isNone⟩).2).2).1 [.int .i8 (IntKind.i8.wrap x0_0.1.n), .string ⟨x0_1.1.s.toArray⟩, .slice a0_2 (lT x0_2.1).length c0_2, .map none]; rw [hD0_]; exact ⟨a0_2, c0_2, none, rfl, hf0_2, (KvAt.nil _)⟩)))⟩
        exact (.of ⟨rfl, rfl, rfl, rfl, rfl, rfl, rfl, rfl, rfl, trivial⟩)
   ·
    have hkn_ : k0 = (lT x0.1).length := by omega
    subst hkn_
    have hw2_0 : Row 163 4 a0 (lT x0.1).length c0 (es0.flatMap fk) M0 := by have h := hw_0; rw [Nat.sub_self] at h; simpa [reps] using h
    refine frW hw2_0 .head (fun Hf0 hlf0 hfz0 => ?_)
    have hrs0 := RowsAt.row (R := At_DescribeConfigsRequestResource) hfz0 hs_0.symm hw2_0.le.1 (fun p hp => At_DescribeConfigsRequestResource.mono _ _ _ _ hlf0 (hg_0 p hp))
    rw [he_0] at hrs0
    have hf0 : ListAt Hf0 x0.1 4 At_DescribeConfigsRequestResource a0 c0 := by rw [ex0]; exact listAt_of hrs0 hi0 (fun h => by have h1 := nul_le h; rw [show (lT x0.1).length = 0 by omega]; rfl)
    have hRx0 : RdAt Hf0 118 b_1 x0.2 RN0 := by rw [ex0]; exact (hR_0.mono hlf0)
    refine exX ?_
    refine XT ?_
    refine XT ?_
    refine Xb ?_
    refine Nt ?_
    refine sr ?_
    refine mv rfl rfl ?_
    refine asg rfl rfl ?_
    refine nl ?_
    refine rg ?_
    refine mv rfl rfl ?_
    refine mv rfl rfl ?_
    refine nc rfl rfl ?_
    refine fa0 F110_1 rfl rfl ?_
    refine st Tryz.sizeOf108 rfl rfl rfl rfl (.tail .head) ?_
    refine nl ?_
    refine sq ?_
    refine sr ?_
    refine mv rfl rfl ?_
    refine ge rfl rfl rfl ?_
    refine nl ?_
    refine cutT (fun l' H' L' => ∃ (Nj1 : Chunk), [(7, .pointer (some ⟨b_1, 0, none⟩)), (8, .int .i16 v), (9, .bool (decide ((4 : Int) ≤ v))), (10, .pointer (some ⟨b, 0, none⟩))] = l' ∧ Nj1 :: [(b, .cells [.int .i16 v, .slice a0 (lT x0.1).length c0, .bool (decide (x1.1.n % 2 = 1)), .bool false, .map none].toArray 110 (0, 0))] :: L = L' ∧ RdAt H' 118 b_1 x1.2 Nj1) ?_ (fun l' H' L' le_11 hI => ?_)
    ·
     refine cd rfl (fun h145 => ?_) (fun h145 => ?_)
     ·
      refine sr ?_
      have ex1 : x1 = decV 0 (decP [] v false) false false x0.2 := (hx1.trans (step_yes (by decide) (show (1 : Int) ≤ v by omega) (Or.inl (by decide)))).trans (decF'_val (by decide) (rfl))
      refine cl rfl rfl rfl (d0 hRx0 ex1) rfl (fun v_ H1 L1 hle_ hR_ => ?_)
      obtain ⟨N146, rfl, hR146, rfl, rfl⟩ := hR_
      refine asg rfl rfl ?_
      refine nl ?_
      refine rg ?_
      refine mv rfl rfl ?_
      refine mv rfl rfl ?_
      refine nc rfl rfl ?_
      refine fa0 F110_2 rfl rfl ?_
      refine st Tryz.sizeOf4 rfl rfl rfl rfl (.tail .head) ?_
      refine nN ?_
      refine fun a_ w_ hA hw => ⟨_, _, _, hA.sub ?_, ler, hw, N146, rfl, rfl, hR146⟩
      exact (.cons rfl (.cons rfl (.cons rfl (.cons rfl (.nil _)))))
     ·
      refine skN ?_
      obtain rfl : x1 = ((Tr.mk 0 [] false [] []), x0.2) := (hx1.trans (step_no (Or.inl (show v < (1 : Int) by omega)))).trans (by rw [dflF_eq]; rfl)
      refine fun a_ w_ hA hw => ⟨_, _, _, hA.sub ?_, ler, hw, RN0, rfl, rfl, hRx0⟩
      exact (.cons rfl (.cons rfl (.cons rfl (.cons rfl (.nil _)))))
    ·
     obtain ⟨Nj1, rfl, rfl, pj0⟩ := hI
     have hRj1 := pj0
     refine sq ?_
     refine sr ?_
     refine mv rfl rfl ?_
     refine ge rfl rfl rfl ?_
     refine nl ?_
     refine cutT (fun l' H' L' => ∃ (Nj2 : Chunk), [(7, .pointer (some ⟨b_1, 0, none⟩)), (9, .bool (decide ((4 : Int) ≤ v))), (10, .pointer (some ⟨b, 0, none⟩))] = l' ∧ Nj2 :: [(b, .cells [.int .i16 v, .slice a0 (lT x0.1).length c0, .bool (decide (x1.1.n % 2 = 1)), .bool (decide (x2.1.n % 2 = 1)), .map none].toArray 110 (0, 0))] :: L = L' ∧ RdAt H' 118 b_1 x2.2 Nj2) ?_ (fun l' H' L' le_13 hI => ?_)
     ·
      refine cd rfl (fun h152 => ?_) (fun h152 => ?_)
      ·
       refine sr ?_
       have ex2 : x2 = decV 0 (decP [] v false) false false x1.2 := (hx2.trans (step_yes (by decide) (show (3 : Int) ≤ v by omega) (Or.inl (by decide)))).trans (decF'_val (by decide) (rfl))
       refine cl rfl rfl rfl (d0 hRj1 ex2) rfl (fun v_ H1 L1 hle_ hR_ => ?_)
       obtain ⟨N153, rfl, hR153, rfl, rfl⟩ := hR_
       refine asg rfl rfl ?_
       refine nl ?_
       refine rg ?_
       refine mv rfl rfl ?_
       refine mv rfl rfl ?_
       refine nc rfl rfl ?_
       refine fa0 F110_3 rfl rfl ?_
       refine st Tryz.sizeOf4 rfl rfl rfl rfl (.tail .head) ?_
       refine nN ?_
       refine fun a_ w_ hA hw => ⟨_, _, _, hA.sub ?_, ler, hw, N153, rfl, rfl, hR153⟩
       exact (.cons rfl (.cons rfl (.cons rfl (.nil _))))
      ·
       refine skN ?_
       obtain rfl : x2 = ((Tr.mk 0 [] false [] []), x1.2) := (hx2.trans (step_no (Or.inl (show v < (3 : Int) by omega)))).trans (by rw [dflF_eq]; rfl)
       refine fun a_ w_ hA hw => ⟨_, _, _, hA.sub ?_, ler, hw, Nj1, rfl, rfl, hRj1⟩
       exact (.cons rfl (.cons rfl (.cons rfl (.nil _))))
     ·
      obtain ⟨Nj2, rfl, rfl, pj0⟩ := hI
      have hRj2 := pj0
      refine sq ?_
      refine sr ?_
      refine mv rfl rfl ?_
      refine nl ?_
      refine cdF rfl (by omega) ?_
      refine skt ?_
      refine sr ?_
      refine cl rfl rfl rfl (r_complete hRj2 (he.mono (le_2.trans (le_3.trans (hlf0.trans (le_11.trans le_13)))))) rfl (fun v_ H1 L1 hle_ hR_ => ?_)
      obtain ⟨rfl, rfl, rfl⟩ := hR_
      refine asg rfl rfl ?_
      refine nl ?_
      refine drW .head ?_
      obtain rfl : u = ([], x2.2) := hu
      have hA_ := (show At_DescribeConfigsRequest v _ (decP fs_DescribeConfigsRequest v false _).1 [.int .i16 v, .slice a0 (lT x0.1).length c0, .bool (decide (x1.1.n % 2 = 1)), .bool (decide (x2.1.n % 2 = 1)), .map none] from (by rw [hD]; exact ⟨a0, c0, none, rfl, (hf0.mono At_DescribeConfigsRequestResource.mono (le_11.trans le_13)), (KvAt.nil _)⟩))
      refine rT rfl rfl (le_2.trans (le_3.trans (hlf0.trans (le_11.trans le_13)))) (fun _ _ h => h) ⟨_, rfl, ?_⟩
      have hz := RdEnd.of (e := e) hA_
      rw [show (decP fs_DescribeConfigsRequest v false _).2.bad = x2.2.bad by rw [hD]] at hz
      exact hz
theorem rd_DescribeConfigsRequest_t {H : Fz} {L : Own} {b : Nat} {v : Int} {a : Option Addr} {c : Nat} {s : List UInt8} {e : Value} (hB : BytesAt H a c s) (hL_ : s.length ≤ BR) (he : H.at 0 0 [e]) (hv0 : 4 ≤ v) (hv1 : v ≤ 4) :
  Fn Tryz.prog 82 [.pointer (some ⟨b, 0, none⟩), .slice a s.length c, .bool false] H ([(b, .cells [.int .i16 v, .slice none 0 0, .bool false, .bool false, .map none].toArray 110 (0, 0))] :: L) (fun r H' L' => ∃ cs : List Value, L' = [(b, .cells cs.toArray 110 (0, 0))] :: L ∧ RdEnd H' (At_DescribeConfigsRequest v) (decP fs_DescribeConfigsRequest v true ⟨s, false, !a.isNone⟩) e r cs) := by
 refine Fn.mk Tryz.call82 Tryz.func82 rfl Tryz.ntmps82 rfl ?_
 refine sr ?_
 refine asg rfl rfl ?_
 refine nl ?_
 refine sr ?_
 refine mv rfl rfl ?_
 refine cl rfl rfl rfl def0_DescribeConfigsRequest rfl (fun v_ H1 L1 hle_ hR_ => ?_)
 obtain ⟨rfl, rfl⟩ := hR_
 refine nl ?_
 refine sr ?_
 refine mv rfl rfl ?_
 refine bd' S118 rfl rfl rfl ?_
 refine al Tryz.zeroValue118 rfl rfl (fun b_1 => ?_)
 refine sa Tryz.sizeOf118 rfl rfl rfl rfl rfl .head ?_
 have hR0_ : RdAt H 118 b_1 ⟨s, false, !a.isNone⟩ [(b_1, .cells [_, _].toArray 118 (0, 0))] := ⟨a, c, rfl, hB, by simp⟩
 obtain ⟨x0, hx0⟩ : ∃ x, x = stepF (Fd.mk 11 0 (-1) (-1) (-1) 0 10 fs_sDescribeConfigsRequestResource) v true ⟨s, false, !a.isNone⟩ := ⟨_, rfl⟩
 obtain ⟨x1, hx1⟩ : ∃ x, x = stepF (Fd.mk 0 1 (-1) (-1) (-1) 0 0 []) v true x0.2 := ⟨_, rfl⟩
 obtain ⟨x2, hx2⟩ : ∃ x, x = stepF (Fd.mk 0 3 (-1) (-1) (-1) 0 0 []) v true x1.2 := ⟨_, rfl⟩
 obtain ⟨u, hu⟩ : ∃ x, x = tailU true x2.2 := ⟨_, rfl⟩
 have hD : decP fs_DescribeConfigsRequest v true ⟨s, false, !a.isNone⟩ = (.mk 0 [] false [x0.1, x1.1, x2.1] u.1, u.2) := by
  generalize (⟨s, false, !a.isNone⟩ : Rd) = r_ at hx0 ⊢
  rw [decP_eq]; unfold fs_DescribeConfigsRequest; simp only [decFs_cons, decFs_nil, ← hx0, ← hx1, ← hx2, ← hu]
 have hL0 : x0.2.s.length ≤ BR := by rw [hx0]; exact Nat.le_trans (stepF_shr _ _ _ _) hL_
 have hL1 : x1.2.s.length ≤ BR := by rw [hx1]; exact Nat.le_trans (stepF_shr _ _ _ _) hL0
 have hL2 : x2.2.s.length ≤ BR := by rw [hx2]; exact Nat.le_trans (stepF_shr _ _ _ _) hL1
 have hE : u.2.bad = true → (decP fs_DescribeConfigsRequest v true ⟨s, false, !a.isNone⟩).2.bad = true := fun h => by rw [hD]; exact h
 have hB2 : x2.2.bad = true → (decP fs_DescribeConfigsRequest v true ⟨s, false, !a.isNone⟩).2.bad = true := fun h => hE (by rw [hu]; exact tailU_bad h)
 have hB1 : x1.2.bad = true → (decP fs_DescribeConfigsRequest v true ⟨s, false, !a.isNone⟩).2.bad = true := fun h => hB2 (by rw [hx2]; exact step_bad h)
 have hB0 : x0.2.bad = true → (decP fs_DescribeConfigsRequest v true ⟨s, false, !a.isNone⟩).2.bad = true := fun h => hB1 (by rw [hx1]; exact step_bad h)
 refine nl ?_
 refine sr ?_
 refine mv rfl rfl ?_
 refine nc rfl rfl ?_
 refine fa0 F110_0 rfl rfl ?_
 refine ld (Says.own (.tail .head)) Tryz.isAgg45 rfl (Nat.zero_add _).symm rfl rfl ?_
 refine asg rfl rfl ?_
 refine nl ?_
 refine sr ?_
 refine mv rfl rfl ?_
 refine nl ?_
 refine sr ?_
 refine mv rfl rfl ?_
 refine ge rfl rfl rfl ?_
 refine asg rfl rfl ?_
 refine nl ?_
 refine sr ?_
 refine mv rfl rfl ?_
 refine nl ?_
 refine sr ?_
 refine mv rfl rfl ?_
 refine asg rfl rfl ?_
 refine nl ?_
 refine sq ?_
 refine sr ?_
 refine mv rfl rfl ?_
 refine nc rfl rfl ?_
 refine fa0 F110_1 rfl rfl ?_
 refine ld (Says.own (.tail .head)) Tryz.isAgg108 rfl (Nat.zero_add _).symm rfl rfl ?_
 refine asg rfl rfl ?_
 refine nl ?_
 refine sr ?_
 refine mv rfl rfl ?_
 refine asg rfl rfl ?_
 refine nl ?_
 refine sr ?_
 refine asg rfl rfl ?_
 refine nl ?_
 refine sq ?_
 refine sr ?_
 refine mv rfl rfl ?_
 refine nl ?_
 refine cdT rfl (by omega) ?_
 refine rg ?_
 have ey0 : x0 = (.mk 0 [] (if 0 ≤ ((-1) : Int) ∧ (v < ((-1) : Int) ∨ (rArr true ⟨s, false, !a.isNone⟩).1 = 0) then false else decide ((rArr true ⟨s, false, !a.isNone⟩).1 ≤ 0)) (rMany (decV 10 (decP fs_sDescribeConfigsRequestResource v true) false true) (rArr true ⟨s, false, !a.isNone⟩).1.toNat (rArr true ⟨s, false, !a.isNone⟩).2).1 [], (rMany (decV 10 (decP fs_sDescribeConfigsRequestResource v true) false true) (rArr true ⟨s, false, !a.isNone⟩).1.toNat (rArr true ⟨s, false, !a.isNone⟩).2).2) := (hx0.trans (step_yes (by decide) (show (0 : Int) ≤ v by omega) (Or.inl (by decide)))).trans (decF'_list rfl rfl)
 have hn0 : (rArr true ⟨s, false, !a.isNone⟩).1.toNat = (lT x0.1).length := by rw [ey0]; exact (lT_many nul_le).symm
 have ex0 := ey0
 rw [hn0] at ex0
 have hl0 := rArr_le true ⟨s, false, !a.isNone⟩
 have hm0 : (rArr true ⟨s, false, !a.isNone⟩).2.s.length ≤ BR := Nat.le_trans (rArr_len true ⟨s, false, !a.isNone⟩) hL_
 have hnb0 : (lT x0.1).length ≤ BR := by omega
 refine cl rfl rfl rfl (r_arrt hR0_) rfl (fun v_ H1 L1 hle_ hR_ => ?_)
 obtain ⟨rfl, N47, rfl, hR47, rfl⟩ := hR_
 have hh0 := rArr_hi true ⟨s, false, !a.isNone⟩
 refine asg rfl rfl ?_
 refine nl ?_
 refine sq ?_
 refine sr ?_
 refine cl rfl rfl rfl (r_ok hR47) rfl (fun v_ H1 L1 hle_ hR_ => ?_)
 obtain ⟨rfl, rfl, rfl⟩ := hR_
 refine nt rfl rfl ?_
 refine nl ?_
 refine cb rfl (fun h50 => ?_) (fun h50 => ?_)
 ·
  have hbad_ : (rArr true ⟨s, false, !a.isNone⟩).2.bad = true := by simpa using h50
  refine sr ?_
  refine cl rfl rfl rfl (r_complete hR47 he) rfl (fun v_ H1 L1 hle_ hR_ => ?_)
  obtain ⟨rfl, rfl, rfl⟩ := hR_
  refine asg rfl rfl ?_
  refine nl ?_
  refine drW .head ?_
  exact rT rfl rfl ler (fun _ _ h => h) ⟨_, rfl, RdEnd.out (hB0 (by rw [ey0]; exact rMany_bad (fun r h => decV_bad (decP_bad _ _ _) h) _ _ hbad_)) hbad_⟩
 ·
  refine skt ?_
  refine sr ?_
  refine mv rfl rfl ?_
  refine sh' (j := 0) Tryz.runUnderlying108 Tryz.sizeOf163 rfl rfl rfl (Nat.zero_le _) rfl ?_
  refine asg rfl rfl ?_
  refine nl ?_
  refine sq ?_
  refine sr ?_
  refine mv rfl rfl ?_
  refine gt rfl rfl rfl ?_
  refine nl ?_
  refine nulC2 ?_
  refine cutT (fun l' H' L' => ∃ (a0 : Option Addr), ∃ (c0 : Nat), ∃ (Nr0 : Chunk), [(2, .bool false), (7, .pointer (some ⟨b_1, 0, none⟩)), (8, .int .i16 v), (9, .bool (decide ((4 : Int) ≤ v))), (10, .pointer (some ⟨b, 0, none⟩)), (11, .slice none 0 0), (12, .slice a0 (lT x0.1).length c0), (13, .int .i32 (rArr true ⟨s, false, !a.isNone⟩).1)] = l' ∧ Nr0 :: N47 :: [(b, .cells [.int .i16 v, .slice none 0 0, .bool false, .bool false, .map none].toArray 110 (0, 0))] :: L = L' ∧ Row 163 4 a0 (lT x0.1).length c0 (reps [.int .i8 0, .string ⟨#[]⟩, .slice none 0 0, .map none] (lT x0.1).length) Nr0 ∧ a0.isNone = (if 0 ≤ ((-1) : Int) ∧ (v < ((-1) : Int) ∨ (rArr true ⟨s, false, !a.isNone⟩).1 = 0) then false else decide ((rArr true ⟨s, false, !a.isNone⟩).1 ≤ 0))) ?_ (fun l' H' L' le_2 hI => ?_)
  ·
   refine cd rfl (fun h55 => ?_) (fun h55 => ?_)
   ·
    refine rg ?_
    refine mv rfl rfl ?_
    refine mv rfl rfl ?_
    refine apz (zs := [.int .i8 0, .string ⟨#[]⟩, .slice none 0 0, .map none]) (m := (lT x0.1).length) Tryz.underlying108 Tryz.underlying21 I163 rfl rfl rfl (by omega) (by omega) (by have h9 := hnb0; unfold BR at h9; omega) (by have h9 := hnb0; unfold BR at h9; unfold maxLen; omega) rfl (fun g58 cp58 N58 r58 => ?_)
    refine asg rfl rfl ?_
    refine nN ?_
    refine drN (.tail .head) ?_
    refine fun a_ w_ hA hw => ⟨_, _, _, hA.sub ?_, ler, hw, (some ⟨g58, 0, none⟩), cp58, N58, rfl, rfl, r58, (by rw [if_neg (by omega)]; exact (decide_eq_false (by omega)).symm)⟩
    exact (.cons rfl (.cons rfl (.cons rfl (.cons rfl (.cons rfl (.cons rfl (.cons rfl (.cons rfl (.nil _)))))))))
   ·
    refine skN ?_
    refine fun a_ w_ hA hw => ⟨_, _, _, hA.sub ?_, ler, hw, none, 0, [], rfl, rfl, (by rw [show (lT x0.1).length = 0 by omega]; exact (Row.nil _ _)), (by rw [if_neg (by omega)]; exact (decide_eq_true (by omega)).symm)⟩
    exact (.cons rfl (.cons rfl (.cons rfl (.cons rfl (.cons rfl (.cons rfl (.cons (by rw [show (lT x0.1).length = 0 by omega]; rfl) (.cons rfl (.nil _)))))))))
  ·
   obtain ⟨a0, c0, Nr0, rfl, rfl, pj0, pj1⟩ := hI
   have hr0 := pj0
   have hi0 := pj1
   refine sq ?_
   refine sr ?_
   refine asg rfl rfl ?_
   refine nl ?_
   refine bl (lp ((lT x0.1).length) (fun k0 l' H' L' => ∃ (es0 : List (KE 4)) (M0 RN0 : Chunk), [(2, .bool false), (7, .pointer (some ⟨b_1, 0, none⟩)), (8, .int .i16 v), (9, .bool (decide ((4 : Int) ≤ v))), (10, .pointer (some ⟨b, 0, none⟩)), (11, .slice none 0 0), (12, .slice a0 (lT x0.1).length c0), (13, .int .i32 (rArr true ⟨s, false, !a.isNone⟩).1), (14, .int .i32 (k0 : Int))] = l' ∧ M0 :: RN0 :: [(b, .cells [.int .i16 v, .slice none 0 0, .bool false, .bool false, .map none].toArray 110 (0, 0))] :: L = L' ∧ RdAt H' 118 b_1 (rMany (decV 10 (decP fs_sDescribeConfigsRequestResource v true) false true) k0 (rArr true ⟨s, false, !a.isNone⟩).2).2 RN0 ∧ Row 163 4 a0 (lT x0.1).length c0 (es0.flatMap fk ++ reps [.int .i8 0, .string ⟨#[]⟩, .slice none 0 0, .map none] ((lT x0.1).length - k0)) M0 ∧ es0.map (·.2) = (rMany (decV 10 (decP fs_sDescribeConfigsRequestResource v true) false true) k0 (rArr true ⟨s, false, !a.isNone⟩).2).1 ∧ ∀ p ∈ es0, At_DescribeConfigsRequestResource H' p.2 (fk p)) [(2, .bool false), (7, .pointer (some ⟨b_1, 0, none⟩)), (8, .int .i16 v), (9, .bool (decide ((4 : Int) ≤ v))), (10, .pointer (some ⟨b, 0, none⟩)), (11, .slice none 0 0), (12, .slice a0 (lT x0.1).length c0), (13, .int .i32 (rArr true ⟨s, false, !a.isNone⟩).1), (14, .int .i32 (0 : Int))] (.of ⟨rfl, rfl, rfl, rfl, rfl, rfl, rfl, rfl, rfl, trivial⟩) ⟨[], Nr0, _, rfl, rfl, (hR47.mono le_2), hr0, rfl, (fun p hp => by cases hp)⟩ (fun k0 l' H' L' hk0 le_3 hI => ?_))
   obtain ⟨es0, M0, RN0, rfl, rfl, hR_0, hw_0, he_0, hg_0⟩ := hI
   have hs_0 := els_len he_0
   have hp_0 : (es0.flatMap fk).length = k0 * 4 := els_flat hs_0
   refine sq ?_
   refine sr ?_
   refine mv rfl rfl ?_
   refine mv rfl rfl ?_
   refine lt rfl rfl rfl ?_
   refine nl ?_
   refine cd rfl (fun h61 => ?_) (fun h61 => ?_)
   ·
    have hkl0 : k0 < (lT x0.1).length := by omega
    obtain ⟨g0, po0, hga0, rfl, hbk0⟩ := hw_0.next (zs := [.int .i8 0, .string ⟨#[]⟩, .slice none 0 0, .map none]) hkl0 rfl (by decide)
    have ho0 : 0 + k0 * 4 = (es0.flatMap fk).length := by rw [hp_0]; omega
    have hbz0 : ((decV 10 (decP fs_sDescribeConfigsRequestResource v true) false true) (rMany (decV 10 (decP fs_sDescribeConfigsRequestResource v true) false true) k0 (rArr true ⟨s, false, !a.isNone⟩).2).2).2.bad = true → (decP fs_DescribeConfigsRequest v true ⟨s, false, !a.isNone⟩).2.bad = true := fun h => hB0 (by rw [ex0]; exact rMany_mono (fun r h => decV_bad (fun r h => decP_bad _ _ _ r h) h) _ (show k0 + 1 ≤ (lT x0.1).length from hkl0) (by rw [rMany_succ]; exact h))
    have hLk0 : (rMany (decV 10 (decP fs_sDescribeConfigsRequestResource v true) false true) k0 (rArr true ⟨s, false, !a.isNone⟩).2).2.s.length ≤ BR := Nat.le_trans (rMany_shr (fun r => decV_shr (fun r => decP_shr _ _ _ r) r) _ _) hm0
    have hL0__ := hLk0
    obtain ⟨x0_0, hx0_0⟩ : ∃ x, x = stepF (Fd.mk 1 0 (-1) (-1) (-1) 0 0 []) v true (rMany (decV 10 (decP fs_sDescribeConfigsRequestResource v true) false true) k0 (rArr true ⟨s, false, !a.isNone⟩).2).2 := ⟨_, rfl⟩
    obtain ⟨x0_1, hx0_1⟩ : ∃ x, x = stepF (Fd.mk 8 0 (-1) (-1) (-1) 0 0 []) v true x0_0.2 := ⟨_, rfl⟩
    obtain ⟨x0_2, hx0_2⟩ : ∃ x, x = stepF (Fd.mk 11 0 (-1) 0 (-1) 0 8 []) v true x0_1.2 := ⟨_, rfl⟩
    obtain ⟨u0_, hu0_⟩ : ∃ x, x = tailU true x0_2.2 := ⟨_, rfl⟩
    have hD0_ : decP fs_sDescribeConfigsRequestResource v true (rMany (decV 10 (decP fs_sDescribeConfigsRequestResource v true) false true) k0 (rArr true ⟨s, false, !a.isNone⟩).2).2 = (.mk 0 [] false [x0_0.1, x0_1.1, x0_2.1] u0_.1, u0_.2) := by
     generalize ((rMany (decV 10 (decP fs_sDescribeConfigsRequestResource v true) false true) k0 (rArr true ⟨s, false, !a.isNone⟩).2).2 : Rd) = r_ at hx0_0 ⊢
     rw [decP_eq]; unfold fs_sDescribeConfigsRequestResource; simp only [decFs_cons, decFs_nil, ← hx0_0, ← hx0_1, ← hx0_2, ← hu0_]
    have hL0_0 : x0_0.2.s.length ≤ BR := by rw [hx0_0]; exact Nat.le_trans (stepF_shr _ _ _ _) hL0__
    have hL0_1 : x0_1.2.s.length ≤ BR := by rw [hx0_1]; exact Nat.le_trans (stepF_shr _ _ _ _) hL0_0
    have hL0_2 : x0_2.2.s.length ≤ BR := by rw [hx0_2]; exact Nat.le_trans (stepF_shr _ _ _ _) hL0_1
    have hE0_ : u0_.2.bad = true → (decP fs_DescribeConfigsRequest v true ⟨s, false, !a.isNone⟩).2.bad = true := fun h => hbz0 (by show (decP fs_sDescribeConfigsRequestResource v true (rMany (decV 10 (decP fs_sDescribeConfigsRequestResource v true) false true) k0 (rArr true ⟨s, false, !a.isNone⟩).2).2).2.bad = true; rw [hD0_]; exact h)
    have hB0_2 : x0_2.2.bad = true → (decP fs_DescribeConfigsRequest v true ⟨s, false, !a.isNone⟩).2.bad = true := fun h => hE0_ (by rw [hu0_]; exact tailU_bad h)
    have hB0_1 : x0_1.2.bad = true → (decP fs_DescribeConfigsRequest v true ⟨s, false, !a.isNone⟩).2.bad = true := fun h => hB0_2 (by rw [hx0_2]; exact step_bad h)
    have hB0_0 : x0_0.2.bad = true → (decP fs_DescribeConfigsRequest v true ⟨s, false, !a.isNone⟩).2.bad = true := fun h => hB0_1 (by rw [hx0_1]; exact step_bad h)
    refine skt ?_
    refine sq ?_
    refine bl ?_
    refine sr ?_
    refine mv rfl rfl ?_
    refine mv rfl rfl ?_
    refine ixk (j := k0) Tryz.runUnderlying108 Tryz.sizeOf163 rfl hga0 rfl rfl hkl0 rfl ?_
    refine asg rfl rfl ?_
    refine nl ?_
    refine sr ?_
    refine mv rfl rfl ?_
    refine cl rfl rfl rfl (def_DescribeConfigsRequestResource ho0) rfl (fun v_ H1 L1 hle_ hR_ => ?_)
    obtain ⟨rfl, rfl⟩ := hR_
    refine nl ?_
    refine sr ?_
    refine mv rfl rfl ?_
    refine asg rfl rfl ?_
    refine nl ?_
    refine sq ?_
    refine sr ?_
    refine asg rfl rfl ?_
    refine nl ?_
    refine sq ?_
    refine sr ?_
    refine tf (.tail .head) ?_
    have ex0_0 : x0_0 = decV 1 (decP [] v true) false true (rMany (decV 10 (decP fs_sDescribeConfigsRequestResource v true) false true) k0 (rArr true ⟨s, false, !a.isNone⟩).2).2 := (hx0_0.trans (step_yes (by decide) (show (0 : Int) ≤ v by omega) (Or.inl (by decide)))).trans (decF'_val (by decide) (rfl))
    refine cl rfl rfl rfl (d1 hR_0 ex0_0) rfl (fun v_ H1 L1 hle_ hR_ => ?_)
    obtain ⟨N70, rfl, hR70, rfl, rfl⟩ := hR_
    refine asg rfl rfl ?_
    refine nl ?_
    refine rg ?_
    refine mv rfl rfl ?_
    refine asg rfl rfl ?_
    refine nl ?_
    refine sr ?_
    refine mv rfl rfl ?_
    refine asg rfl rfl ?_
    refine nl ?_
    refine rg ?_
    refine mv rfl rfl ?_
    refine mv rfl rfl ?_
    refine nc rfl rfl ?_
    refine fa F163_0 rfl rfl ?_
    refine stM (off := 0) Tryz.sizeOf160 rfl (by rw [ho0]) rfl rfl rfl (.tail .head) ?_
    refine nl ?_
    refine sq ?_
    refine sr ?_
    refine asg rfl rfl ?_
    refine nl ?_
    refine sq ?_
    refine sr ?_
    refine mv rfl rfl ?_
    refine nl ?_
    refine cF rfl ?_
    refine sr ?_
    refine mv rfl rfl ?_
    refine nl ?_
    refine cdT rfl (by omega) ?_
    refine rg ?_
    have ex0_1 : x0_1 = decV 8 (decP [] v true) false true x0_0.2 := (hx0_1.trans (step_yes (by decide) (show (0 : Int) ≤ v by omega) (Or.inl (by decide)))).trans (decF'_val (by decide) (rfl))
    refine cl rfl rfl rfl (d8t hR70 ex0_1) rfl (fun v_ H1 L1 le_5 hR_ => ?_)
    obtain ⟨N82, rfl, hR82, rfl, rfl⟩ := hR_
    refine asg rfl rfl ?_
    refine nl ?_
    refine rg ?_
    refine mv rfl rfl ?_
    refine mv rfl rfl ?_
    refine nc rfl rfl ?_
    refine fa F163_1 rfl rfl ?_
    refine stM (off := 1) Tryz.sizeOf9 rfl (by rw [ho0]) rfl rfl rfl (.tail .head) ?_
    refine nl ?_
    refine sq ?_
    refine sr ?_
    refine mv rfl rfl ?_
    refine nc rfl rfl ?_
    refine fa F163_2 rfl rfl ?_
    refine ld (j := 2) (off := 0 + k0 * 4) (Says.mid (.tail .head) ho0) Tryz.isAgg161 rfl rfl rfl rfl ?_
    refine asg rfl rfl ?_
    refine nl ?_
    refine sr ?_
    refine mv rfl rfl ?_
    refine asg rfl rfl ?_
    refine nl ?_
    refine sr ?_
    refine asg rfl rfl ?_
    refine nl ?_
    refine sq ?_
    refine sr ?_
    refine mv rfl rfl ?_
    refine nl ?_
    refine cdT rfl (by omega) ?_
    refine rg ?_
    have ey0_2 : x0_2 = (.mk 0 [] (if 0 ≤ (0 : Int) ∧ (v < (0 : Int) ∨ (rArr true x0_1.2).1 = 0) then false else decide ((rArr true x0_1.2).1 ≤ 0)) (rMany (decV 8 (decP [] v true) false true) (rArr true x0_1.2).1.toNat (rArr true x0_1.2).2).1 [], (rMany (decV 8 (decP [] v true) false true) (rArr true x0_1.2).1.toNat (rArr true x0_1.2).2).2) := (hx0_2.trans (step_yes (by decide) (show (0 : Int) ≤ v by omega) (Or.inl (by decide)))).trans (decF'_list rfl rfl)
    have hn0_2 : (rArr true x0_1.2).1.toNat = (lT x0_2.1).length := by rw [ey0_2]; exact (lT_many nul_le).symm
    have ex0_2 := ey0_2
    rw [hn0_2] at ex0_2
    have hl0_2 := rArr_le true x0_1.2
    have hm0_2 : (rArr true x0_1.2).2.s.length ≤ BR := Nat.le_trans (rArr_len true x0_1.2) hL0_1
    have hnb0_2 : (lT x0_2.1).length ≤ BR := by omega
    refine cl rfl rfl rfl (r_arrt hR82) rfl (fun v_ H1 L1 hle_ hR_ => ?_)
    obtain ⟨rfl, N94, rfl, hR94, rfl⟩ := hR_
    have hh0_2 := rArr_hi true x0_1.2
    refine asg rfl rfl ?_
    refine nl ?_
    refine sq ?_
    refine sr ?_
    refine mv rfl rfl ?_
    refine lt rfl rfl rfl ?_
    refine mv rfl rfl ?_
    refine spl (t := 98) rfl (fun hn_ => absurd hn_ (by omega)) (fun _ => ?_)
    refine gr rfl rfl ?_
    refine mv rfl rfl ?_
    refine gr rfl rfl ?_
    refine eq' rfl rfl rfl ?_
    refine pk rfl rfl rfl rfl ?_
    refine nl ?_
    refine nulC2 ?_
    refine cutT (fun l' H' L' => ∃ (az0_2 : Option Addr), ∃ (Nz0_2 : Chunk), [(2, .bool false), (7, .pointer (some ⟨b_1, 0, none⟩)), (8, .int .i16 v), (9, .bool (decide ((4 : Int) ≤ v))), (10, .pointer (some ⟨b, 0, none⟩)), (11, .slice none 0 0), (12, .slice a0 (lT x0.1).length c0), (13, .int .i32 (rArr true ⟨s, false, !a.isNone⟩).1), (14, .int .i32 (k0 : Int)), (16, .pointer (some ⟨g0, 0 + k0 * 4, none⟩)), (21, .slice none 0 0), (22, .slice az0_2 0 0), (23, .int .i32 (rArr true x0_1.2).1)] = l' ∧ Nz0_2 :: N94 :: [(g0, .cells ((es0.flatMap fk) ++ ([.int .i8 (IntKind.i8.wrap x0_0.1.n), .string ⟨x0_1.1.s.toArray⟩, .slice none 0 0, .map none] : List Value) ++ po0).toArray 163 (0, 0))] :: [(b, .cells [.int .i16 v, .slice none 0 0, .bool false, .bool false, .map none].toArray 110 (0, 0))] :: L = L' ∧ Row 9 1 az0_2 0 0 [] Nz0_2 ∧ (¬ (0 : Int) < (rArr true x0_1.2).1 → az0_2.isNone = (if 0 ≤ (0 : Int) ∧ (v < (0 : Int) ∨ (rArr true x0_1.2).1 = 0) then false else decide ((rArr true x0_1.2).1 ≤ 0)))) ?_ (fun l' H' L' le_6 hI => ?_)
    ·
     refine cd rfl (fun h101 => ?_) (fun h101 => ?_)
     ·
      refine rg ?_
      refine bs' L161 rfl rfl rfl rfl (fun b_7 => ?_)
      refine asg rfl rfl ?_
      refine nN ?_
      refine drN (.tail .head) ?_
      refine fun a_ w_ hA hw => ⟨_, _, _, hA.sub ?_, ler, hw, (some ⟨b_7, 0, none⟩), _, rfl, rfl, (Row.whole (m := 0) rfl (by decide)), (fun _ => by rw [if_pos ⟨by decide, .inr h101⟩]; rfl)⟩
      exact (.cons rfl (.cons rfl (.cons rfl (.cons rfl (.cons rfl (.cons rfl (.cons rfl (.cons rfl (.cons rfl (.cons rfl (.cons rfl (.cons rfl (.cons rfl (.nil _))))))))))))))
     ·
      refine skN ?_
      refine fun a_ w_ hA hw => ⟨_, _, _, hA.sub ?_, ler, hw, none, [], rfl, rfl, (Row.nil _ _), (fun hz_ => by rw [if_neg (by omega)]; exact (decide_eq_true (by omega)).symm)⟩
      exact (.cons rfl (.cons rfl (.cons rfl (.cons rfl (.cons rfl (.cons rfl (.cons rfl (.cons rfl (.cons rfl (.cons rfl (.cons rfl (.cons rfl (.cons rfl (.nil _))))))))))))))
    ·
     obtain ⟨az0_2, Nz0_2, rfl, rfl, pj0, pj1⟩ := hI
     have hz00_2 := pj0
     have hz10_2 := pj1
     refine sq ?_
     refine sr ?_
     refine tf (.tail .head) ?_
     refine cl rfl rfl rfl (r_ok (hR94.mono le_6)) rfl (fun v_ H1 L1 hle_ hR_ => ?_)
     obtain ⟨rfl, rfl, rfl⟩ := hR_
     refine nt rfl rfl ?_
     refine nl ?_
     refine cb rfl (fun h104 => ?_) (fun h104 => ?_)
     ·
      have hbad_ : (rArr true x0_1.2).2.bad = true := by simpa using h104
      refine sr ?_
      refine cl rfl rfl rfl (r_complete (hR94.mono le_6) (he.mono (le_2.trans (le_3.trans le_6)))) rfl (fun v_ H1 L1 hle_ hR_ => ?_)
      obtain ⟨rfl, rfl, rfl⟩ := hR_
      refine asg rfl rfl ?_
      refine nl ?_
      refine drW .head ?_
      refine drW .head ?_
      refine drW .head ?_
      exact rT rfl rfl (le_2.trans (le_3.trans le_6)) (fun _ _ h => h) ⟨_, rfl, RdEnd.out (hB0_2 (by rw [ey0_2]; exact rMany_bad (fun r h => decV_bad (decP_bad _ _ _) h) _ _ hbad_)) hbad_⟩
     ·
      refine skt ?_
      refine sr ?_
      refine mv rfl rfl ?_
      refine sh' (j := 0) Tryz.runUnderlying161 Tryz.sizeOf9 rfl rfl rfl (Nat.zero_le _) rfl ?_
      refine asg rfl rfl ?_
      refine nl ?_
      refine sq ?_
      refine sr ?_
      refine mv rfl rfl ?_
      refine gt rfl rfl rfl ?_
      refine nl ?_
      refine cutT (fun l' H' L' => ∃ (a0_2 : Option Addr), ∃ (c0_2 : Nat), ∃ (Nr0_2 : Chunk), [(2, .bool false), (7, .pointer (some ⟨b_1, 0, none⟩)), (8, .int .i16 v), (9, .bool (decide ((4 : Int) ≤ v))), (10, .pointer (some ⟨b, 0, none⟩)), (11, .slice none 0 0), (12, .slice a0 (lT x0.1).length c0), (13, .int .i32 (rArr true ⟨s, false, !a.isNone⟩).1), (14, .int .i32 (k0 : Int)), (16, .pointer (some ⟨g0, 0 + k0 * 4, none⟩)), (21, .slice none 0 0), (22, .slice a0_2 (lT x0_2.1).length c0_2), (23, .int .i32 (rArr true x0_1.2).1)] = l' ∧ N94 :: Nr0_2 :: [(g0, .cells ((es0.flatMap fk) ++ ([.int .i8 (IntKind.i8.wrap x0_0.1.n), .string ⟨x0_1.1.s.toArray⟩, .slice none 0 0, .map none] : List Value) ++ po0).toArray 163 (0, 0))] :: [(b, .cells [.int .i16 v, .slice none 0 0, .bool false, .bool false, .map none].toArray 110 (0, 0))] :: L = L' ∧ Row 9 1 a0_2 (lT x0_2.1).length c0_2 (reps [.string ⟨#[]⟩] (lT x0_2.1).length) Nr0_2 ∧ a0_2.isNone = (if 0 ≤ (0 : Int) ∧ (v < (0 : Int) ∨ (rArr true x0_1.2).1 = 0) then false else decide ((rArr true x0_1.2).1 ≤ 0))) ?_ (fun l' H' L' le_8 hI => ?_)
      ·
       refine cd rfl (fun h109 => ?_) (fun h109 => ?_)
       ·
        refine rg ?_
        refine mv rfl rfl ?_
        refine mv rfl rfl ?_
        refine apz (zs := [.string ⟨#[]⟩]) (m := (lT x0_2.1).length) Tryz.underlying161 Tryz.underlying21 I9 rfl rfl rfl (by omega) (by omega) (by have h9 := hnb0_2; unfold BR at h9; omega) (by have h9 := hnb0_2; unfold BR at h9; unfold maxLen; omega) rfl (fun g112 cp112 N112 r112 => ?_)
        refine asg rfl rfl ?_
        refine nN ?_
        refine drN (.tail (.tail .head)) ?_
        refine tfN (.tail .head) ?_
        refine fun a_ w_ hA hw => ⟨_, _, _, hA.sub ?_, ler, hw, (some ⟨g112, 0, none⟩), cp112, N112, rfl, rfl, r112, (by split; rfl; exact (decide_eq_false (by omega)).symm)⟩
        exact (.cons rfl (.cons rfl (.cons rfl (.cons rfl (.cons rfl (.cons rfl (.cons rfl (.cons rfl (.cons rfl (.cons rfl (.cons rfl (.cons rfl (.cons rfl (.nil _))))))))))))))
       ·
        refine skN ?_
        refine fun a_ w_ hA hw => ⟨_, _, _, hA.sub ?_, ler, hw, az0_2, 0, Nz0_2, rfl, rfl, (by rw [show (lT x0_2.1).length = 0 by omega]; exact hz00_2), (hz10_2 (by omega))⟩
        exact (.cons rfl (.cons rfl (.cons rfl (.cons rfl (.cons rfl (.cons rfl (.cons rfl (.cons rfl (.cons rfl (.cons rfl (.cons rfl (.cons (by rw [show (lT x0_2.1).length = 0 by omega]; rfl) (.cons rfl (.nil _))))))))))))))
      ·
       obtain ⟨a0_2, c0_2, Nr0_2, rfl, rfl, pj0, pj1⟩ := hI
       have hr0_2 := pj0
       have hi0_2 := pj1
       refine sq ?_
       refine sr ?_
       refine asg rfl rfl ?_
       refine nl ?_
       refine bl (lp ((lT x0_2.1).length) (fun k0_2 l' H' L' => ∃ (es0_2 : List (KE 1)) (M0_2 RN0_2 : Chunk), [(2, .bool false), (7, .pointer (some ⟨b_1, 0, none⟩)), (8, .int .i16 v), (9, .bool (decide ((4 : Int) ≤ v))), (10, .pointer (some ⟨b, 0, none⟩)), (11, .slice none 0 0), (12, .slice a0 (lT x0.1).length c0), (13, .int .i32 (rArr true ⟨s, false, !a.isNone⟩).1), (14, .int .i32 (k0 : Int)), (16, .pointer (some ⟨g0, 0 + k0 * 4, none⟩)), (21, .slice none 0 0), (22, .slice a0_2 (lT x0_2.1).length c0_2), (23, .int .i32 (rArr true x0_1.2).1), (24, .int .i32 (k0_2 : Int))] = l' ∧ RN0_2 :: M0_2 :: [(g0, .cells ((es0.flatMap fk) ++ ([.int .i8 (IntKind.i8.wrap x0_0.1.n), .string ⟨x0_1.1.s.toArray⟩, .slice none 0 0, .map none] : List Value) ++ po0).toArray 163 (0, 0))] :: [(b, .cells [.int .i16 v, .slice none 0 0, .bool false, .bool false, .map none].toArray 110 (0, 0))] :: L = L' ∧ RdAt H' 118 b_1 (rMany (decV 8 (decP [] v true) false true) k0_2 (rArr true x0_1.2).2).2 RN0_2 ∧ Row 9 1 a0_2 (lT x0_2.1).length c0_2 (es0_2.flatMap fk ++ reps [.string ⟨#[]⟩] ((lT x0_2.1).length - k0_2)) M0_2 ∧ es0_2.map (·.2) = (rMany (decV 8 (decP [] v true) false true) k0_2 (rArr true x0_1.2).2).1 ∧ ∀ p ∈ es0_2, RText H' p.2 (fk p)) [(2, .bool false), (7, .pointer (some ⟨b_1, 0, none⟩)), (8, .int .i16 v), (9, .bool (decide ((4 : Int) ≤ v))), (10, .pointer (some ⟨b, 0, none⟩)), (11, .slice none 0 0), (12, .slice a0 (lT x0.1).length c0), (13, .int .i32 (rArr true ⟨s, false, !a.isNone⟩).1), (14, .int .i32 (k0 : Int)), (16, .pointer (some ⟨g0, 0 + k0 * 4, none⟩)), (21, .slice none 0 0), (22, .slice a0_2 (lT x0_2.1).length c0_2), (23, .int .i32 (rArr true x0_1.2).1), (24, .int .i32 (0 : Int))] (.of ⟨rfl, rfl, rfl, rfl, rfl, rfl, rfl, rfl, rfl, rfl, rfl, rfl, rfl, rfl, trivial⟩) ⟨[], Nr0_2, _, rfl, rfl, (hR94.mono (le_6.trans le_8)), hr0_2, rfl, (fun p hp => by cases hp)⟩ (fun k0_2 l' H' L' hk0_2 le_9 hI => ?_))
       obtain ⟨es0_2, M0_2, RN0_2, rfl, rfl, hR_0_2, hw_0_2, he_0_2, hg_0_2⟩ := hI
       have hs_0_2 := els_len he_0_2
       have hp_0_2 : (es0_2.flatMap fk).length = k0_2 * 1 := els_flat hs_0_2
       refine sq ?_
       refine sr ?_
       refine mv rfl rfl ?_
       refine mv rfl rfl ?_
       refine lt rfl rfl rfl ?_
       refine nl ?_
       refine cd rfl (fun h115 => ?_) (fun h115 => ?_)
       ·
        have hkl0_2 : k0_2 < (lT x0_2.1).length := by omega
        obtain ⟨g0_2, po0_2, hga0_2, rfl, hbk0_2⟩ := hw_0_2.next (zs := [.string ⟨#[]⟩]) hkl0_2 rfl (by decide)
        have ho0_2 : 0 + k0_2 * 1 = (es0_2.flatMap fk).length := by rw [hp_0_2]; omega
        have hbz0_2 : ((decV 8 (decP [] v true) false true) (rMany (decV 8 (decP [] v true) false true) k0_2 (rArr true x0_1.2).2).2).2.bad = true → (decP fs_DescribeConfigsRequest v true ⟨s, false, !a.isNone⟩).2.bad = true := fun h => hB0_2 (by rw [ex0_2]; exact rMany_mono (fun r h => decV_bad (fun r h => decP_bad _ _ _ r h) h) _ (show k0_2 + 1 ≤ (lT x0_2.1).length from hkl0_2) (by rw [rMany_succ]; exact h))
        have hLk0_2 : (rMany (decV 8 (decP [] v true) false true) k0_2 (rArr true x0_1.2).2).2.s.length ≤ BR := Nat.le_trans (rMany_shr (fun r => decV_shr (fun r => decP_shr _ _ _ r) r) _ _) hm0_2
        obtain ⟨y0_2, hy0_2⟩ : ∃ x, x = (decV 8 (decP [] v true) false true) (rMany (decV 8 (decP [] v true) false true) k0_2 (rArr true x0_1.2).2).2 := ⟨_, rfl⟩
        refine skt ?_
        refine sq ?_
        refine bl ?_
        refine sr ?_
        refine asg rfl rfl ?_
        refine nl ?_
        refine sq ?_
        refine sr ?_
        refine mv rfl rfl ?_
        refine nl ?_
        refine cF rfl ?_
        refine sr ?_
        refine mv rfl rfl ?_
        refine nl ?_
        refine cdT rfl (by omega) ?_
        refine rg ?_
        refine cl rfl rfl rfl (d8t hR_0_2 hy0_2) rfl (fun v_ H1 L1 hle_ hR_ => ?_)
        obtain ⟨N123, rfl, hR123, rfl, rfl⟩ := hR_
        refine asg rfl rfl ?_
        refine nl ?_
        refine rg ?_
        refine mv rfl rfl ?_
        refine mv rfl rfl ?_
        refine mv rfl rfl ?_
        refine ixk (j := k0_2) Tryz.runUnderlying161 Tryz.sizeOf9 rfl hga0_2 rfl rfl hkl0_2 rfl ?_
        refine stM (off := 0) Tryz.sizeOf9 rfl ho0_2 rfl rfl rfl (.tail .head) ?_
        refine nN ?_
        refine Nb ?_
        refine Nt ?_
        refine rg ?_
        refine mv rfl rfl ?_
        refine ad rfl rfl (c := ((k0_2 + 1 : Nat) : Int)) ((wrap32_le (by omega) (by omega)).trans (by omega)) rfl ?_
        refine asg rfl rfl ?_
        refine nN ?_
        have hfs0_2 := flatMap_snoc' fk es0_2 ((⟨([.string ⟨y0_2.1.s.toArray⟩] : List Value), rfl, all_one rfl⟩, ((decV 8 (decP [] v true) false true) (rMany (decV 8 (decP [] v true) false true) k0_2 (rArr true x0_1.2).2).2).1) : KE 1)
        have hrw0_2 := hbk0_2 ([.string ⟨y0_2.1.s.toArray⟩] : List Value) rfl
        refine fun a_ w_ hA hw => ⟨hkl0_2, _, _, _, hA.sub ?_, le_9, hw, _, _, _, rfl, rfl, (by rw [rMany_succ, ← hy0_2]; exact hR123), (by rw [← hfs0_2]; exact hrw0_2), (dec_els he_0_2), (fun p hp => (mem_snoc hp).elim (fun h => RText.mono _ _ _ _ ler (hg_0_2 p h)) (fun h => h ▸ (by show RText _ ((decV 8 (decP [] v true) false true) (rMany (decV 8 (decP [] v true) false true) k0_2 (rArr true x0_1.2).2).2).1 [.string ⟨y0_2.1.s.toArray⟩]; rw [← hy0_2]; rfl)))⟩
        exact (.of ⟨rfl, rfl, rfl, rfl, rfl, rfl, rfl, rfl, rfl, rfl, rfl, rfl, rfl, rfl, trivial⟩)
       ·
        have hkn_ : k0_2 = (lT x0_2.1).length := by omega
        subst hkn_
        have hw2_0_2 : Row 9 1 a0_2 (lT x0_2.1).length c0_2 (es0_2.flatMap fk) M0_2 := by have h := hw_0_2; rw [Nat.sub_self] at h; simpa [reps] using h
        refine frW hw2_0_2 (.tail .head) (fun Hf0_2 hlf0_2 hfz0_2 => ?_)
        have hrs0_2 := RowsAt.row (R := RText) hfz0_2 hs_0_2.symm hw2_0_2.le.1 (fun p hp => RText.mono _ _ _ _ hlf0_2 (hg_0_2 p hp))
        rw [he_0_2] at hrs0_2
        have hf0_2 : ListAt Hf0_2 x0_2.1 1 RText a0_2 c0_2 := by rw [ex0_2]; exact listAt_of hrs0_2 hi0_2 (fun h => by have h1 := nul_le h; rw [show (lT x0_2.1).length = 0 by omega]; rfl)
        have hRx0_2 : RdAt Hf0_2 118 b_1 x0_2.2 RN0_2 := by rw [ex0_2]; exact (hR_0_2.mono hlf0_2)
        refine exX ?_
        refine XT ?_
        refine XT ?_
        refine Xb ?_
        refine Nt ?_
        refine sr ?_
        refine mv rfl rfl ?_
        refine asg rfl rfl ?_
        refine nl ?_
        refine rg ?_
        refine mv rfl rfl ?_
        refine mv rfl rfl ?_
        refine nc rfl rfl ?_
        refine fa F163_2 rfl rfl ?_
        refine stM (off := 2) Tryz.sizeOf161 rfl (by rw [ho0]) rfl rfl rfl (.tail .head) ?_
        refine nl ?_
        refine sr ?_
        refine mv rfl rfl ?_
        refine nl ?_
        refine cdT rfl (by omega) ?_
        refine rg ?_
        refine mv rfl rfl ?_
        refine cl rfl rfl rfl (d_tags hRx0_2) rfl (fun v_ H1 L1 le_11 hR_ => ?_)
        obtain ⟨N136, rfl, hR136, m0_t, rfl, hft0_⟩ := hR_
        have hu20_ : u0_ = rTags x0_2.2 := hu0_
        rw [← hu20_] at hR136 hft0_
        refine nc rfl rfl ?_
        refine fa F163_3 rfl rfl ?_
        refine saM (off := 3) Tryz.sizeOf75 rfl (by rw [ho0]) rfl rfl rfl rfl (.tail .head) ?_
        refine nN ?_
        refine Nb ?_
        refine Nt ?_
        refine rg ?_
        refine mv rfl rfl ?_
        refine ad rfl rfl (c := ((k0 + 1 : Nat) : Int)) ((wrap32_le (by omega) (by omega)).trans (by omega)) rfl ?_
        refine asg rfl rfl ?_
        refine nN ?_
        have hfs0 := flatMap_snoc' fk es0 ((⟨([.int .i8 (IntKind.i8.wrap x0_0.1.n), .string ⟨x0_1.1.s.toArray⟩, .slice a0_2 (lT x0_2.1).length c0_2, .map m0_t] : List Value), rfl, all_one rfl⟩, ((decV 10 (decP fs_sDescribeConfigsRequestResource v true) false true) (rMany (decV 10 (decP fs_sDescribeConfigsRequestResource v true) false true) k0 (rArr true ⟨s, false, !a.isNone⟩).2).2).1) : KE 4)
        have hrw0 := hbk0 ([.int .i8 (IntKind.i8.wrap x0_0.1.n), .string ⟨x0_1.1.s.toArray⟩, .slice a0_2 (lT x0_2.1).length c0_2, .map m0_t] : List Value) rfl
        refine tfN (.tail .head) ?_
        refine fun a_ w_ hA hw => ⟨hkl0, _, _, _, hA.sub ?_, (le_3.trans (le_6.trans (le_8.trans (le_9.trans (hlf0_2.trans le_11))))), hw, _, _, _, rfl, rfl, (by rw [rMany_succ]; show RdAt _ 118 b_1 (decP fs_sDescribeConfigsRequestResource v true (rMany (decV 10 (decP fs_sDescribeConfigsRequestResource v true) false true) k0 (rArr true ⟨s, false, !a.isNone⟩).2).2).2 _; rw [hD0_]; exact hR136), (by rw [← hfs0]; exact hrw0), (dec_els he_0), (fun p hp => (mem_snoc hp).elim (fun h => At_DescribeConfigsRequestResource.mono _ _ _ _ (le_6.trans (le_8.trans (le_9.trans (hlf0_2.trans le_11)))) (hg_0 p h)) (fun h => h ▸ (by show At_DescribeConfigsRequestResource _ (decP fs_sDescribeConfigsRequestResource v true (rMany (decV 10 (decP fs_sDescribeConfigsRequestResource v true) false true) k0 (rArr true ⟨s, false, !a.isNone⟩).2).2).1 [.int .i8 (IntKind.i8.wrap x0_0.1.n), .string ⟨x0_1.1.s.toArray⟩, .slice a0_2 (lT x0_2.1).length c0_2, .map m0_t]; rw [hD0_]; exact ⟨a0_2, c0_2, m0_t, rfl, (hf0_2.mono RText.mono le_11), hft0_⟩)))⟩
        exact (.of ⟨rfl, rfl, rfl, rfl, rfl, rfl, rfl, rfl, rfl, trivial⟩)
   ·
    have hkn_ : k0 = (lT x0.1).length := by omega
    subst hkn_
    have hw2_0 : Row 163 4 a0 (lT x0.1).length c0 (es0.flatMap fk) M0 := by have h := hw_0; rw [Nat.sub_self] at h; simpa [reps] using h
    refine frW hw2_0 .head (fun Hf0 hlf0 hfz0 => ?_)
    have hrs0 := RowsAt.row (R := At_DescribeConfigsRequestResource) hfz0 hs_0.symm hw2_0.le.1 (fun p hp => At_DescribeConfigsRequestResource.mono _ _ _ _ hlf0 (hg_0 p hp))
    rw [he_0] at hrs0
    have hf0 : ListAt Hf0 x0.1 4 At_DescribeConfigsRequestResource a0 c0 := by rw [ex0]; exact listAt_of hrs0 hi0 (fun h => by have h1 := nul_le h; rw [show (lT x0.1).length = 0 by omega]; rfl)
    have hRx0 : RdAt Hf0 118 b_1 x0.2 RN0 := by rw [ex0]; exact (hR_0.mono hlf0)
    refine exX ?_
    refine XT ?_
    refine XT ?_
    refine Xb ?_
    refine Nt ?_
    refine sr ?_
    refine mv rfl rfl ?_
    refine asg rfl rfl ?_
    refine nl ?_
    refine rg ?_
    refine mv rfl rfl ?_
    refine mv rfl rfl ?_
    refine nc rfl rfl ?_
    refine fa0 F110_1 rfl rfl ?_
    refine st Tryz.sizeOf108 rfl rfl rfl rfl (.tail .head) ?_
    refine nl ?_
    refine sq ?_
    refine sr ?_
    refine mv rfl rfl ?_
    refine ge rfl rfl rfl ?_
    refine nl ?_
    refine cdT rfl (by omega) ?_
    refine sr ?_
    have ex1 : x1 = decV 0 (decP [] v true) false true x0.2 := (hx1.trans (step_yes (by decide) (show (1 : Int) ≤ v by omega) (Or.inl (by decide)))).trans (decF'_val (by decide) (rfl))
    refine cl rfl rfl rfl (d0 hRx0 ex1) rfl (fun v_ H1 L1 hle_ hR_ => ?_)
    obtain ⟨N146, rfl, hR146, rfl, rfl⟩ := hR_
    refine asg rfl rfl ?_
    refine nl ?_
    refine rg ?_
    refine mv rfl rfl ?_
    refine mv rfl rfl ?_
    refine nc rfl rfl ?_
    refine fa0 F110_2 rfl rfl ?_
    refine st Tryz.sizeOf4 rfl rfl rfl rfl (.tail .head) ?_
    refine nl ?_
    refine sq ?_
    refine sr ?_
    refine mv rfl rfl ?_
    refine ge rfl rfl rfl ?_
    refine nl ?_
    refine cdT rfl (by omega) ?_
    refine sr ?_
    have ex2 : x2 = decV 0 (decP [] v true) false true x1.2 := (hx2.trans (step_yes (by decide) (show (3 : Int) ≤ v by omega) (Or.inl (by decide)))).trans (decF'_val (by decide) (rfl))
    refine cl rfl rfl rfl (d0 hR146 ex2) rfl (fun v_ H1 L1 hle_ hR_ => ?_)
    obtain ⟨N153, rfl, hR153, rfl, rfl⟩ := hR_
    refine asg rfl rfl ?_
    refine nl ?_
    refine rg ?_
    refine mv rfl rfl ?_
    refine mv rfl rfl ?_
    refine nc rfl rfl ?_
    refine fa0 F110_3 rfl rfl ?_
    refine st Tryz.sizeOf4 rfl rfl rfl rfl (.tail .head) ?_
    refine nl ?_
    refine sq ?_
    refine sr ?_
    refine mv rfl rfl ?_
    refine nl ?_
    refine cdT rfl (by omega) ?_
    refine rg ?_
    refine mv rfl rfl ?_
    refine cl rfl rfl rfl (d_tags hR153) rfl (fun v_ H1 L1 le_14 hR_ => ?_)
    obtain ⟨N160, rfl, hR160, mt, rfl, hft⟩ := hR_
    have hu2 : u = rTags x2.2 := hu
    rw [← hu2] at hR160 hft
    refine nc rfl rfl ?_
    refine fa0 F110_4 rfl rfl ?_
    refine sa Tryz.sizeOf75 rfl rfl rfl rfl rfl (.tail .head) ?_
    refine nl ?_
    refine sr ?_
    refine cl rfl rfl rfl (r_complete hR160 (he.mono (le_2.trans (le_3.trans (hlf0.trans le_14))))) rfl (fun v_ H1 L1 hle_ hR_ => ?_)
    obtain ⟨rfl, rfl, rfl⟩ := hR_
    refine asg rfl rfl ?_
    refine nl ?_
    refine drW .head ?_
    have hA_ := (show At_DescribeConfigsRequest v _ (decP fs_DescribeConfigsRequest v true _).1 [.int .i16 v, .slice a0 (lT x0.1).length c0, .bool (decide (x1.1.n % 2 = 1)), .bool (decide (x2.1.n % 2 = 1)), .map mt] from (by rw [hD]; exact ⟨a0, c0, mt, rfl, (hf0.mono At_DescribeConfigsRequestResource.mono le_14), hft⟩))
    refine rT rfl rfl (le_2.trans (le_3.trans (hlf0.trans le_14))) (fun _ _ h => h) ⟨_, rfl, ?_⟩
    have hz := RdEnd.of (e := e) hA_
    rw [show (decP fs_DescribeConfigsRequest v true _).2.bad = u.2.bad by rw [hD]] at hz
    exact hz
end Go.Sx

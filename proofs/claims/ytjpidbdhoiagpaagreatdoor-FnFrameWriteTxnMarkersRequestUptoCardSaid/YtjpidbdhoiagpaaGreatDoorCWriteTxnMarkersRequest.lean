import Derived.Test.YtjpidbdhoiagpaaGreatDoorSxTab
import Derived.Test.YtjpidbdhoiagpaaGreatDoorBWriteTxnMarkersRequest
import Derived.Test.YtjpidbdhoiagpaaGreatDoorRK2
import Derived.KernelRfl
set_option linter.unusedVariables false
set_option linter.unusedSimpArgs false
set_option maxRecDepth 100000
set_option maxHeartbeats 20000000
namespace Go.Sx
open Go.Proofs
theorem def_WriteTxnMarkersRequestMarkerTopic {H : Fz} {L : Own} {b o : Nat} {pre post : List Value} {c0 c1 c2 : Value} (ho : o = pre.length) :
  Fn Tryz.prog 111 [.pointer (some ⟨b, o, none⟩)] H ([(b, .cells (pre ++ ([c0, c1, c2] : List Value) ++ post).toArray 150 (0, 0))] :: L) (fun _ H' L' => H = H' ∧ L' = [(b, .cells (pre ++ ([c0, c1, c2] : List Value) ++ post).toArray 150 (0, 0))] :: L) := by
 refine Fn.mk Tryz.call111 Tryz.func111 rfl Tryz.ntmps111 rfl ?_
 refine skN ?_
 exact fun _ _ hA hw => rn rfl ler ⟨rfl, rfl⟩ hA hw
theorem def_WriteTxnMarkersRequestMarker {H : Fz} {L : Own} {b o : Nat} {pre post : List Value} {c0 c1 c2 c3 c4 c5 c6 : Value} (ho : o = pre.length) :
  Fn Tryz.prog 107 [.pointer (some ⟨b, o, none⟩)] H ([(b, .cells (pre ++ ([c0, c1, c2, c3, c4, c5, c6] : List Value) ++ post).toArray 145 (0, 0))] :: L) (fun _ H' L' => H = H' ∧ L' = [(b, .cells (pre ++ ([c0, c1, c2, c3, c4, c5, c6] : List Value) ++ post).toArray 145 (0, 0))] :: L) := by
 refine Fn.mk Tryz.call107 Tryz.func107 rfl Tryz.ntmps107 rfl ?_
 refine skN ?_
 exact fun _ _ hA hw => rn rfl ler ⟨rfl, rfl⟩ hA hw
theorem def0_WriteTxnMarkersRequest {H : Fz} {L : Own} {b : Nat} {c0 c1 c2 : Value} :
  Fn Tryz.prog 74 [.pointer (some ⟨b, 0, none⟩)] H ([(b, .cells [c0, c1, c2].toArray 97 (0, 0))] :: L) (fun _ H' L' => H = H' ∧ L' = [(b, .cells [c0, c1, c2].toArray 97 (0, 0))] :: L) := by
 refine Fn.mk Tryz.call74 Tryz.func74 rfl Tryz.ntmps74 rfl ?_
 refine skN ?_
 exact fun _ _ hA hw => rn rfl ler ⟨rfl, rfl⟩ hA hw
theorem rd_WriteTxnMarkersRequest_f {H : Fz} {L : Own} {b : Nat} {v : Int} {a : Option Addr} {c : Nat} {s : List UInt8} {e : Value} (hB : BytesAt H a c s) (hL_ : s.length ≤ BR) (he : H.at 0 0 [e]) (hv0 : 0 ≤ v) (hv1 : v ≤ 0) :
  Fn Tryz.prog 76 [.pointer (some ⟨b, 0, none⟩), .slice a s.length c, .bool false] H ([(b, .cells [.int .i16 v, .slice none 0 0, .map none].toArray 97 (0, 0))] :: L) (fun r H' L' => ∃ cs : List Value, L' = [(b, .cells cs.toArray 97 (0, 0))] :: L ∧ RdEnd H' (At_WriteTxnMarkersRequest v) (decP fs_WriteTxnMarkersRequest v false ⟨s, false, !a.isNone⟩) e r cs) := by
 refine Fn.mk Tryz.call76 Tryz.func76 rfl Tryz.ntmps76 rfl ?_
 refine sr ?_
 refine asg rfl rfl ?_
 refine nl ?_
 refine sr ?_
 refine mv rfl rfl ?_
 refine cl rfl rfl rfl def0_WriteTxnMarkersRequest rfl (fun v_ H1 L1 hle_ hR_ => ?_)
 obtain ⟨rfl, rfl⟩ := hR_
 refine nl ?_
 refine sr ?_
 refine mv rfl rfl ?_
 refine bd' S118 rfl rfl rfl ?_
 refine al Tryz.zeroValue118 rfl rfl (fun b_1 => ?_)
 refine sa Tryz.sizeOf118 rfl rfl rfl rfl rfl .head ?_
 have hR0_ : RdAt H 118 b_1 ⟨s, false, !a.isNone⟩ [(b_1, .cells [_, _].toArray 118 (0, 0))] := ⟨a, c, rfl, hB, by simp⟩
 obtain ⟨x0, hx0⟩ : ∃ x, x = stepF (Fd.mk 11 0 (-1) (-1) (-1) 0 10 fs_sWriteTxnMarkersRequestMarker) v false ⟨s, false, !a.isNone⟩ := ⟨_, rfl⟩
 obtain ⟨u, hu⟩ : ∃ x, x = tailU false x0.2 := ⟨_, rfl⟩
 have hD : decP fs_WriteTxnMarkersRequest v false ⟨s, false, !a.isNone⟩ = (.mk 0 [] false [x0.1] u.1, u.2) := by
  generalize (⟨s, false, !a.isNone⟩ : Rd) = r_ at hx0 ⊢
  rw [decP_eq]; unfold fs_WriteTxnMarkersRequest; simp only [decFs_cons, decFs_nil, ← hx0, ← hu]
 have hL0 : x0.2.s.length ≤ BR := by rw [hx0]; exact Nat.le_trans (stepF_shr _ _ _ _) hL_
 have hE : u.2.bad = true → (decP fs_WriteTxnMarkersRequest v false ⟨s, false, !a.isNone⟩).2.bad = true := fun h => by rw [hD]; exact h
 have hB0 : x0.2.bad = true → (decP fs_WriteTxnMarkersRequest v false ⟨s, false, !a.isNone⟩).2.bad = true := fun h => hE (by rw [hu]; exact tailU_bad h)
 refine nl ?_
 refine sr ?_
 refine mv rfl rfl ?_
 refine nc rfl rfl ?_
 refine fa0 F97_0 rfl rfl ?_
 refine ld (Says.own (.tail .head)) Tryz.isAgg45 rfl (Nat.zero_add _).symm rfl rfl ?_
 refine asg rfl rfl ?_
 refine nl ?_
 refine sr ?_
 refine mv rfl rfl ?_
 refine nl ?_
 refine sr ?_
 refine mv rfl rfl ?_
 refine ge rfl rfl rfl ?_
 refine asg rfl rfl ?_
 refine nl ?_
 refine sr ?_
 refine mv rfl rfl ?_
 refine nl ?_
 refine sr ?_
 refine mv rfl rfl ?_
 refine asg rfl rfl ?_
 refine nl ?_
 refine sq ?_
 refine sr ?_
 refine mv rfl rfl ?_
 refine nc rfl rfl ?_
 refine fa0 F97_1 rfl rfl ?_
 refine ld (Says.own (.tail .head)) Tryz.isAgg95 rfl (Nat.zero_add _).symm rfl rfl ?_
 refine asg rfl rfl ?_
 refine nl ?_
 refine sr ?_
 refine mv rfl rfl ?_
 refine asg rfl rfl ?_
 refine nl ?_
 refine sr ?_
 refine asg rfl rfl ?_
 refine nl ?_
 refine sq ?_
 refine sr ?_
 refine mv rfl rfl ?_
 refine nl ?_
 refine cdF rfl (by omega) ?_
 refine rg ?_
 have ey0 : x0 = (.mk 0 [] (if 0 ≤ ((-1) : Int) ∧ (v < ((-1) : Int) ∨ (rArr false ⟨s, false, !a.isNone⟩).1 = 0) then false else decide ((rArr false ⟨s, false, !a.isNone⟩).1 ≤ 0)) (rMany (decV 10 (decP fs_sWriteTxnMarkersRequestMarker v false) false false) (rArr false ⟨s, false, !a.isNone⟩).1.toNat (rArr false ⟨s, false, !a.isNone⟩).2).1 [], (rMany (decV 10 (decP fs_sWriteTxnMarkersRequestMarker v false) false false) (rArr false ⟨s, false, !a.isNone⟩).1.toNat (rArr false ⟨s, false, !a.isNone⟩).2).2) := (hx0.trans (step_yes (by decide) (show (0 : Int) ≤ v by omega) (Or.inl (by decide)))).trans (decF'_list rfl rfl)
 have hn0 : (rArr false ⟨s, false, !a.isNone⟩).1.toNat = (lT x0.1).length := by rw [ey0]; exact (lT_many nul_le).symm
 have ex0 := ey0
 rw [hn0] at ex0
 have hl0 := rArr_le false ⟨s, false, !a.isNone⟩
 have hm0 : (rArr false ⟨s, false, !a.isNone⟩).2.s.length ≤ BR := Nat.le_trans (rArr_len false ⟨s, false, !a.isNone⟩) hL_
 have hnb0 : (lT x0.1).length ≤ BR := by omega
 refine cl rfl rfl rfl (r_arrf hR0_) rfl (fun v_ H1 L1 hle_ hR_ => ?_)
 obtain ⟨rfl, N54, rfl, hR54, rfl⟩ := hR_
 have hh0 := rArr_hi false ⟨s, false, !a.isNone⟩
 refine asg rfl rfl ?_
 refine nl ?_
 refine sq ?_
 refine sr ?_
 refine cl rfl rfl rfl (r_ok hR54) rfl (fun v_ H1 L1 hle_ hR_ => ?_)
 obtain ⟨rfl, rfl, rfl⟩ := hR_
 refine nt rfl rfl ?_
 refine nl ?_
 refine cb rfl (fun h56 => ?_) (fun h56 => ?_)
 ·
  have hbad_ : (rArr false ⟨s, false, !a.isNone⟩).2.bad = true := by simpa using h56
  refine sr ?_
  refine cl rfl rfl rfl (r_complete hR54 he) rfl (fun v_ H1 L1 hle_ hR_ => ?_)
  obtain ⟨rfl, rfl, rfl⟩ := hR_
  refine asg rfl rfl ?_
  refine nl ?_
  refine drW .head ?_
  exact rT rfl rfl ler (fun _ _ h => h) ⟨_, rfl, RdEnd.out (hB0 (by rw [ey0]; exact rMany_bad (fun r h => decV_bad (decP_bad _ _ _) h) _ _ hbad_)) hbad_⟩
 ·
  refine skt ?_
  refine sr ?_
  refine mv rfl rfl ?_
  refine sh' (j := 0) Tryz.runUnderlying95 Tryz.sizeOf145 rfl rfl rfl (Nat.zero_le _) rfl ?_
  refine asg rfl rfl ?_
  refine nl ?_
  refine sq ?_
  refine sr ?_
  refine mv rfl rfl ?_
  refine gt rfl rfl rfl ?_
  refine nl ?_
  refine nulC2 ?_
  refine cutT (fun l' H' L' => ∃ (a0 : Option Addr), ∃ (c0 : Nat), ∃ (Nr0 : Chunk), [(2, .bool false), (7, .pointer (some ⟨b_1, 0, none⟩)), (8, .int .i16 v), (9, .bool (decide ((1 : Int) ≤ v))), (10, .pointer (some ⟨b, 0, none⟩)), (11, .slice none 0 0), (12, .slice a0 (lT x0.1).length c0), (13, .int .i32 (rArr false ⟨s, false, !a.isNone⟩).1)] = l' ∧ Nr0 :: N54 :: [(b, .cells [.int .i16 v, .slice none 0 0, .map none].toArray 97 (0, 0))] :: L = L' ∧ Row 145 7 a0 (lT x0.1).length c0 (reps [.int .i64 0, .int .i16 0, .bool false, .slice none 0 0, .int .i32 0, .int .i8 0, .map none] (lT x0.1).length) Nr0 ∧ a0.isNone = (if 0 ≤ ((-1) : Int) ∧ (v < ((-1) : Int) ∨ (rArr false ⟨s, false, !a.isNone⟩).1 = 0) then false else decide ((rArr false ⟨s, false, !a.isNone⟩).1 ≤ 0))) ?_ (fun l' H' L' le_2 hI => ?_)
  ·
   refine cd rfl (fun h61 => ?_) (fun h61 => ?_)
   ·
    refine rg ?_
    refine mv rfl rfl ?_
    refine mv rfl rfl ?_
    refine apz (zs := [.int .i64 0, .int .i16 0, .bool false, .slice none 0 0, .int .i32 0, .int .i8 0, .map none]) (m := (lT x0.1).length) Tryz.underlying95 Tryz.underlying21 I145 rfl rfl rfl (by omega) (by omega) (by have h9 := hnb0; unfold BR at h9; omega) (by have h9 := hnb0; unfold BR at h9; unfold maxLen; omega) rfl (fun g64 cp64 N64 r64 => ?_)
    refine asg rfl rfl ?_
    refine nN ?_
    refine drN (.tail .head) ?_
    refine fun a_ w_ hA hw => ⟨_, _, _, hA.sub ?_, ler, hw, (some ⟨g64, 0, none⟩), cp64, N64, rfl, rfl, r64, (by rw [if_neg (by omega)]; exact (decide_eq_false (by omega)).symm)⟩
    exact (.cons rfl (.cons rfl (.cons rfl (.cons rfl (.cons rfl (.cons rfl (.cons rfl (.cons rfl (.nil _)))))))))
   ·
    refine skN ?_
    refine fun a_ w_ hA hw => ⟨_, _, _, hA.sub ?_, ler, hw, none, 0, [], rfl, rfl, (by rw [show (lT x0.1).length = 0 by omega]; exact (Row.nil _ _)), (by rw [if_neg (by omega)]; exact (decide_eq_true (by omega)).symm)⟩
    exact (.cons rfl (.cons rfl (.cons rfl (.cons rfl (.cons rfl (.cons rfl (.cons (by rw [show (lT x0.1).length = 0 by omega]; rfl) (.cons rfl (.nil _)))))))))
  ·
   obtain ⟨a0, c0, Nr0, rfl, rfl, pj0, pj1⟩ := hI
   have hr0 := pj0
   have hi0 := pj1
   refine sq ?_
   refine sr ?_
   refine asg rfl rfl ?_
   refine nl ?_
   refine bl (lp ((lT x0.1).length) (fun k0 l' H' L' => ∃ (es0 : List (KE 7)) (M0 RN0 : Chunk), [(2, .bool false), (7, .pointer (some ⟨b_1, 0, none⟩)), (8, .int .i16 v), (9, .bool (decide ((1 : Int) ≤ v))), (10, .pointer (some ⟨b, 0, none⟩)), (11, .slice none 0 0), (12, .slice a0 (lT x0.1).length c0), (13, .int .i32 (rArr false ⟨s, false, !a.isNone⟩).1), (14, .int .i32 (k0 : Int))] = l' ∧ M0 :: RN0 :: [(b, .cells [.int .i16 v, .slice none 0 0, .map none].toArray 97 (0, 0))] :: L = L' ∧ RdAt H' 118 b_1 (rMany (decV 10 (decP fs_sWriteTxnMarkersRequestMarker v false) false false) k0 (rArr false ⟨s, false, !a.isNone⟩).2).2 RN0 ∧ Row 145 7 a0 (lT x0.1).length c0 (es0.flatMap fk ++ reps [.int .i64 0, .int .i16 0, .bool false, .slice none 0 0, .int .i32 0, .int .i8 0, .map none] ((lT x0.1).length - k0)) M0 ∧ es0.map (·.2) = (rMany (decV 10 (decP fs_sWriteTxnMarkersRequestMarker v false) false false) k0 (rArr false ⟨s, false, !a.isNone⟩).2).1 ∧ ∀ p ∈ es0, At_WriteTxnMarkersRequestMarker H' p.2 (fk p)) [(2, .bool false), (7, .pointer (some ⟨b_1, 0, none⟩)), (8, .int .i16 v), (9, .bool (decide ((1 : Int) ≤ v))), (10, .pointer (some ⟨b, 0, none⟩)), (11, .slice none 0 0), (12, .slice a0 (lT x0.1).length c0), (13, .int .i32 (rArr false ⟨s, false, !a.isNone⟩).1), (14, .int .i32 (0 : Int))] (.of ⟨rfl, rfl, rfl, rfl, rfl, rfl, rfl, rfl, rfl, trivial⟩) ⟨[], Nr0, _, rfl, rfl, (hR54.mono le_2), hr0, rfl, (fun p hp => by cases hp)⟩ (fun k0 l' H' L' hk0 le_3 hI => ?_))
   obtain ⟨es0, M0, RN0, rfl, rfl, hR_0, hw_0, he_0, hg_0⟩ := hI
   have hs_0 := els_len he_0
   have hp_0 : (es0.flatMap fk).length = k0 * 7 := els_flat hs_0
   refine sq ?_
   refine sr ?_
   refine mv rfl rfl ?_
   refine mv rfl rfl ?_
   refine lt rfl rfl rfl ?_
   refine nl ?_
   refine cd rfl (fun h67 => ?_) (fun h67 => ?_)
   ·
    have hkl0 : k0 < (lT x0.1).length := by omega
    obtain ⟨g0, po0, hga0, rfl, hbk0⟩ := hw_0.next (zs := [.int .i64 0, .int .i16 0, .bool false, .slice none 0 0, .int .i32 0, .int .i8 0, .map none]) hkl0 rfl (by decide)
    have ho0 : 0 + k0 * 7 = (es0.flatMap fk).length := by rw [hp_0]; omega
    have hbz0 : ((decV 10 (decP fs_sWriteTxnMarkersRequestMarker v false) false false) (rMany (decV 10 (decP fs_sWriteTxnMarkersRequestMarker v false) false false) k0 (rArr false ⟨s, false, !a.isNone⟩).2).2).2.bad = true → (decP fs_WriteTxnMarkersRequest v false ⟨s, false, !a.isNone⟩).2.bad = true := fun h => hB0 (by rw [ex0]; exact rMany_mono (fun r h => decV_bad (fun r h => decP_bad _ _ _ r h) h) _ (show k0 + 1 ≤ (lT x0.1).length from hkl0) (by rw [rMany_succ]; exact h))
    have hLk0 : (rMany (decV 10 (decP fs_sWriteTxnMarkersRequestMarker v false) false false) k0 (rArr false ⟨s, false, !a.isNone⟩).2).2.s.length ≤ BR := Nat.le_trans (rMany_shr (fun r => decV_shr (fun r => decP_shr _ _ _ r) r) _ _) hm0
    have hL0__ := hLk0
    obtain ⟨x0_0, hx0_0⟩ : ∃ x, x = stepF (Fd.mk 4 0 (-1) (-1) (-1) 0 0 []) v false (rMany (decV 10 (decP fs_sWriteTxnMarkersRequestMarker v false) false false) k0 (rArr false ⟨s, false, !a.isNone⟩).2).2 := ⟨_, rfl⟩
    obtain ⟨x0_1, hx0_1⟩ : ∃ x, x = stepF (Fd.mk 2 0 (-1) (-1) (-1) 0 0 []) v false x0_0.2 := ⟨_, rfl⟩
    obtain ⟨x0_2, hx0_2⟩ : ∃ x, x = stepF (Fd.mk 0 0 (-1) (-1) (-1) 0 0 []) v false x0_1.2 := ⟨_, rfl⟩
    obtain ⟨x0_3, hx0_3⟩ : ∃ x, x = stepF (Fd.mk 11 0 (-1) (-1) (-1) 0 10 fs_sWriteTxnMarkersRequestMarkerTopic) v false x0_2.2 := ⟨_, rfl⟩
    obtain ⟨x0_4, hx0_4⟩ : ∃ x, x = stepF (Fd.mk 3 0 (-1) (-1) (-1) 0 0 []) v false x0_3.2 := ⟨_, rfl⟩
    obtain ⟨x0_5, hx0_5⟩ : ∃ x, x = stepF (Fd.mk 1 2 (-1) (-1) (-1) 0 0 []) v false x0_4.2 := ⟨_, rfl⟩
    obtain ⟨u0_, hu0_⟩ : ∃ x, x = tailU false x0_5.2 := ⟨_, rfl⟩
    have hD0_ : decP fs_sWriteTxnMarkersRequestMarker v false (rMany (decV 10 (decP fs_sWriteTxnMarkersRequestMarker v false) false false) k0 (rArr false ⟨s, false, !a.isNone⟩).2).2 = (.mk 0 [] false [x0_0.1, x0_1.1, x0_2.1, x0_3.1, x0_4.1, x0_5.1] u0_.1, u0_.2) := by
     generalize ((rMany (decV 10 (decP fs_sWriteTxnMarkersRequestMarker v false) false false) k0 (rArr false ⟨s, false, !a.isNone⟩).2).2 : Rd) = r_ at hx0_0 ⊢
     rw [decP_eq]; unfold fs_sWriteTxnMarkersRequestMarker; simp only [decFs_cons, decFs_nil, ← hx0_0, ← hx0_1, ← hx0_2, ← hx0_3, ← hx0_4, ← hx0_5, ← hu0_]
    have hL0_0 : x0_0.2.s.length ≤ BR := by rw [hx0_0]; exact Nat.le_trans (stepF_shr _ _ _ _) hL0__
    have hL0_1 : x0_1.2.s.length ≤ BR := by rw [hx0_1]; exact Nat.le_trans (stepF_shr _ _ _ _) hL0_0
    have hL0_2 : x0_2.2.s.length ≤ BR := by rw [hx0_2]; exact Nat.le_trans (stepF_shr _ _ _ _) hL0_1
    have hL0_3 : x0_3.2.s.length ≤ BR := by rw [hx0_3]; exact Nat.le_trans (stepF_shr _ _ _ _) hL0_2
    have hL0_4 : x0_4.2.s.length ≤ BR := by rw [hx0_4]; exact Nat.le_trans (stepF_shr _ _ _ _) hL0_3
    have hL0_5 : x0_5.2.s.length ≤ BR := by rw [hx0_5]; exact Nat.le_trans (stepF_shr _ _ _ _) hL0_4
    have hE0_ : u0_.2.bad = true → (decP fs_WriteTxnMarkersRequest v false ⟨s, false, !a.isNone⟩).2.bad = true := fun h => hbz0 (by show (decP fs_sWriteTxnMarkersRequestMarker v false (rMany (decV 10 (decP fs_sWriteTxnMarkersRequestMarker v false) false false) k0 (rArr false ⟨s, false, !a.isNone⟩).2).2).2.bad = true; rw [hD0_]; exact h)
    have hB0_5 : x0_5.2.bad = true → (decP fs_WriteTxnMarkersRequest v false ⟨s, false, !a.isNone⟩).2.bad = true := fun h => hE0_ (by rw [hu0_]; exact tailU_bad h)
    have hB0_4 : x0_4.2.bad = true → (decP fs_WriteTxnMarkersRequest v false ⟨s, false, !a.isNone⟩).2.bad = true := fun h => hB0_5 (by rw [hx0_5]; exact step_bad h)
    have hB0_3 : x0_3.2.bad = true → (decP fs_WriteTxnMarkersRequest v false ⟨s, false, !a.isNone⟩).2.bad = true := fun h => hB0_4 (by rw [hx0_4]; exact step_bad h)
    have hB0_2 : x0_2.2.bad = true → (decP fs_WriteTxnMarkersRequest v false ⟨s, false, !a.isNone⟩).2.bad = true := fun h => hB0_3 (by rw [hx0_3]; exact step_bad h)
    have hB0_1 : x0_1.2.bad = true → (decP fs_WriteTxnMarkersRequest v false ⟨s, false, !a.isNone⟩).2.bad = true := fun h => hB0_2 (by rw [hx0_2]; exact step_bad h)
    have hB0_0 : x0_0.2.bad = true → (decP fs_WriteTxnMarkersRequest v false ⟨s, false, !a.isNone⟩).2.bad = true := fun h => hB0_1 (by rw [hx0_1]; exact step_bad h)
    refine skt ?_
    refine sq ?_
    refine bl ?_
    refine sr ?_
    refine mv rfl rfl ?_
    refine mv rfl rfl ?_
    refine ixk (j := k0) Tryz.runUnderlying95 Tryz.sizeOf145 rfl hga0 rfl rfl hkl0 rfl ?_
    refine asg rfl rfl ?_
    refine nl ?_
    refine sr ?_
    refine mv rfl rfl ?_
    refine cl rfl rfl rfl (def_WriteTxnMarkersRequestMarker ho0) rfl (fun v_ H1 L1 hle_ hR_ => ?_)
    obtain ⟨rfl, rfl⟩ := hR_
    refine nl ?_
    refine sr ?_
    refine mv rfl rfl ?_
    refine asg rfl rfl ?_
    refine nl ?_
    refine sq ?_
    refine sr ?_
    refine tf (.tail .head) ?_
    have ex0_0 : x0_0 = decV 4 (decP [] v false) false false (rMany (decV 10 (decP fs_sWriteTxnMarkersRequestMarker v false) false false) k0 (rArr false ⟨s, false, !a.isNone⟩).2).2 := (hx0_0.trans (step_yes (by decide) (show (0 : Int) ≤ v by omega) (Or.inl (by decide)))).trans (decF'_val (by decide) (rfl))
    refine cl rfl rfl rfl (d4 hR_0 ex0_0) rfl (fun v_ H1 L1 hle_ hR_ => ?_)
    obtain ⟨N76, rfl, hR76, rfl, rfl⟩ := hR_
    refine asg rfl rfl ?_
    refine nl ?_
    refine rg ?_
    refine mv rfl rfl ?_
    refine mv rfl rfl ?_
    refine nc rfl rfl ?_
    refine fa F145_0 rfl rfl ?_
    refine stM (off := 0) Tryz.sizeOf2 rfl (by rw [ho0]) rfl rfl rfl (.tail .head) ?_
    refine nl ?_
    refine sq ?_
    refine sr ?_
    have ex0_1 : x0_1 = decV 2 (decP [] v false) false false x0_0.2 := (hx0_1.trans (step_yes (by decide) (show (0 : Int) ≤ v by omega) (Or.inl (by decide)))).trans (decF'_val (by decide) (rfl))
    refine cl rfl rfl rfl (d2 hR76 ex0_1) rfl (fun v_ H1 L1 hle_ hR_ => ?_)
    obtain ⟨N81, rfl, hR81, rfl, rfl⟩ := hR_
    refine asg rfl rfl ?_
    refine nl ?_
    refine rg ?_
    refine mv rfl rfl ?_
    refine mv rfl rfl ?_
    refine nc rfl rfl ?_
    refine fa F145_1 rfl rfl ?_
    refine stM (off := 1) Tryz.sizeOf45 rfl (by rw [ho0]) rfl rfl rfl (.tail .head) ?_
    refine nl ?_
    refine sq ?_
    refine sr ?_
    have ex0_2 : x0_2 = decV 0 (decP [] v false) false false x0_1.2 := (hx0_2.trans (step_yes (by decide) (show (0 : Int) ≤ v by omega) (Or.inl (by decide)))).trans (decF'_val (by decide) (rfl))
    refine cl rfl rfl rfl (d0 hR81 ex0_2) rfl (fun v_ H1 L1 hle_ hR_ => ?_)
    obtain ⟨N86, rfl, hR86, rfl, rfl⟩ := hR_
    refine asg rfl rfl ?_
    refine nl ?_
    refine rg ?_
    refine mv rfl rfl ?_
    refine mv rfl rfl ?_
    refine nc rfl rfl ?_
    refine fa F145_2 rfl rfl ?_
    refine stM (off := 2) Tryz.sizeOf4 rfl (by rw [ho0]) rfl rfl rfl (.tail .head) ?_
    refine nl ?_
    refine sq ?_
    refine sr ?_
    refine mv rfl rfl ?_
    refine nc rfl rfl ?_
    refine fa F145_3 rfl rfl ?_
    refine ld (j := 3) (off := 0 + k0 * 7) (Says.mid (.tail .head) ho0) Tryz.isAgg143 rfl rfl rfl rfl ?_
    refine asg rfl rfl ?_
    refine nl ?_
    refine sr ?_
    refine mv rfl rfl ?_
    refine asg rfl rfl ?_
    refine nl ?_
    refine sr ?_
    refine asg rfl rfl ?_
    refine nl ?_
    refine sq ?_
    refine sr ?_
    refine mv rfl rfl ?_
    refine nl ?_
    refine cdF rfl (by omega) ?_
    refine rg ?_
    have ey0_3 : x0_3 = (.mk 0 [] (if 0 ≤ ((-1) : Int) ∧ (v < ((-1) : Int) ∨ (rArr false x0_2.2).1 = 0) then false else decide ((rArr false x0_2.2).1 ≤ 0)) (rMany (decV 10 (decP fs_sWriteTxnMarkersRequestMarkerTopic v false) false false) (rArr false x0_2.2).1.toNat (rArr false x0_2.2).2).1 [], (rMany (decV 10 (decP fs_sWriteTxnMarkersRequestMarkerTopic v false) false false) (rArr false x0_2.2).1.toNat (rArr false x0_2.2).2).2) := (hx0_3.trans (step_yes (by decide) (show (0 : Int) ≤ v by omega) (Or.inl (by decide)))).trans (decF'_list rfl rfl)
    have hn0_3 : (rArr false x0_2.2).1.toNat = (lT x0_3.1).length := by rw [ey0_3]; exact (lT_many nul_le).symm
    have ex0_3 := ey0_3
    rw [hn0_3] at ex0_3
    have hl0_3 := rArr_le false x0_2.2
    have hm0_3 : (rArr false x0_2.2).2.s.length ≤ BR := Nat.le_trans (rArr_len false x0_2.2) hL0_2
    have hnb0_3 : (lT x0_3.1).length ≤ BR := by omega
    refine cl rfl rfl rfl (r_arrf hR86) rfl (fun v_ H1 L1 hle_ hR_ => ?_)
    obtain ⟨rfl, N98, rfl, hR98, rfl⟩ := hR_
    have hh0_3 := rArr_hi false x0_2.2
    refine asg rfl rfl ?_
    refine nl ?_
    refine sq ?_
    refine sr ?_
    refine cl rfl rfl rfl (r_ok hR98) rfl (fun v_ H1 L1 hle_ hR_ => ?_)
    obtain ⟨rfl, rfl, rfl⟩ := hR_
    refine nt rfl rfl ?_
    refine nl ?_
    refine cb rfl (fun h100 => ?_) (fun h100 => ?_)
    ·
     have hbad_ : (rArr false x0_2.2).2.bad = true := by simpa using h100
     refine sr ?_
     refine cl rfl rfl rfl (r_complete hR98 (he.mono (le_2.trans le_3))) rfl (fun v_ H1 L1 hle_ hR_ => ?_)
     obtain ⟨rfl, rfl, rfl⟩ := hR_
     refine asg rfl rfl ?_
     refine nl ?_
     refine drW .head ?_
     refine drW .head ?_
     exact rT rfl rfl (le_2.trans le_3) (fun _ _ h => h) ⟨_, rfl, RdEnd.out (hB0_3 (by rw [ey0_3]; exact rMany_bad (fun r h => decV_bad (decP_bad _ _ _) h) _ _ hbad_)) hbad_⟩
    ·
     refine skt ?_
     refine sr ?_
     refine mv rfl rfl ?_
     refine sh' (j := 0) Tryz.runUnderlying143 Tryz.sizeOf150 rfl rfl rfl (Nat.zero_le _) rfl ?_
     refine asg rfl rfl ?_
     refine nl ?_
     refine sq ?_
     refine sr ?_
     refine mv rfl rfl ?_
     refine gt rfl rfl rfl ?_
     refine nl ?_
     refine nulC2 ?_
     refine cutT (fun l' H' L' => ∃ (a0_3 : Option Addr), ∃ (c0_3 : Nat), ∃ (Nr0_3 : Chunk), [(2, .bool false), (7, .pointer (some ⟨b_1, 0, none⟩)), (8, .int .i16 v), (9, .bool (decide ((1 : Int) ≤ v))), (10, .pointer (some ⟨b, 0, none⟩)), (11, .slice none 0 0), (12, .slice a0 (lT x0.1).length c0), (13, .int .i32 (rArr false ⟨s, false, !a.isNone⟩).1), (14, .int .i32 (k0 : Int)), (16, .pointer (some ⟨g0, 0 + k0 * 7, none⟩)), (20, .slice none 0 0), (21, .slice a0_3 (lT x0_3.1).length c0_3), (22, .int .i32 (rArr false x0_2.2).1)] = l' ∧ Nr0_3 :: N98 :: [(g0, .cells ((es0.flatMap fk) ++ ([.int .i64 x0_0.1.n, .int .i16 (IntKind.i16.wrap x0_1.1.n), .bool (decide (x0_2.1.n % 2 = 1)), .slice none 0 0, .int .i32 0, .int .i8 0, .map none] : List Value) ++ po0).toArray 145 (0, 0))] :: [(b, .cells [.int .i16 v, .slice none 0 0, .map none].toArray 97 (0, 0))] :: L = L' ∧ Row 150 3 a0_3 (lT x0_3.1).length c0_3 (reps [.string ⟨#[]⟩, .slice none 0 0, .map none] (lT x0_3.1).length) Nr0_3 ∧ a0_3.isNone = (if 0 ≤ ((-1) : Int) ∧ (v < ((-1) : Int) ∨ (rArr false x0_2.2).1 = 0) then false else decide ((rArr false x0_2.2).1 ≤ 0))) ?_ (fun l' H' L' le_7 hI => ?_)
     ·
      refine cd rfl (fun h105 => ?_) (fun h105 => ?_)
      ·
       refine rg ?_
       refine mv rfl rfl ?_
       refine mv rfl rfl ?_
       refine apz (zs := [.string ⟨#[]⟩, .slice none 0 0, .map none]) (m := (lT x0_3.1).length) Tryz.underlying143 Tryz.underlying21 I150 rfl rfl rfl (by omega) (by omega) (by have h9 := hnb0_3; unfold BR at h9; omega) (by have h9 := hnb0_3; unfold BR at h9; unfold maxLen; omega) rfl (fun g108 cp108 N108 r108 => ?_)
       refine asg rfl rfl ?_
       refine nN ?_
       refine drN (.tail .head) ?_
       refine fun a_ w_ hA hw => ⟨_, _, _, hA.sub ?_, ler, hw, (some ⟨g108, 0, none⟩), cp108, N108, rfl, rfl, r108, (by rw [if_neg (by omega)]; exact (decide_eq_false (by omega)).symm)⟩
       exact (.cons rfl (.cons rfl (.cons rfl (.cons rfl (.cons rfl (.cons rfl (.cons rfl (.cons rfl (.cons rfl (.cons rfl (.cons rfl (.cons rfl (.cons rfl (.nil _))))))))))))))
      ·
       refine skN ?_
       refine fun a_ w_ hA hw => ⟨_, _, _, hA.sub ?_, ler, hw, none, 0, [], rfl, rfl, (by rw [show (lT x0_3.1).length = 0 by omega]; exact (Row.nil _ _)), (by rw [if_neg (by omega)]; exact (decide_eq_true (by omega)).symm)⟩
       exact (.cons rfl (.cons rfl (.cons rfl (.cons rfl (.cons rfl (.cons rfl (.cons rfl (.cons rfl (.cons rfl (.cons rfl (.cons rfl (.cons (by rw [show (lT x0_3.1).length = 0 by omega]; rfl) (.cons rfl (.nil _))))))))))))))
     ·
      obtain ⟨a0_3, c0_3, Nr0_3, rfl, rfl, pj0, pj1⟩ := hI
      have hr0_3 := pj0
      have hi0_3 := pj1
      refine sq ?_
      refine sr ?_
      refine asg rfl rfl ?_
      refine nl ?_
      refine bl (lp ((lT x0_3.1).length) (fun k0_3 l' H' L' => ∃ (es0_3 : List (KE 3)) (M0_3 RN0_3 : Chunk), [(2, .bool false), (7, .pointer (some ⟨b_1, 0, none⟩)), (8, .int .i16 v), (9, .bool (decide ((1 : Int) ≤ v))), (10, .pointer (some ⟨b, 0, none⟩)), (11, .slice none 0 0), (12, .slice a0 (lT x0.1).length c0), (13, .int .i32 (rArr false ⟨s, false, !a.isNone⟩).1), (14, .int .i32 (k0 : Int)), (16, .pointer (some ⟨g0, 0 + k0 * 7, none⟩)), (20, .slice none 0 0), (21, .slice a0_3 (lT x0_3.1).length c0_3), (22, .int .i32 (rArr false x0_2.2).1), (23, .int .i32 (k0_3 : Int))] = l' ∧ M0_3 :: RN0_3 :: [(g0, .cells ((es0.flatMap fk) ++ ([.int .i64 x0_0.1.n, .int .i16 (IntKind.i16.wrap x0_1.1.n), .bool (decide (x0_2.1.n % 2 = 1)), .slice none 0 0, .int .i32 0, .int .i8 0, .map none] : List Value) ++ po0).toArray 145 (0, 0))] :: [(b, .cells [.int .i16 v, .slice none 0 0, .map none].toArray 97 (0, 0))] :: L = L' ∧ RdAt H' 118 b_1 (rMany (decV 10 (decP fs_sWriteTxnMarkersRequestMarkerTopic v false) false false) k0_3 (rArr false x0_2.2).2).2 RN0_3 ∧ Row 150 3 a0_3 (lT x0_3.1).length c0_3 (es0_3.flatMap fk ++ reps [.string ⟨#[]⟩, .slice none 0 0, .map none] ((lT x0_3.1).length - k0_3)) M0_3 ∧ es0_3.map (·.2) = (rMany (decV 10 (decP fs_sWriteTxnMarkersRequestMarkerTopic v false) false false) k0_3 (rArr false x0_2.2).2).1 ∧ ∀ p ∈ es0_3, At_WriteTxnMarkersRequestMarkerTopic H' p.2 (fk p)) [(2, .bool false), (7, .pointer (some ⟨b_1, 0, none⟩)), (8, .int .i16 v), (9, .bool (decide ((1 : Int) ≤ v))), (10, .pointer (some ⟨b, 0, none⟩)), (11, .slice none 0 0), (12, .slice a0 (lT x0.1).length c0), (13, .int .i32 (rArr false ⟨s, false, !a.isNone⟩).1), (14, .int .i32 (k0 : Int)), (16, .pointer (some ⟨g0, 0 + k0 * 7, none⟩)), (20, .slice none 0 0), (21, .slice a0_3 (lT x0_3.1).length c0_3), (22, .int .i32 (rArr false x0_2.2).1), (23, .int .i32 (0 : Int))] (.of ⟨rfl, rfl, rfl, rfl, rfl, rfl, rfl, rfl, rfl, rfl, rfl, rfl, rfl, rfl, trivial⟩) ⟨[], Nr0_3, _, rfl, rfl, (hR98.mono le_7), hr0_3, rfl, (fun p hp => by cases hp)⟩ (fun k0_3 l' H' L' hk0_3 le_8 hI => ?_))
      obtain ⟨es0_3, M0_3, RN0_3, rfl, rfl, hR_0_3, hw_0_3, he_0_3, hg_0_3⟩ := hI
      have hs_0_3 := els_len he_0_3
      have hp_0_3 : (es0_3.flatMap fk).length = k0_3 * 3 := els_flat hs_0_3
      refine sq ?_
      refine sr ?_
      refine mv rfl rfl ?_
      refine mv rfl rfl ?_
      refine lt rfl rfl rfl ?_
      refine nl ?_
      refine cd rfl (fun h111 => ?_) (fun h111 => ?_)
      ·
       have hkl0_3 : k0_3 < (lT x0_3.1).length := by omega
       obtain ⟨g0_3, po0_3, hga0_3, rfl, hbk0_3⟩ := hw_0_3.next (zs := [.string ⟨#[]⟩, .slice none 0 0, .map none]) hkl0_3 rfl (by decide)
       have ho0_3 : 0 + k0_3 * 3 = (es0_3.flatMap fk).length := by rw [hp_0_3]; omega
       have hbz0_3 : ((decV 10 (decP fs_sWriteTxnMarkersRequestMarkerTopic v false) false false) (rMany (decV 10 (decP fs_sWriteTxnMarkersRequestMarkerTopic v false) false false) k0_3 (rArr false x0_2.2).2).2).2.bad = true → (decP fs_WriteTxnMarkersRequest v false ⟨s, false, !a.isNone⟩).2.bad = true := fun h => hB0_3 (by rw [ex0_3]; exact rMany_mono (fun r h => decV_bad (fun r h => decP_bad _ _ _ r h) h) _ (show k0_3 + 1 ≤ (lT x0_3.1).length from hkl0_3) (by rw [rMany_succ]; exact h))
       have hLk0_3 : (rMany (decV 10 (decP fs_sWriteTxnMarkersRequestMarkerTopic v false) false false) k0_3 (rArr false x0_2.2).2).2.s.length ≤ BR := Nat.le_trans (rMany_shr (fun r => decV_shr (fun r => decP_shr _ _ _ r) r) _ _) hm0_3
       have hL0_3__ := hLk0_3
       obtain ⟨x0_3_0, hx0_3_0⟩ : ∃ x, x = stepF (Fd.mk 8 0 (-1) (-1) (-1) 0 0 []) v false (rMany (decV 10 (decP fs_sWriteTxnMarkersRequestMarkerTopic v false) false false) k0_3 (rArr false x0_2.2).2).2 := ⟨_, rfl⟩
       obtain ⟨x0_3_1, hx0_3_1⟩ : ∃ x, x = stepF (Fd.mk 11 0 (-1) (-1) (-1) 0 3 []) v false x0_3_0.2 := ⟨_, rfl⟩
       obtain ⟨u0_3_, hu0_3_⟩ : ∃ x, x = tailU false x0_3_1.2 := ⟨_, rfl⟩
       have hD0_3_ : decP fs_sWriteTxnMarkersRequestMarkerTopic v false (rMany (decV 10 (decP fs_sWriteTxnMarkersRequestMarkerTopic v false) false false) k0_3 (rArr false x0_2.2).2).2 = (.mk 0 [] false [x0_3_0.1, x0_3_1.1] u0_3_.1, u0_3_.2) := by
        generalize ((rMany (decV 10 (decP fs_sWriteTxnMarkersRequestMarkerTopic v false) false false) k0_3 (rArr false x0_2.2).2).2 : Rd) = r_ at hx0_3_0 ⊢
        rw [decP_eq]; unfold fs_sWriteTxnMarkersRequestMarkerTopic; simp only [decFs_cons, decFs_nil, ← hx0_3_0, ← hx0_3_1, ← hu0_3_]
       have hL0_3_0 : x0_3_0.2.s.length ≤ BR := by rw [hx0_3_0]; exact Nat.le_trans (stepF_shr _ _ _ _) hL0_3__
       have hL0_3_1 : x0_3_1.2.s.length ≤ BR := by rw [hx0_3_1]; exact Nat.le_trans (stepF_shr _ _ _ _) hL0_3_0
       have hE0_3_ : u0_3_.2.bad = true → (decP fs_WriteTxnMarkersRequest v false ⟨s, false, !a.isNone⟩).2.bad = true := fun h => hbz0_3 (by show (decP fs_sWriteTxnMarkersRequestMarkerTopic v false (rMany (decV 10 (decP fs_sWriteTxnMarkersRequestMarkerTopic v false) false false) k0_3 (rArr false x0_2.2).2).2).2.bad = true; rw [hD0_3_]; exact h)
       have hB0_3_1 : x0_3_1.2.bad = true → (decP fs_WriteTxnMarkersRequest v false ⟨s, false, !a.isNone⟩).2.bad = true := fun h => hE0_3_ (by rw [hu0_3_]; exact tailU_bad h)
       have hB0_3_0 : x0_3_0.2.bad = true → (decP fs_WriteTxnMarkersRequest v false ⟨s, false, !a.isNone⟩).2.bad = true := fun h => hB0_3_1 (by rw [hx0_3_1]; exact step_bad h)
       refine skt ?_
       refine sq ?_
       refine bl ?_
       refine sr ?_
       refine mv rfl rfl ?_
       refine mv rfl rfl ?_
       refine ixk (j := k0_3) Tryz.runUnderlying143 Tryz.sizeOf150 rfl hga0_3 rfl rfl hkl0_3 rfl ?_
       refine asg rfl rfl ?_
       refine nl ?_
       refine sr ?_
       refine mv rfl rfl ?_
       refine cl rfl rfl rfl (def_WriteTxnMarkersRequestMarkerTopic ho0_3) rfl (fun v_ H1 L1 hle_ hR_ => ?_)
       obtain ⟨rfl, rfl⟩ := hR_
       refine nl ?_
       refine sr ?_
       refine mv rfl rfl ?_
       refine asg rfl rfl ?_
       refine nl ?_
       refine sq ?_
       refine sr ?_
       refine asg rfl rfl ?_
       refine nl ?_
       refine sq ?_
       refine sr ?_
       refine mv rfl rfl ?_
       refine nl ?_
       refine cF rfl ?_
       refine sr ?_
       refine mv rfl rfl ?_
       refine nl ?_
       refine cdF rfl (by omega) ?_
       refine rg ?_
       refine tf (.tail .head) ?_
       have ex0_3_0 : x0_3_0 = decV 8 (decP [] v false) false false (rMany (decV 10 (decP fs_sWriteTxnMarkersRequestMarkerTopic v false) false false) k0_3 (rArr false x0_2.2).2).2 := (hx0_3_0.trans (step_yes (by decide) (show (0 : Int) ≤ v by omega) (Or.inl (by decide)))).trans (decF'_val (by decide) (rfl))
       refine cl rfl rfl rfl (d8f hR_0_3 ex0_3_0) rfl (fun v_ H1 L1 le_9 hR_ => ?_)
       obtain ⟨N126, rfl, hR126, rfl, rfl⟩ := hR_
       refine asg rfl rfl ?_
       refine nl ?_
       refine rg ?_
       refine mv rfl rfl ?_
       refine mv rfl rfl ?_
       refine nc rfl rfl ?_
       refine fa F150_0 rfl rfl ?_
       refine stM (off := 0) Tryz.sizeOf9 rfl (by rw [ho0_3]) rfl rfl rfl (.tail .head) ?_
       refine nl ?_
       refine sq ?_
       refine sr ?_
       refine mv rfl rfl ?_
       refine nc rfl rfl ?_
       refine fa F150_1 rfl rfl ?_
       refine ld (j := 1) (off := 0 + k0_3 * 3) (Says.mid (.tail .head) ho0_3) Tryz.isAgg148 rfl rfl rfl rfl ?_
       refine asg rfl rfl ?_
       refine nl ?_
       refine sr ?_
       refine mv rfl rfl ?_
       refine asg rfl rfl ?_
       refine nl ?_
       refine sr ?_
       refine asg rfl rfl ?_
       refine nl ?_
       refine sq ?_
       refine sr ?_
       refine mv rfl rfl ?_
       refine nl ?_
       refine cdF rfl (by omega) ?_
       refine rg ?_
       have ey0_3_1 : x0_3_1 = (.mk 0 [] (if 0 ≤ ((-1) : Int) ∧ (v < ((-1) : Int) ∨ (rArr false x0_3_0.2).1 = 0) then false else decide ((rArr false x0_3_0.2).1 ≤ 0)) (rMany (decV 3 (decP [] v false) false false) (rArr false x0_3_0.2).1.toNat (rArr false x0_3_0.2).2).1 [], (rMany (decV 3 (decP [] v false) false false) (rArr false x0_3_0.2).1.toNat (rArr false x0_3_0.2).2).2) := (hx0_3_1.trans (step_yes (by decide) (show (0 : Int) ≤ v by omega) (Or.inl (by decide)))).trans (decF'_list rfl rfl)
       have hn0_3_1 : (rArr false x0_3_0.2).1.toNat = (lT x0_3_1.1).length := by rw [ey0_3_1]; exact (lT_many nul_le).symm
       have ex0_3_1 := ey0_3_1
       rw [hn0_3_1] at ex0_3_1
       have hl0_3_1 := rArr_le false x0_3_0.2
       have hm0_3_1 : (rArr false x0_3_0.2).2.s.length ≤ BR := Nat.le_trans (rArr_len false x0_3_0.2) hL0_3_0
       have hnb0_3_1 : (lT x0_3_1.1).length ≤ BR := by omega
       refine cl rfl rfl rfl (r_arrf hR126) rfl (fun v_ H1 L1 hle_ hR_ => ?_)
       obtain ⟨rfl, N138, rfl, hR138, rfl⟩ := hR_
       have hh0_3_1 := rArr_hi false x0_3_0.2
       refine asg rfl rfl ?_
       refine nl ?_
       refine sq ?_
       refine sr ?_
       refine cl rfl rfl rfl (r_ok hR138) rfl (fun v_ H1 L1 hle_ hR_ => ?_)
       obtain ⟨rfl, rfl, rfl⟩ := hR_
       refine nt rfl rfl ?_
       refine nl ?_
       refine cb rfl (fun h140 => ?_) (fun h140 => ?_)
       ·
        have hbad_ : (rArr false x0_3_0.2).2.bad = true := by simpa using h140
        refine sr ?_
        refine cl rfl rfl rfl (r_complete hR138 (he.mono (le_2.trans (le_3.trans (le_7.trans le_8))))) rfl (fun v_ H1 L1 hle_ hR_ => ?_)
        obtain ⟨rfl, rfl, rfl⟩ := hR_
        refine asg rfl rfl ?_
        refine nl ?_
        refine drW .head ?_
        refine drW .head ?_
        refine drW .head ?_
        exact rT rfl rfl (le_2.trans (le_3.trans (le_7.trans le_8))) (fun _ _ h => h) ⟨_, rfl, RdEnd.out (hB0_3_1 (by rw [ey0_3_1]; exact rMany_bad (fun r h => decV_bad (decP_bad _ _ _) h) _ _ hbad_)) hbad_⟩
       ·
        refine skt ?_
        refine sr ?_
        refine mv rfl rfl ?_
        refine sh' (j := 0) Tryz.runUnderlying148 Tryz.sizeOf21 rfl rfl rfl (Nat.zero_le _) rfl ?_
        refine asg rfl rfl ?_
        refine nl ?_
        refine sq ?_
        refine sr ?_
        refine mv rfl rfl ?_
        refine gt rfl rfl rfl ?_
        refine nl ?_
        refine nulC2 ?_
        refine cutT (fun l' H' L' => ∃ (a0_3_1 : Option Addr), ∃ (c0_3_1 : Nat), ∃ (Nr0_3_1 : Chunk), [(2, .bool false), (7, .pointer (some ⟨b_1, 0, none⟩)), (8, .int .i16 v), (9, .bool (decide ((1 : Int) ≤ v))), (10, .pointer (some ⟨b, 0, none⟩)), (11, .slice none 0 0), (12, .slice a0 (lT x0.1).length c0), (13, .int .i32 (rArr false ⟨s, false, !a.isNone⟩).1), (14, .int .i32 (k0 : Int)), (16, .pointer (some ⟨g0, 0 + k0 * 7, none⟩)), (20, .slice none 0 0), (21, .slice a0_3 (lT x0_3.1).length c0_3), (22, .int .i32 (rArr false x0_2.2).1), (23, .int .i32 (k0_3 : Int)), (25, .pointer (some ⟨g0_3, 0 + k0_3 * 3, none⟩)), (27, .slice none 0 0), (28, .slice a0_3_1 (lT x0_3_1.1).length c0_3_1), (29, .int .i32 (rArr false x0_3_0.2).1)] = l' ∧ Nr0_3_1 :: N138 :: [(g0_3, .cells ((es0_3.flatMap fk) ++ ([.string ⟨x0_3_0.1.s.toArray⟩, .slice none 0 0, .map none] : List Value) ++ po0_3).toArray 150 (0, 0))] :: [(g0, .cells ((es0.flatMap fk) ++ ([.int .i64 x0_0.1.n, .int .i16 (IntKind.i16.wrap x0_1.1.n), .bool (decide (x0_2.1.n % 2 = 1)), .slice none 0 0, .int .i32 0, .int .i8 0, .map none] : List Value) ++ po0).toArray 145 (0, 0))] :: [(b, .cells [.int .i16 v, .slice none 0 0, .map none].toArray 97 (0, 0))] :: L = L' ∧ Row 21 1 a0_3_1 (lT x0_3_1.1).length c0_3_1 (reps [.int .i32 0] (lT x0_3_1.1).length) Nr0_3_1 ∧ a0_3_1.isNone = (if 0 ≤ ((-1) : Int) ∧ (v < ((-1) : Int) ∨ (rArr false x0_3_0.2).1 = 0) then false else decide ((rArr false x0_3_0.2).1 ≤ 0))) ?_ (fun l' H' L' le_10 hI => ?_)
        ·
         refine cd rfl (fun h145 => ?_) (fun h145 => ?_)
         ·
          refine rg ?_
          refine mv rfl rfl ?_
          refine mv rfl rfl ?_
          refine apz (zs := [.int .i32 0]) (m := (lT x0_3_1.1).length) Tryz.underlying148 Tryz.underlying21 I21 rfl rfl rfl (by omega) (by omega) (by have h9 := hnb0_3_1; unfold BR at h9; omega) (by have h9 := hnb0_3_1; unfold BR at h9; unfold maxLen; omega) rfl (fun g148 cp148 N148 r148 => ?_)
          refine asg rfl rfl ?_
          refine nN ?_
          refine drN (.tail .head) ?_
          refine fun a_ w_ hA hw => ⟨_, _, _, hA.sub ?_, ler, hw, (some ⟨g148, 0, none⟩), cp148, N148, rfl, rfl, r148, (by rw [if_neg (by omega)]; exact (decide_eq_false (by omega)).symm)⟩
          exact (.cons rfl (.cons rfl (.cons rfl (.cons rfl (.cons rfl (.cons rfl (.cons rfl (.cons rfl (.cons rfl (.cons rfl (.cons rfl (.cons rfl (.cons rfl (.cons rfl (.cons rfl (.cons rfl (.cons rfl (.cons rfl (.nil _)))))))))))))))))))
         ·
          refine skN ?_
          refine fun a_ w_ hA hw => ⟨_, _, _, hA.sub ?_, ler, hw, none, 0, [], rfl, rfl, (by rw [show (lT x0_3_1.1).length = 0 by omega]; exact (Row.nil _ _)), (by rw [if_neg (by omega)]; exact (decide_eq_true (by omega)).symm)⟩
          exact (.cons rfl (.cons rfl (.cons rfl (.cons rfl (.cons rfl (.cons rfl (.cons rfl (.cons rfl (.cons rfl (.cons rfl (.cons rfl (.cons rfl (.cons rfl (.cons rfl (.cons rfl (.cons rfl (.cons (by rw [show (lT x0_3_1.1).length = 0 by omega]; rfl) (.cons rfl (.nil _)))))))))))))))))))
        ·
         obtain ⟨a0_3_1, c0_3_1, Nr0_3_1, rfl, rfl, pj0, pj1⟩ := hI
         have hr0_3_1 := pj0
         have hi0_3_1 := pj1
         refine sq ?_
         refine sr ?_
         refine asg rfl rfl ?_
         refine nl ?_
         refine bl (lp ((lT x0_3_1.1).length) (fun k0_3_1 l' H' L' => ∃ (es0_3_1 : List (KE 1)) (M0_3_1 RN0_3_1 : Chunk), [(2, .bool false), (7, .pointer (some ⟨b_1, 0, none⟩)), (8, .int .i16 v), (9, .bool (decide ((1 : Int) ≤ v))), (10, .pointer (some ⟨b, 0, none⟩)), (11, .slice none 0 0), (12, .slice a0 (lT x0.1).length c0), (13, .int .i32 (rArr false ⟨s, false, !a.isNone⟩).1), (14, .int .i32 (k0 : Int)), (16, .pointer (some ⟨g0, 0 + k0 * 7, none⟩)), (20, .slice none 0 0), (21, .slice a0_3 (lT x0_3.1).length c0_3), (22, .int .i32 (rArr false x0_2.2).1), (23, .int .i32 (k0_3 : Int)), (25, .pointer (some ⟨g0_3, 0 + k0_3 * 3, none⟩)), (27, .slice none 0 0), (28, .slice a0_3_1 (lT x0_3_1.1).length c0_3_1), (29, .int .i32 (rArr false x0_3_0.2).1), (30, .int .i32 (k0_3_1 : Int))] = l' ∧ M0_3_1 :: RN0_3_1 :: [(g0_3, .cells ((es0_3.flatMap fk) ++ ([.string ⟨x0_3_0.1.s.toArray⟩, .slice none 0 0, .map none] : List Value) ++ po0_3).toArray 150 (0, 0))] :: [(g0, .cells ((es0.flatMap fk) ++ ([.int .i64 x0_0.1.n, .int .i16 (IntKind.i16.wrap x0_1.1.n), .bool (decide (x0_2.1.n % 2 = 1)), .slice none 0 0, .int .i32 0, .int .i8 0, .map none] : List Value) ++ po0).toArray 145 (0, 0))] :: [(b, .cells [.int .i16 v, .slice none 0 0, .map none].toArray 97 (0, 0))] :: L = L' ∧ RdAt H' 118 b_1 (rMany (decV 3 (decP [] v false) false false) k0_3_1 (rArr false x0_3_0.2).2).2 RN0_3_1 ∧ Row 21 1 a0_3_1 (lT x0_3_1.1).length c0_3_1 (es0_3_1.flatMap fk ++ reps [.int .i32 0] ((lT x0_3_1.1).length - k0_3_1)) M0_3_1 ∧ es0_3_1.map (·.2) = (rMany (decV 3 (decP [] v false) false false) k0_3_1 (rArr false x0_3_0.2).2).1 ∧ ∀ p ∈ es0_3_1, RI32 H' p.2 (fk p)) [(2, .bool false), (7, .pointer (some ⟨b_1, 0, none⟩)), (8, .int .i16 v), (9, .bool (decide ((1 : Int) ≤ v))), (10, .pointer (some ⟨b, 0, none⟩)), (11, .slice none 0 0), (12, .slice a0 (lT x0.1).length c0), (13, .int .i32 (rArr false ⟨s, false, !a.isNone⟩).1), (14, .int .i32 (k0 : Int)), (16, .pointer (some ⟨g0, 0 + k0 * 7, none⟩)), (20, .slice none 0 0), (21, .slice a0_3 (lT x0_3.1).length c0_3), (22, .int .i32 (rArr false x0_2.2).1), (23, .int .i32 (k0_3 : Int)), (25, .pointer (some ⟨g0_3, 0 + k0_3 * 3, none⟩)), (27, .slice none 0 0), (28, .slice a0_3_1 (lT x0_3_1.1).length c0_3_1), (29, .int .i32 (rArr false x0_3_0.2).1), (30, .int .i32 (0 : Int))] (.of ⟨rfl, rfl, rfl, rfl, rfl, rfl, rfl, rfl, rfl, rfl, rfl, rfl, rfl, rfl, rfl, rfl, rfl, rfl, rfl, trivial⟩) ⟨[], Nr0_3_1, _, rfl, rfl, (hR138.mono le_10), hr0_3_1, rfl, (fun p hp => by cases hp)⟩ (fun k0_3_1 l' H' L' hk0_3_1 le_11 hI => ?_))
         obtain ⟨es0_3_1, M0_3_1, RN0_3_1, rfl, rfl, hR_0_3_1, hw_0_3_1, he_0_3_1, hg_0_3_1⟩ := hI
         have hs_0_3_1 := els_len he_0_3_1
         have hp_0_3_1 : (es0_3_1.flatMap fk).length = k0_3_1 * 1 := els_flat hs_0_3_1
         refine sq ?_
         refine sr ?_
         refine mv rfl rfl ?_
         refine mv rfl rfl ?_
         refine lt rfl rfl rfl ?_
         refine nl ?_
         refine cd rfl (fun h151 => ?_) (fun h151 => ?_)
         ·
          have hkl0_3_1 : k0_3_1 < (lT x0_3_1.1).length := by omega
          obtain ⟨g0_3_1, po0_3_1, hga0_3_1, rfl, hbk0_3_1⟩ := hw_0_3_1.next (zs := [.int .i32 0]) hkl0_3_1 rfl (by decide)
          have ho0_3_1 : 0 + k0_3_1 * 1 = (es0_3_1.flatMap fk).length := by rw [hp_0_3_1]; omega
          have hbz0_3_1 : ((decV 3 (decP [] v false) false false) (rMany (decV 3 (decP [] v false) false false) k0_3_1 (rArr false x0_3_0.2).2).2).2.bad = true → (decP fs_WriteTxnMarkersRequest v false ⟨s, false, !a.isNone⟩).2.bad = true := fun h => hB0_3_1 (by rw [ex0_3_1]; exact rMany_mono (fun r h => decV_bad (fun r h => decP_bad _ _ _ r h) h) _ (show k0_3_1 + 1 ≤ (lT x0_3_1.1).length from hkl0_3_1) (by rw [rMany_succ]; exact h))
          have hLk0_3_1 : (rMany (decV 3 (decP [] v false) false false) k0_3_1 (rArr false x0_3_0.2).2).2.s.length ≤ BR := Nat.le_trans (rMany_shr (fun r => decV_shr (fun r => decP_shr _ _ _ r) r) _ _) hm0_3_1
          obtain ⟨y0_3_1, hy0_3_1⟩ : ∃ x, x = (decV 3 (decP [] v false) false false) (rMany (decV 3 (decP [] v false) false false) k0_3_1 (rArr false x0_3_0.2).2).2 := ⟨_, rfl⟩
          refine skt ?_
          refine sq ?_
          refine bl ?_
          refine sr ?_
          refine tf (.tail .head) ?_
          refine cl rfl rfl rfl (d3 hR_0_3_1 hy0_3_1) rfl (fun v_ H1 L1 hle_ hR_ => ?_)
          obtain ⟨N154, rfl, hR154, rfl, rfl⟩ := hR_
          refine asg rfl rfl ?_
          refine nl ?_
          refine rg ?_
          refine mv rfl rfl ?_
          refine mv rfl rfl ?_
          refine mv rfl rfl ?_
          refine ixk (j := k0_3_1) Tryz.runUnderlying148 Tryz.sizeOf21 rfl hga0_3_1 rfl rfl hkl0_3_1 rfl ?_
          refine stM (off := 0) Tryz.sizeOf21 rfl ho0_3_1 rfl rfl rfl (.tail .head) ?_
          refine nN ?_
          refine Nb ?_
          refine Nt ?_
          refine rg ?_
          refine mv rfl rfl ?_
          refine ad rfl rfl (c := ((k0_3_1 + 1 : Nat) : Int)) ((wrap32_le (by omega) (by omega)).trans (by omega)) rfl ?_
          refine asg rfl rfl ?_
          refine nN ?_
          have hfs0_3_1 := flatMap_snoc' fk es0_3_1 ((⟨([.int .i32 (IntKind.i32.wrap y0_3_1.1.n)] : List Value), rfl, all_one rfl⟩, ((decV 3 (decP [] v false) false false) (rMany (decV 3 (decP [] v false) false false) k0_3_1 (rArr false x0_3_0.2).2).2).1) : KE 1)
          have hrw0_3_1 := hbk0_3_1 ([.int .i32 (IntKind.i32.wrap y0_3_1.1.n)] : List Value) rfl
          refine tfN (.tail .head) ?_
          refine fun a_ w_ hA hw => ⟨hkl0_3_1, _, _, _, hA.sub ?_, le_11, hw, _, _, _, rfl, rfl, (by rw [rMany_succ, ← hy0_3_1]; exact hR154), (by rw [← hfs0_3_1]; exact hrw0_3_1), (dec_els he_0_3_1), (fun p hp => (mem_snoc hp).elim (fun h => RI32.mono _ _ _ _ ler (hg_0_3_1 p h)) (fun h => h ▸ (by show RI32 _ ((decV 3 (decP [] v false) false false) (rMany (decV 3 (decP [] v false) false false) k0_3_1 (rArr false x0_3_0.2).2).2).1 [.int .i32 (IntKind.i32.wrap y0_3_1.1.n)]; rw [← hy0_3_1]; rfl)))⟩
          exact (.of ⟨rfl, rfl, rfl, rfl, rfl, rfl, rfl, rfl, rfl, rfl, rfl, rfl, rfl, rfl, rfl, rfl, rfl, rfl, rfl, trivial⟩)
         ·
          have hkn_ : k0_3_1 = (lT x0_3_1.1).length := by omega
          subst hkn_
          have hw2_0_3_1 : Row 21 1 a0_3_1 (lT x0_3_1.1).length c0_3_1 (es0_3_1.flatMap fk) M0_3_1 := by have h := hw_0_3_1; rw [Nat.sub_self] at h; simpa [reps] using h
          refine frW hw2_0_3_1 .head (fun Hf0_3_1 hlf0_3_1 hfz0_3_1 => ?_)
          have hrs0_3_1 := RowsAt.row (R := RI32) hfz0_3_1 hs_0_3_1.symm hw2_0_3_1.le.1 (fun p hp => RI32.mono _ _ _ _ hlf0_3_1 (hg_0_3_1 p hp))
          rw [he_0_3_1] at hrs0_3_1
          have hf0_3_1 : ListAt Hf0_3_1 x0_3_1.1 1 RI32 a0_3_1 c0_3_1 := by rw [ex0_3_1]; exact listAt_of hrs0_3_1 hi0_3_1 (fun h => by have h1 := nul_le h; rw [show (lT x0_3_1.1).length = 0 by omega]; rfl)
          have hRx0_3_1 : RdAt Hf0_3_1 118 b_1 x0_3_1.2 RN0_3_1 := by rw [ex0_3_1]; exact (hR_0_3_1.mono hlf0_3_1)
          refine exX ?_
          refine XT ?_
          refine XT ?_
          refine Xb ?_
          refine Nt ?_
          refine sr ?_
          refine mv rfl rfl ?_
          refine asg rfl rfl ?_
          refine nl ?_
          refine rg ?_
          refine mv rfl rfl ?_
          refine mv rfl rfl ?_
          refine nc rfl rfl ?_
          refine fa F150_1 rfl rfl ?_
          refine stM (off := 1) Tryz.sizeOf148 rfl (by rw [ho0_3]) rfl rfl rfl (.tail .head) ?_
          refine nl ?_
          refine sr ?_
          refine mv rfl rfl ?_
          refine nl ?_
          refine cdF rfl (by omega) ?_
          refine skN ?_
          refine Nb ?_
          refine Nt ?_
          refine rg ?_
          refine mv rfl rfl ?_
          refine ad rfl rfl (c := ((k0_3 + 1 : Nat) : Int)) ((wrap32_le (by omega) (by omega)).trans (by omega)) rfl ?_
          refine asg rfl rfl ?_
          refine nN ?_
          obtain rfl : u0_3_ = ([], x0_3_1.2) := hu0_3_
          have hfs0_3 := flatMap_snoc' fk es0_3 ((⟨([.string ⟨x0_3_0.1.s.toArray⟩, .slice a0_3_1 (lT x0_3_1.1).length c0_3_1, .map none] : List Value), rfl, all_one rfl⟩, ((decV 10 (decP fs_sWriteTxnMarkersRequestMarkerTopic v false) false false) (rMany (decV 10 (decP fs_sWriteTxnMarkersRequestMarkerTopic v false) false false) k0_3 (rArr false x0_2.2).2).2).1) : KE 3)
          have hrw0_3 := hbk0_3 ([.string ⟨x0_3_0.1.s.toArray⟩, .slice a0_3_1 (lT x0_3_1.1).length c0_3_1, .map none] : List Value) rfl
          refine tfN (.tail .head) ?_
          refine fun a_ w_ hA hw => ⟨hkl0_3, _, _, _, hA.sub ?_, (le_8.trans (le_10.trans (le_11.trans hlf0_3_1))), hw, _, _, _, rfl, rfl, (by rw [rMany_succ]; show RdAt _ 118 b_1 (decP fs_sWriteTxnMarkersRequestMarkerTopic v false (rMany (decV 10 (decP fs_sWriteTxnMarkersRequestMarkerTopic v false) false false) k0_3 (rArr false x0_2.2).2).2).2 _; rw [hD0_3_]; exact hRx0_3_1), (by rw [← hfs0_3]; exact hrw0_3), (dec_els he_0_3), (fun p hp => (mem_snoc hp).elim (fun h => At_WriteTxnMarkersRequestMarkerTopic.mono _ _ _ _ (le_10.trans (le_11.trans hlf0_3_1)) (hg_0_3 p h)) (fun h => h ▸ (by show At_WriteTxnMarkersRequestMarkerTopic _ (decP fs_sWriteTxnMarkersRequestMarkerTopic v false (rMany (decV 10 (decP fs_sWriteTxnMarkersRequestMarkerTopic v false) false false) k0_3 (rArr false x0_2.2).2).2).1 [.string ⟨x0_3_0.1.s.toArray⟩, .slice a0_3_1 (lT x0_3_1.1).length c0_3_1, .map none]; rw [hD0_3_]; exact ⟨a0_3_1, c0_3_1, none, rfl, hf0_3_1, (KvAt.nil _)⟩)))⟩
          exact (.of ⟨rfl, rfl, rfl, rfl, rfl, rfl, rfl, rfl, rfl, rfl, rfl, rfl, rfl, rfl, trivial⟩)
      ·
       have hkn_ : k0_3 = (lT x0_3.1).length := by omega
       subst hkn_
       have hw2_0_3 : Row 150 3 a0_3 (lT x0_3.1).length c0_3 (es0_3.flatMap fk) M0_3 := by have h := hw_0_3; rw [Nat.sub_self] at h; simpa [reps] using h
       refine frW hw2_0_3 .head (fun Hf0_3 hlf0_3 hfz0_3 => ?_)
       have hrs0_3 := RowsAt.row (R := At_WriteTxnMarkersRequestMarkerTopic) hfz0_3 hs_0_3.symm hw2_0_3.le.1 (fun p hp => At_WriteTxnMarkersRequestMarkerTopic.mono _ _ _ _ hlf0_3 (hg_0_3 p hp))
       rw [he_0_3] at hrs0_3
       have hf0_3 : ListAt Hf0_3 x0_3.1 3 At_WriteTxnMarkersRequestMarkerTopic a0_3 c0_3 := by rw [ex0_3]; exact listAt_of hrs0_3 hi0_3 (fun h => by have h1 := nul_le h; rw [show (lT x0_3.1).length = 0 by omega]; rfl)
       have hRx0_3 : RdAt Hf0_3 118 b_1 x0_3.2 RN0_3 := by rw [ex0_3]; exact (hR_0_3.mono hlf0_3)
       refine exX ?_
       refine XT ?_
       refine XT ?_
       refine Xb ?_
       refine Nt ?_
       refine sr ?_
       refine mv rfl rfl ?_
       refine asg rfl rfl ?_
       refine nl ?_
       refine rg ?_
       refine mv rfl rfl ?_
       refine mv rfl rfl ?_
       refine nc rfl rfl ?_
       refine fa F145_3 rfl rfl ?_
       refine stM (off := 3) Tryz.sizeOf143 rfl (by rw [ho0]) rfl rfl rfl (.tail .head) ?_
       refine nl ?_
       refine sq ?_
       refine sr ?_
       have ex0_4 : x0_4 = decV 3 (decP [] v false) false false x0_3.2 := (hx0_4.trans (step_yes (by decide) (show (0 : Int) ≤ v by omega) (Or.inl (by decide)))).trans (decF'_val (by decide) (rfl))
       refine cl rfl rfl rfl (d3 hRx0_3 ex0_4) rfl (fun v_ H1 L1 hle_ hR_ => ?_)
       obtain ⟨N174, rfl, hR174, rfl, rfl⟩ := hR_
       refine asg rfl rfl ?_
       refine nl ?_
       refine rg ?_
       refine mv rfl rfl ?_
       refine mv rfl rfl ?_
       refine nc rfl rfl ?_
       refine fa F145_4 rfl rfl ?_
       refine stM (off := 4) Tryz.sizeOf21 rfl (by rw [ho0]) rfl rfl rfl (.tail .head) ?_
       refine nl ?_
       refine sq ?_
       refine sr ?_
       refine mv rfl rfl ?_
       refine ge rfl rfl rfl ?_
       refine nl ?_
       refine cdF rfl (by omega) ?_
       refine skt ?_
       refine sr ?_
       refine mv rfl rfl ?_
       refine nl ?_
       refine cdF rfl (by omega) ?_
       refine skN ?_
       refine Nb ?_
       refine Nt ?_
       refine rg ?_
       refine mv rfl rfl ?_
       refine ad rfl rfl (c := ((k0 + 1 : Nat) : Int)) ((wrap32_le (by omega) (by omega)).trans (by omega)) rfl ?_
       refine asg rfl rfl ?_
       refine nN ?_
       obtain rfl : x0_5 = ((Tr.mk 0 [] false [] []), x0_4.2) := (hx0_5.trans (step_no (Or.inl (show v < (2 : Int) by omega)))).trans (by rw [dflF_eq]; rfl)
       obtain rfl : u0_ = ([], x0_4.2) := hu0_
       have hfs0 := flatMap_snoc' fk es0 ((⟨([.int .i64 x0_0.1.n, .int .i16 (IntKind.i16.wrap x0_1.1.n), .bool (decide (x0_2.1.n % 2 = 1)), .slice a0_3 (lT x0_3.1).length c0_3, .int .i32 (IntKind.i32.wrap x0_4.1.n), .int .i8 0, .map none] : List Value), rfl, all_one rfl⟩, ((decV 10 (decP fs_sWriteTxnMarkersRequestMarker v false) false false) (rMany (decV 10 (decP fs_sWriteTxnMarkersRequestMarker v false) false false) k0 (rArr false ⟨s, false, !a.isNone⟩).2).2).1) : KE 7)
       have hrw0 := hbk0 ([.int .i64 x0_0.1.n, .int .i16 (IntKind.i16.wrap x0_1.1.n), .bool (decide (x0_2.1.n % 2 = 1)), .slice a0_3 (lT x0_3.1).length c0_3, .int .i32 (IntKind.i32.wrap x0_4.1.n), .int .i8 0, .map none] : List Value) rfl
       refine tfN (.tail .head) ?_
       refine fun a_ w_ hA hw => ⟨hkl0, _, _, _, hA.sub ?_, (le_3.trans (le_7.trans (le_8.trans hlf0_3))), hw, _, _, _, rfl, rfl, (by rw [rMany_succ]; show RdAt _ 118 b_1 (decP fs_sWriteTxnMarkersRequestMarker v false (rMany (decV 10 (decP fs_sWriteTxnMarkersRequestMarker v false) false false) k0 (rArr false ⟨s, false, !a.isNone⟩).2).2).2 _; rw [hD0_]; exact hR174), (by rw [← hfs0]; exact hrw0), (dec_els he_0), (fun p hp => (mem_snoc hp).elim (fun h => At_WriteTxnMarkersRequestMarker.mono _ _ _ _ (le_7.trans (le_8.trans hlf0_3)) (hg_0 p h)) (fun h => h ▸ (by show At_WriteTxnMarkersRequestMarker _ (decP fs_sWriteTxnMarkersRequestMarker v false (rMany (decV 10 (decP fs_sWriteTxnMarkersRequestMarker v false) false false) k0 (rArr false ⟨s, false, !a.isNone⟩).2).2).1 [.int .i64 x0_0.1.n, .int .i16 (IntKind.i16.wrap x0_1.1.n), .bool (decide (x0_2.1.n % 2 = 1)), .slice a0_3 (lT x0_3.1).length c0_3, .int .i32 (IntKind.i32.wrap x0_4.1.n), .int .i8 0, .map none]; rw [hD0_]; exact ⟨a0_3, c0_3, none, rfl, hf0_3, (KvAt.nil _)⟩)))⟩
       exact (.of ⟨rfl, rfl, rfl, rfl, rfl, rfl, rfl, rfl, rfl, trivial⟩)
   ·
    have hkn_ : k0 = (lT x0.1).length := by omega
    subst hkn_
    have hw2_0 : Row 145 7 a0 (lT x0.1).length c0 (es0.flatMap fk) M0 := by have h := hw_0; rw [Nat.sub_self] at h; simpa [reps] using h
    refine frW hw2_0 .head (fun Hf0 hlf0 hfz0 => ?_)
    have hrs0 := RowsAt.row (R := At_WriteTxnMarkersRequestMarker) hfz0 hs_0.symm hw2_0.le.1 (fun p hp => At_WriteTxnMarkersRequestMarker.mono _ _ _ _ hlf0 (hg_0 p hp))
    rw [he_0] at hrs0
    have hf0 : ListAt Hf0 x0.1 7 At_WriteTxnMarkersRequestMarker a0 c0 := by rw [ex0]; exact listAt_of hrs0 hi0 (fun h => by have h1 := nul_le h; rw [show (lT x0.1).length = 0 by omega]; rfl)
    have hRx0 : RdAt Hf0 118 b_1 x0.2 RN0 := by rw [ex0]; exact (hR_0.mono hlf0)
    refine exX ?_
    refine XT ?_
    refine XT ?_
    refine Xb ?_
    refine Nt ?_
    refine sr ?_
    refine mv rfl rfl ?_
    refine asg rfl rfl ?_
    refine nl ?_
    refine rg ?_
    refine mv rfl rfl ?_
    refine mv rfl rfl ?_
    refine nc rfl rfl ?_
    refine fa0 F97_1 rfl rfl ?_
    refine st Tryz.sizeOf95 rfl rfl rfl rfl (.tail .head) ?_
    refine nl ?_
    refine sq ?_
    refine sr ?_
    refine mv rfl rfl ?_
    refine nl ?_
    refine cdF rfl (by omega) ?_
    refine skt ?_
    refine sr ?_
    refine cl rfl rfl rfl (r_complete hRx0 (he.mono (le_2.trans (le_3.trans hlf0)))) rfl (fun v_ H1 L1 hle_ hR_ => ?_)
    obtain ⟨rfl, rfl, rfl⟩ := hR_
    refine asg rfl rfl ?_
    refine nl ?_
    refine drW .head ?_
    obtain rfl : u = ([], x0.2) := hu
    have hA_ := (show At_WriteTxnMarkersRequest v _ (decP fs_WriteTxnMarkersRequest v false _).1 [.int .i16 v, .slice a0 (lT x0.1).length c0, .map none] from (by rw [hD]; exact ⟨a0, c0, none, rfl, hf0, (KvAt.nil _)⟩))
    refine rT rfl rfl (le_2.trans (le_3.trans hlf0)) (fun _ _ h => h) ⟨_, rfl, ?_⟩
    have hz := RdEnd.of (e := e) hA_
    rw [show (decP fs_WriteTxnMarkersRequest v false _).2.bad = x0.2.bad by rw [hD]] at hz
    exact hz
theorem rd_WriteTxnMarkersRequest_t {H : Fz} {L : Own} {b : Nat} {v : Int} {a : Option Addr} {c : Nat} {s : List UInt8} {e : Value} (hB : BytesAt H a c s) (hL_ : s.length ≤ BR) (he : H.at 0 0 [e]) (hv0 : 1 ≤ v) (hv1 : v ≤ 2) :
  Fn Tryz.prog 76 [.pointer (some ⟨b, 0, none⟩), .slice a s.length c, .bool false] H ([(b, .cells [.int .i16 v, .slice none 0 0, .map none].toArray 97 (0, 0))] :: L) (fun r H' L' => ∃ cs : List Value, L' = [(b, .cells cs.toArray 97 (0, 0))] :: L ∧ RdEnd H' (At_WriteTxnMarkersRequest v) (decP fs_WriteTxnMarkersRequest v true ⟨s, false, !a.isNone⟩) e r cs) := by
 refine Fn.mk Tryz.call76 Tryz.func76 rfl Tryz.ntmps76 rfl ?_
 refine sr ?_
 refine asg rfl rfl ?_
 refine nl ?_
 refine sr ?_
 refine mv rfl rfl ?_
 refine cl rfl rfl rfl def0_WriteTxnMarkersRequest rfl (fun v_ H1 L1 hle_ hR_ => ?_)
 obtain ⟨rfl, rfl⟩ := hR_
 refine nl ?_
 refine sr ?_
 refine mv rfl rfl ?_
 refine bd' S118 rfl rfl rfl ?_
 refine al Tryz.zeroValue118 rfl rfl (fun b_1 => ?_)
 refine sa Tryz.sizeOf118 rfl rfl rfl rfl rfl .head ?_
 have hR0_ : RdAt H 118 b_1 ⟨s, false, !a.isNone⟩ [(b_1, .cells [_, _].toArray 118 (0, 0))] := ⟨a, c, rfl, hB, by simp⟩
 obtain ⟨x0, hx0⟩ : ∃ x, x = stepF (Fd.mk 11 0 (-1) (-1) (-1) 0 10 fs_sWriteTxnMarkersRequestMarker) v true ⟨s, false, !a.isNone⟩ := ⟨_, rfl⟩
 obtain ⟨u, hu⟩ : ∃ x, x = tailU true x0.2 := ⟨_, rfl⟩
 have hD : decP fs_WriteTxnMarkersRequest v true ⟨s, false, !a.isNone⟩ = (.mk 0 [] false [x0.1] u.1, u.2) := by
  generalize (⟨s, false, !a.isNone⟩ : Rd) = r_ at hx0 ⊢
  rw [decP_eq]; unfold fs_WriteTxnMarkersRequest; simp only [decFs_cons, decFs_nil, ← hx0, ← hu]
 have hL0 : x0.2.s.length ≤ BR := by rw [hx0]; exact Nat.le_trans (stepF_shr _ _ _ _) hL_
 have hE : u.2.bad = true → (decP fs_WriteTxnMarkersRequest v true ⟨s, false, !a.isNone⟩).2.bad = true := fun h => by rw [hD]; exact h
 have hB0 : x0.2.bad = true → (decP fs_WriteTxnMarkersRequest v true ⟨s, false, !a.isNone⟩).2.bad = true := fun h => hE (by rw [hu]; exact tailU_bad h)
 refine nl ?_
 refine sr ?_
 refine mv rfl rfl ?_
 refine nc rfl rfl ?_
 refine fa0 F97_0 rfl rfl ?_
 refine ld (Says.own (.tail .head)) Tryz.isAgg45 rfl (Nat.zero_add _).symm rfl rfl ?_
 refine asg rfl rfl ?_
 refine nl ?_
 refine sr ?_
 refine mv rfl rfl ?_
 refine nl ?_
 refine sr ?_
 refine mv rfl rfl ?_
 refine ge rfl rfl rfl ?_
 refine asg rfl rfl ?_
 refine nl ?_
 refine sr ?_
 refine mv rfl rfl ?_
 refine nl ?_
 refine sr ?_
 refine mv rfl rfl ?_
 refine asg rfl rfl ?_
 refine nl ?_
 refine sq ?_
 refine sr ?_
 refine mv rfl rfl ?_
 refine nc rfl rfl ?_
 refine fa0 F97_1 rfl rfl ?_
 refine ld (Says.own (.tail .head)) Tryz.isAgg95 rfl (Nat.zero_add _).symm rfl rfl ?_
 refine asg rfl rfl ?_
 refine nl ?_
 refine sr ?_
 refine mv rfl rfl ?_
 refine asg rfl rfl ?_
 refine nl ?_
 refine sr ?_
 refine asg rfl rfl ?_
 refine nl ?_
 refine sq ?_
 refine sr ?_
 refine mv rfl rfl ?_
 refine nl ?_
 refine cdT rfl (by omega) ?_
 refine rg ?_
 have ey0 : x0 = (.mk 0 [] (if 0 ≤ ((-1) : Int) ∧ (v < ((-1) : Int) ∨ (rArr true ⟨s, false, !a.isNone⟩).1 = 0) then false else decide ((rArr true ⟨s, false, !a.isNone⟩).1 ≤ 0)) (rMany (decV 10 (decP fs_sWriteTxnMarkersRequestMarker v true) false true) (rArr true ⟨s, false, !a.isNone⟩).1.toNat (rArr true ⟨s, false, !a.isNone⟩).2).1 [], (rMany (decV 10 (decP fs_sWriteTxnMarkersRequestMarker v true) false true) (rArr true ⟨s, false, !a.isNone⟩).1.toNat (rArr true ⟨s, false, !a.isNone⟩).2).2) := (hx0.trans (step_yes (by decide) (show (0 : Int) ≤ v by omega) (Or.inl (by decide)))).trans (decF'_list rfl rfl)
 have hn0 : (rArr true ⟨s, false, !a.isNone⟩).1.toNat = (lT x0.1).length := by rw [ey0]; exact (lT_many nul_le).symm
 have ex0 := ey0
 rw [hn0] at ex0
 have hl0 := rArr_le true ⟨s, false, !a.isNone⟩
 have hm0 : (rArr true ⟨s, false, !a.isNone⟩).2.s.length ≤ BR := Nat.le_trans (rArr_len true ⟨s, false, !a.isNone⟩) hL_
 have hnb0 : (lT x0.1).length ≤ BR := by omega
 refine cl rfl rfl rfl (r_arrt hR0_) rfl (fun v_ H1 L1 hle_ hR_ => ?_)
 obtain ⟨rfl, N53, rfl, hR53, rfl⟩ := hR_
 have hh0 := rArr_hi true ⟨s, false, !a.isNone⟩
 refine asg rfl rfl ?_
 refine nl ?_
 refine sq ?_
 refine sr ?_
 refine cl rfl rfl rfl (r_ok hR53) rfl (fun v_ H1 L1 hle_ hR_ => ?_)
 obtain ⟨rfl, rfl, rfl⟩ := hR_
 refine nt rfl rfl ?_
 refine nl ?_
 refine cb rfl (fun h56 => ?_) (fun h56 => ?_)
 ·
  have hbad_ : (rArr true ⟨s, false, !a.isNone⟩).2.bad = true := by simpa using h56
  refine sr ?_
  refine cl rfl rfl rfl (r_complete hR53 he) rfl (fun v_ H1 L1 hle_ hR_ => ?_)
  obtain ⟨rfl, rfl, rfl⟩ := hR_
  refine asg rfl rfl ?_
  refine nl ?_
  refine drW .head ?_
  exact rT rfl rfl ler (fun _ _ h => h) ⟨_, rfl, RdEnd.out (hB0 (by rw [ey0]; exact rMany_bad (fun r h => decV_bad (decP_bad _ _ _) h) _ _ hbad_)) hbad_⟩
 ·
  refine skt ?_
  refine sr ?_
  refine mv rfl rfl ?_
  refine sh' (j := 0) Tryz.runUnderlying95 Tryz.sizeOf145 rfl rfl rfl (Nat.zero_le _) rfl ?_
  refine asg rfl rfl ?_
  refine nl ?_
  refine sq ?_
  refine sr ?_
  refine mv rfl rfl ?_
  refine gt rfl rfl rfl ?_
  refine nl ?_
  refine nulC2 ?_
  refine cutT (fun l' H' L' => ∃ (a0 : Option Addr), ∃ (c0 : Nat), ∃ (Nr0 : Chunk), [(2, .bool false), (7, .pointer (some ⟨b_1, 0, none⟩)), (8, .int .i16 v), (9, .bool (decide ((1 : Int) ≤ v))), (10, .pointer (some ⟨b, 0, none⟩)), (11, .slice none 0 0), (12, .slice a0 (lT x0.1).length c0), (13, .int .i32 (rArr true ⟨s, false, !a.isNone⟩).1)] = l' ∧ Nr0 :: N53 :: [(b, .cells [.int .i16 v, .slice none 0 0, .map none].toArray 97 (0, 0))] :: L = L' ∧ Row 145 7 a0 (lT x0.1).length c0 (reps [.int .i64 0, .int .i16 0, .bool false, .slice none 0 0, .int .i32 0, .int .i8 0, .map none] (lT x0.1).length) Nr0 ∧ a0.isNone = (if 0 ≤ ((-1) : Int) ∧ (v < ((-1) : Int) ∨ (rArr true ⟨s, false, !a.isNone⟩).1 = 0) then false else decide ((rArr true ⟨s, false, !a.isNone⟩).1 ≤ 0))) ?_ (fun l' H' L' le_2 hI => ?_)
  ·
   refine cd rfl (fun h61 => ?_) (fun h61 => ?_)
   ·
    refine rg ?_
    refine mv rfl rfl ?_
    refine mv rfl rfl ?_
    refine apz (zs := [.int .i64 0, .int .i16 0, .bool false, .slice none 0 0, .int .i32 0, .int .i8 0, .map none]) (m := (lT x0.1).length) Tryz.underlying95 Tryz.underlying21 I145 rfl rfl rfl (by omega) (by omega) (by have h9 := hnb0; unfold BR at h9; omega) (by have h9 := hnb0; unfold BR at h9; unfold maxLen; omega) rfl (fun g64 cp64 N64 r64 => ?_)
    refine asg rfl rfl ?_
    refine nN ?_
    refine drN (.tail .head) ?_
    refine fun a_ w_ hA hw => ⟨_, _, _, hA.sub ?_, ler, hw, (some ⟨g64, 0, none⟩), cp64, N64, rfl, rfl, r64, (by rw [if_neg (by omega)]; exact (decide_eq_false (by omega)).symm)⟩
    exact (.cons rfl (.cons rfl (.cons rfl (.cons rfl (.cons rfl (.cons rfl (.cons rfl (.cons rfl (.nil _)))))))))
   ·
    refine skN ?_
    refine fun a_ w_ hA hw => ⟨_, _, _, hA.sub ?_, ler, hw, none, 0, [], rfl, rfl, (by rw [show (lT x0.1).length = 0 by omega]; exact (Row.nil _ _)), (by rw [if_neg (by omega)]; exact (decide_eq_true (by omega)).symm)⟩
    exact (.cons rfl (.cons rfl (.cons rfl (.cons rfl (.cons rfl (.cons rfl (.cons (by rw [show (lT x0.1).length = 0 by omega]; rfl) (.cons rfl (.nil _)))))))))
  ·
   obtain ⟨a0, c0, Nr0, rfl, rfl, pj0, pj1⟩ := hI
   have hr0 := pj0
   have hi0 := pj1
   refine sq ?_
   refine sr ?_
   refine asg rfl rfl ?_
   refine nl ?_
   refine bl (lp ((lT x0.1).length) (fun k0 l' H' L' => ∃ (es0 : List (KE 7)) (M0 RN0 : Chunk), [(2, .bool false), (7, .pointer (some ⟨b_1, 0, none⟩)), (8, .int .i16 v), (9, .bool (decide ((1 : Int) ≤ v))), (10, .pointer (some ⟨b, 0, none⟩)), (11, .slice none 0 0), (12, .slice a0 (lT x0.1).length c0), (13, .int .i32 (rArr true ⟨s, false, !a.isNone⟩).1), (14, .int .i32 (k0 : Int))] = l' ∧ M0 :: RN0 :: [(b, .cells [.int .i16 v, .slice none 0 0, .map none].toArray 97 (0, 0))] :: L = L' ∧ RdAt H' 118 b_1 (rMany (decV 10 (decP fs_sWriteTxnMarkersRequestMarker v true) false true) k0 (rArr true ⟨s, false, !a.isNone⟩).2).2 RN0 ∧ Row 145 7 a0 (lT x0.1).length c0 (es0.flatMap fk ++ reps [.int .i64 0, .int .i16 0, .bool false, .slice none 0 0, .int .i32 0, .int .i8 0, .map none] ((lT x0.1).length - k0)) M0 ∧ es0.map (·.2) = (rMany (decV 10 (decP fs_sWriteTxnMarkersRequestMarker v true) false true) k0 (rArr true ⟨s, false, !a.isNone⟩).2).1 ∧ ∀ p ∈ es0, At_WriteTxnMarkersRequestMarker H' p.2 (fk p)) [(2, .bool false), (7, .pointer (some ⟨b_1, 0, none⟩)), (8, .int .i16 v), (9, .bool (decide ((1 : Int) ≤ v))), (10, .pointer (some ⟨b, 0, none⟩)), (11, .slice none 0 0), (12, .slice a0 (lT x0.1).length c0), (13, .int .i32 (rArr true ⟨s, false, !a.isNone⟩).1), (14, .int .i32 (0 : Int))] (.of ⟨rfl, rfl, rfl, rfl, rfl, rfl, rfl, rfl, rfl, trivial⟩) ⟨[], Nr0, _, rfl, rfl, (hR53.mono le_2), hr0, rfl, (fun p hp => by cases hp)⟩ (fun k0 l' H' L' hk0 le_3 hI => ?_))
   obtain ⟨es0, M0, RN0, rfl, rfl, hR_0, hw_0, he_0, hg_0⟩ := hI
   have hs_0 := els_len he_0
   have hp_0 : (es0.flatMap fk).length = k0 * 7 := els_flat hs_0
   refine sq ?_
   refine sr ?_
   refine mv rfl rfl ?_
   refine mv rfl rfl ?_
   refine lt rfl rfl rfl ?_
   refine nl ?_
   refine cd rfl (fun h67 => ?_) (fun h67 => ?_)
   ·
    have hkl0 : k0 < (lT x0.1).length := by omega
    obtain ⟨g0, po0, hga0, rfl, hbk0⟩ := hw_0.next (zs := [.int .i64 0, .int .i16 0, .bool false, .slice none 0 0, .int .i32 0, .int .i8 0, .map none]) hkl0 rfl (by decide)
    have ho0 : 0 + k0 * 7 = (es0.flatMap fk).length := by rw [hp_0]; omega
    have hbz0 : ((decV 10 (decP fs_sWriteTxnMarkersRequestMarker v true) false true) (rMany (decV 10 (decP fs_sWriteTxnMarkersRequestMarker v true) false true) k0 (rArr true ⟨s, false, !a.isNone⟩).2).2).2.bad = true → (decP fs_WriteTxnMarkersRequest v true ⟨s, false, !a.isNone⟩).2.bad = true := fun h => hB0 (by rw [ex0]; exact rMany_mono (fun r h => decV_bad (fun r h => decP_bad _ _ _ r h) h) _ (show k0 + 1 ≤ (lT x0.1).length from hkl0) (by rw [rMany_succ]; exact h))
    have hLk0 : (rMany (decV 10 (decP fs_sWriteTxnMarkersRequestMarker v true) false true) k0 (rArr true ⟨s, false, !a.isNone⟩).2).2.s.length ≤ BR := Nat.le_trans (rMany_shr (fun r => decV_shr (fun r => decP_shr _ _ _ r) r) _ _) hm0
    have hL0__ := hLk0
    obtain ⟨x0_0, hx0_0⟩ : ∃ x, x = stepF (Fd.mk 4 0 (-1) (-1) (-1) 0 0 []) v true (rMany (decV 10 (decP fs_sWriteTxnMarkersRequestMarker v true) false true) k0 (rArr true ⟨s, false, !a.isNone⟩).2).2 := ⟨_, rfl⟩
    obtain ⟨x0_1, hx0_1⟩ : ∃ x, x = stepF (Fd.mk 2 0 (-1) (-1) (-1) 0 0 []) v true x0_0.2 := ⟨_, rfl⟩
    obtain ⟨x0_2, hx0_2⟩ : ∃ x, x = stepF (Fd.mk 0 0 (-1) (-1) (-1) 0 0 []) v true x0_1.2 := ⟨_, rfl⟩
    obtain ⟨x0_3, hx0_3⟩ : ∃ x, x = stepF (Fd.mk 11 0 (-1) (-1) (-1) 0 10 fs_sWriteTxnMarkersRequestMarkerTopic) v true x0_2.2 := ⟨_, rfl⟩
    obtain ⟨x0_4, hx0_4⟩ : ∃ x, x = stepF (Fd.mk 3 0 (-1) (-1) (-1) 0 0 []) v true x0_3.2 := ⟨_, rfl⟩
    obtain ⟨x0_5, hx0_5⟩ : ∃ x, x = stepF (Fd.mk 1 2 (-1) (-1) (-1) 0 0 []) v true x0_4.2 := ⟨_, rfl⟩
    obtain ⟨u0_, hu0_⟩ : ∃ x, x = tailU true x0_5.2 := ⟨_, rfl⟩
    have hD0_ : decP fs_sWriteTxnMarkersRequestMarker v true (rMany (decV 10 (decP fs_sWriteTxnMarkersRequestMarker v true) false true) k0 (rArr true ⟨s, false, !a.isNone⟩).2).2 = (.mk 0 [] false [x0_0.1, x0_1.1, x0_2.1, x0_3.1, x0_4.1, x0_5.1] u0_.1, u0_.2) := by
     generalize ((rMany (decV 10 (decP fs_sWriteTxnMarkersRequestMarker v true) false true) k0 (rArr true ⟨s, false, !a.isNone⟩).2).2 : Rd) = r_ at hx0_0 ⊢
     rw [decP_eq]; unfold fs_sWriteTxnMarkersRequestMarker; simp only [decFs_cons, decFs_nil, ← hx0_0, ← hx0_1, ← hx0_2, ← hx0_3, ← hx0_4, ← hx0_5, ← hu0_]
    have hL0_0 : x0_0.2.s.length ≤ BR := by rw [hx0_0]; exact Nat.le_trans (stepF_shr _ _ _ _) hL0__
    have hL0_1 : x0_1.2.s.length ≤ BR := by rw [hx0_1]; exact Nat.le_trans (stepF_shr _ _ _ _) hL0_0
    have hL0_2 : x0_2.2.s.length ≤ BR := by rw [hx0_2]; exact Nat.le_trans (stepF_shr _ _ _ _) hL0_1
    have hL0_3 : x0_3.2.s.length ≤ BR := by rw [hx0_3]; exact Nat.le_trans (stepF_shr _ _ _ _) hL0_2
    have hL0_4 : x0_4.2.s.length ≤ BR := by rw [hx0_4]; exact Nat.le_trans (stepF_shr _ _ _ _) hL0_3
    have hL0_5 : x0_5.2.s.length ≤ BR := by rw [hx0_5]; exact Nat.le_trans (stepF_shr _ _ _ _) hL0_4
    have hE0_ : u0_.2.bad = true → (decP fs_WriteTxnMarkersRequest v true ⟨s, false, !a.isNone⟩).2.bad = true := fun h => hbz0 (by show (decP fs_sWriteTxnMarkersRequestMarker v true (rMany (decV 10 (decP fs_sWriteTxnMarkersRequestMarker v true) false true) k0 (rArr true ⟨s, false, !a.isNone⟩).2).2).2.bad = true; rw [hD0_]; exact h)
    have hB0_5 : x0_5.2.bad = true → (decP fs_WriteTxnMarkersRequest v true ⟨s, false, !a.isNone⟩).2.bad = true := fun h => hE0_ (by rw [hu0_]; exact tailU_bad h)
    have hB0_4 : x0_4.2.bad = true → (decP fs_WriteTxnMarkersRequest v true ⟨s, false, !a.isNone⟩).2.bad = true := fun h => hB0_5 (by rw [hx0_5]; exact step_bad h)
    have hB0_3 : x0_3.2.bad = true → (decP fs_WriteTxnMarkersRequest v true ⟨s, false, !a.isNone⟩).2.bad = true := fun h => hB0_4 (by rw [hx0_4]; exact step_bad h)
    have hB0_2 : x0_2.2.bad = true → (decP fs_WriteTxnMarkersRequest v true ⟨s, false, !a.isNone⟩).2.bad = true := fun h => hB0_3 (by rw [hx0_3]; exact step_bad h)
    have hB0_1 : x0_1.2.bad = true → (decP fs_WriteTxnMarkersRequest v true ⟨s, false, !a.isNone⟩).2.bad = true := fun h => hB0_2 (by rw [hx0_2]; exact step_bad h)
    have hB0_0 : x0_0.2.bad = true → (decP fs_WriteTxnMarkersRequest v true ⟨s, false, !a.isNone⟩).2.bad = true := fun h => hB0_1 (by rw [hx0_1]; exact step_bad h)
    refine skt ?_
    refine sq ?_
    refine bl ?_
    refine sr ?_
    refine mv rfl rfl ?_
    refine mv rfl rfl ?_
    refine ixk (j := k0) Tryz.runUnderlying95 Tryz.sizeOf145 rfl hga0 rfl rfl hkl0 rfl ?_
    refine asg rfl rfl ?_
    refine nl ?_
    refine sr ?_
    refine mv rfl rfl ?_
    refine cl rfl rfl rfl (def_WriteTxnMarkersRequestMarker ho0) rfl (fun v_ H1 L1 hle_ hR_ => ?_)
    obtain ⟨rfl, rfl⟩ := hR_
    refine nl ?_
    refine sr ?_
    refine mv rfl rfl ?_
    refine asg rfl rfl ?_
    refine nl ?_
    refine sq ?_
    refine sr ?_
    refine tf (.tail .head) ?_
    have ex0_0 : x0_0 = decV 4 (decP [] v true) false true (rMany (decV 10 (decP fs_sWriteTxnMarkersRequestMarker v true) false true) k0 (rArr true ⟨s, false, !a.isNone⟩).2).2 := (hx0_0.trans (step_yes (by decide) (show (0 : Int) ≤ v by omega) (Or.inl (by decide)))).trans (decF'_val (by decide) (rfl))
    refine cl rfl rfl rfl (d4 hR_0 ex0_0) rfl (fun v_ H1 L1 hle_ hR_ => ?_)
    obtain ⟨N76, rfl, hR76, rfl, rfl⟩ := hR_
    refine asg rfl rfl ?_
    refine nl ?_
    refine rg ?_
    refine mv rfl rfl ?_
    refine mv rfl rfl ?_
    refine nc rfl rfl ?_
    refine fa F145_0 rfl rfl ?_
    refine stM (off := 0) Tryz.sizeOf2 rfl (by rw [ho0]) rfl rfl rfl (.tail .head) ?_
    refine nl ?_
    refine sq ?_
    refine sr ?_
    have ex0_1 : x0_1 = decV 2 (decP [] v true) false true x0_0.2 := (hx0_1.trans (step_yes (by decide) (show (0 : Int) ≤ v by omega) (Or.inl (by decide)))).trans (decF'_val (by decide) (rfl))
    refine cl rfl rfl rfl (d2 hR76 ex0_1) rfl (fun v_ H1 L1 hle_ hR_ => ?_)
    obtain ⟨N81, rfl, hR81, rfl, rfl⟩ := hR_
    refine asg rfl rfl ?_
    refine nl ?_
    refine rg ?_
    refine mv rfl rfl ?_
    refine mv rfl rfl ?_
    refine nc rfl rfl ?_
    refine fa F145_1 rfl rfl ?_
    refine stM (off := 1) Tryz.sizeOf45 rfl (by rw [ho0]) rfl rfl rfl (.tail .head) ?_
    refine nl ?_
    refine sq ?_
    refine sr ?_
    have ex0_2 : x0_2 = decV 0 (decP [] v true) false true x0_1.2 := (hx0_2.trans (step_yes (by decide) (show (0 : Int) ≤ v by omega) (Or.inl (by decide)))).trans (decF'_val (by decide) (rfl))
    refine cl rfl rfl rfl (d0 hR81 ex0_2) rfl (fun v_ H1 L1 hle_ hR_ => ?_)
    obtain ⟨N86, rfl, hR86, rfl, rfl⟩ := hR_
    refine asg rfl rfl ?_
    refine nl ?_
    refine rg ?_
    refine mv rfl rfl ?_
    refine mv rfl rfl ?_
    refine nc rfl rfl ?_
    refine fa F145_2 rfl rfl ?_
    refine stM (off := 2) Tryz.sizeOf4 rfl (by rw [ho0]) rfl rfl rfl (.tail .head) ?_
    refine nl ?_
    refine sq ?_
    refine sr ?_
    refine mv rfl rfl ?_
    refine nc rfl rfl ?_
    refine fa F145_3 rfl rfl ?_
    refine ld (j := 3) (off := 0 + k0 * 7) (Says.mid (.tail .head) ho0) Tryz.isAgg143 rfl rfl rfl rfl ?_
    refine asg rfl rfl ?_
    refine nl ?_
    refine sr ?_
    refine mv rfl rfl ?_
    refine asg rfl rfl ?_
    refine nl ?_
    refine sr ?_
    refine asg rfl rfl ?_
    refine nl ?_
    refine sq ?_
    refine sr ?_
    refine mv rfl rfl ?_
    refine nl ?_
    refine cdT rfl (by omega) ?_
    refine rg ?_
    have ey0_3 : x0_3 = (.mk 0 [] (if 0 ≤ ((-1) : Int) ∧ (v < ((-1) : Int) ∨ (rArr true x0_2.2).1 = 0) then false else decide ((rArr true x0_2.2).1 ≤ 0)) (rMany (decV 10 (decP fs_sWriteTxnMarkersRequestMarkerTopic v true) false true) (rArr true x0_2.2).1.toNat (rArr true x0_2.2).2).1 [], (rMany (decV 10 (decP fs_sWriteTxnMarkersRequestMarkerTopic v true) false true) (rArr true x0_2.2).1.toNat (rArr true x0_2.2).2).2) := (hx0_3.trans (step_yes (by decide) (show (0 : Int) ≤ v by omega) (Or.inl (by decide)))).trans (decF'_list rfl rfl)
    have hn0_3 : (rArr true x0_2.2).1.toNat = (lT x0_3.1).length := by rw [ey0_3]; exact (lT_many nul_le).symm
    have ex0_3 := ey0_3
    rw [hn0_3] at ex0_3
    have hl0_3 := rArr_le true x0_2.2
    have hm0_3 : (rArr true x0_2.2).2.s.length ≤ BR := Nat.le_trans (rArr_len true x0_2.2) hL0_2
    have hnb0_3 : (lT x0_3.1).length ≤ BR := by omega
    refine cl rfl rfl rfl (r_arrt hR86) rfl (fun v_ H1 L1 hle_ hR_ => ?_)
    obtain ⟨rfl, N97, rfl, hR97, rfl⟩ := hR_
    have hh0_3 := rArr_hi true x0_2.2
    refine asg rfl rfl ?_
    refine nl ?_
    refine sq ?_
    refine sr ?_
    refine cl rfl rfl rfl (r_ok hR97) rfl (fun v_ H1 L1 hle_ hR_ => ?_)
    obtain ⟨rfl, rfl, rfl⟩ := hR_
    refine nt rfl rfl ?_
    refine nl ?_
    refine cb rfl (fun h100 => ?_) (fun h100 => ?_)
    ·
     have hbad_ : (rArr true x0_2.2).2.bad = true := by simpa using h100
     refine sr ?_
     refine cl rfl rfl rfl (r_complete hR97 (he.mono (le_2.trans le_3))) rfl (fun v_ H1 L1 hle_ hR_ => ?_)
     obtain ⟨rfl, rfl, rfl⟩ := hR_
     refine asg rfl rfl ?_
     refine nl ?_
     refine drW .head ?_
     refine drW .head ?_
     exact rT rfl rfl (le_2.trans le_3) (fun _ _ h => h) ⟨_, rfl, RdEnd.out (hB0_3 (by rw [ey0_3]; exact rMany_bad (fun r h => decV_bad (decP_bad _ _ _) h) _ _ hbad_)) hbad_⟩
    ·
     refine skt ?_
     refine sr ?_
     refine mv rfl rfl ?_
     refine sh' (j := 0) Tryz.runUnderlying143 Tryz.sizeOf150 rfl rfl rfl (Nat.zero_le _) rfl ?_
     refine asg rfl rfl ?_
     refine nl ?_
     refine sq ?_
     refine sr ?_
     refine mv rfl rfl ?_
     refine gt rfl rfl rfl ?_
     refine nl ?_
     refine nulC2 ?_
     refine cutT (fun l' H' L' => ∃ (a0_3 : Option Addr), ∃ (c0_3 : Nat), ∃ (Nr0_3 : Chunk), [(2, .bool false), (7, .pointer (some ⟨b_1, 0, none⟩)), (8, .int .i16 v), (9, .bool (decide ((1 : Int) ≤ v))), (10, .pointer (some ⟨b, 0, none⟩)), (11, .slice none 0 0), (12, .slice a0 (lT x0.1).length c0), (13, .int .i32 (rArr true ⟨s, false, !a.isNone⟩).1), (14, .int .i32 (k0 : Int)), (16, .pointer (some ⟨g0, 0 + k0 * 7, none⟩)), (20, .slice none 0 0), (21, .slice a0_3 (lT x0_3.1).length c0_3), (22, .int .i32 (rArr true x0_2.2).1)] = l' ∧ Nr0_3 :: N97 :: [(g0, .cells ((es0.flatMap fk) ++ ([.int .i64 x0_0.1.n, .int .i16 (IntKind.i16.wrap x0_1.1.n), .bool (decide (x0_2.1.n % 2 = 1)), .slice none 0 0, .int .i32 0, .int .i8 0, .map none] : List Value) ++ po0).toArray 145 (0, 0))] :: [(b, .cells [.int .i16 v, .slice none 0 0, .map none].toArray 97 (0, 0))] :: L = L' ∧ Row 150 3 a0_3 (lT x0_3.1).length c0_3 (reps [.string ⟨#[]⟩, .slice none 0 0, .map none] (lT x0_3.1).length) Nr0_3 ∧ a0_3.isNone = (if 0 ≤ ((-1) : Int) ∧ (v < ((-1) : Int) ∨ (rArr true x0_2.2).1 = 0) then false else decide ((rArr true x0_2.2).1 ≤ 0))) ?_ (fun l' H' L' le_7 hI => ?_)
     ·
      refine cd rfl (fun h105 => ?_) (fun h105 => ?_)
      ·
       refine rg ?_
       refine mv rfl rfl ?_
       refine mv rfl rfl ?_
       refine apz (zs := [.string ⟨#[]⟩, .slice none 0 0, .map none]) (m := (lT x0_3.1).length) Tryz.underlying143 Tryz.underlying21 I150 rfl rfl rfl (by omega) (by omega) (by have h9 := hnb0_3; unfold BR at h9; omega) (by have h9 := hnb0_3; unfold BR at h9; unfold maxLen; omega) rfl (fun g108 cp108 N108 r108 => ?_)
       refine asg rfl rfl ?_
       refine nN ?_
       refine drN (.tail .head) ?_
       refine fun a_ w_ hA hw => ⟨_, _, _, hA.sub ?_, ler, hw, (some ⟨g108, 0, none⟩), cp108, N108, rfl, rfl, r108, (by rw [if_neg (by omega)]; exact (decide_eq_false (by omega)).symm)⟩
       exact (.cons rfl (.cons rfl (.cons rfl (.cons rfl (.cons rfl (.cons rfl (.cons rfl (.cons rfl (.cons rfl (.cons rfl (.cons rfl (.cons rfl (.cons rfl (.nil _))))))))))))))
      ·
       refine skN ?_
       refine fun a_ w_ hA hw => ⟨_, _, _, hA.sub ?_, ler, hw, none, 0, [], rfl, rfl, (by rw [show (lT x0_3.1).length = 0 by omega]; exact (Row.nil _ _)), (by rw [if_neg (by omega)]; exact (decide_eq_true (by omega)).symm)⟩
       exact (.cons rfl (.cons rfl (.cons rfl (.cons rfl (.cons rfl (.cons rfl (.cons rfl (.cons rfl (.cons rfl (.cons rfl (.cons rfl (.cons (by rw [show (lT x0_3.1).length = 0 by omega]; rfl) (.cons rfl (.nil _))))))))))))))
     ·
      obtain ⟨a0_3, c0_3, Nr0_3, rfl, rfl, pj0, pj1⟩ := hI
      have hr0_3 := pj0
      have hi0_3 := pj1
      refine sq ?_
      refine sr ?_
      refine asg rfl rfl ?_
      refine nl ?_
      refine bl (lp ((lT x0_3.1).length) (fun k0_3 l' H' L' => ∃ (es0_3 : List (KE 3)) (M0_3 RN0_3 : Chunk), [(2, .bool false), (7, .pointer (some ⟨b_1, 0, none⟩)), (8, .int .i16 v), (9, .bool (decide ((1 : Int) ≤ v))), (10, .pointer (some ⟨b, 0, none⟩)), (11, .slice none 0 0), (12, .slice a0 (lT x0.1).length c0), (13, .int .i32 (rArr true ⟨s, false, !a.isNone⟩).1), (14, .int .i32 (k0 : Int)), (16, .pointer (some ⟨g0, 0 + k0 * 7, none⟩)), (20, .slice none 0 0), (21, .slice a0_3 (lT x0_3.1).length c0_3), (22, .int .i32 (rArr true x0_2.2).1), (23, .int .i32 (k0_3 : Int))] = l' ∧ M0_3 :: RN0_3 :: [(g0, .cells ((es0.flatMap fk) ++ ([.int .i64 x0_0.1.n, .int .i16 (IntKind.i16.wrap x0_1.1.n), .bool (decide (x0_2.1.n % 2 = 1)), .slice none 0 0, .int .i32 0, .int .i8 0, .map none] : List Value) ++ po0).toArray 145 (0, 0))] :: [(b, .cells [.int .i16 v, .slice none 0 0, .map none].toArray 97 (0, 0))] :: L = L' ∧ RdAt H' 118 b_1 (rMany (decV 10 (decP fs_sWriteTxnMarkersRequestMarkerTopic v true) false true) k0_3 (rArr true x0_2.2).2).2 RN0_3 ∧ Row 150 3 a0_3 (lT x0_3.1).length c0_3 (es0_3.flatMap fk ++ reps [.string ⟨#[]⟩, .slice none 0 0, .map none] ((lT x0_3.1).length - k0_3)) M0_3 ∧ es0_3.map (·.2) = (rMany (decV 10 (decP fs_sWriteTxnMarkersRequestMarkerTopic v true) false true) k0_3 (rArr true x0_2.2).2).1 ∧ ∀ p ∈ es0_3, At_WriteTxnMarkersRequestMarkerTopic H' p.2 (fk p)) [(2, .bool false), (7, .pointer (some ⟨b_1, 0, none⟩)), (8, .int .i16 v), (9, .bool (decide ((1 : Int) ≤ v))), (10, .pointer (some ⟨b, 0, none⟩)), (11, .slice none 0 0), (12, .slice a0 (lT x0.1).length c0), (13, .int .i32 (rArr true ⟨s, false, !a.isNone⟩).1), (14, .int .i32 (k0 : Int)), (16, .pointer (some ⟨g0, 0 + k0 * 7, none⟩)), (20, .slice none 0 0), (21, .slice a0_3 (lT x0_3.1).length c0_3), (22, .int .i32 (rArr true x0_2.2).1), (23, .int .i32 (0 : Int))] (.of ⟨rfl, rfl, rfl, rfl, rfl, rfl, rfl, rfl, rfl, rfl, rfl, rfl, rfl, rfl, trivial⟩) ⟨[], Nr0_3, _, rfl, rfl, (hR97.mono le_7), hr0_3, rfl, (fun p hp => by cases hp)⟩ (fun k0_3 l' H' L' hk0_3 le_8 hI => ?_))
      obtain ⟨es0_3, M0_3, RN0_3, rfl, rfl, hR_0_3, hw_0_3, he_0_3, hg_0_3⟩ := hI
      have hs_0_3 := els_len he_0_3
      have hp_0_3 : (es0_3.flatMap fk).length = k0_3 * 3 := els_flat hs_0_3
      refine sq ?_
      refine sr ?_
      refine mv rfl rfl ?_
      refine mv rfl rfl ?_
      refine lt rfl rfl rfl ?_
      refine nl ?_
      refine cd rfl (fun h111 => ?_) (fun h111 => ?_)
      ·
       have hkl0_3 : k0_3 < (lT x0_3.1).length := by omega
       obtain ⟨g0_3, po0_3, hga0_3, rfl, hbk0_3⟩ := hw_0_3.next (zs := [.string ⟨#[]⟩, .slice none 0 0, .map none]) hkl0_3 rfl (by decide)
       have ho0_3 : 0 + k0_3 * 3 = (es0_3.flatMap fk).length := by rw [hp_0_3]; omega
       have hbz0_3 : ((decV 10 (decP fs_sWriteTxnMarkersRequestMarkerTopic v true) false true) (rMany (decV 10 (decP fs_sWriteTxnMarkersRequestMarkerTopic v true) false true) k0_3 (rArr true x0_2.2).2).2).2.bad = true → (decP fs_WriteTxnMarkersRequest v true ⟨s, false, !a.isNone⟩).2.bad = true := fun h => hB0_3 (by rw [ex0_3]; exact rMany_mono (fun r h => decV_bad (fun r h => decP_bad _ _ _ r h) h) _ (show k0_3 + 1 ≤ (lT x0_3.1).length from hkl0_3) (by rw [rMany_succ]; exact h))
       have hLk0_3 : (rMany (decV 10 (decP fs_sWriteTxnMarkersRequestMarkerTopic v true) false true) k0_3 (rArr true x0_2.2).2).2.s.length ≤ BR := Nat.le_trans (rMany_shr (fun r => decV_shr (fun r => decP_shr _ _ _ r) r) _ _) hm0_3
       have hL0_3__ := hLk0_3
       obtain ⟨x0_3_0, hx0_3_0⟩ : ∃ x, x = stepF (Fd.mk 8 0 (-1) (-1) (-1) 0 0 []) v true (rMany (decV 10 (decP fs_sWriteTxnMarkersRequestMarkerTopic v true) false true) k0_3 (rArr true x0_2.2).2).2 := ⟨_, rfl⟩
       obtain ⟨x0_3_1, hx0_3_1⟩ : ∃ x, x = stepF (Fd.mk 11 0 (-1) (-1) (-1) 0 3 []) v true x0_3_0.2 := ⟨_, rfl⟩
       obtain ⟨u0_3_, hu0_3_⟩ : ∃ x, x = tailU true x0_3_1.2 := ⟨_, rfl⟩
       have hD0_3_ : decP fs_sWriteTxnMarkersRequestMarkerTopic v true (rMany (decV 10 (decP fs_sWriteTxnMarkersRequestMarkerTopic v true) false true) k0_3 (rArr true x0_2.2).2).2 = (.mk 0 [] false [x0_3_0.1, x0_3_1.1] u0_3_.1, u0_3_.2) := by
        generalize ((rMany (decV 10 (decP fs_sWriteTxnMarkersRequestMarkerTopic v true) false true) k0_3 (rArr true x0_2.2).2).2 : Rd) = r_ at hx0_3_0 ⊢
        rw [decP_eq]; unfold fs_sWriteTxnMarkersRequestMarkerTopic; simp only [decFs_cons, decFs_nil, ← hx0_3_0, ← hx0_3_1, ← hu0_3_]
       have hL0_3_0 : x0_3_0.2.s.length ≤ BR := by rw [hx0_3_0]; exact Nat.le_trans (stepF_shr _ _ _ _) hL0_3__
       have hL0_3_1 : x0_3_1.2.s.length ≤ BR := by rw [hx0_3_1]; exact Nat.le_trans (stepF_shr _ _ _ _) hL0_3_0
       have hE0_3_ : u0_3_.2.bad = true → (decP fs_WriteTxnMarkersRequest v true ⟨s, false, !a.isNone⟩).2.bad = true := fun h => hbz0_3 (by show (decP fs_sWriteTxnMarkersRequestMarkerTopic v true (rMany (decV 10 (decP fs_sWriteTxnMarkersRequestMarkerTopic v true) false true) k0_3 (rArr true x0_2.2).2).2).2.bad = true; rw [hD0_3_]; exact h)
       have hB0_3_1 : x0_3_1.2.bad = true → (decP fs_WriteTxnMarkersRequest v true ⟨s, false, !a.isNone⟩).2.bad = true := fun h => hE0_3_ (by rw [hu0_3_]; exact tailU_bad h)
       have hB0_3_0 : x0_3_0.2.bad = true → (decP fs_WriteTxnMarkersRequest v true ⟨s, false, !a.isNone⟩).2.bad = true := fun h => hB0_3_1 (by rw [hx0_3_1]; exact step_bad h)
       refine skt ?_
       refine sq ?_
       refine bl ?_
       refine sr ?_
       refine mv rfl rfl ?_
       refine mv rfl rfl ?_
       refine ixk (j := k0_3) Tryz.runUnderlying143 Tryz.sizeOf150 rfl hga0_3 rfl rfl hkl0_3 rfl ?_
       refine asg rfl rfl ?_
       refine nl ?_
       refine sr ?_
       refine mv rfl rfl ?_
       refine cl rfl rfl rfl (def_WriteTxnMarkersRequestMarkerTopic ho0_3) rfl (fun v_ H1 L1 hle_ hR_ => ?_)
       obtain ⟨rfl, rfl⟩ := hR_
       refine nl ?_
       refine sr ?_
       refine mv rfl rfl ?_
       refine asg rfl rfl ?_
       refine nl ?_
       refine sq ?_
       refine sr ?_
       refine asg rfl rfl ?_
       refine nl ?_
       refine sq ?_
       refine sr ?_
       refine mv rfl rfl ?_
       refine nl ?_
       refine cF rfl ?_
       refine sr ?_
       refine mv rfl rfl ?_
       refine nl ?_
       refine cdT rfl (by omega) ?_
       refine rg ?_
       refine tf (.tail .head) ?_
       have ex0_3_0 : x0_3_0 = decV 8 (decP [] v true) false true (rMany (decV 10 (decP fs_sWriteTxnMarkersRequestMarkerTopic v true) false true) k0_3 (rArr true x0_2.2).2).2 := (hx0_3_0.trans (step_yes (by decide) (show (0 : Int) ≤ v by omega) (Or.inl (by decide)))).trans (decF'_val (by decide) (rfl))
       refine cl rfl rfl rfl (d8t hR_0_3 ex0_3_0) rfl (fun v_ H1 L1 le_9 hR_ => ?_)
       obtain ⟨N125, rfl, hR125, rfl, rfl⟩ := hR_
       refine asg rfl rfl ?_
       refine nl ?_
       refine rg ?_
       refine mv rfl rfl ?_
       refine mv rfl rfl ?_
       refine nc rfl rfl ?_
       refine fa F150_0 rfl rfl ?_
       refine stM (off := 0) Tryz.sizeOf9 rfl (by rw [ho0_3]) rfl rfl rfl (.tail .head) ?_
       refine nl ?_
       refine sq ?_
       refine sr ?_
       refine mv rfl rfl ?_
       refine nc rfl rfl ?_
       refine fa F150_1 rfl rfl ?_
       refine ld (j := 1) (off := 0 + k0_3 * 3) (Says.mid (.tail .head) ho0_3) Tryz.isAgg148 rfl rfl rfl rfl ?_
       refine asg rfl rfl ?_
       refine nl ?_
       refine sr ?_
       refine mv rfl rfl ?_
       refine asg rfl rfl ?_
       refine nl ?_
       refine sr ?_
       refine asg rfl rfl ?_
       refine nl ?_
       refine sq ?_
       refine sr ?_
       refine mv rfl rfl ?_
       refine nl ?_
       refine cdT rfl (by omega) ?_
       refine rg ?_
       have ey0_3_1 : x0_3_1 = (.mk 0 [] (if 0 ≤ ((-1) : Int) ∧ (v < ((-1) : Int) ∨ (rArr true x0_3_0.2).1 = 0) then false else decide ((rArr true x0_3_0.2).1 ≤ 0)) (rMany (decV 3 (decP [] v true) false true) (rArr true x0_3_0.2).1.toNat (rArr true x0_3_0.2).2).1 [], (rMany (decV 3 (decP [] v true) false true) (rArr true x0_3_0.2).1.toNat (rArr true x0_3_0.2).2).2) := (hx0_3_1.trans (step_yes (by decide) (show (0 : Int) ≤ v by omega) (Or.inl (by decide)))).trans (decF'_list rfl rfl)
       have hn0_3_1 : (rArr true x0_3_0.2).1.toNat = (lT x0_3_1.1).length := by rw [ey0_3_1]; exact (lT_many nul_le).symm
       have ex0_3_1 := ey0_3_1
       rw [hn0_3_1] at ex0_3_1
       have hl0_3_1 := rArr_le true x0_3_0.2
       have hm0_3_1 : (rArr true x0_3_0.2).2.s.length ≤ BR := Nat.le_trans (rArr_len true x0_3_0.2) hL0_3_0
       have hnb0_3_1 : (lT x0_3_1.1).length ≤ BR := by omega
       refine cl rfl rfl rfl (r_arrt hR125) rfl (fun v_ H1 L1 hle_ hR_ => ?_)
       obtain ⟨rfl, N137, rfl, hR137, rfl⟩ := hR_
       have hh0_3_1 := rArr_hi true x0_3_0.2
       refine asg rfl rfl ?_
       refine nl ?_
       refine sq ?_
       refine sr ?_
       refine cl rfl rfl rfl (r_ok hR137) rfl (fun v_ H1 L1 hle_ hR_ => ?_)
       obtain ⟨rfl, rfl, rfl⟩ := hR_
       refine nt rfl rfl ?_
       refine nl ?_
       refine cb rfl (fun h140 => ?_) (fun h140 => ?_)
       ·
        have hbad_ : (rArr true x0_3_0.2).2.bad = true := by simpa using h140
        refine sr ?_
        refine cl rfl rfl rfl (r_complete hR137 (he.mono (le_2.trans (le_3.trans (le_7.trans le_8))))) rfl (fun v_ H1 L1 hle_ hR_ => ?_)
        obtain ⟨rfl, rfl, rfl⟩ := hR_
        refine asg rfl rfl ?_
        refine nl ?_
        refine drW .head ?_
        refine drW .head ?_
        refine drW .head ?_
        exact rT rfl rfl (le_2.trans (le_3.trans (le_7.trans le_8))) (fun _ _ h => h) ⟨_, rfl, RdEnd.out (hB0_3_1 (by rw [ey0_3_1]; exact rMany_bad (fun r h => decV_bad (decP_bad _ _ _) h) _ _ hbad_)) hbad_⟩
       ·
        refine skt ?_
        refine sr ?_
        refine mv rfl rfl ?_
        refine sh' (j := 0) Tryz.runUnderlying148 Tryz.sizeOf21 rfl rfl rfl (Nat.zero_le _) rfl ?_
        refine asg rfl rfl ?_
        refine nl ?_
        refine sq ?_
        refine sr ?_
        refine mv rfl rfl ?_
        refine gt rfl rfl rfl ?_
        refine nl ?_
        refine nulC2 ?_
        refine cutT (fun l' H' L' => ∃ (a0_3_1 : Option Addr), ∃ (c0_3_1 : Nat), ∃ (Nr0_3_1 : Chunk), [(2, .bool false), (7, .pointer (some ⟨b_1, 0, none⟩)), (8, .int .i16 v), (9, .bool (decide ((1 : Int) ≤ v))), (10, .pointer (some ⟨b, 0, none⟩)), (11, .slice none 0 0), (12, .slice a0 (lT x0.1).length c0), (13, .int .i32 (rArr true ⟨s, false, !a.isNone⟩).1), (14, .int .i32 (k0 : Int)), (16, .pointer (some ⟨g0, 0 + k0 * 7, none⟩)), (20, .slice none 0 0), (21, .slice a0_3 (lT x0_3.1).length c0_3), (22, .int .i32 (rArr true x0_2.2).1), (23, .int .i32 (k0_3 : Int)), (25, .pointer (some ⟨g0_3, 0 + k0_3 * 3, none⟩)), (27, .slice none 0 0), (28, .slice a0_3_1 (lT x0_3_1.1).length c0_3_1), (29, .int .i32 (rArr true x0_3_0.2).1)] = l' ∧ Nr0_3_1 :: N137 :: [(g0_3, .cells ((es0_3.flatMap fk) ++ ([.string ⟨x0_3_0.1.s.toArray⟩, .slice none 0 0, .map none] : List Value) ++ po0_3).toArray 150 (0, 0))] :: [(g0, .cells ((es0.flatMap fk) ++ ([.int .i64 x0_0.1.n, .int .i16 (IntKind.i16.wrap x0_1.1.n), .bool (decide (x0_2.1.n % 2 = 1)), .slice none 0 0, .int .i32 0, .int .i8 0, .map none] : List Value) ++ po0).toArray 145 (0, 0))] :: [(b, .cells [.int .i16 v, .slice none 0 0, .map none].toArray 97 (0, 0))] :: L = L' ∧ Row 21 1 a0_3_1 (lT x0_3_1.1).length c0_3_1 (reps [.int .i32 0] (lT x0_3_1.1).length) Nr0_3_1 ∧ a0_3_1.isNone = (if 0 ≤ ((-1) : Int) ∧ (v < ((-1) : Int) ∨ (rArr true x0_3_0.2).1 = 0) then false else decide ((rArr true x0_3_0.2).1 ≤ 0))) ?_ (fun l' H' L' le_10 hI => ?_)
        ·
         refine cd rfl (fun h145 => ?_) (fun h145 => ?_)
         ·
          refine rg ?_
          refine mv rfl rfl ?_
          refine mv rfl rfl ?_
          refine apz (zs := [.int .i32 0]) (m := (lT x0_3_1.1).length) Tryz.underlying148 Tryz.underlying21 I21 rfl rfl rfl (by omega) (by omega) (by have h9 := hnb0_3_1; unfold BR at h9; omega) (by have h9 := hnb0_3_1; unfold BR at h9; unfold maxLen; omega) rfl (fun g148 cp148 N148 r148 => ?_)
          refine asg rfl rfl ?_
          refine nN ?_
          refine drN (.tail .head) ?_
          refine fun a_ w_ hA hw => ⟨_, _, _, hA.sub ?_, ler, hw, (some ⟨g148, 0, none⟩), cp148, N148, rfl, rfl, r148, (by rw [if_neg (by omega)]; exact (decide_eq_false (by omega)).symm)⟩
          exact (.cons rfl (.cons rfl (.cons rfl (.cons rfl (.cons rfl (.cons rfl (.cons rfl (.cons rfl (.cons rfl (.cons rfl (.cons rfl (.cons rfl (.cons rfl (.cons rfl (.cons rfl (.cons rfl (.cons rfl (.cons rfl (.nil _)))))))))))))))))))
         ·
          refine skN ?_
          refine fun a_ w_ hA hw => ⟨_, _, _, hA.sub ?_, ler, hw, none, 0, [], rfl, rfl, (by rw [show (lT x0_3_1.1).length = 0 by omega]; exact (Row.nil _ _)), (by rw [if_neg (by omega)]; exact (decide_eq_true (by omega)).symm)⟩
          exact (.cons rfl (.cons rfl (.cons rfl (.cons rfl (.cons rfl (.cons rfl (.cons rfl (.cons rfl (.cons rfl (.cons rfl (.cons rfl (.cons rfl (.cons rfl (.cons rfl (.cons rfl (.cons rfl (.cons (by rw [show (lT x0_3_1.1).length = 0 by omega]; rfl) (.cons rfl (.nil _)))))))))))))))))))
        ·
         obtain ⟨a0_3_1, c0_3_1, Nr0_3_1, rfl, rfl, pj0, pj1⟩ := hI
         have hr0_3_1 := pj0
         have hi0_3_1 := pj1
         refine sq ?_
         refine sr ?_
         refine asg rfl rfl ?_
         refine nl ?_
         refine bl (lp ((lT x0_3_1.1).length) (fun k0_3_1 l' H' L' => ∃ (es0_3_1 : List (KE 1)) (M0_3_1 RN0_3_1 : Chunk), [(2, .bool false), (7, .pointer (some ⟨b_1, 0, none⟩)), (8, .int .i16 v), (9, .bool (decide ((1 : Int) ≤ v))), (10, .pointer (some ⟨b, 0, none⟩)), (11, .slice none 0 0), (12, .slice a0 (lT x0.1).length c0), (13, .int .i32 (rArr true ⟨s, false, !a.isNone⟩).1), (14, .int .i32 (k0 : Int)), (16, .pointer (some ⟨g0, 0 + k0 * 7, none⟩)), (20, .slice none 0 0), (21, .slice a0_3 (lT x0_3.1).length c0_3), (22, .int .i32 (rArr true x0_2.2).1), (23, .int .i32 (k0_3 : Int)), (25, .pointer (some ⟨g0_3, 0 + k0_3 * 3, none⟩)), (27, .slice none 0 0), (28, .slice a0_3_1 (lT x0_3_1.1).length c0_3_1), (29, .int .i32 (rArr true x0_3_0.2).1), (30, .int .i32 (k0_3_1 : Int))] = l' ∧ M0_3_1 :: RN0_3_1 :: [(g0_3, .cells ((es0_3.flatMap fk) ++ ([.string ⟨x0_3_0.1.s.toArray⟩, .slice none 0 0, .map none] : List Value) ++ po0_3).toArray 150 (0, 0))] :: [(g0, .cells ((es0.flatMap fk) ++ ([.int .i64 x0_0.1.n, .int .i16 (IntKind.i16.wrap x0_1.1.n), .bool (decide (x0_2.1.n % 2 = 1)), .slice none 0 0, .int .i32 0, .int .i8 0, .map none] : List Value) ++ po0).toArray 145 (0, 0))] :: [(b, .cells [.int .i16 v, .slice none 0 0, .map none].toArray 97 (0, 0))] :: L = L' ∧ RdAt H' 118 b_1 (rMany (decV 3 (decP [] v true) false true) k0_3_1 (rArr true x0_3_0.2).2).2 RN0_3_1 ∧ Row 21 1 a0_3_1 (lT x0_3_1.1).length c0_3_1 (es0_3_1.flatMap fk ++ reps [.int .i32 0] ((lT x0_3_1.1).length - k0_3_1)) M0_3_1 ∧ es0_3_1.map (·.2) = (rMany (decV 3 (decP [] v true) false true) k0_3_1 (rArr true x0_3_0.2).2).1 ∧ ∀ p ∈ es0_3_1, RI32 H' p.2 (fk p)) [(2, .bool false), (7, .pointer (some ⟨b_1, 0, none⟩)), (8, .int .i16 v), (9, .bool (decide ((1 : Int) ≤ v))), (10, .pointer (some ⟨b, 0, none⟩)), (11, .slice none 0 0), (12, .slice a0 (lT x0.1).length c0), (13, .int .i32 (rArr true ⟨s, false, !a.isNone⟩).1), (14, .int .i32 (k0 : Int)), (16, .pointer (some ⟨g0, 0 + k0 * 7, none⟩)), (20, .slice none 0 0), (21, .slice a0_3 (lT x0_3.1).length c0_3), (22, .int .i32 (rArr true x0_2.2).1), (23, .int .i32 (k0_3 : Int)), (25, .pointer (some ⟨g0_3, 0 + k0_3 * 3, none⟩)), (27, .slice none 0 0), (28, .slice a0_3_1 (lT x0_3_1.1).length c0_3_1), (29, .int .i32 (rArr true x0_3_0.2).1), (30, .int .i32 (0 : Int))] (.of ⟨rfl, rfl, rfl, rfl, rfl, rfl, rfl, rfl, rfl, rfl, rfl, rfl, rfl, rfl, rfl, rfl, rfl, rfl, rfl, trivial⟩) ⟨[], Nr0_3_1, _, rfl, rfl, (hR137.mono le_10), hr0_3_1, rfl, (fun p hp => by cases hp)⟩ (fun k0_3_1 l' H' L' hk0_3_1 le_11 hI => ?_))
         obtain ⟨es0_3_1, M0_3_1, RN0_3_1, rfl, rfl, hR_0_3_1, hw_0_3_1, he_0_3_1, hg_0_3_1⟩ := hI
         have hs_0_3_1 := els_len he_0_3_1
         have hp_0_3_1 : (es0_3_1.flatMap fk).length = k0_3_1 * 1 := els_flat hs_0_3_1
         refine sq ?_
         refine sr ?_
         refine mv rfl rfl ?_
         refine mv rfl rfl ?_
         refine lt rfl rfl rfl ?_
         refine nl ?_
         refine cd rfl (fun h151 => ?_) (fun h151 => ?_)
         ·
          have hkl0_3_1 : k0_3_1 < (lT x0_3_1.1).length := by omega
          obtain ⟨g0_3_1, po0_3_1, hga0_3_1, rfl, hbk0_3_1⟩ := hw_0_3_1.next (zs := [.int .i32 0]) hkl0_3_1 rfl (by decide)
          have ho0_3_1 : 0 + k0_3_1 * 1 = (es0_3_1.flatMap fk).length := by rw [hp_0_3_1]; omega
          have hbz0_3_1 : ((decV 3 (decP [] v true) false true) (rMany (decV 3 (decP [] v true) false true) k0_3_1 (rArr true x0_3_0.2).2).2).2.bad = true → (decP fs_WriteTxnMarkersRequest v true ⟨s, false, !a.isNone⟩).2.bad = true := fun h => hB0_3_1 (by rw [ex0_3_1]; exact rMany_mono (fun r h => decV_bad (fun r h => decP_bad _ _ _ r h) h) _ (show k0_3_1 + 1 ≤ (lT x0_3_1.1).length from hkl0_3_1) (by rw [rMany_succ]; exact h))
          have hLk0_3_1 : (rMany (decV 3 (decP [] v true) false true) k0_3_1 (rArr true x0_3_0.2).2).2.s.length ≤ BR := Nat.le_trans (rMany_shr (fun r => decV_shr (fun r => decP_shr _ _ _ r) r) _ _) hm0_3_1
          obtain ⟨y0_3_1, hy0_3_1⟩ : ∃ x, x = (decV 3 (decP [] v true) false true) (rMany (decV 3 (decP [] v true) false true) k0_3_1 (rArr true x0_3_0.2).2).2 := ⟨_, rfl⟩
          refine skt ?_
          refine sq ?_
          refine bl ?_
          refine sr ?_
          refine tf (.tail .head) ?_
          refine cl rfl rfl rfl (d3 hR_0_3_1 hy0_3_1) rfl (fun v_ H1 L1 hle_ hR_ => ?_)
          obtain ⟨N154, rfl, hR154, rfl, rfl⟩ := hR_
          refine asg rfl rfl ?_
          refine nl ?_
          refine rg ?_
          refine mv rfl rfl ?_
          refine mv rfl rfl ?_
          refine mv rfl rfl ?_
          refine ixk (j := k0_3_1) Tryz.runUnderlying148 Tryz.sizeOf21 rfl hga0_3_1 rfl rfl hkl0_3_1 rfl ?_
          refine stM (off := 0) Tryz.sizeOf21 rfl ho0_3_1 rfl rfl rfl (.tail .head) ?_
          refine nN ?_
          refine Nb ?_
          refine Nt ?_
          refine rg ?_
          refine mv rfl rfl ?_
          refine ad rfl rfl (c := ((k0_3_1 + 1 : Nat) : Int)) ((wrap32_le (by omega) (by omega)).trans (by omega)) rfl ?_
          refine asg rfl rfl ?_
          refine nN ?_
          have hfs0_3_1 := flatMap_snoc' fk es0_3_1 ((⟨([.int .i32 (IntKind.i32.wrap y0_3_1.1.n)] : List Value), rfl, all_one rfl⟩, ((decV 3 (decP [] v true) false true) (rMany (decV 3 (decP [] v true) false true) k0_3_1 (rArr true x0_3_0.2).2).2).1) : KE 1)
          have hrw0_3_1 := hbk0_3_1 ([.int .i32 (IntKind.i32.wrap y0_3_1.1.n)] : List Value) rfl
          refine tfN (.tail .head) ?_
          refine fun a_ w_ hA hw => ⟨hkl0_3_1, _, _, _, hA.sub ?_, le_11, hw, _, _, _, rfl, rfl, (by rw [rMany_succ, ← hy0_3_1]; exact hR154), (by rw [← hfs0_3_1]; exact hrw0_3_1), (dec_els he_0_3_1), (fun p hp => (mem_snoc hp).elim (fun h => RI32.mono _ _ _ _ ler (hg_0_3_1 p h)) (fun h => h ▸ (by show RI32 _ ((decV 3 (decP [] v true) false true) (rMany (decV 3 (decP [] v true) false true) k0_3_1 (rArr true x0_3_0.2).2).2).1 [.int .i32 (IntKind.i32.wrap y0_3_1.1.n)]; rw [← hy0_3_1]; rfl)))⟩
          exact (.of ⟨rfl, rfl, rfl, rfl, rfl, rfl, rfl, rfl, rfl, rfl, rfl, rfl, rfl, rfl, rfl, rfl, rfl, rfl, rfl, trivial⟩)
         ·
          have hkn_ : k0_3_1 = (lT x0_3_1.1).length := by omega
          subst hkn_
          have hw2_0_3_1 : Row 21 1 a0_3_1 (lT x0_3_1.1).length c0_3_1 (es0_3_1.flatMap fk) M0_3_1 := by have h := hw_0_3_1; rw [Nat.sub_self] at h; simpa [reps] using h
          refine frW hw2_0_3_1 .head (fun Hf0_3_1 hlf0_3_1 hfz0_3_1 => ?_)
          have hrs0_3_1 := RowsAt.row (R := RI32) hfz0_3_1 hs_0_3_1.symm hw2_0_3_1.le.1 (fun p hp => RI32.mono _ _ _ _ hlf0_3_1 (hg_0_3_1 p hp))
          rw [he_0_3_1] at hrs0_3_1
          have hf0_3_1 : ListAt Hf0_3_1 x0_3_1.1 1 RI32 a0_3_1 c0_3_1 := by rw [ex0_3_1]; exact listAt_of hrs0_3_1 hi0_3_1 (fun h => by have h1 := nul_le h; rw [show (lT x0_3_1.1).length = 0 by omega]; rfl)
          have hRx0_3_1 : RdAt Hf0_3_1 118 b_1 x0_3_1.2 RN0_3_1 := by rw [ex0_3_1]; exact (hR_0_3_1.mono hlf0_3_1)
          refine exX ?_
          refine XT ?_
          refine XT ?_
          refine Xb ?_
          refine Nt ?_
          refine sr ?_
          refine mv rfl rfl ?_
          refine asg rfl rfl ?_
          refine nl ?_
          refine rg ?_
          refine mv rfl rfl ?_
          refine mv rfl rfl ?_
          refine nc rfl rfl ?_
          refine fa F150_1 rfl rfl ?_
          refine stM (off := 1) Tryz.sizeOf148 rfl (by rw [ho0_3]) rfl rfl rfl (.tail .head) ?_
          refine nl ?_
          refine sr ?_
          refine mv rfl rfl ?_
          refine nl ?_
          refine cdT rfl (by omega) ?_
          refine rg ?_
          refine mv rfl rfl ?_
          refine cl rfl rfl rfl (d_tags hRx0_3_1) rfl (fun v_ H1 L1 le_13 hR_ => ?_)
          obtain ⟨N166, rfl, hR166, m0_3_t, rfl, hft0_3_⟩ := hR_
          have hu20_3_ : u0_3_ = rTags x0_3_1.2 := hu0_3_
          rw [← hu20_3_] at hR166 hft0_3_
          refine nc rfl rfl ?_
          refine fa F150_2 rfl rfl ?_
          refine saM (off := 2) Tryz.sizeOf75 rfl (by rw [ho0_3]) rfl rfl rfl rfl (.tail .head) ?_
          refine nN ?_
          refine Nb ?_
          refine Nt ?_
          refine rg ?_
          refine mv rfl rfl ?_
          refine ad rfl rfl (c := ((k0_3 + 1 : Nat) : Int)) ((wrap32_le (by omega) (by omega)).trans (by omega)) rfl ?_
          refine asg rfl rfl ?_
          refine nN ?_
          have hfs0_3 := flatMap_snoc' fk es0_3 ((⟨([.string ⟨x0_3_0.1.s.toArray⟩, .slice a0_3_1 (lT x0_3_1.1).length c0_3_1, .map m0_3_t] : List Value), rfl, all_one rfl⟩, ((decV 10 (decP fs_sWriteTxnMarkersRequestMarkerTopic v true) false true) (rMany (decV 10 (decP fs_sWriteTxnMarkersRequestMarkerTopic v true) false true) k0_3 (rArr true x0_2.2).2).2).1) : KE 3)
          have hrw0_3 := hbk0_3 ([.string ⟨x0_3_0.1.s.toArray⟩, .slice a0_3_1 (lT x0_3_1.1).length c0_3_1, .map m0_3_t] : List Value) rfl
          refine tfN (.tail .head) ?_
          refine fun a_ w_ hA hw => ⟨hkl0_3, _, _, _, hA.sub ?_, (le_8.trans (le_10.trans (le_11.trans (hlf0_3_1.trans le_13)))), hw, _, _, _, rfl, rfl, (by rw [rMany_succ]; show RdAt _ 118 b_1 (decP fs_sWriteTxnMarkersRequestMarkerTopic v true (rMany (decV 10 (decP fs_sWriteTxnMarkersRequestMarkerTopic v true) false true) k0_3 (rArr true x0_2.2).2).2).2 _; rw [hD0_3_]; exact hR166), (by rw [← hfs0_3]; exact hrw0_3), (dec_els he_0_3), (fun p hp => (mem_snoc hp).elim (fun h => At_WriteTxnMarkersRequestMarkerTopic.mono _ _ _ _ (le_10.trans (le_11.trans (hlf0_3_1.trans le_13))) (hg_0_3 p h)) (fun h => h ▸ (by show At_WriteTxnMarkersRequestMarkerTopic _ (decP fs_sWriteTxnMarkersRequestMarkerTopic v true (rMany (decV 10 (decP fs_sWriteTxnMarkersRequestMarkerTopic v true) false true) k0_3 (rArr true x0_2.2).2).2).1 [.string ⟨x0_3_0.1.s.toArray⟩, .slice a0_3_1 (lT x0_3_1.1).length c0_3_1, .map m0_3_t]; rw [hD0_3_]; exact ⟨a0_3_1, c0_3_1, m0_3_t, rfl, (hf0_3_1.mono RI32.mono le_13), hft0_3_⟩)))⟩
          exact (.of ⟨rfl, rfl, rfl, rfl, rfl, rfl, rfl, rfl, rfl, rfl, rfl, rfl, rfl, rfl, trivial⟩)
      ·
       have hkn_ : k0_3 = (lT x0_3.1).length := by omega
       subst hkn_
       have hw2_0_3 : Row 150 3 a0_3 (lT x0_3.1).length c0_3 (es0_3.flatMap fk) M0_3 := by have h := hw_0_3; rw [Nat.sub_self] at h; simpa [reps] using h
       refine frW hw2_0_3 .head (fun Hf0_3 hlf0_3 hfz0_3 => ?_)
       have hrs0_3 := RowsAt.row (R := At_WriteTxnMarkersRequestMarkerTopic) hfz0_3 hs_0_3.symm hw2_0_3.le.1 (fun p hp => At_WriteTxnMarkersRequestMarkerTopic.mono _ _ _ _ hlf0_3 (hg_0_3 p hp))
       rw [he_0_3] at hrs0_3
       have hf0_3 : ListAt Hf0_3 x0_3.1 3 At_WriteTxnMarkersRequestMarkerTopic a0_3 c0_3 := by rw [ex0_3]; exact listAt_of hrs0_3 hi0_3 (fun h => by have h1 := nul_le h; rw [show (lT x0_3.1).length = 0 by omega]; rfl)
       have hRx0_3 : RdAt Hf0_3 118 b_1 x0_3.2 RN0_3 := by rw [ex0_3]; exact (hR_0_3.mono hlf0_3)
       refine exX ?_
       refine XT ?_
       refine XT ?_
       refine Xb ?_
       refine Nt ?_
       refine sr ?_
       refine mv rfl rfl ?_
       refine asg rfl rfl ?_
       refine nl ?_
       refine rg ?_
       refine mv rfl rfl ?_
       refine mv rfl rfl ?_
       refine nc rfl rfl ?_
       refine fa F145_3 rfl rfl ?_
       refine stM (off := 3) Tryz.sizeOf143 rfl (by rw [ho0]) rfl rfl rfl (.tail .head) ?_
       refine nl ?_
       refine sq ?_
       refine sr ?_
       have ex0_4 : x0_4 = decV 3 (decP [] v true) false true x0_3.2 := (hx0_4.trans (step_yes (by decide) (show (0 : Int) ≤ v by omega) (Or.inl (by decide)))).trans (decF'_val (by decide) (rfl))
       refine cl rfl rfl rfl (d3 hRx0_3 ex0_4) rfl (fun v_ H1 L1 hle_ hR_ => ?_)
       obtain ⟨N174, rfl, hR174, rfl, rfl⟩ := hR_
       refine asg rfl rfl ?_
       refine nl ?_
       refine rg ?_
       refine mv rfl rfl ?_
       refine mv rfl rfl ?_
       refine nc rfl rfl ?_
       refine fa F145_4 rfl rfl ?_
       refine stM (off := 4) Tryz.sizeOf21 rfl (by rw [ho0]) rfl rfl rfl (.tail .head) ?_
       refine nl ?_
       refine sq ?_
       refine sr ?_
       refine mv rfl rfl ?_
       refine ge rfl rfl rfl ?_
       refine nl ?_
       refine cutT (fun l' H' L' => ∃ (Nj0_5 : Chunk), [(2, .bool false), (7, .pointer (some ⟨b_1, 0, none⟩)), (8, .int .i16 v), (9, .bool (decide ((1 : Int) ≤ v))), (10, .pointer (some ⟨b, 0, none⟩)), (11, .slice none 0 0), (12, .slice a0 (lT x0.1).length c0), (13, .int .i32 (rArr true ⟨s, false, !a.isNone⟩).1), (14, .int .i32 (k0 : Int)), (16, .pointer (some ⟨g0, 0 + k0 * 7, none⟩))] = l' ∧ Nj0_5 :: [(g0, .cells ((es0.flatMap fk) ++ ([.int .i64 x0_0.1.n, .int .i16 (IntKind.i16.wrap x0_1.1.n), .bool (decide (x0_2.1.n % 2 = 1)), .slice a0_3 (lT x0_3.1).length c0_3, .int .i32 (IntKind.i32.wrap x0_4.1.n), .int .i8 (IntKind.i8.wrap x0_5.1.n), .map none] : List Value) ++ po0).toArray 145 (0, 0))] :: [(b, .cells [.int .i16 v, .slice none 0 0, .map none].toArray 97 (0, 0))] :: L = L' ∧ RdAt H' 118 b_1 x0_5.2 Nj0_5) ?_ (fun l' H' L' le_15 hI => ?_)
       ·
        refine cd rfl (fun h180 => ?_) (fun h180 => ?_)
        ·
         refine sr ?_
         have ex0_5 : x0_5 = decV 1 (decP [] v true) false true x0_4.2 := (hx0_5.trans (step_yes (by decide) (show (2 : Int) ≤ v by omega) (Or.inl (by decide)))).trans (decF'_val (by decide) (rfl))
         refine cl rfl rfl rfl (d1 hR174 ex0_5) rfl (fun v_ H1 L1 hle_ hR_ => ?_)
         obtain ⟨N181, rfl, hR181, rfl, rfl⟩ := hR_
         refine asg rfl rfl ?_
         refine nl ?_
         refine rg ?_
         refine mv rfl rfl ?_
         refine mv rfl rfl ?_
         refine nc rfl rfl ?_
         refine fa F145_5 rfl rfl ?_
         refine stM (off := 5) Tryz.sizeOf105 rfl (by rw [ho0]) rfl rfl rfl (.tail .head) ?_
         refine nN ?_
         refine fun a_ w_ hA hw => ⟨_, _, _, hA.sub ?_, ler, hw, N181, rfl, rfl, hR181⟩
         exact (.cons rfl (.cons rfl (.cons rfl (.cons rfl (.cons rfl (.cons rfl (.cons rfl (.cons rfl (.cons rfl (.cons rfl (.nil _)))))))))))
        ·
         refine skN ?_
         obtain rfl : x0_5 = ((Tr.mk 0 [] false [] []), x0_4.2) := (hx0_5.trans (step_no (Or.inl (show v < (2 : Int) by omega)))).trans (by rw [dflF_eq]; rfl)
         refine fun a_ w_ hA hw => ⟨_, _, _, hA.sub ?_, ler, hw, N174, rfl, rfl, hR174⟩
         exact (.cons rfl (.cons rfl (.cons rfl (.cons rfl (.cons rfl (.cons rfl (.cons rfl (.cons rfl (.cons rfl (.cons rfl (.nil _)))))))))))
       ·
        obtain ⟨Nj0_5, rfl, rfl, pj0⟩ := hI
        have hRj0_5 := pj0
        refine sr ?_
        refine mv rfl rfl ?_
        refine nl ?_
        refine cdT rfl (by omega) ?_
        refine rg ?_
        refine mv rfl rfl ?_
        refine cl rfl rfl rfl (d_tags hRj0_5) rfl (fun v_ H1 L1 le_17 hR_ => ?_)
        obtain ⟨N188, rfl, hR188, m0_t, rfl, hft0_⟩ := hR_
        have hu20_ : u0_ = rTags x0_5.2 := hu0_
        rw [← hu20_] at hR188 hft0_
        refine nc rfl rfl ?_
        refine fa F145_6 rfl rfl ?_
        refine saM (off := 6) Tryz.sizeOf75 rfl (by rw [ho0]) rfl rfl rfl rfl (.tail .head) ?_
        refine nN ?_
        refine Nb ?_
        refine Nt ?_
        refine rg ?_
        refine mv rfl rfl ?_
        refine ad rfl rfl (c := ((k0 + 1 : Nat) : Int)) ((wrap32_le (by omega) (by omega)).trans (by omega)) rfl ?_
        refine asg rfl rfl ?_
        refine nN ?_
        have hfs0 := flatMap_snoc' fk es0 ((⟨([.int .i64 x0_0.1.n, .int .i16 (IntKind.i16.wrap x0_1.1.n), .bool (decide (x0_2.1.n % 2 = 1)), .slice a0_3 (lT x0_3.1).length c0_3, .int .i32 (IntKind.i32.wrap x0_4.1.n), .int .i8 (IntKind.i8.wrap x0_5.1.n), .map m0_t] : List Value), rfl, all_one rfl⟩, ((decV 10 (decP fs_sWriteTxnMarkersRequestMarker v true) false true) (rMany (decV 10 (decP fs_sWriteTxnMarkersRequestMarker v true) false true) k0 (rArr true ⟨s, false, !a.isNone⟩).2).2).1) : KE 7)
        have hrw0 := hbk0 ([.int .i64 x0_0.1.n, .int .i16 (IntKind.i16.wrap x0_1.1.n), .bool (decide (x0_2.1.n % 2 = 1)), .slice a0_3 (lT x0_3.1).length c0_3, .int .i32 (IntKind.i32.wrap x0_4.1.n), .int .i8 (IntKind.i8.wrap x0_5.1.n), .map m0_t] : List Value) rfl
        refine tfN (.tail .head) ?_
        refine fun a_ w_ hA hw => ⟨hkl0, _, _, _, hA.sub ?_, (le_3.trans (le_7.trans (le_8.trans (hlf0_3.trans (le_15.trans le_17))))), hw, _, _, _, rfl, rfl, (by rw [rMany_succ]; show RdAt _ 118 b_1 (decP fs_sWriteTxnMarkersRequestMarker v true (rMany (decV 10 (decP fs_sWriteTxnMarkersRequestMarker v true) false true) k0 (rArr true ⟨s, false, !a.isNone⟩).2).2).2 _; rw [hD0_]; exact hR188), (by rw [← hfs0]; exact hrw0), (dec_els he_0), (fun p hp => (mem_snoc hp).elim (fun h => At_WriteTxnMarkersRequestMarker.mono _ _ _ _ (le_7.trans (le_8.trans (hlf0_3.trans (le_15.trans le_17)))) (hg_0 p h)) (fun h => h ▸ (by show At_WriteTxnMarkersRequestMarker _ (decP fs_sWriteTxnMarkersRequestMarker v true (rMany (decV 10 (decP fs_sWriteTxnMarkersRequestMarker v true) false true) k0 (rArr true ⟨s, false, !a.isNone⟩).2).2).1 [.int .i64 x0_0.1.n, .int .i16 (IntKind.i16.wrap x0_1.1.n), .bool (decide (x0_2.1.n % 2 = 1)), .slice a0_3 (lT x0_3.1).length c0_3, .int .i32 (IntKind.i32.wrap x0_4.1.n), .int .i8 (IntKind.i8.wrap x0_5.1.n), .map m0_t]; rw [hD0_]; exact ⟨a0_3, c0_3, m0_t, rfl, (hf0_3.mono At_WriteTxnMarkersRequestMarkerTopic.mono (le_15.trans le_17)), hft0_⟩)))⟩
        exact (.of ⟨rfl, rfl, rfl, rfl, rfl, rfl, rfl, rfl, rfl, trivial⟩)
   ·
    have hkn_ : k0 = (lT x0.1).length := by omega
    subst hkn_
    have hw2_0 : Row 145 7 a0 (lT x0.1).length c0 (es0.flatMap fk) M0 := by have h := hw_0; rw [Nat.sub_self] at h; simpa [reps] using h
    refine frW hw2_0 .head (fun Hf0 hlf0 hfz0 => ?_)
    have hrs0 := RowsAt.row (R := At_WriteTxnMarkersRequestMarker) hfz0 hs_0.symm hw2_0.le.1 (fun p hp => At_WriteTxnMarkersRequestMarker.mono _ _ _ _ hlf0 (hg_0 p hp))
    rw [he_0] at hrs0
    have hf0 : ListAt Hf0 x0.1 7 At_WriteTxnMarkersRequestMarker a0 c0 := by rw [ex0]; exact listAt_of hrs0 hi0 (fun h => by have h1 := nul_le h; rw [show (lT x0.1).length = 0 by omega]; rfl)
    have hRx0 : RdAt Hf0 118 b_1 x0.2 RN0 := by rw [ex0]; exact (hR_0.mono hlf0)
    refine exX ?_
    refine XT ?_
    refine XT ?_
    refine Xb ?_
    refine Nt ?_
    refine sr ?_
    refine mv rfl rfl ?_
    refine asg rfl rfl ?_
    refine nl ?_
    refine rg ?_
    refine mv rfl rfl ?_
    refine mv rfl rfl ?_
    refine nc rfl rfl ?_
    refine fa0 F97_1 rfl rfl ?_
    refine st Tryz.sizeOf95 rfl rfl rfl rfl (.tail .head) ?_
    refine nl ?_
    refine sq ?_
    refine sr ?_
    refine mv rfl rfl ?_
    refine nl ?_
    refine cdT rfl (by omega) ?_
    refine rg ?_
    refine mv rfl rfl ?_
    refine cl rfl rfl rfl (d_tags hRx0) rfl (fun v_ H1 L1 le_18 hR_ => ?_)
    obtain ⟨N198, rfl, hR198, mt, rfl, hft⟩ := hR_
    have hu2 : u = rTags x0.2 := hu
    rw [← hu2] at hR198 hft
    refine nc rfl rfl ?_
    refine fa0 F97_2 rfl rfl ?_
    refine sa Tryz.sizeOf75 rfl rfl rfl rfl rfl (.tail .head) ?_
    refine nl ?_
    refine sr ?_
    refine cl rfl rfl rfl (r_complete hR198 (he.mono (le_2.trans (le_3.trans (hlf0.trans le_18))))) rfl (fun v_ H1 L1 hle_ hR_ => ?_)
    obtain ⟨rfl, rfl, rfl⟩ := hR_
    refine asg rfl rfl ?_
    refine nl ?_
    refine drW .head ?_
    have hA_ := (show At_WriteTxnMarkersRequest v _ (decP fs_WriteTxnMarkersRequest v true _).1 [.int .i16 v, .slice a0 (lT x0.1).length c0, .map mt] from (by rw [hD]; exact ⟨a0, c0, mt, rfl, (hf0.mono At_WriteTxnMarkersRequestMarker.mono le_18), hft⟩))
    refine rT rfl rfl (le_2.trans (le_3.trans (hlf0.trans le_18))) (fun _ _ h => h) ⟨_, rfl, ?_⟩
    have hz := RdEnd.of (e := e) hA_
    rw [show (decP fs_WriteTxnMarkersRequest v true _).2.bad = u.2.bad by rw [hD]] at hz
    exact hz
end Go.Sx

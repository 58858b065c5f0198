import Derived.Test.YthegbjcccjpbcaaGreatDoorSxTab
import Derived.Test.YthegbjcccjpbcaaGreatDoorBMetadataResponse
import Derived.Test.YthegbjcccjpbcaaGreatDoorRK2
import Derived.KernelRfl
set_option linter.unusedVariables false
set_option linter.unusedSimpArgs false
set_option maxRecDepth 100000
set_option maxHeartbeats 20000000
namespace Go.Sx
open Go.Proofs
theorem def_MetadataResponseBroker {H : Fz} {L : Own} {b o : Nat} {pre post : List Value} {c0 c1 c2 c3 c4 : Value} (ho : o = pre.length) :
  Fn Tryz.prog 53 [.pointer (some ⟨b, o, none⟩)] H ([(b, .cells (pre ++ ([c0, c1, c2, c3, c4] : List Value) ++ post).toArray 83 (0, 0))] :: L) (fun _ H' L' => H = H' ∧ L' = [(b, .cells (pre ++ ([c0, c1, c2, c3, c4] : List Value) ++ post).toArray 83 (0, 0))] :: L) := by
 refine Fn.mk Tryz.call53 Tryz.func53 rfl Tryz.ntmps53 rfl ?_
 refine skN ?_
 exact fun _ _ hA hw => rn rfl ler ⟨rfl, rfl⟩ hA hw
theorem def_MetadataResponseTopicPartition {H : Fz} {L : Own} {b o : Nat} {pre post : List Value} {c0 c1 c2 c3 c4 c5 c6 c7 : Value} (ho : o = pre.length) :
  Fn Tryz.prog 67 [.pointer (some ⟨b, o, none⟩)] H ([(b, .cells (pre ++ ([c0, c1, c2, c3, c4, c5, c6, c7] : List Value) ++ post).toArray 116 (0, 0))] :: L) (fun _ H' L' => H = H' ∧ L' = [(b, .cells (pre ++ ([c0, c1, c2, .int .i32 (-1), c4, c5, c6, c7] : List Value) ++ post).toArray 116 (0, 0))] :: L) := by
 refine Fn.mk Tryz.call67 Tryz.func67 rfl Tryz.ntmps67 rfl ?_
 refine rg ?_
 refine mv rfl rfl ?_
 refine nc rfl rfl ?_
 refine fa F116_3 rfl rfl ?_
 refine stM (off := 3) Tryz.sizeOf21 rfl (by rw [ho]) rfl rfl rfl .head ?_
 refine nN ?_
 exact fun _ _ hA hw => rn rfl ler ⟨rfl, rfl⟩ hA hw
theorem def_MetadataResponseTopic {H : Fz} {L : Own} {b o : Nat} {pre post : List Value} {c0 c1 c2 c3 c4 c5 c6 c7 c8 c9 c10 c11 c12 c13 c14 c15 c16 c17 c18 c19 c20 c21 : Value} (ho : o = pre.length) :
  Fn Tryz.prog 63 [.pointer (some ⟨b, o, none⟩)] H ([(b, .cells (pre ++ ([c0, c1, c2, c3, c4, c5, c6, c7, c8, c9, c10, c11, c12, c13, c14, c15, c16, c17, c18, c19, c20, c21] : List Value) ++ post).toArray 90 (0, 0))] :: L) (fun _ H' L' => H = H' ∧ L' = [(b, .cells (pre ++ ([c0, c1, c2, c3, c4, c5, c6, c7, c8, c9, c10, c11, c12, c13, c14, c15, c16, c17, c18, c19, .int .i32 (-2147483648), c21] : List Value) ++ post).toArray 90 (0, 0))] :: L) := by
 refine Fn.mk Tryz.call63 Tryz.func63 rfl Tryz.ntmps63 rfl ?_
 refine rg ?_
 refine mv rfl rfl ?_
 refine nc rfl rfl ?_
 refine fa F90_5 rfl rfl ?_
 refine stM (off := 20) Tryz.sizeOf21 rfl (by rw [ho]) rfl rfl rfl .head ?_
 refine nN ?_
 exact fun _ _ hA hw => rn rfl ler ⟨rfl, rfl⟩ hA hw
theorem def0_MetadataResponse {H : Fz} {L : Own} {b : Nat} {c0 c1 c2 c3 c4 c5 c6 c7 c8 : Value} :
  Fn Tryz.prog 31 [.pointer (some ⟨b, 0, none⟩)] H ([(b, .cells [c0, c1, c2, c3, c4, c5, c6, c7, c8].toArray 78 (0, 0))] :: L) (fun _ H' L' => H = H' ∧ L' = [(b, .cells [c0, c1, c2, c3, .int .i32 (-1), c5, .int .i32 (-2147483648), c7, c8].toArray 78 (0, 0))] :: L) := by
 refine Fn.mk Tryz.call31 Tryz.func31 rfl Tryz.ntmps31 rfl ?_
 refine sr ?_
 refine mv rfl rfl ?_
 refine nc rfl rfl ?_
 refine fa0 F78_4 rfl rfl ?_
 refine st Tryz.sizeOf21 rfl rfl rfl rfl .head ?_
 refine nl ?_
 refine rg ?_
 refine mv rfl rfl ?_
 refine nc rfl rfl ?_
 refine fa0 F78_6 rfl rfl ?_
 refine st Tryz.sizeOf21 rfl rfl rfl rfl .head ?_
 refine nN ?_
 exact fun _ _ hA hw => rn rfl ler ⟨rfl, rfl⟩ hA hw
theorem rd_MetadataResponse_f {H : Fz} {L : Own} {b : Nat} {v : Int} {a : Option Addr} {c : Nat} {s : List UInt8} {e : Value} (hB : BytesAt H a c s) (hL_ : s.length ≤ BR) (he : H.at 1 0 [e]) (hv0 : 0 ≤ v) (hv1 : v ≤ 8) :
  Fn Tryz.prog 33 [.pointer (some ⟨b, 0, none⟩), .slice a s.length c, .bool false] H ([(b, .cells [.int .i16 v, .int .i32 0, .slice none 0 0, .pointer none, .int .i32 (-1), .slice none 0 0, .int .i32 (-2147483648), .int .i16 0, .map none].toArray 78 (0, 0))] :: L) (fun r H' L' => ∃ cs : List Value, L' = [(b, .cells cs.toArray 78 (0, 0))] :: L ∧ RdEnd H' (At_MetadataResponse v) (decP fs_MetadataResponse v false ⟨s, false, !a.isNone⟩) e r cs) := by
 refine Fn.mk Tryz.call33 Tryz.func33 rfl Tryz.ntmps33 rfl ?_
 refine sr ?_
 refine asg rfl rfl ?_
 refine nl ?_
 refine sr ?_
 refine mv rfl rfl ?_
 refine cl rfl rfl rfl def0_MetadataResponse rfl (fun v_ H1 L1 hle_ hR_ => ?_)
 obtain ⟨rfl, rfl⟩ := hR_
 refine nl ?_
 refine sr ?_
 refine mv rfl rfl ?_
 refine bd' S104 rfl rfl rfl ?_
 refine al Tryz.zeroValue104 rfl rfl (fun b_1 => ?_)
 refine sa Tryz.sizeOf104 rfl rfl rfl rfl rfl .head ?_
 have hR0_ : RdAt H 104 b_1 ⟨s, false, !a.isNone⟩ [(b_1, .cells [_, _].toArray 104 (0, 0))] := ⟨a, c, rfl, hB, by simp⟩
 obtain ⟨x0, hx0⟩ : ∃ x, x = stepF (Fd.mk 3 3 (-1) (-1) (-1) 0 0 []) v false ⟨s, false, !a.isNone⟩ := ⟨_, rfl⟩
 obtain ⟨x1, hx1⟩ : ∃ x, x = stepF (Fd.mk 11 0 (-1) (-1) (-1) 0 10 fs_sMetadataResponseBroker) v false x0.2 := ⟨_, rfl⟩
 obtain ⟨x2, hx2⟩ : ∃ x, x = stepF (Fd.mk 8 2 (-1) 2 (-1) 0 0 []) v false x1.2 := ⟨_, rfl⟩
 obtain ⟨x3, hx3⟩ : ∃ x, x = stepF (Fd.mk 3 1 (-1) (-1) (-1) (-1) 0 []) v false x2.2 := ⟨_, rfl⟩
 obtain ⟨x4, hx4⟩ : ∃ x, x = stepF (Fd.mk 11 0 (-1) (-1) (-1) 0 10 fs_sMetadataResponseTopic) v false x3.2 := ⟨_, rfl⟩
 obtain ⟨x5, hx5⟩ : ∃ x, x = stepF (Fd.mk 3 8 10 (-1) (-1) (-2147483648) 0 []) v false x4.2 := ⟨_, rfl⟩
 obtain ⟨x6, hx6⟩ : ∃ x, x = stepF (Fd.mk 2 13 (-1) (-1) (-1) 0 0 []) v false x5.2 := ⟨_, rfl⟩
 obtain ⟨u, hu⟩ : ∃ x, x = tailU false x6.2 := ⟨_, rfl⟩
 have hD : decP fs_MetadataResponse v false ⟨s, false, !a.isNone⟩ = (.mk 0 [] false [x0.1, x1.1, x2.1, x3.1, x4.1, x5.1, x6.1] u.1, u.2) := by
  generalize (⟨s, false, !a.isNone⟩ : Rd) = r_ at hx0 ⊢
  rw [decP_eq]; unfold fs_MetadataResponse; simp only [decFs_cons, decFs_nil, ← hx0, ← hx1, ← hx2, ← hx3, ← hx4, ← hx5, ← hx6, ← hu]
 have hL0 : x0.2.s.length ≤ BR := by rw [hx0]; exact Nat.le_trans (stepF_shr _ _ _ _) hL_
 have hL1 : x1.2.s.length ≤ BR := by rw [hx1]; exact Nat.le_trans (stepF_shr _ _ _ _) hL0
 have hL2 : x2.2.s.length ≤ BR := by rw [hx2]; exact Nat.le_trans (stepF_shr _ _ _ _) hL1
 have hL3 : x3.2.s.length ≤ BR := by rw [hx3]; exact Nat.le_trans (stepF_shr _ _ _ _) hL2
 have hL4 : x4.2.s.length ≤ BR := by rw [hx4]; exact Nat.le_trans (stepF_shr _ _ _ _) hL3
 have hL5 : x5.2.s.length ≤ BR := by rw [hx5]; exact Nat.le_trans (stepF_shr _ _ _ _) hL4
 have hL6 : x6.2.s.length ≤ BR := by rw [hx6]; exact Nat.le_trans (stepF_shr _ _ _ _) hL5
 have hE : u.2.bad = true → (decP fs_MetadataResponse v false ⟨s, false, !a.isNone⟩).2.bad = true := fun h => by rw [hD]; exact h
 have hB6 : x6.2.bad = true → (decP fs_MetadataResponse v false ⟨s, false, !a.isNone⟩).2.bad = true := fun h => hE (by rw [hu]; exact tailU_bad h)
 have hB5 : x5.2.bad = true → (decP fs_MetadataResponse v false ⟨s, false, !a.isNone⟩).2.bad = true := fun h => hB6 (by rw [hx6]; exact step_bad h)
 have hB4 : x4.2.bad = true → (decP fs_MetadataResponse v false ⟨s, false, !a.isNone⟩).2.bad = true := fun h => hB5 (by rw [hx5]; exact step_bad h)
 have hB3 : x3.2.bad = true → (decP fs_MetadataResponse v false ⟨s, false, !a.isNone⟩).2.bad = true := fun h => hB4 (by rw [hx4]; exact step_bad h)
 have hB2 : x2.2.bad = true → (decP fs_MetadataResponse v false ⟨s, false, !a.isNone⟩).2.bad = true := fun h => hB3 (by rw [hx3]; exact step_bad h)
 have hB1 : x1.2.bad = true → (decP fs_MetadataResponse v false ⟨s, false, !a.isNone⟩).2.bad = true := fun h => hB2 (by rw [hx2]; exact step_bad h)
 have hB0 : x0.2.bad = true → (decP fs_MetadataResponse v false ⟨s, false, !a.isNone⟩).2.bad = true := fun h => hB1 (by rw [hx1]; exact step_bad h)
 refine nl ?_
 refine sr ?_
 refine mv rfl rfl ?_
 refine nc rfl rfl ?_
 refine fa0 F78_0 rfl rfl ?_
 refine ld (Says.own (.tail .head)) Tryz.isAgg46 rfl (Nat.zero_add _).symm rfl rfl ?_
 refine asg rfl rfl ?_
 refine nl ?_
 refine sr ?_
 refine mv rfl rfl ?_
 refine nl ?_
 refine sr ?_
 refine mv rfl rfl ?_
 refine ge rfl rfl rfl ?_
 refine asg rfl rfl ?_
 refine nl ?_
 refine sr ?_
 refine mv rfl rfl ?_
 refine nl ?_
 refine sr ?_
 refine mv rfl rfl ?_
 refine asg rfl rfl ?_
 refine nl ?_
 refine sq ?_
 refine sr ?_
 refine mv rfl rfl ?_
 refine ge rfl rfl rfl ?_
 refine nl ?_
 refine cutT (fun l' H' L' => ∃ (Nj0 : Chunk), [(2, .bool false), (7, .pointer (some ⟨b_1, 0, none⟩)), (8, .int .i16 v), (9, .bool (decide ((9 : Int) ≤ v))), (10, .pointer (some ⟨b, 0, none⟩))] = l' ∧ Nj0 :: [(b, .cells [.int .i16 v, .int .i32 (IntKind.i32.wrap x0.1.n), .slice none 0 0, .pointer none, .int .i32 (-1), .slice none 0 0, .int .i32 (-2147483648), .int .i16 0, .map none].toArray 78 (0, 0))] :: L = L' ∧ RdAt H' 104 b_1 x0.2 Nj0) ?_ (fun l' H' L' le_2 hI => ?_)
 ·
  refine cd rfl (fun h77 => ?_) (fun h77 => ?_)
  ·
   refine sr ?_
   have ex0 : x0 = decV 3 (decP [] v false) false false ⟨s, false, !a.isNone⟩ := (hx0.trans (step_yes (by decide) (show (3 : Int) ≤ v by omega) (Or.inl (by decide)))).trans (decF'_val (by decide) (rfl))
   refine cl rfl rfl rfl (d3 hR0_ ex0) rfl (fun v_ H1 L1 hle_ hR_ => ?_)
   obtain ⟨N78, rfl, hR78, rfl, rfl⟩ := hR_
   refine asg rfl rfl ?_
   refine nl ?_
   refine rg ?_
   refine mv rfl rfl ?_
   refine mv rfl rfl ?_
   refine nc rfl rfl ?_
   refine fa0 F78_1 rfl rfl ?_
   refine st Tryz.sizeOf21 rfl rfl rfl rfl (.tail .head) ?_
   refine nN ?_
   refine fun a_ w_ hA hw => ⟨_, _, _, hA.sub ?_, ler, hw, N78, rfl, rfl, hR78⟩
   exact (.cons rfl (.cons rfl (.cons rfl (.cons rfl (.cons rfl (.nil _))))))
  ·
   refine skN ?_
   obtain rfl : x0 = ((Tr.mk 0 [] false [] []), ⟨s, false, !a.isNone⟩) := (hx0.trans (step_no (Or.inl (show v < (3 : Int) by omega)))).trans (by rw [dflF_eq]; rfl)
   refine fun a_ w_ hA hw => ⟨_, _, _, hA.sub ?_, ler, hw, [(b_1, .cells [_, _].toArray 104 (0, 0))], rfl, rfl, hR0_⟩
   exact (.cons rfl (.cons rfl (.cons rfl (.cons rfl (.cons rfl (.nil _))))))
 ·
  obtain ⟨Nj0, rfl, rfl, pj0⟩ := hI
  have hRj0 := pj0
  refine sq ?_
  refine sr ?_
  refine mv rfl rfl ?_
  refine nc rfl rfl ?_
  refine fa0 F78_2 rfl rfl ?_
  refine ld (Says.own (.tail .head)) Tryz.isAgg71 rfl (Nat.zero_add _).symm rfl rfl ?_
  refine asg rfl rfl ?_
  refine nl ?_
  refine sr ?_
  refine mv rfl rfl ?_
  refine asg rfl rfl ?_
  refine nl ?_
  refine sr ?_
  refine asg rfl rfl ?_
  refine nl ?_
  refine sq ?_
  refine sr ?_
  refine mv rfl rfl ?_
  refine nl ?_
  refine cdF rfl (by omega) ?_
  refine rg ?_
  have ey1 : x1 = (.mk 0 [] (if 0 ≤ ((-1) : Int) ∧ (v < ((-1) : Int) ∨ (rArr false x0.2).1 = 0) then false else decide ((rArr false x0.2).1 ≤ 0)) (rMany (decV 10 (decP fs_sMetadataResponseBroker v false) false false) (rArr false x0.2).1.toNat (rArr false x0.2).2).1 [], (rMany (decV 10 (decP fs_sMetadataResponseBroker v false) false false) (rArr false x0.2).1.toNat (rArr false x0.2).2).2) := (hx1.trans (step_yes (by decide) (show (0 : Int) ≤ v by omega) (Or.inl (by decide)))).trans (decF'_list rfl rfl)
  have hn1 : (rArr false x0.2).1.toNat = (lT x1.1).length := by rw [ey1]; exact (lT_many nul_le).symm
  have ex1 := ey1
  rw [hn1] at ex1
  have hl1 := rArr_le false x0.2
  have hm1 : (rArr false x0.2).2.s.length ≤ BR := Nat.le_trans (rArr_len false x0.2) hL0
  have hnb1 : (lT x1.1).length ≤ BR := by omega
  refine cl rfl rfl rfl (r_arrf hRj0) rfl (fun v_ H1 L1 hle_ hR_ => ?_)
  obtain ⟨rfl, N90, rfl, hR90, rfl⟩ := hR_
  have hh1 := rArr_hi false x0.2
  refine asg rfl rfl ?_
  refine nl ?_
  refine sq ?_
  refine sr ?_
  refine cl rfl rfl rfl (r_ok hR90) rfl (fun v_ H1 L1 hle_ hR_ => ?_)
  obtain ⟨rfl, rfl, rfl⟩ := hR_
  refine nt rfl rfl ?_
  refine nl ?_
  refine cb rfl (fun h92 => ?_) (fun h92 => ?_)
  ·
   have hbad_ : (rArr false x0.2).2.bad = true := by simpa using h92
   refine sr ?_
   refine cl rfl rfl rfl (r_complete hR90 (he.mono le_2)) rfl (fun v_ H1 L1 hle_ hR_ => ?_)
   obtain ⟨rfl, rfl, rfl⟩ := hR_
   refine asg rfl rfl ?_
   refine nl ?_
   refine drW .head ?_
   exact rT rfl rfl le_2 (fun _ _ h => h) ⟨_, rfl, RdEnd.out (hB1 (by rw [ey1]; exact rMany_bad (fun r h => decV_bad (decP_bad _ _ _) h) _ _ hbad_)) hbad_⟩
  ·
   refine skt ?_
   refine sr ?_
   refine mv rfl rfl ?_
   refine sh' (j := 0) Tryz.runUnderlying71 Tryz.sizeOf83 rfl rfl rfl (Nat.zero_le _) rfl ?_
   refine asg rfl rfl ?_
   refine nl ?_
   refine sq ?_
   refine sr ?_
   refine mv rfl rfl ?_
   refine gt rfl rfl rfl ?_
   refine nl ?_
   refine nulC2 ?_
   refine cutT (fun l' H' L' => ∃ (a1 : Option Addr), ∃ (c1 : Nat), ∃ (Nr1 : Chunk), [(2, .bool false), (7, .pointer (some ⟨b_1, 0, none⟩)), (8, .int .i16 v), (9, .bool (decide ((9 : Int) ≤ v))), (10, .pointer (some ⟨b, 0, none⟩)), (12, .slice none 0 0), (13, .slice a1 (lT x1.1).length c1), (14, .int .i32 (rArr false x0.2).1)] = l' ∧ Nr1 :: N90 :: [(b, .cells [.int .i16 v, .int .i32 (IntKind.i32.wrap x0.1.n), .slice none 0 0, .pointer none, .int .i32 (-1), .slice none 0 0, .int .i32 (-2147483648), .int .i16 0, .map none].toArray 78 (0, 0))] :: L = L' ∧ Row 83 5 a1 (lT x1.1).length c1 (reps [.int .i32 0, .string ⟨#[]⟩, .int .i32 0, .pointer none, .map none] (lT x1.1).length) Nr1 ∧ a1.isNone = (if 0 ≤ ((-1) : Int) ∧ (v < ((-1) : Int) ∨ (rArr false x0.2).1 = 0) then false else decide ((rArr false x0.2).1 ≤ 0))) ?_ (fun l' H' L' le_4 hI => ?_)
   ·
    refine cd rfl (fun h97 => ?_) (fun h97 => ?_)
    ·
     refine rg ?_
     refine mv rfl rfl ?_
     refine mv rfl rfl ?_
     refine apz (zs := [.int .i32 0, .string ⟨#[]⟩, .int .i32 0, .pointer none, .map none]) (m := (lT x1.1).length) Tryz.underlying71 Tryz.underlying21 I83 rfl rfl rfl (by omega) (by omega) (by have h9 := hnb1; unfold BR at h9; omega) (by have h9 := hnb1; unfold BR at h9; unfold maxLen; omega) rfl (fun g100 cp100 N100 r100 => ?_)
     refine asg rfl rfl ?_
     refine nN ?_
     refine drN (.tail .head) ?_
     refine fun a_ w_ hA hw => ⟨_, _, _, hA.sub ?_, ler, hw, (some ⟨g100, 0, none⟩), cp100, N100, rfl, rfl, r100, (by rw [if_neg (by omega)]; exact (decide_eq_false (by omega)).symm)⟩
     exact (.cons rfl (.cons rfl (.cons rfl (.cons rfl (.cons rfl (.cons rfl (.cons rfl (.cons rfl (.nil _)))))))))
    ·
     refine skN ?_
     refine fun a_ w_ hA hw => ⟨_, _, _, hA.sub ?_, ler, hw, none, 0, [], rfl, rfl, (by rw [show (lT x1.1).length = 0 by omega]; exact (Row.nil _ _)), (by rw [if_neg (by omega)]; exact (decide_eq_true (by omega)).symm)⟩
     exact (.cons rfl (.cons rfl (.cons rfl (.cons rfl (.cons rfl (.cons rfl (.cons (by rw [show (lT x1.1).length = 0 by omega]; rfl) (.cons rfl (.nil _)))))))))
   ·
    obtain ⟨a1, c1, Nr1, rfl, rfl, pj0, pj1⟩ := hI
    have hr1 := pj0
    have hi1 := pj1
    refine sq ?_
    refine sr ?_
    refine asg rfl rfl ?_
    refine nl ?_
    refine bl (lp ((lT x1.1).length) (fun k1 l' H' L' => ∃ (es1 : List (KE 5)) (M1 RN1 : Chunk), [(2, .bool false), (7, .pointer (some ⟨b_1, 0, none⟩)), (8, .int .i16 v), (9, .bool (decide ((9 : Int) ≤ v))), (10, .pointer (some ⟨b, 0, none⟩)), (12, .slice none 0 0), (13, .slice a1 (lT x1.1).length c1), (14, .int .i32 (rArr false x0.2).1), (15, .int .i32 (k1 : Int))] = l' ∧ M1 :: RN1 :: [(b, .cells [.int .i16 v, .int .i32 (IntKind.i32.wrap x0.1.n), .slice none 0 0, .pointer none, .int .i32 (-1), .slice none 0 0, .int .i32 (-2147483648), .int .i16 0, .map none].toArray 78 (0, 0))] :: L = L' ∧ RdAt H' 104 b_1 (rMany (decV 10 (decP fs_sMetadataResponseBroker v false) false false) k1 (rArr false x0.2).2).2 RN1 ∧ Row 83 5 a1 (lT x1.1).length c1 (es1.flatMap fk ++ reps [.int .i32 0, .string ⟨#[]⟩, .int .i32 0, .pointer none, .map none] ((lT x1.1).length - k1)) M1 ∧ es1.map (·.2) = (rMany (decV 10 (decP fs_sMetadataResponseBroker v false) false false) k1 (rArr false x0.2).2).1 ∧ ∀ p ∈ es1, At_MetadataResponseBroker H' p.2 (fk p)) [(2, .bool false), (7, .pointer (some ⟨b_1, 0, none⟩)), (8, .int .i16 v), (9, .bool (decide ((9 : Int) ≤ v))), (10, .pointer (some ⟨b, 0, none⟩)), (12, .slice none 0 0), (13, .slice a1 (lT x1.1).length c1), (14, .int .i32 (rArr false x0.2).1), (15, .int .i32 (0 : Int))] (.of ⟨rfl, rfl, rfl, rfl, rfl, rfl, rfl, rfl, rfl, trivial⟩) ⟨[], Nr1, _, rfl, rfl, (hR90.mono le_4), hr1, rfl, (fun p hp => by cases hp)⟩ (fun k1 l' H' L' hk1 le_5 hI => ?_))
    obtain ⟨es1, M1, RN1, rfl, rfl, hR_1, hw_1, he_1, hg_1⟩ := hI
    have hs_1 := els_len he_1
    have hp_1 : (es1.flatMap fk).length = k1 * 5 := els_flat hs_1
    refine sq ?_
    refine sr ?_
    refine mv rfl rfl ?_
    refine mv rfl rfl ?_
    refine lt rfl rfl rfl ?_
    refine nl ?_
    refine cd rfl (fun h103 => ?_) (fun h103 => ?_)
    ·
     have hkl1 : k1 < (lT x1.1).length := by omega
     obtain ⟨g1, po1, hga1, rfl, hbk1⟩ := hw_1.next (zs := [.int .i32 0, .string ⟨#[]⟩, .int .i32 0, .pointer none, .map none]) hkl1 rfl (by decide)
     have ho1 : 0 + k1 * 5 = (es1.flatMap fk).length := by rw [hp_1]; omega
     have hbz1 : ((decV 10 (decP fs_sMetadataResponseBroker v false) false false) (rMany (decV 10 (decP fs_sMetadataResponseBroker v false) false false) k1 (rArr false x0.2).2).2).2.bad = true → (decP fs_MetadataResponse v false ⟨s, false, !a.isNone⟩).2.bad = true := fun h => hB1 (by rw [ex1]; exact rMany_mono (fun r h => decV_bad (fun r h => decP_bad _ _ _ r h) h) _ (show k1 + 1 ≤ (lT x1.1).length from hkl1) (by rw [rMany_succ]; exact h))
     have hLk1 : (rMany (decV 10 (decP fs_sMetadataResponseBroker v false) false false) k1 (rArr false x0.2).2).2.s.length ≤ BR := Nat.le_trans (rMany_shr (fun r => decV_shr (fun r => decP_shr _ _ _ r) r) _ _) hm1
     have hL1__ := hLk1
     obtain ⟨x1_0, hx1_0⟩ : ∃ x, x = stepF (Fd.mk 3 0 (-1) (-1) (-1) 0 0 []) v false (rMany (decV 10 (decP fs_sMetadataResponseBroker v false) false false) k1 (rArr false x0.2).2).2 := ⟨_, rfl⟩
     obtain ⟨x1_1, hx1_1⟩ : ∃ x, x = stepF (Fd.mk 8 0 (-1) (-1) (-1) 0 0 []) v false x1_0.2 := ⟨_, rfl⟩
     obtain ⟨x1_2, hx1_2⟩ : ∃ x, x = stepF (Fd.mk 3 0 (-1) (-1) (-1) 0 0 []) v false x1_1.2 := ⟨_, rfl⟩
     obtain ⟨x1_3, hx1_3⟩ : ∃ x, x = stepF (Fd.mk 8 1 (-1) 1 (-1) 0 0 []) v false x1_2.2 := ⟨_, rfl⟩
     obtain ⟨u1_, hu1_⟩ : ∃ x, x = tailU false x1_3.2 := ⟨_, rfl⟩
     have hD1_ : decP fs_sMetadataResponseBroker v false (rMany (decV 10 (decP fs_sMetadataResponseBroker v false) false false) k1 (rArr false x0.2).2).2 = (.mk 0 [] false [x1_0.1, x1_1.1, x1_2.1, x1_3.1] u1_.1, u1_.2) := by
      generalize ((rMany (decV 10 (decP fs_sMetadataResponseBroker v false) false false) k1 (rArr false x0.2).2).2 : Rd) = r_ at hx1_0 ⊢
      rw [decP_eq]; unfold fs_sMetadataResponseBroker; simp only [decFs_cons, decFs_nil, ← hx1_0, ← hx1_1, ← hx1_2, ← hx1_3, ← hu1_]
     have hL1_0 : x1_0.2.s.length ≤ BR := by rw [hx1_0]; exact Nat.le_trans (stepF_shr _ _ _ _) hL1__
     have hL1_1 : x1_1.2.s.length ≤ BR := by rw [hx1_1]; exact Nat.le_trans (stepF_shr _ _ _ _) hL1_0
     have hL1_2 : x1_2.2.s.length ≤ BR := by rw [hx1_2]; exact Nat.le_trans (stepF_shr _ _ _ _) hL1_1
     have hL1_3 : x1_3.2.s.length ≤ BR := by rw [hx1_3]; exact Nat.le_trans (stepF_shr _ _ _ _) hL1_2
     have hE1_ : u1_.2.bad = true → (decP fs_MetadataResponse v false ⟨s, false, !a.isNone⟩).2.bad = true := fun h => hbz1 (by show (decP fs_sMetadataResponseBroker v false (rMany (decV 10 (decP fs_sMetadataResponseBroker v false) false false) k1 (rArr false x0.2).2).2).2.bad = true; rw [hD1_]; exact h)
     have hB1_3 : x1_3.2.bad = true → (decP fs_MetadataResponse v false ⟨s, false, !a.isNone⟩).2.bad = true := fun h => hE1_ (by rw [hu1_]; exact tailU_bad h)
     have hB1_2 : x1_2.2.bad = true → (decP fs_MetadataResponse v false ⟨s, false, !a.isNone⟩).2.bad = true := fun h => hB1_3 (by rw [hx1_3]; exact step_bad h)
     have hB1_1 : x1_1.2.bad = true → (decP fs_MetadataResponse v false ⟨s, false, !a.isNone⟩).2.bad = true := fun h => hB1_2 (by rw [hx1_2]; exact step_bad h)
     have hB1_0 : x1_0.2.bad = true → (decP fs_MetadataResponse v false ⟨s, false, !a.isNone⟩).2.bad = true := fun h => hB1_1 (by rw [hx1_1]; exact step_bad h)
     refine skt ?_
     refine sq ?_
     refine bl ?_
     refine sr ?_
     refine mv rfl rfl ?_
     refine mv rfl rfl ?_
     refine ixk (j := k1) Tryz.runUnderlying71 Tryz.sizeOf83 rfl hga1 rfl rfl hkl1 rfl ?_
     refine asg rfl rfl ?_
     refine nl ?_
     refine sr ?_
     refine mv rfl rfl ?_
     refine cl rfl rfl rfl (def_MetadataResponseBroker ho1) rfl (fun v_ H1 L1 hle_ hR_ => ?_)
     obtain ⟨rfl, rfl⟩ := hR_
     refine nl ?_
     refine sr ?_
     refine mv rfl rfl ?_
     refine asg rfl rfl ?_
     refine nl ?_
     refine sq ?_
     refine sr ?_
     refine tf (.tail .head) ?_
     have ex1_0 : x1_0 = decV 3 (decP [] v false) false false (rMany (decV 10 (decP fs_sMetadataResponseBroker v false) false false) k1 (rArr false x0.2).2).2 := (hx1_0.trans (step_yes (by decide) (show (0 : Int) ≤ v by omega) (Or.inl (by decide)))).trans (decF'_val (by decide) (rfl))
     refine cl rfl rfl rfl (d3 hR_1 ex1_0) rfl (fun v_ H1 L1 hle_ hR_ => ?_)
     obtain ⟨N112, rfl, hR112, rfl, rfl⟩ := hR_
     refine asg rfl rfl ?_
     refine nl ?_
     refine rg ?_
     refine mv rfl rfl ?_
     refine mv rfl rfl ?_
     refine nc rfl rfl ?_
     refine fa F83_0 rfl rfl ?_
     refine stM (off := 0) Tryz.sizeOf21 rfl (by rw [ho1]) rfl rfl rfl (.tail .head) ?_
     refine nl ?_
     refine sq ?_
     refine sr ?_
     refine asg rfl rfl ?_
     refine nl ?_
     refine sq ?_
     refine sr ?_
     refine mv rfl rfl ?_
     refine nl ?_
     refine cF rfl ?_
     refine sr ?_
     refine mv rfl rfl ?_
     refine nl ?_
     refine cdF rfl (by omega) ?_
     refine rg ?_
     have ex1_1 : x1_1 = decV 8 (decP [] v false) false false x1_0.2 := (hx1_1.trans (step_yes (by decide) (show (0 : Int) ≤ v by omega) (Or.inl (by decide)))).trans (decF'_val (by decide) (rfl))
     refine cl rfl rfl rfl (d8f hR112 ex1_1) rfl (fun v_ H1 L1 le_7 hR_ => ?_)
     obtain ⟨N123, rfl, hR123, rfl, rfl⟩ := hR_
     refine asg rfl rfl ?_
     refine nl ?_
     refine rg ?_
     refine mv rfl rfl ?_
     refine mv rfl rfl ?_
     refine nc rfl rfl ?_
     refine fa F83_1 rfl rfl ?_
     refine stM (off := 1) Tryz.sizeOf9 rfl (by rw [ho1]) rfl rfl rfl (.tail .head) ?_
     refine nl ?_
     refine sq ?_
     refine sr ?_
     have ex1_2 : x1_2 = decV 3 (decP [] v false) false false x1_1.2 := (hx1_2.trans (step_yes (by decide) (show (0 : Int) ≤ v by omega) (Or.inl (by decide)))).trans (decF'_val (by decide) (rfl))
     refine cl rfl rfl rfl (d3 hR123 ex1_2) rfl (fun v_ H1 L1 hle_ hR_ => ?_)
     obtain ⟨N128, rfl, hR128, rfl, rfl⟩ := hR_
     refine asg rfl rfl ?_
     refine nl ?_
     refine rg ?_
     refine mv rfl rfl ?_
     refine mv rfl rfl ?_
     refine nc rfl rfl ?_
     refine fa F83_2 rfl rfl ?_
     refine stM (off := 2) Tryz.sizeOf21 rfl (by rw [ho1]) rfl rfl rfl (.tail .head) ?_
     refine nl ?_
     refine sq ?_
     refine sr ?_
     refine mv rfl rfl ?_
     refine ge rfl rfl rfl ?_
     refine nl ?_
     refine cutT (fun l' H' L' => ∃ (p1_3 : Option Addr), ∃ (Nj1_3 : Chunk), [(2, .bool false), (7, .pointer (some ⟨b_1, 0, none⟩)), (8, .int .i16 v), (9, .bool (decide ((9 : Int) ≤ v))), (10, .pointer (some ⟨b, 0, none⟩)), (12, .slice none 0 0), (13, .slice a1 (lT x1.1).length c1), (14, .int .i32 (rArr false x0.2).1), (15, .int .i32 (k1 : Int)), (17, .pointer (some ⟨g1, 0 + k1 * 5, none⟩))] = l' ∧ Nj1_3 :: [(g1, .cells ((es1.flatMap fk) ++ ([.int .i32 (IntKind.i32.wrap x1_0.1.n), .string ⟨x1_1.1.s.toArray⟩, .int .i32 (IntKind.i32.wrap x1_2.1.n), .pointer p1_3, .map none] : List Value) ++ po1).toArray 83 (0, 0))] :: [(b, .cells [.int .i16 v, .int .i32 (IntKind.i32.wrap x0.1.n), .slice none 0 0, .pointer none, .int .i32 (-1), .slice none 0 0, .int .i32 (-2147483648), .int .i16 0, .map none].toArray 78 (0, 0))] :: L = L' ∧ RdAt H' 104 b_1 x1_3.2 Nj1_3 ∧ TextAt H' x1_3.1 p1_3) ?_ (fun l' H' L' le_9 hI => ?_)
     ·
      refine cd rfl (fun h134 => ?_) (fun h134 => ?_)
      ·
       refine sr ?_
       refine asg rfl rfl ?_
       refine nl ?_
       refine sq ?_
       refine sr ?_
       refine mv rfl rfl ?_
       refine nl ?_
       refine cdF rfl (by omega) ?_
       refine sr ?_
       refine mv rfl rfl ?_
       refine nl ?_
       refine cF rfl ?_
       refine rg ?_
       have ex1_3 : x1_3 = decV 8 (decP [] v false) true false x1_2.2 := (hx1_3.trans (step_yes (by decide) (show (1 : Int) ≤ v by omega) (Or.inl (by decide)))).trans (decF'_val (by decide) (by simp only [Bool.and_eq_true, decide_eq_true_eq]; exact ⟨show (0 : Int) ≤ 1 by decide, show (1 : Int) ≤ v by omega⟩))
       refine cl rfl rfl rfl (d8fn hR128 ex1_3) rfl (fun v_ H1 L1 le_10 hR_ => ?_)
       obtain ⟨N141, rfl, hR141, p1_3, rfl, hf1_3⟩ := hR_
       refine asg rfl rfl ?_
       refine nl ?_
       refine rg ?_
       refine mv rfl rfl ?_
       refine mv rfl rfl ?_
       refine nc rfl rfl ?_
       refine fa F83_3 rfl rfl ?_
       refine stM (off := 3) Tryz.sizeOf72 rfl (by rw [ho1]) rfl rfl rfl (.tail .head) ?_
       refine nN ?_
       refine fun a_ w_ hA hw => ⟨_, _, _, hA.sub ?_, le_10, hw, p1_3, N141, rfl, rfl, hR141, hf1_3⟩
       exact (.cons rfl (.cons rfl (.cons rfl (.cons rfl (.cons rfl (.cons rfl (.cons rfl (.cons rfl (.cons rfl (.cons rfl (.nil _)))))))))))
      ·
       refine skN ?_
       obtain rfl : x1_3 = ((Tr.mk 0 [] true [] []), x1_2.2) := (hx1_3.trans (step_no (Or.inl (show v < (1 : Int) by omega)))).trans (by rw [dflF_eq]; rfl)
       refine fun a_ w_ hA hw => ⟨_, _, _, hA.sub ?_, ler, hw, none, N128, rfl, rfl, hR128, TextAt.dfl⟩
       exact (.cons rfl (.cons rfl (.cons rfl (.cons rfl (.cons rfl (.cons rfl (.cons rfl (.cons rfl (.cons rfl (.cons rfl (.nil _)))))))))))
     ·
      obtain ⟨p1_3, Nj1_3, rfl, rfl, pj0, pj1⟩ := hI
      have hRj1_3 := pj0
      have hf1_3 := pj1
      refine sr ?_
      refine mv rfl rfl ?_
      refine nl ?_
      refine cdF rfl (by omega) ?_
      refine skN ?_
      refine Nb ?_
      refine Nt ?_
      refine rg ?_
      refine mv rfl rfl ?_
      refine ad rfl rfl (c := ((k1 + 1 : Nat) : Int)) ((wrap32_le (by omega) (by omega)).trans (by omega)) rfl ?_
      refine asg rfl rfl ?_
      refine nN ?_
      obtain rfl : u1_ = ([], x1_3.2) := hu1_
      have hfs1 := flatMap_snoc' fk es1 ((⟨([.int .i32 (IntKind.i32.wrap x1_0.1.n), .string ⟨x1_1.1.s.toArray⟩, .int .i32 (IntKind.i32.wrap x1_2.1.n), .pointer p1_3, .map none] : List Value), rfl, all_one rfl⟩, ((decV 10 (decP fs_sMetadataResponseBroker v false) false false) (rMany (decV 10 (decP fs_sMetadataResponseBroker v false) false false) k1 (rArr false x0.2).2).2).1) : KE 5)
      have hrw1 := hbk1 ([.int .i32 (IntKind.i32.wrap x1_0.1.n), .string ⟨x1_1.1.s.toArray⟩, .int .i32 (IntKind.i32.wrap x1_2.1.n), .pointer p1_3, .map none] : List Value) rfl
      refine tfN (.tail .head) ?_
      refine fun a_ w_ hA hw => ⟨hkl1, _, _, _, hA.sub ?_, (le_5.trans le_9), hw, _, _, _, rfl, rfl, (by rw [rMany_succ]; show RdAt _ 104 b_1 (decP fs_sMetadataResponseBroker v false (rMany (decV 10 (decP fs_sMetadataResponseBroker v false) false false) k1 (rArr false x0.2).2).2).2 _; rw [hD1_]; exact hRj1_3), (by rw [← hfs1]; exact hrw1), (dec_els he_1), (fun p hp => (mem_snoc hp).elim (fun h => At_MetadataResponseBroker.mono _ _ _ _ le_9 (hg_1 p h)) (fun h => h ▸ (by show At_MetadataResponseBroker _ (decP fs_sMetadataResponseBroker v false (rMany (decV 10 (decP fs_sMetadataResponseBroker v false) false false) k1 (rArr false x0.2).2).2).1 [.int .i32 (IntKind.i32.wrap x1_0.1.n), .string ⟨x1_1.1.s.toArray⟩, .int .i32 (IntKind.i32.wrap x1_2.1.n), .pointer p1_3, .map none]; rw [hD1_]; exact ⟨p1_3, none, rfl, hf1_3, (KvAt.nil _)⟩)))⟩
      exact (.of ⟨rfl, rfl, rfl, rfl, rfl, rfl, rfl, rfl, rfl, trivial⟩)
    ·
     have hkn_ : k1 = (lT x1.1).length := by omega
     subst hkn_
     have hw2_1 : Row 83 5 a1 (lT x1.1).length c1 (es1.flatMap fk) M1 := by have h := hw_1; rw [Nat.sub_self] at h; simpa [reps] using h
     refine frW hw2_1 .head (fun Hf1 hlf1 hfz1 => ?_)
     have hrs1 := RowsAt.row (R := At_MetadataResponseBroker) hfz1 hs_1.symm hw2_1.le.1 (fun p hp => At_MetadataResponseBroker.mono _ _ _ _ hlf1 (hg_1 p hp))
     rw [he_1] at hrs1
     have hf1 : ListAt Hf1 x1.1 5 At_MetadataResponseBroker a1 c1 := by rw [ex1]; exact listAt_of hrs1 hi1 (fun h => by have h1 := nul_le h; rw [show (lT x1.1).length = 0 by omega]; rfl)
     have hRx1 : RdAt Hf1 104 b_1 x1.2 RN1 := by rw [ex1]; exact (hR_1.mono hlf1)
     refine exX ?_
     refine XT ?_
     refine XT ?_
     refine Xb ?_
     refine Nt ?_
     refine sr ?_
     refine mv rfl rfl ?_
     refine asg rfl rfl ?_
     refine nl ?_
     refine rg ?_
     refine mv rfl rfl ?_
     refine mv rfl rfl ?_
     refine nc rfl rfl ?_
     refine fa0 F78_2 rfl rfl ?_
     refine st Tryz.sizeOf71 rfl rfl rfl rfl (.tail .head) ?_
     refine nl ?_
     refine sq ?_
     refine sr ?_
     refine mv rfl rfl ?_
     refine ge rfl rfl rfl ?_
     refine nl ?_
     refine cutT (fun l' H' L' => ∃ (p2 : Option Addr), ∃ (Nj2 : Chunk), [(2, .bool false), (7, .pointer (some ⟨b_1, 0, none⟩)), (8, .int .i16 v), (9, .bool (decide ((9 : Int) ≤ v))), (10, .pointer (some ⟨b, 0, none⟩))] = l' ∧ Nj2 :: [(b, .cells [.int .i16 v, .int .i32 (IntKind.i32.wrap x0.1.n), .slice a1 (lT x1.1).length c1, .pointer p2, .int .i32 (-1), .slice none 0 0, .int .i32 (-2147483648), .int .i16 0, .map none].toArray 78 (0, 0))] :: L = L' ∧ RdAt H' 104 b_1 x2.2 Nj2 ∧ TextAt H' x2.1 p2) ?_ (fun l' H' L' le_11 hI => ?_)
     ·
      refine cd rfl (fun h157 => ?_) (fun h157 => ?_)
      ·
       refine sr ?_
       refine asg rfl rfl ?_
       refine nl ?_
       refine sq ?_
       refine sr ?_
       refine mv rfl rfl ?_
       refine nl ?_
       refine cdF rfl (by omega) ?_
       refine sr ?_
       refine mv rfl rfl ?_
       refine nl ?_
       refine cF rfl ?_
       refine rg ?_
       have ex2 : x2 = decV 8 (decP [] v false) true false x1.2 := (hx2.trans (step_yes (by decide) (show (2 : Int) ≤ v by omega) (Or.inl (by decide)))).trans (decF'_val (by decide) (by simp only [Bool.and_eq_true, decide_eq_true_eq]; exact ⟨show (0 : Int) ≤ 2 by decide, show (2 : Int) ≤ v by omega⟩))
       refine cl rfl rfl rfl (d8fn hRx1 ex2) rfl (fun v_ H1 L1 le_12 hR_ => ?_)
       obtain ⟨N164, rfl, hR164, p2, rfl, hf2⟩ := hR_
       refine asg rfl rfl ?_
       refine nl ?_
       refine rg ?_
       refine mv rfl rfl ?_
       refine mv rfl rfl ?_
       refine nc rfl rfl ?_
       refine fa0 F78_3 rfl rfl ?_
       refine st Tryz.sizeOf72 rfl rfl rfl rfl (.tail .head) ?_
       refine nN ?_
       refine fun a_ w_ hA hw => ⟨_, _, _, hA.sub ?_, le_12, hw, p2, N164, rfl, rfl, hR164, hf2⟩
       exact (.cons rfl (.cons rfl (.cons rfl (.cons rfl (.cons rfl (.nil _))))))
      ·
       refine skN ?_
       obtain rfl : x2 = ((Tr.mk 0 [] true [] []), x1.2) := (hx2.trans (step_no (Or.inl (show v < (2 : Int) by omega)))).trans (by rw [dflF_eq]; rfl)
       refine fun a_ w_ hA hw => ⟨_, _, _, hA.sub ?_, ler, hw, none, RN1, rfl, rfl, hRx1, TextAt.dfl⟩
       exact (.cons rfl (.cons rfl (.cons rfl (.cons rfl (.cons rfl (.nil _))))))
     ·
      obtain ⟨p2, Nj2, rfl, rfl, pj0, pj1⟩ := hI
      have hRj2 := pj0
      have hf2 := pj1
      refine sq ?_
      refine sr ?_
      refine mv rfl rfl ?_
      refine ge rfl rfl rfl ?_
      refine nl ?_
      refine cutT (fun l' H' L' => ∃ (Nj3 : Chunk), [(2, .bool false), (7, .pointer (some ⟨b_1, 0, none⟩)), (8, .int .i16 v), (9, .bool (decide ((9 : Int) ≤ v))), (10, .pointer (some ⟨b, 0, none⟩))] = l' ∧ Nj3 :: [(b, .cells [.int .i16 v, .int .i32 (IntKind.i32.wrap x0.1.n), .slice a1 (lT x1.1).length c1, .pointer p2, .int .i32 (IntKind.i32.wrap x3.1.n), .slice none 0 0, .int .i32 (-2147483648), .int .i16 0, .map none].toArray 78 (0, 0))] :: L = L' ∧ RdAt H' 104 b_1 x3.2 Nj3) ?_ (fun l' H' L' le_13 hI => ?_)
      ·
       refine cd rfl (fun h170 => ?_) (fun h170 => ?_)
       ·
        refine sr ?_
        have ex3 : x3 = decV 3 (decP [] v false) false false x2.2 := (hx3.trans (step_yes (by decide) (show (1 : Int) ≤ v by omega) (Or.inl (by decide)))).trans (decF'_val (by decide) (rfl))
        refine cl rfl rfl rfl (d3 hRj2 ex3) rfl (fun v_ H1 L1 hle_ hR_ => ?_)
        obtain ⟨N171, rfl, hR171, rfl, rfl⟩ := hR_
        refine asg rfl rfl ?_
        refine nl ?_
        refine rg ?_
        refine mv rfl rfl ?_
        refine mv rfl rfl ?_
        refine nc rfl rfl ?_
        refine fa0 F78_4 rfl rfl ?_
        refine st Tryz.sizeOf21 rfl rfl rfl rfl (.tail .head) ?_
        refine nN ?_
        refine fun a_ w_ hA hw => ⟨_, _, _, hA.sub ?_, ler, hw, N171, rfl, rfl, hR171⟩
        exact (.cons rfl (.cons rfl (.cons rfl (.cons rfl (.cons rfl (.nil _))))))
       ·
        refine skN ?_
        obtain rfl : x3 = ((Tr.mk (-1) [] false [] []), x2.2) := (hx3.trans (step_no (Or.inl (show v < (1 : Int) by omega)))).trans (by rw [dflF_eq]; rfl)
        refine fun a_ w_ hA hw => ⟨_, _, _, hA.sub ?_, ler, hw, Nj2, rfl, rfl, hRj2⟩
        exact (.cons rfl (.cons rfl (.cons rfl (.cons rfl (.cons rfl (.nil _))))))
      ·
       obtain ⟨Nj3, rfl, rfl, pj0⟩ := hI
       have hRj3 := pj0
       refine sq ?_
       refine sr ?_
       refine mv rfl rfl ?_
       refine nc rfl rfl ?_
       refine fa0 F78_5 rfl rfl ?_
       refine ld (Says.own (.tail .head)) Tryz.isAgg73 rfl (Nat.zero_add _).symm rfl rfl ?_
       refine asg rfl rfl ?_
       refine nl ?_
       refine sr ?_
       refine mv rfl rfl ?_
       refine asg rfl rfl ?_
       refine nl ?_
       refine sr ?_
       refine asg rfl rfl ?_
       refine nl ?_
       refine sq ?_
       refine sr ?_
       refine mv rfl rfl ?_
       refine nl ?_
       refine cdF rfl (by omega) ?_
       refine rg ?_
       have ey4 : x4 = (.mk 0 [] (if 0 ≤ ((-1) : Int) ∧ (v < ((-1) : Int) ∨ (rArr false x3.2).1 = 0) then false else decide ((rArr false x3.2).1 ≤ 0)) (rMany (decV 10 (decP fs_sMetadataResponseTopic v false) false false) (rArr false x3.2).1.toNat (rArr false x3.2).2).1 [], (rMany (decV 10 (decP fs_sMetadataResponseTopic v false) false false) (rArr false x3.2).1.toNat (rArr false x3.2).2).2) := (hx4.trans (step_yes (by decide) (show (0 : Int) ≤ v by omega) (Or.inl (by decide)))).trans (decF'_list rfl rfl)
       have hn4 : (rArr false x3.2).1.toNat = (lT x4.1).length := by rw [ey4]; exact (lT_many nul_le).symm
       have ex4 := ey4
       rw [hn4] at ex4
       have hl4 := rArr_le false x3.2
       have hm4 : (rArr false x3.2).2.s.length ≤ BR := Nat.le_trans (rArr_len false x3.2) hL3
       have hnb4 : (lT x4.1).length ≤ BR := by omega
       refine cl rfl rfl rfl (r_arrf hRj3) rfl (fun v_ H1 L1 hle_ hR_ => ?_)
       obtain ⟨rfl, N183, rfl, hR183, rfl⟩ := hR_
       have hh4 := rArr_hi false x3.2
       refine asg rfl rfl ?_
       refine nl ?_
       refine sq ?_
       refine sr ?_
       refine cl rfl rfl rfl (r_ok hR183) rfl (fun v_ H1 L1 hle_ hR_ => ?_)
       obtain ⟨rfl, rfl, rfl⟩ := hR_
       refine nt rfl rfl ?_
       refine nl ?_
       refine cb rfl (fun h185 => ?_) (fun h185 => ?_)
       ·
        have hbad_ : (rArr false x3.2).2.bad = true := by simpa using h185
        refine sr ?_
        refine cl rfl rfl rfl (r_complete hR183 (he.mono (le_2.trans (le_4.trans (le_5.trans (hlf1.trans (le_11.trans le_13))))))) rfl (fun v_ H1 L1 hle_ hR_ => ?_)
        obtain ⟨rfl, rfl, rfl⟩ := hR_
        refine asg rfl rfl ?_
        refine nl ?_
        refine drW .head ?_
        exact rT rfl rfl (le_2.trans (le_4.trans (le_5.trans (hlf1.trans (le_11.trans le_13))))) (fun _ _ h => h) ⟨_, rfl, RdEnd.out (hB4 (by rw [ey4]; exact rMany_bad (fun r h => decV_bad (decP_bad _ _ _) h) _ _ hbad_)) hbad_⟩
       ·
        refine skt ?_
        refine sr ?_
        refine mv rfl rfl ?_
        refine sh' (j := 0) Tryz.runUnderlying73 Tryz.sizeOf90 rfl rfl rfl (Nat.zero_le _) rfl ?_
        refine asg rfl rfl ?_
        refine nl ?_
        refine sq ?_
        refine sr ?_
        refine mv rfl rfl ?_
        refine gt rfl rfl rfl ?_
        refine nl ?_
        refine nulC2 ?_
        refine cutT (fun l' H' L' => ∃ (a4 : Option Addr), ∃ (c4 : Nat), ∃ (Nr4 : Chunk), [(2, .bool false), (7, .pointer (some ⟨b_1, 0, none⟩)), (8, .int .i16 v), (9, .bool (decide ((9 : Int) ≤ v))), (10, .pointer (some ⟨b, 0, none⟩)), (24, .slice none 0 0), (25, .slice a4 (lT x4.1).length c4), (26, .int .i32 (rArr false x3.2).1)] = l' ∧ Nr4 :: N183 :: [(b, .cells [.int .i16 v, .int .i32 (IntKind.i32.wrap x0.1.n), .slice a1 (lT x1.1).length c1, .pointer p2, .int .i32 (IntKind.i32.wrap x3.1.n), .slice none 0 0, .int .i32 (-2147483648), .int .i16 0, .map none].toArray 78 (0, 0))] :: L = L' ∧ Row 90 22 a4 (lT x4.1).length c4 (reps [.int .i16 0, .pointer none, .int .u8 0, .int .u8 0, .int .u8 0, .int .u8 0, .int .u8 0, .int .u8 0, .int .u8 0, .int .u8 0, .int .u8 0, .int .u8 0, .int .u8 0, .int .u8 0, .int .u8 0, .int .u8 0, .int .u8 0, .int .u8 0, .bool false, .slice none 0 0, .int .i32 0, .map none] (lT x4.1).length) Nr4 ∧ a4.isNone = (if 0 ≤ ((-1) : Int) ∧ (v < ((-1) : Int) ∨ (rArr false x3.2).1 = 0) then false else decide ((rArr false x3.2).1 ≤ 0))) ?_ (fun l' H' L' le_15 hI => ?_)
        ·
         refine cd rfl (fun h190 => ?_) (fun h190 => ?_)
         ·
          refine rg ?_
          refine mv rfl rfl ?_
          refine mv rfl rfl ?_
          refine apz (zs := [.int .i16 0, .pointer none, .int .u8 0, .int .u8 0, .int .u8 0, .int .u8 0, .int .u8 0, .int .u8 0, .int .u8 0, .int .u8 0, .int .u8 0, .int .u8 0, .int .u8 0, .int .u8 0, .int .u8 0, .int .u8 0, .int .u8 0, .int .u8 0, .bool false, .slice none 0 0, .int .i32 0, .map none]) (m := (lT x4.1).length) Tryz.underlying73 Tryz.underlying21 I90 rfl rfl rfl (by omega) (by omega) (by have h9 := hnb4; unfold BR at h9; omega) (by have h9 := hnb4; unfold BR at h9; unfold maxLen; omega) rfl (fun g193 cp193 N193 r193 => ?_)
          refine asg rfl rfl ?_
          refine nN ?_
          refine drN (.tail .head) ?_
          refine fun a_ w_ hA hw => ⟨_, _, _, hA.sub ?_, ler, hw, (some ⟨g193, 0, none⟩), cp193, N193, rfl, rfl, r193, (by rw [if_neg (by omega)]; exact (decide_eq_false (by omega)).symm)⟩
          exact (.cons rfl (.cons rfl (.cons rfl (.cons rfl (.cons rfl (.cons rfl (.cons rfl (.cons rfl (.nil _)))))))))
         ·
          refine skN ?_
          refine fun a_ w_ hA hw => ⟨_, _, _, hA.sub ?_, ler, hw, none, 0, [], rfl, rfl, (by rw [show (lT x4.1).length = 0 by omega]; exact (Row.nil _ _)), (by rw [if_neg (by omega)]; exact (decide_eq_true (by omega)).symm)⟩
          exact (.cons rfl (.cons rfl (.cons rfl (.cons rfl (.cons rfl (.cons rfl (.cons (by rw [show (lT x4.1).length = 0 by omega]; rfl) (.cons rfl (.nil _)))))))))
        ·
         obtain ⟨a4, c4, Nr4, rfl, rfl, pj0, pj1⟩ := hI
         have hr4 := pj0
         have hi4 := pj1
         refine sq ?_
         refine sr ?_
         refine asg rfl rfl ?_
         refine nl ?_
         refine bl (lp ((lT x4.1).length) (fun k4 l' H' L' => ∃ (es4 : List (KE 22)) (M4 RN4 : Chunk), [(2, .bool false), (7, .pointer (some ⟨b_1, 0, none⟩)), (8, .int .i16 v), (9, .bool (decide ((9 : Int) ≤ v))), (10, .pointer (some ⟨b, 0, none⟩)), (24, .slice none 0 0), (25, .slice a4 (lT x4.1).length c4), (26, .int .i32 (rArr false x3.2).1), (27, .int .i32 (k4 : Int))] = l' ∧ M4 :: RN4 :: [(b, .cells [.int .i16 v, .int .i32 (IntKind.i32.wrap x0.1.n), .slice a1 (lT x1.1).length c1, .pointer p2, .int .i32 (IntKind.i32.wrap x3.1.n), .slice none 0 0, .int .i32 (-2147483648), .int .i16 0, .map none].toArray 78 (0, 0))] :: L = L' ∧ RdAt H' 104 b_1 (rMany (decV 10 (decP fs_sMetadataResponseTopic v false) false false) k4 (rArr false x3.2).2).2 RN4 ∧ Row 90 22 a4 (lT x4.1).length c4 (es4.flatMap fk ++ reps [.int .i16 0, .pointer none, .int .u8 0, .int .u8 0, .int .u8 0, .int .u8 0, .int .u8 0, .int .u8 0, .int .u8 0, .int .u8 0, .int .u8 0, .int .u8 0, .int .u8 0, .int .u8 0, .int .u8 0, .int .u8 0, .int .u8 0, .int .u8 0, .bool false, .slice none 0 0, .int .i32 0, .map none] ((lT x4.1).length - k4)) M4 ∧ es4.map (·.2) = (rMany (decV 10 (decP fs_sMetadataResponseTopic v false) false false) k4 (rArr false x3.2).2).1 ∧ ∀ p ∈ es4, At_MetadataResponseTopic H' p.2 (fk p)) [(2, .bool false), (7, .pointer (some ⟨b_1, 0, none⟩)), (8, .int .i16 v), (9, .bool (decide ((9 : Int) ≤ v))), (10, .pointer (some ⟨b, 0, none⟩)), (24, .slice none 0 0), (25, .slice a4 (lT x4.1).length c4), (26, .int .i32 (rArr false x3.2).1), (27, .int .i32 (0 : Int))] (.of ⟨rfl, rfl, rfl, rfl, rfl, rfl, rfl, rfl, rfl, trivial⟩) ⟨[], Nr4, _, rfl, rfl, (hR183.mono le_15), hr4, rfl, (fun p hp => by cases hp)⟩ (fun k4 l' H' L' hk4 le_16 hI => ?_))
         obtain ⟨es4, M4, RN4, rfl, rfl, hR_4, hw_4, he_4, hg_4⟩ := hI
         have hs_4 := els_len he_4
         have hp_4 : (es4.flatMap fk).length = k4 * 22 := els_flat hs_4
         refine sq ?_
         refine sr ?_
         refine mv rfl rfl ?_
         refine mv rfl rfl ?_
         refine lt rfl rfl rfl ?_
         refine nl ?_
         refine cd rfl (fun h196 => ?_) (fun h196 => ?_)
         ·
          have hkl4 : k4 < (lT x4.1).length := by omega
          obtain ⟨g4, po4, hga4, rfl, hbk4⟩ := hw_4.next (zs := [.int .i16 0, .pointer none, .int .u8 0, .int .u8 0, .int .u8 0, .int .u8 0, .int .u8 0, .int .u8 0, .int .u8 0, .int .u8 0, .int .u8 0, .int .u8 0, .int .u8 0, .int .u8 0, .int .u8 0, .int .u8 0, .int .u8 0, .int .u8 0, .bool false, .slice none 0 0, .int .i32 0, .map none]) hkl4 rfl (by decide)
          have ho4 : 0 + k4 * 22 = (es4.flatMap fk).length := by rw [hp_4]; omega
          have hbz4 : ((decV 10 (decP fs_sMetadataResponseTopic v false) false false) (rMany (decV 10 (decP fs_sMetadataResponseTopic v false) false false) k4 (rArr false x3.2).2).2).2.bad = true → (decP fs_MetadataResponse v false ⟨s, false, !a.isNone⟩).2.bad = true := fun h => hB4 (by rw [ex4]; exact rMany_mono (fun r h => decV_bad (fun r h => decP_bad _ _ _ r h) h) _ (show k4 + 1 ≤ (lT x4.1).length from hkl4) (by rw [rMany_succ]; exact h))
          have hLk4 : (rMany (decV 10 (decP fs_sMetadataResponseTopic v false) false false) k4 (rArr false x3.2).2).2.s.length ≤ BR := Nat.le_trans (rMany_shr (fun r => decV_shr (fun r => decP_shr _ _ _ r) r) _ _) hm4
          have hL4__ := hLk4
          obtain ⟨x4_0, hx4_0⟩ : ∃ x, x = stepF (Fd.mk 2 0 (-1) (-1) (-1) 0 0 []) v false (rMany (decV 10 (decP fs_sMetadataResponseTopic v false) false false) k4 (rArr false x3.2).2).2 := ⟨_, rfl⟩
          obtain ⟨x4_1, hx4_1⟩ : ∃ x, x = stepF (Fd.mk 8 0 (-1) 12 (-1) 0 0 []) v false x4_0.2 := ⟨_, rfl⟩
          obtain ⟨x4_2, hx4_2⟩ : ∃ x, x = stepF (Fd.mk 7 10 (-1) (-1) (-1) 0 0 []) v false x4_1.2 := ⟨_, rfl⟩
          obtain ⟨x4_3, hx4_3⟩ : ∃ x, x = stepF (Fd.mk 0 1 (-1) (-1) (-1) 0 0 []) v false x4_2.2 := ⟨_, rfl⟩
          obtain ⟨x4_4, hx4_4⟩ : ∃ x, x = stepF (Fd.mk 11 0 (-1) (-1) (-1) 0 10 fs_sMetadataResponseTopicPartition) v false x4_3.2 := ⟨_, rfl⟩
          obtain ⟨x4_5, hx4_5⟩ : ∃ x, x = stepF (Fd.mk 3 8 (-1) (-1) (-1) (-2147483648) 0 []) v false x4_4.2 := ⟨_, rfl⟩
          obtain ⟨u4_, hu4_⟩ : ∃ x, x = tailU false x4_5.2 := ⟨_, rfl⟩
          have hD4_ : decP fs_sMetadataResponseTopic v false (rMany (decV 10 (decP fs_sMetadataResponseTopic v false) false false) k4 (rArr false x3.2).2).2 = (.mk 0 [] false [x4_0.1, x4_1.1, x4_2.1, x4_3.1, x4_4.1, x4_5.1] u4_.1, u4_.2) := by
           generalize ((rMany (decV 10 (decP fs_sMetadataResponseTopic v false) false false) k4 (rArr false x3.2).2).2 : Rd) = r_ at hx4_0 ⊢
           rw [decP_eq]; unfold fs_sMetadataResponseTopic; simp only [decFs_cons, decFs_nil, ← hx4_0, ← hx4_1, ← hx4_2, ← hx4_3, ← hx4_4, ← hx4_5, ← hu4_]
          have hL4_0 : x4_0.2.s.length ≤ BR := by rw [hx4_0]; exact Nat.le_trans (stepF_shr _ _ _ _) hL4__
          have hL4_1 : x4_1.2.s.length ≤ BR := by rw [hx4_1]; exact Nat.le_trans (stepF_shr _ _ _ _) hL4_0
          have hL4_2 : x4_2.2.s.length ≤ BR := by rw [hx4_2]; exact Nat.le_trans (stepF_shr _ _ _ _) hL4_1
          have hL4_3 : x4_3.2.s.length ≤ BR := by rw [hx4_3]; exact Nat.le_trans (stepF_shr _ _ _ _) hL4_2
          have hL4_4 : x4_4.2.s.length ≤ BR := by rw [hx4_4]; exact Nat.le_trans (stepF_shr _ _ _ _) hL4_3
          have hL4_5 : x4_5.2.s.length ≤ BR := by rw [hx4_5]; exact Nat.le_trans (stepF_shr _ _ _ _) hL4_4
          have hE4_ : u4_.2.bad = true → (decP fs_MetadataResponse v false ⟨s, false, !a.isNone⟩).2.bad = true := fun h => hbz4 (by show (decP fs_sMetadataResponseTopic v false (rMany (decV 10 (decP fs_sMetadataResponseTopic v false) false false) k4 (rArr false x3.2).2).2).2.bad = true; rw [hD4_]; exact h)
          have hB4_5 : x4_5.2.bad = true → (decP fs_MetadataResponse v false ⟨s, false, !a.isNone⟩).2.bad = true := fun h => hE4_ (by rw [hu4_]; exact tailU_bad h)
          have hB4_4 : x4_4.2.bad = true → (decP fs_MetadataResponse v false ⟨s, false, !a.isNone⟩).2.bad = true := fun h => hB4_5 (by rw [hx4_5]; exact step_bad h)
          have hB4_3 : x4_3.2.bad = true → (decP fs_MetadataResponse v false ⟨s, false, !a.isNone⟩).2.bad = true := fun h => hB4_4 (by rw [hx4_4]; exact step_bad h)
          have hB4_2 : x4_2.2.bad = true → (decP fs_MetadataResponse v false ⟨s, false, !a.isNone⟩).2.bad = true := fun h => hB4_3 (by rw [hx4_3]; exact step_bad h)
          have hB4_1 : x4_1.2.bad = true → (decP fs_MetadataResponse v false ⟨s, false, !a.isNone⟩).2.bad = true := fun h => hB4_2 (by rw [hx4_2]; exact step_bad h)
          have hB4_0 : x4_0.2.bad = true → (decP fs_MetadataResponse v false ⟨s, false, !a.isNone⟩).2.bad = true := fun h => hB4_1 (by rw [hx4_1]; exact step_bad h)
          refine skt ?_
          refine sq ?_
          refine bl ?_
          refine sr ?_
          refine mv rfl rfl ?_
          refine mv rfl rfl ?_
          refine ixk (j := k4) Tryz.runUnderlying73 Tryz.sizeOf90 rfl hga4 rfl rfl hkl4 rfl ?_
          refine asg rfl rfl ?_
          refine nl ?_
          refine sr ?_
          refine mv rfl rfl ?_
          refine cl rfl rfl rfl (def_MetadataResponseTopic ho4) rfl (fun v_ H1 L1 hle_ hR_ => ?_)
          obtain ⟨rfl, rfl⟩ := hR_
          refine nl ?_
          refine sr ?_
          refine mv rfl rfl ?_
          refine asg rfl rfl ?_
          refine nl ?_
          refine sq ?_
          refine sr ?_
          refine tf (.tail .head) ?_
          have ex4_0 : x4_0 = decV 2 (decP [] v false) false false (rMany (decV 10 (decP fs_sMetadataResponseTopic v false) false false) k4 (rArr false x3.2).2).2 := (hx4_0.trans (step_yes (by decide) (show (0 : Int) ≤ v by omega) (Or.inl (by decide)))).trans (decF'_val (by decide) (rfl))
          refine cl rfl rfl rfl (d2 hR_4 ex4_0) rfl (fun v_ H1 L1 hle_ hR_ => ?_)
          obtain ⟨N205, rfl, hR205, rfl, rfl⟩ := hR_
          refine asg rfl rfl ?_
          refine nl ?_
          refine rg ?_
          refine mv rfl rfl ?_
          refine mv rfl rfl ?_
          refine nc rfl rfl ?_
          refine fa F90_0 rfl rfl ?_
          refine stM (off := 0) Tryz.sizeOf46 rfl (by rw [ho4]) rfl rfl rfl (.tail .head) ?_
          refine nl ?_
          refine sq ?_
          refine sr ?_
          refine asg rfl rfl ?_
          refine nl ?_
          refine sq ?_
          refine sr ?_
          refine mv rfl rfl ?_
          refine lt rfl rfl rfl ?_
          refine nl ?_
          refine cdT rfl (by omega) ?_
          refine sr ?_
          refine al Tryz.zeroValue9 rfl rfl (fun b_18 => ?_)
          refine nl ?_
          refine sq ?_
          refine sr ?_
          refine mv rfl rfl ?_
          refine nl ?_
          refine cdF rfl (by omega) ?_
          refine sr ?_
          refine mv rfl rfl ?_
          refine nl ?_
          refine cF rfl ?_
          refine rg ?_
          refine tf (.tail .head) ?_
          have ex4_1 : x4_1 = decV 8 (decP [] v false) false false x4_0.2 := (hx4_1.trans (step_yes (by decide) (show (0 : Int) ≤ v by omega) (Or.inl (by decide)))).trans (decF'_val (by decide) (by rw [Bool.and_eq_false_iff]; exact Or.inr (decide_eq_false (show ¬ (12 : Int) ≤ v by omega))))
          refine cl rfl rfl rfl (d8f hR205 ex4_1) rfl (fun v_ H1 L1 le_19 hR_ => ?_)
          obtain ⟨N218, rfl, hR218, rfl, rfl⟩ := hR_
          refine st Tryz.sizeOf9 rfl rfl rfl rfl (.tail .head) ?_
          refine nl ?_
          refine rg ?_
          refine asg rfl rfl ?_
          refine nl ?_
          refine rg ?_
          refine mv rfl rfl ?_
          refine mv rfl rfl ?_
          refine nc rfl rfl ?_
          refine fa F90_1 rfl rfl ?_
          refine stM (off := 1) Tryz.sizeOf72 rfl (by rw [ho4]) rfl rfl rfl (.tail (.tail .head)) ?_
          refine frL (Row.whole (size := 1) (m := 1) rfl (by decide)) (.tail .head) (fun Hp4_1 lp4_1 zp4_1 => ?_)
          have ap4_1 : Hp4_1.at b_18 0 [.string ⟨x4_1.1.s.toArray⟩] := by
           rcases zp4_1 with ⟨h, _⟩ | ⟨g, h, h2⟩
           · cases h
           · cases h; exact h2
          have hf4_1 : TextAt Hp4_1 x4_1.1 (some ⟨b_18, 0, none⟩) := ⟨by rw [ex4_1, dV8n]; rfl, fun ad h => by cases h; exact ⟨b_18, rfl, ap4_1⟩⟩
          refine nl ?_
          refine sq ?_
          refine sr ?_
          refine mv rfl rfl ?_
          refine ge rfl rfl rfl ?_
          refine nl ?_
          refine cdF rfl (by omega) ?_
          refine skt ?_
          refine sq ?_
          refine sr ?_
          refine mv rfl rfl ?_
          refine ge rfl rfl rfl ?_
          refine nl ?_
          obtain rfl : x4_2 = ((Tr.mk 0 (List.replicate 16 0) false [] []), x4_1.2) := (hx4_2.trans (step_no (Or.inl (show v < (10 : Int) by omega)))).trans (by rw [dflF_eq]; rfl)
          refine cutT (fun l' H' L' => ∃ (Nj4_3 : Chunk), [(2, .bool false), (7, .pointer (some ⟨b_1, 0, none⟩)), (8, .int .i16 v), (9, .bool (decide ((9 : Int) ≤ v))), (10, .pointer (some ⟨b, 0, none⟩)), (24, .slice none 0 0), (25, .slice a4 (lT x4.1).length c4), (26, .int .i32 (rArr false x3.2).1), (27, .int .i32 (k4 : Int)), (29, .pointer (some ⟨g4, 0 + k4 * 22, none⟩))] = l' ∧ Nj4_3 :: [(g4, .cells ((es4.flatMap fk) ++ ([.int .i16 (IntKind.i16.wrap x4_0.1.n), .pointer (some ⟨b_18, 0, none⟩), .int .u8 0, .int .u8 0, .int .u8 0, .int .u8 0, .int .u8 0, .int .u8 0, .int .u8 0, .int .u8 0, .int .u8 0, .int .u8 0, .int .u8 0, .int .u8 0, .int .u8 0, .int .u8 0, .int .u8 0, .int .u8 0, .bool (decide (x4_3.1.n % 2 = 1)), .slice none 0 0, .int .i32 (-2147483648), .map none] : List Value) ++ po4).toArray 90 (0, 0))] :: [(b, .cells [.int .i16 v, .int .i32 (IntKind.i32.wrap x0.1.n), .slice a1 (lT x1.1).length c1, .pointer p2, .int .i32 (IntKind.i32.wrap x3.1.n), .slice none 0 0, .int .i32 (-2147483648), .int .i16 0, .map none].toArray 78 (0, 0))] :: L = L' ∧ RdAt H' 104 b_1 x4_3.2 Nj4_3) ?_ (fun l' H' L' le_20 hI => ?_)
          ·
           refine cd rfl (fun h238 => ?_) (fun h238 => ?_)
           ·
            refine sr ?_
            have ex4_3 : x4_3 = decV 0 (decP [] v false) false false x4_1.2 := (hx4_3.trans (step_yes (by decide) (show (1 : Int) ≤ v by omega) (Or.inl (by decide)))).trans (decF'_val (by decide) (rfl))
            refine cl rfl rfl rfl (d0 (hR218.mono lp4_1) ex4_3) rfl (fun v_ H1 L1 hle_ hR_ => ?_)
            obtain ⟨N239, rfl, hR239, rfl, rfl⟩ := hR_
            refine asg rfl rfl ?_
            refine nl ?_
            refine rg ?_
            refine mv rfl rfl ?_
            refine mv rfl rfl ?_
            refine nc rfl rfl ?_
            refine fa F90_3 rfl rfl ?_
            refine stM (off := 18) Tryz.sizeOf4 rfl (by rw [ho4]) rfl rfl rfl (.tail .head) ?_
            refine nN ?_
            refine fun a_ w_ hA hw => ⟨_, _, _, hA.sub ?_, ler, hw, N239, rfl, rfl, hR239⟩
            exact (.cons rfl (.cons rfl (.cons rfl (.cons rfl (.cons rfl (.cons rfl (.cons rfl (.cons rfl (.cons rfl (.cons rfl (.nil _)))))))))))
           ·
            refine skN ?_
            obtain rfl : x4_3 = ((Tr.mk 0 [] false [] []), x4_1.2) := (hx4_3.trans (step_no (Or.inl (show v < (1 : Int) by omega)))).trans (by rw [dflF_eq]; rfl)
            refine fun a_ w_ hA hw => ⟨_, _, _, hA.sub ?_, ler, hw, N218, rfl, rfl, (hR218.mono lp4_1)⟩
            exact (.cons rfl (.cons rfl (.cons rfl (.cons rfl (.cons rfl (.cons rfl (.cons rfl (.cons rfl (.cons rfl (.cons rfl (.nil _)))))))))))
          ·
           obtain ⟨Nj4_3, rfl, rfl, pj0⟩ := hI
           have hRj4_3 := pj0
           refine sq ?_
           refine sr ?_
           refine mv rfl rfl ?_
           refine nc rfl rfl ?_
           refine fa F90_4 rfl rfl ?_
           refine ld (j := 19) (off := 0 + k4 * 22) (Says.mid (.tail .head) ho4) Tryz.isAgg88 rfl rfl rfl rfl ?_
           refine asg rfl rfl ?_
           refine nl ?_
           refine sr ?_
           refine mv rfl rfl ?_
           refine asg rfl rfl ?_
           refine nl ?_
           refine sr ?_
           refine asg rfl rfl ?_
           refine nl ?_
           refine sq ?_
           refine sr ?_
           refine mv rfl rfl ?_
           refine nl ?_
           refine cdF rfl (by omega) ?_
           refine rg ?_
           have ey4_4 : x4_4 = (.mk 0 [] (if 0 ≤ ((-1) : Int) ∧ (v < ((-1) : Int) ∨ (rArr false x4_3.2).1 = 0) then false else decide ((rArr false x4_3.2).1 ≤ 0)) (rMany (decV 10 (decP fs_sMetadataResponseTopicPartition v false) false false) (rArr false x4_3.2).1.toNat (rArr false x4_3.2).2).1 [], (rMany (decV 10 (decP fs_sMetadataResponseTopicPartition v false) false false) (rArr false x4_3.2).1.toNat (rArr false x4_3.2).2).2) := (hx4_4.trans (step_yes (by decide) (show (0 : Int) ≤ v by omega) (Or.inl (by decide)))).trans (decF'_list rfl rfl)
           have hn4_4 : (rArr false x4_3.2).1.toNat = (lT x4_4.1).length := by rw [ey4_4]; exact (lT_many nul_le).symm
           have ex4_4 := ey4_4
           rw [hn4_4] at ex4_4
           have hl4_4 := rArr_le false x4_3.2
           have hm4_4 : (rArr false x4_3.2).2.s.length ≤ BR := Nat.le_trans (rArr_len false x4_3.2) hL4_3
           have hnb4_4 : (lT x4_4.1).length ≤ BR := by omega
           refine cl rfl rfl rfl (r_arrf hRj4_3) rfl (fun v_ H1 L1 hle_ hR_ => ?_)
           obtain ⟨rfl, N251, rfl, hR251, rfl⟩ := hR_
           have hh4_4 := rArr_hi false x4_3.2
           refine asg rfl rfl ?_
           refine nl ?_
           refine sq ?_
           refine sr ?_
           refine cl rfl rfl rfl (r_ok hR251) rfl (fun v_ H1 L1 hle_ hR_ => ?_)
           obtain ⟨rfl, rfl, rfl⟩ := hR_
           refine nt rfl rfl ?_
           refine nl ?_
           refine cb rfl (fun h253 => ?_) (fun h253 => ?_)
           ·
            have hbad_ : (rArr false x4_3.2).2.bad = true := by simpa using h253
            refine sr ?_
            refine cl rfl rfl rfl (r_complete hR251 (he.mono (le_2.trans (le_4.trans (le_5.trans (hlf1.trans (le_11.trans (le_13.trans (le_15.trans (le_16.trans (lp4_1.trans le_20))))))))))) rfl (fun v_ H1 L1 hle_ hR_ => ?_)
            obtain ⟨rfl, rfl, rfl⟩ := hR_
            refine asg rfl rfl ?_
            refine nl ?_
            refine drW .head ?_
            refine drW .head ?_
            exact rT rfl rfl (le_2.trans (le_4.trans (le_5.trans (hlf1.trans (le_11.trans (le_13.trans (le_15.trans (le_16.trans (lp4_1.trans le_20))))))))) (fun _ _ h => h) ⟨_, rfl, RdEnd.out (hB4_4 (by rw [ey4_4]; exact rMany_bad (fun r h => decV_bad (decP_bad _ _ _) h) _ _ hbad_)) hbad_⟩
           ·
            refine skt ?_
            refine sr ?_
            refine mv rfl rfl ?_
            refine sh' (j := 0) Tryz.runUnderlying88 Tryz.sizeOf116 rfl rfl rfl (Nat.zero_le _) rfl ?_
            refine asg rfl rfl ?_
            refine nl ?_
            refine sq ?_
            refine sr ?_
            refine mv rfl rfl ?_
            refine gt rfl rfl rfl ?_
            refine nl ?_
            refine nulC2 ?_
            refine cutT (fun l' H' L' => ∃ (a4_4 : Option Addr), ∃ (c4_4 : Nat), ∃ (Nr4_4 : Chunk), [(2, .bool false), (7, .pointer (some ⟨b_1, 0, none⟩)), (8, .int .i16 v), (9, .bool (decide ((9 : Int) ≤ v))), (10, .pointer (some ⟨b, 0, none⟩)), (24, .slice none 0 0), (25, .slice a4 (lT x4.1).length c4), (26, .int .i32 (rArr false x3.2).1), (27, .int .i32 (k4 : Int)), (29, .pointer (some ⟨g4, 0 + k4 * 22, none⟩)), (35, .slice none 0 0), (36, .slice a4_4 (lT x4_4.1).length c4_4), (37, .int .i32 (rArr false x4_3.2).1)] = l' ∧ Nr4_4 :: N251 :: [(g4, .cells ((es4.flatMap fk) ++ ([.int .i16 (IntKind.i16.wrap x4_0.1.n), .pointer (some ⟨b_18, 0, none⟩), .int .u8 0, .int .u8 0, .int .u8 0, .int .u8 0, .int .u8 0, .int .u8 0, .int .u8 0, .int .u8 0, .int .u8 0, .int .u8 0, .int .u8 0, .int .u8 0, .int .u8 0, .int .u8 0, .int .u8 0, .int .u8 0, .bool (decide (x4_3.1.n % 2 = 1)), .slice none 0 0, .int .i32 (-2147483648), .map none] : List Value) ++ po4).toArray 90 (0, 0))] :: [(b, .cells [.int .i16 v, .int .i32 (IntKind.i32.wrap x0.1.n), .slice a1 (lT x1.1).length c1, .pointer p2, .int .i32 (IntKind.i32.wrap x3.1.n), .slice none 0 0, .int .i32 (-2147483648), .int .i16 0, .map none].toArray 78 (0, 0))] :: L = L' ∧ Row 116 8 a4_4 (lT x4_4.1).length c4_4 (reps [.int .i16 0, .int .i32 0, .int .i32 0, .int .i32 0, .slice none 0 0, .slice none 0 0, .slice none 0 0, .map none] (lT x4_4.1).length) Nr4_4 ∧ a4_4.isNone = (if 0 ≤ ((-1) : Int) ∧ (v < ((-1) : Int) ∨ (rArr false x4_3.2).1 = 0) then false else decide ((rArr false x4_3.2).1 ≤ 0))) ?_ (fun l' H' L' le_22 hI => ?_)
            ·
             refine cd rfl (fun h258 => ?_) (fun h258 => ?_)
             ·
              refine rg ?_
              refine mv rfl rfl ?_
              refine mv rfl rfl ?_
              refine apz (zs := [.int .i16 0, .int .i32 0, .int .i32 0, .int .i32 0, .slice none 0 0, .slice none 0 0, .slice none 0 0, .map none]) (m := (lT x4_4.1).length) Tryz.underlying88 Tryz.underlying21 I116 rfl rfl rfl (by omega) (by omega) (by have h9 := hnb4_4; unfold BR at h9; omega) (by have h9 := hnb4_4; unfold BR at h9; unfold maxLen; omega) rfl (fun g261 cp261 N261 r261 => ?_)
              refine asg rfl rfl ?_
              refine nN ?_
              refine drN (.tail .head) ?_
              refine fun a_ w_ hA hw => ⟨_, _, _, hA.sub ?_, ler, hw, (some ⟨g261, 0, none⟩), cp261, N261, rfl, rfl, r261, (by rw [if_neg (by omega)]; exact (decide_eq_false (by omega)).symm)⟩
              exact (.cons rfl (.cons rfl (.cons rfl (.cons rfl (.cons rfl (.cons rfl (.cons rfl (.cons rfl (.cons rfl (.cons rfl (.cons rfl (.cons rfl (.cons rfl (.nil _))))))))))))))
             ·
              refine skN ?_
              refine fun a_ w_ hA hw => ⟨_, _, _, hA.sub ?_, ler, hw, none, 0, [], rfl, rfl, (by rw [show (lT x4_4.1).length = 0 by omega]; exact (Row.nil _ _)), (by rw [if_neg (by omega)]; exact (decide_eq_true (by omega)).symm)⟩
              exact (.cons rfl (.cons rfl (.cons rfl (.cons rfl (.cons rfl (.cons rfl (.cons rfl (.cons rfl (.cons rfl (.cons rfl (.cons rfl (.cons (by rw [show (lT x4_4.1).length = 0 by omega]; rfl) (.cons rfl (.nil _))))))))))))))
            ·
             obtain ⟨a4_4, c4_4, Nr4_4, rfl, rfl, pj0, pj1⟩ := hI
             have hr4_4 := pj0
             have hi4_4 := pj1
             refine sq ?_
             refine sr ?_
             refine asg rfl rfl ?_
             refine nl ?_
             refine bl (lp ((lT x4_4.1).length) (fun k4_4 l' H' L' => ∃ (es4_4 : List (KE 8)) (M4_4 RN4_4 : Chunk), [(2, .bool false), (7, .pointer (some ⟨b_1, 0, none⟩)), (8, .int .i16 v), (9, .bool (decide ((9 : Int) ≤ v))), (10, .pointer (some ⟨b, 0, none⟩)), (24, .slice none 0 0), (25, .slice a4 (lT x4.1).length c4), (26, .int .i32 (rArr false x3.2).1), (27, .int .i32 (k4 : Int)), (29, .pointer (some ⟨g4, 0 + k4 * 22, none⟩)), (35, .slice none 0 0), (36, .slice a4_4 (lT x4_4.1).length c4_4), (37, .int .i32 (rArr false x4_3.2).1), (38, .int .i32 (k4_4 : Int))] = l' ∧ M4_4 :: RN4_4 :: [(g4, .cells ((es4.flatMap fk) ++ ([.int .i16 (IntKind.i16.wrap x4_0.1.n), .pointer (some ⟨b_18, 0, none⟩), .int .u8 0, .int .u8 0, .int .u8 0, .int .u8 0, .int .u8 0, .int .u8 0, .int .u8 0, .int .u8 0, .int .u8 0, .int .u8 0, .int .u8 0, .int .u8 0, .int .u8 0, .int .u8 0, .int .u8 0, .int .u8 0, .bool (decide (x4_3.1.n % 2 = 1)), .slice none 0 0, .int .i32 (-2147483648), .map none] : List Value) ++ po4).toArray 90 (0, 0))] :: [(b, .cells [.int .i16 v, .int .i32 (IntKind.i32.wrap x0.1.n), .slice a1 (lT x1.1).length c1, .pointer p2, .int .i32 (IntKind.i32.wrap x3.1.n), .slice none 0 0, .int .i32 (-2147483648), .int .i16 0, .map none].toArray 78 (0, 0))] :: L = L' ∧ RdAt H' 104 b_1 (rMany (decV 10 (decP fs_sMetadataResponseTopicPartition v false) false false) k4_4 (rArr false x4_3.2).2).2 RN4_4 ∧ Row 116 8 a4_4 (lT x4_4.1).length c4_4 (es4_4.flatMap fk ++ reps [.int .i16 0, .int .i32 0, .int .i32 0, .int .i32 0, .slice none 0 0, .slice none 0 0, .slice none 0 0, .map none] ((lT x4_4.1).length - k4_4)) M4_4 ∧ es4_4.map (·.2) = (rMany (decV 10 (decP fs_sMetadataResponseTopicPartition v false) false false) k4_4 (rArr false x4_3.2).2).1 ∧ ∀ p ∈ es4_4, At_MetadataResponseTopicPartition H' p.2 (fk p)) [(2, .bool false), (7, .pointer (some ⟨b_1, 0, none⟩)), (8, .int .i16 v), (9, .bool (decide ((9 : Int) ≤ v))), (10, .pointer (some ⟨b, 0, none⟩)), (24, .slice none 0 0), (25, .slice a4 (lT x4.1).length c4), (26, .int .i32 (rArr false x3.2).1), (27, .int .i32 (k4 : Int)), (29, .pointer (some ⟨g4, 0 + k4 * 22, none⟩)), (35, .slice none 0 0), (36, .slice a4_4 (lT x4_4.1).length c4_4), (37, .int .i32 (rArr false x4_3.2).1), (38, .int .i32 (0 : Int))] (.of ⟨rfl, rfl, rfl, rfl, rfl, rfl, rfl, rfl, rfl, rfl, rfl, rfl, rfl, rfl, trivial⟩) ⟨[], Nr4_4, _, rfl, rfl, (hR251.mono le_22), hr4_4, rfl, (fun p hp => by cases hp)⟩ (fun k4_4 l' H' L' hk4_4 le_23 hI => ?_))
             obtain ⟨es4_4, M4_4, RN4_4, rfl, rfl, hR_4_4, hw_4_4, he_4_4, hg_4_4⟩ := hI
             have hs_4_4 := els_len he_4_4
             have hp_4_4 : (es4_4.flatMap fk).length = k4_4 * 8 := els_flat hs_4_4
             refine sq ?_
             refine sr ?_
             refine mv rfl rfl ?_
             refine mv rfl rfl ?_
             refine lt rfl rfl rfl ?_
             refine nl ?_
             refine cd rfl (fun h264 => ?_) (fun h264 => ?_)
             ·
              have hkl4_4 : k4_4 < (lT x4_4.1).length := by omega
              obtain ⟨g4_4, po4_4, hga4_4, rfl, hbk4_4⟩ := hw_4_4.next (zs := [.int .i16 0, .int .i32 0, .int .i32 0, .int .i32 0, .slice none 0 0, .slice none 0 0, .slice none 0 0, .map none]) hkl4_4 rfl (by decide)
              have ho4_4 : 0 + k4_4 * 8 = (es4_4.flatMap fk).length := by rw [hp_4_4]; omega
              have hbz4_4 : ((decV 10 (decP fs_sMetadataResponseTopicPartition v false) false false) (rMany (decV 10 (decP fs_sMetadataResponseTopicPartition v false) false false) k4_4 (rArr false x4_3.2).2).2).2.bad = true → (decP fs_MetadataResponse v false ⟨s, false, !a.isNone⟩).2.bad = true := fun h => hB4_4 (by rw [ex4_4]; exact rMany_mono (fun r h => decV_bad (fun r h => decP_bad _ _ _ r h) h) _ (show k4_4 + 1 ≤ (lT x4_4.1).length from hkl4_4) (by rw [rMany_succ]; exact h))
              have hLk4_4 : (rMany (decV 10 (decP fs_sMetadataResponseTopicPartition v false) false false) k4_4 (rArr false x4_3.2).2).2.s.length ≤ BR := Nat.le_trans (rMany_shr (fun r => decV_shr (fun r => decP_shr _ _ _ r) r) _ _) hm4_4
              have hL4_4__ := hLk4_4
              obtain ⟨x4_4_0, hx4_4_0⟩ : ∃ x, x = stepF (Fd.mk 2 0 (-1) (-1) (-1) 0 0 []) v false (rMany (decV 10 (decP fs_sMetadataResponseTopicPartition v false) false false) k4_4 (rArr false x4_3.2).2).2 := ⟨_, rfl⟩
              obtain ⟨x4_4_1, hx4_4_1⟩ : ∃ x, x = stepF (Fd.mk 3 0 (-1) (-1) (-1) 0 0 []) v false x4_4_0.2 := ⟨_, rfl⟩
              obtain ⟨x4_4_2, hx4_4_2⟩ : ∃ x, x = stepF (Fd.mk 3 0 (-1) (-1) (-1) 0 0 []) v false x4_4_1.2 := ⟨_, rfl⟩
              obtain ⟨x4_4_3, hx4_4_3⟩ : ∃ x, x = stepF (Fd.mk 3 7 (-1) (-1) (-1) (-1) 0 []) v false x4_4_2.2 := ⟨_, rfl⟩
              obtain ⟨x4_4_4, hx4_4_4⟩ : ∃ x, x = stepF (Fd.mk 11 0 (-1) (-1) (-1) 0 3 []) v false x4_4_3.2 := ⟨_, rfl⟩
              obtain ⟨x4_4_5, hx4_4_5⟩ : ∃ x, x = stepF (Fd.mk 11 0 (-1) (-1) (-1) 0 3 []) v false x4_4_4.2 := ⟨_, rfl⟩
              obtain ⟨x4_4_6, hx4_4_6⟩ : ∃ x, x = stepF (Fd.mk 11 5 (-1) (-1) (-1) 0 3 []) v false x4_4_5.2 := ⟨_, rfl⟩
              obtain ⟨u4_4_, hu4_4_⟩ : ∃ x, x = tailU false x4_4_6.2 := ⟨_, rfl⟩
              have hD4_4_ : decP fs_sMetadataResponseTopicPartition v false (rMany (decV 10 (decP fs_sMetadataResponseTopicPartition v false) false false) k4_4 (rArr false x4_3.2).2).2 = (.mk 0 [] false [x4_4_0.1, x4_4_1.1, x4_4_2.1, x4_4_3.1, x4_4_4.1, x4_4_5.1, x4_4_6.1] u4_4_.1, u4_4_.2) := by
               generalize ((rMany (decV 10 (decP fs_sMetadataResponseTopicPartition v false) false false) k4_4 (rArr false x4_3.2).2).2 : Rd) = r_ at hx4_4_0 ⊢
               rw [decP_eq]; unfold fs_sMetadataResponseTopicPartition; simp only [decFs_cons, decFs_nil, ← hx4_4_0, ← hx4_4_1, ← hx4_4_2, ← hx4_4_3, ← hx4_4_4, ← hx4_4_5, ← hx4_4_6, ← hu4_4_]
              have hL4_4_0 : x4_4_0.2.s.length ≤ BR := by rw [hx4_4_0]; exact Nat.le_trans (stepF_shr _ _ _ _) hL4_4__
              have hL4_4_1 : x4_4_1.2.s.length ≤ BR := by rw [hx4_4_1]; exact Nat.le_trans (stepF_shr _ _ _ _) hL4_4_0
              have hL4_4_2 : x4_4_2.2.s.length ≤ BR := by rw [hx4_4_2]; exact Nat.le_trans (stepF_shr _ _ _ _) hL4_4_1
              have hL4_4_3 : x4_4_3.2.s.length ≤ BR := by rw [hx4_4_3]; exact Nat.le_trans (stepF_shr _ _ _ _) hL4_4_2
              have hL4_4_4 : x4_4_4.2.s.length ≤ BR := by rw [hx4_4_4]; exact Nat.le_trans (stepF_shr _ _ _ _) hL4_4_3
              have hL4_4_5 : x4_4_5.2.s.length ≤ BR := by rw [hx4_4_5]; exact Nat.le_trans (stepF_shr _ _ _ _) hL4_4_4
              have hL4_4_6 : x4_4_6.2.s.length ≤ BR := by rw [hx4_4_6]; exact Nat.le_trans (stepF_shr _ _ _ _) hL4_4_5
              have hE4_4_ : u4_4_.2.bad = true → (decP fs_MetadataResponse v false ⟨s, false, !a.isNone⟩).2.bad = true := fun h => hbz4_4 (by show (decP fs_sMetadataResponseTopicPartition v false (rMany (decV 10 (decP fs_sMetadataResponseTopicPartition v false) false false) k4_4 (rArr false x4_3.2).2).2).2.bad = true; rw [hD4_4_]; exact h)
              have hB4_4_6 : x4_4_6.2.bad = true → (decP fs_MetadataResponse v false ⟨s, false, !a.isNone⟩).2.bad = true := fun h => hE4_4_ (by rw [hu4_4_]; exact tailU_bad h)
              have hB4_4_5 : x4_4_5.2.bad = true → (decP fs_MetadataResponse v false ⟨s, false, !a.isNone⟩).2.bad = true := fun h => hB4_4_6 (by rw [hx4_4_6]; exact step_bad h)
              have hB4_4_4 : x4_4_4.2.bad = true → (decP fs_MetadataResponse v false ⟨s, false, !a.isNone⟩).2.bad = true := fun h => hB4_4_5 (by rw [hx4_4_5]; exact step_bad h)
              have hB4_4_3 : x4_4_3.2.bad = true → (decP fs_MetadataResponse v false ⟨s, false, !a.isNone⟩).2.bad = true := fun h => hB4_4_4 (by rw [hx4_4_4]; exact step_bad h)
              have hB4_4_2 : x4_4_2.2.bad = true → (decP fs_MetadataResponse v false ⟨s, false, !a.isNone⟩).2.bad = true := fun h => hB4_4_3 (by rw [hx4_4_3]; exact step_bad h)
              have hB4_4_1 : x4_4_1.2.bad = true → (decP fs_MetadataResponse v false ⟨s, false, !a.isNone⟩).2.bad = true := fun h => hB4_4_2 (by rw [hx4_4_2]; exact step_bad h)
              have hB4_4_0 : x4_4_0.2.bad = true → (decP fs_MetadataResponse v false ⟨s, false, !a.isNone⟩).2.bad = true := fun h => hB4_4_1 (by rw [hx4_4_1]; exact step_bad h)
              refine skt ?_
              refine sq ?_
              refine bl ?_
              refine sr ?_
              refine mv rfl rfl ?_
              refine mv rfl rfl ?_
              refine ixk (j := k4_4) Tryz.runUnderlying88 Tryz.sizeOf116 rfl hga4_4 rfl rfl hkl4_4 rfl ?_
              refine asg rfl rfl ?_
              refine nl ?_
              refine sr ?_
              refine mv rfl rfl ?_
              refine cl rfl rfl rfl (def_MetadataResponseTopicPartition ho4_4) rfl (fun v_ H1 L1 hle_ hR_ => ?_)
              obtain ⟨rfl, rfl⟩ := hR_
              refine nl ?_
              refine sr ?_
              refine mv rfl rfl ?_
              refine asg rfl rfl ?_
              refine nl ?_
              refine sq ?_
              refine sr ?_
              refine tf (.tail .head) ?_
              have ex4_4_0 : x4_4_0 = decV 2 (decP [] v false) false false (rMany (decV 10 (decP fs_sMetadataResponseTopicPartition v false) false false) k4_4 (rArr false x4_3.2).2).2 := (hx4_4_0.trans (step_yes (by decide) (show (0 : Int) ≤ v by omega) (Or.inl (by decide)))).trans (decF'_val (by decide) (rfl))
              refine cl rfl rfl rfl (d2 hR_4_4 ex4_4_0) rfl (fun v_ H1 L1 hle_ hR_ => ?_)
              obtain ⟨N273, rfl, hR273, rfl, rfl⟩ := hR_
              refine asg rfl rfl ?_
              refine nl ?_
              refine rg ?_
              refine mv rfl rfl ?_
              refine mv rfl rfl ?_
              refine nc rfl rfl ?_
              refine fa F116_0 rfl rfl ?_
              refine stM (off := 0) Tryz.sizeOf46 rfl (by rw [ho4_4]) rfl rfl rfl (.tail .head) ?_
              refine nl ?_
              refine sq ?_
              refine sr ?_
              have ex4_4_1 : x4_4_1 = decV 3 (decP [] v false) false false x4_4_0.2 := (hx4_4_1.trans (step_yes (by decide) (show (0 : Int) ≤ v by omega) (Or.inl (by decide)))).trans (decF'_val (by decide) (rfl))
              refine cl rfl rfl rfl (d3 hR273 ex4_4_1) rfl (fun v_ H1 L1 hle_ hR_ => ?_)
              obtain ⟨N278, rfl, hR278, rfl, rfl⟩ := hR_
              refine asg rfl rfl ?_
              refine nl ?_
              refine rg ?_
              refine mv rfl rfl ?_
              refine mv rfl rfl ?_
              refine nc rfl rfl ?_
              refine fa F116_1 rfl rfl ?_
              refine stM (off := 1) Tryz.sizeOf21 rfl (by rw [ho4_4]) rfl rfl rfl (.tail .head) ?_
              refine nl ?_
              refine sq ?_
              refine sr ?_
              have ex4_4_2 : x4_4_2 = decV 3 (decP [] v false) false false x4_4_1.2 := (hx4_4_2.trans (step_yes (by decide) (show (0 : Int) ≤ v by omega) (Or.inl (by decide)))).trans (decF'_val (by decide) (rfl))
              refine cl rfl rfl rfl (d3 hR278 ex4_4_2) rfl (fun v_ H1 L1 hle_ hR_ => ?_)
              obtain ⟨N283, rfl, hR283, rfl, rfl⟩ := hR_
              refine asg rfl rfl ?_
              refine nl ?_
              refine rg ?_
              refine mv rfl rfl ?_
              refine mv rfl rfl ?_
              refine nc rfl rfl ?_
              refine fa F116_2 rfl rfl ?_
              refine stM (off := 2) Tryz.sizeOf21 rfl (by rw [ho4_4]) rfl rfl rfl (.tail .head) ?_
              refine nl ?_
              refine sq ?_
              refine sr ?_
              refine mv rfl rfl ?_
              refine ge rfl rfl rfl ?_
              refine nl ?_
              refine cutT (fun l' H' L' => ∃ (Nj4_4_3 : Chunk), [(2, .bool false), (7, .pointer (some ⟨b_1, 0, none⟩)), (8, .int .i16 v), (9, .bool (decide ((9 : Int) ≤ v))), (10, .pointer (some ⟨b, 0, none⟩)), (24, .slice none 0 0), (25, .slice a4 (lT x4.1).length c4), (26, .int .i32 (rArr false x3.2).1), (27, .int .i32 (k4 : Int)), (29, .pointer (some ⟨g4, 0 + k4 * 22, none⟩)), (35, .slice none 0 0), (36, .slice a4_4 (lT x4_4.1).length c4_4), (37, .int .i32 (rArr false x4_3.2).1), (38, .int .i32 (k4_4 : Int)), (40, .pointer (some ⟨g4_4, 0 + k4_4 * 8, none⟩))] = l' ∧ Nj4_4_3 :: [(g4_4, .cells ((es4_4.flatMap fk) ++ ([.int .i16 (IntKind.i16.wrap x4_4_0.1.n), .int .i32 (IntKind.i32.wrap x4_4_1.1.n), .int .i32 (IntKind.i32.wrap x4_4_2.1.n), .int .i32 (IntKind.i32.wrap x4_4_3.1.n), .slice none 0 0, .slice none 0 0, .slice none 0 0, .map none] : List Value) ++ po4_4).toArray 116 (0, 0))] :: [(g4, .cells ((es4.flatMap fk) ++ ([.int .i16 (IntKind.i16.wrap x4_0.1.n), .pointer (some ⟨b_18, 0, none⟩), .int .u8 0, .int .u8 0, .int .u8 0, .int .u8 0, .int .u8 0, .int .u8 0, .int .u8 0, .int .u8 0, .int .u8 0, .int .u8 0, .int .u8 0, .int .u8 0, .int .u8 0, .int .u8 0, .int .u8 0, .int .u8 0, .bool (decide (x4_3.1.n % 2 = 1)), .slice none 0 0, .int .i32 (-2147483648), .map none] : List Value) ++ po4).toArray 90 (0, 0))] :: [(b, .cells [.int .i16 v, .int .i32 (IntKind.i32.wrap x0.1.n), .slice a1 (lT x1.1).length c1, .pointer p2, .int .i32 (IntKind.i32.wrap x3.1.n), .slice none 0 0, .int .i32 (-2147483648), .int .i16 0, .map none].toArray 78 (0, 0))] :: L = L' ∧ RdAt H' 104 b_1 x4_4_3.2 Nj4_4_3) ?_ (fun l' H' L' le_27 hI => ?_)
              ·
               refine cd rfl (fun h289 => ?_) (fun h289 => ?_)
               ·
                refine sr ?_
                have ex4_4_3 : x4_4_3 = decV 3 (decP [] v false) false false x4_4_2.2 := (hx4_4_3.trans (step_yes (by decide) (show (7 : Int) ≤ v by omega) (Or.inl (by decide)))).trans (decF'_val (by decide) (rfl))
                refine cl rfl rfl rfl (d3 hR283 ex4_4_3) rfl (fun v_ H1 L1 hle_ hR_ => ?_)
                obtain ⟨N290, rfl, hR290, rfl, rfl⟩ := hR_
                refine asg rfl rfl ?_
                refine nl ?_
                refine rg ?_
                refine mv rfl rfl ?_
                refine mv rfl rfl ?_
                refine nc rfl rfl ?_
                refine fa F116_3 rfl rfl ?_
                refine stM (off := 3) Tryz.sizeOf21 rfl (by rw [ho4_4]) rfl rfl rfl (.tail .head) ?_
                refine nN ?_
                refine fun a_ w_ hA hw => ⟨_, _, _, hA.sub ?_, ler, hw, N290, rfl, rfl, hR290⟩
                exact (.cons rfl (.cons rfl (.cons rfl (.cons rfl (.cons rfl (.cons rfl (.cons rfl (.cons rfl (.cons rfl (.cons rfl (.cons rfl (.cons rfl (.cons rfl (.cons rfl (.cons rfl (.nil _))))))))))))))))
               ·
                refine skN ?_
                obtain rfl : x4_4_3 = ((Tr.mk (-1) [] false [] []), x4_4_2.2) := (hx4_4_3.trans (step_no (Or.inl (show v < (7 : Int) by omega)))).trans (by rw [dflF_eq]; rfl)
                refine fun a_ w_ hA hw => ⟨_, _, _, hA.sub ?_, ler, hw, N283, rfl, rfl, hR283⟩
                exact (.cons rfl (.cons rfl (.cons rfl (.cons rfl (.cons rfl (.cons rfl (.cons rfl (.cons rfl (.cons rfl (.cons rfl (.cons rfl (.cons rfl (.cons rfl (.cons rfl (.cons rfl (.nil _))))))))))))))))
              ·
               obtain ⟨Nj4_4_3, rfl, rfl, pj0⟩ := hI
               have hRj4_4_3 := pj0
               refine sq ?_
               refine sr ?_
               refine mv rfl rfl ?_
               refine nc rfl rfl ?_
               refine fa F116_4 rfl rfl ?_
               refine ld (j := 4) (off := 0 + k4_4 * 8) (Says.mid (.tail .head) ho4_4) Tryz.isAgg114 rfl rfl rfl rfl ?_
               refine asg rfl rfl ?_
               refine nl ?_
               refine sr ?_
               refine mv rfl rfl ?_
               refine asg rfl rfl ?_
               refine nl ?_
               refine sr ?_
               refine asg rfl rfl ?_
               refine nl ?_
               refine sq ?_
               refine sr ?_
               refine mv rfl rfl ?_
               refine nl ?_
               refine cdF rfl (by omega) ?_
               refine rg ?_
               have ey4_4_4 : x4_4_4 = (.mk 0 [] (if 0 ≤ ((-1) : Int) ∧ (v < ((-1) : Int) ∨ (rArr false x4_4_3.2).1 = 0) then false else decide ((rArr false x4_4_3.2).1 ≤ 0)) (rMany (decV 3 (decP [] v false) false false) (rArr false x4_4_3.2).1.toNat (rArr false x4_4_3.2).2).1 [], (rMany (decV 3 (decP [] v false) false false) (rArr false x4_4_3.2).1.toNat (rArr false x4_4_3.2).2).2) := (hx4_4_4.trans (step_yes (by decide) (show (0 : Int) ≤ v by omega) (Or.inl (by decide)))).trans (decF'_list rfl rfl)
               have hn4_4_4 : (rArr false x4_4_3.2).1.toNat = (lT x4_4_4.1).length := by rw [ey4_4_4]; exact (lT_many nul_le).symm
               have ex4_4_4 := ey4_4_4
               rw [hn4_4_4] at ex4_4_4
               have hl4_4_4 := rArr_le false x4_4_3.2
               have hm4_4_4 : (rArr false x4_4_3.2).2.s.length ≤ BR := Nat.le_trans (rArr_len false x4_4_3.2) hL4_4_3
               have hnb4_4_4 : (lT x4_4_4.1).length ≤ BR := by omega
               refine cl rfl rfl rfl (r_arrf hRj4_4_3) rfl (fun v_ H1 L1 hle_ hR_ => ?_)
               obtain ⟨rfl, N302, rfl, hR302, rfl⟩ := hR_
               have hh4_4_4 := rArr_hi false x4_4_3.2
               refine asg rfl rfl ?_
               refine nl ?_
               refine sq ?_
               refine sr ?_
               refine cl rfl rfl rfl (r_ok hR302) rfl (fun v_ H1 L1 hle_ hR_ => ?_)
               obtain ⟨rfl, rfl, rfl⟩ := hR_
               refine nt rfl rfl ?_
               refine nl ?_
               refine cb rfl (fun h304 => ?_) (fun h304 => ?_)
               ·
                have hbad_ : (rArr false x4_4_3.2).2.bad = true := by simpa using h304
                refine sr ?_
                refine cl rfl rfl rfl (r_complete hR302 (he.mono (le_2.trans (le_4.trans (le_5.trans (hlf1.trans (le_11.trans (le_13.trans (le_15.trans (le_16.trans (lp4_1.trans (le_20.trans (le_22.trans (le_23.trans le_27)))))))))))))) rfl (fun v_ H1 L1 hle_ hR_ => ?_)
                obtain ⟨rfl, rfl, rfl⟩ := hR_
                refine asg rfl rfl ?_
                refine nl ?_
                refine drW .head ?_
                refine drW .head ?_
                refine drW .head ?_
                exact rT rfl rfl (le_2.trans (le_4.trans (le_5.trans (hlf1.trans (le_11.trans (le_13.trans (le_15.trans (le_16.trans (lp4_1.trans (le_20.trans (le_22.trans (le_23.trans le_27)))))))))))) (fun _ _ h => h) ⟨_, rfl, RdEnd.out (hB4_4_4 (by rw [ey4_4_4]; exact rMany_bad (fun r h => decV_bad (decP_bad _ _ _) h) _ _ hbad_)) hbad_⟩
               ·
                refine skt ?_
                refine sr ?_
                refine mv rfl rfl ?_
                refine sh' (j := 0) Tryz.runUnderlying114 Tryz.sizeOf21 rfl rfl rfl (Nat.zero_le _) rfl ?_
                refine asg rfl rfl ?_
                refine nl ?_
                refine sq ?_
                refine sr ?_
                refine mv rfl rfl ?_
                refine gt rfl rfl rfl ?_
                refine nl ?_
                refine nulC2 ?_
                refine cutT (fun l' H' L' => ∃ (a4_4_4 : Option Addr), ∃ (c4_4_4 : Nat), ∃ (Nr4_4_4 : Chunk), [(2, .bool false), (7, .pointer (some ⟨b_1, 0, none⟩)), (8, .int .i16 v), (9, .bool (decide ((9 : Int) ≤ v))), (10, .pointer (some ⟨b, 0, none⟩)), (24, .slice none 0 0), (25, .slice a4 (lT x4.1).length c4), (26, .int .i32 (rArr false x3.2).1), (27, .int .i32 (k4 : Int)), (29, .pointer (some ⟨g4, 0 + k4 * 22, none⟩)), (35, .slice none 0 0), (36, .slice a4_4 (lT x4_4.1).length c4_4), (37, .int .i32 (rArr false x4_3.2).1), (38, .int .i32 (k4_4 : Int)), (40, .pointer (some ⟨g4_4, 0 + k4_4 * 8, none⟩)), (45, .slice none 0 0), (46, .slice a4_4_4 (lT x4_4_4.1).length c4_4_4), (47, .int .i32 (rArr false x4_4_3.2).1)] = l' ∧ Nr4_4_4 :: N302 :: [(g4_4, .cells ((es4_4.flatMap fk) ++ ([.int .i16 (IntKind.i16.wrap x4_4_0.1.n), .int .i32 (IntKind.i32.wrap x4_4_1.1.n), .int .i32 (IntKind.i32.wrap x4_4_2.1.n), .int .i32 (IntKind.i32.wrap x4_4_3.1.n), .slice none 0 0, .slice none 0 0, .slice none 0 0, .map none] : List Value) ++ po4_4).toArray 116 (0, 0))] :: [(g4, .cells ((es4.flatMap fk) ++ ([.int .i16 (IntKind.i16.wrap x4_0.1.n), .pointer (some ⟨b_18, 0, none⟩), .int .u8 0, .int .u8 0, .int .u8 0, .int .u8 0, .int .u8 0, .int .u8 0, .int .u8 0, .int .u8 0, .int .u8 0, .int .u8 0, .int .u8 0, .int .u8 0, .int .u8 0, .int .u8 0, .int .u8 0, .int .u8 0, .bool (decide (x4_3.1.n % 2 = 1)), .slice none 0 0, .int .i32 (-2147483648), .map none] : List Value) ++ po4).toArray 90 (0, 0))] :: [(b, .cells [.int .i16 v, .int .i32 (IntKind.i32.wrap x0.1.n), .slice a1 (lT x1.1).length c1, .pointer p2, .int .i32 (IntKind.i32.wrap x3.1.n), .slice none 0 0, .int .i32 (-2147483648), .int .i16 0, .map none].toArray 78 (0, 0))] :: L = L' ∧ Row 21 1 a4_4_4 (lT x4_4_4.1).length c4_4_4 (reps [.int .i32 0] (lT x4_4_4.1).length) Nr4_4_4 ∧ a4_4_4.isNone = (if 0 ≤ ((-1) : Int) ∧ (v < ((-1) : Int) ∨ (rArr false x4_4_3.2).1 = 0) then false else decide ((rArr false x4_4_3.2).1 ≤ 0))) ?_ (fun l' H' L' le_29 hI => ?_)
                ·
                 refine cd rfl (fun h309 => ?_) (fun h309 => ?_)
                 ·
                  refine rg ?_
                  refine mv rfl rfl ?_
                  refine mv rfl rfl ?_
                  refine apz (zs := [.int .i32 0]) (m := (lT x4_4_4.1).length) Tryz.underlying114 Tryz.underlying21 I21 rfl rfl rfl (by omega) (by omega) (by have h9 := hnb4_4_4; unfold BR at h9; omega) (by have h9 := hnb4_4_4; unfold BR at h9; unfold maxLen; omega) rfl (fun g312 cp312 N312 r312 => ?_)
                  refine asg rfl rfl ?_
                  refine nN ?_
                  refine drN (.tail .head) ?_
                  refine fun a_ w_ hA hw => ⟨_, _, _, hA.sub ?_, ler, hw, (some ⟨g312, 0, none⟩), cp312, N312, rfl, rfl, r312, (by rw [if_neg (by omega)]; exact (decide_eq_false (by omega)).symm)⟩
                  exact (.cons rfl (.cons rfl (.cons rfl (.cons rfl (.cons rfl (.cons rfl (.cons rfl (.cons rfl (.cons rfl (.cons rfl (.cons rfl (.cons rfl (.cons rfl (.cons rfl (.cons rfl (.cons rfl (.cons rfl (.cons rfl (.nil _)))))))))))))))))))
                 ·
                  refine skN ?_
                  refine fun a_ w_ hA hw => ⟨_, _, _, hA.sub ?_, ler, hw, none, 0, [], rfl, rfl, (by rw [show (lT x4_4_4.1).length = 0 by omega]; exact (Row.nil _ _)), (by rw [if_neg (by omega)]; exact (decide_eq_true (by omega)).symm)⟩
                  exact (.cons rfl (.cons rfl (.cons rfl (.cons rfl (.cons rfl (.cons rfl (.cons rfl (.cons rfl (.cons rfl (.cons rfl (.cons rfl (.cons rfl (.cons rfl (.cons rfl (.cons rfl (.cons rfl (.cons (by rw [show (lT x4_4_4.1).length = 0 by omega]; rfl) (.cons rfl (.nil _)))))))))))))))))))
                ·
                 obtain ⟨a4_4_4, c4_4_4, Nr4_4_4, rfl, rfl, pj0, pj1⟩ := hI
                 have hr4_4_4 := pj0
                 have hi4_4_4 := pj1
                 refine sq ?_
                 refine sr ?_
                 refine asg rfl rfl ?_
                 refine nl ?_
                 refine bl (lp ((lT x4_4_4.1).length) (fun k4_4_4 l' H' L' => ∃ (es4_4_4 : List (KE 1)) (M4_4_4 RN4_4_4 : Chunk), [(2, .bool false), (7, .pointer (some ⟨b_1, 0, none⟩)), (8, .int .i16 v), (9, .bool (decide ((9 : Int) ≤ v))), (10, .pointer (some ⟨b, 0, none⟩)), (24, .slice none 0 0), (25, .slice a4 (lT x4.1).length c4), (26, .int .i32 (rArr false x3.2).1), (27, .int .i32 (k4 : Int)), (29, .pointer (some ⟨g4, 0 + k4 * 22, none⟩)), (35, .slice none 0 0), (36, .slice a4_4 (lT x4_4.1).length c4_4), (37, .int .i32 (rArr false x4_3.2).1), (38, .int .i32 (k4_4 : Int)), (40, .pointer (some ⟨g4_4, 0 + k4_4 * 8, none⟩)), (45, .slice none 0 0), (46, .slice a4_4_4 (lT x4_4_4.1).length c4_4_4), (47, .int .i32 (rArr false x4_4_3.2).1), (48, .int .i32 (k4_4_4 : Int))] = l' ∧ M4_4_4 :: RN4_4_4 :: [(g4_4, .cells ((es4_4.flatMap fk) ++ ([.int .i16 (IntKind.i16.wrap x4_4_0.1.n), .int .i32 (IntKind.i32.wrap x4_4_1.1.n), .int .i32 (IntKind.i32.wrap x4_4_2.1.n), .int .i32 (IntKind.i32.wrap x4_4_3.1.n), .slice none 0 0, .slice none 0 0, .slice none 0 0, .map none] : List Value) ++ po4_4).toArray 116 (0, 0))] :: [(g4, .cells ((es4.flatMap fk) ++ ([.int .i16 (IntKind.i16.wrap x4_0.1.n), .pointer (some ⟨b_18, 0, none⟩), .int .u8 0, .int .u8 0, .int .u8 0, .int .u8 0, .int .u8 0, .int .u8 0, .int .u8 0, .int .u8 0, .int .u8 0, .int .u8 0, .int .u8 0, .int .u8 0, .int .u8 0, .int .u8 0, .int .u8 0, .int .u8 0, .bool (decide (x4_3.1.n % 2 = 1)), .slice none 0 0, .int .i32 (-2147483648), .map none] : List Value) ++ po4).toArray 90 (0, 0))] :: [(b, .cells [.int .i16 v, .int .i32 (IntKind.i32.wrap x0.1.n), .slice a1 (lT x1.1).length c1, .pointer p2, .int .i32 (IntKind.i32.wrap x3.1.n), .slice none 0 0, .int .i32 (-2147483648), .int .i16 0, .map none].toArray 78 (0, 0))] :: L = L' ∧ RdAt H' 104 b_1 (rMany (decV 3 (decP [] v false) false false) k4_4_4 (rArr false x4_4_3.2).2).2 RN4_4_4 ∧ Row 21 1 a4_4_4 (lT x4_4_4.1).length c4_4_4 (es4_4_4.flatMap fk ++ reps [.int .i32 0] ((lT x4_4_4.1).length - k4_4_4)) M4_4_4 ∧ es4_4_4.map (·.2) = (rMany (decV 3 (decP [] v false) false false) k4_4_4 (rArr false x4_4_3.2).2).1 ∧ ∀ p ∈ es4_4_4, RI32 H' p.2 (fk p)) [(2, .bool false), (7, .pointer (some ⟨b_1, 0, none⟩)), (8, .int .i16 v), (9, .bool (decide ((9 : Int) ≤ v))), (10, .pointer (some ⟨b, 0, none⟩)), (24, .slice none 0 0), (25, .slice a4 (lT x4.1).length c4), (26, .int .i32 (rArr false x3.2).1), (27, .int .i32 (k4 : Int)), (29, .pointer (some ⟨g4, 0 + k4 * 22, none⟩)), (35, .slice none 0 0), (36, .slice a4_4 (lT x4_4.1).length c4_4), (37, .int .i32 (rArr false x4_3.2).1), (38, .int .i32 (k4_4 : Int)), (40, .pointer (some ⟨g4_4, 0 + k4_4 * 8, none⟩)), (45, .slice none 0 0), (46, .slice a4_4_4 (lT x4_4_4.1).length c4_4_4), (47, .int .i32 (rArr false x4_4_3.2).1), (48, .int .i32 (0 : Int))] (.of ⟨rfl, rfl, rfl, rfl, rfl, rfl, rfl, rfl, rfl, rfl, rfl, rfl, rfl, rfl, rfl, rfl, rfl, rfl, rfl, trivial⟩) ⟨[], Nr4_4_4, _, rfl, rfl, (hR302.mono le_29), hr4_4_4, rfl, (fun p hp => by cases hp)⟩ (fun k4_4_4 l' H' L' hk4_4_4 le_30 hI => ?_))
                 obtain ⟨es4_4_4, M4_4_4, RN4_4_4, rfl, rfl, hR_4_4_4, hw_4_4_4, he_4_4_4, hg_4_4_4⟩ := hI
                 have hs_4_4_4 := els_len he_4_4_4
                 have hp_4_4_4 : (es4_4_4.flatMap fk).length = k4_4_4 * 1 := els_flat hs_4_4_4
                 refine sq ?_
                 refine sr ?_
                 refine mv rfl rfl ?_
                 refine mv rfl rfl ?_
                 refine lt rfl rfl rfl ?_
                 refine nl ?_
                 refine cd rfl (fun h315 => ?_) (fun h315 => ?_)
                 ·
                  have hkl4_4_4 : k4_4_4 < (lT x4_4_4.1).length := by omega
                  obtain ⟨g4_4_4, po4_4_4, hga4_4_4, rfl, hbk4_4_4⟩ := hw_4_4_4.next (zs := [.int .i32 0]) hkl4_4_4 rfl (by decide)
                  have ho4_4_4 : 0 + k4_4_4 * 1 = (es4_4_4.flatMap fk).length := by rw [hp_4_4_4]; omega
                  have hbz4_4_4 : ((decV 3 (decP [] v false) false false) (rMany (decV 3 (decP [] v false) false false) k4_4_4 (rArr false x4_4_3.2).2).2).2.bad = true → (decP fs_MetadataResponse v false ⟨s, false, !a.isNone⟩).2.bad = true := fun h => hB4_4_4 (by rw [ex4_4_4]; exact rMany_mono (fun r h => decV_bad (fun r h => decP_bad _ _ _ r h) h) _ (show k4_4_4 + 1 ≤ (lT x4_4_4.1).length from hkl4_4_4) (by rw [rMany_succ]; exact h))
                  have hLk4_4_4 : (rMany (decV 3 (decP [] v false) false false) k4_4_4 (rArr false x4_4_3.2).2).2.s.length ≤ BR := Nat.le_trans (rMany_shr (fun r => decV_shr (fun r => decP_shr _ _ _ r) r) _ _) hm4_4_4
                  obtain ⟨y4_4_4, hy4_4_4⟩ : ∃ x, x = (decV 3 (decP [] v false) false false) (rMany (decV 3 (decP [] v false) false false) k4_4_4 (rArr false x4_4_3.2).2).2 := ⟨_, rfl⟩
                  refine skt ?_
                  refine sq ?_
                  refine bl ?_
                  refine sr ?_
                  refine tf (.tail .head) ?_
                  refine cl rfl rfl rfl (d3 hR_4_4_4 hy4_4_4) rfl (fun v_ H1 L1 hle_ hR_ => ?_)
                  obtain ⟨N318, rfl, hR318, rfl, rfl⟩ := hR_
                  refine asg rfl rfl ?_
                  refine nl ?_
                  refine rg ?_
                  refine mv rfl rfl ?_
                  refine mv rfl rfl ?_
                  refine mv rfl rfl ?_
                  refine ixk (j := k4_4_4) Tryz.runUnderlying114 Tryz.sizeOf21 rfl hga4_4_4 rfl rfl hkl4_4_4 rfl ?_
                  refine stM (off := 0) Tryz.sizeOf21 rfl ho4_4_4 rfl rfl rfl (.tail .head) ?_
                  refine nN ?_
                  refine Nb ?_
                  refine Nt ?_
                  refine rg ?_
                  refine mv rfl rfl ?_
                  refine ad rfl rfl (c := ((k4_4_4 + 1 : Nat) : Int)) ((wrap32_le (by omega) (by omega)).trans (by omega)) rfl ?_
                  refine asg rfl rfl ?_
                  refine nN ?_
                  have hfs4_4_4 := flatMap_snoc' fk es4_4_4 ((⟨([.int .i32 (IntKind.i32.wrap y4_4_4.1.n)] : List Value), rfl, all_one rfl⟩, ((decV 3 (decP [] v false) false false) (rMany (decV 3 (decP [] v false) false false) k4_4_4 (rArr false x4_4_3.2).2).2).1) : KE 1)
                  have hrw4_4_4 := hbk4_4_4 ([.int .i32 (IntKind.i32.wrap y4_4_4.1.n)] : List Value) rfl
                  refine tfN (.tail .head) ?_
                  refine fun a_ w_ hA hw => ⟨hkl4_4_4, _, _, _, hA.sub ?_, le_30, hw, _, _, _, rfl, rfl, (by rw [rMany_succ, ← hy4_4_4]; exact hR318), (by rw [← hfs4_4_4]; exact hrw4_4_4), (dec_els he_4_4_4), (fun p hp => (mem_snoc hp).elim (fun h => RI32.mono _ _ _ _ ler (hg_4_4_4 p h)) (fun h => h ▸ (by show RI32 _ ((decV 3 (decP [] v false) false false) (rMany (decV 3 (decP [] v false) false false) k4_4_4 (rArr false x4_4_3.2).2).2).1 [.int .i32 (IntKind.i32.wrap y4_4_4.1.n)]; rw [← hy4_4_4]; rfl)))⟩
                  exact (.of ⟨rfl, rfl, rfl, rfl, rfl, rfl, rfl, rfl, rfl, rfl, rfl, rfl, rfl, rfl, rfl, rfl, rfl, rfl, rfl, trivial⟩)
                 ·
                  have hkn_ : k4_4_4 = (lT x4_4_4.1).length := by omega
                  subst hkn_
                  have hw2_4_4_4 : Row 21 1 a4_4_4 (lT x4_4_4.1).length c4_4_4 (es4_4_4.flatMap fk) M4_4_4 := by have h := hw_4_4_4; rw [Nat.sub_self] at h; simpa [reps] using h
                  refine frW hw2_4_4_4 .head (fun Hf4_4_4 hlf4_4_4 hfz4_4_4 => ?_)
                  have hrs4_4_4 := RowsAt.row (R := RI32) hfz4_4_4 hs_4_4_4.symm hw2_4_4_4.le.1 (fun p hp => RI32.mono _ _ _ _ hlf4_4_4 (hg_4_4_4 p hp))
                  rw [he_4_4_4] at hrs4_4_4
                  have hf4_4_4 : ListAt Hf4_4_4 x4_4_4.1 1 RI32 a4_4_4 c4_4_4 := by rw [ex4_4_4]; exact listAt_of hrs4_4_4 hi4_4_4 (fun h => by have h1 := nul_le h; rw [show (lT x4_4_4.1).length = 0 by omega]; rfl)
                  have hRx4_4_4 : RdAt Hf4_4_4 104 b_1 x4_4_4.2 RN4_4_4 := by rw [ex4_4_4]; exact (hR_4_4_4.mono hlf4_4_4)
                  refine exX ?_
                  refine XT ?_
                  refine XT ?_
                  refine Xb ?_
                  refine Nt ?_
                  refine sr ?_
                  refine mv rfl rfl ?_
                  refine asg rfl rfl ?_
                  refine nl ?_
                  refine rg ?_
                  refine mv rfl rfl ?_
                  refine mv rfl rfl ?_
                  refine nc rfl rfl ?_
                  refine fa F116_4 rfl rfl ?_
                  refine stM (off := 4) Tryz.sizeOf114 rfl (by rw [ho4_4]) rfl rfl rfl (.tail .head) ?_
                  refine nl ?_
                  refine sq ?_
                  refine sr ?_
                  refine mv rfl rfl ?_
                  refine nc rfl rfl ?_
                  refine fa F116_5 rfl rfl ?_
                  refine ld (j := 5) (off := 0 + k4_4 * 8) (Says.mid (.tail .head) ho4_4) Tryz.isAgg114 rfl rfl rfl rfl ?_
                  refine asg rfl rfl ?_
                  refine nl ?_
                  refine sr ?_
                  refine mv rfl rfl ?_
                  refine asg rfl rfl ?_
                  refine nl ?_
                  refine sr ?_
                  refine asg rfl rfl ?_
                  refine nl ?_
                  refine sq ?_
                  refine sr ?_
                  refine mv rfl rfl ?_
                  refine nl ?_
                  refine cdF rfl (by omega) ?_
                  refine rg ?_
                  have ey4_4_5 : x4_4_5 = (.mk 0 [] (if 0 ≤ ((-1) : Int) ∧ (v < ((-1) : Int) ∨ (rArr false x4_4_4.2).1 = 0) then false else decide ((rArr false x4_4_4.2).1 ≤ 0)) (rMany (decV 3 (decP [] v false) false false) (rArr false x4_4_4.2).1.toNat (rArr false x4_4_4.2).2).1 [], (rMany (decV 3 (decP [] v false) false false) (rArr false x4_4_4.2).1.toNat (rArr false x4_4_4.2).2).2) := (hx4_4_5.trans (step_yes (by decide) (show (0 : Int) ≤ v by omega) (Or.inl (by decide)))).trans (decF'_list rfl rfl)
                  have hn4_4_5 : (rArr false x4_4_4.2).1.toNat = (lT x4_4_5.1).length := by rw [ey4_4_5]; exact (lT_many nul_le).symm
                  have ex4_4_5 := ey4_4_5
                  rw [hn4_4_5] at ex4_4_5
                  have hl4_4_5 := rArr_le false x4_4_4.2
                  have hm4_4_5 : (rArr false x4_4_4.2).2.s.length ≤ BR := Nat.le_trans (rArr_len false x4_4_4.2) hL4_4_4
                  have hnb4_4_5 : (lT x4_4_5.1).length ≤ BR := by omega
                  refine cl rfl rfl rfl (r_arrf hRx4_4_4) rfl (fun v_ H1 L1 hle_ hR_ => ?_)
                  obtain ⟨rfl, N335, rfl, hR335, rfl⟩ := hR_
                  have hh4_4_5 := rArr_hi false x4_4_4.2
                  refine asg rfl rfl ?_
                  refine nl ?_
                  refine sq ?_
                  refine sr ?_
                  refine cl rfl rfl rfl (r_ok hR335) rfl (fun v_ H1 L1 hle_ hR_ => ?_)
                  obtain ⟨rfl, rfl, rfl⟩ := hR_
                  refine nt rfl rfl ?_
                  refine nl ?_
                  refine cb rfl (fun h337 => ?_) (fun h337 => ?_)
                  ·
                   have hbad_ : (rArr false x4_4_4.2).2.bad = true := by simpa using h337
                   refine sr ?_
                   refine cl rfl rfl rfl (r_complete hR335 (he.mono (le_2.trans (le_4.trans (le_5.trans (hlf1.trans (le_11.trans (le_13.trans (le_15.trans (le_16.trans (lp4_1.trans (le_20.trans (le_22.trans (le_23.trans (le_27.trans (le_29.trans (le_30.trans hlf4_4_4))))))))))))))))) rfl (fun v_ H1 L1 hle_ hR_ => ?_)
                   obtain ⟨rfl, rfl, rfl⟩ := hR_
                   refine asg rfl rfl ?_
                   refine nl ?_
                   refine drW .head ?_
                   refine drW .head ?_
                   refine drW .head ?_
                   exact rT rfl rfl (le_2.trans (le_4.trans (le_5.trans (hlf1.trans (le_11.trans (le_13.trans (le_15.trans (le_16.trans (lp4_1.trans (le_20.trans (le_22.trans (le_23.trans (le_27.trans (le_29.trans (le_30.trans hlf4_4_4))))))))))))))) (fun _ _ h => h) ⟨_, rfl, RdEnd.out (hB4_4_5 (by rw [ey4_4_5]; exact rMany_bad (fun r h => decV_bad (decP_bad _ _ _) h) _ _ hbad_)) hbad_⟩
                  ·
                   refine skt ?_
                   refine sr ?_
                   refine mv rfl rfl ?_
                   refine sh' (j := 0) Tryz.runUnderlying114 Tryz.sizeOf21 rfl rfl rfl (Nat.zero_le _) rfl ?_
                   refine asg rfl rfl ?_
                   refine nl ?_
                   refine sq ?_
                   refine sr ?_
                   refine mv rfl rfl ?_
                   refine gt rfl rfl rfl ?_
                   refine nl ?_
                   refine nulC2 ?_
                   refine cutT (fun l' H' L' => ∃ (a4_4_5 : Option Addr), ∃ (c4_4_5 : Nat), ∃ (Nr4_4_5 : Chunk), [(2, .bool false), (7, .pointer (some ⟨b_1, 0, none⟩)), (8, .int .i16 v), (9, .bool (decide ((9 : Int) ≤ v))), (10, .pointer (some ⟨b, 0, none⟩)), (24, .slice none 0 0), (25, .slice a4 (lT x4.1).length c4), (26, .int .i32 (rArr false x3.2).1), (27, .int .i32 (k4 : Int)), (29, .pointer (some ⟨g4, 0 + k4 * 22, none⟩)), (35, .slice none 0 0), (36, .slice a4_4 (lT x4_4.1).length c4_4), (37, .int .i32 (rArr false x4_3.2).1), (38, .int .i32 (k4_4 : Int)), (40, .pointer (some ⟨g4_4, 0 + k4_4 * 8, none⟩)), (50, .slice none 0 0), (51, .slice a4_4_5 (lT x4_4_5.1).length c4_4_5), (52, .int .i32 (rArr false x4_4_4.2).1)] = l' ∧ Nr4_4_5 :: N335 :: [(g4_4, .cells ((es4_4.flatMap fk) ++ ([.int .i16 (IntKind.i16.wrap x4_4_0.1.n), .int .i32 (IntKind.i32.wrap x4_4_1.1.n), .int .i32 (IntKind.i32.wrap x4_4_2.1.n), .int .i32 (IntKind.i32.wrap x4_4_3.1.n), .slice a4_4_4 (lT x4_4_4.1).length c4_4_4, .slice none 0 0, .slice none 0 0, .map none] : List Value) ++ po4_4).toArray 116 (0, 0))] :: [(g4, .cells ((es4.flatMap fk) ++ ([.int .i16 (IntKind.i16.wrap x4_0.1.n), .pointer (some ⟨b_18, 0, none⟩), .int .u8 0, .int .u8 0, .int .u8 0, .int .u8 0, .int .u8 0, .int .u8 0, .int .u8 0, .int .u8 0, .int .u8 0, .int .u8 0, .int .u8 0, .int .u8 0, .int .u8 0, .int .u8 0, .int .u8 0, .int .u8 0, .bool (decide (x4_3.1.n % 2 = 1)), .slice none 0 0, .int .i32 (-2147483648), .map none] : List Value) ++ po4).toArray 90 (0, 0))] :: [(b, .cells [.int .i16 v, .int .i32 (IntKind.i32.wrap x0.1.n), .slice a1 (lT x1.1).length c1, .pointer p2, .int .i32 (IntKind.i32.wrap x3.1.n), .slice none 0 0, .int .i32 (-2147483648), .int .i16 0, .map none].toArray 78 (0, 0))] :: L = L' ∧ Row 21 1 a4_4_5 (lT x4_4_5.1).length c4_4_5 (reps [.int .i32 0] (lT x4_4_5.1).length) Nr4_4_5 ∧ a4_4_5.isNone = (if 0 ≤ ((-1) : Int) ∧ (v < ((-1) : Int) ∨ (rArr false x4_4_4.2).1 = 0) then false else decide ((rArr false x4_4_4.2).1 ≤ 0))) ?_ (fun l' H' L' le_32 hI => ?_)
                   ·
                    refine cd rfl (fun h342 => ?_) (fun h342 => ?_)
                    ·
                     refine rg ?_
                     refine mv rfl rfl ?_
                     refine mv rfl rfl ?_
                     refine apz (zs := [.int .i32 0]) (m := (lT x4_4_5.1).length) Tryz.underlying114 Tryz.underlying21 I21 rfl rfl rfl (by omega) (by omega) (by have h9 := hnb4_4_5; unfold BR at h9; omega) (by have h9 := hnb4_4_5; unfold BR at h9; unfold maxLen; omega) rfl (fun g345 cp345 N345 r345 => ?_)
                     refine asg rfl rfl ?_
                     refine nN ?_
                     refine drN (.tail .head) ?_
                     refine fun a_ w_ hA hw => ⟨_, _, _, hA.sub ?_, ler, hw, (some ⟨g345, 0, none⟩), cp345, N345, rfl, rfl, r345, (by rw [if_neg (by omega)]; exact (decide_eq_false (by omega)).symm)⟩
                     exact (.cons rfl (.cons rfl (.cons rfl (.cons rfl (.cons rfl (.cons rfl (.cons rfl (.cons rfl (.cons rfl (.cons rfl (.cons rfl (.cons rfl (.cons rfl (.cons rfl (.cons rfl (.cons rfl (.cons rfl (.cons rfl (.nil _)))))))))))))))))))
                    ·
                     refine skN ?_
                     refine fun a_ w_ hA hw => ⟨_, _, _, hA.sub ?_, ler, hw, none, 0, [], rfl, rfl, (by rw [show (lT x4_4_5.1).length = 0 by omega]; exact (Row.nil _ _)), (by rw [if_neg (by omega)]; exact (decide_eq_true (by omega)).symm)⟩
                     exact (.cons rfl (.cons rfl (.cons rfl (.cons rfl (.cons rfl (.cons rfl (.cons rfl (.cons rfl (.cons rfl (.cons rfl (.cons rfl (.cons rfl (.cons rfl (.cons rfl (.cons rfl (.cons rfl (.cons (by rw [show (lT x4_4_5.1).length = 0 by omega]; rfl) (.cons rfl (.nil _)))))))))))))))))))
                   ·
                    obtain ⟨a4_4_5, c4_4_5, Nr4_4_5, rfl, rfl, pj0, pj1⟩ := hI
                    have hr4_4_5 := pj0
                    have hi4_4_5 := pj1
                    refine sq ?_
                    refine sr ?_
                    refine asg rfl rfl ?_
                    refine nl ?_
                    refine bl (lp ((lT x4_4_5.1).length) (fun k4_4_5 l' H' L' => ∃ (es4_4_5 : List (KE 1)) (M4_4_5 RN4_4_5 : Chunk), [(2, .bool false), (7, .pointer (some ⟨b_1, 0, none⟩)), (8, .int .i16 v), (9, .bool (decide ((9 : Int) ≤ v))), (10, .pointer (some ⟨b, 0, none⟩)), (24, .slice none 0 0), (25, .slice a4 (lT x4.1).length c4), (26, .int .i32 (rArr false x3.2).1), (27, .int .i32 (k4 : Int)), (29, .pointer (some ⟨g4, 0 + k4 * 22, none⟩)), (35, .slice none 0 0), (36, .slice a4_4 (lT x4_4.1).length c4_4), (37, .int .i32 (rArr false x4_3.2).1), (38, .int .i32 (k4_4 : Int)), (40, .pointer (some ⟨g4_4, 0 + k4_4 * 8, none⟩)), (50, .slice none 0 0), (51, .slice a4_4_5 (lT x4_4_5.1).length c4_4_5), (52, .int .i32 (rArr false x4_4_4.2).1), (53, .int .i32 (k4_4_5 : Int))] = l' ∧ M4_4_5 :: RN4_4_5 :: [(g4_4, .cells ((es4_4.flatMap fk) ++ ([.int .i16 (IntKind.i16.wrap x4_4_0.1.n), .int .i32 (IntKind.i32.wrap x4_4_1.1.n), .int .i32 (IntKind.i32.wrap x4_4_2.1.n), .int .i32 (IntKind.i32.wrap x4_4_3.1.n), .slice a4_4_4 (lT x4_4_4.1).length c4_4_4, .slice none 0 0, .slice none 0 0, .map none] : List Value) ++ po4_4).toArray 116 (0, 0))] :: [(g4, .cells ((es4.flatMap fk) ++ ([.int .i16 (IntKind.i16.wrap x4_0.1.n), .pointer (some ⟨b_18, 0, none⟩), .int .u8 0, .int .u8 0, .int .u8 0, .int .u8 0, .int .u8 0, .int .u8 0, .int .u8 0, .int .u8 0, .int .u8 0, .int .u8 0, .int .u8 0, .int .u8 0, .int .u8 0, .int .u8 0, .int .u8 0, .int .u8 0, .bool (decide (x4_3.1.n % 2 = 1)), .slice none 0 0, .int .i32 (-2147483648), .map none] : List Value) ++ po4).toArray 90 (0, 0))] :: [(b, .cells [.int .i16 v, .int .i32 (IntKind.i32.wrap x0.1.n), .slice a1 (lT x1.1).length c1, .pointer p2, .int .i32 (IntKind.i32.wrap x3.1.n), .slice none 0 0, .int .i32 (-2147483648), .int .i16 0, .map none].toArray 78 (0, 0))] :: L = L' ∧ RdAt H' 104 b_1 (rMany (decV 3 (decP [] v false) false false) k4_4_5 (rArr false x4_4_4.2).2).2 RN4_4_5 ∧ Row 21 1 a4_4_5 (lT x4_4_5.1).length c4_4_5 (es4_4_5.flatMap fk ++ reps [.int .i32 0] ((lT x4_4_5.1).length - k4_4_5)) M4_4_5 ∧ es4_4_5.map (·.2) = (rMany (decV 3 (decP [] v false) false false) k4_4_5 (rArr false x4_4_4.2).2).1 ∧ ∀ p ∈ es4_4_5, RI32 H' p.2 (fk p)) [(2, .bool false), (7, .pointer (some ⟨b_1, 0, none⟩)), (8, .int .i16 v), (9, .bool (decide ((9 : Int) ≤ v))), (10, .pointer (some ⟨b, 0, none⟩)), (24, .slice none 0 0), (25, .slice a4 (lT x4.1).length c4), (26, .int .i32 (rArr false x3.2).1), (27, .int .i32 (k4 : Int)), (29, .pointer (some ⟨g4, 0 + k4 * 22, none⟩)), (35, .slice none 0 0), (36, .slice a4_4 (lT x4_4.1).length c4_4), (37, .int .i32 (rArr false x4_3.2).1), (38, .int .i32 (k4_4 : Int)), (40, .pointer (some ⟨g4_4, 0 + k4_4 * 8, none⟩)), (50, .slice none 0 0), (51, .slice a4_4_5 (lT x4_4_5.1).length c4_4_5), (52, .int .i32 (rArr false x4_4_4.2).1), (53, .int .i32 (0 : Int))] (.of ⟨rfl, rfl, rfl, rfl, rfl, rfl, rfl, rfl, rfl, rfl, rfl, rfl, rfl, rfl, rfl, rfl, rfl, rfl, rfl, trivial⟩) ⟨[], Nr4_4_5, _, rfl, rfl, (hR335.mono le_32), hr4_4_5, rfl, (fun p hp => by cases hp)⟩ (fun k4_4_5 l' H' L' hk4_4_5 le_33 hI => ?_))
                    obtain ⟨es4_4_5, M4_4_5, RN4_4_5, rfl, rfl, hR_4_4_5, hw_4_4_5, he_4_4_5, hg_4_4_5⟩ := hI
                    have hs_4_4_5 := els_len he_4_4_5
                    have hp_4_4_5 : (es4_4_5.flatMap fk).length = k4_4_5 * 1 := els_flat hs_4_4_5
                    refine sq ?_
                    refine sr ?_
                    refine mv rfl rfl ?_
                    refine mv rfl rfl ?_
                    refine lt rfl rfl rfl ?_
                    refine nl ?_
                    refine cd rfl (fun h348 => ?_) (fun h348 => ?_)
                    ·
                     have hkl4_4_5 : k4_4_5 < (lT x4_4_5.1).length := by omega
                     obtain ⟨g4_4_5, po4_4_5, hga4_4_5, rfl, hbk4_4_5⟩ := hw_4_4_5.next (zs := [.int .i32 0]) hkl4_4_5 rfl (by decide)
                     have ho4_4_5 : 0 + k4_4_5 * 1 = (es4_4_5.flatMap fk).length := by rw [hp_4_4_5]; omega
                     have hbz4_4_5 : ((decV 3 (decP [] v false) false false) (rMany (decV 3 (decP [] v false) false false) k4_4_5 (rArr false x4_4_4.2).2).2).2.bad = true → (decP fs_MetadataResponse v false ⟨s, false, !a.isNone⟩).2.bad = true := fun h => hB4_4_5 (by rw [ex4_4_5]; exact rMany_mono (fun r h => decV_bad (fun r h => decP_bad _ _ _ r h) h) _ (show k4_4_5 + 1 ≤ (lT x4_4_5.1).length from hkl4_4_5) (by rw [rMany_succ]; exact h))
                     have hLk4_4_5 : (rMany (decV 3 (decP [] v false) false false) k4_4_5 (rArr false x4_4_4.2).2).2.s.length ≤ BR := Nat.le_trans (rMany_shr (fun r => decV_shr (fun r => decP_shr _ _ _ r) r) _ _) hm4_4_5
                     obtain ⟨y4_4_5, hy4_4_5⟩ : ∃ x, x = (decV 3 (decP [] v false) false false) (rMany (decV 3 (decP [] v false) false false) k4_4_5 (rArr false x4_4_4.2).2).2 := ⟨_, rfl⟩
                     refine skt ?_
                     refine sq ?_
                     refine bl ?_
                     refine sr ?_
                     refine tf (.tail .head) ?_
                     refine cl rfl rfl rfl (d3 hR_4_4_5 hy4_4_5) rfl (fun v_ H1 L1 hle_ hR_ => ?_)
                     obtain ⟨N351, rfl, hR351, rfl, rfl⟩ := hR_
                     refine asg rfl rfl ?_
                     refine nl ?_
                     refine rg ?_
                     refine mv rfl rfl ?_
                     refine mv rfl rfl ?_
                     refine mv rfl rfl ?_
                     refine ixk (j := k4_4_5) Tryz.runUnderlying114 Tryz.sizeOf21 rfl hga4_4_5 rfl rfl hkl4_4_5 rfl ?_
                     refine stM (off := 0) Tryz.sizeOf21 rfl ho4_4_5 rfl rfl rfl (.tail .head) ?_
                     refine nN ?_
                     refine Nb ?_
                     refine Nt ?_
                     refine rg ?_
                     refine mv rfl rfl ?_
                     refine ad rfl rfl (c := ((k4_4_5 + 1 : Nat) : Int)) ((wrap32_le (by omega) (by omega)).trans (by omega)) rfl ?_
                     refine asg rfl rfl ?_
                     refine nN ?_
                     have hfs4_4_5 := flatMap_snoc' fk es4_4_5 ((⟨([.int .i32 (IntKind.i32.wrap y4_4_5.1.n)] : List Value), rfl, all_one rfl⟩, ((decV 3 (decP [] v false) false false) (rMany (decV 3 (decP [] v false) false false) k4_4_5 (rArr false x4_4_4.2).2).2).1) : KE 1)
                     have hrw4_4_5 := hbk4_4_5 ([.int .i32 (IntKind.i32.wrap y4_4_5.1.n)] : List Value) rfl
                     refine tfN (.tail .head) ?_
                     refine fun a_ w_ hA hw => ⟨hkl4_4_5, _, _, _, hA.sub ?_, le_33, hw, _, _, _, rfl, rfl, (by rw [rMany_succ, ← hy4_4_5]; exact hR351), (by rw [← hfs4_4_5]; exact hrw4_4_5), (dec_els he_4_4_5), (fun p hp => (mem_snoc hp).elim (fun h => RI32.mono _ _ _ _ ler (hg_4_4_5 p h)) (fun h => h ▸ (by show RI32 _ ((decV 3 (decP [] v false) false false) (rMany (decV 3 (decP [] v false) false false) k4_4_5 (rArr false x4_4_4.2).2).2).1 [.int .i32 (IntKind.i32.wrap y4_4_5.1.n)]; rw [← hy4_4_5]; rfl)))⟩
                     exact (.of ⟨rfl, rfl, rfl, rfl, rfl, rfl, rfl, rfl, rfl, rfl, rfl, rfl, rfl, rfl, rfl, rfl, rfl, rfl, rfl, trivial⟩)
                    ·
                     have hkn_ : k4_4_5 = (lT x4_4_5.1).length := by omega
                     subst hkn_
                     have hw2_4_4_5 : Row 21 1 a4_4_5 (lT x4_4_5.1).length c4_4_5 (es4_4_5.flatMap fk) M4_4_5 := by have h := hw_4_4_5; rw [Nat.sub_self] at h; simpa [reps] using h
                     refine frW hw2_4_4_5 .head (fun Hf4_4_5 hlf4_4_5 hfz4_4_5 => ?_)
                     have hrs4_4_5 := RowsAt.row (R := RI32) hfz4_4_5 hs_4_4_5.symm hw2_4_4_5.le.1 (fun p hp => RI32.mono _ _ _ _ hlf4_4_5 (hg_4_4_5 p hp))
                     rw [he_4_4_5] at hrs4_4_5
                     have hf4_4_5 : ListAt Hf4_4_5 x4_4_5.1 1 RI32 a4_4_5 c4_4_5 := by rw [ex4_4_5]; exact listAt_of hrs4_4_5 hi4_4_5 (fun h => by have h1 := nul_le h; rw [show (lT x4_4_5.1).length = 0 by omega]; rfl)
                     have hRx4_4_5 : RdAt Hf4_4_5 104 b_1 x4_4_5.2 RN4_4_5 := by rw [ex4_4_5]; exact (hR_4_4_5.mono hlf4_4_5)
                     refine exX ?_
                     refine XT ?_
                     refine XT ?_
                     refine Xb ?_
                     refine Nt ?_
                     refine sr ?_
                     refine mv rfl rfl ?_
                     refine asg rfl rfl ?_
                     refine nl ?_
                     refine rg ?_
                     refine mv rfl rfl ?_
                     refine mv rfl rfl ?_
                     refine nc rfl rfl ?_
                     refine fa F116_5 rfl rfl ?_
                     refine stM (off := 5) Tryz.sizeOf114 rfl (by rw [ho4_4]) rfl rfl rfl (.tail .head) ?_
                     refine nl ?_
                     refine sq ?_
                     refine sr ?_
                     refine mv rfl rfl ?_
                     refine ge rfl rfl rfl ?_
                     refine nl ?_
                     refine cutT (fun l' H' L' => ∃ (a4_4_6 : Option Addr), ∃ (c4_4_6 : Nat), ∃ (Nj4_4_6 : Chunk), [(2, .bool false), (7, .pointer (some ⟨b_1, 0, none⟩)), (8, .int .i16 v), (9, .bool (decide ((9 : Int) ≤ v))), (10, .pointer (some ⟨b, 0, none⟩)), (24, .slice none 0 0), (25, .slice a4 (lT x4.1).length c4), (26, .int .i32 (rArr false x3.2).1), (27, .int .i32 (k4 : Int)), (29, .pointer (some ⟨g4, 0 + k4 * 22, none⟩)), (35, .slice none 0 0), (36, .slice a4_4 (lT x4_4.1).length c4_4), (37, .int .i32 (rArr false x4_3.2).1), (38, .int .i32 (k4_4 : Int)), (40, .pointer (some ⟨g4_4, 0 + k4_4 * 8, none⟩))] = l' ∧ Nj4_4_6 :: [(g4_4, .cells ((es4_4.flatMap fk) ++ ([.int .i16 (IntKind.i16.wrap x4_4_0.1.n), .int .i32 (IntKind.i32.wrap x4_4_1.1.n), .int .i32 (IntKind.i32.wrap x4_4_2.1.n), .int .i32 (IntKind.i32.wrap x4_4_3.1.n), .slice a4_4_4 (lT x4_4_4.1).length c4_4_4, .slice a4_4_5 (lT x4_4_5.1).length c4_4_5, .slice a4_4_6 (lT x4_4_6.1).length c4_4_6, .map none] : List Value) ++ po4_4).toArray 116 (0, 0))] :: [(g4, .cells ((es4.flatMap fk) ++ ([.int .i16 (IntKind.i16.wrap x4_0.1.n), .pointer (some ⟨b_18, 0, none⟩), .int .u8 0, .int .u8 0, .int .u8 0, .int .u8 0, .int .u8 0, .int .u8 0, .int .u8 0, .int .u8 0, .int .u8 0, .int .u8 0, .int .u8 0, .int .u8 0, .int .u8 0, .int .u8 0, .int .u8 0, .int .u8 0, .bool (decide (x4_3.1.n % 2 = 1)), .slice none 0 0, .int .i32 (-2147483648), .map none] : List Value) ++ po4).toArray 90 (0, 0))] :: [(b, .cells [.int .i16 v, .int .i32 (IntKind.i32.wrap x0.1.n), .slice a1 (lT x1.1).length c1, .pointer p2, .int .i32 (IntKind.i32.wrap x3.1.n), .slice none 0 0, .int .i32 (-2147483648), .int .i16 0, .map none].toArray 78 (0, 0))] :: L = L' ∧ RdAt H' 104 b_1 x4_4_6.2 Nj4_4_6 ∧ ListAt H' x4_4_6.1 1 RI32 a4_4_6 c4_4_6) ?_ (fun l' H' L' le_35 hI => ?_)
                     ·
                      refine cd rfl (fun h362 => ?_) (fun h362 => ?_)
                      ·
                       refine sr ?_
                       refine mv rfl rfl ?_
                       refine nc rfl rfl ?_
                       refine fa F116_6 rfl rfl ?_
                       refine ld (j := 6) (off := 0 + k4_4 * 8) (Says.mid (.tail .head) ho4_4) Tryz.isAgg114 rfl rfl rfl rfl ?_
                       refine asg rfl rfl ?_
                       refine nl ?_
                       refine sr ?_
                       refine mv rfl rfl ?_
                       refine asg rfl rfl ?_
                       refine nl ?_
                       refine sr ?_
                       refine asg rfl rfl ?_
                       refine nl ?_
                       refine sq ?_
                       refine sr ?_
                       refine mv rfl rfl ?_
                       refine nl ?_
                       refine cdF rfl (by omega) ?_
                       refine rg ?_
                       have ey4_4_6 : x4_4_6 = (.mk 0 [] (if 0 ≤ ((-1) : Int) ∧ (v < ((-1) : Int) ∨ (rArr false x4_4_5.2).1 = 0) then false else decide ((rArr false x4_4_5.2).1 ≤ 0)) (rMany (decV 3 (decP [] v false) false false) (rArr false x4_4_5.2).1.toNat (rArr false x4_4_5.2).2).1 [], (rMany (decV 3 (decP [] v false) false false) (rArr false x4_4_5.2).1.toNat (rArr false x4_4_5.2).2).2) := (hx4_4_6.trans (step_yes (by decide) (show (5 : Int) ≤ v by omega) (Or.inl (by decide)))).trans (decF'_list rfl rfl)
                       have hn4_4_6 : (rArr false x4_4_5.2).1.toNat = (lT x4_4_6.1).length := by rw [ey4_4_6]; exact (lT_many nul_le).symm
                       have ex4_4_6 := ey4_4_6
                       rw [hn4_4_6] at ex4_4_6
                       have hl4_4_6 := rArr_le false x4_4_5.2
                       have hm4_4_6 : (rArr false x4_4_5.2).2.s.length ≤ BR := Nat.le_trans (rArr_len false x4_4_5.2) hL4_4_5
                       have hnb4_4_6 : (lT x4_4_6.1).length ≤ BR := by omega
                       refine cl rfl rfl rfl (r_arrf hRx4_4_5) rfl (fun v_ H1 L1 hle_ hR_ => ?_)
                       obtain ⟨rfl, N370, rfl, hR370, rfl⟩ := hR_
                       have hh4_4_6 := rArr_hi false x4_4_5.2
                       refine asg rfl rfl ?_
                       refine nl ?_
                       refine sq ?_
                       refine sr ?_
                       refine cl rfl rfl rfl (r_ok hR370) rfl (fun v_ H1 L1 hle_ hR_ => ?_)
                       obtain ⟨rfl, rfl, rfl⟩ := hR_
                       refine nt rfl rfl ?_
                       refine nl ?_
                       refine cb rfl (fun h372 => ?_) (fun h372 => ?_)
                       ·
                        have hbad_ : (rArr false x4_4_5.2).2.bad = true := by simpa using h372
                        refine sr ?_
                        refine cl rfl rfl rfl (r_complete hR370 (he.mono (le_2.trans (le_4.trans (le_5.trans (hlf1.trans (le_11.trans (le_13.trans (le_15.trans (le_16.trans (lp4_1.trans (le_20.trans (le_22.trans (le_23.trans (le_27.trans (le_29.trans (le_30.trans (hlf4_4_4.trans (le_32.trans (le_33.trans hlf4_4_5)))))))))))))))))))) rfl (fun v_ H1 L1 hle_ hR_ => ?_)
                        obtain ⟨rfl, rfl, rfl⟩ := hR_
                        refine asg rfl rfl ?_
                        refine nl ?_
                        refine drW .head ?_
                        refine drW .head ?_
                        refine drW .head ?_
                        exact rT rfl rfl (le_2.trans (le_4.trans (le_5.trans (hlf1.trans (le_11.trans (le_13.trans (le_15.trans (le_16.trans (lp4_1.trans (le_20.trans (le_22.trans (le_23.trans (le_27.trans (le_29.trans (le_30.trans (hlf4_4_4.trans (le_32.trans (le_33.trans hlf4_4_5)))))))))))))))))) (fun _ _ h => h) ⟨_, rfl, RdEnd.out (hB4_4_6 (by rw [ey4_4_6]; exact rMany_bad (fun r h => decV_bad (decP_bad _ _ _) h) _ _ hbad_)) hbad_⟩
                       ·
                        refine skt ?_
                        refine sr ?_
                        refine mv rfl rfl ?_
                        refine sh' (j := 0) Tryz.runUnderlying114 Tryz.sizeOf21 rfl rfl rfl (Nat.zero_le _) rfl ?_
                        refine asg rfl rfl ?_
                        refine nl ?_
                        refine sq ?_
                        refine sr ?_
                        refine mv rfl rfl ?_
                        refine gt rfl rfl rfl ?_
                        refine nl ?_
                        refine nulC2 ?_
                        refine cutT (fun l' H' L' => ∃ (a4_4_6 : Option Addr), ∃ (c4_4_6 : Nat), ∃ (Nr4_4_6 : Chunk), [(2, .bool false), (7, .pointer (some ⟨b_1, 0, none⟩)), (8, .int .i16 v), (9, .bool (decide ((9 : Int) ≤ v))), (10, .pointer (some ⟨b, 0, none⟩)), (24, .slice none 0 0), (25, .slice a4 (lT x4.1).length c4), (26, .int .i32 (rArr false x3.2).1), (27, .int .i32 (k4 : Int)), (29, .pointer (some ⟨g4, 0 + k4 * 22, none⟩)), (35, .slice none 0 0), (36, .slice a4_4 (lT x4_4.1).length c4_4), (37, .int .i32 (rArr false x4_3.2).1), (38, .int .i32 (k4_4 : Int)), (40, .pointer (some ⟨g4_4, 0 + k4_4 * 8, none⟩)), (55, .slice none 0 0), (56, .slice a4_4_6 (lT x4_4_6.1).length c4_4_6), (57, .int .i32 (rArr false x4_4_5.2).1)] = l' ∧ Nr4_4_6 :: N370 :: [(g4_4, .cells ((es4_4.flatMap fk) ++ ([.int .i16 (IntKind.i16.wrap x4_4_0.1.n), .int .i32 (IntKind.i32.wrap x4_4_1.1.n), .int .i32 (IntKind.i32.wrap x4_4_2.1.n), .int .i32 (IntKind.i32.wrap x4_4_3.1.n), .slice a4_4_4 (lT x4_4_4.1).length c4_4_4, .slice a4_4_5 (lT x4_4_5.1).length c4_4_5, .slice none 0 0, .map none] : List Value) ++ po4_4).toArray 116 (0, 0))] :: [(g4, .cells ((es4.flatMap fk) ++ ([.int .i16 (IntKind.i16.wrap x4_0.1.n), .pointer (some ⟨b_18, 0, none⟩), .int .u8 0, .int .u8 0, .int .u8 0, .int .u8 0, .int .u8 0, .int .u8 0, .int .u8 0, .int .u8 0, .int .u8 0, .int .u8 0, .int .u8 0, .int .u8 0, .int .u8 0, .int .u8 0, .int .u8 0, .int .u8 0, .bool (decide (x4_3.1.n % 2 = 1)), .slice none 0 0, .int .i32 (-2147483648), .map none] : List Value) ++ po4).toArray 90 (0, 0))] :: [(b, .cells [.int .i16 v, .int .i32 (IntKind.i32.wrap x0.1.n), .slice a1 (lT x1.1).length c1, .pointer p2, .int .i32 (IntKind.i32.wrap x3.1.n), .slice none 0 0, .int .i32 (-2147483648), .int .i16 0, .map none].toArray 78 (0, 0))] :: L = L' ∧ Row 21 1 a4_4_6 (lT x4_4_6.1).length c4_4_6 (reps [.int .i32 0] (lT x4_4_6.1).length) Nr4_4_6 ∧ a4_4_6.isNone = (if 0 ≤ ((-1) : Int) ∧ (v < ((-1) : Int) ∨ (rArr false x4_4_5.2).1 = 0) then false else decide ((rArr false x4_4_5.2).1 ≤ 0))) ?_ (fun l' H' L' le_36 hI => ?_)
                        ·
                         refine cd rfl (fun h377 => ?_) (fun h377 => ?_)
                         ·
                          refine rg ?_
                          refine mv rfl rfl ?_
                          refine mv rfl rfl ?_
                          refine apz (zs := [.int .i32 0]) (m := (lT x4_4_6.1).length) Tryz.underlying114 Tryz.underlying21 I21 rfl rfl rfl (by omega) (by omega) (by have h9 := hnb4_4_6; unfold BR at h9; omega) (by have h9 := hnb4_4_6; unfold BR at h9; unfold maxLen; omega) rfl (fun g380 cp380 N380 r380 => ?_)
                          refine asg rfl rfl ?_
                          refine nN ?_
                          refine drN (.tail .head) ?_
                          refine fun a_ w_ hA hw => ⟨_, _, _, hA.sub ?_, ler, hw, (some ⟨g380, 0, none⟩), cp380, N380, rfl, rfl, r380, (by rw [if_neg (by omega)]; exact (decide_eq_false (by omega)).symm)⟩
                          exact (.cons rfl (.cons rfl (.cons rfl (.cons rfl (.cons rfl (.cons rfl (.cons rfl (.cons rfl (.cons rfl (.cons rfl (.cons rfl (.cons rfl (.cons rfl (.cons rfl (.cons rfl (.cons rfl (.cons rfl (.cons rfl (.nil _)))))))))))))))))))
                         ·
                          refine skN ?_
                          refine fun a_ w_ hA hw => ⟨_, _, _, hA.sub ?_, ler, hw, none, 0, [], rfl, rfl, (by rw [show (lT x4_4_6.1).length = 0 by omega]; exact (Row.nil _ _)), (by rw [if_neg (by omega)]; exact (decide_eq_true (by omega)).symm)⟩
                          exact (.cons rfl (.cons rfl (.cons rfl (.cons rfl (.cons rfl (.cons rfl (.cons rfl (.cons rfl (.cons rfl (.cons rfl (.cons rfl (.cons rfl (.cons rfl (.cons rfl (.cons rfl (.cons rfl (.cons (by rw [show (lT x4_4_6.1).length = 0 by omega]; rfl) (.cons rfl (.nil _)))))))))))))))))))
                        ·
                         obtain ⟨a4_4_6, c4_4_6, Nr4_4_6, rfl, rfl, pj0, pj1⟩ := hI
                         have hr4_4_6 := pj0
                         have hi4_4_6 := pj1
                         refine sq ?_
                         refine sr ?_
                         refine asg rfl rfl ?_
                         refine nl ?_
                         refine bl (lp ((lT x4_4_6.1).length) (fun k4_4_6 l' H' L' => ∃ (es4_4_6 : List (KE 1)) (M4_4_6 RN4_4_6 : Chunk), [(2, .bool false), (7, .pointer (some ⟨b_1, 0, none⟩)), (8, .int .i16 v), (9, .bool (decide ((9 : Int) ≤ v))), (10, .pointer (some ⟨b, 0, none⟩)), (24, .slice none 0 0), (25, .slice a4 (lT x4.1).length c4), (26, .int .i32 (rArr false x3.2).1), (27, .int .i32 (k4 : Int)), (29, .pointer (some ⟨g4, 0 + k4 * 22, none⟩)), (35, .slice none 0 0), (36, .slice a4_4 (lT x4_4.1).length c4_4), (37, .int .i32 (rArr false x4_3.2).1), (38, .int .i32 (k4_4 : Int)), (40, .pointer (some ⟨g4_4, 0 + k4_4 * 8, none⟩)), (55, .slice none 0 0), (56, .slice a4_4_6 (lT x4_4_6.1).length c4_4_6), (57, .int .i32 (rArr false x4_4_5.2).1), (58, .int .i32 (k4_4_6 : Int))] = l' ∧ M4_4_6 :: RN4_4_6 :: [(g4_4, .cells ((es4_4.flatMap fk) ++ ([.int .i16 (IntKind.i16.wrap x4_4_0.1.n), .int .i32 (IntKind.i32.wrap x4_4_1.1.n), .int .i32 (IntKind.i32.wrap x4_4_2.1.n), .int .i32 (IntKind.i32.wrap x4_4_3.1.n), .slice a4_4_4 (lT x4_4_4.1).length c4_4_4, .slice a4_4_5 (lT x4_4_5.1).length c4_4_5, .slice none 0 0, .map none] : List Value) ++ po4_4).toArray 116 (0, 0))] :: [(g4, .cells ((es4.flatMap fk) ++ ([.int .i16 (IntKind.i16.wrap x4_0.1.n), .pointer (some ⟨b_18, 0, none⟩), .int .u8 0, .int .u8 0, .int .u8 0, .int .u8 0, .int .u8 0, .int .u8 0, .int .u8 0, .int .u8 0, .int .u8 0, .int .u8 0, .int .u8 0, .int .u8 0, .int .u8 0, .int .u8 0, .int .u8 0, .int .u8 0, .bool (decide (x4_3.1.n % 2 = 1)), .slice none 0 0, .int .i32 (-2147483648), .map none] : List Value) ++ po4).toArray 90 (0, 0))] :: [(b, .cells [.int .i16 v, .int .i32 (IntKind.i32.wrap x0.1.n), .slice a1 (lT x1.1).length c1, .pointer p2, .int .i32 (IntKind.i32.wrap x3.1.n), .slice none 0 0, .int .i32 (-2147483648), .int .i16 0, .map none].toArray 78 (0, 0))] :: L = L' ∧ RdAt H' 104 b_1 (rMany (decV 3 (decP [] v false) false false) k4_4_6 (rArr false x4_4_5.2).2).2 RN4_4_6 ∧ Row 21 1 a4_4_6 (lT x4_4_6.1).length c4_4_6 (es4_4_6.flatMap fk ++ reps [.int .i32 0] ((lT x4_4_6.1).length - k4_4_6)) M4_4_6 ∧ es4_4_6.map (·.2) = (rMany (decV 3 (decP [] v false) false false) k4_4_6 (rArr false x4_4_5.2).2).1 ∧ ∀ p ∈ es4_4_6, RI32 H' p.2 (fk p)) [(2, .bool false), (7, .pointer (some ⟨b_1, 0, none⟩)), (8, .int .i16 v), (9, .bool (decide ((9 : Int) ≤ v))), (10, .pointer (some ⟨b, 0, none⟩)), (24, .slice none 0 0), (25, .slice a4 (lT x4.1).length c4), (26, .int .i32 (rArr false x3.2).1), (27, .int .i32 (k4 : Int)), (29, .pointer (some ⟨g4, 0 + k4 * 22, none⟩)), (35, .slice none 0 0), (36, .slice a4_4 (lT x4_4.1).length c4_4), (37, .int .i32 (rArr false x4_3.2).1), (38, .int .i32 (k4_4 : Int)), (40, .pointer (some ⟨g4_4, 0 + k4_4 * 8, none⟩)), (55, .slice none 0 0), (56, .slice a4_4_6 (lT x4_4_6.1).length c4_4_6), (57, .int .i32 (rArr false x4_4_5.2).1), (58, .int .i32 (0 : Int))] (.of ⟨rfl, rfl, rfl, rfl, rfl, rfl, rfl, rfl, rfl, rfl, rfl, rfl, rfl, rfl, rfl, rfl, rfl, rfl, rfl, trivial⟩) ⟨[], Nr4_4_6, _, rfl, rfl, (hR370.mono le_36), hr4_4_6, rfl, (fun p hp => by cases hp)⟩ (fun k4_4_6 l' H' L' hk4_4_6 le_37 hI => ?_))
                         obtain ⟨es4_4_6, M4_4_6, RN4_4_6, rfl, rfl, hR_4_4_6, hw_4_4_6, he_4_4_6, hg_4_4_6⟩ := hI
                         have hs_4_4_6 := els_len he_4_4_6
                         have hp_4_4_6 : (es4_4_6.flatMap fk).length = k4_4_6 * 1 := els_flat hs_4_4_6
                         refine sq ?_
                         refine sr ?_
                         refine mv rfl rfl ?_
                         refine mv rfl rfl ?_
                         refine lt rfl rfl rfl ?_
                         refine nl ?_
                         refine cd rfl (fun h383 => ?_) (fun h383 => ?_)
                         ·
                          have hkl4_4_6 : k4_4_6 < (lT x4_4_6.1).length := by omega
                          obtain ⟨g4_4_6, po4_4_6, hga4_4_6, rfl, hbk4_4_6⟩ := hw_4_4_6.next (zs := [.int .i32 0]) hkl4_4_6 rfl (by decide)
                          have ho4_4_6 : 0 + k4_4_6 * 1 = (es4_4_6.flatMap fk).length := by rw [hp_4_4_6]; omega
                          have hbz4_4_6 : ((decV 3 (decP [] v false) false false) (rMany (decV 3 (decP [] v false) false false) k4_4_6 (rArr false x4_4_5.2).2).2).2.bad = true → (decP fs_MetadataResponse v false ⟨s, false, !a.isNone⟩).2.bad = true := fun h => hB4_4_6 (by rw [ex4_4_6]; exact rMany_mono (fun r h => decV_bad (fun r h => decP_bad _ _ _ r h) h) _ (show k4_4_6 + 1 ≤ (lT x4_4_6.1).length from hkl4_4_6) (by rw [rMany_succ]; exact h))
                          have hLk4_4_6 : (rMany (decV 3 (decP [] v false) false false) k4_4_6 (rArr false x4_4_5.2).2).2.s.length ≤ BR := Nat.le_trans (rMany_shr (fun r => decV_shr (fun r => decP_shr _ _ _ r) r) _ _) hm4_4_6
                          obtain ⟨y4_4_6, hy4_4_6⟩ : ∃ x, x = (decV 3 (decP [] v false) false false) (rMany (decV 3 (decP [] v false) false false) k4_4_6 (rArr false x4_4_5.2).2).2 := ⟨_, rfl⟩
                          refine skt ?_
                          refine sq ?_
                          refine bl ?_
                          refine sr ?_
                          refine tf (.tail .head) ?_
                          refine cl rfl rfl rfl (d3 hR_4_4_6 hy4_4_6) rfl (fun v_ H1 L1 hle_ hR_ => ?_)
                          obtain ⟨N386, rfl, hR386, rfl, rfl⟩ := hR_
                          refine asg rfl rfl ?_
                          refine nl ?_
                          refine rg ?_
                          refine mv rfl rfl ?_
                          refine mv rfl rfl ?_
                          refine mv rfl rfl ?_
                          refine ixk (j := k4_4_6) Tryz.runUnderlying114 Tryz.sizeOf21 rfl hga4_4_6 rfl rfl hkl4_4_6 rfl ?_
                          refine stM (off := 0) Tryz.sizeOf21 rfl ho4_4_6 rfl rfl rfl (.tail .head) ?_
                          refine nN ?_
                          refine Nb ?_
                          refine Nt ?_
                          refine rg ?_
                          refine mv rfl rfl ?_
                          refine ad rfl rfl (c := ((k4_4_6 + 1 : Nat) : Int)) ((wrap32_le (by omega) (by omega)).trans (by omega)) rfl ?_
                          refine asg rfl rfl ?_
                          refine nN ?_
                          have hfs4_4_6 := flatMap_snoc' fk es4_4_6 ((⟨([.int .i32 (IntKind.i32.wrap y4_4_6.1.n)] : List Value), rfl, all_one rfl⟩, ((decV 3 (decP [] v false) false false) (rMany (decV 3 (decP [] v false) false false) k4_4_6 (rArr false x4_4_5.2).2).2).1) : KE 1)
                          have hrw4_4_6 := hbk4_4_6 ([.int .i32 (IntKind.i32.wrap y4_4_6.1.n)] : List Value) rfl
                          refine tfN (.tail .head) ?_
                          refine fun a_ w_ hA hw => ⟨hkl4_4_6, _, _, _, hA.sub ?_, le_37, hw, _, _, _, rfl, rfl, (by rw [rMany_succ, ← hy4_4_6]; exact hR386), (by rw [← hfs4_4_6]; exact hrw4_4_6), (dec_els he_4_4_6), (fun p hp => (mem_snoc hp).elim (fun h => RI32.mono _ _ _ _ ler (hg_4_4_6 p h)) (fun h => h ▸ (by show RI32 _ ((decV 3 (decP [] v false) false false) (rMany (decV 3 (decP [] v false) false false) k4_4_6 (rArr false x4_4_5.2).2).2).1 [.int .i32 (IntKind.i32.wrap y4_4_6.1.n)]; rw [← hy4_4_6]; rfl)))⟩
                          exact (.of ⟨rfl, rfl, rfl, rfl, rfl, rfl, rfl, rfl, rfl, rfl, rfl, rfl, rfl, rfl, rfl, rfl, rfl, rfl, rfl, trivial⟩)
                         ·
                          have hkn_ : k4_4_6 = (lT x4_4_6.1).length := by omega
                          subst hkn_
                          have hw2_4_4_6 : Row 21 1 a4_4_6 (lT x4_4_6.1).length c4_4_6 (es4_4_6.flatMap fk) M4_4_6 := by have h := hw_4_4_6; rw [Nat.sub_self] at h; simpa [reps] using h
                          refine frW hw2_4_4_6 .head (fun Hf4_4_6 hlf4_4_6 hfz4_4_6 => ?_)
                          have hrs4_4_6 := RowsAt.row (R := RI32) hfz4_4_6 hs_4_4_6.symm hw2_4_4_6.le.1 (fun p hp => RI32.mono _ _ _ _ hlf4_4_6 (hg_4_4_6 p hp))
                          rw [he_4_4_6] at hrs4_4_6
                          have hf4_4_6 : ListAt Hf4_4_6 x4_4_6.1 1 RI32 a4_4_6 c4_4_6 := by rw [ex4_4_6]; exact listAt_of hrs4_4_6 hi4_4_6 (fun h => by have h1 := nul_le h; rw [show (lT x4_4_6.1).length = 0 by omega]; rfl)
                          have hRx4_4_6 : RdAt Hf4_4_6 104 b_1 x4_4_6.2 RN4_4_6 := by rw [ex4_4_6]; exact (hR_4_4_6.mono hlf4_4_6)
                          refine exX ?_
                          refine XT ?_
                          refine XT ?_
                          refine Xb ?_
                          refine Nt ?_
                          refine sr ?_
                          refine mv rfl rfl ?_
                          refine asg rfl rfl ?_
                          refine nl ?_
                          refine rg ?_
                          refine mv rfl rfl ?_
                          refine mv rfl rfl ?_
                          refine nc rfl rfl ?_
                          refine fa F116_6 rfl rfl ?_
                          refine stM (off := 6) Tryz.sizeOf114 rfl (by rw [ho4_4]) rfl rfl rfl (.tail .head) ?_
                          refine nN ?_
                          refine fun a_ w_ hA hw => ⟨_, _, _, hA.sub ?_, (le_36.trans (le_37.trans hlf4_4_6)), hw, a4_4_6, c4_4_6, RN4_4_6, rfl, rfl, hRx4_4_6, hf4_4_6⟩
                          exact (.cons rfl (.cons rfl (.cons rfl (.cons rfl (.cons rfl (.cons rfl (.cons rfl (.cons rfl (.cons rfl (.cons rfl (.cons rfl (.cons rfl (.cons rfl (.cons rfl (.cons rfl (.nil _))))))))))))))))
                      ·
                       refine skN ?_
                       obtain rfl : x4_4_6 = ((Tr.mk 0 [] true [] []), x4_4_5.2) := (hx4_4_6.trans (step_no (Or.inl (show v < (5 : Int) by omega)))).trans (by rw [dflF_eq]; rfl)
                       refine fun a_ w_ hA hw => ⟨_, _, _, hA.sub ?_, ler, hw, none, 0, RN4_4_5, rfl, rfl, hRx4_4_5, (ListAt.none rfl)⟩
                       exact (.cons rfl (.cons rfl (.cons rfl (.cons rfl (.cons rfl (.cons rfl (.cons rfl (.cons rfl (.cons rfl (.cons rfl (.cons rfl (.cons rfl (.cons rfl (.cons rfl (.cons rfl (.nil _))))))))))))))))
                     ·
                      obtain ⟨a4_4_6, c4_4_6, Nj4_4_6, rfl, rfl, pj0, pj1⟩ := hI
                      have hRj4_4_6 := pj0
                      have hf4_4_6 := pj1
                      refine sr ?_
                      refine mv rfl rfl ?_
                      refine nl ?_
                      refine cdF rfl (by omega) ?_
                      refine skN ?_
                      refine Nb ?_
                      refine Nt ?_
                      refine rg ?_
                      refine mv rfl rfl ?_
                      refine ad rfl rfl (c := ((k4_4 + 1 : Nat) : Int)) ((wrap32_le (by omega) (by omega)).trans (by omega)) rfl ?_
                      refine asg rfl rfl ?_
                      refine nN ?_
                      obtain rfl : u4_4_ = ([], x4_4_6.2) := hu4_4_
                      have hfs4_4 := flatMap_snoc' fk es4_4 ((⟨([.int .i16 (IntKind.i16.wrap x4_4_0.1.n), .int .i32 (IntKind.i32.wrap x4_4_1.1.n), .int .i32 (IntKind.i32.wrap x4_4_2.1.n), .int .i32 (IntKind.i32.wrap x4_4_3.1.n), .slice a4_4_4 (lT x4_4_4.1).length c4_4_4, .slice a4_4_5 (lT x4_4_5.1).length c4_4_5, .slice a4_4_6 (lT x4_4_6.1).length c4_4_6, .map none] : List Value), rfl, all_one rfl⟩, ((decV 10 (decP fs_sMetadataResponseTopicPartition v false) false false) (rMany (decV 10 (decP fs_sMetadataResponseTopicPartition v false) false false) k4_4 (rArr false x4_3.2).2).2).1) : KE 8)
                      have hrw4_4 := hbk4_4 ([.int .i16 (IntKind.i16.wrap x4_4_0.1.n), .int .i32 (IntKind.i32.wrap x4_4_1.1.n), .int .i32 (IntKind.i32.wrap x4_4_2.1.n), .int .i32 (IntKind.i32.wrap x4_4_3.1.n), .slice a4_4_4 (lT x4_4_4.1).length c4_4_4, .slice a4_4_5 (lT x4_4_5.1).length c4_4_5, .slice a4_4_6 (lT x4_4_6.1).length c4_4_6, .map none] : List Value) rfl
                      refine tfN (.tail .head) ?_
                      refine fun a_ w_ hA hw => ⟨hkl4_4, _, _, _, hA.sub ?_, (le_23.trans (le_27.trans (le_29.trans (le_30.trans (hlf4_4_4.trans (le_32.trans (le_33.trans (hlf4_4_5.trans le_35)))))))), hw, _, _, _, rfl, rfl, (by rw [rMany_succ]; show RdAt _ 104 b_1 (decP fs_sMetadataResponseTopicPartition v false (rMany (decV 10 (decP fs_sMetadataResponseTopicPartition v false) false false) k4_4 (rArr false x4_3.2).2).2).2 _; rw [hD4_4_]; exact hRj4_4_6), (by rw [← hfs4_4]; exact hrw4_4), (dec_els he_4_4), (fun p hp => (mem_snoc hp).elim (fun h => At_MetadataResponseTopicPartition.mono _ _ _ _ (le_27.trans (le_29.trans (le_30.trans (hlf4_4_4.trans (le_32.trans (le_33.trans (hlf4_4_5.trans le_35))))))) (hg_4_4 p h)) (fun h => h ▸ (by show At_MetadataResponseTopicPartition _ (decP fs_sMetadataResponseTopicPartition v false (rMany (decV 10 (decP fs_sMetadataResponseTopicPartition v false) false false) k4_4 (rArr false x4_3.2).2).2).1 [.int .i16 (IntKind.i16.wrap x4_4_0.1.n), .int .i32 (IntKind.i32.wrap x4_4_1.1.n), .int .i32 (IntKind.i32.wrap x4_4_2.1.n), .int .i32 (IntKind.i32.wrap x4_4_3.1.n), .slice a4_4_4 (lT x4_4_4.1).length c4_4_4, .slice a4_4_5 (lT x4_4_5.1).length c4_4_5, .slice a4_4_6 (lT x4_4_6.1).length c4_4_6, .map none]; rw [hD4_4_]; exact ⟨a4_4_4, c4_4_4, a4_4_5, c4_4_5, a4_4_6, c4_4_6, none, rfl, (hf4_4_4.mono RI32.mono (le_32.trans (le_33.trans (hlf4_4_5.trans le_35)))), (hf4_4_5.mono RI32.mono le_35), hf4_4_6, (KvAt.nil _)⟩)))⟩
                      exact (.of ⟨rfl, rfl, rfl, rfl, rfl, rfl, rfl, rfl, rfl, rfl, rfl, rfl, rfl, rfl, trivial⟩)
             ·
              have hkn_ : k4_4 = (lT x4_4.1).length := by omega
              subst hkn_
              have hw2_4_4 : Row 116 8 a4_4 (lT x4_4.1).length c4_4 (es4_4.flatMap fk) M4_4 := by have h := hw_4_4; rw [Nat.sub_self] at h; simpa [reps] using h
              refine frW hw2_4_4 .head (fun Hf4_4 hlf4_4 hfz4_4 => ?_)
              have hrs4_4 := RowsAt.row (R := At_MetadataResponseTopicPartition) hfz4_4 hs_4_4.symm hw2_4_4.le.1 (fun p hp => At_MetadataResponseTopicPartition.mono _ _ _ _ hlf4_4 (hg_4_4 p hp))
              rw [he_4_4] at hrs4_4
              have hf4_4 : ListAt Hf4_4 x4_4.1 8 At_MetadataResponseTopicPartition a4_4 c4_4 := by rw [ex4_4]; exact listAt_of hrs4_4 hi4_4 (fun h => by have h1 := nul_le h; rw [show (lT x4_4.1).length = 0 by omega]; rfl)
              have hRx4_4 : RdAt Hf4_4 104 b_1 x4_4.2 RN4_4 := by rw [ex4_4]; exact (hR_4_4.mono hlf4_4)
              refine exX ?_
              refine XT ?_
              refine XT ?_
              refine Xb ?_
              refine Nt ?_
              refine sr ?_
              refine mv rfl rfl ?_
              refine asg rfl rfl ?_
              refine nl ?_
              refine rg ?_
              refine mv rfl rfl ?_
              refine mv rfl rfl ?_
              refine nc rfl rfl ?_
              refine fa F90_4 rfl rfl ?_
              refine stM (off := 19) Tryz.sizeOf88 rfl (by rw [ho4]) rfl rfl rfl (.tail .head) ?_
              refine nl ?_
              refine sq ?_
              refine sr ?_
              refine mv rfl rfl ?_
              refine ge rfl rfl rfl ?_
              refine nl ?_
              refine cutT (fun l' H' L' => ∃ (Nj4_5 : Chunk), [(2, .bool false), (7, .pointer (some ⟨b_1, 0, none⟩)), (8, .int .i16 v), (9, .bool (decide ((9 : Int) ≤ v))), (10, .pointer (some ⟨b, 0, none⟩)), (24, .slice none 0 0), (25, .slice a4 (lT x4.1).length c4), (26, .int .i32 (rArr false x3.2).1), (27, .int .i32 (k4 : Int)), (29, .pointer (some ⟨g4, 0 + k4 * 22, none⟩))] = l' ∧ Nj4_5 :: [(g4, .cells ((es4.flatMap fk) ++ ([.int .i16 (IntKind.i16.wrap x4_0.1.n), .pointer (some ⟨b_18, 0, none⟩), .int .u8 0, .int .u8 0, .int .u8 0, .int .u8 0, .int .u8 0, .int .u8 0, .int .u8 0, .int .u8 0, .int .u8 0, .int .u8 0, .int .u8 0, .int .u8 0, .int .u8 0, .int .u8 0, .int .u8 0, .int .u8 0, .bool (decide (x4_3.1.n % 2 = 1)), .slice a4_4 (lT x4_4.1).length c4_4, .int .i32 (IntKind.i32.wrap x4_5.1.n), .map none] : List Value) ++ po4).toArray 90 (0, 0))] :: [(b, .cells [.int .i16 v, .int .i32 (IntKind.i32.wrap x0.1.n), .slice a1 (lT x1.1).length c1, .pointer p2, .int .i32 (IntKind.i32.wrap x3.1.n), .slice none 0 0, .int .i32 (-2147483648), .int .i16 0, .map none].toArray 78 (0, 0))] :: L = L' ∧ RdAt H' 104 b_1 x4_5.2 Nj4_5) ?_ (fun l' H' L' le_39 hI => ?_)
              ·
               refine cd rfl (fun h407 => ?_) (fun h407 => ?_)
               ·
                refine sr ?_
                have ex4_5 : x4_5 = decV 3 (decP [] v false) false false x4_4.2 := (hx4_5.trans (step_yes (by decide) (show (8 : Int) ≤ v by omega) (Or.inl (by decide)))).trans (decF'_val (by decide) (rfl))
                refine cl rfl rfl rfl (d3 hRx4_4 ex4_5) rfl (fun v_ H1 L1 hle_ hR_ => ?_)
                obtain ⟨N408, rfl, hR408, rfl, rfl⟩ := hR_
                refine asg rfl rfl ?_
                refine nl ?_
                refine rg ?_
                refine mv rfl rfl ?_
                refine mv rfl rfl ?_
                refine nc rfl rfl ?_
                refine fa F90_5 rfl rfl ?_
                refine stM (off := 20) Tryz.sizeOf21 rfl (by rw [ho4]) rfl rfl rfl (.tail .head) ?_
                refine nN ?_
                refine fun a_ w_ hA hw => ⟨_, _, _, hA.sub ?_, ler, hw, N408, rfl, rfl, hR408⟩
                exact (.cons rfl (.cons rfl (.cons rfl (.cons rfl (.cons rfl (.cons rfl (.cons rfl (.cons rfl (.cons rfl (.cons rfl (.nil _)))))))))))
               ·
                refine skN ?_
                obtain rfl : x4_5 = ((Tr.mk (-2147483648) [] false [] []), x4_4.2) := (hx4_5.trans (step_no (Or.inl (show v < (8 : Int) by omega)))).trans (by rw [dflF_eq]; rfl)
                refine fun a_ w_ hA hw => ⟨_, _, _, hA.sub ?_, ler, hw, RN4_4, rfl, rfl, hRx4_4⟩
                exact (.cons rfl (.cons rfl (.cons rfl (.cons rfl (.cons rfl (.cons rfl (.cons rfl (.cons rfl (.cons rfl (.cons rfl (.nil _)))))))))))
              ·
               obtain ⟨Nj4_5, rfl, rfl, pj0⟩ := hI
               have hRj4_5 := pj0
               refine sr ?_
               refine mv rfl rfl ?_
               refine nl ?_
               refine cdF rfl (by omega) ?_
               refine skN ?_
               refine Nb ?_
               refine Nt ?_
               refine rg ?_
               refine mv rfl rfl ?_
               refine ad rfl rfl (c := ((k4 + 1 : Nat) : Int)) ((wrap32_le (by omega) (by omega)).trans (by omega)) rfl ?_
               refine asg rfl rfl ?_
               refine nN ?_
               obtain rfl : u4_ = ([], x4_5.2) := hu4_
               have hfs4 := flatMap_snoc' fk es4 ((⟨([.int .i16 (IntKind.i16.wrap x4_0.1.n), .pointer (some ⟨b_18, 0, none⟩), .int .u8 0, .int .u8 0, .int .u8 0, .int .u8 0, .int .u8 0, .int .u8 0, .int .u8 0, .int .u8 0, .int .u8 0, .int .u8 0, .int .u8 0, .int .u8 0, .int .u8 0, .int .u8 0, .int .u8 0, .int .u8 0, .bool (decide (x4_3.1.n % 2 = 1)), .slice a4_4 (lT x4_4.1).length c4_4, .int .i32 (IntKind.i32.wrap x4_5.1.n), .map none] : List Value), rfl, all_one rfl⟩, ((decV 10 (decP fs_sMetadataResponseTopic v false) false false) (rMany (decV 10 (decP fs_sMetadataResponseTopic v false) false false) k4 (rArr false x3.2).2).2).1) : KE 22)
               have hrw4 := hbk4 ([.int .i16 (IntKind.i16.wrap x4_0.1.n), .pointer (some ⟨b_18, 0, none⟩), .int .u8 0, .int .u8 0, .int .u8 0, .int .u8 0, .int .u8 0, .int .u8 0, .int .u8 0, .int .u8 0, .int .u8 0, .int .u8 0, .int .u8 0, .int .u8 0, .int .u8 0, .int .u8 0, .int .u8 0, .int .u8 0, .bool (decide (x4_3.1.n % 2 = 1)), .slice a4_4 (lT x4_4.1).length c4_4, .int .i32 (IntKind.i32.wrap x4_5.1.n), .map none] : List Value) rfl
               refine tfN (.tail .head) ?_
               refine fun a_ w_ hA hw => ⟨hkl4, _, _, _, hA.sub ?_, (le_16.trans (lp4_1.trans (le_20.trans (le_22.trans (le_23.trans (hlf4_4.trans le_39)))))), hw, _, _, _, rfl, rfl, (by rw [rMany_succ]; show RdAt _ 104 b_1 (decP fs_sMetadataResponseTopic v false (rMany (decV 10 (decP fs_sMetadataResponseTopic v false) false false) k4 (rArr false x3.2).2).2).2 _; rw [hD4_]; exact hRj4_5), (by rw [← hfs4]; exact hrw4), (dec_els he_4), (fun p hp => (mem_snoc hp).elim (fun h => At_MetadataResponseTopic.mono _ _ _ _ (lp4_1.trans (le_20.trans (le_22.trans (le_23.trans (hlf4_4.trans le_39))))) (hg_4 p h)) (fun h => h ▸ (by show At_MetadataResponseTopic _ (decP fs_sMetadataResponseTopic v false (rMany (decV 10 (decP fs_sMetadataResponseTopic v false) false false) k4 (rArr false x3.2).2).2).1 [.int .i16 (IntKind.i16.wrap x4_0.1.n), .pointer (some ⟨b_18, 0, none⟩), .int .u8 0, .int .u8 0, .int .u8 0, .int .u8 0, .int .u8 0, .int .u8 0, .int .u8 0, .int .u8 0, .int .u8 0, .int .u8 0, .int .u8 0, .int .u8 0, .int .u8 0, .int .u8 0, .int .u8 0, .int .u8 0, .bool (decide (x4_3.1.n % 2 = 1)), .slice a4_4 (lT x4_4.1).length c4_4, .int .i32 (IntKind.i32.wrap x4_5.1.n), .map none]; rw [hD4_]; exact ⟨(some ⟨b_18, 0, none⟩), a4_4, c4_4, none, rfl, (hf4_1.mono (le_20.trans (le_22.trans (le_23.trans (hlf4_4.trans le_39))))), (hf4_4.mono At_MetadataResponseTopicPartition.mono le_39), (KvAt.nil _)⟩)))⟩
               exact (.of ⟨rfl, rfl, rfl, rfl, rfl, rfl, rfl, rfl, rfl, trivial⟩)
         ·
          have hkn_ : k4 = (lT x4.1).length := by omega
          subst hkn_
          have hw2_4 : Row 90 22 a4 (lT x4.1).length c4 (es4.flatMap fk) M4 := by have h := hw_4; rw [Nat.sub_self] at h; simpa [reps] using h
          refine frW hw2_4 .head (fun Hf4 hlf4 hfz4 => ?_)
          have hrs4 := RowsAt.row (R := At_MetadataResponseTopic) hfz4 hs_4.symm hw2_4.le.1 (fun p hp => At_MetadataResponseTopic.mono _ _ _ _ hlf4 (hg_4 p hp))
          rw [he_4] at hrs4
          have hf4 : ListAt Hf4 x4.1 22 At_MetadataResponseTopic a4 c4 := by rw [ex4]; exact listAt_of hrs4 hi4 (fun h => by have h1 := nul_le h; rw [show (lT x4.1).length = 0 by omega]; rfl)
          have hRx4 : RdAt Hf4 104 b_1 x4.2 RN4 := by rw [ex4]; exact (hR_4.mono hlf4)
          refine exX ?_
          refine XT ?_
          refine XT ?_
          refine Xb ?_
          refine Nt ?_
          refine sr ?_
          refine mv rfl rfl ?_
          refine asg rfl rfl ?_
          refine nl ?_
          refine rg ?_
          refine mv rfl rfl ?_
          refine mv rfl rfl ?_
          refine nc rfl rfl ?_
          refine fa0 F78_5 rfl rfl ?_
          refine st Tryz.sizeOf73 rfl rfl rfl rfl (.tail .head) ?_
          refine nl ?_
          refine sq ?_
          refine sr ?_
          refine mv rfl rfl ?_
          refine ge rfl rfl rfl ?_
          refine mv rfl rfl ?_
          refine spl (t := 425) rfl (fun h425 => ?_) (fun h425 => ?_)
          ·
           refine gr rfl rfl ?_
           refine mv rfl rfl ?_
           refine gr rfl rfl ?_
           refine le rfl rfl rfl ?_
           refine pk rfl rfl rfl rfl ?_
           refine nl ?_
           refine cdT rfl (by omega) ?_
           refine sr ?_
           have ex5 : x5 = decV 3 (decP [] v false) false false x4.2 := (hx5.trans (step_yes (by decide) (show (8 : Int) ≤ v by omega) (Or.inr (show v ≤ (10 : Int) by omega)))).trans (decF'_val (by decide) (rfl))
           refine cl rfl rfl rfl (d3 hRx4 ex5) rfl (fun v_ H1 L1 hle_ hR_ => ?_)
           obtain ⟨N429, rfl, hR429, rfl, rfl⟩ := hR_
           refine asg rfl rfl ?_
           refine nl ?_
           refine rg ?_
           refine mv rfl rfl ?_
           refine mv rfl rfl ?_
           refine nc rfl rfl ?_
           refine fa0 F78_6 rfl rfl ?_
           refine st Tryz.sizeOf21 rfl rfl rfl rfl (.tail .head) ?_
           refine nl ?_
           refine sq ?_
           refine sr ?_
           refine mv rfl rfl ?_
           refine ge rfl rfl rfl ?_
           refine nl ?_
           refine cdF rfl (by omega) ?_
           refine skt ?_
           refine sq ?_
           refine sr ?_
           refine mv rfl rfl ?_
           refine nl ?_
           refine cdF rfl (by omega) ?_
           refine skt ?_
           refine sr ?_
           refine cl rfl rfl rfl (r_complete hR429 (he.mono (le_2.trans (le_4.trans (le_5.trans (hlf1.trans (le_11.trans (le_13.trans (le_15.trans (le_16.trans hlf4)))))))))) rfl (fun v_ H1 L1 hle_ hR_ => ?_)
           obtain ⟨rfl, rfl, rfl⟩ := hR_
           refine asg rfl rfl ?_
           refine nl ?_
           refine drW .head ?_
           obtain rfl : x6 = ((Tr.mk 0 [] false [] []), x5.2) := (hx6.trans (step_no (Or.inl (show v < (13 : Int) by omega)))).trans (by rw [dflF_eq]; rfl)
           obtain rfl : u = ([], x5.2) := hu
           have hA_ := (show At_MetadataResponse v _ (decP fs_MetadataResponse v false _).1 [.int .i16 v, .int .i32 (IntKind.i32.wrap x0.1.n), .slice a1 (lT x1.1).length c1, .pointer p2, .int .i32 (IntKind.i32.wrap x3.1.n), .slice a4 (lT x4.1).length c4, .int .i32 (IntKind.i32.wrap x5.1.n), .int .i16 0, .map none] from (by rw [hD]; exact ⟨a1, c1, p2, a4, c4, none, rfl, (hf1.mono At_MetadataResponseBroker.mono (le_11.trans (le_13.trans (le_15.trans (le_16.trans hlf4))))), (hf2.mono (le_13.trans (le_15.trans (le_16.trans hlf4)))), hf4, (KvAt.nil _)⟩))
           refine rT rfl rfl (le_2.trans (le_4.trans (le_5.trans (hlf1.trans (le_11.trans (le_13.trans (le_15.trans (le_16.trans hlf4)))))))) (fun _ _ h => h) ⟨_, rfl, ?_⟩
           have hz := RdEnd.of (e := e) hA_
           rw [show (decP fs_MetadataResponse v false _).2.bad = x5.2.bad by rw [hD]] at hz
           exact hz
          ·
           refine gs rfl rfl rfl rfl ?_
           refine gs rfl rfl rfl rfl ?_
           refine pk rfl rfl rfl rfl ?_
           refine nl ?_
           refine cF rfl ?_
           refine skt ?_
           refine sq ?_
           refine sr ?_
           refine mv rfl rfl ?_
           refine ge rfl rfl rfl ?_
           refine nl ?_
           refine cdF rfl (by omega) ?_
           refine skt ?_
           refine sq ?_
           refine sr ?_
           refine mv rfl rfl ?_
           refine nl ?_
           refine cdF rfl (by omega) ?_
           refine skt ?_
           refine sr ?_
           refine cl rfl rfl rfl (r_complete hRx4 (he.mono (le_2.trans (le_4.trans (le_5.trans (hlf1.trans (le_11.trans (le_13.trans (le_15.trans (le_16.trans hlf4)))))))))) rfl (fun v_ H1 L1 hle_ hR_ => ?_)
           obtain ⟨rfl, rfl, rfl⟩ := hR_
           refine asg rfl rfl ?_
           refine nl ?_
           refine drW .head ?_
           obtain rfl : x5 = ((Tr.mk (-2147483648) [] false [] []), x4.2) := (hx5.trans (step_no (Or.inl (show v < (8 : Int) by omega)))).trans (by rw [dflF_eq]; rfl)
           obtain rfl : x6 = ((Tr.mk 0 [] false [] []), x4.2) := (hx6.trans (step_no (Or.inl (show v < (13 : Int) by omega)))).trans (by rw [dflF_eq]; rfl)
           obtain rfl : u = ([], x4.2) := hu
           have hA_ := (show At_MetadataResponse v _ (decP fs_MetadataResponse v false _).1 [.int .i16 v, .int .i32 (IntKind.i32.wrap x0.1.n), .slice a1 (lT x1.1).length c1, .pointer p2, .int .i32 (IntKind.i32.wrap x3.1.n), .slice a4 (lT x4.1).length c4, .int .i32 (-2147483648), .int .i16 0, .map none] from (by rw [hD]; exact ⟨a1, c1, p2, a4, c4, none, rfl, (hf1.mono At_MetadataResponseBroker.mono (le_11.trans (le_13.trans (le_15.trans (le_16.trans hlf4))))), (hf2.mono (le_13.trans (le_15.trans (le_16.trans hlf4)))), hf4, (KvAt.nil _)⟩))
           refine rT rfl rfl (le_2.trans (le_4.trans (le_5.trans (hlf1.trans (le_11.trans (le_13.trans (le_15.trans (le_16.trans hlf4)))))))) (fun _ _ h => h) ⟨_, rfl, ?_⟩
           have hz := RdEnd.of (e := e) hA_
           rw [show (decP fs_MetadataResponse v false _).2.bad = x4.2.bad by rw [hD]] at hz
           exact hz
theorem rd_MetadataResponse_t {H : Fz} {L : Own} {b : Nat} {v : Int} {a : Option Addr} {c : Nat} {s : List UInt8} {e : Value} (hB : BytesAt H a c s) (hL_ : s.length ≤ BR) (he : H.at 1 0 [e]) (hv0 : 9 ≤ v) (hv1 : v ≤ 13) :
  Fn Tryz.prog 33 [.pointer (some ⟨b, 0, none⟩), .slice a s.length c, .bool false] H ([(b, .cells [.int .i16 v, .int .i32 0, .slice none 0 0, .pointer none, .int .i32 (-1), .slice none 0 0, .int .i32 (-2147483648), .int .i16 0, .map none].toArray 78 (0, 0))] :: L) (fun r H' L' => ∃ cs : List Value, L' = [(b, .cells cs.toArray 78 (0, 0))] :: L ∧ RdEnd H' (At_MetadataResponse v) (decP fs_MetadataResponse v true ⟨s, false, !a.isNone⟩) e r cs) := by
 refine Fn.mk Tryz.call33 Tryz.func33 rfl Tryz.ntmps33 rfl ?_
 refine sr ?_
 refine asg rfl rfl ?_
 refine nl ?_
 refine sr ?_
 refine mv rfl rfl ?_
 refine cl rfl rfl rfl def0_MetadataResponse rfl (fun v_ H1 L1 hle_ hR_ => ?_)
 obtain ⟨rfl, rfl⟩ := hR_
 refine nl ?_
 refine sr ?_
 refine mv rfl rfl ?_
 refine bd' S104 rfl rfl rfl ?_
 refine al Tryz.zeroValue104 rfl rfl (fun b_1 => ?_)
 refine sa Tryz.sizeOf104 rfl rfl rfl rfl rfl .head ?_
 have hR0_ : RdAt H 104 b_1 ⟨s, false, !a.isNone⟩ [(b_1, .cells [_, _].toArray 104 (0, 0))] := ⟨a, c, rfl, hB, by simp⟩
 obtain ⟨x0, hx0⟩ : ∃ x, x = stepF (Fd.mk 3 3 (-1) (-1) (-1) 0 0 []) v true ⟨s, false, !a.isNone⟩ := ⟨_, rfl⟩
 obtain ⟨x1, hx1⟩ : ∃ x, x = stepF (Fd.mk 11 0 (-1) (-1) (-1) 0 10 fs_sMetadataResponseBroker) v true x0.2 := ⟨_, rfl⟩
 obtain ⟨x2, hx2⟩ : ∃ x, x = stepF (Fd.mk 8 2 (-1) 2 (-1) 0 0 []) v true x1.2 := ⟨_, rfl⟩
 obtain ⟨x3, hx3⟩ : ∃ x, x = stepF (Fd.mk 3 1 (-1) (-1) (-1) (-1) 0 []) v true x2.2 := ⟨_, rfl⟩
 obtain ⟨x4, hx4⟩ : ∃ x, x = stepF (Fd.mk 11 0 (-1) (-1) (-1) 0 10 fs_sMetadataResponseTopic) v true x3.2 := ⟨_, rfl⟩
 obtain ⟨x5, hx5⟩ : ∃ x, x = stepF (Fd.mk 3 8 10 (-1) (-1) (-2147483648) 0 []) v true x4.2 := ⟨_, rfl⟩
 obtain ⟨x6, hx6⟩ : ∃ x, x = stepF (Fd.mk 2 13 (-1) (-1) (-1) 0 0 []) v true x5.2 := ⟨_, rfl⟩
 obtain ⟨u, hu⟩ : ∃ x, x = tailU true x6.2 := ⟨_, rfl⟩
 have hD : decP fs_MetadataResponse v true ⟨s, false, !a.isNone⟩ = (.mk 0 [] false [x0.1, x1.1, x2.1, x3.1, x4.1, x5.1, x6.1] u.1, u.2) := by
  generalize (⟨s, false, !a.isNone⟩ : Rd) = r_ at hx0 ⊢
  rw [decP_eq]; unfold fs_MetadataResponse; simp only [decFs_cons, decFs_nil, ← hx0, ← hx1, ← hx2, ← hx3, ← hx4, ← hx5, ← hx6, ← hu]
 have hL0 : x0.2.s.length ≤ BR := by rw [hx0]; exact Nat.le_trans (stepF_shr _ _ _ _) hL_
 have hL1 : x1.2.s.length ≤ BR := by rw [hx1]; exact Nat.le_trans (stepF_shr _ _ _ _) hL0
 have hL2 : x2.2.s.length ≤ BR := by rw [hx2]; exact Nat.le_trans (stepF_shr _ _ _ _) hL1
 have hL3 : x3.2.s.length ≤ BR := by rw [hx3]; exact Nat.le_trans (stepF_shr _ _ _ _) hL2
 have hL4 : x4.2.s.length ≤ BR := by rw [hx4]; exact Nat.le_trans (stepF_shr _ _ _ _) hL3
 have hL5 : x5.2.s.length ≤ BR := by rw [hx5]; exact Nat.le_trans (stepF_shr _ _ _ _) hL4
 have hL6 : x6.2.s.length ≤ BR := by rw [hx6]; exact Nat.le_trans (stepF_shr _ _ _ _) hL5
 have hE : u.2.bad = true → (decP fs_MetadataResponse v true ⟨s, false, !a.isNone⟩).2.bad = true := fun h => by rw [hD]; exact h
 have hB6 : x6.2.bad = true → (decP fs_MetadataResponse v true ⟨s, false, !a.isNone⟩).2.bad = true := fun h => hE (by rw [hu]; exact tailU_bad h)
 have hB5 : x5.2.bad = true → (decP fs_MetadataResponse v true ⟨s, false, !a.isNone⟩).2.bad = true := fun h => hB6 (by rw [hx6]; exact step_bad h)
 have hB4 : x4.2.bad = true → (decP fs_MetadataResponse v true ⟨s, false, !a.isNone⟩).2.bad = true := fun h => hB5 (by rw [hx5]; exact step_bad h)
 have hB3 : x3.2.bad = true → (decP fs_MetadataResponse v true ⟨s, false, !a.isNone⟩).2.bad = true := fun h => hB4 (by rw [hx4]; exact step_bad h)
 have hB2 : x2.2.bad = true → (decP fs_MetadataResponse v true ⟨s, false, !a.isNone⟩).2.bad = true := fun h => hB3 (by rw [hx3]; exact step_bad h)
 have hB1 : x1.2.bad = true → (decP fs_MetadataResponse v true ⟨s, false, !a.isNone⟩).2.bad = true := fun h => hB2 (by rw [hx2]; exact step_bad h)
 have hB0 : x0.2.bad = true → (decP fs_MetadataResponse v true ⟨s, false, !a.isNone⟩).2.bad = true := fun h => hB1 (by rw [hx1]; exact step_bad h)
 refine nl ?_
 refine sr ?_
 refine mv rfl rfl ?_
 refine nc rfl rfl ?_
 refine fa0 F78_0 rfl rfl ?_
 refine ld (Says.own (.tail .head)) Tryz.isAgg46 rfl (Nat.zero_add _).symm rfl rfl ?_
 refine asg rfl rfl ?_
 refine nl ?_
 refine sr ?_
 refine mv rfl rfl ?_
 refine nl ?_
 refine sr ?_
 refine mv rfl rfl ?_
 refine ge rfl rfl rfl ?_
 refine asg rfl rfl ?_
 refine nl ?_
 refine sr ?_
 refine mv rfl rfl ?_
 refine nl ?_
 refine sr ?_
 refine mv rfl rfl ?_
 refine asg rfl rfl ?_
 refine nl ?_
 refine sq ?_
 refine sr ?_
 refine mv rfl rfl ?_
 refine ge rfl rfl rfl ?_
 refine nl ?_
 refine cdT rfl (by omega) ?_
 refine sr ?_
 have ex0 : x0 = decV 3 (decP [] v true) false true ⟨s, false, !a.isNone⟩ := (hx0.trans (step_yes (by decide) (show (3 : Int) ≤ v by omega) (Or.inl (by decide)))).trans (decF'_val (by decide) (rfl))
 refine cl rfl rfl rfl (d3 hR0_ ex0) rfl (fun v_ H1 L1 hle_ hR_ => ?_)
 obtain ⟨N78, rfl, hR78, rfl, rfl⟩ := hR_
 refine asg rfl rfl ?_
 refine nl ?_
 refine rg ?_
 refine mv rfl rfl ?_
 refine mv rfl rfl ?_
 refine nc rfl rfl ?_
 refine fa0 F78_1 rfl rfl ?_
 refine st Tryz.sizeOf21 rfl rfl rfl rfl (.tail .head) ?_
 refine nl ?_
 refine sq ?_
 refine sr ?_
 refine mv rfl rfl ?_
 refine nc rfl rfl ?_
 refine fa0 F78_2 rfl rfl ?_
 refine ld (Says.own (.tail .head)) Tryz.isAgg71 rfl (Nat.zero_add _).symm rfl rfl ?_
 refine asg rfl rfl ?_
 refine nl ?_
 refine sr ?_
 refine mv rfl rfl ?_
 refine asg rfl rfl ?_
 refine nl ?_
 refine sr ?_
 refine asg rfl rfl ?_
 refine nl ?_
 refine sq ?_
 refine sr ?_
 refine mv rfl rfl ?_
 refine nl ?_
 refine cdT rfl (by omega) ?_
 refine rg ?_
 have ey1 : x1 = (.mk 0 [] (if 0 ≤ ((-1) : Int) ∧ (v < ((-1) : Int) ∨ (rArr true x0.2).1 = 0) then false else decide ((rArr true x0.2).1 ≤ 0)) (rMany (decV 10 (decP fs_sMetadataResponseBroker v true) false true) (rArr true x0.2).1.toNat (rArr true x0.2).2).1 [], (rMany (decV 10 (decP fs_sMetadataResponseBroker v true) false true) (rArr true x0.2).1.toNat (rArr true x0.2).2).2) := (hx1.trans (step_yes (by decide) (show (0 : Int) ≤ v by omega) (Or.inl (by decide)))).trans (decF'_list rfl rfl)
 have hn1 : (rArr true x0.2).1.toNat = (lT x1.1).length := by rw [ey1]; exact (lT_many nul_le).symm
 have ex1 := ey1
 rw [hn1] at ex1
 have hl1 := rArr_le true x0.2
 have hm1 : (rArr true x0.2).2.s.length ≤ BR := Nat.le_trans (rArr_len true x0.2) hL0
 have hnb1 : (lT x1.1).length ≤ BR := by omega
 refine cl rfl rfl rfl (r_arrt hR78) rfl (fun v_ H1 L1 hle_ hR_ => ?_)
 obtain ⟨rfl, N89, rfl, hR89, rfl⟩ := hR_
 have hh1 := rArr_hi true x0.2
 refine asg rfl rfl ?_
 refine nl ?_
 refine sq ?_
 refine sr ?_
 refine cl rfl rfl rfl (r_ok hR89) rfl (fun v_ H1 L1 hle_ hR_ => ?_)
 obtain ⟨rfl, rfl, rfl⟩ := hR_
 refine nt rfl rfl ?_
 refine nl ?_
 refine cb rfl (fun h92 => ?_) (fun h92 => ?_)
 ·
  have hbad_ : (rArr true x0.2).2.bad = true := by simpa using h92
  refine sr ?_
  refine cl rfl rfl rfl (r_complete hR89 he) rfl (fun v_ H1 L1 hle_ hR_ => ?_)
  obtain ⟨rfl, rfl, rfl⟩ := hR_
  refine asg rfl rfl ?_
  refine nl ?_
  refine drW .head ?_
  exact rT rfl rfl ler (fun _ _ h => h) ⟨_, rfl, RdEnd.out (hB1 (by rw [ey1]; exact rMany_bad (fun r h => decV_bad (decP_bad _ _ _) h) _ _ hbad_)) hbad_⟩
 ·
  refine skt ?_
  refine sr ?_
  refine mv rfl rfl ?_
  refine sh' (j := 0) Tryz.runUnderlying71 Tryz.sizeOf83 rfl rfl rfl (Nat.zero_le _) rfl ?_
  refine asg rfl rfl ?_
  refine nl ?_
  refine sq ?_
  refine sr ?_
  refine mv rfl rfl ?_
  refine gt rfl rfl rfl ?_
  refine nl ?_
  refine nulC2 ?_
  refine cutT (fun l' H' L' => ∃ (a1 : Option Addr), ∃ (c1 : Nat), ∃ (Nr1 : Chunk), [(2, .bool false), (7, .pointer (some ⟨b_1, 0, none⟩)), (8, .int .i16 v), (9, .bool (decide ((9 : Int) ≤ v))), (10, .pointer (some ⟨b, 0, none⟩)), (12, .slice none 0 0), (13, .slice a1 (lT x1.1).length c1), (14, .int .i32 (rArr true x0.2).1)] = l' ∧ Nr1 :: N89 :: [(b, .cells [.int .i16 v, .int .i32 (IntKind.i32.wrap x0.1.n), .slice none 0 0, .pointer none, .int .i32 (-1), .slice none 0 0, .int .i32 (-2147483648), .int .i16 0, .map none].toArray 78 (0, 0))] :: L = L' ∧ Row 83 5 a1 (lT x1.1).length c1 (reps [.int .i32 0, .string ⟨#[]⟩, .int .i32 0, .pointer none, .map none] (lT x1.1).length) Nr1 ∧ a1.isNone = (if 0 ≤ ((-1) : Int) ∧ (v < ((-1) : Int) ∨ (rArr true x0.2).1 = 0) then false else decide ((rArr true x0.2).1 ≤ 0))) ?_ (fun l' H' L' le_3 hI => ?_)
  ·
   refine cd rfl (fun h97 => ?_) (fun h97 => ?_)
   ·
    refine rg ?_
    refine mv rfl rfl ?_
    refine mv rfl rfl ?_
    refine apz (zs := [.int .i32 0, .string ⟨#[]⟩, .int .i32 0, .pointer none, .map none]) (m := (lT x1.1).length) Tryz.underlying71 Tryz.underlying21 I83 rfl rfl rfl (by omega) (by omega) (by have h9 := hnb1; unfold BR at h9; omega) (by have h9 := hnb1; unfold BR at h9; unfold maxLen; omega) rfl (fun g100 cp100 N100 r100 => ?_)
    refine asg rfl rfl ?_
    refine nN ?_
    refine drN (.tail .head) ?_
    refine fun a_ w_ hA hw => ⟨_, _, _, hA.sub ?_, ler, hw, (some ⟨g100, 0, none⟩), cp100, N100, rfl, rfl, r100, (by rw [if_neg (by omega)]; exact (decide_eq_false (by omega)).symm)⟩
    exact (.cons rfl (.cons rfl (.cons rfl (.cons rfl (.cons rfl (.cons rfl (.cons rfl (.cons rfl (.nil _)))))))))
   ·
    refine skN ?_
    refine fun a_ w_ hA hw => ⟨_, _, _, hA.sub ?_, ler, hw, none, 0, [], rfl, rfl, (by rw [show (lT x1.1).length = 0 by omega]; exact (Row.nil _ _)), (by rw [if_neg (by omega)]; exact (decide_eq_true (by omega)).symm)⟩
    exact (.cons rfl (.cons rfl (.cons rfl (.cons rfl (.cons rfl (.cons rfl (.cons (by rw [show (lT x1.1).length = 0 by omega]; rfl) (.cons rfl (.nil _)))))))))
  ·
   obtain ⟨a1, c1, Nr1, rfl, rfl, pj0, pj1⟩ := hI
   have hr1 := pj0
   have hi1 := pj1
   refine sq ?_
   refine sr ?_
   refine asg rfl rfl ?_
   refine nl ?_
   refine bl (lp ((lT x1.1).length) (fun k1 l' H' L' => ∃ (es1 : List (KE 5)) (M1 RN1 : Chunk), [(2, .bool false), (7, .pointer (some ⟨b_1, 0, none⟩)), (8, .int .i16 v), (9, .bool (decide ((9 : Int) ≤ v))), (10, .pointer (some ⟨b, 0, none⟩)), (12, .slice none 0 0), (13, .slice a1 (lT x1.1).length c1), (14, .int .i32 (rArr true x0.2).1), (15, .int .i32 (k1 : Int))] = l' ∧ M1 :: RN1 :: [(b, .cells [.int .i16 v, .int .i32 (IntKind.i32.wrap x0.1.n), .slice none 0 0, .pointer none, .int .i32 (-1), .slice none 0 0, .int .i32 (-2147483648), .int .i16 0, .map none].toArray 78 (0, 0))] :: L = L' ∧ RdAt H' 104 b_1 (rMany (decV 10 (decP fs_sMetadataResponseBroker v true) false true) k1 (rArr true x0.2).2).2 RN1 ∧ Row 83 5 a1 (lT x1.1).length c1 (es1.flatMap fk ++ reps [.int .i32 0, .string ⟨#[]⟩, .int .i32 0, .pointer none, .map none] ((lT x1.1).length - k1)) M1 ∧ es1.map (·.2) = (rMany (decV 10 (decP fs_sMetadataResponseBroker v true) false true) k1 (rArr true x0.2).2).1 ∧ ∀ p ∈ es1, At_MetadataResponseBroker H' p.2 (fk p)) [(2, .bool false), (7, .pointer (some ⟨b_1, 0, none⟩)), (8, .int .i16 v), (9, .bool (decide ((9 : Int) ≤ v))), (10, .pointer (some ⟨b, 0, none⟩)), (12, .slice none 0 0), (13, .slice a1 (lT x1.1).length c1), (14, .int .i32 (rArr true x0.2).1), (15, .int .i32 (0 : Int))] (.of ⟨rfl, rfl, rfl, rfl, rfl, rfl, rfl, rfl, rfl, trivial⟩) ⟨[], Nr1, _, rfl, rfl, (hR89.mono le_3), hr1, rfl, (fun p hp => by cases hp)⟩ (fun k1 l' H' L' hk1 le_4 hI => ?_))
   obtain ⟨es1, M1, RN1, rfl, rfl, hR_1, hw_1, he_1, hg_1⟩ := hI
   have hs_1 := els_len he_1
   have hp_1 : (es1.flatMap fk).length = k1 * 5 := els_flat hs_1
   refine sq ?_
   refine sr ?_
   refine mv rfl rfl ?_
   refine mv rfl rfl ?_
   refine lt rfl rfl rfl ?_
   refine nl ?_
   refine cd rfl (fun h103 => ?_) (fun h103 => ?_)
   ·
    have hkl1 : k1 < (lT x1.1).length := by omega
    obtain ⟨g1, po1, hga1, rfl, hbk1⟩ := hw_1.next (zs := [.int .i32 0, .string ⟨#[]⟩, .int .i32 0, .pointer none, .map none]) hkl1 rfl (by decide)
    have ho1 : 0 + k1 * 5 = (es1.flatMap fk).length := by rw [hp_1]; omega
    have hbz1 : ((decV 10 (decP fs_sMetadataResponseBroker v true) false true) (rMany (decV 10 (decP fs_sMetadataResponseBroker v true) false true) k1 (rArr true x0.2).2).2).2.bad = true → (decP fs_MetadataResponse v true ⟨s, false, !a.isNone⟩).2.bad = true := fun h => hB1 (by rw [ex1]; exact rMany_mono (fun r h => decV_bad (fun r h => decP_bad _ _ _ r h) h) _ (show k1 + 1 ≤ (lT x1.1).length from hkl1) (by rw [rMany_succ]; exact h))
    have hLk1 : (rMany (decV 10 (decP fs_sMetadataResponseBroker v true) false true) k1 (rArr true x0.2).2).2.s.length ≤ BR := Nat.le_trans (rMany_shr (fun r => decV_shr (fun r => decP_shr _ _ _ r) r) _ _) hm1
    have hL1__ := hLk1
    obtain ⟨x1_0, hx1_0⟩ : ∃ x, x = stepF (Fd.mk 3 0 (-1) (-1) (-1) 0 0 []) v true (rMany (decV 10 (decP fs_sMetadataResponseBroker v true) false true) k1 (rArr true x0.2).2).2 := ⟨_, rfl⟩
    obtain ⟨x1_1, hx1_1⟩ : ∃ x, x = stepF (Fd.mk 8 0 (-1) (-1) (-1) 0 0 []) v true x1_0.2 := ⟨_, rfl⟩
    obtain ⟨x1_2, hx1_2⟩ : ∃ x, x = stepF (Fd.mk 3 0 (-1) (-1) (-1) 0 0 []) v true x1_1.2 := ⟨_, rfl⟩
    obtain ⟨x1_3, hx1_3⟩ : ∃ x, x = stepF (Fd.mk 8 1 (-1) 1 (-1) 0 0 []) v true x1_2.2 := ⟨_, rfl⟩
    obtain ⟨u1_, hu1_⟩ : ∃ x, x = tailU true x1_3.2 := ⟨_, rfl⟩
    have hD1_ : decP fs_sMetadataResponseBroker v true (rMany (decV 10 (decP fs_sMetadataResponseBroker v true) false true) k1 (rArr true x0.2).2).2 = (.mk 0 [] false [x1_0.1, x1_1.1, x1_2.1, x1_3.1] u1_.1, u1_.2) := by
     generalize ((rMany (decV 10 (decP fs_sMetadataResponseBroker v true) false true) k1 (rArr true x0.2).2).2 : Rd) = r_ at hx1_0 ⊢
     rw [decP_eq]; unfold fs_sMetadataResponseBroker; simp only [decFs_cons, decFs_nil, ← hx1_0, ← hx1_1, ← hx1_2, ← hx1_3, ← hu1_]
    have hL1_0 : x1_0.2.s.length ≤ BR := by rw [hx1_0]; exact Nat.le_trans (stepF_shr _ _ _ _) hL1__
    have hL1_1 : x1_1.2.s.length ≤ BR := by rw [hx1_1]; exact Nat.le_trans (stepF_shr _ _ _ _) hL1_0
    have hL1_2 : x1_2.2.s.length ≤ BR := by rw [hx1_2]; exact Nat.le_trans (stepF_shr _ _ _ _) hL1_1
    have hL1_3 : x1_3.2.s.length ≤ BR := by rw [hx1_3]; exact Nat.le_trans (stepF_shr _ _ _ _) hL1_2
    have hE1_ : u1_.2.bad = true → (decP fs_MetadataResponse v true ⟨s, false, !a.isNone⟩).2.bad = true := fun h => hbz1 (by show (decP fs_sMetadataResponseBroker v true (rMany (decV 10 (decP fs_sMetadataResponseBroker v true) false true) k1 (rArr true x0.2).2).2).2.bad = true; rw [hD1_]; exact h)
    have hB1_3 : x1_3.2.bad = true → (decP fs_MetadataResponse v true ⟨s, false, !a.isNone⟩).2.bad = true := fun h => hE1_ (by rw [hu1_]; exact tailU_bad h)
    have hB1_2 : x1_2.2.bad = true → (decP fs_MetadataResponse v true ⟨s, false, !a.isNone⟩).2.bad = true := fun h => hB1_3 (by rw [hx1_3]; exact step_bad h)
    have hB1_1 : x1_1.2.bad = true → (decP fs_MetadataResponse v true ⟨s, false, !a.isNone⟩).2.bad = true := fun h => hB1_2 (by rw [hx1_2]; exact step_bad h)
    have hB1_0 : x1_0.2.bad = true → (decP fs_MetadataResponse v true ⟨s, false, !a.isNone⟩).2.bad = true := fun h => hB1_1 (by rw [hx1_1]; exact step_bad h)
    refine skt ?_
    refine sq ?_
    refine bl ?_
    refine sr ?_
    refine mv rfl rfl ?_
    refine mv rfl rfl ?_
    refine ixk (j := k1) Tryz.runUnderlying71 Tryz.sizeOf83 rfl hga1 rfl rfl hkl1 rfl ?_
    refine asg rfl rfl ?_
    refine nl ?_
    refine sr ?_
    refine mv rfl rfl ?_
    refine cl rfl rfl rfl (def_MetadataResponseBroker ho1) rfl (fun v_ H1 L1 hle_ hR_ => ?_)
    obtain ⟨rfl, rfl⟩ := hR_
    refine nl ?_
    refine sr ?_
    refine mv rfl rfl ?_
    refine asg rfl rfl ?_
    refine nl ?_
    refine sq ?_
    refine sr ?_
    refine tf (.tail .head) ?_
    have ex1_0 : x1_0 = decV 3 (decP [] v true) false true (rMany (decV 10 (decP fs_sMetadataResponseBroker v true) false true) k1 (rArr true x0.2).2).2 := (hx1_0.trans (step_yes (by decide) (show (0 : Int) ≤ v by omega) (Or.inl (by decide)))).trans (decF'_val (by decide) (rfl))
    refine cl rfl rfl rfl (d3 hR_1 ex1_0) rfl (fun v_ H1 L1 hle_ hR_ => ?_)
    obtain ⟨N112, rfl, hR112, rfl, rfl⟩ := hR_
    refine asg rfl rfl ?_
    refine nl ?_
    refine rg ?_
    refine mv rfl rfl ?_
    refine mv rfl rfl ?_
    refine nc rfl rfl ?_
    refine fa F83_0 rfl rfl ?_
    refine stM (off := 0) Tryz.sizeOf21 rfl (by rw [ho1]) rfl rfl rfl (.tail .head) ?_
    refine nl ?_
    refine sq ?_
    refine sr ?_
    refine asg rfl rfl ?_
    refine nl ?_
    refine sq ?_
    refine sr ?_
    refine mv rfl rfl ?_
    refine nl ?_
    refine cF rfl ?_
    refine sr ?_
    refine mv rfl rfl ?_
    refine nl ?_
    refine cdT rfl (by omega) ?_
    refine rg ?_
    have ex1_1 : x1_1 = decV 8 (decP [] v true) false true x1_0.2 := (hx1_1.trans (step_yes (by decide) (show (0 : Int) ≤ v by omega) (Or.inl (by decide)))).trans (decF'_val (by decide) (rfl))
    refine cl rfl rfl rfl (d8t hR112 ex1_1) rfl (fun v_ H1 L1 le_6 hR_ => ?_)
    obtain ⟨N122, rfl, hR122, rfl, rfl⟩ := hR_
    refine asg rfl rfl ?_
    refine nl ?_
    refine rg ?_
    refine mv rfl rfl ?_
    refine mv rfl rfl ?_
    refine nc rfl rfl ?_
    refine fa F83_1 rfl rfl ?_
    refine stM (off := 1) Tryz.sizeOf9 rfl (by rw [ho1]) rfl rfl rfl (.tail .head) ?_
    refine nl ?_
    refine sq ?_
    refine sr ?_
    have ex1_2 : x1_2 = decV 3 (decP [] v true) false true x1_1.2 := (hx1_2.trans (step_yes (by decide) (show (0 : Int) ≤ v by omega) (Or.inl (by decide)))).trans (decF'_val (by decide) (rfl))
    refine cl rfl rfl rfl (d3 hR122 ex1_2) rfl (fun v_ H1 L1 hle_ hR_ => ?_)
    obtain ⟨N128, rfl, hR128, rfl, rfl⟩ := hR_
    refine asg rfl rfl ?_
    refine nl ?_
    refine rg ?_
    refine mv rfl rfl ?_
    refine mv rfl rfl ?_
    refine nc rfl rfl ?_
    refine fa F83_2 rfl rfl ?_
    refine stM (off := 2) Tryz.sizeOf21 rfl (by rw [ho1]) rfl rfl rfl (.tail .head) ?_
    refine nl ?_
    refine sq ?_
    refine sr ?_
    refine mv rfl rfl ?_
    refine ge rfl rfl rfl ?_
    refine nl ?_
    refine cdT rfl (by omega) ?_
    refine sr ?_
    refine asg rfl rfl ?_
    refine nl ?_
    refine sq ?_
    refine sr ?_
    refine mv rfl rfl ?_
    refine nl ?_
    refine cdT rfl (by omega) ?_
    refine sr ?_
    refine mv rfl rfl ?_
    refine nl ?_
    refine cF rfl ?_
    refine rg ?_
    have ex1_3 : x1_3 = decV 8 (decP [] v true) true true x1_2.2 := (hx1_3.trans (step_yes (by decide) (show (1 : Int) ≤ v by omega) (Or.inl (by decide)))).trans (decF'_val (by decide) (by simp only [Bool.and_eq_true, decide_eq_true_eq]; exact ⟨show (0 : Int) ≤ 1 by decide, show (1 : Int) ≤ v by omega⟩))
    refine cl rfl rfl rfl (d8tn hR128 ex1_3) rfl (fun v_ H1 L1 le_8 hR_ => ?_)
    obtain ⟨N138, rfl, hR138, p1_3, rfl, hf1_3⟩ := hR_
    refine asg rfl rfl ?_
    refine nl ?_
    refine rg ?_
    refine mv rfl rfl ?_
    refine mv rfl rfl ?_
    refine nc rfl rfl ?_
    refine fa F83_3 rfl rfl ?_
    refine stM (off := 3) Tryz.sizeOf72 rfl (by rw [ho1]) rfl rfl rfl (.tail .head) ?_
    refine nl ?_
    refine sr ?_
    refine mv rfl rfl ?_
    refine nl ?_
    refine cdT rfl (by omega) ?_
    refine rg ?_
    refine mv rfl rfl ?_
    refine cl rfl rfl rfl (d_tags hR138) rfl (fun v_ H1 L1 le_9 hR_ => ?_)
    obtain ⟨N148, rfl, hR148, m1_t, rfl, hft1_⟩ := hR_
    have hu21_ : u1_ = rTags x1_3.2 := hu1_
    rw [← hu21_] at hR148 hft1_
    refine nc rfl rfl ?_
    refine fa F83_4 rfl rfl ?_
    refine saM (off := 4) Tryz.sizeOf76 rfl (by rw [ho1]) rfl rfl rfl rfl (.tail .head) ?_
    refine nN ?_
    refine Nb ?_
    refine Nt ?_
    refine rg ?_
    refine mv rfl rfl ?_
    refine ad rfl rfl (c := ((k1 + 1 : Nat) : Int)) ((wrap32_le (by omega) (by omega)).trans (by omega)) rfl ?_
    refine asg rfl rfl ?_
    refine nN ?_
    have hfs1 := flatMap_snoc' fk es1 ((⟨([.int .i32 (IntKind.i32.wrap x1_0.1.n), .string ⟨x1_1.1.s.toArray⟩, .int .i32 (IntKind.i32.wrap x1_2.1.n), .pointer p1_3, .map m1_t] : List Value), rfl, all_one rfl⟩, ((decV 10 (decP fs_sMetadataResponseBroker v true) false true) (rMany (decV 10 (decP fs_sMetadataResponseBroker v true) false true) k1 (rArr true x0.2).2).2).1) : KE 5)
    have hrw1 := hbk1 ([.int .i32 (IntKind.i32.wrap x1_0.1.n), .string ⟨x1_1.1.s.toArray⟩, .int .i32 (IntKind.i32.wrap x1_2.1.n), .pointer p1_3, .map m1_t] : List Value) rfl
    refine tfN (.tail .head) ?_
    refine fun a_ w_ hA hw => ⟨hkl1, _, _, _, hA.sub ?_, (le_4.trans (le_8.trans le_9)), hw, _, _, _, rfl, rfl, (by rw [rMany_succ]; show RdAt _ 104 b_1 (decP fs_sMetadataResponseBroker v true (rMany (decV 10 (decP fs_sMetadataResponseBroker v true) false true) k1 (rArr true x0.2).2).2).2 _; rw [hD1_]; exact hR148), (by rw [← hfs1]; exact hrw1), (dec_els he_1), (fun p hp => (mem_snoc hp).elim (fun h => At_MetadataResponseBroker.mono _ _ _ _ (le_8.trans le_9) (hg_1 p h)) (fun h => h ▸ (by show At_MetadataResponseBroker _ (decP fs_sMetadataResponseBroker v true (rMany (decV 10 (decP fs_sMetadataResponseBroker v true) false true) k1 (rArr true x0.2).2).2).1 [.int .i32 (IntKind.i32.wrap x1_0.1.n), .string ⟨x1_1.1.s.toArray⟩, .int .i32 (IntKind.i32.wrap x1_2.1.n), .pointer p1_3, .map m1_t]; rw [hD1_]; exact ⟨p1_3, m1_t, rfl, (hf1_3.mono le_9), hft1_⟩)))⟩
    exact (.of ⟨rfl, rfl, rfl, rfl, rfl, rfl, rfl, rfl, rfl, trivial⟩)
   ·
    have hkn_ : k1 = (lT x1.1).length := by omega
    subst hkn_
    have hw2_1 : Row 83 5 a1 (lT x1.1).length c1 (es1.flatMap fk) M1 := by have h := hw_1; rw [Nat.sub_self] at h; simpa [reps] using h
    refine frW hw2_1 .head (fun Hf1 hlf1 hfz1 => ?_)
    have hrs1 := RowsAt.row (R := At_MetadataResponseBroker) hfz1 hs_1.symm hw2_1.le.1 (fun p hp => At_MetadataResponseBroker.mono _ _ _ _ hlf1 (hg_1 p hp))
    rw [he_1] at hrs1
    have hf1 : ListAt Hf1 x1.1 5 At_MetadataResponseBroker a1 c1 := by rw [ex1]; exact listAt_of hrs1 hi1 (fun h => by have h1 := nul_le h; rw [show (lT x1.1).length = 0 by omega]; rfl)
    have hRx1 : RdAt Hf1 104 b_1 x1.2 RN1 := by rw [ex1]; exact (hR_1.mono hlf1)
    refine exX ?_
    refine XT ?_
    refine XT ?_
    refine Xb ?_
    refine Nt ?_
    refine sr ?_
    refine mv rfl rfl ?_
    refine asg rfl rfl ?_
    refine nl ?_
    refine rg ?_
    refine mv rfl rfl ?_
    refine mv rfl rfl ?_
    refine nc rfl rfl ?_
    refine fa0 F78_2 rfl rfl ?_
    refine st Tryz.sizeOf71 rfl rfl rfl rfl (.tail .head) ?_
    refine nl ?_
    refine sq ?_
    refine sr ?_
    refine mv rfl rfl ?_
    refine ge rfl rfl rfl ?_
    refine nl ?_
    refine cdT rfl (by omega) ?_
    refine sr ?_
    refine asg rfl rfl ?_
    refine nl ?_
    refine sq ?_
    refine sr ?_
    refine mv rfl rfl ?_
    refine nl ?_
    refine cdT rfl (by omega) ?_
    refine sr ?_
    refine mv rfl rfl ?_
    refine nl ?_
    refine cF rfl ?_
    refine rg ?_
    have ex2 : x2 = decV 8 (decP [] v true) true true x1.2 := (hx2.trans (step_yes (by decide) (show (2 : Int) ≤ v by omega) (Or.inl (by decide)))).trans (decF'_val (by decide) (by simp only [Bool.and_eq_true, decide_eq_true_eq]; exact ⟨show (0 : Int) ≤ 2 by decide, show (2 : Int) ≤ v by omega⟩))
    refine cl rfl rfl rfl (d8tn hRx1 ex2) rfl (fun v_ H1 L1 le_10 hR_ => ?_)
    obtain ⟨N161, rfl, hR161, p2, rfl, hf2⟩ := hR_
    refine asg rfl rfl ?_
    refine nl ?_
    refine rg ?_
    refine mv rfl rfl ?_
    refine mv rfl rfl ?_
    refine nc rfl rfl ?_
    refine fa0 F78_3 rfl rfl ?_
    refine st Tryz.sizeOf72 rfl rfl rfl rfl (.tail .head) ?_
    refine nl ?_
    refine sq ?_
    refine sr ?_
    refine mv rfl rfl ?_
    refine ge rfl rfl rfl ?_
    refine nl ?_
    refine cdT rfl (by omega) ?_
    refine sr ?_
    have ex3 : x3 = decV 3 (decP [] v true) false true x2.2 := (hx3.trans (step_yes (by decide) (show (1 : Int) ≤ v by omega) (Or.inl (by decide)))).trans (decF'_val (by decide) (rfl))
    refine cl rfl rfl rfl (d3 hR161 ex3) rfl (fun v_ H1 L1 hle_ hR_ => ?_)
    obtain ⟨N171, rfl, hR171, rfl, rfl⟩ := hR_
    refine asg rfl rfl ?_
    refine nl ?_
    refine rg ?_
    refine mv rfl rfl ?_
    refine mv rfl rfl ?_
    refine nc rfl rfl ?_
    refine fa0 F78_4 rfl rfl ?_
    refine st Tryz.sizeOf21 rfl rfl rfl rfl (.tail .head) ?_
    refine nl ?_
    refine sq ?_
    refine sr ?_
    refine mv rfl rfl ?_
    refine nc rfl rfl ?_
    refine fa0 F78_5 rfl rfl ?_
    refine ld (Says.own (.tail .head)) Tryz.isAgg73 rfl (Nat.zero_add _).symm rfl rfl ?_
    refine asg rfl rfl ?_
    refine nl ?_
    refine sr ?_
    refine mv rfl rfl ?_
    refine asg rfl rfl ?_
    refine nl ?_
    refine sr ?_
    refine asg rfl rfl ?_
    refine nl ?_
    refine sq ?_
    refine sr ?_
    refine mv rfl rfl ?_
    refine nl ?_
    refine cdT rfl (by omega) ?_
    refine rg ?_
    have ey4 : x4 = (.mk 0 [] (if 0 ≤ ((-1) : Int) ∧ (v < ((-1) : Int) ∨ (rArr true x3.2).1 = 0) then false else decide ((rArr true x3.2).1 ≤ 0)) (rMany (decV 10 (decP fs_sMetadataResponseTopic v true) false true) (rArr true x3.2).1.toNat (rArr true x3.2).2).1 [], (rMany (decV 10 (decP fs_sMetadataResponseTopic v true) false true) (rArr true x3.2).1.toNat (rArr true x3.2).2).2) := (hx4.trans (step_yes (by decide) (show (0 : Int) ≤ v by omega) (Or.inl (by decide)))).trans (decF'_list rfl rfl)
    have hn4 : (rArr true x3.2).1.toNat = (lT x4.1).length := by rw [ey4]; exact (lT_many nul_le).symm
    have ex4 := ey4
    rw [hn4] at ex4
    have hl4 := rArr_le true x3.2
    have hm4 : (rArr true x3.2).2.s.length ≤ BR := Nat.le_trans (rArr_len true x3.2) hL3
    have hnb4 : (lT x4.1).length ≤ BR := by omega
    refine cl rfl rfl rfl (r_arrt hR171) rfl (fun v_ H1 L1 hle_ hR_ => ?_)
    obtain ⟨rfl, N182, rfl, hR182, rfl⟩ := hR_
    have hh4 := rArr_hi true x3.2
    refine asg rfl rfl ?_
    refine nl ?_
    refine sq ?_
    refine sr ?_
    refine cl rfl rfl rfl (r_ok hR182) rfl (fun v_ H1 L1 hle_ hR_ => ?_)
    obtain ⟨rfl, rfl, rfl⟩ := hR_
    refine nt rfl rfl ?_
    refine nl ?_
    refine cb rfl (fun h185 => ?_) (fun h185 => ?_)
    ·
     have hbad_ : (rArr true x3.2).2.bad = true := by simpa using h185
     refine sr ?_
     refine cl rfl rfl rfl (r_complete hR182 (he.mono (le_3.trans (le_4.trans (hlf1.trans le_10))))) rfl (fun v_ H1 L1 hle_ hR_ => ?_)
     obtain ⟨rfl, rfl, rfl⟩ := hR_
     refine asg rfl rfl ?_
     refine nl ?_
     refine drW .head ?_
     exact rT rfl rfl (le_3.trans (le_4.trans (hlf1.trans le_10))) (fun _ _ h => h) ⟨_, rfl, RdEnd.out (hB4 (by rw [ey4]; exact rMany_bad (fun r h => decV_bad (decP_bad _ _ _) h) _ _ hbad_)) hbad_⟩
    ·
     refine skt ?_
     refine sr ?_
     refine mv rfl rfl ?_
     refine sh' (j := 0) Tryz.runUnderlying73 Tryz.sizeOf90 rfl rfl rfl (Nat.zero_le _) rfl ?_
     refine asg rfl rfl ?_
     refine nl ?_
     refine sq ?_
     refine sr ?_
     refine mv rfl rfl ?_
     refine gt rfl rfl rfl ?_
     refine nl ?_
     refine nulC2 ?_
     refine cutT (fun l' H' L' => ∃ (a4 : Option Addr), ∃ (c4 : Nat), ∃ (Nr4 : Chunk), [(2, .bool false), (7, .pointer (some ⟨b_1, 0, none⟩)), (8, .int .i16 v), (9, .bool (decide ((9 : Int) ≤ v))), (10, .pointer (some ⟨b, 0, none⟩)), (24, .slice none 0 0), (25, .slice a4 (lT x4.1).length c4), (26, .int .i32 (rArr true x3.2).1)] = l' ∧ Nr4 :: N182 :: [(b, .cells [.int .i16 v, .int .i32 (IntKind.i32.wrap x0.1.n), .slice a1 (lT x1.1).length c1, .pointer p2, .int .i32 (IntKind.i32.wrap x3.1.n), .slice none 0 0, .int .i32 (-2147483648), .int .i16 0, .map none].toArray 78 (0, 0))] :: L = L' ∧ Row 90 22 a4 (lT x4.1).length c4 (reps [.int .i16 0, .pointer none, .int .u8 0, .int .u8 0, .int .u8 0, .int .u8 0, .int .u8 0, .int .u8 0, .int .u8 0, .int .u8 0, .int .u8 0, .int .u8 0, .int .u8 0, .int .u8 0, .int .u8 0, .int .u8 0, .int .u8 0, .int .u8 0, .bool false, .slice none 0 0, .int .i32 0, .map none] (lT x4.1).length) Nr4 ∧ a4.isNone = (if 0 ≤ ((-1) : Int) ∧ (v < ((-1) : Int) ∨ (rArr true x3.2).1 = 0) then false else decide ((rArr true x3.2).1 ≤ 0))) ?_ (fun l' H' L' le_12 hI => ?_)
     ·
      refine cd rfl (fun h190 => ?_) (fun h190 => ?_)
      ·
       refine rg ?_
       refine mv rfl rfl ?_
       refine mv rfl rfl ?_
       refine apz (zs := [.int .i16 0, .pointer none, .int .u8 0, .int .u8 0, .int .u8 0, .int .u8 0, .int .u8 0, .int .u8 0, .int .u8 0, .int .u8 0, .int .u8 0, .int .u8 0, .int .u8 0, .int .u8 0, .int .u8 0, .int .u8 0, .int .u8 0, .int .u8 0, .bool false, .slice none 0 0, .int .i32 0, .map none]) (m := (lT x4.1).length) Tryz.underlying73 Tryz.underlying21 I90 rfl rfl rfl (by omega) (by omega) (by have h9 := hnb4; unfold BR at h9; omega) (by have h9 := hnb4; unfold BR at h9; unfold maxLen; omega) rfl (fun g193 cp193 N193 r193 => ?_)
       refine asg rfl rfl ?_
       refine nN ?_
       refine drN (.tail .head) ?_
       refine fun a_ w_ hA hw => ⟨_, _, _, hA.sub ?_, ler, hw, (some ⟨g193, 0, none⟩), cp193, N193, rfl, rfl, r193, (by rw [if_neg (by omega)]; exact (decide_eq_false (by omega)).symm)⟩
       exact (.cons rfl (.cons rfl (.cons rfl (.cons rfl (.cons rfl (.cons rfl (.cons rfl (.cons rfl (.nil _)))))))))
      ·
       refine skN ?_
       refine fun a_ w_ hA hw => ⟨_, _, _, hA.sub ?_, ler, hw, none, 0, [], rfl, rfl, (by rw [show (lT x4.1).length = 0 by omega]; exact (Row.nil _ _)), (by rw [if_neg (by omega)]; exact (decide_eq_true (by omega)).symm)⟩
       exact (.cons rfl (.cons rfl (.cons rfl (.cons rfl (.cons rfl (.cons rfl (.cons (by rw [show (lT x4.1).length = 0 by omega]; rfl) (.cons rfl (.nil _)))))))))
     ·
      obtain ⟨a4, c4, Nr4, rfl, rfl, pj0, pj1⟩ := hI
      have hr4 := pj0
      have hi4 := pj1
      refine sq ?_
      refine sr ?_
      refine asg rfl rfl ?_
      refine nl ?_
      refine bl (lp ((lT x4.1).length) (fun k4 l' H' L' => ∃ (es4 : List (KE 22)) (M4 RN4 : Chunk), [(2, .bool false), (7, .pointer (some ⟨b_1, 0, none⟩)), (8, .int .i16 v), (9, .bool (decide ((9 : Int) ≤ v))), (10, .pointer (some ⟨b, 0, none⟩)), (24, .slice none 0 0), (25, .slice a4 (lT x4.1).length c4), (26, .int .i32 (rArr true x3.2).1), (27, .int .i32 (k4 : Int))] = l' ∧ M4 :: RN4 :: [(b, .cells [.int .i16 v, .int .i32 (IntKind.i32.wrap x0.1.n), .slice a1 (lT x1.1).length c1, .pointer p2, .int .i32 (IntKind.i32.wrap x3.1.n), .slice none 0 0, .int .i32 (-2147483648), .int .i16 0, .map none].toArray 78 (0, 0))] :: L = L' ∧ RdAt H' 104 b_1 (rMany (decV 10 (decP fs_sMetadataResponseTopic v true) false true) k4 (rArr true x3.2).2).2 RN4 ∧ Row 90 22 a4 (lT x4.1).length c4 (es4.flatMap fk ++ reps [.int .i16 0, .pointer none, .int .u8 0, .int .u8 0, .int .u8 0, .int .u8 0, .int .u8 0, .int .u8 0, .int .u8 0, .int .u8 0, .int .u8 0, .int .u8 0, .int .u8 0, .int .u8 0, .int .u8 0, .int .u8 0, .int .u8 0, .int .u8 0, .bool false, .slice none 0 0, .int .i32 0, .map none] ((lT x4.1).length - k4)) M4 ∧ es4.map (·.2) = (rMany (decV 10 (decP fs_sMetadataResponseTopic v true) false true) k4 (rArr true x3.2).2).1 ∧ ∀ p ∈ es4, At_MetadataResponseTopic H' p.2 (fk p)) [(2, .bool false), (7, .pointer (some ⟨b_1, 0, none⟩)), (8, .int .i16 v), (9, .bool (decide ((9 : Int) ≤ v))), (10, .pointer (some ⟨b, 0, none⟩)), (24, .slice none 0 0), (25, .slice a4 (lT x4.1).length c4), (26, .int .i32 (rArr true x3.2).1), (27, .int .i32 (0 : Int))] (.of ⟨rfl, rfl, rfl, rfl, rfl, rfl, rfl, rfl, rfl, trivial⟩) ⟨[], Nr4, _, rfl, rfl, (hR182.mono le_12), hr4, rfl, (fun p hp => by cases hp)⟩ (fun k4 l' H' L' hk4 le_13 hI => ?_))
      obtain ⟨es4, M4, RN4, rfl, rfl, hR_4, hw_4, he_4, hg_4⟩ := hI
      have hs_4 := els_len he_4
      have hp_4 : (es4.flatMap fk).length = k4 * 22 := els_flat hs_4
      refine sq ?_
      refine sr ?_
      refine mv rfl rfl ?_
      refine mv rfl rfl ?_
      refine lt rfl rfl rfl ?_
      refine nl ?_
      refine cd rfl (fun h196 => ?_) (fun h196 => ?_)
      ·
       have hkl4 : k4 < (lT x4.1).length := by omega
       obtain ⟨g4, po4, hga4, rfl, hbk4⟩ := hw_4.next (zs := [.int .i16 0, .pointer none, .int .u8 0, .int .u8 0, .int .u8 0, .int .u8 0, .int .u8 0, .int .u8 0, .int .u8 0, .int .u8 0, .int .u8 0, .int .u8 0, .int .u8 0, .int .u8 0, .int .u8 0, .int .u8 0, .int .u8 0, .int .u8 0, .bool false, .slice none 0 0, .int .i32 0, .map none]) hkl4 rfl (by decide)
       have ho4 : 0 + k4 * 22 = (es4.flatMap fk).length := by rw [hp_4]; omega
       have hbz4 : ((decV 10 (decP fs_sMetadataResponseTopic v true) false true) (rMany (decV 10 (decP fs_sMetadataResponseTopic v true) false true) k4 (rArr true x3.2).2).2).2.bad = true → (decP fs_MetadataResponse v true ⟨s, false, !a.isNone⟩).2.bad = true := fun h => hB4 (by rw [ex4]; exact rMany_mono (fun r h => decV_bad (fun r h => decP_bad _ _ _ r h) h) _ (show k4 + 1 ≤ (lT x4.1).length from hkl4) (by rw [rMany_succ]; exact h))
       have hLk4 : (rMany (decV 10 (decP fs_sMetadataResponseTopic v true) false true) k4 (rArr true x3.2).2).2.s.length ≤ BR := Nat.le_trans (rMany_shr (fun r => decV_shr (fun r => decP_shr _ _ _ r) r) _ _) hm4
       have hL4__ := hLk4
       obtain ⟨x4_0, hx4_0⟩ : ∃ x, x = stepF (Fd.mk 2 0 (-1) (-1) (-1) 0 0 []) v true (rMany (decV 10 (decP fs_sMetadataResponseTopic v true) false true) k4 (rArr true x3.2).2).2 := ⟨_, rfl⟩
       obtain ⟨x4_1, hx4_1⟩ : ∃ x, x = stepF (Fd.mk 8 0 (-1) 12 (-1) 0 0 []) v true x4_0.2 := ⟨_, rfl⟩
       obtain ⟨x4_2, hx4_2⟩ : ∃ x, x = stepF (Fd.mk 7 10 (-1) (-1) (-1) 0 0 []) v true x4_1.2 := ⟨_, rfl⟩
       obtain ⟨x4_3, hx4_3⟩ : ∃ x, x = stepF (Fd.mk 0 1 (-1) (-1) (-1) 0 0 []) v true x4_2.2 := ⟨_, rfl⟩
       obtain ⟨x4_4, hx4_4⟩ : ∃ x, x = stepF (Fd.mk 11 0 (-1) (-1) (-1) 0 10 fs_sMetadataResponseTopicPartition) v true x4_3.2 := ⟨_, rfl⟩
       obtain ⟨x4_5, hx4_5⟩ : ∃ x, x = stepF (Fd.mk 3 8 (-1) (-1) (-1) (-2147483648) 0 []) v true x4_4.2 := ⟨_, rfl⟩
       obtain ⟨u4_, hu4_⟩ : ∃ x, x = tailU true x4_5.2 := ⟨_, rfl⟩
       have hD4_ : decP fs_sMetadataResponseTopic v true (rMany (decV 10 (decP fs_sMetadataResponseTopic v true) false true) k4 (rArr true x3.2).2).2 = (.mk 0 [] false [x4_0.1, x4_1.1, x4_2.1, x4_3.1, x4_4.1, x4_5.1] u4_.1, u4_.2) := by
        generalize ((rMany (decV 10 (decP fs_sMetadataResponseTopic v true) false true) k4 (rArr true x3.2).2).2 : Rd) = r_ at hx4_0 ⊢
        rw [decP_eq]; unfold fs_sMetadataResponseTopic; simp only [decFs_cons, decFs_nil, ← hx4_0, ← hx4_1, ← hx4_2, ← hx4_3, ← hx4_4, ← hx4_5, ← hu4_]
       have hL4_0 : x4_0.2.s.length ≤ BR := by rw [hx4_0]; exact Nat.le_trans (stepF_shr _ _ _ _) hL4__
       have hL4_1 : x4_1.2.s.length ≤ BR := by rw [hx4_1]; exact Nat.le_trans (stepF_shr _ _ _ _) hL4_0
       have hL4_2 : x4_2.2.s.length ≤ BR := by rw [hx4_2]; exact Nat.le_trans (stepF_shr _ _ _ _) hL4_1
       have hL4_3 : x4_3.2.s.length ≤ BR := by rw [hx4_3]; exact Nat.le_trans (stepF_shr _ _ _ _) hL4_2
       have hL4_4 : x4_4.2.s.length ≤ BR := by rw [hx4_4]; exact Nat.le_trans (stepF_shr _ _ _ _) hL4_3
       have hL4_5 : x4_5.2.s.length ≤ BR := by rw [hx4_5]; exact Nat.le_trans (stepF_shr _ _ _ _) hL4_4
       have hE4_ : u4_.2.bad = true → (decP fs_MetadataResponse v true ⟨s, false, !a.isNone⟩).2.bad = true := fun h => hbz4 (by show (decP fs_sMetadataResponseTopic v true (rMany (decV 10 (decP fs_sMetadataResponseTopic v true) false true) k4 (rArr true x3.2).2).2).2.bad = true; rw [hD4_]; exact h)
       have hB4_5 : x4_5.2.bad = true → (decP fs_MetadataResponse v true ⟨s, false, !a.isNone⟩).2.bad = true := fun h => hE4_ (by rw [hu4_]; exact tailU_bad h)
       have hB4_4 : x4_4.2.bad = true → (decP fs_MetadataResponse v true ⟨s, false, !a.isNone⟩).2.bad = true := fun h => hB4_5 (by rw [hx4_5]; exact step_bad h)
       have hB4_3 : x4_3.2.bad = true → (decP fs_MetadataResponse v true ⟨s, false, !a.isNone⟩).2.bad = true := fun h => hB4_4 (by rw [hx4_4]; exact step_bad h)
       have hB4_2 : x4_2.2.bad = true → (decP fs_MetadataResponse v true ⟨s, false, !a.isNone⟩).2.bad = true := fun h => hB4_3 (by rw [hx4_3]; exact step_bad h)
       have hB4_1 : x4_1.2.bad = true → (decP fs_MetadataResponse v true ⟨s, false, !a.isNone⟩).2.bad = true := fun h => hB4_2 (by rw [hx4_2]; exact step_bad h)
       have hB4_0 : x4_0.2.bad = true → (decP fs_MetadataResponse v true ⟨s, false, !a.isNone⟩).2.bad = true := fun h => hB4_1 (by rw [hx4_1]; exact step_bad h)
       refine skt ?_
       refine sq ?_
       refine bl ?_
       refine sr ?_
       refine mv rfl rfl ?_
       refine mv rfl rfl ?_
       refine ixk (j := k4) Tryz.runUnderlying73 Tryz.sizeOf90 rfl hga4 rfl rfl hkl4 rfl ?_
       refine asg rfl rfl ?_
       refine nl ?_
       refine sr ?_
       refine mv rfl rfl ?_
       refine cl rfl rfl rfl (def_MetadataResponseTopic ho4) rfl (fun v_ H1 L1 hle_ hR_ => ?_)
       obtain ⟨rfl, rfl⟩ := hR_
       refine nl ?_
       refine sr ?_
       refine mv rfl rfl ?_
       refine asg rfl rfl ?_
       refine nl ?_
       refine sq ?_
       refine sr ?_
       refine tf (.tail .head) ?_
       have ex4_0 : x4_0 = decV 2 (decP [] v true) false true (rMany (decV 10 (decP fs_sMetadataResponseTopic v true) false true) k4 (rArr true x3.2).2).2 := (hx4_0.trans (step_yes (by decide) (show (0 : Int) ≤ v by omega) (Or.inl (by decide)))).trans (decF'_val (by decide) (rfl))
       refine cl rfl rfl rfl (d2 hR_4 ex4_0) rfl (fun v_ H1 L1 hle_ hR_ => ?_)
       obtain ⟨N205, rfl, hR205, rfl, rfl⟩ := hR_
       refine asg rfl rfl ?_
       refine nl ?_
       refine rg ?_
       refine mv rfl rfl ?_
       refine mv rfl rfl ?_
       refine nc rfl rfl ?_
       refine fa F90_0 rfl rfl ?_
       refine stM (off := 0) Tryz.sizeOf46 rfl (by rw [ho4]) rfl rfl rfl (.tail .head) ?_
       refine nl ?_
       refine sq ?_
       refine sr ?_
       refine asg rfl rfl ?_
       refine nl ?_
       refine sq ?_
       refine sr ?_
       refine mv rfl rfl ?_
       refine lt rfl rfl rfl ?_
       refine nl ?_
       refine cutT (fun l' H' L' => ∃ (pt4_1 : Option Addr), ∃ (Nj4_1 : Chunk), [(2, .bool false), (7, .pointer (some ⟨b_1, 0, none⟩)), (8, .int .i16 v), (9, .bool (decide ((9 : Int) ≤ v))), (10, .pointer (some ⟨b, 0, none⟩)), (24, .slice none 0 0), (25, .slice a4 (lT x4.1).length c4), (26, .int .i32 (rArr true x3.2).1), (27, .int .i32 (k4 : Int)), (29, .pointer (some ⟨g4, 0 + k4 * 22, none⟩)), (31, .pointer pt4_1)] = l' ∧ Nj4_1 :: [(g4, .cells ((es4.flatMap fk) ++ ([.int .i16 (IntKind.i16.wrap x4_0.1.n), .pointer none, .int .u8 0, .int .u8 0, .int .u8 0, .int .u8 0, .int .u8 0, .int .u8 0, .int .u8 0, .int .u8 0, .int .u8 0, .int .u8 0, .int .u8 0, .int .u8 0, .int .u8 0, .int .u8 0, .int .u8 0, .int .u8 0, .bool false, .slice none 0 0, .int .i32 (-2147483648), .map none] : List Value) ++ po4).toArray 90 (0, 0))] :: [(b, .cells [.int .i16 v, .int .i32 (IntKind.i32.wrap x0.1.n), .slice a1 (lT x1.1).length c1, .pointer p2, .int .i32 (IntKind.i32.wrap x3.1.n), .slice none 0 0, .int .i32 (-2147483648), .int .i16 0, .map none].toArray 78 (0, 0))] :: L = L' ∧ RdAt H' 104 b_1 x4_1.2 Nj4_1 ∧ TextAt H' x4_1.1 pt4_1) ?_ (fun l' H' L' le_15 hI => ?_)
       ·
        refine cd rfl (fun h211 => ?_) (fun h211 => ?_)
        ·
         refine sr ?_
         refine al Tryz.zeroValue9 rfl rfl (fun b_16 => ?_)
         refine nl ?_
         refine sq ?_
         refine sr ?_
         refine mv rfl rfl ?_
         refine nl ?_
         refine cdT rfl (by omega) ?_
         refine sr ?_
         refine mv rfl rfl ?_
         refine nl ?_
         refine cF rfl ?_
         refine rg ?_
         refine tf (.tail .head) ?_
         have ex4_1 : x4_1 = decV 8 (decP [] v true) false true x4_0.2 := (hx4_1.trans (step_yes (by decide) (show (0 : Int) ≤ v by omega) (Or.inl (by decide)))).trans (decF'_val (by decide) (by rw [Bool.and_eq_false_iff]; exact Or.inr (decide_eq_false (show ¬ (12 : Int) ≤ v by omega))))
         refine cl rfl rfl rfl (d8t hR205 ex4_1) rfl (fun v_ H1 L1 le_17 hR_ => ?_)
         obtain ⟨N215, rfl, hR215, rfl, rfl⟩ := hR_
         refine st Tryz.sizeOf9 rfl rfl rfl rfl (.tail .head) ?_
         refine nl ?_
         refine rg ?_
         refine asg rfl rfl ?_
         refine nN ?_
         refine frN (Row.whole (size := 1) (m := 1) rfl (by decide)) (.tail .head) (fun Hp4_1 lp4_1 zp4_1 => ?_)
         have ap4_1 : Hp4_1.at b_16 0 [.string ⟨x4_1.1.s.toArray⟩] := by
          rcases zp4_1 with ⟨h, _⟩ | ⟨g, h, h2⟩
          · cases h
          · cases h; exact h2
         have hf4_1 : TextAt Hp4_1 x4_1.1 (some ⟨b_16, 0, none⟩) := ⟨by rw [ex4_1, dV8n]; rfl, fun ad h => by cases h; exact ⟨b_16, rfl, ap4_1⟩⟩
         refine fun a_ w_ hA hw => ⟨_, _, _, hA.sub ?_, lp4_1, hw, (some ⟨b_16, 0, none⟩), N215, rfl, rfl, (hR215.mono lp4_1), hf4_1⟩
         exact (.cons rfl (.cons rfl (.cons rfl (.cons rfl (.cons rfl (.cons rfl (.cons rfl (.cons rfl (.cons rfl (.cons rfl (.cons rfl (.nil _))))))))))))
        ·
         refine sr ?_
         refine mv rfl rfl ?_
         refine nl ?_
         refine cdT rfl (by omega) ?_
         refine sr ?_
         refine mv rfl rfl ?_
         refine nl ?_
         refine cF rfl ?_
         refine rg ?_
         have ex4_1 : x4_1 = decV 8 (decP [] v true) true true x4_0.2 := (hx4_1.trans (step_yes (by decide) (show (0 : Int) ≤ v by omega) (Or.inl (by decide)))).trans (decF'_val (by decide) (by simp only [Bool.and_eq_true, decide_eq_true_eq]; exact ⟨show (0 : Int) ≤ 12 by decide, show (12 : Int) ≤ v by omega⟩))
         refine cl rfl rfl rfl (d8tn hR205 ex4_1) rfl (fun v_ H1 L1 le_18 hR_ => ?_)
         obtain ⟨N222, rfl, hR222, p4_1, rfl, hf4_1⟩ := hR_
         refine asg rfl rfl ?_
         refine nN ?_
         refine fun a_ w_ hA hw => ⟨_, _, _, hA.sub ?_, le_18, hw, p4_1, N222, rfl, rfl, hR222, hf4_1⟩
         exact (.cons rfl (.cons rfl (.cons rfl (.cons rfl (.cons rfl (.cons rfl (.cons rfl (.cons rfl (.cons rfl (.cons rfl (.cons rfl (.nil _))))))))))))
       ·
        obtain ⟨pt4_1, Nj4_1, rfl, rfl, pj0, pj1⟩ := hI
        have hRj4_1 := pj0
        have hf4_1 := pj1
        refine rg ?_
        refine mv rfl rfl ?_
        refine mv rfl rfl ?_
        refine nc rfl rfl ?_
        refine fa F90_1 rfl rfl ?_
        refine stM (off := 1) Tryz.sizeOf72 rfl (by rw [ho4]) rfl rfl rfl (.tail .head) ?_
        refine nl ?_
        refine sq ?_
        refine sr ?_
        refine mv rfl rfl ?_
        refine ge rfl rfl rfl ?_
        refine nl ?_
        refine cutT (fun l' H' L' => ∃ (Nj4_2 : Chunk), [(2, .bool false), (7, .pointer (some ⟨b_1, 0, none⟩)), (8, .int .i16 v), (9, .bool (decide ((9 : Int) ≤ v))), (10, .pointer (some ⟨b, 0, none⟩)), (24, .slice none 0 0), (25, .slice a4 (lT x4.1).length c4), (26, .int .i32 (rArr true x3.2).1), (27, .int .i32 (k4 : Int)), (29, .pointer (some ⟨g4, 0 + k4 * 22, none⟩))] = l' ∧ Nj4_2 :: [(g4, .cells ((es4.flatMap fk) ++ ([.int .i16 (IntKind.i16.wrap x4_0.1.n), .pointer pt4_1, ub x4_2.1.s 0, ub x4_2.1.s 1, ub x4_2.1.s 2, ub x4_2.1.s 3, ub x4_2.1.s 4, ub x4_2.1.s 5, ub x4_2.1.s 6, ub x4_2.1.s 7, ub x4_2.1.s 8, ub x4_2.1.s 9, ub x4_2.1.s 10, ub x4_2.1.s 11, ub x4_2.1.s 12, ub x4_2.1.s 13, ub x4_2.1.s 14, ub x4_2.1.s 15, .bool false, .slice none 0 0, .int .i32 (-2147483648), .map none] : List Value) ++ po4).toArray 90 (0, 0))] :: [(b, .cells [.int .i16 v, .int .i32 (IntKind.i32.wrap x0.1.n), .slice a1 (lT x1.1).length c1, .pointer p2, .int .i32 (IntKind.i32.wrap x3.1.n), .slice none 0 0, .int .i32 (-2147483648), .int .i16 0, .map none].toArray 78 (0, 0))] :: L = L' ∧ RdAt H' 104 b_1 x4_2.2 Nj4_2) ?_ (fun l' H' L' le_19 hI => ?_)
        ·
         refine cd rfl (fun h231 => ?_) (fun h231 => ?_)
         ·
          refine sr ?_
          have ex4_2 : x4_2 = decV 7 (decP [] v true) false true x4_1.2 := (hx4_2.trans (step_yes (by decide) (show (10 : Int) ≤ v by omega) (Or.inl (by decide)))).trans (decF'_val (by decide) (rfl))
          refine cl rfl rfl rfl (d7 hRj4_1 ex4_2) rfl (fun v_ H1 L1 hle_ hR_ => ?_)
          obtain ⟨N232, rfl, hR232, rfl, rfl⟩ := hR_
          refine al Tryz.zeroValue87 rfl rfl (fun b_21 => ?_)
          refine sa Tryz.sizeOf87 rfl rfl rfl rfl rfl .head ?_
          refine nl ?_
          refine rg ?_
          refine mv rfl rfl ?_
          refine la (Says.own .head) Tryz.isAgg87 Tryz.sizeOf87 rfl (Nat.zero_add _).symm rfl rfl ?_
          refine nc rfl rfl ?_
          refine fa F90_2 rfl rfl ?_
          refine saM (off := 2) Tryz.sizeOf87 rfl (by rw [ho4]) rfl rfl rfl rfl (.tail (.tail .head)) ?_
          refine nN ?_
          refine drN .head ?_
          refine fun a_ w_ hA hw => ⟨_, _, _, hA.sub ?_, ler, hw, N232, rfl, rfl, hR232⟩
          exact (.cons rfl (.cons rfl (.cons rfl (.cons rfl (.cons rfl (.cons rfl (.cons rfl (.cons rfl (.cons rfl (.cons rfl (.nil _)))))))))))
         ·
          refine skN ?_
          obtain rfl : x4_2 = ((Tr.mk 0 (List.replicate 16 0) false [] []), x4_1.2) := (hx4_2.trans (step_no (Or.inl (show v < (10 : Int) by omega)))).trans (by rw [dflF_eq]; rfl)
          refine fun a_ w_ hA hw => ⟨_, _, _, hA.sub ?_, ler, hw, Nj4_1, rfl, rfl, hRj4_1⟩
          exact (.cons rfl (.cons rfl (.cons rfl (.cons rfl (.cons rfl (.cons rfl (.cons rfl (.cons rfl (.cons rfl (.cons rfl (.nil _)))))))))))
        ·
         obtain ⟨Nj4_2, rfl, rfl, pj0⟩ := hI
         have hRj4_2 := pj0
         refine sq ?_
         refine sr ?_
         refine mv rfl rfl ?_
         refine ge rfl rfl rfl ?_
         refine nl ?_
         refine cdT rfl (by omega) ?_
         refine sr ?_
         have ex4_3 : x4_3 = decV 0 (decP [] v true) false true x4_2.2 := (hx4_3.trans (step_yes (by decide) (show (1 : Int) ≤ v by omega) (Or.inl (by decide)))).trans (decF'_val (by decide) (rfl))
         refine cl rfl rfl rfl (d0 hRj4_2 ex4_3) rfl (fun v_ H1 L1 hle_ hR_ => ?_)
         obtain ⟨N239, rfl, hR239, rfl, rfl⟩ := hR_
         refine asg rfl rfl ?_
         refine nl ?_
         refine rg ?_
         refine mv rfl rfl ?_
         refine mv rfl rfl ?_
         refine nc rfl rfl ?_
         refine fa F90_3 rfl rfl ?_
         refine stM (off := 18) Tryz.sizeOf4 rfl (by rw [ho4]) rfl rfl rfl (.tail .head) ?_
         refine nl ?_
         refine sq ?_
         refine sr ?_
         refine mv rfl rfl ?_
         refine nc rfl rfl ?_
         refine fa F90_4 rfl rfl ?_
         refine ld (j := 19) (off := 0 + k4 * 22) (Says.mid (.tail .head) ho4) Tryz.isAgg88 rfl rfl rfl rfl ?_
         refine asg rfl rfl ?_
         refine nl ?_
         refine sr ?_
         refine mv rfl rfl ?_
         refine asg rfl rfl ?_
         refine nl ?_
         refine sr ?_
         refine asg rfl rfl ?_
         refine nl ?_
         refine sq ?_
         refine sr ?_
         refine mv rfl rfl ?_
         refine nl ?_
         refine cdT rfl (by omega) ?_
         refine rg ?_
         have ey4_4 : x4_4 = (.mk 0 [] (if 0 ≤ ((-1) : Int) ∧ (v < ((-1) : Int) ∨ (rArr true x4_3.2).1 = 0) then false else decide ((rArr true x4_3.2).1 ≤ 0)) (rMany (decV 10 (decP fs_sMetadataResponseTopicPartition v true) false true) (rArr true x4_3.2).1.toNat (rArr true x4_3.2).2).1 [], (rMany (decV 10 (decP fs_sMetadataResponseTopicPartition v true) false true) (rArr true x4_3.2).1.toNat (rArr true x4_3.2).2).2) := (hx4_4.trans (step_yes (by decide) (show (0 : Int) ≤ v by omega) (Or.inl (by decide)))).trans (decF'_list rfl rfl)
         have hn4_4 : (rArr true x4_3.2).1.toNat = (lT x4_4.1).length := by rw [ey4_4]; exact (lT_many nul_le).symm
         have ex4_4 := ey4_4
         rw [hn4_4] at ex4_4
         have hl4_4 := rArr_le true x4_3.2
         have hm4_4 : (rArr true x4_3.2).2.s.length ≤ BR := Nat.le_trans (rArr_len true x4_3.2) hL4_3
         have hnb4_4 : (lT x4_4.1).length ≤ BR := by omega
         refine cl rfl rfl rfl (r_arrt hR239) rfl (fun v_ H1 L1 hle_ hR_ => ?_)
         obtain ⟨rfl, N250, rfl, hR250, rfl⟩ := hR_
         have hh4_4 := rArr_hi true x4_3.2
         refine asg rfl rfl ?_
         refine nl ?_
         refine sq ?_
         refine sr ?_
         refine cl rfl rfl rfl (r_ok hR250) rfl (fun v_ H1 L1 hle_ hR_ => ?_)
         obtain ⟨rfl, rfl, rfl⟩ := hR_
         refine nt rfl rfl ?_
         refine nl ?_
         refine cb rfl (fun h253 => ?_) (fun h253 => ?_)
         ·
          have hbad_ : (rArr true x4_3.2).2.bad = true := by simpa using h253
          refine sr ?_
          refine cl rfl rfl rfl (r_complete hR250 (he.mono (le_3.trans (le_4.trans (hlf1.trans (le_10.trans (le_12.trans (le_13.trans (le_15.trans le_19))))))))) rfl (fun v_ H1 L1 hle_ hR_ => ?_)
          obtain ⟨rfl, rfl, rfl⟩ := hR_
          refine asg rfl rfl ?_
          refine nl ?_
          refine drW .head ?_
          refine drW .head ?_
          exact rT rfl rfl (le_3.trans (le_4.trans (hlf1.trans (le_10.trans (le_12.trans (le_13.trans (le_15.trans le_19))))))) (fun _ _ h => h) ⟨_, rfl, RdEnd.out (hB4_4 (by rw [ey4_4]; exact rMany_bad (fun r h => decV_bad (decP_bad _ _ _) h) _ _ hbad_)) hbad_⟩
         ·
          refine skt ?_
          refine sr ?_
          refine mv rfl rfl ?_
          refine sh' (j := 0) Tryz.runUnderlying88 Tryz.sizeOf116 rfl rfl rfl (Nat.zero_le _) rfl ?_
          refine asg rfl rfl ?_
          refine nl ?_
          refine sq ?_
          refine sr ?_
          refine mv rfl rfl ?_
          refine gt rfl rfl rfl ?_
          refine nl ?_
          refine nulC2 ?_
          refine cutT (fun l' H' L' => ∃ (a4_4 : Option Addr), ∃ (c4_4 : Nat), ∃ (Nr4_4 : Chunk), [(2, .bool false), (7, .pointer (some ⟨b_1, 0, none⟩)), (8, .int .i16 v), (9, .bool (decide ((9 : Int) ≤ v))), (10, .pointer (some ⟨b, 0, none⟩)), (24, .slice none 0 0), (25, .slice a4 (lT x4.1).length c4), (26, .int .i32 (rArr true x3.2).1), (27, .int .i32 (k4 : Int)), (29, .pointer (some ⟨g4, 0 + k4 * 22, none⟩)), (35, .slice none 0 0), (36, .slice a4_4 (lT x4_4.1).length c4_4), (37, .int .i32 (rArr true x4_3.2).1)] = l' ∧ Nr4_4 :: N250 :: [(g4, .cells ((es4.flatMap fk) ++ ([.int .i16 (IntKind.i16.wrap x4_0.1.n), .pointer pt4_1, ub x4_2.1.s 0, ub x4_2.1.s 1, ub x4_2.1.s 2, ub x4_2.1.s 3, ub x4_2.1.s 4, ub x4_2.1.s 5, ub x4_2.1.s 6, ub x4_2.1.s 7, ub x4_2.1.s 8, ub x4_2.1.s 9, ub x4_2.1.s 10, ub x4_2.1.s 11, ub x4_2.1.s 12, ub x4_2.1.s 13, ub x4_2.1.s 14, ub x4_2.1.s 15, .bool (decide (x4_3.1.n % 2 = 1)), .slice none 0 0, .int .i32 (-2147483648), .map none] : List Value) ++ po4).toArray 90 (0, 0))] :: [(b, .cells [.int .i16 v, .int .i32 (IntKind.i32.wrap x0.1.n), .slice a1 (lT x1.1).length c1, .pointer p2, .int .i32 (IntKind.i32.wrap x3.1.n), .slice none 0 0, .int .i32 (-2147483648), .int .i16 0, .map none].toArray 78 (0, 0))] :: L = L' ∧ Row 116 8 a4_4 (lT x4_4.1).length c4_4 (reps [.int .i16 0, .int .i32 0, .int .i32 0, .int .i32 0, .slice none 0 0, .slice none 0 0, .slice none 0 0, .map none] (lT x4_4.1).length) Nr4_4 ∧ a4_4.isNone = (if 0 ≤ ((-1) : Int) ∧ (v < ((-1) : Int) ∨ (rArr true x4_3.2).1 = 0) then false else decide ((rArr true x4_3.2).1 ≤ 0))) ?_ (fun l' H' L' le_23 hI => ?_)
          ·
           refine cd rfl (fun h258 => ?_) (fun h258 => ?_)
           ·
            refine rg ?_
            refine mv rfl rfl ?_
            refine mv rfl rfl ?_
            refine apz (zs := [.int .i16 0, .int .i32 0, .int .i32 0, .int .i32 0, .slice none 0 0, .slice none 0 0, .slice none 0 0, .map none]) (m := (lT x4_4.1).length) Tryz.underlying88 Tryz.underlying21 I116 rfl rfl rfl (by omega) (by omega) (by have h9 := hnb4_4; unfold BR at h9; omega) (by have h9 := hnb4_4; unfold BR at h9; unfold maxLen; omega) rfl (fun g261 cp261 N261 r261 => ?_)
            refine asg rfl rfl ?_
            refine nN ?_
            refine drN (.tail .head) ?_
            refine fun a_ w_ hA hw => ⟨_, _, _, hA.sub ?_, ler, hw, (some ⟨g261, 0, none⟩), cp261, N261, rfl, rfl, r261, (by rw [if_neg (by omega)]; exact (decide_eq_false (by omega)).symm)⟩
            exact (.cons rfl (.cons rfl (.cons rfl (.cons rfl (.cons rfl (.cons rfl (.cons rfl (.cons rfl (.cons rfl (.cons rfl (.cons rfl (.cons rfl (.cons rfl (.nil _))))))))))))))
           ·
            refine skN ?_
            refine fun a_ w_ hA hw => ⟨_, _, _, hA.sub ?_, ler, hw, none, 0, [], rfl, rfl, (by rw [show (lT x4_4.1).length = 0 by omega]; exact (Row.nil _ _)), (by rw [if_neg (by omega)]; exact (decide_eq_true (by omega)).symm)⟩
            exact (.cons rfl (.cons rfl (.cons rfl (.cons rfl (.cons rfl (.cons rfl (.cons rfl (.cons rfl (.cons rfl (.cons rfl (.cons rfl (.cons (by rw [show (lT x4_4.1).length = 0 by omega]; rfl) (.cons rfl (.nil _))))))))))))))
          ·
           obtain ⟨a4_4, c4_4, Nr4_4, rfl, rfl, pj0, pj1⟩ := hI
           have hr4_4 := pj0
           have hi4_4 := pj1
           refine sq ?_
           refine sr ?_
           refine asg rfl rfl ?_
           refine nl ?_
           refine bl (lp ((lT x4_4.1).length) (fun k4_4 l' H' L' => ∃ (es4_4 : List (KE 8)) (M4_4 RN4_4 : Chunk), [(2, .bool false), (7, .pointer (some ⟨b_1, 0, none⟩)), (8, .int .i16 v), (9, .bool (decide ((9 : Int) ≤ v))), (10, .pointer (some ⟨b, 0, none⟩)), (24, .slice none 0 0), (25, .slice a4 (lT x4.1).length c4), (26, .int .i32 (rArr true x3.2).1), (27, .int .i32 (k4 : Int)), (29, .pointer (some ⟨g4, 0 + k4 * 22, none⟩)), (35, .slice none 0 0), (36, .slice a4_4 (lT x4_4.1).length c4_4), (37, .int .i32 (rArr true x4_3.2).1), (38, .int .i32 (k4_4 : Int))] = l' ∧ M4_4 :: RN4_4 :: [(g4, .cells ((es4.flatMap fk) ++ ([.int .i16 (IntKind.i16.wrap x4_0.1.n), .pointer pt4_1, ub x4_2.1.s 0, ub x4_2.1.s 1, ub x4_2.1.s 2, ub x4_2.1.s 3, ub x4_2.1.s 4, ub x4_2.1.s 5, ub x4_2.1.s 6, ub x4_2.1.s 7, ub x4_2.1.s 8, ub x4_2.1.s 9, ub x4_2.1.s 10, ub x4_2.1.s 11, ub x4_2.1.s 12, ub x4_2.1.s 13, ub x4_2.1.s 14, ub x4_2.1.s 15, .bool (decide (x4_3.1.n % 2 = 1)), .slice none 0 0, .int .i32 (-2147483648), .map none] : List Value) ++ po4).toArray 90 (0, 0))] :: [(b, .cells [.int .i16 v, .int .i32 (IntKind.i32.wrap x0.1.n), .slice a1 (lT x1.1).length c1, .pointer p2, .int .i32 (IntKind.i32.wrap x3.1.n), .slice none 0 0, .int .i32 (-2147483648), .int .i16 0, .map none].toArray 78 (0, 0))] :: L = L' ∧ RdAt H' 104 b_1 (rMany (decV 10 (decP fs_sMetadataResponseTopicPartition v true) false true) k4_4 (rArr true x4_3.2).2).2 RN4_4 ∧ Row 116 8 a4_4 (lT x4_4.1).length c4_4 (es4_4.flatMap fk ++ reps [.int .i16 0, .int .i32 0, .int .i32 0, .int .i32 0, .slice none 0 0, .slice none 0 0, .slice none 0 0, .map none] ((lT x4_4.1).length - k4_4)) M4_4 ∧ es4_4.map (·.2) = (rMany (decV 10 (decP fs_sMetadataResponseTopicPartition v true) false true) k4_4 (rArr true x4_3.2).2).1 ∧ ∀ p ∈ es4_4, At_MetadataResponseTopicPartition H' p.2 (fk p)) [(2, .bool false), (7, .pointer (some ⟨b_1, 0, none⟩)), (8, .int .i16 v), (9, .bool (decide ((9 : Int) ≤ v))), (10, .pointer (some ⟨b, 0, none⟩)), (24, .slice none 0 0), (25, .slice a4 (lT x4.1).length c4), (26, .int .i32 (rArr true x3.2).1), (27, .int .i32 (k4 : Int)), (29, .pointer (some ⟨g4, 0 + k4 * 22, none⟩)), (35, .slice none 0 0), (36, .slice a4_4 (lT x4_4.1).length c4_4), (37, .int .i32 (rArr true x4_3.2).1), (38, .int .i32 (0 : Int))] (.of ⟨rfl, rfl, rfl, rfl, rfl, rfl, rfl, rfl, rfl, rfl, rfl, rfl, rfl, rfl, trivial⟩) ⟨[], Nr4_4, _, rfl, rfl, (hR250.mono le_23), hr4_4, rfl, (fun p hp => by cases hp)⟩ (fun k4_4 l' H' L' hk4_4 le_24 hI => ?_))
           obtain ⟨es4_4, M4_4, RN4_4, rfl, rfl, hR_4_4, hw_4_4, he_4_4, hg_4_4⟩ := hI
           have hs_4_4 := els_len he_4_4
           have hp_4_4 : (es4_4.flatMap fk).length = k4_4 * 8 := els_flat hs_4_4
           refine sq ?_
           refine sr ?_
           refine mv rfl rfl ?_
           refine mv rfl rfl ?_
           refine lt rfl rfl rfl ?_
           refine nl ?_
           refine cd rfl (fun h264 => ?_) (fun h264 => ?_)
           ·
            have hkl4_4 : k4_4 < (lT x4_4.1).length := by omega
            obtain ⟨g4_4, po4_4, hga4_4, rfl, hbk4_4⟩ := hw_4_4.next (zs := [.int .i16 0, .int .i32 0, .int .i32 0, .int .i32 0, .slice none 0 0, .slice none 0 0, .slice none 0 0, .map none]) hkl4_4 rfl (by decide)
            have ho4_4 : 0 + k4_4 * 8 = (es4_4.flatMap fk).length := by rw [hp_4_4]; omega
            have hbz4_4 : ((decV 10 (decP fs_sMetadataResponseTopicPartition v true) false true) (rMany (decV 10 (decP fs_sMetadataResponseTopicPartition v true) false true) k4_4 (rArr true x4_3.2).2).2).2.bad = true → (decP fs_MetadataResponse v true ⟨s, false, !a.isNone⟩).2.bad = true := fun h => hB4_4 (by rw [ex4_4]; exact rMany_mono (fun r h => decV_bad (fun r h => decP_bad _ _ _ r h) h) _ (show k4_4 + 1 ≤ (lT x4_4.1).length from hkl4_4) (by rw [rMany_succ]; exact h))
            have hLk4_4 : (rMany (decV 10 (decP fs_sMetadataResponseTopicPartition v true) false true) k4_4 (rArr true x4_3.2).2).2.s.length ≤ BR := Nat.le_trans (rMany_shr (fun r => decV_shr (fun r => decP_shr _ _ _ r) r) _ _) hm4_4
            have hL4_4__ := hLk4_4
            obtain ⟨x4_4_0, hx4_4_0⟩ : ∃ x, x = stepF (Fd.mk 2 0 (-1) (-1) (-1) 0 0 []) v true (rMany (decV 10 (decP fs_sMetadataResponseTopicPartition v true) false true) k4_4 (rArr true x4_3.2).2).2 := ⟨_, rfl⟩
            obtain ⟨x4_4_1, hx4_4_1⟩ : ∃ x, x = stepF (Fd.mk 3 0 (-1) (-1) (-1) 0 0 []) v true x4_4_0.2 := ⟨_, rfl⟩
            obtain ⟨x4_4_2, hx4_4_2⟩ : ∃ x, x = stepF (Fd.mk 3 0 (-1) (-1) (-1) 0 0 []) v true x4_4_1.2 := ⟨_, rfl⟩
            obtain ⟨x4_4_3, hx4_4_3⟩ : ∃ x, x = stepF (Fd.mk 3 7 (-1) (-1) (-1) (-1) 0 []) v true x4_4_2.2 := ⟨_, rfl⟩
            obtain ⟨x4_4_4, hx4_4_4⟩ : ∃ x, x = stepF (Fd.mk 11 0 (-1) (-1) (-1) 0 3 []) v true x4_4_3.2 := ⟨_, rfl⟩
            obtain ⟨x4_4_5, hx4_4_5⟩ : ∃ x, x = stepF (Fd.mk 11 0 (-1) (-1) (-1) 0 3 []) v true x4_4_4.2 := ⟨_, rfl⟩
            obtain ⟨x4_4_6, hx4_4_6⟩ : ∃ x, x = stepF (Fd.mk 11 5 (-1) (-1) (-1) 0 3 []) v true x4_4_5.2 := ⟨_, rfl⟩
            obtain ⟨u4_4_, hu4_4_⟩ : ∃ x, x = tailU true x4_4_6.2 := ⟨_, rfl⟩
            have hD4_4_ : decP fs_sMetadataResponseTopicPartition v true (rMany (decV 10 (decP fs_sMetadataResponseTopicPartition v true) false true) k4_4 (rArr true x4_3.2).2).2 = (.mk 0 [] false [x4_4_0.1, x4_4_1.1, x4_4_2.1, x4_4_3.1, x4_4_4.1, x4_4_5.1, x4_4_6.1] u4_4_.1, u4_4_.2) := by
             generalize ((rMany (decV 10 (decP fs_sMetadataResponseTopicPartition v true) false true) k4_4 (rArr true x4_3.2).2).2 : Rd) = r_ at hx4_4_0 ⊢
             rw [decP_eq]; unfold fs_sMetadataResponseTopicPartition; simp only [decFs_cons, decFs_nil, ← hx4_4_0, ← hx4_4_1, ← hx4_4_2, ← hx4_4_3, ← hx4_4_4, ← hx4_4_5, ← hx4_4_6, ← hu4_4_]
            have hL4_4_0 : x4_4_0.2.s.length ≤ BR := by rw [hx4_4_0]; exact Nat.le_trans (stepF_shr _ _ _ _) hL4_4__
            have hL4_4_1 : x4_4_1.2.s.length ≤ BR := by rw [hx4_4_1]; exact Nat.le_trans (stepF_shr _ _ _ _) hL4_4_0
            have hL4_4_2 : x4_4_2.2.s.length ≤ BR := by rw [hx4_4_2]; exact Nat.le_trans (stepF_shr _ _ _ _) hL4_4_1
            have hL4_4_3 : x4_4_3.2.s.length ≤ BR := by rw [hx4_4_3]; exact Nat.le_trans (stepF_shr _ _ _ _) hL4_4_2
            have hL4_4_4 : x4_4_4.2.s.length ≤ BR := by rw [hx4_4_4]; exact Nat.le_trans (stepF_shr _ _ _ _) hL4_4_3
            have hL4_4_5 : x4_4_5.2.s.length ≤ BR := by rw [hx4_4_5]; exact Nat.le_trans (stepF_shr _ _ _ _) hL4_4_4
            have hL4_4_6 : x4_4_6.2.s.length ≤ BR := by rw [hx4_4_6]; exact Nat.le_trans (stepF_shr _ _ _ _) hL4_4_5
            have hE4_4_ : u4_4_.2.bad = true → (decP fs_MetadataResponse v true ⟨s, false, !a.isNone⟩).2.bad = true := fun h => hbz4_4 (by show (decP fs_sMetadataResponseTopicPartition v true (rMany (decV 10 (decP fs_sMetadataResponseTopicPartition v true) false true) k4_4 (rArr true x4_3.2).2).2).2.bad = true; rw [hD4_4_]; exact h)
            have hB4_4_6 : x4_4_6.2.bad = true → (decP fs_MetadataResponse v true ⟨s, false, !a.isNone⟩).2.bad = true := fun h => hE4_4_ (by rw [hu4_4_]; exact tailU_bad h)
            have hB4_4_5 : x4_4_5.2.bad = true → (decP fs_MetadataResponse v true ⟨s, false, !a.isNone⟩).2.bad = true := fun h => hB4_4_6 (by rw [hx4_4_6]; exact step_bad h)
            have hB4_4_4 : x4_4_4.2.bad = true → (decP fs_MetadataResponse v true ⟨s, false, !a.isNone⟩).2.bad = true := fun h => hB4_4_5 (by rw [hx4_4_5]; exact step_bad h)
            have hB4_4_3 : x4_4_3.2.bad = true → (decP fs_MetadataResponse v true ⟨s, false, !a.isNone⟩).2.bad = true := fun h => hB4_4_4 (by rw [hx4_4_4]; exact step_bad h)
            have hB4_4_2 : x4_4_2.2.bad = true → (decP fs_MetadataResponse v true ⟨s, false, !a.isNone⟩).2.bad = true := fun h => hB4_4_3 (by rw [hx4_4_3]; exact step_bad h)
            have hB4_4_1 : x4_4_1.2.bad = true → (decP fs_MetadataResponse v true ⟨s, false, !a.isNone⟩).2.bad = true := fun h => hB4_4_2 (by rw [hx4_4_2]; exact step_bad h)
            have hB4_4_0 : x4_4_0.2.bad = true → (decP fs_MetadataResponse v true ⟨s, false, !a.isNone⟩).2.bad = true := fun h => hB4_4_1 (by rw [hx4_4_1]; exact step_bad h)
            refine skt ?_
            refine sq ?_
            refine bl ?_
            refine sr ?_
            refine mv rfl rfl ?_
            refine mv rfl rfl ?_
            refine ixk (j := k4_4) Tryz.runUnderlying88 Tryz.sizeOf116 rfl hga4_4 rfl rfl hkl4_4 rfl ?_
            refine asg rfl rfl ?_
            refine nl ?_
            refine sr ?_
            refine mv rfl rfl ?_
            refine cl rfl rfl rfl (def_MetadataResponseTopicPartition ho4_4) rfl (fun v_ H1 L1 hle_ hR_ => ?_)
            obtain ⟨rfl, rfl⟩ := hR_
            refine nl ?_
            refine sr ?_
            refine mv rfl rfl ?_
            refine asg rfl rfl ?_
            refine nl ?_
            refine sq ?_
            refine sr ?_
            refine tf (.tail .head) ?_
            have ex4_4_0 : x4_4_0 = decV 2 (decP [] v true) false true (rMany (decV 10 (decP fs_sMetadataResponseTopicPartition v true) false true) k4_4 (rArr true x4_3.2).2).2 := (hx4_4_0.trans (step_yes (by decide) (show (0 : Int) ≤ v by omega) (Or.inl (by decide)))).trans (decF'_val (by decide) (rfl))
            refine cl rfl rfl rfl (d2 hR_4_4 ex4_4_0) rfl (fun v_ H1 L1 hle_ hR_ => ?_)
            obtain ⟨N273, rfl, hR273, rfl, rfl⟩ := hR_
            refine asg rfl rfl ?_
            refine nl ?_
            refine rg ?_
            refine mv rfl rfl ?_
            refine mv rfl rfl ?_
            refine nc rfl rfl ?_
            refine fa F116_0 rfl rfl ?_
            refine stM (off := 0) Tryz.sizeOf46 rfl (by rw [ho4_4]) rfl rfl rfl (.tail .head) ?_
            refine nl ?_
            refine sq ?_
            refine sr ?_
            have ex4_4_1 : x4_4_1 = decV 3 (decP [] v true) false true x4_4_0.2 := (hx4_4_1.trans (step_yes (by decide) (show (0 : Int) ≤ v by omega) (Or.inl (by decide)))).trans (decF'_val (by decide) (rfl))
            refine cl rfl rfl rfl (d3 hR273 ex4_4_1) rfl (fun v_ H1 L1 hle_ hR_ => ?_)
            obtain ⟨N278, rfl, hR278, rfl, rfl⟩ := hR_
            refine asg rfl rfl ?_
            refine nl ?_
            refine rg ?_
            refine mv rfl rfl ?_
            refine mv rfl rfl ?_
            refine nc rfl rfl ?_
            refine fa F116_1 rfl rfl ?_
            refine stM (off := 1) Tryz.sizeOf21 rfl (by rw [ho4_4]) rfl rfl rfl (.tail .head) ?_
            refine nl ?_
            refine sq ?_
            refine sr ?_
            have ex4_4_2 : x4_4_2 = decV 3 (decP [] v true) false true x4_4_1.2 := (hx4_4_2.trans (step_yes (by decide) (show (0 : Int) ≤ v by omega) (Or.inl (by decide)))).trans (decF'_val (by decide) (rfl))
            refine cl rfl rfl rfl (d3 hR278 ex4_4_2) rfl (fun v_ H1 L1 hle_ hR_ => ?_)
            obtain ⟨N283, rfl, hR283, rfl, rfl⟩ := hR_
            refine asg rfl rfl ?_
            refine nl ?_
            refine rg ?_
            refine mv rfl rfl ?_
            refine mv rfl rfl ?_
            refine nc rfl rfl ?_
            refine fa F116_2 rfl rfl ?_
            refine stM (off := 2) Tryz.sizeOf21 rfl (by rw [ho4_4]) rfl rfl rfl (.tail .head) ?_
            refine nl ?_
            refine sq ?_
            refine sr ?_
            refine mv rfl rfl ?_
            refine ge rfl rfl rfl ?_
            refine nl ?_
            refine cdT rfl (by omega) ?_
            refine sr ?_
            have ex4_4_3 : x4_4_3 = decV 3 (decP [] v true) false true x4_4_2.2 := (hx4_4_3.trans (step_yes (by decide) (show (7 : Int) ≤ v by omega) (Or.inl (by decide)))).trans (decF'_val (by decide) (rfl))
            refine cl rfl rfl rfl (d3 hR283 ex4_4_3) rfl (fun v_ H1 L1 hle_ hR_ => ?_)
            obtain ⟨N290, rfl, hR290, rfl, rfl⟩ := hR_
            refine asg rfl rfl ?_
            refine nl ?_
            refine rg ?_
            refine mv rfl rfl ?_
            refine mv rfl rfl ?_
            refine nc rfl rfl ?_
            refine fa F116_3 rfl rfl ?_
            refine stM (off := 3) Tryz.sizeOf21 rfl (by rw [ho4_4]) rfl rfl rfl (.tail .head) ?_
            refine nl ?_
            refine sq ?_
            refine sr ?_
            refine mv rfl rfl ?_
            refine nc rfl rfl ?_
            refine fa F116_4 rfl rfl ?_
            refine ld (j := 4) (off := 0 + k4_4 * 8) (Says.mid (.tail .head) ho4_4) Tryz.isAgg114 rfl rfl rfl rfl ?_
            refine asg rfl rfl ?_
            refine nl ?_
            refine sr ?_
            refine mv rfl rfl ?_
            refine asg rfl rfl ?_
            refine nl ?_
            refine sr ?_
            refine asg rfl rfl ?_
            refine nl ?_
            refine sq ?_
            refine sr ?_
            refine mv rfl rfl ?_
            refine nl ?_
            refine cdT rfl (by omega) ?_
            refine rg ?_
            have ey4_4_4 : x4_4_4 = (.mk 0 [] (if 0 ≤ ((-1) : Int) ∧ (v < ((-1) : Int) ∨ (rArr true x4_4_3.2).1 = 0) then false else decide ((rArr true x4_4_3.2).1 ≤ 0)) (rMany (decV 3 (decP [] v true) false true) (rArr true x4_4_3.2).1.toNat (rArr true x4_4_3.2).2).1 [], (rMany (decV 3 (decP [] v true) false true) (rArr true x4_4_3.2).1.toNat (rArr true x4_4_3.2).2).2) := (hx4_4_4.trans (step_yes (by decide) (show (0 : Int) ≤ v by omega) (Or.inl (by decide)))).trans (decF'_list rfl rfl)
            have hn4_4_4 : (rArr true x4_4_3.2).1.toNat = (lT x4_4_4.1).length := by rw [ey4_4_4]; exact (lT_many nul_le).symm
            have ex4_4_4 := ey4_4_4
            rw [hn4_4_4] at ex4_4_4
            have hl4_4_4 := rArr_le true x4_4_3.2
            have hm4_4_4 : (rArr true x4_4_3.2).2.s.length ≤ BR := Nat.le_trans (rArr_len true x4_4_3.2) hL4_4_3
            have hnb4_4_4 : (lT x4_4_4.1).length ≤ BR := by omega
            refine cl rfl rfl rfl (r_arrt hR290) rfl (fun v_ H1 L1 hle_ hR_ => ?_)
            obtain ⟨rfl, N301, rfl, hR301, rfl⟩ := hR_
            have hh4_4_4 := rArr_hi true x4_4_3.2
            refine asg rfl rfl ?_
            refine nl ?_
            refine sq ?_
            refine sr ?_
            refine cl rfl rfl rfl (r_ok hR301) rfl (fun v_ H1 L1 hle_ hR_ => ?_)
            obtain ⟨rfl, rfl, rfl⟩ := hR_
            refine nt rfl rfl ?_
            refine nl ?_
            refine cb rfl (fun h304 => ?_) (fun h304 => ?_)
            ·
             have hbad_ : (rArr true x4_4_3.2).2.bad = true := by simpa using h304
             refine sr ?_
             refine cl rfl rfl rfl (r_complete hR301 (he.mono (le_3.trans (le_4.trans (hlf1.trans (le_10.trans (le_12.trans (le_13.trans (le_15.trans (le_19.trans (le_23.trans le_24))))))))))) rfl (fun v_ H1 L1 hle_ hR_ => ?_)
             obtain ⟨rfl, rfl, rfl⟩ := hR_
             refine asg rfl rfl ?_
             refine nl ?_
             refine drW .head ?_
             refine drW .head ?_
             refine drW .head ?_
             exact rT rfl rfl (le_3.trans (le_4.trans (hlf1.trans (le_10.trans (le_12.trans (le_13.trans (le_15.trans (le_19.trans (le_23.trans le_24))))))))) (fun _ _ h => h) ⟨_, rfl, RdEnd.out (hB4_4_4 (by rw [ey4_4_4]; exact rMany_bad (fun r h => decV_bad (decP_bad _ _ _) h) _ _ hbad_)) hbad_⟩
            ·
             refine skt ?_
             refine sr ?_
             refine mv rfl rfl ?_
             refine sh' (j := 0) Tryz.runUnderlying114 Tryz.sizeOf21 rfl rfl rfl (Nat.zero_le _) rfl ?_
             refine asg rfl rfl ?_
             refine nl ?_
             refine sq ?_
             refine sr ?_
             refine mv rfl rfl ?_
             refine gt rfl rfl rfl ?_
             refine nl ?_
             refine nulC2 ?_
             refine cutT (fun l' H' L' => ∃ (a4_4_4 : Option Addr), ∃ (c4_4_4 : Nat), ∃ (Nr4_4_4 : Chunk), [(2, .bool false), (7, .pointer (some ⟨b_1, 0, none⟩)), (8, .int .i16 v), (9, .bool (decide ((9 : Int) ≤ v))), (10, .pointer (some ⟨b, 0, none⟩)), (24, .slice none 0 0), (25, .slice a4 (lT x4.1).length c4), (26, .int .i32 (rArr true x3.2).1), (27, .int .i32 (k4 : Int)), (29, .pointer (some ⟨g4, 0 + k4 * 22, none⟩)), (35, .slice none 0 0), (36, .slice a4_4 (lT x4_4.1).length c4_4), (37, .int .i32 (rArr true x4_3.2).1), (38, .int .i32 (k4_4 : Int)), (40, .pointer (some ⟨g4_4, 0 + k4_4 * 8, none⟩)), (45, .slice none 0 0), (46, .slice a4_4_4 (lT x4_4_4.1).length c4_4_4), (47, .int .i32 (rArr true x4_4_3.2).1)] = l' ∧ Nr4_4_4 :: N301 :: [(g4_4, .cells ((es4_4.flatMap fk) ++ ([.int .i16 (IntKind.i16.wrap x4_4_0.1.n), .int .i32 (IntKind.i32.wrap x4_4_1.1.n), .int .i32 (IntKind.i32.wrap x4_4_2.1.n), .int .i32 (IntKind.i32.wrap x4_4_3.1.n), .slice none 0 0, .slice none 0 0, .slice none 0 0, .map none] : List Value) ++ po4_4).toArray 116 (0, 0))] :: [(g4, .cells ((es4.flatMap fk) ++ ([.int .i16 (IntKind.i16.wrap x4_0.1.n), .pointer pt4_1, ub x4_2.1.s 0, ub x4_2.1.s 1, ub x4_2.1.s 2, ub x4_2.1.s 3, ub x4_2.1.s 4, ub x4_2.1.s 5, ub x4_2.1.s 6, ub x4_2.1.s 7, ub x4_2.1.s 8, ub x4_2.1.s 9, ub x4_2.1.s 10, ub x4_2.1.s 11, ub x4_2.1.s 12, ub x4_2.1.s 13, ub x4_2.1.s 14, ub x4_2.1.s 15, .bool (decide (x4_3.1.n % 2 = 1)), .slice none 0 0, .int .i32 (-2147483648), .map none] : List Value) ++ po4).toArray 90 (0, 0))] :: [(b, .cells [.int .i16 v, .int .i32 (IntKind.i32.wrap x0.1.n), .slice a1 (lT x1.1).length c1, .pointer p2, .int .i32 (IntKind.i32.wrap x3.1.n), .slice none 0 0, .int .i32 (-2147483648), .int .i16 0, .map none].toArray 78 (0, 0))] :: L = L' ∧ Row 21 1 a4_4_4 (lT x4_4_4.1).length c4_4_4 (reps [.int .i32 0] (lT x4_4_4.1).length) Nr4_4_4 ∧ a4_4_4.isNone = (if 0 ≤ ((-1) : Int) ∧ (v < ((-1) : Int) ∨ (rArr true x4_4_3.2).1 = 0) then false else decide ((rArr true x4_4_3.2).1 ≤ 0))) ?_ (fun l' H' L' le_29 hI => ?_)
             ·
              refine cd rfl (fun h309 => ?_) (fun h309 => ?_)
              ·
               refine rg ?_
               refine mv rfl rfl ?_
               refine mv rfl rfl ?_
               refine apz (zs := [.int .i32 0]) (m := (lT x4_4_4.1).length) Tryz.underlying114 Tryz.underlying21 I21 rfl rfl rfl (by omega) (by omega) (by have h9 := hnb4_4_4; unfold BR at h9; omega) (by have h9 := hnb4_4_4; unfold BR at h9; unfold maxLen; omega) rfl (fun g312 cp312 N312 r312 => ?_)
               refine asg rfl rfl ?_
               refine nN ?_
               refine drN (.tail .head) ?_
               refine fun a_ w_ hA hw => ⟨_, _, _, hA.sub ?_, ler, hw, (some ⟨g312, 0, none⟩), cp312, N312, rfl, rfl, r312, (by rw [if_neg (by omega)]; exact (decide_eq_false (by omega)).symm)⟩
               exact (.cons rfl (.cons rfl (.cons rfl (.cons rfl (.cons rfl (.cons rfl (.cons rfl (.cons rfl (.cons rfl (.cons rfl (.cons rfl (.cons rfl (.cons rfl (.cons rfl (.cons rfl (.cons rfl (.cons rfl (.cons rfl (.nil _)))))))))))))))))))
              ·
               refine skN ?_
               refine fun a_ w_ hA hw => ⟨_, _, _, hA.sub ?_, ler, hw, none, 0, [], rfl, rfl, (by rw [show (lT x4_4_4.1).length = 0 by omega]; exact (Row.nil _ _)), (by rw [if_neg (by omega)]; exact (decide_eq_true (by omega)).symm)⟩
               exact (.cons rfl (.cons rfl (.cons rfl (.cons rfl (.cons rfl (.cons rfl (.cons rfl (.cons rfl (.cons rfl (.cons rfl (.cons rfl (.cons rfl (.cons rfl (.cons rfl (.cons rfl (.cons rfl (.cons (by rw [show (lT x4_4_4.1).length = 0 by omega]; rfl) (.cons rfl (.nil _)))))))))))))))))))
             ·
              obtain ⟨a4_4_4, c4_4_4, Nr4_4_4, rfl, rfl, pj0, pj1⟩ := hI
              have hr4_4_4 := pj0
              have hi4_4_4 := pj1
              refine sq ?_
              refine sr ?_
              refine asg rfl rfl ?_
              refine nl ?_
              refine bl (lp ((lT x4_4_4.1).length) (fun k4_4_4 l' H' L' => ∃ (es4_4_4 : List (KE 1)) (M4_4_4 RN4_4_4 : Chunk), [(2, .bool false), (7, .pointer (some ⟨b_1, 0, none⟩)), (8, .int .i16 v), (9, .bool (decide ((9 : Int) ≤ v))), (10, .pointer (some ⟨b, 0, none⟩)), (24, .slice none 0 0), (25, .slice a4 (lT x4.1).length c4), (26, .int .i32 (rArr true x3.2).1), (27, .int .i32 (k4 : Int)), (29, .pointer (some ⟨g4, 0 + k4 * 22, none⟩)), (35, .slice none 0 0), (36, .slice a4_4 (lT x4_4.1).length c4_4), (37, .int .i32 (rArr true x4_3.2).1), (38, .int .i32 (k4_4 : Int)), (40, .pointer (some ⟨g4_4, 0 + k4_4 * 8, none⟩)), (45, .slice none 0 0), (46, .slice a4_4_4 (lT x4_4_4.1).length c4_4_4), (47, .int .i32 (rArr true x4_4_3.2).1), (48, .int .i32 (k4_4_4 : Int))] = l' ∧ M4_4_4 :: RN4_4_4 :: [(g4_4, .cells ((es4_4.flatMap fk) ++ ([.int .i16 (IntKind.i16.wrap x4_4_0.1.n), .int .i32 (IntKind.i32.wrap x4_4_1.1.n), .int .i32 (IntKind.i32.wrap x4_4_2.1.n), .int .i32 (IntKind.i32.wrap x4_4_3.1.n), .slice none 0 0, .slice none 0 0, .slice none 0 0, .map none] : List Value) ++ po4_4).toArray 116 (0, 0))] :: [(g4, .cells ((es4.flatMap fk) ++ ([.int .i16 (IntKind.i16.wrap x4_0.1.n), .pointer pt4_1, ub x4_2.1.s 0, ub x4_2.1.s 1, ub x4_2.1.s 2, ub x4_2.1.s 3, ub x4_2.1.s 4, ub x4_2.1.s 5, ub x4_2.1.s 6, ub x4_2.1.s 7, ub x4_2.1.s 8, ub x4_2.1.s 9, ub x4_2.1.s 10, ub x4_2.1.s 11, ub x4_2.1.s 12, ub x4_2.1.s 13, ub x4_2.1.s 14, ub x4_2.1.s 15, .bool (decide (x4_3.1.n % 2 = 1)), .slice none 0 0, .int .i32 (-2147483648), .map none] : List Value) ++ po4).toArray 90 (0, 0))] :: [(b, .cells [.int .i16 v, .int .i32 (IntKind.i32.wrap x0.1.n), .slice a1 (lT x1.1).length c1, .pointer p2, .int .i32 (IntKind.i32.wrap x3.1.n), .slice none 0 0, .int .i32 (-2147483648), .int .i16 0, .map none].toArray 78 (0, 0))] :: L = L' ∧ RdAt H' 104 b_1 (rMany (decV 3 (decP [] v true) false true) k4_4_4 (rArr true x4_4_3.2).2).2 RN4_4_4 ∧ Row 21 1 a4_4_4 (lT x4_4_4.1).length c4_4_4 (es4_4_4.flatMap fk ++ reps [.int .i32 0] ((lT x4_4_4.1).length - k4_4_4)) M4_4_4 ∧ es4_4_4.map (·.2) = (rMany (decV 3 (decP [] v true) false true) k4_4_4 (rArr true x4_4_3.2).2).1 ∧ ∀ p ∈ es4_4_4, RI32 H' p.2 (fk p)) [(2, .bool false), (7, .pointer (some ⟨b_1, 0, none⟩)), (8, .int .i16 v), (9, .bool (decide ((9 : Int) ≤ v))), (10, .pointer (some ⟨b, 0, none⟩)), (24, .slice none 0 0), (25, .slice a4 (lT x4.1).length c4), (26, .int .i32 (rArr true x3.2).1), (27, .int .i32 (k4 : Int)), (29, .pointer (some ⟨g4, 0 + k4 * 22, none⟩)), (35, .slice none 0 0), (36, .slice a4_4 (lT x4_4.1).length c4_4), (37, .int .i32 (rArr true x4_3.2).1), (38, .int .i32 (k4_4 : Int)), (40, .pointer (some ⟨g4_4, 0 + k4_4 * 8, none⟩)), (45, .slice none 0 0), (46, .slice a4_4_4 (lT x4_4_4.1).length c4_4_4), (47, .int .i32 (rArr true x4_4_3.2).1), (48, .int .i32 (0 : Int))] (.of ⟨rfl, rfl, rfl, rfl, rfl, rfl, rfl, rfl, rfl, rfl, rfl, rfl, rfl, rfl, rfl, rfl, rfl, rfl, rfl, trivial⟩) ⟨[], Nr4_4_4, _, rfl, rfl, (hR301.mono le_29), hr4_4_4, rfl, (fun p hp => by cases hp)⟩ (fun k4_4_4 l' H' L' hk4_4_4 le_30 hI => ?_))
              obtain ⟨es4_4_4, M4_4_4, RN4_4_4, rfl, rfl, hR_4_4_4, hw_4_4_4, he_4_4_4, hg_4_4_4⟩ := hI
              have hs_4_4_4 := els_len he_4_4_4
              have hp_4_4_4 : (es4_4_4.flatMap fk).length = k4_4_4 * 1 := els_flat hs_4_4_4
              refine sq ?_
              refine sr ?_
              refine mv rfl rfl ?_
              refine mv rfl rfl ?_
              refine lt rfl rfl rfl ?_
              refine nl ?_
              refine cd rfl (fun h315 => ?_) (fun h315 => ?_)
              ·
               have hkl4_4_4 : k4_4_4 < (lT x4_4_4.1).length := by omega
               obtain ⟨g4_4_4, po4_4_4, hga4_4_4, rfl, hbk4_4_4⟩ := hw_4_4_4.next (zs := [.int .i32 0]) hkl4_4_4 rfl (by decide)
               have ho4_4_4 : 0 + k4_4_4 * 1 = (es4_4_4.flatMap fk).length := by rw [hp_4_4_4]; omega
               have hbz4_4_4 : ((decV 3 (decP [] v true) false true) (rMany (decV 3 (decP [] v true) false true) k4_4_4 (rArr true x4_4_3.2).2).2).2.bad = true → (decP fs_MetadataResponse v true ⟨s, false, !a.isNone⟩).2.bad = true := fun h => hB4_4_4 (by rw [ex4_4_4]; exact rMany_mono (fun r h => decV_bad (fun r h => decP_bad _ _ _ r h) h) _ (show k4_4_4 + 1 ≤ (lT x4_4_4.1).length from hkl4_4_4) (by rw [rMany_succ]; exact h))
               have hLk4_4_4 : (rMany (decV 3 (decP [] v true) false true) k4_4_4 (rArr true x4_4_3.2).2).2.s.length ≤ BR := Nat.le_trans (rMany_shr (fun r => decV_shr (fun r => decP_shr _ _ _ r) r) _ _) hm4_4_4
               obtain ⟨y4_4_4, hy4_4_4⟩ : ∃ x, x = (decV 3 (decP [] v true) false true) (rMany (decV 3 (decP [] v true) false true) k4_4_4 (rArr true x4_4_3.2).2).2 := ⟨_, rfl⟩
               refine skt ?_
               refine sq ?_
               refine bl ?_
               refine sr ?_
               refine tf (.tail .head) ?_
               refine cl rfl rfl rfl (d3 hR_4_4_4 hy4_4_4) rfl (fun v_ H1 L1 hle_ hR_ => ?_)
               obtain ⟨N318, rfl, hR318, rfl, rfl⟩ := hR_
               refine asg rfl rfl ?_
               refine nl ?_
               refine rg ?_
               refine mv rfl rfl ?_
               refine mv rfl rfl ?_
               refine mv rfl rfl ?_
               refine ixk (j := k4_4_4) Tryz.runUnderlying114 Tryz.sizeOf21 rfl hga4_4_4 rfl rfl hkl4_4_4 rfl ?_
               refine stM (off := 0) Tryz.sizeOf21 rfl ho4_4_4 rfl rfl rfl (.tail .head) ?_
               refine nN ?_
               refine Nb ?_
               refine Nt ?_
               refine rg ?_
               refine mv rfl rfl ?_
               refine ad rfl rfl (c := ((k4_4_4 + 1 : Nat) : Int)) ((wrap32_le (by omega) (by omega)).trans (by omega)) rfl ?_
               refine asg rfl rfl ?_
               refine nN ?_
               have hfs4_4_4 := flatMap_snoc' fk es4_4_4 ((⟨([.int .i32 (IntKind.i32.wrap y4_4_4.1.n)] : List Value), rfl, all_one rfl⟩, ((decV 3 (decP [] v true) false true) (rMany (decV 3 (decP [] v true) false true) k4_4_4 (rArr true x4_4_3.2).2).2).1) : KE 1)
               have hrw4_4_4 := hbk4_4_4 ([.int .i32 (IntKind.i32.wrap y4_4_4.1.n)] : List Value) rfl
               refine tfN (.tail .head) ?_
               refine fun a_ w_ hA hw => ⟨hkl4_4_4, _, _, _, hA.sub ?_, le_30, hw, _, _, _, rfl, rfl, (by rw [rMany_succ, ← hy4_4_4]; exact hR318), (by rw [← hfs4_4_4]; exact hrw4_4_4), (dec_els he_4_4_4), (fun p hp => (mem_snoc hp).elim (fun h => RI32.mono _ _ _ _ ler (hg_4_4_4 p h)) (fun h => h ▸ (by show RI32 _ ((decV 3 (decP [] v true) false true) (rMany (decV 3 (decP [] v true) false true) k4_4_4 (rArr true x4_4_3.2).2).2).1 [.int .i32 (IntKind.i32.wrap y4_4_4.1.n)]; rw [← hy4_4_4]; rfl)))⟩
               exact (.of ⟨rfl, rfl, rfl, rfl, rfl, rfl, rfl, rfl, rfl, rfl, rfl, rfl, rfl, rfl, rfl, rfl, rfl, rfl, rfl, trivial⟩)
              ·
               have hkn_ : k4_4_4 = (lT x4_4_4.1).length := by omega
               subst hkn_
               have hw2_4_4_4 : Row 21 1 a4_4_4 (lT x4_4_4.1).length c4_4_4 (es4_4_4.flatMap fk) M4_4_4 := by have h := hw_4_4_4; rw [Nat.sub_self] at h; simpa [reps] using h
               refine frW hw2_4_4_4 .head (fun Hf4_4_4 hlf4_4_4 hfz4_4_4 => ?_)
               have hrs4_4_4 := RowsAt.row (R := RI32) hfz4_4_4 hs_4_4_4.symm hw2_4_4_4.le.1 (fun p hp => RI32.mono _ _ _ _ hlf4_4_4 (hg_4_4_4 p hp))
               rw [he_4_4_4] at hrs4_4_4
               have hf4_4_4 : ListAt Hf4_4_4 x4_4_4.1 1 RI32 a4_4_4 c4_4_4 := by rw [ex4_4_4]; exact listAt_of hrs4_4_4 hi4_4_4 (fun h => by have h1 := nul_le h; rw [show (lT x4_4_4.1).length = 0 by omega]; rfl)
               have hRx4_4_4 : RdAt Hf4_4_4 104 b_1 x4_4_4.2 RN4_4_4 := by rw [ex4_4_4]; exact (hR_4_4_4.mono hlf4_4_4)
               refine exX ?_
               refine XT ?_
               refine XT ?_
               refine Xb ?_
               refine Nt ?_
               refine sr ?_
               refine mv rfl rfl ?_
               refine asg rfl rfl ?_
               refine nl ?_
               refine rg ?_
               refine mv rfl rfl ?_
               refine mv rfl rfl ?_
               refine nc rfl rfl ?_
               refine fa F116_4 rfl rfl ?_
               refine stM (off := 4) Tryz.sizeOf114 rfl (by rw [ho4_4]) rfl rfl rfl (.tail .head) ?_
               refine nl ?_
               refine sq ?_
               refine sr ?_
               refine mv rfl rfl ?_
               refine nc rfl rfl ?_
               refine fa F116_5 rfl rfl ?_
               refine ld (j := 5) (off := 0 + k4_4 * 8) (Says.mid (.tail .head) ho4_4) Tryz.isAgg114 rfl rfl rfl rfl ?_
               refine asg rfl rfl ?_
               refine nl ?_
               refine sr ?_
               refine mv rfl rfl ?_
               refine asg rfl rfl ?_
               refine nl ?_
               refine sr ?_
               refine asg rfl rfl ?_
               refine nl ?_
               refine sq ?_
               refine sr ?_
               refine mv rfl rfl ?_
               refine nl ?_
               refine cdT rfl (by omega) ?_
               refine rg ?_
               have ey4_4_5 : x4_4_5 = (.mk 0 [] (if 0 ≤ ((-1) : Int) ∧ (v < ((-1) : Int) ∨ (rArr true x4_4_4.2).1 = 0) then false else decide ((rArr true x4_4_4.2).1 ≤ 0)) (rMany (decV 3 (decP [] v true) false true) (rArr true x4_4_4.2).1.toNat (rArr true x4_4_4.2).2).1 [], (rMany (decV 3 (decP [] v true) false true) (rArr true x4_4_4.2).1.toNat (rArr true x4_4_4.2).2).2) := (hx4_4_5.trans (step_yes (by decide) (show (0 : Int) ≤ v by omega) (Or.inl (by decide)))).trans (decF'_list rfl rfl)
               have hn4_4_5 : (rArr true x4_4_4.2).1.toNat = (lT x4_4_5.1).length := by rw [ey4_4_5]; exact (lT_many nul_le).symm
               have ex4_4_5 := ey4_4_5
               rw [hn4_4_5] at ex4_4_5
               have hl4_4_5 := rArr_le true x4_4_4.2
               have hm4_4_5 : (rArr true x4_4_4.2).2.s.length ≤ BR := Nat.le_trans (rArr_len true x4_4_4.2) hL4_4_4
               have hnb4_4_5 : (lT x4_4_5.1).length ≤ BR := by omega
               refine cl rfl rfl rfl (r_arrt hRx4_4_4) rfl (fun v_ H1 L1 hle_ hR_ => ?_)
               obtain ⟨rfl, N334, rfl, hR334, rfl⟩ := hR_
               have hh4_4_5 := rArr_hi true x4_4_4.2
               refine asg rfl rfl ?_
               refine nl ?_
               refine sq ?_
               refine sr ?_
               refine cl rfl rfl rfl (r_ok hR334) rfl (fun v_ H1 L1 hle_ hR_ => ?_)
               obtain ⟨rfl, rfl, rfl⟩ := hR_
               refine nt rfl rfl ?_
               refine nl ?_
               refine cb rfl (fun h337 => ?_) (fun h337 => ?_)
               ·
                have hbad_ : (rArr true x4_4_4.2).2.bad = true := by simpa using h337
                refine sr ?_
                refine cl rfl rfl rfl (r_complete hR334 (he.mono (le_3.trans (le_4.trans (hlf1.trans (le_10.trans (le_12.trans (le_13.trans (le_15.trans (le_19.trans (le_23.trans (le_24.trans (le_29.trans (le_30.trans hlf4_4_4)))))))))))))) rfl (fun v_ H1 L1 hle_ hR_ => ?_)
                obtain ⟨rfl, rfl, rfl⟩ := hR_
                refine asg rfl rfl ?_
                refine nl ?_
                refine drW .head ?_
                refine drW .head ?_
                refine drW .head ?_
                exact rT rfl rfl (le_3.trans (le_4.trans (hlf1.trans (le_10.trans (le_12.trans (le_13.trans (le_15.trans (le_19.trans (le_23.trans (le_24.trans (le_29.trans (le_30.trans hlf4_4_4)))))))))))) (fun _ _ h => h) ⟨_, rfl, RdEnd.out (hB4_4_5 (by rw [ey4_4_5]; exact rMany_bad (fun r h => decV_bad (decP_bad _ _ _) h) _ _ hbad_)) hbad_⟩
               ·
                refine skt ?_
                refine sr ?_
                refine mv rfl rfl ?_
                refine sh' (j := 0) Tryz.runUnderlying114 Tryz.sizeOf21 rfl rfl rfl (Nat.zero_le _) rfl ?_
                refine asg rfl rfl ?_
                refine nl ?_
                refine sq ?_
                refine sr ?_
                refine mv rfl rfl ?_
                refine gt rfl rfl rfl ?_
                refine nl ?_
                refine nulC2 ?_
                refine cutT (fun l' H' L' => ∃ (a4_4_5 : Option Addr), ∃ (c4_4_5 : Nat), ∃ (Nr4_4_5 : Chunk), [(2, .bool false), (7, .pointer (some ⟨b_1, 0, none⟩)), (8, .int .i16 v), (9, .bool (decide ((9 : Int) ≤ v))), (10, .pointer (some ⟨b, 0, none⟩)), (24, .slice none 0 0), (25, .slice a4 (lT x4.1).length c4), (26, .int .i32 (rArr true x3.2).1), (27, .int .i32 (k4 : Int)), (29, .pointer (some ⟨g4, 0 + k4 * 22, none⟩)), (35, .slice none 0 0), (36, .slice a4_4 (lT x4_4.1).length c4_4), (37, .int .i32 (rArr true x4_3.2).1), (38, .int .i32 (k4_4 : Int)), (40, .pointer (some ⟨g4_4, 0 + k4_4 * 8, none⟩)), (50, .slice none 0 0), (51, .slice a4_4_5 (lT x4_4_5.1).length c4_4_5), (52, .int .i32 (rArr true x4_4_4.2).1)] = l' ∧ Nr4_4_5 :: N334 :: [(g4_4, .cells ((es4_4.flatMap fk) ++ ([.int .i16 (IntKind.i16.wrap x4_4_0.1.n), .int .i32 (IntKind.i32.wrap x4_4_1.1.n), .int .i32 (IntKind.i32.wrap x4_4_2.1.n), .int .i32 (IntKind.i32.wrap x4_4_3.1.n), .slice a4_4_4 (lT x4_4_4.1).length c4_4_4, .slice none 0 0, .slice none 0 0, .map none] : List Value) ++ po4_4).toArray 116 (0, 0))] :: [(g4, .cells ((es4.flatMap fk) ++ ([.int .i16 (IntKind.i16.wrap x4_0.1.n), .pointer pt4_1, ub x4_2.1.s 0, ub x4_2.1.s 1, ub x4_2.1.s 2, ub x4_2.1.s 3, ub x4_2.1.s 4, ub x4_2.1.s 5, ub x4_2.1.s 6, ub x4_2.1.s 7, ub x4_2.1.s 8, ub x4_2.1.s 9, ub x4_2.1.s 10, ub x4_2.1.s 11, ub x4_2.1.s 12, ub x4_2.1.s 13, ub x4_2.1.s 14, ub x4_2.1.s 15, .bool (decide (x4_3.1.n % 2 = 1)), .slice none 0 0, .int .i32 (-2147483648), .map none] : List Value) ++ po4).toArray 90 (0, 0))] :: [(b, .cells [.int .i16 v, .int .i32 (IntKind.i32.wrap x0.1.n), .slice a1 (lT x1.1).length c1, .pointer p2, .int .i32 (IntKind.i32.wrap x3.1.n), .slice none 0 0, .int .i32 (-2147483648), .int .i16 0, .map none].toArray 78 (0, 0))] :: L = L' ∧ Row 21 1 a4_4_5 (lT x4_4_5.1).length c4_4_5 (reps [.int .i32 0] (lT x4_4_5.1).length) Nr4_4_5 ∧ a4_4_5.isNone = (if 0 ≤ ((-1) : Int) ∧ (v < ((-1) : Int) ∨ (rArr true x4_4_4.2).1 = 0) then false else decide ((rArr true x4_4_4.2).1 ≤ 0))) ?_ (fun l' H' L' le_32 hI => ?_)
                ·
                 refine cd rfl (fun h342 => ?_) (fun h342 => ?_)
                 ·
                  refine rg ?_
                  refine mv rfl rfl ?_
                  refine mv rfl rfl ?_
                  refine apz (zs := [.int .i32 0]) (m := (lT x4_4_5.1).length) Tryz.underlying114 Tryz.underlying21 I21 rfl rfl rfl (by omega) (by omega) (by have h9 := hnb4_4_5; unfold BR at h9; omega) (by have h9 := hnb4_4_5; unfold BR at h9; unfold maxLen; omega) rfl (fun g345 cp345 N345 r345 => ?_)
                  refine asg rfl rfl ?_
                  refine nN ?_
                  refine drN (.tail .head) ?_
                  refine fun a_ w_ hA hw => ⟨_, _, _, hA.sub ?_, ler, hw, (some ⟨g345, 0, none⟩), cp345, N345, rfl, rfl, r345, (by rw [if_neg (by omega)]; exact (decide_eq_false (by omega)).symm)⟩
                  exact (.cons rfl (.cons rfl (.cons rfl (.cons rfl (.cons rfl (.cons rfl (.cons rfl (.cons rfl (.cons rfl (.cons rfl (.cons rfl (.cons rfl (.cons rfl (.cons rfl (.cons rfl (.cons rfl (.cons rfl (.cons rfl (.nil _)))))))))))))))))))
                 ·
                  refine skN ?_
                  refine fun a_ w_ hA hw => ⟨_, _, _, hA.sub ?_, ler, hw, none, 0, [], rfl, rfl, (by rw [show (lT x4_4_5.1).length = 0 by omega]; exact (Row.nil _ _)), (by rw [if_neg (by omega)]; exact (decide_eq_true (by omega)).symm)⟩
                  exact (.cons rfl (.cons rfl (.cons rfl (.cons rfl (.cons rfl (.cons rfl (.cons rfl (.cons rfl (.cons rfl (.cons rfl (.cons rfl (.cons rfl (.cons rfl (.cons rfl (.cons rfl (.cons rfl (.cons (by rw [show (lT x4_4_5.1).length = 0 by omega]; rfl) (.cons rfl (.nil _)))))))))))))))))))
                ·
                 obtain ⟨a4_4_5, c4_4_5, Nr4_4_5, rfl, rfl, pj0, pj1⟩ := hI
                 have hr4_4_5 := pj0
                 have hi4_4_5 := pj1
                 refine sq ?_
                 refine sr ?_
                 refine asg rfl rfl ?_
                 refine nl ?_
                 refine bl (lp ((lT x4_4_5.1).length) (fun k4_4_5 l' H' L' => ∃ (es4_4_5 : List (KE 1)) (M4_4_5 RN4_4_5 : Chunk), [(2, .bool false), (7, .pointer (some ⟨b_1, 0, none⟩)), (8, .int .i16 v), (9, .bool (decide ((9 : Int) ≤ v))), (10, .pointer (some ⟨b, 0, none⟩)), (24, .slice none 0 0), (25, .slice a4 (lT x4.1).length c4), (26, .int .i32 (rArr true x3.2).1), (27, .int .i32 (k4 : Int)), (29, .pointer (some ⟨g4, 0 + k4 * 22, none⟩)), (35, .slice none 0 0), (36, .slice a4_4 (lT x4_4.1).length c4_4), (37, .int .i32 (rArr true x4_3.2).1), (38, .int .i32 (k4_4 : Int)), (40, .pointer (some ⟨g4_4, 0 + k4_4 * 8, none⟩)), (50, .slice none 0 0), (51, .slice a4_4_5 (lT x4_4_5.1).length c4_4_5), (52, .int .i32 (rArr true x4_4_4.2).1), (53, .int .i32 (k4_4_5 : Int))] = l' ∧ M4_4_5 :: RN4_4_5 :: [(g4_4, .cells ((es4_4.flatMap fk) ++ ([.int .i16 (IntKind.i16.wrap x4_4_0.1.n), .int .i32 (IntKind.i32.wrap x4_4_1.1.n), .int .i32 (IntKind.i32.wrap x4_4_2.1.n), .int .i32 (IntKind.i32.wrap x4_4_3.1.n), .slice a4_4_4 (lT x4_4_4.1).length c4_4_4, .slice none 0 0, .slice none 0 0, .map none] : List Value) ++ po4_4).toArray 116 (0, 0))] :: [(g4, .cells ((es4.flatMap fk) ++ ([.int .i16 (IntKind.i16.wrap x4_0.1.n), .pointer pt4_1, ub x4_2.1.s 0, ub x4_2.1.s 1, ub x4_2.1.s 2, ub x4_2.1.s 3, ub x4_2.1.s 4, ub x4_2.1.s 5, ub x4_2.1.s 6, ub x4_2.1.s 7, ub x4_2.1.s 8, ub x4_2.1.s 9, ub x4_2.1.s 10, ub x4_2.1.s 11, ub x4_2.1.s 12, ub x4_2.1.s 13, ub x4_2.1.s 14, ub x4_2.1.s 15, .bool (decide (x4_3.1.n % 2 = 1)), .slice none 0 0, .int .i32 (-2147483648), .map none] : List Value) ++ po4).toArray 90 (0, 0))] :: [(b, .cells [.int .i16 v, .int .i32 (IntKind.i32.wrap x0.1.n), .slice a1 (lT x1.1).length c1, .pointer p2, .int .i32 (IntKind.i32.wrap x3.1.n), .slice none 0 0, .int .i32 (-2147483648), .int .i16 0, .map none].toArray 78 (0, 0))] :: L = L' ∧ RdAt H' 104 b_1 (rMany (decV 3 (decP [] v true) false true) k4_4_5 (rArr true x4_4_4.2).2).2 RN4_4_5 ∧ Row 21 1 a4_4_5 (lT x4_4_5.1).length c4_4_5 (es4_4_5.flatMap fk ++ reps [.int .i32 0] ((lT x4_4_5.1).length - k4_4_5)) M4_4_5 ∧ es4_4_5.map (·.2) = (rMany (decV 3 (decP [] v true) false true) k4_4_5 (rArr true x4_4_4.2).2).1 ∧ ∀ p ∈ es4_4_5, RI32 H' p.2 (fk p)) [(2, .bool false), (7, .pointer (some ⟨b_1, 0, none⟩)), (8, .int .i16 v), (9, .bool (decide ((9 : Int) ≤ v))), (10, .pointer (some ⟨b, 0, none⟩)), (24, .slice none 0 0), (25, .slice a4 (lT x4.1).length c4), (26, .int .i32 (rArr true x3.2).1), (27, .int .i32 (k4 : Int)), (29, .pointer (some ⟨g4, 0 + k4 * 22, none⟩)), (35, .slice none 0 0), (36, .slice a4_4 (lT x4_4.1).length c4_4), (37, .int .i32 (rArr true x4_3.2).1), (38, .int .i32 (k4_4 : Int)), (40, .pointer (some ⟨g4_4, 0 + k4_4 * 8, none⟩)), (50, .slice none 0 0), (51, .slice a4_4_5 (lT x4_4_5.1).length c4_4_5), (52, .int .i32 (rArr true x4_4_4.2).1), (53, .int .i32 (0 : Int))] (.of ⟨rfl, rfl, rfl, rfl, rfl, rfl, rfl, rfl, rfl, rfl, rfl, rfl, rfl, rfl, rfl, rfl, rfl, rfl, rfl, trivial⟩) ⟨[], Nr4_4_5, _, rfl, rfl, (hR334.mono le_32), hr4_4_5, rfl, (fun p hp => by cases hp)⟩ (fun k4_4_5 l' H' L' hk4_4_5 le_33 hI => ?_))
                 obtain ⟨es4_4_5, M4_4_5, RN4_4_5, rfl, rfl, hR_4_4_5, hw_4_4_5, he_4_4_5, hg_4_4_5⟩ := hI
                 have hs_4_4_5 := els_len he_4_4_5
                 have hp_4_4_5 : (es4_4_5.flatMap fk).length = k4_4_5 * 1 := els_flat hs_4_4_5
                 refine sq ?_
                 refine sr ?_
                 refine mv rfl rfl ?_
                 refine mv rfl rfl ?_
                 refine lt rfl rfl rfl ?_
                 refine nl ?_
                 refine cd rfl (fun h348 => ?_) (fun h348 => ?_)
                 ·
                  have hkl4_4_5 : k4_4_5 < (lT x4_4_5.1).length := by omega
                  obtain ⟨g4_4_5, po4_4_5, hga4_4_5, rfl, hbk4_4_5⟩ := hw_4_4_5.next (zs := [.int .i32 0]) hkl4_4_5 rfl (by decide)
                  have ho4_4_5 : 0 + k4_4_5 * 1 = (es4_4_5.flatMap fk).length := by rw [hp_4_4_5]; omega
                  have hbz4_4_5 : ((decV 3 (decP [] v true) false true) (rMany (decV 3 (decP [] v true) false true) k4_4_5 (rArr true x4_4_4.2).2).2).2.bad = true → (decP fs_MetadataResponse v true ⟨s, false, !a.isNone⟩).2.bad = true := fun h => hB4_4_5 (by rw [ex4_4_5]; exact rMany_mono (fun r h => decV_bad (fun r h => decP_bad _ _ _ r h) h) _ (show k4_4_5 + 1 ≤ (lT x4_4_5.1).length from hkl4_4_5) (by rw [rMany_succ]; exact h))
                  have hLk4_4_5 : (rMany (decV 3 (decP [] v true) false true) k4_4_5 (rArr true x4_4_4.2).2).2.s.length ≤ BR := Nat.le_trans (rMany_shr (fun r => decV_shr (fun r => decP_shr _ _ _ r) r) _ _) hm4_4_5
                  obtain ⟨y4_4_5, hy4_4_5⟩ : ∃ x, x = (decV 3 (decP [] v true) false true) (rMany (decV 3 (decP [] v true) false true) k4_4_5 (rArr true x4_4_4.2).2).2 := ⟨_, rfl⟩
                  refine skt ?_
                  refine sq ?_
                  refine bl ?_
                  refine sr ?_
                  refine tf (.tail .head) ?_
                  refine cl rfl rfl rfl (d3 hR_4_4_5 hy4_4_5) rfl (fun v_ H1 L1 hle_ hR_ => ?_)
                  obtain ⟨N351, rfl, hR351, rfl, rfl⟩ := hR_
                  refine asg rfl rfl ?_
                  refine nl ?_
                  refine rg ?_
                  refine mv rfl rfl ?_
                  refine mv rfl rfl ?_
                  refine mv rfl rfl ?_
                  refine ixk (j := k4_4_5) Tryz.runUnderlying114 Tryz.sizeOf21 rfl hga4_4_5 rfl rfl hkl4_4_5 rfl ?_
                  refine stM (off := 0) Tryz.sizeOf21 rfl ho4_4_5 rfl rfl rfl (.tail .head) ?_
                  refine nN ?_
                  refine Nb ?_
                  refine Nt ?_
                  refine rg ?_
                  refine mv rfl rfl ?_
                  refine ad rfl rfl (c := ((k4_4_5 + 1 : Nat) : Int)) ((wrap32_le (by omega) (by omega)).trans (by omega)) rfl ?_
                  refine asg rfl rfl ?_
                  refine nN ?_
                  have hfs4_4_5 := flatMap_snoc' fk es4_4_5 ((⟨([.int .i32 (IntKind.i32.wrap y4_4_5.1.n)] : List Value), rfl, all_one rfl⟩, ((decV 3 (decP [] v true) false true) (rMany (decV 3 (decP [] v true) false true) k4_4_5 (rArr true x4_4_4.2).2).2).1) : KE 1)
                  have hrw4_4_5 := hbk4_4_5 ([.int .i32 (IntKind.i32.wrap y4_4_5.1.n)] : List Value) rfl
                  refine tfN (.tail .head) ?_
                  refine fun a_ w_ hA hw => ⟨hkl4_4_5, _, _, _, hA.sub ?_, le_33, hw, _, _, _, rfl, rfl, (by rw [rMany_succ, ← hy4_4_5]; exact hR351), (by rw [← hfs4_4_5]; exact hrw4_4_5), (dec_els he_4_4_5), (fun p hp => (mem_snoc hp).elim (fun h => RI32.mono _ _ _ _ ler (hg_4_4_5 p h)) (fun h => h ▸ (by show RI32 _ ((decV 3 (decP [] v true) false true) (rMany (decV 3 (decP [] v true) false true) k4_4_5 (rArr true x4_4_4.2).2).2).1 [.int .i32 (IntKind.i32.wrap y4_4_5.1.n)]; rw [← hy4_4_5]; rfl)))⟩
                  exact (.of ⟨rfl, rfl, rfl, rfl, rfl, rfl, rfl, rfl, rfl, rfl, rfl, rfl, rfl, rfl, rfl, rfl, rfl, rfl, rfl, trivial⟩)
                 ·
                  have hkn_ : k4_4_5 = (lT x4_4_5.1).length := by omega
                  subst hkn_
                  have hw2_4_4_5 : Row 21 1 a4_4_5 (lT x4_4_5.1).length c4_4_5 (es4_4_5.flatMap fk) M4_4_5 := by have h := hw_4_4_5; rw [Nat.sub_self] at h; simpa [reps] using h
                  refine frW hw2_4_4_5 .head (fun Hf4_4_5 hlf4_4_5 hfz4_4_5 => ?_)
                  have hrs4_4_5 := RowsAt.row (R := RI32) hfz4_4_5 hs_4_4_5.symm hw2_4_4_5.le.1 (fun p hp => RI32.mono _ _ _ _ hlf4_4_5 (hg_4_4_5 p hp))
                  rw [he_4_4_5] at hrs4_4_5
                  have hf4_4_5 : ListAt Hf4_4_5 x4_4_5.1 1 RI32 a4_4_5 c4_4_5 := by rw [ex4_4_5]; exact listAt_of hrs4_4_5 hi4_4_5 (fun h => by have h1 := nul_le h; rw [show (lT x4_4_5.1).length = 0 by omega]; rfl)
                  have hRx4_4_5 : RdAt Hf4_4_5 104 b_1 x4_4_5.2 RN4_4_5 := by rw [ex4_4_5]; exact (hR_4_4_5.mono hlf4_4_5)
                  refine exX ?_
                  refine XT ?_
                  refine XT ?_
                  refine Xb ?_
                  refine Nt ?_
                  refine sr ?_
                  refine mv rfl rfl ?_
                  refine asg rfl rfl ?_
                  refine nl ?_
                  refine rg ?_
                  refine mv rfl rfl ?_
                  refine mv rfl rfl ?_
                  refine nc rfl rfl ?_
                  refine fa F116_5 rfl rfl ?_
                  refine stM (off := 5) Tryz.sizeOf114 rfl (by rw [ho4_4]) rfl rfl rfl (.tail .head) ?_
                  refine nl ?_
                  refine sq ?_
                  refine sr ?_
                  refine mv rfl rfl ?_
                  refine ge rfl rfl rfl ?_
                  refine nl ?_
                  refine cdT rfl (by omega) ?_
                  refine sr ?_
                  refine mv rfl rfl ?_
                  refine nc rfl rfl ?_
                  refine fa F116_6 rfl rfl ?_
                  refine ld (j := 6) (off := 0 + k4_4 * 8) (Says.mid (.tail .head) ho4_4) Tryz.isAgg114 rfl rfl rfl rfl ?_
                  refine asg rfl rfl ?_
                  refine nl ?_
                  refine sr ?_
                  refine mv rfl rfl ?_
                  refine asg rfl rfl ?_
                  refine nl ?_
                  refine sr ?_
                  refine asg rfl rfl ?_
                  refine nl ?_
                  refine sq ?_
                  refine sr ?_
                  refine mv rfl rfl ?_
                  refine nl ?_
                  refine cdT rfl (by omega) ?_
                  refine rg ?_
                  have ey4_4_6 : x4_4_6 = (.mk 0 [] (if 0 ≤ ((-1) : Int) ∧ (v < ((-1) : Int) ∨ (rArr true x4_4_5.2).1 = 0) then false else decide ((rArr true x4_4_5.2).1 ≤ 0)) (rMany (decV 3 (decP [] v true) false true) (rArr true x4_4_5.2).1.toNat (rArr true x4_4_5.2).2).1 [], (rMany (decV 3 (decP [] v true) false true) (rArr true x4_4_5.2).1.toNat (rArr true x4_4_5.2).2).2) := (hx4_4_6.trans (step_yes (by decide) (show (5 : Int) ≤ v by omega) (Or.inl (by decide)))).trans (decF'_list rfl rfl)
                  have hn4_4_6 : (rArr true x4_4_5.2).1.toNat = (lT x4_4_6.1).length := by rw [ey4_4_6]; exact (lT_many nul_le).symm
                  have ex4_4_6 := ey4_4_6
                  rw [hn4_4_6] at ex4_4_6
                  have hl4_4_6 := rArr_le true x4_4_5.2
                  have hm4_4_6 : (rArr true x4_4_5.2).2.s.length ≤ BR := Nat.le_trans (rArr_len true x4_4_5.2) hL4_4_5
                  have hnb4_4_6 : (lT x4_4_6.1).length ≤ BR := by omega
                  refine cl rfl rfl rfl (r_arrt hRx4_4_5) rfl (fun v_ H1 L1 hle_ hR_ => ?_)
                  obtain ⟨rfl, N369, rfl, hR369, rfl⟩ := hR_
                  have hh4_4_6 := rArr_hi true x4_4_5.2
                  refine asg rfl rfl ?_
                  refine nl ?_
                  refine sq ?_
                  refine sr ?_
                  refine cl rfl rfl rfl (r_ok hR369) rfl (fun v_ H1 L1 hle_ hR_ => ?_)
                  obtain ⟨rfl, rfl, rfl⟩ := hR_
                  refine nt rfl rfl ?_
                  refine nl ?_
                  refine cb rfl (fun h372 => ?_) (fun h372 => ?_)
                  ·
                   have hbad_ : (rArr true x4_4_5.2).2.bad = true := by simpa using h372
                   refine sr ?_
                   refine cl rfl rfl rfl (r_complete hR369 (he.mono (le_3.trans (le_4.trans (hlf1.trans (le_10.trans (le_12.trans (le_13.trans (le_15.trans (le_19.trans (le_23.trans (le_24.trans (le_29.trans (le_30.trans (hlf4_4_4.trans (le_32.trans (le_33.trans hlf4_4_5))))))))))))))))) rfl (fun v_ H1 L1 hle_ hR_ => ?_)
                   obtain ⟨rfl, rfl, rfl⟩ := hR_
                   refine asg rfl rfl ?_
                   refine nl ?_
                   refine drW .head ?_
                   refine drW .head ?_
                   refine drW .head ?_
                   exact rT rfl rfl (le_3.trans (le_4.trans (hlf1.trans (le_10.trans (le_12.trans (le_13.trans (le_15.trans (le_19.trans (le_23.trans (le_24.trans (le_29.trans (le_30.trans (hlf4_4_4.trans (le_32.trans (le_33.trans hlf4_4_5))))))))))))))) (fun _ _ h => h) ⟨_, rfl, RdEnd.out (hB4_4_6 (by rw [ey4_4_6]; exact rMany_bad (fun r h => decV_bad (decP_bad _ _ _) h) _ _ hbad_)) hbad_⟩
                  ·
                   refine skt ?_
                   refine sr ?_
                   refine mv rfl rfl ?_
                   refine sh' (j := 0) Tryz.runUnderlying114 Tryz.sizeOf21 rfl rfl rfl (Nat.zero_le _) rfl ?_
                   refine asg rfl rfl ?_
                   refine nl ?_
                   refine sq ?_
                   refine sr ?_
                   refine mv rfl rfl ?_
                   refine gt rfl rfl rfl ?_
                   refine nl ?_
                   refine nulC2 ?_
                   refine cutT (fun l' H' L' => ∃ (a4_4_6 : Option Addr), ∃ (c4_4_6 : Nat), ∃ (Nr4_4_6 : Chunk), [(2, .bool false), (7, .pointer (some ⟨b_1, 0, none⟩)), (8, .int .i16 v), (9, .bool (decide ((9 : Int) ≤ v))), (10, .pointer (some ⟨b, 0, none⟩)), (24, .slice none 0 0), (25, .slice a4 (lT x4.1).length c4), (26, .int .i32 (rArr true x3.2).1), (27, .int .i32 (k4 : Int)), (29, .pointer (some ⟨g4, 0 + k4 * 22, none⟩)), (35, .slice none 0 0), (36, .slice a4_4 (lT x4_4.1).length c4_4), (37, .int .i32 (rArr true x4_3.2).1), (38, .int .i32 (k4_4 : Int)), (40, .pointer (some ⟨g4_4, 0 + k4_4 * 8, none⟩)), (55, .slice none 0 0), (56, .slice a4_4_6 (lT x4_4_6.1).length c4_4_6), (57, .int .i32 (rArr true x4_4_5.2).1)] = l' ∧ Nr4_4_6 :: N369 :: [(g4_4, .cells ((es4_4.flatMap fk) ++ ([.int .i16 (IntKind.i16.wrap x4_4_0.1.n), .int .i32 (IntKind.i32.wrap x4_4_1.1.n), .int .i32 (IntKind.i32.wrap x4_4_2.1.n), .int .i32 (IntKind.i32.wrap x4_4_3.1.n), .slice a4_4_4 (lT x4_4_4.1).length c4_4_4, .slice a4_4_5 (lT x4_4_5.1).length c4_4_5, .slice none 0 0, .map none] : List Value) ++ po4_4).toArray 116 (0, 0))] :: [(g4, .cells ((es4.flatMap fk) ++ ([.int .i16 (IntKind.i16.wrap x4_0.1.n), .pointer pt4_1, ub x4_2.1.s 0, ub x4_2.1.s 1, ub x4_2.1.s 2, ub x4_2.1.s 3, ub x4_2.1.s 4, ub x4_2.1.s 5, ub x4_2.1.s 6, ub x4_2.1.s 7, ub x4_2.1.s 8, ub x4_2.1.s 9, ub x4_2.1.s 10, ub x4_2.1.s 11, ub x4_2.1.s 12, ub x4_2.1.s 13, ub x4_2.1.s 14, ub x4_2.1.s 15, .bool (decide (x4_3.1.n % 2 = 1)), .slice none 0 0, .int .i32 (-2147483648), .map none] : List Value) ++ po4).toArray 90 (0, 0))] :: [(b, .cells [.int .i16 v, .int .i32 (IntKind.i32.wrap x0.1.n), .slice a1 (lT x1.1).length c1, .pointer p2, .int .i32 (IntKind.i32.wrap x3.1.n), .slice none 0 0, .int .i32 (-2147483648), .int .i16 0, .map none].toArray 78 (0, 0))] :: L = L' ∧ Row 21 1 a4_4_6 (lT x4_4_6.1).length c4_4_6 (reps [.int .i32 0] (lT x4_4_6.1).length) Nr4_4_6 ∧ a4_4_6.isNone = (if 0 ≤ ((-1) : Int) ∧ (v < ((-1) : Int) ∨ (rArr true x4_4_5.2).1 = 0) then false else decide ((rArr true x4_4_5.2).1 ≤ 0))) ?_ (fun l' H' L' le_35 hI => ?_)
                   ·
                    refine cd rfl (fun h377 => ?_) (fun h377 => ?_)
                    ·
                     refine rg ?_
                     refine mv rfl rfl ?_
                     refine mv rfl rfl ?_
                     refine apz (zs := [.int .i32 0]) (m := (lT x4_4_6.1).length) Tryz.underlying114 Tryz.underlying21 I21 rfl rfl rfl (by omega) (by omega) (by have h9 := hnb4_4_6; unfold BR at h9; omega) (by have h9 := hnb4_4_6; unfold BR at h9; unfold maxLen; omega) rfl (fun g380 cp380 N380 r380 => ?_)
                     refine asg rfl rfl ?_
                     refine nN ?_
                     refine drN (.tail .head) ?_
                     refine fun a_ w_ hA hw => ⟨_, _, _, hA.sub ?_, ler, hw, (some ⟨g380, 0, none⟩), cp380, N380, rfl, rfl, r380, (by rw [if_neg (by omega)]; exact (decide_eq_false (by omega)).symm)⟩
                     exact (.cons rfl (.cons rfl (.cons rfl (.cons rfl (.cons rfl (.cons rfl (.cons rfl (.cons rfl (.cons rfl (.cons rfl (.cons rfl (.cons rfl (.cons rfl (.cons rfl (.cons rfl (.cons rfl (.cons rfl (.cons rfl (.nil _)))))))))))))))))))
                    ·
                     refine skN ?_
                     refine fun a_ w_ hA hw => ⟨_, _, _, hA.sub ?_, ler, hw, none, 0, [], rfl, rfl, (by rw [show (lT x4_4_6.1).length = 0 by omega]; exact (Row.nil _ _)), (by rw [if_neg (by omega)]; exact (decide_eq_true (by omega)).symm)⟩
                     exact (.cons rfl (.cons rfl (.cons rfl (.cons rfl (.cons rfl (.cons rfl (.cons rfl (.cons rfl (.cons rfl (.cons rfl (.cons rfl (.cons rfl (.cons rfl (.cons rfl (.cons rfl (.cons rfl (.cons (by rw [show (lT x4_4_6.1).length = 0 by omega]; rfl) (.cons rfl (.nil _)))))))))))))))))))
                   ·
                    obtain ⟨a4_4_6, c4_4_6, Nr4_4_6, rfl, rfl, pj0, pj1⟩ := hI
                    have hr4_4_6 := pj0
                    have hi4_4_6 := pj1
                    refine sq ?_
                    refine sr ?_
                    refine asg rfl rfl ?_
                    refine nl ?_
                    refine bl (lp ((lT x4_4_6.1).length) (fun k4_4_6 l' H' L' => ∃ (es4_4_6 : List (KE 1)) (M4_4_6 RN4_4_6 : Chunk), [(2, .bool false), (7, .pointer (some ⟨b_1, 0, none⟩)), (8, .int .i16 v), (9, .bool (decide ((9 : Int) ≤ v))), (10, .pointer (some ⟨b, 0, none⟩)), (24, .slice none 0 0), (25, .slice a4 (lT x4.1).length c4), (26, .int .i32 (rArr true x3.2).1), (27, .int .i32 (k4 : Int)), (29, .pointer (some ⟨g4, 0 + k4 * 22, none⟩)), (35, .slice none 0 0), (36, .slice a4_4 (lT x4_4.1).length c4_4), (37, .int .i32 (rArr true x4_3.2).1), (38, .int .i32 (k4_4 : Int)), (40, .pointer (some ⟨g4_4, 0 + k4_4 * 8, none⟩)), (55, .slice none 0 0), (56, .slice a4_4_6 (lT x4_4_6.1).length c4_4_6), (57, .int .i32 (rArr true x4_4_5.2).1), (58, .int .i32 (k4_4_6 : Int))] = l' ∧ M4_4_6 :: RN4_4_6 :: [(g4_4, .cells ((es4_4.flatMap fk) ++ ([.int .i16 (IntKind.i16.wrap x4_4_0.1.n), .int .i32 (IntKind.i32.wrap x4_4_1.1.n), .int .i32 (IntKind.i32.wrap x4_4_2.1.n), .int .i32 (IntKind.i32.wrap x4_4_3.1.n), .slice a4_4_4 (lT x4_4_4.1).length c4_4_4, .slice a4_4_5 (lT x4_4_5.1).length c4_4_5, .slice none 0 0, .map none] : List Value) ++ po4_4).toArray 116 (0, 0))] :: [(g4, .cells ((es4.flatMap fk) ++ ([.int .i16 (IntKind.i16.wrap x4_0.1.n), .pointer pt4_1, ub x4_2.1.s 0, ub x4_2.1.s 1, ub x4_2.1.s 2, ub x4_2.1.s 3, ub x4_2.1.s 4, ub x4_2.1.s 5, ub x4_2.1.s 6, ub x4_2.1.s 7, ub x4_2.1.s 8, ub x4_2.1.s 9, ub x4_2.1.s 10, ub x4_2.1.s 11, ub x4_2.1.s 12, ub x4_2.1.s 13, ub x4_2.1.s 14, ub x4_2.1.s 15, .bool (decide (x4_3.1.n % 2 = 1)), .slice none 0 0, .int .i32 (-2147483648), .map none] : List Value) ++ po4).toArray 90 (0, 0))] :: [(b, .cells [.int .i16 v, .int .i32 (IntKind.i32.wrap x0.1.n), .slice a1 (lT x1.1).length c1, .pointer p2, .int .i32 (IntKind.i32.wrap x3.1.n), .slice none 0 0, .int .i32 (-2147483648), .int .i16 0, .map none].toArray 78 (0, 0))] :: L = L' ∧ RdAt H' 104 b_1 (rMany (decV 3 (decP [] v true) false true) k4_4_6 (rArr true x4_4_5.2).2).2 RN4_4_6 ∧ Row 21 1 a4_4_6 (lT x4_4_6.1).length c4_4_6 (es4_4_6.flatMap fk ++ reps [.int .i32 0] ((lT x4_4_6.1).length - k4_4_6)) M4_4_6 ∧ es4_4_6.map (·.2) = (rMany (decV 3 (decP [] v true) false true) k4_4_6 (rArr true x4_4_5.2).2).1 ∧ ∀ p ∈ es4_4_6, RI32 H' p.2 (fk p)) [(2, .bool false), (7, .pointer (some ⟨b_1, 0, none⟩)), (8, .int .i16 v), (9, .bool (decide ((9 : Int) ≤ v))), (10, .pointer (some ⟨b, 0, none⟩)), (24, .slice none 0 0), (25, .slice a4 (lT x4.1).length c4), (26, .int .i32 (rArr true x3.2).1), (27, .int .i32 (k4 : Int)), (29, .pointer (some ⟨g4, 0 + k4 * 22, none⟩)), (35, .slice none 0 0), (36, .slice a4_4 (lT x4_4.1).length c4_4), (37, .int .i32 (rArr true x4_3.2).1), (38, .int .i32 (k4_4 : Int)), (40, .pointer (some ⟨g4_4, 0 + k4_4 * 8, none⟩)), (55, .slice none 0 0), (56, .slice a4_4_6 (lT x4_4_6.1).length c4_4_6), (57, .int .i32 (rArr true x4_4_5.2).1), (58, .int .i32 (0 : Int))] (.of ⟨rfl, rfl, rfl, rfl, rfl, rfl, rfl, rfl, rfl, rfl, rfl, rfl, rfl, rfl, rfl, rfl, rfl, rfl, rfl, trivial⟩) ⟨[], Nr4_4_6, _, rfl, rfl, (hR369.mono le_35), hr4_4_6, rfl, (fun p hp => by cases hp)⟩ (fun k4_4_6 l' H' L' hk4_4_6 le_36 hI => ?_))
                    obtain ⟨es4_4_6, M4_4_6, RN4_4_6, rfl, rfl, hR_4_4_6, hw_4_4_6, he_4_4_6, hg_4_4_6⟩ := hI
                    have hs_4_4_6 := els_len he_4_4_6
                    have hp_4_4_6 : (es4_4_6.flatMap fk).length = k4_4_6 * 1 := els_flat hs_4_4_6
                    refine sq ?_
                    refine sr ?_
                    refine mv rfl rfl ?_
                    refine mv rfl rfl ?_
                    refine lt rfl rfl rfl ?_
                    refine nl ?_
                    refine cd rfl (fun h383 => ?_) (fun h383 => ?_)
                    ·
                     have hkl4_4_6 : k4_4_6 < (lT x4_4_6.1).length := by omega
                     obtain ⟨g4_4_6, po4_4_6, hga4_4_6, rfl, hbk4_4_6⟩ := hw_4_4_6.next (zs := [.int .i32 0]) hkl4_4_6 rfl (by decide)
                     have ho4_4_6 : 0 + k4_4_6 * 1 = (es4_4_6.flatMap fk).length := by rw [hp_4_4_6]; omega
                     have hbz4_4_6 : ((decV 3 (decP [] v true) false true) (rMany (decV 3 (decP [] v true) false true) k4_4_6 (rArr true x4_4_5.2).2).2).2.bad = true → (decP fs_MetadataResponse v true ⟨s, false, !a.isNone⟩).2.bad = true := fun h => hB4_4_6 (by rw [ex4_4_6]; exact rMany_mono (fun r h => decV_bad (fun r h => decP_bad _ _ _ r h) h) _ (show k4_4_6 + 1 ≤ (lT x4_4_6.1).length from hkl4_4_6) (by rw [rMany_succ]; exact h))
                     have hLk4_4_6 : (rMany (decV 3 (decP [] v true) false true) k4_4_6 (rArr true x4_4_5.2).2).2.s.length ≤ BR := Nat.le_trans (rMany_shr (fun r => decV_shr (fun r => decP_shr _ _ _ r) r) _ _) hm4_4_6
                     obtain ⟨y4_4_6, hy4_4_6⟩ : ∃ x, x = (decV 3 (decP [] v true) false true) (rMany (decV 3 (decP [] v true) false true) k4_4_6 (rArr true x4_4_5.2).2).2 := ⟨_, rfl⟩
                     refine skt ?_
                     refine sq ?_
                     refine bl ?_
                     refine sr ?_
                     refine tf (.tail .head) ?_
                     refine cl rfl rfl rfl (d3 hR_4_4_6 hy4_4_6) rfl (fun v_ H1 L1 hle_ hR_ => ?_)
                     obtain ⟨N386, rfl, hR386, rfl, rfl⟩ := hR_
                     refine asg rfl rfl ?_
                     refine nl ?_
                     refine rg ?_
                     refine mv rfl rfl ?_
                     refine mv rfl rfl ?_
                     refine mv rfl rfl ?_
                     refine ixk (j := k4_4_6) Tryz.runUnderlying114 Tryz.sizeOf21 rfl hga4_4_6 rfl rfl hkl4_4_6 rfl ?_
                     refine stM (off := 0) Tryz.sizeOf21 rfl ho4_4_6 rfl rfl rfl (.tail .head) ?_
                     refine nN ?_
                     refine Nb ?_
                     refine Nt ?_
                     refine rg ?_
                     refine mv rfl rfl ?_
                     refine ad rfl rfl (c := ((k4_4_6 + 1 : Nat) : Int)) ((wrap32_le (by omega) (by omega)).trans (by omega)) rfl ?_
                     refine asg rfl rfl ?_
                     refine nN ?_
                     have hfs4_4_6 := flatMap_snoc' fk es4_4_6 ((⟨([.int .i32 (IntKind.i32.wrap y4_4_6.1.n)] : List Value), rfl, all_one rfl⟩, ((decV 3 (decP [] v true) false true) (rMany (decV 3 (decP [] v true) false true) k4_4_6 (rArr true x4_4_5.2).2).2).1) : KE 1)
                     have hrw4_4_6 := hbk4_4_6 ([.int .i32 (IntKind.i32.wrap y4_4_6.1.n)] : List Value) rfl
                     refine tfN (.tail .head) ?_
                     refine fun a_ w_ hA hw => ⟨hkl4_4_6, _, _, _, hA.sub ?_, le_36, hw, _, _, _, rfl, rfl, (by rw [rMany_succ, ← hy4_4_6]; exact hR386), (by rw [← hfs4_4_6]; exact hrw4_4_6), (dec_els he_4_4_6), (fun p hp => (mem_snoc hp).elim (fun h => RI32.mono _ _ _ _ ler (hg_4_4_6 p h)) (fun h => h ▸ (by show RI32 _ ((decV 3 (decP [] v true) false true) (rMany (decV 3 (decP [] v true) false true) k4_4_6 (rArr true x4_4_5.2).2).2).1 [.int .i32 (IntKind.i32.wrap y4_4_6.1.n)]; rw [← hy4_4_6]; rfl)))⟩
                     exact (.of ⟨rfl, rfl, rfl, rfl, rfl, rfl, rfl, rfl, rfl, rfl, rfl, rfl, rfl, rfl, rfl, rfl, rfl, rfl, rfl, trivial⟩)
                    ·
                     have hkn_ : k4_4_6 = (lT x4_4_6.1).length := by omega
                     subst hkn_
                     have hw2_4_4_6 : Row 21 1 a4_4_6 (lT x4_4_6.1).length c4_4_6 (es4_4_6.flatMap fk) M4_4_6 := by have h := hw_4_4_6; rw [Nat.sub_self] at h; simpa [reps] using h
                     refine frW hw2_4_4_6 .head (fun Hf4_4_6 hlf4_4_6 hfz4_4_6 => ?_)
                     have hrs4_4_6 := RowsAt.row (R := RI32) hfz4_4_6 hs_4_4_6.symm hw2_4_4_6.le.1 (fun p hp => RI32.mono _ _ _ _ hlf4_4_6 (hg_4_4_6 p hp))
                     rw [he_4_4_6] at hrs4_4_6
                     have hf4_4_6 : ListAt Hf4_4_6 x4_4_6.1 1 RI32 a4_4_6 c4_4_6 := by rw [ex4_4_6]; exact listAt_of hrs4_4_6 hi4_4_6 (fun h => by have h1 := nul_le h; rw [show (lT x4_4_6.1).length = 0 by omega]; rfl)
                     have hRx4_4_6 : RdAt Hf4_4_6 104 b_1 x4_4_6.2 RN4_4_6 := by rw [ex4_4_6]; exact (hR_4_4_6.mono hlf4_4_6)
                     refine exX ?_
                     refine XT ?_
                     refine XT ?_
                     refine Xb ?_
                     refine Nt ?_
                     refine sr ?_
                     refine mv rfl rfl ?_
                     refine asg rfl rfl ?_
                     refine nl ?_
                     refine rg ?_
                     refine mv rfl rfl ?_
                     refine mv rfl rfl ?_
                     refine nc rfl rfl ?_
                     refine fa F116_6 rfl rfl ?_
                     refine stM (off := 6) Tryz.sizeOf114 rfl (by rw [ho4_4]) rfl rfl rfl (.tail .head) ?_
                     refine nl ?_
                     refine sr ?_
                     refine mv rfl rfl ?_
                     refine nl ?_
                     refine cdT rfl (by omega) ?_
                     refine rg ?_
                     refine mv rfl rfl ?_
                     refine cl rfl rfl rfl (d_tags hRx4_4_6) rfl (fun v_ H1 L1 le_38 hR_ => ?_)
                     obtain ⟨N398, rfl, hR398, m4_4_t, rfl, hft4_4_⟩ := hR_
                     have hu24_4_ : u4_4_ = rTags x4_4_6.2 := hu4_4_
                     rw [← hu24_4_] at hR398 hft4_4_
                     refine nc rfl rfl ?_
                     refine fa F116_7 rfl rfl ?_
                     refine saM (off := 7) Tryz.sizeOf76 rfl (by rw [ho4_4]) rfl rfl rfl rfl (.tail .head) ?_
                     refine nN ?_
                     refine Nb ?_
                     refine Nt ?_
                     refine rg ?_
                     refine mv rfl rfl ?_
                     refine ad rfl rfl (c := ((k4_4 + 1 : Nat) : Int)) ((wrap32_le (by omega) (by omega)).trans (by omega)) rfl ?_
                     refine asg rfl rfl ?_
                     refine nN ?_
                     have hfs4_4 := flatMap_snoc' fk es4_4 ((⟨([.int .i16 (IntKind.i16.wrap x4_4_0.1.n), .int .i32 (IntKind.i32.wrap x4_4_1.1.n), .int .i32 (IntKind.i32.wrap x4_4_2.1.n), .int .i32 (IntKind.i32.wrap x4_4_3.1.n), .slice a4_4_4 (lT x4_4_4.1).length c4_4_4, .slice a4_4_5 (lT x4_4_5.1).length c4_4_5, .slice a4_4_6 (lT x4_4_6.1).length c4_4_6, .map m4_4_t] : List Value), rfl, all_one rfl⟩, ((decV 10 (decP fs_sMetadataResponseTopicPartition v true) false true) (rMany (decV 10 (decP fs_sMetadataResponseTopicPartition v true) false true) k4_4 (rArr true x4_3.2).2).2).1) : KE 8)
                     have hrw4_4 := hbk4_4 ([.int .i16 (IntKind.i16.wrap x4_4_0.1.n), .int .i32 (IntKind.i32.wrap x4_4_1.1.n), .int .i32 (IntKind.i32.wrap x4_4_2.1.n), .int .i32 (IntKind.i32.wrap x4_4_3.1.n), .slice a4_4_4 (lT x4_4_4.1).length c4_4_4, .slice a4_4_5 (lT x4_4_5.1).length c4_4_5, .slice a4_4_6 (lT x4_4_6.1).length c4_4_6, .map m4_4_t] : List Value) rfl
                     refine tfN (.tail .head) ?_
                     refine fun a_ w_ hA hw => ⟨hkl4_4, _, _, _, hA.sub ?_, (le_24.trans (le_29.trans (le_30.trans (hlf4_4_4.trans (le_32.trans (le_33.trans (hlf4_4_5.trans (le_35.trans (le_36.trans (hlf4_4_6.trans le_38)))))))))), hw, _, _, _, rfl, rfl, (by rw [rMany_succ]; show RdAt _ 104 b_1 (decP fs_sMetadataResponseTopicPartition v true (rMany (decV 10 (decP fs_sMetadataResponseTopicPartition v true) false true) k4_4 (rArr true x4_3.2).2).2).2 _; rw [hD4_4_]; exact hR398), (by rw [← hfs4_4]; exact hrw4_4), (dec_els he_4_4), (fun p hp => (mem_snoc hp).elim (fun h => At_MetadataResponseTopicPartition.mono _ _ _ _ (le_29.trans (le_30.trans (hlf4_4_4.trans (le_32.trans (le_33.trans (hlf4_4_5.trans (le_35.trans (le_36.trans (hlf4_4_6.trans le_38))))))))) (hg_4_4 p h)) (fun h => h ▸ (by show At_MetadataResponseTopicPartition _ (decP fs_sMetadataResponseTopicPartition v true (rMany (decV 10 (decP fs_sMetadataResponseTopicPartition v true) false true) k4_4 (rArr true x4_3.2).2).2).1 [.int .i16 (IntKind.i16.wrap x4_4_0.1.n), .int .i32 (IntKind.i32.wrap x4_4_1.1.n), .int .i32 (IntKind.i32.wrap x4_4_2.1.n), .int .i32 (IntKind.i32.wrap x4_4_3.1.n), .slice a4_4_4 (lT x4_4_4.1).length c4_4_4, .slice a4_4_5 (lT x4_4_5.1).length c4_4_5, .slice a4_4_6 (lT x4_4_6.1).length c4_4_6, .map m4_4_t]; rw [hD4_4_]; exact ⟨a4_4_4, c4_4_4, a4_4_5, c4_4_5, a4_4_6, c4_4_6, m4_4_t, rfl, (hf4_4_4.mono RI32.mono (le_32.trans (le_33.trans (hlf4_4_5.trans (le_35.trans (le_36.trans (hlf4_4_6.trans le_38))))))), (hf4_4_5.mono RI32.mono (le_35.trans (le_36.trans (hlf4_4_6.trans le_38)))), (hf4_4_6.mono RI32.mono le_38), hft4_4_⟩)))⟩
                     exact (.of ⟨rfl, rfl, rfl, rfl, rfl, rfl, rfl, rfl, rfl, rfl, rfl, rfl, rfl, rfl, trivial⟩)
           ·
            have hkn_ : k4_4 = (lT x4_4.1).length := by omega
            subst hkn_
            have hw2_4_4 : Row 116 8 a4_4 (lT x4_4.1).length c4_4 (es4_4.flatMap fk) M4_4 := by have h := hw_4_4; rw [Nat.sub_self] at h; simpa [reps] using h
            refine frW hw2_4_4 .head (fun Hf4_4 hlf4_4 hfz4_4 => ?_)
            have hrs4_4 := RowsAt.row (R := At_MetadataResponseTopicPartition) hfz4_4 hs_4_4.symm hw2_4_4.le.1 (fun p hp => At_MetadataResponseTopicPartition.mono _ _ _ _ hlf4_4 (hg_4_4 p hp))
            rw [he_4_4] at hrs4_4
            have hf4_4 : ListAt Hf4_4 x4_4.1 8 At_MetadataResponseTopicPartition a4_4 c4_4 := by rw [ex4_4]; exact listAt_of hrs4_4 hi4_4 (fun h => by have h1 := nul_le h; rw [show (lT x4_4.1).length = 0 by omega]; rfl)
            have hRx4_4 : RdAt Hf4_4 104 b_1 x4_4.2 RN4_4 := by rw [ex4_4]; exact (hR_4_4.mono hlf4_4)
            refine exX ?_
            refine XT ?_
            refine XT ?_
            refine Xb ?_
            refine Nt ?_
            refine sr ?_
            refine mv rfl rfl ?_
            refine asg rfl rfl ?_
            refine nl ?_
            refine rg ?_
            refine mv rfl rfl ?_
            refine mv rfl rfl ?_
            refine nc rfl rfl ?_
            refine fa F90_4 rfl rfl ?_
            refine stM (off := 19) Tryz.sizeOf88 rfl (by rw [ho4]) rfl rfl rfl (.tail .head) ?_
            refine nl ?_
            refine sq ?_
            refine sr ?_
            refine mv rfl rfl ?_
            refine ge rfl rfl rfl ?_
            refine nl ?_
            refine cdT rfl (by omega) ?_
            refine sr ?_
            have ex4_5 : x4_5 = decV 3 (decP [] v true) false true x4_4.2 := (hx4_5.trans (step_yes (by decide) (show (8 : Int) ≤ v by omega) (Or.inl (by decide)))).trans (decF'_val (by decide) (rfl))
            refine cl rfl rfl rfl (d3 hRx4_4 ex4_5) rfl (fun v_ H1 L1 hle_ hR_ => ?_)
            obtain ⟨N408, rfl, hR408, rfl, rfl⟩ := hR_
            refine asg rfl rfl ?_
            refine nl ?_
            refine rg ?_
            refine mv rfl rfl ?_
            refine mv rfl rfl ?_
            refine nc rfl rfl ?_
            refine fa F90_5 rfl rfl ?_
            refine stM (off := 20) Tryz.sizeOf21 rfl (by rw [ho4]) rfl rfl rfl (.tail .head) ?_
            refine nl ?_
            refine sr ?_
            refine mv rfl rfl ?_
            refine nl ?_
            refine cdT rfl (by omega) ?_
            refine rg ?_
            refine mv rfl rfl ?_
            refine cl rfl rfl rfl (d_tags hR408) rfl (fun v_ H1 L1 le_40 hR_ => ?_)
            obtain ⟨N415, rfl, hR415, m4_t, rfl, hft4_⟩ := hR_
            have hu24_ : u4_ = rTags x4_5.2 := hu4_
            rw [← hu24_] at hR415 hft4_
            refine nc rfl rfl ?_
            refine fa F90_6 rfl rfl ?_
            refine saM (off := 21) Tryz.sizeOf76 rfl (by rw [ho4]) rfl rfl rfl rfl (.tail .head) ?_
            refine nN ?_
            refine Nb ?_
            refine Nt ?_
            refine rg ?_
            refine mv rfl rfl ?_
            refine ad rfl rfl (c := ((k4 + 1 : Nat) : Int)) ((wrap32_le (by omega) (by omega)).trans (by omega)) rfl ?_
            refine asg rfl rfl ?_
            refine nN ?_
            have hfs4 := flatMap_snoc' fk es4 ((⟨([.int .i16 (IntKind.i16.wrap x4_0.1.n), .pointer pt4_1, ub x4_2.1.s 0, ub x4_2.1.s 1, ub x4_2.1.s 2, ub x4_2.1.s 3, ub x4_2.1.s 4, ub x4_2.1.s 5, ub x4_2.1.s 6, ub x4_2.1.s 7, ub x4_2.1.s 8, ub x4_2.1.s 9, ub x4_2.1.s 10, ub x4_2.1.s 11, ub x4_2.1.s 12, ub x4_2.1.s 13, ub x4_2.1.s 14, ub x4_2.1.s 15, .bool (decide (x4_3.1.n % 2 = 1)), .slice a4_4 (lT x4_4.1).length c4_4, .int .i32 (IntKind.i32.wrap x4_5.1.n), .map m4_t] : List Value), rfl, all_one rfl⟩, ((decV 10 (decP fs_sMetadataResponseTopic v true) false true) (rMany (decV 10 (decP fs_sMetadataResponseTopic v true) false true) k4 (rArr true x3.2).2).2).1) : KE 22)
            have hrw4 := hbk4 ([.int .i16 (IntKind.i16.wrap x4_0.1.n), .pointer pt4_1, ub x4_2.1.s 0, ub x4_2.1.s 1, ub x4_2.1.s 2, ub x4_2.1.s 3, ub x4_2.1.s 4, ub x4_2.1.s 5, ub x4_2.1.s 6, ub x4_2.1.s 7, ub x4_2.1.s 8, ub x4_2.1.s 9, ub x4_2.1.s 10, ub x4_2.1.s 11, ub x4_2.1.s 12, ub x4_2.1.s 13, ub x4_2.1.s 14, ub x4_2.1.s 15, .bool (decide (x4_3.1.n % 2 = 1)), .slice a4_4 (lT x4_4.1).length c4_4, .int .i32 (IntKind.i32.wrap x4_5.1.n), .map m4_t] : List Value) rfl
            refine tfN (.tail .head) ?_
            refine fun a_ w_ hA hw => ⟨hkl4, _, _, _, hA.sub ?_, (le_13.trans (le_15.trans (le_19.trans (le_23.trans (le_24.trans (hlf4_4.trans le_40)))))), hw, _, _, _, rfl, rfl, (by rw [rMany_succ]; show RdAt _ 104 b_1 (decP fs_sMetadataResponseTopic v true (rMany (decV 10 (decP fs_sMetadataResponseTopic v true) false true) k4 (rArr true x3.2).2).2).2 _; rw [hD4_]; exact hR415), (by rw [← hfs4]; exact hrw4), (dec_els he_4), (fun p hp => (mem_snoc hp).elim (fun h => At_MetadataResponseTopic.mono _ _ _ _ (le_15.trans (le_19.trans (le_23.trans (le_24.trans (hlf4_4.trans le_40))))) (hg_4 p h)) (fun h => h ▸ (by show At_MetadataResponseTopic _ (decP fs_sMetadataResponseTopic v true (rMany (decV 10 (decP fs_sMetadataResponseTopic v true) false true) k4 (rArr true x3.2).2).2).1 [.int .i16 (IntKind.i16.wrap x4_0.1.n), .pointer pt4_1, ub x4_2.1.s 0, ub x4_2.1.s 1, ub x4_2.1.s 2, ub x4_2.1.s 3, ub x4_2.1.s 4, ub x4_2.1.s 5, ub x4_2.1.s 6, ub x4_2.1.s 7, ub x4_2.1.s 8, ub x4_2.1.s 9, ub x4_2.1.s 10, ub x4_2.1.s 11, ub x4_2.1.s 12, ub x4_2.1.s 13, ub x4_2.1.s 14, ub x4_2.1.s 15, .bool (decide (x4_3.1.n % 2 = 1)), .slice a4_4 (lT x4_4.1).length c4_4, .int .i32 (IntKind.i32.wrap x4_5.1.n), .map m4_t]; rw [hD4_]; exact ⟨pt4_1, a4_4, c4_4, m4_t, rfl, (hf4_1.mono (le_19.trans (le_23.trans (le_24.trans (hlf4_4.trans le_40))))), (hf4_4.mono At_MetadataResponseTopicPartition.mono le_40), hft4_⟩)))⟩
            exact (.of ⟨rfl, rfl, rfl, rfl, rfl, rfl, rfl, rfl, rfl, trivial⟩)
      ·
       have hkn_ : k4 = (lT x4.1).length := by omega
       subst hkn_
       have hw2_4 : Row 90 22 a4 (lT x4.1).length c4 (es4.flatMap fk) M4 := by have h := hw_4; rw [Nat.sub_self] at h; simpa [reps] using h
       refine frW hw2_4 .head (fun Hf4 hlf4 hfz4 => ?_)
       have hrs4 := RowsAt.row (R := At_MetadataResponseTopic) hfz4 hs_4.symm hw2_4.le.1 (fun p hp => At_MetadataResponseTopic.mono _ _ _ _ hlf4 (hg_4 p hp))
       rw [he_4] at hrs4
       have hf4 : ListAt Hf4 x4.1 22 At_MetadataResponseTopic a4 c4 := by rw [ex4]; exact listAt_of hrs4 hi4 (fun h => by have h1 := nul_le h; rw [show (lT x4.1).length = 0 by omega]; rfl)
       have hRx4 : RdAt Hf4 104 b_1 x4.2 RN4 := by rw [ex4]; exact (hR_4.mono hlf4)
       refine exX ?_
       refine XT ?_
       refine XT ?_
       refine Xb ?_
       refine Nt ?_
       refine sr ?_
       refine mv rfl rfl ?_
       refine asg rfl rfl ?_
       refine nl ?_
       refine rg ?_
       refine mv rfl rfl ?_
       refine mv rfl rfl ?_
       refine nc rfl rfl ?_
       refine fa0 F78_5 rfl rfl ?_
       refine st Tryz.sizeOf73 rfl rfl rfl rfl (.tail .head) ?_
       refine nl ?_
       refine sq ?_
       refine sr ?_
       refine mv rfl rfl ?_
       refine ge rfl rfl rfl ?_
       refine mv rfl rfl ?_
       refine spl (t := 425) rfl (fun _ => ?_) (fun hn_ => absurd (by omega) hn_)
       refine gr rfl rfl ?_
       refine mv rfl rfl ?_
       refine gr rfl rfl ?_
       refine le rfl rfl rfl ?_
       refine pk rfl rfl rfl rfl ?_
       refine nl ?_
       refine cutT (fun l' H' L' => ∃ (Nj5 : Chunk), [(7, .pointer (some ⟨b_1, 0, none⟩)), (8, .int .i16 v), (9, .bool (decide ((9 : Int) ≤ v))), (10, .pointer (some ⟨b, 0, none⟩))] = l' ∧ Nj5 :: [(b, .cells [.int .i16 v, .int .i32 (IntKind.i32.wrap x0.1.n), .slice a1 (lT x1.1).length c1, .pointer p2, .int .i32 (IntKind.i32.wrap x3.1.n), .slice a4 (lT x4.1).length c4, .int .i32 (IntKind.i32.wrap x5.1.n), .int .i16 0, .map none].toArray 78 (0, 0))] :: L = L' ∧ RdAt H' 104 b_1 x5.2 Nj5) ?_ (fun l' H' L' le_41 hI => ?_)
       ·
        refine cd rfl (fun h428 => ?_) (fun h428 => ?_)
        ·
         refine sr ?_
         have ex5 : x5 = decV 3 (decP [] v true) false true x4.2 := (hx5.trans (step_yes (by decide) (show (8 : Int) ≤ v by omega) (Or.inr (show v ≤ (10 : Int) by omega)))).trans (decF'_val (by decide) (rfl))
         refine cl rfl rfl rfl (d3 hRx4 ex5) rfl (fun v_ H1 L1 hle_ hR_ => ?_)
         obtain ⟨N429, rfl, hR429, rfl, rfl⟩ := hR_
         refine asg rfl rfl ?_
         refine nl ?_
         refine rg ?_
         refine mv rfl rfl ?_
         refine mv rfl rfl ?_
         refine nc rfl rfl ?_
         refine fa0 F78_6 rfl rfl ?_
         refine st Tryz.sizeOf21 rfl rfl rfl rfl (.tail .head) ?_
         refine nN ?_
         refine fun a_ w_ hA hw => ⟨_, _, _, hA.sub ?_, ler, hw, N429, rfl, rfl, hR429⟩
         exact (.cons rfl (.cons rfl (.cons rfl (.cons rfl (.nil _)))))
        ·
         refine skN ?_
         obtain rfl : x5 = ((Tr.mk (-2147483648) [] false [] []), x4.2) := (hx5.trans (step_no (Or.inr ⟨by decide, show (10 : Int) < v by omega⟩))).trans (by rw [dflF_eq]; rfl)
         refine fun a_ w_ hA hw => ⟨_, _, _, hA.sub ?_, ler, hw, RN4, rfl, rfl, hRx4⟩
         exact (.cons rfl (.cons rfl (.cons rfl (.cons rfl (.nil _)))))
       ·
        obtain ⟨Nj5, rfl, rfl, pj0⟩ := hI
        have hRj5 := pj0
        refine sq ?_
        refine sr ?_
        refine mv rfl rfl ?_
        refine ge rfl rfl rfl ?_
        refine nl ?_
        refine cutT (fun l' H' L' => ∃ (Nj6 : Chunk), [(7, .pointer (some ⟨b_1, 0, none⟩)), (9, .bool (decide ((9 : Int) ≤ v))), (10, .pointer (some ⟨b, 0, none⟩))] = l' ∧ Nj6 :: [(b, .cells [.int .i16 v, .int .i32 (IntKind.i32.wrap x0.1.n), .slice a1 (lT x1.1).length c1, .pointer p2, .int .i32 (IntKind.i32.wrap x3.1.n), .slice a4 (lT x4.1).length c4, .int .i32 (IntKind.i32.wrap x5.1.n), .int .i16 (IntKind.i16.wrap x6.1.n), .map none].toArray 78 (0, 0))] :: L = L' ∧ RdAt H' 104 b_1 x6.2 Nj6) ?_ (fun l' H' L' le_43 hI => ?_)
        ·
         refine cd rfl (fun h435 => ?_) (fun h435 => ?_)
         ·
          refine sr ?_
          have ex6 : x6 = decV 2 (decP [] v true) false true x5.2 := (hx6.trans (step_yes (by decide) (show (13 : Int) ≤ v by omega) (Or.inl (by decide)))).trans (decF'_val (by decide) (rfl))
          refine cl rfl rfl rfl (d2 hRj5 ex6) rfl (fun v_ H1 L1 hle_ hR_ => ?_)
          obtain ⟨N436, rfl, hR436, rfl, rfl⟩ := hR_
          refine asg rfl rfl ?_
          refine nl ?_
          refine rg ?_
          refine mv rfl rfl ?_
          refine mv rfl rfl ?_
          refine nc rfl rfl ?_
          refine fa0 F78_7 rfl rfl ?_
          refine st Tryz.sizeOf46 rfl rfl rfl rfl (.tail .head) ?_
          refine nN ?_
          refine fun a_ w_ hA hw => ⟨_, _, _, hA.sub ?_, ler, hw, N436, rfl, rfl, hR436⟩
          exact (.cons rfl (.cons rfl (.cons rfl (.nil _))))
         ·
          refine skN ?_
          obtain rfl : x6 = ((Tr.mk 0 [] false [] []), x5.2) := (hx6.trans (step_no (Or.inl (show v < (13 : Int) by omega)))).trans (by rw [dflF_eq]; rfl)
          refine fun a_ w_ hA hw => ⟨_, _, _, hA.sub ?_, ler, hw, Nj5, rfl, rfl, hRj5⟩
          exact (.cons rfl (.cons rfl (.cons rfl (.nil _))))
        ·
         obtain ⟨Nj6, rfl, rfl, pj0⟩ := hI
         have hRj6 := pj0
         refine sq ?_
         refine sr ?_
         refine mv rfl rfl ?_
         refine nl ?_
         refine cdT rfl (by omega) ?_
         refine rg ?_
         refine mv rfl rfl ?_
         refine cl rfl rfl rfl (d_tags hRj6) rfl (fun v_ H1 L1 le_45 hR_ => ?_)
         obtain ⟨N443, rfl, hR443, mt, rfl, hft⟩ := hR_
         have hu2 : u = rTags x6.2 := hu
         rw [← hu2] at hR443 hft
         refine nc rfl rfl ?_
         refine fa0 F78_8 rfl rfl ?_
         refine sa Tryz.sizeOf76 rfl rfl rfl rfl rfl (.tail .head) ?_
         refine nl ?_
         refine sr ?_
         refine cl rfl rfl rfl (r_complete hR443 (he.mono (le_3.trans (le_4.trans (hlf1.trans (le_10.trans (le_12.trans (le_13.trans (hlf4.trans (le_41.trans (le_43.trans le_45))))))))))) rfl (fun v_ H1 L1 hle_ hR_ => ?_)
         obtain ⟨rfl, rfl, rfl⟩ := hR_
         refine asg rfl rfl ?_
         refine nl ?_
         refine drW .head ?_
         have hA_ := (show At_MetadataResponse v _ (decP fs_MetadataResponse v true _).1 [.int .i16 v, .int .i32 (IntKind.i32.wrap x0.1.n), .slice a1 (lT x1.1).length c1, .pointer p2, .int .i32 (IntKind.i32.wrap x3.1.n), .slice a4 (lT x4.1).length c4, .int .i32 (IntKind.i32.wrap x5.1.n), .int .i16 (IntKind.i16.wrap x6.1.n), .map mt] from (by rw [hD]; exact ⟨a1, c1, p2, a4, c4, mt, rfl, (hf1.mono At_MetadataResponseBroker.mono (le_10.trans (le_12.trans (le_13.trans (hlf4.trans (le_41.trans (le_43.trans le_45))))))), (hf2.mono (le_12.trans (le_13.trans (hlf4.trans (le_41.trans (le_43.trans le_45)))))), (hf4.mono At_MetadataResponseTopic.mono (le_41.trans (le_43.trans le_45))), hft⟩))
         refine rT rfl rfl (le_3.trans (le_4.trans (hlf1.trans (le_10.trans (le_12.trans (le_13.trans (hlf4.trans (le_41.trans (le_43.trans le_45))))))))) (fun _ _ h => h) ⟨_, rfl, ?_⟩
         have hz := RdEnd.of (e := e) hA_
         rw [show (decP fs_MetadataResponse v true _).2.bad = u.2.bad by rw [hD]] at hz
         exact hz
end Go.Sx

import Derived.Test.YthgkgbaggjongaaGreatDoorSxTab
import Derived.Test.YthgkgbaggjongaaGreatDoorBAlterPartitionRequest
import Derived.Test.YthgkgbaggjongaaGreatDoorRK2
import Derived.KernelRfl
set_option linter.unusedVariables false
set_option linter.unusedSimpArgs false
set_option maxRecDepth 100000
set_option maxHeartbeats 20000000
namespace Go.Sx
open Go.Proofs
theorem def_AlterPartitionRequestTopicPartitionNewEpochISR {H : Fz} {L : Own} {b o : Nat} {pre post : List Value} {c0 c1 c2 : Value} (ho : o = pre.length) :
  Fn Tryz.prog 282 [.pointer (some ⟨b, o, none⟩)] H ([(b, .cells (pre ++ ([c0, c1, c2] : List Value) ++ post).toArray 310 (0, 0))] :: L) (fun _ H' L' => H = H' ∧ L' = [(b, .cells (pre ++ ([c0, .int .i64 (-1), c2] : List Value) ++ post).toArray 310 (0, 0))] :: L) := by
 refine Fn.mk Tryz.call282 Tryz.func282 rfl Tryz.ntmps282 rfl ?_
 refine rg ?_
 refine mv rfl rfl ?_
 refine nc rfl rfl ?_
 refine fa F310_1 rfl rfl ?_
 refine stM (off := 1) Tryz.sizeOf2 rfl (by rw [ho]) rfl rfl rfl .head ?_
 refine nN ?_
 exact fun _ _ hA hw => rn rfl (Fz.le.refl _) ⟨rfl, rfl⟩ hA hw
theorem def_AlterPartitionRequestTopicPartition {H : Fz} {L : Own} {b o : Nat} {pre post : List Value} {c0 c1 c2 c3 c4 c5 c6 : Value} (ho : o = pre.length) :
  Fn Tryz.prog 281 [.pointer (some ⟨b, o, none⟩)] H ([(b, .cells (pre ++ ([c0, c1, c2, c3, c4, c5, c6] : List Value) ++ post).toArray 307 (0, 0))] :: L) (fun _ H' L' => H = H' ∧ L' = [(b, .cells (pre ++ ([c0, c1, c2, c3, c4, c5, c6] : List Value) ++ post).toArray 307 (0, 0))] :: L) := by
 refine Fn.mk Tryz.call281 Tryz.func281 rfl Tryz.ntmps281 rfl ?_
 refine skN ?_
 exact fun _ _ hA hw => rn rfl (Fz.le.refl _) ⟨rfl, rfl⟩ hA hw
theorem def_AlterPartitionRequestTopic {H : Fz} {L : Own} {b o : Nat} {pre post : List Value} {c0 c1 c2 c3 c4 c5 c6 c7 c8 c9 c10 c11 c12 c13 c14 c15 c16 c17 c18 : Value} (ho : o = pre.length) :
  Fn Tryz.prog 280 [.pointer (some ⟨b, o, none⟩)] H ([(b, .cells (pre ++ ([c0, c1, c2, c3, c4, c5, c6, c7, c8, c9, c10, c11, c12, c13, c14, c15, c16, c17, c18] : List Value) ++ post).toArray 201 (0, 0))] :: L) (fun _ H' L' => H = H' ∧ L' = [(b, .cells (pre ++ ([c0, c1, c2, c3, c4, c5, c6, c7, c8, c9, c10, c11, c12, c13, c14, c15, c16, c17, c18] : List Value) ++ post).toArray 201 (0, 0))] :: L) := by
 refine Fn.mk Tryz.call280 Tryz.func280 rfl Tryz.ntmps280 rfl ?_
 refine skN ?_
 exact fun _ _ hA hw => rn rfl (Fz.le.refl _) ⟨rfl, rfl⟩ hA hw
theorem def0_AlterPartitionRequest {H : Fz} {L : Own} {b : Nat} {c0 c1 c2 c3 c4 : Value} :
  Fn Tryz.prog 114 [.pointer (some ⟨b, 0, none⟩)] H ([(b, .cells [c0, c1, c2, c3, c4].toArray 196 (0, 0))] :: L) (fun _ H' L' => H = H' ∧ L' = [(b, .cells [c0, c1, .int .i64 (-1), c3, c4].toArray 196 (0, 0))] :: L) := by
 refine Fn.mk Tryz.call114 Tryz.func114 rfl Tryz.ntmps114 rfl ?_
 refine rg ?_
 refine mv rfl rfl ?_
 refine nc rfl rfl ?_
 refine fa0 F196_2 rfl rfl ?_
 refine st Tryz.sizeOf2 rfl rfl rfl rfl .head ?_
 refine nN ?_
 exact fun _ _ hA hw => rn rfl (Fz.le.refl _) ⟨rfl, rfl⟩ hA hw
theorem rd_AlterPartitionRequest_t {H : Fz} {L : Own} {b : Nat} {v : Int} {a : Option Addr} {c : Nat} {s : List UInt8} {e : Value} (hB : BytesAt H a c s) (hL_ : s.length ≤ BR) (he : H.at 1 0 [e]) (hv0 : 0 ≤ v) (hv1 : v ≤ 3) :
  Fn Tryz.prog 186 [.pointer (some ⟨b, 0, none⟩), .slice a s.length c, .bool false] H ([(b, .cells [.int .i16 v, .int .i32 0, .int .i64 (-1), .slice none 0 0, .map none].toArray 196 (0, 0))] :: L) (fun r H' L' => ∃ cs : List Value, L' = [(b, .cells cs.toArray 196 (0, 0))] :: L ∧ RdEnd H' (At_AlterPartitionRequest v) (decP fs_AlterPartitionRequest v true ⟨s, false, !a.isNone⟩) e r cs) := by
 refine Fn.mk Tryz.call186 Tryz.func186 rfl Tryz.ntmps186 rfl ?_
 refine sr ?_
 refine asg rfl rfl ?_
 refine nl ?_
 refine sr ?_
 refine mv rfl rfl ?_
 refine cl rfl rfl rfl def0_AlterPartitionRequest rfl (fun v_ H1 L1 hle_ hR_ => ?_)
 obtain ⟨rfl, rfl⟩ := hR_
 refine nl ?_
 refine sr ?_
 refine mv rfl rfl ?_
 refine bd' S232 rfl rfl rfl ?_
 refine al Tryz.zeroValue232 rfl rfl (fun b_1 => ?_)
 refine sa Tryz.sizeOf232 rfl rfl rfl rfl rfl .head ?_
 have hR0_ : RdAt H 232 b_1 ⟨s, false, !a.isNone⟩ [(b_1, .cells [_, _].toArray 232 (0, 0))] := ⟨a, c, rfl, hB, by simp⟩
 obtain ⟨x0, hx0⟩ : ∃ x, x = stepF (Fd.mk 3 0 (-1) (-1) (-1) 0 0 []) v true ⟨s, false, !a.isNone⟩ := ⟨_, rfl⟩
 obtain ⟨x1, hx1⟩ : ∃ x, x = stepF (Fd.mk 4 0 (-1) (-1) (-1) (-1) 0 []) v true x0.2 := ⟨_, rfl⟩
 obtain ⟨x2, hx2⟩ : ∃ x, x = stepF (Fd.mk 11 0 (-1) (-1) (-1) 0 10 fs_sAlterPartitionRequestTopic) v true x1.2 := ⟨_, rfl⟩
 obtain ⟨u, hu⟩ : ∃ x, x = tailU true x2.2 := ⟨_, rfl⟩
 have hD : decP fs_AlterPartitionRequest v true ⟨s, false, !a.isNone⟩ = (.mk 0 [] false [x0.1, x1.1, x2.1] u.1, u.2) := by
  generalize (⟨s, false, !a.isNone⟩ : Rd) = r_ at hx0 ⊢
  rw [decP_eq]; unfold fs_AlterPartitionRequest; simp only [decFs_cons, decFs_nil, ← hx0, ← hx1, ← hx2, ← hu]
 have hL0 : x0.2.s.length ≤ BR := by rw [hx0]; exact Nat.le_trans (stepF_shr _ _ _ _) hL_
 have hL1 : x1.2.s.length ≤ BR := by rw [hx1]; exact Nat.le_trans (stepF_shr _ _ _ _) hL0
 have hL2 : x2.2.s.length ≤ BR := by rw [hx2]; exact Nat.le_trans (stepF_shr _ _ _ _) hL1
 have hE : u.2.bad = true → (decP fs_AlterPartitionRequest v true ⟨s, false, !a.isNone⟩).2.bad = true := fun h => by rw [hD]; exact h
 have hB2 : x2.2.bad = true → (decP fs_AlterPartitionRequest v true ⟨s, false, !a.isNone⟩).2.bad = true := fun h => hE (by rw [hu]; exact tailU_bad h)
 have hB1 : x1.2.bad = true → (decP fs_AlterPartitionRequest v true ⟨s, false, !a.isNone⟩).2.bad = true := fun h => hB2 (by rw [hx2]; exact step_bad h)
 have hB0 : x0.2.bad = true → (decP fs_AlterPartitionRequest v true ⟨s, false, !a.isNone⟩).2.bad = true := fun h => hB1 (by rw [hx1]; exact step_bad h)
 refine nl ?_
 refine sr ?_
 refine mv rfl rfl ?_
 refine nc rfl rfl ?_
 refine fa0 F196_0 rfl rfl ?_
 refine ld (Says.own (.tail .head)) Tryz.isAgg51 rfl (Nat.zero_add _).symm rfl rfl ?_
 refine asg rfl rfl ?_
 refine nl ?_
 refine sr ?_
 refine mv rfl rfl ?_
 refine nl ?_
 refine sr ?_
 refine mv rfl rfl ?_
 refine ge rfl rfl rfl ?_
 refine asg rfl rfl ?_
 refine nl ?_
 refine sr ?_
 refine mv rfl rfl ?_
 refine nl ?_
 refine sr ?_
 refine mv rfl rfl ?_
 refine asg rfl rfl ?_
 refine nl ?_
 refine sq ?_
 refine sr ?_
 have ex0 : x0 = decV 3 (decP [] v true) false true ⟨s, false, !a.isNone⟩ := (hx0.trans (step_yes (by decide) (show (0 : Int) ≤ v by omega) (Or.inl (by decide)))).trans (decF'_val (by decide) (rfl))
 refine cl rfl rfl rfl (d3 hR0_ ex0) rfl (fun v_ H1 L1 hle_ hR_ => ?_)
 obtain ⟨N57, rfl, hR57, rfl, rfl⟩ := hR_
 refine asg rfl rfl ?_
 refine nl ?_
 refine rg ?_
 refine mv rfl rfl ?_
 refine mv rfl rfl ?_
 refine nc rfl rfl ?_
 refine fa0 F196_1 rfl rfl ?_
 refine st Tryz.sizeOf21 rfl rfl rfl rfl (.tail .head) ?_
 refine nl ?_
 refine sq ?_
 refine sr ?_
 have ex1 : x1 = decV 4 (decP [] v true) false true x0.2 := (hx1.trans (step_yes (by decide) (show (0 : Int) ≤ v by omega) (Or.inl (by decide)))).trans (decF'_val (by decide) (rfl))
 refine cl rfl rfl rfl (d4 hR57 ex1) rfl (fun v_ H1 L1 hle_ hR_ => ?_)
 obtain ⟨N62, rfl, hR62, rfl, rfl⟩ := hR_
 refine asg rfl rfl ?_
 refine nl ?_
 refine rg ?_
 refine mv rfl rfl ?_
 refine mv rfl rfl ?_
 refine nc rfl rfl ?_
 refine fa0 F196_2 rfl rfl ?_
 refine st Tryz.sizeOf2 rfl rfl rfl rfl (.tail .head) ?_
 refine nl ?_
 refine sq ?_
 refine sr ?_
 refine mv rfl rfl ?_
 refine nc rfl rfl ?_
 refine fa0 F196_3 rfl rfl ?_
 refine ld (Says.own (.tail .head)) Tryz.isAgg194 rfl (Nat.zero_add _).symm rfl rfl ?_
 refine asg rfl rfl ?_
 refine nl ?_
 refine sr ?_
 refine mv rfl rfl ?_
 refine asg rfl rfl ?_
 refine nl ?_
 refine sr ?_
 refine asg rfl rfl ?_
 refine nl ?_
 refine sq ?_
 refine sr ?_
 refine mv rfl rfl ?_
 refine nl ?_
 refine cdT rfl (by omega) ?_
 refine rg ?_
 have ey2 : x2 = (.mk 0 [] (if 0 ≤ ((-1) : Int) ∧ (v < ((-1) : Int) ∨ (rArr true x1.2).1 = 0) then false else decide ((rArr true x1.2).1 ≤ 0)) (rMany (decV 10 (decP fs_sAlterPartitionRequestTopic v true) false true) (rArr true x1.2).1.toNat (rArr true x1.2).2).1 [], (rMany (decV 10 (decP fs_sAlterPartitionRequestTopic v true) false true) (rArr true x1.2).1.toNat (rArr true x1.2).2).2) := (hx2.trans (step_yes (by decide) (show (0 : Int) ≤ v by omega) (Or.inl (by decide)))).trans (decF'_list rfl rfl)
 have hn2 : (rArr true x1.2).1.toNat = (lT x2.1).length := by rw [ey2]; exact (lT_many nul_le).symm
 have ex2 := ey2
 rw [hn2] at ex2
 have hl2 := rArr_le true x1.2
 have hm2 : (rArr true x1.2).2.s.length ≤ BR := Nat.le_trans (rArr_len true x1.2) hL1
 have hnb2 : (lT x2.1).length ≤ BR := by omega
 refine cl rfl rfl rfl (r_arrt hR62) rfl (fun v_ H1 L1 hle_ hR_ => ?_)
 obtain ⟨rfl, N73, rfl, hR73, rfl⟩ := hR_
 have hh2 := rArr_hi true x1.2
 refine asg rfl rfl ?_
 refine nl ?_
 refine sq ?_
 refine sr ?_
 refine cl rfl rfl rfl (r_ok hR73) rfl (fun v_ H1 L1 hle_ hR_ => ?_)
 obtain ⟨rfl, rfl, rfl⟩ := hR_
 refine nt rfl rfl ?_
 refine nl ?_
 refine cb rfl (fun h76 => ?_) (fun h76 => ?_)
 ·
  have hbad_ : (rArr true x1.2).2.bad = true := by simpa using h76
  refine sr ?_
  refine cl rfl rfl rfl (r_complete hR73 he) rfl (fun v_ H1 L1 hle_ hR_ => ?_)
  obtain ⟨rfl, rfl, rfl⟩ := hR_
  refine asg rfl rfl ?_
  refine nl ?_
  refine drW .head ?_
  exact rT rfl rfl (Fz.le.refl _) (fun _ _ h => h) ⟨_, rfl, RdEnd.out (hB2 (by rw [ey2]; exact rMany_bad (fun r h => decV_bad (decP_bad _ _ _) h) _ _ hbad_)) hbad_⟩
 ·
  refine skt ?_
  refine sr ?_
  refine mv rfl rfl ?_
  refine sh' (j := 0) Tryz.runUnderlying194 Tryz.sizeOf201 rfl rfl rfl (Nat.zero_le _) rfl ?_
  refine asg rfl rfl ?_
  refine nl ?_
  refine sq ?_
  refine sr ?_
  refine mv rfl rfl ?_
  refine gt rfl rfl rfl ?_
  refine nl ?_
  refine nulC2 ?_
  refine cutT (fun l' H' L' => ∃ (a2 : Option Addr), ∃ (c2 : Nat), ∃ (Nr2 : Chunk), [(2, .bool false), (7, .pointer (some ⟨b_1, 0, none⟩)), (8, .int .i16 v), (9, .bool (decide ((0 : Int) ≤ v))), (10, .pointer (some ⟨b, 0, none⟩)), (13, .slice none 0 0), (14, .slice a2 (lT x2.1).length c2), (15, .int .i32 (rArr true x1.2).1)] = l' ∧ Nr2 :: N73 :: [(b, .cells [.int .i16 v, .int .i32 (IntKind.i32.wrap x0.1.n), .int .i64 x1.1.n, .slice none 0 0, .map none].toArray 196 (0, 0))] :: L = L' ∧ Row 201 19 a2 (lT x2.1).length c2 (reps [.string ⟨#[]⟩, .int .u8 0, .int .u8 0, .int .u8 0, .int .u8 0, .int .u8 0, .int .u8 0, .int .u8 0, .int .u8 0, .int .u8 0, .int .u8 0, .int .u8 0, .int .u8 0, .int .u8 0, .int .u8 0, .int .u8 0, .int .u8 0, .slice none 0 0, .map none] (lT x2.1).length) Nr2 ∧ a2.isNone = (if 0 ≤ ((-1) : Int) ∧ (v < ((-1) : Int) ∨ (rArr true x1.2).1 = 0) then false else decide ((rArr true x1.2).1 ≤ 0))) ?_ (fun l' H' L' le_4 hI => ?_)
  ·
   refine cd rfl (fun h81 => ?_) (fun h81 => ?_)
   ·
    refine rg ?_
    refine mv rfl rfl ?_
    refine mv rfl rfl ?_
    refine apz (zs := [.string ⟨#[]⟩, .int .u8 0, .int .u8 0, .int .u8 0, .int .u8 0, .int .u8 0, .int .u8 0, .int .u8 0, .int .u8 0, .int .u8 0, .int .u8 0, .int .u8 0, .int .u8 0, .int .u8 0, .int .u8 0, .int .u8 0, .int .u8 0, .slice none 0 0, .map none]) (m := (lT x2.1).length) Tryz.underlying194 Tryz.underlying21 I201 rfl rfl rfl (by omega) (by omega) (by have h9 := hnb2; unfold BR at h9; omega) (by have h9 := hnb2; unfold BR at h9; unfold maxLen; omega) rfl (fun g84 cp84 N84 r84 => ?_)
    refine asg rfl rfl ?_
    refine nN ?_
    refine drN (.tail .head) ?_
    refine fun a_ w_ hA hw => ⟨_, _, _, hA.sub ?_, (Fz.le.refl _), hw, (some ⟨g84, 0, none⟩), cp84, N84, rfl, rfl, r84, (by rw [if_neg (by omega)]; exact (decide_eq_false (by omega)).symm)⟩
    exact (.cons rfl (.cons rfl (.cons rfl (.cons rfl (.cons rfl (.cons rfl (.cons rfl (.cons rfl (.nil _)))))))))
   ·
    refine skN ?_
    refine fun a_ w_ hA hw => ⟨_, _, _, hA.sub ?_, (Fz.le.refl _), hw, none, 0, [], rfl, rfl, (by rw [show (lT x2.1).length = 0 by omega]; exact (Row.nil _ _)), (by rw [if_neg (by omega)]; exact (decide_eq_true (by omega)).symm)⟩
    exact (.cons rfl (.cons rfl (.cons rfl (.cons rfl (.cons rfl (.cons rfl (.cons (by rw [show (lT x2.1).length = 0 by omega]; rfl) (.cons rfl (.nil _)))))))))
  ·
   obtain ⟨a2, c2, Nr2, rfl, rfl, pj0, pj1⟩ := hI
   have hr2 := pj0
   have hi2 := pj1
   refine sq ?_
   refine sr ?_
   refine asg rfl rfl ?_
   refine nl ?_
   refine bl (lp ((lT x2.1).length) (fun k2 l' H' L' => ∃ (es2 : List (KE 19)) (M2 RN2 : Chunk), [(2, .bool false), (7, .pointer (some ⟨b_1, 0, none⟩)), (8, .int .i16 v), (9, .bool (decide ((0 : Int) ≤ v))), (10, .pointer (some ⟨b, 0, none⟩)), (13, .slice none 0 0), (14, .slice a2 (lT x2.1).length c2), (15, .int .i32 (rArr true x1.2).1), (16, .int .i32 (k2 : Int))] = l' ∧ M2 :: RN2 :: [(b, .cells [.int .i16 v, .int .i32 (IntKind.i32.wrap x0.1.n), .int .i64 x1.1.n, .slice none 0 0, .map none].toArray 196 (0, 0))] :: L = L' ∧ RdAt H' 232 b_1 (rMany (decV 10 (decP fs_sAlterPartitionRequestTopic v true) false true) k2 (rArr true x1.2).2).2 RN2 ∧ Row 201 19 a2 (lT x2.1).length c2 (es2.flatMap fk ++ reps [.string ⟨#[]⟩, .int .u8 0, .int .u8 0, .int .u8 0, .int .u8 0, .int .u8 0, .int .u8 0, .int .u8 0, .int .u8 0, .int .u8 0, .int .u8 0, .int .u8 0, .int .u8 0, .int .u8 0, .int .u8 0, .int .u8 0, .int .u8 0, .slice none 0 0, .map none] ((lT x2.1).length - k2)) M2 ∧ es2.map (·.2) = (rMany (decV 10 (decP fs_sAlterPartitionRequestTopic v true) false true) k2 (rArr true x1.2).2).1 ∧ ∀ p ∈ es2, At_AlterPartitionRequestTopic H' p.2 (fk p)) [(2, .bool false), (7, .pointer (some ⟨b_1, 0, none⟩)), (8, .int .i16 v), (9, .bool (decide ((0 : Int) ≤ v))), (10, .pointer (some ⟨b, 0, none⟩)), (13, .slice none 0 0), (14, .slice a2 (lT x2.1).length c2), (15, .int .i32 (rArr true x1.2).1), (16, .int .i32 (0 : Int))] (.cons rfl (.cons rfl (.cons rfl (.cons rfl (.cons rfl (.cons rfl (.cons rfl (.cons rfl (.cons rfl (.nil _)))))))))) ⟨[], Nr2, _, rfl, rfl, (hR73.mono le_4), hr2, rfl, (fun p hp => by cases hp)⟩ (fun k2 l' H' L' hk2 le_5 hI => ?_))
   obtain ⟨es2, M2, RN2, rfl, rfl, hR_2, hw_2, he_2, hg_2⟩ := hI
   have hs_2 := els_len he_2
   have hp_2 : (es2.flatMap fk).length = k2 * 19 := els_flat hs_2
   refine sq ?_
   refine sr ?_
   refine mv rfl rfl ?_
   refine mv rfl rfl ?_
   refine lt rfl rfl rfl ?_
   refine nl ?_
   refine cd rfl (fun h87 => ?_) (fun h87 => ?_)
   ·
    have hkl2 : k2 < (lT x2.1).length := by omega
    obtain ⟨g2, po2, hga2, rfl, hbk2⟩ := hw_2.next (zs := [.string ⟨#[]⟩, .int .u8 0, .int .u8 0, .int .u8 0, .int .u8 0, .int .u8 0, .int .u8 0, .int .u8 0, .int .u8 0, .int .u8 0, .int .u8 0, .int .u8 0, .int .u8 0, .int .u8 0, .int .u8 0, .int .u8 0, .int .u8 0, .slice none 0 0, .map none]) hkl2 rfl (by decide)
    have ho2 : 0 + k2 * 19 = (es2.flatMap fk).length := by rw [hp_2]; omega
    have hbz2 : ((decV 10 (decP fs_sAlterPartitionRequestTopic v true) false true) (rMany (decV 10 (decP fs_sAlterPartitionRequestTopic v true) false true) k2 (rArr true x1.2).2).2).2.bad = true → (decP fs_AlterPartitionRequest v true ⟨s, false, !a.isNone⟩).2.bad = true := fun h => hB2 (by rw [ex2]; exact rMany_mono (fun r h => decV_bad (fun r h => decP_bad _ _ _ r h) h) _ (show k2 + 1 ≤ (lT x2.1).length from hkl2) (by rw [rMany_succ]; exact h))
    have hLk2 : (rMany (decV 10 (decP fs_sAlterPartitionRequestTopic v true) false true) k2 (rArr true x1.2).2).2.s.length ≤ BR := Nat.le_trans (rMany_shr (fun r => decV_shr (fun r => decP_shr _ _ _ r) r) _ _) hm2
    have hL2__ := hLk2
    obtain ⟨x2_0, hx2_0⟩ : ∃ x, x = stepF (Fd.mk 8 0 1 (-1) (-1) 0 0 []) v true (rMany (decV 10 (decP fs_sAlterPartitionRequestTopic v true) false true) k2 (rArr true x1.2).2).2 := ⟨_, rfl⟩
    obtain ⟨x2_1, hx2_1⟩ : ∃ x, x = stepF (Fd.mk 7 2 (-1) (-1) (-1) 0 0 []) v true x2_0.2 := ⟨_, rfl⟩
    obtain ⟨x2_2, hx2_2⟩ : ∃ x, x = stepF (Fd.mk 11 0 (-1) (-1) (-1) 0 10 fs_sAlterPartitionRequestTopicPartition) v true x2_1.2 := ⟨_, rfl⟩
    obtain ⟨u2_, hu2_⟩ : ∃ x, x = tailU true x2_2.2 := ⟨_, rfl⟩
    have hD2_ : decP fs_sAlterPartitionRequestTopic v true (rMany (decV 10 (decP fs_sAlterPartitionRequestTopic v true) false true) k2 (rArr true x1.2).2).2 = (.mk 0 [] false [x2_0.1, x2_1.1, x2_2.1] u2_.1, u2_.2) := by
     generalize ((rMany (decV 10 (decP fs_sAlterPartitionRequestTopic v true) false true) k2 (rArr true x1.2).2).2 : Rd) = r_ at hx2_0 ⊢
     rw [decP_eq]; unfold fs_sAlterPartitionRequestTopic; simp only [decFs_cons, decFs_nil, ← hx2_0, ← hx2_1, ← hx2_2, ← hu2_]
    have hL2_0 : x2_0.2.s.length ≤ BR := by rw [hx2_0]; exact Nat.le_trans (stepF_shr _ _ _ _) hL2__
    have hL2_1 : x2_1.2.s.length ≤ BR := by rw [hx2_1]; exact Nat.le_trans (stepF_shr _ _ _ _) hL2_0
    have hL2_2 : x2_2.2.s.length ≤ BR := by rw [hx2_2]; exact Nat.le_trans (stepF_shr _ _ _ _) hL2_1
    have hE2_ : u2_.2.bad = true → (decP fs_AlterPartitionRequest v true ⟨s, false, !a.isNone⟩).2.bad = true := fun h => hbz2 (by show (decP fs_sAlterPartitionRequestTopic v true (rMany (decV 10 (decP fs_sAlterPartitionRequestTopic v true) false true) k2 (rArr true x1.2).2).2).2.bad = true; rw [hD2_]; exact h)
    have hB2_2 : x2_2.2.bad = true → (decP fs_AlterPartitionRequest v true ⟨s, false, !a.isNone⟩).2.bad = true := fun h => hE2_ (by rw [hu2_]; exact tailU_bad h)
    have hB2_1 : x2_1.2.bad = true → (decP fs_AlterPartitionRequest v true ⟨s, false, !a.isNone⟩).2.bad = true := fun h => hB2_2 (by rw [hx2_2]; exact step_bad h)
    have hB2_0 : x2_0.2.bad = true → (decP fs_AlterPartitionRequest v true ⟨s, false, !a.isNone⟩).2.bad = true := fun h => hB2_1 (by rw [hx2_1]; exact step_bad h)
    refine skt ?_
    refine sq ?_
    refine bl ?_
    refine sr ?_
    refine mv rfl rfl ?_
    refine mv rfl rfl ?_
    refine ixk (j := k2) Tryz.runUnderlying194 Tryz.sizeOf201 rfl hga2 rfl rfl hkl2 rfl ?_
    refine asg rfl rfl ?_
    refine nl ?_
    refine sr ?_
    refine mv rfl rfl ?_
    refine cl rfl rfl rfl (def_AlterPartitionRequestTopic ho2) rfl (fun v_ H1 L1 hle_ hR_ => ?_)
    obtain ⟨rfl, rfl⟩ := hR_
    refine nl ?_
    refine sr ?_
    refine mv rfl rfl ?_
    refine asg rfl rfl ?_
    refine nl ?_
    refine sq ?_
    refine sr ?_
    refine mv rfl rfl ?_
    refine ge rfl rfl rfl ?_
    refine mv rfl rfl ?_
    refine spl (t := 98) rfl (fun _ => ?_) (fun hn_ => absurd (by omega) hn_)
    refine gr rfl rfl ?_
    refine mv rfl rfl ?_
    refine gr rfl rfl ?_
    refine le rfl rfl rfl ?_
    refine pk rfl rfl rfl rfl ?_
    refine nl ?_
    refine cutT (fun l' H' L' => ∃ (Nj2_0 : Chunk), [(2, .bool false), (7, .pointer (some ⟨b_1, 0, none⟩)), (8, .int .i16 v), (9, .bool (decide ((0 : Int) ≤ v))), (10, .pointer (some ⟨b, 0, none⟩)), (13, .slice none 0 0), (14, .slice a2 (lT x2.1).length c2), (15, .int .i32 (rArr true x1.2).1), (16, .int .i32 (k2 : Int)), (18, .pointer (some ⟨g2, 0 + k2 * 19, none⟩))] = l' ∧ [(g2, .cells ((es2.flatMap fk) ++ ([.string ⟨x2_0.1.s.toArray⟩, .int .u8 0, .int .u8 0, .int .u8 0, .int .u8 0, .int .u8 0, .int .u8 0, .int .u8 0, .int .u8 0, .int .u8 0, .int .u8 0, .int .u8 0, .int .u8 0, .int .u8 0, .int .u8 0, .int .u8 0, .int .u8 0, .slice none 0 0, .map none] : List Value) ++ po2).toArray 201 (0, 0))] :: Nj2_0 :: [(b, .cells [.int .i16 v, .int .i32 (IntKind.i32.wrap x0.1.n), .int .i64 x1.1.n, .slice none 0 0, .map none].toArray 196 (0, 0))] :: L = L' ∧ RdAt H' 232 b_1 x2_0.2 Nj2_0) ?_ (fun l' H' L' le_6 hI => ?_)
    ·
     refine cd rfl (fun h101 => ?_) (fun h101 => ?_)
     ·
      refine sr ?_
      refine asg rfl rfl ?_
      refine nl ?_
      refine sq ?_
      refine sr ?_
      refine mv rfl rfl ?_
      refine nl ?_
      refine cF rfl ?_
      refine sr ?_
      refine mv rfl rfl ?_
      refine nl ?_
      refine cdT rfl (by omega) ?_
      refine rg ?_
      refine tf (.tail .head) ?_
      have ex2_0 : x2_0 = decV 8 (decP [] v true) false true (rMany (decV 10 (decP fs_sAlterPartitionRequestTopic v true) false true) k2 (rArr true x1.2).2).2 := (hx2_0.trans (step_yes (by decide) (show (0 : Int) ≤ v by omega) (Or.inr (show v ≤ (1 : Int) by omega)))).trans (decF'_val (by decide) (rfl))
      refine cl rfl rfl rfl (d8t hR_2 ex2_0) rfl (fun v_ H1 L1 le_7 hR_ => ?_)
      obtain ⟨N107, rfl, hR107, rfl, rfl⟩ := hR_
      refine asg rfl rfl ?_
      refine nl ?_
      refine rg ?_
      refine mv rfl rfl ?_
      refine mv rfl rfl ?_
      refine nc rfl rfl ?_
      refine fa F201_0 rfl rfl ?_
      refine stM (off := 0) Tryz.sizeOf9 rfl (by rw [ho2]) rfl rfl rfl (.tail .head) ?_
      refine nN ?_
      refine tfN (.tail .head) ?_
      refine fun a_ w_ hA hw => ⟨_, _, _, hA.sub ?_, (Fz.le.refl _), hw, N107, rfl, rfl, hR107⟩
      exact (.cons rfl (.cons rfl (.cons rfl (.cons rfl (.cons rfl (.cons rfl (.cons rfl (.cons rfl (.cons rfl (.cons rfl (.nil _)))))))))))
     ·
      refine skN ?_
      obtain rfl : x2_0 = ((Tr.mk 0 [] false [] []), (rMany (decV 10 (decP fs_sAlterPartitionRequestTopic v true) false true) k2 (rArr true x1.2).2).2) := (hx2_0.trans (step_no (Or.inr ⟨by decide, show (1 : Int) < v by omega⟩))).trans (by rw [dflF_eq]; rfl)
      refine fun a_ w_ hA hw => ⟨_, _, _, hA.sub ?_, (Fz.le.refl _), hw, RN2, rfl, rfl, hR_2⟩
      exact (.cons rfl (.cons rfl (.cons rfl (.cons rfl (.cons rfl (.cons rfl (.cons rfl (.cons rfl (.cons rfl (.cons rfl (.nil _)))))))))))
    ·
     obtain ⟨Nj2_0, rfl, rfl, pj0⟩ := hI
     have hRj2_0 := pj0
     refine sq ?_
     refine sr ?_
     refine mv rfl rfl ?_
     refine ge rfl rfl rfl ?_
     refine nl ?_
     refine cutT (fun l' H' L' => ∃ (Nj2_1 : Chunk), [(2, .bool false), (7, .pointer (some ⟨b_1, 0, none⟩)), (8, .int .i16 v), (9, .bool (decide ((0 : Int) ≤ v))), (10, .pointer (some ⟨b, 0, none⟩)), (13, .slice none 0 0), (14, .slice a2 (lT x2.1).length c2), (15, .int .i32 (rArr true x1.2).1), (16, .int .i32 (k2 : Int)), (18, .pointer (some ⟨g2, 0 + k2 * 19, none⟩))] = l' ∧ [(g2, .cells ((es2.flatMap fk) ++ ([.string ⟨x2_0.1.s.toArray⟩, ub x2_1.1.s 0, ub x2_1.1.s 1, ub x2_1.1.s 2, ub x2_1.1.s 3, ub x2_1.1.s 4, ub x2_1.1.s 5, ub x2_1.1.s 6, ub x2_1.1.s 7, ub x2_1.1.s 8, ub x2_1.1.s 9, ub x2_1.1.s 10, ub x2_1.1.s 11, ub x2_1.1.s 12, ub x2_1.1.s 13, ub x2_1.1.s 14, ub x2_1.1.s 15, .slice none 0 0, .map none] : List Value) ++ po2).toArray 201 (0, 0))] :: Nj2_1 :: [(b, .cells [.int .i16 v, .int .i32 (IntKind.i32.wrap x0.1.n), .int .i64 x1.1.n, .slice none 0 0, .map none].toArray 196 (0, 0))] :: L = L' ∧ RdAt H' 232 b_1 x2_1.2 Nj2_1) ?_ (fun l' H' L' le_8 hI => ?_)
     ·
      refine cd rfl (fun h114 => ?_) (fun h114 => ?_)
      ·
       refine sr ?_
       refine tf (.tail .head) ?_
       have ex2_1 : x2_1 = decV 7 (decP [] v true) false true x2_0.2 := (hx2_1.trans (step_yes (by decide) (show (2 : Int) ≤ v by omega) (Or.inl (by decide)))).trans (decF'_val (by decide) (rfl))
       refine cl rfl rfl rfl (d7 hRj2_0 ex2_1) rfl (fun v_ H1 L1 hle_ hR_ => ?_)
       obtain ⟨N115, rfl, hR115, rfl, rfl⟩ := hR_
       refine al Tryz.zeroValue182 rfl rfl (fun b_10 => ?_)
       refine sa Tryz.sizeOf182 rfl rfl rfl rfl rfl .head ?_
       refine nl ?_
       refine rg ?_
       refine mv rfl rfl ?_
       refine la (Says.own .head) Tryz.isAgg182 Tryz.sizeOf182 rfl (Nat.zero_add _).symm rfl rfl ?_
       refine nc rfl rfl ?_
       refine fa F201_1 rfl rfl ?_
       refine saM (off := 1) Tryz.sizeOf182 rfl (by rw [ho2]) rfl rfl rfl rfl (.tail (.tail .head)) ?_
       refine nN ?_
       refine drN .head ?_
       refine tfN (.tail .head) ?_
       refine fun a_ w_ hA hw => ⟨_, _, _, hA.sub ?_, (Fz.le.refl _), hw, N115, rfl, rfl, hR115⟩
       exact (.cons rfl (.cons rfl (.cons rfl (.cons rfl (.cons rfl (.cons rfl (.cons rfl (.cons rfl (.cons rfl (.cons rfl (.nil _)))))))))))
      ·
       refine skN ?_
       obtain rfl : x2_1 = ((Tr.mk 0 (List.replicate 16 0) false [] []), x2_0.2) := (hx2_1.trans (step_no (Or.inl (show v < (2 : Int) by omega)))).trans (by rw [dflF_eq]; rfl)
       refine fun a_ w_ hA hw => ⟨_, _, _, hA.sub ?_, (Fz.le.refl _), hw, Nj2_0, rfl, rfl, hRj2_0⟩
       exact (.cons rfl (.cons rfl (.cons rfl (.cons rfl (.cons rfl (.cons rfl (.cons rfl (.cons rfl (.cons rfl (.cons rfl (.nil _)))))))))))
     ·
      obtain ⟨Nj2_1, rfl, rfl, pj0⟩ := hI
      have hRj2_1 := pj0
      refine sq ?_
      refine sr ?_
      refine mv rfl rfl ?_
      refine nc rfl rfl ?_
      refine fa F201_2 rfl rfl ?_
      refine ld (j := 17) (off := 0 + k2 * 19) (Says.mid .head ho2) Tryz.isAgg199 rfl rfl rfl rfl ?_
      refine asg rfl rfl ?_
      refine nl ?_
      refine sr ?_
      refine mv rfl rfl ?_
      refine asg rfl rfl ?_
      refine nl ?_
      refine sr ?_
      refine asg rfl rfl ?_
      refine nl ?_
      refine sq ?_
      refine sr ?_
      refine mv rfl rfl ?_
      refine nl ?_
      refine cdT rfl (by omega) ?_
      refine rg ?_
      have ey2_2 : x2_2 = (.mk 0 [] (if 0 ≤ ((-1) : Int) ∧ (v < ((-1) : Int) ∨ (rArr true x2_1.2).1 = 0) then false else decide ((rArr true x2_1.2).1 ≤ 0)) (rMany (decV 10 (decP fs_sAlterPartitionRequestTopicPartition v true) false true) (rArr true x2_1.2).1.toNat (rArr true x2_1.2).2).1 [], (rMany (decV 10 (decP fs_sAlterPartitionRequestTopicPartition v true) false true) (rArr true x2_1.2).1.toNat (rArr true x2_1.2).2).2) := (hx2_2.trans (step_yes (by decide) (show (0 : Int) ≤ v by omega) (Or.inl (by decide)))).trans (decF'_list rfl rfl)
      have hn2_2 : (rArr true x2_1.2).1.toNat = (lT x2_2.1).length := by rw [ey2_2]; exact (lT_many nul_le).symm
      have ex2_2 := ey2_2
      rw [hn2_2] at ex2_2
      have hl2_2 := rArr_le true x2_1.2
      have hm2_2 : (rArr true x2_1.2).2.s.length ≤ BR := Nat.le_trans (rArr_len true x2_1.2) hL2_1
      have hnb2_2 : (lT x2_2.1).length ≤ BR := by omega
      refine tf (.tail .head) ?_
      refine cl rfl rfl rfl (r_arrt hRj2_1) rfl (fun v_ H1 L1 hle_ hR_ => ?_)
      obtain ⟨rfl, N126, rfl, hR126, rfl⟩ := hR_
      have hh2_2 := rArr_hi true x2_1.2
      refine asg rfl rfl ?_
      refine nl ?_
      refine sq ?_
      refine sr ?_
      refine cl rfl rfl rfl (r_ok hR126) rfl (fun v_ H1 L1 hle_ hR_ => ?_)
      obtain ⟨rfl, rfl, rfl⟩ := hR_
      refine nt rfl rfl ?_
      refine nl ?_
      refine cb rfl (fun h129 => ?_) (fun h129 => ?_)
      ·
       have hbad_ : (rArr true x2_1.2).2.bad = true := by simpa using h129
       refine sr ?_
       refine cl rfl rfl rfl (r_complete hR126 (he.mono (le_4.trans (le_5.trans (le_6.trans le_8))))) rfl (fun v_ H1 L1 hle_ hR_ => ?_)
       obtain ⟨rfl, rfl, rfl⟩ := hR_
       refine asg rfl rfl ?_
       refine nl ?_
       refine drW .head ?_
       refine drW .head ?_
       exact rT rfl rfl (le_4.trans (le_5.trans (le_6.trans le_8))) (fun _ _ h => h) ⟨_, rfl, RdEnd.out (hB2_2 (by rw [ey2_2]; exact rMany_bad (fun r h => decV_bad (decP_bad _ _ _) h) _ _ hbad_)) hbad_⟩
      ·
       refine skt ?_
       refine sr ?_
       refine mv rfl rfl ?_
       refine sh' (j := 0) Tryz.runUnderlying199 Tryz.sizeOf307 rfl rfl rfl (Nat.zero_le _) rfl ?_
       refine asg rfl rfl ?_
       refine nl ?_
       refine sq ?_
       refine sr ?_
       refine mv rfl rfl ?_
       refine gt rfl rfl rfl ?_
       refine nl ?_
       refine nulC2 ?_
       refine cutT (fun l' H' L' => ∃ (a2_2 : Option Addr), ∃ (c2_2 : Nat), ∃ (Nr2_2 : Chunk), [(2, .bool false), (7, .pointer (some ⟨b_1, 0, none⟩)), (8, .int .i16 v), (9, .bool (decide ((0 : Int) ≤ v))), (10, .pointer (some ⟨b, 0, none⟩)), (13, .slice none 0 0), (14, .slice a2 (lT x2.1).length c2), (15, .int .i32 (rArr true x1.2).1), (16, .int .i32 (k2 : Int)), (18, .pointer (some ⟨g2, 0 + k2 * 19, none⟩)), (21, .slice none 0 0), (22, .slice a2_2 (lT x2_2.1).length c2_2), (23, .int .i32 (rArr true x2_1.2).1)] = l' ∧ Nr2_2 :: N126 :: [(g2, .cells ((es2.flatMap fk) ++ ([.string ⟨x2_0.1.s.toArray⟩, ub x2_1.1.s 0, ub x2_1.1.s 1, ub x2_1.1.s 2, ub x2_1.1.s 3, ub x2_1.1.s 4, ub x2_1.1.s 5, ub x2_1.1.s 6, ub x2_1.1.s 7, ub x2_1.1.s 8, ub x2_1.1.s 9, ub x2_1.1.s 10, ub x2_1.1.s 11, ub x2_1.1.s 12, ub x2_1.1.s 13, ub x2_1.1.s 14, ub x2_1.1.s 15, .slice none 0 0, .map none] : List Value) ++ po2).toArray 201 (0, 0))] :: [(b, .cells [.int .i16 v, .int .i32 (IntKind.i32.wrap x0.1.n), .int .i64 x1.1.n, .slice none 0 0, .map none].toArray 196 (0, 0))] :: L = L' ∧ Row 307 7 a2_2 (lT x2_2.1).length c2_2 (reps [.int .i32 0, .int .i32 0, .slice none 0 0, .slice none 0 0, .int .i8 0, .int .i32 0, .map none] (lT x2_2.1).length) Nr2_2 ∧ a2_2.isNone = (if 0 ≤ ((-1) : Int) ∧ (v < ((-1) : Int) ∨ (rArr true x2_1.2).1 = 0) then false else decide ((rArr true x2_1.2).1 ≤ 0))) ?_ (fun l' H' L' le_11 hI => ?_)
       ·
        refine cd rfl (fun h134 => ?_) (fun h134 => ?_)
        ·
         refine rg ?_
         refine mv rfl rfl ?_
         refine mv rfl rfl ?_
         refine apz (zs := [.int .i32 0, .int .i32 0, .slice none 0 0, .slice none 0 0, .int .i8 0, .int .i32 0, .map none]) (m := (lT x2_2.1).length) Tryz.underlying199 Tryz.underlying21 I307 rfl rfl rfl (by omega) (by omega) (by have h9 := hnb2_2; unfold BR at h9; omega) (by have h9 := hnb2_2; unfold BR at h9; unfold maxLen; omega) rfl (fun g137 cp137 N137 r137 => ?_)
         refine asg rfl rfl ?_
         refine nN ?_
         refine drN (.tail .head) ?_
         refine fun a_ w_ hA hw => ⟨_, _, _, hA.sub ?_, (Fz.le.refl _), hw, (some ⟨g137, 0, none⟩), cp137, N137, rfl, rfl, r137, (by rw [if_neg (by omega)]; exact (decide_eq_false (by omega)).symm)⟩
         exact (.cons rfl (.cons rfl (.cons rfl (.cons rfl (.cons rfl (.cons rfl (.cons rfl (.cons rfl (.cons rfl (.cons rfl (.cons rfl (.cons rfl (.cons rfl (.nil _))))))))))))))
        ·
         refine skN ?_
         refine fun a_ w_ hA hw => ⟨_, _, _, hA.sub ?_, (Fz.le.refl _), hw, none, 0, [], rfl, rfl, (by rw [show (lT x2_2.1).length = 0 by omega]; exact (Row.nil _ _)), (by rw [if_neg (by omega)]; exact (decide_eq_true (by omega)).symm)⟩
         exact (.cons rfl (.cons rfl (.cons rfl (.cons rfl (.cons rfl (.cons rfl (.cons rfl (.cons rfl (.cons rfl (.cons rfl (.cons rfl (.cons (by rw [show (lT x2_2.1).length = 0 by omega]; rfl) (.cons rfl (.nil _))))))))))))))
       ·
        obtain ⟨a2_2, c2_2, Nr2_2, rfl, rfl, pj0, pj1⟩ := hI
        have hr2_2 := pj0
        have hi2_2 := pj1
        refine sq ?_
        refine sr ?_
        refine asg rfl rfl ?_
        refine nl ?_
        refine bl (lp ((lT x2_2.1).length) (fun k2_2 l' H' L' => ∃ (es2_2 : List (KE 7)) (M2_2 RN2_2 : Chunk), [(2, .bool false), (7, .pointer (some ⟨b_1, 0, none⟩)), (8, .int .i16 v), (9, .bool (decide ((0 : Int) ≤ v))), (10, .pointer (some ⟨b, 0, none⟩)), (13, .slice none 0 0), (14, .slice a2 (lT x2.1).length c2), (15, .int .i32 (rArr true x1.2).1), (16, .int .i32 (k2 : Int)), (18, .pointer (some ⟨g2, 0 + k2 * 19, none⟩)), (21, .slice none 0 0), (22, .slice a2_2 (lT x2_2.1).length c2_2), (23, .int .i32 (rArr true x2_1.2).1), (24, .int .i32 (k2_2 : Int))] = l' ∧ M2_2 :: RN2_2 :: [(g2, .cells ((es2.flatMap fk) ++ ([.string ⟨x2_0.1.s.toArray⟩, ub x2_1.1.s 0, ub x2_1.1.s 1, ub x2_1.1.s 2, ub x2_1.1.s 3, ub x2_1.1.s 4, ub x2_1.1.s 5, ub x2_1.1.s 6, ub x2_1.1.s 7, ub x2_1.1.s 8, ub x2_1.1.s 9, ub x2_1.1.s 10, ub x2_1.1.s 11, ub x2_1.1.s 12, ub x2_1.1.s 13, ub x2_1.1.s 14, ub x2_1.1.s 15, .slice none 0 0, .map none] : List Value) ++ po2).toArray 201 (0, 0))] :: [(b, .cells [.int .i16 v, .int .i32 (IntKind.i32.wrap x0.1.n), .int .i64 x1.1.n, .slice none 0 0, .map none].toArray 196 (0, 0))] :: L = L' ∧ RdAt H' 232 b_1 (rMany (decV 10 (decP fs_sAlterPartitionRequestTopicPartition v true) false true) k2_2 (rArr true x2_1.2).2).2 RN2_2 ∧ Row 307 7 a2_2 (lT x2_2.1).length c2_2 (es2_2.flatMap fk ++ reps [.int .i32 0, .int .i32 0, .slice none 0 0, .slice none 0 0, .int .i8 0, .int .i32 0, .map none] ((lT x2_2.1).length - k2_2)) M2_2 ∧ es2_2.map (·.2) = (rMany (decV 10 (decP fs_sAlterPartitionRequestTopicPartition v true) false true) k2_2 (rArr true x2_1.2).2).1 ∧ ∀ p ∈ es2_2, At_AlterPartitionRequestTopicPartition H' p.2 (fk p)) [(2, .bool false), (7, .pointer (some ⟨b_1, 0, none⟩)), (8, .int .i16 v), (9, .bool (decide ((0 : Int) ≤ v))), (10, .pointer (some ⟨b, 0, none⟩)), (13, .slice none 0 0), (14, .slice a2 (lT x2.1).length c2), (15, .int .i32 (rArr true x1.2).1), (16, .int .i32 (k2 : Int)), (18, .pointer (some ⟨g2, 0 + k2 * 19, none⟩)), (21, .slice none 0 0), (22, .slice a2_2 (lT x2_2.1).length c2_2), (23, .int .i32 (rArr true x2_1.2).1), (24, .int .i32 (0 : Int))] (.cons rfl (.cons rfl (.cons rfl (.cons rfl (.cons rfl (.cons rfl (.cons rfl (.cons rfl (.cons rfl (.cons rfl (.cons rfl (.cons rfl (.cons rfl (.cons rfl (.nil _))))))))))))))) ⟨[], Nr2_2, _, rfl, rfl, (hR126.mono le_11), hr2_2, rfl, (fun p hp => by cases hp)⟩ (fun k2_2 l' H' L' hk2_2 le_12 hI => ?_))
        obtain ⟨es2_2, M2_2, RN2_2, rfl, rfl, hR_2_2, hw_2_2, he_2_2, hg_2_2⟩ := hI
        have hs_2_2 := els_len he_2_2
        have hp_2_2 : (es2_2.flatMap fk).length = k2_2 * 7 := els_flat hs_2_2
        refine sq ?_
        refine sr ?_
        refine mv rfl rfl ?_
        refine mv rfl rfl ?_
        refine lt rfl rfl rfl ?_
        refine nl ?_
        refine cd rfl (fun h140 => ?_) (fun h140 => ?_)
        ·
         have hkl2_2 : k2_2 < (lT x2_2.1).length := by omega
         obtain ⟨g2_2, po2_2, hga2_2, rfl, hbk2_2⟩ := hw_2_2.next (zs := [.int .i32 0, .int .i32 0, .slice none 0 0, .slice none 0 0, .int .i8 0, .int .i32 0, .map none]) hkl2_2 rfl (by decide)
         have ho2_2 : 0 + k2_2 * 7 = (es2_2.flatMap fk).length := by rw [hp_2_2]; omega
         have hbz2_2 : ((decV 10 (decP fs_sAlterPartitionRequestTopicPartition v true) false true) (rMany (decV 10 (decP fs_sAlterPartitionRequestTopicPartition v true) false true) k2_2 (rArr true x2_1.2).2).2).2.bad = true → (decP fs_AlterPartitionRequest v true ⟨s, false, !a.isNone⟩).2.bad = true := fun h => hB2_2 (by rw [ex2_2]; exact rMany_mono (fun r h => decV_bad (fun r h => decP_bad _ _ _ r h) h) _ (show k2_2 + 1 ≤ (lT x2_2.1).length from hkl2_2) (by rw [rMany_succ]; exact h))
         have hLk2_2 : (rMany (decV 10 (decP fs_sAlterPartitionRequestTopicPartition v true) false true) k2_2 (rArr true x2_1.2).2).2.s.length ≤ BR := Nat.le_trans (rMany_shr (fun r => decV_shr (fun r => decP_shr _ _ _ r) r) _ _) hm2_2
         have hL2_2__ := hLk2_2
         obtain ⟨x2_2_0, hx2_2_0⟩ : ∃ x, x = stepF (Fd.mk 3 0 (-1) (-1) (-1) 0 0 []) v true (rMany (decV 10 (decP fs_sAlterPartitionRequestTopicPartition v true) false true) k2_2 (rArr true x2_1.2).2).2 := ⟨_, rfl⟩
         obtain ⟨x2_2_1, hx2_2_1⟩ : ∃ x, x = stepF (Fd.mk 3 0 (-1) (-1) (-1) 0 0 []) v true x2_2_0.2 := ⟨_, rfl⟩
         obtain ⟨x2_2_2, hx2_2_2⟩ : ∃ x, x = stepF (Fd.mk 11 0 2 (-1) (-1) 0 3 []) v true x2_2_1.2 := ⟨_, rfl⟩
         obtain ⟨x2_2_3, hx2_2_3⟩ : ∃ x, x = stepF (Fd.mk 11 3 (-1) (-1) (-1) 0 10 fs_sAlterPartitionRequestTopicPartitionNewEpochISR) v true x2_2_2.2 := ⟨_, rfl⟩
         obtain ⟨x2_2_4, hx2_2_4⟩ : ∃ x, x = stepF (Fd.mk 1 1 (-1) (-1) (-1) 0 0 []) v true x2_2_3.2 := ⟨_, rfl⟩
         obtain ⟨x2_2_5, hx2_2_5⟩ : ∃ x, x = stepF (Fd.mk 3 0 (-1) (-1) (-1) 0 0 []) v true x2_2_4.2 := ⟨_, rfl⟩
         obtain ⟨u2_2_, hu2_2_⟩ : ∃ x, x = tailU true x2_2_5.2 := ⟨_, rfl⟩
         have hD2_2_ : decP fs_sAlterPartitionRequestTopicPartition v true (rMany (decV 10 (decP fs_sAlterPartitionRequestTopicPartition v true) false true) k2_2 (rArr true x2_1.2).2).2 = (.mk 0 [] false [x2_2_0.1, x2_2_1.1, x2_2_2.1, x2_2_3.1, x2_2_4.1, x2_2_5.1] u2_2_.1, u2_2_.2) := by
          generalize ((rMany (decV 10 (decP fs_sAlterPartitionRequestTopicPartition v true) false true) k2_2 (rArr true x2_1.2).2).2 : Rd) = r_ at hx2_2_0 ⊢
          rw [decP_eq]; unfold fs_sAlterPartitionRequestTopicPartition; simp only [decFs_cons, decFs_nil, ← hx2_2_0, ← hx2_2_1, ← hx2_2_2, ← hx2_2_3, ← hx2_2_4, ← hx2_2_5, ← hu2_2_]
         have hL2_2_0 : x2_2_0.2.s.length ≤ BR := by rw [hx2_2_0]; exact Nat.le_trans (stepF_shr _ _ _ _) hL2_2__
         have hL2_2_1 : x2_2_1.2.s.length ≤ BR := by rw [hx2_2_1]; exact Nat.le_trans (stepF_shr _ _ _ _) hL2_2_0
         have hL2_2_2 : x2_2_2.2.s.length ≤ BR := by rw [hx2_2_2]; exact Nat.le_trans (stepF_shr _ _ _ _) hL2_2_1
         have hL2_2_3 : x2_2_3.2.s.length ≤ BR := by rw [hx2_2_3]; exact Nat.le_trans (stepF_shr _ _ _ _) hL2_2_2
         have hL2_2_4 : x2_2_4.2.s.length ≤ BR := by rw [hx2_2_4]; exact Nat.le_trans (stepF_shr _ _ _ _) hL2_2_3
         have hL2_2_5 : x2_2_5.2.s.length ≤ BR := by rw [hx2_2_5]; exact Nat.le_trans (stepF_shr _ _ _ _) hL2_2_4
         have hE2_2_ : u2_2_.2.bad = true → (decP fs_AlterPartitionRequest v true ⟨s, false, !a.isNone⟩).2.bad = true := fun h => hbz2_2 (by show (decP fs_sAlterPartitionRequestTopicPartition v true (rMany (decV 10 (decP fs_sAlterPartitionRequestTopicPartition v true) false true) k2_2 (rArr true x2_1.2).2).2).2.bad = true; rw [hD2_2_]; exact h)
         have hB2_2_5 : x2_2_5.2.bad = true → (decP fs_AlterPartitionRequest v true ⟨s, false, !a.isNone⟩).2.bad = true := fun h => hE2_2_ (by rw [hu2_2_]; exact tailU_bad h)
         have hB2_2_4 : x2_2_4.2.bad = true → (decP fs_AlterPartitionRequest v true ⟨s, false, !a.isNone⟩).2.bad = true := fun h => hB2_2_5 (by rw [hx2_2_5]; exact step_bad h)
         have hB2_2_3 : x2_2_3.2.bad = true → (decP fs_AlterPartitionRequest v true ⟨s, false, !a.isNone⟩).2.bad = true := fun h => hB2_2_4 (by rw [hx2_2_4]; exact step_bad h)
         have hB2_2_2 : x2_2_2.2.bad = true → (decP fs_AlterPartitionRequest v true ⟨s, false, !a.isNone⟩).2.bad = true := fun h => hB2_2_3 (by rw [hx2_2_3]; exact step_bad h)
         have hB2_2_1 : x2_2_1.2.bad = true → (decP fs_AlterPartitionRequest v true ⟨s, false, !a.isNone⟩).2.bad = true := fun h => hB2_2_2 (by rw [hx2_2_2]; exact step_bad h)
         have hB2_2_0 : x2_2_0.2.bad = true → (decP fs_AlterPartitionRequest v true ⟨s, false, !a.isNone⟩).2.bad = true := fun h => hB2_2_1 (by rw [hx2_2_1]; exact step_bad h)
         refine skt ?_
         refine sq ?_
         refine bl ?_
         refine sr ?_
         refine mv rfl rfl ?_
         refine mv rfl rfl ?_
         refine ixk (j := k2_2) Tryz.runUnderlying199 Tryz.sizeOf307 rfl hga2_2 rfl rfl hkl2_2 rfl ?_
         refine asg rfl rfl ?_
         refine nl ?_
         refine sr ?_
         refine mv rfl rfl ?_
         refine cl rfl rfl rfl (def_AlterPartitionRequestTopicPartition ho2_2) rfl (fun v_ H1 L1 hle_ hR_ => ?_)
         obtain ⟨rfl, rfl⟩ := hR_
         refine nl ?_
         refine sr ?_
         refine mv rfl rfl ?_
         refine asg rfl rfl ?_
         refine nl ?_
         refine sq ?_
         refine sr ?_
         refine tf (.tail .head) ?_
         have ex2_2_0 : x2_2_0 = decV 3 (decP [] v true) false true (rMany (decV 10 (decP fs_sAlterPartitionRequestTopicPartition v true) false true) k2_2 (rArr true x2_1.2).2).2 := (hx2_2_0.trans (step_yes (by decide) (show (0 : Int) ≤ v by omega) (Or.inl (by decide)))).trans (decF'_val (by decide) (rfl))
         refine cl rfl rfl rfl (d3 hR_2_2 ex2_2_0) rfl (fun v_ H1 L1 hle_ hR_ => ?_)
         obtain ⟨N149, rfl, hR149, rfl, rfl⟩ := hR_
         refine asg rfl rfl ?_
         refine nl ?_
         refine rg ?_
         refine mv rfl rfl ?_
         refine mv rfl rfl ?_
         refine nc rfl rfl ?_
         refine fa F307_0 rfl rfl ?_
         refine stM (off := 0) Tryz.sizeOf21 rfl (by rw [ho2_2]) rfl rfl rfl (.tail .head) ?_
         refine nl ?_
         refine sq ?_
         refine sr ?_
         have ex2_2_1 : x2_2_1 = decV 3 (decP [] v true) false true x2_2_0.2 := (hx2_2_1.trans (step_yes (by decide) (show (0 : Int) ≤ v by omega) (Or.inl (by decide)))).trans (decF'_val (by decide) (rfl))
         refine cl rfl rfl rfl (d3 hR149 ex2_2_1) rfl (fun v_ H1 L1 hle_ hR_ => ?_)
         obtain ⟨N154, rfl, hR154, rfl, rfl⟩ := hR_
         refine asg rfl rfl ?_
         refine nl ?_
         refine rg ?_
         refine mv rfl rfl ?_
         refine mv rfl rfl ?_
         refine nc rfl rfl ?_
         refine fa F307_1 rfl rfl ?_
         refine stM (off := 1) Tryz.sizeOf21 rfl (by rw [ho2_2]) rfl rfl rfl (.tail .head) ?_
         refine nl ?_
         refine sq ?_
         refine sr ?_
         refine mv rfl rfl ?_
         refine ge rfl rfl rfl ?_
         refine mv rfl rfl ?_
         refine spl (t := 161) rfl (fun _ => ?_) (fun hn_ => absurd (by omega) hn_)
         refine gr rfl rfl ?_
         refine mv rfl rfl ?_
         refine gr rfl rfl ?_
         refine le rfl rfl rfl ?_
         refine pk rfl rfl rfl rfl ?_
         refine nl ?_
         refine cutT (fun l' H' L' => ∃ (a2_2_2 : Option Addr), ∃ (c2_2_2 : Nat), ∃ (Nj2_2_2 : Chunk), [(2, .bool false), (7, .pointer (some ⟨b_1, 0, none⟩)), (8, .int .i16 v), (9, .bool (decide ((0 : Int) ≤ v))), (10, .pointer (some ⟨b, 0, none⟩)), (13, .slice none 0 0), (14, .slice a2 (lT x2.1).length c2), (15, .int .i32 (rArr true x1.2).1), (16, .int .i32 (k2 : Int)), (18, .pointer (some ⟨g2, 0 + k2 * 19, none⟩)), (21, .slice none 0 0), (22, .slice a2_2 (lT x2_2.1).length c2_2), (23, .int .i32 (rArr true x2_1.2).1), (24, .int .i32 (k2_2 : Int)), (26, .pointer (some ⟨g2_2, 0 + k2_2 * 7, none⟩))] = l' ∧ Nj2_2_2 :: [(g2_2, .cells ((es2_2.flatMap fk) ++ ([.int .i32 (IntKind.i32.wrap x2_2_0.1.n), .int .i32 (IntKind.i32.wrap x2_2_1.1.n), .slice a2_2_2 (lT x2_2_2.1).length c2_2_2, .slice none 0 0, .int .i8 0, .int .i32 0, .map none] : List Value) ++ po2_2).toArray 307 (0, 0))] :: [(g2, .cells ((es2.flatMap fk) ++ ([.string ⟨x2_0.1.s.toArray⟩, ub x2_1.1.s 0, ub x2_1.1.s 1, ub x2_1.1.s 2, ub x2_1.1.s 3, ub x2_1.1.s 4, ub x2_1.1.s 5, ub x2_1.1.s 6, ub x2_1.1.s 7, ub x2_1.1.s 8, ub x2_1.1.s 9, ub x2_1.1.s 10, ub x2_1.1.s 11, ub x2_1.1.s 12, ub x2_1.1.s 13, ub x2_1.1.s 14, ub x2_1.1.s 15, .slice none 0 0, .map none] : List Value) ++ po2).toArray 201 (0, 0))] :: [(b, .cells [.int .i16 v, .int .i32 (IntKind.i32.wrap x0.1.n), .int .i64 x1.1.n, .slice none 0 0, .map none].toArray 196 (0, 0))] :: L = L' ∧ RdAt H' 232 b_1 x2_2_2.2 Nj2_2_2 ∧ ListAt H' x2_2_2.1 1 RI32 a2_2_2 c2_2_2) ?_ (fun l' H' L' le_15 hI => ?_)
         ·
          refine cd rfl (fun h164 => ?_) (fun h164 => ?_)
          ·
           refine sr ?_
           refine mv rfl rfl ?_
           refine nc rfl rfl ?_
           refine fa F307_2 rfl rfl ?_
           refine ld (j := 2) (off := 0 + k2_2 * 7) (Says.mid (.tail .head) ho2_2) Tryz.isAgg227 rfl rfl rfl rfl ?_
           refine asg rfl rfl ?_
           refine nl ?_
           refine sr ?_
           refine mv rfl rfl ?_
           refine asg rfl rfl ?_
           refine nl ?_
           refine sr ?_
           refine asg rfl rfl ?_
           refine nl ?_
           refine sq ?_
           refine sr ?_
           refine mv rfl rfl ?_
           refine nl ?_
           refine cdT rfl (by omega) ?_
           refine rg ?_
           have ey2_2_2 : x2_2_2 = (.mk 0 [] (if 0 ≤ ((-1) : Int) ∧ (v < ((-1) : Int) ∨ (rArr true x2_2_1.2).1 = 0) then false else decide ((rArr true x2_2_1.2).1 ≤ 0)) (rMany (decV 3 (decP [] v true) false true) (rArr true x2_2_1.2).1.toNat (rArr true x2_2_1.2).2).1 [], (rMany (decV 3 (decP [] v true) false true) (rArr true x2_2_1.2).1.toNat (rArr true x2_2_1.2).2).2) := (hx2_2_2.trans (step_yes (by decide) (show (0 : Int) ≤ v by omega) (Or.inr (show v ≤ (2 : Int) by omega)))).trans (decF'_list rfl rfl)
           have hn2_2_2 : (rArr true x2_2_1.2).1.toNat = (lT x2_2_2.1).length := by rw [ey2_2_2]; exact (lT_many nul_le).symm
           have ex2_2_2 := ey2_2_2
           rw [hn2_2_2] at ex2_2_2
           have hl2_2_2 := rArr_le true x2_2_1.2
           have hm2_2_2 : (rArr true x2_2_1.2).2.s.length ≤ BR := Nat.le_trans (rArr_len true x2_2_1.2) hL2_2_1
           have hnb2_2_2 : (lT x2_2_2.1).length ≤ BR := by omega
           refine cl rfl rfl rfl (r_arrt hR154) rfl (fun v_ H1 L1 hle_ hR_ => ?_)
           obtain ⟨rfl, N171, rfl, hR171, rfl⟩ := hR_
           have hh2_2_2 := rArr_hi true x2_2_1.2
           refine asg rfl rfl ?_
           refine nl ?_
           refine sq ?_
           refine sr ?_
           refine cl rfl rfl rfl (r_ok hR171) rfl (fun v_ H1 L1 hle_ hR_ => ?_)
           obtain ⟨rfl, rfl, rfl⟩ := hR_
           refine nt rfl rfl ?_
           refine nl ?_
           refine cb rfl (fun h174 => ?_) (fun h174 => ?_)
           ·
            have hbad_ : (rArr true x2_2_1.2).2.bad = true := by simpa using h174
            refine sr ?_
            refine cl rfl rfl rfl (r_complete hR171 (he.mono (le_4.trans (le_5.trans (le_6.trans (le_8.trans (le_11.trans le_12))))))) rfl (fun v_ H1 L1 hle_ hR_ => ?_)
            obtain ⟨rfl, rfl, rfl⟩ := hR_
            refine asg rfl rfl ?_
            refine nl ?_
            refine drW .head ?_
            refine drW .head ?_
            refine drW .head ?_
            exact rT rfl rfl (le_4.trans (le_5.trans (le_6.trans (le_8.trans (le_11.trans le_12))))) (fun _ _ h => h) ⟨_, rfl, RdEnd.out (hB2_2_2 (by rw [ey2_2_2]; exact rMany_bad (fun r h => decV_bad (decP_bad _ _ _) h) _ _ hbad_)) hbad_⟩
           ·
            refine skt ?_
            refine sr ?_
            refine mv rfl rfl ?_
            refine sh' (j := 0) Tryz.runUnderlying227 Tryz.sizeOf21 rfl rfl rfl (Nat.zero_le _) rfl ?_
            refine asg rfl rfl ?_
            refine nl ?_
            refine sq ?_
            refine sr ?_
            refine mv rfl rfl ?_
            refine gt rfl rfl rfl ?_
            refine nl ?_
            refine nulC2 ?_
            refine cutT (fun l' H' L' => ∃ (a2_2_2 : Option Addr), ∃ (c2_2_2 : Nat), ∃ (Nr2_2_2 : Chunk), [(2, .bool false), (7, .pointer (some ⟨b_1, 0, none⟩)), (8, .int .i16 v), (9, .bool (decide ((0 : Int) ≤ v))), (10, .pointer (some ⟨b, 0, none⟩)), (13, .slice none 0 0), (14, .slice a2 (lT x2.1).length c2), (15, .int .i32 (rArr true x1.2).1), (16, .int .i32 (k2 : Int)), (18, .pointer (some ⟨g2, 0 + k2 * 19, none⟩)), (21, .slice none 0 0), (22, .slice a2_2 (lT x2_2.1).length c2_2), (23, .int .i32 (rArr true x2_1.2).1), (24, .int .i32 (k2_2 : Int)), (26, .pointer (some ⟨g2_2, 0 + k2_2 * 7, none⟩)), (29, .slice none 0 0), (30, .slice a2_2_2 (lT x2_2_2.1).length c2_2_2), (31, .int .i32 (rArr true x2_2_1.2).1)] = l' ∧ Nr2_2_2 :: N171 :: [(g2_2, .cells ((es2_2.flatMap fk) ++ ([.int .i32 (IntKind.i32.wrap x2_2_0.1.n), .int .i32 (IntKind.i32.wrap x2_2_1.1.n), .slice none 0 0, .slice none 0 0, .int .i8 0, .int .i32 0, .map none] : List Value) ++ po2_2).toArray 307 (0, 0))] :: [(g2, .cells ((es2.flatMap fk) ++ ([.string ⟨x2_0.1.s.toArray⟩, ub x2_1.1.s 0, ub x2_1.1.s 1, ub x2_1.1.s 2, ub x2_1.1.s 3, ub x2_1.1.s 4, ub x2_1.1.s 5, ub x2_1.1.s 6, ub x2_1.1.s 7, ub x2_1.1.s 8, ub x2_1.1.s 9, ub x2_1.1.s 10, ub x2_1.1.s 11, ub x2_1.1.s 12, ub x2_1.1.s 13, ub x2_1.1.s 14, ub x2_1.1.s 15, .slice none 0 0, .map none] : List Value) ++ po2).toArray 201 (0, 0))] :: [(b, .cells [.int .i16 v, .int .i32 (IntKind.i32.wrap x0.1.n), .int .i64 x1.1.n, .slice none 0 0, .map none].toArray 196 (0, 0))] :: L = L' ∧ Row 21 1 a2_2_2 (lT x2_2_2.1).length c2_2_2 (reps [.int .i32 0] (lT x2_2_2.1).length) Nr2_2_2 ∧ a2_2_2.isNone = (if 0 ≤ ((-1) : Int) ∧ (v < ((-1) : Int) ∨ (rArr true x2_2_1.2).1 = 0) then false else decide ((rArr true x2_2_1.2).1 ≤ 0))) ?_ (fun l' H' L' le_16 hI => ?_)
            ·
             refine cd rfl (fun h179 => ?_) (fun h179 => ?_)
             ·
              refine rg ?_
              refine mv rfl rfl ?_
              refine mv rfl rfl ?_
              refine apz (zs := [.int .i32 0]) (m := (lT x2_2_2.1).length) Tryz.underlying227 Tryz.underlying21 I21 rfl rfl rfl (by omega) (by omega) (by have h9 := hnb2_2_2; unfold BR at h9; omega) (by have h9 := hnb2_2_2; unfold BR at h9; unfold maxLen; omega) rfl (fun g182 cp182 N182 r182 => ?_)
              refine asg rfl rfl ?_
              refine nN ?_
              refine drN (.tail .head) ?_
              refine fun a_ w_ hA hw => ⟨_, _, _, hA.sub ?_, (Fz.le.refl _), hw, (some ⟨g182, 0, none⟩), cp182, N182, rfl, rfl, r182, (by rw [if_neg (by omega)]; exact (decide_eq_false (by omega)).symm)⟩
              exact (.cons rfl (.cons rfl (.cons rfl (.cons rfl (.cons rfl (.cons rfl (.cons rfl (.cons rfl (.cons rfl (.cons rfl (.cons rfl (.cons rfl (.cons rfl (.cons rfl (.cons rfl (.cons rfl (.cons rfl (.cons rfl (.nil _)))))))))))))))))))
             ·
              refine skN ?_
              refine fun a_ w_ hA hw => ⟨_, _, _, hA.sub ?_, (Fz.le.refl _), hw, none, 0, [], rfl, rfl, (by rw [show (lT x2_2_2.1).length = 0 by omega]; exact (Row.nil _ _)), (by rw [if_neg (by omega)]; exact (decide_eq_true (by omega)).symm)⟩
              exact (.cons rfl (.cons rfl (.cons rfl (.cons rfl (.cons rfl (.cons rfl (.cons rfl (.cons rfl (.cons rfl (.cons rfl (.cons rfl (.cons rfl (.cons rfl (.cons rfl (.cons rfl (.cons rfl (.cons (by rw [show (lT x2_2_2.1).length = 0 by omega]; rfl) (.cons rfl (.nil _)))))))))))))))))))
            ·
             obtain ⟨a2_2_2, c2_2_2, Nr2_2_2, rfl, rfl, pj0, pj1⟩ := hI
             have hr2_2_2 := pj0
             have hi2_2_2 := pj1
             refine sq ?_
             refine sr ?_
             refine asg rfl rfl ?_
             refine nl ?_
             refine bl (lp ((lT x2_2_2.1).length) (fun k2_2_2 l' H' L' => ∃ (es2_2_2 : List (KE 1)) (M2_2_2 RN2_2_2 : Chunk), [(2, .bool false), (7, .pointer (some ⟨b_1, 0, none⟩)), (8, .int .i16 v), (9, .bool (decide ((0 : Int) ≤ v))), (10, .pointer (some ⟨b, 0, none⟩)), (13, .slice none 0 0), (14, .slice a2 (lT x2.1).length c2), (15, .int .i32 (rArr true x1.2).1), (16, .int .i32 (k2 : Int)), (18, .pointer (some ⟨g2, 0 + k2 * 19, none⟩)), (21, .slice none 0 0), (22, .slice a2_2 (lT x2_2.1).length c2_2), (23, .int .i32 (rArr true x2_1.2).1), (24, .int .i32 (k2_2 : Int)), (26, .pointer (some ⟨g2_2, 0 + k2_2 * 7, none⟩)), (29, .slice none 0 0), (30, .slice a2_2_2 (lT x2_2_2.1).length c2_2_2), (31, .int .i32 (rArr true x2_2_1.2).1), (32, .int .i32 (k2_2_2 : Int))] = l' ∧ M2_2_2 :: RN2_2_2 :: [(g2_2, .cells ((es2_2.flatMap fk) ++ ([.int .i32 (IntKind.i32.wrap x2_2_0.1.n), .int .i32 (IntKind.i32.wrap x2_2_1.1.n), .slice none 0 0, .slice none 0 0, .int .i8 0, .int .i32 0, .map none] : List Value) ++ po2_2).toArray 307 (0, 0))] :: [(g2, .cells ((es2.flatMap fk) ++ ([.string ⟨x2_0.1.s.toArray⟩, ub x2_1.1.s 0, ub x2_1.1.s 1, ub x2_1.1.s 2, ub x2_1.1.s 3, ub x2_1.1.s 4, ub x2_1.1.s 5, ub x2_1.1.s 6, ub x2_1.1.s 7, ub x2_1.1.s 8, ub x2_1.1.s 9, ub x2_1.1.s 10, ub x2_1.1.s 11, ub x2_1.1.s 12, ub x2_1.1.s 13, ub x2_1.1.s 14, ub x2_1.1.s 15, .slice none 0 0, .map none] : List Value) ++ po2).toArray 201 (0, 0))] :: [(b, .cells [.int .i16 v, .int .i32 (IntKind.i32.wrap x0.1.n), .int .i64 x1.1.n, .slice none 0 0, .map none].toArray 196 (0, 0))] :: L = L' ∧ RdAt H' 232 b_1 (rMany (decV 3 (decP [] v true) false true) k2_2_2 (rArr true x2_2_1.2).2).2 RN2_2_2 ∧ Row 21 1 a2_2_2 (lT x2_2_2.1).length c2_2_2 (es2_2_2.flatMap fk ++ reps [.int .i32 0] ((lT x2_2_2.1).length - k2_2_2)) M2_2_2 ∧ es2_2_2.map (·.2) = (rMany (decV 3 (decP [] v true) false true) k2_2_2 (rArr true x2_2_1.2).2).1 ∧ ∀ p ∈ es2_2_2, RI32 H' p.2 (fk p)) [(2, .bool false), (7, .pointer (some ⟨b_1, 0, none⟩)), (8, .int .i16 v), (9, .bool (decide ((0 : Int) ≤ v))), (10, .pointer (some ⟨b, 0, none⟩)), (13, .slice none 0 0), (14, .slice a2 (lT x2.1).length c2), (15, .int .i32 (rArr true x1.2).1), (16, .int .i32 (k2 : Int)), (18, .pointer (some ⟨g2, 0 + k2 * 19, none⟩)), (21, .slice none 0 0), (22, .slice a2_2 (lT x2_2.1).length c2_2), (23, .int .i32 (rArr true x2_1.2).1), (24, .int .i32 (k2_2 : Int)), (26, .pointer (some ⟨g2_2, 0 + k2_2 * 7, none⟩)), (29, .slice none 0 0), (30, .slice a2_2_2 (lT x2_2_2.1).length c2_2_2), (31, .int .i32 (rArr true x2_2_1.2).1), (32, .int .i32 (0 : Int))] (.cons rfl (.cons rfl (.cons rfl (.cons rfl (.cons rfl (.cons rfl (.cons rfl (.cons rfl (.cons rfl (.cons rfl (.cons rfl (.cons rfl (.cons rfl (.cons rfl (.cons rfl (.cons rfl (.cons rfl (.cons rfl (.cons rfl (.nil _)))))))))))))))))))) ⟨[], Nr2_2_2, _, rfl, rfl, (hR171.mono le_16), hr2_2_2, rfl, (fun p hp => by cases hp)⟩ (fun k2_2_2 l' H' L' hk2_2_2 le_17 hI => ?_))
             obtain ⟨es2_2_2, M2_2_2, RN2_2_2, rfl, rfl, hR_2_2_2, hw_2_2_2, he_2_2_2, hg_2_2_2⟩ := hI
             have hs_2_2_2 := els_len he_2_2_2
             have hp_2_2_2 : (es2_2_2.flatMap fk).length = k2_2_2 * 1 := els_flat hs_2_2_2
             refine sq ?_
             refine sr ?_
             refine mv rfl rfl ?_
             refine mv rfl rfl ?_
             refine lt rfl rfl rfl ?_
             refine nl ?_
             refine cd rfl (fun h185 => ?_) (fun h185 => ?_)
             ·
              have hkl2_2_2 : k2_2_2 < (lT x2_2_2.1).length := by omega
              obtain ⟨g2_2_2, po2_2_2, hga2_2_2, rfl, hbk2_2_2⟩ := hw_2_2_2.next (zs := [.int .i32 0]) hkl2_2_2 rfl (by decide)
              have ho2_2_2 : 0 + k2_2_2 * 1 = (es2_2_2.flatMap fk).length := by rw [hp_2_2_2]; omega
              have hbz2_2_2 : ((decV 3 (decP [] v true) false true) (rMany (decV 3 (decP [] v true) false true) k2_2_2 (rArr true x2_2_1.2).2).2).2.bad = true → (decP fs_AlterPartitionRequest v true ⟨s, false, !a.isNone⟩).2.bad = true := fun h => hB2_2_2 (by rw [ex2_2_2]; exact rMany_mono (fun r h => decV_bad (fun r h => decP_bad _ _ _ r h) h) _ (show k2_2_2 + 1 ≤ (lT x2_2_2.1).length from hkl2_2_2) (by rw [rMany_succ]; exact h))
              have hLk2_2_2 : (rMany (decV 3 (decP [] v true) false true) k2_2_2 (rArr true x2_2_1.2).2).2.s.length ≤ BR := Nat.le_trans (rMany_shr (fun r => decV_shr (fun r => decP_shr _ _ _ r) r) _ _) hm2_2_2
              obtain ⟨y2_2_2, hy2_2_2⟩ : ∃ x, x = (decV 3 (decP [] v true) false true) (rMany (decV 3 (decP [] v true) false true) k2_2_2 (rArr true x2_2_1.2).2).2 := ⟨_, rfl⟩
              refine skt ?_
              refine sq ?_
              refine bl ?_
              refine sr ?_
              refine tf (.tail .head) ?_
              refine cl rfl rfl rfl (d3 hR_2_2_2 hy2_2_2) rfl (fun v_ H1 L1 hle_ hR_ => ?_)
              obtain ⟨N188, rfl, hR188, rfl, rfl⟩ := hR_
              refine asg rfl rfl ?_
              refine nl ?_
              refine rg ?_
              refine mv rfl rfl ?_
              refine mv rfl rfl ?_
              refine mv rfl rfl ?_
              refine ixk (j := k2_2_2) Tryz.runUnderlying227 Tryz.sizeOf21 rfl hga2_2_2 rfl rfl hkl2_2_2 rfl ?_
              refine stM (off := 0) Tryz.sizeOf21 rfl ho2_2_2 rfl rfl rfl (.tail .head) ?_
              refine nN ?_
              refine Nb ?_
              refine Nt ?_
              refine rg ?_
              refine mv rfl rfl ?_
              refine ad rfl rfl (c := ((k2_2_2 + 1 : Nat) : Int)) ((wrap32_le (by omega) (by omega)).trans (by omega)) rfl ?_
              refine asg rfl rfl ?_
              refine nN ?_
              have hfs2_2_2 := flatMap_snoc' fk es2_2_2 ((⟨([.int .i32 (IntKind.i32.wrap y2_2_2.1.n)] : List Value), rfl, all_one rfl⟩, ((decV 3 (decP [] v true) false true) (rMany (decV 3 (decP [] v true) false true) k2_2_2 (rArr true x2_2_1.2).2).2).1) : KE 1)
              have hrw2_2_2 := hbk2_2_2 ([.int .i32 (IntKind.i32.wrap y2_2_2.1.n)] : List Value) rfl
              refine tfN (.tail .head) ?_
              refine fun a_ w_ hA hw => ⟨hkl2_2_2, _, _, _, hA.sub ?_, le_17, hw, _, _, _, rfl, rfl, (by rw [rMany_succ, ← hy2_2_2]; exact hR188), (by rw [← hfs2_2_2]; exact hrw2_2_2), (dec_els he_2_2_2), (fun p hp => (mem_snoc hp).elim (fun h => RI32.mono _ _ _ _ (Fz.le.refl _) (hg_2_2_2 p h)) (fun h => h ▸ (by show RI32 _ ((decV 3 (decP [] v true) false true) (rMany (decV 3 (decP [] v true) false true) k2_2_2 (rArr true x2_2_1.2).2).2).1 [.int .i32 (IntKind.i32.wrap y2_2_2.1.n)]; rw [← hy2_2_2]; rfl)))⟩
              exact (.cons rfl (.cons rfl (.cons rfl (.cons rfl (.cons rfl (.cons rfl (.cons rfl (.cons rfl (.cons rfl (.cons rfl (.cons rfl (.cons rfl (.cons rfl (.cons rfl (.cons rfl (.cons rfl (.cons rfl (.cons rfl (.cons rfl (.nil _))))))))))))))))))))
             ·
              have hkn_ : k2_2_2 = (lT x2_2_2.1).length := by omega
              subst hkn_
              have hw2_2_2_2 : Row 21 1 a2_2_2 (lT x2_2_2.1).length c2_2_2 (es2_2_2.flatMap fk) M2_2_2 := by have h := hw_2_2_2; rw [Nat.sub_self] at h; simpa [reps] using h
              refine frW hw2_2_2_2 .head (fun Hf2_2_2 hlf2_2_2 hfz2_2_2 => ?_)
              have hrs2_2_2 := RowsAt.row (R := RI32) hfz2_2_2 hs_2_2_2.symm hw2_2_2_2.le.1 (fun p hp => RI32.mono _ _ _ _ hlf2_2_2 (hg_2_2_2 p hp))
              rw [he_2_2_2] at hrs2_2_2
              have hf2_2_2 : ListAt Hf2_2_2 x2_2_2.1 1 RI32 a2_2_2 c2_2_2 := by rw [ex2_2_2]; exact listAt_of hrs2_2_2 hi2_2_2 (fun h => by have h1 := nul_le h; rw [show (lT x2_2_2.1).length = 0 by omega]; rfl)
              have hRx2_2_2 : RdAt Hf2_2_2 232 b_1 x2_2_2.2 RN2_2_2 := by rw [ex2_2_2]; exact (hR_2_2_2.mono hlf2_2_2)
              refine exX ?_
              refine XT ?_
              refine XT ?_
              refine Xb ?_
              refine Nt ?_
              refine sr ?_
              refine mv rfl rfl ?_
              refine asg rfl rfl ?_
              refine nl ?_
              refine rg ?_
              refine mv rfl rfl ?_
              refine mv rfl rfl ?_
              refine nc rfl rfl ?_
              refine fa F307_2 rfl rfl ?_
              refine stM (off := 2) Tryz.sizeOf227 rfl (by rw [ho2_2]) rfl rfl rfl (.tail .head) ?_
              refine nN ?_
              refine fun a_ w_ hA hw => ⟨_, _, _, hA.sub ?_, (le_16.trans (le_17.trans hlf2_2_2)), hw, a2_2_2, c2_2_2, RN2_2_2, rfl, rfl, hRx2_2_2, hf2_2_2⟩
              exact (.cons rfl (.cons rfl (.cons rfl (.cons rfl (.cons rfl (.cons rfl (.cons rfl (.cons rfl (.cons rfl (.cons rfl (.cons rfl (.cons rfl (.cons rfl (.cons rfl (.cons rfl (.nil _))))))))))))))))
          ·
           refine skN ?_
           obtain rfl : x2_2_2 = ((Tr.mk 0 [] true [] []), x2_2_1.2) := (hx2_2_2.trans (step_no (Or.inr ⟨by decide, show (2 : Int) < v by omega⟩))).trans (by rw [dflF_eq]; rfl)
           refine fun a_ w_ hA hw => ⟨_, _, _, hA.sub ?_, (Fz.le.refl _), hw, none, 0, N154, rfl, rfl, hR154, (ListAt.none rfl)⟩
           exact (.cons rfl (.cons rfl (.cons rfl (.cons rfl (.cons rfl (.cons rfl (.cons rfl (.cons rfl (.cons rfl (.cons rfl (.cons rfl (.cons rfl (.cons rfl (.cons rfl (.cons rfl (.nil _))))))))))))))))
         ·
          obtain ⟨a2_2_2, c2_2_2, Nj2_2_2, rfl, rfl, pj0, pj1⟩ := hI
          have hRj2_2_2 := pj0
          have hf2_2_2 := pj1
          refine sq ?_
          refine sr ?_
          refine mv rfl rfl ?_
          refine ge rfl rfl rfl ?_
          refine nl ?_
          refine cutT (fun l' H' L' => ∃ (a2_2_3 : Option Addr), ∃ (c2_2_3 : Nat), ∃ (Nj2_2_3 : Chunk), [(2, .bool false), (7, .pointer (some ⟨b_1, 0, none⟩)), (8, .int .i16 v), (9, .bool (decide ((0 : Int) ≤ v))), (10, .pointer (some ⟨b, 0, none⟩)), (13, .slice none 0 0), (14, .slice a2 (lT x2.1).length c2), (15, .int .i32 (rArr true x1.2).1), (16, .int .i32 (k2 : Int)), (18, .pointer (some ⟨g2, 0 + k2 * 19, none⟩)), (21, .slice none 0 0), (22, .slice a2_2 (lT x2_2.1).length c2_2), (23, .int .i32 (rArr true x2_1.2).1), (24, .int .i32 (k2_2 : Int)), (26, .pointer (some ⟨g2_2, 0 + k2_2 * 7, none⟩))] = l' ∧ Nj2_2_3 :: [(g2_2, .cells ((es2_2.flatMap fk) ++ ([.int .i32 (IntKind.i32.wrap x2_2_0.1.n), .int .i32 (IntKind.i32.wrap x2_2_1.1.n), .slice a2_2_2 (lT x2_2_2.1).length c2_2_2, .slice a2_2_3 (lT x2_2_3.1).length c2_2_3, .int .i8 0, .int .i32 0, .map none] : List Value) ++ po2_2).toArray 307 (0, 0))] :: [(g2, .cells ((es2.flatMap fk) ++ ([.string ⟨x2_0.1.s.toArray⟩, ub x2_1.1.s 0, ub x2_1.1.s 1, ub x2_1.1.s 2, ub x2_1.1.s 3, ub x2_1.1.s 4, ub x2_1.1.s 5, ub x2_1.1.s 6, ub x2_1.1.s 7, ub x2_1.1.s 8, ub x2_1.1.s 9, ub x2_1.1.s 10, ub x2_1.1.s 11, ub x2_1.1.s 12, ub x2_1.1.s 13, ub x2_1.1.s 14, ub x2_1.1.s 15, .slice none 0 0, .map none] : List Value) ++ po2).toArray 201 (0, 0))] :: [(b, .cells [.int .i16 v, .int .i32 (IntKind.i32.wrap x0.1.n), .int .i64 x1.1.n, .slice none 0 0, .map none].toArray 196 (0, 0))] :: L = L' ∧ RdAt H' 232 b_1 x2_2_3.2 Nj2_2_3 ∧ ListAt H' x2_2_3.1 3 At_AlterPartitionRequestTopicPartitionNewEpochISR a2_2_3 c2_2_3) ?_ (fun l' H' L' le_19 hI => ?_)
          ·
           refine cd rfl (fun h199 => ?_) (fun h199 => ?_)
           ·
            refine sr ?_
            refine mv rfl rfl ?_
            refine nc rfl rfl ?_
            refine fa F307_3 rfl rfl ?_
            refine ld (j := 3) (off := 0 + k2_2 * 7) (Says.mid (.tail .head) ho2_2) Tryz.isAgg305 rfl rfl rfl rfl ?_
            refine asg rfl rfl ?_
            refine nl ?_
            refine sr ?_
            refine mv rfl rfl ?_
            refine asg rfl rfl ?_
            refine nl ?_
            refine sr ?_
            refine asg rfl rfl ?_
            refine nl ?_
            refine sq ?_
            refine sr ?_
            refine mv rfl rfl ?_
            refine nl ?_
            refine cdT rfl (by omega) ?_
            refine rg ?_
            have ey2_2_3 : x2_2_3 = (.mk 0 [] (if 0 ≤ ((-1) : Int) ∧ (v < ((-1) : Int) ∨ (rArr true x2_2_2.2).1 = 0) then false else decide ((rArr true x2_2_2.2).1 ≤ 0)) (rMany (decV 10 (decP fs_sAlterPartitionRequestTopicPartitionNewEpochISR v true) false true) (rArr true x2_2_2.2).1.toNat (rArr true x2_2_2.2).2).1 [], (rMany (decV 10 (decP fs_sAlterPartitionRequestTopicPartitionNewEpochISR v true) false true) (rArr true x2_2_2.2).1.toNat (rArr true x2_2_2.2).2).2) := (hx2_2_3.trans (step_yes (by decide) (show (3 : Int) ≤ v by omega) (Or.inl (by decide)))).trans (decF'_list rfl rfl)
            have hn2_2_3 : (rArr true x2_2_2.2).1.toNat = (lT x2_2_3.1).length := by rw [ey2_2_3]; exact (lT_many nul_le).symm
            have ex2_2_3 := ey2_2_3
            rw [hn2_2_3] at ex2_2_3
            have hl2_2_3 := rArr_le true x2_2_2.2
            have hm2_2_3 : (rArr true x2_2_2.2).2.s.length ≤ BR := Nat.le_trans (rArr_len true x2_2_2.2) hL2_2_2
            have hnb2_2_3 : (lT x2_2_3.1).length ≤ BR := by omega
            refine cl rfl rfl rfl (r_arrt hRj2_2_2) rfl (fun v_ H1 L1 hle_ hR_ => ?_)
            obtain ⟨rfl, N206, rfl, hR206, rfl⟩ := hR_
            have hh2_2_3 := rArr_hi true x2_2_2.2
            refine asg rfl rfl ?_
            refine nl ?_
            refine sq ?_
            refine sr ?_
            refine cl rfl rfl rfl (r_ok hR206) rfl (fun v_ H1 L1 hle_ hR_ => ?_)
            obtain ⟨rfl, rfl, rfl⟩ := hR_
            refine nt rfl rfl ?_
            refine nl ?_
            refine cb rfl (fun h209 => ?_) (fun h209 => ?_)
            ·
             have hbad_ : (rArr true x2_2_2.2).2.bad = true := by simpa using h209
             refine sr ?_
             refine cl rfl rfl rfl (r_complete hR206 (he.mono (le_4.trans (le_5.trans (le_6.trans (le_8.trans (le_11.trans (le_12.trans le_15)))))))) rfl (fun v_ H1 L1 hle_ hR_ => ?_)
             obtain ⟨rfl, rfl, rfl⟩ := hR_
             refine asg rfl rfl ?_
             refine nl ?_
             refine drW .head ?_
             refine drW .head ?_
             refine drW .head ?_
             exact rT rfl rfl (le_4.trans (le_5.trans (le_6.trans (le_8.trans (le_11.trans (le_12.trans le_15)))))) (fun _ _ h => h) ⟨_, rfl, RdEnd.out (hB2_2_3 (by rw [ey2_2_3]; exact rMany_bad (fun r h => decV_bad (decP_bad _ _ _) h) _ _ hbad_)) hbad_⟩
            ·
             refine skt ?_
             refine sr ?_
             refine mv rfl rfl ?_
             refine sh' (j := 0) Tryz.runUnderlying305 Tryz.sizeOf310 rfl rfl rfl (Nat.zero_le _) rfl ?_
             refine asg rfl rfl ?_
             refine nl ?_
             refine sq ?_
             refine sr ?_
             refine mv rfl rfl ?_
             refine gt rfl rfl rfl ?_
             refine nl ?_
             refine nulC2 ?_
             refine cutT (fun l' H' L' => ∃ (a2_2_3 : Option Addr), ∃ (c2_2_3 : Nat), ∃ (Nr2_2_3 : Chunk), [(2, .bool false), (7, .pointer (some ⟨b_1, 0, none⟩)), (8, .int .i16 v), (9, .bool (decide ((0 : Int) ≤ v))), (10, .pointer (some ⟨b, 0, none⟩)), (13, .slice none 0 0), (14, .slice a2 (lT x2.1).length c2), (15, .int .i32 (rArr true x1.2).1), (16, .int .i32 (k2 : Int)), (18, .pointer (some ⟨g2, 0 + k2 * 19, none⟩)), (21, .slice none 0 0), (22, .slice a2_2 (lT x2_2.1).length c2_2), (23, .int .i32 (rArr true x2_1.2).1), (24, .int .i32 (k2_2 : Int)), (26, .pointer (some ⟨g2_2, 0 + k2_2 * 7, none⟩)), (34, .slice none 0 0), (35, .slice a2_2_3 (lT x2_2_3.1).length c2_2_3), (36, .int .i32 (rArr true x2_2_2.2).1)] = l' ∧ Nr2_2_3 :: N206 :: [(g2_2, .cells ((es2_2.flatMap fk) ++ ([.int .i32 (IntKind.i32.wrap x2_2_0.1.n), .int .i32 (IntKind.i32.wrap x2_2_1.1.n), .slice a2_2_2 (lT x2_2_2.1).length c2_2_2, .slice none 0 0, .int .i8 0, .int .i32 0, .map none] : List Value) ++ po2_2).toArray 307 (0, 0))] :: [(g2, .cells ((es2.flatMap fk) ++ ([.string ⟨x2_0.1.s.toArray⟩, ub x2_1.1.s 0, ub x2_1.1.s 1, ub x2_1.1.s 2, ub x2_1.1.s 3, ub x2_1.1.s 4, ub x2_1.1.s 5, ub x2_1.1.s 6, ub x2_1.1.s 7, ub x2_1.1.s 8, ub x2_1.1.s 9, ub x2_1.1.s 10, ub x2_1.1.s 11, ub x2_1.1.s 12, ub x2_1.1.s 13, ub x2_1.1.s 14, ub x2_1.1.s 15, .slice none 0 0, .map none] : List Value) ++ po2).toArray 201 (0, 0))] :: [(b, .cells [.int .i16 v, .int .i32 (IntKind.i32.wrap x0.1.n), .int .i64 x1.1.n, .slice none 0 0, .map none].toArray 196 (0, 0))] :: L = L' ∧ Row 310 3 a2_2_3 (lT x2_2_3.1).length c2_2_3 (reps [.int .i32 0, .int .i64 0, .map none] (lT x2_2_3.1).length) Nr2_2_3 ∧ a2_2_3.isNone = (if 0 ≤ ((-1) : Int) ∧ (v < ((-1) : Int) ∨ (rArr true x2_2_2.2).1 = 0) then false else decide ((rArr true x2_2_2.2).1 ≤ 0))) ?_ (fun l' H' L' le_20 hI => ?_)
             ·
              refine cd rfl (fun h214 => ?_) (fun h214 => ?_)
              ·
               refine rg ?_
               refine mv rfl rfl ?_
               refine mv rfl rfl ?_
               refine apz (zs := [.int .i32 0, .int .i64 0, .map none]) (m := (lT x2_2_3.1).length) Tryz.underlying305 Tryz.underlying21 I310 rfl rfl rfl (by omega) (by omega) (by have h9 := hnb2_2_3; unfold BR at h9; omega) (by have h9 := hnb2_2_3; unfold BR at h9; unfold maxLen; omega) rfl (fun g217 cp217 N217 r217 => ?_)
               refine asg rfl rfl ?_
               refine nN ?_
               refine drN (.tail .head) ?_
               refine fun a_ w_ hA hw => ⟨_, _, _, hA.sub ?_, (Fz.le.refl _), hw, (some ⟨g217, 0, none⟩), cp217, N217, rfl, rfl, r217, (by rw [if_neg (by omega)]; exact (decide_eq_false (by omega)).symm)⟩
               exact (.cons rfl (.cons rfl (.cons rfl (.cons rfl (.cons rfl (.cons rfl (.cons rfl (.cons rfl (.cons rfl (.cons rfl (.cons rfl (.cons rfl (.cons rfl (.cons rfl (.cons rfl (.cons rfl (.cons rfl (.cons rfl (.nil _)))))))))))))))))))
              ·
               refine skN ?_
               refine fun a_ w_ hA hw => ⟨_, _, _, hA.sub ?_, (Fz.le.refl _), hw, none, 0, [], rfl, rfl, (by rw [show (lT x2_2_3.1).length = 0 by omega]; exact (Row.nil _ _)), (by rw [if_neg (by omega)]; exact (decide_eq_true (by omega)).symm)⟩
               exact (.cons rfl (.cons rfl (.cons rfl (.cons rfl (.cons rfl (.cons rfl (.cons rfl (.cons rfl (.cons rfl (.cons rfl (.cons rfl (.cons rfl (.cons rfl (.cons rfl (.cons rfl (.cons rfl (.cons (by rw [show (lT x2_2_3.1).length = 0 by omega]; rfl) (.cons rfl (.nil _)))))))))))))))))))
             ·
              obtain ⟨a2_2_3, c2_2_3, Nr2_2_3, rfl, rfl, pj0, pj1⟩ := hI
              have hr2_2_3 := pj0
              have hi2_2_3 := pj1
              refine sq ?_
              refine sr ?_
              refine asg rfl rfl ?_
              refine nl ?_
              refine bl (lp ((lT x2_2_3.1).length) (fun k2_2_3 l' H' L' => ∃ (es2_2_3 : List (KE 3)) (M2_2_3 RN2_2_3 : Chunk), [(2, .bool false), (7, .pointer (some ⟨b_1, 0, none⟩)), (8, .int .i16 v), (9, .bool (decide ((0 : Int) ≤ v))), (10, .pointer (some ⟨b, 0, none⟩)), (13, .slice none 0 0), (14, .slice a2 (lT x2.1).length c2), (15, .int .i32 (rArr true x1.2).1), (16, .int .i32 (k2 : Int)), (18, .pointer (some ⟨g2, 0 + k2 * 19, none⟩)), (21, .slice none 0 0), (22, .slice a2_2 (lT x2_2.1).length c2_2), (23, .int .i32 (rArr true x2_1.2).1), (24, .int .i32 (k2_2 : Int)), (26, .pointer (some ⟨g2_2, 0 + k2_2 * 7, none⟩)), (34, .slice none 0 0), (35, .slice a2_2_3 (lT x2_2_3.1).length c2_2_3), (36, .int .i32 (rArr true x2_2_2.2).1), (37, .int .i32 (k2_2_3 : Int))] = l' ∧ M2_2_3 :: RN2_2_3 :: [(g2_2, .cells ((es2_2.flatMap fk) ++ ([.int .i32 (IntKind.i32.wrap x2_2_0.1.n), .int .i32 (IntKind.i32.wrap x2_2_1.1.n), .slice a2_2_2 (lT x2_2_2.1).length c2_2_2, .slice none 0 0, .int .i8 0, .int .i32 0, .map none] : List Value) ++ po2_2).toArray 307 (0, 0))] :: [(g2, .cells ((es2.flatMap fk) ++ ([.string ⟨x2_0.1.s.toArray⟩, ub x2_1.1.s 0, ub x2_1.1.s 1, ub x2_1.1.s 2, ub x2_1.1.s 3, ub x2_1.1.s 4, ub x2_1.1.s 5, ub x2_1.1.s 6, ub x2_1.1.s 7, ub x2_1.1.s 8, ub x2_1.1.s 9, ub x2_1.1.s 10, ub x2_1.1.s 11, ub x2_1.1.s 12, ub x2_1.1.s 13, ub x2_1.1.s 14, ub x2_1.1.s 15, .slice none 0 0, .map none] : List Value) ++ po2).toArray 201 (0, 0))] :: [(b, .cells [.int .i16 v, .int .i32 (IntKind.i32.wrap x0.1.n), .int .i64 x1.1.n, .slice none 0 0, .map none].toArray 196 (0, 0))] :: L = L' ∧ RdAt H' 232 b_1 (rMany (decV 10 (decP fs_sAlterPartitionRequestTopicPartitionNewEpochISR v true) false true) k2_2_3 (rArr true x2_2_2.2).2).2 RN2_2_3 ∧ Row 310 3 a2_2_3 (lT x2_2_3.1).length c2_2_3 (es2_2_3.flatMap fk ++ reps [.int .i32 0, .int .i64 0, .map none] ((lT x2_2_3.1).length - k2_2_3)) M2_2_3 ∧ es2_2_3.map (·.2) = (rMany (decV 10 (decP fs_sAlterPartitionRequestTopicPartitionNewEpochISR v true) false true) k2_2_3 (rArr true x2_2_2.2).2).1 ∧ ∀ p ∈ es2_2_3, At_AlterPartitionRequestTopicPartitionNewEpochISR H' p.2 (fk p)) [(2, .bool false), (7, .pointer (some ⟨b_1, 0, none⟩)), (8, .int .i16 v), (9, .bool (decide ((0 : Int) ≤ v))), (10, .pointer (some ⟨b, 0, none⟩)), (13, .slice none 0 0), (14, .slice a2 (lT x2.1).length c2), (15, .int .i32 (rArr true x1.2).1), (16, .int .i32 (k2 : Int)), (18, .pointer (some ⟨g2, 0 + k2 * 19, none⟩)), (21, .slice none 0 0), (22, .slice a2_2 (lT x2_2.1).length c2_2), (23, .int .i32 (rArr true x2_1.2).1), (24, .int .i32 (k2_2 : Int)), (26, .pointer (some ⟨g2_2, 0 + k2_2 * 7, none⟩)), (34, .slice none 0 0), (35, .slice a2_2_3 (lT x2_2_3.1).length c2_2_3), (36, .int .i32 (rArr true x2_2_2.2).1), (37, .int .i32 (0 : Int))] (.cons rfl (.cons rfl (.cons rfl (.cons rfl (.cons rfl (.cons rfl (.cons rfl (.cons rfl (.cons rfl (.cons rfl (.cons rfl (.cons rfl (.cons rfl (.cons rfl (.cons rfl (.cons rfl (.cons rfl (.cons rfl (.cons rfl (.nil _)))))))))))))))))))) ⟨[], Nr2_2_3, _, rfl, rfl, (hR206.mono le_20), hr2_2_3, rfl, (fun p hp => by cases hp)⟩ (fun k2_2_3 l' H' L' hk2_2_3 le_21 hI => ?_))
              obtain ⟨es2_2_3, M2_2_3, RN2_2_3, rfl, rfl, hR_2_2_3, hw_2_2_3, he_2_2_3, hg_2_2_3⟩ := hI
              have hs_2_2_3 := els_len he_2_2_3
              have hp_2_2_3 : (es2_2_3.flatMap fk).length = k2_2_3 * 3 := els_flat hs_2_2_3
              refine sq ?_
              refine sr ?_
              refine mv rfl rfl ?_
              refine mv rfl rfl ?_
              refine lt rfl rfl rfl ?_
              refine nl ?_
              refine cd rfl (fun h220 => ?_) (fun h220 => ?_)
              ·
               have hkl2_2_3 : k2_2_3 < (lT x2_2_3.1).length := by omega
               obtain ⟨g2_2_3, po2_2_3, hga2_2_3, rfl, hbk2_2_3⟩ := hw_2_2_3.next (zs := [.int .i32 0, .int .i64 0, .map none]) hkl2_2_3 rfl (by decide)
               have ho2_2_3 : 0 + k2_2_3 * 3 = (es2_2_3.flatMap fk).length := by rw [hp_2_2_3]; omega
               have hbz2_2_3 : ((decV 10 (decP fs_sAlterPartitionRequestTopicPartitionNewEpochISR v true) false true) (rMany (decV 10 (decP fs_sAlterPartitionRequestTopicPartitionNewEpochISR v true) false true) k2_2_3 (rArr true x2_2_2.2).2).2).2.bad = true → (decP fs_AlterPartitionRequest v true ⟨s, false, !a.isNone⟩).2.bad = true := fun h => hB2_2_3 (by rw [ex2_2_3]; exact rMany_mono (fun r h => decV_bad (fun r h => decP_bad _ _ _ r h) h) _ (show k2_2_3 + 1 ≤ (lT x2_2_3.1).length from hkl2_2_3) (by rw [rMany_succ]; exact h))
               have hLk2_2_3 : (rMany (decV 10 (decP fs_sAlterPartitionRequestTopicPartitionNewEpochISR v true) false true) k2_2_3 (rArr true x2_2_2.2).2).2.s.length ≤ BR := Nat.le_trans (rMany_shr (fun r => decV_shr (fun r => decP_shr _ _ _ r) r) _ _) hm2_2_3
               have hL2_2_3__ := hLk2_2_3
               obtain ⟨x2_2_3_0, hx2_2_3_0⟩ : ∃ x, x = stepF (Fd.mk 3 0 (-1) (-1) (-1) 0 0 []) v true (rMany (decV 10 (decP fs_sAlterPartitionRequestTopicPartitionNewEpochISR v true) false true) k2_2_3 (rArr true x2_2_2.2).2).2 := ⟨_, rfl⟩
               obtain ⟨x2_2_3_1, hx2_2_3_1⟩ : ∃ x, x = stepF (Fd.mk 4 0 (-1) (-1) (-1) (-1) 0 []) v true x2_2_3_0.2 := ⟨_, rfl⟩
               obtain ⟨u2_2_3_, hu2_2_3_⟩ : ∃ x, x = tailU true x2_2_3_1.2 := ⟨_, rfl⟩
               have hD2_2_3_ : decP fs_sAlterPartitionRequestTopicPartitionNewEpochISR v true (rMany (decV 10 (decP fs_sAlterPartitionRequestTopicPartitionNewEpochISR v true) false true) k2_2_3 (rArr true x2_2_2.2).2).2 = (.mk 0 [] false [x2_2_3_0.1, x2_2_3_1.1] u2_2_3_.1, u2_2_3_.2) := by
                generalize ((rMany (decV 10 (decP fs_sAlterPartitionRequestTopicPartitionNewEpochISR v true) false true) k2_2_3 (rArr true x2_2_2.2).2).2 : Rd) = r_ at hx2_2_3_0 ⊢
                rw [decP_eq]; unfold fs_sAlterPartitionRequestTopicPartitionNewEpochISR; simp only [decFs_cons, decFs_nil, ← hx2_2_3_0, ← hx2_2_3_1, ← hu2_2_3_]
               have hL2_2_3_0 : x2_2_3_0.2.s.length ≤ BR := by rw [hx2_2_3_0]; exact Nat.le_trans (stepF_shr _ _ _ _) hL2_2_3__
               have hL2_2_3_1 : x2_2_3_1.2.s.length ≤ BR := by rw [hx2_2_3_1]; exact Nat.le_trans (stepF_shr _ _ _ _) hL2_2_3_0
               have hE2_2_3_ : u2_2_3_.2.bad = true → (decP fs_AlterPartitionRequest v true ⟨s, false, !a.isNone⟩).2.bad = true := fun h => hbz2_2_3 (by show (decP fs_sAlterPartitionRequestTopicPartitionNewEpochISR v true (rMany (decV 10 (decP fs_sAlterPartitionRequestTopicPartitionNewEpochISR v true) false true) k2_2_3 (rArr true x2_2_2.2).2).2).2.bad = true; rw [hD2_2_3_]; exact h)
               have hB2_2_3_1 : x2_2_3_1.2.bad = true → (decP fs_AlterPartitionRequest v true ⟨s, false, !a.isNone⟩).2.bad = true := fun h => hE2_2_3_ (by rw [hu2_2_3_]; exact tailU_bad h)
               have hB2_2_3_0 : x2_2_3_0.2.bad = true → (decP fs_AlterPartitionRequest v true ⟨s, false, !a.isNone⟩).2.bad = true := fun h => hB2_2_3_1 (by rw [hx2_2_3_1]; exact step_bad h)
               refine skt ?_
               refine sq ?_
               refine bl ?_
               refine sr ?_
               refine mv rfl rfl ?_
               refine mv rfl rfl ?_
               refine ixk (j := k2_2_3) Tryz.runUnderlying305 Tryz.sizeOf310 rfl hga2_2_3 rfl rfl hkl2_2_3 rfl ?_
               refine asg rfl rfl ?_
               refine nl ?_
               refine sr ?_
               refine mv rfl rfl ?_
               refine cl rfl rfl rfl (def_AlterPartitionRequestTopicPartitionNewEpochISR ho2_2_3) rfl (fun v_ H1 L1 hle_ hR_ => ?_)
               obtain ⟨rfl, rfl⟩ := hR_
               refine nl ?_
               refine sr ?_
               refine mv rfl rfl ?_
               refine asg rfl rfl ?_
               refine nl ?_
               refine sq ?_
               refine sr ?_
               refine tf (.tail .head) ?_
               have ex2_2_3_0 : x2_2_3_0 = decV 3 (decP [] v true) false true (rMany (decV 10 (decP fs_sAlterPartitionRequestTopicPartitionNewEpochISR v true) false true) k2_2_3 (rArr true x2_2_2.2).2).2 := (hx2_2_3_0.trans (step_yes (by decide) (show (0 : Int) ≤ v by omega) (Or.inl (by decide)))).trans (decF'_val (by decide) (rfl))
               refine cl rfl rfl rfl (d3 hR_2_2_3 ex2_2_3_0) rfl (fun v_ H1 L1 hle_ hR_ => ?_)
               obtain ⟨N229, rfl, hR229, rfl, rfl⟩ := hR_
               refine asg rfl rfl ?_
               refine nl ?_
               refine rg ?_
               refine mv rfl rfl ?_
               refine mv rfl rfl ?_
               refine nc rfl rfl ?_
               refine fa F310_0 rfl rfl ?_
               refine stM (off := 0) Tryz.sizeOf21 rfl (by rw [ho2_2_3]) rfl rfl rfl (.tail .head) ?_
               refine nl ?_
               refine sq ?_
               refine sr ?_
               have ex2_2_3_1 : x2_2_3_1 = decV 4 (decP [] v true) false true x2_2_3_0.2 := (hx2_2_3_1.trans (step_yes (by decide) (show (0 : Int) ≤ v by omega) (Or.inl (by decide)))).trans (decF'_val (by decide) (rfl))
               refine cl rfl rfl rfl (d4 hR229 ex2_2_3_1) rfl (fun v_ H1 L1 hle_ hR_ => ?_)
               obtain ⟨N234, rfl, hR234, rfl, rfl⟩ := hR_
               refine asg rfl rfl ?_
               refine nl ?_
               refine rg ?_
               refine mv rfl rfl ?_
               refine mv rfl rfl ?_
               refine nc rfl rfl ?_
               refine fa F310_1 rfl rfl ?_
               refine stM (off := 1) Tryz.sizeOf2 rfl (by rw [ho2_2_3]) rfl rfl rfl (.tail .head) ?_
               refine nl ?_
               refine sr ?_
               refine mv rfl rfl ?_
               refine nl ?_
               refine cdT rfl (by omega) ?_
               refine rg ?_
               refine mv rfl rfl ?_
               refine cl rfl rfl rfl (d_tags hR234) rfl (fun v_ H1 L1 le_24 hR_ => ?_)
               obtain ⟨N241, rfl, hR241, m2_2_3_t, rfl, hft2_2_3_⟩ := hR_
               have hu22_2_3_ : u2_2_3_ = rTags x2_2_3_1.2 := hu2_2_3_
               rw [← hu22_2_3_] at hR241 hft2_2_3_
               refine nc rfl rfl ?_
               refine fa F310_2 rfl rfl ?_
               refine saM (off := 2) Tryz.sizeOf105 rfl (by rw [ho2_2_3]) rfl rfl rfl rfl (.tail .head) ?_
               refine nN ?_
               refine Nb ?_
               refine Nt ?_
               refine rg ?_
               refine mv rfl rfl ?_
               refine ad rfl rfl (c := ((k2_2_3 + 1 : Nat) : Int)) ((wrap32_le (by omega) (by omega)).trans (by omega)) rfl ?_
               refine asg rfl rfl ?_
               refine nN ?_
               have hfs2_2_3 := flatMap_snoc' fk es2_2_3 ((⟨([.int .i32 (IntKind.i32.wrap x2_2_3_0.1.n), .int .i64 x2_2_3_1.1.n, .map m2_2_3_t] : List Value), rfl, all_one rfl⟩, ((decV 10 (decP fs_sAlterPartitionRequestTopicPartitionNewEpochISR v true) false true) (rMany (decV 10 (decP fs_sAlterPartitionRequestTopicPartitionNewEpochISR v true) false true) k2_2_3 (rArr true x2_2_2.2).2).2).1) : KE 3)
               have hrw2_2_3 := hbk2_2_3 ([.int .i32 (IntKind.i32.wrap x2_2_3_0.1.n), .int .i64 x2_2_3_1.1.n, .map m2_2_3_t] : List Value) rfl
               refine tfN (.tail .head) ?_
               refine fun a_ w_ hA hw => ⟨hkl2_2_3, _, _, _, hA.sub ?_, (le_21.trans le_24), hw, _, _, _, rfl, rfl, (by rw [rMany_succ]; show RdAt _ 232 b_1 (decP fs_sAlterPartitionRequestTopicPartitionNewEpochISR v true (rMany (decV 10 (decP fs_sAlterPartitionRequestTopicPartitionNewEpochISR v true) false true) k2_2_3 (rArr true x2_2_2.2).2).2).2 _; rw [hD2_2_3_]; exact hR241), (by rw [← hfs2_2_3]; exact hrw2_2_3), (dec_els he_2_2_3), (fun p hp => (mem_snoc hp).elim (fun h => At_AlterPartitionRequestTopicPartitionNewEpochISR.mono _ _ _ _ le_24 (hg_2_2_3 p h)) (fun h => h ▸ (by show At_AlterPartitionRequestTopicPartitionNewEpochISR _ (decP fs_sAlterPartitionRequestTopicPartitionNewEpochISR v true (rMany (decV 10 (decP fs_sAlterPartitionRequestTopicPartitionNewEpochISR v true) false true) k2_2_3 (rArr true x2_2_2.2).2).2).1 [.int .i32 (IntKind.i32.wrap x2_2_3_0.1.n), .int .i64 x2_2_3_1.1.n, .map m2_2_3_t]; rw [hD2_2_3_]; exact ⟨m2_2_3_t, rfl, hft2_2_3_⟩)))⟩
               exact (.cons rfl (.cons rfl (.cons rfl (.cons rfl (.cons rfl (.cons rfl (.cons rfl (.cons rfl (.cons rfl (.cons rfl (.cons rfl (.cons rfl (.cons rfl (.cons rfl (.cons rfl (.cons rfl (.cons rfl (.cons rfl (.cons rfl (.nil _))))))))))))))))))))
              ·
               have hkn_ : k2_2_3 = (lT x2_2_3.1).length := by omega
               subst hkn_
               have hw2_2_2_3 : Row 310 3 a2_2_3 (lT x2_2_3.1).length c2_2_3 (es2_2_3.flatMap fk) M2_2_3 := by have h := hw_2_2_3; rw [Nat.sub_self] at h; simpa [reps] using h
               refine frW hw2_2_2_3 .head (fun Hf2_2_3 hlf2_2_3 hfz2_2_3 => ?_)
               have hrs2_2_3 := RowsAt.row (R := At_AlterPartitionRequestTopicPartitionNewEpochISR) hfz2_2_3 hs_2_2_3.symm hw2_2_2_3.le.1 (fun p hp => At_AlterPartitionRequestTopicPartitionNewEpochISR.mono _ _ _ _ hlf2_2_3 (hg_2_2_3 p hp))
               rw [he_2_2_3] at hrs2_2_3
               have hf2_2_3 : ListAt Hf2_2_3 x2_2_3.1 3 At_AlterPartitionRequestTopicPartitionNewEpochISR a2_2_3 c2_2_3 := by rw [ex2_2_3]; exact listAt_of hrs2_2_3 hi2_2_3 (fun h => by have h1 := nul_le h; rw [show (lT x2_2_3.1).length = 0 by omega]; rfl)
               have hRx2_2_3 : RdAt Hf2_2_3 232 b_1 x2_2_3.2 RN2_2_3 := by rw [ex2_2_3]; exact (hR_2_2_3.mono hlf2_2_3)
               refine exX ?_
               refine XT ?_
               refine XT ?_
               refine Xb ?_
               refine Nt ?_
               refine sr ?_
               refine mv rfl rfl ?_
               refine asg rfl rfl ?_
               refine nl ?_
               refine rg ?_
               refine mv rfl rfl ?_
               refine mv rfl rfl ?_
               refine nc rfl rfl ?_
               refine fa F307_3 rfl rfl ?_
               refine stM (off := 3) Tryz.sizeOf305 rfl (by rw [ho2_2]) rfl rfl rfl (.tail .head) ?_
               refine nN ?_
               refine fun a_ w_ hA hw => ⟨_, _, _, hA.sub ?_, (le_20.trans (le_21.trans hlf2_2_3)), hw, a2_2_3, c2_2_3, RN2_2_3, rfl, rfl, hRx2_2_3, hf2_2_3⟩
               exact (.cons rfl (.cons rfl (.cons rfl (.cons rfl (.cons rfl (.cons rfl (.cons rfl (.cons rfl (.cons rfl (.cons rfl (.cons rfl (.cons rfl (.cons rfl (.cons rfl (.cons rfl (.nil _))))))))))))))))
           ·
            refine skN ?_
            obtain rfl : x2_2_3 = ((Tr.mk 0 [] true [] []), x2_2_2.2) := (hx2_2_3.trans (step_no (Or.inl (show v < (3 : Int) by omega)))).trans (by rw [dflF_eq]; rfl)
            refine fun a_ w_ hA hw => ⟨_, _, _, hA.sub ?_, (Fz.le.refl _), hw, none, 0, Nj2_2_2, rfl, rfl, hRj2_2_2, (ListAt.none rfl)⟩
            exact (.cons rfl (.cons rfl (.cons rfl (.cons rfl (.cons rfl (.cons rfl (.cons rfl (.cons rfl (.cons rfl (.cons rfl (.cons rfl (.cons rfl (.cons rfl (.cons rfl (.cons rfl (.nil _))))))))))))))))
          ·
           obtain ⟨a2_2_3, c2_2_3, Nj2_2_3, rfl, rfl, pj0, pj1⟩ := hI
           have hRj2_2_3 := pj0
           have hf2_2_3 := pj1
           refine sq ?_
           refine sr ?_
           refine mv rfl rfl ?_
           refine ge rfl rfl rfl ?_
           refine nl ?_
           refine cutT (fun l' H' L' => ∃ (Nj2_2_4 : Chunk), [(2, .bool false), (7, .pointer (some ⟨b_1, 0, none⟩)), (8, .int .i16 v), (9, .bool (decide ((0 : Int) ≤ v))), (10, .pointer (some ⟨b, 0, none⟩)), (13, .slice none 0 0), (14, .slice a2 (lT x2.1).length c2), (15, .int .i32 (rArr true x1.2).1), (16, .int .i32 (k2 : Int)), (18, .pointer (some ⟨g2, 0 + k2 * 19, none⟩)), (21, .slice none 0 0), (22, .slice a2_2 (lT x2_2.1).length c2_2), (23, .int .i32 (rArr true x2_1.2).1), (24, .int .i32 (k2_2 : Int)), (26, .pointer (some ⟨g2_2, 0 + k2_2 * 7, none⟩))] = l' ∧ Nj2_2_4 :: [(g2_2, .cells ((es2_2.flatMap fk) ++ ([.int .i32 (IntKind.i32.wrap x2_2_0.1.n), .int .i32 (IntKind.i32.wrap x2_2_1.1.n), .slice a2_2_2 (lT x2_2_2.1).length c2_2_2, .slice a2_2_3 (lT x2_2_3.1).length c2_2_3, .int .i8 (IntKind.i8.wrap x2_2_4.1.n), .int .i32 0, .map none] : List Value) ++ po2_2).toArray 307 (0, 0))] :: [(g2, .cells ((es2.flatMap fk) ++ ([.string ⟨x2_0.1.s.toArray⟩, ub x2_1.1.s 0, ub x2_1.1.s 1, ub x2_1.1.s 2, ub x2_1.1.s 3, ub x2_1.1.s 4, ub x2_1.1.s 5, ub x2_1.1.s 6, ub x2_1.1.s 7, ub x2_1.1.s 8, ub x2_1.1.s 9, ub x2_1.1.s 10, ub x2_1.1.s 11, ub x2_1.1.s 12, ub x2_1.1.s 13, ub x2_1.1.s 14, ub x2_1.1.s 15, .slice none 0 0, .map none] : List Value) ++ po2).toArray 201 (0, 0))] :: [(b, .cells [.int .i16 v, .int .i32 (IntKind.i32.wrap x0.1.n), .int .i64 x1.1.n, .slice none 0 0, .map none].toArray 196 (0, 0))] :: L = L' ∧ RdAt H' 232 b_1 x2_2_4.2 Nj2_2_4) ?_ (fun l' H' L' le_25 hI => ?_)
           ·
            refine cd rfl (fun h250 => ?_) (fun h250 => ?_)
            ·
             refine sr ?_
             have ex2_2_4 : x2_2_4 = decV 1 (decP [] v true) false true x2_2_3.2 := (hx2_2_4.trans (step_yes (by decide) (show (1 : Int) ≤ v by omega) (Or.inl (by decide)))).trans (decF'_val (by decide) (rfl))
             refine cl rfl rfl rfl (d1 hRj2_2_3 ex2_2_4) rfl (fun v_ H1 L1 hle_ hR_ => ?_)
             obtain ⟨N251, rfl, hR251, rfl, rfl⟩ := hR_
             refine asg rfl rfl ?_
             refine nl ?_
             refine rg ?_
             refine mv rfl rfl ?_
             refine mv rfl rfl ?_
             refine nc rfl rfl ?_
             refine fa F307_4 rfl rfl ?_
             refine stM (off := 4) Tryz.sizeOf202 rfl (by rw [ho2_2]) rfl rfl rfl (.tail .head) ?_
             refine nN ?_
             refine fun a_ w_ hA hw => ⟨_, _, _, hA.sub ?_, (Fz.le.refl _), hw, N251, rfl, rfl, hR251⟩
             exact (.cons rfl (.cons rfl (.cons rfl (.cons rfl (.cons rfl (.cons rfl (.cons rfl (.cons rfl (.cons rfl (.cons rfl (.cons rfl (.cons rfl (.cons rfl (.cons rfl (.cons rfl (.nil _))))))))))))))))
            ·
             refine skN ?_
             obtain rfl : x2_2_4 = ((Tr.mk 0 [] false [] []), x2_2_3.2) := (hx2_2_4.trans (step_no (Or.inl (show v < (1 : Int) by omega)))).trans (by rw [dflF_eq]; rfl)
             refine fun a_ w_ hA hw => ⟨_, _, _, hA.sub ?_, (Fz.le.refl _), hw, Nj2_2_3, rfl, rfl, hRj2_2_3⟩
             exact (.cons rfl (.cons rfl (.cons rfl (.cons rfl (.cons rfl (.cons rfl (.cons rfl (.cons rfl (.cons rfl (.cons rfl (.cons rfl (.cons rfl (.cons rfl (.cons rfl (.cons rfl (.nil _))))))))))))))))
           ·
            obtain ⟨Nj2_2_4, rfl, rfl, pj0⟩ := hI
            have hRj2_2_4 := pj0
            refine sq ?_
            refine sr ?_
            have ex2_2_5 : x2_2_5 = decV 3 (decP [] v true) false true x2_2_4.2 := (hx2_2_5.trans (step_yes (by decide) (show (0 : Int) ≤ v by omega) (Or.inl (by decide)))).trans (decF'_val (by decide) (rfl))
            refine cl rfl rfl rfl (d3 hRj2_2_4 ex2_2_5) rfl (fun v_ H1 L1 hle_ hR_ => ?_)
            obtain ⟨N256, rfl, hR256, rfl, rfl⟩ := hR_
            refine asg rfl rfl ?_
            refine nl ?_
            refine rg ?_
            refine mv rfl rfl ?_
            refine mv rfl rfl ?_
            refine nc rfl rfl ?_
            refine fa F307_5 rfl rfl ?_
            refine stM (off := 5) Tryz.sizeOf21 rfl (by rw [ho2_2]) rfl rfl rfl (.tail .head) ?_
            refine nl ?_
            refine sr ?_
            refine mv rfl rfl ?_
            refine nl ?_
            refine cdT rfl (by omega) ?_
            refine rg ?_
            refine mv rfl rfl ?_
            refine cl rfl rfl rfl (d_tags hR256) rfl (fun v_ H1 L1 le_28 hR_ => ?_)
            obtain ⟨N263, rfl, hR263, m2_2_t, rfl, hft2_2_⟩ := hR_
            have hu22_2_ : u2_2_ = rTags x2_2_5.2 := hu2_2_
            rw [← hu22_2_] at hR263 hft2_2_
            refine nc rfl rfl ?_
            refine fa F307_6 rfl rfl ?_
            refine saM (off := 6) Tryz.sizeOf105 rfl (by rw [ho2_2]) rfl rfl rfl rfl (.tail .head) ?_
            refine nN ?_
            refine Nb ?_
            refine Nt ?_
            refine rg ?_
            refine mv rfl rfl ?_
            refine ad rfl rfl (c := ((k2_2 + 1 : Nat) : Int)) ((wrap32_le (by omega) (by omega)).trans (by omega)) rfl ?_
            refine asg rfl rfl ?_
            refine nN ?_
            have hfs2_2 := flatMap_snoc' fk es2_2 ((⟨([.int .i32 (IntKind.i32.wrap x2_2_0.1.n), .int .i32 (IntKind.i32.wrap x2_2_1.1.n), .slice a2_2_2 (lT x2_2_2.1).length c2_2_2, .slice a2_2_3 (lT x2_2_3.1).length c2_2_3, .int .i8 (IntKind.i8.wrap x2_2_4.1.n), .int .i32 (IntKind.i32.wrap x2_2_5.1.n), .map m2_2_t] : List Value), rfl, all_one rfl⟩, ((decV 10 (decP fs_sAlterPartitionRequestTopicPartition v true) false true) (rMany (decV 10 (decP fs_sAlterPartitionRequestTopicPartition v true) false true) k2_2 (rArr true x2_1.2).2).2).1) : KE 7)
            have hrw2_2 := hbk2_2 ([.int .i32 (IntKind.i32.wrap x2_2_0.1.n), .int .i32 (IntKind.i32.wrap x2_2_1.1.n), .slice a2_2_2 (lT x2_2_2.1).length c2_2_2, .slice a2_2_3 (lT x2_2_3.1).length c2_2_3, .int .i8 (IntKind.i8.wrap x2_2_4.1.n), .int .i32 (IntKind.i32.wrap x2_2_5.1.n), .map m2_2_t] : List Value) rfl
            refine tfN (.tail .head) ?_
            refine fun a_ w_ hA hw => ⟨hkl2_2, _, _, _, hA.sub ?_, (le_12.trans (le_15.trans (le_19.trans (le_25.trans le_28)))), hw, _, _, _, rfl, rfl, (by rw [rMany_succ]; show RdAt _ 232 b_1 (decP fs_sAlterPartitionRequestTopicPartition v true (rMany (decV 10 (decP fs_sAlterPartitionRequestTopicPartition v true) false true) k2_2 (rArr true x2_1.2).2).2).2 _; rw [hD2_2_]; exact hR263), (by rw [← hfs2_2]; exact hrw2_2), (dec_els he_2_2), (fun p hp => (mem_snoc hp).elim (fun h => At_AlterPartitionRequestTopicPartition.mono _ _ _ _ (le_15.trans (le_19.trans (le_25.trans le_28))) (hg_2_2 p h)) (fun h => h ▸ (by show At_AlterPartitionRequestTopicPartition _ (decP fs_sAlterPartitionRequestTopicPartition v true (rMany (decV 10 (decP fs_sAlterPartitionRequestTopicPartition v true) false true) k2_2 (rArr true x2_1.2).2).2).1 [.int .i32 (IntKind.i32.wrap x2_2_0.1.n), .int .i32 (IntKind.i32.wrap x2_2_1.1.n), .slice a2_2_2 (lT x2_2_2.1).length c2_2_2, .slice a2_2_3 (lT x2_2_3.1).length c2_2_3, .int .i8 (IntKind.i8.wrap x2_2_4.1.n), .int .i32 (IntKind.i32.wrap x2_2_5.1.n), .map m2_2_t]; rw [hD2_2_]; exact ⟨a2_2_2, c2_2_2, a2_2_3, c2_2_3, m2_2_t, rfl, (hf2_2_2.mono RI32.mono (le_19.trans (le_25.trans le_28))), (hf2_2_3.mono At_AlterPartitionRequestTopicPartitionNewEpochISR.mono (le_25.trans le_28)), hft2_2_⟩)))⟩
            exact (.cons rfl (.cons rfl (.cons rfl (.cons rfl (.cons rfl (.cons rfl (.cons rfl (.cons rfl (.cons rfl (.cons rfl (.cons rfl (.cons rfl (.cons rfl (.cons rfl (.nil _)))))))))))))))
        ·
         have hkn_ : k2_2 = (lT x2_2.1).length := by omega
         subst hkn_
         have hw2_2_2 : Row 307 7 a2_2 (lT x2_2.1).length c2_2 (es2_2.flatMap fk) M2_2 := by have h := hw_2_2; rw [Nat.sub_self] at h; simpa [reps] using h
         refine frW hw2_2_2 .head (fun Hf2_2 hlf2_2 hfz2_2 => ?_)
         have hrs2_2 := RowsAt.row (R := At_AlterPartitionRequestTopicPartition) hfz2_2 hs_2_2.symm hw2_2_2.le.1 (fun p hp => At_AlterPartitionRequestTopicPartition.mono _ _ _ _ hlf2_2 (hg_2_2 p hp))
         rw [he_2_2] at hrs2_2
         have hf2_2 : ListAt Hf2_2 x2_2.1 7 At_AlterPartitionRequestTopicPartition a2_2 c2_2 := by rw [ex2_2]; exact listAt_of hrs2_2 hi2_2 (fun h => by have h1 := nul_le h; rw [show (lT x2_2.1).length = 0 by omega]; rfl)
         have hRx2_2 : RdAt Hf2_2 232 b_1 x2_2.2 RN2_2 := by rw [ex2_2]; exact (hR_2_2.mono hlf2_2)
         refine exX ?_
         refine XT ?_
         refine XT ?_
         refine Xb ?_
         refine Nt ?_
         refine sr ?_
         refine mv rfl rfl ?_
         refine asg rfl rfl ?_
         refine nl ?_
         refine rg ?_
         refine mv rfl rfl ?_
         refine mv rfl rfl ?_
         refine nc rfl rfl ?_
         refine fa F201_2 rfl rfl ?_
         refine stM (off := 17) Tryz.sizeOf199 rfl (by rw [ho2]) rfl rfl rfl (.tail .head) ?_
         refine nl ?_
         refine sr ?_
         refine mv rfl rfl ?_
         refine nl ?_
         refine cdT rfl (by omega) ?_
         refine rg ?_
         refine mv rfl rfl ?_
         refine cl rfl rfl rfl (d_tags hRx2_2) rfl (fun v_ H1 L1 le_29 hR_ => ?_)
         obtain ⟨N273, rfl, hR273, m2_t, rfl, hft2_⟩ := hR_
         have hu22_ : u2_ = rTags x2_2.2 := hu2_
         rw [← hu22_] at hR273 hft2_
         refine nc rfl rfl ?_
         refine fa F201_3 rfl rfl ?_
         refine saM (off := 18) Tryz.sizeOf105 rfl (by rw [ho2]) rfl rfl rfl rfl (.tail .head) ?_
         refine nN ?_
         refine Nb ?_
         refine Nt ?_
         refine rg ?_
         refine mv rfl rfl ?_
         refine ad rfl rfl (c := ((k2 + 1 : Nat) : Int)) ((wrap32_le (by omega) (by omega)).trans (by omega)) rfl ?_
         refine asg rfl rfl ?_
         refine nN ?_
         have hfs2 := flatMap_snoc' fk es2 ((⟨([.string ⟨x2_0.1.s.toArray⟩, ub x2_1.1.s 0, ub x2_1.1.s 1, ub x2_1.1.s 2, ub x2_1.1.s 3, ub x2_1.1.s 4, ub x2_1.1.s 5, ub x2_1.1.s 6, ub x2_1.1.s 7, ub x2_1.1.s 8, ub x2_1.1.s 9, ub x2_1.1.s 10, ub x2_1.1.s 11, ub x2_1.1.s 12, ub x2_1.1.s 13, ub x2_1.1.s 14, ub x2_1.1.s 15, .slice a2_2 (lT x2_2.1).length c2_2, .map m2_t] : List Value), rfl, all_one rfl⟩, ((decV 10 (decP fs_sAlterPartitionRequestTopic v true) false true) (rMany (decV 10 (decP fs_sAlterPartitionRequestTopic v true) false true) k2 (rArr true x1.2).2).2).1) : KE 19)
         have hrw2 := hbk2 ([.string ⟨x2_0.1.s.toArray⟩, ub x2_1.1.s 0, ub x2_1.1.s 1, ub x2_1.1.s 2, ub x2_1.1.s 3, ub x2_1.1.s 4, ub x2_1.1.s 5, ub x2_1.1.s 6, ub x2_1.1.s 7, ub x2_1.1.s 8, ub x2_1.1.s 9, ub x2_1.1.s 10, ub x2_1.1.s 11, ub x2_1.1.s 12, ub x2_1.1.s 13, ub x2_1.1.s 14, ub x2_1.1.s 15, .slice a2_2 (lT x2_2.1).length c2_2, .map m2_t] : List Value) rfl
         refine tfN (.tail .head) ?_
         refine fun a_ w_ hA hw => ⟨hkl2, _, _, _, hA.sub ?_, (le_5.trans (le_6.trans (le_8.trans (le_11.trans (le_12.trans (hlf2_2.trans le_29)))))), hw, _, _, _, rfl, rfl, (by rw [rMany_succ]; show RdAt _ 232 b_1 (decP fs_sAlterPartitionRequestTopic v true (rMany (decV 10 (decP fs_sAlterPartitionRequestTopic v true) false true) k2 (rArr true x1.2).2).2).2 _; rw [hD2_]; exact hR273), (by rw [← hfs2]; exact hrw2), (dec_els he_2), (fun p hp => (mem_snoc hp).elim (fun h => At_AlterPartitionRequestTopic.mono _ _ _ _ (le_6.trans (le_8.trans (le_11.trans (le_12.trans (hlf2_2.trans le_29))))) (hg_2 p h)) (fun h => h ▸ (by show At_AlterPartitionRequestTopic _ (decP fs_sAlterPartitionRequestTopic v true (rMany (decV 10 (decP fs_sAlterPartitionRequestTopic v true) false true) k2 (rArr true x1.2).2).2).1 [.string ⟨x2_0.1.s.toArray⟩, ub x2_1.1.s 0, ub x2_1.1.s 1, ub x2_1.1.s 2, ub x2_1.1.s 3, ub x2_1.1.s 4, ub x2_1.1.s 5, ub x2_1.1.s 6, ub x2_1.1.s 7, ub x2_1.1.s 8, ub x2_1.1.s 9, ub x2_1.1.s 10, ub x2_1.1.s 11, ub x2_1.1.s 12, ub x2_1.1.s 13, ub x2_1.1.s 14, ub x2_1.1.s 15, .slice a2_2 (lT x2_2.1).length c2_2, .map m2_t]; rw [hD2_]; exact ⟨a2_2, c2_2, m2_t, rfl, (hf2_2.mono At_AlterPartitionRequestTopicPartition.mono le_29), hft2_⟩)))⟩
         exact (.cons rfl (.cons rfl (.cons rfl (.cons rfl (.cons rfl (.cons rfl (.cons rfl (.cons rfl (.cons rfl (.nil _))))))))))
   ·
    have hkn_ : k2 = (lT x2.1).length := by omega
    subst hkn_
    have hw2_2 : Row 201 19 a2 (lT x2.1).length c2 (es2.flatMap fk) M2 := by have h := hw_2; rw [Nat.sub_self] at h; simpa [reps] using h
    refine frW hw2_2 .head (fun Hf2 hlf2 hfz2 => ?_)
    have hrs2 := RowsAt.row (R := At_AlterPartitionRequestTopic) hfz2 hs_2.symm hw2_2.le.1 (fun p hp => At_AlterPartitionRequestTopic.mono _ _ _ _ hlf2 (hg_2 p hp))
    rw [he_2] at hrs2
    have hf2 : ListAt Hf2 x2.1 19 At_AlterPartitionRequestTopic a2 c2 := by rw [ex2]; exact listAt_of hrs2 hi2 (fun h => by have h1 := nul_le h; rw [show (lT x2.1).length = 0 by omega]; rfl)
    have hRx2 : RdAt Hf2 232 b_1 x2.2 RN2 := by rw [ex2]; exact (hR_2.mono hlf2)
    refine exX ?_
    refine XT ?_
    refine XT ?_
    refine Xb ?_
    refine Nt ?_
    refine sr ?_
    refine mv rfl rfl ?_
    refine asg rfl rfl ?_
    refine nl ?_
    refine rg ?_
    refine mv rfl rfl ?_
    refine mv rfl rfl ?_
    refine nc rfl rfl ?_
    refine fa0 F196_3 rfl rfl ?_
    refine st Tryz.sizeOf194 rfl rfl rfl rfl (.tail .head) ?_
    refine nl ?_
    refine sq ?_
    refine sr ?_
    refine mv rfl rfl ?_
    refine nl ?_
    refine cdT rfl (by omega) ?_
    refine rg ?_
    refine mv rfl rfl ?_
    refine cl rfl rfl rfl (d_tags hRx2) rfl (fun v_ H1 L1 le_30 hR_ => ?_)
    obtain ⟨N283, rfl, hR283, mt, rfl, hft⟩ := hR_
    have hu2 : u = rTags x2.2 := hu
    rw [← hu2] at hR283 hft
    refine nc rfl rfl ?_
    refine fa0 F196_4 rfl rfl ?_
    refine sa Tryz.sizeOf105 rfl rfl rfl rfl rfl (.tail .head) ?_
    refine nl ?_
    refine sr ?_
    refine cl rfl rfl rfl (r_complete hR283 (he.mono (le_4.trans (le_5.trans (hlf2.trans le_30))))) rfl (fun v_ H1 L1 hle_ hR_ => ?_)
    obtain ⟨rfl, rfl, rfl⟩ := hR_
    refine asg rfl rfl ?_
    refine nl ?_
    refine drW .head ?_
    have hA_ := (show At_AlterPartitionRequest v _ (decP fs_AlterPartitionRequest v true _).1 [.int .i16 v, .int .i32 (IntKind.i32.wrap x0.1.n), .int .i64 x1.1.n, .slice a2 (lT x2.1).length c2, .map mt] from (by rw [hD]; exact ⟨a2, c2, mt, rfl, (hf2.mono At_AlterPartitionRequestTopic.mono le_30), hft⟩))
    refine rT rfl rfl (le_4.trans (le_5.trans (hlf2.trans le_30))) (fun _ _ h => h) ⟨_, rfl, ?_⟩
    have hz := RdEnd.of (e := e) hA_
    rw [show (decP fs_AlterPartitionRequest v true _).2.bad = u.2.bad by rw [hD]] at hz
    exact hz
end Go.Sx

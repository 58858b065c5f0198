import Derived.Test.YthgkgbaggjongaaGreatDoorSxTab
import Derived.Test.YthgkgbaggjongaaGreatDoorBAddPartitionsToTxnResponse
import Derived.Test.YthgkgbaggjongaaGreatDoorRK2
import Derived.KernelRfl
set_option linter.unusedVariables false
set_option linter.unusedSimpArgs false
set_option maxRecDepth 100000
set_option maxHeartbeats 20000000
namespace Go.Sx
open Go.Proofs
theorem def_AddPartitionsToTxnResponseTransactionTopicPartition {H : Fz} {L : Own} {b o : Nat} {pre post : List Value} {c0 c1 c2 : Value} (ho : o = pre.length) :
  Fn Tryz.prog 242 [.pointer (some ⟨b, o, none⟩)] H ([(b, .cells (pre ++ ([c0, c1, c2] : List Value) ++ post).toArray 265 (0, 0))] :: L) (fun _ H' L' => H = H' ∧ L' = [(b, .cells (pre ++ ([c0, c1, c2] : List Value) ++ post).toArray 265 (0, 0))] :: L) := by
 refine Fn.mk Tryz.call242 Tryz.func242 rfl Tryz.ntmps242 rfl ?_
 refine skN ?_
 exact fun _ _ hA hw => rn rfl (Fz.le.refl _) ⟨rfl, rfl⟩ hA hw
theorem def_AddPartitionsToTxnResponseTransactionTopic {H : Fz} {L : Own} {b o : Nat} {pre post : List Value} {c0 c1 c2 : Value} (ho : o = pre.length) :
  Fn Tryz.prog 241 [.pointer (some ⟨b, o, none⟩)] H ([(b, .cells (pre ++ ([c0, c1, c2] : List Value) ++ post).toArray 263 (0, 0))] :: L) (fun _ H' L' => H = H' ∧ L' = [(b, .cells (pre ++ ([c0, c1, c2] : List Value) ++ post).toArray 263 (0, 0))] :: L) := by
 refine Fn.mk Tryz.call241 Tryz.func241 rfl Tryz.ntmps241 rfl ?_
 refine skN ?_
 exact fun _ _ hA hw => rn rfl (Fz.le.refl _) ⟨rfl, rfl⟩ hA hw
theorem def_AddPartitionsToTxnResponseTransaction {H : Fz} {L : Own} {b o : Nat} {pre post : List Value} {c0 c1 c2 : Value} (ho : o = pre.length) :
  Fn Tryz.prog 240 [.pointer (some ⟨b, o, none⟩)] H ([(b, .cells (pre ++ ([c0, c1, c2] : List Value) ++ post).toArray 143 (0, 0))] :: L) (fun _ H' L' => H = H' ∧ L' = [(b, .cells (pre ++ ([c0, c1, c2] : List Value) ++ post).toArray 143 (0, 0))] :: L) := by
 refine Fn.mk Tryz.call240 Tryz.func240 rfl Tryz.ntmps240 rfl ?_
 refine skN ?_
 exact fun _ _ hA hw => rn rfl (Fz.le.refl _) ⟨rfl, rfl⟩ hA hw
theorem def_AddPartitionsToTxnResponseTopicPartition {H : Fz} {L : Own} {b o : Nat} {pre post : List Value} {c0 c1 c2 : Value} (ho : o = pre.length) :
  Fn Tryz.prog 244 [.pointer (some ⟨b, o, none⟩)] H ([(b, .cells (pre ++ ([c0, c1, c2] : List Value) ++ post).toArray 267 (0, 0))] :: L) (fun _ H' L' => H = H' ∧ L' = [(b, .cells (pre ++ ([c0, c1, c2] : List Value) ++ post).toArray 267 (0, 0))] :: L) := by
 refine Fn.mk Tryz.call244 Tryz.func244 rfl Tryz.ntmps244 rfl ?_
 refine skN ?_
 exact fun _ _ hA hw => rn rfl (Fz.le.refl _) ⟨rfl, rfl⟩ hA hw
theorem def_AddPartitionsToTxnResponseTopic {H : Fz} {L : Own} {b o : Nat} {pre post : List Value} {c0 c1 c2 : Value} (ho : o = pre.length) :
  Fn Tryz.prog 243 [.pointer (some ⟨b, o, none⟩)] H ([(b, .cells (pre ++ ([c0, c1, c2] : List Value) ++ post).toArray 148 (0, 0))] :: L) (fun _ H' L' => H = H' ∧ L' = [(b, .cells (pre ++ ([c0, c1, c2] : List Value) ++ post).toArray 148 (0, 0))] :: L) := by
 refine Fn.mk Tryz.call243 Tryz.func243 rfl Tryz.ntmps243 rfl ?_
 refine skN ?_
 exact fun _ _ hA hw => rn rfl (Fz.le.refl _) ⟨rfl, rfl⟩ hA hw
theorem def0_AddPartitionsToTxnResponse {H : Fz} {L : Own} {b : Nat} {c0 c1 c2 c3 c4 c5 : Value} :
  Fn Tryz.prog 155 [.pointer (some ⟨b, 0, none⟩)] H ([(b, .cells [c0, c1, c2, c3, c4, c5].toArray 138 (0, 0))] :: L) (fun _ H' L' => H = H' ∧ L' = [(b, .cells [c0, c1, c2, c3, c4, c5].toArray 138 (0, 0))] :: L) := by
 refine Fn.mk Tryz.call155 Tryz.func155 rfl Tryz.ntmps155 rfl ?_
 refine skN ?_
 exact fun _ _ hA hw => rn rfl (Fz.le.refl _) ⟨rfl, rfl⟩ hA hw
theorem rd_AddPartitionsToTxnResponse_f {H : Fz} {L : Own} {b : Nat} {v : Int} {a : Option Addr} {c : Nat} {s : List UInt8} {e : Value} (hB : BytesAt H a c s) (hL_ : s.length ≤ BR) (he : H.at 1 0 [e]) (hv0 : 0 ≤ v) (hv1 : v ≤ 2) :
  Fn Tryz.prog 158 [.pointer (some ⟨b, 0, none⟩), .slice a s.length c, .bool false] H ([(b, .cells [.int .i16 v, .int .i32 0, .int .i16 0, .slice none 0 0, .slice none 0 0, .map none].toArray 138 (0, 0))] :: L) (fun r H' L' => ∃ cs : List Value, L' = [(b, .cells cs.toArray 138 (0, 0))] :: L ∧ RdEnd H' (At_AddPartitionsToTxnResponse v) (decP fs_AddPartitionsToTxnResponse v false ⟨s, false, !a.isNone⟩) e r cs) := by
 refine Fn.mk Tryz.call158 Tryz.func158 rfl Tryz.ntmps158 rfl ?_
 refine sr ?_
 refine asg rfl rfl ?_
 refine nl ?_
 refine sr ?_
 refine mv rfl rfl ?_
 refine cl rfl rfl rfl def0_AddPartitionsToTxnResponse rfl (fun v_ H1 L1 hle_ hR_ => ?_)
 obtain ⟨rfl, rfl⟩ := hR_
 refine nl ?_
 refine sr ?_
 refine mv rfl rfl ?_
 refine bd' S232 rfl rfl rfl ?_
 refine al Tryz.zeroValue232 rfl rfl (fun b_1 => ?_)
 refine sa Tryz.sizeOf232 rfl rfl rfl rfl rfl .head ?_
 have hR0_ : RdAt H 232 b_1 ⟨s, false, !a.isNone⟩ [(b_1, .cells [_, _].toArray 232 (0, 0))] := ⟨a, c, rfl, hB, by simp⟩
 obtain ⟨x0, hx0⟩ : ∃ x, x = stepF (Fd.mk 3 0 (-1) (-1) (-1) 0 0 []) v false ⟨s, false, !a.isNone⟩ := ⟨_, rfl⟩
 obtain ⟨x1, hx1⟩ : ∃ x, x = stepF (Fd.mk 2 4 (-1) (-1) (-1) 0 0 []) v false x0.2 := ⟨_, rfl⟩
 obtain ⟨x2, hx2⟩ : ∃ x, x = stepF (Fd.mk 11 4 (-1) (-1) (-1) 0 10 fs_sAddPartitionsToTxnResponseTransaction) v false x1.2 := ⟨_, rfl⟩
 obtain ⟨x3, hx3⟩ : ∃ x, x = stepF (Fd.mk 11 0 3 (-1) (-1) 0 10 fs_sAddPartitionsToTxnResponseTopic) v false x2.2 := ⟨_, rfl⟩
 obtain ⟨u, hu⟩ : ∃ x, x = tailU false x3.2 := ⟨_, rfl⟩
 have hD : decP fs_AddPartitionsToTxnResponse v false ⟨s, false, !a.isNone⟩ = (.mk 0 [] false [x0.1, x1.1, x2.1, x3.1] u.1, u.2) := by
  generalize (⟨s, false, !a.isNone⟩ : Rd) = r_ at hx0 ⊢
  rw [decP_eq]; unfold fs_AddPartitionsToTxnResponse; simp only [decFs_cons, decFs_nil, ← hx0, ← hx1, ← hx2, ← hx3, ← hu]
 have hL0 : x0.2.s.length ≤ BR := by rw [hx0]; exact Nat.le_trans (stepF_shr _ _ _ _) hL_
 have hL1 : x1.2.s.length ≤ BR := by rw [hx1]; exact Nat.le_trans (stepF_shr _ _ _ _) hL0
 have hL2 : x2.2.s.length ≤ BR := by rw [hx2]; exact Nat.le_trans (stepF_shr _ _ _ _) hL1
 have hL3 : x3.2.s.length ≤ BR := by rw [hx3]; exact Nat.le_trans (stepF_shr _ _ _ _) hL2
 have hE : u.2.bad = true → (decP fs_AddPartitionsToTxnResponse v false ⟨s, false, !a.isNone⟩).2.bad = true := fun h => by rw [hD]; exact h
 have hB3 : x3.2.bad = true → (decP fs_AddPartitionsToTxnResponse v false ⟨s, false, !a.isNone⟩).2.bad = true := fun h => hE (by rw [hu]; exact tailU_bad h)
 have hB2 : x2.2.bad = true → (decP fs_AddPartitionsToTxnResponse v false ⟨s, false, !a.isNone⟩).2.bad = true := fun h => hB3 (by rw [hx3]; exact step_bad h)
 have hB1 : x1.2.bad = true → (decP fs_AddPartitionsToTxnResponse v false ⟨s, false, !a.isNone⟩).2.bad = true := fun h => hB2 (by rw [hx2]; exact step_bad h)
 have hB0 : x0.2.bad = true → (decP fs_AddPartitionsToTxnResponse v false ⟨s, false, !a.isNone⟩).2.bad = true := fun h => hB1 (by rw [hx1]; exact step_bad h)
 refine nl ?_
 refine sr ?_
 refine mv rfl rfl ?_
 refine nc rfl rfl ?_
 refine fa0 F138_0 rfl rfl ?_
 refine ld (Says.own (.tail .head)) Tryz.isAgg51 rfl (Nat.zero_add _).symm rfl rfl ?_
 refine asg rfl rfl ?_
 refine nl ?_
 refine sr ?_
 refine mv rfl rfl ?_
 refine nl ?_
 refine sr ?_
 refine mv rfl rfl ?_
 refine ge rfl rfl rfl ?_
 refine asg rfl rfl ?_
 refine nl ?_
 refine sr ?_
 refine mv rfl rfl ?_
 refine nl ?_
 refine sr ?_
 refine mv rfl rfl ?_
 refine asg rfl rfl ?_
 refine nl ?_
 refine sq ?_
 refine sr ?_
 have ex0 : x0 = decV 3 (decP [] v false) false false ⟨s, false, !a.isNone⟩ := (hx0.trans (step_yes (by decide) (show (0 : Int) ≤ v by omega) (Or.inl (by decide)))).trans (decF'_val (by decide) (rfl))
 refine cl rfl rfl rfl (d3 hR0_ ex0) rfl (fun v_ H1 L1 hle_ hR_ => ?_)
 obtain ⟨N63, rfl, hR63, rfl, rfl⟩ := hR_
 refine asg rfl rfl ?_
 refine nl ?_
 refine rg ?_
 refine mv rfl rfl ?_
 refine mv rfl rfl ?_
 refine nc rfl rfl ?_
 refine fa0 F138_1 rfl rfl ?_
 refine st Tryz.sizeOf21 rfl rfl rfl rfl (.tail .head) ?_
 refine nl ?_
 refine sq ?_
 refine sr ?_
 refine mv rfl rfl ?_
 refine ge rfl rfl rfl ?_
 refine nl ?_
 refine cdF rfl (by omega) ?_
 refine skt ?_
 refine sq ?_
 refine sr ?_
 refine mv rfl rfl ?_
 refine ge rfl rfl rfl ?_
 refine nl ?_
 refine cdF rfl (by omega) ?_
 refine skt ?_
 refine sq ?_
 refine sr ?_
 refine mv rfl rfl ?_
 refine ge rfl rfl rfl ?_
 refine mv rfl rfl ?_
 refine spl (t := 228) rfl (fun _ => ?_) (fun hn_ => absurd (by omega) hn_)
 refine gr rfl rfl ?_
 refine mv rfl rfl ?_
 refine gr rfl rfl ?_
 refine le rfl rfl rfl ?_
 refine pk rfl rfl rfl rfl ?_
 refine nl ?_
 refine cdT rfl (by omega) ?_
 refine sr ?_
 refine mv rfl rfl ?_
 refine nc rfl rfl ?_
 refine fa0 F138_4 rfl rfl ?_
 refine ld (Says.own (.tail .head)) Tryz.isAgg136 rfl (Nat.zero_add _).symm rfl rfl ?_
 refine asg rfl rfl ?_
 refine nl ?_
 refine sr ?_
 refine mv rfl rfl ?_
 refine asg rfl rfl ?_
 refine nl ?_
 refine sr ?_
 refine asg rfl rfl ?_
 refine nl ?_
 refine sq ?_
 refine sr ?_
 refine mv rfl rfl ?_
 refine nl ?_
 refine cdF rfl (by omega) ?_
 refine rg ?_
 obtain rfl : x1 = ((Tr.mk 0 [] false [] []), x0.2) := (hx1.trans (step_no (Or.inl (show v < (4 : Int) by omega)))).trans (by rw [dflF_eq]; rfl)
 obtain rfl : x2 = ((Tr.mk 0 [] true [] []), x0.2) := (hx2.trans (step_no (Or.inl (show v < (4 : Int) by omega)))).trans (by rw [dflF_eq]; rfl)
 have ey3 : x3 = (.mk 0 [] (if 0 ≤ ((-1) : Int) ∧ (v < ((-1) : Int) ∨ (rArr false x0.2).1 = 0) then false else decide ((rArr false x0.2).1 ≤ 0)) (rMany (decV 10 (decP fs_sAddPartitionsToTxnResponseTopic v false) false false) (rArr false x0.2).1.toNat (rArr false x0.2).2).1 [], (rMany (decV 10 (decP fs_sAddPartitionsToTxnResponseTopic v false) false false) (rArr false x0.2).1.toNat (rArr false x0.2).2).2) := (hx3.trans (step_yes (by decide) (show (0 : Int) ≤ v by omega) (Or.inr (show v ≤ (3 : Int) by omega)))).trans (decF'_list rfl rfl)
 have hn3 : (rArr false x0.2).1.toNat = (lT x3.1).length := by rw [ey3]; exact (lT_many nul_le).symm
 have ex3 := ey3
 rw [hn3] at ex3
 have hl3 := rArr_le false x0.2
 have hm3 : (rArr false x0.2).2.s.length ≤ BR := Nat.le_trans (rArr_len false x0.2) hL0
 have hnb3 : (lT x3.1).length ≤ BR := by omega
 refine cl rfl rfl rfl (r_arrf hR63) rfl (fun v_ H1 L1 hle_ hR_ => ?_)
 obtain ⟨rfl, N239, rfl, hR239, rfl⟩ := hR_
 have hh3 := rArr_hi false x0.2
 refine asg rfl rfl ?_
 refine nl ?_
 refine sq ?_
 refine sr ?_
 refine cl rfl rfl rfl (r_ok hR239) rfl (fun v_ H1 L1 hle_ hR_ => ?_)
 obtain ⟨rfl, rfl, rfl⟩ := hR_
 refine nt rfl rfl ?_
 refine nl ?_
 refine cb rfl (fun h241 => ?_) (fun h241 => ?_)
 ·
  have hbad_ : (rArr false x0.2).2.bad = true := by simpa using h241
  refine sr ?_
  refine cl rfl rfl rfl (r_complete hR239 he) rfl (fun v_ H1 L1 hle_ hR_ => ?_)
  obtain ⟨rfl, rfl, rfl⟩ := hR_
  refine asg rfl rfl ?_
  refine nl ?_
  refine drW .head ?_
  exact rT rfl rfl (Fz.le.refl _) (fun _ _ h => h) ⟨_, rfl, RdEnd.out (hB3 (by rw [ey3]; exact rMany_bad (fun r h => decV_bad (decP_bad _ _ _) h) _ _ hbad_)) hbad_⟩
 ·
  refine skt ?_
  refine sr ?_
  refine mv rfl rfl ?_
  refine sh' (j := 0) Tryz.runUnderlying136 Tryz.sizeOf148 rfl rfl rfl (Nat.zero_le _) rfl ?_
  refine asg rfl rfl ?_
  refine nl ?_
  refine sq ?_
  refine sr ?_
  refine mv rfl rfl ?_
  refine gt rfl rfl rfl ?_
  refine nl ?_
  refine nulC2 ?_
  refine cutT (fun l' H' L' => ∃ (a3 : Option Addr), ∃ (c3 : Nat), ∃ (Nr3 : Chunk), [(2, .bool false), (7, .pointer (some ⟨b_1, 0, none⟩)), (9, .bool (decide ((3 : Int) ≤ v))), (10, .pointer (some ⟨b, 0, none⟩)), (35, .slice none 0 0), (36, .slice a3 (lT x3.1).length c3), (37, .int .i32 (rArr false x0.2).1)] = l' ∧ Nr3 :: N239 :: [(b, .cells [.int .i16 v, .int .i32 (IntKind.i32.wrap x0.1.n), .int .i16 0, .slice none 0 0, .slice none 0 0, .map none].toArray 138 (0, 0))] :: L = L' ∧ Row 148 3 a3 (lT x3.1).length c3 (reps [.string ⟨#[]⟩, .slice none 0 0, .map none] (lT x3.1).length) Nr3 ∧ a3.isNone = (if 0 ≤ ((-1) : Int) ∧ (v < ((-1) : Int) ∨ (rArr false x0.2).1 = 0) then false else decide ((rArr false x0.2).1 ≤ 0))) ?_ (fun l' H' L' le_3 hI => ?_)
  ·
   refine cd rfl (fun h246 => ?_) (fun h246 => ?_)
   ·
    refine rg ?_
    refine mv rfl rfl ?_
    refine mv rfl rfl ?_
    refine apz (zs := [.string ⟨#[]⟩, .slice none 0 0, .map none]) (m := (lT x3.1).length) Tryz.underlying136 Tryz.underlying21 I148 rfl rfl rfl (by omega) (by omega) (by have h9 := hnb3; unfold BR at h9; omega) (by have h9 := hnb3; unfold BR at h9; unfold maxLen; omega) rfl (fun g249 cp249 N249 r249 => ?_)
    refine asg rfl rfl ?_
    refine nN ?_
    refine drN (.tail .head) ?_
    refine fun a_ w_ hA hw => ⟨_, _, _, hA.sub ?_, (Fz.le.refl _), hw, (some ⟨g249, 0, none⟩), cp249, N249, rfl, rfl, r249, (by rw [if_neg (by omega)]; exact (decide_eq_false (by omega)).symm)⟩
    exact (.cons rfl (.cons rfl (.cons rfl (.cons rfl (.cons rfl (.cons rfl (.cons rfl (.nil _))))))))
   ·
    refine skN ?_
    refine fun a_ w_ hA hw => ⟨_, _, _, hA.sub ?_, (Fz.le.refl _), hw, none, 0, [], rfl, rfl, (by rw [show (lT x3.1).length = 0 by omega]; exact (Row.nil _ _)), (by rw [if_neg (by omega)]; exact (decide_eq_true (by omega)).symm)⟩
    exact (.cons rfl (.cons rfl (.cons rfl (.cons rfl (.cons rfl (.cons (by rw [show (lT x3.1).length = 0 by omega]; rfl) (.cons rfl (.nil _))))))))
  ·
   obtain ⟨a3, c3, Nr3, rfl, rfl, pj0, pj1⟩ := hI
   have hr3 := pj0
   have hi3 := pj1
   refine sq ?_
   refine sr ?_
   refine asg rfl rfl ?_
   refine nl ?_
   refine bl (lp ((lT x3.1).length) (fun k3 l' H' L' => ∃ (es3 : List (KE 3)) (M3 RN3 : Chunk), [(2, .bool false), (7, .pointer (some ⟨b_1, 0, none⟩)), (9, .bool (decide ((3 : Int) ≤ v))), (10, .pointer (some ⟨b, 0, none⟩)), (35, .slice none 0 0), (36, .slice a3 (lT x3.1).length c3), (37, .int .i32 (rArr false x0.2).1), (38, .int .i32 (k3 : Int))] = l' ∧ M3 :: RN3 :: [(b, .cells [.int .i16 v, .int .i32 (IntKind.i32.wrap x0.1.n), .int .i16 0, .slice none 0 0, .slice none 0 0, .map none].toArray 138 (0, 0))] :: L = L' ∧ RdAt H' 232 b_1 (rMany (decV 10 (decP fs_sAddPartitionsToTxnResponseTopic v false) false false) k3 (rArr false x0.2).2).2 RN3 ∧ Row 148 3 a3 (lT x3.1).length c3 (es3.flatMap fk ++ reps [.string ⟨#[]⟩, .slice none 0 0, .map none] ((lT x3.1).length - k3)) M3 ∧ es3.map (·.2) = (rMany (decV 10 (decP fs_sAddPartitionsToTxnResponseTopic v false) false false) k3 (rArr false x0.2).2).1 ∧ ∀ p ∈ es3, At_AddPartitionsToTxnResponseTopic H' p.2 (fk p)) [(2, .bool false), (7, .pointer (some ⟨b_1, 0, none⟩)), (9, .bool (decide ((3 : Int) ≤ v))), (10, .pointer (some ⟨b, 0, none⟩)), (35, .slice none 0 0), (36, .slice a3 (lT x3.1).length c3), (37, .int .i32 (rArr false x0.2).1), (38, .int .i32 (0 : Int))] (.cons rfl (.cons rfl (.cons rfl (.cons rfl (.cons rfl (.cons rfl (.cons rfl (.cons rfl (.nil _))))))))) ⟨[], Nr3, _, rfl, rfl, (hR239.mono le_3), hr3, rfl, (fun p hp => by cases hp)⟩ (fun k3 l' H' L' hk3 le_4 hI => ?_))
   obtain ⟨es3, M3, RN3, rfl, rfl, hR_3, hw_3, he_3, hg_3⟩ := hI
   have hs_3 := els_len he_3
   have hp_3 : (es3.flatMap fk).length = k3 * 3 := els_flat hs_3
   refine sq ?_
   refine sr ?_
   refine mv rfl rfl ?_
   refine mv rfl rfl ?_
   refine lt rfl rfl rfl ?_
   refine nl ?_
   refine cd rfl (fun h252 => ?_) (fun h252 => ?_)
   ·
    have hkl3 : k3 < (lT x3.1).length := by omega
    obtain ⟨g3, po3, hga3, rfl, hbk3⟩ := hw_3.next (zs := [.string ⟨#[]⟩, .slice none 0 0, .map none]) hkl3 rfl (by decide)
    have ho3 : 0 + k3 * 3 = (es3.flatMap fk).length := by rw [hp_3]; omega
    have hbz3 : ((decV 10 (decP fs_sAddPartitionsToTxnResponseTopic v false) false false) (rMany (decV 10 (decP fs_sAddPartitionsToTxnResponseTopic v false) false false) k3 (rArr false x0.2).2).2).2.bad = true → (decP fs_AddPartitionsToTxnResponse v false ⟨s, false, !a.isNone⟩).2.bad = true := fun h => hB3 (by rw [ex3]; exact rMany_mono (fun r h => decV_bad (fun r h => decP_bad _ _ _ r h) h) _ (show k3 + 1 ≤ (lT x3.1).length from hkl3) (by rw [rMany_succ]; exact h))
    have hLk3 : (rMany (decV 10 (decP fs_sAddPartitionsToTxnResponseTopic v false) false false) k3 (rArr false x0.2).2).2.s.length ≤ BR := Nat.le_trans (rMany_shr (fun r => decV_shr (fun r => decP_shr _ _ _ r) r) _ _) hm3
    have hL3__ := hLk3
    obtain ⟨x3_0, hx3_0⟩ : ∃ x, x = stepF (Fd.mk 8 0 (-1) (-1) (-1) 0 0 []) v false (rMany (decV 10 (decP fs_sAddPartitionsToTxnResponseTopic v false) false false) k3 (rArr false x0.2).2).2 := ⟨_, rfl⟩
    obtain ⟨x3_1, hx3_1⟩ : ∃ x, x = stepF (Fd.mk 11 0 (-1) (-1) (-1) 0 10 fs_sAddPartitionsToTxnResponseTopicPartition) v false x3_0.2 := ⟨_, rfl⟩
    obtain ⟨u3_, hu3_⟩ : ∃ x, x = tailU false x3_1.2 := ⟨_, rfl⟩
    have hD3_ : decP fs_sAddPartitionsToTxnResponseTopic v false (rMany (decV 10 (decP fs_sAddPartitionsToTxnResponseTopic v false) false false) k3 (rArr false x0.2).2).2 = (.mk 0 [] false [x3_0.1, x3_1.1] u3_.1, u3_.2) := by
     generalize ((rMany (decV 10 (decP fs_sAddPartitionsToTxnResponseTopic v false) false false) k3 (rArr false x0.2).2).2 : Rd) = r_ at hx3_0 ⊢
     rw [decP_eq]; unfold fs_sAddPartitionsToTxnResponseTopic; simp only [decFs_cons, decFs_nil, ← hx3_0, ← hx3_1, ← hu3_]
    have hL3_0 : x3_0.2.s.length ≤ BR := by rw [hx3_0]; exact Nat.le_trans (stepF_shr _ _ _ _) hL3__
    have hL3_1 : x3_1.2.s.length ≤ BR := by rw [hx3_1]; exact Nat.le_trans (stepF_shr _ _ _ _) hL3_0
    have hE3_ : u3_.2.bad = true → (decP fs_AddPartitionsToTxnResponse v false ⟨s, false, !a.isNone⟩).2.bad = true := fun h => hbz3 (by show (decP fs_sAddPartitionsToTxnResponseTopic v false (rMany (decV 10 (decP fs_sAddPartitionsToTxnResponseTopic v false) false false) k3 (rArr false x0.2).2).2).2.bad = true; rw [hD3_]; exact h)
    have hB3_1 : x3_1.2.bad = true → (decP fs_AddPartitionsToTxnResponse v false ⟨s, false, !a.isNone⟩).2.bad = true := fun h => hE3_ (by rw [hu3_]; exact tailU_bad h)
    have hB3_0 : x3_0.2.bad = true → (decP fs_AddPartitionsToTxnResponse v false ⟨s, false, !a.isNone⟩).2.bad = true := fun h => hB3_1 (by rw [hx3_1]; exact step_bad h)
    refine skt ?_
    refine sq ?_
    refine bl ?_
    refine sr ?_
    refine mv rfl rfl ?_
    refine mv rfl rfl ?_
    refine ixk (j := k3) Tryz.runUnderlying136 Tryz.sizeOf148 rfl hga3 rfl rfl hkl3 rfl ?_
    refine asg rfl rfl ?_
    refine nl ?_
    refine sr ?_
    refine mv rfl rfl ?_
    refine cl rfl rfl rfl (def_AddPartitionsToTxnResponseTopic ho3) rfl (fun v_ H1 L1 hle_ hR_ => ?_)
    obtain ⟨rfl, rfl⟩ := hR_
    refine nl ?_
    refine sr ?_
    refine mv rfl rfl ?_
    refine asg rfl rfl ?_
    refine nl ?_
    refine sq ?_
    refine sr ?_
    refine asg rfl rfl ?_
    refine nl ?_
    refine sq ?_
    refine sr ?_
    refine mv rfl rfl ?_
    refine nl ?_
    refine cF rfl ?_
    refine sr ?_
    refine mv rfl rfl ?_
    refine nl ?_
    refine cdF rfl (by omega) ?_
    refine rg ?_
    refine tf (.tail .head) ?_
    have ex3_0 : x3_0 = decV 8 (decP [] v false) false false (rMany (decV 10 (decP fs_sAddPartitionsToTxnResponseTopic v false) false false) k3 (rArr false x0.2).2).2 := (hx3_0.trans (step_yes (by decide) (show (0 : Int) ≤ v by omega) (Or.inl (by decide)))).trans (decF'_val (by decide) (rfl))
    refine cl rfl rfl rfl (d8f hR_3 ex3_0) rfl (fun v_ H1 L1 le_5 hR_ => ?_)
    obtain ⟨N267, rfl, hR267, rfl, rfl⟩ := hR_
    refine asg rfl rfl ?_
    refine nl ?_
    refine rg ?_
    refine mv rfl rfl ?_
    refine mv rfl rfl ?_
    refine nc rfl rfl ?_
    refine fa F148_0 rfl rfl ?_
    refine stM (off := 0) Tryz.sizeOf9 rfl (by rw [ho3]) rfl rfl rfl (.tail .head) ?_
    refine nl ?_
    refine sq ?_
    refine sr ?_
    refine mv rfl rfl ?_
    refine nc rfl rfl ?_
    refine fa F148_1 rfl rfl ?_
    refine ld (j := 1) (off := 0 + k3 * 3) (Says.mid (.tail .head) ho3) Tryz.isAgg146 rfl rfl rfl rfl ?_
    refine asg rfl rfl ?_
    refine nl ?_
    refine sr ?_
    refine mv rfl rfl ?_
    refine asg rfl rfl ?_
    refine nl ?_
    refine sr ?_
    refine asg rfl rfl ?_
    refine nl ?_
    refine sq ?_
    refine sr ?_
    refine mv rfl rfl ?_
    refine nl ?_
    refine cdF rfl (by omega) ?_
    refine rg ?_
    have ey3_1 : x3_1 = (.mk 0 [] (if 0 ≤ ((-1) : Int) ∧ (v < ((-1) : Int) ∨ (rArr false x3_0.2).1 = 0) then false else decide ((rArr false x3_0.2).1 ≤ 0)) (rMany (decV 10 (decP fs_sAddPartitionsToTxnResponseTopicPartition v false) false false) (rArr false x3_0.2).1.toNat (rArr false x3_0.2).2).1 [], (rMany (decV 10 (decP fs_sAddPartitionsToTxnResponseTopicPartition v false) false false) (rArr false x3_0.2).1.toNat (rArr false x3_0.2).2).2) := (hx3_1.trans (step_yes (by decide) (show (0 : Int) ≤ v by omega) (Or.inl (by decide)))).trans (decF'_list rfl rfl)
    have hn3_1 : (rArr false x3_0.2).1.toNat = (lT x3_1.1).length := by rw [ey3_1]; exact (lT_many nul_le).symm
    have ex3_1 := ey3_1
    rw [hn3_1] at ex3_1
    have hl3_1 := rArr_le false x3_0.2
    have hm3_1 : (rArr false x3_0.2).2.s.length ≤ BR := Nat.le_trans (rArr_len false x3_0.2) hL3_0
    have hnb3_1 : (lT x3_1.1).length ≤ BR := by omega
    refine cl rfl rfl rfl (r_arrf hR267) rfl (fun v_ H1 L1 hle_ hR_ => ?_)
    obtain ⟨rfl, N279, rfl, hR279, rfl⟩ := hR_
    have hh3_1 := rArr_hi false x3_0.2
    refine asg rfl rfl ?_
    refine nl ?_
    refine sq ?_
    refine sr ?_
    refine cl rfl rfl rfl (r_ok hR279) rfl (fun v_ H1 L1 hle_ hR_ => ?_)
    obtain ⟨rfl, rfl, rfl⟩ := hR_
    refine nt rfl rfl ?_
    refine nl ?_
    refine cb rfl (fun h281 => ?_) (fun h281 => ?_)
    ·
     have hbad_ : (rArr false x3_0.2).2.bad = true := by simpa using h281
     refine sr ?_
     refine cl rfl rfl rfl (r_complete hR279 (he.mono (le_3.trans le_4))) rfl (fun v_ H1 L1 hle_ hR_ => ?_)
     obtain ⟨rfl, rfl, rfl⟩ := hR_
     refine asg rfl rfl ?_
     refine nl ?_
     refine drW .head ?_
     refine drW .head ?_
     exact rT rfl rfl (le_3.trans le_4) (fun _ _ h => h) ⟨_, rfl, RdEnd.out (hB3_1 (by rw [ey3_1]; exact rMany_bad (fun r h => decV_bad (decP_bad _ _ _) h) _ _ hbad_)) hbad_⟩
    ·
     refine skt ?_
     refine sr ?_
     refine mv rfl rfl ?_
     refine sh' (j := 0) Tryz.runUnderlying146 Tryz.sizeOf267 rfl rfl rfl (Nat.zero_le _) rfl ?_
     refine asg rfl rfl ?_
     refine nl ?_
     refine sq ?_
     refine sr ?_
     refine mv rfl rfl ?_
     refine gt rfl rfl rfl ?_
     refine nl ?_
     refine nulC2 ?_
     refine cutT (fun l' H' L' => ∃ (a3_1 : Option Addr), ∃ (c3_1 : Nat), ∃ (Nr3_1 : Chunk), [(2, .bool false), (7, .pointer (some ⟨b_1, 0, none⟩)), (9, .bool (decide ((3 : Int) ≤ v))), (10, .pointer (some ⟨b, 0, none⟩)), (35, .slice none 0 0), (36, .slice a3 (lT x3.1).length c3), (37, .int .i32 (rArr false x0.2).1), (38, .int .i32 (k3 : Int)), (40, .pointer (some ⟨g3, 0 + k3 * 3, none⟩)), (42, .slice none 0 0), (43, .slice a3_1 (lT x3_1.1).length c3_1), (44, .int .i32 (rArr false x3_0.2).1)] = l' ∧ Nr3_1 :: N279 :: [(g3, .cells ((es3.flatMap fk) ++ ([.string ⟨x3_0.1.s.toArray⟩, .slice none 0 0, .map none] : List Value) ++ po3).toArray 148 (0, 0))] :: [(b, .cells [.int .i16 v, .int .i32 (IntKind.i32.wrap x0.1.n), .int .i16 0, .slice none 0 0, .slice none 0 0, .map none].toArray 138 (0, 0))] :: L = L' ∧ Row 267 3 a3_1 (lT x3_1.1).length c3_1 (reps [.int .i32 0, .int .i16 0, .map none] (lT x3_1.1).length) Nr3_1 ∧ a3_1.isNone = (if 0 ≤ ((-1) : Int) ∧ (v < ((-1) : Int) ∨ (rArr false x3_0.2).1 = 0) then false else decide ((rArr false x3_0.2).1 ≤ 0))) ?_ (fun l' H' L' le_6 hI => ?_)
     ·
      refine cd rfl (fun h286 => ?_) (fun h286 => ?_)
      ·
       refine rg ?_
       refine mv rfl rfl ?_
       refine mv rfl rfl ?_
       refine apz (zs := [.int .i32 0, .int .i16 0, .map none]) (m := (lT x3_1.1).length) Tryz.underlying146 Tryz.underlying21 I267 rfl rfl rfl (by omega) (by omega) (by have h9 := hnb3_1; unfold BR at h9; omega) (by have h9 := hnb3_1; unfold BR at h9; unfold maxLen; omega) rfl (fun g289 cp289 N289 r289 => ?_)
       refine asg rfl rfl ?_
       refine nN ?_
       refine drN (.tail .head) ?_
       refine fun a_ w_ hA hw => ⟨_, _, _, hA.sub ?_, (Fz.le.refl _), hw, (some ⟨g289, 0, none⟩), cp289, N289, rfl, rfl, r289, (by rw [if_neg (by omega)]; exact (decide_eq_false (by omega)).symm)⟩
       exact (.cons rfl (.cons rfl (.cons rfl (.cons rfl (.cons rfl (.cons rfl (.cons rfl (.cons rfl (.cons rfl (.cons rfl (.cons rfl (.cons rfl (.nil _)))))))))))))
      ·
       refine skN ?_
       refine fun a_ w_ hA hw => ⟨_, _, _, hA.sub ?_, (Fz.le.refl _), hw, none, 0, [], rfl, rfl, (by rw [show (lT x3_1.1).length = 0 by omega]; exact (Row.nil _ _)), (by rw [if_neg (by omega)]; exact (decide_eq_true (by omega)).symm)⟩
       exact (.cons rfl (.cons rfl (.cons rfl (.cons rfl (.cons rfl (.cons rfl (.cons rfl (.cons rfl (.cons rfl (.cons rfl (.cons (by rw [show (lT x3_1.1).length = 0 by omega]; rfl) (.cons rfl (.nil _)))))))))))))
     ·
      obtain ⟨a3_1, c3_1, Nr3_1, rfl, rfl, pj0, pj1⟩ := hI
      have hr3_1 := pj0
      have hi3_1 := pj1
      refine sq ?_
      refine sr ?_
      refine asg rfl rfl ?_
      refine nl ?_
      refine bl (lp ((lT x3_1.1).length) (fun k3_1 l' H' L' => ∃ (es3_1 : List (KE 3)) (M3_1 RN3_1 : Chunk), [(2, .bool false), (7, .pointer (some ⟨b_1, 0, none⟩)), (9, .bool (decide ((3 : Int) ≤ v))), (10, .pointer (some ⟨b, 0, none⟩)), (35, .slice none 0 0), (36, .slice a3 (lT x3.1).length c3), (37, .int .i32 (rArr false x0.2).1), (38, .int .i32 (k3 : Int)), (40, .pointer (some ⟨g3, 0 + k3 * 3, none⟩)), (42, .slice none 0 0), (43, .slice a3_1 (lT x3_1.1).length c3_1), (44, .int .i32 (rArr false x3_0.2).1), (45, .int .i32 (k3_1 : Int))] = l' ∧ M3_1 :: RN3_1 :: [(g3, .cells ((es3.flatMap fk) ++ ([.string ⟨x3_0.1.s.toArray⟩, .slice none 0 0, .map none] : List Value) ++ po3).toArray 148 (0, 0))] :: [(b, .cells [.int .i16 v, .int .i32 (IntKind.i32.wrap x0.1.n), .int .i16 0, .slice none 0 0, .slice none 0 0, .map none].toArray 138 (0, 0))] :: L = L' ∧ RdAt H' 232 b_1 (rMany (decV 10 (decP fs_sAddPartitionsToTxnResponseTopicPartition v false) false false) k3_1 (rArr false x3_0.2).2).2 RN3_1 ∧ Row 267 3 a3_1 (lT x3_1.1).length c3_1 (es3_1.flatMap fk ++ reps [.int .i32 0, .int .i16 0, .map none] ((lT x3_1.1).length - k3_1)) M3_1 ∧ es3_1.map (·.2) = (rMany (decV 10 (decP fs_sAddPartitionsToTxnResponseTopicPartition v false) false false) k3_1 (rArr false x3_0.2).2).1 ∧ ∀ p ∈ es3_1, At_AddPartitionsToTxnResponseTopicPartition H' p.2 (fk p)) [(2, .bool false), (7, .pointer (some ⟨b_1, 0, none⟩)), (9, .bool (decide ((3 : Int) ≤ v))), (10, .pointer (some ⟨b, 0, none⟩)), (35, .slice none 0 0), (36, .slice a3 (lT x3.1).length c3), (37, .int .i32 (rArr false x0.2).1), (38, .int .i32 (k3 : Int)), (40, .pointer (some ⟨g3, 0 + k3 * 3, none⟩)), (42, .slice none 0 0), (43, .slice a3_1 (lT x3_1.1).length c3_1), (44, .int .i32 (rArr false x3_0.2).1), (45, .int .i32 (0 : Int))] (.cons rfl (.cons rfl (.cons rfl (.cons rfl (.cons rfl (.cons rfl (.cons rfl (.cons rfl (.cons rfl (.cons rfl (.cons rfl (.cons rfl (.cons rfl (.nil _)))))))))))))) ⟨[], Nr3_1, _, rfl, rfl, (hR279.mono le_6), hr3_1, rfl, (fun p hp => by cases hp)⟩ (fun k3_1 l' H' L' hk3_1 le_7 hI => ?_))
      obtain ⟨es3_1, M3_1, RN3_1, rfl, rfl, hR_3_1, hw_3_1, he_3_1, hg_3_1⟩ := hI
      have hs_3_1 := els_len he_3_1
      have hp_3_1 : (es3_1.flatMap fk).length = k3_1 * 3 := els_flat hs_3_1
      refine sq ?_
      refine sr ?_
      refine mv rfl rfl ?_
      refine mv rfl rfl ?_
      refine lt rfl rfl rfl ?_
      refine nl ?_
      refine cd rfl (fun h292 => ?_) (fun h292 => ?_)
      ·
       have hkl3_1 : k3_1 < (lT x3_1.1).length := by omega
       obtain ⟨g3_1, po3_1, hga3_1, rfl, hbk3_1⟩ := hw_3_1.next (zs := [.int .i32 0, .int .i16 0, .map none]) hkl3_1 rfl (by decide)
       have ho3_1 : 0 + k3_1 * 3 = (es3_1.flatMap fk).length := by rw [hp_3_1]; omega
       have hbz3_1 : ((decV 10 (decP fs_sAddPartitionsToTxnResponseTopicPartition v false) false false) (rMany (decV 10 (decP fs_sAddPartitionsToTxnResponseTopicPartition v false) false false) k3_1 (rArr false x3_0.2).2).2).2.bad = true → (decP fs_AddPartitionsToTxnResponse v false ⟨s, false, !a.isNone⟩).2.bad = true := fun h => hB3_1 (by rw [ex3_1]; exact rMany_mono (fun r h => decV_bad (fun r h => decP_bad _ _ _ r h) h) _ (show k3_1 + 1 ≤ (lT x3_1.1).length from hkl3_1) (by rw [rMany_succ]; exact h))
       have hLk3_1 : (rMany (decV 10 (decP fs_sAddPartitionsToTxnResponseTopicPartition v false) false false) k3_1 (rArr false x3_0.2).2).2.s.length ≤ BR := Nat.le_trans (rMany_shr (fun r => decV_shr (fun r => decP_shr _ _ _ r) r) _ _) hm3_1
       have hL3_1__ := hLk3_1
       obtain ⟨x3_1_0, hx3_1_0⟩ : ∃ x, x = stepF (Fd.mk 3 0 (-1) (-1) (-1) 0 0 []) v false (rMany (decV 10 (decP fs_sAddPartitionsToTxnResponseTopicPartition v false) false false) k3_1 (rArr false x3_0.2).2).2 := ⟨_, rfl⟩
       obtain ⟨x3_1_1, hx3_1_1⟩ : ∃ x, x = stepF (Fd.mk 2 0 (-1) (-1) (-1) 0 0 []) v false x3_1_0.2 := ⟨_, rfl⟩
       obtain ⟨u3_1_, hu3_1_⟩ : ∃ x, x = tailU false x3_1_1.2 := ⟨_, rfl⟩
       have hD3_1_ : decP fs_sAddPartitionsToTxnResponseTopicPartition v false (rMany (decV 10 (decP fs_sAddPartitionsToTxnResponseTopicPartition v false) false false) k3_1 (rArr false x3_0.2).2).2 = (.mk 0 [] false [x3_1_0.1, x3_1_1.1] u3_1_.1, u3_1_.2) := by
        generalize ((rMany (decV 10 (decP fs_sAddPartitionsToTxnResponseTopicPartition v false) false false) k3_1 (rArr false x3_0.2).2).2 : Rd) = r_ at hx3_1_0 ⊢
        rw [decP_eq]; unfold fs_sAddPartitionsToTxnResponseTopicPartition; simp only [decFs_cons, decFs_nil, ← hx3_1_0, ← hx3_1_1, ← hu3_1_]
       have hL3_1_0 : x3_1_0.2.s.length ≤ BR := by rw [hx3_1_0]; exact Nat.le_trans (stepF_shr _ _ _ _) hL3_1__
       have hL3_1_1 : x3_1_1.2.s.length ≤ BR := by rw [hx3_1_1]; exact Nat.le_trans (stepF_shr _ _ _ _) hL3_1_0
       have hE3_1_ : u3_1_.2.bad = true → (decP fs_AddPartitionsToTxnResponse v false ⟨s, false, !a.isNone⟩).2.bad = true := fun h => hbz3_1 (by show (decP fs_sAddPartitionsToTxnResponseTopicPartition v false (rMany (decV 10 (decP fs_sAddPartitionsToTxnResponseTopicPartition v false) false false) k3_1 (rArr false x3_0.2).2).2).2.bad = true; rw [hD3_1_]; exact h)
       have hB3_1_1 : x3_1_1.2.bad = true → (decP fs_AddPartitionsToTxnResponse v false ⟨s, false, !a.isNone⟩).2.bad = true := fun h => hE3_1_ (by rw [hu3_1_]; exact tailU_bad h)
       have hB3_1_0 : x3_1_0.2.bad = true → (decP fs_AddPartitionsToTxnResponse v false ⟨s, false, !a.isNone⟩).2.bad = true := fun h => hB3_1_1 (by rw [hx3_1_1]; exact step_bad h)
       refine skt ?_
       refine sq ?_
       refine bl ?_
       refine sr ?_
       refine mv rfl rfl ?_
       refine mv rfl rfl ?_
       refine ixk (j := k3_1) Tryz.runUnderlying146 Tryz.sizeOf267 rfl hga3_1 rfl rfl hkl3_1 rfl ?_
       refine asg rfl rfl ?_
       refine nl ?_
       refine sr ?_
       refine mv rfl rfl ?_
       refine cl rfl rfl rfl (def_AddPartitionsToTxnResponseTopicPartition ho3_1) rfl (fun v_ H1 L1 hle_ hR_ => ?_)
       obtain ⟨rfl, rfl⟩ := hR_
       refine nl ?_
       refine sr ?_
       refine mv rfl rfl ?_
       refine asg rfl rfl ?_
       refine nl ?_
       refine sq ?_
       refine sr ?_
       refine tf (.tail .head) ?_
       have ex3_1_0 : x3_1_0 = decV 3 (decP [] v false) false false (rMany (decV 10 (decP fs_sAddPartitionsToTxnResponseTopicPartition v false) false false) k3_1 (rArr false x3_0.2).2).2 := (hx3_1_0.trans (step_yes (by decide) (show (0 : Int) ≤ v by omega) (Or.inl (by decide)))).trans (decF'_val (by decide) (rfl))
       refine cl rfl rfl rfl (d3 hR_3_1 ex3_1_0) rfl (fun v_ H1 L1 hle_ hR_ => ?_)
       obtain ⟨N301, rfl, hR301, rfl, rfl⟩ := hR_
       refine asg rfl rfl ?_
       refine nl ?_
       refine rg ?_
       refine mv rfl rfl ?_
       refine mv rfl rfl ?_
       refine nc rfl rfl ?_
       refine fa F267_0 rfl rfl ?_
       refine stM (off := 0) Tryz.sizeOf21 rfl (by rw [ho3_1]) rfl rfl rfl (.tail .head) ?_
       refine nl ?_
       refine sq ?_
       refine sr ?_
       have ex3_1_1 : x3_1_1 = decV 2 (decP [] v false) false false x3_1_0.2 := (hx3_1_1.trans (step_yes (by decide) (show (0 : Int) ≤ v by omega) (Or.inl (by decide)))).trans (decF'_val (by decide) (rfl))
       refine cl rfl rfl rfl (d2 hR301 ex3_1_1) rfl (fun v_ H1 L1 hle_ hR_ => ?_)
       obtain ⟨N306, rfl, hR306, rfl, rfl⟩ := hR_
       refine asg rfl rfl ?_
       refine nl ?_
       refine rg ?_
       refine mv rfl rfl ?_
       refine mv rfl rfl ?_
       refine nc rfl rfl ?_
       refine fa F267_1 rfl rfl ?_
       refine stM (off := 1) Tryz.sizeOf51 rfl (by rw [ho3_1]) rfl rfl rfl (.tail .head) ?_
       refine nl ?_
       refine sr ?_
       refine mv rfl rfl ?_
       refine nl ?_
       refine cdF rfl (by omega) ?_
       refine skN ?_
       refine Nb ?_
       refine Nt ?_
       refine rg ?_
       refine mv rfl rfl ?_
       refine ad rfl rfl (c := ((k3_1 + 1 : Nat) : Int)) ((wrap32_le (by omega) (by omega)).trans (by omega)) rfl ?_
       refine asg rfl rfl ?_
       refine nN ?_
       obtain rfl : u3_1_ = ([], x3_1_1.2) := hu3_1_
       have hfs3_1 := flatMap_snoc' fk es3_1 ((⟨([.int .i32 (IntKind.i32.wrap x3_1_0.1.n), .int .i16 (IntKind.i16.wrap x3_1_1.1.n), .map none] : List Value), rfl, all_one rfl⟩, ((decV 10 (decP fs_sAddPartitionsToTxnResponseTopicPartition v false) false false) (rMany (decV 10 (decP fs_sAddPartitionsToTxnResponseTopicPartition v false) false false) k3_1 (rArr false x3_0.2).2).2).1) : KE 3)
       have hrw3_1 := hbk3_1 ([.int .i32 (IntKind.i32.wrap x3_1_0.1.n), .int .i16 (IntKind.i16.wrap x3_1_1.1.n), .map none] : List Value) rfl
       refine tfN (.tail .head) ?_
       refine fun a_ w_ hA hw => ⟨hkl3_1, _, _, _, hA.sub ?_, le_7, hw, _, _, _, rfl, rfl, (by rw [rMany_succ]; show RdAt _ 232 b_1 (decP fs_sAddPartitionsToTxnResponseTopicPartition v false (rMany (decV 10 (decP fs_sAddPartitionsToTxnResponseTopicPartition v false) false false) k3_1 (rArr false x3_0.2).2).2).2 _; rw [hD3_1_]; exact hR306), (by rw [← hfs3_1]; exact hrw3_1), (dec_els he_3_1), (fun p hp => (mem_snoc hp).elim (fun h => At_AddPartitionsToTxnResponseTopicPartition.mono _ _ _ _ (Fz.le.refl _) (hg_3_1 p h)) (fun h => h ▸ (by show At_AddPartitionsToTxnResponseTopicPartition _ (decP fs_sAddPartitionsToTxnResponseTopicPartition v false (rMany (decV 10 (decP fs_sAddPartitionsToTxnResponseTopicPartition v false) false false) k3_1 (rArr false x3_0.2).2).2).1 [.int .i32 (IntKind.i32.wrap x3_1_0.1.n), .int .i16 (IntKind.i16.wrap x3_1_1.1.n), .map none]; rw [hD3_1_]; exact ⟨none, rfl, (KvAt.nil _)⟩)))⟩
       exact (.cons rfl (.cons rfl (.cons rfl (.cons rfl (.cons rfl (.cons rfl (.cons rfl (.cons rfl (.cons rfl (.cons rfl (.cons rfl (.cons rfl (.cons rfl (.nil _))))))))))))))
      ·
       have hkn_ : k3_1 = (lT x3_1.1).length := by omega
       subst hkn_
       have hw2_3_1 : Row 267 3 a3_1 (lT x3_1.1).length c3_1 (es3_1.flatMap fk) M3_1 := by have h := hw_3_1; rw [Nat.sub_self] at h; simpa [reps] using h
       refine frW hw2_3_1 .head (fun Hf3_1 hlf3_1 hfz3_1 => ?_)
       have hrs3_1 := RowsAt.row (R := At_AddPartitionsToTxnResponseTopicPartition) hfz3_1 hs_3_1.symm hw2_3_1.le.1 (fun p hp => At_AddPartitionsToTxnResponseTopicPartition.mono _ _ _ _ hlf3_1 (hg_3_1 p hp))
       rw [he_3_1] at hrs3_1
       have hf3_1 : ListAt Hf3_1 x3_1.1 3 At_AddPartitionsToTxnResponseTopicPartition a3_1 c3_1 := by rw [ex3_1]; exact listAt_of hrs3_1 hi3_1 (fun h => by have h1 := nul_le h; rw [show (lT x3_1.1).length = 0 by omega]; rfl)
       have hRx3_1 : RdAt Hf3_1 232 b_1 x3_1.2 RN3_1 := by rw [ex3_1]; exact (hR_3_1.mono hlf3_1)
       refine exX ?_
       refine XT ?_
       refine XT ?_
       refine Xb ?_
       refine Nt ?_
       refine sr ?_
       refine mv rfl rfl ?_
       refine asg rfl rfl ?_
       refine nl ?_
       refine rg ?_
       refine mv rfl rfl ?_
       refine mv rfl rfl ?_
       refine nc rfl rfl ?_
       refine fa F148_1 rfl rfl ?_
       refine stM (off := 1) Tryz.sizeOf146 rfl (by rw [ho3]) rfl rfl rfl (.tail .head) ?_
       refine nl ?_
       refine sr ?_
       refine mv rfl rfl ?_
       refine nl ?_
       refine cdF rfl (by omega) ?_
       refine skN ?_
       refine Nb ?_
       refine Nt ?_
       refine rg ?_
       refine mv rfl rfl ?_
       refine ad rfl rfl (c := ((k3 + 1 : Nat) : Int)) ((wrap32_le (by omega) (by omega)).trans (by omega)) rfl ?_
       refine asg rfl rfl ?_
       refine nN ?_
       obtain rfl : u3_ = ([], x3_1.2) := hu3_
       have hfs3 := flatMap_snoc' fk es3 ((⟨([.string ⟨x3_0.1.s.toArray⟩, .slice a3_1 (lT x3_1.1).length c3_1, .map none] : List Value), rfl, all_one rfl⟩, ((decV 10 (decP fs_sAddPartitionsToTxnResponseTopic v false) false false) (rMany (decV 10 (decP fs_sAddPartitionsToTxnResponseTopic v false) false false) k3 (rArr false x0.2).2).2).1) : KE 3)
       have hrw3 := hbk3 ([.string ⟨x3_0.1.s.toArray⟩, .slice a3_1 (lT x3_1.1).length c3_1, .map none] : List Value) rfl
       refine tfN (.tail .head) ?_
       refine fun a_ w_ hA hw => ⟨hkl3, _, _, _, hA.sub ?_, (le_4.trans (le_6.trans (le_7.trans hlf3_1))), hw, _, _, _, rfl, rfl, (by rw [rMany_succ]; show RdAt _ 232 b_1 (decP fs_sAddPartitionsToTxnResponseTopic v false (rMany (decV 10 (decP fs_sAddPartitionsToTxnResponseTopic v false) false false) k3 (rArr false x0.2).2).2).2 _; rw [hD3_]; exact hRx3_1), (by rw [← hfs3]; exact hrw3), (dec_els he_3), (fun p hp => (mem_snoc hp).elim (fun h => At_AddPartitionsToTxnResponseTopic.mono _ _ _ _ (le_6.trans (le_7.trans hlf3_1)) (hg_3 p h)) (fun h => h ▸ (by show At_AddPartitionsToTxnResponseTopic _ (decP fs_sAddPartitionsToTxnResponseTopic v false (rMany (decV 10 (decP fs_sAddPartitionsToTxnResponseTopic v false) false false) k3 (rArr false x0.2).2).2).1 [.string ⟨x3_0.1.s.toArray⟩, .slice a3_1 (lT x3_1.1).length c3_1, .map none]; rw [hD3_]; exact ⟨a3_1, c3_1, none, rfl, hf3_1, (KvAt.nil _)⟩)))⟩
       exact (.cons rfl (.cons rfl (.cons rfl (.cons rfl (.cons rfl (.cons rfl (.cons rfl (.cons rfl (.nil _)))))))))
   ·
    have hkn_ : k3 = (lT x3.1).length := by omega
    subst hkn_
    have hw2_3 : Row 148 3 a3 (lT x3.1).length c3 (es3.flatMap fk) M3 := by have h := hw_3; rw [Nat.sub_self] at h; simpa [reps] using h
    refine frW hw2_3 .head (fun Hf3 hlf3 hfz3 => ?_)
    have hrs3 := RowsAt.row (R := At_AddPartitionsToTxnResponseTopic) hfz3 hs_3.symm hw2_3.le.1 (fun p hp => At_AddPartitionsToTxnResponseTopic.mono _ _ _ _ hlf3 (hg_3 p hp))
    rw [he_3] at hrs3
    have hf3 : ListAt Hf3 x3.1 3 At_AddPartitionsToTxnResponseTopic a3 c3 := by rw [ex3]; exact listAt_of hrs3 hi3 (fun h => by have h1 := nul_le h; rw [show (lT x3.1).length = 0 by omega]; rfl)
    have hRx3 : RdAt Hf3 232 b_1 x3.2 RN3 := by rw [ex3]; exact (hR_3.mono hlf3)
    refine exX ?_
    refine XT ?_
    refine XT ?_
    refine Xb ?_
    refine Nt ?_
    refine sr ?_
    refine mv rfl rfl ?_
    refine asg rfl rfl ?_
    refine nl ?_
    refine rg ?_
    refine mv rfl rfl ?_
    refine mv rfl rfl ?_
    refine nc rfl rfl ?_
    refine fa0 F138_4 rfl rfl ?_
    refine st Tryz.sizeOf136 rfl rfl rfl rfl (.tail .head) ?_
    refine nl ?_
    refine sq ?_
    refine sr ?_
    refine mv rfl rfl ?_
    refine nl ?_
    refine cdF rfl (by omega) ?_
    refine skt ?_
    refine sr ?_
    refine cl rfl rfl rfl (r_complete hRx3 (he.mono (le_3.trans (le_4.trans hlf3)))) rfl (fun v_ H1 L1 hle_ hR_ => ?_)
    obtain ⟨rfl, rfl, rfl⟩ := hR_
    refine asg rfl rfl ?_
    refine nl ?_
    refine drW .head ?_
    obtain rfl : u = ([], x3.2) := hu
    have hA_ := (show At_AddPartitionsToTxnResponse v _ (decP fs_AddPartitionsToTxnResponse v false _).1 [.int .i16 v, .int .i32 (IntKind.i32.wrap x0.1.n), .int .i16 0, .slice none 0 0, .slice a3 (lT x3.1).length c3, .map none] from (by rw [hD]; exact ⟨none, 0, a3, c3, none, rfl, (ListAt.none rfl), hf3, (KvAt.nil _)⟩))
    refine rT rfl rfl (le_3.trans (le_4.trans hlf3)) (fun _ _ h => h) ⟨_, rfl, ?_⟩
    have hz := RdEnd.of (e := e) hA_
    rw [show (decP fs_AddPartitionsToTxnResponse v false _).2.bad = x3.2.bad by rw [hD]] at hz
    exact hz
theorem rd_AddPartitionsToTxnResponse_t {H : Fz} {L : Own} {b : Nat} {v : Int} {a : Option Addr} {c : Nat} {s : List UInt8} {e : Value} (hB : BytesAt H a c s) (hL_ : s.length ≤ BR) (he : H.at 1 0 [e]) (hv0 : 3 ≤ v) (hv1 : v ≤ 5) :
  Fn Tryz.prog 158 [.pointer (some ⟨b, 0, none⟩), .slice a s.length c, .bool false] H ([(b, .cells [.int .i16 v, .int .i32 0, .int .i16 0, .slice none 0 0, .slice none 0 0, .map none].toArray 138 (0, 0))] :: L) (fun r H' L' => ∃ cs : List Value, L' = [(b, .cells cs.toArray 138 (0, 0))] :: L ∧ RdEnd H' (At_AddPartitionsToTxnResponse v) (decP fs_AddPartitionsToTxnResponse v true ⟨s, false, !a.isNone⟩) e r cs) := by
 refine Fn.mk Tryz.call158 Tryz.func158 rfl Tryz.ntmps158 rfl ?_
 refine sr ?_
 refine asg rfl rfl ?_
 refine nl ?_
 refine sr ?_
 refine mv rfl rfl ?_
 refine cl rfl rfl rfl def0_AddPartitionsToTxnResponse rfl (fun v_ H1 L1 hle_ hR_ => ?_)
 obtain ⟨rfl, rfl⟩ := hR_
 refine nl ?_
 refine sr ?_
 refine mv rfl rfl ?_
 refine bd' S232 rfl rfl rfl ?_
 refine al Tryz.zeroValue232 rfl rfl (fun b_1 => ?_)
 refine sa Tryz.sizeOf232 rfl rfl rfl rfl rfl .head ?_
 have hR0_ : RdAt H 232 b_1 ⟨s, false, !a.isNone⟩ [(b_1, .cells [_, _].toArray 232 (0, 0))] := ⟨a, c, rfl, hB, by simp⟩
 obtain ⟨x0, hx0⟩ : ∃ x, x = stepF (Fd.mk 3 0 (-1) (-1) (-1) 0 0 []) v true ⟨s, false, !a.isNone⟩ := ⟨_, rfl⟩
 obtain ⟨x1, hx1⟩ : ∃ x, x = stepF (Fd.mk 2 4 (-1) (-1) (-1) 0 0 []) v true x0.2 := ⟨_, rfl⟩
 obtain ⟨x2, hx2⟩ : ∃ x, x = stepF (Fd.mk 11 4 (-1) (-1) (-1) 0 10 fs_sAddPartitionsToTxnResponseTransaction) v true x1.2 := ⟨_, rfl⟩
 obtain ⟨x3, hx3⟩ : ∃ x, x = stepF (Fd.mk 11 0 3 (-1) (-1) 0 10 fs_sAddPartitionsToTxnResponseTopic) v true x2.2 := ⟨_, rfl⟩
 obtain ⟨u, hu⟩ : ∃ x, x = tailU true x3.2 := ⟨_, rfl⟩
 have hD : decP fs_AddPartitionsToTxnResponse v true ⟨s, false, !a.isNone⟩ = (.mk 0 [] false [x0.1, x1.1, x2.1, x3.1] u.1, u.2) := by
  generalize (⟨s, false, !a.isNone⟩ : Rd) = r_ at hx0 ⊢
  rw [decP_eq]; unfold fs_AddPartitionsToTxnResponse; simp only [decFs_cons, decFs_nil, ← hx0, ← hx1, ← hx2, ← hx3, ← hu]
 have hL0 : x0.2.s.length ≤ BR := by rw [hx0]; exact Nat.le_trans (stepF_shr _ _ _ _) hL_
 have hL1 : x1.2.s.length ≤ BR := by rw [hx1]; exact Nat.le_trans (stepF_shr _ _ _ _) hL0
 have hL2 : x2.2.s.length ≤ BR := by rw [hx2]; exact Nat.le_trans (stepF_shr _ _ _ _) hL1
 have hL3 : x3.2.s.length ≤ BR := by rw [hx3]; exact Nat.le_trans (stepF_shr _ _ _ _) hL2
 have hE : u.2.bad = true → (decP fs_AddPartitionsToTxnResponse v true ⟨s, false, !a.isNone⟩).2.bad = true := fun h => by rw [hD]; exact h
 have hB3 : x3.2.bad = true → (decP fs_AddPartitionsToTxnResponse v true ⟨s, false, !a.isNone⟩).2.bad = true := fun h => hE (by rw [hu]; exact tailU_bad h)
 have hB2 : x2.2.bad = true → (decP fs_AddPartitionsToTxnResponse v true ⟨s, false, !a.isNone⟩).2.bad = true := fun h => hB3 (by rw [hx3]; exact step_bad h)
 have hB1 : x1.2.bad = true → (decP fs_AddPartitionsToTxnResponse v true ⟨s, false, !a.isNone⟩).2.bad = true := fun h => hB2 (by rw [hx2]; exact step_bad h)
 have hB0 : x0.2.bad = true → (decP fs_AddPartitionsToTxnResponse v true ⟨s, false, !a.isNone⟩).2.bad = true := fun h => hB1 (by rw [hx1]; exact step_bad h)
 refine nl ?_
 refine sr ?_
 refine mv rfl rfl ?_
 refine nc rfl rfl ?_
 refine fa0 F138_0 rfl rfl ?_
 refine ld (Says.own (.tail .head)) Tryz.isAgg51 rfl (Nat.zero_add _).symm rfl rfl ?_
 refine asg rfl rfl ?_
 refine nl ?_
 refine sr ?_
 refine mv rfl rfl ?_
 refine nl ?_
 refine sr ?_
 refine mv rfl rfl ?_
 refine ge rfl rfl rfl ?_
 refine asg rfl rfl ?_
 refine nl ?_
 refine sr ?_
 refine mv rfl rfl ?_
 refine nl ?_
 refine sr ?_
 refine mv rfl rfl ?_
 refine asg rfl rfl ?_
 refine nl ?_
 refine sq ?_
 refine sr ?_
 have ex0 : x0 = decV 3 (decP [] v true) false true ⟨s, false, !a.isNone⟩ := (hx0.trans (step_yes (by decide) (show (0 : Int) ≤ v by omega) (Or.inl (by decide)))).trans (decF'_val (by decide) (rfl))
 refine cl rfl rfl rfl (d3 hR0_ ex0) rfl (fun v_ H1 L1 hle_ hR_ => ?_)
 obtain ⟨N63, rfl, hR63, rfl, rfl⟩ := hR_
 refine asg rfl rfl ?_
 refine nl ?_
 refine rg ?_
 refine mv rfl rfl ?_
 refine mv rfl rfl ?_
 refine nc rfl rfl ?_
 refine fa0 F138_1 rfl rfl ?_
 refine st Tryz.sizeOf21 rfl rfl rfl rfl (.tail .head) ?_
 refine nl ?_
 refine sq ?_
 refine sr ?_
 refine mv rfl rfl ?_
 refine ge rfl rfl rfl ?_
 refine nl ?_
 refine cutT (fun l' H' L' => ∃ (Nj1 : Chunk), [(2, .bool false), (7, .pointer (some ⟨b_1, 0, none⟩)), (8, .int .i16 v), (9, .bool (decide ((3 : Int) ≤ v))), (10, .pointer (some ⟨b, 0, none⟩))] = l' ∧ Nj1 :: [(b, .cells [.int .i16 v, .int .i32 (IntKind.i32.wrap x0.1.n), .int .i16 (IntKind.i16.wrap x1.1.n), .slice none 0 0, .slice none 0 0, .map none].toArray 138 (0, 0))] :: L = L' ∧ RdAt H' 232 b_1 x1.2 Nj1) ?_ (fun l' H' L' le_3 hI => ?_)
 ·
  refine cd rfl (fun h69 => ?_) (fun h69 => ?_)
  ·
   refine sr ?_
   have ex1 : x1 = decV 2 (decP [] v true) false true x0.2 := (hx1.trans (step_yes (by decide) (show (4 : Int) ≤ v by omega) (Or.inl (by decide)))).trans (decF'_val (by decide) (rfl))
   refine cl rfl rfl rfl (d2 hR63 ex1) rfl (fun v_ H1 L1 hle_ hR_ => ?_)
   obtain ⟨N70, rfl, hR70, rfl, rfl⟩ := hR_
   refine asg rfl rfl ?_
   refine nl ?_
   refine rg ?_
   refine mv rfl rfl ?_
   refine mv rfl rfl ?_
   refine nc rfl rfl ?_
   refine fa0 F138_2 rfl rfl ?_
   refine st Tryz.sizeOf51 rfl rfl rfl rfl (.tail .head) ?_
   refine nN ?_
   refine fun a_ w_ hA hw => ⟨_, _, _, hA.sub ?_, (Fz.le.refl _), hw, N70, rfl, rfl, hR70⟩
   exact (.cons rfl (.cons rfl (.cons rfl (.cons rfl (.cons rfl (.nil _))))))
  ·
   refine skN ?_
   obtain rfl : x1 = ((Tr.mk 0 [] false [] []), x0.2) := (hx1.trans (step_no (Or.inl (show v < (4 : Int) by omega)))).trans (by rw [dflF_eq]; rfl)
   refine fun a_ w_ hA hw => ⟨_, _, _, hA.sub ?_, (Fz.le.refl _), hw, N63, rfl, rfl, hR63⟩
   exact (.cons rfl (.cons rfl (.cons rfl (.cons rfl (.cons rfl (.nil _))))))
 ·
  obtain ⟨Nj1, rfl, rfl, pj0⟩ := hI
  have hRj1 := pj0
  refine sq ?_
  refine sr ?_
  refine mv rfl rfl ?_
  refine ge rfl rfl rfl ?_
  refine nl ?_
  refine cutT (fun l' H' L' => ∃ (a2 : Option Addr), ∃ (c2 : Nat), ∃ (Nj2 : Chunk), [(2, .bool false), (7, .pointer (some ⟨b_1, 0, none⟩)), (8, .int .i16 v), (9, .bool (decide ((3 : Int) ≤ v))), (10, .pointer (some ⟨b, 0, none⟩))] = l' ∧ Nj2 :: [(b, .cells [.int .i16 v, .int .i32 (IntKind.i32.wrap x0.1.n), .int .i16 (IntKind.i16.wrap x1.1.n), .slice a2 (lT x2.1).length c2, .slice none 0 0, .map none].toArray 138 (0, 0))] :: L = L' ∧ RdAt H' 232 b_1 x2.2 Nj2 ∧ ListAt H' x2.1 3 At_AddPartitionsToTxnResponseTransaction a2 c2) ?_ (fun l' H' L' le_5 hI => ?_)
  ·
   refine cd rfl (fun h76 => ?_) (fun h76 => ?_)
   ·
    refine sr ?_
    refine mv rfl rfl ?_
    refine nc rfl rfl ?_
    refine fa0 F138_3 rfl rfl ?_
    refine ld (Says.own (.tail .head)) Tryz.isAgg135 rfl (Nat.zero_add _).symm rfl rfl ?_
    refine asg rfl rfl ?_
    refine nl ?_
    refine sr ?_
    refine mv rfl rfl ?_
    refine asg rfl rfl ?_
    refine nl ?_
    refine sr ?_
    refine asg rfl rfl ?_
    refine nl ?_
    refine sq ?_
    refine sr ?_
    refine mv rfl rfl ?_
    refine nl ?_
    refine cdT rfl (by omega) ?_
    refine rg ?_
    have ey2 : x2 = (.mk 0 [] (if 0 ≤ ((-1) : Int) ∧ (v < ((-1) : Int) ∨ (rArr true x1.2).1 = 0) then false else decide ((rArr true x1.2).1 ≤ 0)) (rMany (decV 10 (decP fs_sAddPartitionsToTxnResponseTransaction v true) false true) (rArr true x1.2).1.toNat (rArr true x1.2).2).1 [], (rMany (decV 10 (decP fs_sAddPartitionsToTxnResponseTransaction v true) false true) (rArr true x1.2).1.toNat (rArr true x1.2).2).2) := (hx2.trans (step_yes (by decide) (show (4 : Int) ≤ v by omega) (Or.inl (by decide)))).trans (decF'_list rfl rfl)
    have hn2 : (rArr true x1.2).1.toNat = (lT x2.1).length := by rw [ey2]; exact (lT_many nul_le).symm
    have ex2 := ey2
    rw [hn2] at ex2
    have hl2 := rArr_le true x1.2
    have hm2 : (rArr true x1.2).2.s.length ≤ BR := Nat.le_trans (rArr_len true x1.2) hL1
    have hnb2 : (lT x2.1).length ≤ BR := by omega
    refine cl rfl rfl rfl (r_arrt hRj1) rfl (fun v_ H1 L1 hle_ hR_ => ?_)
    obtain ⟨rfl, N83, rfl, hR83, rfl⟩ := hR_
    have hh2 := rArr_hi true x1.2
    refine asg rfl rfl ?_
    refine nl ?_
    refine sq ?_
    refine sr ?_
    refine cl rfl rfl rfl (r_ok hR83) rfl (fun v_ H1 L1 hle_ hR_ => ?_)
    obtain ⟨rfl, rfl, rfl⟩ := hR_
    refine nt rfl rfl ?_
    refine nl ?_
    refine cb rfl (fun h86 => ?_) (fun h86 => ?_)
    ·
     have hbad_ : (rArr true x1.2).2.bad = true := by simpa using h86
     refine sr ?_
     refine cl rfl rfl rfl (r_complete hR83 (he.mono le_3)) rfl (fun v_ H1 L1 hle_ hR_ => ?_)
     obtain ⟨rfl, rfl, rfl⟩ := hR_
     refine asg rfl rfl ?_
     refine nl ?_
     refine drW .head ?_
     exact rT rfl rfl le_3 (fun _ _ h => h) ⟨_, rfl, RdEnd.out (hB2 (by rw [ey2]; exact rMany_bad (fun r h => decV_bad (decP_bad _ _ _) h) _ _ hbad_)) hbad_⟩
    ·
     refine skt ?_
     refine sr ?_
     refine mv rfl rfl ?_
     refine sh' (j := 0) Tryz.runUnderlying135 Tryz.sizeOf143 rfl rfl rfl (Nat.zero_le _) rfl ?_
     refine asg rfl rfl ?_
     refine nl ?_
     refine sq ?_
     refine sr ?_
     refine mv rfl rfl ?_
     refine gt rfl rfl rfl ?_
     refine nl ?_
     refine nulC2 ?_
     refine cutT (fun l' H' L' => ∃ (a2 : Option Addr), ∃ (c2 : Nat), ∃ (Nr2 : Chunk), [(2, .bool false), (7, .pointer (some ⟨b_1, 0, none⟩)), (8, .int .i16 v), (9, .bool (decide ((3 : Int) ≤ v))), (10, .pointer (some ⟨b, 0, none⟩)), (13, .slice none 0 0), (14, .slice a2 (lT x2.1).length c2), (15, .int .i32 (rArr true x1.2).1)] = l' ∧ Nr2 :: N83 :: [(b, .cells [.int .i16 v, .int .i32 (IntKind.i32.wrap x0.1.n), .int .i16 (IntKind.i16.wrap x1.1.n), .slice none 0 0, .slice none 0 0, .map none].toArray 138 (0, 0))] :: L = L' ∧ Row 143 3 a2 (lT x2.1).length c2 (reps [.string ⟨#[]⟩, .slice none 0 0, .map none] (lT x2.1).length) Nr2 ∧ a2.isNone = (if 0 ≤ ((-1) : Int) ∧ (v < ((-1) : Int) ∨ (rArr true x1.2).1 = 0) then false else decide ((rArr true x1.2).1 ≤ 0))) ?_ (fun l' H' L' le_6 hI => ?_)
     ·
      refine cd rfl (fun h91 => ?_) (fun h91 => ?_)
      ·
       refine rg ?_
       refine mv rfl rfl ?_
       refine mv rfl rfl ?_
       refine apz (zs := [.string ⟨#[]⟩, .slice none 0 0, .map none]) (m := (lT x2.1).length) Tryz.underlying135 Tryz.underlying21 I143 rfl rfl rfl (by omega) (by omega) (by have h9 := hnb2; unfold BR at h9; omega) (by have h9 := hnb2; unfold BR at h9; unfold maxLen; omega) rfl (fun g94 cp94 N94 r94 => ?_)
       refine asg rfl rfl ?_
       refine nN ?_
       refine drN (.tail .head) ?_
       refine fun a_ w_ hA hw => ⟨_, _, _, hA.sub ?_, (Fz.le.refl _), hw, (some ⟨g94, 0, none⟩), cp94, N94, rfl, rfl, r94, (by rw [if_neg (by omega)]; exact (decide_eq_false (by omega)).symm)⟩
       exact (.cons rfl (.cons rfl (.cons rfl (.cons rfl (.cons rfl (.cons rfl (.cons rfl (.cons rfl (.nil _)))))))))
      ·
       refine skN ?_
       refine fun a_ w_ hA hw => ⟨_, _, _, hA.sub ?_, (Fz.le.refl _), hw, none, 0, [], rfl, rfl, (by rw [show (lT x2.1).length = 0 by omega]; exact (Row.nil _ _)), (by rw [if_neg (by omega)]; exact (decide_eq_true (by omega)).symm)⟩
       exact (.cons rfl (.cons rfl (.cons rfl (.cons rfl (.cons rfl (.cons rfl (.cons (by rw [show (lT x2.1).length = 0 by omega]; rfl) (.cons rfl (.nil _)))))))))
     ·
      obtain ⟨a2, c2, Nr2, rfl, rfl, pj0, pj1⟩ := hI
      have hr2 := pj0
      have hi2 := pj1
      refine sq ?_
      refine sr ?_
      refine asg rfl rfl ?_
      refine nl ?_
      refine bl (lp ((lT x2.1).length) (fun k2 l' H' L' => ∃ (es2 : List (KE 3)) (M2 RN2 : Chunk), [(2, .bool false), (7, .pointer (some ⟨b_1, 0, none⟩)), (8, .int .i16 v), (9, .bool (decide ((3 : Int) ≤ v))), (10, .pointer (some ⟨b, 0, none⟩)), (13, .slice none 0 0), (14, .slice a2 (lT x2.1).length c2), (15, .int .i32 (rArr true x1.2).1), (16, .int .i32 (k2 : Int))] = l' ∧ M2 :: RN2 :: [(b, .cells [.int .i16 v, .int .i32 (IntKind.i32.wrap x0.1.n), .int .i16 (IntKind.i16.wrap x1.1.n), .slice none 0 0, .slice none 0 0, .map none].toArray 138 (0, 0))] :: L = L' ∧ RdAt H' 232 b_1 (rMany (decV 10 (decP fs_sAddPartitionsToTxnResponseTransaction v true) false true) k2 (rArr true x1.2).2).2 RN2 ∧ Row 143 3 a2 (lT x2.1).length c2 (es2.flatMap fk ++ reps [.string ⟨#[]⟩, .slice none 0 0, .map none] ((lT x2.1).length - k2)) M2 ∧ es2.map (·.2) = (rMany (decV 10 (decP fs_sAddPartitionsToTxnResponseTransaction v true) false true) k2 (rArr true x1.2).2).1 ∧ ∀ p ∈ es2, At_AddPartitionsToTxnResponseTransaction H' p.2 (fk p)) [(2, .bool false), (7, .pointer (some ⟨b_1, 0, none⟩)), (8, .int .i16 v), (9, .bool (decide ((3 : Int) ≤ v))), (10, .pointer (some ⟨b, 0, none⟩)), (13, .slice none 0 0), (14, .slice a2 (lT x2.1).length c2), (15, .int .i32 (rArr true x1.2).1), (16, .int .i32 (0 : Int))] (.cons rfl (.cons rfl (.cons rfl (.cons rfl (.cons rfl (.cons rfl (.cons rfl (.cons rfl (.cons rfl (.nil _)))))))))) ⟨[], Nr2, _, rfl, rfl, (hR83.mono le_6), hr2, rfl, (fun p hp => by cases hp)⟩ (fun k2 l' H' L' hk2 le_7 hI => ?_))
      obtain ⟨es2, M2, RN2, rfl, rfl, hR_2, hw_2, he_2, hg_2⟩ := hI
      have hs_2 := els_len he_2
      have hp_2 : (es2.flatMap fk).length = k2 * 3 := els_flat hs_2
      refine sq ?_
      refine sr ?_
      refine mv rfl rfl ?_
      refine mv rfl rfl ?_
      refine lt rfl rfl rfl ?_
      refine nl ?_
      refine cd rfl (fun h97 => ?_) (fun h97 => ?_)
      ·
       have hkl2 : k2 < (lT x2.1).length := by omega
       obtain ⟨g2, po2, hga2, rfl, hbk2⟩ := hw_2.next (zs := [.string ⟨#[]⟩, .slice none 0 0, .map none]) hkl2 rfl (by decide)
       have ho2 : 0 + k2 * 3 = (es2.flatMap fk).length := by rw [hp_2]; omega
       have hbz2 : ((decV 10 (decP fs_sAddPartitionsToTxnResponseTransaction v true) false true) (rMany (decV 10 (decP fs_sAddPartitionsToTxnResponseTransaction v true) false true) k2 (rArr true x1.2).2).2).2.bad = true → (decP fs_AddPartitionsToTxnResponse v true ⟨s, false, !a.isNone⟩).2.bad = true := fun h => hB2 (by rw [ex2]; exact rMany_mono (fun r h => decV_bad (fun r h => decP_bad _ _ _ r h) h) _ (show k2 + 1 ≤ (lT x2.1).length from hkl2) (by rw [rMany_succ]; exact h))
       have hLk2 : (rMany (decV 10 (decP fs_sAddPartitionsToTxnResponseTransaction v true) false true) k2 (rArr true x1.2).2).2.s.length ≤ BR := Nat.le_trans (rMany_shr (fun r => decV_shr (fun r => decP_shr _ _ _ r) r) _ _) hm2
       have hL2__ := hLk2
       obtain ⟨x2_0, hx2_0⟩ : ∃ x, x = stepF (Fd.mk 8 0 (-1) (-1) (-1) 0 0 []) v true (rMany (decV 10 (decP fs_sAddPartitionsToTxnResponseTransaction v true) false true) k2 (rArr true x1.2).2).2 := ⟨_, rfl⟩
       obtain ⟨x2_1, hx2_1⟩ : ∃ x, x = stepF (Fd.mk 11 0 (-1) (-1) (-1) 0 10 fs_sAddPartitionsToTxnResponseTransactionTopic) v true x2_0.2 := ⟨_, rfl⟩
       obtain ⟨u2_, hu2_⟩ : ∃ x, x = tailU true x2_1.2 := ⟨_, rfl⟩
       have hD2_ : decP fs_sAddPartitionsToTxnResponseTransaction v true (rMany (decV 10 (decP fs_sAddPartitionsToTxnResponseTransaction v true) false true) k2 (rArr true x1.2).2).2 = (.mk 0 [] false [x2_0.1, x2_1.1] u2_.1, u2_.2) := by
        generalize ((rMany (decV 10 (decP fs_sAddPartitionsToTxnResponseTransaction v true) false true) k2 (rArr true x1.2).2).2 : Rd) = r_ at hx2_0 ⊢
        rw [decP_eq]; unfold fs_sAddPartitionsToTxnResponseTransaction; simp only [decFs_cons, decFs_nil, ← hx2_0, ← hx2_1, ← hu2_]
       have hL2_0 : x2_0.2.s.length ≤ BR := by rw [hx2_0]; exact Nat.le_trans (stepF_shr _ _ _ _) hL2__
       have hL2_1 : x2_1.2.s.length ≤ BR := by rw [hx2_1]; exact Nat.le_trans (stepF_shr _ _ _ _) hL2_0
       have hE2_ : u2_.2.bad = true → (decP fs_AddPartitionsToTxnResponse v true ⟨s, false, !a.isNone⟩).2.bad = true := fun h => hbz2 (by show (decP fs_sAddPartitionsToTxnResponseTransaction v true (rMany (decV 10 (decP fs_sAddPartitionsToTxnResponseTransaction v true) false true) k2 (rArr true x1.2).2).2).2.bad = true; rw [hD2_]; exact h)
       have hB2_1 : x2_1.2.bad = true → (decP fs_AddPartitionsToTxnResponse v true ⟨s, false, !a.isNone⟩).2.bad = true := fun h => hE2_ (by rw [hu2_]; exact tailU_bad h)
       have hB2_0 : x2_0.2.bad = true → (decP fs_AddPartitionsToTxnResponse v true ⟨s, false, !a.isNone⟩).2.bad = true := fun h => hB2_1 (by rw [hx2_1]; exact step_bad h)
       refine skt ?_
       refine sq ?_
       refine bl ?_
       refine sr ?_
       refine mv rfl rfl ?_
       refine mv rfl rfl ?_
       refine ixk (j := k2) Tryz.runUnderlying135 Tryz.sizeOf143 rfl hga2 rfl rfl hkl2 rfl ?_
       refine asg rfl rfl ?_
       refine nl ?_
       refine sr ?_
       refine mv rfl rfl ?_
       refine cl rfl rfl rfl (def_AddPartitionsToTxnResponseTransaction ho2) rfl (fun v_ H1 L1 hle_ hR_ => ?_)
       obtain ⟨rfl, rfl⟩ := hR_
       refine nl ?_
       refine sr ?_
       refine mv rfl rfl ?_
       refine asg rfl rfl ?_
       refine nl ?_
       refine sq ?_
       refine sr ?_
       refine asg rfl rfl ?_
       refine nl ?_
       refine sq ?_
       refine sr ?_
       refine mv rfl rfl ?_
       refine nl ?_
       refine cF rfl ?_
       refine sr ?_
       refine mv rfl rfl ?_
       refine nl ?_
       refine cdT rfl (by omega) ?_
       refine rg ?_
       refine tf (.tail .head) ?_
       have ex2_0 : x2_0 = decV 8 (decP [] v true) false true (rMany (decV 10 (decP fs_sAddPartitionsToTxnResponseTransaction v true) false true) k2 (rArr true x1.2).2).2 := (hx2_0.trans (step_yes (by decide) (show (0 : Int) ≤ v by omega) (Or.inl (by decide)))).trans (decF'_val (by decide) (rfl))
       refine cl rfl rfl rfl (d8t hR_2 ex2_0) rfl (fun v_ H1 L1 le_8 hR_ => ?_)
       obtain ⟨N111, rfl, hR111, rfl, rfl⟩ := hR_
       refine asg rfl rfl ?_
       refine nl ?_
       refine rg ?_
       refine mv rfl rfl ?_
       refine mv rfl rfl ?_
       refine nc rfl rfl ?_
       refine fa F143_0 rfl rfl ?_
       refine stM (off := 0) Tryz.sizeOf9 rfl (by rw [ho2]) rfl rfl rfl (.tail .head) ?_
       refine nl ?_
       refine sq ?_
       refine sr ?_
       refine mv rfl rfl ?_
       refine nc rfl rfl ?_
       refine fa F143_1 rfl rfl ?_
       refine ld (j := 1) (off := 0 + k2 * 3) (Says.mid (.tail .head) ho2) Tryz.isAgg141 rfl rfl rfl rfl ?_
       refine asg rfl rfl ?_
       refine nl ?_
       refine sr ?_
       refine mv rfl rfl ?_
       refine asg rfl rfl ?_
       refine nl ?_
       refine sr ?_
       refine asg rfl rfl ?_
       refine nl ?_
       refine sq ?_
       refine sr ?_
       refine mv rfl rfl ?_
       refine nl ?_
       refine cdT rfl (by omega) ?_
       refine rg ?_
       have ey2_1 : x2_1 = (.mk 0 [] (if 0 ≤ ((-1) : Int) ∧ (v < ((-1) : Int) ∨ (rArr true x2_0.2).1 = 0) then false else decide ((rArr true x2_0.2).1 ≤ 0)) (rMany (decV 10 (decP fs_sAddPartitionsToTxnResponseTransactionTopic v true) false true) (rArr true x2_0.2).1.toNat (rArr true x2_0.2).2).1 [], (rMany (decV 10 (decP fs_sAddPartitionsToTxnResponseTransactionTopic v true) false true) (rArr true x2_0.2).1.toNat (rArr true x2_0.2).2).2) := (hx2_1.trans (step_yes (by decide) (show (0 : Int) ≤ v by omega) (Or.inl (by decide)))).trans (decF'_list rfl rfl)
       have hn2_1 : (rArr true x2_0.2).1.toNat = (lT x2_1.1).length := by rw [ey2_1]; exact (lT_many nul_le).symm
       have ex2_1 := ey2_1
       rw [hn2_1] at ex2_1
       have hl2_1 := rArr_le true x2_0.2
       have hm2_1 : (rArr true x2_0.2).2.s.length ≤ BR := Nat.le_trans (rArr_len true x2_0.2) hL2_0
       have hnb2_1 : (lT x2_1.1).length ≤ BR := by omega
       refine cl rfl rfl rfl (r_arrt hR111) rfl (fun v_ H1 L1 hle_ hR_ => ?_)
       obtain ⟨rfl, N123, rfl, hR123, rfl⟩ := hR_
       have hh2_1 := rArr_hi true x2_0.2
       refine asg rfl rfl ?_
       refine nl ?_
       refine sq ?_
       refine sr ?_
       refine cl rfl rfl rfl (r_ok hR123) rfl (fun v_ H1 L1 hle_ hR_ => ?_)
       obtain ⟨rfl, rfl, rfl⟩ := hR_
       refine nt rfl rfl ?_
       refine nl ?_
       refine cb rfl (fun h126 => ?_) (fun h126 => ?_)
       ·
        have hbad_ : (rArr true x2_0.2).2.bad = true := by simpa using h126
        refine sr ?_
        refine cl rfl rfl rfl (r_complete hR123 (he.mono (le_3.trans (le_6.trans le_7)))) rfl (fun v_ H1 L1 hle_ hR_ => ?_)
        obtain ⟨rfl, rfl, rfl⟩ := hR_
        refine asg rfl rfl ?_
        refine nl ?_
        refine drW .head ?_
        refine drW .head ?_
        exact rT rfl rfl (le_3.trans (le_6.trans le_7)) (fun _ _ h => h) ⟨_, rfl, RdEnd.out (hB2_1 (by rw [ey2_1]; exact rMany_bad (fun r h => decV_bad (decP_bad _ _ _) h) _ _ hbad_)) hbad_⟩
       ·
        refine skt ?_
        refine sr ?_
        refine mv rfl rfl ?_
        refine sh' (j := 0) Tryz.runUnderlying141 Tryz.sizeOf263 rfl rfl rfl (Nat.zero_le _) rfl ?_
        refine asg rfl rfl ?_
        refine nl ?_
        refine sq ?_
        refine sr ?_
        refine mv rfl rfl ?_
        refine gt rfl rfl rfl ?_
        refine nl ?_
        refine nulC2 ?_
        refine cutT (fun l' H' L' => ∃ (a2_1 : Option Addr), ∃ (c2_1 : Nat), ∃ (Nr2_1 : Chunk), [(2, .bool false), (7, .pointer (some ⟨b_1, 0, none⟩)), (8, .int .i16 v), (9, .bool (decide ((3 : Int) ≤ v))), (10, .pointer (some ⟨b, 0, none⟩)), (13, .slice none 0 0), (14, .slice a2 (lT x2.1).length c2), (15, .int .i32 (rArr true x1.2).1), (16, .int .i32 (k2 : Int)), (18, .pointer (some ⟨g2, 0 + k2 * 3, none⟩)), (20, .slice none 0 0), (21, .slice a2_1 (lT x2_1.1).length c2_1), (22, .int .i32 (rArr true x2_0.2).1)] = l' ∧ Nr2_1 :: N123 :: [(g2, .cells ((es2.flatMap fk) ++ ([.string ⟨x2_0.1.s.toArray⟩, .slice none 0 0, .map none] : List Value) ++ po2).toArray 143 (0, 0))] :: [(b, .cells [.int .i16 v, .int .i32 (IntKind.i32.wrap x0.1.n), .int .i16 (IntKind.i16.wrap x1.1.n), .slice none 0 0, .slice none 0 0, .map none].toArray 138 (0, 0))] :: L = L' ∧ Row 263 3 a2_1 (lT x2_1.1).length c2_1 (reps [.string ⟨#[]⟩, .slice none 0 0, .map none] (lT x2_1.1).length) Nr2_1 ∧ a2_1.isNone = (if 0 ≤ ((-1) : Int) ∧ (v < ((-1) : Int) ∨ (rArr true x2_0.2).1 = 0) then false else decide ((rArr true x2_0.2).1 ≤ 0))) ?_ (fun l' H' L' le_9 hI => ?_)
        ·
         refine cd rfl (fun h131 => ?_) (fun h131 => ?_)
         ·
          refine rg ?_
          refine mv rfl rfl ?_
          refine mv rfl rfl ?_
          refine apz (zs := [.string ⟨#[]⟩, .slice none 0 0, .map none]) (m := (lT x2_1.1).length) Tryz.underlying141 Tryz.underlying21 I263 rfl rfl rfl (by omega) (by omega) (by have h9 := hnb2_1; unfold BR at h9; omega) (by have h9 := hnb2_1; unfold BR at h9; unfold maxLen; omega) rfl (fun g134 cp134 N134 r134 => ?_)
          refine asg rfl rfl ?_
          refine nN ?_
          refine drN (.tail .head) ?_
          refine fun a_ w_ hA hw => ⟨_, _, _, hA.sub ?_, (Fz.le.refl _), hw, (some ⟨g134, 0, none⟩), cp134, N134, rfl, rfl, r134, (by rw [if_neg (by omega)]; exact (decide_eq_false (by omega)).symm)⟩
          exact (.cons rfl (.cons rfl (.cons rfl (.cons rfl (.cons rfl (.cons rfl (.cons rfl (.cons rfl (.cons rfl (.cons rfl (.cons rfl (.cons rfl (.cons rfl (.nil _))))))))))))))
         ·
          refine skN ?_
          refine fun a_ w_ hA hw => ⟨_, _, _, hA.sub ?_, (Fz.le.refl _), hw, none, 0, [], rfl, rfl, (by rw [show (lT x2_1.1).length = 0 by omega]; exact (Row.nil _ _)), (by rw [if_neg (by omega)]; exact (decide_eq_true (by omega)).symm)⟩
          exact (.cons rfl (.cons rfl (.cons rfl (.cons rfl (.cons rfl (.cons rfl (.cons rfl (.cons rfl (.cons rfl (.cons rfl (.cons rfl (.cons (by rw [show (lT x2_1.1).length = 0 by omega]; rfl) (.cons rfl (.nil _))))))))))))))
        ·
         obtain ⟨a2_1, c2_1, Nr2_1, rfl, rfl, pj0, pj1⟩ := hI
         have hr2_1 := pj0
         have hi2_1 := pj1
         refine sq ?_
         refine sr ?_
         refine asg rfl rfl ?_
         refine nl ?_
         refine bl (lp ((lT x2_1.1).length) (fun k2_1 l' H' L' => ∃ (es2_1 : List (KE 3)) (M2_1 RN2_1 : Chunk), [(2, .bool false), (7, .pointer (some ⟨b_1, 0, none⟩)), (8, .int .i16 v), (9, .bool (decide ((3 : Int) ≤ v))), (10, .pointer (some ⟨b, 0, none⟩)), (13, .slice none 0 0), (14, .slice a2 (lT x2.1).length c2), (15, .int .i32 (rArr true x1.2).1), (16, .int .i32 (k2 : Int)), (18, .pointer (some ⟨g2, 0 + k2 * 3, none⟩)), (20, .slice none 0 0), (21, .slice a2_1 (lT x2_1.1).length c2_1), (22, .int .i32 (rArr true x2_0.2).1), (23, .int .i32 (k2_1 : Int))] = l' ∧ M2_1 :: RN2_1 :: [(g2, .cells ((es2.flatMap fk) ++ ([.string ⟨x2_0.1.s.toArray⟩, .slice none 0 0, .map none] : List Value) ++ po2).toArray 143 (0, 0))] :: [(b, .cells [.int .i16 v, .int .i32 (IntKind.i32.wrap x0.1.n), .int .i16 (IntKind.i16.wrap x1.1.n), .slice none 0 0, .slice none 0 0, .map none].toArray 138 (0, 0))] :: L = L' ∧ RdAt H' 232 b_1 (rMany (decV 10 (decP fs_sAddPartitionsToTxnResponseTransactionTopic v true) false true) k2_1 (rArr true x2_0.2).2).2 RN2_1 ∧ Row 263 3 a2_1 (lT x2_1.1).length c2_1 (es2_1.flatMap fk ++ reps [.string ⟨#[]⟩, .slice none 0 0, .map none] ((lT x2_1.1).length - k2_1)) M2_1 ∧ es2_1.map (·.2) = (rMany (decV 10 (decP fs_sAddPartitionsToTxnResponseTransactionTopic v true) false true) k2_1 (rArr true x2_0.2).2).1 ∧ ∀ p ∈ es2_1, At_AddPartitionsToTxnResponseTransactionTopic H' p.2 (fk p)) [(2, .bool false), (7, .pointer (some ⟨b_1, 0, none⟩)), (8, .int .i16 v), (9, .bool (decide ((3 : Int) ≤ v))), (10, .pointer (some ⟨b, 0, none⟩)), (13, .slice none 0 0), (14, .slice a2 (lT x2.1).length c2), (15, .int .i32 (rArr true x1.2).1), (16, .int .i32 (k2 : Int)), (18, .pointer (some ⟨g2, 0 + k2 * 3, none⟩)), (20, .slice none 0 0), (21, .slice a2_1 (lT x2_1.1).length c2_1), (22, .int .i32 (rArr true x2_0.2).1), (23, .int .i32 (0 : Int))] (.cons rfl (.cons rfl (.cons rfl (.cons rfl (.cons rfl (.cons rfl (.cons rfl (.cons rfl (.cons rfl (.cons rfl (.cons rfl (.cons rfl (.cons rfl (.cons rfl (.nil _))))))))))))))) ⟨[], Nr2_1, _, rfl, rfl, (hR123.mono le_9), hr2_1, rfl, (fun p hp => by cases hp)⟩ (fun k2_1 l' H' L' hk2_1 le_10 hI => ?_))
         obtain ⟨es2_1, M2_1, RN2_1, rfl, rfl, hR_2_1, hw_2_1, he_2_1, hg_2_1⟩ := hI
         have hs_2_1 := els_len he_2_1
         have hp_2_1 : (es2_1.flatMap fk).length = k2_1 * 3 := els_flat hs_2_1
         refine sq ?_
         refine sr ?_
         refine mv rfl rfl ?_
         refine mv rfl rfl ?_
         refine lt rfl rfl rfl ?_
         refine nl ?_
         refine cd rfl (fun h137 => ?_) (fun h137 => ?_)
         ·
          have hkl2_1 : k2_1 < (lT x2_1.1).length := by omega
          obtain ⟨g2_1, po2_1, hga2_1, rfl, hbk2_1⟩ := hw_2_1.next (zs := [.string ⟨#[]⟩, .slice none 0 0, .map none]) hkl2_1 rfl (by decide)
          have ho2_1 : 0 + k2_1 * 3 = (es2_1.flatMap fk).length := by rw [hp_2_1]; omega
          have hbz2_1 : ((decV 10 (decP fs_sAddPartitionsToTxnResponseTransactionTopic v true) false true) (rMany (decV 10 (decP fs_sAddPartitionsToTxnResponseTransactionTopic v true) false true) k2_1 (rArr true x2_0.2).2).2).2.bad = true → (decP fs_AddPartitionsToTxnResponse v true ⟨s, false, !a.isNone⟩).2.bad = true := fun h => hB2_1 (by rw [ex2_1]; exact rMany_mono (fun r h => decV_bad (fun r h => decP_bad _ _ _ r h) h) _ (show k2_1 + 1 ≤ (lT x2_1.1).length from hkl2_1) (by rw [rMany_succ]; exact h))
          have hLk2_1 : (rMany (decV 10 (decP fs_sAddPartitionsToTxnResponseTransactionTopic v true) false true) k2_1 (rArr true x2_0.2).2).2.s.length ≤ BR := Nat.le_trans (rMany_shr (fun r => decV_shr (fun r => decP_shr _ _ _ r) r) _ _) hm2_1
          have hL2_1__ := hLk2_1
          obtain ⟨x2_1_0, hx2_1_0⟩ : ∃ x, x = stepF (Fd.mk 8 0 (-1) (-1) (-1) 0 0 []) v true (rMany (decV 10 (decP fs_sAddPartitionsToTxnResponseTransactionTopic v true) false true) k2_1 (rArr true x2_0.2).2).2 := ⟨_, rfl⟩
          obtain ⟨x2_1_1, hx2_1_1⟩ : ∃ x, x = stepF (Fd.mk 11 0 (-1) (-1) (-1) 0 10 fs_sAddPartitionsToTxnResponseTransactionTopicPartition) v true x2_1_0.2 := ⟨_, rfl⟩
          obtain ⟨u2_1_, hu2_1_⟩ : ∃ x, x = tailU true x2_1_1.2 := ⟨_, rfl⟩
          have hD2_1_ : decP fs_sAddPartitionsToTxnResponseTransactionTopic v true (rMany (decV 10 (decP fs_sAddPartitionsToTxnResponseTransactionTopic v true) false true) k2_1 (rArr true x2_0.2).2).2 = (.mk 0 [] false [x2_1_0.1, x2_1_1.1] u2_1_.1, u2_1_.2) := by
           generalize ((rMany (decV 10 (decP fs_sAddPartitionsToTxnResponseTransactionTopic v true) false true) k2_1 (rArr true x2_0.2).2).2 : Rd) = r_ at hx2_1_0 ⊢
           rw [decP_eq]; unfold fs_sAddPartitionsToTxnResponseTransactionTopic; simp only [decFs_cons, decFs_nil, ← hx2_1_0, ← hx2_1_1, ← hu2_1_]
          have hL2_1_0 : x2_1_0.2.s.length ≤ BR := by rw [hx2_1_0]; exact Nat.le_trans (stepF_shr _ _ _ _) hL2_1__
          have hL2_1_1 : x2_1_1.2.s.length ≤ BR := by rw [hx2_1_1]; exact Nat.le_trans (stepF_shr _ _ _ _) hL2_1_0
          have hE2_1_ : u2_1_.2.bad = true → (decP fs_AddPartitionsToTxnResponse v true ⟨s, false, !a.isNone⟩).2.bad = true := fun h => hbz2_1 (by show (decP fs_sAddPartitionsToTxnResponseTransactionTopic v true (rMany (decV 10 (decP fs_sAddPartitionsToTxnResponseTransactionTopic v true) false true) k2_1 (rArr true x2_0.2).2).2).2.bad = true; rw [hD2_1_]; exact h)
          have hB2_1_1 : x2_1_1.2.bad = true → (decP fs_AddPartitionsToTxnResponse v true ⟨s, false, !a.isNone⟩).2.bad = true := fun h => hE2_1_ (by rw [hu2_1_]; exact tailU_bad h)
          have hB2_1_0 : x2_1_0.2.bad = true → (decP fs_AddPartitionsToTxnResponse v true ⟨s, false, !a.isNone⟩).2.bad = true := fun h => hB2_1_1 (by rw [hx2_1_1]; exact step_bad h)
          refine skt ?_
          refine sq ?_
          refine bl ?_
          refine sr ?_
          refine mv rfl rfl ?_
          refine mv rfl rfl ?_
          refine ixk (j := k2_1) Tryz.runUnderlying141 Tryz.sizeOf263 rfl hga2_1 rfl rfl hkl2_1 rfl ?_
          refine asg rfl rfl ?_
          refine nl ?_
          refine sr ?_
          refine mv rfl rfl ?_
          refine cl rfl rfl rfl (def_AddPartitionsToTxnResponseTransactionTopic ho2_1) rfl (fun v_ H1 L1 hle_ hR_ => ?_)
          obtain ⟨rfl, rfl⟩ := hR_
          refine nl ?_
          refine sr ?_
          refine mv rfl rfl ?_
          refine asg rfl rfl ?_
          refine nl ?_
          refine sq ?_
          refine sr ?_
          refine asg rfl rfl ?_
          refine nl ?_
          refine sq ?_
          refine sr ?_
          refine mv rfl rfl ?_
          refine nl ?_
          refine cF rfl ?_
          refine sr ?_
          refine mv rfl rfl ?_
          refine nl ?_
          refine cdT rfl (by omega) ?_
          refine rg ?_
          refine tf (.tail .head) ?_
          have ex2_1_0 : x2_1_0 = decV 8 (decP [] v true) false true (rMany (decV 10 (decP fs_sAddPartitionsToTxnResponseTransactionTopic v true) false true) k2_1 (rArr true x2_0.2).2).2 := (hx2_1_0.trans (step_yes (by decide) (show (0 : Int) ≤ v by omega) (Or.inl (by decide)))).trans (decF'_val (by decide) (rfl))
          refine cl rfl rfl rfl (d8t hR_2_1 ex2_1_0) rfl (fun v_ H1 L1 le_11 hR_ => ?_)
          obtain ⟨N151, rfl, hR151, rfl, rfl⟩ := hR_
          refine asg rfl rfl ?_
          refine nl ?_
          refine rg ?_
          refine mv rfl rfl ?_
          refine mv rfl rfl ?_
          refine nc rfl rfl ?_
          refine fa F263_0 rfl rfl ?_
          refine stM (off := 0) Tryz.sizeOf9 rfl (by rw [ho2_1]) rfl rfl rfl (.tail .head) ?_
          refine nl ?_
          refine sq ?_
          refine sr ?_
          refine mv rfl rfl ?_
          refine nc rfl rfl ?_
          refine fa F263_1 rfl rfl ?_
          refine ld (j := 1) (off := 0 + k2_1 * 3) (Says.mid (.tail .head) ho2_1) Tryz.isAgg261 rfl rfl rfl rfl ?_
          refine asg rfl rfl ?_
          refine nl ?_
          refine sr ?_
          refine mv rfl rfl ?_
          refine asg rfl rfl ?_
          refine nl ?_
          refine sr ?_
          refine asg rfl rfl ?_
          refine nl ?_
          refine sq ?_
          refine sr ?_
          refine mv rfl rfl ?_
          refine nl ?_
          refine cdT rfl (by omega) ?_
          refine rg ?_
          have ey2_1_1 : x2_1_1 = (.mk 0 [] (if 0 ≤ ((-1) : Int) ∧ (v < ((-1) : Int) ∨ (rArr true x2_1_0.2).1 = 0) then false else decide ((rArr true x2_1_0.2).1 ≤ 0)) (rMany (decV 10 (decP fs_sAddPartitionsToTxnResponseTransactionTopicPartition v true) false true) (rArr true x2_1_0.2).1.toNat (rArr true x2_1_0.2).2).1 [], (rMany (decV 10 (decP fs_sAddPartitionsToTxnResponseTransactionTopicPartition v true) false true) (rArr true x2_1_0.2).1.toNat (rArr true x2_1_0.2).2).2) := (hx2_1_1.trans (step_yes (by decide) (show (0 : Int) ≤ v by omega) (Or.inl (by decide)))).trans (decF'_list rfl rfl)
          have hn2_1_1 : (rArr true x2_1_0.2).1.toNat = (lT x2_1_1.1).length := by rw [ey2_1_1]; exact (lT_many nul_le).symm
          have ex2_1_1 := ey2_1_1
          rw [hn2_1_1] at ex2_1_1
          have hl2_1_1 := rArr_le true x2_1_0.2
          have hm2_1_1 : (rArr true x2_1_0.2).2.s.length ≤ BR := Nat.le_trans (rArr_len true x2_1_0.2) hL2_1_0
          have hnb2_1_1 : (lT x2_1_1.1).length ≤ BR := by omega
          refine cl rfl rfl rfl (r_arrt hR151) rfl (fun v_ H1 L1 hle_ hR_ => ?_)
          obtain ⟨rfl, N163, rfl, hR163, rfl⟩ := hR_
          have hh2_1_1 := rArr_hi true x2_1_0.2
          refine asg rfl rfl ?_
          refine nl ?_
          refine sq ?_
          refine sr ?_
          refine cl rfl rfl rfl (r_ok hR163) rfl (fun v_ H1 L1 hle_ hR_ => ?_)
          obtain ⟨rfl, rfl, rfl⟩ := hR_
          refine nt rfl rfl ?_
          refine nl ?_
          refine cb rfl (fun h166 => ?_) (fun h166 => ?_)
          ·
           have hbad_ : (rArr true x2_1_0.2).2.bad = true := by simpa using h166
           refine sr ?_
           refine cl rfl rfl rfl (r_complete hR163 (he.mono (le_3.trans (le_6.trans (le_7.trans (le_9.trans le_10)))))) rfl (fun v_ H1 L1 hle_ hR_ => ?_)
           obtain ⟨rfl, rfl, rfl⟩ := hR_
           refine asg rfl rfl ?_
           refine nl ?_
           refine drW .head ?_
           refine drW .head ?_
           refine drW .head ?_
           exact rT rfl rfl (le_3.trans (le_6.trans (le_7.trans (le_9.trans le_10)))) (fun _ _ h => h) ⟨_, rfl, RdEnd.out (hB2_1_1 (by rw [ey2_1_1]; exact rMany_bad (fun r h => decV_bad (decP_bad _ _ _) h) _ _ hbad_)) hbad_⟩
          ·
           refine skt ?_
           refine sr ?_
           refine mv rfl rfl ?_
           refine sh' (j := 0) Tryz.runUnderlying261 Tryz.sizeOf265 rfl rfl rfl (Nat.zero_le _) rfl ?_
           refine asg rfl rfl ?_
           refine nl ?_
           refine sq ?_
           refine sr ?_
           refine mv rfl rfl ?_
           refine gt rfl rfl rfl ?_
           refine nl ?_
           refine nulC2 ?_
           refine cutT (fun l' H' L' => ∃ (a2_1_1 : Option Addr), ∃ (c2_1_1 : Nat), ∃ (Nr2_1_1 : Chunk), [(2, .bool false), (7, .pointer (some ⟨b_1, 0, none⟩)), (8, .int .i16 v), (9, .bool (decide ((3 : Int) ≤ v))), (10, .pointer (some ⟨b, 0, none⟩)), (13, .slice none 0 0), (14, .slice a2 (lT x2.1).length c2), (15, .int .i32 (rArr true x1.2).1), (16, .int .i32 (k2 : Int)), (18, .pointer (some ⟨g2, 0 + k2 * 3, none⟩)), (20, .slice none 0 0), (21, .slice a2_1 (lT x2_1.1).length c2_1), (22, .int .i32 (rArr true x2_0.2).1), (23, .int .i32 (k2_1 : Int)), (25, .pointer (some ⟨g2_1, 0 + k2_1 * 3, none⟩)), (27, .slice none 0 0), (28, .slice a2_1_1 (lT x2_1_1.1).length c2_1_1), (29, .int .i32 (rArr true x2_1_0.2).1)] = l' ∧ Nr2_1_1 :: N163 :: [(g2_1, .cells ((es2_1.flatMap fk) ++ ([.string ⟨x2_1_0.1.s.toArray⟩, .slice none 0 0, .map none] : List Value) ++ po2_1).toArray 263 (0, 0))] :: [(g2, .cells ((es2.flatMap fk) ++ ([.string ⟨x2_0.1.s.toArray⟩, .slice none 0 0, .map none] : List Value) ++ po2).toArray 143 (0, 0))] :: [(b, .cells [.int .i16 v, .int .i32 (IntKind.i32.wrap x0.1.n), .int .i16 (IntKind.i16.wrap x1.1.n), .slice none 0 0, .slice none 0 0, .map none].toArray 138 (0, 0))] :: L = L' ∧ Row 265 3 a2_1_1 (lT x2_1_1.1).length c2_1_1 (reps [.int .i32 0, .int .i16 0, .map none] (lT x2_1_1.1).length) Nr2_1_1 ∧ a2_1_1.isNone = (if 0 ≤ ((-1) : Int) ∧ (v < ((-1) : Int) ∨ (rArr true x2_1_0.2).1 = 0) then false else decide ((rArr true x2_1_0.2).1 ≤ 0))) ?_ (fun l' H' L' le_12 hI => ?_)
           ·
            refine cd rfl (fun h171 => ?_) (fun h171 => ?_)
            ·
             refine rg ?_
             refine mv rfl rfl ?_
             refine mv rfl rfl ?_
             refine apz (zs := [.int .i32 0, .int .i16 0, .map none]) (m := (lT x2_1_1.1).length) Tryz.underlying261 Tryz.underlying21 I265 rfl rfl rfl (by omega) (by omega) (by have h9 := hnb2_1_1; unfold BR at h9; omega) (by have h9 := hnb2_1_1; unfold BR at h9; unfold maxLen; omega) rfl (fun g174 cp174 N174 r174 => ?_)
             refine asg rfl rfl ?_
             refine nN ?_
             refine drN (.tail .head) ?_
             refine fun a_ w_ hA hw => ⟨_, _, _, hA.sub ?_, (Fz.le.refl _), hw, (some ⟨g174, 0, none⟩), cp174, N174, rfl, rfl, r174, (by rw [if_neg (by omega)]; exact (decide_eq_false (by omega)).symm)⟩
             exact (.cons rfl (.cons rfl (.cons rfl (.cons rfl (.cons rfl (.cons rfl (.cons rfl (.cons rfl (.cons rfl (.cons rfl (.cons rfl (.cons rfl (.cons rfl (.cons rfl (.cons rfl (.cons rfl (.cons rfl (.cons rfl (.nil _)))))))))))))))))))
            ·
             refine skN ?_
             refine fun a_ w_ hA hw => ⟨_, _, _, hA.sub ?_, (Fz.le.refl _), hw, none, 0, [], rfl, rfl, (by rw [show (lT x2_1_1.1).length = 0 by omega]; exact (Row.nil _ _)), (by rw [if_neg (by omega)]; exact (decide_eq_true (by omega)).symm)⟩
             exact (.cons rfl (.cons rfl (.cons rfl (.cons rfl (.cons rfl (.cons rfl (.cons rfl (.cons rfl (.cons rfl (.cons rfl (.cons rfl (.cons rfl (.cons rfl (.cons rfl (.cons rfl (.cons rfl (.cons (by rw [show (lT x2_1_1.1).length = 0 by omega]; rfl) (.cons rfl (.nil _)))))))))))))))))))
           ·
            obtain ⟨a2_1_1, c2_1_1, Nr2_1_1, rfl, rfl, pj0, pj1⟩ := hI
            have hr2_1_1 := pj0
            have hi2_1_1 := pj1
            refine sq ?_
            refine sr ?_
            refine asg rfl rfl ?_
            refine nl ?_
            refine bl (lp ((lT x2_1_1.1).length) (fun k2_1_1 l' H' L' => ∃ (es2_1_1 : List (KE 3)) (M2_1_1 RN2_1_1 : Chunk), [(2, .bool false), (7, .pointer (some ⟨b_1, 0, none⟩)), (8, .int .i16 v), (9, .bool (decide ((3 : Int) ≤ v))), (10, .pointer (some ⟨b, 0, none⟩)), (13, .slice none 0 0), (14, .slice a2 (lT x2.1).length c2), (15, .int .i32 (rArr true x1.2).1), (16, .int .i32 (k2 : Int)), (18, .pointer (some ⟨g2, 0 + k2 * 3, none⟩)), (20, .slice none 0 0), (21, .slice a2_1 (lT x2_1.1).length c2_1), (22, .int .i32 (rArr true x2_0.2).1), (23, .int .i32 (k2_1 : Int)), (25, .pointer (some ⟨g2_1, 0 + k2_1 * 3, none⟩)), (27, .slice none 0 0), (28, .slice a2_1_1 (lT x2_1_1.1).length c2_1_1), (29, .int .i32 (rArr true x2_1_0.2).1), (30, .int .i32 (k2_1_1 : Int))] = l' ∧ M2_1_1 :: RN2_1_1 :: [(g2_1, .cells ((es2_1.flatMap fk) ++ ([.string ⟨x2_1_0.1.s.toArray⟩, .slice none 0 0, .map none] : List Value) ++ po2_1).toArray 263 (0, 0))] :: [(g2, .cells ((es2.flatMap fk) ++ ([.string ⟨x2_0.1.s.toArray⟩, .slice none 0 0, .map none] : List Value) ++ po2).toArray 143 (0, 0))] :: [(b, .cells [.int .i16 v, .int .i32 (IntKind.i32.wrap x0.1.n), .int .i16 (IntKind.i16.wrap x1.1.n), .slice none 0 0, .slice none 0 0, .map none].toArray 138 (0, 0))] :: L = L' ∧ RdAt H' 232 b_1 (rMany (decV 10 (decP fs_sAddPartitionsToTxnResponseTransactionTopicPartition v true) false true) k2_1_1 (rArr true x2_1_0.2).2).2 RN2_1_1 ∧ Row 265 3 a2_1_1 (lT x2_1_1.1).length c2_1_1 (es2_1_1.flatMap fk ++ reps [.int .i32 0, .int .i16 0, .map none] ((lT x2_1_1.1).length - k2_1_1)) M2_1_1 ∧ es2_1_1.map (·.2) = (rMany (decV 10 (decP fs_sAddPartitionsToTxnResponseTransactionTopicPartition v true) false true) k2_1_1 (rArr true x2_1_0.2).2).1 ∧ ∀ p ∈ es2_1_1, At_AddPartitionsToTxnResponseTransactionTopicPartition H' p.2 (fk p)) [(2, .bool false), (7, .pointer (some ⟨b_1, 0, none⟩)), (8, .int .i16 v), (9, .bool (decide ((3 : Int) ≤ v))), (10, .pointer (some ⟨b, 0, none⟩)), (13, .slice none 0 0), (14, .slice a2 (lT x2.1).length c2), (15, .int .i32 (rArr true x1.2).1), (16, .int .i32 (k2 : Int)), (18, .pointer (some ⟨g2, 0 + k2 * 3, none⟩)), (20, .slice none 0 0), (21, .slice a2_1 (lT x2_1.1).length c2_1), (22, .int .i32 (rArr true x2_0.2).1), (23, .int .i32 (k2_1 : Int)), (25, .pointer (some ⟨g2_1, 0 + k2_1 * 3, none⟩)), (27, .slice none 0 0), (28, .slice a2_1_1 (lT x2_1_1.1).length c2_1_1), (29, .int .i32 (rArr true x2_1_0.2).1), (30, .int .i32 (0 : Int))] (.cons rfl (.cons rfl (.cons rfl (.cons rfl (.cons rfl (.cons rfl (.cons rfl (.cons rfl (.cons rfl (.cons rfl (.cons rfl (.cons rfl (.cons rfl (.cons rfl (.cons rfl (.cons rfl (.cons rfl (.cons rfl (.cons rfl (.nil _)))))))))))))))))))) ⟨[], Nr2_1_1, _, rfl, rfl, (hR163.mono le_12), hr2_1_1, rfl, (fun p hp => by cases hp)⟩ (fun k2_1_1 l' H' L' hk2_1_1 le_13 hI => ?_))
            obtain ⟨es2_1_1, M2_1_1, RN2_1_1, rfl, rfl, hR_2_1_1, hw_2_1_1, he_2_1_1, hg_2_1_1⟩ := hI
            have hs_2_1_1 := els_len he_2_1_1
            have hp_2_1_1 : (es2_1_1.flatMap fk).length = k2_1_1 * 3 := els_flat hs_2_1_1
            refine sq ?_
            refine sr ?_
            refine mv rfl rfl ?_
            refine mv rfl rfl ?_
            refine lt rfl rfl rfl ?_
            refine nl ?_
            refine cd rfl (fun h177 => ?_) (fun h177 => ?_)
            ·
             have hkl2_1_1 : k2_1_1 < (lT x2_1_1.1).length := by omega
             obtain ⟨g2_1_1, po2_1_1, hga2_1_1, rfl, hbk2_1_1⟩ := hw_2_1_1.next (zs := [.int .i32 0, .int .i16 0, .map none]) hkl2_1_1 rfl (by decide)
             have ho2_1_1 : 0 + k2_1_1 * 3 = (es2_1_1.flatMap fk).length := by rw [hp_2_1_1]; omega
             have hbz2_1_1 : ((decV 10 (decP fs_sAddPartitionsToTxnResponseTransactionTopicPartition v true) false true) (rMany (decV 10 (decP fs_sAddPartitionsToTxnResponseTransactionTopicPartition v true) false true) k2_1_1 (rArr true x2_1_0.2).2).2).2.bad = true → (decP fs_AddPartitionsToTxnResponse v true ⟨s, false, !a.isNone⟩).2.bad = true := fun h => hB2_1_1 (by rw [ex2_1_1]; exact rMany_mono (fun r h => decV_bad (fun r h => decP_bad _ _ _ r h) h) _ (show k2_1_1 + 1 ≤ (lT x2_1_1.1).length from hkl2_1_1) (by rw [rMany_succ]; exact h))
             have hLk2_1_1 : (rMany (decV 10 (decP fs_sAddPartitionsToTxnResponseTransactionTopicPartition v true) false true) k2_1_1 (rArr true x2_1_0.2).2).2.s.length ≤ BR := Nat.le_trans (rMany_shr (fun r => decV_shr (fun r => decP_shr _ _ _ r) r) _ _) hm2_1_1
             have hL2_1_1__ := hLk2_1_1
             obtain ⟨x2_1_1_0, hx2_1_1_0⟩ : ∃ x, x = stepF (Fd.mk 3 0 (-1) (-1) (-1) 0 0 []) v true (rMany (decV 10 (decP fs_sAddPartitionsToTxnResponseTransactionTopicPartition v true) false true) k2_1_1 (rArr true x2_1_0.2).2).2 := ⟨_, rfl⟩
             obtain ⟨x2_1_1_1, hx2_1_1_1⟩ : ∃ x, x = stepF (Fd.mk 2 0 (-1) (-1) (-1) 0 0 []) v true x2_1_1_0.2 := ⟨_, rfl⟩
             obtain ⟨u2_1_1_, hu2_1_1_⟩ : ∃ x, x = tailU true x2_1_1_1.2 := ⟨_, rfl⟩
             have hD2_1_1_ : decP fs_sAddPartitionsToTxnResponseTransactionTopicPartition v true (rMany (decV 10 (decP fs_sAddPartitionsToTxnResponseTransactionTopicPartition v true) false true) k2_1_1 (rArr true x2_1_0.2).2).2 = (.mk 0 [] false [x2_1_1_0.1, x2_1_1_1.1] u2_1_1_.1, u2_1_1_.2) := by
              generalize ((rMany (decV 10 (decP fs_sAddPartitionsToTxnResponseTransactionTopicPartition v true) false true) k2_1_1 (rArr true x2_1_0.2).2).2 : Rd) = r_ at hx2_1_1_0 ⊢
              rw [decP_eq]; unfold fs_sAddPartitionsToTxnResponseTransactionTopicPartition; simp only [decFs_cons, decFs_nil, ← hx2_1_1_0, ← hx2_1_1_1, ← hu2_1_1_]
             have hL2_1_1_0 : x2_1_1_0.2.s.length ≤ BR := by rw [hx2_1_1_0]; exact Nat.le_trans (stepF_shr _ _ _ _) hL2_1_1__
             have hL2_1_1_1 : x2_1_1_1.2.s.length ≤ BR := by rw [hx2_1_1_1]; exact Nat.le_trans (stepF_shr _ _ _ _) hL2_1_1_0
             have hE2_1_1_ : u2_1_1_.2.bad = true → (decP fs_AddPartitionsToTxnResponse v true ⟨s, false, !a.isNone⟩).2.bad = true := fun h => hbz2_1_1 (by show (decP fs_sAddPartitionsToTxnResponseTransactionTopicPartition v true (rMany (decV 10 (decP fs_sAddPartitionsToTxnResponseTransactionTopicPartition v true) false true) k2_1_1 (rArr true x2_1_0.2).2).2).2.bad = true; rw [hD2_1_1_]; exact h)
             have hB2_1_1_1 : x2_1_1_1.2.bad = true → (decP fs_AddPartitionsToTxnResponse v true ⟨s, false, !a.isNone⟩).2.bad = true := fun h => hE2_1_1_ (by rw [hu2_1_1_]; exact tailU_bad h)
             have hB2_1_1_0 : x2_1_1_0.2.bad = true → (decP fs_AddPartitionsToTxnResponse v true ⟨s, false, !a.isNone⟩).2.bad = true := fun h => hB2_1_1_1 (by rw [hx2_1_1_1]; exact step_bad h)
             refine skt ?_
             refine sq ?_
             refine bl ?_
             refine sr ?_
             refine mv rfl rfl ?_
             refine mv rfl rfl ?_
             refine ixk (j := k2_1_1) Tryz.runUnderlying261 Tryz.sizeOf265 rfl hga2_1_1 rfl rfl hkl2_1_1 rfl ?_
             refine asg rfl rfl ?_
             refine nl ?_
             refine sr ?_
             refine mv rfl rfl ?_
             refine cl rfl rfl rfl (def_AddPartitionsToTxnResponseTransactionTopicPartition ho2_1_1) rfl (fun v_ H1 L1 hle_ hR_ => ?_)
             obtain ⟨rfl, rfl⟩ := hR_
             refine nl ?_
             refine sr ?_
             refine mv rfl rfl ?_
             refine asg rfl rfl ?_
             refine nl ?_
             refine sq ?_
             refine sr ?_
             refine tf (.tail .head) ?_
             have ex2_1_1_0 : x2_1_1_0 = decV 3 (decP [] v true) false true (rMany (decV 10 (decP fs_sAddPartitionsToTxnResponseTransactionTopicPartition v true) false true) k2_1_1 (rArr true x2_1_0.2).2).2 := (hx2_1_1_0.trans (step_yes (by decide) (show (0 : Int) ≤ v by omega) (Or.inl (by decide)))).trans (decF'_val (by decide) (rfl))
             refine cl rfl rfl rfl (d3 hR_2_1_1 ex2_1_1_0) rfl (fun v_ H1 L1 hle_ hR_ => ?_)
             obtain ⟨N186, rfl, hR186, rfl, rfl⟩ := hR_
             refine asg rfl rfl ?_
             refine nl ?_
             refine rg ?_
             refine mv rfl rfl ?_
             refine mv rfl rfl ?_
             refine nc rfl rfl ?_
             refine fa F265_0 rfl rfl ?_
             refine stM (off := 0) Tryz.sizeOf21 rfl (by rw [ho2_1_1]) rfl rfl rfl (.tail .head) ?_
             refine nl ?_
             refine sq ?_
             refine sr ?_
             have ex2_1_1_1 : x2_1_1_1 = decV 2 (decP [] v true) false true x2_1_1_0.2 := (hx2_1_1_1.trans (step_yes (by decide) (show (0 : Int) ≤ v by omega) (Or.inl (by decide)))).trans (decF'_val (by decide) (rfl))
             refine cl rfl rfl rfl (d2 hR186 ex2_1_1_1) rfl (fun v_ H1 L1 hle_ hR_ => ?_)
             obtain ⟨N191, rfl, hR191, rfl, rfl⟩ := hR_
             refine asg rfl rfl ?_
             refine nl ?_
             refine rg ?_
             refine mv rfl rfl ?_
             refine mv rfl rfl ?_
             refine nc rfl rfl ?_
             refine fa F265_1 rfl rfl ?_
             refine stM (off := 1) Tryz.sizeOf51 rfl (by rw [ho2_1_1]) rfl rfl rfl (.tail .head) ?_
             refine nl ?_
             refine sr ?_
             refine mv rfl rfl ?_
             refine nl ?_
             refine cdT rfl (by omega) ?_
             refine rg ?_
             refine mv rfl rfl ?_
             refine cl rfl rfl rfl (d_tags hR191) rfl (fun v_ H1 L1 le_16 hR_ => ?_)
             obtain ⟨N198, rfl, hR198, m2_1_1_t, rfl, hft2_1_1_⟩ := hR_
             have hu22_1_1_ : u2_1_1_ = rTags x2_1_1_1.2 := hu2_1_1_
             rw [← hu22_1_1_] at hR198 hft2_1_1_
             refine nc rfl rfl ?_
             refine fa F265_2 rfl rfl ?_
             refine saM (off := 2) Tryz.sizeOf105 rfl (by rw [ho2_1_1]) rfl rfl rfl rfl (.tail .head) ?_
             refine nN ?_
             refine Nb ?_
             refine Nt ?_
             refine rg ?_
             refine mv rfl rfl ?_
             refine ad rfl rfl (c := ((k2_1_1 + 1 : Nat) : Int)) ((wrap32_le (by omega) (by omega)).trans (by omega)) rfl ?_
             refine asg rfl rfl ?_
             refine nN ?_
             have hfs2_1_1 := flatMap_snoc' fk es2_1_1 ((⟨([.int .i32 (IntKind.i32.wrap x2_1_1_0.1.n), .int .i16 (IntKind.i16.wrap x2_1_1_1.1.n), .map m2_1_1_t] : List Value), rfl, all_one rfl⟩, ((decV 10 (decP fs_sAddPartitionsToTxnResponseTransactionTopicPartition v true) false true) (rMany (decV 10 (decP fs_sAddPartitionsToTxnResponseTransactionTopicPartition v true) false true) k2_1_1 (rArr true x2_1_0.2).2).2).1) : KE 3)
             have hrw2_1_1 := hbk2_1_1 ([.int .i32 (IntKind.i32.wrap x2_1_1_0.1.n), .int .i16 (IntKind.i16.wrap x2_1_1_1.1.n), .map m2_1_1_t] : List Value) rfl
             refine tfN (.tail .head) ?_
             refine fun a_ w_ hA hw => ⟨hkl2_1_1, _, _, _, hA.sub ?_, (le_13.trans le_16), hw, _, _, _, rfl, rfl, (by rw [rMany_succ]; show RdAt _ 232 b_1 (decP fs_sAddPartitionsToTxnResponseTransactionTopicPartition v true (rMany (decV 10 (decP fs_sAddPartitionsToTxnResponseTransactionTopicPartition v true) false true) k2_1_1 (rArr true x2_1_0.2).2).2).2 _; rw [hD2_1_1_]; exact hR198), (by rw [← hfs2_1_1]; exact hrw2_1_1), (dec_els he_2_1_1), (fun p hp => (mem_snoc hp).elim (fun h => At_AddPartitionsToTxnResponseTransactionTopicPartition.mono _ _ _ _ le_16 (hg_2_1_1 p h)) (fun h => h ▸ (by show At_AddPartitionsToTxnResponseTransactionTopicPartition _ (decP fs_sAddPartitionsToTxnResponseTransactionTopicPartition v true (rMany (decV 10 (decP fs_sAddPartitionsToTxnResponseTransactionTopicPartition v true) false true) k2_1_1 (rArr true x2_1_0.2).2).2).1 [.int .i32 (IntKind.i32.wrap x2_1_1_0.1.n), .int .i16 (IntKind.i16.wrap x2_1_1_1.1.n), .map m2_1_1_t]; rw [hD2_1_1_]; exact ⟨m2_1_1_t, rfl, hft2_1_1_⟩)))⟩
             exact (.cons rfl (.cons rfl (.cons rfl (.cons rfl (.cons rfl (.cons rfl (.cons rfl (.cons rfl (.cons rfl (.cons rfl (.cons rfl (.cons rfl (.cons rfl (.cons rfl (.cons rfl (.cons rfl (.cons rfl (.cons rfl (.cons rfl (.nil _))))))))))))))))))))
            ·
             have hkn_ : k2_1_1 = (lT x2_1_1.1).length := by omega
             subst hkn_
             have hw2_2_1_1 : Row 265 3 a2_1_1 (lT x2_1_1.1).length c2_1_1 (es2_1_1.flatMap fk) M2_1_1 := by have h := hw_2_1_1; rw [Nat.sub_self] at h; simpa [reps] using h
             refine frW hw2_2_1_1 .head (fun Hf2_1_1 hlf2_1_1 hfz2_1_1 => ?_)
             have hrs2_1_1 := RowsAt.row (R := At_AddPartitionsToTxnResponseTransactionTopicPartition) hfz2_1_1 hs_2_1_1.symm hw2_2_1_1.le.1 (fun p hp => At_AddPartitionsToTxnResponseTransactionTopicPartition.mono _ _ _ _ hlf2_1_1 (hg_2_1_1 p hp))
             rw [he_2_1_1] at hrs2_1_1
             have hf2_1_1 : ListAt Hf2_1_1 x2_1_1.1 3 At_AddPartitionsToTxnResponseTransactionTopicPartition a2_1_1 c2_1_1 := by rw [ex2_1_1]; exact listAt_of hrs2_1_1 hi2_1_1 (fun h => by have h1 := nul_le h; rw [show (lT x2_1_1.1).length = 0 by omega]; rfl)
             have hRx2_1_1 : RdAt Hf2_1_1 232 b_1 x2_1_1.2 RN2_1_1 := by rw [ex2_1_1]; exact (hR_2_1_1.mono hlf2_1_1)
             refine exX ?_
             refine XT ?_
             refine XT ?_
             refine Xb ?_
             refine Nt ?_
             refine sr ?_
             refine mv rfl rfl ?_
             refine asg rfl rfl ?_
             refine nl ?_
             refine rg ?_
             refine mv rfl rfl ?_
             refine mv rfl rfl ?_
             refine nc rfl rfl ?_
             refine fa F263_1 rfl rfl ?_
             refine stM (off := 1) Tryz.sizeOf261 rfl (by rw [ho2_1]) rfl rfl rfl (.tail .head) ?_
             refine nl ?_
             refine sr ?_
             refine mv rfl rfl ?_
             refine nl ?_
             refine cdT rfl (by omega) ?_
             refine rg ?_
             refine mv rfl rfl ?_
             refine cl rfl rfl rfl (d_tags hRx2_1_1) rfl (fun v_ H1 L1 le_17 hR_ => ?_)
             obtain ⟨N208, rfl, hR208, m2_1_t, rfl, hft2_1_⟩ := hR_
             have hu22_1_ : u2_1_ = rTags x2_1_1.2 := hu2_1_
             rw [← hu22_1_] at hR208 hft2_1_
             refine nc rfl rfl ?_
             refine fa F263_2 rfl rfl ?_
             refine saM (off := 2) Tryz.sizeOf105 rfl (by rw [ho2_1]) rfl rfl rfl rfl (.tail .head) ?_
             refine nN ?_
             refine Nb ?_
             refine Nt ?_
             refine rg ?_
             refine mv rfl rfl ?_
             refine ad rfl rfl (c := ((k2_1 + 1 : Nat) : Int)) ((wrap32_le (by omega) (by omega)).trans (by omega)) rfl ?_
             refine asg rfl rfl ?_
             refine nN ?_
             have hfs2_1 := flatMap_snoc' fk es2_1 ((⟨([.string ⟨x2_1_0.1.s.toArray⟩, .slice a2_1_1 (lT x2_1_1.1).length c2_1_1, .map m2_1_t] : List Value), rfl, all_one rfl⟩, ((decV 10 (decP fs_sAddPartitionsToTxnResponseTransactionTopic v true) false true) (rMany (decV 10 (decP fs_sAddPartitionsToTxnResponseTransactionTopic v true) false true) k2_1 (rArr true x2_0.2).2).2).1) : KE 3)
             have hrw2_1 := hbk2_1 ([.string ⟨x2_1_0.1.s.toArray⟩, .slice a2_1_1 (lT x2_1_1.1).length c2_1_1, .map m2_1_t] : List Value) rfl
             refine tfN (.tail .head) ?_
             refine fun a_ w_ hA hw => ⟨hkl2_1, _, _, _, hA.sub ?_, (le_10.trans (le_12.trans (le_13.trans (hlf2_1_1.trans le_17)))), hw, _, _, _, rfl, rfl, (by rw [rMany_succ]; show RdAt _ 232 b_1 (decP fs_sAddPartitionsToTxnResponseTransactionTopic v true (rMany (decV 10 (decP fs_sAddPartitionsToTxnResponseTransactionTopic v true) false true) k2_1 (rArr true x2_0.2).2).2).2 _; rw [hD2_1_]; exact hR208), (by rw [← hfs2_1]; exact hrw2_1), (dec_els he_2_1), (fun p hp => (mem_snoc hp).elim (fun h => At_AddPartitionsToTxnResponseTransactionTopic.mono _ _ _ _ (le_12.trans (le_13.trans (hlf2_1_1.trans le_17))) (hg_2_1 p h)) (fun h => h ▸ (by show At_AddPartitionsToTxnResponseTransactionTopic _ (decP fs_sAddPartitionsToTxnResponseTransactionTopic v true (rMany (decV 10 (decP fs_sAddPartitionsToTxnResponseTransactionTopic v true) false true) k2_1 (rArr true x2_0.2).2).2).1 [.string ⟨x2_1_0.1.s.toArray⟩, .slice a2_1_1 (lT x2_1_1.1).length c2_1_1, .map m2_1_t]; rw [hD2_1_]; exact ⟨a2_1_1, c2_1_1, m2_1_t, rfl, (hf2_1_1.mono At_AddPartitionsToTxnResponseTransactionTopicPartition.mono le_17), hft2_1_⟩)))⟩
             exact (.cons rfl (.cons rfl (.cons rfl (.cons rfl (.cons rfl (.cons rfl (.cons rfl (.cons rfl (.cons rfl (.cons rfl (.cons rfl (.cons rfl (.cons rfl (.cons rfl (.nil _)))))))))))))))
         ·
          have hkn_ : k2_1 = (lT x2_1.1).length := by omega
          subst hkn_
          have hw2_2_1 : Row 263 3 a2_1 (lT x2_1.1).length c2_1 (es2_1.flatMap fk) M2_1 := by have h := hw_2_1; rw [Nat.sub_self] at h; simpa [reps] using h
          refine frW hw2_2_1 .head (fun Hf2_1 hlf2_1 hfz2_1 => ?_)
          have hrs2_1 := RowsAt.row (R := At_AddPartitionsToTxnResponseTransactionTopic) hfz2_1 hs_2_1.symm hw2_2_1.le.1 (fun p hp => At_AddPartitionsToTxnResponseTransactionTopic.mono _ _ _ _ hlf2_1 (hg_2_1 p hp))
          rw [he_2_1] at hrs2_1
          have hf2_1 : ListAt Hf2_1 x2_1.1 3 At_AddPartitionsToTxnResponseTransactionTopic a2_1 c2_1 := by rw [ex2_1]; exact listAt_of hrs2_1 hi2_1 (fun h => by have h1 := nul_le h; rw [show (lT x2_1.1).length = 0 by omega]; rfl)
          have hRx2_1 : RdAt Hf2_1 232 b_1 x2_1.2 RN2_1 := by rw [ex2_1]; exact (hR_2_1.mono hlf2_1)
          refine exX ?_
          refine XT ?_
          refine XT ?_
          refine Xb ?_
          refine Nt ?_
          refine sr ?_
          refine mv rfl rfl ?_
          refine asg rfl rfl ?_
          refine nl ?_
          refine rg ?_
          refine mv rfl rfl ?_
          refine mv rfl rfl ?_
          refine nc rfl rfl ?_
          refine fa F143_1 rfl rfl ?_
          refine stM (off := 1) Tryz.sizeOf141 rfl (by rw [ho2]) rfl rfl rfl (.tail .head) ?_
          refine nl ?_
          refine sr ?_
          refine mv rfl rfl ?_
          refine nl ?_
          refine cdT rfl (by omega) ?_
          refine rg ?_
          refine mv rfl rfl ?_
          refine cl rfl rfl rfl (d_tags hRx2_1) rfl (fun v_ H1 L1 le_18 hR_ => ?_)
          obtain ⟨N218, rfl, hR218, m2_t, rfl, hft2_⟩ := hR_
          have hu22_ : u2_ = rTags x2_1.2 := hu2_
          rw [← hu22_] at hR218 hft2_
          refine nc rfl rfl ?_
          refine fa F143_2 rfl rfl ?_
          refine saM (off := 2) Tryz.sizeOf105 rfl (by rw [ho2]) rfl rfl rfl rfl (.tail .head) ?_
          refine nN ?_
          refine Nb ?_
          refine Nt ?_
          refine rg ?_
          refine mv rfl rfl ?_
          refine ad rfl rfl (c := ((k2 + 1 : Nat) : Int)) ((wrap32_le (by omega) (by omega)).trans (by omega)) rfl ?_
          refine asg rfl rfl ?_
          refine nN ?_
          have hfs2 := flatMap_snoc' fk es2 ((⟨([.string ⟨x2_0.1.s.toArray⟩, .slice a2_1 (lT x2_1.1).length c2_1, .map m2_t] : List Value), rfl, all_one rfl⟩, ((decV 10 (decP fs_sAddPartitionsToTxnResponseTransaction v true) false true) (rMany (decV 10 (decP fs_sAddPartitionsToTxnResponseTransaction v true) false true) k2 (rArr true x1.2).2).2).1) : KE 3)
          have hrw2 := hbk2 ([.string ⟨x2_0.1.s.toArray⟩, .slice a2_1 (lT x2_1.1).length c2_1, .map m2_t] : List Value) rfl
          refine tfN (.tail .head) ?_
          refine fun a_ w_ hA hw => ⟨hkl2, _, _, _, hA.sub ?_, (le_7.trans (le_9.trans (le_10.trans (hlf2_1.trans le_18)))), hw, _, _, _, rfl, rfl, (by rw [rMany_succ]; show RdAt _ 232 b_1 (decP fs_sAddPartitionsToTxnResponseTransaction v true (rMany (decV 10 (decP fs_sAddPartitionsToTxnResponseTransaction v true) false true) k2 (rArr true x1.2).2).2).2 _; rw [hD2_]; exact hR218), (by rw [← hfs2]; exact hrw2), (dec_els he_2), (fun p hp => (mem_snoc hp).elim (fun h => At_AddPartitionsToTxnResponseTransaction.mono _ _ _ _ (le_9.trans (le_10.trans (hlf2_1.trans le_18))) (hg_2 p h)) (fun h => h ▸ (by show At_AddPartitionsToTxnResponseTransaction _ (decP fs_sAddPartitionsToTxnResponseTransaction v true (rMany (decV 10 (decP fs_sAddPartitionsToTxnResponseTransaction v true) false true) k2 (rArr true x1.2).2).2).1 [.string ⟨x2_0.1.s.toArray⟩, .slice a2_1 (lT x2_1.1).length c2_1, .map m2_t]; rw [hD2_]; exact ⟨a2_1, c2_1, m2_t, rfl, (hf2_1.mono At_AddPartitionsToTxnResponseTransactionTopic.mono le_18), hft2_⟩)))⟩
          exact (.cons rfl (.cons rfl (.cons rfl (.cons rfl (.cons rfl (.cons rfl (.cons rfl (.cons rfl (.cons rfl (.nil _))))))))))
      ·
       have hkn_ : k2 = (lT x2.1).length := by omega
       subst hkn_
       have hw2_2 : Row 143 3 a2 (lT x2.1).length c2 (es2.flatMap fk) M2 := by have h := hw_2; rw [Nat.sub_self] at h; simpa [reps] using h
       refine frW hw2_2 .head (fun Hf2 hlf2 hfz2 => ?_)
       have hrs2 := RowsAt.row (R := At_AddPartitionsToTxnResponseTransaction) hfz2 hs_2.symm hw2_2.le.1 (fun p hp => At_AddPartitionsToTxnResponseTransaction.mono _ _ _ _ hlf2 (hg_2 p hp))
       rw [he_2] at hrs2
       have hf2 : ListAt Hf2 x2.1 3 At_AddPartitionsToTxnResponseTransaction a2 c2 := by rw [ex2]; exact listAt_of hrs2 hi2 (fun h => by have h1 := nul_le h; rw [show (lT x2.1).length = 0 by omega]; rfl)
       have hRx2 : RdAt Hf2 232 b_1 x2.2 RN2 := by rw [ex2]; exact (hR_2.mono hlf2)
       refine exX ?_
       refine XT ?_
       refine XT ?_
       refine Xb ?_
       refine Nt ?_
       refine sr ?_
       refine mv rfl rfl ?_
       refine asg rfl rfl ?_
       refine nl ?_
       refine rg ?_
       refine mv rfl rfl ?_
       refine mv rfl rfl ?_
       refine nc rfl rfl ?_
       refine fa0 F138_3 rfl rfl ?_
       refine st Tryz.sizeOf135 rfl rfl rfl rfl (.tail .head) ?_
       refine nN ?_
       refine fun a_ w_ hA hw => ⟨_, _, _, hA.sub ?_, (le_6.trans (le_7.trans hlf2)), hw, a2, c2, RN2, rfl, rfl, hRx2, hf2⟩
       exact (.cons rfl (.cons rfl (.cons rfl (.cons rfl (.cons rfl (.nil _))))))
   ·
    refine skN ?_
    obtain rfl : x2 = ((Tr.mk 0 [] true [] []), x1.2) := (hx2.trans (step_no (Or.inl (show v < (4 : Int) by omega)))).trans (by rw [dflF_eq]; rfl)
    refine fun a_ w_ hA hw => ⟨_, _, _, hA.sub ?_, (Fz.le.refl _), hw, none, 0, Nj1, rfl, rfl, hRj1, (ListAt.none rfl)⟩
    exact (.cons rfl (.cons rfl (.cons rfl (.cons rfl (.cons rfl (.nil _))))))
  ·
   obtain ⟨a2, c2, Nj2, rfl, rfl, pj0, pj1⟩ := hI
   have hRj2 := pj0
   have hf2 := pj1
   refine sq ?_
   refine sr ?_
   refine mv rfl rfl ?_
   refine ge rfl rfl rfl ?_
   refine mv rfl rfl ?_
   refine spl (t := 228) rfl (fun _ => ?_) (fun hn_ => absurd (by omega) hn_)
   refine gr rfl rfl ?_
   refine mv rfl rfl ?_
   refine gr rfl rfl ?_
   refine le rfl rfl rfl ?_
   refine pk rfl rfl rfl rfl ?_
   refine nl ?_
   refine cutT (fun l' H' L' => ∃ (a3 : Option Addr), ∃ (c3 : Nat), ∃ (Nj3 : Chunk), [(7, .pointer (some ⟨b_1, 0, none⟩)), (9, .bool (decide ((3 : Int) ≤ v))), (10, .pointer (some ⟨b, 0, none⟩))] = l' ∧ Nj3 :: [(b, .cells [.int .i16 v, .int .i32 (IntKind.i32.wrap x0.1.n), .int .i16 (IntKind.i16.wrap x1.1.n), .slice a2 (lT x2.1).length c2, .slice a3 (lT x3.1).length c3, .map none].toArray 138 (0, 0))] :: L = L' ∧ RdAt H' 232 b_1 x3.2 Nj3 ∧ ListAt H' x3.1 3 At_AddPartitionsToTxnResponseTopic a3 c3) ?_ (fun l' H' L' le_19 hI => ?_)
   ·
    refine cd rfl (fun h231 => ?_) (fun h231 => ?_)
    ·
     refine sr ?_
     refine mv rfl rfl ?_
     refine nc rfl rfl ?_
     refine fa0 F138_4 rfl rfl ?_
     refine ld (Says.own (.tail .head)) Tryz.isAgg136 rfl (Nat.zero_add _).symm rfl rfl ?_
     refine asg rfl rfl ?_
     refine nl ?_
     refine sr ?_
     refine mv rfl rfl ?_
     refine asg rfl rfl ?_
     refine nl ?_
     refine sr ?_
     refine asg rfl rfl ?_
     refine nl ?_
     refine sq ?_
     refine sr ?_
     refine mv rfl rfl ?_
     refine nl ?_
     refine cdT rfl (by omega) ?_
     refine rg ?_
     have ey3 : x3 = (.mk 0 [] (if 0 ≤ ((-1) : Int) ∧ (v < ((-1) : Int) ∨ (rArr true x2.2).1 = 0) then false else decide ((rArr true x2.2).1 ≤ 0)) (rMany (decV 10 (decP fs_sAddPartitionsToTxnResponseTopic v true) false true) (rArr true x2.2).1.toNat (rArr true x2.2).2).1 [], (rMany (decV 10 (decP fs_sAddPartitionsToTxnResponseTopic v true) false true) (rArr true x2.2).1.toNat (rArr true x2.2).2).2) := (hx3.trans (step_yes (by decide) (show (0 : Int) ≤ v by omega) (Or.inr (show v ≤ (3 : Int) by omega)))).trans (decF'_list rfl rfl)
     have hn3 : (rArr true x2.2).1.toNat = (lT x3.1).length := by rw [ey3]; exact (lT_many nul_le).symm
     have ex3 := ey3
     rw [hn3] at ex3
     have hl3 := rArr_le true x2.2
     have hm3 : (rArr true x2.2).2.s.length ≤ BR := Nat.le_trans (rArr_len true x2.2) hL2
     have hnb3 : (lT x3.1).length ≤ BR := by omega
     refine cl rfl rfl rfl (r_arrt hRj2) rfl (fun v_ H1 L1 hle_ hR_ => ?_)
     obtain ⟨rfl, N238, rfl, hR238, rfl⟩ := hR_
     have hh3 := rArr_hi true x2.2
     refine asg rfl rfl ?_
     refine nl ?_
     refine sq ?_
     refine sr ?_
     refine cl rfl rfl rfl (r_ok hR238) rfl (fun v_ H1 L1 hle_ hR_ => ?_)
     obtain ⟨rfl, rfl, rfl⟩ := hR_
     refine nt rfl rfl ?_
     refine nl ?_
     refine cb rfl (fun h241 => ?_) (fun h241 => ?_)
     ·
      have hbad_ : (rArr true x2.2).2.bad = true := by simpa using h241
      refine sr ?_
      refine cl rfl rfl rfl (r_complete hR238 (he.mono (le_3.trans le_5))) rfl (fun v_ H1 L1 hle_ hR_ => ?_)
      obtain ⟨rfl, rfl, rfl⟩ := hR_
      refine asg rfl rfl ?_
      refine nl ?_
      refine drW .head ?_
      exact rT rfl rfl (le_3.trans le_5) (fun _ _ h => h) ⟨_, rfl, RdEnd.out (hB3 (by rw [ey3]; exact rMany_bad (fun r h => decV_bad (decP_bad _ _ _) h) _ _ hbad_)) hbad_⟩
     ·
      refine skt ?_
      refine sr ?_
      refine mv rfl rfl ?_
      refine sh' (j := 0) Tryz.runUnderlying136 Tryz.sizeOf148 rfl rfl rfl (Nat.zero_le _) rfl ?_
      refine asg rfl rfl ?_
      refine nl ?_
      refine sq ?_
      refine sr ?_
      refine mv rfl rfl ?_
      refine gt rfl rfl rfl ?_
      refine nl ?_
      refine nulC2 ?_
      refine cutT (fun l' H' L' => ∃ (a3 : Option Addr), ∃ (c3 : Nat), ∃ (Nr3 : Chunk), [(2, .bool false), (7, .pointer (some ⟨b_1, 0, none⟩)), (9, .bool (decide ((3 : Int) ≤ v))), (10, .pointer (some ⟨b, 0, none⟩)), (35, .slice none 0 0), (36, .slice a3 (lT x3.1).length c3), (37, .int .i32 (rArr true x2.2).1)] = l' ∧ Nr3 :: N238 :: [(b, .cells [.int .i16 v, .int .i32 (IntKind.i32.wrap x0.1.n), .int .i16 (IntKind.i16.wrap x1.1.n), .slice a2 (lT x2.1).length c2, .slice none 0 0, .map none].toArray 138 (0, 0))] :: L = L' ∧ Row 148 3 a3 (lT x3.1).length c3 (reps [.string ⟨#[]⟩, .slice none 0 0, .map none] (lT x3.1).length) Nr3 ∧ a3.isNone = (if 0 ≤ ((-1) : Int) ∧ (v < ((-1) : Int) ∨ (rArr true x2.2).1 = 0) then false else decide ((rArr true x2.2).1 ≤ 0))) ?_ (fun l' H' L' le_20 hI => ?_)
      ·
       refine cd rfl (fun h246 => ?_) (fun h246 => ?_)
       ·
        refine rg ?_
        refine mv rfl rfl ?_
        refine mv rfl rfl ?_
        refine apz (zs := [.string ⟨#[]⟩, .slice none 0 0, .map none]) (m := (lT x3.1).length) Tryz.underlying136 Tryz.underlying21 I148 rfl rfl rfl (by omega) (by omega) (by have h9 := hnb3; unfold BR at h9; omega) (by have h9 := hnb3; unfold BR at h9; unfold maxLen; omega) rfl (fun g249 cp249 N249 r249 => ?_)
        refine asg rfl rfl ?_
        refine nN ?_
        refine drN (.tail .head) ?_
        refine fun a_ w_ hA hw => ⟨_, _, _, hA.sub ?_, (Fz.le.refl _), hw, (some ⟨g249, 0, none⟩), cp249, N249, rfl, rfl, r249, (by rw [if_neg (by omega)]; exact (decide_eq_false (by omega)).symm)⟩
        exact (.cons rfl (.cons rfl (.cons rfl (.cons rfl (.cons rfl (.cons rfl (.cons rfl (.nil _))))))))
       ·
        refine skN ?_
        refine fun a_ w_ hA hw => ⟨_, _, _, hA.sub ?_, (Fz.le.refl _), hw, none, 0, [], rfl, rfl, (by rw [show (lT x3.1).length = 0 by omega]; exact (Row.nil _ _)), (by rw [if_neg (by omega)]; exact (decide_eq_true (by omega)).symm)⟩
        exact (.cons rfl (.cons rfl (.cons rfl (.cons rfl (.cons rfl (.cons (by rw [show (lT x3.1).length = 0 by omega]; rfl) (.cons rfl (.nil _))))))))
      ·
       obtain ⟨a3, c3, Nr3, rfl, rfl, pj0, pj1⟩ := hI
       have hr3 := pj0
       have hi3 := pj1
       refine sq ?_
       refine sr ?_
       refine asg rfl rfl ?_
       refine nl ?_
       refine bl (lp ((lT x3.1).length) (fun k3 l' H' L' => ∃ (es3 : List (KE 3)) (M3 RN3 : Chunk), [(2, .bool false), (7, .pointer (some ⟨b_1, 0, none⟩)), (9, .bool (decide ((3 : Int) ≤ v))), (10, .pointer (some ⟨b, 0, none⟩)), (35, .slice none 0 0), (36, .slice a3 (lT x3.1).length c3), (37, .int .i32 (rArr true x2.2).1), (38, .int .i32 (k3 : Int))] = l' ∧ M3 :: RN3 :: [(b, .cells [.int .i16 v, .int .i32 (IntKind.i32.wrap x0.1.n), .int .i16 (IntKind.i16.wrap x1.1.n), .slice a2 (lT x2.1).length c2, .slice none 0 0, .map none].toArray 138 (0, 0))] :: L = L' ∧ RdAt H' 232 b_1 (rMany (decV 10 (decP fs_sAddPartitionsToTxnResponseTopic v true) false true) k3 (rArr true x2.2).2).2 RN3 ∧ Row 148 3 a3 (lT x3.1).length c3 (es3.flatMap fk ++ reps [.string ⟨#[]⟩, .slice none 0 0, .map none] ((lT x3.1).length - k3)) M3 ∧ es3.map (·.2) = (rMany (decV 10 (decP fs_sAddPartitionsToTxnResponseTopic v true) false true) k3 (rArr true x2.2).2).1 ∧ ∀ p ∈ es3, At_AddPartitionsToTxnResponseTopic H' p.2 (fk p)) [(2, .bool false), (7, .pointer (some ⟨b_1, 0, none⟩)), (9, .bool (decide ((3 : Int) ≤ v))), (10, .pointer (some ⟨b, 0, none⟩)), (35, .slice none 0 0), (36, .slice a3 (lT x3.1).length c3), (37, .int .i32 (rArr true x2.2).1), (38, .int .i32 (0 : Int))] (.cons rfl (.cons rfl (.cons rfl (.cons rfl (.cons rfl (.cons rfl (.cons rfl (.cons rfl (.nil _))))))))) ⟨[], Nr3, _, rfl, rfl, (hR238.mono le_20), hr3, rfl, (fun p hp => by cases hp)⟩ (fun k3 l' H' L' hk3 le_21 hI => ?_))
       obtain ⟨es3, M3, RN3, rfl, rfl, hR_3, hw_3, he_3, hg_3⟩ := hI
       have hs_3 := els_len he_3
       have hp_3 : (es3.flatMap fk).length = k3 * 3 := els_flat hs_3
       refine sq ?_
       refine sr ?_
       refine mv rfl rfl ?_
       refine mv rfl rfl ?_
       refine lt rfl rfl rfl ?_
       refine nl ?_
       refine cd rfl (fun h252 => ?_) (fun h252 => ?_)
       ·
        have hkl3 : k3 < (lT x3.1).length := by omega
        obtain ⟨g3, po3, hga3, rfl, hbk3⟩ := hw_3.next (zs := [.string ⟨#[]⟩, .slice none 0 0, .map none]) hkl3 rfl (by decide)
        have ho3 : 0 + k3 * 3 = (es3.flatMap fk).length := by rw [hp_3]; omega
        have hbz3 : ((decV 10 (decP fs_sAddPartitionsToTxnResponseTopic v true) false true) (rMany (decV 10 (decP fs_sAddPartitionsToTxnResponseTopic v true) false true) k3 (rArr true x2.2).2).2).2.bad = true → (decP fs_AddPartitionsToTxnResponse v true ⟨s, false, !a.isNone⟩).2.bad = true := fun h => hB3 (by rw [ex3]; exact rMany_mono (fun r h => decV_bad (fun r h => decP_bad _ _ _ r h) h) _ (show k3 + 1 ≤ (lT x3.1).length from hkl3) (by rw [rMany_succ]; exact h))
        have hLk3 : (rMany (decV 10 (decP fs_sAddPartitionsToTxnResponseTopic v true) false true) k3 (rArr true x2.2).2).2.s.length ≤ BR := Nat.le_trans (rMany_shr (fun r => decV_shr (fun r => decP_shr _ _ _ r) r) _ _) hm3
        have hL3__ := hLk3
        obtain ⟨x3_0, hx3_0⟩ : ∃ x, x = stepF (Fd.mk 8 0 (-1) (-1) (-1) 0 0 []) v true (rMany (decV 10 (decP fs_sAddPartitionsToTxnResponseTopic v true) false true) k3 (rArr true x2.2).2).2 := ⟨_, rfl⟩
        obtain ⟨x3_1, hx3_1⟩ : ∃ x, x = stepF (Fd.mk 11 0 (-1) (-1) (-1) 0 10 fs_sAddPartitionsToTxnResponseTopicPartition) v true x3_0.2 := ⟨_, rfl⟩
        obtain ⟨u3_, hu3_⟩ : ∃ x, x = tailU true x3_1.2 := ⟨_, rfl⟩
        have hD3_ : decP fs_sAddPartitionsToTxnResponseTopic v true (rMany (decV 10 (decP fs_sAddPartitionsToTxnResponseTopic v true) false true) k3 (rArr true x2.2).2).2 = (.mk 0 [] false [x3_0.1, x3_1.1] u3_.1, u3_.2) := by
         generalize ((rMany (decV 10 (decP fs_sAddPartitionsToTxnResponseTopic v true) false true) k3 (rArr true x2.2).2).2 : Rd) = r_ at hx3_0 ⊢
         rw [decP_eq]; unfold fs_sAddPartitionsToTxnResponseTopic; simp only [decFs_cons, decFs_nil, ← hx3_0, ← hx3_1, ← hu3_]
        have hL3_0 : x3_0.2.s.length ≤ BR := by rw [hx3_0]; exact Nat.le_trans (stepF_shr _ _ _ _) hL3__
        have hL3_1 : x3_1.2.s.length ≤ BR := by rw [hx3_1]; exact Nat.le_trans (stepF_shr _ _ _ _) hL3_0
        have hE3_ : u3_.2.bad = true → (decP fs_AddPartitionsToTxnResponse v true ⟨s, false, !a.isNone⟩).2.bad = true := fun h => hbz3 (by show (decP fs_sAddPartitionsToTxnResponseTopic v true (rMany (decV 10 (decP fs_sAddPartitionsToTxnResponseTopic v true) false true) k3 (rArr true x2.2).2).2).2.bad = true; rw [hD3_]; exact h)
        have hB3_1 : x3_1.2.bad = true → (decP fs_AddPartitionsToTxnResponse v true ⟨s, false, !a.isNone⟩).2.bad = true := fun h => hE3_ (by rw [hu3_]; exact tailU_bad h)
        have hB3_0 : x3_0.2.bad = true → (decP fs_AddPartitionsToTxnResponse v true ⟨s, false, !a.isNone⟩).2.bad = true := fun h => hB3_1 (by rw [hx3_1]; exact step_bad h)
        refine skt ?_
        refine sq ?_
        refine bl ?_
        refine sr ?_
        refine mv rfl rfl ?_
        refine mv rfl rfl ?_
        refine ixk (j := k3) Tryz.runUnderlying136 Tryz.sizeOf148 rfl hga3 rfl rfl hkl3 rfl ?_
        refine asg rfl rfl ?_
        refine nl ?_
        refine sr ?_
        refine mv rfl rfl ?_
        refine cl rfl rfl rfl (def_AddPartitionsToTxnResponseTopic ho3) rfl (fun v_ H1 L1 hle_ hR_ => ?_)
        obtain ⟨rfl, rfl⟩ := hR_
        refine nl ?_
        refine sr ?_
        refine mv rfl rfl ?_
        refine asg rfl rfl ?_
        refine nl ?_
        refine sq ?_
        refine sr ?_
        refine asg rfl rfl ?_
        refine nl ?_
        refine sq ?_
        refine sr ?_
        refine mv rfl rfl ?_
        refine nl ?_
        refine cF rfl ?_
        refine sr ?_
        refine mv rfl rfl ?_
        refine nl ?_
        refine cdT rfl (by omega) ?_
        refine rg ?_
        refine tf (.tail .head) ?_
        have ex3_0 : x3_0 = decV 8 (decP [] v true) false true (rMany (decV 10 (decP fs_sAddPartitionsToTxnResponseTopic v true) false true) k3 (rArr true x2.2).2).2 := (hx3_0.trans (step_yes (by decide) (show (0 : Int) ≤ v by omega) (Or.inl (by decide)))).trans (decF'_val (by decide) (rfl))
        refine cl rfl rfl rfl (d8t hR_3 ex3_0) rfl (fun v_ H1 L1 le_22 hR_ => ?_)
        obtain ⟨N266, rfl, hR266, rfl, rfl⟩ := hR_
        refine asg rfl rfl ?_
        refine nl ?_
        refine rg ?_
        refine mv rfl rfl ?_
        refine mv rfl rfl ?_
        refine nc rfl rfl ?_
        refine fa F148_0 rfl rfl ?_
        refine stM (off := 0) Tryz.sizeOf9 rfl (by rw [ho3]) rfl rfl rfl (.tail .head) ?_
        refine nl ?_
        refine sq ?_
        refine sr ?_
        refine mv rfl rfl ?_
        refine nc rfl rfl ?_
        refine fa F148_1 rfl rfl ?_
        refine ld (j := 1) (off := 0 + k3 * 3) (Says.mid (.tail .head) ho3) Tryz.isAgg146 rfl rfl rfl rfl ?_
        refine asg rfl rfl ?_
        refine nl ?_
        refine sr ?_
        refine mv rfl rfl ?_
        refine asg rfl rfl ?_
        refine nl ?_
        refine sr ?_
        refine asg rfl rfl ?_
        refine nl ?_
        refine sq ?_
        refine sr ?_
        refine mv rfl rfl ?_
        refine nl ?_
        refine cdT rfl (by omega) ?_
        refine rg ?_
        have ey3_1 : x3_1 = (.mk 0 [] (if 0 ≤ ((-1) : Int) ∧ (v < ((-1) : Int) ∨ (rArr true x3_0.2).1 = 0) then false else decide ((rArr true x3_0.2).1 ≤ 0)) (rMany (decV 10 (decP fs_sAddPartitionsToTxnResponseTopicPartition v true) false true) (rArr true x3_0.2).1.toNat (rArr true x3_0.2).2).1 [], (rMany (decV 10 (decP fs_sAddPartitionsToTxnResponseTopicPartition v true) false true) (rArr true x3_0.2).1.toNat (rArr true x3_0.2).2).2) := (hx3_1.trans (step_yes (by decide) (show (0 : Int) ≤ v by omega) (Or.inl (by decide)))).trans (decF'_list rfl rfl)
        have hn3_1 : (rArr true x3_0.2).1.toNat = (lT x3_1.1).length := by rw [ey3_1]; exact (lT_many nul_le).symm
        have ex3_1 := ey3_1
        rw [hn3_1] at ex3_1
        have hl3_1 := rArr_le true x3_0.2
        have hm3_1 : (rArr true x3_0.2).2.s.length ≤ BR := Nat.le_trans (rArr_len true x3_0.2) hL3_0
        have hnb3_1 : (lT x3_1.1).length ≤ BR := by omega
        refine cl rfl rfl rfl (r_arrt hR266) rfl (fun v_ H1 L1 hle_ hR_ => ?_)
        obtain ⟨rfl, N278, rfl, hR278, rfl⟩ := hR_
        have hh3_1 := rArr_hi true x3_0.2
        refine asg rfl rfl ?_
        refine nl ?_
        refine sq ?_
        refine sr ?_
        refine cl rfl rfl rfl (r_ok hR278) rfl (fun v_ H1 L1 hle_ hR_ => ?_)
        obtain ⟨rfl, rfl, rfl⟩ := hR_
        refine nt rfl rfl ?_
        refine nl ?_
        refine cb rfl (fun h281 => ?_) (fun h281 => ?_)
        ·
         have hbad_ : (rArr true x3_0.2).2.bad = true := by simpa using h281
         refine sr ?_
         refine cl rfl rfl rfl (r_complete hR278 (he.mono (le_3.trans (le_5.trans (le_20.trans le_21))))) rfl (fun v_ H1 L1 hle_ hR_ => ?_)
         obtain ⟨rfl, rfl, rfl⟩ := hR_
         refine asg rfl rfl ?_
         refine nl ?_
         refine drW .head ?_
         refine drW .head ?_
         exact rT rfl rfl (le_3.trans (le_5.trans (le_20.trans le_21))) (fun _ _ h => h) ⟨_, rfl, RdEnd.out (hB3_1 (by rw [ey3_1]; exact rMany_bad (fun r h => decV_bad (decP_bad _ _ _) h) _ _ hbad_)) hbad_⟩
        ·
         refine skt ?_
         refine sr ?_
         refine mv rfl rfl ?_
         refine sh' (j := 0) Tryz.runUnderlying146 Tryz.sizeOf267 rfl rfl rfl (Nat.zero_le _) rfl ?_
         refine asg rfl rfl ?_
         refine nl ?_
         refine sq ?_
         refine sr ?_
         refine mv rfl rfl ?_
         refine gt rfl rfl rfl ?_
         refine nl ?_
         refine nulC2 ?_
         refine cutT (fun l' H' L' => ∃ (a3_1 : Option Addr), ∃ (c3_1 : Nat), ∃ (Nr3_1 : Chunk), [(2, .bool false), (7, .pointer (some ⟨b_1, 0, none⟩)), (9, .bool (decide ((3 : Int) ≤ v))), (10, .pointer (some ⟨b, 0, none⟩)), (35, .slice none 0 0), (36, .slice a3 (lT x3.1).length c3), (37, .int .i32 (rArr true x2.2).1), (38, .int .i32 (k3 : Int)), (40, .pointer (some ⟨g3, 0 + k3 * 3, none⟩)), (42, .slice none 0 0), (43, .slice a3_1 (lT x3_1.1).length c3_1), (44, .int .i32 (rArr true x3_0.2).1)] = l' ∧ Nr3_1 :: N278 :: [(g3, .cells ((es3.flatMap fk) ++ ([.string ⟨x3_0.1.s.toArray⟩, .slice none 0 0, .map none] : List Value) ++ po3).toArray 148 (0, 0))] :: [(b, .cells [.int .i16 v, .int .i32 (IntKind.i32.wrap x0.1.n), .int .i16 (IntKind.i16.wrap x1.1.n), .slice a2 (lT x2.1).length c2, .slice none 0 0, .map none].toArray 138 (0, 0))] :: L = L' ∧ Row 267 3 a3_1 (lT x3_1.1).length c3_1 (reps [.int .i32 0, .int .i16 0, .map none] (lT x3_1.1).length) Nr3_1 ∧ a3_1.isNone = (if 0 ≤ ((-1) : Int) ∧ (v < ((-1) : Int) ∨ (rArr true x3_0.2).1 = 0) then false else decide ((rArr true x3_0.2).1 ≤ 0))) ?_ (fun l' H' L' le_23 hI => ?_)
         ·
          refine cd rfl (fun h286 => ?_) (fun h286 => ?_)
          ·
           refine rg ?_
           refine mv rfl rfl ?_
           refine mv rfl rfl ?_
           refine apz (zs := [.int .i32 0, .int .i16 0, .map none]) (m := (lT x3_1.1).length) Tryz.underlying146 Tryz.underlying21 I267 rfl rfl rfl (by omega) (by omega) (by have h9 := hnb3_1; unfold BR at h9; omega) (by have h9 := hnb3_1; unfold BR at h9; unfold maxLen; omega) rfl (fun g289 cp289 N289 r289 => ?_)
           refine asg rfl rfl ?_
           refine nN ?_
           refine drN (.tail .head) ?_
           refine fun a_ w_ hA hw => ⟨_, _, _, hA.sub ?_, (Fz.le.refl _), hw, (some ⟨g289, 0, none⟩), cp289, N289, rfl, rfl, r289, (by rw [if_neg (by omega)]; exact (decide_eq_false (by omega)).symm)⟩
           exact (.cons rfl (.cons rfl (.cons rfl (.cons rfl (.cons rfl (.cons rfl (.cons rfl (.cons rfl (.cons rfl (.cons rfl (.cons rfl (.cons rfl (.nil _)))))))))))))
          ·
           refine skN ?_
           refine fun a_ w_ hA hw => ⟨_, _, _, hA.sub ?_, (Fz.le.refl _), hw, none, 0, [], rfl, rfl, (by rw [show (lT x3_1.1).length = 0 by omega]; exact (Row.nil _ _)), (by rw [if_neg (by omega)]; exact (decide_eq_true (by omega)).symm)⟩
           exact (.cons rfl (.cons rfl (.cons rfl (.cons rfl (.cons rfl (.cons rfl (.cons rfl (.cons rfl (.cons rfl (.cons rfl (.cons (by rw [show (lT x3_1.1).length = 0 by omega]; rfl) (.cons rfl (.nil _)))))))))))))
         ·
          obtain ⟨a3_1, c3_1, Nr3_1, rfl, rfl, pj0, pj1⟩ := hI
          have hr3_1 := pj0
          have hi3_1 := pj1
          refine sq ?_
          refine sr ?_
          refine asg rfl rfl ?_
          refine nl ?_
          refine bl (lp ((lT x3_1.1).length) (fun k3_1 l' H' L' => ∃ (es3_1 : List (KE 3)) (M3_1 RN3_1 : Chunk), [(2, .bool false), (7, .pointer (some ⟨b_1, 0, none⟩)), (9, .bool (decide ((3 : Int) ≤ v))), (10, .pointer (some ⟨b, 0, none⟩)), (35, .slice none 0 0), (36, .slice a3 (lT x3.1).length c3), (37, .int .i32 (rArr true x2.2).1), (38, .int .i32 (k3 : Int)), (40, .pointer (some ⟨g3, 0 + k3 * 3, none⟩)), (42, .slice none 0 0), (43, .slice a3_1 (lT x3_1.1).length c3_1), (44, .int .i32 (rArr true x3_0.2).1), (45, .int .i32 (k3_1 : Int))] = l' ∧ M3_1 :: RN3_1 :: [(g3, .cells ((es3.flatMap fk) ++ ([.string ⟨x3_0.1.s.toArray⟩, .slice none 0 0, .map none] : List Value) ++ po3).toArray 148 (0, 0))] :: [(b, .cells [.int .i16 v, .int .i32 (IntKind.i32.wrap x0.1.n), .int .i16 (IntKind.i16.wrap x1.1.n), .slice a2 (lT x2.1).length c2, .slice none 0 0, .map none].toArray 138 (0, 0))] :: L = L' ∧ RdAt H' 232 b_1 (rMany (decV 10 (decP fs_sAddPartitionsToTxnResponseTopicPartition v true) false true) k3_1 (rArr true x3_0.2).2).2 RN3_1 ∧ Row 267 3 a3_1 (lT x3_1.1).length c3_1 (es3_1.flatMap fk ++ reps [.int .i32 0, .int .i16 0, .map none] ((lT x3_1.1).length - k3_1)) M3_1 ∧ es3_1.map (·.2) = (rMany (decV 10 (decP fs_sAddPartitionsToTxnResponseTopicPartition v true) false true) k3_1 (rArr true x3_0.2).2).1 ∧ ∀ p ∈ es3_1, At_AddPartitionsToTxnResponseTopicPartition H' p.2 (fk p)) [(2, .bool false), (7, .pointer (some ⟨b_1, 0, none⟩)), (9, .bool (decide ((3 : Int) ≤ v))), (10, .pointer (some ⟨b, 0, none⟩)), (35, .slice none 0 0), (36, .slice a3 (lT x3.1).length c3), (37, .int .i32 (rArr true x2.2).1), (38, .int .i32 (k3 : Int)), (40, .pointer (some ⟨g3, 0 + k3 * 3, none⟩)), (42, .slice none 0 0), (43, .slice a3_1 (lT x3_1.1).length c3_1), (44, .int .i32 (rArr true x3_0.2).1), (45, .int .i32 (0 : Int))] (.cons rfl (.cons rfl (.cons rfl (.cons rfl (.cons rfl (.cons rfl (.cons rfl (.cons rfl (.cons rfl (.cons rfl (.cons rfl (.cons rfl (.cons rfl (.nil _)))))))))))))) ⟨[], Nr3_1, _, rfl, rfl, (hR278.mono le_23), hr3_1, rfl, (fun p hp => by cases hp)⟩ (fun k3_1 l' H' L' hk3_1 le_24 hI => ?_))
          obtain ⟨es3_1, M3_1, RN3_1, rfl, rfl, hR_3_1, hw_3_1, he_3_1, hg_3_1⟩ := hI
          have hs_3_1 := els_len he_3_1
          have hp_3_1 : (es3_1.flatMap fk).length = k3_1 * 3 := els_flat hs_3_1
          refine sq ?_
          refine sr ?_
          refine mv rfl rfl ?_
          refine mv rfl rfl ?_
          refine lt rfl rfl rfl ?_
          refine nl ?_
          refine cd rfl (fun h292 => ?_) (fun h292 => ?_)
          ·
           have hkl3_1 : k3_1 < (lT x3_1.1).length := by omega
           obtain ⟨g3_1, po3_1, hga3_1, rfl, hbk3_1⟩ := hw_3_1.next (zs := [.int .i32 0, .int .i16 0, .map none]) hkl3_1 rfl (by decide)
           have ho3_1 : 0 + k3_1 * 3 = (es3_1.flatMap fk).length := by rw [hp_3_1]; omega
           have hbz3_1 : ((decV 10 (decP fs_sAddPartitionsToTxnResponseTopicPartition v true) false true) (rMany (decV 10 (decP fs_sAddPartitionsToTxnResponseTopicPartition v true) false true) k3_1 (rArr true x3_0.2).2).2).2.bad = true → (decP fs_AddPartitionsToTxnResponse v true ⟨s, false, !a.isNone⟩).2.bad = true := fun h => hB3_1 (by rw [ex3_1]; exact rMany_mono (fun r h => decV_bad (fun r h => decP_bad _ _ _ r h) h) _ (show k3_1 + 1 ≤ (lT x3_1.1).length from hkl3_1) (by rw [rMany_succ]; exact h))
           have hLk3_1 : (rMany (decV 10 (decP fs_sAddPartitionsToTxnResponseTopicPartition v true) false true) k3_1 (rArr true x3_0.2).2).2.s.length ≤ BR := Nat.le_trans (rMany_shr (fun r => decV_shr (fun r => decP_shr _ _ _ r) r) _ _) hm3_1
           have hL3_1__ := hLk3_1
           obtain ⟨x3_1_0, hx3_1_0⟩ : ∃ x, x = stepF (Fd.mk 3 0 (-1) (-1) (-1) 0 0 []) v true (rMany (decV 10 (decP fs_sAddPartitionsToTxnResponseTopicPartition v true) false true) k3_1 (rArr true x3_0.2).2).2 := ⟨_, rfl⟩
           obtain ⟨x3_1_1, hx3_1_1⟩ : ∃ x, x = stepF (Fd.mk 2 0 (-1) (-1) (-1) 0 0 []) v true x3_1_0.2 := ⟨_, rfl⟩
           obtain ⟨u3_1_, hu3_1_⟩ : ∃ x, x = tailU true x3_1_1.2 := ⟨_, rfl⟩
           have hD3_1_ : decP fs_sAddPartitionsToTxnResponseTopicPartition v true (rMany (decV 10 (decP fs_sAddPartitionsToTxnResponseTopicPartition v true) false true) k3_1 (rArr true x3_0.2).2).2 = (.mk 0 [] false [x3_1_0.1, x3_1_1.1] u3_1_.1, u3_1_.2) := by
            generalize ((rMany (decV 10 (decP fs_sAddPartitionsToTxnResponseTopicPartition v true) false true) k3_1 (rArr true x3_0.2).2).2 : Rd) = r_ at hx3_1_0 ⊢
            rw [decP_eq]; unfold fs_sAddPartitionsToTxnResponseTopicPartition; simp only [decFs_cons, decFs_nil, ← hx3_1_0, ← hx3_1_1, ← hu3_1_]
           have hL3_1_0 : x3_1_0.2.s.length ≤ BR := by rw [hx3_1_0]; exact Nat.le_trans (stepF_shr _ _ _ _) hL3_1__
           have hL3_1_1 : x3_1_1.2.s.length ≤ BR := by rw [hx3_1_1]; exact Nat.le_trans (stepF_shr _ _ _ _) hL3_1_0
           have hE3_1_ : u3_1_.2.bad = true → (decP fs_AddPartitionsToTxnResponse v true ⟨s, false, !a.isNone⟩).2.bad = true := fun h => hbz3_1 (by show (decP fs_sAddPartitionsToTxnResponseTopicPartition v true (rMany (decV 10 (decP fs_sAddPartitionsToTxnResponseTopicPartition v true) false true) k3_1 (rArr true x3_0.2).2).2).2.bad = true; rw [hD3_1_]; exact h)
           have hB3_1_1 : x3_1_1.2.bad = true → (decP fs_AddPartitionsToTxnResponse v true ⟨s, false, !a.isNone⟩).2.bad = true := fun h => hE3_1_ (by rw [hu3_1_]; exact tailU_bad h)
           have hB3_1_0 : x3_1_0.2.bad = true → (decP fs_AddPartitionsToTxnResponse v true ⟨s, false, !a.isNone⟩).2.bad = true := fun h => hB3_1_1 (by rw [hx3_1_1]; exact step_bad h)
           refine skt ?_
           refine sq ?_
           refine bl ?_
           refine sr ?_
           refine mv rfl rfl ?_
           refine mv rfl rfl ?_
           refine ixk (j := k3_1) Tryz.runUnderlying146 Tryz.sizeOf267 rfl hga3_1 rfl rfl hkl3_1 rfl ?_
           refine asg rfl rfl ?_
           refine nl ?_
           refine sr ?_
           refine mv rfl rfl ?_
           refine cl rfl rfl rfl (def_AddPartitionsToTxnResponseTopicPartition ho3_1) rfl (fun v_ H1 L1 hle_ hR_ => ?_)
           obtain ⟨rfl, rfl⟩ := hR_
           refine nl ?_
           refine sr ?_
           refine mv rfl rfl ?_
           refine asg rfl rfl ?_
           refine nl ?_
           refine sq ?_
           refine sr ?_
           refine tf (.tail .head) ?_
           have ex3_1_0 : x3_1_0 = decV 3 (decP [] v true) false true (rMany (decV 10 (decP fs_sAddPartitionsToTxnResponseTopicPartition v true) false true) k3_1 (rArr true x3_0.2).2).2 := (hx3_1_0.trans (step_yes (by decide) (show (0 : Int) ≤ v by omega) (Or.inl (by decide)))).trans (decF'_val (by decide) (rfl))
           refine cl rfl rfl rfl (d3 hR_3_1 ex3_1_0) rfl (fun v_ H1 L1 hle_ hR_ => ?_)
           obtain ⟨N301, rfl, hR301, rfl, rfl⟩ := hR_
           refine asg rfl rfl ?_
           refine nl ?_
           refine rg ?_
           refine mv rfl rfl ?_
           refine mv rfl rfl ?_
           refine nc rfl rfl ?_
           refine fa F267_0 rfl rfl ?_
           refine stM (off := 0) Tryz.sizeOf21 rfl (by rw [ho3_1]) rfl rfl rfl (.tail .head) ?_
           refine nl ?_
           refine sq ?_
           refine sr ?_
           have ex3_1_1 : x3_1_1 = decV 2 (decP [] v true) false true x3_1_0.2 := (hx3_1_1.trans (step_yes (by decide) (show (0 : Int) ≤ v by omega) (Or.inl (by decide)))).trans (decF'_val (by decide) (rfl))
           refine cl rfl rfl rfl (d2 hR301 ex3_1_1) rfl (fun v_ H1 L1 hle_ hR_ => ?_)
           obtain ⟨N306, rfl, hR306, rfl, rfl⟩ := hR_
           refine asg rfl rfl ?_
           refine nl ?_
           refine rg ?_
           refine mv rfl rfl ?_
           refine mv rfl rfl ?_
           refine nc rfl rfl ?_
           refine fa F267_1 rfl rfl ?_
           refine stM (off := 1) Tryz.sizeOf51 rfl (by rw [ho3_1]) rfl rfl rfl (.tail .head) ?_
           refine nl ?_
           refine sr ?_
           refine mv rfl rfl ?_
           refine nl ?_
           refine cdT rfl (by omega) ?_
           refine rg ?_
           refine mv rfl rfl ?_
           refine cl rfl rfl rfl (d_tags hR306) rfl (fun v_ H1 L1 le_27 hR_ => ?_)
           obtain ⟨N313, rfl, hR313, m3_1_t, rfl, hft3_1_⟩ := hR_
           have hu23_1_ : u3_1_ = rTags x3_1_1.2 := hu3_1_
           rw [← hu23_1_] at hR313 hft3_1_
           refine nc rfl rfl ?_
           refine fa F267_2 rfl rfl ?_
           refine saM (off := 2) Tryz.sizeOf105 rfl (by rw [ho3_1]) rfl rfl rfl rfl (.tail .head) ?_
           refine nN ?_
           refine Nb ?_
           refine Nt ?_
           refine rg ?_
           refine mv rfl rfl ?_
           refine ad rfl rfl (c := ((k3_1 + 1 : Nat) : Int)) ((wrap32_le (by omega) (by omega)).trans (by omega)) rfl ?_
           refine asg rfl rfl ?_
           refine nN ?_
           have hfs3_1 := flatMap_snoc' fk es3_1 ((⟨([.int .i32 (IntKind.i32.wrap x3_1_0.1.n), .int .i16 (IntKind.i16.wrap x3_1_1.1.n), .map m3_1_t] : List Value), rfl, all_one rfl⟩, ((decV 10 (decP fs_sAddPartitionsToTxnResponseTopicPartition v true) false true) (rMany (decV 10 (decP fs_sAddPartitionsToTxnResponseTopicPartition v true) false true) k3_1 (rArr true x3_0.2).2).2).1) : KE 3)
           have hrw3_1 := hbk3_1 ([.int .i32 (IntKind.i32.wrap x3_1_0.1.n), .int .i16 (IntKind.i16.wrap x3_1_1.1.n), .map m3_1_t] : List Value) rfl
           refine tfN (.tail .head) ?_
           refine fun a_ w_ hA hw => ⟨hkl3_1, _, _, _, hA.sub ?_, (le_24.trans le_27), hw, _, _, _, rfl, rfl, (by rw [rMany_succ]; show RdAt _ 232 b_1 (decP fs_sAddPartitionsToTxnResponseTopicPartition v true (rMany (decV 10 (decP fs_sAddPartitionsToTxnResponseTopicPartition v true) false true) k3_1 (rArr true x3_0.2).2).2).2 _; rw [hD3_1_]; exact hR313), (by rw [← hfs3_1]; exact hrw3_1), (dec_els he_3_1), (fun p hp => (mem_snoc hp).elim (fun h => At_AddPartitionsToTxnResponseTopicPartition.mono _ _ _ _ le_27 (hg_3_1 p h)) (fun h => h ▸ (by show At_AddPartitionsToTxnResponseTopicPartition _ (decP fs_sAddPartitionsToTxnResponseTopicPartition v true (rMany (decV 10 (decP fs_sAddPartitionsToTxnResponseTopicPartition v true) false true) k3_1 (rArr true x3_0.2).2).2).1 [.int .i32 (IntKind.i32.wrap x3_1_0.1.n), .int .i16 (IntKind.i16.wrap x3_1_1.1.n), .map m3_1_t]; rw [hD3_1_]; exact ⟨m3_1_t, rfl, hft3_1_⟩)))⟩
           exact (.cons rfl (.cons rfl (.cons rfl (.cons rfl (.cons rfl (.cons rfl (.cons rfl (.cons rfl (.cons rfl (.cons rfl (.cons rfl (.cons rfl (.cons rfl (.nil _))))))))))))))
          ·
           have hkn_ : k3_1 = (lT x3_1.1).length := by omega
           subst hkn_
           have hw2_3_1 : Row 267 3 a3_1 (lT x3_1.1).length c3_1 (es3_1.flatMap fk) M3_1 := by have h := hw_3_1; rw [Nat.sub_self] at h; simpa [reps] using h
           refine frW hw2_3_1 .head (fun Hf3_1 hlf3_1 hfz3_1 => ?_)
           have hrs3_1 := RowsAt.row (R := At_AddPartitionsToTxnResponseTopicPartition) hfz3_1 hs_3_1.symm hw2_3_1.le.1 (fun p hp => At_AddPartitionsToTxnResponseTopicPartition.mono _ _ _ _ hlf3_1 (hg_3_1 p hp))
           rw [he_3_1] at hrs3_1
           have hf3_1 : ListAt Hf3_1 x3_1.1 3 At_AddPartitionsToTxnResponseTopicPartition a3_1 c3_1 := by rw [ex3_1]; exact listAt_of hrs3_1 hi3_1 (fun h => by have h1 := nul_le h; rw [show (lT x3_1.1).length = 0 by omega]; rfl)
           have hRx3_1 : RdAt Hf3_1 232 b_1 x3_1.2 RN3_1 := by rw [ex3_1]; exact (hR_3_1.mono hlf3_1)
           refine exX ?_
           refine XT ?_
           refine XT ?_
           refine Xb ?_
           refine Nt ?_
           refine sr ?_
           refine mv rfl rfl ?_
           refine asg rfl rfl ?_
           refine nl ?_
           refine rg ?_
           refine mv rfl rfl ?_
           refine mv rfl rfl ?_
           refine nc rfl rfl ?_
           refine fa F148_1 rfl rfl ?_
           refine stM (off := 1) Tryz.sizeOf146 rfl (by rw [ho3]) rfl rfl rfl (.tail .head) ?_
           refine nl ?_
           refine sr ?_
           refine mv rfl rfl ?_
           refine nl ?_
           refine cdT rfl (by omega) ?_
           refine rg ?_
           refine mv rfl rfl ?_
           refine cl rfl rfl rfl (d_tags hRx3_1) rfl (fun v_ H1 L1 le_28 hR_ => ?_)
           obtain ⟨N323, rfl, hR323, m3_t, rfl, hft3_⟩ := hR_
           have hu23_ : u3_ = rTags x3_1.2 := hu3_
           rw [← hu23_] at hR323 hft3_
           refine nc rfl rfl ?_
           refine fa F148_2 rfl rfl ?_
           refine saM (off := 2) Tryz.sizeOf105 rfl (by rw [ho3]) rfl rfl rfl rfl (.tail .head) ?_
           refine nN ?_
           refine Nb ?_
           refine Nt ?_
           refine rg ?_
           refine mv rfl rfl ?_
           refine ad rfl rfl (c := ((k3 + 1 : Nat) : Int)) ((wrap32_le (by omega) (by omega)).trans (by omega)) rfl ?_
           refine asg rfl rfl ?_
           refine nN ?_
           have hfs3 := flatMap_snoc' fk es3 ((⟨([.string ⟨x3_0.1.s.toArray⟩, .slice a3_1 (lT x3_1.1).length c3_1, .map m3_t] : List Value), rfl, all_one rfl⟩, ((decV 10 (decP fs_sAddPartitionsToTxnResponseTopic v true) false true) (rMany (decV 10 (decP fs_sAddPartitionsToTxnResponseTopic v true) false true) k3 (rArr true x2.2).2).2).1) : KE 3)
           have hrw3 := hbk3 ([.string ⟨x3_0.1.s.toArray⟩, .slice a3_1 (lT x3_1.1).length c3_1, .map m3_t] : List Value) rfl
           refine tfN (.tail .head) ?_
           refine fun a_ w_ hA hw => ⟨hkl3, _, _, _, hA.sub ?_, (le_21.trans (le_23.trans (le_24.trans (hlf3_1.trans le_28)))), hw, _, _, _, rfl, rfl, (by rw [rMany_succ]; show RdAt _ 232 b_1 (decP fs_sAddPartitionsToTxnResponseTopic v true (rMany (decV 10 (decP fs_sAddPartitionsToTxnResponseTopic v true) false true) k3 (rArr true x2.2).2).2).2 _; rw [hD3_]; exact hR323), (by rw [← hfs3]; exact hrw3), (dec_els he_3), (fun p hp => (mem_snoc hp).elim (fun h => At_AddPartitionsToTxnResponseTopic.mono _ _ _ _ (le_23.trans (le_24.trans (hlf3_1.trans le_28))) (hg_3 p h)) (fun h => h ▸ (by show At_AddPartitionsToTxnResponseTopic _ (decP fs_sAddPartitionsToTxnResponseTopic v true (rMany (decV 10 (decP fs_sAddPartitionsToTxnResponseTopic v true) false true) k3 (rArr true x2.2).2).2).1 [.string ⟨x3_0.1.s.toArray⟩, .slice a3_1 (lT x3_1.1).length c3_1, .map m3_t]; rw [hD3_]; exact ⟨a3_1, c3_1, m3_t, rfl, (hf3_1.mono At_AddPartitionsToTxnResponseTopicPartition.mono le_28), hft3_⟩)))⟩
           exact (.cons rfl (.cons rfl (.cons rfl (.cons rfl (.cons rfl (.cons rfl (.cons rfl (.cons rfl (.nil _)))))))))
       ·
        have hkn_ : k3 = (lT x3.1).length := by omega
        subst hkn_
        have hw2_3 : Row 148 3 a3 (lT x3.1).length c3 (es3.flatMap fk) M3 := by have h := hw_3; rw [Nat.sub_self] at h; simpa [reps] using h
        refine frW hw2_3 .head (fun Hf3 hlf3 hfz3 => ?_)
        have hrs3 := RowsAt.row (R := At_AddPartitionsToTxnResponseTopic) hfz3 hs_3.symm hw2_3.le.1 (fun p hp => At_AddPartitionsToTxnResponseTopic.mono _ _ _ _ hlf3 (hg_3 p hp))
        rw [he_3] at hrs3
        have hf3 : ListAt Hf3 x3.1 3 At_AddPartitionsToTxnResponseTopic a3 c3 := by rw [ex3]; exact listAt_of hrs3 hi3 (fun h => by have h1 := nul_le h; rw [show (lT x3.1).length = 0 by omega]; rfl)
        have hRx3 : RdAt Hf3 232 b_1 x3.2 RN3 := by rw [ex3]; exact (hR_3.mono hlf3)
        refine exX ?_
        refine XT ?_
        refine XT ?_
        refine Xb ?_
        refine Nt ?_
        refine sr ?_
        refine mv rfl rfl ?_
        refine asg rfl rfl ?_
        refine nl ?_
        refine rg ?_
        refine mv rfl rfl ?_
        refine mv rfl rfl ?_
        refine nc rfl rfl ?_
        refine fa0 F138_4 rfl rfl ?_
        refine st Tryz.sizeOf136 rfl rfl rfl rfl (.tail .head) ?_
        refine nN ?_
        refine fun a_ w_ hA hw => ⟨_, _, _, hA.sub ?_, (le_20.trans (le_21.trans hlf3)), hw, a3, c3, RN3, rfl, rfl, hRx3, hf3⟩
        exact (.cons rfl (.cons rfl (.cons rfl (.nil _))))
    ·
     refine skN ?_
     obtain rfl : x3 = ((Tr.mk 0 [] true [] []), x2.2) := (hx3.trans (step_no (Or.inr ⟨by decide, show (3 : Int) < v by omega⟩))).trans (by rw [dflF_eq]; rfl)
     refine fun a_ w_ hA hw => ⟨_, _, _, hA.sub ?_, (Fz.le.refl _), hw, none, 0, Nj2, rfl, rfl, hRj2, (ListAt.none rfl)⟩
     exact (.cons rfl (.cons rfl (.cons rfl (.nil _))))
   ·
    obtain ⟨a3, c3, Nj3, rfl, rfl, pj0, pj1⟩ := hI
    have hRj3 := pj0
    have hf3 := pj1
    refine sq ?_
    refine sr ?_
    refine mv rfl rfl ?_
    refine nl ?_
    refine cdT rfl (by omega) ?_
    refine rg ?_
    refine mv rfl rfl ?_
    refine cl rfl rfl rfl (d_tags hRj3) rfl (fun v_ H1 L1 le_29 hR_ => ?_)
    obtain ⟨N333, rfl, hR333, mt, rfl, hft⟩ := hR_
    have hu2 : u = rTags x3.2 := hu
    rw [← hu2] at hR333 hft
    refine nc rfl rfl ?_
    refine fa0 F138_5 rfl rfl ?_
    refine sa Tryz.sizeOf105 rfl rfl rfl rfl rfl (.tail .head) ?_
    refine nl ?_
    refine sr ?_
    refine cl rfl rfl rfl (r_complete hR333 (he.mono (le_3.trans (le_5.trans (le_19.trans le_29))))) rfl (fun v_ H1 L1 hle_ hR_ => ?_)
    obtain ⟨rfl, rfl, rfl⟩ := hR_
    refine asg rfl rfl ?_
    refine nl ?_
    refine drW .head ?_
    have hA_ := (show At_AddPartitionsToTxnResponse v _ (decP fs_AddPartitionsToTxnResponse v true _).1 [.int .i16 v, .int .i32 (IntKind.i32.wrap x0.1.n), .int .i16 (IntKind.i16.wrap x1.1.n), .slice a2 (lT x2.1).length c2, .slice a3 (lT x3.1).length c3, .map mt] from (by rw [hD]; exact ⟨a2, c2, a3, c3, mt, rfl, (hf2.mono At_AddPartitionsToTxnResponseTransaction.mono (le_19.trans le_29)), (hf3.mono At_AddPartitionsToTxnResponseTopic.mono le_29), hft⟩))
    refine rT rfl rfl (le_3.trans (le_5.trans (le_19.trans le_29))) (fun _ _ h => h) ⟨_, rfl, ?_⟩
    have hz := RdEnd.of (e := e) hA_
    rw [show (decP fs_AddPartitionsToTxnResponse v true _).2.bad = u.2.bad by rw [hD]] at hz
    exact hz
end Go.Sx

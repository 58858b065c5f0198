import Derived.Test.YtdacadmfdhjpoaaDoorSxTab
import Derived.Test.YtdacadmfdhjpoaaDoorBStopReplicaRequest
import Derived.Test.YtdacadmfdhjpoaaDoorRK2
import Derived.KernelRfl
set_option linter.unusedVariables false
set_option linter.unusedSimpArgs false
set_option maxRecDepth 100000
set_option maxHeartbeats 20000000
namespace Go.Sx
open Go.Proofs
theorem def_StopReplicaRequestTopicPartitionState {H : Fz} {L : Own} {b o : Nat} {pre post : List Value} {c0 c1 c2 c3 : Value} (ho : o = pre.length) :
    Fn Tryd.prog 36 [.pointer (some ⟨b, o, none⟩)] H ([(b, .cells (pre ++ ([c0, c1, c2, c3] : List Value) ++ post).toArray 78 (0, 0))] :: L) (fun _ H' L' => H = H' ∧ L' = [(b, .cells (pre ++ ([c0, .int .i32 (-1), c2, c3] : List Value) ++ post).toArray 78 (0, 0))] :: L) := by
  refine Fn.mk Tryd.call36 Tryd.func36 rfl Tryd.ntmps36 rfl ?_
  refine rg ?_
  refine mv rfl rfl ?_
  refine nc rfl rfl ?_
  refine fa F78_1 rfl rfl ?_
  refine stM (off := 1) Tryd.sizeOf21 rfl (by rw [ho]) rfl rfl rfl .head ?_
  refine nN ?_
  exact fun _ _ hA hw => rn rfl (Fz.le.refl _) ⟨rfl, rfl⟩ hA hw
theorem def_StopReplicaRequestTopic {H : Fz} {L : Own} {b o : Nat} {pre post : List Value} {c0 c1 c2 c3 c4 : Value} (ho : o = pre.length) :
    Fn Tryd.prog 31 [.pointer (some ⟨b, o, none⟩)] H ([(b, .cells (pre ++ ([c0, c1, c2, c3, c4] : List Value) ++ post).toArray 65 (0, 0))] :: L) (fun _ H' L' => H = H' ∧ L' = [(b, .cells (pre ++ ([c0, c1, c2, c3, c4] : List Value) ++ post).toArray 65 (0, 0))] :: L) := by
  refine Fn.mk Tryd.call31 Tryd.func31 rfl Tryd.ntmps31 rfl ?_
  refine skN ?_
  exact fun _ _ hA hw => rn rfl (Fz.le.refl _) ⟨rfl, rfl⟩ hA hw
theorem def0_StopReplicaRequest {H : Fz} {L : Own} {b : Nat} {c0 c1 c2 c3 c4 c5 c6 c7 : Value} :
    Fn Tryd.prog 17 [.pointer (some ⟨b, 0, none⟩)] H ([(b, .cells [c0, c1, c2, c3, c4, c5, c6, c7].toArray 57 (0, 0))] :: L) (fun _ H' L' => H = H' ∧ L' = [(b, .cells [c0, c1, c2, c3, .int .i64 (-1), c5, c6, c7].toArray 57 (0, 0))] :: L) := by
  refine Fn.mk Tryd.call17 Tryd.func17 rfl Tryd.ntmps17 rfl ?_
  refine rg ?_
  refine mv rfl rfl ?_
  refine nc rfl rfl ?_
  refine fa0 F57_4 rfl rfl ?_
  refine st Tryd.sizeOf2 rfl rfl rfl rfl .head ?_
  refine nN ?_
  exact fun _ _ hA hw => rn rfl (Fz.le.refl _) ⟨rfl, rfl⟩ hA hw
theorem rd_StopReplicaRequest_f {H : Fz} {L : Own} {b : Nat} {v : Int} {a : Option Addr} {c : Nat} {s : List UInt8} {e : Value} (hB : BytesAt H a c s) (hL_ : s.length ≤ BR) (he : H.at 1 0 [e]) (hv0 : 0 ≤ v) (hv1 : v ≤ 1) :
    Fn Tryd.prog 18 [.pointer (some ⟨b, 0, none⟩), .slice a s.length c, .bool false] H ([(b, .cells [.int .i16 v, .int .i32 0, .int .i32 0, .bool false, .int .i64 (-1), .bool false, .slice none 0 0, .map none].toArray 57 (0, 0))] :: L) (fun r H' L' => ∃ cs : List Value, L' = [(b, .cells cs.toArray 57 (0, 0))] :: L ∧ RdEnd H' (At_StopReplicaRequest v) (decP fs_StopReplicaRequest v false ⟨s, false, !a.isNone⟩) e r cs) := by
  refine Fn.mk Tryd.call18 Tryd.func18 rfl Tryd.ntmps18 rfl ?_
  refine sr ?_
  refine asg rfl rfl ?_
  refine nl ?_
  refine sr ?_
  refine mv rfl rfl ?_
  refine cl rfl rfl rfl def0_StopReplicaRequest rfl (fun v_ H1 L1 hle_ hR_ => ?_)
  obtain ⟨rfl, rfl⟩ := hR_
  refine nl ?_
  refine sr ?_
  refine mv rfl rfl ?_
  refine bd' S70 rfl rfl rfl ?_
  refine al Tryd.zeroValue70 rfl rfl (fun b_1 => ?_)
  refine sa Tryd.sizeOf70 rfl rfl rfl rfl rfl .head ?_
  have hR0_ : RdAt H 70 b_1 ⟨s, false, !a.isNone⟩ [(b_1, .cells [_, _].toArray 70 (0, 0))] := ⟨a, c, rfl, hB, by simp⟩
  obtain ⟨x0, hx0⟩ : ∃ x, x = stepF (Fd.mk 3 0 (-1) (-1) (-1) 0 0 []) v false ⟨s, false, !a.isNone⟩ := ⟨_, rfl⟩
  obtain ⟨x1, hx1⟩ : ∃ x, x = stepF (Fd.mk 3 0 (-1) (-1) (-1) 0 0 []) v false x0.2 := ⟨_, rfl⟩
  obtain ⟨x2, hx2⟩ : ∃ x, x = stepF (Fd.mk 0 4 (-1) (-1) (-1) 0 0 []) v false x1.2 := ⟨_, rfl⟩
  obtain ⟨x3, hx3⟩ : ∃ x, x = stepF (Fd.mk 4 1 (-1) (-1) (-1) (-1) 0 []) v false x2.2 := ⟨_, rfl⟩
  obtain ⟨x4, hx4⟩ : ∃ x, x = stepF (Fd.mk 0 0 2 (-1) (-1) 0 0 []) v false x3.2 := ⟨_, rfl⟩
  obtain ⟨x5, hx5⟩ : ∃ x, x = stepF (Fd.mk 11 0 (-1) (-1) (-1) 0 10 fs_sStopReplicaRequestTopic) v false x4.2 := ⟨_, rfl⟩
  obtain ⟨u, hu⟩ : ∃ x, x = tailU false x5.2 := ⟨_, rfl⟩
  have hD : decP fs_StopReplicaRequest v false ⟨s, false, !a.isNone⟩ = (.mk 0 [] false [x0.1, x1.1, x2.1, x3.1, x4.1, x5.1] u.1, u.2) := by
    generalize (⟨s, false, !a.isNone⟩ : Rd) = r_ at hx0 ⊢
    rw [decP_eq]; unfold fs_StopReplicaRequest; simp only [decFs_cons, decFs_nil, ← hx0, ← hx1, ← hx2, ← hx3, ← hx4, ← hx5, ← hu]
  have hL0 : x0.2.s.length ≤ BR := by rw [hx0]; exact Nat.le_trans (stepF_shr _ _ _ _) hL_
  have hL1 : x1.2.s.length ≤ BR := by rw [hx1]; exact Nat.le_trans (stepF_shr _ _ _ _) hL0
  have hL2 : x2.2.s.length ≤ BR := by rw [hx2]; exact Nat.le_trans (stepF_shr _ _ _ _) hL1
  have hL3 : x3.2.s.length ≤ BR := by rw [hx3]; exact Nat.le_trans (stepF_shr _ _ _ _) hL2
  have hL4 : x4.2.s.length ≤ BR := by rw [hx4]; exact Nat.le_trans (stepF_shr _ _ _ _) hL3
  have hL5 : x5.2.s.length ≤ BR := by rw [hx5]; exact Nat.le_trans (stepF_shr _ _ _ _) hL4
  have hE : u.2.bad = true → (decP fs_StopReplicaRequest v false ⟨s, false, !a.isNone⟩).2.bad = true := fun h => by rw [hD]; exact h
  have hB5 : x5.2.bad = true → (decP fs_StopReplicaRequest v false ⟨s, false, !a.isNone⟩).2.bad = true := fun h => hE (by rw [hu]; exact tailU_bad h)
  have hB4 : x4.2.bad = true → (decP fs_StopReplicaRequest v false ⟨s, false, !a.isNone⟩).2.bad = true := fun h => hB5 (by rw [hx5]; exact step_bad h)
  have hB3 : x3.2.bad = true → (decP fs_StopReplicaRequest v false ⟨s, false, !a.isNone⟩).2.bad = true := fun h => hB4 (by rw [hx4]; exact step_bad h)
  have hB2 : x2.2.bad = true → (decP fs_StopReplicaRequest v false ⟨s, false, !a.isNone⟩).2.bad = true := fun h => hB3 (by rw [hx3]; exact step_bad h)
  have hB1 : x1.2.bad = true → (decP fs_StopReplicaRequest v false ⟨s, false, !a.isNone⟩).2.bad = true := fun h => hB2 (by rw [hx2]; exact step_bad h)
  have hB0 : x0.2.bad = true → (decP fs_StopReplicaRequest v false ⟨s, false, !a.isNone⟩).2.bad = true := fun h => hB1 (by rw [hx1]; exact step_bad h)
  refine nl ?_
  refine sr ?_
  refine mv rfl rfl ?_
  refine nc rfl rfl ?_
  refine fa0 F57_0 rfl rfl ?_
  refine ld (Says.own (.tail .head)) Tryd.isAgg38 rfl (Nat.zero_add _).symm rfl rfl ?_
  refine asg rfl rfl ?_
  refine nl ?_
  refine sr ?_
  refine mv rfl rfl ?_
  refine nl ?_
  refine sr ?_
  refine mv rfl rfl ?_
  refine ge rfl rfl rfl ?_
  refine asg rfl rfl ?_
  refine nl ?_
  refine sr ?_
  refine mv rfl rfl ?_
  refine nl ?_
  refine sr ?_
  refine mv rfl rfl ?_
  refine asg rfl rfl ?_
  refine nl ?_
  refine sq ?_
  refine sr ?_
  have ex0 : x0 = decV 3 (decP [] v false) false false ⟨s, false, !a.isNone⟩ := (hx0.trans (step_yes (by decide) (show (0 : Int) ≤ v by omega) (Or.inl (by decide)))).trans (decF'_val (by decide) (rfl))
  refine cl rfl rfl rfl (d3 hR0_ ex0) rfl (fun v_ H1 L1 hle_ hR_ => ?_)
  obtain ⟨N51, rfl, hR51, rfl, rfl⟩ := hR_
  refine asg rfl rfl ?_
  refine nl ?_
  refine rg ?_
  refine mv rfl rfl ?_
  refine mv rfl rfl ?_
  refine nc rfl rfl ?_
  refine fa0 F57_1 rfl rfl ?_
  refine st Tryd.sizeOf21 rfl rfl rfl rfl (.tail .head) ?_
  refine nl ?_
  refine sq ?_
  refine sr ?_
  have ex1 : x1 = decV 3 (decP [] v false) false false x0.2 := (hx1.trans (step_yes (by decide) (show (0 : Int) ≤ v by omega) (Or.inl (by decide)))).trans (decF'_val (by decide) (rfl))
  refine cl rfl rfl rfl (d3 hR51 ex1) rfl (fun v_ H1 L1 hle_ hR_ => ?_)
  obtain ⟨N56, rfl, hR56, rfl, rfl⟩ := hR_
  refine asg rfl rfl ?_
  refine nl ?_
  refine rg ?_
  refine mv rfl rfl ?_
  refine mv rfl rfl ?_
  refine nc rfl rfl ?_
  refine fa0 F57_2 rfl rfl ?_
  refine st Tryd.sizeOf21 rfl rfl rfl rfl (.tail .head) ?_
  refine nl ?_
  refine sq ?_
  refine sr ?_
  refine mv rfl rfl ?_
  refine ge rfl rfl rfl ?_
  refine nl ?_
  refine cdF rfl (by omega) ?_
  refine skt ?_
  refine sq ?_
  refine sr ?_
  refine mv rfl rfl ?_
  refine ge rfl rfl rfl ?_
  refine nl ?_
  obtain rfl : x2 = ((Tr.mk 0 [] false [] []), x1.2) := (hx2.trans (step_no (Or.inl (show v < (4 : Int) by omega)))).trans (by rw [dflF_eq]; rfl)
  refine cutT (fun l' H' L' => ∃ (Nj3 : Chunk), [(2, .bool false), (7, .pointer (some ⟨b_1, 0, none⟩)), (8, .int .i16 v), (9, .bool (decide ((2 : Int) ≤ v))), (10, .pointer (some ⟨b, 0, none⟩))] = l' ∧ Nj3 :: [(b, .cells [.int .i16 v, .int .i32 (IntKind.i32.wrap x0.1.n), .int .i32 (IntKind.i32.wrap x1.1.n), .bool false, .int .i64 x3.1.n, .bool false, .slice none 0 0, .map none].toArray 57 (0, 0))] :: L = L' ∧ RdAt H' 70 b_1 x3.2 Nj3) ?_ (fun l' H' L' le_4 hI => ?_)
  · skip
    refine cd rfl (fun h69 => ?_) (fun h69 => ?_)
    · skip
      refine sr ?_
      have ex3 : x3 = decV 4 (decP [] v false) false false x1.2 := (hx3.trans (step_yes (by decide) (show (1 : Int) ≤ v by omega) (Or.inl (by decide)))).trans (decF'_val (by decide) (rfl))
      refine cl rfl rfl rfl (d4 hR56 ex3) rfl (fun v_ H1 L1 hle_ hR_ => ?_)
      obtain ⟨N70, rfl, hR70, rfl, rfl⟩ := hR_
      refine asg rfl rfl ?_
      refine nl ?_
      refine rg ?_
      refine mv rfl rfl ?_
      refine mv rfl rfl ?_
      refine nc rfl rfl ?_
      refine fa0 F57_4 rfl rfl ?_
      refine st Tryd.sizeOf2 rfl rfl rfl rfl (.tail .head) ?_
      refine nN ?_
      refine fun a_ w_ hA hw => ⟨_, _, _, hA.sub ?_, (Fz.le.refl _), hw, N70, rfl, rfl, hR70⟩
      exact (.cons rfl (.cons rfl (.cons rfl (.cons rfl (.cons rfl (.nil _))))))
    · skip
      refine skN ?_
      obtain rfl : x3 = ((Tr.mk (-1) [] false [] []), x1.2) := (hx3.trans (step_no (Or.inl (show v < (1 : Int) by omega)))).trans (by rw [dflF_eq]; rfl)
      refine fun a_ w_ hA hw => ⟨_, _, _, hA.sub ?_, (Fz.le.refl _), hw, N56, rfl, rfl, hR56⟩
      exact (.cons rfl (.cons rfl (.cons rfl (.cons rfl (.cons rfl (.nil _))))))
  · skip
    obtain ⟨Nj3, rfl, rfl, pj0⟩ := hI
    have hRj3 := pj0
    refine sq ?_
    refine sr ?_
    refine mv rfl rfl ?_
    refine ge rfl rfl rfl ?_
    refine mv rfl rfl ?_
    refine spl (t := 77) rfl (fun _ => ?_) (fun hn_ => absurd (by omega) hn_)
    refine gr rfl rfl ?_
    refine mv rfl rfl ?_
    refine gr rfl rfl ?_
    refine le rfl rfl rfl ?_
    refine pk rfl rfl rfl rfl ?_
    refine nl ?_
    refine cdT rfl (by omega) ?_
    refine sr ?_
    have ex4 : x4 = decV 0 (decP [] v false) false false x3.2 := (hx4.trans (step_yes (by decide) (show (0 : Int) ≤ v by omega) (Or.inr (show v ≤ (2 : Int) by omega)))).trans (decF'_val (by decide) (rfl))
    refine cl rfl rfl rfl (d0 hRj3 ex4) rfl (fun v_ H1 L1 hle_ hR_ => ?_)
    obtain ⟨N81, rfl, hR81, rfl, rfl⟩ := hR_
    refine asg rfl rfl ?_
    refine nl ?_
    refine rg ?_
    refine mv rfl rfl ?_
    refine mv rfl rfl ?_
    refine nc rfl rfl ?_
    refine fa0 F57_5 rfl rfl ?_
    refine st Tryd.sizeOf4 rfl rfl rfl rfl (.tail .head) ?_
    refine nl ?_
    refine sq ?_
    refine sr ?_
    refine mv rfl rfl ?_
    refine nc rfl rfl ?_
    refine fa0 F57_6 rfl rfl ?_
    refine ld (Says.own (.tail .head)) Tryd.isAgg52 rfl (Nat.zero_add _).symm rfl rfl ?_
    refine asg rfl rfl ?_
    refine nl ?_
    refine sr ?_
    refine mv rfl rfl ?_
    refine asg rfl rfl ?_
    refine nl ?_
    refine sr ?_
    refine asg rfl rfl ?_
    refine nl ?_
    refine sq ?_
    refine sr ?_
    refine mv rfl rfl ?_
    refine nl ?_
    refine cdF rfl (by omega) ?_
    refine rg ?_
    have ey5 : x5 = (.mk 0 [] (if 0 ≤ ((-1) : Int) ∧ (v < ((-1) : Int) ∨ (rArr false x4.2).1 = 0) then false else decide ((rArr false x4.2).1 ≤ 0)) (rMany (decV 10 (decP fs_sStopReplicaRequestTopic v false) false false) (rArr false x4.2).1.toNat (rArr false x4.2).2).1 [], (rMany (decV 10 (decP fs_sStopReplicaRequestTopic v false) false false) (rArr false x4.2).1.toNat (rArr false x4.2).2).2) := (hx5.trans (step_yes (by decide) (show (0 : Int) ≤ v by omega) (Or.inl (by decide)))).trans (decF'_list rfl rfl)
    have hn5 : (rArr false x4.2).1.toNat = (lT x5.1).length := by rw [ey5]; exact (lT_many nul_le).symm
    have ex5 := ey5
    rw [hn5] at ex5
    have hl5 := rArr_le false x4.2
    have hm5 : (rArr false x4.2).2.s.length ≤ BR := Nat.le_trans (rArr_len false x4.2) hL4
    have hnb5 : (lT x5.1).length ≤ BR := by omega
    refine cl rfl rfl rfl (r_arrf hR81) rfl (fun v_ H1 L1 hle_ hR_ => ?_)
    obtain ⟨rfl, N93, rfl, hR93, rfl⟩ := hR_
    have hh5 := rArr_hi false x4.2
    refine asg rfl rfl ?_
    refine nl ?_
    refine sq ?_
    refine sr ?_
    refine cl rfl rfl rfl (r_ok hR93) rfl (fun v_ H1 L1 hle_ hR_ => ?_)
    obtain ⟨rfl, rfl, rfl⟩ := hR_
    refine nt rfl rfl ?_
    refine nl ?_
    refine cb rfl (fun h95 => ?_) (fun h95 => ?_)
    · skip
      have hbad_ : (rArr false x4.2).2.bad = true := by simpa using h95
      refine sr ?_
      refine cl rfl rfl rfl (r_complete hR93 (he.mono le_4)) rfl (fun v_ H1 L1 hle_ hR_ => ?_)
      obtain ⟨rfl, rfl, rfl⟩ := hR_
      refine asg rfl rfl ?_
      refine nl ?_
      refine drW .head ?_
      exact rT rfl rfl le_4 (fun _ _ h => h) ⟨_, rfl, RdEnd.out (hB5 (by rw [ey5]; exact rMany_bad (fun r h => decV_bad (decP_bad _ _ _) h) _ _ hbad_)) hbad_⟩
    · skip
      refine skt ?_
      refine sr ?_
      refine mv rfl rfl ?_
      refine sh' (j := 0) Tryd.runUnderlying52 Tryd.sizeOf65 rfl rfl rfl (Nat.zero_le _) rfl ?_
      refine asg rfl rfl ?_
      refine nl ?_
      refine sq ?_
      refine sr ?_
      refine mv rfl rfl ?_
      refine gt rfl rfl rfl ?_
      refine nl ?_
      refine nulC2 ?_
      refine cutT (fun l' H' L' => ∃ (a5 : Option Addr), ∃ (c5 : Nat), ∃ (Nr5 : Chunk), [(2, .bool false), (7, .pointer (some ⟨b_1, 0, none⟩)), (8, .int .i16 v), (9, .bool (decide ((2 : Int) ≤ v))), (10, .pointer (some ⟨b, 0, none⟩)), (16, .slice none 0 0), (17, .slice a5 (lT x5.1).length c5), (18, .int .i32 (rArr false x4.2).1)] = l' ∧ Nr5 :: N93 :: [(b, .cells [.int .i16 v, .int .i32 (IntKind.i32.wrap x0.1.n), .int .i32 (IntKind.i32.wrap x1.1.n), .bool false, .int .i64 x3.1.n, .bool (decide (x4.1.n % 2 = 1)), .slice none 0 0, .map none].toArray 57 (0, 0))] :: L = L' ∧ Row 65 5 a5 (lT x5.1).length c5 (reps [.string ⟨#[]⟩, .int .i32 0, .slice none 0 0, .slice none 0 0, .map none] (lT x5.1).length) Nr5 ∧ a5.isNone = (if 0 ≤ ((-1) : Int) ∧ (v < ((-1) : Int) ∨ (rArr false x4.2).1 = 0) then false else decide ((rArr false x4.2).1 ≤ 0))) ?_ (fun l' H' L' le_7 hI => ?_)
      · skip
        refine cd rfl (fun h100 => ?_) (fun h100 => ?_)
        · skip
          refine rg ?_
          refine mv rfl rfl ?_
          refine mv rfl rfl ?_
          refine apz (zs := [.string ⟨#[]⟩, .int .i32 0, .slice none 0 0, .slice none 0 0, .map none]) (m := (lT x5.1).length) Tryd.underlying52 Tryd.underlying21 I65 rfl rfl rfl (by omega) (by omega) (by have h9 := hnb5; unfold BR at h9; omega) (by have h9 := hnb5; unfold BR at h9; unfold maxLen; omega) rfl (fun g103 cp103 N103 r103 => ?_)
          refine asg rfl rfl ?_
          refine nN ?_
          refine drN (.tail .head) ?_
          refine fun a_ w_ hA hw => ⟨_, _, _, hA.sub ?_, (Fz.le.refl _), hw, (some ⟨g103, 0, none⟩), cp103, N103, rfl, rfl, r103, (by rw [if_neg (by omega)]; exact (decide_eq_false (by omega)).symm)⟩
          exact (.cons rfl (.cons rfl (.cons rfl (.cons rfl (.cons rfl (.cons rfl (.cons rfl (.cons rfl (.nil _)))))))))
        · skip
          refine skN ?_
          refine fun a_ w_ hA hw => ⟨_, _, _, hA.sub ?_, (Fz.le.refl _), hw, none, 0, [], rfl, rfl, (by rw [show (lT x5.1).length = 0 by omega]; exact (Row.nil _ _)), (by rw [if_neg (by omega)]; exact (decide_eq_true (by omega)).symm)⟩
          exact (.cons rfl (.cons rfl (.cons rfl (.cons rfl (.cons rfl (.cons rfl (.cons (by rw [show (lT x5.1).length = 0 by omega]; rfl) (.cons rfl (.nil _)))))))))
      · skip
        obtain ⟨a5, c5, Nr5, rfl, rfl, pj0, pj1⟩ := hI
        have hr5 := pj0
        have hi5 := pj1
        refine sq ?_
        refine sr ?_
        refine asg rfl rfl ?_
        refine nl ?_
        refine bl (lp ((lT x5.1).length) (fun k5 l' H' L' => ∃ (es5 : List (KE 5)) (M5 RN5 : Chunk), [(2, .bool false), (7, .pointer (some ⟨b_1, 0, none⟩)), (8, .int .i16 v), (9, .bool (decide ((2 : Int) ≤ v))), (10, .pointer (some ⟨b, 0, none⟩)), (16, .slice none 0 0), (17, .slice a5 (lT x5.1).length c5), (18, .int .i32 (rArr false x4.2).1), (19, .int .i32 (k5 : Int))] = l' ∧ M5 :: RN5 :: [(b, .cells [.int .i16 v, .int .i32 (IntKind.i32.wrap x0.1.n), .int .i32 (IntKind.i32.wrap x1.1.n), .bool false, .int .i64 x3.1.n, .bool (decide (x4.1.n % 2 = 1)), .slice none 0 0, .map none].toArray 57 (0, 0))] :: L = L' ∧ RdAt H' 70 b_1 (rMany (decV 10 (decP fs_sStopReplicaRequestTopic v false) false false) k5 (rArr false x4.2).2).2 RN5 ∧ Row 65 5 a5 (lT x5.1).length c5 (es5.flatMap fk ++ reps [.string ⟨#[]⟩, .int .i32 0, .slice none 0 0, .slice none 0 0, .map none] ((lT x5.1).length - k5)) M5 ∧ es5.map (·.2) = (rMany (decV 10 (decP fs_sStopReplicaRequestTopic v false) false false) k5 (rArr false x4.2).2).1 ∧ ∀ p ∈ es5, At_StopReplicaRequestTopic H' p.2 (fk p)) [(2, .bool false), (7, .pointer (some ⟨b_1, 0, none⟩)), (8, .int .i16 v), (9, .bool (decide ((2 : Int) ≤ v))), (10, .pointer (some ⟨b, 0, none⟩)), (16, .slice none 0 0), (17, .slice a5 (lT x5.1).length c5), (18, .int .i32 (rArr false x4.2).1), (19, .int .i32 (0 : Int))] (.cons rfl (.cons rfl (.cons rfl (.cons rfl (.cons rfl (.cons rfl (.cons rfl (.cons rfl (.cons rfl (.nil _)))))))))) ⟨[], Nr5, _, rfl, rfl, (hR93.mono le_7), hr5, rfl, (fun p hp => by cases hp)⟩ (fun k5 l' H' L' hk5 le_8 hI => ?_))
        obtain ⟨es5, M5, RN5, rfl, rfl, hR_5, hw_5, he_5, hg_5⟩ := hI
        have hs_5 := els_len he_5
        have hp_5 : (es5.flatMap fk).length = k5 * 5 := els_flat hs_5
        refine sq ?_
        refine sr ?_
        refine mv rfl rfl ?_
        refine mv rfl rfl ?_
        refine lt rfl rfl rfl ?_
        refine nl ?_
        refine cd rfl (fun h106 => ?_) (fun h106 => ?_)
        · skip
          have hkl5 : k5 < (lT x5.1).length := by omega
          obtain ⟨g5, po5, hga5, rfl, hbk5⟩ := hw_5.next (zs := [.string ⟨#[]⟩, .int .i32 0, .slice none 0 0, .slice none 0 0, .map none]) hkl5 rfl (by decide)
          have ho5 : 0 + k5 * 5 = (es5.flatMap fk).length := by rw [hp_5]; omega
          have hbz5 : ((decV 10 (decP fs_sStopReplicaRequestTopic v false) false false) (rMany (decV 10 (decP fs_sStopReplicaRequestTopic v false) false false) k5 (rArr false x4.2).2).2).2.bad = true → (decP fs_StopReplicaRequest v false ⟨s, false, !a.isNone⟩).2.bad = true := fun h => hB5 (by rw [ex5]; exact rMany_mono (fun r h => decV_bad (fun r h => decP_bad _ _ _ r h) h) _ (show k5 + 1 ≤ (lT x5.1).length from hkl5) (by rw [rMany_succ]; exact h))
          have hLk5 : (rMany (decV 10 (decP fs_sStopReplicaRequestTopic v false) false false) k5 (rArr false x4.2).2).2.s.length ≤ BR := Nat.le_trans (rMany_shr (fun r => decV_shr (fun r => decP_shr _ _ _ r) r) _ _) hm5
          have hL5__ := hLk5
          obtain ⟨x5_0, hx5_0⟩ : ∃ x, x = stepF (Fd.mk 8 0 (-1) (-1) (-1) 0 0 []) v false (rMany (decV 10 (decP fs_sStopReplicaRequestTopic v false) false false) k5 (rArr false x4.2).2).2 := ⟨_, rfl⟩
          obtain ⟨x5_1, hx5_1⟩ : ∃ x, x = stepF (Fd.mk 3 0 0 (-1) (-1) 0 0 []) v false x5_0.2 := ⟨_, rfl⟩
          obtain ⟨x5_2, hx5_2⟩ : ∃ x, x = stepF (Fd.mk 11 1 2 (-1) (-1) 0 3 []) v false x5_1.2 := ⟨_, rfl⟩
          obtain ⟨x5_3, hx5_3⟩ : ∃ x, x = stepF (Fd.mk 11 3 (-1) (-1) (-1) 0 10 fs_sStopReplicaRequestTopicPartitionState) v false x5_2.2 := ⟨_, rfl⟩
          obtain ⟨u5_, hu5_⟩ : ∃ x, x = tailU false x5_3.2 := ⟨_, rfl⟩
          have hD5_ : decP fs_sStopReplicaRequestTopic v false (rMany (decV 10 (decP fs_sStopReplicaRequestTopic v false) false false) k5 (rArr false x4.2).2).2 = (.mk 0 [] false [x5_0.1, x5_1.1, x5_2.1, x5_3.1] u5_.1, u5_.2) := by
            generalize ((rMany (decV 10 (decP fs_sStopReplicaRequestTopic v false) false false) k5 (rArr false x4.2).2).2 : Rd) = r_ at hx5_0 ⊢
            rw [decP_eq]; unfold fs_sStopReplicaRequestTopic; simp only [decFs_cons, decFs_nil, ← hx5_0, ← hx5_1, ← hx5_2, ← hx5_3, ← hu5_]
          have hL5_0 : x5_0.2.s.length ≤ BR := by rw [hx5_0]; exact Nat.le_trans (stepF_shr _ _ _ _) hL5__
          have hL5_1 : x5_1.2.s.length ≤ BR := by rw [hx5_1]; exact Nat.le_trans (stepF_shr _ _ _ _) hL5_0
          have hL5_2 : x5_2.2.s.length ≤ BR := by rw [hx5_2]; exact Nat.le_trans (stepF_shr _ _ _ _) hL5_1
          have hL5_3 : x5_3.2.s.length ≤ BR := by rw [hx5_3]; exact Nat.le_trans (stepF_shr _ _ _ _) hL5_2
          have hE5_ : u5_.2.bad = true → (decP fs_StopReplicaRequest v false ⟨s, false, !a.isNone⟩).2.bad = true := fun h => hbz5 (by show (decP fs_sStopReplicaRequestTopic v false (rMany (decV 10 (decP fs_sStopReplicaRequestTopic v false) false false) k5 (rArr false x4.2).2).2).2.bad = true; rw [hD5_]; exact h)
          have hB5_3 : x5_3.2.bad = true → (decP fs_StopReplicaRequest v false ⟨s, false, !a.isNone⟩).2.bad = true := fun h => hE5_ (by rw [hu5_]; exact tailU_bad h)
          have hB5_2 : x5_2.2.bad = true → (decP fs_StopReplicaRequest v false ⟨s, false, !a.isNone⟩).2.bad = true := fun h => hB5_3 (by rw [hx5_3]; exact step_bad h)
          have hB5_1 : x5_1.2.bad = true → (decP fs_StopReplicaRequest v false ⟨s, false, !a.isNone⟩).2.bad = true := fun h => hB5_2 (by rw [hx5_2]; exact step_bad h)
          have hB5_0 : x5_0.2.bad = true → (decP fs_StopReplicaRequest v false ⟨s, false, !a.isNone⟩).2.bad = true := fun h => hB5_1 (by rw [hx5_1]; exact step_bad h)
          refine skt ?_
          refine sq ?_
          refine bl ?_
          refine sr ?_
          refine mv rfl rfl ?_
          refine mv rfl rfl ?_
          refine ixk (j := k5) Tryd.runUnderlying52 Tryd.sizeOf65 rfl hga5 rfl rfl hkl5 rfl ?_
          refine asg rfl rfl ?_
          refine nl ?_
          refine sr ?_
          refine mv rfl rfl ?_
          refine cl rfl rfl rfl (def_StopReplicaRequestTopic ho5) rfl (fun v_ H1 L1 hle_ hR_ => ?_)
          obtain ⟨rfl, rfl⟩ := hR_
          refine nl ?_
          refine sr ?_
          refine mv rfl rfl ?_
          refine asg rfl rfl ?_
          refine nl ?_
          refine sq ?_
          refine sr ?_
          refine asg rfl rfl ?_
          refine nl ?_
          refine sq ?_
          refine sr ?_
          refine mv rfl rfl ?_
          refine nl ?_
          refine cF rfl ?_
          refine sr ?_
          refine mv rfl rfl ?_
          refine nl ?_
          refine cdF rfl (by omega) ?_
          refine rg ?_
          refine tf (.tail .head) ?_
          have ex5_0 : x5_0 = decV 8 (decP [] v false) false false (rMany (decV 10 (decP fs_sStopReplicaRequestTopic v false) false false) k5 (rArr false x4.2).2).2 := (hx5_0.trans (step_yes (by decide) (show (0 : Int) ≤ v by omega) (Or.inl (by decide)))).trans (decF'_val (by decide) (rfl))
          refine cl rfl rfl rfl (d8f hR_5 ex5_0) rfl (fun v_ H1 L1 le_9 hR_ => ?_)
          obtain ⟨N121, rfl, hR121, rfl, rfl⟩ := hR_
          refine asg rfl rfl ?_
          refine nl ?_
          refine rg ?_
          refine mv rfl rfl ?_
          refine mv rfl rfl ?_
          refine nc rfl rfl ?_
          refine fa F65_0 rfl rfl ?_
          refine stM (off := 0) Tryd.sizeOf9 rfl (by rw [ho5]) rfl rfl rfl (.tail .head) ?_
          refine nl ?_
          refine sq ?_
          refine sr ?_
          refine mv rfl rfl ?_
          refine ge rfl rfl rfl ?_
          refine mv rfl rfl ?_
          refine spl (t := 128) rfl (fun _ => ?_) (fun hn_ => absurd (by omega) hn_)
          refine gr rfl rfl ?_
          refine mv rfl rfl ?_
          refine gr rfl rfl ?_
          refine le rfl rfl rfl ?_
          refine pk rfl rfl rfl rfl ?_
          refine nl ?_
          refine cutT (fun l' H' L' => ∃ (Nj5_1 : Chunk), [(2, .bool false), (7, .pointer (some ⟨b_1, 0, none⟩)), (8, .int .i16 v), (9, .bool (decide ((2 : Int) ≤ v))), (10, .pointer (some ⟨b, 0, none⟩)), (16, .slice none 0 0), (17, .slice a5 (lT x5.1).length c5), (18, .int .i32 (rArr false x4.2).1), (19, .int .i32 (k5 : Int)), (21, .pointer (some ⟨g5, 0 + k5 * 5, none⟩))] = l' ∧ Nj5_1 :: [(g5, .cells ((es5.flatMap fk) ++ ([.string ⟨x5_0.1.s.toArray⟩, .int .i32 (IntKind.i32.wrap x5_1.1.n), .slice none 0 0, .slice none 0 0, .map none] : List Value) ++ po5).toArray 65 (0, 0))] :: [(b, .cells [.int .i16 v, .int .i32 (IntKind.i32.wrap x0.1.n), .int .i32 (IntKind.i32.wrap x1.1.n), .bool false, .int .i64 x3.1.n, .bool (decide (x4.1.n % 2 = 1)), .slice none 0 0, .map none].toArray 57 (0, 0))] :: L = L' ∧ RdAt H' 70 b_1 x5_1.2 Nj5_1) ?_ (fun l' H' L' le_10 hI => ?_)
          · skip
            refine cd rfl (fun h131 => ?_) (fun h131 => ?_)
            · skip
              refine sr ?_
              have ex5_1 : x5_1 = decV 3 (decP [] v false) false false x5_0.2 := (hx5_1.trans (step_yes (by decide) (show (0 : Int) ≤ v by omega) (Or.inr (show v ≤ (0 : Int) by omega)))).trans (decF'_val (by decide) (rfl))
              refine cl rfl rfl rfl (d3 hR121 ex5_1) rfl (fun v_ H1 L1 hle_ hR_ => ?_)
              obtain ⟨N132, rfl, hR132, rfl, rfl⟩ := hR_
              refine asg rfl rfl ?_
              refine nl ?_
              refine rg ?_
              refine mv rfl rfl ?_
              refine mv rfl rfl ?_
              refine nc rfl rfl ?_
              refine fa F65_1 rfl rfl ?_
              refine stM (off := 1) Tryd.sizeOf21 rfl (by rw [ho5]) rfl rfl rfl (.tail .head) ?_
              refine nN ?_
              refine fun a_ w_ hA hw => ⟨_, _, _, hA.sub ?_, (Fz.le.refl _), hw, N132, rfl, rfl, hR132⟩
              exact (.cons rfl (.cons rfl (.cons rfl (.cons rfl (.cons rfl (.cons rfl (.cons rfl (.cons rfl (.cons rfl (.cons rfl (.nil _)))))))))))
            · skip
              refine skN ?_
              obtain rfl : x5_1 = ((Tr.mk 0 [] false [] []), x5_0.2) := (hx5_1.trans (step_no (Or.inr ⟨by decide, show (0 : Int) < v by omega⟩))).trans (by rw [dflF_eq]; rfl)
              refine fun a_ w_ hA hw => ⟨_, _, _, hA.sub ?_, (Fz.le.refl _), hw, N121, rfl, rfl, hR121⟩
              exact (.cons rfl (.cons rfl (.cons rfl (.cons rfl (.cons rfl (.cons rfl (.cons rfl (.cons rfl (.cons rfl (.cons rfl (.nil _)))))))))))
          · skip
            obtain ⟨Nj5_1, rfl, rfl, pj0⟩ := hI
            have hRj5_1 := pj0
            refine sq ?_
            refine sr ?_
            refine mv rfl rfl ?_
            refine ge rfl rfl rfl ?_
            refine mv rfl rfl ?_
            refine spl (t := 139) rfl (fun h139 => ?_) (fun h139 => ?_)
            · skip
              refine gr rfl rfl ?_
              refine mv rfl rfl ?_
              refine gr rfl rfl ?_
              refine le rfl rfl rfl ?_
              refine pk rfl rfl rfl rfl ?_
              refine nl ?_
              refine cdT rfl (by omega) ?_
              refine sr ?_
              refine mv rfl rfl ?_
              refine nc rfl rfl ?_
              refine fa F65_2 rfl rfl ?_
              refine ld (j := 2) (off := 0 + k5 * 5) (Says.mid (.tail .head) ho5) Tryd.isAgg62 rfl rfl rfl rfl ?_
              refine asg rfl rfl ?_
              refine nl ?_
              refine sr ?_
              refine mv rfl rfl ?_
              refine asg rfl rfl ?_
              refine nl ?_
              refine sr ?_
              refine asg rfl rfl ?_
              refine nl ?_
              refine sq ?_
              refine sr ?_
              refine mv rfl rfl ?_
              refine nl ?_
              refine cdF rfl (by omega) ?_
              refine rg ?_
              have ey5_2 : x5_2 = (.mk 0 [] (if 0 ≤ ((-1) : Int) ∧ (v < ((-1) : Int) ∨ (rArr false x5_1.2).1 = 0) then false else decide ((rArr false x5_1.2).1 ≤ 0)) (rMany (decV 3 (decP [] v false) false false) (rArr false x5_1.2).1.toNat (rArr false x5_1.2).2).1 [], (rMany (decV 3 (decP [] v false) false false) (rArr false x5_1.2).1.toNat (rArr false x5_1.2).2).2) := (hx5_2.trans (step_yes (by decide) (show (1 : Int) ≤ v by omega) (Or.inr (show v ≤ (2 : Int) by omega)))).trans (decF'_list rfl rfl)
              have hn5_2 : (rArr false x5_1.2).1.toNat = (lT x5_2.1).length := by rw [ey5_2]; exact (lT_many nul_le).symm
              have ex5_2 := ey5_2
              rw [hn5_2] at ex5_2
              have hl5_2 := rArr_le false x5_1.2
              have hm5_2 : (rArr false x5_1.2).2.s.length ≤ BR := Nat.le_trans (rArr_len false x5_1.2) hL5_1
              have hnb5_2 : (lT x5_2.1).length ≤ BR := by omega
              refine cl rfl rfl rfl (r_arrf hRj5_1) rfl (fun v_ H1 L1 hle_ hR_ => ?_)
              obtain ⟨rfl, N150, rfl, hR150, rfl⟩ := hR_
              have hh5_2 := rArr_hi false x5_1.2
              refine asg rfl rfl ?_
              refine nl ?_
              refine sq ?_
              refine sr ?_
              refine cl rfl rfl rfl (r_ok hR150) rfl (fun v_ H1 L1 hle_ hR_ => ?_)
              obtain ⟨rfl, rfl, rfl⟩ := hR_
              refine nt rfl rfl ?_
              refine nl ?_
              refine cb rfl (fun h152 => ?_) (fun h152 => ?_)
              · skip
                have hbad_ : (rArr false x5_1.2).2.bad = true := by simpa using h152
                refine sr ?_
                refine cl rfl rfl rfl (r_complete hR150 (he.mono (le_4.trans (le_7.trans (le_8.trans le_10))))) rfl (fun v_ H1 L1 hle_ hR_ => ?_)
                obtain ⟨rfl, rfl, rfl⟩ := hR_
                refine asg rfl rfl ?_
                refine nl ?_
                refine drW .head ?_
                refine drW .head ?_
                exact rT rfl rfl (le_4.trans (le_7.trans (le_8.trans le_10))) (fun _ _ h => h) ⟨_, rfl, RdEnd.out (hB5_2 (by rw [ey5_2]; exact rMany_bad (fun r h => decV_bad (decP_bad _ _ _) h) _ _ hbad_)) hbad_⟩
              · skip
                refine skt ?_
                refine sr ?_
                refine mv rfl rfl ?_
                refine sh' (j := 0) Tryd.runUnderlying62 Tryd.sizeOf21 rfl rfl rfl (Nat.zero_le _) rfl ?_
                refine asg rfl rfl ?_
                refine nl ?_
                refine sq ?_
                refine sr ?_
                refine mv rfl rfl ?_
                refine gt rfl rfl rfl ?_
                refine nl ?_
                refine nulC2 ?_
                refine cutT (fun l' H' L' => ∃ (a5_2 : Option Addr), ∃ (c5_2 : Nat), ∃ (Nr5_2 : Chunk), [(2, .bool false), (7, .pointer (some ⟨b_1, 0, none⟩)), (8, .int .i16 v), (9, .bool (decide ((2 : Int) ≤ v))), (10, .pointer (some ⟨b, 0, none⟩)), (16, .slice none 0 0), (17, .slice a5 (lT x5.1).length c5), (18, .int .i32 (rArr false x4.2).1), (19, .int .i32 (k5 : Int)), (21, .pointer (some ⟨g5, 0 + k5 * 5, none⟩)), (24, .slice none 0 0), (25, .slice a5_2 (lT x5_2.1).length c5_2), (26, .int .i32 (rArr false x5_1.2).1)] = l' ∧ Nr5_2 :: N150 :: [(g5, .cells ((es5.flatMap fk) ++ ([.string ⟨x5_0.1.s.toArray⟩, .int .i32 (IntKind.i32.wrap x5_1.1.n), .slice none 0 0, .slice none 0 0, .map none] : List Value) ++ po5).toArray 65 (0, 0))] :: [(b, .cells [.int .i16 v, .int .i32 (IntKind.i32.wrap x0.1.n), .int .i32 (IntKind.i32.wrap x1.1.n), .bool false, .int .i64 x3.1.n, .bool (decide (x4.1.n % 2 = 1)), .slice none 0 0, .map none].toArray 57 (0, 0))] :: L = L' ∧ Row 21 1 a5_2 (lT x5_2.1).length c5_2 (reps [.int .i32 0] (lT x5_2.1).length) Nr5_2 ∧ a5_2.isNone = (if 0 ≤ ((-1) : Int) ∧ (v < ((-1) : Int) ∨ (rArr false x5_1.2).1 = 0) then false else decide ((rArr false x5_1.2).1 ≤ 0))) ?_ (fun l' H' L' le_12 hI => ?_)
                · skip
                  refine cd rfl (fun h157 => ?_) (fun h157 => ?_)
                  · skip
                    refine rg ?_
                    refine mv rfl rfl ?_
                    refine mv rfl rfl ?_
                    refine apz (zs := [.int .i32 0]) (m := (lT x5_2.1).length) Tryd.underlying62 Tryd.underlying21 I21 rfl rfl rfl (by omega) (by omega) (by have h9 := hnb5_2; unfold BR at h9; omega) (by have h9 := hnb5_2; unfold BR at h9; unfold maxLen; omega) rfl (fun g160 cp160 N160 r160 => ?_)
                    refine asg rfl rfl ?_
                    refine nN ?_
                    refine drN (.tail .head) ?_
                    refine fun a_ w_ hA hw => ⟨_, _, _, hA.sub ?_, (Fz.le.refl _), hw, (some ⟨g160, 0, none⟩), cp160, N160, rfl, rfl, r160, (by rw [if_neg (by omega)]; exact (decide_eq_false (by omega)).symm)⟩
                    exact (.cons rfl (.cons rfl (.cons rfl (.cons rfl (.cons rfl (.cons rfl (.cons rfl (.cons rfl (.cons rfl (.cons rfl (.cons rfl (.cons rfl (.cons rfl (.nil _))))))))))))))
                  · skip
                    refine skN ?_
                    refine fun a_ w_ hA hw => ⟨_, _, _, hA.sub ?_, (Fz.le.refl _), hw, none, 0, [], rfl, rfl, (by rw [show (lT x5_2.1).length = 0 by omega]; exact (Row.nil _ _)), (by rw [if_neg (by omega)]; exact (decide_eq_true (by omega)).symm)⟩
                    exact (.cons rfl (.cons rfl (.cons rfl (.cons rfl (.cons rfl (.cons rfl (.cons rfl (.cons rfl (.cons rfl (.cons rfl (.cons rfl (.cons (by rw [show (lT x5_2.1).length = 0 by omega]; rfl) (.cons rfl (.nil _))))))))))))))
                · skip
                  obtain ⟨a5_2, c5_2, Nr5_2, rfl, rfl, pj0, pj1⟩ := hI
                  have hr5_2 := pj0
                  have hi5_2 := pj1
                  refine sq ?_
                  refine sr ?_
                  refine asg rfl rfl ?_
                  refine nl ?_
                  refine bl (lp ((lT x5_2.1).length) (fun k5_2 l' H' L' => ∃ (es5_2 : List (KE 1)) (M5_2 RN5_2 : Chunk), [(2, .bool false), (7, .pointer (some ⟨b_1, 0, none⟩)), (8, .int .i16 v), (9, .bool (decide ((2 : Int) ≤ v))), (10, .pointer (some ⟨b, 0, none⟩)), (16, .slice none 0 0), (17, .slice a5 (lT x5.1).length c5), (18, .int .i32 (rArr false x4.2).1), (19, .int .i32 (k5 : Int)), (21, .pointer (some ⟨g5, 0 + k5 * 5, none⟩)), (24, .slice none 0 0), (25, .slice a5_2 (lT x5_2.1).length c5_2), (26, .int .i32 (rArr false x5_1.2).1), (27, .int .i32 (k5_2 : Int))] = l' ∧ M5_2 :: RN5_2 :: [(g5, .cells ((es5.flatMap fk) ++ ([.string ⟨x5_0.1.s.toArray⟩, .int .i32 (IntKind.i32.wrap x5_1.1.n), .slice none 0 0, .slice none 0 0, .map none] : List Value) ++ po5).toArray 65 (0, 0))] :: [(b, .cells [.int .i16 v, .int .i32 (IntKind.i32.wrap x0.1.n), .int .i32 (IntKind.i32.wrap x1.1.n), .bool false, .int .i64 x3.1.n, .bool (decide (x4.1.n % 2 = 1)), .slice none 0 0, .map none].toArray 57 (0, 0))] :: L = L' ∧ RdAt H' 70 b_1 (rMany (decV 3 (decP [] v false) false false) k5_2 (rArr false x5_1.2).2).2 RN5_2 ∧ Row 21 1 a5_2 (lT x5_2.1).length c5_2 (es5_2.flatMap fk ++ reps [.int .i32 0] ((lT x5_2.1).length - k5_2)) M5_2 ∧ es5_2.map (·.2) = (rMany (decV 3 (decP [] v false) false false) k5_2 (rArr false x5_1.2).2).1 ∧ ∀ p ∈ es5_2, RI32 H' p.2 (fk p)) [(2, .bool false), (7, .pointer (some ⟨b_1, 0, none⟩)), (8, .int .i16 v), (9, .bool (decide ((2 : Int) ≤ v))), (10, .pointer (some ⟨b, 0, none⟩)), (16, .slice none 0 0), (17, .slice a5 (lT x5.1).length c5), (18, .int .i32 (rArr false x4.2).1), (19, .int .i32 (k5 : Int)), (21, .pointer (some ⟨g5, 0 + k5 * 5, none⟩)), (24, .slice none 0 0), (25, .slice a5_2 (lT x5_2.1).length c5_2), (26, .int .i32 (rArr false x5_1.2).1), (27, .int .i32 (0 : Int))] (.cons rfl (.cons rfl (.cons rfl (.cons rfl (.cons rfl (.cons rfl (.cons rfl (.cons rfl (.cons rfl (.cons rfl (.cons rfl (.cons rfl (.cons rfl (.cons rfl (.nil _))))))))))))))) ⟨[], Nr5_2, _, rfl, rfl, (hR150.mono le_12), hr5_2, rfl, (fun p hp => by cases hp)⟩ (fun k5_2 l' H' L' hk5_2 le_13 hI => ?_))
                  obtain ⟨es5_2, M5_2, RN5_2, rfl, rfl, hR_5_2, hw_5_2, he_5_2, hg_5_2⟩ := hI
                  have hs_5_2 := els_len he_5_2
                  have hp_5_2 : (es5_2.flatMap fk).length = k5_2 * 1 := els_flat hs_5_2
                  refine sq ?_
                  refine sr ?_
                  refine mv rfl rfl ?_
                  refine mv rfl rfl ?_
                  refine lt rfl rfl rfl ?_
                  refine nl ?_
                  refine cd rfl (fun h163 => ?_) (fun h163 => ?_)
                  · skip
                    have hkl5_2 : k5_2 < (lT x5_2.1).length := by omega
                    obtain ⟨g5_2, po5_2, hga5_2, rfl, hbk5_2⟩ := hw_5_2.next (zs := [.int .i32 0]) hkl5_2 rfl (by decide)
                    have ho5_2 : 0 + k5_2 * 1 = (es5_2.flatMap fk).length := by rw [hp_5_2]; omega
                    have hbz5_2 : ((decV 3 (decP [] v false) false false) (rMany (decV 3 (decP [] v false) false false) k5_2 (rArr false x5_1.2).2).2).2.bad = true → (decP fs_StopReplicaRequest v false ⟨s, false, !a.isNone⟩).2.bad = true := fun h => hB5_2 (by rw [ex5_2]; exact rMany_mono (fun r h => decV_bad (fun r h => decP_bad _ _ _ r h) h) _ (show k5_2 + 1 ≤ (lT x5_2.1).length from hkl5_2) (by rw [rMany_succ]; exact h))
                    have hLk5_2 : (rMany (decV 3 (decP [] v false) false false) k5_2 (rArr false x5_1.2).2).2.s.length ≤ BR := Nat.le_trans (rMany_shr (fun r => decV_shr (fun r => decP_shr _ _ _ r) r) _ _) hm5_2
                    obtain ⟨y5_2, hy5_2⟩ : ∃ x, x = (decV 3 (decP [] v false) false false) (rMany (decV 3 (decP [] v false) false false) k5_2 (rArr false x5_1.2).2).2 := ⟨_, rfl⟩
                    refine skt ?_
                    refine sq ?_
                    refine bl ?_
                    refine sr ?_
                    refine tf (.tail .head) ?_
                    refine cl rfl rfl rfl (d3 hR_5_2 hy5_2) rfl (fun v_ H1 L1 hle_ hR_ => ?_)
                    obtain ⟨N166, rfl, hR166, rfl, rfl⟩ := hR_
                    refine asg rfl rfl ?_
                    refine nl ?_
                    refine rg ?_
                    refine mv rfl rfl ?_
                    refine mv rfl rfl ?_
                    refine mv rfl rfl ?_
                    refine ixk (j := k5_2) Tryd.runUnderlying62 Tryd.sizeOf21 rfl hga5_2 rfl rfl hkl5_2 rfl ?_
                    refine stM (off := 0) Tryd.sizeOf21 rfl ho5_2 rfl rfl rfl (.tail .head) ?_
                    refine nN ?_
                    refine Nb ?_
                    refine Nt ?_
                    refine rg ?_
                    refine mv rfl rfl ?_
                    refine ad rfl rfl (c := ((k5_2 + 1 : Nat) : Int)) ((wrap32_le (by omega) (by omega)).trans (by omega)) rfl ?_
                    refine asg rfl rfl ?_
                    refine nN ?_
                    have hfs5_2 := flatMap_snoc' fk es5_2 ((⟨([.int .i32 (IntKind.i32.wrap y5_2.1.n)] : List Value), rfl, all_one rfl⟩, ((decV 3 (decP [] v false) false false) (rMany (decV 3 (decP [] v false) false false) k5_2 (rArr false x5_1.2).2).2).1) : KE 1)
                    have hrw5_2 := hbk5_2 ([.int .i32 (IntKind.i32.wrap y5_2.1.n)] : List Value) rfl
                    refine tfN (.tail .head) ?_
                    refine fun a_ w_ hA hw => ⟨hkl5_2, _, _, _, hA.sub ?_, le_13, hw, _, _, _, rfl, rfl, (by rw [rMany_succ, ← hy5_2]; exact hR166), (by rw [← hfs5_2]; exact hrw5_2), (dec_els he_5_2), (fun p hp => (mem_snoc hp).elim (fun h => RI32.mono _ _ _ _ (Fz.le.refl _) (hg_5_2 p h)) (fun h => h ▸ (by show RI32 _ ((decV 3 (decP [] v false) false false) (rMany (decV 3 (decP [] v false) false false) k5_2 (rArr false x5_1.2).2).2).1 [.int .i32 (IntKind.i32.wrap y5_2.1.n)]; rw [← hy5_2]; rfl)))⟩
                    exact (.cons rfl (.cons rfl (.cons rfl (.cons rfl (.cons rfl (.cons rfl (.cons rfl (.cons rfl (.cons rfl (.cons rfl (.cons rfl (.cons rfl (.cons rfl (.cons rfl (.nil _)))))))))))))))
                  · skip
                    have hkn_ : k5_2 = (lT x5_2.1).length := by omega
                    subst hkn_
                    have hw2_5_2 : Row 21 1 a5_2 (lT x5_2.1).length c5_2 (es5_2.flatMap fk) M5_2 := by have h := hw_5_2; rw [Nat.sub_self] at h; simpa [reps] using h
                    refine frW hw2_5_2 .head (fun Hf5_2 hlf5_2 hfz5_2 => ?_)
                    have hrs5_2 := RowsAt.row (R := RI32) hfz5_2 hs_5_2.symm hw2_5_2.le.1 (fun p hp => RI32.mono _ _ _ _ hlf5_2 (hg_5_2 p hp))
                    rw [he_5_2] at hrs5_2
                    have hf5_2 : ListAt Hf5_2 x5_2.1 1 RI32 a5_2 c5_2 := by rw [ex5_2]; exact listAt_of hrs5_2 hi5_2 (fun h => by have h1 := nul_le h; rw [show (lT x5_2.1).length = 0 by omega]; rfl)
                    have hRx5_2 : RdAt Hf5_2 70 b_1 x5_2.2 RN5_2 := by rw [ex5_2]; exact (hR_5_2.mono hlf5_2)
                    refine exX ?_
                    refine XT ?_
                    refine XT ?_
                    refine Xb ?_
                    refine Nt ?_
                    refine sr ?_
                    refine mv rfl rfl ?_
                    refine asg rfl rfl ?_
                    refine nl ?_
                    refine rg ?_
                    refine mv rfl rfl ?_
                    refine mv rfl rfl ?_
                    refine nc rfl rfl ?_
                    refine fa F65_2 rfl rfl ?_
                    refine stM (off := 2) Tryd.sizeOf62 rfl (by rw [ho5]) rfl rfl rfl (.tail .head) ?_
                    refine nl ?_
                    refine sq ?_
                    refine sr ?_
                    refine mv rfl rfl ?_
                    refine ge rfl rfl rfl ?_
                    refine nl ?_
                    refine cdF rfl (by omega) ?_
                    refine skt ?_
                    refine sr ?_
                    refine mv rfl rfl ?_
                    refine nl ?_
                    refine cdF rfl (by omega) ?_
                    refine skN ?_
                    refine Nb ?_
                    refine Nt ?_
                    refine rg ?_
                    refine mv rfl rfl ?_
                    refine ad rfl rfl (c := ((k5 + 1 : Nat) : Int)) ((wrap32_le (by omega) (by omega)).trans (by omega)) rfl ?_
                    refine asg rfl rfl ?_
                    refine nN ?_
                    obtain rfl : x5_3 = ((Tr.mk 0 [] true [] []), x5_2.2) := (hx5_3.trans (step_no (Or.inl (show v < (3 : Int) by omega)))).trans (by rw [dflF_eq]; rfl)
                    obtain rfl : u5_ = ([], x5_2.2) := hu5_
                    have hfs5 := flatMap_snoc' fk es5 ((⟨([.string ⟨x5_0.1.s.toArray⟩, .int .i32 (IntKind.i32.wrap x5_1.1.n), .slice a5_2 (lT x5_2.1).length c5_2, .slice none 0 0, .map none] : List Value), rfl, all_one rfl⟩, ((decV 10 (decP fs_sStopReplicaRequestTopic v false) false false) (rMany (decV 10 (decP fs_sStopReplicaRequestTopic v false) false false) k5 (rArr false x4.2).2).2).1) : KE 5)
                    have hrw5 := hbk5 ([.string ⟨x5_0.1.s.toArray⟩, .int .i32 (IntKind.i32.wrap x5_1.1.n), .slice a5_2 (lT x5_2.1).length c5_2, .slice none 0 0, .map none] : List Value) rfl
                    refine tfN (.tail .head) ?_
                    refine fun a_ w_ hA hw => ⟨hkl5, _, _, _, hA.sub ?_, (le_8.trans (le_10.trans (le_12.trans (le_13.trans hlf5_2)))), hw, _, _, _, rfl, rfl, (by rw [rMany_succ]; show RdAt _ 70 b_1 (decP fs_sStopReplicaRequestTopic v false (rMany (decV 10 (decP fs_sStopReplicaRequestTopic v false) false false) k5 (rArr false x4.2).2).2).2 _; rw [hD5_]; exact hRx5_2), (by rw [← hfs5]; exact hrw5), (dec_els he_5), (fun p hp => (mem_snoc hp).elim (fun h => At_StopReplicaRequestTopic.mono _ _ _ _ (le_10.trans (le_12.trans (le_13.trans hlf5_2))) (hg_5 p h)) (fun h => h ▸ (by show At_StopReplicaRequestTopic _ (decP fs_sStopReplicaRequestTopic v false (rMany (decV 10 (decP fs_sStopReplicaRequestTopic v false) false false) k5 (rArr false x4.2).2).2).1 [.string ⟨x5_0.1.s.toArray⟩, .int .i32 (IntKind.i32.wrap x5_1.1.n), .slice a5_2 (lT x5_2.1).length c5_2, .slice none 0 0, .map none]; rw [hD5_]; exact ⟨a5_2, c5_2, none, 0, none, rfl, hf5_2, (ListAt.none rfl), (KvAt.nil _)⟩)))⟩
                    exact (.cons rfl (.cons rfl (.cons rfl (.cons rfl (.cons rfl (.cons rfl (.cons rfl (.cons rfl (.cons rfl (.nil _))))))))))
            · skip
              refine gs rfl rfl rfl rfl ?_
              refine gs rfl rfl rfl rfl ?_
              refine pk rfl rfl rfl rfl ?_
              refine nl ?_
              refine cF rfl ?_
              refine skt ?_
              refine sq ?_
              refine sr ?_
              refine mv rfl rfl ?_
              refine ge rfl rfl rfl ?_
              refine nl ?_
              refine cdF rfl (by omega) ?_
              refine skt ?_
              refine sr ?_
              refine mv rfl rfl ?_
              refine nl ?_
              refine cdF rfl (by omega) ?_
              refine skN ?_
              refine Nb ?_
              refine Nt ?_
              refine rg ?_
              refine mv rfl rfl ?_
              refine ad rfl rfl (c := ((k5 + 1 : Nat) : Int)) ((wrap32_le (by omega) (by omega)).trans (by omega)) rfl ?_
              refine asg rfl rfl ?_
              refine nN ?_
              obtain rfl : x5_2 = ((Tr.mk 0 [] true [] []), x5_1.2) := (hx5_2.trans (step_no (Or.inl (show v < (1 : Int) by omega)))).trans (by rw [dflF_eq]; rfl)
              obtain rfl : x5_3 = ((Tr.mk 0 [] true [] []), x5_1.2) := (hx5_3.trans (step_no (Or.inl (show v < (3 : Int) by omega)))).trans (by rw [dflF_eq]; rfl)
              obtain rfl : u5_ = ([], x5_1.2) := hu5_
              have hfs5 := flatMap_snoc' fk es5 ((⟨([.string ⟨x5_0.1.s.toArray⟩, .int .i32 (IntKind.i32.wrap x5_1.1.n), .slice none 0 0, .slice none 0 0, .map none] : List Value), rfl, all_one rfl⟩, ((decV 10 (decP fs_sStopReplicaRequestTopic v false) false false) (rMany (decV 10 (decP fs_sStopReplicaRequestTopic v false) false false) k5 (rArr false x4.2).2).2).1) : KE 5)
              have hrw5 := hbk5 ([.string ⟨x5_0.1.s.toArray⟩, .int .i32 (IntKind.i32.wrap x5_1.1.n), .slice none 0 0, .slice none 0 0, .map none] : List Value) rfl
              refine tfN (.tail .head) ?_
              refine fun a_ w_ hA hw => ⟨hkl5, _, _, _, hA.sub ?_, (le_8.trans le_10), hw, _, _, _, rfl, rfl, (by rw [rMany_succ]; show RdAt _ 70 b_1 (decP fs_sStopReplicaRequestTopic v false (rMany (decV 10 (decP fs_sStopReplicaRequestTopic v false) false false) k5 (rArr false x4.2).2).2).2 _; rw [hD5_]; exact hRj5_1), (by rw [← hfs5]; exact hrw5), (dec_els he_5), (fun p hp => (mem_snoc hp).elim (fun h => At_StopReplicaRequestTopic.mono _ _ _ _ le_10 (hg_5 p h)) (fun h => h ▸ (by show At_StopReplicaRequestTopic _ (decP fs_sStopReplicaRequestTopic v false (rMany (decV 10 (decP fs_sStopReplicaRequestTopic v false) false false) k5 (rArr false x4.2).2).2).1 [.string ⟨x5_0.1.s.toArray⟩, .int .i32 (IntKind.i32.wrap x5_1.1.n), .slice none 0 0, .slice none 0 0, .map none]; rw [hD5_]; exact ⟨none, 0, none, 0, none, rfl, (ListAt.none rfl), (ListAt.none rfl), (KvAt.nil _)⟩)))⟩
              exact (.cons rfl (.cons rfl (.cons rfl (.cons rfl (.cons rfl (.cons rfl (.cons rfl (.cons rfl (.cons rfl (.nil _))))))))))
        · skip
          have hkn_ : k5 = (lT x5.1).length := by omega
          subst hkn_
          have hw2_5 : Row 65 5 a5 (lT x5.1).length c5 (es5.flatMap fk) M5 := by have h := hw_5; rw [Nat.sub_self] at h; simpa [reps] using h
          refine frW hw2_5 .head (fun Hf5 hlf5 hfz5 => ?_)
          have hrs5 := RowsAt.row (R := At_StopReplicaRequestTopic) hfz5 hs_5.symm hw2_5.le.1 (fun p hp => At_StopReplicaRequestTopic.mono _ _ _ _ hlf5 (hg_5 p hp))
          rw [he_5] at hrs5
          have hf5 : ListAt Hf5 x5.1 5 At_StopReplicaRequestTopic a5 c5 := by rw [ex5]; exact listAt_of hrs5 hi5 (fun h => by have h1 := nul_le h; rw [show (lT x5.1).length = 0 by omega]; rfl)
          have hRx5 : RdAt Hf5 70 b_1 x5.2 RN5 := by rw [ex5]; exact (hR_5.mono hlf5)
          refine exX ?_
          refine XT ?_
          refine XT ?_
          refine Xb ?_
          refine Nt ?_
          refine sr ?_
          refine mv rfl rfl ?_
          refine asg rfl rfl ?_
          refine nl ?_
          refine rg ?_
          refine mv rfl rfl ?_
          refine mv rfl rfl ?_
          refine nc rfl rfl ?_
          refine fa0 F57_6 rfl rfl ?_
          refine st Tryd.sizeOf52 rfl rfl rfl rfl (.tail .head) ?_
          refine nl ?_
          refine sq ?_
          refine sr ?_
          refine mv rfl rfl ?_
          refine nl ?_
          refine cdF rfl (by omega) ?_
          refine skt ?_
          refine sr ?_
          refine cl rfl rfl rfl (r_complete hRx5 (he.mono (le_4.trans (le_7.trans (le_8.trans hlf5))))) rfl (fun v_ H1 L1 hle_ hR_ => ?_)
          obtain ⟨rfl, rfl, rfl⟩ := hR_
          refine asg rfl rfl ?_
          refine nl ?_
          refine drW .head ?_
          obtain rfl : u = ([], x5.2) := hu
          have hA_ := (show At_StopReplicaRequest v _ (decP fs_StopReplicaRequest v false _).1 [.int .i16 v, .int .i32 (IntKind.i32.wrap x0.1.n), .int .i32 (IntKind.i32.wrap x1.1.n), .bool false, .int .i64 x3.1.n, .bool (decide (x4.1.n % 2 = 1)), .slice a5 (lT x5.1).length c5, .map none] from (by rw [hD]; exact ⟨a5, c5, none, rfl, hf5, (KvAt.nil _)⟩))
          refine rT rfl rfl (le_4.trans (le_7.trans (le_8.trans hlf5))) (fun _ _ h => h) ⟨_, rfl, ?_⟩
          have hz := RdEnd.of (e := e) hA_
          rw [show (decP fs_StopReplicaRequest v false _).2.bad = x5.2.bad by rw [hD]] at hz
          exact hz
theorem rd_StopReplicaRequest_t {H : Fz} {L : Own} {b : Nat} {v : Int} {a : Option Addr} {c : Nat} {s : List UInt8} {e : Value} (hB : BytesAt H a c s) (hL_ : s.length ≤ BR) (he : H.at 1 0 [e]) (hv0 : 2 ≤ v) (hv1 : v ≤ 4) :
    Fn Tryd.prog 18 [.pointer (some ⟨b, 0, none⟩), .slice a s.length c, .bool false] H ([(b, .cells [.int .i16 v, .int .i32 0, .int .i32 0, .bool false, .int .i64 (-1), .bool false, .slice none 0 0, .map none].toArray 57 (0, 0))] :: L) (fun r H' L' => ∃ cs : List Value, L' = [(b, .cells cs.toArray 57 (0, 0))] :: L ∧ RdEnd H' (At_StopReplicaRequest v) (decP fs_StopReplicaRequest v true ⟨s, false, !a.isNone⟩) e r cs) := by
  refine Fn.mk Tryd.call18 Tryd.func18 rfl Tryd.ntmps18 rfl ?_
  refine sr ?_
  refine asg rfl rfl ?_
  refine nl ?_
  refine sr ?_
  refine mv rfl rfl ?_
  refine cl rfl rfl rfl def0_StopReplicaRequest rfl (fun v_ H1 L1 hle_ hR_ => ?_)
  obtain ⟨rfl, rfl⟩ := hR_
  refine nl ?_
  refine sr ?_
  refine mv rfl rfl ?_
  refine bd' S70 rfl rfl rfl ?_
  refine al Tryd.zeroValue70 rfl rfl (fun b_1 => ?_)
  refine sa Tryd.sizeOf70 rfl rfl rfl rfl rfl .head ?_
  have hR0_ : RdAt H 70 b_1 ⟨s, false, !a.isNone⟩ [(b_1, .cells [_, _].toArray 70 (0, 0))] := ⟨a, c, rfl, hB, by simp⟩
  obtain ⟨x0, hx0⟩ : ∃ x, x = stepF (Fd.mk 3 0 (-1) (-1) (-1) 0 0 []) v true ⟨s, false, !a.isNone⟩ := ⟨_, rfl⟩
  obtain ⟨x1, hx1⟩ : ∃ x, x = stepF (Fd.mk 3 0 (-1) (-1) (-1) 0 0 []) v true x0.2 := ⟨_, rfl⟩
  obtain ⟨x2, hx2⟩ : ∃ x, x = stepF (Fd.mk 0 4 (-1) (-1) (-1) 0 0 []) v true x1.2 := ⟨_, rfl⟩
  obtain ⟨x3, hx3⟩ : ∃ x, x = stepF (Fd.mk 4 1 (-1) (-1) (-1) (-1) 0 []) v true x2.2 := ⟨_, rfl⟩
  obtain ⟨x4, hx4⟩ : ∃ x, x = stepF (Fd.mk 0 0 2 (-1) (-1) 0 0 []) v true x3.2 := ⟨_, rfl⟩
  obtain ⟨x5, hx5⟩ : ∃ x, x = stepF (Fd.mk 11 0 (-1) (-1) (-1) 0 10 fs_sStopReplicaRequestTopic) v true x4.2 := ⟨_, rfl⟩
  obtain ⟨u, hu⟩ : ∃ x, x = tailU true x5.2 := ⟨_, rfl⟩
  have hD : decP fs_StopReplicaRequest v true ⟨s, false, !a.isNone⟩ = (.mk 0 [] false [x0.1, x1.1, x2.1, x3.1, x4.1, x5.1] u.1, u.2) := by
    generalize (⟨s, false, !a.isNone⟩ : Rd) = r_ at hx0 ⊢
    rw [decP_eq]; unfold fs_StopReplicaRequest; simp only [decFs_cons, decFs_nil, ← hx0, ← hx1, ← hx2, ← hx3, ← hx4, ← hx5, ← hu]
  have hL0 : x0.2.s.length ≤ BR := by rw [hx0]; exact Nat.le_trans (stepF_shr _ _ _ _) hL_
  have hL1 : x1.2.s.length ≤ BR := by rw [hx1]; exact Nat.le_trans (stepF_shr _ _ _ _) hL0
  have hL2 : x2.2.s.length ≤ BR := by rw [hx2]; exact Nat.le_trans (stepF_shr _ _ _ _) hL1
  have hL3 : x3.2.s.length ≤ BR := by rw [hx3]; exact Nat.le_trans (stepF_shr _ _ _ _) hL2
  have hL4 : x4.2.s.length ≤ BR := by rw [hx4]; exact Nat.le_trans (stepF_shr _ _ _ _) hL3
  have hL5 : x5.2.s.length ≤ BR := by rw [hx5]; exact Nat.le_trans (stepF_shr _ _ _ _) hL4
  have hE : u.2.bad = true → (decP fs_StopReplicaRequest v true ⟨s, false, !a.isNone⟩).2.bad = true := fun h => by rw [hD]; exact h
  have hB5 : x5.2.bad = true → (decP fs_StopReplicaRequest v true ⟨s, false, !a.isNone⟩).2.bad = true := fun h => hE (by rw [hu]; exact tailU_bad h)
  have hB4 : x4.2.bad = true → (decP fs_StopReplicaRequest v true ⟨s, false, !a.isNone⟩).2.bad = true := fun h => hB5 (by rw [hx5]; exact step_bad h)
  have hB3 : x3.2.bad = true → (decP fs_StopReplicaRequest v true ⟨s, false, !a.isNone⟩).2.bad = true := fun h => hB4 (by rw [hx4]; exact step_bad h)
  have hB2 : x2.2.bad = true → (decP fs_StopReplicaRequest v true ⟨s, false, !a.isNone⟩).2.bad = true := fun h => hB3 (by rw [hx3]; exact step_bad h)
  have hB1 : x1.2.bad = true → (decP fs_StopReplicaRequest v true ⟨s, false, !a.isNone⟩).2.bad = true := fun h => hB2 (by rw [hx2]; exact step_bad h)
  have hB0 : x0.2.bad = true → (decP fs_StopReplicaRequest v true ⟨s, false, !a.isNone⟩).2.bad = true := fun h => hB1 (by rw [hx1]; exact step_bad h)
  refine nl ?_
  refine sr ?_
  refine mv rfl rfl ?_
  refine nc rfl rfl ?_
  refine fa0 F57_0 rfl rfl ?_
  refine ld (Says.own (.tail .head)) Tryd.isAgg38 rfl (Nat.zero_add _).symm rfl rfl ?_
  refine asg rfl rfl ?_
  refine nl ?_
  refine sr ?_
  refine mv rfl rfl ?_
  refine nl ?_
  refine sr ?_
  refine mv rfl rfl ?_
  refine ge rfl rfl rfl ?_
  refine asg rfl rfl ?_
  refine nl ?_
  refine sr ?_
  refine mv rfl rfl ?_
  refine nl ?_
  refine sr ?_
  refine mv rfl rfl ?_
  refine asg rfl rfl ?_
  refine nl ?_
  refine sq ?_
  refine sr ?_
  have ex0 : x0 = decV 3 (decP [] v true) false true ⟨s, false, !a.isNone⟩ := (hx0.trans (step_yes (by decide) (show (0 : Int) ≤ v by omega) (Or.inl (by decide)))).trans (decF'_val (by decide) (rfl))
  refine cl rfl rfl rfl (d3 hR0_ ex0) rfl (fun v_ H1 L1 hle_ hR_ => ?_)
  obtain ⟨N51, rfl, hR51, rfl, rfl⟩ := hR_
  refine asg rfl rfl ?_
  refine nl ?_
  refine rg ?_
  refine mv rfl rfl ?_
  refine mv rfl rfl ?_
  refine nc rfl rfl ?_
  refine fa0 F57_1 rfl rfl ?_
  refine st Tryd.sizeOf21 rfl rfl rfl rfl (.tail .head) ?_
  refine nl ?_
  refine sq ?_
  refine sr ?_
  have ex1 : x1 = decV 3 (decP [] v true) false true x0.2 := (hx1.trans (step_yes (by decide) (show (0 : Int) ≤ v by omega) (Or.inl (by decide)))).trans (decF'_val (by decide) (rfl))
  refine cl rfl rfl rfl (d3 hR51 ex1) rfl (fun v_ H1 L1 hle_ hR_ => ?_)
  obtain ⟨N56, rfl, hR56, rfl, rfl⟩ := hR_
  refine asg rfl rfl ?_
  refine nl ?_
  refine rg ?_
  refine mv rfl rfl ?_
  refine mv rfl rfl ?_
  refine nc rfl rfl ?_
  refine fa0 F57_2 rfl rfl ?_
  refine st Tryd.sizeOf21 rfl rfl rfl rfl (.tail .head) ?_
  refine nl ?_
  refine sq ?_
  refine sr ?_
  refine mv rfl rfl ?_
  refine ge rfl rfl rfl ?_
  refine nl ?_
  refine cutT (fun l' H' L' => ∃ (Nj2 : Chunk), [(2, .bool false), (7, .pointer (some ⟨b_1, 0, none⟩)), (8, .int .i16 v), (9, .bool (decide ((2 : Int) ≤ v))), (10, .pointer (some ⟨b, 0, none⟩))] = l' ∧ Nj2 :: [(b, .cells [.int .i16 v, .int .i32 (IntKind.i32.wrap x0.1.n), .int .i32 (IntKind.i32.wrap x1.1.n), .bool (decide (x2.1.n % 2 = 1)), .int .i64 (-1), .bool false, .slice none 0 0, .map none].toArray 57 (0, 0))] :: L = L' ∧ RdAt H' 70 b_1 x2.2 Nj2) ?_ (fun l' H' L' le_4 hI => ?_)
  · skip
    refine cd rfl (fun h62 => ?_) (fun h62 => ?_)
    · skip
      refine sr ?_
      have ex2 : x2 = decV 0 (decP [] v true) false true x1.2 := (hx2.trans (step_yes (by decide) (show (4 : Int) ≤ v by omega) (Or.inl (by decide)))).trans (decF'_val (by decide) (rfl))
      refine cl rfl rfl rfl (d0 hR56 ex2) rfl (fun v_ H1 L1 hle_ hR_ => ?_)
      obtain ⟨N63, rfl, hR63, rfl, rfl⟩ := hR_
      refine asg rfl rfl ?_
      refine nl ?_
      refine rg ?_
      refine mv rfl rfl ?_
      refine mv rfl rfl ?_
      refine nc rfl rfl ?_
      refine fa0 F57_3 rfl rfl ?_
      refine st Tryd.sizeOf4 rfl rfl rfl rfl (.tail .head) ?_
      refine nN ?_
      refine fun a_ w_ hA hw => ⟨_, _, _, hA.sub ?_, (Fz.le.refl _), hw, N63, rfl, rfl, hR63⟩
      exact (.cons rfl (.cons rfl (.cons rfl (.cons rfl (.cons rfl (.nil _))))))
    · skip
      refine skN ?_
      obtain rfl : x2 = ((Tr.mk 0 [] false [] []), x1.2) := (hx2.trans (step_no (Or.inl (show v < (4 : Int) by omega)))).trans (by rw [dflF_eq]; rfl)
      refine fun a_ w_ hA hw => ⟨_, _, _, hA.sub ?_, (Fz.le.refl _), hw, N56, rfl, rfl, hR56⟩
      exact (.cons rfl (.cons rfl (.cons rfl (.cons rfl (.cons rfl (.nil _))))))
  · skip
    obtain ⟨Nj2, rfl, rfl, pj0⟩ := hI
    have hRj2 := pj0
    refine sq ?_
    refine sr ?_
    refine mv rfl rfl ?_
    refine ge rfl rfl rfl ?_
    refine nl ?_
    refine cdT rfl (by omega) ?_
    refine sr ?_
    have ex3 : x3 = decV 4 (decP [] v true) false true x2.2 := (hx3.trans (step_yes (by decide) (show (1 : Int) ≤ v by omega) (Or.inl (by decide)))).trans (decF'_val (by decide) (rfl))
    refine cl rfl rfl rfl (d4 hRj2 ex3) rfl (fun v_ H1 L1 hle_ hR_ => ?_)
    obtain ⟨N70, rfl, hR70, rfl, rfl⟩ := hR_
    refine asg rfl rfl ?_
    refine nl ?_
    refine rg ?_
    refine mv rfl rfl ?_
    refine mv rfl rfl ?_
    refine nc rfl rfl ?_
    refine fa0 F57_4 rfl rfl ?_
    refine st Tryd.sizeOf2 rfl rfl rfl rfl (.tail .head) ?_
    refine nl ?_
    refine sq ?_
    refine sr ?_
    refine mv rfl rfl ?_
    refine ge rfl rfl rfl ?_
    refine mv rfl rfl ?_
    refine spl (t := 77) rfl (fun _ => ?_) (fun hn_ => absurd (by omega) hn_)
    refine gr rfl rfl ?_
    refine mv rfl rfl ?_
    refine gr rfl rfl ?_
    refine le rfl rfl rfl ?_
    refine pk rfl rfl rfl rfl ?_
    refine nl ?_
    refine cutT (fun l' H' L' => ∃ (Nj4 : Chunk), [(2, .bool false), (7, .pointer (some ⟨b_1, 0, none⟩)), (8, .int .i16 v), (9, .bool (decide ((2 : Int) ≤ v))), (10, .pointer (some ⟨b, 0, none⟩))] = l' ∧ Nj4 :: [(b, .cells [.int .i16 v, .int .i32 (IntKind.i32.wrap x0.1.n), .int .i32 (IntKind.i32.wrap x1.1.n), .bool (decide (x2.1.n % 2 = 1)), .int .i64 x3.1.n, .bool (decide (x4.1.n % 2 = 1)), .slice none 0 0, .map none].toArray 57 (0, 0))] :: L = L' ∧ RdAt H' 70 b_1 x4.2 Nj4) ?_ (fun l' H' L' le_7 hI => ?_)
    · skip
      refine cd rfl (fun h80 => ?_) (fun h80 => ?_)
      · skip
        refine sr ?_
        have ex4 : x4 = decV 0 (decP [] v true) false true x3.2 := (hx4.trans (step_yes (by decide) (show (0 : Int) ≤ v by omega) (Or.inr (show v ≤ (2 : Int) by omega)))).trans (decF'_val (by decide) (rfl))
        refine cl rfl rfl rfl (d0 hR70 ex4) rfl (fun v_ H1 L1 hle_ hR_ => ?_)
        obtain ⟨N81, rfl, hR81, rfl, rfl⟩ := hR_
        refine asg rfl rfl ?_
        refine nl ?_
        refine rg ?_
        refine mv rfl rfl ?_
        refine mv rfl rfl ?_
        refine nc rfl rfl ?_
        refine fa0 F57_5 rfl rfl ?_
        refine st Tryd.sizeOf4 rfl rfl rfl rfl (.tail .head) ?_
        refine nN ?_
        refine fun a_ w_ hA hw => ⟨_, _, _, hA.sub ?_, (Fz.le.refl _), hw, N81, rfl, rfl, hR81⟩
        exact (.cons rfl (.cons rfl (.cons rfl (.cons rfl (.cons rfl (.nil _))))))
      · skip
        refine skN ?_
        obtain rfl : x4 = ((Tr.mk 0 [] false [] []), x3.2) := (hx4.trans (step_no (Or.inr ⟨by decide, show (2 : Int) < v by omega⟩))).trans (by rw [dflF_eq]; rfl)
        refine fun a_ w_ hA hw => ⟨_, _, _, hA.sub ?_, (Fz.le.refl _), hw, N70, rfl, rfl, hR70⟩
        exact (.cons rfl (.cons rfl (.cons rfl (.cons rfl (.cons rfl (.nil _))))))
    · skip
      obtain ⟨Nj4, rfl, rfl, pj0⟩ := hI
      have hRj4 := pj0
      refine sq ?_
      refine sr ?_
      refine mv rfl rfl ?_
      refine nc rfl rfl ?_
      refine fa0 F57_6 rfl rfl ?_
      refine ld (Says.own (.tail .head)) Tryd.isAgg52 rfl (Nat.zero_add _).symm rfl rfl ?_
      refine asg rfl rfl ?_
      refine nl ?_
      refine sr ?_
      refine mv rfl rfl ?_
      refine asg rfl rfl ?_
      refine nl ?_
      refine sr ?_
      refine asg rfl rfl ?_
      refine nl ?_
      refine sq ?_
      refine sr ?_
      refine mv rfl rfl ?_
      refine nl ?_
      refine cdT rfl (by omega) ?_
      refine rg ?_
      have ey5 : x5 = (.mk 0 [] (if 0 ≤ ((-1) : Int) ∧ (v < ((-1) : Int) ∨ (rArr true x4.2).1 = 0) then false else decide ((rArr true x4.2).1 ≤ 0)) (rMany (decV 10 (decP fs_sStopReplicaRequestTopic v true) false true) (rArr true x4.2).1.toNat (rArr true x4.2).2).1 [], (rMany (decV 10 (decP fs_sStopReplicaRequestTopic v true) false true) (rArr true x4.2).1.toNat (rArr true x4.2).2).2) := (hx5.trans (step_yes (by decide) (show (0 : Int) ≤ v by omega) (Or.inl (by decide)))).trans (decF'_list rfl rfl)
      have hn5 : (rArr true x4.2).1.toNat = (lT x5.1).length := by rw [ey5]; exact (lT_many nul_le).symm
      have ex5 := ey5
      rw [hn5] at ex5
      have hl5 := rArr_le true x4.2
      have hm5 : (rArr true x4.2).2.s.length ≤ BR := Nat.le_trans (rArr_len true x4.2) hL4
      have hnb5 : (lT x5.1).length ≤ BR := by omega
      refine cl rfl rfl rfl (r_arrt hRj4) rfl (fun v_ H1 L1 hle_ hR_ => ?_)
      obtain ⟨rfl, N92, rfl, hR92, rfl⟩ := hR_
      have hh5 := rArr_hi true x4.2
      refine asg rfl rfl ?_
      refine nl ?_
      refine sq ?_
      refine sr ?_
      refine cl rfl rfl rfl (r_ok hR92) rfl (fun v_ H1 L1 hle_ hR_ => ?_)
      obtain ⟨rfl, rfl, rfl⟩ := hR_
      refine nt rfl rfl ?_
      refine nl ?_
      refine cb rfl (fun h95 => ?_) (fun h95 => ?_)
      · skip
        have hbad_ : (rArr true x4.2).2.bad = true := by simpa using h95
        refine sr ?_
        refine cl rfl rfl rfl (r_complete hR92 (he.mono (le_4.trans le_7))) rfl (fun v_ H1 L1 hle_ hR_ => ?_)
        obtain ⟨rfl, rfl, rfl⟩ := hR_
        refine asg rfl rfl ?_
        refine nl ?_
        refine drW .head ?_
        exact rT rfl rfl (le_4.trans le_7) (fun _ _ h => h) ⟨_, rfl, RdEnd.out (hB5 (by rw [ey5]; exact rMany_bad (fun r h => decV_bad (decP_bad _ _ _) h) _ _ hbad_)) hbad_⟩
      · skip
        refine skt ?_
        refine sr ?_
        refine mv rfl rfl ?_
        refine sh' (j := 0) Tryd.runUnderlying52 Tryd.sizeOf65 rfl rfl rfl (Nat.zero_le _) rfl ?_
        refine asg rfl rfl ?_
        refine nl ?_
        refine sq ?_
        refine sr ?_
        refine mv rfl rfl ?_
        refine gt rfl rfl rfl ?_
        refine nl ?_
        refine nulC2 ?_
        refine cutT (fun l' H' L' => ∃ (a5 : Option Addr), ∃ (c5 : Nat), ∃ (Nr5 : Chunk), [(2, .bool false), (7, .pointer (some ⟨b_1, 0, none⟩)), (8, .int .i16 v), (9, .bool (decide ((2 : Int) ≤ v))), (10, .pointer (some ⟨b, 0, none⟩)), (16, .slice none 0 0), (17, .slice a5 (lT x5.1).length c5), (18, .int .i32 (rArr true x4.2).1)] = l' ∧ Nr5 :: N92 :: [(b, .cells [.int .i16 v, .int .i32 (IntKind.i32.wrap x0.1.n), .int .i32 (IntKind.i32.wrap x1.1.n), .bool (decide (x2.1.n % 2 = 1)), .int .i64 x3.1.n, .bool (decide (x4.1.n % 2 = 1)), .slice none 0 0, .map none].toArray 57 (0, 0))] :: L = L' ∧ Row 65 5 a5 (lT x5.1).length c5 (reps [.string ⟨#[]⟩, .int .i32 0, .slice none 0 0, .slice none 0 0, .map none] (lT x5.1).length) Nr5 ∧ a5.isNone = (if 0 ≤ ((-1) : Int) ∧ (v < ((-1) : Int) ∨ (rArr true x4.2).1 = 0) then false else decide ((rArr true x4.2).1 ≤ 0))) ?_ (fun l' H' L' le_9 hI => ?_)
        · skip
          refine cd rfl (fun h100 => ?_) (fun h100 => ?_)
          · skip
            refine rg ?_
            refine mv rfl rfl ?_
            refine mv rfl rfl ?_
            refine apz (zs := [.string ⟨#[]⟩, .int .i32 0, .slice none 0 0, .slice none 0 0, .map none]) (m := (lT x5.1).length) Tryd.underlying52 Tryd.underlying21 I65 rfl rfl rfl (by omega) (by omega) (by have h9 := hnb5; unfold BR at h9; omega) (by have h9 := hnb5; unfold BR at h9; unfold maxLen; omega) rfl (fun g103 cp103 N103 r103 => ?_)
            refine asg rfl rfl ?_
            refine nN ?_
            refine drN (.tail .head) ?_
            refine fun a_ w_ hA hw => ⟨_, _, _, hA.sub ?_, (Fz.le.refl _), hw, (some ⟨g103, 0, none⟩), cp103, N103, rfl, rfl, r103, (by rw [if_neg (by omega)]; exact (decide_eq_false (by omega)).symm)⟩
            exact (.cons rfl (.cons rfl (.cons rfl (.cons rfl (.cons rfl (.cons rfl (.cons rfl (.cons rfl (.nil _)))))))))
          · skip
            refine skN ?_
            refine fun a_ w_ hA hw => ⟨_, _, _, hA.sub ?_, (Fz.le.refl _), hw, none, 0, [], rfl, rfl, (by rw [show (lT x5.1).length = 0 by omega]; exact (Row.nil _ _)), (by rw [if_neg (by omega)]; exact (decide_eq_true (by omega)).symm)⟩
            exact (.cons rfl (.cons rfl (.cons rfl (.cons rfl (.cons rfl (.cons rfl (.cons (by rw [show (lT x5.1).length = 0 by omega]; rfl) (.cons rfl (.nil _)))))))))
        · skip
          obtain ⟨a5, c5, Nr5, rfl, rfl, pj0, pj1⟩ := hI
          have hr5 := pj0
          have hi5 := pj1
          refine sq ?_
          refine sr ?_
          refine asg rfl rfl ?_
          refine nl ?_
          refine bl (lp ((lT x5.1).length) (fun k5 l' H' L' => ∃ (es5 : List (KE 5)) (M5 RN5 : Chunk), [(2, .bool false), (7, .pointer (some ⟨b_1, 0, none⟩)), (8, .int .i16 v), (9, .bool (decide ((2 : Int) ≤ v))), (10, .pointer (some ⟨b, 0, none⟩)), (16, .slice none 0 0), (17, .slice a5 (lT x5.1).length c5), (18, .int .i32 (rArr true x4.2).1), (19, .int .i32 (k5 : Int))] = l' ∧ M5 :: RN5 :: [(b, .cells [.int .i16 v, .int .i32 (IntKind.i32.wrap x0.1.n), .int .i32 (IntKind.i32.wrap x1.1.n), .bool (decide (x2.1.n % 2 = 1)), .int .i64 x3.1.n, .bool (decide (x4.1.n % 2 = 1)), .slice none 0 0, .map none].toArray 57 (0, 0))] :: L = L' ∧ RdAt H' 70 b_1 (rMany (decV 10 (decP fs_sStopReplicaRequestTopic v true) false true) k5 (rArr true x4.2).2).2 RN5 ∧ Row 65 5 a5 (lT x5.1).length c5 (es5.flatMap fk ++ reps [.string ⟨#[]⟩, .int .i32 0, .slice none 0 0, .slice none 0 0, .map none] ((lT x5.1).length - k5)) M5 ∧ es5.map (·.2) = (rMany (decV 10 (decP fs_sStopReplicaRequestTopic v true) false true) k5 (rArr true x4.2).2).1 ∧ ∀ p ∈ es5, At_StopReplicaRequestTopic H' p.2 (fk p)) [(2, .bool false), (7, .pointer (some ⟨b_1, 0, none⟩)), (8, .int .i16 v), (9, .bool (decide ((2 : Int) ≤ v))), (10, .pointer (some ⟨b, 0, none⟩)), (16, .slice none 0 0), (17, .slice a5 (lT x5.1).length c5), (18, .int .i32 (rArr true x4.2).1), (19, .int .i32 (0 : Int))] (.cons rfl (.cons rfl (.cons rfl (.cons rfl (.cons rfl (.cons rfl (.cons rfl (.cons rfl (.cons rfl (.nil _)))))))))) ⟨[], Nr5, _, rfl, rfl, (hR92.mono le_9), hr5, rfl, (fun p hp => by cases hp)⟩ (fun k5 l' H' L' hk5 le_10 hI => ?_))
          obtain ⟨es5, M5, RN5, rfl, rfl, hR_5, hw_5, he_5, hg_5⟩ := hI
          have hs_5 := els_len he_5
          have hp_5 : (es5.flatMap fk).length = k5 * 5 := els_flat hs_5
          refine sq ?_
          refine sr ?_
          refine mv rfl rfl ?_
          refine mv rfl rfl ?_
          refine lt rfl rfl rfl ?_
          refine nl ?_
          refine cd rfl (fun h106 => ?_) (fun h106 => ?_)
          · skip
            have hkl5 : k5 < (lT x5.1).length := by omega
            obtain ⟨g5, po5, hga5, rfl, hbk5⟩ := hw_5.next (zs := [.string ⟨#[]⟩, .int .i32 0, .slice none 0 0, .slice none 0 0, .map none]) hkl5 rfl (by decide)
            have ho5 : 0 + k5 * 5 = (es5.flatMap fk).length := by rw [hp_5]; omega
            have hbz5 : ((decV 10 (decP fs_sStopReplicaRequestTopic v true) false true) (rMany (decV 10 (decP fs_sStopReplicaRequestTopic v true) false true) k5 (rArr true x4.2).2).2).2.bad = true → (decP fs_StopReplicaRequest v true ⟨s, false, !a.isNone⟩).2.bad = true := fun h => hB5 (by rw [ex5]; exact rMany_mono (fun r h => decV_bad (fun r h => decP_bad _ _ _ r h) h) _ (show k5 + 1 ≤ (lT x5.1).length from hkl5) (by rw [rMany_succ]; exact h))
            have hLk5 : (rMany (decV 10 (decP fs_sStopReplicaRequestTopic v true) false true) k5 (rArr true x4.2).2).2.s.length ≤ BR := Nat.le_trans (rMany_shr (fun r => decV_shr (fun r => decP_shr _ _ _ r) r) _ _) hm5
            have hL5__ := hLk5
            obtain ⟨x5_0, hx5_0⟩ : ∃ x, x = stepF (Fd.mk 8 0 (-1) (-1) (-1) 0 0 []) v true (rMany (decV 10 (decP fs_sStopReplicaRequestTopic v true) false true) k5 (rArr true x4.2).2).2 := ⟨_, rfl⟩
            obtain ⟨x5_1, hx5_1⟩ : ∃ x, x = stepF (Fd.mk 3 0 0 (-1) (-1) 0 0 []) v true x5_0.2 := ⟨_, rfl⟩
            obtain ⟨x5_2, hx5_2⟩ : ∃ x, x = stepF (Fd.mk 11 1 2 (-1) (-1) 0 3 []) v true x5_1.2 := ⟨_, rfl⟩
            obtain ⟨x5_3, hx5_3⟩ : ∃ x, x = stepF (Fd.mk 11 3 (-1) (-1) (-1) 0 10 fs_sStopReplicaRequestTopicPartitionState) v true x5_2.2 := ⟨_, rfl⟩
            obtain ⟨u5_, hu5_⟩ : ∃ x, x = tailU true x5_3.2 := ⟨_, rfl⟩
            have hD5_ : decP fs_sStopReplicaRequestTopic v true (rMany (decV 10 (decP fs_sStopReplicaRequestTopic v true) false true) k5 (rArr true x4.2).2).2 = (.mk 0 [] false [x5_0.1, x5_1.1, x5_2.1, x5_3.1] u5_.1, u5_.2) := by
              generalize ((rMany (decV 10 (decP fs_sStopReplicaRequestTopic v true) false true) k5 (rArr true x4.2).2).2 : Rd) = r_ at hx5_0 ⊢
              rw [decP_eq]; unfold fs_sStopReplicaRequestTopic; simp only [decFs_cons, decFs_nil, ← hx5_0, ← hx5_1, ← hx5_2, ← hx5_3, ← hu5_]
            have hL5_0 : x5_0.2.s.length ≤ BR := by rw [hx5_0]; exact Nat.le_trans (stepF_shr _ _ _ _) hL5__
            have hL5_1 : x5_1.2.s.length ≤ BR := by rw [hx5_1]; exact Nat.le_trans (stepF_shr _ _ _ _) hL5_0
            have hL5_2 : x5_2.2.s.length ≤ BR := by rw [hx5_2]; exact Nat.le_trans (stepF_shr _ _ _ _) hL5_1
            have hL5_3 : x5_3.2.s.length ≤ BR := by rw [hx5_3]; exact Nat.le_trans (stepF_shr _ _ _ _) hL5_2
            have hE5_ : u5_.2.bad = true → (decP fs_StopReplicaRequest v true ⟨s, false, !a.isNone⟩).2.bad = true := fun h => hbz5 (by show (decP fs_sStopReplicaRequestTopic v true (rMany (decV 10 (decP fs_sStopReplicaRequestTopic v true) false true) k5 (rArr true x4.2).2).2).2.bad = true; rw [hD5_]; exact h)
            have hB5_3 : x5_3.2.bad = true → (decP fs_StopReplicaRequest v true ⟨s, false, !a.isNone⟩).2.bad = true := fun h => hE5_ (by rw [hu5_]; exact tailU_bad h)
            have hB5_2 : x5_2.2.bad = true → (decP fs_StopReplicaRequest v true ⟨s, false, !a.isNone⟩).2.bad = true := fun h => hB5_3 (by rw [hx5_3]; exact step_bad h)
            have hB5_1 : x5_1.2.bad = true → (decP fs_StopReplicaRequest v true ⟨s, false, !a.isNone⟩).2.bad = true := fun h => hB5_2 (by rw [hx5_2]; exact step_bad h)
            have hB5_0 : x5_0.2.bad = true → (decP fs_StopReplicaRequest v true ⟨s, false, !a.isNone⟩).2.bad = true := fun h => hB5_1 (by rw [hx5_1]; exact step_bad h)
            refine skt ?_
            refine sq ?_
            refine bl ?_
            refine sr ?_
            refine mv rfl rfl ?_
            refine mv rfl rfl ?_
            refine ixk (j := k5) Tryd.runUnderlying52 Tryd.sizeOf65 rfl hga5 rfl rfl hkl5 rfl ?_
            refine asg rfl rfl ?_
            refine nl ?_
            refine sr ?_
            refine mv rfl rfl ?_
            refine cl rfl rfl rfl (def_StopReplicaRequestTopic ho5) rfl (fun v_ H1 L1 hle_ hR_ => ?_)
            obtain ⟨rfl, rfl⟩ := hR_
            refine nl ?_
            refine sr ?_
            refine mv rfl rfl ?_
            refine asg rfl rfl ?_
            refine nl ?_
            refine sq ?_
            refine sr ?_
            refine asg rfl rfl ?_
            refine nl ?_
            refine sq ?_
            refine sr ?_
            refine mv rfl rfl ?_
            refine nl ?_
            refine cF rfl ?_
            refine sr ?_
            refine mv rfl rfl ?_
            refine nl ?_
            refine cdT rfl (by omega) ?_
            refine rg ?_
            refine tf (.tail .head) ?_
            have ex5_0 : x5_0 = decV 8 (decP [] v true) false true (rMany (decV 10 (decP fs_sStopReplicaRequestTopic v true) false true) k5 (rArr true x4.2).2).2 := (hx5_0.trans (step_yes (by decide) (show (0 : Int) ≤ v by omega) (Or.inl (by decide)))).trans (decF'_val (by decide) (rfl))
            refine cl rfl rfl rfl (d8t hR_5 ex5_0) rfl (fun v_ H1 L1 le_11 hR_ => ?_)
            obtain ⟨N120, rfl, hR120, rfl, rfl⟩ := hR_
            refine asg rfl rfl ?_
            refine nl ?_
            refine rg ?_
            refine mv rfl rfl ?_
            refine mv rfl rfl ?_
            refine nc rfl rfl ?_
            refine fa F65_0 rfl rfl ?_
            refine stM (off := 0) Tryd.sizeOf9 rfl (by rw [ho5]) rfl rfl rfl (.tail .head) ?_
            refine nl ?_
            refine sq ?_
            refine sr ?_
            refine mv rfl rfl ?_
            refine ge rfl rfl rfl ?_
            refine mv rfl rfl ?_
            refine spl (t := 128) rfl (fun _ => ?_) (fun hn_ => absurd (by omega) hn_)
            refine gr rfl rfl ?_
            refine mv rfl rfl ?_
            refine gr rfl rfl ?_
            refine le rfl rfl rfl ?_
            refine pk rfl rfl rfl rfl ?_
            refine nl ?_
            refine cdF rfl (by omega) ?_
            refine skt ?_
            refine sq ?_
            refine sr ?_
            refine mv rfl rfl ?_
            refine ge rfl rfl rfl ?_
            refine mv rfl rfl ?_
            refine spl (t := 139) rfl (fun _ => ?_) (fun hn_ => absurd (by omega) hn_)
            refine gr rfl rfl ?_
            refine mv rfl rfl ?_
            refine gr rfl rfl ?_
            refine le rfl rfl rfl ?_
            refine pk rfl rfl rfl rfl ?_
            refine nl ?_
            obtain rfl : x5_1 = ((Tr.mk 0 [] false [] []), x5_0.2) := (hx5_1.trans (step_no (Or.inr ⟨by decide, show (0 : Int) < v by omega⟩))).trans (by rw [dflF_eq]; rfl)
            refine cutT (fun l' H' L' => ∃ (a5_2 : Option Addr), ∃ (c5_2 : Nat), ∃ (Nj5_2 : Chunk), [(2, .bool false), (7, .pointer (some ⟨b_1, 0, none⟩)), (8, .int .i16 v), (9, .bool (decide ((2 : Int) ≤ v))), (10, .pointer (some ⟨b, 0, none⟩)), (16, .slice none 0 0), (17, .slice a5 (lT x5.1).length c5), (18, .int .i32 (rArr true x4.2).1), (19, .int .i32 (k5 : Int)), (21, .pointer (some ⟨g5, 0 + k5 * 5, none⟩))] = l' ∧ Nj5_2 :: [(g5, .cells ((es5.flatMap fk) ++ ([.string ⟨x5_0.1.s.toArray⟩, .int .i32 0, .slice a5_2 (lT x5_2.1).length c5_2, .slice none 0 0, .map none] : List Value) ++ po5).toArray 65 (0, 0))] :: [(b, .cells [.int .i16 v, .int .i32 (IntKind.i32.wrap x0.1.n), .int .i32 (IntKind.i32.wrap x1.1.n), .bool (decide (x2.1.n % 2 = 1)), .int .i64 x3.1.n, .bool (decide (x4.1.n % 2 = 1)), .slice none 0 0, .map none].toArray 57 (0, 0))] :: L = L' ∧ RdAt H' 70 b_1 x5_2.2 Nj5_2 ∧ ListAt H' x5_2.1 1 RI32 a5_2 c5_2) ?_ (fun l' H' L' le_12 hI => ?_)
            · skip
              refine cd rfl (fun h142 => ?_) (fun h142 => ?_)
              · skip
                refine sr ?_
                refine mv rfl rfl ?_
                refine nc rfl rfl ?_
                refine fa F65_2 rfl rfl ?_
                refine ld (j := 2) (off := 0 + k5 * 5) (Says.mid (.tail .head) ho5) Tryd.isAgg62 rfl rfl rfl rfl ?_
                refine asg rfl rfl ?_
                refine nl ?_
                refine sr ?_
                refine mv rfl rfl ?_
                refine asg rfl rfl ?_
                refine nl ?_
                refine sr ?_
                refine asg rfl rfl ?_
                refine nl ?_
                refine sq ?_
                refine sr ?_
                refine mv rfl rfl ?_
                refine nl ?_
                refine cdT rfl (by omega) ?_
                refine rg ?_
                have ey5_2 : x5_2 = (.mk 0 [] (if 0 ≤ ((-1) : Int) ∧ (v < ((-1) : Int) ∨ (rArr true x5_0.2).1 = 0) then false else decide ((rArr true x5_0.2).1 ≤ 0)) (rMany (decV 3 (decP [] v true) false true) (rArr true x5_0.2).1.toNat (rArr true x5_0.2).2).1 [], (rMany (decV 3 (decP [] v true) false true) (rArr true x5_0.2).1.toNat (rArr true x5_0.2).2).2) := (hx5_2.trans (step_yes (by decide) (show (1 : Int) ≤ v by omega) (Or.inr (show v ≤ (2 : Int) by omega)))).trans (decF'_list rfl rfl)
                have hn5_2 : (rArr true x5_0.2).1.toNat = (lT x5_2.1).length := by rw [ey5_2]; exact (lT_many nul_le).symm
                have ex5_2 := ey5_2
                rw [hn5_2] at ex5_2
                have hl5_2 := rArr_le true x5_0.2
                have hm5_2 : (rArr true x5_0.2).2.s.length ≤ BR := Nat.le_trans (rArr_len true x5_0.2) hL5_0
                have hnb5_2 : (lT x5_2.1).length ≤ BR := by omega
                refine cl rfl rfl rfl (r_arrt hR120) rfl (fun v_ H1 L1 hle_ hR_ => ?_)
                obtain ⟨rfl, N149, rfl, hR149, rfl⟩ := hR_
                have hh5_2 := rArr_hi true x5_0.2
                refine asg rfl rfl ?_
                refine nl ?_
                refine sq ?_
                refine sr ?_
                refine cl rfl rfl rfl (r_ok hR149) rfl (fun v_ H1 L1 hle_ hR_ => ?_)
                obtain ⟨rfl, rfl, rfl⟩ := hR_
                refine nt rfl rfl ?_
                refine nl ?_
                refine cb rfl (fun h152 => ?_) (fun h152 => ?_)
                · skip
                  have hbad_ : (rArr true x5_0.2).2.bad = true := by simpa using h152
                  refine sr ?_
                  refine cl rfl rfl rfl (r_complete hR149 (he.mono (le_4.trans (le_7.trans (le_9.trans le_10))))) rfl (fun v_ H1 L1 hle_ hR_ => ?_)
                  obtain ⟨rfl, rfl, rfl⟩ := hR_
                  refine asg rfl rfl ?_
                  refine nl ?_
                  refine drW .head ?_
                  refine drW .head ?_
                  exact rT rfl rfl (le_4.trans (le_7.trans (le_9.trans le_10))) (fun _ _ h => h) ⟨_, rfl, RdEnd.out (hB5_2 (by rw [ey5_2]; exact rMany_bad (fun r h => decV_bad (decP_bad _ _ _) h) _ _ hbad_)) hbad_⟩
                · skip
                  refine skt ?_
                  refine sr ?_
                  refine mv rfl rfl ?_
                  refine sh' (j := 0) Tryd.runUnderlying62 Tryd.sizeOf21 rfl rfl rfl (Nat.zero_le _) rfl ?_
                  refine asg rfl rfl ?_
                  refine nl ?_
                  refine sq ?_
                  refine sr ?_
                  refine mv rfl rfl ?_
                  refine gt rfl rfl rfl ?_
                  refine nl ?_
                  refine nulC2 ?_
                  refine cutT (fun l' H' L' => ∃ (a5_2 : Option Addr), ∃ (c5_2 : Nat), ∃ (Nr5_2 : Chunk), [(2, .bool false), (7, .pointer (some ⟨b_1, 0, none⟩)), (8, .int .i16 v), (9, .bool (decide ((2 : Int) ≤ v))), (10, .pointer (some ⟨b, 0, none⟩)), (16, .slice none 0 0), (17, .slice a5 (lT x5.1).length c5), (18, .int .i32 (rArr true x4.2).1), (19, .int .i32 (k5 : Int)), (21, .pointer (some ⟨g5, 0 + k5 * 5, none⟩)), (24, .slice none 0 0), (25, .slice a5_2 (lT x5_2.1).length c5_2), (26, .int .i32 (rArr true x5_0.2).1)] = l' ∧ Nr5_2 :: N149 :: [(g5, .cells ((es5.flatMap fk) ++ ([.string ⟨x5_0.1.s.toArray⟩, .int .i32 0, .slice none 0 0, .slice none 0 0, .map none] : List Value) ++ po5).toArray 65 (0, 0))] :: [(b, .cells [.int .i16 v, .int .i32 (IntKind.i32.wrap x0.1.n), .int .i32 (IntKind.i32.wrap x1.1.n), .bool (decide (x2.1.n % 2 = 1)), .int .i64 x3.1.n, .bool (decide (x4.1.n % 2 = 1)), .slice none 0 0, .map none].toArray 57 (0, 0))] :: L = L' ∧ Row 21 1 a5_2 (lT x5_2.1).length c5_2 (reps [.int .i32 0] (lT x5_2.1).length) Nr5_2 ∧ a5_2.isNone = (if 0 ≤ ((-1) : Int) ∧ (v < ((-1) : Int) ∨ (rArr true x5_0.2).1 = 0) then false else decide ((rArr true x5_0.2).1 ≤ 0))) ?_ (fun l' H' L' le_13 hI => ?_)
                  · skip
                    refine cd rfl (fun h157 => ?_) (fun h157 => ?_)
                    · skip
                      refine rg ?_
                      refine mv rfl rfl ?_
                      refine mv rfl rfl ?_
                      refine apz (zs := [.int .i32 0]) (m := (lT x5_2.1).length) Tryd.underlying62 Tryd.underlying21 I21 rfl rfl rfl (by omega) (by omega) (by have h9 := hnb5_2; unfold BR at h9; omega) (by have h9 := hnb5_2; unfold BR at h9; unfold maxLen; omega) rfl (fun g160 cp160 N160 r160 => ?_)
                      refine asg rfl rfl ?_
                      refine nN ?_
                      refine drN (.tail .head) ?_
                      refine fun a_ w_ hA hw => ⟨_, _, _, hA.sub ?_, (Fz.le.refl _), hw, (some ⟨g160, 0, none⟩), cp160, N160, rfl, rfl, r160, (by rw [if_neg (by omega)]; exact (decide_eq_false (by omega)).symm)⟩
                      exact (.cons rfl (.cons rfl (.cons rfl (.cons rfl (.cons rfl (.cons rfl (.cons rfl (.cons rfl (.cons rfl (.cons rfl (.cons rfl (.cons rfl (.cons rfl (.nil _))))))))))))))
                    · skip
                      refine skN ?_
                      refine fun a_ w_ hA hw => ⟨_, _, _, hA.sub ?_, (Fz.le.refl _), hw, none, 0, [], rfl, rfl, (by rw [show (lT x5_2.1).length = 0 by omega]; exact (Row.nil _ _)), (by rw [if_neg (by omega)]; exact (decide_eq_true (by omega)).symm)⟩
                      exact (.cons rfl (.cons rfl (.cons rfl (.cons rfl (.cons rfl (.cons rfl (.cons rfl (.cons rfl (.cons rfl (.cons rfl (.cons rfl (.cons (by rw [show (lT x5_2.1).length = 0 by omega]; rfl) (.cons rfl (.nil _))))))))))))))
                  · skip
                    obtain ⟨a5_2, c5_2, Nr5_2, rfl, rfl, pj0, pj1⟩ := hI
                    have hr5_2 := pj0
                    have hi5_2 := pj1
                    refine sq ?_
                    refine sr ?_
                    refine asg rfl rfl ?_
                    refine nl ?_
                    refine bl (lp ((lT x5_2.1).length) (fun k5_2 l' H' L' => ∃ (es5_2 : List (KE 1)) (M5_2 RN5_2 : Chunk), [(2, .bool false), (7, .pointer (some ⟨b_1, 0, none⟩)), (8, .int .i16 v), (9, .bool (decide ((2 : Int) ≤ v))), (10, .pointer (some ⟨b, 0, none⟩)), (16, .slice none 0 0), (17, .slice a5 (lT x5.1).length c5), (18, .int .i32 (rArr true x4.2).1), (19, .int .i32 (k5 : Int)), (21, .pointer (some ⟨g5, 0 + k5 * 5, none⟩)), (24, .slice none 0 0), (25, .slice a5_2 (lT x5_2.1).length c5_2), (26, .int .i32 (rArr true x5_0.2).1), (27, .int .i32 (k5_2 : Int))] = l' ∧ M5_2 :: RN5_2 :: [(g5, .cells ((es5.flatMap fk) ++ ([.string ⟨x5_0.1.s.toArray⟩, .int .i32 0, .slice none 0 0, .slice none 0 0, .map none] : List Value) ++ po5).toArray 65 (0, 0))] :: [(b, .cells [.int .i16 v, .int .i32 (IntKind.i32.wrap x0.1.n), .int .i32 (IntKind.i32.wrap x1.1.n), .bool (decide (x2.1.n % 2 = 1)), .int .i64 x3.1.n, .bool (decide (x4.1.n % 2 = 1)), .slice none 0 0, .map none].toArray 57 (0, 0))] :: L = L' ∧ RdAt H' 70 b_1 (rMany (decV 3 (decP [] v true) false true) k5_2 (rArr true x5_0.2).2).2 RN5_2 ∧ Row 21 1 a5_2 (lT x5_2.1).length c5_2 (es5_2.flatMap fk ++ reps [.int .i32 0] ((lT x5_2.1).length - k5_2)) M5_2 ∧ es5_2.map (·.2) = (rMany (decV 3 (decP [] v true) false true) k5_2 (rArr true x5_0.2).2).1 ∧ ∀ p ∈ es5_2, RI32 H' p.2 (fk p)) [(2, .bool false), (7, .pointer (some ⟨b_1, 0, none⟩)), (8, .int .i16 v), (9, .bool (decide ((2 : Int) ≤ v))), (10, .pointer (some ⟨b, 0, none⟩)), (16, .slice none 0 0), (17, .slice a5 (lT x5.1).length c5), (18, .int .i32 (rArr true x4.2).1), (19, .int .i32 (k5 : Int)), (21, .pointer (some ⟨g5, 0 + k5 * 5, none⟩)), (24, .slice none 0 0), (25, .slice a5_2 (lT x5_2.1).length c5_2), (26, .int .i32 (rArr true x5_0.2).1), (27, .int .i32 (0 : Int))] (.cons rfl (.cons rfl (.cons rfl (.cons rfl (.cons rfl (.cons rfl (.cons rfl (.cons rfl (.cons rfl (.cons rfl (.cons rfl (.cons rfl (.cons rfl (.cons rfl (.nil _))))))))))))))) ⟨[], Nr5_2, _, rfl, rfl, (hR149.mono le_13), hr5_2, rfl, (fun p hp => by cases hp)⟩ (fun k5_2 l' H' L' hk5_2 le_14 hI => ?_))
                    obtain ⟨es5_2, M5_2, RN5_2, rfl, rfl, hR_5_2, hw_5_2, he_5_2, hg_5_2⟩ := hI
                    have hs_5_2 := els_len he_5_2
                    have hp_5_2 : (es5_2.flatMap fk).length = k5_2 * 1 := els_flat hs_5_2
                    refine sq ?_
                    refine sr ?_
                    refine mv rfl rfl ?_
                    refine mv rfl rfl ?_
                    refine lt rfl rfl rfl ?_
                    refine nl ?_
                    refine cd rfl (fun h163 => ?_) (fun h163 => ?_)
                    · skip
                      have hkl5_2 : k5_2 < (lT x5_2.1).length := by omega
                      obtain ⟨g5_2, po5_2, hga5_2, rfl, hbk5_2⟩ := hw_5_2.next (zs := [.int .i32 0]) hkl5_2 rfl (by decide)
                      have ho5_2 : 0 + k5_2 * 1 = (es5_2.flatMap fk).length := by rw [hp_5_2]; omega
                      have hbz5_2 : ((decV 3 (decP [] v true) false true) (rMany (decV 3 (decP [] v true) false true) k5_2 (rArr true x5_0.2).2).2).2.bad = true → (decP fs_StopReplicaRequest v true ⟨s, false, !a.isNone⟩).2.bad = true := fun h => hB5_2 (by rw [ex5_2]; exact rMany_mono (fun r h => decV_bad (fun r h => decP_bad _ _ _ r h) h) _ (show k5_2 + 1 ≤ (lT x5_2.1).length from hkl5_2) (by rw [rMany_succ]; exact h))
                      have hLk5_2 : (rMany (decV 3 (decP [] v true) false true) k5_2 (rArr true x5_0.2).2).2.s.length ≤ BR := Nat.le_trans (rMany_shr (fun r => decV_shr (fun r => decP_shr _ _ _ r) r) _ _) hm5_2
                      obtain ⟨y5_2, hy5_2⟩ : ∃ x, x = (decV 3 (decP [] v true) false true) (rMany (decV 3 (decP [] v true) false true) k5_2 (rArr true x5_0.2).2).2 := ⟨_, rfl⟩
                      refine skt ?_
                      refine sq ?_
                      refine bl ?_
                      refine sr ?_
                      refine tf (.tail .head) ?_
                      refine cl rfl rfl rfl (d3 hR_5_2 hy5_2) rfl (fun v_ H1 L1 hle_ hR_ => ?_)
                      obtain ⟨N166, rfl, hR166, rfl, rfl⟩ := hR_
                      refine asg rfl rfl ?_
                      refine nl ?_
                      refine rg ?_
                      refine mv rfl rfl ?_
                      refine mv rfl rfl ?_
                      refine mv rfl rfl ?_
                      refine ixk (j := k5_2) Tryd.runUnderlying62 Tryd.sizeOf21 rfl hga5_2 rfl rfl hkl5_2 rfl ?_
                      refine stM (off := 0) Tryd.sizeOf21 rfl ho5_2 rfl rfl rfl (.tail .head) ?_
                      refine nN ?_
                      refine Nb ?_
                      refine Nt ?_
                      refine rg ?_
                      refine mv rfl rfl ?_
                      refine ad rfl rfl (c := ((k5_2 + 1 : Nat) : Int)) ((wrap32_le (by omega) (by omega)).trans (by omega)) rfl ?_
                      refine asg rfl rfl ?_
                      refine nN ?_
                      have hfs5_2 := flatMap_snoc' fk es5_2 ((⟨([.int .i32 (IntKind.i32.wrap y5_2.1.n)] : List Value), rfl, all_one rfl⟩, ((decV 3 (decP [] v true) false true) (rMany (decV 3 (decP [] v true) false true) k5_2 (rArr true x5_0.2).2).2).1) : KE 1)
                      have hrw5_2 := hbk5_2 ([.int .i32 (IntKind.i32.wrap y5_2.1.n)] : List Value) rfl
                      refine tfN (.tail .head) ?_
                      refine fun a_ w_ hA hw => ⟨hkl5_2, _, _, _, hA.sub ?_, le_14, hw, _, _, _, rfl, rfl, (by rw [rMany_succ, ← hy5_2]; exact hR166), (by rw [← hfs5_2]; exact hrw5_2), (dec_els he_5_2), (fun p hp => (mem_snoc hp).elim (fun h => RI32.mono _ _ _ _ (Fz.le.refl _) (hg_5_2 p h)) (fun h => h ▸ (by show RI32 _ ((decV 3 (decP [] v true) false true) (rMany (decV 3 (decP [] v true) false true) k5_2 (rArr true x5_0.2).2).2).1 [.int .i32 (IntKind.i32.wrap y5_2.1.n)]; rw [← hy5_2]; rfl)))⟩
                      exact (.cons rfl (.cons rfl (.cons rfl (.cons rfl (.cons rfl (.cons rfl (.cons rfl (.cons rfl (.cons rfl (.cons rfl (.cons rfl (.cons rfl (.cons rfl (.cons rfl (.nil _)))))))))))))))
                    · skip
                      have hkn_ : k5_2 = (lT x5_2.1).length := by omega
                      subst hkn_
                      have hw2_5_2 : Row 21 1 a5_2 (lT x5_2.1).length c5_2 (es5_2.flatMap fk) M5_2 := by have h := hw_5_2; rw [Nat.sub_self] at h; simpa [reps] using h
                      refine frW hw2_5_2 .head (fun Hf5_2 hlf5_2 hfz5_2 => ?_)
                      have hrs5_2 := RowsAt.row (R := RI32) hfz5_2 hs_5_2.symm hw2_5_2.le.1 (fun p hp => RI32.mono _ _ _ _ hlf5_2 (hg_5_2 p hp))
                      rw [he_5_2] at hrs5_2
                      have hf5_2 : ListAt Hf5_2 x5_2.1 1 RI32 a5_2 c5_2 := by rw [ex5_2]; exact listAt_of hrs5_2 hi5_2 (fun h => by have h1 := nul_le h; rw [show (lT x5_2.1).length = 0 by omega]; rfl)
                      have hRx5_2 : RdAt Hf5_2 70 b_1 x5_2.2 RN5_2 := by rw [ex5_2]; exact (hR_5_2.mono hlf5_2)
                      refine exX ?_
                      refine XT ?_
                      refine XT ?_
                      refine Xb ?_
                      refine Nt ?_
                      refine sr ?_
                      refine mv rfl rfl ?_
                      refine asg rfl rfl ?_
                      refine nl ?_
                      refine rg ?_
                      refine mv rfl rfl ?_
                      refine mv rfl rfl ?_
                      refine nc rfl rfl ?_
                      refine fa F65_2 rfl rfl ?_
                      refine stM (off := 2) Tryd.sizeOf62 rfl (by rw [ho5]) rfl rfl rfl (.tail .head) ?_
                      refine nN ?_
                      refine fun a_ w_ hA hw => ⟨_, _, _, hA.sub ?_, (le_13.trans (le_14.trans hlf5_2)), hw, a5_2, c5_2, RN5_2, rfl, rfl, hRx5_2, hf5_2⟩
                      exact (.cons rfl (.cons rfl (.cons rfl (.cons rfl (.cons rfl (.cons rfl (.cons rfl (.cons rfl (.cons rfl (.cons rfl (.nil _)))))))))))
              · skip
                refine skN ?_
                obtain rfl : x5_2 = ((Tr.mk 0 [] true [] []), x5_0.2) := (hx5_2.trans (step_no (Or.inr ⟨by decide, show (2 : Int) < v by omega⟩))).trans (by rw [dflF_eq]; rfl)
                refine fun a_ w_ hA hw => ⟨_, _, _, hA.sub ?_, (Fz.le.refl _), hw, none, 0, N120, rfl, rfl, hR120, (ListAt.none rfl)⟩
                exact (.cons rfl (.cons rfl (.cons rfl (.cons rfl (.cons rfl (.cons rfl (.cons rfl (.cons rfl (.cons rfl (.cons rfl (.nil _)))))))))))
            · skip
              obtain ⟨a5_2, c5_2, Nj5_2, rfl, rfl, pj0, pj1⟩ := hI
              have hRj5_2 := pj0
              have hf5_2 := pj1
              refine sq ?_
              refine sr ?_
              refine mv rfl rfl ?_
              refine ge rfl rfl rfl ?_
              refine nl ?_
              refine cutT (fun l' H' L' => ∃ (a5_3 : Option Addr), ∃ (c5_3 : Nat), ∃ (Nj5_3 : Chunk), [(2, .bool false), (7, .pointer (some ⟨b_1, 0, none⟩)), (8, .int .i16 v), (9, .bool (decide ((2 : Int) ≤ v))), (10, .pointer (some ⟨b, 0, none⟩)), (16, .slice none 0 0), (17, .slice a5 (lT x5.1).length c5), (18, .int .i32 (rArr true x4.2).1), (19, .int .i32 (k5 : Int)), (21, .pointer (some ⟨g5, 0 + k5 * 5, none⟩))] = l' ∧ Nj5_3 :: [(g5, .cells ((es5.flatMap fk) ++ ([.string ⟨x5_0.1.s.toArray⟩, .int .i32 0, .slice a5_2 (lT x5_2.1).length c5_2, .slice a5_3 (lT x5_3.1).length c5_3, .map none] : List Value) ++ po5).toArray 65 (0, 0))] :: [(b, .cells [.int .i16 v, .int .i32 (IntKind.i32.wrap x0.1.n), .int .i32 (IntKind.i32.wrap x1.1.n), .bool (decide (x2.1.n % 2 = 1)), .int .i64 x3.1.n, .bool (decide (x4.1.n % 2 = 1)), .slice none 0 0, .map none].toArray 57 (0, 0))] :: L = L' ∧ RdAt H' 70 b_1 x5_3.2 Nj5_3 ∧ ListAt H' x5_3.1 4 At_StopReplicaRequestTopicPartitionState a5_3 c5_3) ?_ (fun l' H' L' le_16 hI => ?_)
              · skip
                refine cd rfl (fun h177 => ?_) (fun h177 => ?_)
                · skip
                  refine sr ?_
                  refine mv rfl rfl ?_
                  refine nc rfl rfl ?_
                  refine fa F65_3 rfl rfl ?_
                  refine ld (j := 3) (off := 0 + k5 * 5) (Says.mid (.tail .head) ho5) Tryd.isAgg63 rfl rfl rfl rfl ?_
                  refine asg rfl rfl ?_
                  refine nl ?_
                  refine sr ?_
                  refine mv rfl rfl ?_
                  refine asg rfl rfl ?_
                  refine nl ?_
                  refine sr ?_
                  refine asg rfl rfl ?_
                  refine nl ?_
                  refine sq ?_
                  refine sr ?_
                  refine mv rfl rfl ?_
                  refine nl ?_
                  refine cdT rfl (by omega) ?_
                  refine rg ?_
                  have ey5_3 : x5_3 = (.mk 0 [] (if 0 ≤ ((-1) : Int) ∧ (v < ((-1) : Int) ∨ (rArr true x5_2.2).1 = 0) then false else decide ((rArr true x5_2.2).1 ≤ 0)) (rMany (decV 10 (decP fs_sStopReplicaRequestTopicPartitionState v true) false true) (rArr true x5_2.2).1.toNat (rArr true x5_2.2).2).1 [], (rMany (decV 10 (decP fs_sStopReplicaRequestTopicPartitionState v true) false true) (rArr true x5_2.2).1.toNat (rArr true x5_2.2).2).2) := (hx5_3.trans (step_yes (by decide) (show (3 : Int) ≤ v by omega) (Or.inl (by decide)))).trans (decF'_list rfl rfl)
                  have hn5_3 : (rArr true x5_2.2).1.toNat = (lT x5_3.1).length := by rw [ey5_3]; exact (lT_many nul_le).symm
                  have ex5_3 := ey5_3
                  rw [hn5_3] at ex5_3
                  have hl5_3 := rArr_le true x5_2.2
                  have hm5_3 : (rArr true x5_2.2).2.s.length ≤ BR := Nat.le_trans (rArr_len true x5_2.2) hL5_2
                  have hnb5_3 : (lT x5_3.1).length ≤ BR := by omega
                  refine cl rfl rfl rfl (r_arrt hRj5_2) rfl (fun v_ H1 L1 hle_ hR_ => ?_)
                  obtain ⟨rfl, N184, rfl, hR184, rfl⟩ := hR_
                  have hh5_3 := rArr_hi true x5_2.2
                  refine asg rfl rfl ?_
                  refine nl ?_
                  refine sq ?_
                  refine sr ?_
                  refine cl rfl rfl rfl (r_ok hR184) rfl (fun v_ H1 L1 hle_ hR_ => ?_)
                  obtain ⟨rfl, rfl, rfl⟩ := hR_
                  refine nt rfl rfl ?_
                  refine nl ?_
                  refine cb rfl (fun h187 => ?_) (fun h187 => ?_)
                  · skip
                    have hbad_ : (rArr true x5_2.2).2.bad = true := by simpa using h187
                    refine sr ?_
                    refine cl rfl rfl rfl (r_complete hR184 (he.mono (le_4.trans (le_7.trans (le_9.trans (le_10.trans le_12)))))) rfl (fun v_ H1 L1 hle_ hR_ => ?_)
                    obtain ⟨rfl, rfl, rfl⟩ := hR_
                    refine asg rfl rfl ?_
                    refine nl ?_
                    refine drW .head ?_
                    refine drW .head ?_
                    exact rT rfl rfl (le_4.trans (le_7.trans (le_9.trans (le_10.trans le_12)))) (fun _ _ h => h) ⟨_, rfl, RdEnd.out (hB5_3 (by rw [ey5_3]; exact rMany_bad (fun r h => decV_bad (decP_bad _ _ _) h) _ _ hbad_)) hbad_⟩
                  · skip
                    refine skt ?_
                    refine sr ?_
                    refine mv rfl rfl ?_
                    refine sh' (j := 0) Tryd.runUnderlying63 Tryd.sizeOf78 rfl rfl rfl (Nat.zero_le _) rfl ?_
                    refine asg rfl rfl ?_
                    refine nl ?_
                    refine sq ?_
                    refine sr ?_
                    refine mv rfl rfl ?_
                    refine gt rfl rfl rfl ?_
                    refine nl ?_
                    refine nulC2 ?_
                    refine cutT (fun l' H' L' => ∃ (a5_3 : Option Addr), ∃ (c5_3 : Nat), ∃ (Nr5_3 : Chunk), [(2, .bool false), (7, .pointer (some ⟨b_1, 0, none⟩)), (8, .int .i16 v), (9, .bool (decide ((2 : Int) ≤ v))), (10, .pointer (some ⟨b, 0, none⟩)), (16, .slice none 0 0), (17, .slice a5 (lT x5.1).length c5), (18, .int .i32 (rArr true x4.2).1), (19, .int .i32 (k5 : Int)), (21, .pointer (some ⟨g5, 0 + k5 * 5, none⟩)), (29, .slice none 0 0), (30, .slice a5_3 (lT x5_3.1).length c5_3), (31, .int .i32 (rArr true x5_2.2).1)] = l' ∧ Nr5_3 :: N184 :: [(g5, .cells ((es5.flatMap fk) ++ ([.string ⟨x5_0.1.s.toArray⟩, .int .i32 0, .slice a5_2 (lT x5_2.1).length c5_2, .slice none 0 0, .map none] : List Value) ++ po5).toArray 65 (0, 0))] :: [(b, .cells [.int .i16 v, .int .i32 (IntKind.i32.wrap x0.1.n), .int .i32 (IntKind.i32.wrap x1.1.n), .bool (decide (x2.1.n % 2 = 1)), .int .i64 x3.1.n, .bool (decide (x4.1.n % 2 = 1)), .slice none 0 0, .map none].toArray 57 (0, 0))] :: L = L' ∧ Row 78 4 a5_3 (lT x5_3.1).length c5_3 (reps [.int .i32 0, .int .i32 0, .bool false, .map none] (lT x5_3.1).length) Nr5_3 ∧ a5_3.isNone = (if 0 ≤ ((-1) : Int) ∧ (v < ((-1) : Int) ∨ (rArr true x5_2.2).1 = 0) then false else decide ((rArr true x5_2.2).1 ≤ 0))) ?_ (fun l' H' L' le_17 hI => ?_)
                    · skip
                      refine cd rfl (fun h192 => ?_) (fun h192 => ?_)
                      · skip
                        refine rg ?_
                        refine mv rfl rfl ?_
                        refine mv rfl rfl ?_
                        refine apz (zs := [.int .i32 0, .int .i32 0, .bool false, .map none]) (m := (lT x5_3.1).length) Tryd.underlying63 Tryd.underlying21 I78 rfl rfl rfl (by omega) (by omega) (by have h9 := hnb5_3; unfold BR at h9; omega) (by have h9 := hnb5_3; unfold BR at h9; unfold maxLen; omega) rfl (fun g195 cp195 N195 r195 => ?_)
                        refine asg rfl rfl ?_
                        refine nN ?_
                        refine drN (.tail .head) ?_
                        refine fun a_ w_ hA hw => ⟨_, _, _, hA.sub ?_, (Fz.le.refl _), hw, (some ⟨g195, 0, none⟩), cp195, N195, rfl, rfl, r195, (by rw [if_neg (by omega)]; exact (decide_eq_false (by omega)).symm)⟩
                        exact (.cons rfl (.cons rfl (.cons rfl (.cons rfl (.cons rfl (.cons rfl (.cons rfl (.cons rfl (.cons rfl (.cons rfl (.cons rfl (.cons rfl (.cons rfl (.nil _))))))))))))))
                      · skip
                        refine skN ?_
                        refine fun a_ w_ hA hw => ⟨_, _, _, hA.sub ?_, (Fz.le.refl _), hw, none, 0, [], rfl, rfl, (by rw [show (lT x5_3.1).length = 0 by omega]; exact (Row.nil _ _)), (by rw [if_neg (by omega)]; exact (decide_eq_true (by omega)).symm)⟩
                        exact (.cons rfl (.cons rfl (.cons rfl (.cons rfl (.cons rfl (.cons rfl (.cons rfl (.cons rfl (.cons rfl (.cons rfl (.cons rfl (.cons (by rw [show (lT x5_3.1).length = 0 by omega]; rfl) (.cons rfl (.nil _))))))))))))))
                    · skip
                      obtain ⟨a5_3, c5_3, Nr5_3, rfl, rfl, pj0, pj1⟩ := hI
                      have hr5_3 := pj0
                      have hi5_3 := pj1
                      refine sq ?_
                      refine sr ?_
                      refine asg rfl rfl ?_
                      refine nl ?_
                      refine bl (lp ((lT x5_3.1).length) (fun k5_3 l' H' L' => ∃ (es5_3 : List (KE 4)) (M5_3 RN5_3 : Chunk), [(2, .bool false), (7, .pointer (some ⟨b_1, 0, none⟩)), (8, .int .i16 v), (9, .bool (decide ((2 : Int) ≤ v))), (10, .pointer (some ⟨b, 0, none⟩)), (16, .slice none 0 0), (17, .slice a5 (lT x5.1).length c5), (18, .int .i32 (rArr true x4.2).1), (19, .int .i32 (k5 : Int)), (21, .pointer (some ⟨g5, 0 + k5 * 5, none⟩)), (29, .slice none 0 0), (30, .slice a5_3 (lT x5_3.1).length c5_3), (31, .int .i32 (rArr true x5_2.2).1), (32, .int .i32 (k5_3 : Int))] = l' ∧ M5_3 :: RN5_3 :: [(g5, .cells ((es5.flatMap fk) ++ ([.string ⟨x5_0.1.s.toArray⟩, .int .i32 0, .slice a5_2 (lT x5_2.1).length c5_2, .slice none 0 0, .map none] : List Value) ++ po5).toArray 65 (0, 0))] :: [(b, .cells [.int .i16 v, .int .i32 (IntKind.i32.wrap x0.1.n), .int .i32 (IntKind.i32.wrap x1.1.n), .bool (decide (x2.1.n % 2 = 1)), .int .i64 x3.1.n, .bool (decide (x4.1.n % 2 = 1)), .slice none 0 0, .map none].toArray 57 (0, 0))] :: L = L' ∧ RdAt H' 70 b_1 (rMany (decV 10 (decP fs_sStopReplicaRequestTopicPartitionState v true) false true) k5_3 (rArr true x5_2.2).2).2 RN5_3 ∧ Row 78 4 a5_3 (lT x5_3.1).length c5_3 (es5_3.flatMap fk ++ reps [.int .i32 0, .int .i32 0, .bool false, .map none] ((lT x5_3.1).length - k5_3)) M5_3 ∧ es5_3.map (·.2) = (rMany (decV 10 (decP fs_sStopReplicaRequestTopicPartitionState v true) false true) k5_3 (rArr true x5_2.2).2).1 ∧ ∀ p ∈ es5_3, At_StopReplicaRequestTopicPartitionState H' p.2 (fk p)) [(2, .bool false), (7, .pointer (some ⟨b_1, 0, none⟩)), (8, .int .i16 v), (9, .bool (decide ((2 : Int) ≤ v))), (10, .pointer (some ⟨b, 0, none⟩)), (16, .slice none 0 0), (17, .slice a5 (lT x5.1).length c5), (18, .int .i32 (rArr true x4.2).1), (19, .int .i32 (k5 : Int)), (21, .pointer (some ⟨g5, 0 + k5 * 5, none⟩)), (29, .slice none 0 0), (30, .slice a5_3 (lT x5_3.1).length c5_3), (31, .int .i32 (rArr true x5_2.2).1), (32, .int .i32 (0 : Int))] (.cons rfl (.cons rfl (.cons rfl (.cons rfl (.cons rfl (.cons rfl (.cons rfl (.cons rfl (.cons rfl (.cons rfl (.cons rfl (.cons rfl (.cons rfl (.cons rfl (.nil _))))))))))))))) ⟨[], Nr5_3, _, rfl, rfl, (hR184.mono le_17), hr5_3, rfl, (fun p hp => by cases hp)⟩ (fun k5_3 l' H' L' hk5_3 le_18 hI => ?_))
                      obtain ⟨es5_3, M5_3, RN5_3, rfl, rfl, hR_5_3, hw_5_3, he_5_3, hg_5_3⟩ := hI
                      have hs_5_3 := els_len he_5_3
                      have hp_5_3 : (es5_3.flatMap fk).length = k5_3 * 4 := els_flat hs_5_3
                      refine sq ?_
                      refine sr ?_
                      refine mv rfl rfl ?_
                      refine mv rfl rfl ?_
                      refine lt rfl rfl rfl ?_
                      refine nl ?_
                      refine cd rfl (fun h198 => ?_) (fun h198 => ?_)
                      · skip
                        have hkl5_3 : k5_3 < (lT x5_3.1).length := by omega
                        obtain ⟨g5_3, po5_3, hga5_3, rfl, hbk5_3⟩ := hw_5_3.next (zs := [.int .i32 0, .int .i32 0, .bool false, .map none]) hkl5_3 rfl (by decide)
                        have ho5_3 : 0 + k5_3 * 4 = (es5_3.flatMap fk).length := by rw [hp_5_3]; omega
                        have hbz5_3 : ((decV 10 (decP fs_sStopReplicaRequestTopicPartitionState v true) false true) (rMany (decV 10 (decP fs_sStopReplicaRequestTopicPartitionState v true) false true) k5_3 (rArr true x5_2.2).2).2).2.bad = true → (decP fs_StopReplicaRequest v true ⟨s, false, !a.isNone⟩).2.bad = true := fun h => hB5_3 (by rw [ex5_3]; exact rMany_mono (fun r h => decV_bad (fun r h => decP_bad _ _ _ r h) h) _ (show k5_3 + 1 ≤ (lT x5_3.1).length from hkl5_3) (by rw [rMany_succ]; exact h))
                        have hLk5_3 : (rMany (decV 10 (decP fs_sStopReplicaRequestTopicPartitionState v true) false true) k5_3 (rArr true x5_2.2).2).2.s.length ≤ BR := Nat.le_trans (rMany_shr (fun r => decV_shr (fun r => decP_shr _ _ _ r) r) _ _) hm5_3
                        have hL5_3__ := hLk5_3
                        obtain ⟨x5_3_0, hx5_3_0⟩ : ∃ x, x = stepF (Fd.mk 3 0 (-1) (-1) (-1) 0 0 []) v true (rMany (decV 10 (decP fs_sStopReplicaRequestTopicPartitionState v true) false true) k5_3 (rArr true x5_2.2).2).2 := ⟨_, rfl⟩
                        obtain ⟨x5_3_1, hx5_3_1⟩ : ∃ x, x = stepF (Fd.mk 3 0 (-1) (-1) (-1) (-1) 0 []) v true x5_3_0.2 := ⟨_, rfl⟩
                        obtain ⟨x5_3_2, hx5_3_2⟩ : ∃ x, x = stepF (Fd.mk 0 0 (-1) (-1) (-1) 0 0 []) v true x5_3_1.2 := ⟨_, rfl⟩
                        obtain ⟨u5_3_, hu5_3_⟩ : ∃ x, x = tailU true x5_3_2.2 := ⟨_, rfl⟩
                        have hD5_3_ : decP fs_sStopReplicaRequestTopicPartitionState v true (rMany (decV 10 (decP fs_sStopReplicaRequestTopicPartitionState v true) false true) k5_3 (rArr true x5_2.2).2).2 = (.mk 0 [] false [x5_3_0.1, x5_3_1.1, x5_3_2.1] u5_3_.1, u5_3_.2) := by
                          generalize ((rMany (decV 10 (decP fs_sStopReplicaRequestTopicPartitionState v true) false true) k5_3 (rArr true x5_2.2).2).2 : Rd) = r_ at hx5_3_0 ⊢
                          rw [decP_eq]; unfold fs_sStopReplicaRequestTopicPartitionState; simp only [decFs_cons, decFs_nil, ← hx5_3_0, ← hx5_3_1, ← hx5_3_2, ← hu5_3_]
                        have hL5_3_0 : x5_3_0.2.s.length ≤ BR := by rw [hx5_3_0]; exact Nat.le_trans (stepF_shr _ _ _ _) hL5_3__
                        have hL5_3_1 : x5_3_1.2.s.length ≤ BR := by rw [hx5_3_1]; exact Nat.le_trans (stepF_shr _ _ _ _) hL5_3_0
                        have hL5_3_2 : x5_3_2.2.s.length ≤ BR := by rw [hx5_3_2]; exact Nat.le_trans (stepF_shr _ _ _ _) hL5_3_1
                        have hE5_3_ : u5_3_.2.bad = true → (decP fs_StopReplicaRequest v true ⟨s, false, !a.isNone⟩).2.bad = true := fun h => hbz5_3 (by show (decP fs_sStopReplicaRequestTopicPartitionState v true (rMany (decV 10 (decP fs_sStopReplicaRequestTopicPartitionState v true) false true) k5_3 (rArr true x5_2.2).2).2).2.bad = true; rw [hD5_3_]; exact h)
                        have hB5_3_2 : x5_3_2.2.bad = true → (decP fs_StopReplicaRequest v true ⟨s, false, !a.isNone⟩).2.bad = true := fun h => hE5_3_ (by rw [hu5_3_]; exact tailU_bad h)
                        have hB5_3_1 : x5_3_1.2.bad = true → (decP fs_StopReplicaRequest v true ⟨s, false, !a.isNone⟩).2.bad = true := fun h => hB5_3_2 (by rw [hx5_3_2]; exact step_bad h)
                        have hB5_3_0 : x5_3_0.2.bad = true → (decP fs_StopReplicaRequest v true ⟨s, false, !a.isNone⟩).2.bad = true := fun h => hB5_3_1 (by rw [hx5_3_1]; exact step_bad h)
                        refine skt ?_
                        refine sq ?_
                        refine bl ?_
                        refine sr ?_
                        refine mv rfl rfl ?_
                        refine mv rfl rfl ?_
                        refine ixk (j := k5_3) Tryd.runUnderlying63 Tryd.sizeOf78 rfl hga5_3 rfl rfl hkl5_3 rfl ?_
                        refine asg rfl rfl ?_
                        refine nl ?_
                        refine sr ?_
                        refine mv rfl rfl ?_
                        refine cl rfl rfl rfl (def_StopReplicaRequestTopicPartitionState ho5_3) rfl (fun v_ H1 L1 hle_ hR_ => ?_)
                        obtain ⟨rfl, rfl⟩ := hR_
                        refine nl ?_
                        refine sr ?_
                        refine mv rfl rfl ?_
                        refine asg rfl rfl ?_
                        refine nl ?_
                        refine sq ?_
                        refine sr ?_
                        refine tf (.tail .head) ?_
                        have ex5_3_0 : x5_3_0 = decV 3 (decP [] v true) false true (rMany (decV 10 (decP fs_sStopReplicaRequestTopicPartitionState v true) false true) k5_3 (rArr true x5_2.2).2).2 := (hx5_3_0.trans (step_yes (by decide) (show (0 : Int) ≤ v by omega) (Or.inl (by decide)))).trans (decF'_val (by decide) (rfl))
                        refine cl rfl rfl rfl (d3 hR_5_3 ex5_3_0) rfl (fun v_ H1 L1 hle_ hR_ => ?_)
                        obtain ⟨N207, rfl, hR207, rfl, rfl⟩ := hR_
                        refine asg rfl rfl ?_
                        refine nl ?_
                        refine rg ?_
                        refine mv rfl rfl ?_
                        refine mv rfl rfl ?_
                        refine nc rfl rfl ?_
                        refine fa F78_0 rfl rfl ?_
                        refine stM (off := 0) Tryd.sizeOf21 rfl (by rw [ho5_3]) rfl rfl rfl (.tail .head) ?_
                        refine nl ?_
                        refine sq ?_
                        refine sr ?_
                        have ex5_3_1 : x5_3_1 = decV 3 (decP [] v true) false true x5_3_0.2 := (hx5_3_1.trans (step_yes (by decide) (show (0 : Int) ≤ v by omega) (Or.inl (by decide)))).trans (decF'_val (by decide) (rfl))
                        refine cl rfl rfl rfl (d3 hR207 ex5_3_1) rfl (fun v_ H1 L1 hle_ hR_ => ?_)
                        obtain ⟨N212, rfl, hR212, rfl, rfl⟩ := hR_
                        refine asg rfl rfl ?_
                        refine nl ?_
                        refine rg ?_
                        refine mv rfl rfl ?_
                        refine mv rfl rfl ?_
                        refine nc rfl rfl ?_
                        refine fa F78_1 rfl rfl ?_
                        refine stM (off := 1) Tryd.sizeOf21 rfl (by rw [ho5_3]) rfl rfl rfl (.tail .head) ?_
                        refine nl ?_
                        refine sq ?_
                        refine sr ?_
                        have ex5_3_2 : x5_3_2 = decV 0 (decP [] v true) false true x5_3_1.2 := (hx5_3_2.trans (step_yes (by decide) (show (0 : Int) ≤ v by omega) (Or.inl (by decide)))).trans (decF'_val (by decide) (rfl))
                        refine cl rfl rfl rfl (d0 hR212 ex5_3_2) rfl (fun v_ H1 L1 hle_ hR_ => ?_)
                        obtain ⟨N217, rfl, hR217, rfl, rfl⟩ := hR_
                        refine asg rfl rfl ?_
                        refine nl ?_
                        refine rg ?_
                        refine mv rfl rfl ?_
                        refine mv rfl rfl ?_
                        refine nc rfl rfl ?_
                        refine fa F78_2 rfl rfl ?_
                        refine stM (off := 2) Tryd.sizeOf4 rfl (by rw [ho5_3]) rfl rfl rfl (.tail .head) ?_
                        refine nl ?_
                        refine sr ?_
                        refine mv rfl rfl ?_
                        refine nl ?_
                        refine cdT rfl (by omega) ?_
                        refine rg ?_
                        refine mv rfl rfl ?_
                        refine cl rfl rfl rfl (d_tags hR217) rfl (fun v_ H1 L1 le_22 hR_ => ?_)
                        obtain ⟨N224, rfl, hR224, m5_3_t, rfl, hft5_3_⟩ := hR_
                        have hu25_3_ : u5_3_ = rTags x5_3_2.2 := hu5_3_
                        rw [← hu25_3_] at hR224 hft5_3_
                        refine nc rfl rfl ?_
                        refine fa F78_3 rfl rfl ?_
                        refine saM (off := 3) Tryd.sizeOf55 rfl (by rw [ho5_3]) rfl rfl rfl rfl (.tail .head) ?_
                        refine nN ?_
                        refine Nb ?_
                        refine Nt ?_
                        refine rg ?_
                        refine mv rfl rfl ?_
                        refine ad rfl rfl (c := ((k5_3 + 1 : Nat) : Int)) ((wrap32_le (by omega) (by omega)).trans (by omega)) rfl ?_
                        refine asg rfl rfl ?_
                        refine nN ?_
                        have hfs5_3 := flatMap_snoc' fk es5_3 ((⟨([.int .i32 (IntKind.i32.wrap x5_3_0.1.n), .int .i32 (IntKind.i32.wrap x5_3_1.1.n), .bool (decide (x5_3_2.1.n % 2 = 1)), .map m5_3_t] : List Value), rfl, all_one rfl⟩, ((decV 10 (decP fs_sStopReplicaRequestTopicPartitionState v true) false true) (rMany (decV 10 (decP fs_sStopReplicaRequestTopicPartitionState v true) false true) k5_3 (rArr true x5_2.2).2).2).1) : KE 4)
                        have hrw5_3 := hbk5_3 ([.int .i32 (IntKind.i32.wrap x5_3_0.1.n), .int .i32 (IntKind.i32.wrap x5_3_1.1.n), .bool (decide (x5_3_2.1.n % 2 = 1)), .map m5_3_t] : List Value) rfl
                        refine tfN (.tail .head) ?_
                        refine fun a_ w_ hA hw => ⟨hkl5_3, _, _, _, hA.sub ?_, (le_18.trans le_22), hw, _, _, _, rfl, rfl, (by rw [rMany_succ]; show RdAt _ 70 b_1 (decP fs_sStopReplicaRequestTopicPartitionState v true (rMany (decV 10 (decP fs_sStopReplicaRequestTopicPartitionState v true) false true) k5_3 (rArr true x5_2.2).2).2).2 _; rw [hD5_3_]; exact hR224), (by rw [← hfs5_3]; exact hrw5_3), (dec_els he_5_3), (fun p hp => (mem_snoc hp).elim (fun h => At_StopReplicaRequestTopicPartitionState.mono _ _ _ _ le_22 (hg_5_3 p h)) (fun h => h ▸ (by show At_StopReplicaRequestTopicPartitionState _ (decP fs_sStopReplicaRequestTopicPartitionState v true (rMany (decV 10 (decP fs_sStopReplicaRequestTopicPartitionState v true) false true) k5_3 (rArr true x5_2.2).2).2).1 [.int .i32 (IntKind.i32.wrap x5_3_0.1.n), .int .i32 (IntKind.i32.wrap x5_3_1.1.n), .bool (decide (x5_3_2.1.n % 2 = 1)), .map m5_3_t]; rw [hD5_3_]; exact ⟨m5_3_t, rfl, hft5_3_⟩)))⟩
                        exact (.cons rfl (.cons rfl (.cons rfl (.cons rfl (.cons rfl (.cons rfl (.cons rfl (.cons rfl (.cons rfl (.cons rfl (.cons rfl (.cons rfl (.cons rfl (.cons rfl (.nil _)))))))))))))))
                      · skip
                        have hkn_ : k5_3 = (lT x5_3.1).length := by omega
                        subst hkn_
                        have hw2_5_3 : Row 78 4 a5_3 (lT x5_3.1).length c5_3 (es5_3.flatMap fk) M5_3 := by have h := hw_5_3; rw [Nat.sub_self] at h; simpa [reps] using h
                        refine frW hw2_5_3 .head (fun Hf5_3 hlf5_3 hfz5_3 => ?_)
                        have hrs5_3 := RowsAt.row (R := At_StopReplicaRequestTopicPartitionState) hfz5_3 hs_5_3.symm hw2_5_3.le.1 (fun p hp => At_StopReplicaRequestTopicPartitionState.mono _ _ _ _ hlf5_3 (hg_5_3 p hp))
                        rw [he_5_3] at hrs5_3
                        have hf5_3 : ListAt Hf5_3 x5_3.1 4 At_StopReplicaRequestTopicPartitionState a5_3 c5_3 := by rw [ex5_3]; exact listAt_of hrs5_3 hi5_3 (fun h => by have h1 := nul_le h; rw [show (lT x5_3.1).length = 0 by omega]; rfl)
                        have hRx5_3 : RdAt Hf5_3 70 b_1 x5_3.2 RN5_3 := by rw [ex5_3]; exact (hR_5_3.mono hlf5_3)
                        refine exX ?_
                        refine XT ?_
                        refine XT ?_
                        refine Xb ?_
                        refine Nt ?_
                        refine sr ?_
                        refine mv rfl rfl ?_
                        refine asg rfl rfl ?_
                        refine nl ?_
                        refine rg ?_
                        refine mv rfl rfl ?_
                        refine mv rfl rfl ?_
                        refine nc rfl rfl ?_
                        refine fa F65_3 rfl rfl ?_
                        refine stM (off := 3) Tryd.sizeOf63 rfl (by rw [ho5]) rfl rfl rfl (.tail .head) ?_
                        refine nN ?_
                        refine fun a_ w_ hA hw => ⟨_, _, _, hA.sub ?_, (le_17.trans (le_18.trans hlf5_3)), hw, a5_3, c5_3, RN5_3, rfl, rfl, hRx5_3, hf5_3⟩
                        exact (.cons rfl (.cons rfl (.cons rfl (.cons rfl (.cons rfl (.cons rfl (.cons rfl (.cons rfl (.cons rfl (.cons rfl (.nil _)))))))))))
                · skip
                  refine skN ?_
                  obtain rfl : x5_3 = ((Tr.mk 0 [] true [] []), x5_2.2) := (hx5_3.trans (step_no (Or.inl (show v < (3 : Int) by omega)))).trans (by rw [dflF_eq]; rfl)
                  refine fun a_ w_ hA hw => ⟨_, _, _, hA.sub ?_, (Fz.le.refl _), hw, none, 0, Nj5_2, rfl, rfl, hRj5_2, (ListAt.none rfl)⟩
                  exact (.cons rfl (.cons rfl (.cons rfl (.cons rfl (.cons rfl (.cons rfl (.cons rfl (.cons rfl (.cons rfl (.cons rfl (.nil _)))))))))))
              · skip
                obtain ⟨a5_3, c5_3, Nj5_3, rfl, rfl, pj0, pj1⟩ := hI
                have hRj5_3 := pj0
                have hf5_3 := pj1
                refine sr ?_
                refine mv rfl rfl ?_
                refine nl ?_
                refine cdT rfl (by omega) ?_
                refine rg ?_
                refine mv rfl rfl ?_
                refine cl rfl rfl rfl (d_tags hRj5_3) rfl (fun v_ H1 L1 le_23 hR_ => ?_)
                obtain ⟨N234, rfl, hR234, m5_t, rfl, hft5_⟩ := hR_
                have hu25_ : u5_ = rTags x5_3.2 := hu5_
                rw [← hu25_] at hR234 hft5_
                refine nc rfl rfl ?_
                refine fa F65_4 rfl rfl ?_
                refine saM (off := 4) Tryd.sizeOf55 rfl (by rw [ho5]) rfl rfl rfl rfl (.tail .head) ?_
                refine nN ?_
                refine Nb ?_
                refine Nt ?_
                refine rg ?_
                refine mv rfl rfl ?_
                refine ad rfl rfl (c := ((k5 + 1 : Nat) : Int)) ((wrap32_le (by omega) (by omega)).trans (by omega)) rfl ?_
                refine asg rfl rfl ?_
                refine nN ?_
                have hfs5 := flatMap_snoc' fk es5 ((⟨([.string ⟨x5_0.1.s.toArray⟩, .int .i32 0, .slice a5_2 (lT x5_2.1).length c5_2, .slice a5_3 (lT x5_3.1).length c5_3, .map m5_t] : List Value), rfl, all_one rfl⟩, ((decV 10 (decP fs_sStopReplicaRequestTopic v true) false true) (rMany (decV 10 (decP fs_sStopReplicaRequestTopic v true) false true) k5 (rArr true x4.2).2).2).1) : KE 5)
                have hrw5 := hbk5 ([.string ⟨x5_0.1.s.toArray⟩, .int .i32 0, .slice a5_2 (lT x5_2.1).length c5_2, .slice a5_3 (lT x5_3.1).length c5_3, .map m5_t] : List Value) rfl
                refine tfN (.tail .head) ?_
                refine fun a_ w_ hA hw => ⟨hkl5, _, _, _, hA.sub ?_, (le_10.trans (le_12.trans (le_16.trans le_23))), hw, _, _, _, rfl, rfl, (by rw [rMany_succ]; show RdAt _ 70 b_1 (decP fs_sStopReplicaRequestTopic v true (rMany (decV 10 (decP fs_sStopReplicaRequestTopic v true) false true) k5 (rArr true x4.2).2).2).2 _; rw [hD5_]; exact hR234), (by rw [← hfs5]; exact hrw5), (dec_els he_5), (fun p hp => (mem_snoc hp).elim (fun h => At_StopReplicaRequestTopic.mono _ _ _ _ (le_12.trans (le_16.trans le_23)) (hg_5 p h)) (fun h => h ▸ (by show At_StopReplicaRequestTopic _ (decP fs_sStopReplicaRequestTopic v true (rMany (decV 10 (decP fs_sStopReplicaRequestTopic v true) false true) k5 (rArr true x4.2).2).2).1 [.string ⟨x5_0.1.s.toArray⟩, .int .i32 0, .slice a5_2 (lT x5_2.1).length c5_2, .slice a5_3 (lT x5_3.1).length c5_3, .map m5_t]; rw [hD5_]; exact ⟨a5_2, c5_2, a5_3, c5_3, m5_t, rfl, (hf5_2.mono RI32.mono (le_16.trans le_23)), (hf5_3.mono At_StopReplicaRequestTopicPartitionState.mono le_23), hft5_⟩)))⟩
                exact (.cons rfl (.cons rfl (.cons rfl (.cons rfl (.cons rfl (.cons rfl (.cons rfl (.cons rfl (.cons rfl (.nil _))))))))))
          · skip
            have hkn_ : k5 = (lT x5.1).length := by omega
            subst hkn_
            have hw2_5 : Row 65 5 a5 (lT x5.1).length c5 (es5.flatMap fk) M5 := by have h := hw_5; rw [Nat.sub_self] at h; simpa [reps] using h
            refine frW hw2_5 .head (fun Hf5 hlf5 hfz5 => ?_)
            have hrs5 := RowsAt.row (R := At_StopReplicaRequestTopic) hfz5 hs_5.symm hw2_5.le.1 (fun p hp => At_StopReplicaRequestTopic.mono _ _ _ _ hlf5 (hg_5 p hp))
            rw [he_5] at hrs5
            have hf5 : ListAt Hf5 x5.1 5 At_StopReplicaRequestTopic a5 c5 := by rw [ex5]; exact listAt_of hrs5 hi5 (fun h => by have h1 := nul_le h; rw [show (lT x5.1).length = 0 by omega]; rfl)
            have hRx5 : RdAt Hf5 70 b_1 x5.2 RN5 := by rw [ex5]; exact (hR_5.mono hlf5)
            refine exX ?_
            refine XT ?_
            refine XT ?_
            refine Xb ?_
            refine Nt ?_
            refine sr ?_
            refine mv rfl rfl ?_
            refine asg rfl rfl ?_
            refine nl ?_
            refine rg ?_
            refine mv rfl rfl ?_
            refine mv rfl rfl ?_
            refine nc rfl rfl ?_
            refine fa0 F57_6 rfl rfl ?_
            refine st Tryd.sizeOf52 rfl rfl rfl rfl (.tail .head) ?_
            refine nl ?_
            refine sq ?_
            refine sr ?_
            refine mv rfl rfl ?_
            refine nl ?_
            refine cdT rfl (by omega) ?_
            refine rg ?_
            refine mv rfl rfl ?_
            refine cl rfl rfl rfl (d_tags hRx5) rfl (fun v_ H1 L1 le_24 hR_ => ?_)
            obtain ⟨N244, rfl, hR244, mt, rfl, hft⟩ := hR_
            have hu2 : u = rTags x5.2 := hu
            rw [← hu2] at hR244 hft
            refine nc rfl rfl ?_
            refine fa0 F57_7 rfl rfl ?_
            refine sa Tryd.sizeOf55 rfl rfl rfl rfl rfl (.tail .head) ?_
            refine nl ?_
            refine sr ?_
            refine cl rfl rfl rfl (r_complete hR244 (he.mono (le_4.trans (le_7.trans (le_9.trans (le_10.trans (hlf5.trans le_24))))))) rfl (fun v_ H1 L1 hle_ hR_ => ?_)
            obtain ⟨rfl, rfl, rfl⟩ := hR_
            refine asg rfl rfl ?_
            refine nl ?_
            refine drW .head ?_
            have hA_ := (show At_StopReplicaRequest v _ (decP fs_StopReplicaRequest v true _).1 [.int .i16 v, .int .i32 (IntKind.i32.wrap x0.1.n), .int .i32 (IntKind.i32.wrap x1.1.n), .bool (decide (x2.1.n % 2 = 1)), .int .i64 x3.1.n, .bool (decide (x4.1.n % 2 = 1)), .slice a5 (lT x5.1).length c5, .map mt] from (by rw [hD]; exact ⟨a5, c5, mt, rfl, (hf5.mono At_StopReplicaRequestTopic.mono le_24), hft⟩))
            refine rT rfl rfl (le_4.trans (le_7.trans (le_9.trans (le_10.trans (hlf5.trans le_24))))) (fun _ _ h => h) ⟨_, rfl, ?_⟩
            have hz := RdEnd.of (e := e) hA_
            rw [show (decP fs_StopReplicaRequest v true _).2.bad = u.2.bad by rw [hD]] at hz
            exact hz
end Go.Sx

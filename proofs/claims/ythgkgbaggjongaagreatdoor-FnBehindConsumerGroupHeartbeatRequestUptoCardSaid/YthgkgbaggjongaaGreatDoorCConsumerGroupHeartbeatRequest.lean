import Derived.Test.YthgkgbaggjongaaGreatDoorSxTab
import Derived.Test.YthgkgbaggjongaaGreatDoorBConsumerGroupHeartbeatRequest
import Derived.Test.YthgkgbaggjongaaGreatDoorRK2
import Derived.KernelRfl
set_option linter.unusedVariables false
set_option linter.unusedSimpArgs false
set_option maxRecDepth 100000
set_option maxHeartbeats 20000000
namespace Go.Sx
open Go.Proofs
theorem def_ConsumerGroupHeartbeatRequestTopic {H : Fz} {L : Own} {b o : Nat} {pre post : List Value} {c0 c1 c2 c3 c4 c5 c6 c7 c8 c9 c10 c11 c12 c13 c14 c15 c16 c17 : Value} (ho : o = pre.length) :
    Fn Tryz.prog 291 [.pointer (some ⟨b, o, none⟩)] H ([(b, .cells (pre ++ ([c0, c1, c2, c3, c4, c5, c6, c7, c8, c9, c10, c11, c12, c13, c14, c15, c16, c17] : List Value) ++ post).toArray 229 (0, 0))] :: L) (fun _ H' L' => H = H' ∧ L' = [(b, .cells (pre ++ ([c0, c1, c2, c3, c4, c5, c6, c7, c8, c9, c10, c11, c12, c13, c14, c15, c16, c17] : List Value) ++ post).toArray 229 (0, 0))] :: L) := by
  refine Fn.mk Tryz.call291 Tryz.func291 rfl Tryz.ntmps291 rfl ?_
  refine skN ?_
  exact fun _ _ hA hw => rn rfl (Fz.le.refl _) ⟨rfl, rfl⟩ hA hw
theorem def0_ConsumerGroupHeartbeatRequest {H : Fz} {L : Own} {b : Nat} {c0 c1 c2 c3 c4 c5 c6 c7 c8 c9 c10 c11 : Value} :
    Fn Tryz.prog 203 [.pointer (some ⟨b, 0, none⟩)] H ([(b, .cells [c0, c1, c2, c3, c4, c5, c6, c7, c8, c9, c10, c11].toArray 223 (0, 0))] :: L) (fun _ H' L' => H = H' ∧ L' = [(b, .cells [c0, c1, c2, c3, c4, c5, .int .i32 (-1), c7, c8, c9, c10, c11].toArray 223 (0, 0))] :: L) := by
  refine Fn.mk Tryz.call203 Tryz.func203 rfl Tryz.ntmps203 rfl ?_
  refine rg ?_
  refine mv rfl rfl ?_
  refine nc rfl rfl ?_
  refine fa0 F223_6 rfl rfl ?_
  refine st Tryz.sizeOf21 rfl rfl rfl rfl .head ?_
  refine nN ?_
  exact fun _ _ hA hw => rn rfl (Fz.le.refl _) ⟨rfl, rfl⟩ hA hw
theorem rd_ConsumerGroupHeartbeatRequest_t {H : Fz} {L : Own} {b : Nat} {v : Int} {a : Option Addr} {c : Nat} {s : List UInt8} {e : Value} (hB : BytesAt H a c s) (hL_ : s.length ≤ BR) (he : H.at 1 0 [e]) (hv0 : 0 ≤ v) (hv1 : v ≤ 1) :
    Fn Tryz.prog 204 [.pointer (some ⟨b, 0, none⟩), .slice a s.length c, .bool false] H ([(b, .cells [.int .i16 v, .string ⟨#[]⟩, .string ⟨#[]⟩, .int .i32 0, .pointer none, .pointer none, .int .i32 (-1), .slice none 0 0, .pointer none, .pointer none, .slice none 0 0, .map none].toArray 223 (0, 0))] :: L) (fun r H' L' => ∃ cs : List Value, L' = [(b, .cells cs.toArray 223 (0, 0))] :: L ∧ RdEnd H' (At_ConsumerGroupHeartbeatRequest v) (decP fs_ConsumerGroupHeartbeatRequest v true ⟨s, false, !a.isNone⟩) e r cs) := by
  refine Fn.mk Tryz.call204 Tryz.func204 rfl Tryz.ntmps204 rfl ?_
  refine sr ?_
  refine asg rfl rfl ?_
  refine nl ?_
  refine sr ?_
  refine mv rfl rfl ?_
  refine cl rfl rfl rfl def0_ConsumerGroupHeartbeatRequest rfl (fun v_ H1 L1 hle_ hR_ => ?_)
  obtain ⟨rfl, rfl⟩ := hR_
  refine nl ?_
  refine sr ?_
  refine mv rfl rfl ?_
  refine bd' S232 rfl rfl rfl ?_
  refine al Tryz.zeroValue232 rfl rfl (fun b_1 => ?_)
  refine sa Tryz.sizeOf232 rfl rfl rfl rfl rfl .head ?_
  have hR0_ : RdAt H 232 b_1 ⟨s, false, !a.isNone⟩ [(b_1, .cells [_, _].toArray 232 (0, 0))] := ⟨a, c, rfl, hB, by simp⟩
  obtain ⟨x0, hx0⟩ : ∃ x, x = stepF (Fd.mk 8 0 (-1) (-1) (-1) 0 0 []) v true ⟨s, false, !a.isNone⟩ := ⟨_, rfl⟩
  obtain ⟨x1, hx1⟩ : ∃ x, x = stepF (Fd.mk 8 0 (-1) (-1) (-1) 0 0 []) v true x0.2 := ⟨_, rfl⟩
  obtain ⟨x2, hx2⟩ : ∃ x, x = stepF (Fd.mk 3 0 (-1) (-1) (-1) 0 0 []) v true x1.2 := ⟨_, rfl⟩
  obtain ⟨x3, hx3⟩ : ∃ x, x = stepF (Fd.mk 8 0 (-1) 0 (-1) 0 0 []) v true x2.2 := ⟨_, rfl⟩
  obtain ⟨x4, hx4⟩ : ∃ x, x = stepF (Fd.mk 8 0 (-1) 0 (-1) 0 0 []) v true x3.2 := ⟨_, rfl⟩
  obtain ⟨x5, hx5⟩ : ∃ x, x = stepF (Fd.mk 3 0 (-1) (-1) (-1) (-1) 0 []) v true x4.2 := ⟨_, rfl⟩
  obtain ⟨x6, hx6⟩ : ∃ x, x = stepF (Fd.mk 11 0 (-1) 0 (-1) 0 8 []) v true x5.2 := ⟨_, rfl⟩
  obtain ⟨x7, hx7⟩ : ∃ x, x = stepF (Fd.mk 8 1 (-1) 1 (-1) 0 0 []) v true x6.2 := ⟨_, rfl⟩
  obtain ⟨x8, hx8⟩ : ∃ x, x = stepF (Fd.mk 8 0 (-1) 0 (-1) 0 0 []) v true x7.2 := ⟨_, rfl⟩
  obtain ⟨x9, hx9⟩ : ∃ x, x = stepF (Fd.mk 11 0 (-1) 0 (-1) 0 10 fs_sConsumerGroupHeartbeatRequestTopic) v true x8.2 := ⟨_, rfl⟩
  obtain ⟨u, hu⟩ : ∃ x, x = tailU true x9.2 := ⟨_, rfl⟩
  have hD : decP fs_ConsumerGroupHeartbeatRequest v true ⟨s, false, !a.isNone⟩ = (.mk 0 [] false [x0.1, x1.1, x2.1, x3.1, x4.1, x5.1, x6.1, x7.1, x8.1, x9.1] u.1, u.2) := by
    generalize (⟨s, false, !a.isNone⟩ : Rd) = r_ at hx0 ⊢
    rw [decP_eq]; unfold fs_ConsumerGroupHeartbeatRequest; simp only [decFs_cons, decFs_nil, ← hx0, ← hx1, ← hx2, ← hx3, ← hx4, ← hx5, ← hx6, ← hx7, ← hx8, ← hx9, ← hu]
  have hL0 : x0.2.s.length ≤ BR := by rw [hx0]; exact Nat.le_trans (stepF_shr _ _ _ _) hL_
  have hL1 : x1.2.s.length ≤ BR := by rw [hx1]; exact Nat.le_trans (stepF_shr _ _ _ _) hL0
  have hL2 : x2.2.s.length ≤ BR := by rw [hx2]; exact Nat.le_trans (stepF_shr _ _ _ _) hL1
  have hL3 : x3.2.s.length ≤ BR := by rw [hx3]; exact Nat.le_trans (stepF_shr _ _ _ _) hL2
  have hL4 : x4.2.s.length ≤ BR := by rw [hx4]; exact Nat.le_trans (stepF_shr _ _ _ _) hL3
  have hL5 : x5.2.s.length ≤ BR := by rw [hx5]; exact Nat.le_trans (stepF_shr _ _ _ _) hL4
  have hL6 : x6.2.s.length ≤ BR := by rw [hx6]; exact Nat.le_trans (stepF_shr _ _ _ _) hL5
  have hL7 : x7.2.s.length ≤ BR := by rw [hx7]; exact Nat.le_trans (stepF_shr _ _ _ _) hL6
  have hL8 : x8.2.s.length ≤ BR := by rw [hx8]; exact Nat.le_trans (stepF_shr _ _ _ _) hL7
  have hL9 : x9.2.s.length ≤ BR := by rw [hx9]; exact Nat.le_trans (stepF_shr _ _ _ _) hL8
  have hE : u.2.bad = true → (decP fs_ConsumerGroupHeartbeatRequest v true ⟨s, false, !a.isNone⟩).2.bad = true := fun h => by rw [hD]; exact h
  have hB9 : x9.2.bad = true → (decP fs_ConsumerGroupHeartbeatRequest v true ⟨s, false, !a.isNone⟩).2.bad = true := fun h => hE (by rw [hu]; exact tailU_bad h)
  have hB8 : x8.2.bad = true → (decP fs_ConsumerGroupHeartbeatRequest v true ⟨s, false, !a.isNone⟩).2.bad = true := fun h => hB9 (by rw [hx9]; exact step_bad h)
  have hB7 : x7.2.bad = true → (decP fs_ConsumerGroupHeartbeatRequest v true ⟨s, false, !a.isNone⟩).2.bad = true := fun h => hB8 (by rw [hx8]; exact step_bad h)
  have hB6 : x6.2.bad = true → (decP fs_ConsumerGroupHeartbeatRequest v true ⟨s, false, !a.isNone⟩).2.bad = true := fun h => hB7 (by rw [hx7]; exact step_bad h)
  have hB5 : x5.2.bad = true → (decP fs_ConsumerGroupHeartbeatRequest v true ⟨s, false, !a.isNone⟩).2.bad = true := fun h => hB6 (by rw [hx6]; exact step_bad h)
  have hB4 : x4.2.bad = true → (decP fs_ConsumerGroupHeartbeatRequest v true ⟨s, false, !a.isNone⟩).2.bad = true := fun h => hB5 (by rw [hx5]; exact step_bad h)
  have hB3 : x3.2.bad = true → (decP fs_ConsumerGroupHeartbeatRequest v true ⟨s, false, !a.isNone⟩).2.bad = true := fun h => hB4 (by rw [hx4]; exact step_bad h)
  have hB2 : x2.2.bad = true → (decP fs_ConsumerGroupHeartbeatRequest v true ⟨s, false, !a.isNone⟩).2.bad = true := fun h => hB3 (by rw [hx3]; exact step_bad h)
  have hB1 : x1.2.bad = true → (decP fs_ConsumerGroupHeartbeatRequest v true ⟨s, false, !a.isNone⟩).2.bad = true := fun h => hB2 (by rw [hx2]; exact step_bad h)
  have hB0 : x0.2.bad = true → (decP fs_ConsumerGroupHeartbeatRequest v true ⟨s, false, !a.isNone⟩).2.bad = true := fun h => hB1 (by rw [hx1]; exact step_bad h)
  refine nl ?_
  refine sr ?_
  refine mv rfl rfl ?_
  refine nc rfl rfl ?_
  refine fa0 F223_0 rfl rfl ?_
  refine ld (Says.own (.tail .head)) Tryz.isAgg51 rfl (Nat.zero_add _).symm rfl rfl ?_
  refine asg rfl rfl ?_
  refine nl ?_
  refine sr ?_
  refine mv rfl rfl ?_
  refine nl ?_
  refine sr ?_
  refine mv rfl rfl ?_
  refine ge rfl rfl rfl ?_
  refine asg rfl rfl ?_
  refine nl ?_
  refine sr ?_
  refine mv rfl rfl ?_
  refine nl ?_
  refine sr ?_
  refine mv rfl rfl ?_
  refine asg rfl rfl ?_
  refine nl ?_
  refine sq ?_
  refine sr ?_
  refine asg rfl rfl ?_
  refine nl ?_
  refine sq ?_
  refine sr ?_
  refine mv rfl rfl ?_
  refine nl ?_
  refine cF rfl ?_
  refine sr ?_
  refine mv rfl rfl ?_
  refine nl ?_
  refine cdT rfl (by omega) ?_
  refine rg ?_
  have ex0 : x0 = decV 8 (decP [] v true) false true ⟨s, false, !a.isNone⟩ := (hx0.trans (step_yes (by decide) (show (0 : Int) ≤ v by omega) (Or.inl (by decide)))).trans (decF'_val (by decide) (rfl))
  refine cl rfl rfl rfl (d8t hR0_ ex0) rfl (fun v_ H1 L1 le_2 hR_ => ?_)
  obtain ⟨N54, rfl, hR54, rfl, rfl⟩ := hR_
  refine asg rfl rfl ?_
  refine nl ?_
  refine rg ?_
  refine mv rfl rfl ?_
  refine mv rfl rfl ?_
  refine nc rfl rfl ?_
  refine fa0 F223_1 rfl rfl ?_
  refine st Tryz.sizeOf9 rfl rfl rfl rfl (.tail .head) ?_
  refine nl ?_
  refine sq ?_
  refine sr ?_
  refine asg rfl rfl ?_
  refine nl ?_
  refine sq ?_
  refine sr ?_
  refine mv rfl rfl ?_
  refine nl ?_
  refine cF rfl ?_
  refine sr ?_
  refine mv rfl rfl ?_
  refine nl ?_
  refine cdT rfl (by omega) ?_
  refine rg ?_
  have ex1 : x1 = decV 8 (decP [] v true) false true x0.2 := (hx1.trans (step_yes (by decide) (show (0 : Int) ≤ v by omega) (Or.inl (by decide)))).trans (decF'_val (by decide) (rfl))
  refine cl rfl rfl rfl (d8t hR54 ex1) rfl (fun v_ H1 L1 le_3 hR_ => ?_)
  obtain ⟨N65, rfl, hR65, rfl, rfl⟩ := hR_
  refine asg rfl rfl ?_
  refine nl ?_
  refine rg ?_
  refine mv rfl rfl ?_
  refine mv rfl rfl ?_
  refine nc rfl rfl ?_
  refine fa0 F223_2 rfl rfl ?_
  refine st Tryz.sizeOf9 rfl rfl rfl rfl (.tail .head) ?_
  refine nl ?_
  refine sq ?_
  refine sr ?_
  have ex2 : x2 = decV 3 (decP [] v true) false true x1.2 := (hx2.trans (step_yes (by decide) (show (0 : Int) ≤ v by omega) (Or.inl (by decide)))).trans (decF'_val (by decide) (rfl))
  refine cl rfl rfl rfl (d3 hR65 ex2) rfl (fun v_ H1 L1 hle_ hR_ => ?_)
  obtain ⟨N71, rfl, hR71, rfl, rfl⟩ := hR_
  refine asg rfl rfl ?_
  refine nl ?_
  refine rg ?_
  refine mv rfl rfl ?_
  refine mv rfl rfl ?_
  refine nc rfl rfl ?_
  refine fa0 F223_3 rfl rfl ?_
  refine st Tryz.sizeOf21 rfl rfl rfl rfl (.tail .head) ?_
  refine nl ?_
  refine sq ?_
  refine sr ?_
  refine asg rfl rfl ?_
  refine nl ?_
  refine sq ?_
  refine sr ?_
  refine mv rfl rfl ?_
  refine nl ?_
  refine cdT rfl (by omega) ?_
  refine sr ?_
  refine mv rfl rfl ?_
  refine nl ?_
  refine cF rfl ?_
  refine rg ?_
  have ex3 : x3 = decV 8 (decP [] v true) true true x2.2 := (hx3.trans (step_yes (by decide) (show (0 : Int) ≤ v by omega) (Or.inl (by decide)))).trans (decF'_val (by decide) (by simp only [Bool.and_eq_true, decide_eq_true_eq]; exact ⟨show (0 : Int) ≤ 0 by decide, show (0 : Int) ≤ v by omega⟩))
  refine cl rfl rfl rfl (d8tn hR71 ex3) rfl (fun v_ H1 L1 le_5 hR_ => ?_)
  obtain ⟨N79, rfl, hR79, p3, rfl, hf3⟩ := hR_
  refine asg rfl rfl ?_
  refine nl ?_
  refine rg ?_
  refine mv rfl rfl ?_
  refine mv rfl rfl ?_
  refine nc rfl rfl ?_
  refine fa0 F223_4 rfl rfl ?_
  refine st Tryz.sizeOf131 rfl rfl rfl rfl (.tail .head) ?_
  refine nl ?_
  refine sq ?_
  refine sr ?_
  refine asg rfl rfl ?_
  refine nl ?_
  refine sq ?_
  refine sr ?_
  refine mv rfl rfl ?_
  refine nl ?_
  refine cdT rfl (by omega) ?_
  refine sr ?_
  refine mv rfl rfl ?_
  refine nl ?_
  refine cF rfl ?_
  refine rg ?_
  have ex4 : x4 = decV 8 (decP [] v true) true true x3.2 := (hx4.trans (step_yes (by decide) (show (0 : Int) ≤ v by omega) (Or.inl (by decide)))).trans (decF'_val (by decide) (by simp only [Bool.and_eq_true, decide_eq_true_eq]; exact ⟨show (0 : Int) ≤ 0 by decide, show (0 : Int) ≤ v by omega⟩))
  refine cl rfl rfl rfl (d8tn hR79 ex4) rfl (fun v_ H1 L1 le_6 hR_ => ?_)
  obtain ⟨N90, rfl, hR90, p4, rfl, hf4⟩ := hR_
  refine asg rfl rfl ?_
  refine nl ?_
  refine rg ?_
  refine mv rfl rfl ?_
  refine mv rfl rfl ?_
  refine nc rfl rfl ?_
  refine fa0 F223_5 rfl rfl ?_
  refine st Tryz.sizeOf131 rfl rfl rfl rfl (.tail .head) ?_
  refine nl ?_
  refine sq ?_
  refine sr ?_
  have ex5 : x5 = decV 3 (decP [] v true) false true x4.2 := (hx5.trans (step_yes (by decide) (show (0 : Int) ≤ v by omega) (Or.inl (by decide)))).trans (decF'_val (by decide) (rfl))
  refine cl rfl rfl rfl (d3 hR90 ex5) rfl (fun v_ H1 L1 hle_ hR_ => ?_)
  obtain ⟨N98, rfl, hR98, rfl, rfl⟩ := hR_
  refine asg rfl rfl ?_
  refine nl ?_
  refine rg ?_
  refine mv rfl rfl ?_
  refine mv rfl rfl ?_
  refine nc rfl rfl ?_
  refine fa0 F223_6 rfl rfl ?_
  refine st Tryz.sizeOf21 rfl rfl rfl rfl (.tail .head) ?_
  refine nl ?_
  refine sq ?_
  refine sr ?_
  refine mv rfl rfl ?_
  refine nc rfl rfl ?_
  refine fa0 F223_7 rfl rfl ?_
  refine ld (Says.own (.tail .head)) Tryz.isAgg203 rfl (Nat.zero_add _).symm rfl rfl ?_
  refine asg rfl rfl ?_
  refine nl ?_
  refine sr ?_
  refine mv rfl rfl ?_
  refine asg rfl rfl ?_
  refine nl ?_
  refine sr ?_
  refine asg rfl rfl ?_
  refine nl ?_
  refine sq ?_
  refine sr ?_
  refine mv rfl rfl ?_
  refine nl ?_
  refine cdT rfl (by omega) ?_
  refine rg ?_
  have ey6 : x6 = (.mk 0 [] (if 0 ≤ (0 : Int) ∧ (v < (0 : Int) ∨ (rArr true x5.2).1 = 0) then false else decide ((rArr true x5.2).1 ≤ 0)) (rMany (decV 8 (decP [] v true) false true) (rArr true x5.2).1.toNat (rArr true x5.2).2).1 [], (rMany (decV 8 (decP [] v true) false true) (rArr true x5.2).1.toNat (rArr true x5.2).2).2) := (hx6.trans (step_yes (by decide) (show (0 : Int) ≤ v by omega) (Or.inl (by decide)))).trans (decF'_list rfl rfl)
  have hn6 : (rArr true x5.2).1.toNat = (lT x6.1).length := by rw [ey6]; exact (lT_many nul_le).symm
  have ex6 := ey6
  rw [hn6] at ex6
  have hl6 := rArr_le true x5.2
  have hm6 : (rArr true x5.2).2.s.length ≤ BR := Nat.le_trans (rArr_len true x5.2) hL5
  have hnb6 : (lT x6.1).length ≤ BR := by omega
  refine cl rfl rfl rfl (r_arrt hR98) rfl (fun v_ H1 L1 hle_ hR_ => ?_)
  obtain ⟨rfl, N109, rfl, hR109, rfl⟩ := hR_
  have hh6 := rArr_hi true x5.2
  refine asg rfl rfl ?_
  refine nl ?_
  refine sq ?_
  refine sr ?_
  refine mv rfl rfl ?_
  refine lt rfl rfl rfl ?_
  refine mv rfl rfl ?_
  refine spl (t := 113) rfl (fun hn_ => absurd hn_ (by omega)) (fun _ => ?_)
  refine gr rfl rfl ?_
  refine mv rfl rfl ?_
  refine gr rfl rfl ?_
  refine eq' rfl rfl rfl ?_
  refine pk rfl rfl rfl rfl ?_
  refine nl ?_
  refine nulC2 ?_
  refine cutT (fun l' H' L' => ∃ (az6 : Option Addr), ∃ (Nz6 : Chunk), [(2, .bool false), (7, .pointer (some ⟨b_1, 0, none⟩)), (8, .int .i16 v), (9, .bool (decide ((0 : Int) ≤ v))), (10, .pointer (some ⟨b, 0, none⟩)), (17, .slice none 0 0), (18, .slice az6 0 0), (19, .int .i32 (rArr true x5.2).1)] = l' ∧ Nz6 :: N109 :: [(b, .cells [.int .i16 v, .string ⟨x0.1.s.toArray⟩, .string ⟨x1.1.s.toArray⟩, .int .i32 (IntKind.i32.wrap x2.1.n), .pointer p3, .pointer p4, .int .i32 (IntKind.i32.wrap x5.1.n), .slice none 0 0, .pointer none, .pointer none, .slice none 0 0, .map none].toArray 223 (0, 0))] :: L = L' ∧ Row 9 1 az6 0 0 [] Nz6 ∧ (¬ (0 : Int) < (rArr true x5.2).1 → az6.isNone = (if 0 ≤ (0 : Int) ∧ (v < (0 : Int) ∨ (rArr true x5.2).1 = 0) then false else decide ((rArr true x5.2).1 ≤ 0)))) ?_ (fun l' H' L' le_8 hI => ?_)
  · skip
    refine cd rfl (fun h116 => ?_) (fun h116 => ?_)
    · skip
      refine rg ?_
      refine bs' L203 rfl rfl rfl rfl (fun b_9 => ?_)
      refine asg rfl rfl ?_
      refine nN ?_
      refine drN (.tail .head) ?_
      refine fun a_ w_ hA hw => ⟨_, _, _, hA.sub ?_, (Fz.le.refl _), hw, (some ⟨b_9, 0, none⟩), _, rfl, rfl, (Row.whole (m := 0) rfl (by decide)), (fun _ => by rw [if_pos ⟨by decide, .inr h116⟩]; rfl)⟩
      exact (.cons rfl (.cons rfl (.cons rfl (.cons rfl (.cons rfl (.cons rfl (.cons rfl (.cons rfl (.nil _)))))))))
    · skip
      refine skN ?_
      refine fun a_ w_ hA hw => ⟨_, _, _, hA.sub ?_, (Fz.le.refl _), hw, none, [], rfl, rfl, (Row.nil _ _), (fun hz_ => by rw [if_neg (by omega)]; exact (decide_eq_true (by omega)).symm)⟩
      exact (.cons rfl (.cons rfl (.cons rfl (.cons rfl (.cons rfl (.cons rfl (.cons rfl (.cons rfl (.nil _)))))))))
  · skip
    obtain ⟨az6, Nz6, rfl, rfl, pj0, pj1⟩ := hI
    have hz06 := pj0
    have hz16 := pj1
    refine sq ?_
    refine sr ?_
    refine tf (.tail .head) ?_
    refine cl rfl rfl rfl (r_ok (hR109.mono le_8)) rfl (fun v_ H1 L1 hle_ hR_ => ?_)
    obtain ⟨rfl, rfl, rfl⟩ := hR_
    refine nt rfl rfl ?_
    refine nl ?_
    refine cb rfl (fun h119 => ?_) (fun h119 => ?_)
    · skip
      have hbad_ : (rArr true x5.2).2.bad = true := by simpa using h119
      refine sr ?_
      refine cl rfl rfl rfl (r_complete (hR109.mono le_8) (he.mono (le_5.trans (le_6.trans le_8)))) rfl (fun v_ H1 L1 hle_ hR_ => ?_)
      obtain ⟨rfl, rfl, rfl⟩ := hR_
      refine asg rfl rfl ?_
      refine nl ?_
      refine drW .head ?_
      refine drW .head ?_
      exact rT rfl rfl (le_5.trans (le_6.trans le_8)) (fun _ _ h => h) ⟨_, rfl, RdEnd.out (hB6 (by rw [ey6]; exact rMany_bad (fun r h => decV_bad (decP_bad _ _ _) h) _ _ hbad_)) hbad_⟩
    · skip
      refine skt ?_
      refine sr ?_
      refine mv rfl rfl ?_
      refine sh' (j := 0) Tryz.runUnderlying203 Tryz.sizeOf9 rfl rfl rfl (Nat.zero_le _) rfl ?_
      refine asg rfl rfl ?_
      refine nl ?_
      refine sq ?_
      refine sr ?_
      refine mv rfl rfl ?_
      refine gt rfl rfl rfl ?_
      refine nl ?_
      refine cutT (fun l' H' L' => ∃ (a6 : Option Addr), ∃ (c6 : Nat), ∃ (Nr6 : Chunk), [(2, .bool false), (7, .pointer (some ⟨b_1, 0, none⟩)), (8, .int .i16 v), (9, .bool (decide ((0 : Int) ≤ v))), (10, .pointer (some ⟨b, 0, none⟩)), (17, .slice none 0 0), (18, .slice a6 (lT x6.1).length c6), (19, .int .i32 (rArr true x5.2).1)] = l' ∧ N109 :: Nr6 :: [(b, .cells [.int .i16 v, .string ⟨x0.1.s.toArray⟩, .string ⟨x1.1.s.toArray⟩, .int .i32 (IntKind.i32.wrap x2.1.n), .pointer p3, .pointer p4, .int .i32 (IntKind.i32.wrap x5.1.n), .slice none 0 0, .pointer none, .pointer none, .slice none 0 0, .map none].toArray 223 (0, 0))] :: L = L' ∧ Row 9 1 a6 (lT x6.1).length c6 (reps [.string ⟨#[]⟩] (lT x6.1).length) Nr6 ∧ a6.isNone = (if 0 ≤ (0 : Int) ∧ (v < (0 : Int) ∨ (rArr true x5.2).1 = 0) then false else decide ((rArr true x5.2).1 ≤ 0))) ?_ (fun l' H' L' le_10 hI => ?_)
      · skip
        refine cd rfl (fun h124 => ?_) (fun h124 => ?_)
        · skip
          refine rg ?_
          refine mv rfl rfl ?_
          refine mv rfl rfl ?_
          refine apz (zs := [.string ⟨#[]⟩]) (m := (lT x6.1).length) Tryz.underlying203 Tryz.underlying21 I9 rfl rfl rfl (by omega) (by omega) (by have h9 := hnb6; unfold BR at h9; omega) (by have h9 := hnb6; unfold BR at h9; unfold maxLen; omega) rfl (fun g127 cp127 N127 r127 => ?_)
          refine asg rfl rfl ?_
          refine nN ?_
          refine drN (.tail (.tail .head)) ?_
          refine tfN (.tail .head) ?_
          refine fun a_ w_ hA hw => ⟨_, _, _, hA.sub ?_, (Fz.le.refl _), hw, (some ⟨g127, 0, none⟩), cp127, N127, rfl, rfl, r127, (by split; rfl; exact (decide_eq_false (by omega)).symm)⟩
          exact (.cons rfl (.cons rfl (.cons rfl (.cons rfl (.cons rfl (.cons rfl (.cons rfl (.cons rfl (.nil _)))))))))
        · skip
          refine skN ?_
          refine fun a_ w_ hA hw => ⟨_, _, _, hA.sub ?_, (Fz.le.refl _), hw, az6, 0, Nz6, rfl, rfl, (by rw [show (lT x6.1).length = 0 by omega]; exact hz06), (hz16 (by omega))⟩
          exact (.cons rfl (.cons rfl (.cons rfl (.cons rfl (.cons rfl (.cons rfl (.cons (by rw [show (lT x6.1).length = 0 by omega]; rfl) (.cons rfl (.nil _)))))))))
      · skip
        obtain ⟨a6, c6, Nr6, rfl, rfl, pj0, pj1⟩ := hI
        have hr6 := pj0
        have hi6 := pj1
        refine sq ?_
        refine sr ?_
        refine asg rfl rfl ?_
        refine nl ?_
        refine bl (lp ((lT x6.1).length) (fun k6 l' H' L' => ∃ (es6 : List (KE 1)) (M6 RN6 : Chunk), [(2, .bool false), (7, .pointer (some ⟨b_1, 0, none⟩)), (8, .int .i16 v), (9, .bool (decide ((0 : Int) ≤ v))), (10, .pointer (some ⟨b, 0, none⟩)), (17, .slice none 0 0), (18, .slice a6 (lT x6.1).length c6), (19, .int .i32 (rArr true x5.2).1), (20, .int .i32 (k6 : Int))] = l' ∧ RN6 :: M6 :: [(b, .cells [.int .i16 v, .string ⟨x0.1.s.toArray⟩, .string ⟨x1.1.s.toArray⟩, .int .i32 (IntKind.i32.wrap x2.1.n), .pointer p3, .pointer p4, .int .i32 (IntKind.i32.wrap x5.1.n), .slice none 0 0, .pointer none, .pointer none, .slice none 0 0, .map none].toArray 223 (0, 0))] :: L = L' ∧ RdAt H' 232 b_1 (rMany (decV 8 (decP [] v true) false true) k6 (rArr true x5.2).2).2 RN6 ∧ Row 9 1 a6 (lT x6.1).length c6 (es6.flatMap fk ++ reps [.string ⟨#[]⟩] ((lT x6.1).length - k6)) M6 ∧ es6.map (·.2) = (rMany (decV 8 (decP [] v true) false true) k6 (rArr true x5.2).2).1 ∧ ∀ p ∈ es6, RText H' p.2 (fk p)) [(2, .bool false), (7, .pointer (some ⟨b_1, 0, none⟩)), (8, .int .i16 v), (9, .bool (decide ((0 : Int) ≤ v))), (10, .pointer (some ⟨b, 0, none⟩)), (17, .slice none 0 0), (18, .slice a6 (lT x6.1).length c6), (19, .int .i32 (rArr true x5.2).1), (20, .int .i32 (0 : Int))] (.cons rfl (.cons rfl (.cons rfl (.cons rfl (.cons rfl (.cons rfl (.cons rfl (.cons rfl (.cons rfl (.nil _)))))))))) ⟨[], Nr6, _, rfl, rfl, (hR109.mono (le_8.trans le_10)), hr6, rfl, (fun p hp => by cases hp)⟩ (fun k6 l' H' L' hk6 le_11 hI => ?_))
        obtain ⟨es6, M6, RN6, rfl, rfl, hR_6, hw_6, he_6, hg_6⟩ := hI
        have hs_6 := els_len he_6
        have hp_6 : (es6.flatMap fk).length = k6 * 1 := els_flat hs_6
        refine sq ?_
        refine sr ?_
        refine mv rfl rfl ?_
        refine mv rfl rfl ?_
        refine lt rfl rfl rfl ?_
        refine nl ?_
        refine cd rfl (fun h130 => ?_) (fun h130 => ?_)
        · skip
          have hkl6 : k6 < (lT x6.1).length := by omega
          obtain ⟨g6, po6, hga6, rfl, hbk6⟩ := hw_6.next (zs := [.string ⟨#[]⟩]) hkl6 rfl (by decide)
          have ho6 : 0 + k6 * 1 = (es6.flatMap fk).length := by rw [hp_6]; omega
          have hbz6 : ((decV 8 (decP [] v true) false true) (rMany (decV 8 (decP [] v true) false true) k6 (rArr true x5.2).2).2).2.bad = true → (decP fs_ConsumerGroupHeartbeatRequest v true ⟨s, false, !a.isNone⟩).2.bad = true := fun h => hB6 (by rw [ex6]; exact rMany_mono (fun r h => decV_bad (fun r h => decP_bad _ _ _ r h) h) _ (show k6 + 1 ≤ (lT x6.1).length from hkl6) (by rw [rMany_succ]; exact h))
          have hLk6 : (rMany (decV 8 (decP [] v true) false true) k6 (rArr true x5.2).2).2.s.length ≤ BR := Nat.le_trans (rMany_shr (fun r => decV_shr (fun r => decP_shr _ _ _ r) r) _ _) hm6
          obtain ⟨y6, hy6⟩ : ∃ x, x = (decV 8 (decP [] v true) false true) (rMany (decV 8 (decP [] v true) false true) k6 (rArr true x5.2).2).2 := ⟨_, rfl⟩
          refine skt ?_
          refine sq ?_
          refine bl ?_
          refine sr ?_
          refine asg rfl rfl ?_
          refine nl ?_
          refine sq ?_
          refine sr ?_
          refine mv rfl rfl ?_
          refine nl ?_
          refine cF rfl ?_
          refine sr ?_
          refine mv rfl rfl ?_
          refine nl ?_
          refine cdT rfl (by omega) ?_
          refine rg ?_
          refine cl rfl rfl rfl (d8t hR_6 hy6) rfl (fun v_ H1 L1 hle_ hR_ => ?_)
          obtain ⟨N138, rfl, hR138, rfl, rfl⟩ := hR_
          refine asg rfl rfl ?_
          refine nl ?_
          refine rg ?_
          refine mv rfl rfl ?_
          refine mv rfl rfl ?_
          refine mv rfl rfl ?_
          refine ixk (j := k6) Tryz.runUnderlying203 Tryz.sizeOf9 rfl hga6 rfl rfl hkl6 rfl ?_
          refine stM (off := 0) Tryz.sizeOf9 rfl ho6 rfl rfl rfl (.tail .head) ?_
          refine nN ?_
          refine Nb ?_
          refine Nt ?_
          refine rg ?_
          refine mv rfl rfl ?_
          refine ad rfl rfl (c := ((k6 + 1 : Nat) : Int)) ((wrap32_le (by omega) (by omega)).trans (by omega)) rfl ?_
          refine asg rfl rfl ?_
          refine nN ?_
          have hfs6 := flatMap_snoc' fk es6 ((⟨([.string ⟨y6.1.s.toArray⟩] : List Value), rfl, all_one rfl⟩, ((decV 8 (decP [] v true) false true) (rMany (decV 8 (decP [] v true) false true) k6 (rArr true x5.2).2).2).1) : KE 1)
          have hrw6 := hbk6 ([.string ⟨y6.1.s.toArray⟩] : List Value) rfl
          refine fun a_ w_ hA hw => ⟨hkl6, _, _, _, hA.sub ?_, le_11, hw, _, _, _, rfl, rfl, (by rw [rMany_succ, ← hy6]; exact hR138), (by rw [← hfs6]; exact hrw6), (dec_els he_6), (fun p hp => (mem_snoc hp).elim (fun h => RText.mono _ _ _ _ (Fz.le.refl _) (hg_6 p h)) (fun h => h ▸ (by show RText _ ((decV 8 (decP [] v true) false true) (rMany (decV 8 (decP [] v true) false true) k6 (rArr true x5.2).2).2).1 [.string ⟨y6.1.s.toArray⟩]; rw [← hy6]; rfl)))⟩
          exact (.cons rfl (.cons rfl (.cons rfl (.cons rfl (.cons rfl (.cons rfl (.cons rfl (.cons rfl (.cons rfl (.nil _))))))))))
        · skip
          have hkn_ : k6 = (lT x6.1).length := by omega
          subst hkn_
          have hw2_6 : Row 9 1 a6 (lT x6.1).length c6 (es6.flatMap fk) M6 := by have h := hw_6; rw [Nat.sub_self] at h; simpa [reps] using h
          refine frW hw2_6 (.tail .head) (fun Hf6 hlf6 hfz6 => ?_)
          have hrs6 := RowsAt.row (R := RText) hfz6 hs_6.symm hw2_6.le.1 (fun p hp => RText.mono _ _ _ _ hlf6 (hg_6 p hp))
          rw [he_6] at hrs6
          have hf6 : ListAt Hf6 x6.1 1 RText a6 c6 := by rw [ex6]; exact listAt_of hrs6 hi6 (fun h => by have h1 := nul_le h; rw [show (lT x6.1).length = 0 by omega]; rfl)
          have hRx6 : RdAt Hf6 232 b_1 x6.2 RN6 := by rw [ex6]; exact (hR_6.mono hlf6)
          refine exX ?_
          refine XT ?_
          refine XT ?_
          refine Xb ?_
          refine Nt ?_
          refine sr ?_
          refine mv rfl rfl ?_
          refine asg rfl rfl ?_
          refine nl ?_
          refine rg ?_
          refine mv rfl rfl ?_
          refine mv rfl rfl ?_
          refine nc rfl rfl ?_
          refine fa0 F223_7 rfl rfl ?_
          refine st Tryz.sizeOf203 rfl rfl rfl rfl (.tail .head) ?_
          refine nl ?_
          refine sq ?_
          refine sr ?_
          refine mv rfl rfl ?_
          refine ge rfl rfl rfl ?_
          refine nl ?_
          refine cutT (fun l' H' L' => ∃ (p7 : Option Addr), ∃ (Nj7 : Chunk), [(2, .bool false), (7, .pointer (some ⟨b_1, 0, none⟩)), (8, .int .i16 v), (9, .bool (decide ((0 : Int) ≤ v))), (10, .pointer (some ⟨b, 0, none⟩))] = l' ∧ Nj7 :: [(b, .cells [.int .i16 v, .string ⟨x0.1.s.toArray⟩, .string ⟨x1.1.s.toArray⟩, .int .i32 (IntKind.i32.wrap x2.1.n), .pointer p3, .pointer p4, .int .i32 (IntKind.i32.wrap x5.1.n), .slice a6 (lT x6.1).length c6, .pointer p7, .pointer none, .slice none 0 0, .map none].toArray 223 (0, 0))] :: L = L' ∧ RdAt H' 232 b_1 x7.2 Nj7 ∧ TextAt H' x7.1 p7) ?_ (fun l' H' L' le_13 hI => ?_)
          · skip
            refine cd rfl (fun h150 => ?_) (fun h150 => ?_)
            · skip
              refine sr ?_
              refine asg rfl rfl ?_
              refine nl ?_
              refine sq ?_
              refine sr ?_
              refine mv rfl rfl ?_
              refine nl ?_
              refine cdT rfl (by omega) ?_
              refine sr ?_
              refine mv rfl rfl ?_
              refine nl ?_
              refine cF rfl ?_
              refine rg ?_
              have ex7 : x7 = decV 8 (decP [] v true) true true x6.2 := (hx7.trans (step_yes (by decide) (show (1 : Int) ≤ v by omega) (Or.inl (by decide)))).trans (decF'_val (by decide) (by simp only [Bool.and_eq_true, decide_eq_true_eq]; exact ⟨show (0 : Int) ≤ 1 by decide, show (1 : Int) ≤ v by omega⟩))
              refine cl rfl rfl rfl (d8tn hRx6 ex7) rfl (fun v_ H1 L1 le_14 hR_ => ?_)
              obtain ⟨N154, rfl, hR154, p7, rfl, hf7⟩ := hR_
              refine asg rfl rfl ?_
              refine nl ?_
              refine rg ?_
              refine mv rfl rfl ?_
              refine mv rfl rfl ?_
              refine nc rfl rfl ?_
              refine fa0 F223_8 rfl rfl ?_
              refine st Tryz.sizeOf131 rfl rfl rfl rfl (.tail .head) ?_
              refine nN ?_
              refine fun a_ w_ hA hw => ⟨_, _, _, hA.sub ?_, le_14, hw, p7, N154, rfl, rfl, hR154, hf7⟩
              exact (.cons rfl (.cons rfl (.cons rfl (.cons rfl (.cons rfl (.nil _))))))
            · skip
              refine skN ?_
              obtain rfl : x7 = ((Tr.mk 0 [] true [] []), x6.2) := (hx7.trans (step_no (Or.inl (show v < (1 : Int) by omega)))).trans (by rw [dflF_eq]; rfl)
              refine fun a_ w_ hA hw => ⟨_, _, _, hA.sub ?_, (Fz.le.refl _), hw, none, RN6, rfl, rfl, hRx6, TextAt.dfl⟩
              exact (.cons rfl (.cons rfl (.cons rfl (.cons rfl (.cons rfl (.nil _))))))
          · skip
            obtain ⟨p7, Nj7, rfl, rfl, pj0, pj1⟩ := hI
            have hRj7 := pj0
            have hf7 := pj1
            refine sq ?_
            refine sr ?_
            refine asg rfl rfl ?_
            refine nl ?_
            refine sq ?_
            refine sr ?_
            refine mv rfl rfl ?_
            refine nl ?_
            refine cdT rfl (by omega) ?_
            refine sr ?_
            refine mv rfl rfl ?_
            refine nl ?_
            refine cF rfl ?_
            refine rg ?_
            have ex8 : x8 = decV 8 (decP [] v true) true true x7.2 := (hx8.trans (step_yes (by decide) (show (0 : Int) ≤ v by omega) (Or.inl (by decide)))).trans (decF'_val (by decide) (by simp only [Bool.and_eq_true, decide_eq_true_eq]; exact ⟨show (0 : Int) ≤ 0 by decide, show (0 : Int) ≤ v by omega⟩))
            refine cl rfl rfl rfl (d8tn hRj7 ex8) rfl (fun v_ H1 L1 le_15 hR_ => ?_)
            obtain ⟨N165, rfl, hR165, p8, rfl, hf8⟩ := hR_
            refine asg rfl rfl ?_
            refine nl ?_
            refine rg ?_
            refine mv rfl rfl ?_
            refine mv rfl rfl ?_
            refine nc rfl rfl ?_
            refine fa0 F223_9 rfl rfl ?_
            refine st Tryz.sizeOf131 rfl rfl rfl rfl (.tail .head) ?_
            refine nl ?_
            refine sq ?_
            refine sr ?_
            refine mv rfl rfl ?_
            refine nc rfl rfl ?_
            refine fa0 F223_10 rfl rfl ?_
            refine ld (Says.own (.tail .head)) Tryz.isAgg221 rfl (Nat.zero_add _).symm rfl rfl ?_
            refine asg rfl rfl ?_
            refine nl ?_
            refine sr ?_
            refine mv rfl rfl ?_
            refine asg rfl rfl ?_
            refine nl ?_
            refine sr ?_
            refine asg rfl rfl ?_
            refine nl ?_
            refine sq ?_
            refine sr ?_
            refine mv rfl rfl ?_
            refine nl ?_
            refine cdT rfl (by omega) ?_
            refine rg ?_
            have ey9 : x9 = (.mk 0 [] (if 0 ≤ (0 : Int) ∧ (v < (0 : Int) ∨ (rArr true x8.2).1 = 0) then false else decide ((rArr true x8.2).1 ≤ 0)) (rMany (decV 10 (decP fs_sConsumerGroupHeartbeatRequestTopic v true) false true) (rArr true x8.2).1.toNat (rArr true x8.2).2).1 [], (rMany (decV 10 (decP fs_sConsumerGroupHeartbeatRequestTopic v true) false true) (rArr true x8.2).1.toNat (rArr true x8.2).2).2) := (hx9.trans (step_yes (by decide) (show (0 : Int) ≤ v by omega) (Or.inl (by decide)))).trans (decF'_list rfl rfl)
            have hn9 : (rArr true x8.2).1.toNat = (lT x9.1).length := by rw [ey9]; exact (lT_many nul_le).symm
            have ex9 := ey9
            rw [hn9] at ex9
            have hl9 := rArr_le true x8.2
            have hm9 : (rArr true x8.2).2.s.length ≤ BR := Nat.le_trans (rArr_len true x8.2) hL8
            have hnb9 : (lT x9.1).length ≤ BR := by omega
            refine cl rfl rfl rfl (r_arrt hR165) rfl (fun v_ H1 L1 hle_ hR_ => ?_)
            obtain ⟨rfl, N179, rfl, hR179, rfl⟩ := hR_
            have hh9 := rArr_hi true x8.2
            refine asg rfl rfl ?_
            refine nl ?_
            refine sq ?_
            refine sr ?_
            refine mv rfl rfl ?_
            refine lt rfl rfl rfl ?_
            refine mv rfl rfl ?_
            refine spl (t := 183) rfl (fun hn_ => absurd hn_ (by omega)) (fun _ => ?_)
            refine gr rfl rfl ?_
            refine mv rfl rfl ?_
            refine gr rfl rfl ?_
            refine eq' rfl rfl rfl ?_
            refine pk rfl rfl rfl rfl ?_
            refine nl ?_
            refine nulC2 ?_
            refine cutT (fun l' H' L' => ∃ (az9 : Option Addr), ∃ (Nz9 : Chunk), [(7, .pointer (some ⟨b_1, 0, none⟩)), (9, .bool (decide ((0 : Int) ≤ v))), (10, .pointer (some ⟨b, 0, none⟩)), (24, .slice none 0 0), (25, .slice az9 0 0), (26, .int .i32 (rArr true x8.2).1)] = l' ∧ Nz9 :: N179 :: [(b, .cells [.int .i16 v, .string ⟨x0.1.s.toArray⟩, .string ⟨x1.1.s.toArray⟩, .int .i32 (IntKind.i32.wrap x2.1.n), .pointer p3, .pointer p4, .int .i32 (IntKind.i32.wrap x5.1.n), .slice a6 (lT x6.1).length c6, .pointer p7, .pointer p8, .slice none 0 0, .map none].toArray 223 (0, 0))] :: L = L' ∧ Row 229 18 az9 0 0 [] Nz9 ∧ (¬ (0 : Int) < (rArr true x8.2).1 → az9.isNone = (if 0 ≤ (0 : Int) ∧ (v < (0 : Int) ∨ (rArr true x8.2).1 = 0) then false else decide ((rArr true x8.2).1 ≤ 0)))) ?_ (fun l' H' L' le_16 hI => ?_)
            · skip
              refine cd rfl (fun h186 => ?_) (fun h186 => ?_)
              · skip
                refine rg ?_
                refine bs' L221 rfl rfl rfl rfl (fun b_17 => ?_)
                refine asg rfl rfl ?_
                refine nN ?_
                refine drN (.tail .head) ?_
                refine fun a_ w_ hA hw => ⟨_, _, _, hA.sub ?_, (Fz.le.refl _), hw, (some ⟨b_17, 0, none⟩), _, rfl, rfl, (Row.whole (m := 0) rfl (by decide)), (fun _ => by rw [if_pos ⟨by decide, .inr h186⟩]; rfl)⟩
                exact (.cons rfl (.cons rfl (.cons rfl (.cons rfl (.cons rfl (.cons rfl (.nil _)))))))
              · skip
                refine skN ?_
                refine fun a_ w_ hA hw => ⟨_, _, _, hA.sub ?_, (Fz.le.refl _), hw, none, [], rfl, rfl, (Row.nil _ _), (fun hz_ => by rw [if_neg (by omega)]; exact (decide_eq_true (by omega)).symm)⟩
                exact (.cons rfl (.cons rfl (.cons rfl (.cons rfl (.cons rfl (.cons rfl (.nil _)))))))
            · skip
              obtain ⟨az9, Nz9, rfl, rfl, pj0, pj1⟩ := hI
              have hz09 := pj0
              have hz19 := pj1
              refine sq ?_
              refine sr ?_
              refine tf (.tail .head) ?_
              refine cl rfl rfl rfl (r_ok (hR179.mono le_16)) rfl (fun v_ H1 L1 hle_ hR_ => ?_)
              obtain ⟨rfl, rfl, rfl⟩ := hR_
              refine nt rfl rfl ?_
              refine nl ?_
              refine cb rfl (fun h189 => ?_) (fun h189 => ?_)
              · skip
                have hbad_ : (rArr true x8.2).2.bad = true := by simpa using h189
                refine sr ?_
                refine cl rfl rfl rfl (r_complete (hR179.mono le_16) (he.mono (le_5.trans (le_6.trans (le_8.trans (le_10.trans (le_11.trans (hlf6.trans (le_13.trans (le_15.trans le_16)))))))))) rfl (fun v_ H1 L1 hle_ hR_ => ?_)
                obtain ⟨rfl, rfl, rfl⟩ := hR_
                refine asg rfl rfl ?_
                refine nl ?_
                refine drW .head ?_
                refine drW .head ?_
                exact rT rfl rfl (le_5.trans (le_6.trans (le_8.trans (le_10.trans (le_11.trans (hlf6.trans (le_13.trans (le_15.trans le_16)))))))) (fun _ _ h => h) ⟨_, rfl, RdEnd.out (hB9 (by rw [ey9]; exact rMany_bad (fun r h => decV_bad (decP_bad _ _ _) h) _ _ hbad_)) hbad_⟩
              · skip
                refine skt ?_
                refine sr ?_
                refine mv rfl rfl ?_
                refine sh' (j := 0) Tryz.runUnderlying221 Tryz.sizeOf229 rfl rfl rfl (Nat.zero_le _) rfl ?_
                refine asg rfl rfl ?_
                refine nl ?_
                refine sq ?_
                refine sr ?_
                refine mv rfl rfl ?_
                refine gt rfl rfl rfl ?_
                refine nl ?_
                refine cutT (fun l' H' L' => ∃ (a9 : Option Addr), ∃ (c9 : Nat), ∃ (Nr9 : Chunk), [(7, .pointer (some ⟨b_1, 0, none⟩)), (9, .bool (decide ((0 : Int) ≤ v))), (10, .pointer (some ⟨b, 0, none⟩)), (24, .slice none 0 0), (25, .slice a9 (lT x9.1).length c9), (26, .int .i32 (rArr true x8.2).1)] = l' ∧ N179 :: Nr9 :: [(b, .cells [.int .i16 v, .string ⟨x0.1.s.toArray⟩, .string ⟨x1.1.s.toArray⟩, .int .i32 (IntKind.i32.wrap x2.1.n), .pointer p3, .pointer p4, .int .i32 (IntKind.i32.wrap x5.1.n), .slice a6 (lT x6.1).length c6, .pointer p7, .pointer p8, .slice none 0 0, .map none].toArray 223 (0, 0))] :: L = L' ∧ Row 229 18 a9 (lT x9.1).length c9 (reps [.int .u8 0, .int .u8 0, .int .u8 0, .int .u8 0, .int .u8 0, .int .u8 0, .int .u8 0, .int .u8 0, .int .u8 0, .int .u8 0, .int .u8 0, .int .u8 0, .int .u8 0, .int .u8 0, .int .u8 0, .int .u8 0, .slice none 0 0, .map none] (lT x9.1).length) Nr9 ∧ a9.isNone = (if 0 ≤ (0 : Int) ∧ (v < (0 : Int) ∨ (rArr true x8.2).1 = 0) then false else decide ((rArr true x8.2).1 ≤ 0))) ?_ (fun l' H' L' le_18 hI => ?_)
                · skip
                  refine cd rfl (fun h194 => ?_) (fun h194 => ?_)
                  · skip
                    refine rg ?_
                    refine mv rfl rfl ?_
                    refine mv rfl rfl ?_
                    refine apz (zs := [.int .u8 0, .int .u8 0, .int .u8 0, .int .u8 0, .int .u8 0, .int .u8 0, .int .u8 0, .int .u8 0, .int .u8 0, .int .u8 0, .int .u8 0, .int .u8 0, .int .u8 0, .int .u8 0, .int .u8 0, .int .u8 0, .slice none 0 0, .map none]) (m := (lT x9.1).length) Tryz.underlying221 Tryz.underlying21 I229 rfl rfl rfl (by omega) (by omega) (by have h9 := hnb9; unfold BR at h9; omega) (by have h9 := hnb9; unfold BR at h9; unfold maxLen; omega) rfl (fun g197 cp197 N197 r197 => ?_)
                    refine asg rfl rfl ?_
                    refine nN ?_
                    refine drN (.tail (.tail .head)) ?_
                    refine tfN (.tail .head) ?_
                    refine fun a_ w_ hA hw => ⟨_, _, _, hA.sub ?_, (Fz.le.refl _), hw, (some ⟨g197, 0, none⟩), cp197, N197, rfl, rfl, r197, (by split; rfl; exact (decide_eq_false (by omega)).symm)⟩
                    exact (.cons rfl (.cons rfl (.cons rfl (.cons rfl (.cons rfl (.cons rfl (.nil _)))))))
                  · skip
                    refine skN ?_
                    refine fun a_ w_ hA hw => ⟨_, _, _, hA.sub ?_, (Fz.le.refl _), hw, az9, 0, Nz9, rfl, rfl, (by rw [show (lT x9.1).length = 0 by omega]; exact hz09), (hz19 (by omega))⟩
                    exact (.cons rfl (.cons rfl (.cons rfl (.cons rfl (.cons (by rw [show (lT x9.1).length = 0 by omega]; rfl) (.cons rfl (.nil _)))))))
                · skip
                  obtain ⟨a9, c9, Nr9, rfl, rfl, pj0, pj1⟩ := hI
                  have hr9 := pj0
                  have hi9 := pj1
                  refine sq ?_
                  refine sr ?_
                  refine asg rfl rfl ?_
                  refine nl ?_
                  refine bl (lp ((lT x9.1).length) (fun k9 l' H' L' => ∃ (es9 : List (KE 18)) (M9 RN9 : Chunk), [(7, .pointer (some ⟨b_1, 0, none⟩)), (9, .bool (decide ((0 : Int) ≤ v))), (10, .pointer (some ⟨b, 0, none⟩)), (24, .slice none 0 0), (25, .slice a9 (lT x9.1).length c9), (26, .int .i32 (rArr true x8.2).1), (27, .int .i32 (k9 : Int))] = l' ∧ RN9 :: M9 :: [(b, .cells [.int .i16 v, .string ⟨x0.1.s.toArray⟩, .string ⟨x1.1.s.toArray⟩, .int .i32 (IntKind.i32.wrap x2.1.n), .pointer p3, .pointer p4, .int .i32 (IntKind.i32.wrap x5.1.n), .slice a6 (lT x6.1).length c6, .pointer p7, .pointer p8, .slice none 0 0, .map none].toArray 223 (0, 0))] :: L = L' ∧ RdAt H' 232 b_1 (rMany (decV 10 (decP fs_sConsumerGroupHeartbeatRequestTopic v true) false true) k9 (rArr true x8.2).2).2 RN9 ∧ Row 229 18 a9 (lT x9.1).length c9 (es9.flatMap fk ++ reps [.int .u8 0, .int .u8 0, .int .u8 0, .int .u8 0, .int .u8 0, .int .u8 0, .int .u8 0, .int .u8 0, .int .u8 0, .int .u8 0, .int .u8 0, .int .u8 0, .int .u8 0, .int .u8 0, .int .u8 0, .int .u8 0, .slice none 0 0, .map none] ((lT x9.1).length - k9)) M9 ∧ es9.map (·.2) = (rMany (decV 10 (decP fs_sConsumerGroupHeartbeatRequestTopic v true) false true) k9 (rArr true x8.2).2).1 ∧ ∀ p ∈ es9, At_ConsumerGroupHeartbeatRequestTopic H' p.2 (fk p)) [(7, .pointer (some ⟨b_1, 0, none⟩)), (9, .bool (decide ((0 : Int) ≤ v))), (10, .pointer (some ⟨b, 0, none⟩)), (24, .slice none 0 0), (25, .slice a9 (lT x9.1).length c9), (26, .int .i32 (rArr true x8.2).1), (27, .int .i32 (0 : Int))] (.cons rfl (.cons rfl (.cons rfl (.cons rfl (.cons rfl (.cons rfl (.cons rfl (.nil _)))))))) ⟨[], Nr9, _, rfl, rfl, (hR179.mono (le_16.trans le_18)), hr9, rfl, (fun p hp => by cases hp)⟩ (fun k9 l' H' L' hk9 le_19 hI => ?_))
                  obtain ⟨es9, M9, RN9, rfl, rfl, hR_9, hw_9, he_9, hg_9⟩ := hI
                  have hs_9 := els_len he_9
                  have hp_9 : (es9.flatMap fk).length = k9 * 18 := els_flat hs_9
                  refine sq ?_
                  refine sr ?_
                  refine mv rfl rfl ?_
                  refine mv rfl rfl ?_
                  refine lt rfl rfl rfl ?_
                  refine nl ?_
                  refine cd rfl (fun h200 => ?_) (fun h200 => ?_)
                  · skip
                    have hkl9 : k9 < (lT x9.1).length := by omega
                    obtain ⟨g9, po9, hga9, rfl, hbk9⟩ := hw_9.next (zs := [.int .u8 0, .int .u8 0, .int .u8 0, .int .u8 0, .int .u8 0, .int .u8 0, .int .u8 0, .int .u8 0, .int .u8 0, .int .u8 0, .int .u8 0, .int .u8 0, .int .u8 0, .int .u8 0, .int .u8 0, .int .u8 0, .slice none 0 0, .map none]) hkl9 rfl (by decide)
                    have ho9 : 0 + k9 * 18 = (es9.flatMap fk).length := by rw [hp_9]; omega
                    have hbz9 : ((decV 10 (decP fs_sConsumerGroupHeartbeatRequestTopic v true) false true) (rMany (decV 10 (decP fs_sConsumerGroupHeartbeatRequestTopic v true) false true) k9 (rArr true x8.2).2).2).2.bad = true → (decP fs_ConsumerGroupHeartbeatRequest v true ⟨s, false, !a.isNone⟩).2.bad = true := fun h => hB9 (by rw [ex9]; exact rMany_mono (fun r h => decV_bad (fun r h => decP_bad _ _ _ r h) h) _ (show k9 + 1 ≤ (lT x9.1).length from hkl9) (by rw [rMany_succ]; exact h))
                    have hLk9 : (rMany (decV 10 (decP fs_sConsumerGroupHeartbeatRequestTopic v true) false true) k9 (rArr true x8.2).2).2.s.length ≤ BR := Nat.le_trans (rMany_shr (fun r => decV_shr (fun r => decP_shr _ _ _ r) r) _ _) hm9
                    have hL9__ := hLk9
                    obtain ⟨x9_0, hx9_0⟩ : ∃ x, x = stepF (Fd.mk 7 0 (-1) (-1) (-1) 0 0 []) v true (rMany (decV 10 (decP fs_sConsumerGroupHeartbeatRequestTopic v true) false true) k9 (rArr true x8.2).2).2 := ⟨_, rfl⟩
                    obtain ⟨x9_1, hx9_1⟩ : ∃ x, x = stepF (Fd.mk 11 0 (-1) (-1) (-1) 0 3 []) v true x9_0.2 := ⟨_, rfl⟩
                    obtain ⟨u9_, hu9_⟩ : ∃ x, x = tailU true x9_1.2 := ⟨_, rfl⟩
                    have hD9_ : decP fs_sConsumerGroupHeartbeatRequestTopic v true (rMany (decV 10 (decP fs_sConsumerGroupHeartbeatRequestTopic v true) false true) k9 (rArr true x8.2).2).2 = (.mk 0 [] false [x9_0.1, x9_1.1] u9_.1, u9_.2) := by
                      generalize ((rMany (decV 10 (decP fs_sConsumerGroupHeartbeatRequestTopic v true) false true) k9 (rArr true x8.2).2).2 : Rd) = r_ at hx9_0 ⊢
                      rw [decP_eq]; unfold fs_sConsumerGroupHeartbeatRequestTopic; simp only [decFs_cons, decFs_nil, ← hx9_0, ← hx9_1, ← hu9_]
                    have hL9_0 : x9_0.2.s.length ≤ BR := by rw [hx9_0]; exact Nat.le_trans (stepF_shr _ _ _ _) hL9__
                    have hL9_1 : x9_1.2.s.length ≤ BR := by rw [hx9_1]; exact Nat.le_trans (stepF_shr _ _ _ _) hL9_0
                    have hE9_ : u9_.2.bad = true → (decP fs_ConsumerGroupHeartbeatRequest v true ⟨s, false, !a.isNone⟩).2.bad = true := fun h => hbz9 (by show (decP fs_sConsumerGroupHeartbeatRequestTopic v true (rMany (decV 10 (decP fs_sConsumerGroupHeartbeatRequestTopic v true) false true) k9 (rArr true x8.2).2).2).2.bad = true; rw [hD9_]; exact h)
                    have hB9_1 : x9_1.2.bad = true → (decP fs_ConsumerGroupHeartbeatRequest v true ⟨s, false, !a.isNone⟩).2.bad = true := fun h => hE9_ (by rw [hu9_]; exact tailU_bad h)
                    have hB9_0 : x9_0.2.bad = true → (decP fs_ConsumerGroupHeartbeatRequest v true ⟨s, false, !a.isNone⟩).2.bad = true := fun h => hB9_1 (by rw [hx9_1]; exact step_bad h)
                    refine skt ?_
                    refine sq ?_
                    refine bl ?_
                    refine sr ?_
                    refine mv rfl rfl ?_
                    refine mv rfl rfl ?_
                    refine ixk (j := k9) Tryz.runUnderlying221 Tryz.sizeOf229 rfl hga9 rfl rfl hkl9 rfl ?_
                    refine asg rfl rfl ?_
                    refine nl ?_
                    refine sr ?_
                    refine mv rfl rfl ?_
                    refine tf (.tail .head) ?_
                    refine cl rfl rfl rfl (def_ConsumerGroupHeartbeatRequestTopic ho9) rfl (fun v_ H1 L1 hle_ hR_ => ?_)
                    obtain ⟨rfl, rfl⟩ := hR_
                    refine nl ?_
                    refine sr ?_
                    refine mv rfl rfl ?_
                    refine asg rfl rfl ?_
                    refine nl ?_
                    refine sq ?_
                    refine sr ?_
                    refine tf (.tail .head) ?_
                    have ex9_0 : x9_0 = decV 7 (decP [] v true) false true (rMany (decV 10 (decP fs_sConsumerGroupHeartbeatRequestTopic v true) false true) k9 (rArr true x8.2).2).2 := (hx9_0.trans (step_yes (by decide) (show (0 : Int) ≤ v by omega) (Or.inl (by decide)))).trans (decF'_val (by decide) (rfl))
                    refine cl rfl rfl rfl (d7 hR_9 ex9_0) rfl (fun v_ H1 L1 hle_ hR_ => ?_)
                    obtain ⟨N209, rfl, hR209, rfl, rfl⟩ := hR_
                    refine al Tryz.zeroValue182 rfl rfl (fun b_21 => ?_)
                    refine sa Tryz.sizeOf182 rfl rfl rfl rfl rfl .head ?_
                    refine nl ?_
                    refine rg ?_
                    refine mv rfl rfl ?_
                    refine la (Says.own .head) Tryz.isAgg182 Tryz.sizeOf182 rfl (Nat.zero_add _).symm rfl rfl ?_
                    refine nc rfl rfl ?_
                    refine fa F229_0 rfl rfl ?_
                    refine saM (off := 0) Tryz.sizeOf182 rfl (by rw [ho9]) rfl rfl rfl rfl (.tail (.tail .head)) ?_
                    refine nl ?_
                    refine sq ?_
                    refine sr ?_
                    refine mv rfl rfl ?_
                    refine nc rfl rfl ?_
                    refine fa F229_1 rfl rfl ?_
                    refine ld (j := 16) (off := 0 + k9 * 18) (Says.mid (.tail (.tail .head)) ho9) Tryz.isAgg227 rfl rfl rfl rfl ?_
                    refine asg rfl rfl ?_
                    refine nl ?_
                    refine sr ?_
                    refine mv rfl rfl ?_
                    refine asg rfl rfl ?_
                    refine nl ?_
                    refine sr ?_
                    refine asg rfl rfl ?_
                    refine nl ?_
                    refine sq ?_
                    refine sr ?_
                    refine mv rfl rfl ?_
                    refine nl ?_
                    refine cdT rfl (by omega) ?_
                    refine rg ?_
                    have ey9_1 : x9_1 = (.mk 0 [] (if 0 ≤ ((-1) : Int) ∧ (v < ((-1) : Int) ∨ (rArr true x9_0.2).1 = 0) then false else decide ((rArr true x9_0.2).1 ≤ 0)) (rMany (decV 3 (decP [] v true) false true) (rArr true x9_0.2).1.toNat (rArr true x9_0.2).2).1 [], (rMany (decV 3 (decP [] v true) false true) (rArr true x9_0.2).1.toNat (rArr true x9_0.2).2).2) := (hx9_1.trans (step_yes (by decide) (show (0 : Int) ≤ v by omega) (Or.inl (by decide)))).trans (decF'_list rfl rfl)
                    have hn9_1 : (rArr true x9_0.2).1.toNat = (lT x9_1.1).length := by rw [ey9_1]; exact (lT_many nul_le).symm
                    have ex9_1 := ey9_1
                    rw [hn9_1] at ex9_1
                    have hl9_1 := rArr_le true x9_0.2
                    have hm9_1 : (rArr true x9_0.2).2.s.length ≤ BR := Nat.le_trans (rArr_len true x9_0.2) hL9_0
                    have hnb9_1 : (lT x9_1.1).length ≤ BR := by omega
                    refine tf (.tail .head) ?_
                    refine cl rfl rfl rfl (r_arrt hR209) rfl (fun v_ H1 L1 hle_ hR_ => ?_)
                    obtain ⟨rfl, N220, rfl, hR220, rfl⟩ := hR_
                    have hh9_1 := rArr_hi true x9_0.2
                    refine asg rfl rfl ?_
                    refine nl ?_
                    refine sq ?_
                    refine sr ?_
                    refine cl rfl rfl rfl (r_ok hR220) rfl (fun v_ H1 L1 hle_ hR_ => ?_)
                    obtain ⟨rfl, rfl, rfl⟩ := hR_
                    refine nt rfl rfl ?_
                    refine nl ?_
                    refine cb rfl (fun h223 => ?_) (fun h223 => ?_)
                    · skip
                      have hbad_ : (rArr true x9_0.2).2.bad = true := by simpa using h223
                      refine sr ?_
                      refine cl rfl rfl rfl (r_complete hR220 (he.mono (le_5.trans (le_6.trans (le_8.trans (le_10.trans (le_11.trans (hlf6.trans (le_13.trans (le_15.trans (le_16.trans (le_18.trans le_19)))))))))))) rfl (fun v_ H1 L1 hle_ hR_ => ?_)
                      obtain ⟨rfl, rfl, rfl⟩ := hR_
                      refine asg rfl rfl ?_
                      refine nl ?_
                      refine drW .head ?_
                      refine drW .head ?_
                      refine drW .head ?_
                      exact rT rfl rfl (le_5.trans (le_6.trans (le_8.trans (le_10.trans (le_11.trans (hlf6.trans (le_13.trans (le_15.trans (le_16.trans (le_18.trans le_19)))))))))) (fun _ _ h => h) ⟨_, rfl, RdEnd.out (hB9_1 (by rw [ey9_1]; exact rMany_bad (fun r h => decV_bad (decP_bad _ _ _) h) _ _ hbad_)) hbad_⟩
                    · skip
                      refine skt ?_
                      refine sr ?_
                      refine mv rfl rfl ?_
                      refine sh' (j := 0) Tryz.runUnderlying227 Tryz.sizeOf21 rfl rfl rfl (Nat.zero_le _) rfl ?_
                      refine asg rfl rfl ?_
                      refine nl ?_
                      refine sq ?_
                      refine sr ?_
                      refine mv rfl rfl ?_
                      refine gt rfl rfl rfl ?_
                      refine nl ?_
                      refine nulC2 ?_
                      refine cutT (fun l' H' L' => ∃ (a9_1 : Option Addr), ∃ (c9_1 : Nat), ∃ (Nr9_1 : Chunk), [(7, .pointer (some ⟨b_1, 0, none⟩)), (9, .bool (decide ((0 : Int) ≤ v))), (10, .pointer (some ⟨b, 0, none⟩)), (24, .slice none 0 0), (25, .slice a9 (lT x9.1).length c9), (26, .int .i32 (rArr true x8.2).1), (27, .int .i32 (k9 : Int)), (29, .pointer (some ⟨g9, 0 + k9 * 18, none⟩)), (31, .slice none 0 0), (32, .slice a9_1 (lT x9_1.1).length c9_1), (33, .int .i32 (rArr true x9_0.2).1)] = l' ∧ Nr9_1 :: N220 :: [(b_21, .cells [ub x9_0.1.s 0, ub x9_0.1.s 1, ub x9_0.1.s 2, ub x9_0.1.s 3, ub x9_0.1.s 4, ub x9_0.1.s 5, ub x9_0.1.s 6, ub x9_0.1.s 7, ub x9_0.1.s 8, ub x9_0.1.s 9, ub x9_0.1.s 10, ub x9_0.1.s 11, ub x9_0.1.s 12, ub x9_0.1.s 13, ub x9_0.1.s 14, ub x9_0.1.s 15].toArray 182 (0, 0))] :: [(g9, .cells ((es9.flatMap fk) ++ ([ub x9_0.1.s 0, ub x9_0.1.s 1, ub x9_0.1.s 2, ub x9_0.1.s 3, ub x9_0.1.s 4, ub x9_0.1.s 5, ub x9_0.1.s 6, ub x9_0.1.s 7, ub x9_0.1.s 8, ub x9_0.1.s 9, ub x9_0.1.s 10, ub x9_0.1.s 11, ub x9_0.1.s 12, ub x9_0.1.s 13, ub x9_0.1.s 14, ub x9_0.1.s 15, .slice none 0 0, .map none] : List Value) ++ po9).toArray 229 (0, 0))] :: [(b, .cells [.int .i16 v, .string ⟨x0.1.s.toArray⟩, .string ⟨x1.1.s.toArray⟩, .int .i32 (IntKind.i32.wrap x2.1.n), .pointer p3, .pointer p4, .int .i32 (IntKind.i32.wrap x5.1.n), .slice a6 (lT x6.1).length c6, .pointer p7, .pointer p8, .slice none 0 0, .map none].toArray 223 (0, 0))] :: L = L' ∧ Row 21 1 a9_1 (lT x9_1.1).length c9_1 (reps [.int .i32 0] (lT x9_1.1).length) Nr9_1 ∧ a9_1.isNone = (if 0 ≤ ((-1) : Int) ∧ (v < ((-1) : Int) ∨ (rArr true x9_0.2).1 = 0) then false else decide ((rArr true x9_0.2).1 ≤ 0))) ?_ (fun l' H' L' le_22 hI => ?_)
                      · skip
                        refine cd rfl (fun h228 => ?_) (fun h228 => ?_)
                        · skip
                          refine rg ?_
                          refine mv rfl rfl ?_
                          refine mv rfl rfl ?_
                          refine apz (zs := [.int .i32 0]) (m := (lT x9_1.1).length) Tryz.underlying227 Tryz.underlying21 I21 rfl rfl rfl (by omega) (by omega) (by have h9 := hnb9_1; unfold BR at h9; omega) (by have h9 := hnb9_1; unfold BR at h9; unfold maxLen; omega) rfl (fun g231 cp231 N231 r231 => ?_)
                          refine asg rfl rfl ?_
                          refine nN ?_
                          refine drN (.tail .head) ?_
                          refine fun a_ w_ hA hw => ⟨_, _, _, hA.sub ?_, (Fz.le.refl _), hw, (some ⟨g231, 0, none⟩), cp231, N231, rfl, rfl, r231, (by rw [if_neg (by omega)]; exact (decide_eq_false (by omega)).symm)⟩
                          exact (.cons rfl (.cons rfl (.cons rfl (.cons rfl (.cons rfl (.cons rfl (.cons rfl (.cons rfl (.cons rfl (.cons rfl (.cons rfl (.nil _))))))))))))
                        · skip
                          refine skN ?_
                          refine fun a_ w_ hA hw => ⟨_, _, _, hA.sub ?_, (Fz.le.refl _), hw, none, 0, [], rfl, rfl, (by rw [show (lT x9_1.1).length = 0 by omega]; exact (Row.nil _ _)), (by rw [if_neg (by omega)]; exact (decide_eq_true (by omega)).symm)⟩
                          exact (.cons rfl (.cons rfl (.cons rfl (.cons rfl (.cons rfl (.cons rfl (.cons rfl (.cons rfl (.cons rfl (.cons (by rw [show (lT x9_1.1).length = 0 by omega]; rfl) (.cons rfl (.nil _))))))))))))
                      · skip
                        obtain ⟨a9_1, c9_1, Nr9_1, rfl, rfl, pj0, pj1⟩ := hI
                        have hr9_1 := pj0
                        have hi9_1 := pj1
                        refine sq ?_
                        refine sr ?_
                        refine asg rfl rfl ?_
                        refine nl ?_
                        refine bl (lp ((lT x9_1.1).length) (fun k9_1 l' H' L' => ∃ (es9_1 : List (KE 1)) (M9_1 RN9_1 : Chunk), [(7, .pointer (some ⟨b_1, 0, none⟩)), (9, .bool (decide ((0 : Int) ≤ v))), (10, .pointer (some ⟨b, 0, none⟩)), (24, .slice none 0 0), (25, .slice a9 (lT x9.1).length c9), (26, .int .i32 (rArr true x8.2).1), (27, .int .i32 (k9 : Int)), (29, .pointer (some ⟨g9, 0 + k9 * 18, none⟩)), (31, .slice none 0 0), (32, .slice a9_1 (lT x9_1.1).length c9_1), (33, .int .i32 (rArr true x9_0.2).1), (34, .int .i32 (k9_1 : Int))] = l' ∧ M9_1 :: RN9_1 :: [(b_21, .cells [ub x9_0.1.s 0, ub x9_0.1.s 1, ub x9_0.1.s 2, ub x9_0.1.s 3, ub x9_0.1.s 4, ub x9_0.1.s 5, ub x9_0.1.s 6, ub x9_0.1.s 7, ub x9_0.1.s 8, ub x9_0.1.s 9, ub x9_0.1.s 10, ub x9_0.1.s 11, ub x9_0.1.s 12, ub x9_0.1.s 13, ub x9_0.1.s 14, ub x9_0.1.s 15].toArray 182 (0, 0))] :: [(g9, .cells ((es9.flatMap fk) ++ ([ub x9_0.1.s 0, ub x9_0.1.s 1, ub x9_0.1.s 2, ub x9_0.1.s 3, ub x9_0.1.s 4, ub x9_0.1.s 5, ub x9_0.1.s 6, ub x9_0.1.s 7, ub x9_0.1.s 8, ub x9_0.1.s 9, ub x9_0.1.s 10, ub x9_0.1.s 11, ub x9_0.1.s 12, ub x9_0.1.s 13, ub x9_0.1.s 14, ub x9_0.1.s 15, .slice none 0 0, .map none] : List Value) ++ po9).toArray 229 (0, 0))] :: [(b, .cells [.int .i16 v, .string ⟨x0.1.s.toArray⟩, .string ⟨x1.1.s.toArray⟩, .int .i32 (IntKind.i32.wrap x2.1.n), .pointer p3, .pointer p4, .int .i32 (IntKind.i32.wrap x5.1.n), .slice a6 (lT x6.1).length c6, .pointer p7, .pointer p8, .slice none 0 0, .map none].toArray 223 (0, 0))] :: L = L' ∧ RdAt H' 232 b_1 (rMany (decV 3 (decP [] v true) false true) k9_1 (rArr true x9_0.2).2).2 RN9_1 ∧ Row 21 1 a9_1 (lT x9_1.1).length c9_1 (es9_1.flatMap fk ++ reps [.int .i32 0] ((lT x9_1.1).length - k9_1)) M9_1 ∧ es9_1.map (·.2) = (rMany (decV 3 (decP [] v true) false true) k9_1 (rArr true x9_0.2).2).1 ∧ ∀ p ∈ es9_1, RI32 H' p.2 (fk p)) [(7, .pointer (some ⟨b_1, 0, none⟩)), (9, .bool (decide ((0 : Int) ≤ v))), (10, .pointer (some ⟨b, 0, none⟩)), (24, .slice none 0 0), (25, .slice a9 (lT x9.1).length c9), (26, .int .i32 (rArr true x8.2).1), (27, .int .i32 (k9 : Int)), (29, .pointer (some ⟨g9, 0 + k9 * 18, none⟩)), (31, .slice none 0 0), (32, .slice a9_1 (lT x9_1.1).length c9_1), (33, .int .i32 (rArr true x9_0.2).1), (34, .int .i32 (0 : Int))] (.cons rfl (.cons rfl (.cons rfl (.cons rfl (.cons rfl (.cons rfl (.cons rfl (.cons rfl (.cons rfl (.cons rfl (.cons rfl (.cons rfl (.nil _))))))))))))) ⟨[], Nr9_1, _, rfl, rfl, (hR220.mono le_22), hr9_1, rfl, (fun p hp => by cases hp)⟩ (fun k9_1 l' H' L' hk9_1 le_23 hI => ?_))
                        obtain ⟨es9_1, M9_1, RN9_1, rfl, rfl, hR_9_1, hw_9_1, he_9_1, hg_9_1⟩ := hI
                        have hs_9_1 := els_len he_9_1
                        have hp_9_1 : (es9_1.flatMap fk).length = k9_1 * 1 := els_flat hs_9_1
                        refine sq ?_
                        refine sr ?_
                        refine mv rfl rfl ?_
                        refine mv rfl rfl ?_
                        refine lt rfl rfl rfl ?_
                        refine nl ?_
                        refine cd rfl (fun h234 => ?_) (fun h234 => ?_)
                        · skip
                          have hkl9_1 : k9_1 < (lT x9_1.1).length := by omega
                          obtain ⟨g9_1, po9_1, hga9_1, rfl, hbk9_1⟩ := hw_9_1.next (zs := [.int .i32 0]) hkl9_1 rfl (by decide)
                          have ho9_1 : 0 + k9_1 * 1 = (es9_1.flatMap fk).length := by rw [hp_9_1]; omega
                          have hbz9_1 : ((decV 3 (decP [] v true) false true) (rMany (decV 3 (decP [] v true) false true) k9_1 (rArr true x9_0.2).2).2).2.bad = true → (decP fs_ConsumerGroupHeartbeatRequest v true ⟨s, false, !a.isNone⟩).2.bad = true := fun h => hB9_1 (by rw [ex9_1]; exact rMany_mono (fun r h => decV_bad (fun r h => decP_bad _ _ _ r h) h) _ (show k9_1 + 1 ≤ (lT x9_1.1).length from hkl9_1) (by rw [rMany_succ]; exact h))
                          have hLk9_1 : (rMany (decV 3 (decP [] v true) false true) k9_1 (rArr true x9_0.2).2).2.s.length ≤ BR := Nat.le_trans (rMany_shr (fun r => decV_shr (fun r => decP_shr _ _ _ r) r) _ _) hm9_1
                          obtain ⟨y9_1, hy9_1⟩ : ∃ x, x = (decV 3 (decP [] v true) false true) (rMany (decV 3 (decP [] v true) false true) k9_1 (rArr true x9_0.2).2).2 := ⟨_, rfl⟩
                          refine skt ?_
                          refine sq ?_
                          refine bl ?_
                          refine sr ?_
                          refine tf (.tail .head) ?_
                          refine cl rfl rfl rfl (d3 hR_9_1 hy9_1) rfl (fun v_ H1 L1 hle_ hR_ => ?_)
                          obtain ⟨N237, rfl, hR237, rfl, rfl⟩ := hR_
                          refine asg rfl rfl ?_
                          refine nl ?_
                          refine rg ?_
                          refine mv rfl rfl ?_
                          refine mv rfl rfl ?_
                          refine mv rfl rfl ?_
                          refine ixk (j := k9_1) Tryz.runUnderlying227 Tryz.sizeOf21 rfl hga9_1 rfl rfl hkl9_1 rfl ?_
                          refine stM (off := 0) Tryz.sizeOf21 rfl ho9_1 rfl rfl rfl (.tail .head) ?_
                          refine nN ?_
                          refine Nb ?_
                          refine Nt ?_
                          refine rg ?_
                          refine mv rfl rfl ?_
                          refine ad rfl rfl (c := ((k9_1 + 1 : Nat) : Int)) ((wrap32_le (by omega) (by omega)).trans (by omega)) rfl ?_
                          refine asg rfl rfl ?_
                          refine nN ?_
                          have hfs9_1 := flatMap_snoc' fk es9_1 ((⟨([.int .i32 (IntKind.i32.wrap y9_1.1.n)] : List Value), rfl, all_one rfl⟩, ((decV 3 (decP [] v true) false true) (rMany (decV 3 (decP [] v true) false true) k9_1 (rArr true x9_0.2).2).2).1) : KE 1)
                          have hrw9_1 := hbk9_1 ([.int .i32 (IntKind.i32.wrap y9_1.1.n)] : List Value) rfl
                          refine tfN (.tail .head) ?_
                          refine fun a_ w_ hA hw => ⟨hkl9_1, _, _, _, hA.sub ?_, le_23, hw, _, _, _, rfl, rfl, (by rw [rMany_succ, ← hy9_1]; exact hR237), (by rw [← hfs9_1]; exact hrw9_1), (dec_els he_9_1), (fun p hp => (mem_snoc hp).elim (fun h => RI32.mono _ _ _ _ (Fz.le.refl _) (hg_9_1 p h)) (fun h => h ▸ (by show RI32 _ ((decV 3 (decP [] v true) false true) (rMany (decV 3 (decP [] v true) false true) k9_1 (rArr true x9_0.2).2).2).1 [.int .i32 (IntKind.i32.wrap y9_1.1.n)]; rw [← hy9_1]; rfl)))⟩
                          exact (.cons rfl (.cons rfl (.cons rfl (.cons rfl (.cons rfl (.cons rfl (.cons rfl (.cons rfl (.cons rfl (.cons rfl (.cons rfl (.cons rfl (.nil _)))))))))))))
                        · skip
                          have hkn_ : k9_1 = (lT x9_1.1).length := by omega
                          subst hkn_
                          have hw2_9_1 : Row 21 1 a9_1 (lT x9_1.1).length c9_1 (es9_1.flatMap fk) M9_1 := by have h := hw_9_1; rw [Nat.sub_self] at h; simpa [reps] using h
                          refine frW hw2_9_1 .head (fun Hf9_1 hlf9_1 hfz9_1 => ?_)
                          have hrs9_1 := RowsAt.row (R := RI32) hfz9_1 hs_9_1.symm hw2_9_1.le.1 (fun p hp => RI32.mono _ _ _ _ hlf9_1 (hg_9_1 p hp))
                          rw [he_9_1] at hrs9_1
                          have hf9_1 : ListAt Hf9_1 x9_1.1 1 RI32 a9_1 c9_1 := by rw [ex9_1]; exact listAt_of hrs9_1 hi9_1 (fun h => by have h1 := nul_le h; rw [show (lT x9_1.1).length = 0 by omega]; rfl)
                          have hRx9_1 : RdAt Hf9_1 232 b_1 x9_1.2 RN9_1 := by rw [ex9_1]; exact (hR_9_1.mono hlf9_1)
                          refine exX ?_
                          refine XT ?_
                          refine XT ?_
                          refine Xb ?_
                          refine Nt ?_
                          refine sr ?_
                          refine mv rfl rfl ?_
                          refine asg rfl rfl ?_
                          refine nl ?_
                          refine rg ?_
                          refine mv rfl rfl ?_
                          refine mv rfl rfl ?_
                          refine nc rfl rfl ?_
                          refine fa F229_1 rfl rfl ?_
                          refine stM (off := 16) Tryz.sizeOf227 rfl (by rw [ho9]) rfl rfl rfl (.tail (.tail .head)) ?_
                          refine nl ?_
                          refine sr ?_
                          refine mv rfl rfl ?_
                          refine nl ?_
                          refine cdT rfl (by omega) ?_
                          refine rg ?_
                          refine mv rfl rfl ?_
                          refine cl rfl rfl rfl (d_tags hRx9_1) rfl (fun v_ H1 L1 le_25 hR_ => ?_)
                          obtain ⟨N249, rfl, hR249, m9_t, rfl, hft9_⟩ := hR_
                          have hu29_ : u9_ = rTags x9_1.2 := hu9_
                          rw [← hu29_] at hR249 hft9_
                          refine nc rfl rfl ?_
                          refine fa F229_2 rfl rfl ?_
                          refine saM (off := 17) Tryz.sizeOf105 rfl (by rw [ho9]) rfl rfl rfl rfl (.tail (.tail .head)) ?_
                          refine nN ?_
                          refine Nb ?_
                          refine Nt ?_
                          refine rg ?_
                          refine mv rfl rfl ?_
                          refine ad rfl rfl (c := ((k9 + 1 : Nat) : Int)) ((wrap32_le (by omega) (by omega)).trans (by omega)) rfl ?_
                          refine asg rfl rfl ?_
                          refine nN ?_
                          have hfs9 := flatMap_snoc' fk es9 ((⟨([ub x9_0.1.s 0, ub x9_0.1.s 1, ub x9_0.1.s 2, ub x9_0.1.s 3, ub x9_0.1.s 4, ub x9_0.1.s 5, ub x9_0.1.s 6, ub x9_0.1.s 7, ub x9_0.1.s 8, ub x9_0.1.s 9, ub x9_0.1.s 10, ub x9_0.1.s 11, ub x9_0.1.s 12, ub x9_0.1.s 13, ub x9_0.1.s 14, ub x9_0.1.s 15, .slice a9_1 (lT x9_1.1).length c9_1, .map m9_t] : List Value), rfl, all_one rfl⟩, ((decV 10 (decP fs_sConsumerGroupHeartbeatRequestTopic v true) false true) (rMany (decV 10 (decP fs_sConsumerGroupHeartbeatRequestTopic v true) false true) k9 (rArr true x8.2).2).2).1) : KE 18)
                          have hrw9 := hbk9 ([ub x9_0.1.s 0, ub x9_0.1.s 1, ub x9_0.1.s 2, ub x9_0.1.s 3, ub x9_0.1.s 4, ub x9_0.1.s 5, ub x9_0.1.s 6, ub x9_0.1.s 7, ub x9_0.1.s 8, ub x9_0.1.s 9, ub x9_0.1.s 10, ub x9_0.1.s 11, ub x9_0.1.s 12, ub x9_0.1.s 13, ub x9_0.1.s 14, ub x9_0.1.s 15, .slice a9_1 (lT x9_1.1).length c9_1, .map m9_t] : List Value) rfl
                          refine drN (.tail .head) ?_
                          refine fun a_ w_ hA hw => ⟨hkl9, _, _, _, hA.sub ?_, (le_19.trans (le_22.trans (le_23.trans (hlf9_1.trans le_25)))), hw, _, _, _, rfl, rfl, (by rw [rMany_succ]; show RdAt _ 232 b_1 (decP fs_sConsumerGroupHeartbeatRequestTopic v true (rMany (decV 10 (decP fs_sConsumerGroupHeartbeatRequestTopic v true) false true) k9 (rArr true x8.2).2).2).2 _; rw [hD9_]; exact hR249), (by rw [← hfs9]; exact hrw9), (dec_els he_9), (fun p hp => (mem_snoc hp).elim (fun h => At_ConsumerGroupHeartbeatRequestTopic.mono _ _ _ _ (le_22.trans (le_23.trans (hlf9_1.trans le_25))) (hg_9 p h)) (fun h => h ▸ (by show At_ConsumerGroupHeartbeatRequestTopic _ (decP fs_sConsumerGroupHeartbeatRequestTopic v true (rMany (decV 10 (decP fs_sConsumerGroupHeartbeatRequestTopic v true) false true) k9 (rArr true x8.2).2).2).1 [ub x9_0.1.s 0, ub x9_0.1.s 1, ub x9_0.1.s 2, ub x9_0.1.s 3, ub x9_0.1.s 4, ub x9_0.1.s 5, ub x9_0.1.s 6, ub x9_0.1.s 7, ub x9_0.1.s 8, ub x9_0.1.s 9, ub x9_0.1.s 10, ub x9_0.1.s 11, ub x9_0.1.s 12, ub x9_0.1.s 13, ub x9_0.1.s 14, ub x9_0.1.s 15, .slice a9_1 (lT x9_1.1).length c9_1, .map m9_t]; rw [hD9_]; exact ⟨a9_1, c9_1, m9_t, rfl, (hf9_1.mono RI32.mono le_25), hft9_⟩)))⟩
                          exact (.cons rfl (.cons rfl (.cons rfl (.cons rfl (.cons rfl (.cons rfl (.cons rfl (.nil _))))))))
                  · skip
                    have hkn_ : k9 = (lT x9.1).length := by omega
                    subst hkn_
                    have hw2_9 : Row 229 18 a9 (lT x9.1).length c9 (es9.flatMap fk) M9 := by have h := hw_9; rw [Nat.sub_self] at h; simpa [reps] using h
                    refine frW hw2_9 (.tail .head) (fun Hf9 hlf9 hfz9 => ?_)
                    have hrs9 := RowsAt.row (R := At_ConsumerGroupHeartbeatRequestTopic) hfz9 hs_9.symm hw2_9.le.1 (fun p hp => At_ConsumerGroupHeartbeatRequestTopic.mono _ _ _ _ hlf9 (hg_9 p hp))
                    rw [he_9] at hrs9
                    have hf9 : ListAt Hf9 x9.1 18 At_ConsumerGroupHeartbeatRequestTopic a9 c9 := by rw [ex9]; exact listAt_of hrs9 hi9 (fun h => by have h1 := nul_le h; rw [show (lT x9.1).length = 0 by omega]; rfl)
                    have hRx9 : RdAt Hf9 232 b_1 x9.2 RN9 := by rw [ex9]; exact (hR_9.mono hlf9)
                    refine exX ?_
                    refine XT ?_
                    refine XT ?_
                    refine Xb ?_
                    refine Nt ?_
                    refine sr ?_
                    refine mv rfl rfl ?_
                    refine asg rfl rfl ?_
                    refine nl ?_
                    refine rg ?_
                    refine mv rfl rfl ?_
                    refine mv rfl rfl ?_
                    refine nc rfl rfl ?_
                    refine fa0 F223_10 rfl rfl ?_
                    refine st Tryz.sizeOf221 rfl rfl rfl rfl (.tail .head) ?_
                    refine nl ?_
                    refine sq ?_
                    refine sr ?_
                    refine mv rfl rfl ?_
                    refine nl ?_
                    refine cdT rfl (by omega) ?_
                    refine rg ?_
                    refine mv rfl rfl ?_
                    refine cl rfl rfl rfl (d_tags hRx9) rfl (fun v_ H1 L1 le_26 hR_ => ?_)
                    obtain ⟨N259, rfl, hR259, mt, rfl, hft⟩ := hR_
                    have hu2 : u = rTags x9.2 := hu
                    rw [← hu2] at hR259 hft
                    refine nc rfl rfl ?_
                    refine fa0 F223_11 rfl rfl ?_
                    refine sa Tryz.sizeOf105 rfl rfl rfl rfl rfl (.tail .head) ?_
                    refine nl ?_
                    refine sr ?_
                    refine cl rfl rfl rfl (r_complete hR259 (he.mono (le_5.trans (le_6.trans (le_8.trans (le_10.trans (le_11.trans (hlf6.trans (le_13.trans (le_15.trans (le_16.trans (le_18.trans (le_19.trans (hlf9.trans le_26)))))))))))))) rfl (fun v_ H1 L1 hle_ hR_ => ?_)
                    obtain ⟨rfl, rfl, rfl⟩ := hR_
                    refine asg rfl rfl ?_
                    refine nl ?_
                    refine drW .head ?_
                    have hA_ := (show At_ConsumerGroupHeartbeatRequest v _ (decP fs_ConsumerGroupHeartbeatRequest v true _).1 [.int .i16 v, .string ⟨x0.1.s.toArray⟩, .string ⟨x1.1.s.toArray⟩, .int .i32 (IntKind.i32.wrap x2.1.n), .pointer p3, .pointer p4, .int .i32 (IntKind.i32.wrap x5.1.n), .slice a6 (lT x6.1).length c6, .pointer p7, .pointer p8, .slice a9 (lT x9.1).length c9, .map mt] from (by rw [hD]; exact ⟨p3, p4, a6, c6, p7, p8, a9, c9, mt, rfl, (hf3.mono (le_6.trans (le_8.trans (le_10.trans (le_11.trans (hlf6.trans (le_13.trans (le_15.trans (le_16.trans (le_18.trans (le_19.trans (hlf9.trans le_26)))))))))))), (hf4.mono (le_8.trans (le_10.trans (le_11.trans (hlf6.trans (le_13.trans (le_15.trans (le_16.trans (le_18.trans (le_19.trans (hlf9.trans le_26))))))))))), (hf6.mono RText.mono (le_13.trans (le_15.trans (le_16.trans (le_18.trans (le_19.trans (hlf9.trans le_26))))))), (hf7.mono (le_15.trans (le_16.trans (le_18.trans (le_19.trans (hlf9.trans le_26)))))), (hf8.mono (le_16.trans (le_18.trans (le_19.trans (hlf9.trans le_26))))), (hf9.mono At_ConsumerGroupHeartbeatRequestTopic.mono le_26), hft⟩))
                    refine rT rfl rfl (le_5.trans (le_6.trans (le_8.trans (le_10.trans (le_11.trans (hlf6.trans (le_13.trans (le_15.trans (le_16.trans (le_18.trans (le_19.trans (hlf9.trans le_26)))))))))))) (fun _ _ h => h) ⟨_, rfl, ?_⟩
                    have hz := RdEnd.of (e := e) hA_
                    rw [show (decP fs_ConsumerGroupHeartbeatRequest v true _).2.bad = u.2.bad by rw [hD]] at hz
                    exact hz
end Go.Sx

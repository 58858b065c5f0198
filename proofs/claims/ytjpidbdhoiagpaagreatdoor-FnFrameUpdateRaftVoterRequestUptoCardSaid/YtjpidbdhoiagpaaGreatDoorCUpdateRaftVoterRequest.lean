import Derived.Test.YtjpidbdhoiagpaaGreatDoorSxTab
import Derived.Test.YtjpidbdhoiagpaaGreatDoorBUpdateRaftVoterRequest
import Derived.Test.YtjpidbdhoiagpaaGreatDoorRK2
import Derived.KernelRfl
set_option linter.unusedVariables false
set_option linter.unusedSimpArgs false
set_option maxRecDepth 100000
set_option maxHeartbeats 20000000
namespace Go.Sx
open Go.Proofs
theorem def_UpdateRaftVoterRequestListener {H : Fz} {L : Own} {b o : Nat} {pre post : List Value} {c0 c1 c2 c3 : Value} (ho : o = pre.length) :
  Fn Tryz.prog 117 [.pointer (some ⟨b, o, none⟩)] H ([(b, .cells (pre ++ ([c0, c1, c2, c3] : List Value) ++ post).toArray 157 (0, 0))] :: L) (fun _ H' L' => H = H' ∧ L' = [(b, .cells (pre ++ ([c0, c1, c2, c3] : List Value) ++ post).toArray 157 (0, 0))] :: L) := by
 refine Fn.mk Tryz.call117 Tryz.func117 rfl Tryz.ntmps117 rfl ?_
 refine skN ?_
 exact fun _ _ hA hw => rn rfl ler ⟨rfl, rfl⟩ hA hw
theorem defE_UpdateRaftVoterRequestKRaftVersionFeature {H : Fz} {L : Own} {p : Value} :
  Fn Tryz.prog 119 [p] H L (fun _ H' L' => H = H' ∧ L = L') := by
 refine Fn.mk Tryz.call119 Tryz.func119 rfl Tryz.ntmps119 rfl ?_
 refine skN ?_
 exact fun _ _ hA hw => rn rfl ler ⟨rfl, rfl⟩ hA hw
theorem def0_UpdateRaftVoterRequest {H : Fz} {L : Own} {b : Nat} {c0 c1 c2 c3 c4 c5 c6 c7 c8 c9 c10 c11 c12 c13 c14 c15 c16 c17 c18 c19 c20 c21 c22 c23 c24 : Value} :
  Fn Tryz.prog 77 [.pointer (some ⟨b, 0, none⟩)] H ([(b, .cells [c0, c1, c2, c3, c4, c5, c6, c7, c8, c9, c10, c11, c12, c13, c14, c15, c16, c17, c18, c19, c20, c21, c22, c23, c24].toArray 104 (0, 0))] :: L) (fun _ H' L' => H = H' ∧ L' = [(b, .cells [c0, c1, c2, c3, c4, c5, c6, c7, c8, c9, c10, c11, c12, c13, c14, c15, c16, c17, c18, c19, c20, c21, c22, c23, c24].toArray 104 (0, 0))] :: L) := by
 refine Fn.mk Tryz.call77 Tryz.func77 rfl Tryz.ntmps77 rfl ?_
 refine sr ?_
 refine mv rfl rfl ?_
 refine nc rfl rfl ?_
 refine fa0 F104_6 rfl rfl ?_
 refine asg rfl rfl ?_
 refine nl ?_
 refine rg ?_
 refine mv rfl rfl ?_
 refine nN ?_
 exact fun _ _ hA hw => rn rfl ler ⟨rfl, rfl⟩ hA hw
theorem rd_UpdateRaftVoterRequest_t {H : Fz} {L : Own} {b : Nat} {v : Int} {a : Option Addr} {c : Nat} {s : List UInt8} {e : Value} (hB : BytesAt H a c s) (hL_ : s.length ≤ BR) (he : H.at 0 0 [e]) (hv0 : 0 ≤ v) (hv1 : v ≤ 0) :
  Fn Tryz.prog 78 [.pointer (some ⟨b, 0, none⟩), .slice a s.length c, .bool false] H ([(b, .cells [.int .i16 v, .pointer none, .int .i32 0, .int .i32 0, .int .u8 0, .int .u8 0, .int .u8 0, .int .u8 0, .int .u8 0, .int .u8 0, .int .u8 0, .int .u8 0, .int .u8 0, .int .u8 0, .int .u8 0, .int .u8 0, .int .u8 0, .int .u8 0, .int .u8 0, .int .u8 0, .slice none 0 0, .int .i16 0, .int .i16 0, .map none, .map none].toArray 104 (0, 0))] :: L) (fun r H' L' => ∃ cs : List Value, L' = [(b, .cells cs.toArray 104 (0, 0))] :: L ∧ RdEnd H' (At_UpdateRaftVoterRequest v) (decP fs_UpdateRaftVoterRequest v true ⟨s, false, !a.isNone⟩) e r cs) := by
 refine Fn.mk Tryz.call78 Tryz.func78 rfl Tryz.ntmps78 rfl ?_
 refine sr ?_
 refine asg rfl rfl ?_
 refine nl ?_
 refine sr ?_
 refine mv rfl rfl ?_
 refine cl rfl rfl rfl def0_UpdateRaftVoterRequest rfl (fun v_ H1 L1 hle_ hR_ => ?_)
 obtain ⟨rfl, rfl⟩ := hR_
 refine nl ?_
 refine sr ?_
 refine mv rfl rfl ?_
 refine bd' S118 rfl rfl rfl ?_
 refine al Tryz.zeroValue118 rfl rfl (fun b_1 => ?_)
 refine sa Tryz.sizeOf118 rfl rfl rfl rfl rfl .head ?_
 have hR0_ : RdAt H 118 b_1 ⟨s, false, !a.isNone⟩ [(b_1, .cells [_, _].toArray 118 (0, 0))] := ⟨a, c, rfl, hB, by simp⟩
 obtain ⟨x0, hx0⟩ : ∃ x, x = stepF (Fd.mk 8 0 (-1) 0 (-1) 0 0 []) v true ⟨s, false, !a.isNone⟩ := ⟨_, rfl⟩
 obtain ⟨x1, hx1⟩ : ∃ x, x = stepF (Fd.mk 3 0 (-1) (-1) (-1) 0 0 []) v true x0.2 := ⟨_, rfl⟩
 obtain ⟨x2, hx2⟩ : ∃ x, x = stepF (Fd.mk 3 0 (-1) (-1) (-1) 0 0 []) v true x1.2 := ⟨_, rfl⟩
 obtain ⟨x3, hx3⟩ : ∃ x, x = stepF (Fd.mk 7 0 (-1) (-1) (-1) 0 0 []) v true x2.2 := ⟨_, rfl⟩
 obtain ⟨x4, hx4⟩ : ∃ x, x = stepF (Fd.mk 11 0 (-1) (-1) (-1) 0 10 fs_sUpdateRaftVoterRequestListener) v true x3.2 := ⟨_, rfl⟩
 obtain ⟨x5, hx5⟩ : ∃ x, x = stepF (Fd.mk 10 0 (-1) (-1) (-1) 0 0 fs_sUpdateRaftVoterRequestKRaftVersionFeature) v true x4.2 := ⟨_, rfl⟩
 obtain ⟨u, hu⟩ : ∃ x, x = tailU true x5.2 := ⟨_, rfl⟩
 have hD : decP fs_UpdateRaftVoterRequest v true ⟨s, false, !a.isNone⟩ = (.mk 0 [] false [x0.1, x1.1, x2.1, x3.1, x4.1, x5.1] u.1, u.2) := by
  generalize (⟨s, false, !a.isNone⟩ : Rd) = r_ at hx0 ⊢
  rw [decP_eq]; unfold fs_UpdateRaftVoterRequest; simp only [decFs_cons, decFs_nil, ← hx0, ← hx1, ← hx2, ← hx3, ← hx4, ← hx5, ← hu]
 have hL0 : x0.2.s.length ≤ BR := by rw [hx0]; exact Nat.le_trans (stepF_shr _ _ _ _) hL_
 have hL1 : x1.2.s.length ≤ BR := by rw [hx1]; exact Nat.le_trans (stepF_shr _ _ _ _) hL0
 have hL2 : x2.2.s.length ≤ BR := by rw [hx2]; exact Nat.le_trans (stepF_shr _ _ _ _) hL1
 have hL3 : x3.2.s.length ≤ BR := by rw [hx3]; exact Nat.le_trans (stepF_shr _ _ _ _) hL2
 have hL4 : x4.2.s.length ≤ BR := by rw [hx4]; exact Nat.le_trans (stepF_shr _ _ _ _) hL3
 have hL5 : x5.2.s.length ≤ BR := by rw [hx5]; exact Nat.le_trans (stepF_shr _ _ _ _) hL4
 have hE : u.2.bad = true → (decP fs_UpdateRaftVoterRequest v true ⟨s, false, !a.isNone⟩).2.bad = true := fun h => by rw [hD]; exact h
 have hB5 : x5.2.bad = true → (decP fs_UpdateRaftVoterRequest v true ⟨s, false, !a.isNone⟩).2.bad = true := fun h => hE (by rw [hu]; exact tailU_bad h)
 have hB4 : x4.2.bad = true → (decP fs_UpdateRaftVoterRequest v true ⟨s, false, !a.isNone⟩).2.bad = true := fun h => hB5 (by rw [hx5]; exact step_bad h)
 have hB3 : x3.2.bad = true → (decP fs_UpdateRaftVoterRequest v true ⟨s, false, !a.isNone⟩).2.bad = true := fun h => hB4 (by rw [hx4]; exact step_bad h)
 have hB2 : x2.2.bad = true → (decP fs_UpdateRaftVoterRequest v true ⟨s, false, !a.isNone⟩).2.bad = true := fun h => hB3 (by rw [hx3]; exact step_bad h)
 have hB1 : x1.2.bad = true → (decP fs_UpdateRaftVoterRequest v true ⟨s, false, !a.isNone⟩).2.bad = true := fun h => hB2 (by rw [hx2]; exact step_bad h)
 have hB0 : x0.2.bad = true → (decP fs_UpdateRaftVoterRequest v true ⟨s, false, !a.isNone⟩).2.bad = true := fun h => hB1 (by rw [hx1]; exact step_bad h)
 refine nl ?_
 refine sr ?_
 refine mv rfl rfl ?_
 refine nc rfl rfl ?_
 refine fa0 F104_0 rfl rfl ?_
 refine ld (Says.own (.tail .head)) Tryz.isAgg45 rfl (Nat.zero_add _).symm rfl rfl ?_
 refine asg rfl rfl ?_
 refine nl ?_
 refine sr ?_
 refine mv rfl rfl ?_
 refine nl ?_
 refine sr ?_
 refine mv rfl rfl ?_
 refine ge rfl rfl rfl ?_
 refine asg rfl rfl ?_
 refine nl ?_
 refine sr ?_
 refine mv rfl rfl ?_
 refine nl ?_
 refine sr ?_
 refine mv rfl rfl ?_
 refine asg rfl rfl ?_
 refine nl ?_
 refine sq ?_
 refine sr ?_
 refine asg rfl rfl ?_
 refine nl ?_
 refine sq ?_
 refine sr ?_
 refine mv rfl rfl ?_
 refine nl ?_
 refine cdT rfl (by omega) ?_
 refine sr ?_
 refine mv rfl rfl ?_
 refine nl ?_
 refine cF rfl ?_
 refine rg ?_
 have ex0 : x0 = decV 8 (decP [] v true) true true ⟨s, false, !a.isNone⟩ := (hx0.trans (step_yes (by decide) (show (0 : Int) ≤ v by omega) (Or.inl (by decide)))).trans (decF'_val (by decide) (by simp only [Bool.and_eq_true, decide_eq_true_eq]; exact ⟨show (0 : Int) ≤ 0 by decide, show (0 : Int) ≤ v by omega⟩))
 refine cl rfl rfl rfl (d8tn hR0_ ex0) rfl (fun v_ H1 L1 le_2 hR_ => ?_)
 obtain ⟨N44, rfl, hR44, p0, rfl, hf0⟩ := hR_
 refine asg rfl rfl ?_
 refine nl ?_
 refine rg ?_
 refine mv rfl rfl ?_
 refine mv rfl rfl ?_
 refine nc rfl rfl ?_
 refine fa0 F104_1 rfl rfl ?_
 refine st Tryz.sizeOf98 rfl rfl rfl rfl (.tail .head) ?_
 refine nl ?_
 refine sq ?_
 refine sr ?_
 have ex1 : x1 = decV 3 (decP [] v true) false true x0.2 := (hx1.trans (step_yes (by decide) (show (0 : Int) ≤ v by omega) (Or.inl (by decide)))).trans (decF'_val (by decide) (rfl))
 refine cl rfl rfl rfl (d3 hR44 ex1) rfl (fun v_ H1 L1 hle_ hR_ => ?_)
 obtain ⟨N52, rfl, hR52, rfl, rfl⟩ := hR_
 refine asg rfl rfl ?_
 refine nl ?_
 refine rg ?_
 refine mv rfl rfl ?_
 refine mv rfl rfl ?_
 refine nc rfl rfl ?_
 refine fa0 F104_2 rfl rfl ?_
 refine st Tryz.sizeOf21 rfl rfl rfl rfl (.tail .head) ?_
 refine nl ?_
 refine sq ?_
 refine sr ?_
 have ex2 : x2 = decV 3 (decP [] v true) false true x1.2 := (hx2.trans (step_yes (by decide) (show (0 : Int) ≤ v by omega) (Or.inl (by decide)))).trans (decF'_val (by decide) (rfl))
 refine cl rfl rfl rfl (d3 hR52 ex2) rfl (fun v_ H1 L1 hle_ hR_ => ?_)
 obtain ⟨N57, rfl, hR57, rfl, rfl⟩ := hR_
 refine asg rfl rfl ?_
 refine nl ?_
 refine rg ?_
 refine mv rfl rfl ?_
 refine mv rfl rfl ?_
 refine nc rfl rfl ?_
 refine fa0 F104_3 rfl rfl ?_
 refine st Tryz.sizeOf21 rfl rfl rfl rfl (.tail .head) ?_
 refine nl ?_
 refine sq ?_
 refine sr ?_
 have ex3 : x3 = decV 7 (decP [] v true) false true x2.2 := (hx3.trans (step_yes (by decide) (show (0 : Int) ≤ v by omega) (Or.inl (by decide)))).trans (decF'_val (by decide) (rfl))
 refine cl rfl rfl rfl (d7 hR57 ex3) rfl (fun v_ H1 L1 hle_ hR_ => ?_)
 obtain ⟨N62, rfl, hR62, rfl, rfl⟩ := hR_
 refine al Tryz.zeroValue99 rfl rfl (fun b_6 => ?_)
 refine sa Tryz.sizeOf99 rfl rfl rfl rfl rfl .head ?_
 refine nl ?_
 refine rg ?_
 refine mv rfl rfl ?_
 refine la (Says.own .head) Tryz.isAgg99 Tryz.sizeOf99 rfl (Nat.zero_add _).symm rfl rfl ?_
 refine nc rfl rfl ?_
 refine fa0 F104_4 rfl rfl ?_
 refine sa Tryz.sizeOf99 rfl rfl rfl rfl rfl (.tail (.tail .head)) ?_
 refine nl ?_
 refine sq ?_
 refine sr ?_
 refine mv rfl rfl ?_
 refine nc rfl rfl ?_
 refine fa0 F104_5 rfl rfl ?_
 refine ld (Says.own (.tail (.tail .head))) Tryz.isAgg100 rfl (Nat.zero_add _).symm rfl rfl ?_
 refine asg rfl rfl ?_
 refine nl ?_
 refine sr ?_
 refine mv rfl rfl ?_
 refine asg rfl rfl ?_
 refine nl ?_
 refine sr ?_
 refine asg rfl rfl ?_
 refine nl ?_
 refine sq ?_
 refine sr ?_
 refine mv rfl rfl ?_
 refine nl ?_
 refine cdT rfl (by omega) ?_
 refine rg ?_
 have ey4 : x4 = (.mk 0 [] (if 0 ≤ ((-1) : Int) ∧ (v < ((-1) : Int) ∨ (rArr true x3.2).1 = 0) then false else decide ((rArr true x3.2).1 ≤ 0)) (rMany (decV 10 (decP fs_sUpdateRaftVoterRequestListener v true) false true) (rArr true x3.2).1.toNat (rArr true x3.2).2).1 [], (rMany (decV 10 (decP fs_sUpdateRaftVoterRequestListener v true) false true) (rArr true x3.2).1.toNat (rArr true x3.2).2).2) := (hx4.trans (step_yes (by decide) (show (0 : Int) ≤ v by omega) (Or.inl (by decide)))).trans (decF'_list rfl rfl)
 have hn4 : (rArr true x3.2).1.toNat = (lT x4.1).length := by rw [ey4]; exact (lT_many nul_le).symm
 have ex4 := ey4
 rw [hn4] at ex4
 have hl4 := rArr_le true x3.2
 have hm4 : (rArr true x3.2).2.s.length ≤ BR := Nat.le_trans (rArr_len true x3.2) hL3
 have hnb4 : (lT x4.1).length ≤ BR := by omega
 refine tf (.tail .head) ?_
 refine cl rfl rfl rfl (r_arrt hR62) rfl (fun v_ H1 L1 hle_ hR_ => ?_)
 obtain ⟨rfl, N73, rfl, hR73, rfl⟩ := hR_
 have hh4 := rArr_hi true x3.2
 refine asg rfl rfl ?_
 refine nl ?_
 refine sq ?_
 refine sr ?_
 refine cl rfl rfl rfl (r_ok hR73) rfl (fun v_ H1 L1 hle_ hR_ => ?_)
 obtain ⟨rfl, rfl, rfl⟩ := hR_
 refine nt rfl rfl ?_
 refine nl ?_
 refine cb rfl (fun h76 => ?_) (fun h76 => ?_)
 ·
  have hbad_ : (rArr true x3.2).2.bad = true := by simpa using h76
  refine sr ?_
  refine cl rfl rfl rfl (r_complete hR73 (he.mono le_2)) rfl (fun v_ H1 L1 hle_ hR_ => ?_)
  obtain ⟨rfl, rfl, rfl⟩ := hR_
  refine asg rfl rfl ?_
  refine nl ?_
  refine drW .head ?_
  refine drW .head ?_
  exact rT rfl rfl le_2 (fun _ _ h => h) ⟨_, rfl, RdEnd.out (hB4 (by rw [ey4]; exact rMany_bad (fun r h => decV_bad (decP_bad _ _ _) h) _ _ hbad_)) hbad_⟩
 ·
  refine skt ?_
  refine sr ?_
  refine mv rfl rfl ?_
  refine sh' (j := 0) Tryz.runUnderlying100 Tryz.sizeOf157 rfl rfl rfl (Nat.zero_le _) rfl ?_
  refine asg rfl rfl ?_
  refine nl ?_
  refine sq ?_
  refine sr ?_
  refine mv rfl rfl ?_
  refine gt rfl rfl rfl ?_
  refine nl ?_
  refine nulC2 ?_
  refine cutT (fun l' H' L' => ∃ (a4 : Option Addr), ∃ (c4 : Nat), ∃ (Nr4 : Chunk), [(2, .bool false), (7, .pointer (some ⟨b_1, 0, none⟩)), (9, .bool (decide ((0 : Int) ≤ v))), (10, .pointer (some ⟨b, 0, none⟩)), (15, .slice none 0 0), (16, .slice a4 (lT x4.1).length c4), (17, .int .i32 (rArr true x3.2).1)] = l' ∧ Nr4 :: N73 :: [(b_6, .cells [ub x3.1.s 0, ub x3.1.s 1, ub x3.1.s 2, ub x3.1.s 3, ub x3.1.s 4, ub x3.1.s 5, ub x3.1.s 6, ub x3.1.s 7, ub x3.1.s 8, ub x3.1.s 9, ub x3.1.s 10, ub x3.1.s 11, ub x3.1.s 12, ub x3.1.s 13, ub x3.1.s 14, ub x3.1.s 15].toArray 99 (0, 0))] :: [(b, .cells [.int .i16 v, .pointer p0, .int .i32 (IntKind.i32.wrap x1.1.n), .int .i32 (IntKind.i32.wrap x2.1.n), ub x3.1.s 0, ub x3.1.s 1, ub x3.1.s 2, ub x3.1.s 3, ub x3.1.s 4, ub x3.1.s 5, ub x3.1.s 6, ub x3.1.s 7, ub x3.1.s 8, ub x3.1.s 9, ub x3.1.s 10, ub x3.1.s 11, ub x3.1.s 12, ub x3.1.s 13, ub x3.1.s 14, ub x3.1.s 15, .slice none 0 0, .int .i16 0, .int .i16 0, .map none, .map none].toArray 104 (0, 0))] :: L = L' ∧ Row 157 4 a4 (lT x4.1).length c4 (reps [.string ⟨#[]⟩, .string ⟨#[]⟩, .int .u16 0, .map none] (lT x4.1).length) Nr4 ∧ a4.isNone = (if 0 ≤ ((-1) : Int) ∧ (v < ((-1) : Int) ∨ (rArr true x3.2).1 = 0) then false else decide ((rArr true x3.2).1 ≤ 0))) ?_ (fun l' H' L' le_7 hI => ?_)
  ·
   refine cd rfl (fun h81 => ?_) (fun h81 => ?_)
   ·
    refine rg ?_
    refine mv rfl rfl ?_
    refine mv rfl rfl ?_
    refine apz (zs := [.string ⟨#[]⟩, .string ⟨#[]⟩, .int .u16 0, .map none]) (m := (lT x4.1).length) Tryz.underlying100 Tryz.underlying21 I157 rfl rfl rfl (by omega) (by omega) (by have h9 := hnb4; unfold BR at h9; omega) (by have h9 := hnb4; unfold BR at h9; unfold maxLen; omega) rfl (fun g84 cp84 N84 r84 => ?_)
    refine asg rfl rfl ?_
    refine nN ?_
    refine drN (.tail .head) ?_
    refine fun a_ w_ hA hw => ⟨_, _, _, hA.sub ?_, ler, hw, (some ⟨g84, 0, none⟩), cp84, N84, rfl, rfl, r84, (by rw [if_neg (by omega)]; exact (decide_eq_false (by omega)).symm)⟩
    exact (.cons rfl (.cons rfl (.cons rfl (.cons rfl (.cons rfl (.cons rfl (.cons rfl (.nil _))))))))
   ·
    refine skN ?_
    refine fun a_ w_ hA hw => ⟨_, _, _, hA.sub ?_, ler, hw, none, 0, [], rfl, rfl, (by rw [show (lT x4.1).length = 0 by omega]; exact (Row.nil _ _)), (by rw [if_neg (by omega)]; exact (decide_eq_true (by omega)).symm)⟩
    exact (.cons rfl (.cons rfl (.cons rfl (.cons rfl (.cons rfl (.cons (by rw [show (lT x4.1).length = 0 by omega]; rfl) (.cons rfl (.nil _))))))))
  ·
   obtain ⟨a4, c4, Nr4, rfl, rfl, pj0, pj1⟩ := hI
   have hr4 := pj0
   have hi4 := pj1
   refine sq ?_
   refine sr ?_
   refine asg rfl rfl ?_
   refine nl ?_
   refine bl (lp ((lT x4.1).length) (fun k4 l' H' L' => ∃ (es4 : List (KE 4)) (M4 RN4 : Chunk), [(2, .bool false), (7, .pointer (some ⟨b_1, 0, none⟩)), (9, .bool (decide ((0 : Int) ≤ v))), (10, .pointer (some ⟨b, 0, none⟩)), (15, .slice none 0 0), (16, .slice a4 (lT x4.1).length c4), (17, .int .i32 (rArr true x3.2).1), (18, .int .i32 (k4 : Int))] = l' ∧ M4 :: RN4 :: [(b_6, .cells [ub x3.1.s 0, ub x3.1.s 1, ub x3.1.s 2, ub x3.1.s 3, ub x3.1.s 4, ub x3.1.s 5, ub x3.1.s 6, ub x3.1.s 7, ub x3.1.s 8, ub x3.1.s 9, ub x3.1.s 10, ub x3.1.s 11, ub x3.1.s 12, ub x3.1.s 13, ub x3.1.s 14, ub x3.1.s 15].toArray 99 (0, 0))] :: [(b, .cells [.int .i16 v, .pointer p0, .int .i32 (IntKind.i32.wrap x1.1.n), .int .i32 (IntKind.i32.wrap x2.1.n), ub x3.1.s 0, ub x3.1.s 1, ub x3.1.s 2, ub x3.1.s 3, ub x3.1.s 4, ub x3.1.s 5, ub x3.1.s 6, ub x3.1.s 7, ub x3.1.s 8, ub x3.1.s 9, ub x3.1.s 10, ub x3.1.s 11, ub x3.1.s 12, ub x3.1.s 13, ub x3.1.s 14, ub x3.1.s 15, .slice none 0 0, .int .i16 0, .int .i16 0, .map none, .map none].toArray 104 (0, 0))] :: L = L' ∧ RdAt H' 118 b_1 (rMany (decV 10 (decP fs_sUpdateRaftVoterRequestListener v true) false true) k4 (rArr true x3.2).2).2 RN4 ∧ Row 157 4 a4 (lT x4.1).length c4 (es4.flatMap fk ++ reps [.string ⟨#[]⟩, .string ⟨#[]⟩, .int .u16 0, .map none] ((lT x4.1).length - k4)) M4 ∧ es4.map (·.2) = (rMany (decV 10 (decP fs_sUpdateRaftVoterRequestListener v true) false true) k4 (rArr true x3.2).2).1 ∧ ∀ p ∈ es4, At_UpdateRaftVoterRequestListener H' p.2 (fk p)) [(2, .bool false), (7, .pointer (some ⟨b_1, 0, none⟩)), (9, .bool (decide ((0 : Int) ≤ v))), (10, .pointer (some ⟨b, 0, none⟩)), (15, .slice none 0 0), (16, .slice a4 (lT x4.1).length c4), (17, .int .i32 (rArr true x3.2).1), (18, .int .i32 (0 : Int))] (.of ⟨rfl, rfl, rfl, rfl, rfl, rfl, rfl, rfl, trivial⟩) ⟨[], Nr4, _, rfl, rfl, (hR73.mono le_7), hr4, rfl, (fun p hp => by cases hp)⟩ (fun k4 l' H' L' hk4 le_8 hI => ?_))
   obtain ⟨es4, M4, RN4, rfl, rfl, hR_4, hw_4, he_4, hg_4⟩ := hI
   have hs_4 := els_len he_4
   have hp_4 : (es4.flatMap fk).length = k4 * 4 := els_flat hs_4
   refine sq ?_
   refine sr ?_
   refine mv rfl rfl ?_
   refine mv rfl rfl ?_
   refine lt rfl rfl rfl ?_
   refine nl ?_
   refine cd rfl (fun h87 => ?_) (fun h87 => ?_)
   ·
    have hkl4 : k4 < (lT x4.1).length := by omega
    obtain ⟨g4, po4, hga4, rfl, hbk4⟩ := hw_4.next (zs := [.string ⟨#[]⟩, .string ⟨#[]⟩, .int .u16 0, .map none]) hkl4 rfl (by decide)
    have ho4 : 0 + k4 * 4 = (es4.flatMap fk).length := by rw [hp_4]; omega
    have hbz4 : ((decV 10 (decP fs_sUpdateRaftVoterRequestListener v true) false true) (rMany (decV 10 (decP fs_sUpdateRaftVoterRequestListener v true) false true) k4 (rArr true x3.2).2).2).2.bad = true → (decP fs_UpdateRaftVoterRequest v true ⟨s, false, !a.isNone⟩).2.bad = true := fun h => hB4 (by rw [ex4]; exact rMany_mono (fun r h => decV_bad (fun r h => decP_bad _ _ _ r h) h) _ (show k4 + 1 ≤ (lT x4.1).length from hkl4) (by rw [rMany_succ]; exact h))
    have hLk4 : (rMany (decV 10 (decP fs_sUpdateRaftVoterRequestListener v true) false true) k4 (rArr true x3.2).2).2.s.length ≤ BR := Nat.le_trans (rMany_shr (fun r => decV_shr (fun r => decP_shr _ _ _ r) r) _ _) hm4
    have hL4__ := hLk4
    obtain ⟨x4_0, hx4_0⟩ : ∃ x, x = stepF (Fd.mk 8 0 (-1) (-1) (-1) 0 0 []) v true (rMany (decV 10 (decP fs_sUpdateRaftVoterRequestListener v true) false true) k4 (rArr true x3.2).2).2 := ⟨_, rfl⟩
    obtain ⟨x4_1, hx4_1⟩ : ∃ x, x = stepF (Fd.mk 8 0 (-1) (-1) (-1) 0 0 []) v true x4_0.2 := ⟨_, rfl⟩
    obtain ⟨x4_2, hx4_2⟩ : ∃ x, x = stepF (Fd.mk 5 0 (-1) (-1) (-1) 0 0 []) v true x4_1.2 := ⟨_, rfl⟩
    obtain ⟨u4_, hu4_⟩ : ∃ x, x = tailU true x4_2.2 := ⟨_, rfl⟩
    have hD4_ : decP fs_sUpdateRaftVoterRequestListener v true (rMany (decV 10 (decP fs_sUpdateRaftVoterRequestListener v true) false true) k4 (rArr true x3.2).2).2 = (.mk 0 [] false [x4_0.1, x4_1.1, x4_2.1] u4_.1, u4_.2) := by
     generalize ((rMany (decV 10 (decP fs_sUpdateRaftVoterRequestListener v true) false true) k4 (rArr true x3.2).2).2 : Rd) = r_ at hx4_0 ⊢
     rw [decP_eq]; unfold fs_sUpdateRaftVoterRequestListener; simp only [decFs_cons, decFs_nil, ← hx4_0, ← hx4_1, ← hx4_2, ← hu4_]
    have hL4_0 : x4_0.2.s.length ≤ BR := by rw [hx4_0]; exact Nat.le_trans (stepF_shr _ _ _ _) hL4__
    have hL4_1 : x4_1.2.s.length ≤ BR := by rw [hx4_1]; exact Nat.le_trans (stepF_shr _ _ _ _) hL4_0
    have hL4_2 : x4_2.2.s.length ≤ BR := by rw [hx4_2]; exact Nat.le_trans (stepF_shr _ _ _ _) hL4_1
    have hE4_ : u4_.2.bad = true → (decP fs_UpdateRaftVoterRequest v true ⟨s, false, !a.isNone⟩).2.bad = true := fun h => hbz4 (by show (decP fs_sUpdateRaftVoterRequestListener v true (rMany (decV 10 (decP fs_sUpdateRaftVoterRequestListener v true) false true) k4 (rArr true x3.2).2).2).2.bad = true; rw [hD4_]; exact h)
    have hB4_2 : x4_2.2.bad = true → (decP fs_UpdateRaftVoterRequest v true ⟨s, false, !a.isNone⟩).2.bad = true := fun h => hE4_ (by rw [hu4_]; exact tailU_bad h)
    have hB4_1 : x4_1.2.bad = true → (decP fs_UpdateRaftVoterRequest v true ⟨s, false, !a.isNone⟩).2.bad = true := fun h => hB4_2 (by rw [hx4_2]; exact step_bad h)
    have hB4_0 : x4_0.2.bad = true → (decP fs_UpdateRaftVoterRequest v true ⟨s, false, !a.isNone⟩).2.bad = true := fun h => hB4_1 (by rw [hx4_1]; exact step_bad h)
    refine skt ?_
    refine sq ?_
    refine bl ?_
    refine sr ?_
    refine mv rfl rfl ?_
    refine mv rfl rfl ?_
    refine ixk (j := k4) Tryz.runUnderlying100 Tryz.sizeOf157 rfl hga4 rfl rfl hkl4 rfl ?_
    refine asg rfl rfl ?_
    refine nl ?_
    refine sr ?_
    refine mv rfl rfl ?_
    refine cl rfl rfl rfl (def_UpdateRaftVoterRequestListener ho4) rfl (fun v_ H1 L1 hle_ hR_ => ?_)
    obtain ⟨rfl, rfl⟩ := hR_
    refine nl ?_
    refine sr ?_
    refine mv rfl rfl ?_
    refine asg rfl rfl ?_
    refine nl ?_
    refine sq ?_
    refine sr ?_
    refine asg rfl rfl ?_
    refine nl ?_
    refine sq ?_
    refine sr ?_
    refine mv rfl rfl ?_
    refine nl ?_
    refine cF rfl ?_
    refine sr ?_
    refine mv rfl rfl ?_
    refine nl ?_
    refine cdT rfl (by omega) ?_
    refine rg ?_
    refine tf (.tail .head) ?_
    have ex4_0 : x4_0 = decV 8 (decP [] v true) false true (rMany (decV 10 (decP fs_sUpdateRaftVoterRequestListener v true) false true) k4 (rArr true x3.2).2).2 := (hx4_0.trans (step_yes (by decide) (show (0 : Int) ≤ v by omega) (Or.inl (by decide)))).trans (decF'_val (by decide) (rfl))
    refine cl rfl rfl rfl (d8t hR_4 ex4_0) rfl (fun v_ H1 L1 le_9 hR_ => ?_)
    obtain ⟨N101, rfl, hR101, rfl, rfl⟩ := hR_
    refine asg rfl rfl ?_
    refine nl ?_
    refine rg ?_
    refine mv rfl rfl ?_
    refine mv rfl rfl ?_
    refine nc rfl rfl ?_
    refine fa F157_0 rfl rfl ?_
    refine stM (off := 0) Tryz.sizeOf9 rfl (by rw [ho4]) rfl rfl rfl (.tail .head) ?_
    refine nl ?_
    refine sq ?_
    refine sr ?_
    refine asg rfl rfl ?_
    refine nl ?_
    refine sq ?_
    refine sr ?_
    refine mv rfl rfl ?_
    refine nl ?_
    refine cF rfl ?_
    refine sr ?_
    refine mv rfl rfl ?_
    refine nl ?_
    refine cdT rfl (by omega) ?_
    refine rg ?_
    have ex4_1 : x4_1 = decV 8 (decP [] v true) false true x4_0.2 := (hx4_1.trans (step_yes (by decide) (show (0 : Int) ≤ v by omega) (Or.inl (by decide)))).trans (decF'_val (by decide) (rfl))
    refine cl rfl rfl rfl (d8t hR101 ex4_1) rfl (fun v_ H1 L1 le_10 hR_ => ?_)
    obtain ⟨N112, rfl, hR112, rfl, rfl⟩ := hR_
    refine asg rfl rfl ?_
    refine nl ?_
    refine rg ?_
    refine mv rfl rfl ?_
    refine mv rfl rfl ?_
    refine nc rfl rfl ?_
    refine fa F157_1 rfl rfl ?_
    refine stM (off := 1) Tryz.sizeOf9 rfl (by rw [ho4]) rfl rfl rfl (.tail .head) ?_
    refine nl ?_
    refine sq ?_
    refine sr ?_
    have ex4_2 : x4_2 = decV 5 (decP [] v true) false true x4_1.2 := (hx4_2.trans (step_yes (by decide) (show (0 : Int) ≤ v by omega) (Or.inl (by decide)))).trans (decF'_val (by decide) (rfl))
    refine cl rfl rfl rfl (d5 hR112 ex4_2) rfl (fun v_ H1 L1 hle_ hR_ => ?_)
    obtain ⟨N118, rfl, hR118, rfl, rfl⟩ := hR_
    refine asg rfl rfl ?_
    refine nl ?_
    refine rg ?_
    refine mv rfl rfl ?_
    refine mv rfl rfl ?_
    refine nc rfl rfl ?_
    refine fa F157_2 rfl rfl ?_
    refine stM (off := 2) Tryz.sizeOf155 rfl (by rw [ho4]) rfl rfl rfl (.tail .head) ?_
    refine nl ?_
    refine sr ?_
    refine mv rfl rfl ?_
    refine nl ?_
    refine cdT rfl (by omega) ?_
    refine rg ?_
    refine mv rfl rfl ?_
    refine cl rfl rfl rfl (d_tags hR118) rfl (fun v_ H1 L1 le_12 hR_ => ?_)
    obtain ⟨N125, rfl, hR125, m4_t, rfl, hft4_⟩ := hR_
    have hu24_ : u4_ = rTags x4_2.2 := hu4_
    rw [← hu24_] at hR125 hft4_
    refine nc rfl rfl ?_
    refine fa F157_3 rfl rfl ?_
    refine saM (off := 3) Tryz.sizeOf75 rfl (by rw [ho4]) rfl rfl rfl rfl (.tail .head) ?_
    refine nN ?_
    refine Nb ?_
    refine Nt ?_
    refine rg ?_
    refine mv rfl rfl ?_
    refine ad rfl rfl (c := ((k4 + 1 : Nat) : Int)) ((wrap32_le (by omega) (by omega)).trans (by omega)) rfl ?_
    refine asg rfl rfl ?_
    refine nN ?_
    have hfs4 := flatMap_snoc' fk es4 ((⟨([.string ⟨x4_0.1.s.toArray⟩, .string ⟨x4_1.1.s.toArray⟩, .int .u16 (IntKind.u16.wrap x4_2.1.n), .map m4_t] : List Value), rfl, all_one rfl⟩, ((decV 10 (decP fs_sUpdateRaftVoterRequestListener v true) false true) (rMany (decV 10 (decP fs_sUpdateRaftVoterRequestListener v true) false true) k4 (rArr true x3.2).2).2).1) : KE 4)
    have hrw4 := hbk4 ([.string ⟨x4_0.1.s.toArray⟩, .string ⟨x4_1.1.s.toArray⟩, .int .u16 (IntKind.u16.wrap x4_2.1.n), .map m4_t] : List Value) rfl
    refine tfN (.tail .head) ?_
    refine fun a_ w_ hA hw => ⟨hkl4, _, _, _, hA.sub ?_, (le_8.trans le_12), hw, _, _, _, rfl, rfl, (by rw [rMany_succ]; show RdAt _ 118 b_1 (decP fs_sUpdateRaftVoterRequestListener v true (rMany (decV 10 (decP fs_sUpdateRaftVoterRequestListener v true) false true) k4 (rArr true x3.2).2).2).2 _; rw [hD4_]; exact hR125), (by rw [← hfs4]; exact hrw4), (dec_els he_4), (fun p hp => (mem_snoc hp).elim (fun h => At_UpdateRaftVoterRequestListener.mono _ _ _ _ le_12 (hg_4 p h)) (fun h => h ▸ (by show At_UpdateRaftVoterRequestListener _ (decP fs_sUpdateRaftVoterRequestListener v true (rMany (decV 10 (decP fs_sUpdateRaftVoterRequestListener v true) false true) k4 (rArr true x3.2).2).2).1 [.string ⟨x4_0.1.s.toArray⟩, .string ⟨x4_1.1.s.toArray⟩, .int .u16 (IntKind.u16.wrap x4_2.1.n), .map m4_t]; rw [hD4_]; exact ⟨m4_t, rfl, hft4_⟩)))⟩
    exact (.of ⟨rfl, rfl, rfl, rfl, rfl, rfl, rfl, rfl, trivial⟩)
   ·
    have hkn_ : k4 = (lT x4.1).length := by omega
    subst hkn_
    have hw2_4 : Row 157 4 a4 (lT x4.1).length c4 (es4.flatMap fk) M4 := by have h := hw_4; rw [Nat.sub_self] at h; simpa [reps] using h
    refine frW hw2_4 .head (fun Hf4 hlf4 hfz4 => ?_)
    have hrs4 := RowsAt.row (R := At_UpdateRaftVoterRequestListener) hfz4 hs_4.symm hw2_4.le.1 (fun p hp => At_UpdateRaftVoterRequestListener.mono _ _ _ _ hlf4 (hg_4 p hp))
    rw [he_4] at hrs4
    have hf4 : ListAt Hf4 x4.1 4 At_UpdateRaftVoterRequestListener a4 c4 := by rw [ex4]; exact listAt_of hrs4 hi4 (fun h => by have h1 := nul_le h; rw [show (lT x4.1).length = 0 by omega]; rfl)
    have hRx4 : RdAt Hf4 118 b_1 x4.2 RN4 := by rw [ex4]; exact (hR_4.mono hlf4)
    refine exX ?_
    refine XT ?_
    refine XT ?_
    refine Xb ?_
    refine Nt ?_
    refine sr ?_
    refine mv rfl rfl ?_
    refine asg rfl rfl ?_
    refine nl ?_
    refine rg ?_
    refine mv rfl rfl ?_
    refine mv rfl rfl ?_
    refine nc rfl rfl ?_
    refine fa0 F104_5 rfl rfl ?_
    refine st Tryz.sizeOf100 rfl rfl rfl rfl (.tail (.tail .head)) ?_
    refine nl ?_
    refine sq ?_
    refine sr ?_
    refine mv rfl rfl ?_
    refine nc rfl rfl ?_
    refine fa0 F104_6 rfl rfl ?_
    refine asg rfl rfl ?_
    refine nl ?_
    refine sr ?_
    refine mv rfl rfl ?_
    refine cl rfl rfl rfl defE_UpdateRaftVoterRequestKRaftVersionFeature rfl (fun v_ H1 L1 hle_ hR_ => ?_)
    obtain ⟨rfl, rfl⟩ := hR_
    have ey5 : x5 = decP fs_sUpdateRaftVoterRequestKRaftVersionFeature v true x4.2 := ((hx5.trans (step_yes (by decide) (show (0 : Int) ≤ v by omega) (Or.inl (by decide)))).trans (decF'_val (by decide) rfl)).trans dV10
    have hL5__ := hL4
    obtain ⟨x5_0, hx5_0⟩ : ∃ x, x = stepF (Fd.mk 2 0 (-1) (-1) (-1) 0 0 []) v true x4.2 := ⟨_, rfl⟩
    obtain ⟨x5_1, hx5_1⟩ : ∃ x, x = stepF (Fd.mk 2 0 (-1) (-1) (-1) 0 0 []) v true x5_0.2 := ⟨_, rfl⟩
    obtain ⟨u5_, hu5_⟩ : ∃ x, x = tailU true x5_1.2 := ⟨_, rfl⟩
    have hD5_ : decP fs_sUpdateRaftVoterRequestKRaftVersionFeature v true x4.2 = (.mk 0 [] false [x5_0.1, x5_1.1] u5_.1, u5_.2) := by
     generalize (x4.2 : Rd) = r_ at hx5_0 ⊢
     rw [decP_eq]; unfold fs_sUpdateRaftVoterRequestKRaftVersionFeature; simp only [decFs_cons, decFs_nil, ← hx5_0, ← hx5_1, ← hu5_]
    have hL5_0 : x5_0.2.s.length ≤ BR := by rw [hx5_0]; exact Nat.le_trans (stepF_shr _ _ _ _) hL5__
    have hL5_1 : x5_1.2.s.length ≤ BR := by rw [hx5_1]; exact Nat.le_trans (stepF_shr _ _ _ _) hL5_0
    have hE5_ : u5_.2.bad = true → (decP fs_UpdateRaftVoterRequest v true ⟨s, false, !a.isNone⟩).2.bad = true := fun h => hB5 (by rw [ey5, hD5_]; exact h)
    have hB5_1 : x5_1.2.bad = true → (decP fs_UpdateRaftVoterRequest v true ⟨s, false, !a.isNone⟩).2.bad = true := fun h => hE5_ (by rw [hu5_]; exact tailU_bad h)
    have hB5_0 : x5_0.2.bad = true → (decP fs_UpdateRaftVoterRequest v true ⟨s, false, !a.isNone⟩).2.bad = true := fun h => hB5_1 (by rw [hx5_1]; exact step_bad h)
    refine nl ?_
    refine sr ?_
    refine mv rfl rfl ?_
    refine asg rfl rfl ?_
    refine nl ?_
    refine sq ?_
    refine sr ?_
    have ex5_0 : x5_0 = decV 2 (decP [] v true) false true x4.2 := (hx5_0.trans (step_yes (by decide) (show (0 : Int) ≤ v by omega) (Or.inl (by decide)))).trans (decF'_val (by decide) (rfl))
    refine cl rfl rfl rfl (d2 hRx4 ex5_0) rfl (fun v_ H1 L1 hle_ hR_ => ?_)
    obtain ⟨N139, rfl, hR139, rfl, rfl⟩ := hR_
    refine asg rfl rfl ?_
    refine nl ?_
    refine rg ?_
    refine mv rfl rfl ?_
    refine mv rfl rfl ?_
    refine nc rfl rfl ?_
    refine fa F102_0 rfl rfl ?_
    refine st Tryz.sizeOf45 rfl rfl rfl rfl (.tail (.tail .head)) ?_
    refine nl ?_
    refine sq ?_
    refine sr ?_
    have ex5_1 : x5_1 = decV 2 (decP [] v true) false true x5_0.2 := (hx5_1.trans (step_yes (by decide) (show (0 : Int) ≤ v by omega) (Or.inl (by decide)))).trans (decF'_val (by decide) (rfl))
    refine cl rfl rfl rfl (d2 hR139 ex5_1) rfl (fun v_ H1 L1 hle_ hR_ => ?_)
    obtain ⟨N144, rfl, hR144, rfl, rfl⟩ := hR_
    refine asg rfl rfl ?_
    refine nl ?_
    refine rg ?_
    refine mv rfl rfl ?_
    refine mv rfl rfl ?_
    refine nc rfl rfl ?_
    refine fa F102_1 rfl rfl ?_
    refine st Tryz.sizeOf45 rfl rfl rfl rfl (.tail (.tail .head)) ?_
    refine nl ?_
    refine sr ?_
    refine mv rfl rfl ?_
    refine nl ?_
    refine cdT rfl (by omega) ?_
    refine rg ?_
    refine mv rfl rfl ?_
    refine cl rfl rfl rfl (d_tags hR144) rfl (fun v_ H1 L1 le_15 hR_ => ?_)
    obtain ⟨N151, rfl, hR151, m5_t, rfl, hft5_⟩ := hR_
    have hu25_ : u5_ = rTags x5_1.2 := hu5_
    rw [← hu25_] at hR151 hft5_
    refine nc rfl rfl ?_
    refine fa F102_2 rfl rfl ?_
    refine sa Tryz.sizeOf75 rfl rfl rfl rfl rfl (.tail (.tail .head)) ?_
    refine nl ?_
    refine sq ?_
    refine sr ?_
    refine mv rfl rfl ?_
    refine nl ?_
    refine cdT rfl (by omega) ?_
    refine rg ?_
    refine mv rfl rfl ?_
    obtain rfl : x5 = ((Tr.mk 0 [] false [x5_0.1, x5_1.1] u5_.1), u5_.2) := ey5.trans hD5_
    refine cl rfl rfl rfl (d_tags hR151) rfl (fun v_ H1 L1 le_16 hR_ => ?_)
    obtain ⟨N156, rfl, hR156, mt, rfl, hft⟩ := hR_
    have hu2 : u = rTags u5_.2 := hu
    rw [← hu2] at hR156 hft
    refine nc rfl rfl ?_
    refine fa0 F104_7 rfl rfl ?_
    refine sa Tryz.sizeOf75 rfl rfl rfl rfl rfl (.tail (.tail .head)) ?_
    refine nl ?_
    refine sr ?_
    refine cl rfl rfl rfl (r_complete hR156 (he.mono (le_2.trans (le_7.trans (le_8.trans (hlf4.trans (le_15.trans le_16))))))) rfl (fun v_ H1 L1 hle_ hR_ => ?_)
    obtain ⟨rfl, rfl, rfl⟩ := hR_
    refine asg rfl rfl ?_
    refine nl ?_
    refine drW .head ?_
    refine drW .head ?_
    have hA_ := (show At_UpdateRaftVoterRequest v _ (decP fs_UpdateRaftVoterRequest v true _).1 [.int .i16 v, .pointer p0, .int .i32 (IntKind.i32.wrap x1.1.n), .int .i32 (IntKind.i32.wrap x2.1.n), ub x3.1.s 0, ub x3.1.s 1, ub x3.1.s 2, ub x3.1.s 3, ub x3.1.s 4, ub x3.1.s 5, ub x3.1.s 6, ub x3.1.s 7, ub x3.1.s 8, ub x3.1.s 9, ub x3.1.s 10, ub x3.1.s 11, ub x3.1.s 12, ub x3.1.s 13, ub x3.1.s 14, ub x3.1.s 15, .slice a4 (lT x4.1).length c4, .int .i16 (IntKind.i16.wrap x5_0.1.n), .int .i16 (IntKind.i16.wrap x5_1.1.n), .map m5_t, .map mt] from (by rw [hD]; exact ⟨p0, a4, c4, m5_t, mt, rfl, (hf0.mono (le_7.trans (le_8.trans (hlf4.trans (le_15.trans le_16))))), (hf4.mono At_UpdateRaftVoterRequestListener.mono (le_15.trans le_16)), (hft5_.mono le_16), hft⟩))
    refine rT rfl rfl (le_2.trans (le_7.trans (le_8.trans (hlf4.trans (le_15.trans le_16))))) (fun _ _ h => h) ⟨_, rfl, ?_⟩
    have hz := RdEnd.of (e := e) hA_
    rw [show (decP fs_UpdateRaftVoterRequest v true _).2.bad = u.2.bad by rw [hD]] at hz
    exact hz
end Go.Sx

import Derived.Test.YtjpidbdhoiagpaaGreatDoorSxTab
import Derived.Test.YtjpidbdhoiagpaaGreatDoorBPushTelemetryRequest
import Derived.Test.YtjpidbdhoiagpaaGreatDoorRK2
import Derived.KernelRfl
set_option linter.unusedVariables false
set_option linter.unusedSimpArgs false
set_option maxRecDepth 100000
set_option maxHeartbeats 20000000
namespace Go.Sx
open Go.Proofs
theorem def0_PushTelemetryRequest {H : Fz} {L : Own} {b : Nat} {c0 c1 c2 c3 c4 c5 c6 c7 c8 c9 c10 c11 c12 c13 c14 c15 c16 c17 c18 c19 c20 c21 : Value} :
  Fn Tryz.prog 79 [.pointer (some ⟨b, 0, none⟩)] H ([(b, .cells [c0, c1, c2, c3, c4, c5, c6, c7, c8, c9, c10, c11, c12, c13, c14, c15, c16, c17, c18, c19, c20, c21].toArray 107 (0, 0))] :: L) (fun _ H' L' => H = H' ∧ L' = [(b, .cells [c0, c1, c2, c3, c4, c5, c6, c7, c8, c9, c10, c11, c12, c13, c14, c15, c16, c17, c18, c19, c20, c21].toArray 107 (0, 0))] :: L) := by
 refine Fn.mk Tryz.call79 Tryz.func79 rfl Tryz.ntmps79 rfl ?_
 refine skN ?_
 exact fun _ _ hA hw => rn rfl ler ⟨rfl, rfl⟩ hA hw
theorem rd_PushTelemetryRequest_t {H : Fz} {L : Own} {b : Nat} {v : Int} {a : Option Addr} {c : Nat} {s : List UInt8} {e : Value} (hB : BytesAt H a c s) (hL_ : s.length ≤ BR) (he : H.at 0 0 [e]) (hv0 : 0 ≤ v) (hv1 : v ≤ 0) :
  Fn Tryz.prog 80 [.pointer (some ⟨b, 0, none⟩), .slice a s.length c, .bool false] H ([(b, .cells [.int .i16 v, .int .u8 0, .int .u8 0, .int .u8 0, .int .u8 0, .int .u8 0, .int .u8 0, .int .u8 0, .int .u8 0, .int .u8 0, .int .u8 0, .int .u8 0, .int .u8 0, .int .u8 0, .int .u8 0, .int .u8 0, .int .u8 0, .int .i32 0, .bool false, .int .i8 0, .slice none 0 0, .map none].toArray 107 (0, 0))] :: L) (fun r H' L' => ∃ cs : List Value, L' = [(b, .cells cs.toArray 107 (0, 0))] :: L ∧ RdEnd H' (At_PushTelemetryRequest v) (decP fs_PushTelemetryRequest v true ⟨s, false, !a.isNone⟩) e r cs) := by
 refine Fn.mk Tryz.call80 Tryz.func80 rfl Tryz.ntmps80 rfl ?_
 refine sr ?_
 refine asg rfl rfl ?_
 refine nl ?_
 refine sr ?_
 refine mv rfl rfl ?_
 refine cl rfl rfl rfl def0_PushTelemetryRequest rfl (fun v_ H1 L1 hle_ hR_ => ?_)
 obtain ⟨rfl, rfl⟩ := hR_
 refine nl ?_
 refine sr ?_
 refine mv rfl rfl ?_
 refine bd' S118 rfl rfl rfl ?_
 refine al Tryz.zeroValue118 rfl rfl (fun b_1 => ?_)
 refine sa Tryz.sizeOf118 rfl rfl rfl rfl rfl .head ?_
 have hR0_ : RdAt H 118 b_1 ⟨s, false, !a.isNone⟩ [(b_1, .cells [_, _].toArray 118 (0, 0))] := ⟨a, c, rfl, hB, by simp⟩
 obtain ⟨x0, hx0⟩ : ∃ x, x = stepF (Fd.mk 7 0 (-1) (-1) (-1) 0 0 []) v true ⟨s, false, !a.isNone⟩ := ⟨_, rfl⟩
 obtain ⟨x1, hx1⟩ : ∃ x, x = stepF (Fd.mk 3 0 (-1) (-1) (-1) 0 0 []) v true x0.2 := ⟨_, rfl⟩
 obtain ⟨x2, hx2⟩ : ∃ x, x = stepF (Fd.mk 0 0 (-1) (-1) (-1) 0 0 []) v true x1.2 := ⟨_, rfl⟩
 obtain ⟨x3, hx3⟩ : ∃ x, x = stepF (Fd.mk 1 0 (-1) (-1) (-1) 0 0 []) v true x2.2 := ⟨_, rfl⟩
 obtain ⟨x4, hx4⟩ : ∃ x, x = stepF (Fd.mk 9 0 (-1) (-1) (-1) 0 0 []) v true x3.2 := ⟨_, rfl⟩
 obtain ⟨u, hu⟩ : ∃ x, x = tailU true x4.2 := ⟨_, rfl⟩
 have hD : decP fs_PushTelemetryRequest v true ⟨s, false, !a.isNone⟩ = (.mk 0 [] false [x0.1, x1.1, x2.1, x3.1, x4.1] u.1, u.2) := by
  generalize (⟨s, false, !a.isNone⟩ : Rd) = r_ at hx0 ⊢
  rw [decP_eq]; unfold fs_PushTelemetryRequest; simp only [decFs_cons, decFs_nil, ← hx0, ← hx1, ← hx2, ← hx3, ← hx4, ← hu]
 have hL0 : x0.2.s.length ≤ BR := by rw [hx0]; exact Nat.le_trans (stepF_shr _ _ _ _) hL_
 have hL1 : x1.2.s.length ≤ BR := by rw [hx1]; exact Nat.le_trans (stepF_shr _ _ _ _) hL0
 have hL2 : x2.2.s.length ≤ BR := by rw [hx2]; exact Nat.le_trans (stepF_shr _ _ _ _) hL1
 have hL3 : x3.2.s.length ≤ BR := by rw [hx3]; exact Nat.le_trans (stepF_shr _ _ _ _) hL2
 have hL4 : x4.2.s.length ≤ BR := by rw [hx4]; exact Nat.le_trans (stepF_shr _ _ _ _) hL3
 have hE : u.2.bad = true → (decP fs_PushTelemetryRequest v true ⟨s, false, !a.isNone⟩).2.bad = true := fun h => by rw [hD]; exact h
 have hB4 : x4.2.bad = true → (decP fs_PushTelemetryRequest v true ⟨s, false, !a.isNone⟩).2.bad = true := fun h => hE (by rw [hu]; exact tailU_bad h)
 have hB3 : x3.2.bad = true → (decP fs_PushTelemetryRequest v true ⟨s, false, !a.isNone⟩).2.bad = true := fun h => hB4 (by rw [hx4]; exact step_bad h)
 have hB2 : x2.2.bad = true → (decP fs_PushTelemetryRequest v true ⟨s, false, !a.isNone⟩).2.bad = true := fun h => hB3 (by rw [hx3]; exact step_bad h)
 have hB1 : x1.2.bad = true → (decP fs_PushTelemetryRequest v true ⟨s, false, !a.isNone⟩).2.bad = true := fun h => hB2 (by rw [hx2]; exact step_bad h)
 have hB0 : x0.2.bad = true → (decP fs_PushTelemetryRequest v true ⟨s, false, !a.isNone⟩).2.bad = true := fun h => hB1 (by rw [hx1]; exact step_bad h)
 refine nl ?_
 refine sr ?_
 refine mv rfl rfl ?_
 refine nc rfl rfl ?_
 refine fa0 F107_0 rfl rfl ?_
 refine ld (Says.own (.tail .head)) Tryz.isAgg45 rfl (Nat.zero_add _).symm rfl rfl ?_
 refine asg rfl rfl ?_
 refine nl ?_
 refine sr ?_
 refine mv rfl rfl ?_
 refine nl ?_
 refine sr ?_
 refine mv rfl rfl ?_
 refine ge rfl rfl rfl ?_
 refine asg rfl rfl ?_
 refine nl ?_
 refine sr ?_
 refine mv rfl rfl ?_
 refine nl ?_
 refine sr ?_
 refine mv rfl rfl ?_
 refine asg rfl rfl ?_
 refine nl ?_
 refine sq ?_
 refine sr ?_
 have ex0 : x0 = decV 7 (decP [] v true) false true ⟨s, false, !a.isNone⟩ := (hx0.trans (step_yes (by decide) (show (0 : Int) ≤ v by omega) (Or.inl (by decide)))).trans (decF'_val (by decide) (rfl))
 refine cl rfl rfl rfl (d7 hR0_ ex0) rfl (fun v_ H1 L1 hle_ hR_ => ?_)
 obtain ⟨N29, rfl, hR29, rfl, rfl⟩ := hR_
 refine al Tryz.zeroValue99 rfl rfl (fun b_3 => ?_)
 refine sa Tryz.sizeOf99 rfl rfl rfl rfl rfl .head ?_
 refine nl ?_
 refine rg ?_
 refine mv rfl rfl ?_
 refine la (Says.own .head) Tryz.isAgg99 Tryz.sizeOf99 rfl (Nat.zero_add _).symm rfl rfl ?_
 refine nc rfl rfl ?_
 refine fa0 F107_1 rfl rfl ?_
 refine sa Tryz.sizeOf99 rfl rfl rfl rfl rfl (.tail (.tail .head)) ?_
 refine nl ?_
 refine sq ?_
 refine sr ?_
 refine tf (.tail .head) ?_
 have ex1 : x1 = decV 3 (decP [] v true) false true x0.2 := (hx1.trans (step_yes (by decide) (show (0 : Int) ≤ v by omega) (Or.inl (by decide)))).trans (decF'_val (by decide) (rfl))
 refine cl rfl rfl rfl (d3 hR29 ex1) rfl (fun v_ H1 L1 hle_ hR_ => ?_)
 obtain ⟨N34, rfl, hR34, rfl, rfl⟩ := hR_
 refine asg rfl rfl ?_
 refine nl ?_
 refine rg ?_
 refine mv rfl rfl ?_
 refine mv rfl rfl ?_
 refine nc rfl rfl ?_
 refine fa0 F107_2 rfl rfl ?_
 refine st Tryz.sizeOf21 rfl rfl rfl rfl (.tail (.tail .head)) ?_
 refine nl ?_
 refine sq ?_
 refine sr ?_
 have ex2 : x2 = decV 0 (decP [] v true) false true x1.2 := (hx2.trans (step_yes (by decide) (show (0 : Int) ≤ v by omega) (Or.inl (by decide)))).trans (decF'_val (by decide) (rfl))
 refine cl rfl rfl rfl (d0 hR34 ex2) rfl (fun v_ H1 L1 hle_ hR_ => ?_)
 obtain ⟨N39, rfl, hR39, rfl, rfl⟩ := hR_
 refine asg rfl rfl ?_
 refine nl ?_
 refine rg ?_
 refine mv rfl rfl ?_
 refine mv rfl rfl ?_
 refine nc rfl rfl ?_
 refine fa0 F107_3 rfl rfl ?_
 refine st Tryz.sizeOf4 rfl rfl rfl rfl (.tail (.tail .head)) ?_
 refine nl ?_
 refine sq ?_
 refine sr ?_
 have ex3 : x3 = decV 1 (decP [] v true) false true x2.2 := (hx3.trans (step_yes (by decide) (show (0 : Int) ≤ v by omega) (Or.inl (by decide)))).trans (decF'_val (by decide) (rfl))
 refine cl rfl rfl rfl (d1 hR39 ex3) rfl (fun v_ H1 L1 hle_ hR_ => ?_)
 obtain ⟨N44, rfl, hR44, rfl, rfl⟩ := hR_
 refine asg rfl rfl ?_
 refine nl ?_
 refine rg ?_
 refine mv rfl rfl ?_
 refine mv rfl rfl ?_
 refine nc rfl rfl ?_
 refine fa0 F107_4 rfl rfl ?_
 refine st Tryz.sizeOf105 rfl rfl rfl rfl (.tail (.tail .head)) ?_
 refine nl ?_
 refine sq ?_
 refine sr ?_
 refine asg rfl rfl ?_
 refine nl ?_
 refine sq ?_
 refine sr ?_
 refine mv rfl rfl ?_
 refine nl ?_
 refine cdT rfl (by omega) ?_
 refine rg ?_
 have ex4 : x4 = decV 9 (decP [] v true) false true x3.2 := (hx4.trans (step_yes (by decide) (show (0 : Int) ≤ v by omega) (Or.inl (by decide)))).trans (decF'_val (by decide) (rfl))
 refine cl rfl rfl rfl (d9t hR44 ex4) rfl (fun v_ H1 L1 le_7 hR_ => ?_)
 obtain ⟨N50, rfl, hR50, a4, c4, rfl, hf4⟩ := hR_
 refine asg rfl rfl ?_
 refine nl ?_
 refine rg ?_
 refine mv rfl rfl ?_
 refine mv rfl rfl ?_
 refine nc rfl rfl ?_
 refine fa0 F107_5 rfl rfl ?_
 refine st Tryz.sizeOf24 rfl rfl rfl rfl (.tail (.tail .head)) ?_
 refine nl ?_
 refine sq ?_
 refine sr ?_
 refine mv rfl rfl ?_
 refine nl ?_
 refine cdT rfl (by omega) ?_
 refine rg ?_
 refine mv rfl rfl ?_
 refine cl rfl rfl rfl (d_tags hR50) rfl (fun v_ H1 L1 le_8 hR_ => ?_)
 obtain ⟨N58, rfl, hR58, mt, rfl, hft⟩ := hR_
 have hu2 : u = rTags x4.2 := hu
 rw [← hu2] at hR58 hft
 refine nc rfl rfl ?_
 refine fa0 F107_6 rfl rfl ?_
 refine sa Tryz.sizeOf75 rfl rfl rfl rfl rfl (.tail (.tail .head)) ?_
 refine nl ?_
 refine sr ?_
 refine cl rfl rfl rfl (r_complete hR58 (he.mono (le_7.trans le_8))) rfl (fun v_ H1 L1 hle_ hR_ => ?_)
 obtain ⟨rfl, rfl, rfl⟩ := hR_
 refine asg rfl rfl ?_
 refine nl ?_
 refine drW .head ?_
 refine drW .head ?_
 have hA_ := (show At_PushTelemetryRequest v _ (decP fs_PushTelemetryRequest v true _).1 [.int .i16 v, ub x0.1.s 0, ub x0.1.s 1, ub x0.1.s 2, ub x0.1.s 3, ub x0.1.s 4, ub x0.1.s 5, ub x0.1.s 6, ub x0.1.s 7, ub x0.1.s 8, ub x0.1.s 9, ub x0.1.s 10, ub x0.1.s 11, ub x0.1.s 12, ub x0.1.s 13, ub x0.1.s 14, ub x0.1.s 15, .int .i32 (IntKind.i32.wrap x1.1.n), .bool (decide (x2.1.n % 2 = 1)), .int .i8 (IntKind.i8.wrap x3.1.n), .slice a4 (sT x4.1).length c4, .map mt] from (by rw [hD]; exact ⟨a4, c4, mt, rfl, (hf4.mono le_8), hft⟩))
 refine rT rfl rfl (le_7.trans le_8) (fun _ _ h => h) ⟨_, rfl, ?_⟩
 have hz := RdEnd.of (e := e) hA_
 rw [show (decP fs_PushTelemetryRequest v true _).2.bad = u.2.bad by rw [hD]] at hz
 exact hz
end Go.Sx

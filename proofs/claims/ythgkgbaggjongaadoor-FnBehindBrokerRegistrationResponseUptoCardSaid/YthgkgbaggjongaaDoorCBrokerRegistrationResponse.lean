import Derived.Test.YthgkgbaggjongaaDoorSxTab
import Derived.Test.YthgkgbaggjongaaDoorBBrokerRegistrationResponse
import Derived.Test.YthgkgbaggjongaaDoorRK2
import Derived.KernelRfl
set_option linter.unusedVariables false
set_option linter.unusedSimpArgs false
set_option maxRecDepth 100000
set_option maxHeartbeats 20000000
namespace Go.Sx
open Go.Proofs
theorem def0_BrokerRegistrationResponse {H : Fz} {L : Own} {b : Nat} {c0 c1 c2 c3 c4 : Value} :
    Fn Tryd.prog 19 [.pointer (some ⟨b, 0, none⟩)] H ([(b, .cells [c0, c1, c2, c3, c4].toArray 60 (0, 0))] :: L) (fun _ H' L' => H = H' ∧ L' = [(b, .cells [c0, c1, c2, .int .i64 (-1), c4].toArray 60 (0, 0))] :: L) := by
  refine Fn.mk Tryd.call19 Tryd.func19 rfl Tryd.ntmps19 rfl ?_
  refine rg ?_
  refine mv rfl rfl ?_
  refine nc rfl rfl ?_
  refine fa0 F60_3 rfl rfl ?_
  refine st Tryd.sizeOf2 rfl rfl rfl rfl .head ?_
  refine nN ?_
  exact fun _ _ hA hw => rn rfl (Fz.le.refl _) ⟨rfl, rfl⟩ hA hw
theorem rd_BrokerRegistrationResponse_t {H : Fz} {L : Own} {b : Nat} {v : Int} {a : Option Addr} {c : Nat} {s : List UInt8} {e : Value} (hB : BytesAt H a c s) (hL_ : s.length ≤ BR) (he : H.at 1 0 [e]) (hv0 : 0 ≤ v) (hv1 : v ≤ 4) :
    Fn Tryd.prog 28 [.pointer (some ⟨b, 0, none⟩), .slice a s.length c, .bool false] H ([(b, .cells [.int .i16 v, .int .i32 0, .int .i16 0, .int .i64 (-1), .map none].toArray 60 (0, 0))] :: L) (fun r H' L' => ∃ cs : List Value, L' = [(b, .cells cs.toArray 60 (0, 0))] :: L ∧ RdEnd H' (At_BrokerRegistrationResponse v) (decP fs_BrokerRegistrationResponse v true ⟨s, false, !a.isNone⟩) e r cs) := by
  refine Fn.mk Tryd.call28 Tryd.func28 rfl Tryd.ntmps28 rfl ?_
  refine sr ?_
  refine asg rfl rfl ?_
  refine nl ?_
  refine sr ?_
  refine mv rfl rfl ?_
  refine cl rfl rfl rfl def0_BrokerRegistrationResponse rfl (fun v_ H1 L1 hle_ hR_ => ?_)
  obtain ⟨rfl, rfl⟩ := hR_
  refine nl ?_
  refine sr ?_
  refine mv rfl rfl ?_
  refine bd' S82 rfl rfl rfl ?_
  refine al Tryd.zeroValue82 rfl rfl (fun b_1 => ?_)
  refine sa Tryd.sizeOf82 rfl rfl rfl rfl rfl .head ?_
  have hR0_ : RdAt H 82 b_1 ⟨s, false, !a.isNone⟩ [(b_1, .cells [_, _].toArray 82 (0, 0))] := ⟨a, c, rfl, hB, by simp⟩
  obtain ⟨x0, hx0⟩ : ∃ x, x = stepF (Fd.mk 3 0 (-1) (-1) (-1) 0 0 []) v true ⟨s, false, !a.isNone⟩ := ⟨_, rfl⟩
  obtain ⟨x1, hx1⟩ : ∃ x, x = stepF (Fd.mk 2 0 (-1) (-1) (-1) 0 0 []) v true x0.2 := ⟨_, rfl⟩
  obtain ⟨x2, hx2⟩ : ∃ x, x = stepF (Fd.mk 4 0 (-1) (-1) (-1) (-1) 0 []) v true x1.2 := ⟨_, rfl⟩
  obtain ⟨u, hu⟩ : ∃ x, x = tailU true x2.2 := ⟨_, rfl⟩
  have hD : decP fs_BrokerRegistrationResponse v true ⟨s, false, !a.isNone⟩ = (.mk 0 [] false [x0.1, x1.1, x2.1] u.1, u.2) := by
    generalize (⟨s, false, !a.isNone⟩ : Rd) = r_ at hx0 ⊢
    rw [decP_eq]; unfold fs_BrokerRegistrationResponse; simp only [decFs_cons, decFs_nil, ← hx0, ← hx1, ← hx2, ← hu]
  have hL0 : x0.2.s.length ≤ BR := by rw [hx0]; exact Nat.le_trans (stepF_shr _ _ _ _) hL_
  have hL1 : x1.2.s.length ≤ BR := by rw [hx1]; exact Nat.le_trans (stepF_shr _ _ _ _) hL0
  have hL2 : x2.2.s.length ≤ BR := by rw [hx2]; exact Nat.le_trans (stepF_shr _ _ _ _) hL1
  have hE : u.2.bad = true → (decP fs_BrokerRegistrationResponse v true ⟨s, false, !a.isNone⟩).2.bad = true := fun h => by rw [hD]; exact h
  have hB2 : x2.2.bad = true → (decP fs_BrokerRegistrationResponse v true ⟨s, false, !a.isNone⟩).2.bad = true := fun h => hE (by rw [hu]; exact tailU_bad h)
  have hB1 : x1.2.bad = true → (decP fs_BrokerRegistrationResponse v true ⟨s, false, !a.isNone⟩).2.bad = true := fun h => hB2 (by rw [hx2]; exact step_bad h)
  have hB0 : x0.2.bad = true → (decP fs_BrokerRegistrationResponse v true ⟨s, false, !a.isNone⟩).2.bad = true := fun h => hB1 (by rw [hx1]; exact step_bad h)
  refine nl ?_
  refine sr ?_
  refine mv rfl rfl ?_
  refine nc rfl rfl ?_
  refine fa0 F60_0 rfl rfl ?_
  refine ld (Says.own (.tail .head)) Tryd.isAgg40 rfl (Nat.zero_add _).symm rfl rfl ?_
  refine asg rfl rfl ?_
  refine nl ?_
  refine sr ?_
  refine mv rfl rfl ?_
  refine nl ?_
  refine sr ?_
  refine mv rfl rfl ?_
  refine ge rfl rfl rfl ?_
  refine asg rfl rfl ?_
  refine nl ?_
  refine sr ?_
  refine mv rfl rfl ?_
  refine nl ?_
  refine sr ?_
  refine mv rfl rfl ?_
  refine asg rfl rfl ?_
  refine nl ?_
  refine sq ?_
  refine sr ?_
  have ex0 : x0 = decV 3 (decP [] v true) false true ⟨s, false, !a.isNone⟩ := (hx0.trans (step_yes (by decide) (show (0 : Int) ≤ v by omega) (Or.inl (by decide)))).trans (decF'_val (by decide) (rfl))
  refine cl rfl rfl rfl (d3 hR0_ ex0) rfl (fun v_ H1 L1 hle_ hR_ => ?_)
  obtain ⟨N27, rfl, hR27, rfl, rfl⟩ := hR_
  refine asg rfl rfl ?_
  refine nl ?_
  refine rg ?_
  refine mv rfl rfl ?_
  refine mv rfl rfl ?_
  refine nc rfl rfl ?_
  refine fa0 F60_1 rfl rfl ?_
  refine st Tryd.sizeOf21 rfl rfl rfl rfl (.tail .head) ?_
  refine nl ?_
  refine sq ?_
  refine sr ?_
  have ex1 : x1 = decV 2 (decP [] v true) false true x0.2 := (hx1.trans (step_yes (by decide) (show (0 : Int) ≤ v by omega) (Or.inl (by decide)))).trans (decF'_val (by decide) (rfl))
  refine cl rfl rfl rfl (d2 hR27 ex1) rfl (fun v_ H1 L1 hle_ hR_ => ?_)
  obtain ⟨N32, rfl, hR32, rfl, rfl⟩ := hR_
  refine asg rfl rfl ?_
  refine nl ?_
  refine rg ?_
  refine mv rfl rfl ?_
  refine mv rfl rfl ?_
  refine nc rfl rfl ?_
  refine fa0 F60_2 rfl rfl ?_
  refine st Tryd.sizeOf40 rfl rfl rfl rfl (.tail .head) ?_
  refine nl ?_
  refine sq ?_
  refine sr ?_
  have ex2 : x2 = decV 4 (decP [] v true) false true x1.2 := (hx2.trans (step_yes (by decide) (show (0 : Int) ≤ v by omega) (Or.inl (by decide)))).trans (decF'_val (by decide) (rfl))
  refine cl rfl rfl rfl (d4 hR32 ex2) rfl (fun v_ H1 L1 hle_ hR_ => ?_)
  obtain ⟨N37, rfl, hR37, rfl, rfl⟩ := hR_
  refine asg rfl rfl ?_
  refine nl ?_
  refine rg ?_
  refine mv rfl rfl ?_
  refine mv rfl rfl ?_
  refine nc rfl rfl ?_
  refine fa0 F60_3 rfl rfl ?_
  refine st Tryd.sizeOf2 rfl rfl rfl rfl (.tail .head) ?_
  refine nl ?_
  refine sq ?_
  refine sr ?_
  refine mv rfl rfl ?_
  refine nl ?_
  refine cdT rfl (by omega) ?_
  refine rg ?_
  refine mv rfl rfl ?_
  refine cl rfl rfl rfl (d_tags hR37) rfl (fun v_ H1 L1 le_5 hR_ => ?_)
  obtain ⟨N44, rfl, hR44, mt, rfl, hft⟩ := hR_
  have hu2 : u = rTags x2.2 := hu
  rw [← hu2] at hR44 hft
  refine nc rfl rfl ?_
  refine fa0 F60_4 rfl rfl ?_
  refine sa Tryd.sizeOf58 rfl rfl rfl rfl rfl (.tail .head) ?_
  refine nl ?_
  refine sr ?_
  refine cl rfl rfl rfl (r_complete hR44 (he.mono le_5)) rfl (fun v_ H1 L1 hle_ hR_ => ?_)
  obtain ⟨rfl, rfl, rfl⟩ := hR_
  refine asg rfl rfl ?_
  refine nl ?_
  refine drW .head ?_
  have hA_ := (show At_BrokerRegistrationResponse v _ (decP fs_BrokerRegistrationResponse v true _).1 [.int .i16 v, .int .i32 (IntKind.i32.wrap x0.1.n), .int .i16 (IntKind.i16.wrap x1.1.n), .int .i64 x2.1.n, .map mt] from (by rw [hD]; exact ⟨mt, rfl, hft⟩))
  refine rT rfl rfl le_5 (fun _ _ h => h) ⟨_, rfl, ?_⟩
  have hz := RdEnd.of (e := e) hA_
  rw [show (decP fs_BrokerRegistrationResponse v true _).2.bad = u.2.bad by rw [hD]] at hz
  exact hz
end Go.Sx

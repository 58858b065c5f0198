import Derived.Test.YtoncemcnclkpkaaDoorSxTab
import Derived.Test.YtoncemcnclkpkaaDoorBSASLAuthenticateRequest
import Derived.Test.YtoncemcnclkpkaaDoorRK2
import Derived.KernelRfl
set_option linter.unusedVariables false
set_option linter.unusedSimpArgs false
set_option maxRecDepth 100000
set_option maxHeartbeats 20000000
namespace Go.Sx
open Go.Proofs
theorem def0_SASLAuthenticateRequest {H : Fz} {L : Own} {b : Nat} {c0 c1 c2 : Value} :
    Fn Tryd.prog 98 [.pointer (some ⟨b, 0, none⟩)] H ([(b, .cells [c0, c1, c2].toArray 114 (0, 0))] :: L) (fun _ H' L' => H = H' ∧ L' = [(b, .cells [c0, c1, c2].toArray 114 (0, 0))] :: L) := by
  refine Fn.mk Tryd.call98 Tryd.func98 rfl Tryd.ntmps98 rfl ?_
  refine skN ?_
  exact fun _ _ hA hw => rn rfl (Fz.le.refl _) ⟨rfl, rfl⟩ hA hw
theorem rd_SASLAuthenticateRequest_f {H : Fz} {L : Own} {b : Nat} {v : Int} {a : Option Addr} {c : Nat} {s : List UInt8} {e : Value} (hB : BytesAt H a c s) (hL_ : s.length ≤ BR) (he : H.at 0 0 [e]) (hv0 : 0 ≤ v) (hv1 : v ≤ 1) :
    Fn Tryd.prog 99 [.pointer (some ⟨b, 0, none⟩), .slice a s.length c, .bool false] H ([(b, .cells [.int .i16 v, .slice none 0 0, .map none].toArray 114 (0, 0))] :: L) (fun r H' L' => ∃ cs : List Value, L' = [(b, .cells cs.toArray 114 (0, 0))] :: L ∧ RdEnd H' (At_SASLAuthenticateRequest v) (decP fs_SASLAuthenticateRequest v false ⟨s, false, !a.isNone⟩) e r cs) := by
  refine Fn.mk Tryd.call99 Tryd.func99 rfl Tryd.ntmps99 rfl ?_
  refine sr ?_
  refine asg rfl rfl ?_
  refine nl ?_
  refine sr ?_
  refine mv rfl rfl ?_
  refine cl rfl rfl rfl def0_SASLAuthenticateRequest rfl (fun v_ H1 L1 hle_ hR_ => ?_)
  obtain ⟨rfl, rfl⟩ := hR_
  refine nl ?_
  refine sr ?_
  refine mv rfl rfl ?_
  refine bd' S124 rfl rfl rfl ?_
  refine al Tryd.zeroValue124 rfl rfl (fun b_1 => ?_)
  refine sa Tryd.sizeOf124 rfl rfl rfl rfl rfl .head ?_
  have hR0_ : RdAt H 124 b_1 ⟨s, false, !a.isNone⟩ [(b_1, .cells [_, _].toArray 124 (0, 0))] := ⟨a, c, rfl, hB, by simp⟩
  obtain ⟨x0, hx0⟩ : ∃ x, x = stepF (Fd.mk 9 0 (-1) (-1) (-1) 0 0 []) v false ⟨s, false, !a.isNone⟩ := ⟨_, rfl⟩
  obtain ⟨u, hu⟩ : ∃ x, x = tailU false x0.2 := ⟨_, rfl⟩
  have hD : decP fs_SASLAuthenticateRequest v false ⟨s, false, !a.isNone⟩ = (.mk 0 [] false [x0.1] u.1, u.2) := by
    generalize (⟨s, false, !a.isNone⟩ : Rd) = r_ at hx0 ⊢
    rw [decP_eq]; unfold fs_SASLAuthenticateRequest; simp only [decFs_cons, decFs_nil, ← hx0, ← hu]
  have hL0 : x0.2.s.length ≤ BR := by rw [hx0]; exact Nat.le_trans (stepF_shr _ _ _ _) hL_
  have hE : u.2.bad = true → (decP fs_SASLAuthenticateRequest v false ⟨s, false, !a.isNone⟩).2.bad = true := fun h => by rw [hD]; exact h
  have hB0 : x0.2.bad = true → (decP fs_SASLAuthenticateRequest v false ⟨s, false, !a.isNone⟩).2.bad = true := fun h => hE (by rw [hu]; exact tailU_bad h)
  refine nl ?_
  refine sr ?_
  refine mv rfl rfl ?_
  refine nc rfl rfl ?_
  refine fa0 F114_0 rfl rfl ?_
  refine ld (Says.own (.tail .head)) Tryd.isAgg47 rfl (Nat.zero_add _).symm rfl rfl ?_
  refine asg rfl rfl ?_
  refine nl ?_
  refine sr ?_
  refine mv rfl rfl ?_
  refine nl ?_
  refine sr ?_
  refine mv rfl rfl ?_
  refine ge rfl rfl rfl ?_
  refine asg rfl rfl ?_
  refine nl ?_
  refine sr ?_
  refine mv rfl rfl ?_
  refine nl ?_
  refine sr ?_
  refine mv rfl rfl ?_
  refine asg rfl rfl ?_
  refine nl ?_
  refine sq ?_
  refine sr ?_
  refine asg rfl rfl ?_
  refine nl ?_
  refine sq ?_
  refine sr ?_
  refine mv rfl rfl ?_
  refine nl ?_
  refine cdF rfl (by omega) ?_
  refine rg ?_
  have ex0 : x0 = decV 9 (decP [] v false) false false ⟨s, false, !a.isNone⟩ := (hx0.trans (step_yes (by decide) (show (0 : Int) ≤ v by omega) (Or.inl (by decide)))).trans (decF'_val (by decide) (rfl))
  refine cl rfl rfl rfl (d9f hR0_ ex0) rfl (fun v_ H1 L1 le_2 hR_ => ?_)
  obtain ⟨N27, rfl, hR27, a0, c0, rfl, hf0⟩ := hR_
  refine asg rfl rfl ?_
  refine nl ?_
  refine rg ?_
  refine mv rfl rfl ?_
  refine mv rfl rfl ?_
  refine nc rfl rfl ?_
  refine fa0 F114_1 rfl rfl ?_
  refine st Tryd.sizeOf22 rfl rfl rfl rfl (.tail .head) ?_
  refine nl ?_
  refine sq ?_
  refine sr ?_
  refine mv rfl rfl ?_
  refine nl ?_
  refine cdF rfl (by omega) ?_
  refine skt ?_
  refine sr ?_
  refine cl rfl rfl rfl (r_complete hR27 (he.mono le_2)) rfl (fun v_ H1 L1 hle_ hR_ => ?_)
  obtain ⟨rfl, rfl, rfl⟩ := hR_
  refine asg rfl rfl ?_
  refine nl ?_
  refine drW .head ?_
  obtain rfl : u = ([], x0.2) := hu
  have hA_ := (show At_SASLAuthenticateRequest v _ (decP fs_SASLAuthenticateRequest v false _).1 [.int .i16 v, .slice a0 (sT x0.1).length c0, .map none] from (by rw [hD]; exact ⟨a0, c0, none, rfl, hf0, (KvAt.nil _)⟩))
  refine rT rfl rfl le_2 (fun _ _ h => h) ⟨_, rfl, ?_⟩
  have hz := RdEnd.of (e := e) hA_
  rw [show (decP fs_SASLAuthenticateRequest v false _).2.bad = x0.2.bad by rw [hD]] at hz
  exact hz
theorem rd_SASLAuthenticateRequest_t {H : Fz} {L : Own} {b : Nat} {v : Int} {a : Option Addr} {c : Nat} {s : List UInt8} {e : Value} (hB : BytesAt H a c s) (hL_ : s.length ≤ BR) (he : H.at 0 0 [e]) (hv0 : 2 ≤ v) (hv1 : v ≤ 2) :
    Fn Tryd.prog 99 [.pointer (some ⟨b, 0, none⟩), .slice a s.length c, .bool false] H ([(b, .cells [.int .i16 v, .slice none 0 0, .map none].toArray 114 (0, 0))] :: L) (fun r H' L' => ∃ cs : List Value, L' = [(b, .cells cs.toArray 114 (0, 0))] :: L ∧ RdEnd H' (At_SASLAuthenticateRequest v) (decP fs_SASLAuthenticateRequest v true ⟨s, false, !a.isNone⟩) e r cs) := by
  refine Fn.mk Tryd.call99 Tryd.func99 rfl Tryd.ntmps99 rfl ?_
  refine sr ?_
  refine asg rfl rfl ?_
  refine nl ?_
  refine sr ?_
  refine mv rfl rfl ?_
  refine cl rfl rfl rfl def0_SASLAuthenticateRequest rfl (fun v_ H1 L1 hle_ hR_ => ?_)
  obtain ⟨rfl, rfl⟩ := hR_
  refine nl ?_
  refine sr ?_
  refine mv rfl rfl ?_
  refine bd' S124 rfl rfl rfl ?_
  refine al Tryd.zeroValue124 rfl rfl (fun b_1 => ?_)
  refine sa Tryd.sizeOf124 rfl rfl rfl rfl rfl .head ?_
  have hR0_ : RdAt H 124 b_1 ⟨s, false, !a.isNone⟩ [(b_1, .cells [_, _].toArray 124 (0, 0))] := ⟨a, c, rfl, hB, by simp⟩
  obtain ⟨x0, hx0⟩ : ∃ x, x = stepF (Fd.mk 9 0 (-1) (-1) (-1) 0 0 []) v true ⟨s, false, !a.isNone⟩ := ⟨_, rfl⟩
  obtain ⟨u, hu⟩ : ∃ x, x = tailU true x0.2 := ⟨_, rfl⟩
  have hD : decP fs_SASLAuthenticateRequest v true ⟨s, false, !a.isNone⟩ = (.mk 0 [] false [x0.1] u.1, u.2) := by
    generalize (⟨s, false, !a.isNone⟩ : Rd) = r_ at hx0 ⊢
    rw [decP_eq]; unfold fs_SASLAuthenticateRequest; simp only [decFs_cons, decFs_nil, ← hx0, ← hu]
  have hL0 : x0.2.s.length ≤ BR := by rw [hx0]; exact Nat.le_trans (stepF_shr _ _ _ _) hL_
  have hE : u.2.bad = true → (decP fs_SASLAuthenticateRequest v true ⟨s, false, !a.isNone⟩).2.bad = true := fun h => by rw [hD]; exact h
  have hB0 : x0.2.bad = true → (decP fs_SASLAuthenticateRequest v true ⟨s, false, !a.isNone⟩).2.bad = true := fun h => hE (by rw [hu]; exact tailU_bad h)
  refine nl ?_
  refine sr ?_
  refine mv rfl rfl ?_
  refine nc rfl rfl ?_
  refine fa0 F114_0 rfl rfl ?_
  refine ld (Says.own (.tail .head)) Tryd.isAgg47 rfl (Nat.zero_add _).symm rfl rfl ?_
  refine asg rfl rfl ?_
  refine nl ?_
  refine sr ?_
  refine mv rfl rfl ?_
  refine nl ?_
  refine sr ?_
  refine mv rfl rfl ?_
  refine ge rfl rfl rfl ?_
  refine asg rfl rfl ?_
  refine nl ?_
  refine sr ?_
  refine mv rfl rfl ?_
  refine nl ?_
  refine sr ?_
  refine mv rfl rfl ?_
  refine asg rfl rfl ?_
  refine nl ?_
  refine sq ?_
  refine sr ?_
  refine asg rfl rfl ?_
  refine nl ?_
  refine sq ?_
  refine sr ?_
  refine mv rfl rfl ?_
  refine nl ?_
  refine cdT rfl (by omega) ?_
  refine rg ?_
  have ex0 : x0 = decV 9 (decP [] v true) false true ⟨s, false, !a.isNone⟩ := (hx0.trans (step_yes (by decide) (show (0 : Int) ≤ v by omega) (Or.inl (by decide)))).trans (decF'_val (by decide) (rfl))
  refine cl rfl rfl rfl (d9t hR0_ ex0) rfl (fun v_ H1 L1 le_2 hR_ => ?_)
  obtain ⟨N26, rfl, hR26, a0, c0, rfl, hf0⟩ := hR_
  refine asg rfl rfl ?_
  refine nl ?_
  refine rg ?_
  refine mv rfl rfl ?_
  refine mv rfl rfl ?_
  refine nc rfl rfl ?_
  refine fa0 F114_1 rfl rfl ?_
  refine st Tryd.sizeOf22 rfl rfl rfl rfl (.tail .head) ?_
  refine nl ?_
  refine sq ?_
  refine sr ?_
  refine mv rfl rfl ?_
  refine nl ?_
  refine cdT rfl (by omega) ?_
  refine rg ?_
  refine mv rfl rfl ?_
  refine cl rfl rfl rfl (d_tags hR26) rfl (fun v_ H1 L1 le_3 hR_ => ?_)
  obtain ⟨N34, rfl, hR34, mt, rfl, hft⟩ := hR_
  have hu2 : u = rTags x0.2 := hu
  rw [← hu2] at hR34 hft
  refine nc rfl rfl ?_
  refine fa0 F114_2 rfl rfl ?_
  refine sa Tryd.sizeOf95 rfl rfl rfl rfl rfl (.tail .head) ?_
  refine nl ?_
  refine sr ?_
  refine cl rfl rfl rfl (r_complete hR34 (he.mono (le_2.trans le_3))) rfl (fun v_ H1 L1 hle_ hR_ => ?_)
  obtain ⟨rfl, rfl, rfl⟩ := hR_
  refine asg rfl rfl ?_
  refine nl ?_
  refine drW .head ?_
  have hA_ := (show At_SASLAuthenticateRequest v _ (decP fs_SASLAuthenticateRequest v true _).1 [.int .i16 v, .slice a0 (sT x0.1).length c0, .map mt] from (by rw [hD]; exact ⟨a0, c0, mt, rfl, (hf0.mono le_3), hft⟩))
  refine rT rfl rfl (le_2.trans le_3) (fun _ _ h => h) ⟨_, rfl, ?_⟩
  have hz := RdEnd.of (e := e) hA_
  rw [show (decP fs_SASLAuthenticateRequest v true _).2.bad = u.2.bad by rw [hD]] at hz
  exact hz
end Go.Sx

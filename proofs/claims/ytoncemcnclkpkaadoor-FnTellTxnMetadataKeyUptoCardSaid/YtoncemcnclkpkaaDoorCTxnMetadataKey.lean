import Derived.Test.YtoncemcnclkpkaaDoorSxTab
import Derived.Test.YtoncemcnclkpkaaDoorBTxnMetadataKey
import Derived.Test.YtoncemcnclkpkaaDoorRK2
import Derived.KernelRfl
set_option linter.unusedVariables false
set_option linter.unusedSimpArgs false
set_option maxRecDepth 100000
set_option maxHeartbeats 20000000
namespace Go.Sx
open Go.Proofs
theorem def0_TxnMetadataKey {H : Fz} {L : Own} {b : Nat} {c0 c1 : Value} :
    Fn Tryd.prog 111 [.pointer (some ⟨b, 0, none⟩)] H ([(b, .cells [c0, c1].toArray 86 (0, 0))] :: L) (fun _ H' L' => H = H' ∧ L' = [(b, .cells [c0, c1].toArray 86 (0, 0))] :: L) := by
  refine Fn.mk Tryd.call111 Tryd.func111 rfl Tryd.ntmps111 rfl ?_
  refine skN ?_
  exact fun _ _ hA hw => rn rfl (Fz.le.refl _) ⟨rfl, rfl⟩ hA hw
theorem rd_TxnMetadataKey {H : Fz} {L : Own} {b : Nat} {a : Option Addr} {c : Nat} {s : List UInt8} {e : Value} (hB : BytesAt H a c s) (hL_ : s.length ≤ BR) (he : H.at 0 0 [e]) :
    Fn Tryd.prog 112 [.pointer (some ⟨b, 0, none⟩), .slice a s.length c, .bool false] H ([(b, .cells [.int .i16 0, .string ⟨#[]⟩].toArray 86 (0, 0))] :: L) (fun r H' L' => ∃ cs : List Value, L' = [(b, .cells cs.toArray 86 (0, 0))] :: L ∧ RdEnd H' (At_TxnMetadataKey (IntKind.i16.wrap (kV ⟨s, false, !a.isNone⟩).1.n)) (decP fs_TxnMetadataKey 0 false (kV ⟨s, false, !a.isNone⟩).2) e r cs) := by
  obtain ⟨v, hv_⟩ : ∃ v : Int, v = 0 := ⟨0, rfl⟩
  have hv0 : 0 ≤ v := by omega
  have hv1 : v ≤ 0 := by omega
  refine Fn.mk Tryd.call112 Tryd.func112 rfl Tryd.ntmps112 rfl ?_
  refine sr ?_
  refine asg rfl rfl ?_
  refine nl ?_
  refine sr ?_
  refine mv rfl rfl ?_
  refine cl rfl rfl rfl def0_TxnMetadataKey rfl (fun v_ H1 L1 hle_ hR_ => ?_)
  obtain ⟨rfl, rfl⟩ := hR_
  refine nl ?_
  refine sr ?_
  refine mv rfl rfl ?_
  refine bd' S124 rfl rfl rfl ?_
  refine al Tryd.zeroValue124 rfl rfl (fun b_1 => ?_)
  refine sa Tryd.sizeOf124 rfl rfl rfl rfl rfl .head ?_
  have hR0_ : RdAt H 124 b_1 ⟨s, false, !a.isNone⟩ [(b_1, .cells [_, _].toArray 124 (0, 0))] := ⟨a, c, rfl, hB, by simp⟩
  refine nl ?_
  refine sr ?_
  refine mv rfl rfl ?_
  obtain ⟨xv, hxv⟩ : ∃ x, x = kV ⟨s, false, !a.isNone⟩ := ⟨_, rfl⟩
  refine cl rfl rfl rfl (d2 hR0_ hxv) rfl (fun v_ H1 L1 hle_ hR_ => ?_)
  obtain ⟨N16, rfl, hR16, rfl, rfl⟩ := hR_
  have hL_ : xv.2.s.length ≤ BR := by rw [hxv]; exact Nat.le_trans (decV_shr (fun r => decP_shr _ _ _ r) _) hL_
  obtain ⟨x0, hx0⟩ : ∃ x, x = stepF (Fd.mk 8 0 (-1) (-1) (-1) 0 0 []) v false xv.2 := ⟨_, rfl⟩
  obtain ⟨u, hu⟩ : ∃ x, x = tailU false x0.2 := ⟨_, rfl⟩
  have hD : decP fs_TxnMetadataKey v false xv.2 = (.mk 0 [] false [x0.1] u.1, u.2) := by
    generalize (xv.2 : Rd) = r_ at hx0 ⊢
    rw [decP_eq]; unfold fs_TxnMetadataKey; simp only [decFs_cons, decFs_nil, ← hx0, ← hu]
  have hL0 : x0.2.s.length ≤ BR := by rw [hx0]; exact Nat.le_trans (stepF_shr _ _ _ _) hL_
  have hE : u.2.bad = true → (decP fs_TxnMetadataKey v false xv.2).2.bad = true := fun h => by rw [hD]; exact h
  have hB0 : x0.2.bad = true → (decP fs_TxnMetadataKey v false xv.2).2.bad = true := fun h => hE (by rw [hu]; exact tailU_bad h)
  refine nc rfl rfl ?_
  refine fa0 F86_0 rfl rfl ?_
  refine st Tryd.sizeOf47 rfl rfl rfl rfl (.tail .head) ?_
  refine nl ?_
  refine sr ?_
  refine mv rfl rfl ?_
  refine nc rfl rfl ?_
  refine fa0 F86_0 rfl rfl ?_
  refine ld (Says.own (.tail .head)) Tryd.isAgg47 rfl (Nat.zero_add _).symm rfl rfl ?_
  refine asg rfl rfl ?_
  refine nl ?_
  refine sr ?_
  refine mv rfl rfl ?_
  refine nl ?_
  refine sr ?_
  refine mv rfl rfl ?_
  refine asg rfl rfl ?_
  refine nl ?_
  refine sq ?_
  refine sr ?_
  refine asg rfl rfl ?_
  refine nl ?_
  refine sq ?_
  refine sr ?_
  refine mv rfl rfl ?_
  refine nl ?_
  refine cF rfl ?_
  refine rg ?_
  have ex0 : x0 = decV 8 (decP [] v false) false false xv.2 := (hx0.trans (step_yes (by decide) (show (0 : Int) ≤ v by omega) (Or.inl (by decide)))).trans (decF'_val (by decide) (rfl))
  refine cl rfl rfl rfl (d8f hR16 ex0) rfl (fun v_ H1 L1 le_3 hR_ => ?_)
  obtain ⟨N27, rfl, hR27, rfl, rfl⟩ := hR_
  refine asg rfl rfl ?_
  refine nl ?_
  refine rg ?_
  refine mv rfl rfl ?_
  refine mv rfl rfl ?_
  refine nc rfl rfl ?_
  refine fa0 F86_1 rfl rfl ?_
  refine st Tryd.sizeOf9 rfl rfl rfl rfl (.tail .head) ?_
  refine nl ?_
  refine sr ?_
  refine cl rfl rfl rfl (r_complete hR27 he) rfl (fun v_ H1 L1 hle_ hR_ => ?_)
  obtain ⟨rfl, rfl, rfl⟩ := hR_
  refine asg rfl rfl ?_
  refine nl ?_
  refine drW .head ?_
  obtain rfl : u = ([], x0.2) := hu
  have hA_ := (show At_TxnMetadataKey (IntKind.i16.wrap xv.1.n) H (decP fs_TxnMetadataKey v false _).1 [.int .i16 (IntKind.i16.wrap xv.1.n), .string ⟨x0.1.s.toArray⟩] from (by rw [hD]; exact rfl))
  refine rT rfl rfl (Fz.le.refl _) (fun _ _ h => h) ⟨_, rfl, ?_⟩
  have hz := RdEnd.of (e := e) hA_
  rw [show (decP fs_TxnMetadataKey v false _).2.bad = x0.2.bad by rw [hD]] at hz
  rw [← hxv]
  subst hv_
  exact hz
end Go.Sx

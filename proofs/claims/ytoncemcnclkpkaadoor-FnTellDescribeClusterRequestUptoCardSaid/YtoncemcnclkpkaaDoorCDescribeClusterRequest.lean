import Derived.Test.YtoncemcnclkpkaaDoorSxTab
import Derived.Test.YtoncemcnclkpkaaDoorBDescribeClusterRequest
import Derived.Test.YtoncemcnclkpkaaDoorRK2
import Derived.KernelRfl
set_option linter.unusedVariables false
set_option linter.unusedSimpArgs false
set_option maxRecDepth 100000
set_option maxHeartbeats 20000000
namespace Go.Sx
open Go.Proofs
theorem def0_DescribeClusterRequest {H : Fz} {L : Own} {b : Nat} {c0 c1 c2 c3 c4 : Value} :
    Fn Tryd.prog 82 [.pointer (some ⟨b, 0, none⟩)] H ([(b, .cells [c0, c1, c2, c3, c4].toArray 97 (0, 0))] :: L) (fun _ H' L' => H = H' ∧ L' = [(b, .cells [c0, c1, .int .i8 1, c3, c4].toArray 97 (0, 0))] :: L) := by
  refine Fn.mk Tryd.call82 Tryd.func82 rfl Tryd.ntmps82 rfl ?_
  refine rg ?_
  refine mv rfl rfl ?_
  refine nc rfl rfl ?_
  refine fa0 F97_2 rfl rfl ?_
  refine st Tryd.sizeOf92 rfl rfl rfl rfl .head ?_
  refine nN ?_
  exact fun _ _ hA hw => rn rfl (Fz.le.refl _) ⟨rfl, rfl⟩ hA hw
theorem rd_DescribeClusterRequest_t {H : Fz} {L : Own} {b : Nat} {v : Int} {a : Option Addr} {c : Nat} {s : List UInt8} {e : Value} (hB : BytesAt H a c s) (hL_ : s.length ≤ BR) (he : H.at 0 0 [e]) (hv0 : 0 ≤ v) (hv1 : v ≤ 2) :
    Fn Tryd.prog 83 [.pointer (some ⟨b, 0, none⟩), .slice a s.length c, .bool false] H ([(b, .cells [.int .i16 v, .bool false, .int .i8 1, .bool false, .map none].toArray 97 (0, 0))] :: L) (fun r H' L' => ∃ cs : List Value, L' = [(b, .cells cs.toArray 97 (0, 0))] :: L ∧ RdEnd H' (At_DescribeClusterRequest v) (decP fs_DescribeClusterRequest v true ⟨s, false, !a.isNone⟩) e r cs) := by
  refine Fn.mk Tryd.call83 Tryd.func83 rfl Tryd.ntmps83 rfl ?_
  refine sr ?_
  refine asg rfl rfl ?_
  refine nl ?_
  refine sr ?_
  refine mv rfl rfl ?_
  refine cl rfl rfl rfl def0_DescribeClusterRequest rfl (fun v_ H1 L1 hle_ hR_ => ?_)
  obtain ⟨rfl, rfl⟩ := hR_
  refine nl ?_
  refine sr ?_
  refine mv rfl rfl ?_
  refine bd' S124 rfl rfl rfl ?_
  refine al Tryd.zeroValue124 rfl rfl (fun b_1 => ?_)
  refine sa Tryd.sizeOf124 rfl rfl rfl rfl rfl .head ?_
  have hR0_ : RdAt H 124 b_1 ⟨s, false, !a.isNone⟩ [(b_1, .cells [_, _].toArray 124 (0, 0))] := ⟨a, c, rfl, hB, by simp⟩
  obtain ⟨x0, hx0⟩ : ∃ x, x = stepF (Fd.mk 0 0 (-1) (-1) (-1) 0 0 []) v true ⟨s, false, !a.isNone⟩ := ⟨_, rfl⟩
  obtain ⟨x1, hx1⟩ : ∃ x, x = stepF (Fd.mk 1 1 (-1) (-1) (-1) 1 0 []) v true x0.2 := ⟨_, rfl⟩
  obtain ⟨x2, hx2⟩ : ∃ x, x = stepF (Fd.mk 0 2 (-1) (-1) (-1) 0 0 []) v true x1.2 := ⟨_, rfl⟩
  obtain ⟨u, hu⟩ : ∃ x, x = tailU true x2.2 := ⟨_, rfl⟩
  have hD : decP fs_DescribeClusterRequest v true ⟨s, false, !a.isNone⟩ = (.mk 0 [] false [x0.1, x1.1, x2.1] u.1, u.2) := by
    generalize (⟨s, false, !a.isNone⟩ : Rd) = r_ at hx0 ⊢
    rw [decP_eq]; unfold fs_DescribeClusterRequest; simp only [decFs_cons, decFs_nil, ← hx0, ← hx1, ← hx2, ← hu]
  have hL0 : x0.2.s.length ≤ BR := by rw [hx0]; exact Nat.le_trans (stepF_shr _ _ _ _) hL_
  have hL1 : x1.2.s.length ≤ BR := by rw [hx1]; exact Nat.le_trans (stepF_shr _ _ _ _) hL0
  have hL2 : x2.2.s.length ≤ BR := by rw [hx2]; exact Nat.le_trans (stepF_shr _ _ _ _) hL1
  have hE : u.2.bad = true → (decP fs_DescribeClusterRequest v true ⟨s, false, !a.isNone⟩).2.bad = true := fun h => by rw [hD]; exact h
  have hB2 : x2.2.bad = true → (decP fs_DescribeClusterRequest v true ⟨s, false, !a.isNone⟩).2.bad = true := fun h => hE (by rw [hu]; exact tailU_bad h)
  have hB1 : x1.2.bad = true → (decP fs_DescribeClusterRequest v true ⟨s, false, !a.isNone⟩).2.bad = true := fun h => hB2 (by rw [hx2]; exact step_bad h)
  have hB0 : x0.2.bad = true → (decP fs_DescribeClusterRequest v true ⟨s, false, !a.isNone⟩).2.bad = true := fun h => hB1 (by rw [hx1]; exact step_bad h)
  refine nl ?_
  refine sr ?_
  refine mv rfl rfl ?_
  refine nc rfl rfl ?_
  refine fa0 F97_0 rfl rfl ?_
  refine ld (Says.own (.tail .head)) Tryd.isAgg47 rfl (Nat.zero_add _).symm rfl rfl ?_
  refine asg rfl rfl ?_
  refine nl ?_
  refine sr ?_
  refine mv rfl rfl ?_
  refine nl ?_
  refine sr ?_
  refine mv rfl rfl ?_
  refine ge rfl rfl rfl ?_
  refine asg rfl rfl ?_
  refine nl ?_
  refine sr ?_
  refine mv rfl rfl ?_
  refine nl ?_
  refine sr ?_
  refine mv rfl rfl ?_
  refine asg rfl rfl ?_
  refine nl ?_
  refine sq ?_
  refine sr ?_
  have ex0 : x0 = decV 0 (decP [] v true) false true ⟨s, false, !a.isNone⟩ := (hx0.trans (step_yes (by decide) (show (0 : Int) ≤ v by omega) (Or.inl (by decide)))).trans (decF'_val (by decide) (rfl))
  refine cl rfl rfl rfl (d0 hR0_ ex0) rfl (fun v_ H1 L1 hle_ hR_ => ?_)
  obtain ⟨N27, rfl, hR27, rfl, rfl⟩ := hR_
  refine asg rfl rfl ?_
  refine nl ?_
  refine rg ?_
  refine mv rfl rfl ?_
  refine mv rfl rfl ?_
  refine nc rfl rfl ?_
  refine fa0 F97_1 rfl rfl ?_
  refine st Tryd.sizeOf4 rfl rfl rfl rfl (.tail .head) ?_
  refine nl ?_
  refine sq ?_
  refine sr ?_
  refine mv rfl rfl ?_
  refine ge rfl rfl rfl ?_
  refine nl ?_
  refine cutT (fun l' H' L' => ∃ (Nj1 : Chunk), [(7, .pointer (some ⟨b_1, 0, none⟩)), (8, .int .i16 v), (9, .bool (decide ((0 : Int) ≤ v))), (10, .pointer (some ⟨b, 0, none⟩))] = l' ∧ Nj1 :: [(b, .cells [.int .i16 v, .bool (decide (x0.1.n % 2 = 1)), .int .i8 (IntKind.i8.wrap x1.1.n), .bool false, .map none].toArray 97 (0, 0))] :: L = L' ∧ RdAt H' 124 b_1 x1.2 Nj1) ?_ (fun l' H' L' le_3 hI => ?_)
  · skip
    refine cd rfl (fun h33 => ?_) (fun h33 => ?_)
    · skip
      refine sr ?_
      have ex1 : x1 = decV 1 (decP [] v true) false true x0.2 := (hx1.trans (step_yes (by decide) (show (1 : Int) ≤ v by omega) (Or.inl (by decide)))).trans (decF'_val (by decide) (rfl))
      refine cl rfl rfl rfl (d1 hR27 ex1) rfl (fun v_ H1 L1 hle_ hR_ => ?_)
      obtain ⟨N34, rfl, hR34, rfl, rfl⟩ := hR_
      refine asg rfl rfl ?_
      refine nl ?_
      refine rg ?_
      refine mv rfl rfl ?_
      refine mv rfl rfl ?_
      refine nc rfl rfl ?_
      refine fa0 F97_2 rfl rfl ?_
      refine st Tryd.sizeOf92 rfl rfl rfl rfl (.tail .head) ?_
      refine nN ?_
      refine fun a_ w_ hA hw => ⟨_, _, _, hA.sub ?_, (Fz.le.refl _), hw, N34, rfl, rfl, hR34⟩
      exact (.cons rfl (.cons rfl (.cons rfl (.cons rfl (.nil _)))))
    · skip
      refine skN ?_
      obtain rfl : x1 = ((Tr.mk 1 [] false [] []), x0.2) := (hx1.trans (step_no (Or.inl (show v < (1 : Int) by omega)))).trans (by rw [dflF_eq]; rfl)
      refine fun a_ w_ hA hw => ⟨_, _, _, hA.sub ?_, (Fz.le.refl _), hw, N27, rfl, rfl, hR27⟩
      exact (.cons rfl (.cons rfl (.cons rfl (.cons rfl (.nil _)))))
  · skip
    obtain ⟨Nj1, rfl, rfl, pj0⟩ := hI
    have hRj1 := pj0
    refine sq ?_
    refine sr ?_
    refine mv rfl rfl ?_
    refine ge rfl rfl rfl ?_
    refine nl ?_
    refine cutT (fun l' H' L' => ∃ (Nj2 : Chunk), [(7, .pointer (some ⟨b_1, 0, none⟩)), (9, .bool (decide ((0 : Int) ≤ v))), (10, .pointer (some ⟨b, 0, none⟩))] = l' ∧ Nj2 :: [(b, .cells [.int .i16 v, .bool (decide (x0.1.n % 2 = 1)), .int .i8 (IntKind.i8.wrap x1.1.n), .bool (decide (x2.1.n % 2 = 1)), .map none].toArray 97 (0, 0))] :: L = L' ∧ RdAt H' 124 b_1 x2.2 Nj2) ?_ (fun l' H' L' le_5 hI => ?_)
    · skip
      refine cd rfl (fun h40 => ?_) (fun h40 => ?_)
      · skip
        refine sr ?_
        have ex2 : x2 = decV 0 (decP [] v true) false true x1.2 := (hx2.trans (step_yes (by decide) (show (2 : Int) ≤ v by omega) (Or.inl (by decide)))).trans (decF'_val (by decide) (rfl))
        refine cl rfl rfl rfl (d0 hRj1 ex2) rfl (fun v_ H1 L1 hle_ hR_ => ?_)
        obtain ⟨N41, rfl, hR41, rfl, rfl⟩ := hR_
        refine asg rfl rfl ?_
        refine nl ?_
        refine rg ?_
        refine mv rfl rfl ?_
        refine mv rfl rfl ?_
        refine nc rfl rfl ?_
        refine fa0 F97_3 rfl rfl ?_
        refine st Tryd.sizeOf4 rfl rfl rfl rfl (.tail .head) ?_
        refine nN ?_
        refine fun a_ w_ hA hw => ⟨_, _, _, hA.sub ?_, (Fz.le.refl _), hw, N41, rfl, rfl, hR41⟩
        exact (.cons rfl (.cons rfl (.cons rfl (.nil _))))
      · skip
        refine skN ?_
        obtain rfl : x2 = ((Tr.mk 0 [] false [] []), x1.2) := (hx2.trans (step_no (Or.inl (show v < (2 : Int) by omega)))).trans (by rw [dflF_eq]; rfl)
        refine fun a_ w_ hA hw => ⟨_, _, _, hA.sub ?_, (Fz.le.refl _), hw, Nj1, rfl, rfl, hRj1⟩
        exact (.cons rfl (.cons rfl (.cons rfl (.nil _))))
    · skip
      obtain ⟨Nj2, rfl, rfl, pj0⟩ := hI
      have hRj2 := pj0
      refine sq ?_
      refine sr ?_
      refine mv rfl rfl ?_
      refine nl ?_
      refine cdT rfl (by omega) ?_
      refine rg ?_
      refine mv rfl rfl ?_
      refine cl rfl rfl rfl (d_tags hRj2) rfl (fun v_ H1 L1 le_7 hR_ => ?_)
      obtain ⟨N48, rfl, hR48, mt, rfl, hft⟩ := hR_
      have hu2 : u = rTags x2.2 := hu
      rw [← hu2] at hR48 hft
      refine nc rfl rfl ?_
      refine fa0 F97_4 rfl rfl ?_
      refine sa Tryd.sizeOf95 rfl rfl rfl rfl rfl (.tail .head) ?_
      refine nl ?_
      refine sr ?_
      refine cl rfl rfl rfl (r_complete hR48 (he.mono (le_3.trans (le_5.trans le_7)))) rfl (fun v_ H1 L1 hle_ hR_ => ?_)
      obtain ⟨rfl, rfl, rfl⟩ := hR_
      refine asg rfl rfl ?_
      refine nl ?_
      refine drW .head ?_
      have hA_ := (show At_DescribeClusterRequest v _ (decP fs_DescribeClusterRequest v true _).1 [.int .i16 v, .bool (decide (x0.1.n % 2 = 1)), .int .i8 (IntKind.i8.wrap x1.1.n), .bool (decide (x2.1.n % 2 = 1)), .map mt] from (by rw [hD]; exact ⟨mt, rfl, hft⟩))
      refine rT rfl rfl (le_3.trans (le_5.trans le_7)) (fun _ _ h => h) ⟨_, rfl, ?_⟩
      have hz := RdEnd.of (e := e) hA_
      rw [show (decP fs_DescribeClusterRequest v true _).2.bad = u.2.bad by rw [hD]] at hz
      exact hz
end Go.Sx

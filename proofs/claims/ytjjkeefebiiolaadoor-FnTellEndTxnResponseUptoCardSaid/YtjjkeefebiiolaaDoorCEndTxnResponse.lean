import Derived.Test.YtjjkeefebiiolaaDoorSxTab
import Derived.Test.YtjjkeefebiiolaaDoorBEndTxnResponse
import Derived.Test.YtjjkeefebiiolaaDoorRK2
import Derived.KernelRfl
set_option linter.unusedVariables false
set_option linter.unusedSimpArgs false
set_option maxRecDepth 100000
set_option maxHeartbeats 20000000
namespace Go.Sx
open Go.Proofs
theorem def0_EndTxnResponse {H : Fz} {L : Own} {b : Nat} {c0 c1 c2 c3 c4 c5 : Value} :
    Fn Tryd.prog 48 [.pointer (some ⟨b, 0, none⟩)] H ([(b, .cells [c0, c1, c2, c3, c4, c5].toArray 90 (0, 0))] :: L) (fun _ H' L' => H = H' ∧ L' = [(b, .cells [c0, c1, c2, .int .i64 (-1), .int .i16 (-1), c5].toArray 90 (0, 0))] :: L) := by
  refine Fn.mk Tryd.call48 Tryd.func48 rfl Tryd.ntmps48 rfl ?_
  refine sr ?_
  refine mv rfl rfl ?_
  refine nc rfl rfl ?_
  refine fa0 F90_3 rfl rfl ?_
  refine st Tryd.sizeOf2 rfl rfl rfl rfl .head ?_
  refine nl ?_
  refine rg ?_
  refine mv rfl rfl ?_
  refine nc rfl rfl ?_
  refine fa0 F90_4 rfl rfl ?_
  refine st Tryd.sizeOf46 rfl rfl rfl rfl .head ?_
  refine nN ?_
  exact fun _ _ hA hw => rn rfl (Fz.le.refl _) ⟨rfl, rfl⟩ hA hw
theorem rd_EndTxnResponse_f {H : Fz} {L : Own} {b : Nat} {v : Int} {a : Option Addr} {c : Nat} {s : List UInt8} {e : Value} (hB : BytesAt H a c s) (hL_ : s.length ≤ BR) (he : H.at 1 0 [e]) (hv0 : 0 ≤ v) (hv1 : v ≤ 2) :
    Fn Tryd.prog 49 [.pointer (some ⟨b, 0, none⟩), .slice a s.length c, .bool false] H ([(b, .cells [.int .i16 v, .int .i32 0, .int .i16 0, .int .i64 (-1), .int .i16 (-1), .map none].toArray 90 (0, 0))] :: L) (fun r H' L' => ∃ cs : List Value, L' = [(b, .cells cs.toArray 90 (0, 0))] :: L ∧ RdEnd H' (At_EndTxnResponse v) (decP fs_EndTxnResponse v false ⟨s, false, !a.isNone⟩) e r cs) := by
  refine Fn.mk Tryd.call49 Tryd.func49 rfl Tryd.ntmps49 rfl ?_
  refine sr ?_
  refine asg rfl rfl ?_
  refine nl ?_
  refine sr ?_
  refine mv rfl rfl ?_
  refine cl rfl rfl rfl def0_EndTxnResponse rfl (fun v_ H1 L1 hle_ hR_ => ?_)
  obtain ⟨rfl, rfl⟩ := hR_
  refine nl ?_
  refine sr ?_
  refine mv rfl rfl ?_
  refine bd' S95 rfl rfl rfl ?_
  refine al Tryd.zeroValue95 rfl rfl (fun b_1 => ?_)
  refine sa Tryd.sizeOf95 rfl rfl rfl rfl rfl .head ?_
  have hR0_ : RdAt H 95 b_1 ⟨s, false, !a.isNone⟩ [(b_1, .cells [_, _].toArray 95 (0, 0))] := ⟨a, c, rfl, hB, by simp⟩
  obtain ⟨x0, hx0⟩ : ∃ x, x = stepF (Fd.mk 3 0 (-1) (-1) (-1) 0 0 []) v false ⟨s, false, !a.isNone⟩ := ⟨_, rfl⟩
  obtain ⟨x1, hx1⟩ : ∃ x, x = stepF (Fd.mk 2 0 (-1) (-1) (-1) 0 0 []) v false x0.2 := ⟨_, rfl⟩
  obtain ⟨x2, hx2⟩ : ∃ x, x = stepF (Fd.mk 4 5 (-1) (-1) (-1) (-1) 0 []) v false x1.2 := ⟨_, rfl⟩
  obtain ⟨x3, hx3⟩ : ∃ x, x = stepF (Fd.mk 2 5 (-1) (-1) (-1) (-1) 0 []) v false x2.2 := ⟨_, rfl⟩
  obtain ⟨u, hu⟩ : ∃ x, x = tailU false x3.2 := ⟨_, rfl⟩
  have hD : decP fs_EndTxnResponse v false ⟨s, false, !a.isNone⟩ = (.mk 0 [] false [x0.1, x1.1, x2.1, x3.1] u.1, u.2) := by
    generalize (⟨s, false, !a.isNone⟩ : Rd) = r_ at hx0 ⊢
    rw [decP_eq]; unfold fs_EndTxnResponse; simp only [decFs_cons, decFs_nil, ← hx0, ← hx1, ← hx2, ← hx3, ← hu]
  have hL0 : x0.2.s.length ≤ BR := by rw [hx0]; exact Nat.le_trans (stepF_shr _ _ _ _) hL_
  have hL1 : x1.2.s.length ≤ BR := by rw [hx1]; exact Nat.le_trans (stepF_shr _ _ _ _) hL0
  have hL2 : x2.2.s.length ≤ BR := by rw [hx2]; exact Nat.le_trans (stepF_shr _ _ _ _) hL1
  have hL3 : x3.2.s.length ≤ BR := by rw [hx3]; exact Nat.le_trans (stepF_shr _ _ _ _) hL2
  have hE : u.2.bad = true → (decP fs_EndTxnResponse v false ⟨s, false, !a.isNone⟩).2.bad = true := fun h => by rw [hD]; exact h
  have hB3 : x3.2.bad = true → (decP fs_EndTxnResponse v false ⟨s, false, !a.isNone⟩).2.bad = true := fun h => hE (by rw [hu]; exact tailU_bad h)
  have hB2 : x2.2.bad = true → (decP fs_EndTxnResponse v false ⟨s, false, !a.isNone⟩).2.bad = true := fun h => hB3 (by rw [hx3]; exact step_bad h)
  have hB1 : x1.2.bad = true → (decP fs_EndTxnResponse v false ⟨s, false, !a.isNone⟩).2.bad = true := fun h => hB2 (by rw [hx2]; exact step_bad h)
  have hB0 : x0.2.bad = true → (decP fs_EndTxnResponse v false ⟨s, false, !a.isNone⟩).2.bad = true := fun h => hB1 (by rw [hx1]; exact step_bad h)
  refine nl ?_
  refine sr ?_
  refine mv rfl rfl ?_
  refine nc rfl rfl ?_
  refine fa0 F90_0 rfl rfl ?_
  refine ld (Says.own (.tail .head)) Tryd.isAgg46 rfl (Nat.zero_add _).symm rfl rfl ?_
  refine asg rfl rfl ?_
  refine nl ?_
  refine sr ?_
  refine mv rfl rfl ?_
  refine nl ?_
  refine sr ?_
  refine mv rfl rfl ?_
  refine ge rfl rfl rfl ?_
  refine asg rfl rfl ?_
  refine nl ?_
  refine sr ?_
  refine mv rfl rfl ?_
  refine nl ?_
  refine sr ?_
  refine mv rfl rfl ?_
  refine asg rfl rfl ?_
  refine nl ?_
  refine sq ?_
  refine sr ?_
  have ex0 : x0 = decV 3 (decP [] v false) false false ⟨s, false, !a.isNone⟩ := (hx0.trans (step_yes (by decide) (show (0 : Int) ≤ v by omega) (Or.inl (by decide)))).trans (decF'_val (by decide) (rfl))
  refine cl rfl rfl rfl (d3 hR0_ ex0) rfl (fun v_ H1 L1 hle_ hR_ => ?_)
  obtain ⟨N28, rfl, hR28, rfl, rfl⟩ := hR_
  refine asg rfl rfl ?_
  refine nl ?_
  refine rg ?_
  refine mv rfl rfl ?_
  refine mv rfl rfl ?_
  refine nc rfl rfl ?_
  refine fa0 F90_1 rfl rfl ?_
  refine st Tryd.sizeOf21 rfl rfl rfl rfl (.tail .head) ?_
  refine nl ?_
  refine sq ?_
  refine sr ?_
  have ex1 : x1 = decV 2 (decP [] v false) false false x0.2 := (hx1.trans (step_yes (by decide) (show (0 : Int) ≤ v by omega) (Or.inl (by decide)))).trans (decF'_val (by decide) (rfl))
  refine cl rfl rfl rfl (d2 hR28 ex1) rfl (fun v_ H1 L1 hle_ hR_ => ?_)
  obtain ⟨N33, rfl, hR33, rfl, rfl⟩ := hR_
  refine asg rfl rfl ?_
  refine nl ?_
  refine rg ?_
  refine mv rfl rfl ?_
  refine mv rfl rfl ?_
  refine nc rfl rfl ?_
  refine fa0 F90_2 rfl rfl ?_
  refine st Tryd.sizeOf46 rfl rfl rfl rfl (.tail .head) ?_
  refine nl ?_
  refine sq ?_
  refine sr ?_
  refine mv rfl rfl ?_
  refine ge rfl rfl rfl ?_
  refine nl ?_
  refine cdF rfl (by omega) ?_
  refine skt ?_
  refine sq ?_
  refine sr ?_
  refine mv rfl rfl ?_
  refine ge rfl rfl rfl ?_
  refine nl ?_
  refine cdF rfl (by omega) ?_
  refine skt ?_
  refine sq ?_
  refine sr ?_
  refine mv rfl rfl ?_
  refine nl ?_
  refine cdF rfl (by omega) ?_
  refine skt ?_
  refine sr ?_
  refine cl rfl rfl rfl (r_complete hR33 he) rfl (fun v_ H1 L1 hle_ hR_ => ?_)
  obtain ⟨rfl, rfl, rfl⟩ := hR_
  refine asg rfl rfl ?_
  refine nl ?_
  refine drW .head ?_
  obtain rfl : x2 = ((Tr.mk (-1) [] false [] []), x1.2) := (hx2.trans (step_no (Or.inl (show v < (5 : Int) by omega)))).trans (by rw [dflF_eq]; rfl)
  obtain rfl : x3 = ((Tr.mk (-1) [] false [] []), x1.2) := (hx3.trans (step_no (Or.inl (show v < (5 : Int) by omega)))).trans (by rw [dflF_eq]; rfl)
  obtain rfl : u = ([], x1.2) := hu
  have hA_ := (show At_EndTxnResponse v H (decP fs_EndTxnResponse v false _).1 [.int .i16 v, .int .i32 (IntKind.i32.wrap x0.1.n), .int .i16 (IntKind.i16.wrap x1.1.n), .int .i64 (-1), .int .i16 (-1), .map none] from (by rw [hD]; exact ⟨none, rfl, (KvAt.nil _)⟩))
  refine rT rfl rfl (Fz.le.refl _) (fun _ _ h => h) ⟨_, rfl, ?_⟩
  have hz := RdEnd.of (e := e) hA_
  rw [show (decP fs_EndTxnResponse v false _).2.bad = x1.2.bad by rw [hD]] at hz
  exact hz
theorem rd_EndTxnResponse_t {H : Fz} {L : Own} {b : Nat} {v : Int} {a : Option Addr} {c : Nat} {s : List UInt8} {e : Value} (hB : BytesAt H a c s) (hL_ : s.length ≤ BR) (he : H.at 1 0 [e]) (hv0 : 3 ≤ v) (hv1 : v ≤ 5) :
    Fn Tryd.prog 49 [.pointer (some ⟨b, 0, none⟩), .slice a s.length c, .bool false] H ([(b, .cells [.int .i16 v, .int .i32 0, .int .i16 0, .int .i64 (-1), .int .i16 (-1), .map none].toArray 90 (0, 0))] :: L) (fun r H' L' => ∃ cs : List Value, L' = [(b, .cells cs.toArray 90 (0, 0))] :: L ∧ RdEnd H' (At_EndTxnResponse v) (decP fs_EndTxnResponse v true ⟨s, false, !a.isNone⟩) e r cs) := by
  refine Fn.mk Tryd.call49 Tryd.func49 rfl Tryd.ntmps49 rfl ?_
  refine sr ?_
  refine asg rfl rfl ?_
  refine nl ?_
  refine sr ?_
  refine mv rfl rfl ?_
  refine cl rfl rfl rfl def0_EndTxnResponse rfl (fun v_ H1 L1 hle_ hR_ => ?_)
  obtain ⟨rfl, rfl⟩ := hR_
  refine nl ?_
  refine sr ?_
  refine mv rfl rfl ?_
  refine bd' S95 rfl rfl rfl ?_
  refine al Tryd.zeroValue95 rfl rfl (fun b_1 => ?_)
  refine sa Tryd.sizeOf95 rfl rfl rfl rfl rfl .head ?_
  have hR0_ : RdAt H 95 b_1 ⟨s, false, !a.isNone⟩ [(b_1, .cells [_, _].toArray 95 (0, 0))] := ⟨a, c, rfl, hB, by simp⟩
  obtain ⟨x0, hx0⟩ : ∃ x, x = stepF (Fd.mk 3 0 (-1) (-1) (-1) 0 0 []) v true ⟨s, false, !a.isNone⟩ := ⟨_, rfl⟩
  obtain ⟨x1, hx1⟩ : ∃ x, x = stepF (Fd.mk 2 0 (-1) (-1) (-1) 0 0 []) v true x0.2 := ⟨_, rfl⟩
  obtain ⟨x2, hx2⟩ : ∃ x, x = stepF (Fd.mk 4 5 (-1) (-1) (-1) (-1) 0 []) v true x1.2 := ⟨_, rfl⟩
  obtain ⟨x3, hx3⟩ : ∃ x, x = stepF (Fd.mk 2 5 (-1) (-1) (-1) (-1) 0 []) v true x2.2 := ⟨_, rfl⟩
  obtain ⟨u, hu⟩ : ∃ x, x = tailU true x3.2 := ⟨_, rfl⟩
  have hD : decP fs_EndTxnResponse v true ⟨s, false, !a.isNone⟩ = (.mk 0 [] false [x0.1, x1.1, x2.1, x3.1] u.1, u.2) := by
    generalize (⟨s, false, !a.isNone⟩ : Rd) = r_ at hx0 ⊢
    rw [decP_eq]; unfold fs_EndTxnResponse; simp only [decFs_cons, decFs_nil, ← hx0, ← hx1, ← hx2, ← hx3, ← hu]
  have hL0 : x0.2.s.length ≤ BR := by rw [hx0]; exact Nat.le_trans (stepF_shr _ _ _ _) hL_
  have hL1 : x1.2.s.length ≤ BR := by rw [hx1]; exact Nat.le_trans (stepF_shr _ _ _ _) hL0
  have hL2 : x2.2.s.length ≤ BR := by rw [hx2]; exact Nat.le_trans (stepF_shr _ _ _ _) hL1
  have hL3 : x3.2.s.length ≤ BR := by rw [hx3]; exact Nat.le_trans (stepF_shr _ _ _ _) hL2
  have hE : u.2.bad = true → (decP fs_EndTxnResponse v true ⟨s, false, !a.isNone⟩).2.bad = true := fun h => by rw [hD]; exact h
  have hB3 : x3.2.bad = true → (decP fs_EndTxnResponse v true ⟨s, false, !a.isNone⟩).2.bad = true := fun h => hE (by rw [hu]; exact tailU_bad h)
  have hB2 : x2.2.bad = true → (decP fs_EndTxnResponse v true ⟨s, false, !a.isNone⟩).2.bad = true := fun h => hB3 (by rw [hx3]; exact step_bad h)
  have hB1 : x1.2.bad = true → (decP fs_EndTxnResponse v true ⟨s, false, !a.isNone⟩).2.bad = true := fun h => hB2 (by rw [hx2]; exact step_bad h)
  have hB0 : x0.2.bad = true → (decP fs_EndTxnResponse v true ⟨s, false, !a.isNone⟩).2.bad = true := fun h => hB1 (by rw [hx1]; exact step_bad h)
  refine nl ?_
  refine sr ?_
  refine mv rfl rfl ?_
  refine nc rfl rfl ?_
  refine fa0 F90_0 rfl rfl ?_
  refine ld (Says.own (.tail .head)) Tryd.isAgg46 rfl (Nat.zero_add _).symm rfl rfl ?_
  refine asg rfl rfl ?_
  refine nl ?_
  refine sr ?_
  refine mv rfl rfl ?_
  refine nl ?_
  refine sr ?_
  refine mv rfl rfl ?_
  refine ge rfl rfl rfl ?_
  refine asg rfl rfl ?_
  refine nl ?_
  refine sr ?_
  refine mv rfl rfl ?_
  refine nl ?_
  refine sr ?_
  refine mv rfl rfl ?_
  refine asg rfl rfl ?_
  refine nl ?_
  refine sq ?_
  refine sr ?_
  have ex0 : x0 = decV 3 (decP [] v true) false true ⟨s, false, !a.isNone⟩ := (hx0.trans (step_yes (by decide) (show (0 : Int) ≤ v by omega) (Or.inl (by decide)))).trans (decF'_val (by decide) (rfl))
  refine cl rfl rfl rfl (d3 hR0_ ex0) rfl (fun v_ H1 L1 hle_ hR_ => ?_)
  obtain ⟨N28, rfl, hR28, rfl, rfl⟩ := hR_
  refine asg rfl rfl ?_
  refine nl ?_
  refine rg ?_
  refine mv rfl rfl ?_
  refine mv rfl rfl ?_
  refine nc rfl rfl ?_
  refine fa0 F90_1 rfl rfl ?_
  refine st Tryd.sizeOf21 rfl rfl rfl rfl (.tail .head) ?_
  refine nl ?_
  refine sq ?_
  refine sr ?_
  have ex1 : x1 = decV 2 (decP [] v true) false true x0.2 := (hx1.trans (step_yes (by decide) (show (0 : Int) ≤ v by omega) (Or.inl (by decide)))).trans (decF'_val (by decide) (rfl))
  refine cl rfl rfl rfl (d2 hR28 ex1) rfl (fun v_ H1 L1 hle_ hR_ => ?_)
  obtain ⟨N33, rfl, hR33, rfl, rfl⟩ := hR_
  refine asg rfl rfl ?_
  refine nl ?_
  refine rg ?_
  refine mv rfl rfl ?_
  refine mv rfl rfl ?_
  refine nc rfl rfl ?_
  refine fa0 F90_2 rfl rfl ?_
  refine st Tryd.sizeOf46 rfl rfl rfl rfl (.tail .head) ?_
  refine nl ?_
  refine sq ?_
  refine sr ?_
  refine mv rfl rfl ?_
  refine ge rfl rfl rfl ?_
  refine nl ?_
  refine cutT (fun l' H' L' => ∃ (Nj2 : Chunk), [(7, .pointer (some ⟨b_1, 0, none⟩)), (8, .int .i16 v), (9, .bool (decide ((3 : Int) ≤ v))), (10, .pointer (some ⟨b, 0, none⟩))] = l' ∧ Nj2 :: [(b, .cells [.int .i16 v, .int .i32 (IntKind.i32.wrap x0.1.n), .int .i16 (IntKind.i16.wrap x1.1.n), .int .i64 x2.1.n, .int .i16 (-1), .map none].toArray 90 (0, 0))] :: L = L' ∧ RdAt H' 95 b_1 x2.2 Nj2) ?_ (fun l' H' L' le_4 hI => ?_)
  · skip
    refine cd rfl (fun h39 => ?_) (fun h39 => ?_)
    · skip
      refine sr ?_
      have ex2 : x2 = decV 4 (decP [] v true) false true x1.2 := (hx2.trans (step_yes (by decide) (show (5 : Int) ≤ v by omega) (Or.inl (by decide)))).trans (decF'_val (by decide) (rfl))
      refine cl rfl rfl rfl (d4 hR33 ex2) rfl (fun v_ H1 L1 hle_ hR_ => ?_)
      obtain ⟨N40, rfl, hR40, rfl, rfl⟩ := hR_
      refine asg rfl rfl ?_
      refine nl ?_
      refine rg ?_
      refine mv rfl rfl ?_
      refine mv rfl rfl ?_
      refine nc rfl rfl ?_
      refine fa0 F90_3 rfl rfl ?_
      refine st Tryd.sizeOf2 rfl rfl rfl rfl (.tail .head) ?_
      refine nN ?_
      refine fun a_ w_ hA hw => ⟨_, _, _, hA.sub ?_, (Fz.le.refl _), hw, N40, rfl, rfl, hR40⟩
      exact (.cons rfl (.cons rfl (.cons rfl (.cons rfl (.nil _)))))
    · skip
      refine skN ?_
      obtain rfl : x2 = ((Tr.mk (-1) [] false [] []), x1.2) := (hx2.trans (step_no (Or.inl (show v < (5 : Int) by omega)))).trans (by rw [dflF_eq]; rfl)
      refine fun a_ w_ hA hw => ⟨_, _, _, hA.sub ?_, (Fz.le.refl _), hw, N33, rfl, rfl, hR33⟩
      exact (.cons rfl (.cons rfl (.cons rfl (.cons rfl (.nil _)))))
  · skip
    obtain ⟨Nj2, rfl, rfl, pj0⟩ := hI
    have hRj2 := pj0
    refine sq ?_
    refine sr ?_
    refine mv rfl rfl ?_
    refine ge rfl rfl rfl ?_
    refine nl ?_
    refine cutT (fun l' H' L' => ∃ (Nj3 : Chunk), [(7, .pointer (some ⟨b_1, 0, none⟩)), (9, .bool (decide ((3 : Int) ≤ v))), (10, .pointer (some ⟨b, 0, none⟩))] = l' ∧ Nj3 :: [(b, .cells [.int .i16 v, .int .i32 (IntKind.i32.wrap x0.1.n), .int .i16 (IntKind.i16.wrap x1.1.n), .int .i64 x2.1.n, .int .i16 (IntKind.i16.wrap x3.1.n), .map none].toArray 90 (0, 0))] :: L = L' ∧ RdAt H' 95 b_1 x3.2 Nj3) ?_ (fun l' H' L' le_6 hI => ?_)
    · skip
      refine cd rfl (fun h46 => ?_) (fun h46 => ?_)
      · skip
        refine sr ?_
        have ex3 : x3 = decV 2 (decP [] v true) false true x2.2 := (hx3.trans (step_yes (by decide) (show (5 : Int) ≤ v by omega) (Or.inl (by decide)))).trans (decF'_val (by decide) (rfl))
        refine cl rfl rfl rfl (d2 hRj2 ex3) rfl (fun v_ H1 L1 hle_ hR_ => ?_)
        obtain ⟨N47, rfl, hR47, rfl, rfl⟩ := hR_
        refine asg rfl rfl ?_
        refine nl ?_
        refine rg ?_
        refine mv rfl rfl ?_
        refine mv rfl rfl ?_
        refine nc rfl rfl ?_
        refine fa0 F90_4 rfl rfl ?_
        refine st Tryd.sizeOf46 rfl rfl rfl rfl (.tail .head) ?_
        refine nN ?_
        refine fun a_ w_ hA hw => ⟨_, _, _, hA.sub ?_, (Fz.le.refl _), hw, N47, rfl, rfl, hR47⟩
        exact (.cons rfl (.cons rfl (.cons rfl (.nil _))))
      · skip
        refine skN ?_
        obtain rfl : x3 = ((Tr.mk (-1) [] false [] []), x2.2) := (hx3.trans (step_no (Or.inl (show v < (5 : Int) by omega)))).trans (by rw [dflF_eq]; rfl)
        refine fun a_ w_ hA hw => ⟨_, _, _, hA.sub ?_, (Fz.le.refl _), hw, Nj2, rfl, rfl, hRj2⟩
        exact (.cons rfl (.cons rfl (.cons rfl (.nil _))))
    · skip
      obtain ⟨Nj3, rfl, rfl, pj0⟩ := hI
      have hRj3 := pj0
      refine sq ?_
      refine sr ?_
      refine mv rfl rfl ?_
      refine nl ?_
      refine cdT rfl (by omega) ?_
      refine rg ?_
      refine mv rfl rfl ?_
      refine cl rfl rfl rfl (d_tags hRj3) rfl (fun v_ H1 L1 le_8 hR_ => ?_)
      obtain ⟨N54, rfl, hR54, mt, rfl, hft⟩ := hR_
      have hu2 : u = rTags x3.2 := hu
      rw [← hu2] at hR54 hft
      refine nc rfl rfl ?_
      refine fa0 F90_5 rfl rfl ?_
      refine sa Tryd.sizeOf88 rfl rfl rfl rfl rfl (.tail .head) ?_
      refine nl ?_
      refine sr ?_
      refine cl rfl rfl rfl (r_complete hR54 (he.mono (le_4.trans (le_6.trans le_8)))) rfl (fun v_ H1 L1 hle_ hR_ => ?_)
      obtain ⟨rfl, rfl, rfl⟩ := hR_
      refine asg rfl rfl ?_
      refine nl ?_
      refine drW .head ?_
      have hA_ := (show At_EndTxnResponse v _ (decP fs_EndTxnResponse v true _).1 [.int .i16 v, .int .i32 (IntKind.i32.wrap x0.1.n), .int .i16 (IntKind.i16.wrap x1.1.n), .int .i64 x2.1.n, .int .i16 (IntKind.i16.wrap x3.1.n), .map mt] from (by rw [hD]; exact ⟨mt, rfl, hft⟩))
      refine rT rfl rfl (le_4.trans (le_6.trans le_8)) (fun _ _ h => h) ⟨_, rfl, ?_⟩
      have hz := RdEnd.of (e := e) hA_
      rw [show (decP fs_EndTxnResponse v true _).2.bad = u.2.bad by rw [hD]] at hz
      exact hz
end Go.Sx

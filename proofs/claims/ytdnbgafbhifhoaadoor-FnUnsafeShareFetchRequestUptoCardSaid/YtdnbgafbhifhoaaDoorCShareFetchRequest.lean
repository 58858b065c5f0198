import Derived.Test.YtdnbgafbhifhoaaDoorSxTab
import Derived.Test.YtdnbgafbhifhoaaDoorBShareFetchRequest
import Derived.Test.YtdnbgafbhifhoaaDoorRK2
import Derived.KernelRfl
set_option linter.unusedVariables false
set_option linter.unusedSimpArgs false
set_option maxRecDepth 100000
set_option maxHeartbeats 20000000
namespace Go.Sx
open Go.Proofs
theorem def_ShareFetchRequestTopicPartitionAcknowledgementBatch {H : Fz} {L : Own} {b o : Nat} {pre post : List Value} {c0 c1 c2 c3 : Value} (ho : o = pre.length) :
    Fn Tryd.prog 226 [.pointer (some ⟨b, o, none⟩)] H ([(b, .cells (pre ++ ([c0, c1, c2, c3] : List Value) ++ post).toArray 246 (0, 0))] :: L) (fun _ H' L' => H = H' ∧ L' = [(b, .cells (pre ++ ([c0, c1, c2, c3] : List Value) ++ post).toArray 246 (0, 0))] :: L) := by
  refine Fn.mk Tryd.call226 Tryd.func226 rfl Tryd.ntmps226 rfl ?_
  refine skN ?_
  exact fun _ _ hA hw => rn rfl (Fz.le.refl _) ⟨rfl, rfl⟩ hA hw
theorem def_ShareFetchRequestTopicPartition {H : Fz} {L : Own} {b o : Nat} {pre post : List Value} {c0 c1 c2 c3 : Value} (ho : o = pre.length) :
    Fn Tryd.prog 225 [.pointer (some ⟨b, o, none⟩)] H ([(b, .cells (pre ++ ([c0, c1, c2, c3] : List Value) ++ post).toArray 242 (0, 0))] :: L) (fun _ H' L' => H = H' ∧ L' = [(b, .cells (pre ++ ([c0, c1, c2, c3] : List Value) ++ post).toArray 242 (0, 0))] :: L) := by
  refine Fn.mk Tryd.call225 Tryd.func225 rfl Tryd.ntmps225 rfl ?_
  refine skN ?_
  exact fun _ _ hA hw => rn rfl (Fz.le.refl _) ⟨rfl, rfl⟩ hA hw
theorem def_ShareFetchRequestTopic {H : Fz} {L : Own} {b o : Nat} {pre post : List Value} {c0 c1 c2 c3 c4 c5 c6 c7 c8 c9 c10 c11 c12 c13 c14 c15 c16 c17 : Value} (ho : o = pre.length) :
    Fn Tryd.prog 224 [.pointer (some ⟨b, o, none⟩)] H ([(b, .cells (pre ++ ([c0, c1, c2, c3, c4, c5, c6, c7, c8, c9, c10, c11, c12, c13, c14, c15, c16, c17] : List Value) ++ post).toArray 186 (0, 0))] :: L) (fun _ H' L' => H = H' ∧ L' = [(b, .cells (pre ++ ([c0, c1, c2, c3, c4, c5, c6, c7, c8, c9, c10, c11, c12, c13, c14, c15, c16, c17] : List Value) ++ post).toArray 186 (0, 0))] :: L) := by
  refine Fn.mk Tryd.call224 Tryd.func224 rfl Tryd.ntmps224 rfl ?_
  refine skN ?_
  exact fun _ _ hA hw => rn rfl (Fz.le.refl _) ⟨rfl, rfl⟩ hA hw
theorem def_ShareFetchRequestForgottenTopicsData {H : Fz} {L : Own} {b o : Nat} {pre post : List Value} {c0 c1 c2 c3 c4 c5 c6 c7 c8 c9 c10 c11 c12 c13 c14 c15 c16 c17 : Value} (ho : o = pre.length) :
    Fn Tryd.prog 227 [.pointer (some ⟨b, o, none⟩)] H ([(b, .cells (pre ++ ([c0, c1, c2, c3, c4, c5, c6, c7, c8, c9, c10, c11, c12, c13, c14, c15, c16, c17] : List Value) ++ post).toArray 191 (0, 0))] :: L) (fun _ H' L' => H = H' ∧ L' = [(b, .cells (pre ++ ([c0, c1, c2, c3, c4, c5, c6, c7, c8, c9, c10, c11, c12, c13, c14, c15, c16, c17] : List Value) ++ post).toArray 191 (0, 0))] :: L) := by
  refine Fn.mk Tryd.call227 Tryd.func227 rfl Tryd.ntmps227 rfl ?_
  refine skN ?_
  exact fun _ _ hA hw => rn rfl (Fz.le.refl _) ⟨rfl, rfl⟩ hA hw
theorem def0_ShareFetchRequest {H : Fz} {L : Own} {b : Nat} {c0 c1 c2 c3 c4 c5 c6 c7 c8 c9 c10 c11 c12 c13 : Value} :
    Fn Tryd.prog 161 [.pointer (some ⟨b, 0, none⟩)] H ([(b, .cells [c0, c1, c2, c3, c4, c5, c6, c7, c8, c9, c10, c11, c12, c13].toArray 181 (0, 0))] :: L) (fun _ H' L' => H = H' ∧ L' = [(b, .cells [c0, c1, c2, c3, c4, c5, .int .i32 2147483647, c7, c8, c9, c10, c11, c12, c13].toArray 181 (0, 0))] :: L) := by
  refine Fn.mk Tryd.call161 Tryd.func161 rfl Tryd.ntmps161 rfl ?_
  refine rg ?_
  refine mv rfl rfl ?_
  refine nc rfl rfl ?_
  refine fa0 F181_6 rfl rfl ?_
  refine st Tryd.sizeOf21 rfl rfl rfl rfl .head ?_
  refine nN ?_
  exact fun _ _ hA hw => rn rfl (Fz.le.refl _) ⟨rfl, rfl⟩ hA hw
theorem rd_ShareFetchRequest_t {H : Fz} {L : Own} {b : Nat} {v : Int} {a : Option Addr} {c : Nat} {s : List UInt8} {e : Value} (hB : BytesAt H a c s) (hL_ : s.length ≤ BR) (he : H.at 1 0 [e]) (hv0 : 0 ≤ v) (hv1 : v ≤ 2) :
    Fn Tryd.prog 162 [.pointer (some ⟨b, 0, none⟩), .slice a s.length c, .bool false] H ([(b, .cells [.int .i16 v, .pointer none, .pointer none, .int .i32 0, .int .i32 0, .int .i32 0, .int .i32 2147483647, .int .i32 0, .int .i32 0, .int .i8 0, .bool false, .slice none 0 0, .slice none 0 0, .map none].toArray 181 (0, 0))] :: L) (fun r H' L' => ∃ cs : List Value, L' = [(b, .cells cs.toArray 181 (0, 0))] :: L ∧ RdEnd H' (At_ShareFetchRequest v) (decP fs_ShareFetchRequest v true ⟨s, false, !a.isNone⟩) e r cs) := by
  refine Fn.mk Tryd.call162 Tryd.func162 rfl Tryd.ntmps162 rfl ?_
  refine sr ?_
  refine asg rfl rfl ?_
  refine nl ?_
  refine sr ?_
  refine mv rfl rfl ?_
  refine cl rfl rfl rfl def0_ShareFetchRequest rfl (fun v_ H1 L1 hle_ hR_ => ?_)
  obtain ⟨rfl, rfl⟩ := hR_
  refine nl ?_
  refine sr ?_
  refine mv rfl rfl ?_
  refine bd' S193 rfl rfl rfl ?_
  refine al Tryd.zeroValue193 rfl rfl (fun b_1 => ?_)
  refine sa Tryd.sizeOf193 rfl rfl rfl rfl rfl .head ?_
  have hR0_ : RdAt H 193 b_1 ⟨s, false, !a.isNone⟩ [(b_1, .cells [_, _].toArray 193 (0, 0))] := ⟨a, c, rfl, hB, by simp⟩
  obtain ⟨x0, hx0⟩ : ∃ x, x = stepF (Fd.mk 8 0 (-1) 0 (-1) 0 0 []) v true ⟨s, false, !a.isNone⟩ := ⟨_, rfl⟩
  obtain ⟨x1, hx1⟩ : ∃ x, x = stepF (Fd.mk 8 0 (-1) 0 (-1) 0 0 []) v true x0.2 := ⟨_, rfl⟩
  obtain ⟨x2, hx2⟩ : ∃ x, x = stepF (Fd.mk 3 0 (-1) (-1) (-1) 0 0 []) v true x1.2 := ⟨_, rfl⟩
  obtain ⟨x3, hx3⟩ : ∃ x, x = stepF (Fd.mk 3 0 (-1) (-1) (-1) 0 0 []) v true x2.2 := ⟨_, rfl⟩
  obtain ⟨x4, hx4⟩ : ∃ x, x = stepF (Fd.mk 3 0 (-1) (-1) (-1) 0 0 []) v true x3.2 := ⟨_, rfl⟩
  obtain ⟨x5, hx5⟩ : ∃ x, x = stepF (Fd.mk 3 0 (-1) (-1) (-1) 2147483647 0 []) v true x4.2 := ⟨_, rfl⟩
  obtain ⟨x6, hx6⟩ : ∃ x, x = stepF (Fd.mk 3 1 (-1) (-1) (-1) 0 0 []) v true x5.2 := ⟨_, rfl⟩
  obtain ⟨x7, hx7⟩ : ∃ x, x = stepF (Fd.mk 3 1 (-1) (-1) (-1) 0 0 []) v true x6.2 := ⟨_, rfl⟩
  obtain ⟨x8, hx8⟩ : ∃ x, x = stepF (Fd.mk 1 2 (-1) (-1) (-1) 0 0 []) v true x7.2 := ⟨_, rfl⟩
  obtain ⟨x9, hx9⟩ : ∃ x, x = stepF (Fd.mk 0 2 (-1) (-1) (-1) 0 0 []) v true x8.2 := ⟨_, rfl⟩
  obtain ⟨x10, hx10⟩ : ∃ x, x = stepF (Fd.mk 11 0 (-1) (-1) (-1) 0 10 fs_sShareFetchRequestTopic) v true x9.2 := ⟨_, rfl⟩
  obtain ⟨x11, hx11⟩ : ∃ x, x = stepF (Fd.mk 11 0 (-1) (-1) (-1) 0 10 fs_sShareFetchRequestForgottenTopicsData) v true x10.2 := ⟨_, rfl⟩
  obtain ⟨u, hu⟩ : ∃ x, x = tailU true x11.2 := ⟨_, rfl⟩
  have hD : decP fs_ShareFetchRequest v true ⟨s, false, !a.isNone⟩ = (.mk 0 [] false [x0.1, x1.1, x2.1, x3.1, x4.1, x5.1, x6.1, x7.1, x8.1, x9.1, x10.1, x11.1] u.1, u.2) := by
    generalize (⟨s, false, !a.isNone⟩ : Rd) = r_ at hx0 ⊢
    rw [decP_eq]; unfold fs_ShareFetchRequest; simp only [decFs_cons, decFs_nil, ← hx0, ← hx1, ← hx2, ← hx3, ← hx4, ← hx5, ← hx6, ← hx7, ← hx8, ← hx9, ← hx10, ← hx11, ← hu]
  have hL0 : x0.2.s.length ≤ BR := by rw [hx0]; exact Nat.le_trans (stepF_shr _ _ _ _) hL_
  have hL1 : x1.2.s.length ≤ BR := by rw [hx1]; exact Nat.le_trans (stepF_shr _ _ _ _) hL0
  have hL2 : x2.2.s.length ≤ BR := by rw [hx2]; exact Nat.le_trans (stepF_shr _ _ _ _) hL1
  have hL3 : x3.2.s.length ≤ BR := by rw [hx3]; exact Nat.le_trans (stepF_shr _ _ _ _) hL2
  have hL4 : x4.2.s.length ≤ BR := by rw [hx4]; exact Nat.le_trans (stepF_shr _ _ _ _) hL3
  have hL5 : x5.2.s.length ≤ BR := by rw [hx5]; exact Nat.le_trans (stepF_shr _ _ _ _) hL4
  have hL6 : x6.2.s.length ≤ BR := by rw [hx6]; exact Nat.le_trans (stepF_shr _ _ _ _) hL5
  have hL7 : x7.2.s.length ≤ BR := by rw [hx7]; exact Nat.le_trans (stepF_shr _ _ _ _) hL6
  have hL8 : x8.2.s.length ≤ BR := by rw [hx8]; exact Nat.le_trans (stepF_shr _ _ _ _) hL7
  have hL9 : x9.2.s.length ≤ BR := by rw [hx9]; exact Nat.le_trans (stepF_shr _ _ _ _) hL8
  have hL10 : x10.2.s.length ≤ BR := by rw [hx10]; exact Nat.le_trans (stepF_shr _ _ _ _) hL9
  have hL11 : x11.2.s.length ≤ BR := by rw [hx11]; exact Nat.le_trans (stepF_shr _ _ _ _) hL10
  have hE : u.2.bad = true → (decP fs_ShareFetchRequest v true ⟨s, false, !a.isNone⟩).2.bad = true := fun h => by rw [hD]; exact h
  have hB11 : x11.2.bad = true → (decP fs_ShareFetchRequest v true ⟨s, false, !a.isNone⟩).2.bad = true := fun h => hE (by rw [hu]; exact tailU_bad h)
  have hB10 : x10.2.bad = true → (decP fs_ShareFetchRequest v true ⟨s, false, !a.isNone⟩).2.bad = true := fun h => hB11 (by rw [hx11]; exact step_bad h)
  have hB9 : x9.2.bad = true → (decP fs_ShareFetchRequest v true ⟨s, false, !a.isNone⟩).2.bad = true := fun h => hB10 (by rw [hx10]; exact step_bad h)
  have hB8 : x8.2.bad = true → (decP fs_ShareFetchRequest v true ⟨s, false, !a.isNone⟩).2.bad = true := fun h => hB9 (by rw [hx9]; exact step_bad h)
  have hB7 : x7.2.bad = true → (decP fs_ShareFetchRequest v true ⟨s, false, !a.isNone⟩).2.bad = true := fun h => hB8 (by rw [hx8]; exact step_bad h)
  have hB6 : x6.2.bad = true → (decP fs_ShareFetchRequest v true ⟨s, false, !a.isNone⟩).2.bad = true := fun h => hB7 (by rw [hx7]; exact step_bad h)
  have hB5 : x5.2.bad = true → (decP fs_ShareFetchRequest v true ⟨s, false, !a.isNone⟩).2.bad = true := fun h => hB6 (by rw [hx6]; exact step_bad h)
  have hB4 : x4.2.bad = true → (decP fs_ShareFetchRequest v true ⟨s, false, !a.isNone⟩).2.bad = true := fun h => hB5 (by rw [hx5]; exact step_bad h)
  have hB3 : x3.2.bad = true → (decP fs_ShareFetchRequest v true ⟨s, false, !a.isNone⟩).2.bad = true := fun h => hB4 (by rw [hx4]; exact step_bad h)
  have hB2 : x2.2.bad = true → (decP fs_ShareFetchRequest v true ⟨s, false, !a.isNone⟩).2.bad = true := fun h => hB3 (by rw [hx3]; exact step_bad h)
  have hB1 : x1.2.bad = true → (decP fs_ShareFetchRequest v true ⟨s, false, !a.isNone⟩).2.bad = true := fun h => hB2 (by rw [hx2]; exact step_bad h)
  have hB0 : x0.2.bad = true → (decP fs_ShareFetchRequest v true ⟨s, false, !a.isNone⟩).2.bad = true := fun h => hB1 (by rw [hx1]; exact step_bad h)
  refine nl ?_
  refine sr ?_
  refine mv rfl rfl ?_
  refine nc rfl rfl ?_
  refine fa0 F181_0 rfl rfl ?_
  refine ld (Says.own (.tail .head)) Tryd.isAgg45 rfl (Nat.zero_add _).symm rfl rfl ?_
  refine asg rfl rfl ?_
  refine nl ?_
  refine sr ?_
  refine mv rfl rfl ?_
  refine nl ?_
  refine sr ?_
  refine mv rfl rfl ?_
  refine ge rfl rfl rfl ?_
  refine asg rfl rfl ?_
  refine nl ?_
  refine sr ?_
  refine mv rfl rfl ?_
  refine nl ?_
  refine sr ?_
  refine mv rfl rfl ?_
  refine asg rfl rfl ?_
  refine nl ?_
  refine sq ?_
  refine sr ?_
  refine asg rfl rfl ?_
  refine nl ?_
  refine sq ?_
  refine sr ?_
  refine mv rfl rfl ?_
  refine nl ?_
  refine cdT rfl (by omega) ?_
  refine sr ?_
  refine mv rfl rfl ?_
  refine nl ?_
  refine cF rfl ?_
  refine rg ?_
  have ex0 : x0 = decV 8 (decP [] v true) true true ⟨s, false, !a.isNone⟩ := (hx0.trans (step_yes (by decide) (show (0 : Int) ≤ v by omega) (Or.inl (by decide)))).trans (decF'_val (by decide) (by simp only [Bool.and_eq_true, decide_eq_true_eq]; exact ⟨show (0 : Int) ≤ 0 by decide, show (0 : Int) ≤ v by omega⟩))
  refine cl rfl rfl rfl (d8tn hR0_ ex0) rfl (fun v_ H1 L1 le_2 hR_ => ?_)
  obtain ⟨N77, rfl, hR77, p0, rfl, hf0⟩ := hR_
  refine asg rfl rfl ?_
  refine nl ?_
  refine rg ?_
  refine mv rfl rfl ?_
  refine mv rfl rfl ?_
  refine nc rfl rfl ?_
  refine fa0 F181_1 rfl rfl ?_
  refine st Tryd.sizeOf104 rfl rfl rfl rfl (.tail .head) ?_
  refine nl ?_
  refine sq ?_
  refine sr ?_
  refine asg rfl rfl ?_
  refine nl ?_
  refine sq ?_
  refine sr ?_
  refine mv rfl rfl ?_
  refine nl ?_
  refine cdT rfl (by omega) ?_
  refine sr ?_
  refine mv rfl rfl ?_
  refine nl ?_
  refine cF rfl ?_
  refine rg ?_
  have ex1 : x1 = decV 8 (decP [] v true) true true x0.2 := (hx1.trans (step_yes (by decide) (show (0 : Int) ≤ v by omega) (Or.inl (by decide)))).trans (decF'_val (by decide) (by simp only [Bool.and_eq_true, decide_eq_true_eq]; exact ⟨show (0 : Int) ≤ 0 by decide, show (0 : Int) ≤ v by omega⟩))
  refine cl rfl rfl rfl (d8tn hR77 ex1) rfl (fun v_ H1 L1 le_3 hR_ => ?_)
  obtain ⟨N88, rfl, hR88, p1, rfl, hf1⟩ := hR_
  refine asg rfl rfl ?_
  refine nl ?_
  refine rg ?_
  refine mv rfl rfl ?_
  refine mv rfl rfl ?_
  refine nc rfl rfl ?_
  refine fa0 F181_2 rfl rfl ?_
  refine st Tryd.sizeOf104 rfl rfl rfl rfl (.tail .head) ?_
  refine nl ?_
  refine sq ?_
  refine sr ?_
  have ex2 : x2 = decV 3 (decP [] v true) false true x1.2 := (hx2.trans (step_yes (by decide) (show (0 : Int) ≤ v by omega) (Or.inl (by decide)))).trans (decF'_val (by decide) (rfl))
  refine cl rfl rfl rfl (d3 hR88 ex2) rfl (fun v_ H1 L1 hle_ hR_ => ?_)
  obtain ⟨N96, rfl, hR96, rfl, rfl⟩ := hR_
  refine asg rfl rfl ?_
  refine nl ?_
  refine rg ?_
  refine mv rfl rfl ?_
  refine mv rfl rfl ?_
  refine nc rfl rfl ?_
  refine fa0 F181_3 rfl rfl ?_
  refine st Tryd.sizeOf21 rfl rfl rfl rfl (.tail .head) ?_
  refine nl ?_
  refine sq ?_
  refine sr ?_
  have ex3 : x3 = decV 3 (decP [] v true) false true x2.2 := (hx3.trans (step_yes (by decide) (show (0 : Int) ≤ v by omega) (Or.inl (by decide)))).trans (decF'_val (by decide) (rfl))
  refine cl rfl rfl rfl (d3 hR96 ex3) rfl (fun v_ H1 L1 hle_ hR_ => ?_)
  obtain ⟨N101, rfl, hR101, rfl, rfl⟩ := hR_
  refine asg rfl rfl ?_
  refine nl ?_
  refine rg ?_
  refine mv rfl rfl ?_
  refine mv rfl rfl ?_
  refine nc rfl rfl ?_
  refine fa0 F181_4 rfl rfl ?_
  refine st Tryd.sizeOf21 rfl rfl rfl rfl (.tail .head) ?_
  refine nl ?_
  refine sq ?_
  refine sr ?_
  have ex4 : x4 = decV 3 (decP [] v true) false true x3.2 := (hx4.trans (step_yes (by decide) (show (0 : Int) ≤ v by omega) (Or.inl (by decide)))).trans (decF'_val (by decide) (rfl))
  refine cl rfl rfl rfl (d3 hR101 ex4) rfl (fun v_ H1 L1 hle_ hR_ => ?_)
  obtain ⟨N106, rfl, hR106, rfl, rfl⟩ := hR_
  refine asg rfl rfl ?_
  refine nl ?_
  refine rg ?_
  refine mv rfl rfl ?_
  refine mv rfl rfl ?_
  refine nc rfl rfl ?_
  refine fa0 F181_5 rfl rfl ?_
  refine st Tryd.sizeOf21 rfl rfl rfl rfl (.tail .head) ?_
  refine nl ?_
  refine sq ?_
  refine sr ?_
  have ex5 : x5 = decV 3 (decP [] v true) false true x4.2 := (hx5.trans (step_yes (by decide) (show (0 : Int) ≤ v by omega) (Or.inl (by decide)))).trans (decF'_val (by decide) (rfl))
  refine cl rfl rfl rfl (d3 hR106 ex5) rfl (fun v_ H1 L1 hle_ hR_ => ?_)
  obtain ⟨N111, rfl, hR111, rfl, rfl⟩ := hR_
  refine asg rfl rfl ?_
  refine nl ?_
  refine rg ?_
  refine mv rfl rfl ?_
  refine mv rfl rfl ?_
  refine nc rfl rfl ?_
  refine fa0 F181_6 rfl rfl ?_
  refine st Tryd.sizeOf21 rfl rfl rfl rfl (.tail .head) ?_
  refine nl ?_
  refine sq ?_
  refine sr ?_
  refine mv rfl rfl ?_
  refine ge rfl rfl rfl ?_
  refine nl ?_
  refine cutT (fun l' H' L' => ∃ (Nj6 : Chunk), [(7, .pointer (some ⟨b_1, 0, none⟩)), (8, .int .i16 v), (9, .bool (decide ((0 : Int) ≤ v))), (10, .pointer (some ⟨b, 0, none⟩))] = l' ∧ Nj6 :: [(b, .cells [.int .i16 v, .pointer p0, .pointer p1, .int .i32 (IntKind.i32.wrap x2.1.n), .int .i32 (IntKind.i32.wrap x3.1.n), .int .i32 (IntKind.i32.wrap x4.1.n), .int .i32 (IntKind.i32.wrap x5.1.n), .int .i32 (IntKind.i32.wrap x6.1.n), .int .i32 0, .int .i8 0, .bool false, .slice none 0 0, .slice none 0 0, .map none].toArray 181 (0, 0))] :: L = L' ∧ RdAt H' 193 b_1 x6.2 Nj6) ?_ (fun l' H' L' le_8 hI => ?_)
  · skip
    refine cd rfl (fun h117 => ?_) (fun h117 => ?_)
    · skip
      refine sr ?_
      have ex6 : x6 = decV 3 (decP [] v true) false true x5.2 := (hx6.trans (step_yes (by decide) (show (1 : Int) ≤ v by omega) (Or.inl (by decide)))).trans (decF'_val (by decide) (rfl))
      refine cl rfl rfl rfl (d3 hR111 ex6) rfl (fun v_ H1 L1 hle_ hR_ => ?_)
      obtain ⟨N118, rfl, hR118, rfl, rfl⟩ := hR_
      refine asg rfl rfl ?_
      refine nl ?_
      refine rg ?_
      refine mv rfl rfl ?_
      refine mv rfl rfl ?_
      refine nc rfl rfl ?_
      refine fa0 F181_7 rfl rfl ?_
      refine st Tryd.sizeOf21 rfl rfl rfl rfl (.tail .head) ?_
      refine nN ?_
      refine fun a_ w_ hA hw => ⟨_, _, _, hA.sub ?_, (Fz.le.refl _), hw, N118, rfl, rfl, hR118⟩
      exact (.cons rfl (.cons rfl (.cons rfl (.cons rfl (.nil _)))))
    · skip
      refine skN ?_
      obtain rfl : x6 = ((Tr.mk 0 [] false [] []), x5.2) := (hx6.trans (step_no (Or.inl (show v < (1 : Int) by omega)))).trans (by rw [dflF_eq]; rfl)
      refine fun a_ w_ hA hw => ⟨_, _, _, hA.sub ?_, (Fz.le.refl _), hw, N111, rfl, rfl, hR111⟩
      exact (.cons rfl (.cons rfl (.cons rfl (.cons rfl (.nil _)))))
  · skip
    obtain ⟨Nj6, rfl, rfl, pj0⟩ := hI
    have hRj6 := pj0
    refine sq ?_
    refine sr ?_
    refine mv rfl rfl ?_
    refine ge rfl rfl rfl ?_
    refine nl ?_
    refine cutT (fun l' H' L' => ∃ (Nj7 : Chunk), [(7, .pointer (some ⟨b_1, 0, none⟩)), (8, .int .i16 v), (9, .bool (decide ((0 : Int) ≤ v))), (10, .pointer (some ⟨b, 0, none⟩))] = l' ∧ Nj7 :: [(b, .cells [.int .i16 v, .pointer p0, .pointer p1, .int .i32 (IntKind.i32.wrap x2.1.n), .int .i32 (IntKind.i32.wrap x3.1.n), .int .i32 (IntKind.i32.wrap x4.1.n), .int .i32 (IntKind.i32.wrap x5.1.n), .int .i32 (IntKind.i32.wrap x6.1.n), .int .i32 (IntKind.i32.wrap x7.1.n), .int .i8 0, .bool false, .slice none 0 0, .slice none 0 0, .map none].toArray 181 (0, 0))] :: L = L' ∧ RdAt H' 193 b_1 x7.2 Nj7) ?_ (fun l' H' L' le_10 hI => ?_)
    · skip
      refine cd rfl (fun h124 => ?_) (fun h124 => ?_)
      · skip
        refine sr ?_
        have ex7 : x7 = decV 3 (decP [] v true) false true x6.2 := (hx7.trans (step_yes (by decide) (show (1 : Int) ≤ v by omega) (Or.inl (by decide)))).trans (decF'_val (by decide) (rfl))
        refine cl rfl rfl rfl (d3 hRj6 ex7) rfl (fun v_ H1 L1 hle_ hR_ => ?_)
        obtain ⟨N125, rfl, hR125, rfl, rfl⟩ := hR_
        refine asg rfl rfl ?_
        refine nl ?_
        refine rg ?_
        refine mv rfl rfl ?_
        refine mv rfl rfl ?_
        refine nc rfl rfl ?_
        refine fa0 F181_8 rfl rfl ?_
        refine st Tryd.sizeOf21 rfl rfl rfl rfl (.tail .head) ?_
        refine nN ?_
        refine fun a_ w_ hA hw => ⟨_, _, _, hA.sub ?_, (Fz.le.refl _), hw, N125, rfl, rfl, hR125⟩
        exact (.cons rfl (.cons rfl (.cons rfl (.cons rfl (.nil _)))))
      · skip
        refine skN ?_
        obtain rfl : x7 = ((Tr.mk 0 [] false [] []), x6.2) := (hx7.trans (step_no (Or.inl (show v < (1 : Int) by omega)))).trans (by rw [dflF_eq]; rfl)
        refine fun a_ w_ hA hw => ⟨_, _, _, hA.sub ?_, (Fz.le.refl _), hw, Nj6, rfl, rfl, hRj6⟩
        exact (.cons rfl (.cons rfl (.cons rfl (.cons rfl (.nil _)))))
    · skip
      obtain ⟨Nj7, rfl, rfl, pj0⟩ := hI
      have hRj7 := pj0
      refine sq ?_
      refine sr ?_
      refine mv rfl rfl ?_
      refine ge rfl rfl rfl ?_
      refine nl ?_
      refine cutT (fun l' H' L' => ∃ (Nj8 : Chunk), [(7, .pointer (some ⟨b_1, 0, none⟩)), (8, .int .i16 v), (9, .bool (decide ((0 : Int) ≤ v))), (10, .pointer (some ⟨b, 0, none⟩))] = l' ∧ Nj8 :: [(b, .cells [.int .i16 v, .pointer p0, .pointer p1, .int .i32 (IntKind.i32.wrap x2.1.n), .int .i32 (IntKind.i32.wrap x3.1.n), .int .i32 (IntKind.i32.wrap x4.1.n), .int .i32 (IntKind.i32.wrap x5.1.n), .int .i32 (IntKind.i32.wrap x6.1.n), .int .i32 (IntKind.i32.wrap x7.1.n), .int .i8 (IntKind.i8.wrap x8.1.n), .bool false, .slice none 0 0, .slice none 0 0, .map none].toArray 181 (0, 0))] :: L = L' ∧ RdAt H' 193 b_1 x8.2 Nj8) ?_ (fun l' H' L' le_12 hI => ?_)
      · skip
        refine cd rfl (fun h131 => ?_) (fun h131 => ?_)
        · skip
          refine sr ?_
          have ex8 : x8 = decV 1 (decP [] v true) false true x7.2 := (hx8.trans (step_yes (by decide) (show (2 : Int) ≤ v by omega) (Or.inl (by decide)))).trans (decF'_val (by decide) (rfl))
          refine cl rfl rfl rfl (d1 hRj7 ex8) rfl (fun v_ H1 L1 hle_ hR_ => ?_)
          obtain ⟨N132, rfl, hR132, rfl, rfl⟩ := hR_
          refine asg rfl rfl ?_
          refine nl ?_
          refine rg ?_
          refine mv rfl rfl ?_
          refine mv rfl rfl ?_
          refine nc rfl rfl ?_
          refine fa0 F181_9 rfl rfl ?_
          refine st Tryd.sizeOf126 rfl rfl rfl rfl (.tail .head) ?_
          refine nN ?_
          refine fun a_ w_ hA hw => ⟨_, _, _, hA.sub ?_, (Fz.le.refl _), hw, N132, rfl, rfl, hR132⟩
          exact (.cons rfl (.cons rfl (.cons rfl (.cons rfl (.nil _)))))
        · skip
          refine skN ?_
          obtain rfl : x8 = ((Tr.mk 0 [] false [] []), x7.2) := (hx8.trans (step_no (Or.inl (show v < (2 : Int) by omega)))).trans (by rw [dflF_eq]; rfl)
          refine fun a_ w_ hA hw => ⟨_, _, _, hA.sub ?_, (Fz.le.refl _), hw, Nj7, rfl, rfl, hRj7⟩
          exact (.cons rfl (.cons rfl (.cons rfl (.cons rfl (.nil _)))))
      · skip
        obtain ⟨Nj8, rfl, rfl, pj0⟩ := hI
        have hRj8 := pj0
        refine sq ?_
        refine sr ?_
        refine mv rfl rfl ?_
        refine ge rfl rfl rfl ?_
        refine nl ?_
        refine cutT (fun l' H' L' => ∃ (Nj9 : Chunk), [(7, .pointer (some ⟨b_1, 0, none⟩)), (8, .int .i16 v), (9, .bool (decide ((0 : Int) ≤ v))), (10, .pointer (some ⟨b, 0, none⟩))] = l' ∧ Nj9 :: [(b, .cells [.int .i16 v, .pointer p0, .pointer p1, .int .i32 (IntKind.i32.wrap x2.1.n), .int .i32 (IntKind.i32.wrap x3.1.n), .int .i32 (IntKind.i32.wrap x4.1.n), .int .i32 (IntKind.i32.wrap x5.1.n), .int .i32 (IntKind.i32.wrap x6.1.n), .int .i32 (IntKind.i32.wrap x7.1.n), .int .i8 (IntKind.i8.wrap x8.1.n), .bool (decide (x9.1.n % 2 = 1)), .slice none 0 0, .slice none 0 0, .map none].toArray 181 (0, 0))] :: L = L' ∧ RdAt H' 193 b_1 x9.2 Nj9) ?_ (fun l' H' L' le_14 hI => ?_)
        · skip
          refine cd rfl (fun h138 => ?_) (fun h138 => ?_)
          · skip
            refine sr ?_
            have ex9 : x9 = decV 0 (decP [] v true) false true x8.2 := (hx9.trans (step_yes (by decide) (show (2 : Int) ≤ v by omega) (Or.inl (by decide)))).trans (decF'_val (by decide) (rfl))
            refine cl rfl rfl rfl (d0 hRj8 ex9) rfl (fun v_ H1 L1 hle_ hR_ => ?_)
            obtain ⟨N139, rfl, hR139, rfl, rfl⟩ := hR_
            refine asg rfl rfl ?_
            refine nl ?_
            refine rg ?_
            refine mv rfl rfl ?_
            refine mv rfl rfl ?_
            refine nc rfl rfl ?_
            refine fa0 F181_10 rfl rfl ?_
            refine st Tryd.sizeOf4 rfl rfl rfl rfl (.tail .head) ?_
            refine nN ?_
            refine fun a_ w_ hA hw => ⟨_, _, _, hA.sub ?_, (Fz.le.refl _), hw, N139, rfl, rfl, hR139⟩
            exact (.cons rfl (.cons rfl (.cons rfl (.cons rfl (.nil _)))))
          · skip
            refine skN ?_
            obtain rfl : x9 = ((Tr.mk 0 [] false [] []), x8.2) := (hx9.trans (step_no (Or.inl (show v < (2 : Int) by omega)))).trans (by rw [dflF_eq]; rfl)
            refine fun a_ w_ hA hw => ⟨_, _, _, hA.sub ?_, (Fz.le.refl _), hw, Nj8, rfl, rfl, hRj8⟩
            exact (.cons rfl (.cons rfl (.cons rfl (.cons rfl (.nil _)))))
        · skip
          obtain ⟨Nj9, rfl, rfl, pj0⟩ := hI
          have hRj9 := pj0
          refine sq ?_
          refine sr ?_
          refine mv rfl rfl ?_
          refine nc rfl rfl ?_
          refine fa0 F181_11 rfl rfl ?_
          refine ld (Says.own (.tail .head)) Tryd.isAgg178 rfl (Nat.zero_add _).symm rfl rfl ?_
          refine asg rfl rfl ?_
          refine nl ?_
          refine sr ?_
          refine mv rfl rfl ?_
          refine asg rfl rfl ?_
          refine nl ?_
          refine sr ?_
          refine asg rfl rfl ?_
          refine nl ?_
          refine sq ?_
          refine sr ?_
          refine mv rfl rfl ?_
          refine nl ?_
          refine cdT rfl (by omega) ?_
          refine rg ?_
          have ey10 : x10 = (.mk 0 [] (if 0 ≤ ((-1) : Int) ∧ (v < ((-1) : Int) ∨ (rArr true x9.2).1 = 0) then false else decide ((rArr true x9.2).1 ≤ 0)) (rMany (decV 10 (decP fs_sShareFetchRequestTopic v true) false true) (rArr true x9.2).1.toNat (rArr true x9.2).2).1 [], (rMany (decV 10 (decP fs_sShareFetchRequestTopic v true) false true) (rArr true x9.2).1.toNat (rArr true x9.2).2).2) := (hx10.trans (step_yes (by decide) (show (0 : Int) ≤ v by omega) (Or.inl (by decide)))).trans (decF'_list rfl rfl)
          have hn10 : (rArr true x9.2).1.toNat = (lT x10.1).length := by rw [ey10]; exact (lT_many nul_le).symm
          have ex10 := ey10
          rw [hn10] at ex10
          have hl10 := rArr_le true x9.2
          have hm10 : (rArr true x9.2).2.s.length ≤ BR := Nat.le_trans (rArr_len true x9.2) hL9
          have hnb10 : (lT x10.1).length ≤ BR := by omega
          refine cl rfl rfl rfl (r_arrt hRj9) rfl (fun v_ H1 L1 hle_ hR_ => ?_)
          obtain ⟨rfl, N150, rfl, hR150, rfl⟩ := hR_
          have hh10 := rArr_hi true x9.2
          refine asg rfl rfl ?_
          refine nl ?_
          refine sq ?_
          refine sr ?_
          refine cl rfl rfl rfl (r_ok hR150) rfl (fun v_ H1 L1 hle_ hR_ => ?_)
          obtain ⟨rfl, rfl, rfl⟩ := hR_
          refine nt rfl rfl ?_
          refine nl ?_
          refine cb rfl (fun h153 => ?_) (fun h153 => ?_)
          · skip
            have hbad_ : (rArr true x9.2).2.bad = true := by simpa using h153
            refine sr ?_
            refine cl rfl rfl rfl (r_complete hR150 (he.mono (le_2.trans (le_3.trans (le_8.trans (le_10.trans (le_12.trans le_14))))))) rfl (fun v_ H1 L1 hle_ hR_ => ?_)
            obtain ⟨rfl, rfl, rfl⟩ := hR_
            refine asg rfl rfl ?_
            refine nl ?_
            refine drW .head ?_
            exact rT rfl rfl (le_2.trans (le_3.trans (le_8.trans (le_10.trans (le_12.trans le_14))))) (fun _ _ h => h) ⟨_, rfl, RdEnd.out (hB10 (by rw [ey10]; exact rMany_bad (fun r h => decV_bad (decP_bad _ _ _) h) _ _ hbad_)) hbad_⟩
          · skip
            refine skt ?_
            refine sr ?_
            refine mv rfl rfl ?_
            refine sh' (j := 0) Tryd.runUnderlying178 Tryd.sizeOf186 rfl rfl rfl (Nat.zero_le _) rfl ?_
            refine asg rfl rfl ?_
            refine nl ?_
            refine sq ?_
            refine sr ?_
            refine mv rfl rfl ?_
            refine gt rfl rfl rfl ?_
            refine nl ?_
            refine nulC2 ?_
            refine cutT (fun l' H' L' => ∃ (a10 : Option Addr), ∃ (c10 : Nat), ∃ (Nr10 : Chunk), [(7, .pointer (some ⟨b_1, 0, none⟩)), (8, .int .i16 v), (9, .bool (decide ((0 : Int) ≤ v))), (10, .pointer (some ⟨b, 0, none⟩)), (21, .slice none 0 0), (22, .slice a10 (lT x10.1).length c10), (23, .int .i32 (rArr true x9.2).1)] = l' ∧ Nr10 :: N150 :: [(b, .cells [.int .i16 v, .pointer p0, .pointer p1, .int .i32 (IntKind.i32.wrap x2.1.n), .int .i32 (IntKind.i32.wrap x3.1.n), .int .i32 (IntKind.i32.wrap x4.1.n), .int .i32 (IntKind.i32.wrap x5.1.n), .int .i32 (IntKind.i32.wrap x6.1.n), .int .i32 (IntKind.i32.wrap x7.1.n), .int .i8 (IntKind.i8.wrap x8.1.n), .bool (decide (x9.1.n % 2 = 1)), .slice none 0 0, .slice none 0 0, .map none].toArray 181 (0, 0))] :: L = L' ∧ Row 186 18 a10 (lT x10.1).length c10 (reps [.int .u8 0, .int .u8 0, .int .u8 0, .int .u8 0, .int .u8 0, .int .u8 0, .int .u8 0, .int .u8 0, .int .u8 0, .int .u8 0, .int .u8 0, .int .u8 0, .int .u8 0, .int .u8 0, .int .u8 0, .int .u8 0, .slice none 0 0, .map none] (lT x10.1).length) Nr10 ∧ a10.isNone = (if 0 ≤ ((-1) : Int) ∧ (v < ((-1) : Int) ∨ (rArr true x9.2).1 = 0) then false else decide ((rArr true x9.2).1 ≤ 0))) ?_ (fun l' H' L' le_16 hI => ?_)
            · skip
              refine cd rfl (fun h158 => ?_) (fun h158 => ?_)
              · skip
                refine rg ?_
                refine mv rfl rfl ?_
                refine mv rfl rfl ?_
                refine apz (zs := [.int .u8 0, .int .u8 0, .int .u8 0, .int .u8 0, .int .u8 0, .int .u8 0, .int .u8 0, .int .u8 0, .int .u8 0, .int .u8 0, .int .u8 0, .int .u8 0, .int .u8 0, .int .u8 0, .int .u8 0, .int .u8 0, .slice none 0 0, .map none]) (m := (lT x10.1).length) Tryd.underlying178 Tryd.underlying21 I186 rfl rfl rfl (by omega) (by omega) (by have h9 := hnb10; unfold BR at h9; omega) (by have h9 := hnb10; unfold BR at h9; unfold maxLen; omega) rfl (fun g161 cp161 N161 r161 => ?_)
                refine asg rfl rfl ?_
                refine nN ?_
                refine drN (.tail .head) ?_
                refine fun a_ w_ hA hw => ⟨_, _, _, hA.sub ?_, (Fz.le.refl _), hw, (some ⟨g161, 0, none⟩), cp161, N161, rfl, rfl, r161, (by rw [if_neg (by omega)]; exact (decide_eq_false (by omega)).symm)⟩
                exact (.cons rfl (.cons rfl (.cons rfl (.cons rfl (.cons rfl (.cons rfl (.cons rfl (.nil _))))))))
              · skip
                refine skN ?_
                refine fun a_ w_ hA hw => ⟨_, _, _, hA.sub ?_, (Fz.le.refl _), hw, none, 0, [], rfl, rfl, (by rw [show (lT x10.1).length = 0 by omega]; exact (Row.nil _ _)), (by rw [if_neg (by omega)]; exact (decide_eq_true (by omega)).symm)⟩
                exact (.cons rfl (.cons rfl (.cons rfl (.cons rfl (.cons rfl (.cons (by rw [show (lT x10.1).length = 0 by omega]; rfl) (.cons rfl (.nil _))))))))
            · skip
              obtain ⟨a10, c10, Nr10, rfl, rfl, pj0, pj1⟩ := hI
              have hr10 := pj0
              have hi10 := pj1
              refine sq ?_
              refine sr ?_
              refine asg rfl rfl ?_
              refine nl ?_
              refine bl (lp ((lT x10.1).length) (fun k10 l' H' L' => ∃ (es10 : List (KE 18)) (M10 RN10 : Chunk), [(7, .pointer (some ⟨b_1, 0, none⟩)), (8, .int .i16 v), (9, .bool (decide ((0 : Int) ≤ v))), (10, .pointer (some ⟨b, 0, none⟩)), (21, .slice none 0 0), (22, .slice a10 (lT x10.1).length c10), (23, .int .i32 (rArr true x9.2).1), (24, .int .i32 (k10 : Int))] = l' ∧ M10 :: RN10 :: [(b, .cells [.int .i16 v, .pointer p0, .pointer p1, .int .i32 (IntKind.i32.wrap x2.1.n), .int .i32 (IntKind.i32.wrap x3.1.n), .int .i32 (IntKind.i32.wrap x4.1.n), .int .i32 (IntKind.i32.wrap x5.1.n), .int .i32 (IntKind.i32.wrap x6.1.n), .int .i32 (IntKind.i32.wrap x7.1.n), .int .i8 (IntKind.i8.wrap x8.1.n), .bool (decide (x9.1.n % 2 = 1)), .slice none 0 0, .slice none 0 0, .map none].toArray 181 (0, 0))] :: L = L' ∧ RdAt H' 193 b_1 (rMany (decV 10 (decP fs_sShareFetchRequestTopic v true) false true) k10 (rArr true x9.2).2).2 RN10 ∧ Row 186 18 a10 (lT x10.1).length c10 (es10.flatMap fk ++ reps [.int .u8 0, .int .u8 0, .int .u8 0, .int .u8 0, .int .u8 0, .int .u8 0, .int .u8 0, .int .u8 0, .int .u8 0, .int .u8 0, .int .u8 0, .int .u8 0, .int .u8 0, .int .u8 0, .int .u8 0, .int .u8 0, .slice none 0 0, .map none] ((lT x10.1).length - k10)) M10 ∧ es10.map (·.2) = (rMany (decV 10 (decP fs_sShareFetchRequestTopic v true) false true) k10 (rArr true x9.2).2).1 ∧ ∀ p ∈ es10, At_ShareFetchRequestTopic H' p.2 (fk p)) [(7, .pointer (some ⟨b_1, 0, none⟩)), (8, .int .i16 v), (9, .bool (decide ((0 : Int) ≤ v))), (10, .pointer (some ⟨b, 0, none⟩)), (21, .slice none 0 0), (22, .slice a10 (lT x10.1).length c10), (23, .int .i32 (rArr true x9.2).1), (24, .int .i32 (0 : Int))] (.cons rfl (.cons rfl (.cons rfl (.cons rfl (.cons rfl (.cons rfl (.cons rfl (.cons rfl (.nil _))))))))) ⟨[], Nr10, _, rfl, rfl, (hR150.mono le_16), hr10, rfl, (fun p hp => by cases hp)⟩ (fun k10 l' H' L' hk10 le_17 hI => ?_))
              obtain ⟨es10, M10, RN10, rfl, rfl, hR_10, hw_10, he_10, hg_10⟩ := hI
              have hs_10 := els_len he_10
              have hp_10 : (es10.flatMap fk).length = k10 * 18 := els_flat hs_10
              refine sq ?_
              refine sr ?_
              refine mv rfl rfl ?_
              refine mv rfl rfl ?_
              refine lt rfl rfl rfl ?_
              refine nl ?_
              refine cd rfl (fun h164 => ?_) (fun h164 => ?_)
              · skip
                have hkl10 : k10 < (lT x10.1).length := by omega
                obtain ⟨g10, po10, hga10, rfl, hbk10⟩ := hw_10.next (zs := [.int .u8 0, .int .u8 0, .int .u8 0, .int .u8 0, .int .u8 0, .int .u8 0, .int .u8 0, .int .u8 0, .int .u8 0, .int .u8 0, .int .u8 0, .int .u8 0, .int .u8 0, .int .u8 0, .int .u8 0, .int .u8 0, .slice none 0 0, .map none]) hkl10 rfl (by decide)
                have ho10 : 0 + k10 * 18 = (es10.flatMap fk).length := by rw [hp_10]; omega
                have hbz10 : ((decV 10 (decP fs_sShareFetchRequestTopic v true) false true) (rMany (decV 10 (decP fs_sShareFetchRequestTopic v true) false true) k10 (rArr true x9.2).2).2).2.bad = true → (decP fs_ShareFetchRequest v true ⟨s, false, !a.isNone⟩).2.bad = true := fun h => hB10 (by rw [ex10]; exact rMany_mono (fun r h => decV_bad (fun r h => decP_bad _ _ _ r h) h) _ (show k10 + 1 ≤ (lT x10.1).length from hkl10) (by rw [rMany_succ]; exact h))
                have hLk10 : (rMany (decV 10 (decP fs_sShareFetchRequestTopic v true) false true) k10 (rArr true x9.2).2).2.s.length ≤ BR := Nat.le_trans (rMany_shr (fun r => decV_shr (fun r => decP_shr _ _ _ r) r) _ _) hm10
                have hL10__ := hLk10
                obtain ⟨x10_0, hx10_0⟩ : ∃ x, x = stepF (Fd.mk 7 0 (-1) (-1) (-1) 0 0 []) v true (rMany (decV 10 (decP fs_sShareFetchRequestTopic v true) false true) k10 (rArr true x9.2).2).2 := ⟨_, rfl⟩
                obtain ⟨x10_1, hx10_1⟩ : ∃ x, x = stepF (Fd.mk 11 0 (-1) (-1) (-1) 0 10 fs_sShareFetchRequestTopicPartition) v true x10_0.2 := ⟨_, rfl⟩
                obtain ⟨u10_, hu10_⟩ : ∃ x, x = tailU true x10_1.2 := ⟨_, rfl⟩
                have hD10_ : decP fs_sShareFetchRequestTopic v true (rMany (decV 10 (decP fs_sShareFetchRequestTopic v true) false true) k10 (rArr true x9.2).2).2 = (.mk 0 [] false [x10_0.1, x10_1.1] u10_.1, u10_.2) := by
                  generalize ((rMany (decV 10 (decP fs_sShareFetchRequestTopic v true) false true) k10 (rArr true x9.2).2).2 : Rd) = r_ at hx10_0 ⊢
                  rw [decP_eq]; unfold fs_sShareFetchRequestTopic; simp only [decFs_cons, decFs_nil, ← hx10_0, ← hx10_1, ← hu10_]
                have hL10_0 : x10_0.2.s.length ≤ BR := by rw [hx10_0]; exact Nat.le_trans (stepF_shr _ _ _ _) hL10__
                have hL10_1 : x10_1.2.s.length ≤ BR := by rw [hx10_1]; exact Nat.le_trans (stepF_shr _ _ _ _) hL10_0
                have hE10_ : u10_.2.bad = true → (decP fs_ShareFetchRequest v true ⟨s, false, !a.isNone⟩).2.bad = true := fun h => hbz10 (by show (decP fs_sShareFetchRequestTopic v true (rMany (decV 10 (decP fs_sShareFetchRequestTopic v true) false true) k10 (rArr true x9.2).2).2).2.bad = true; rw [hD10_]; exact h)
                have hB10_1 : x10_1.2.bad = true → (decP fs_ShareFetchRequest v true ⟨s, false, !a.isNone⟩).2.bad = true := fun h => hE10_ (by rw [hu10_]; exact tailU_bad h)
                have hB10_0 : x10_0.2.bad = true → (decP fs_ShareFetchRequest v true ⟨s, false, !a.isNone⟩).2.bad = true := fun h => hB10_1 (by rw [hx10_1]; exact step_bad h)
                refine skt ?_
                refine sq ?_
                refine bl ?_
                refine sr ?_
                refine mv rfl rfl ?_
                refine mv rfl rfl ?_
                refine ixk (j := k10) Tryd.runUnderlying178 Tryd.sizeOf186 rfl hga10 rfl rfl hkl10 rfl ?_
                refine asg rfl rfl ?_
                refine nl ?_
                refine sr ?_
                refine mv rfl rfl ?_
                refine cl rfl rfl rfl (def_ShareFetchRequestTopic ho10) rfl (fun v_ H1 L1 hle_ hR_ => ?_)
                obtain ⟨rfl, rfl⟩ := hR_
                refine nl ?_
                refine sr ?_
                refine mv rfl rfl ?_
                refine asg rfl rfl ?_
                refine nl ?_
                refine sq ?_
                refine sr ?_
                refine tf (.tail .head) ?_
                have ex10_0 : x10_0 = decV 7 (decP [] v true) false true (rMany (decV 10 (decP fs_sShareFetchRequestTopic v true) false true) k10 (rArr true x9.2).2).2 := (hx10_0.trans (step_yes (by decide) (show (0 : Int) ≤ v by omega) (Or.inl (by decide)))).trans (decF'_val (by decide) (rfl))
                refine cl rfl rfl rfl (d7 hR_10 ex10_0) rfl (fun v_ H1 L1 hle_ hR_ => ?_)
                obtain ⟨N173, rfl, hR173, rfl, rfl⟩ := hR_
                refine al Tryd.zeroValue143 rfl rfl (fun b_19 => ?_)
                refine sa Tryd.sizeOf143 rfl rfl rfl rfl rfl .head ?_
                refine nl ?_
                refine rg ?_
                refine mv rfl rfl ?_
                refine la (Says.own .head) Tryd.isAgg143 Tryd.sizeOf143 rfl (Nat.zero_add _).symm rfl rfl ?_
                refine nc rfl rfl ?_
                refine fa F186_0 rfl rfl ?_
                refine saM (off := 0) Tryd.sizeOf143 rfl (by rw [ho10]) rfl rfl rfl rfl (.tail (.tail .head)) ?_
                refine nl ?_
                refine sq ?_
                refine sr ?_
                refine mv rfl rfl ?_
                refine nc rfl rfl ?_
                refine fa F186_1 rfl rfl ?_
                refine ld (j := 16) (off := 0 + k10 * 18) (Says.mid (.tail (.tail .head)) ho10) Tryd.isAgg184 rfl rfl rfl rfl ?_
                refine asg rfl rfl ?_
                refine nl ?_
                refine sr ?_
                refine mv rfl rfl ?_
                refine asg rfl rfl ?_
                refine nl ?_
                refine sr ?_
                refine asg rfl rfl ?_
                refine nl ?_
                refine sq ?_
                refine sr ?_
                refine mv rfl rfl ?_
                refine nl ?_
                refine cdT rfl (by omega) ?_
                refine rg ?_
                have ey10_1 : x10_1 = (.mk 0 [] (if 0 ≤ ((-1) : Int) ∧ (v < ((-1) : Int) ∨ (rArr true x10_0.2).1 = 0) then false else decide ((rArr true x10_0.2).1 ≤ 0)) (rMany (decV 10 (decP fs_sShareFetchRequestTopicPartition v true) false true) (rArr true x10_0.2).1.toNat (rArr true x10_0.2).2).1 [], (rMany (decV 10 (decP fs_sShareFetchRequestTopicPartition v true) false true) (rArr true x10_0.2).1.toNat (rArr true x10_0.2).2).2) := (hx10_1.trans (step_yes (by decide) (show (0 : Int) ≤ v by omega) (Or.inl (by decide)))).trans (decF'_list rfl rfl)
                have hn10_1 : (rArr true x10_0.2).1.toNat = (lT x10_1.1).length := by rw [ey10_1]; exact (lT_many nul_le).symm
                have ex10_1 := ey10_1
                rw [hn10_1] at ex10_1
                have hl10_1 := rArr_le true x10_0.2
                have hm10_1 : (rArr true x10_0.2).2.s.length ≤ BR := Nat.le_trans (rArr_len true x10_0.2) hL10_0
                have hnb10_1 : (lT x10_1.1).length ≤ BR := by omega
                refine tf (.tail .head) ?_
                refine cl rfl rfl rfl (r_arrt hR173) rfl (fun v_ H1 L1 hle_ hR_ => ?_)
                obtain ⟨rfl, N184, rfl, hR184, rfl⟩ := hR_
                have hh10_1 := rArr_hi true x10_0.2
                refine asg rfl rfl ?_
                refine nl ?_
                refine sq ?_
                refine sr ?_
                refine cl rfl rfl rfl (r_ok hR184) rfl (fun v_ H1 L1 hle_ hR_ => ?_)
                obtain ⟨rfl, rfl, rfl⟩ := hR_
                refine nt rfl rfl ?_
                refine nl ?_
                refine cb rfl (fun h187 => ?_) (fun h187 => ?_)
                · skip
                  have hbad_ : (rArr true x10_0.2).2.bad = true := by simpa using h187
                  refine sr ?_
                  refine cl rfl rfl rfl (r_complete hR184 (he.mono (le_2.trans (le_3.trans (le_8.trans (le_10.trans (le_12.trans (le_14.trans (le_16.trans le_17))))))))) rfl (fun v_ H1 L1 hle_ hR_ => ?_)
                  obtain ⟨rfl, rfl, rfl⟩ := hR_
                  refine asg rfl rfl ?_
                  refine nl ?_
                  refine drW .head ?_
                  refine drW .head ?_
                  refine drW .head ?_
                  exact rT rfl rfl (le_2.trans (le_3.trans (le_8.trans (le_10.trans (le_12.trans (le_14.trans (le_16.trans le_17))))))) (fun _ _ h => h) ⟨_, rfl, RdEnd.out (hB10_1 (by rw [ey10_1]; exact rMany_bad (fun r h => decV_bad (decP_bad _ _ _) h) _ _ hbad_)) hbad_⟩
                · skip
                  refine skt ?_
                  refine sr ?_
                  refine mv rfl rfl ?_
                  refine sh' (j := 0) Tryd.runUnderlying184 Tryd.sizeOf242 rfl rfl rfl (Nat.zero_le _) rfl ?_
                  refine asg rfl rfl ?_
                  refine nl ?_
                  refine sq ?_
                  refine sr ?_
                  refine mv rfl rfl ?_
                  refine gt rfl rfl rfl ?_
                  refine nl ?_
                  refine nulC2 ?_
                  refine cutT (fun l' H' L' => ∃ (a10_1 : Option Addr), ∃ (c10_1 : Nat), ∃ (Nr10_1 : Chunk), [(7, .pointer (some ⟨b_1, 0, none⟩)), (8, .int .i16 v), (9, .bool (decide ((0 : Int) ≤ v))), (10, .pointer (some ⟨b, 0, none⟩)), (21, .slice none 0 0), (22, .slice a10 (lT x10.1).length c10), (23, .int .i32 (rArr true x9.2).1), (24, .int .i32 (k10 : Int)), (26, .pointer (some ⟨g10, 0 + k10 * 18, none⟩)), (28, .slice none 0 0), (29, .slice a10_1 (lT x10_1.1).length c10_1), (30, .int .i32 (rArr true x10_0.2).1)] = l' ∧ Nr10_1 :: N184 :: [(b_19, .cells [ub x10_0.1.s 0, ub x10_0.1.s 1, ub x10_0.1.s 2, ub x10_0.1.s 3, ub x10_0.1.s 4, ub x10_0.1.s 5, ub x10_0.1.s 6, ub x10_0.1.s 7, ub x10_0.1.s 8, ub x10_0.1.s 9, ub x10_0.1.s 10, ub x10_0.1.s 11, ub x10_0.1.s 12, ub x10_0.1.s 13, ub x10_0.1.s 14, ub x10_0.1.s 15].toArray 143 (0, 0))] :: [(g10, .cells ((es10.flatMap fk) ++ ([ub x10_0.1.s 0, ub x10_0.1.s 1, ub x10_0.1.s 2, ub x10_0.1.s 3, ub x10_0.1.s 4, ub x10_0.1.s 5, ub x10_0.1.s 6, ub x10_0.1.s 7, ub x10_0.1.s 8, ub x10_0.1.s 9, ub x10_0.1.s 10, ub x10_0.1.s 11, ub x10_0.1.s 12, ub x10_0.1.s 13, ub x10_0.1.s 14, ub x10_0.1.s 15, .slice none 0 0, .map none] : List Value) ++ po10).toArray 186 (0, 0))] :: [(b, .cells [.int .i16 v, .pointer p0, .pointer p1, .int .i32 (IntKind.i32.wrap x2.1.n), .int .i32 (IntKind.i32.wrap x3.1.n), .int .i32 (IntKind.i32.wrap x4.1.n), .int .i32 (IntKind.i32.wrap x5.1.n), .int .i32 (IntKind.i32.wrap x6.1.n), .int .i32 (IntKind.i32.wrap x7.1.n), .int .i8 (IntKind.i8.wrap x8.1.n), .bool (decide (x9.1.n % 2 = 1)), .slice none 0 0, .slice none 0 0, .map none].toArray 181 (0, 0))] :: L = L' ∧ Row 242 4 a10_1 (lT x10_1.1).length c10_1 (reps [.int .i32 0, .int .i32 0, .slice none 0 0, .map none] (lT x10_1.1).length) Nr10_1 ∧ a10_1.isNone = (if 0 ≤ ((-1) : Int) ∧ (v < ((-1) : Int) ∨ (rArr true x10_0.2).1 = 0) then false else decide ((rArr true x10_0.2).1 ≤ 0))) ?_ (fun l' H' L' le_20 hI => ?_)
                  · skip
                    refine cd rfl (fun h192 => ?_) (fun h192 => ?_)
                    · skip
                      refine rg ?_
                      refine mv rfl rfl ?_
                      refine mv rfl rfl ?_
                      refine apz (zs := [.int .i32 0, .int .i32 0, .slice none 0 0, .map none]) (m := (lT x10_1.1).length) Tryd.underlying184 Tryd.underlying21 I242 rfl rfl rfl (by omega) (by omega) (by have h9 := hnb10_1; unfold BR at h9; omega) (by have h9 := hnb10_1; unfold BR at h9; unfold maxLen; omega) rfl (fun g195 cp195 N195 r195 => ?_)
                      refine asg rfl rfl ?_
                      refine nN ?_
                      refine drN (.tail .head) ?_
                      refine fun a_ w_ hA hw => ⟨_, _, _, hA.sub ?_, (Fz.le.refl _), hw, (some ⟨g195, 0, none⟩), cp195, N195, rfl, rfl, r195, (by rw [if_neg (by omega)]; exact (decide_eq_false (by omega)).symm)⟩
                      exact (.cons rfl (.cons rfl (.cons rfl (.cons rfl (.cons rfl (.cons rfl (.cons rfl (.cons rfl (.cons rfl (.cons rfl (.cons rfl (.cons rfl (.nil _)))))))))))))
                    · skip
                      refine skN ?_
                      refine fun a_ w_ hA hw => ⟨_, _, _, hA.sub ?_, (Fz.le.refl _), hw, none, 0, [], rfl, rfl, (by rw [show (lT x10_1.1).length = 0 by omega]; exact (Row.nil _ _)), (by rw [if_neg (by omega)]; exact (decide_eq_true (by omega)).symm)⟩
                      exact (.cons rfl (.cons rfl (.cons rfl (.cons rfl (.cons rfl (.cons rfl (.cons rfl (.cons rfl (.cons rfl (.cons rfl (.cons (by rw [show (lT x10_1.1).length = 0 by omega]; rfl) (.cons rfl (.nil _)))))))))))))
                  · skip
                    obtain ⟨a10_1, c10_1, Nr10_1, rfl, rfl, pj0, pj1⟩ := hI
                    have hr10_1 := pj0
                    have hi10_1 := pj1
                    refine sq ?_
                    refine sr ?_
                    refine asg rfl rfl ?_
                    refine nl ?_
                    refine bl (lp ((lT x10_1.1).length) (fun k10_1 l' H' L' => ∃ (es10_1 : List (KE 4)) (M10_1 RN10_1 : Chunk), [(7, .pointer (some ⟨b_1, 0, none⟩)), (8, .int .i16 v), (9, .bool (decide ((0 : Int) ≤ v))), (10, .pointer (some ⟨b, 0, none⟩)), (21, .slice none 0 0), (22, .slice a10 (lT x10.1).length c10), (23, .int .i32 (rArr true x9.2).1), (24, .int .i32 (k10 : Int)), (26, .pointer (some ⟨g10, 0 + k10 * 18, none⟩)), (28, .slice none 0 0), (29, .slice a10_1 (lT x10_1.1).length c10_1), (30, .int .i32 (rArr true x10_0.2).1), (31, .int .i32 (k10_1 : Int))] = l' ∧ M10_1 :: RN10_1 :: [(b_19, .cells [ub x10_0.1.s 0, ub x10_0.1.s 1, ub x10_0.1.s 2, ub x10_0.1.s 3, ub x10_0.1.s 4, ub x10_0.1.s 5, ub x10_0.1.s 6, ub x10_0.1.s 7, ub x10_0.1.s 8, ub x10_0.1.s 9, ub x10_0.1.s 10, ub x10_0.1.s 11, ub x10_0.1.s 12, ub x10_0.1.s 13, ub x10_0.1.s 14, ub x10_0.1.s 15].toArray 143 (0, 0))] :: [(g10, .cells ((es10.flatMap fk) ++ ([ub x10_0.1.s 0, ub x10_0.1.s 1, ub x10_0.1.s 2, ub x10_0.1.s 3, ub x10_0.1.s 4, ub x10_0.1.s 5, ub x10_0.1.s 6, ub x10_0.1.s 7, ub x10_0.1.s 8, ub x10_0.1.s 9, ub x10_0.1.s 10, ub x10_0.1.s 11, ub x10_0.1.s 12, ub x10_0.1.s 13, ub x10_0.1.s 14, ub x10_0.1.s 15, .slice none 0 0, .map none] : List Value) ++ po10).toArray 186 (0, 0))] :: [(b, .cells [.int .i16 v, .pointer p0, .pointer p1, .int .i32 (IntKind.i32.wrap x2.1.n), .int .i32 (IntKind.i32.wrap x3.1.n), .int .i32 (IntKind.i32.wrap x4.1.n), .int .i32 (IntKind.i32.wrap x5.1.n), .int .i32 (IntKind.i32.wrap x6.1.n), .int .i32 (IntKind.i32.wrap x7.1.n), .int .i8 (IntKind.i8.wrap x8.1.n), .bool (decide (x9.1.n % 2 = 1)), .slice none 0 0, .slice none 0 0, .map none].toArray 181 (0, 0))] :: L = L' ∧ RdAt H' 193 b_1 (rMany (decV 10 (decP fs_sShareFetchRequestTopicPartition v true) false true) k10_1 (rArr true x10_0.2).2).2 RN10_1 ∧ Row 242 4 a10_1 (lT x10_1.1).length c10_1 (es10_1.flatMap fk ++ reps [.int .i32 0, .int .i32 0, .slice none 0 0, .map none] ((lT x10_1.1).length - k10_1)) M10_1 ∧ es10_1.map (·.2) = (rMany (decV 10 (decP fs_sShareFetchRequestTopicPartition v true) false true) k10_1 (rArr true x10_0.2).2).1 ∧ ∀ p ∈ es10_1, At_ShareFetchRequestTopicPartition H' p.2 (fk p)) [(7, .pointer (some ⟨b_1, 0, none⟩)), (8, .int .i16 v), (9, .bool (decide ((0 : Int) ≤ v))), (10, .pointer (some ⟨b, 0, none⟩)), (21, .slice none 0 0), (22, .slice a10 (lT x10.1).length c10), (23, .int .i32 (rArr true x9.2).1), (24, .int .i32 (k10 : Int)), (26, .pointer (some ⟨g10, 0 + k10 * 18, none⟩)), (28, .slice none 0 0), (29, .slice a10_1 (lT x10_1.1).length c10_1), (30, .int .i32 (rArr true x10_0.2).1), (31, .int .i32 (0 : Int))] (.cons rfl (.cons rfl (.cons rfl (.cons rfl (.cons rfl (.cons rfl (.cons rfl (.cons rfl (.cons rfl (.cons rfl (.cons rfl (.cons rfl (.cons rfl (.nil _)))))))))))))) ⟨[], Nr10_1, _, rfl, rfl, (hR184.mono le_20), hr10_1, rfl, (fun p hp => by cases hp)⟩ (fun k10_1 l' H' L' hk10_1 le_21 hI => ?_))
                    obtain ⟨es10_1, M10_1, RN10_1, rfl, rfl, hR_10_1, hw_10_1, he_10_1, hg_10_1⟩ := hI
                    have hs_10_1 := els_len he_10_1
                    have hp_10_1 : (es10_1.flatMap fk).length = k10_1 * 4 := els_flat hs_10_1
                    refine sq ?_
                    refine sr ?_
                    refine mv rfl rfl ?_
                    refine mv rfl rfl ?_
                    refine lt rfl rfl rfl ?_
                    refine nl ?_
                    refine cd rfl (fun h198 => ?_) (fun h198 => ?_)
                    · skip
                      have hkl10_1 : k10_1 < (lT x10_1.1).length := by omega
                      obtain ⟨g10_1, po10_1, hga10_1, rfl, hbk10_1⟩ := hw_10_1.next (zs := [.int .i32 0, .int .i32 0, .slice none 0 0, .map none]) hkl10_1 rfl (by decide)
                      have ho10_1 : 0 + k10_1 * 4 = (es10_1.flatMap fk).length := by rw [hp_10_1]; omega
                      have hbz10_1 : ((decV 10 (decP fs_sShareFetchRequestTopicPartition v true) false true) (rMany (decV 10 (decP fs_sShareFetchRequestTopicPartition v true) false true) k10_1 (rArr true x10_0.2).2).2).2.bad = true → (decP fs_ShareFetchRequest v true ⟨s, false, !a.isNone⟩).2.bad = true := fun h => hB10_1 (by rw [ex10_1]; exact rMany_mono (fun r h => decV_bad (fun r h => decP_bad _ _ _ r h) h) _ (show k10_1 + 1 ≤ (lT x10_1.1).length from hkl10_1) (by rw [rMany_succ]; exact h))
                      have hLk10_1 : (rMany (decV 10 (decP fs_sShareFetchRequestTopicPartition v true) false true) k10_1 (rArr true x10_0.2).2).2.s.length ≤ BR := Nat.le_trans (rMany_shr (fun r => decV_shr (fun r => decP_shr _ _ _ r) r) _ _) hm10_1
                      have hL10_1__ := hLk10_1
                      obtain ⟨x10_1_0, hx10_1_0⟩ : ∃ x, x = stepF (Fd.mk 3 0 (-1) (-1) (-1) 0 0 []) v true (rMany (decV 10 (decP fs_sShareFetchRequestTopicPartition v true) false true) k10_1 (rArr true x10_0.2).2).2 := ⟨_, rfl⟩
                      obtain ⟨x10_1_1, hx10_1_1⟩ : ∃ x, x = stepF (Fd.mk 3 0 0 (-1) (-1) 0 0 []) v true x10_1_0.2 := ⟨_, rfl⟩
                      obtain ⟨x10_1_2, hx10_1_2⟩ : ∃ x, x = stepF (Fd.mk 11 0 (-1) (-1) (-1) 0 10 fs_sShareFetchRequestTopicPartitionAcknowledgementBatch) v true x10_1_1.2 := ⟨_, rfl⟩
                      obtain ⟨u10_1_, hu10_1_⟩ : ∃ x, x = tailU true x10_1_2.2 := ⟨_, rfl⟩
                      have hD10_1_ : decP fs_sShareFetchRequestTopicPartition v true (rMany (decV 10 (decP fs_sShareFetchRequestTopicPartition v true) false true) k10_1 (rArr true x10_0.2).2).2 = (.mk 0 [] false [x10_1_0.1, x10_1_1.1, x10_1_2.1] u10_1_.1, u10_1_.2) := by
                        generalize ((rMany (decV 10 (decP fs_sShareFetchRequestTopicPartition v true) false true) k10_1 (rArr true x10_0.2).2).2 : Rd) = r_ at hx10_1_0 ⊢
                        rw [decP_eq]; unfold fs_sShareFetchRequestTopicPartition; simp only [decFs_cons, decFs_nil, ← hx10_1_0, ← hx10_1_1, ← hx10_1_2, ← hu10_1_]
                      have hL10_1_0 : x10_1_0.2.s.length ≤ BR := by rw [hx10_1_0]; exact Nat.le_trans (stepF_shr _ _ _ _) hL10_1__
                      have hL10_1_1 : x10_1_1.2.s.length ≤ BR := by rw [hx10_1_1]; exact Nat.le_trans (stepF_shr _ _ _ _) hL10_1_0
                      have hL10_1_2 : x10_1_2.2.s.length ≤ BR := by rw [hx10_1_2]; exact Nat.le_trans (stepF_shr _ _ _ _) hL10_1_1
                      have hE10_1_ : u10_1_.2.bad = true → (decP fs_ShareFetchRequest v true ⟨s, false, !a.isNone⟩).2.bad = true := fun h => hbz10_1 (by show (decP fs_sShareFetchRequestTopicPartition v true (rMany (decV 10 (decP fs_sShareFetchRequestTopicPartition v true) false true) k10_1 (rArr true x10_0.2).2).2).2.bad = true; rw [hD10_1_]; exact h)
                      have hB10_1_2 : x10_1_2.2.bad = true → (decP fs_ShareFetchRequest v true ⟨s, false, !a.isNone⟩).2.bad = true := fun h => hE10_1_ (by rw [hu10_1_]; exact tailU_bad h)
                      have hB10_1_1 : x10_1_1.2.bad = true → (decP fs_ShareFetchRequest v true ⟨s, false, !a.isNone⟩).2.bad = true := fun h => hB10_1_2 (by rw [hx10_1_2]; exact step_bad h)
                      have hB10_1_0 : x10_1_0.2.bad = true → (decP fs_ShareFetchRequest v true ⟨s, false, !a.isNone⟩).2.bad = true := fun h => hB10_1_1 (by rw [hx10_1_1]; exact step_bad h)
                      refine skt ?_
                      refine sq ?_
                      refine bl ?_
                      refine sr ?_
                      refine mv rfl rfl ?_
                      refine mv rfl rfl ?_
                      refine ixk (j := k10_1) Tryd.runUnderlying184 Tryd.sizeOf242 rfl hga10_1 rfl rfl hkl10_1 rfl ?_
                      refine asg rfl rfl ?_
                      refine nl ?_
                      refine sr ?_
                      refine mv rfl rfl ?_
                      refine cl rfl rfl rfl (def_ShareFetchRequestTopicPartition ho10_1) rfl (fun v_ H1 L1 hle_ hR_ => ?_)
                      obtain ⟨rfl, rfl⟩ := hR_
                      refine nl ?_
                      refine sr ?_
                      refine mv rfl rfl ?_
                      refine asg rfl rfl ?_
                      refine nl ?_
                      refine sq ?_
                      refine sr ?_
                      refine tf (.tail .head) ?_
                      have ex10_1_0 : x10_1_0 = decV 3 (decP [] v true) false true (rMany (decV 10 (decP fs_sShareFetchRequestTopicPartition v true) false true) k10_1 (rArr true x10_0.2).2).2 := (hx10_1_0.trans (step_yes (by decide) (show (0 : Int) ≤ v by omega) (Or.inl (by decide)))).trans (decF'_val (by decide) (rfl))
                      refine cl rfl rfl rfl (d3 hR_10_1 ex10_1_0) rfl (fun v_ H1 L1 hle_ hR_ => ?_)
                      obtain ⟨N207, rfl, hR207, rfl, rfl⟩ := hR_
                      refine asg rfl rfl ?_
                      refine nl ?_
                      refine rg ?_
                      refine mv rfl rfl ?_
                      refine mv rfl rfl ?_
                      refine nc rfl rfl ?_
                      refine fa F242_0 rfl rfl ?_
                      refine stM (off := 0) Tryd.sizeOf21 rfl (by rw [ho10_1]) rfl rfl rfl (.tail .head) ?_
                      refine nl ?_
                      refine sq ?_
                      refine sr ?_
                      refine mv rfl rfl ?_
                      refine ge rfl rfl rfl ?_
                      refine mv rfl rfl ?_
                      refine spl (t := 214) rfl (fun _ => ?_) (fun hn_ => absurd (by omega) hn_)
                      refine gr rfl rfl ?_
                      refine mv rfl rfl ?_
                      refine gr rfl rfl ?_
                      refine le rfl rfl rfl ?_
                      refine pk rfl rfl rfl rfl ?_
                      refine nl ?_
                      refine cutT (fun l' H' L' => ∃ (Nj10_1_1 : Chunk), [(7, .pointer (some ⟨b_1, 0, none⟩)), (8, .int .i16 v), (9, .bool (decide ((0 : Int) ≤ v))), (10, .pointer (some ⟨b, 0, none⟩)), (21, .slice none 0 0), (22, .slice a10 (lT x10.1).length c10), (23, .int .i32 (rArr true x9.2).1), (24, .int .i32 (k10 : Int)), (26, .pointer (some ⟨g10, 0 + k10 * 18, none⟩)), (28, .slice none 0 0), (29, .slice a10_1 (lT x10_1.1).length c10_1), (30, .int .i32 (rArr true x10_0.2).1), (31, .int .i32 (k10_1 : Int)), (33, .pointer (some ⟨g10_1, 0 + k10_1 * 4, none⟩))] = l' ∧ Nj10_1_1 :: [(g10_1, .cells ((es10_1.flatMap fk) ++ ([.int .i32 (IntKind.i32.wrap x10_1_0.1.n), .int .i32 (IntKind.i32.wrap x10_1_1.1.n), .slice none 0 0, .map none] : List Value) ++ po10_1).toArray 242 (0, 0))] :: [(b_19, .cells [ub x10_0.1.s 0, ub x10_0.1.s 1, ub x10_0.1.s 2, ub x10_0.1.s 3, ub x10_0.1.s 4, ub x10_0.1.s 5, ub x10_0.1.s 6, ub x10_0.1.s 7, ub x10_0.1.s 8, ub x10_0.1.s 9, ub x10_0.1.s 10, ub x10_0.1.s 11, ub x10_0.1.s 12, ub x10_0.1.s 13, ub x10_0.1.s 14, ub x10_0.1.s 15].toArray 143 (0, 0))] :: [(g10, .cells ((es10.flatMap fk) ++ ([ub x10_0.1.s 0, ub x10_0.1.s 1, ub x10_0.1.s 2, ub x10_0.1.s 3, ub x10_0.1.s 4, ub x10_0.1.s 5, ub x10_0.1.s 6, ub x10_0.1.s 7, ub x10_0.1.s 8, ub x10_0.1.s 9, ub x10_0.1.s 10, ub x10_0.1.s 11, ub x10_0.1.s 12, ub x10_0.1.s 13, ub x10_0.1.s 14, ub x10_0.1.s 15, .slice none 0 0, .map none] : List Value) ++ po10).toArray 186 (0, 0))] :: [(b, .cells [.int .i16 v, .pointer p0, .pointer p1, .int .i32 (IntKind.i32.wrap x2.1.n), .int .i32 (IntKind.i32.wrap x3.1.n), .int .i32 (IntKind.i32.wrap x4.1.n), .int .i32 (IntKind.i32.wrap x5.1.n), .int .i32 (IntKind.i32.wrap x6.1.n), .int .i32 (IntKind.i32.wrap x7.1.n), .int .i8 (IntKind.i8.wrap x8.1.n), .bool (decide (x9.1.n % 2 = 1)), .slice none 0 0, .slice none 0 0, .map none].toArray 181 (0, 0))] :: L = L' ∧ RdAt H' 193 b_1 x10_1_1.2 Nj10_1_1) ?_ (fun l' H' L' le_23 hI => ?_)
                      · skip
                        refine cd rfl (fun h217 => ?_) (fun h217 => ?_)
                        · skip
                          refine sr ?_
                          have ex10_1_1 : x10_1_1 = decV 3 (decP [] v true) false true x10_1_0.2 := (hx10_1_1.trans (step_yes (by decide) (show (0 : Int) ≤ v by omega) (Or.inr (show v ≤ (0 : Int) by omega)))).trans (decF'_val (by decide) (rfl))
                          refine cl rfl rfl rfl (d3 hR207 ex10_1_1) rfl (fun v_ H1 L1 hle_ hR_ => ?_)
                          obtain ⟨N218, rfl, hR218, rfl, rfl⟩ := hR_
                          refine asg rfl rfl ?_
                          refine nl ?_
                          refine rg ?_
                          refine mv rfl rfl ?_
                          refine mv rfl rfl ?_
                          refine nc rfl rfl ?_
                          refine fa F242_1 rfl rfl ?_
                          refine stM (off := 1) Tryd.sizeOf21 rfl (by rw [ho10_1]) rfl rfl rfl (.tail .head) ?_
                          refine nN ?_
                          refine fun a_ w_ hA hw => ⟨_, _, _, hA.sub ?_, (Fz.le.refl _), hw, N218, rfl, rfl, hR218⟩
                          exact (.cons rfl (.cons rfl (.cons rfl (.cons rfl (.cons rfl (.cons rfl (.cons rfl (.cons rfl (.cons rfl (.cons rfl (.cons rfl (.cons rfl (.cons rfl (.cons rfl (.nil _)))))))))))))))
                        · skip
                          refine skN ?_
                          obtain rfl : x10_1_1 = ((Tr.mk 0 [] false [] []), x10_1_0.2) := (hx10_1_1.trans (step_no (Or.inr ⟨by decide, show (0 : Int) < v by omega⟩))).trans (by rw [dflF_eq]; rfl)
                          refine fun a_ w_ hA hw => ⟨_, _, _, hA.sub ?_, (Fz.le.refl _), hw, N207, rfl, rfl, hR207⟩
                          exact (.cons rfl (.cons rfl (.cons rfl (.cons rfl (.cons rfl (.cons rfl (.cons rfl (.cons rfl (.cons rfl (.cons rfl (.cons rfl (.cons rfl (.cons rfl (.cons rfl (.nil _)))))))))))))))
                      · skip
                        obtain ⟨Nj10_1_1, rfl, rfl, pj0⟩ := hI
                        have hRj10_1_1 := pj0
                        refine sq ?_
                        refine sr ?_
                        refine mv rfl rfl ?_
                        refine nc rfl rfl ?_
                        refine fa F242_2 rfl rfl ?_
                        refine ld (j := 2) (off := 0 + k10_1 * 4) (Says.mid (.tail .head) ho10_1) Tryd.isAgg240 rfl rfl rfl rfl ?_
                        refine asg rfl rfl ?_
                        refine nl ?_
                        refine sr ?_
                        refine mv rfl rfl ?_
                        refine asg rfl rfl ?_
                        refine nl ?_
                        refine sr ?_
                        refine asg rfl rfl ?_
                        refine nl ?_
                        refine sq ?_
                        refine sr ?_
                        refine mv rfl rfl ?_
                        refine nl ?_
                        refine cdT rfl (by omega) ?_
                        refine rg ?_
                        have ey10_1_2 : x10_1_2 = (.mk 0 [] (if 0 ≤ ((-1) : Int) ∧ (v < ((-1) : Int) ∨ (rArr true x10_1_1.2).1 = 0) then false else decide ((rArr true x10_1_1.2).1 ≤ 0)) (rMany (decV 10 (decP fs_sShareFetchRequestTopicPartitionAcknowledgementBatch v true) false true) (rArr true x10_1_1.2).1.toNat (rArr true x10_1_1.2).2).1 [], (rMany (decV 10 (decP fs_sShareFetchRequestTopicPartitionAcknowledgementBatch v true) false true) (rArr true x10_1_1.2).1.toNat (rArr true x10_1_1.2).2).2) := (hx10_1_2.trans (step_yes (by decide) (show (0 : Int) ≤ v by omega) (Or.inl (by decide)))).trans (decF'_list rfl rfl)
                        have hn10_1_2 : (rArr true x10_1_1.2).1.toNat = (lT x10_1_2.1).length := by rw [ey10_1_2]; exact (lT_many nul_le).symm
                        have ex10_1_2 := ey10_1_2
                        rw [hn10_1_2] at ex10_1_2
                        have hl10_1_2 := rArr_le true x10_1_1.2
                        have hm10_1_2 : (rArr true x10_1_1.2).2.s.length ≤ BR := Nat.le_trans (rArr_len true x10_1_1.2) hL10_1_1
                        have hnb10_1_2 : (lT x10_1_2.1).length ≤ BR := by omega
                        refine cl rfl rfl rfl (r_arrt hRj10_1_1) rfl (fun v_ H1 L1 hle_ hR_ => ?_)
                        obtain ⟨rfl, N229, rfl, hR229, rfl⟩ := hR_
                        have hh10_1_2 := rArr_hi true x10_1_1.2
                        refine asg rfl rfl ?_
                        refine nl ?_
                        refine sq ?_
                        refine sr ?_
                        refine cl rfl rfl rfl (r_ok hR229) rfl (fun v_ H1 L1 hle_ hR_ => ?_)
                        obtain ⟨rfl, rfl, rfl⟩ := hR_
                        refine nt rfl rfl ?_
                        refine nl ?_
                        refine cb rfl (fun h232 => ?_) (fun h232 => ?_)
                        · skip
                          have hbad_ : (rArr true x10_1_1.2).2.bad = true := by simpa using h232
                          refine sr ?_
                          refine cl rfl rfl rfl (r_complete hR229 (he.mono (le_2.trans (le_3.trans (le_8.trans (le_10.trans (le_12.trans (le_14.trans (le_16.trans (le_17.trans (le_20.trans (le_21.trans le_23)))))))))))) rfl (fun v_ H1 L1 hle_ hR_ => ?_)
                          obtain ⟨rfl, rfl, rfl⟩ := hR_
                          refine asg rfl rfl ?_
                          refine nl ?_
                          refine drW .head ?_
                          refine drW .head ?_
                          refine drW .head ?_
                          refine drW .head ?_
                          exact rT rfl rfl (le_2.trans (le_3.trans (le_8.trans (le_10.trans (le_12.trans (le_14.trans (le_16.trans (le_17.trans (le_20.trans (le_21.trans le_23)))))))))) (fun _ _ h => h) ⟨_, rfl, RdEnd.out (hB10_1_2 (by rw [ey10_1_2]; exact rMany_bad (fun r h => decV_bad (decP_bad _ _ _) h) _ _ hbad_)) hbad_⟩
                        · skip
                          refine skt ?_
                          refine sr ?_
                          refine mv rfl rfl ?_
                          refine sh' (j := 0) Tryd.runUnderlying240 Tryd.sizeOf246 rfl rfl rfl (Nat.zero_le _) rfl ?_
                          refine asg rfl rfl ?_
                          refine nl ?_
                          refine sq ?_
                          refine sr ?_
                          refine mv rfl rfl ?_
                          refine gt rfl rfl rfl ?_
                          refine nl ?_
                          refine nulC2 ?_
                          refine cutT (fun l' H' L' => ∃ (a10_1_2 : Option Addr), ∃ (c10_1_2 : Nat), ∃ (Nr10_1_2 : Chunk), [(7, .pointer (some ⟨b_1, 0, none⟩)), (8, .int .i16 v), (9, .bool (decide ((0 : Int) ≤ v))), (10, .pointer (some ⟨b, 0, none⟩)), (21, .slice none 0 0), (22, .slice a10 (lT x10.1).length c10), (23, .int .i32 (rArr true x9.2).1), (24, .int .i32 (k10 : Int)), (26, .pointer (some ⟨g10, 0 + k10 * 18, none⟩)), (28, .slice none 0 0), (29, .slice a10_1 (lT x10_1.1).length c10_1), (30, .int .i32 (rArr true x10_0.2).1), (31, .int .i32 (k10_1 : Int)), (33, .pointer (some ⟨g10_1, 0 + k10_1 * 4, none⟩)), (36, .slice none 0 0), (37, .slice a10_1_2 (lT x10_1_2.1).length c10_1_2), (38, .int .i32 (rArr true x10_1_1.2).1)] = l' ∧ Nr10_1_2 :: N229 :: [(g10_1, .cells ((es10_1.flatMap fk) ++ ([.int .i32 (IntKind.i32.wrap x10_1_0.1.n), .int .i32 (IntKind.i32.wrap x10_1_1.1.n), .slice none 0 0, .map none] : List Value) ++ po10_1).toArray 242 (0, 0))] :: [(b_19, .cells [ub x10_0.1.s 0, ub x10_0.1.s 1, ub x10_0.1.s 2, ub x10_0.1.s 3, ub x10_0.1.s 4, ub x10_0.1.s 5, ub x10_0.1.s 6, ub x10_0.1.s 7, ub x10_0.1.s 8, ub x10_0.1.s 9, ub x10_0.1.s 10, ub x10_0.1.s 11, ub x10_0.1.s 12, ub x10_0.1.s 13, ub x10_0.1.s 14, ub x10_0.1.s 15].toArray 143 (0, 0))] :: [(g10, .cells ((es10.flatMap fk) ++ ([ub x10_0.1.s 0, ub x10_0.1.s 1, ub x10_0.1.s 2, ub x10_0.1.s 3, ub x10_0.1.s 4, ub x10_0.1.s 5, ub x10_0.1.s 6, ub x10_0.1.s 7, ub x10_0.1.s 8, ub x10_0.1.s 9, ub x10_0.1.s 10, ub x10_0.1.s 11, ub x10_0.1.s 12, ub x10_0.1.s 13, ub x10_0.1.s 14, ub x10_0.1.s 15, .slice none 0 0, .map none] : List Value) ++ po10).toArray 186 (0, 0))] :: [(b, .cells [.int .i16 v, .pointer p0, .pointer p1, .int .i32 (IntKind.i32.wrap x2.1.n), .int .i32 (IntKind.i32.wrap x3.1.n), .int .i32 (IntKind.i32.wrap x4.1.n), .int .i32 (IntKind.i32.wrap x5.1.n), .int .i32 (IntKind.i32.wrap x6.1.n), .int .i32 (IntKind.i32.wrap x7.1.n), .int .i8 (IntKind.i8.wrap x8.1.n), .bool (decide (x9.1.n % 2 = 1)), .slice none 0 0, .slice none 0 0, .map none].toArray 181 (0, 0))] :: L = L' ∧ Row 246 4 a10_1_2 (lT x10_1_2.1).length c10_1_2 (reps [.int .i64 0, .int .i64 0, .slice none 0 0, .map none] (lT x10_1_2.1).length) Nr10_1_2 ∧ a10_1_2.isNone = (if 0 ≤ ((-1) : Int) ∧ (v < ((-1) : Int) ∨ (rArr true x10_1_1.2).1 = 0) then false else decide ((rArr true x10_1_1.2).1 ≤ 0))) ?_ (fun l' H' L' le_25 hI => ?_)
                          · skip
                            refine cd rfl (fun h237 => ?_) (fun h237 => ?_)
                            · skip
                              refine rg ?_
                              refine mv rfl rfl ?_
                              refine mv rfl rfl ?_
                              refine apz (zs := [.int .i64 0, .int .i64 0, .slice none 0 0, .map none]) (m := (lT x10_1_2.1).length) Tryd.underlying240 Tryd.underlying21 I246 rfl rfl rfl (by omega) (by omega) (by have h9 := hnb10_1_2; unfold BR at h9; omega) (by have h9 := hnb10_1_2; unfold BR at h9; unfold maxLen; omega) rfl (fun g240 cp240 N240 r240 => ?_)
                              refine asg rfl rfl ?_
                              refine nN ?_
                              refine drN (.tail .head) ?_
                              refine fun a_ w_ hA hw => ⟨_, _, _, hA.sub ?_, (Fz.le.refl _), hw, (some ⟨g240, 0, none⟩), cp240, N240, rfl, rfl, r240, (by rw [if_neg (by omega)]; exact (decide_eq_false (by omega)).symm)⟩
                              exact (.cons rfl (.cons rfl (.cons rfl (.cons rfl (.cons rfl (.cons rfl (.cons rfl (.cons rfl (.cons rfl (.cons rfl (.cons rfl (.cons rfl (.cons rfl (.cons rfl (.cons rfl (.cons rfl (.cons rfl (.nil _))))))))))))))))))
                            · skip
                              refine skN ?_
                              refine fun a_ w_ hA hw => ⟨_, _, _, hA.sub ?_, (Fz.le.refl _), hw, none, 0, [], rfl, rfl, (by rw [show (lT x10_1_2.1).length = 0 by omega]; exact (Row.nil _ _)), (by rw [if_neg (by omega)]; exact (decide_eq_true (by omega)).symm)⟩
                              exact (.cons rfl (.cons rfl (.cons rfl (.cons rfl (.cons rfl (.cons rfl (.cons rfl (.cons rfl (.cons rfl (.cons rfl (.cons rfl (.cons rfl (.cons rfl (.cons rfl (.cons rfl (.cons (by rw [show (lT x10_1_2.1).length = 0 by omega]; rfl) (.cons rfl (.nil _))))))))))))))))))
                          · skip
                            obtain ⟨a10_1_2, c10_1_2, Nr10_1_2, rfl, rfl, pj0, pj1⟩ := hI
                            have hr10_1_2 := pj0
                            have hi10_1_2 := pj1
                            refine sq ?_
                            refine sr ?_
                            refine asg rfl rfl ?_
                            refine nl ?_
                            refine bl (lp ((lT x10_1_2.1).length) (fun k10_1_2 l' H' L' => ∃ (es10_1_2 : List (KE 4)) (M10_1_2 RN10_1_2 : Chunk), [(7, .pointer (some ⟨b_1, 0, none⟩)), (8, .int .i16 v), (9, .bool (decide ((0 : Int) ≤ v))), (10, .pointer (some ⟨b, 0, none⟩)), (21, .slice none 0 0), (22, .slice a10 (lT x10.1).length c10), (23, .int .i32 (rArr true x9.2).1), (24, .int .i32 (k10 : Int)), (26, .pointer (some ⟨g10, 0 + k10 * 18, none⟩)), (28, .slice none 0 0), (29, .slice a10_1 (lT x10_1.1).length c10_1), (30, .int .i32 (rArr true x10_0.2).1), (31, .int .i32 (k10_1 : Int)), (33, .pointer (some ⟨g10_1, 0 + k10_1 * 4, none⟩)), (36, .slice none 0 0), (37, .slice a10_1_2 (lT x10_1_2.1).length c10_1_2), (38, .int .i32 (rArr true x10_1_1.2).1), (39, .int .i32 (k10_1_2 : Int))] = l' ∧ M10_1_2 :: RN10_1_2 :: [(g10_1, .cells ((es10_1.flatMap fk) ++ ([.int .i32 (IntKind.i32.wrap x10_1_0.1.n), .int .i32 (IntKind.i32.wrap x10_1_1.1.n), .slice none 0 0, .map none] : List Value) ++ po10_1).toArray 242 (0, 0))] :: [(b_19, .cells [ub x10_0.1.s 0, ub x10_0.1.s 1, ub x10_0.1.s 2, ub x10_0.1.s 3, ub x10_0.1.s 4, ub x10_0.1.s 5, ub x10_0.1.s 6, ub x10_0.1.s 7, ub x10_0.1.s 8, ub x10_0.1.s 9, ub x10_0.1.s 10, ub x10_0.1.s 11, ub x10_0.1.s 12, ub x10_0.1.s 13, ub x10_0.1.s 14, ub x10_0.1.s 15].toArray 143 (0, 0))] :: [(g10, .cells ((es10.flatMap fk) ++ ([ub x10_0.1.s 0, ub x10_0.1.s 1, ub x10_0.1.s 2, ub x10_0.1.s 3, ub x10_0.1.s 4, ub x10_0.1.s 5, ub x10_0.1.s 6, ub x10_0.1.s 7, ub x10_0.1.s 8, ub x10_0.1.s 9, ub x10_0.1.s 10, ub x10_0.1.s 11, ub x10_0.1.s 12, ub x10_0.1.s 13, ub x10_0.1.s 14, ub x10_0.1.s 15, .slice none 0 0, .map none] : List Value) ++ po10).toArray 186 (0, 0))] :: [(b, .cells [.int .i16 v, .pointer p0, .pointer p1, .int .i32 (IntKind.i32.wrap x2.1.n), .int .i32 (IntKind.i32.wrap x3.1.n), .int .i32 (IntKind.i32.wrap x4.1.n), .int .i32 (IntKind.i32.wrap x5.1.n), .int .i32 (IntKind.i32.wrap x6.1.n), .int .i32 (IntKind.i32.wrap x7.1.n), .int .i8 (IntKind.i8.wrap x8.1.n), .bool (decide (x9.1.n % 2 = 1)), .slice none 0 0, .slice none 0 0, .map none].toArray 181 (0, 0))] :: L = L' ∧ RdAt H' 193 b_1 (rMany (decV 10 (decP fs_sShareFetchRequestTopicPartitionAcknowledgementBatch v true) false true) k10_1_2 (rArr true x10_1_1.2).2).2 RN10_1_2 ∧ Row 246 4 a10_1_2 (lT x10_1_2.1).length c10_1_2 (es10_1_2.flatMap fk ++ reps [.int .i64 0, .int .i64 0, .slice none 0 0, .map none] ((lT x10_1_2.1).length - k10_1_2)) M10_1_2 ∧ es10_1_2.map (·.2) = (rMany (decV 10 (decP fs_sShareFetchRequestTopicPartitionAcknowledgementBatch v true) false true) k10_1_2 (rArr true x10_1_1.2).2).1 ∧ ∀ p ∈ es10_1_2, At_ShareFetchRequestTopicPartitionAcknowledgementBatch H' p.2 (fk p)) [(7, .pointer (some ⟨b_1, 0, none⟩)), (8, .int .i16 v), (9, .bool (decide ((0 : Int) ≤ v))), (10, .pointer (some ⟨b, 0, none⟩)), (21, .slice none 0 0), (22, .slice a10 (lT x10.1).length c10), (23, .int .i32 (rArr true x9.2).1), (24, .int .i32 (k10 : Int)), (26, .pointer (some ⟨g10, 0 + k10 * 18, none⟩)), (28, .slice none 0 0), (29, .slice a10_1 (lT x10_1.1).length c10_1), (30, .int .i32 (rArr true x10_0.2).1), (31, .int .i32 (k10_1 : Int)), (33, .pointer (some ⟨g10_1, 0 + k10_1 * 4, none⟩)), (36, .slice none 0 0), (37, .slice a10_1_2 (lT x10_1_2.1).length c10_1_2), (38, .int .i32 (rArr true x10_1_1.2).1), (39, .int .i32 (0 : Int))] (.cons rfl (.cons rfl (.cons rfl (.cons rfl (.cons rfl (.cons rfl (.cons rfl (.cons rfl (.cons rfl (.cons rfl (.cons rfl (.cons rfl (.cons rfl (.cons rfl (.cons rfl (.cons rfl (.cons rfl (.cons rfl (.nil _))))))))))))))))))) ⟨[], Nr10_1_2, _, rfl, rfl, (hR229.mono le_25), hr10_1_2, rfl, (fun p hp => by cases hp)⟩ (fun k10_1_2 l' H' L' hk10_1_2 le_26 hI => ?_))
                            obtain ⟨es10_1_2, M10_1_2, RN10_1_2, rfl, rfl, hR_10_1_2, hw_10_1_2, he_10_1_2, hg_10_1_2⟩ := hI
                            have hs_10_1_2 := els_len he_10_1_2
                            have hp_10_1_2 : (es10_1_2.flatMap fk).length = k10_1_2 * 4 := els_flat hs_10_1_2
                            refine sq ?_
                            refine sr ?_
                            refine mv rfl rfl ?_
                            refine mv rfl rfl ?_
                            refine lt rfl rfl rfl ?_
                            refine nl ?_
                            refine cd rfl (fun h243 => ?_) (fun h243 => ?_)
                            · skip
                              have hkl10_1_2 : k10_1_2 < (lT x10_1_2.1).length := by omega
                              obtain ⟨g10_1_2, po10_1_2, hga10_1_2, rfl, hbk10_1_2⟩ := hw_10_1_2.next (zs := [.int .i64 0, .int .i64 0, .slice none 0 0, .map none]) hkl10_1_2 rfl (by decide)
                              have ho10_1_2 : 0 + k10_1_2 * 4 = (es10_1_2.flatMap fk).length := by rw [hp_10_1_2]; omega
                              have hbz10_1_2 : ((decV 10 (decP fs_sShareFetchRequestTopicPartitionAcknowledgementBatch v true) false true) (rMany (decV 10 (decP fs_sShareFetchRequestTopicPartitionAcknowledgementBatch v true) false true) k10_1_2 (rArr true x10_1_1.2).2).2).2.bad = true → (decP fs_ShareFetchRequest v true ⟨s, false, !a.isNone⟩).2.bad = true := fun h => hB10_1_2 (by rw [ex10_1_2]; exact rMany_mono (fun r h => decV_bad (fun r h => decP_bad _ _ _ r h) h) _ (show k10_1_2 + 1 ≤ (lT x10_1_2.1).length from hkl10_1_2) (by rw [rMany_succ]; exact h))
                              have hLk10_1_2 : (rMany (decV 10 (decP fs_sShareFetchRequestTopicPartitionAcknowledgementBatch v true) false true) k10_1_2 (rArr true x10_1_1.2).2).2.s.length ≤ BR := Nat.le_trans (rMany_shr (fun r => decV_shr (fun r => decP_shr _ _ _ r) r) _ _) hm10_1_2
                              have hL10_1_2__ := hLk10_1_2
                              obtain ⟨x10_1_2_0, hx10_1_2_0⟩ : ∃ x, x = stepF (Fd.mk 4 0 (-1) (-1) (-1) 0 0 []) v true (rMany (decV 10 (decP fs_sShareFetchRequestTopicPartitionAcknowledgementBatch v true) false true) k10_1_2 (rArr true x10_1_1.2).2).2 := ⟨_, rfl⟩
                              obtain ⟨x10_1_2_1, hx10_1_2_1⟩ : ∃ x, x = stepF (Fd.mk 4 0 (-1) (-1) (-1) 0 0 []) v true x10_1_2_0.2 := ⟨_, rfl⟩
                              obtain ⟨x10_1_2_2, hx10_1_2_2⟩ : ∃ x, x = stepF (Fd.mk 11 0 (-1) (-1) (-1) 0 1 []) v true x10_1_2_1.2 := ⟨_, rfl⟩
                              obtain ⟨u10_1_2_, hu10_1_2_⟩ : ∃ x, x = tailU true x10_1_2_2.2 := ⟨_, rfl⟩
                              have hD10_1_2_ : decP fs_sShareFetchRequestTopicPartitionAcknowledgementBatch v true (rMany (decV 10 (decP fs_sShareFetchRequestTopicPartitionAcknowledgementBatch v true) false true) k10_1_2 (rArr true x10_1_1.2).2).2 = (.mk 0 [] false [x10_1_2_0.1, x10_1_2_1.1, x10_1_2_2.1] u10_1_2_.1, u10_1_2_.2) := by
                                generalize ((rMany (decV 10 (decP fs_sShareFetchRequestTopicPartitionAcknowledgementBatch v true) false true) k10_1_2 (rArr true x10_1_1.2).2).2 : Rd) = r_ at hx10_1_2_0 ⊢
                                rw [decP_eq]; unfold fs_sShareFetchRequestTopicPartitionAcknowledgementBatch; simp only [decFs_cons, decFs_nil, ← hx10_1_2_0, ← hx10_1_2_1, ← hx10_1_2_2, ← hu10_1_2_]
                              have hL10_1_2_0 : x10_1_2_0.2.s.length ≤ BR := by rw [hx10_1_2_0]; exact Nat.le_trans (stepF_shr _ _ _ _) hL10_1_2__
                              have hL10_1_2_1 : x10_1_2_1.2.s.length ≤ BR := by rw [hx10_1_2_1]; exact Nat.le_trans (stepF_shr _ _ _ _) hL10_1_2_0
                              have hL10_1_2_2 : x10_1_2_2.2.s.length ≤ BR := by rw [hx10_1_2_2]; exact Nat.le_trans (stepF_shr _ _ _ _) hL10_1_2_1
                              have hE10_1_2_ : u10_1_2_.2.bad = true → (decP fs_ShareFetchRequest v true ⟨s, false, !a.isNone⟩).2.bad = true := fun h => hbz10_1_2 (by show (decP fs_sShareFetchRequestTopicPartitionAcknowledgementBatch v true (rMany (decV 10 (decP fs_sShareFetchRequestTopicPartitionAcknowledgementBatch v true) false true) k10_1_2 (rArr true x10_1_1.2).2).2).2.bad = true; rw [hD10_1_2_]; exact h)
                              have hB10_1_2_2 : x10_1_2_2.2.bad = true → (decP fs_ShareFetchRequest v true ⟨s, false, !a.isNone⟩).2.bad = true := fun h => hE10_1_2_ (by rw [hu10_1_2_]; exact tailU_bad h)
                              have hB10_1_2_1 : x10_1_2_1.2.bad = true → (decP fs_ShareFetchRequest v true ⟨s, false, !a.isNone⟩).2.bad = true := fun h => hB10_1_2_2 (by rw [hx10_1_2_2]; exact step_bad h)
                              have hB10_1_2_0 : x10_1_2_0.2.bad = true → (decP fs_ShareFetchRequest v true ⟨s, false, !a.isNone⟩).2.bad = true := fun h => hB10_1_2_1 (by rw [hx10_1_2_1]; exact step_bad h)
                              refine skt ?_
                              refine sq ?_
                              refine bl ?_
                              refine sr ?_
                              refine mv rfl rfl ?_
                              refine mv rfl rfl ?_
                              refine ixk (j := k10_1_2) Tryd.runUnderlying240 Tryd.sizeOf246 rfl hga10_1_2 rfl rfl hkl10_1_2 rfl ?_
                              refine asg rfl rfl ?_
                              refine nl ?_
                              refine sr ?_
                              refine mv rfl rfl ?_
                              refine cl rfl rfl rfl (def_ShareFetchRequestTopicPartitionAcknowledgementBatch ho10_1_2) rfl (fun v_ H1 L1 hle_ hR_ => ?_)
                              obtain ⟨rfl, rfl⟩ := hR_
                              refine nl ?_
                              refine sr ?_
                              refine mv rfl rfl ?_
                              refine asg rfl rfl ?_
                              refine nl ?_
                              refine sq ?_
                              refine sr ?_
                              refine tf (.tail .head) ?_
                              have ex10_1_2_0 : x10_1_2_0 = decV 4 (decP [] v true) false true (rMany (decV 10 (decP fs_sShareFetchRequestTopicPartitionAcknowledgementBatch v true) false true) k10_1_2 (rArr true x10_1_1.2).2).2 := (hx10_1_2_0.trans (step_yes (by decide) (show (0 : Int) ≤ v by omega) (Or.inl (by decide)))).trans (decF'_val (by decide) (rfl))
                              refine cl rfl rfl rfl (d4 hR_10_1_2 ex10_1_2_0) rfl (fun v_ H1 L1 hle_ hR_ => ?_)
                              obtain ⟨N252, rfl, hR252, rfl, rfl⟩ := hR_
                              refine asg rfl rfl ?_
                              refine nl ?_
                              refine rg ?_
                              refine mv rfl rfl ?_
                              refine mv rfl rfl ?_
                              refine nc rfl rfl ?_
                              refine fa F246_0 rfl rfl ?_
                              refine stM (off := 0) Tryd.sizeOf2 rfl (by rw [ho10_1_2]) rfl rfl rfl (.tail .head) ?_
                              refine nl ?_
                              refine sq ?_
                              refine sr ?_
                              have ex10_1_2_1 : x10_1_2_1 = decV 4 (decP [] v true) false true x10_1_2_0.2 := (hx10_1_2_1.trans (step_yes (by decide) (show (0 : Int) ≤ v by omega) (Or.inl (by decide)))).trans (decF'_val (by decide) (rfl))
                              refine cl rfl rfl rfl (d4 hR252 ex10_1_2_1) rfl (fun v_ H1 L1 hle_ hR_ => ?_)
                              obtain ⟨N257, rfl, hR257, rfl, rfl⟩ := hR_
                              refine asg rfl rfl ?_
                              refine nl ?_
                              refine rg ?_
                              refine mv rfl rfl ?_
                              refine mv rfl rfl ?_
                              refine nc rfl rfl ?_
                              refine fa F246_1 rfl rfl ?_
                              refine stM (off := 1) Tryd.sizeOf2 rfl (by rw [ho10_1_2]) rfl rfl rfl (.tail .head) ?_
                              refine nl ?_
                              refine sq ?_
                              refine sr ?_
                              refine mv rfl rfl ?_
                              refine nc rfl rfl ?_
                              refine fa F246_2 rfl rfl ?_
                              refine ld (j := 2) (off := 0 + k10_1_2 * 4) (Says.mid (.tail .head) ho10_1_2) Tryd.isAgg244 rfl rfl rfl rfl ?_
                              refine asg rfl rfl ?_
                              refine nl ?_
                              refine sr ?_
                              refine mv rfl rfl ?_
                              refine asg rfl rfl ?_
                              refine nl ?_
                              refine sr ?_
                              refine asg rfl rfl ?_
                              refine nl ?_
                              refine sq ?_
                              refine sr ?_
                              refine mv rfl rfl ?_
                              refine nl ?_
                              refine cdT rfl (by omega) ?_
                              refine rg ?_
                              have ey10_1_2_2 : x10_1_2_2 = (.mk 0 [] (if 0 ≤ ((-1) : Int) ∧ (v < ((-1) : Int) ∨ (rArr true x10_1_2_1.2).1 = 0) then false else decide ((rArr true x10_1_2_1.2).1 ≤ 0)) (rMany (decV 1 (decP [] v true) false true) (rArr true x10_1_2_1.2).1.toNat (rArr true x10_1_2_1.2).2).1 [], (rMany (decV 1 (decP [] v true) false true) (rArr true x10_1_2_1.2).1.toNat (rArr true x10_1_2_1.2).2).2) := (hx10_1_2_2.trans (step_yes (by decide) (show (0 : Int) ≤ v by omega) (Or.inl (by decide)))).trans (decF'_list rfl rfl)
                              have hn10_1_2_2 : (rArr true x10_1_2_1.2).1.toNat = (lT x10_1_2_2.1).length := by rw [ey10_1_2_2]; exact (lT_many nul_le).symm
                              have ex10_1_2_2 := ey10_1_2_2
                              rw [hn10_1_2_2] at ex10_1_2_2
                              have hl10_1_2_2 := rArr_le true x10_1_2_1.2
                              have hm10_1_2_2 : (rArr true x10_1_2_1.2).2.s.length ≤ BR := Nat.le_trans (rArr_len true x10_1_2_1.2) hL10_1_2_1
                              have hnb10_1_2_2 : (lT x10_1_2_2.1).length ≤ BR := by omega
                              refine cl rfl rfl rfl (r_arrt hR257) rfl (fun v_ H1 L1 hle_ hR_ => ?_)
                              obtain ⟨rfl, N268, rfl, hR268, rfl⟩ := hR_
                              have hh10_1_2_2 := rArr_hi true x10_1_2_1.2
                              refine asg rfl rfl ?_
                              refine nl ?_
                              refine sq ?_
                              refine sr ?_
                              refine cl rfl rfl rfl (r_ok hR268) rfl (fun v_ H1 L1 hle_ hR_ => ?_)
                              obtain ⟨rfl, rfl, rfl⟩ := hR_
                              refine nt rfl rfl ?_
                              refine nl ?_
                              refine cb rfl (fun h271 => ?_) (fun h271 => ?_)
                              · skip
                                have hbad_ : (rArr true x10_1_2_1.2).2.bad = true := by simpa using h271
                                refine sr ?_
                                refine cl rfl rfl rfl (r_complete hR268 (he.mono (le_2.trans (le_3.trans (le_8.trans (le_10.trans (le_12.trans (le_14.trans (le_16.trans (le_17.trans (le_20.trans (le_21.trans (le_23.trans (le_25.trans le_26)))))))))))))) rfl (fun v_ H1 L1 hle_ hR_ => ?_)
                                obtain ⟨rfl, rfl, rfl⟩ := hR_
                                refine asg rfl rfl ?_
                                refine nl ?_
                                refine drW .head ?_
                                refine drW .head ?_
                                refine drW .head ?_
                                refine drW .head ?_
                                refine drW .head ?_
                                exact rT rfl rfl (le_2.trans (le_3.trans (le_8.trans (le_10.trans (le_12.trans (le_14.trans (le_16.trans (le_17.trans (le_20.trans (le_21.trans (le_23.trans (le_25.trans le_26)))))))))))) (fun _ _ h => h) ⟨_, rfl, RdEnd.out (hB10_1_2_2 (by rw [ey10_1_2_2]; exact rMany_bad (fun r h => decV_bad (decP_bad _ _ _) h) _ _ hbad_)) hbad_⟩
                              · skip
                                refine skt ?_
                                refine sr ?_
                                refine mv rfl rfl ?_
                                refine sh' (j := 0) Tryd.runUnderlying244 Tryd.sizeOf126 rfl rfl rfl (Nat.zero_le _) rfl ?_
                                refine asg rfl rfl ?_
                                refine nl ?_
                                refine sq ?_
                                refine sr ?_
                                refine mv rfl rfl ?_
                                refine gt rfl rfl rfl ?_
                                refine nl ?_
                                refine nulC2 ?_
                                refine cutT (fun l' H' L' => ∃ (a10_1_2_2 : Option Addr), ∃ (c10_1_2_2 : Nat), ∃ (Nr10_1_2_2 : Chunk), [(7, .pointer (some ⟨b_1, 0, none⟩)), (8, .int .i16 v), (9, .bool (decide ((0 : Int) ≤ v))), (10, .pointer (some ⟨b, 0, none⟩)), (21, .slice none 0 0), (22, .slice a10 (lT x10.1).length c10), (23, .int .i32 (rArr true x9.2).1), (24, .int .i32 (k10 : Int)), (26, .pointer (some ⟨g10, 0 + k10 * 18, none⟩)), (28, .slice none 0 0), (29, .slice a10_1 (lT x10_1.1).length c10_1), (30, .int .i32 (rArr true x10_0.2).1), (31, .int .i32 (k10_1 : Int)), (33, .pointer (some ⟨g10_1, 0 + k10_1 * 4, none⟩)), (36, .slice none 0 0), (37, .slice a10_1_2 (lT x10_1_2.1).length c10_1_2), (38, .int .i32 (rArr true x10_1_1.2).1), (39, .int .i32 (k10_1_2 : Int)), (41, .pointer (some ⟨g10_1_2, 0 + k10_1_2 * 4, none⟩)), (44, .slice none 0 0), (45, .slice a10_1_2_2 (lT x10_1_2_2.1).length c10_1_2_2), (46, .int .i32 (rArr true x10_1_2_1.2).1)] = l' ∧ Nr10_1_2_2 :: N268 :: [(g10_1_2, .cells ((es10_1_2.flatMap fk) ++ ([.int .i64 x10_1_2_0.1.n, .int .i64 x10_1_2_1.1.n, .slice none 0 0, .map none] : List Value) ++ po10_1_2).toArray 246 (0, 0))] :: [(g10_1, .cells ((es10_1.flatMap fk) ++ ([.int .i32 (IntKind.i32.wrap x10_1_0.1.n), .int .i32 (IntKind.i32.wrap x10_1_1.1.n), .slice none 0 0, .map none] : List Value) ++ po10_1).toArray 242 (0, 0))] :: [(b_19, .cells [ub x10_0.1.s 0, ub x10_0.1.s 1, ub x10_0.1.s 2, ub x10_0.1.s 3, ub x10_0.1.s 4, ub x10_0.1.s 5, ub x10_0.1.s 6, ub x10_0.1.s 7, ub x10_0.1.s 8, ub x10_0.1.s 9, ub x10_0.1.s 10, ub x10_0.1.s 11, ub x10_0.1.s 12, ub x10_0.1.s 13, ub x10_0.1.s 14, ub x10_0.1.s 15].toArray 143 (0, 0))] :: [(g10, .cells ((es10.flatMap fk) ++ ([ub x10_0.1.s 0, ub x10_0.1.s 1, ub x10_0.1.s 2, ub x10_0.1.s 3, ub x10_0.1.s 4, ub x10_0.1.s 5, ub x10_0.1.s 6, ub x10_0.1.s 7, ub x10_0.1.s 8, ub x10_0.1.s 9, ub x10_0.1.s 10, ub x10_0.1.s 11, ub x10_0.1.s 12, ub x10_0.1.s 13, ub x10_0.1.s 14, ub x10_0.1.s 15, .slice none 0 0, .map none] : List Value) ++ po10).toArray 186 (0, 0))] :: [(b, .cells [.int .i16 v, .pointer p0, .pointer p1, .int .i32 (IntKind.i32.wrap x2.1.n), .int .i32 (IntKind.i32.wrap x3.1.n), .int .i32 (IntKind.i32.wrap x4.1.n), .int .i32 (IntKind.i32.wrap x5.1.n), .int .i32 (IntKind.i32.wrap x6.1.n), .int .i32 (IntKind.i32.wrap x7.1.n), .int .i8 (IntKind.i8.wrap x8.1.n), .bool (decide (x9.1.n % 2 = 1)), .slice none 0 0, .slice none 0 0, .map none].toArray 181 (0, 0))] :: L = L' ∧ Row 126 1 a10_1_2_2 (lT x10_1_2_2.1).length c10_1_2_2 (reps [.int .i8 0] (lT x10_1_2_2.1).length) Nr10_1_2_2 ∧ a10_1_2_2.isNone = (if 0 ≤ ((-1) : Int) ∧ (v < ((-1) : Int) ∨ (rArr true x10_1_2_1.2).1 = 0) then false else decide ((rArr true x10_1_2_1.2).1 ≤ 0))) ?_ (fun l' H' L' le_29 hI => ?_)
                                · skip
                                  refine cd rfl (fun h276 => ?_) (fun h276 => ?_)
                                  · skip
                                    refine rg ?_
                                    refine mv rfl rfl ?_
                                    refine mv rfl rfl ?_
                                    refine apz (zs := [.int .i8 0]) (m := (lT x10_1_2_2.1).length) Tryd.underlying244 Tryd.underlying21 I126 rfl rfl rfl (by omega) (by omega) (by have h9 := hnb10_1_2_2; unfold BR at h9; omega) (by have h9 := hnb10_1_2_2; unfold BR at h9; unfold maxLen; omega) rfl (fun g279 cp279 N279 r279 => ?_)
                                    refine asg rfl rfl ?_
                                    refine nN ?_
                                    refine drN (.tail .head) ?_
                                    refine fun a_ w_ hA hw => ⟨_, _, _, hA.sub ?_, (Fz.le.refl _), hw, (some ⟨g279, 0, none⟩), cp279, N279, rfl, rfl, r279, (by rw [if_neg (by omega)]; exact (decide_eq_false (by omega)).symm)⟩
                                    exact (.cons rfl (.cons rfl (.cons rfl (.cons rfl (.cons rfl (.cons rfl (.cons rfl (.cons rfl (.cons rfl (.cons rfl (.cons rfl (.cons rfl (.cons rfl (.cons rfl (.cons rfl (.cons rfl (.cons rfl (.cons rfl (.cons rfl (.cons rfl (.cons rfl (.cons rfl (.nil _)))))))))))))))))))))))
                                  · skip
                                    refine skN ?_
                                    refine fun a_ w_ hA hw => ⟨_, _, _, hA.sub ?_, (Fz.le.refl _), hw, none, 0, [], rfl, rfl, (by rw [show (lT x10_1_2_2.1).length = 0 by omega]; exact (Row.nil _ _)), (by rw [if_neg (by omega)]; exact (decide_eq_true (by omega)).symm)⟩
                                    exact (.cons rfl (.cons rfl (.cons rfl (.cons rfl (.cons rfl (.cons rfl (.cons rfl (.cons rfl (.cons rfl (.cons rfl (.cons rfl (.cons rfl (.cons rfl (.cons rfl (.cons rfl (.cons rfl (.cons rfl (.cons rfl (.cons rfl (.cons rfl (.cons (by rw [show (lT x10_1_2_2.1).length = 0 by omega]; rfl) (.cons rfl (.nil _)))))))))))))))))))))))
                                · skip
                                  obtain ⟨a10_1_2_2, c10_1_2_2, Nr10_1_2_2, rfl, rfl, pj0, pj1⟩ := hI
                                  have hr10_1_2_2 := pj0
                                  have hi10_1_2_2 := pj1
                                  refine sq ?_
                                  refine sr ?_
                                  refine asg rfl rfl ?_
                                  refine nl ?_
                                  refine bl (lp ((lT x10_1_2_2.1).length) (fun k10_1_2_2 l' H' L' => ∃ (es10_1_2_2 : List (KE 1)) (M10_1_2_2 RN10_1_2_2 : Chunk), [(7, .pointer (some ⟨b_1, 0, none⟩)), (8, .int .i16 v), (9, .bool (decide ((0 : Int) ≤ v))), (10, .pointer (some ⟨b, 0, none⟩)), (21, .slice none 0 0), (22, .slice a10 (lT x10.1).length c10), (23, .int .i32 (rArr true x9.2).1), (24, .int .i32 (k10 : Int)), (26, .pointer (some ⟨g10, 0 + k10 * 18, none⟩)), (28, .slice none 0 0), (29, .slice a10_1 (lT x10_1.1).length c10_1), (30, .int .i32 (rArr true x10_0.2).1), (31, .int .i32 (k10_1 : Int)), (33, .pointer (some ⟨g10_1, 0 + k10_1 * 4, none⟩)), (36, .slice none 0 0), (37, .slice a10_1_2 (lT x10_1_2.1).length c10_1_2), (38, .int .i32 (rArr true x10_1_1.2).1), (39, .int .i32 (k10_1_2 : Int)), (41, .pointer (some ⟨g10_1_2, 0 + k10_1_2 * 4, none⟩)), (44, .slice none 0 0), (45, .slice a10_1_2_2 (lT x10_1_2_2.1).length c10_1_2_2), (46, .int .i32 (rArr true x10_1_2_1.2).1), (47, .int .i32 (k10_1_2_2 : Int))] = l' ∧ M10_1_2_2 :: RN10_1_2_2 :: [(g10_1_2, .cells ((es10_1_2.flatMap fk) ++ ([.int .i64 x10_1_2_0.1.n, .int .i64 x10_1_2_1.1.n, .slice none 0 0, .map none] : List Value) ++ po10_1_2).toArray 246 (0, 0))] :: [(g10_1, .cells ((es10_1.flatMap fk) ++ ([.int .i32 (IntKind.i32.wrap x10_1_0.1.n), .int .i32 (IntKind.i32.wrap x10_1_1.1.n), .slice none 0 0, .map none] : List Value) ++ po10_1).toArray 242 (0, 0))] :: [(b_19, .cells [ub x10_0.1.s 0, ub x10_0.1.s 1, ub x10_0.1.s 2, ub x10_0.1.s 3, ub x10_0.1.s 4, ub x10_0.1.s 5, ub x10_0.1.s 6, ub x10_0.1.s 7, ub x10_0.1.s 8, ub x10_0.1.s 9, ub x10_0.1.s 10, ub x10_0.1.s 11, ub x10_0.1.s 12, ub x10_0.1.s 13, ub x10_0.1.s 14, ub x10_0.1.s 15].toArray 143 (0, 0))] :: [(g10, .cells ((es10.flatMap fk) ++ ([ub x10_0.1.s 0, ub x10_0.1.s 1, ub x10_0.1.s 2, ub x10_0.1.s 3, ub x10_0.1.s 4, ub x10_0.1.s 5, ub x10_0.1.s 6, ub x10_0.1.s 7, ub x10_0.1.s 8, ub x10_0.1.s 9, ub x10_0.1.s 10, ub x10_0.1.s 11, ub x10_0.1.s 12, ub x10_0.1.s 13, ub x10_0.1.s 14, ub x10_0.1.s 15, .slice none 0 0, .map none] : List Value) ++ po10).toArray 186 (0, 0))] :: [(b, .cells [.int .i16 v, .pointer p0, .pointer p1, .int .i32 (IntKind.i32.wrap x2.1.n), .int .i32 (IntKind.i32.wrap x3.1.n), .int .i32 (IntKind.i32.wrap x4.1.n), .int .i32 (IntKind.i32.wrap x5.1.n), .int .i32 (IntKind.i32.wrap x6.1.n), .int .i32 (IntKind.i32.wrap x7.1.n), .int .i8 (IntKind.i8.wrap x8.1.n), .bool (decide (x9.1.n % 2 = 1)), .slice none 0 0, .slice none 0 0, .map none].toArray 181 (0, 0))] :: L = L' ∧ RdAt H' 193 b_1 (rMany (decV 1 (decP [] v true) false true) k10_1_2_2 (rArr true x10_1_2_1.2).2).2 RN10_1_2_2 ∧ Row 126 1 a10_1_2_2 (lT x10_1_2_2.1).length c10_1_2_2 (es10_1_2_2.flatMap fk ++ reps [.int .i8 0] ((lT x10_1_2_2.1).length - k10_1_2_2)) M10_1_2_2 ∧ es10_1_2_2.map (·.2) = (rMany (decV 1 (decP [] v true) false true) k10_1_2_2 (rArr true x10_1_2_1.2).2).1 ∧ ∀ p ∈ es10_1_2_2, RI8 H' p.2 (fk p)) [(7, .pointer (some ⟨b_1, 0, none⟩)), (8, .int .i16 v), (9, .bool (decide ((0 : Int) ≤ v))), (10, .pointer (some ⟨b, 0, none⟩)), (21, .slice none 0 0), (22, .slice a10 (lT x10.1).length c10), (23, .int .i32 (rArr true x9.2).1), (24, .int .i32 (k10 : Int)), (26, .pointer (some ⟨g10, 0 + k10 * 18, none⟩)), (28, .slice none 0 0), (29, .slice a10_1 (lT x10_1.1).length c10_1), (30, .int .i32 (rArr true x10_0.2).1), (31, .int .i32 (k10_1 : Int)), (33, .pointer (some ⟨g10_1, 0 + k10_1 * 4, none⟩)), (36, .slice none 0 0), (37, .slice a10_1_2 (lT x10_1_2.1).length c10_1_2), (38, .int .i32 (rArr true x10_1_1.2).1), (39, .int .i32 (k10_1_2 : Int)), (41, .pointer (some ⟨g10_1_2, 0 + k10_1_2 * 4, none⟩)), (44, .slice none 0 0), (45, .slice a10_1_2_2 (lT x10_1_2_2.1).length c10_1_2_2), (46, .int .i32 (rArr true x10_1_2_1.2).1), (47, .int .i32 (0 : Int))] (.cons rfl (.cons rfl (.cons rfl (.cons rfl (.cons rfl (.cons rfl (.cons rfl (.cons rfl (.cons rfl (.cons rfl (.cons rfl (.cons rfl (.cons rfl (.cons rfl (.cons rfl (.cons rfl (.cons rfl (.cons rfl (.cons rfl (.cons rfl (.cons rfl (.cons rfl (.cons rfl (.nil _)))))))))))))))))))))))) ⟨[], Nr10_1_2_2, _, rfl, rfl, (hR268.mono le_29), hr10_1_2_2, rfl, (fun p hp => by cases hp)⟩ (fun k10_1_2_2 l' H' L' hk10_1_2_2 le_30 hI => ?_))
                                  obtain ⟨es10_1_2_2, M10_1_2_2, RN10_1_2_2, rfl, rfl, hR_10_1_2_2, hw_10_1_2_2, he_10_1_2_2, hg_10_1_2_2⟩ := hI
                                  have hs_10_1_2_2 := els_len he_10_1_2_2
                                  have hp_10_1_2_2 : (es10_1_2_2.flatMap fk).length = k10_1_2_2 * 1 := els_flat hs_10_1_2_2
                                  refine sq ?_
                                  refine sr ?_
                                  refine mv rfl rfl ?_
                                  refine mv rfl rfl ?_
                                  refine lt rfl rfl rfl ?_
                                  refine nl ?_
                                  refine cd rfl (fun h282 => ?_) (fun h282 => ?_)
                                  · skip
                                    have hkl10_1_2_2 : k10_1_2_2 < (lT x10_1_2_2.1).length := by omega
                                    obtain ⟨g10_1_2_2, po10_1_2_2, hga10_1_2_2, rfl, hbk10_1_2_2⟩ := hw_10_1_2_2.next (zs := [.int .i8 0]) hkl10_1_2_2 rfl (by decide)
                                    have ho10_1_2_2 : 0 + k10_1_2_2 * 1 = (es10_1_2_2.flatMap fk).length := by rw [hp_10_1_2_2]; omega
                                    have hbz10_1_2_2 : ((decV 1 (decP [] v true) false true) (rMany (decV 1 (decP [] v true) false true) k10_1_2_2 (rArr true x10_1_2_1.2).2).2).2.bad = true → (decP fs_ShareFetchRequest v true ⟨s, false, !a.isNone⟩).2.bad = true := fun h => hB10_1_2_2 (by rw [ex10_1_2_2]; exact rMany_mono (fun r h => decV_bad (fun r h => decP_bad _ _ _ r h) h) _ (show k10_1_2_2 + 1 ≤ (lT x10_1_2_2.1).length from hkl10_1_2_2) (by rw [rMany_succ]; exact h))
                                    have hLk10_1_2_2 : (rMany (decV 1 (decP [] v true) false true) k10_1_2_2 (rArr true x10_1_2_1.2).2).2.s.length ≤ BR := Nat.le_trans (rMany_shr (fun r => decV_shr (fun r => decP_shr _ _ _ r) r) _ _) hm10_1_2_2
                                    obtain ⟨y10_1_2_2, hy10_1_2_2⟩ : ∃ x, x = (decV 1 (decP [] v true) false true) (rMany (decV 1 (decP [] v true) false true) k10_1_2_2 (rArr true x10_1_2_1.2).2).2 := ⟨_, rfl⟩
                                    refine skt ?_
                                    refine sq ?_
                                    refine bl ?_
                                    refine sr ?_
                                    refine tf (.tail .head) ?_
                                    refine cl rfl rfl rfl (d1 hR_10_1_2_2 hy10_1_2_2) rfl (fun v_ H1 L1 hle_ hR_ => ?_)
                                    obtain ⟨N285, rfl, hR285, rfl, rfl⟩ := hR_
                                    refine asg rfl rfl ?_
                                    refine nl ?_
                                    refine rg ?_
                                    refine mv rfl rfl ?_
                                    refine mv rfl rfl ?_
                                    refine mv rfl rfl ?_
                                    refine ixk (j := k10_1_2_2) Tryd.runUnderlying244 Tryd.sizeOf126 rfl hga10_1_2_2 rfl rfl hkl10_1_2_2 rfl ?_
                                    refine stM (off := 0) Tryd.sizeOf126 rfl ho10_1_2_2 rfl rfl rfl (.tail .head) ?_
                                    refine nN ?_
                                    refine Nb ?_
                                    refine Nt ?_
                                    refine rg ?_
                                    refine mv rfl rfl ?_
                                    refine ad rfl rfl (c := ((k10_1_2_2 + 1 : Nat) : Int)) ((wrap32_le (by omega) (by omega)).trans (by omega)) rfl ?_
                                    refine asg rfl rfl ?_
                                    refine nN ?_
                                    have hfs10_1_2_2 := flatMap_snoc' fk es10_1_2_2 ((⟨([.int .i8 (IntKind.i8.wrap y10_1_2_2.1.n)] : List Value), rfl, all_one rfl⟩, ((decV 1 (decP [] v true) false true) (rMany (decV 1 (decP [] v true) false true) k10_1_2_2 (rArr true x10_1_2_1.2).2).2).1) : KE 1)
                                    have hrw10_1_2_2 := hbk10_1_2_2 ([.int .i8 (IntKind.i8.wrap y10_1_2_2.1.n)] : List Value) rfl
                                    refine tfN (.tail .head) ?_
                                    refine fun a_ w_ hA hw => ⟨hkl10_1_2_2, _, _, _, hA.sub ?_, le_30, hw, _, _, _, rfl, rfl, (by rw [rMany_succ, ← hy10_1_2_2]; exact hR285), (by rw [← hfs10_1_2_2]; exact hrw10_1_2_2), (dec_els he_10_1_2_2), (fun p hp => (mem_snoc hp).elim (fun h => RI8.mono _ _ _ _ (Fz.le.refl _) (hg_10_1_2_2 p h)) (fun h => h ▸ (by show RI8 _ ((decV 1 (decP [] v true) false true) (rMany (decV 1 (decP [] v true) false true) k10_1_2_2 (rArr true x10_1_2_1.2).2).2).1 [.int .i8 (IntKind.i8.wrap y10_1_2_2.1.n)]; rw [← hy10_1_2_2]; rfl)))⟩
                                    exact (.cons rfl (.cons rfl (.cons rfl (.cons rfl (.cons rfl (.cons rfl (.cons rfl (.cons rfl (.cons rfl (.cons rfl (.cons rfl (.cons rfl (.cons rfl (.cons rfl (.cons rfl (.cons rfl (.cons rfl (.cons rfl (.cons rfl (.cons rfl (.cons rfl (.cons rfl (.cons rfl (.nil _))))))))))))))))))))))))
                                  · skip
                                    have hkn_ : k10_1_2_2 = (lT x10_1_2_2.1).length := by omega
                                    subst hkn_
                                    have hw2_10_1_2_2 : Row 126 1 a10_1_2_2 (lT x10_1_2_2.1).length c10_1_2_2 (es10_1_2_2.flatMap fk) M10_1_2_2 := by have h := hw_10_1_2_2; rw [Nat.sub_self] at h; simpa [reps] using h
                                    refine frW hw2_10_1_2_2 .head (fun Hf10_1_2_2 hlf10_1_2_2 hfz10_1_2_2 => ?_)
                                    have hrs10_1_2_2 := RowsAt.row (R := RI8) hfz10_1_2_2 hs_10_1_2_2.symm hw2_10_1_2_2.le.1 (fun p hp => RI8.mono _ _ _ _ hlf10_1_2_2 (hg_10_1_2_2 p hp))
                                    rw [he_10_1_2_2] at hrs10_1_2_2
                                    have hf10_1_2_2 : ListAt Hf10_1_2_2 x10_1_2_2.1 1 RI8 a10_1_2_2 c10_1_2_2 := by rw [ex10_1_2_2]; exact listAt_of hrs10_1_2_2 hi10_1_2_2 (fun h => by have h1 := nul_le h; rw [show (lT x10_1_2_2.1).length = 0 by omega]; rfl)
                                    have hRx10_1_2_2 : RdAt Hf10_1_2_2 193 b_1 x10_1_2_2.2 RN10_1_2_2 := by rw [ex10_1_2_2]; exact (hR_10_1_2_2.mono hlf10_1_2_2)
                                    refine exX ?_
                                    refine XT ?_
                                    refine XT ?_
                                    refine Xb ?_
                                    refine Nt ?_
                                    refine sr ?_
                                    refine mv rfl rfl ?_
                                    refine asg rfl rfl ?_
                                    refine nl ?_
                                    refine rg ?_
                                    refine mv rfl rfl ?_
                                    refine mv rfl rfl ?_
                                    refine nc rfl rfl ?_
                                    refine fa F246_2 rfl rfl ?_
                                    refine stM (off := 2) Tryd.sizeOf244 rfl (by rw [ho10_1_2]) rfl rfl rfl (.tail .head) ?_
                                    refine nl ?_
                                    refine sr ?_
                                    refine mv rfl rfl ?_
                                    refine nl ?_
                                    refine cdT rfl (by omega) ?_
                                    refine rg ?_
                                    refine mv rfl rfl ?_
                                    refine cl rfl rfl rfl (d_tags hRx10_1_2_2) rfl (fun v_ H1 L1 le_32 hR_ => ?_)
                                    obtain ⟨N297, rfl, hR297, m10_1_2_t, rfl, hft10_1_2_⟩ := hR_
                                    have hu210_1_2_ : u10_1_2_ = rTags x10_1_2_2.2 := hu10_1_2_
                                    rw [← hu210_1_2_] at hR297 hft10_1_2_
                                    refine nc rfl rfl ?_
                                    refine fa F246_3 rfl rfl ?_
                                    refine saM (off := 3) Tryd.sizeOf99 rfl (by rw [ho10_1_2]) rfl rfl rfl rfl (.tail .head) ?_
                                    refine nN ?_
                                    refine Nb ?_
                                    refine Nt ?_
                                    refine rg ?_
                                    refine mv rfl rfl ?_
                                    refine ad rfl rfl (c := ((k10_1_2 + 1 : Nat) : Int)) ((wrap32_le (by omega) (by omega)).trans (by omega)) rfl ?_
                                    refine asg rfl rfl ?_
                                    refine nN ?_
                                    have hfs10_1_2 := flatMap_snoc' fk es10_1_2 ((⟨([.int .i64 x10_1_2_0.1.n, .int .i64 x10_1_2_1.1.n, .slice a10_1_2_2 (lT x10_1_2_2.1).length c10_1_2_2, .map m10_1_2_t] : List Value), rfl, all_one rfl⟩, ((decV 10 (decP fs_sShareFetchRequestTopicPartitionAcknowledgementBatch v true) false true) (rMany (decV 10 (decP fs_sShareFetchRequestTopicPartitionAcknowledgementBatch v true) false true) k10_1_2 (rArr true x10_1_1.2).2).2).1) : KE 4)
                                    have hrw10_1_2 := hbk10_1_2 ([.int .i64 x10_1_2_0.1.n, .int .i64 x10_1_2_1.1.n, .slice a10_1_2_2 (lT x10_1_2_2.1).length c10_1_2_2, .map m10_1_2_t] : List Value) rfl
                                    refine tfN (.tail .head) ?_
                                    refine fun a_ w_ hA hw => ⟨hkl10_1_2, _, _, _, hA.sub ?_, (le_26.trans (le_29.trans (le_30.trans (hlf10_1_2_2.trans le_32)))), hw, _, _, _, rfl, rfl, (by rw [rMany_succ]; show RdAt _ 193 b_1 (decP fs_sShareFetchRequestTopicPartitionAcknowledgementBatch v true (rMany (decV 10 (decP fs_sShareFetchRequestTopicPartitionAcknowledgementBatch v true) false true) k10_1_2 (rArr true x10_1_1.2).2).2).2 _; rw [hD10_1_2_]; exact hR297), (by rw [← hfs10_1_2]; exact hrw10_1_2), (dec_els he_10_1_2), (fun p hp => (mem_snoc hp).elim (fun h => At_ShareFetchRequestTopicPartitionAcknowledgementBatch.mono _ _ _ _ (le_29.trans (le_30.trans (hlf10_1_2_2.trans le_32))) (hg_10_1_2 p h)) (fun h => h ▸ (by show At_ShareFetchRequestTopicPartitionAcknowledgementBatch _ (decP fs_sShareFetchRequestTopicPartitionAcknowledgementBatch v true (rMany (decV 10 (decP fs_sShareFetchRequestTopicPartitionAcknowledgementBatch v true) false true) k10_1_2 (rArr true x10_1_1.2).2).2).1 [.int .i64 x10_1_2_0.1.n, .int .i64 x10_1_2_1.1.n, .slice a10_1_2_2 (lT x10_1_2_2.1).length c10_1_2_2, .map m10_1_2_t]; rw [hD10_1_2_]; exact ⟨a10_1_2_2, c10_1_2_2, m10_1_2_t, rfl, (hf10_1_2_2.mono RI8.mono le_32), hft10_1_2_⟩)))⟩
                                    exact (.cons rfl (.cons rfl (.cons rfl (.cons rfl (.cons rfl (.cons rfl (.cons rfl (.cons rfl (.cons rfl (.cons rfl (.cons rfl (.cons rfl (.cons rfl (.cons rfl (.cons rfl (.cons rfl (.cons rfl (.cons rfl (.nil _)))))))))))))))))))
                            · skip
                              have hkn_ : k10_1_2 = (lT x10_1_2.1).length := by omega
                              subst hkn_
                              have hw2_10_1_2 : Row 246 4 a10_1_2 (lT x10_1_2.1).length c10_1_2 (es10_1_2.flatMap fk) M10_1_2 := by have h := hw_10_1_2; rw [Nat.sub_self] at h; simpa [reps] using h
                              refine frW hw2_10_1_2 .head (fun Hf10_1_2 hlf10_1_2 hfz10_1_2 => ?_)
                              have hrs10_1_2 := RowsAt.row (R := At_ShareFetchRequestTopicPartitionAcknowledgementBatch) hfz10_1_2 hs_10_1_2.symm hw2_10_1_2.le.1 (fun p hp => At_ShareFetchRequestTopicPartitionAcknowledgementBatch.mono _ _ _ _ hlf10_1_2 (hg_10_1_2 p hp))
                              rw [he_10_1_2] at hrs10_1_2
                              have hf10_1_2 : ListAt Hf10_1_2 x10_1_2.1 4 At_ShareFetchRequestTopicPartitionAcknowledgementBatch a10_1_2 c10_1_2 := by rw [ex10_1_2]; exact listAt_of hrs10_1_2 hi10_1_2 (fun h => by have h1 := nul_le h; rw [show (lT x10_1_2.1).length = 0 by omega]; rfl)
                              have hRx10_1_2 : RdAt Hf10_1_2 193 b_1 x10_1_2.2 RN10_1_2 := by rw [ex10_1_2]; exact (hR_10_1_2.mono hlf10_1_2)
                              refine exX ?_
                              refine XT ?_
                              refine XT ?_
                              refine Xb ?_
                              refine Nt ?_
                              refine sr ?_
                              refine mv rfl rfl ?_
                              refine asg rfl rfl ?_
                              refine nl ?_
                              refine rg ?_
                              refine mv rfl rfl ?_
                              refine mv rfl rfl ?_
                              refine nc rfl rfl ?_
                              refine fa F242_2 rfl rfl ?_
                              refine stM (off := 2) Tryd.sizeOf240 rfl (by rw [ho10_1]) rfl rfl rfl (.tail .head) ?_
                              refine nl ?_
                              refine sr ?_
                              refine mv rfl rfl ?_
                              refine nl ?_
                              refine cdT rfl (by omega) ?_
                              refine rg ?_
                              refine mv rfl rfl ?_
                              refine cl rfl rfl rfl (d_tags hRx10_1_2) rfl (fun v_ H1 L1 le_33 hR_ => ?_)
                              obtain ⟨N307, rfl, hR307, m10_1_t, rfl, hft10_1_⟩ := hR_
                              have hu210_1_ : u10_1_ = rTags x10_1_2.2 := hu10_1_
                              rw [← hu210_1_] at hR307 hft10_1_
                              refine nc rfl rfl ?_
                              refine fa F242_3 rfl rfl ?_
                              refine saM (off := 3) Tryd.sizeOf99 rfl (by rw [ho10_1]) rfl rfl rfl rfl (.tail .head) ?_
                              refine nN ?_
                              refine Nb ?_
                              refine Nt ?_
                              refine rg ?_
                              refine mv rfl rfl ?_
                              refine ad rfl rfl (c := ((k10_1 + 1 : Nat) : Int)) ((wrap32_le (by omega) (by omega)).trans (by omega)) rfl ?_
                              refine asg rfl rfl ?_
                              refine nN ?_
                              have hfs10_1 := flatMap_snoc' fk es10_1 ((⟨([.int .i32 (IntKind.i32.wrap x10_1_0.1.n), .int .i32 (IntKind.i32.wrap x10_1_1.1.n), .slice a10_1_2 (lT x10_1_2.1).length c10_1_2, .map m10_1_t] : List Value), rfl, all_one rfl⟩, ((decV 10 (decP fs_sShareFetchRequestTopicPartition v true) false true) (rMany (decV 10 (decP fs_sShareFetchRequestTopicPartition v true) false true) k10_1 (rArr true x10_0.2).2).2).1) : KE 4)
                              have hrw10_1 := hbk10_1 ([.int .i32 (IntKind.i32.wrap x10_1_0.1.n), .int .i32 (IntKind.i32.wrap x10_1_1.1.n), .slice a10_1_2 (lT x10_1_2.1).length c10_1_2, .map m10_1_t] : List Value) rfl
                              refine tfN (.tail .head) ?_
                              refine fun a_ w_ hA hw => ⟨hkl10_1, _, _, _, hA.sub ?_, (le_21.trans (le_23.trans (le_25.trans (le_26.trans (hlf10_1_2.trans le_33))))), hw, _, _, _, rfl, rfl, (by rw [rMany_succ]; show RdAt _ 193 b_1 (decP fs_sShareFetchRequestTopicPartition v true (rMany (decV 10 (decP fs_sShareFetchRequestTopicPartition v true) false true) k10_1 (rArr true x10_0.2).2).2).2 _; rw [hD10_1_]; exact hR307), (by rw [← hfs10_1]; exact hrw10_1), (dec_els he_10_1), (fun p hp => (mem_snoc hp).elim (fun h => At_ShareFetchRequestTopicPartition.mono _ _ _ _ (le_23.trans (le_25.trans (le_26.trans (hlf10_1_2.trans le_33)))) (hg_10_1 p h)) (fun h => h ▸ (by show At_ShareFetchRequestTopicPartition _ (decP fs_sShareFetchRequestTopicPartition v true (rMany (decV 10 (decP fs_sShareFetchRequestTopicPartition v true) false true) k10_1 (rArr true x10_0.2).2).2).1 [.int .i32 (IntKind.i32.wrap x10_1_0.1.n), .int .i32 (IntKind.i32.wrap x10_1_1.1.n), .slice a10_1_2 (lT x10_1_2.1).length c10_1_2, .map m10_1_t]; rw [hD10_1_]; exact ⟨a10_1_2, c10_1_2, m10_1_t, rfl, (hf10_1_2.mono At_ShareFetchRequestTopicPartitionAcknowledgementBatch.mono le_33), hft10_1_⟩)))⟩
                              exact (.cons rfl (.cons rfl (.cons rfl (.cons rfl (.cons rfl (.cons rfl (.cons rfl (.cons rfl (.cons rfl (.cons rfl (.cons rfl (.cons rfl (.cons rfl (.nil _))))))))))))))
                    · skip
                      have hkn_ : k10_1 = (lT x10_1.1).length := by omega
                      subst hkn_
                      have hw2_10_1 : Row 242 4 a10_1 (lT x10_1.1).length c10_1 (es10_1.flatMap fk) M10_1 := by have h := hw_10_1; rw [Nat.sub_self] at h; simpa [reps] using h
                      refine frW hw2_10_1 .head (fun Hf10_1 hlf10_1 hfz10_1 => ?_)
                      have hrs10_1 := RowsAt.row (R := At_ShareFetchRequestTopicPartition) hfz10_1 hs_10_1.symm hw2_10_1.le.1 (fun p hp => At_ShareFetchRequestTopicPartition.mono _ _ _ _ hlf10_1 (hg_10_1 p hp))
                      rw [he_10_1] at hrs10_1
                      have hf10_1 : ListAt Hf10_1 x10_1.1 4 At_ShareFetchRequestTopicPartition a10_1 c10_1 := by rw [ex10_1]; exact listAt_of hrs10_1 hi10_1 (fun h => by have h1 := nul_le h; rw [show (lT x10_1.1).length = 0 by omega]; rfl)
                      have hRx10_1 : RdAt Hf10_1 193 b_1 x10_1.2 RN10_1 := by rw [ex10_1]; exact (hR_10_1.mono hlf10_1)
                      refine exX ?_
                      refine XT ?_
                      refine XT ?_
                      refine Xb ?_
                      refine Nt ?_
                      refine sr ?_
                      refine mv rfl rfl ?_
                      refine asg rfl rfl ?_
                      refine nl ?_
                      refine rg ?_
                      refine mv rfl rfl ?_
                      refine mv rfl rfl ?_
                      refine nc rfl rfl ?_
                      refine fa F186_1 rfl rfl ?_
                      refine stM (off := 16) Tryd.sizeOf184 rfl (by rw [ho10]) rfl rfl rfl (.tail (.tail .head)) ?_
                      refine nl ?_
                      refine sr ?_
                      refine mv rfl rfl ?_
                      refine nl ?_
                      refine cdT rfl (by omega) ?_
                      refine rg ?_
                      refine mv rfl rfl ?_
                      refine cl rfl rfl rfl (d_tags hRx10_1) rfl (fun v_ H1 L1 le_34 hR_ => ?_)
                      obtain ⟨N317, rfl, hR317, m10_t, rfl, hft10_⟩ := hR_
                      have hu210_ : u10_ = rTags x10_1.2 := hu10_
                      rw [← hu210_] at hR317 hft10_
                      refine nc rfl rfl ?_
                      refine fa F186_2 rfl rfl ?_
                      refine saM (off := 17) Tryd.sizeOf99 rfl (by rw [ho10]) rfl rfl rfl rfl (.tail (.tail .head)) ?_
                      refine nN ?_
                      refine Nb ?_
                      refine Nt ?_
                      refine rg ?_
                      refine mv rfl rfl ?_
                      refine ad rfl rfl (c := ((k10 + 1 : Nat) : Int)) ((wrap32_le (by omega) (by omega)).trans (by omega)) rfl ?_
                      refine asg rfl rfl ?_
                      refine nN ?_
                      have hfs10 := flatMap_snoc' fk es10 ((⟨([ub x10_0.1.s 0, ub x10_0.1.s 1, ub x10_0.1.s 2, ub x10_0.1.s 3, ub x10_0.1.s 4, ub x10_0.1.s 5, ub x10_0.1.s 6, ub x10_0.1.s 7, ub x10_0.1.s 8, ub x10_0.1.s 9, ub x10_0.1.s 10, ub x10_0.1.s 11, ub x10_0.1.s 12, ub x10_0.1.s 13, ub x10_0.1.s 14, ub x10_0.1.s 15, .slice a10_1 (lT x10_1.1).length c10_1, .map m10_t] : List Value), rfl, all_one rfl⟩, ((decV 10 (decP fs_sShareFetchRequestTopic v true) false true) (rMany (decV 10 (decP fs_sShareFetchRequestTopic v true) false true) k10 (rArr true x9.2).2).2).1) : KE 18)
                      have hrw10 := hbk10 ([ub x10_0.1.s 0, ub x10_0.1.s 1, ub x10_0.1.s 2, ub x10_0.1.s 3, ub x10_0.1.s 4, ub x10_0.1.s 5, ub x10_0.1.s 6, ub x10_0.1.s 7, ub x10_0.1.s 8, ub x10_0.1.s 9, ub x10_0.1.s 10, ub x10_0.1.s 11, ub x10_0.1.s 12, ub x10_0.1.s 13, ub x10_0.1.s 14, ub x10_0.1.s 15, .slice a10_1 (lT x10_1.1).length c10_1, .map m10_t] : List Value) rfl
                      refine drN (.tail .head) ?_
                      refine tfN (.tail .head) ?_
                      refine fun a_ w_ hA hw => ⟨hkl10, _, _, _, hA.sub ?_, (le_17.trans (le_20.trans (le_21.trans (hlf10_1.trans le_34)))), hw, _, _, _, rfl, rfl, (by rw [rMany_succ]; show RdAt _ 193 b_1 (decP fs_sShareFetchRequestTopic v true (rMany (decV 10 (decP fs_sShareFetchRequestTopic v true) false true) k10 (rArr true x9.2).2).2).2 _; rw [hD10_]; exact hR317), (by rw [← hfs10]; exact hrw10), (dec_els he_10), (fun p hp => (mem_snoc hp).elim (fun h => At_ShareFetchRequestTopic.mono _ _ _ _ (le_20.trans (le_21.trans (hlf10_1.trans le_34))) (hg_10 p h)) (fun h => h ▸ (by show At_ShareFetchRequestTopic _ (decP fs_sShareFetchRequestTopic v true (rMany (decV 10 (decP fs_sShareFetchRequestTopic v true) false true) k10 (rArr true x9.2).2).2).1 [ub x10_0.1.s 0, ub x10_0.1.s 1, ub x10_0.1.s 2, ub x10_0.1.s 3, ub x10_0.1.s 4, ub x10_0.1.s 5, ub x10_0.1.s 6, ub x10_0.1.s 7, ub x10_0.1.s 8, ub x10_0.1.s 9, ub x10_0.1.s 10, ub x10_0.1.s 11, ub x10_0.1.s 12, ub x10_0.1.s 13, ub x10_0.1.s 14, ub x10_0.1.s 15, .slice a10_1 (lT x10_1.1).length c10_1, .map m10_t]; rw [hD10_]; exact ⟨a10_1, c10_1, m10_t, rfl, (hf10_1.mono At_ShareFetchRequestTopicPartition.mono le_34), hft10_⟩)))⟩
                      exact (.cons rfl (.cons rfl (.cons rfl (.cons rfl (.cons rfl (.cons rfl (.cons rfl (.cons rfl (.nil _)))))))))
              · skip
                have hkn_ : k10 = (lT x10.1).length := by omega
                subst hkn_
                have hw2_10 : Row 186 18 a10 (lT x10.1).length c10 (es10.flatMap fk) M10 := by have h := hw_10; rw [Nat.sub_self] at h; simpa [reps] using h
                refine frW hw2_10 .head (fun Hf10 hlf10 hfz10 => ?_)
                have hrs10 := RowsAt.row (R := At_ShareFetchRequestTopic) hfz10 hs_10.symm hw2_10.le.1 (fun p hp => At_ShareFetchRequestTopic.mono _ _ _ _ hlf10 (hg_10 p hp))
                rw [he_10] at hrs10
                have hf10 : ListAt Hf10 x10.1 18 At_ShareFetchRequestTopic a10 c10 := by rw [ex10]; exact listAt_of hrs10 hi10 (fun h => by have h1 := nul_le h; rw [show (lT x10.1).length = 0 by omega]; rfl)
                have hRx10 : RdAt Hf10 193 b_1 x10.2 RN10 := by rw [ex10]; exact (hR_10.mono hlf10)
                refine exX ?_
                refine XT ?_
                refine XT ?_
                refine Xb ?_
                refine Nt ?_
                refine sr ?_
                refine mv rfl rfl ?_
                refine asg rfl rfl ?_
                refine nl ?_
                refine rg ?_
                refine mv rfl rfl ?_
                refine mv rfl rfl ?_
                refine nc rfl rfl ?_
                refine fa0 F181_11 rfl rfl ?_
                refine st Tryd.sizeOf178 rfl rfl rfl rfl (.tail .head) ?_
                refine nl ?_
                refine sq ?_
                refine sr ?_
                refine mv rfl rfl ?_
                refine nc rfl rfl ?_
                refine fa0 F181_12 rfl rfl ?_
                refine ld (Says.own (.tail .head)) Tryd.isAgg179 rfl (Nat.zero_add _).symm rfl rfl ?_
                refine asg rfl rfl ?_
                refine nl ?_
                refine sr ?_
                refine mv rfl rfl ?_
                refine asg rfl rfl ?_
                refine nl ?_
                refine sr ?_
                refine asg rfl rfl ?_
                refine nl ?_
                refine sq ?_
                refine sr ?_
                refine mv rfl rfl ?_
                refine nl ?_
                refine cdT rfl (by omega) ?_
                refine rg ?_
                have ey11 : x11 = (.mk 0 [] (if 0 ≤ ((-1) : Int) ∧ (v < ((-1) : Int) ∨ (rArr true x10.2).1 = 0) then false else decide ((rArr true x10.2).1 ≤ 0)) (rMany (decV 10 (decP fs_sShareFetchRequestForgottenTopicsData v true) false true) (rArr true x10.2).1.toNat (rArr true x10.2).2).1 [], (rMany (decV 10 (decP fs_sShareFetchRequestForgottenTopicsData v true) false true) (rArr true x10.2).1.toNat (rArr true x10.2).2).2) := (hx11.trans (step_yes (by decide) (show (0 : Int) ≤ v by omega) (Or.inl (by decide)))).trans (decF'_list rfl rfl)
                have hn11 : (rArr true x10.2).1.toNat = (lT x11.1).length := by rw [ey11]; exact (lT_many nul_le).symm
                have ex11 := ey11
                rw [hn11] at ex11
                have hl11 := rArr_le true x10.2
                have hm11 : (rArr true x10.2).2.s.length ≤ BR := Nat.le_trans (rArr_len true x10.2) hL10
                have hnb11 : (lT x11.1).length ≤ BR := by omega
                refine cl rfl rfl rfl (r_arrt hRx10) rfl (fun v_ H1 L1 hle_ hR_ => ?_)
                obtain ⟨rfl, N331, rfl, hR331, rfl⟩ := hR_
                have hh11 := rArr_hi true x10.2
                refine asg rfl rfl ?_
                refine nl ?_
                refine sq ?_
                refine sr ?_
                refine cl rfl rfl rfl (r_ok hR331) rfl (fun v_ H1 L1 hle_ hR_ => ?_)
                obtain ⟨rfl, rfl, rfl⟩ := hR_
                refine nt rfl rfl ?_
                refine nl ?_
                refine cb rfl (fun h334 => ?_) (fun h334 => ?_)
                · skip
                  have hbad_ : (rArr true x10.2).2.bad = true := by simpa using h334
                  refine sr ?_
                  refine cl rfl rfl rfl (r_complete hR331 (he.mono (le_2.trans (le_3.trans (le_8.trans (le_10.trans (le_12.trans (le_14.trans (le_16.trans (le_17.trans hlf10)))))))))) rfl (fun v_ H1 L1 hle_ hR_ => ?_)
                  obtain ⟨rfl, rfl, rfl⟩ := hR_
                  refine asg rfl rfl ?_
                  refine nl ?_
                  refine drW .head ?_
                  exact rT rfl rfl (le_2.trans (le_3.trans (le_8.trans (le_10.trans (le_12.trans (le_14.trans (le_16.trans (le_17.trans hlf10)))))))) (fun _ _ h => h) ⟨_, rfl, RdEnd.out (hB11 (by rw [ey11]; exact rMany_bad (fun r h => decV_bad (decP_bad _ _ _) h) _ _ hbad_)) hbad_⟩
                · skip
                  refine skt ?_
                  refine sr ?_
                  refine mv rfl rfl ?_
                  refine sh' (j := 0) Tryd.runUnderlying179 Tryd.sizeOf191 rfl rfl rfl (Nat.zero_le _) rfl ?_
                  refine asg rfl rfl ?_
                  refine nl ?_
                  refine sq ?_
                  refine sr ?_
                  refine mv rfl rfl ?_
                  refine gt rfl rfl rfl ?_
                  refine nl ?_
                  refine nulC2 ?_
                  refine cutT (fun l' H' L' => ∃ (a11 : Option Addr), ∃ (c11 : Nat), ∃ (Nr11 : Chunk), [(7, .pointer (some ⟨b_1, 0, none⟩)), (9, .bool (decide ((0 : Int) ≤ v))), (10, .pointer (some ⟨b, 0, none⟩)), (49, .slice none 0 0), (50, .slice a11 (lT x11.1).length c11), (51, .int .i32 (rArr true x10.2).1)] = l' ∧ Nr11 :: N331 :: [(b, .cells [.int .i16 v, .pointer p0, .pointer p1, .int .i32 (IntKind.i32.wrap x2.1.n), .int .i32 (IntKind.i32.wrap x3.1.n), .int .i32 (IntKind.i32.wrap x4.1.n), .int .i32 (IntKind.i32.wrap x5.1.n), .int .i32 (IntKind.i32.wrap x6.1.n), .int .i32 (IntKind.i32.wrap x7.1.n), .int .i8 (IntKind.i8.wrap x8.1.n), .bool (decide (x9.1.n % 2 = 1)), .slice a10 (lT x10.1).length c10, .slice none 0 0, .map none].toArray 181 (0, 0))] :: L = L' ∧ Row 191 18 a11 (lT x11.1).length c11 (reps [.int .u8 0, .int .u8 0, .int .u8 0, .int .u8 0, .int .u8 0, .int .u8 0, .int .u8 0, .int .u8 0, .int .u8 0, .int .u8 0, .int .u8 0, .int .u8 0, .int .u8 0, .int .u8 0, .int .u8 0, .int .u8 0, .slice none 0 0, .map none] (lT x11.1).length) Nr11 ∧ a11.isNone = (if 0 ≤ ((-1) : Int) ∧ (v < ((-1) : Int) ∨ (rArr true x10.2).1 = 0) then false else decide ((rArr true x10.2).1 ≤ 0))) ?_ (fun l' H' L' le_35 hI => ?_)
                  · skip
                    refine cd rfl (fun h339 => ?_) (fun h339 => ?_)
                    · skip
                      refine rg ?_
                      refine mv rfl rfl ?_
                      refine mv rfl rfl ?_
                      refine apz (zs := [.int .u8 0, .int .u8 0, .int .u8 0, .int .u8 0, .int .u8 0, .int .u8 0, .int .u8 0, .int .u8 0, .int .u8 0, .int .u8 0, .int .u8 0, .int .u8 0, .int .u8 0, .int .u8 0, .int .u8 0, .int .u8 0, .slice none 0 0, .map none]) (m := (lT x11.1).length) Tryd.underlying179 Tryd.underlying21 I191 rfl rfl rfl (by omega) (by omega) (by have h9 := hnb11; unfold BR at h9; omega) (by have h9 := hnb11; unfold BR at h9; unfold maxLen; omega) rfl (fun g342 cp342 N342 r342 => ?_)
                      refine asg rfl rfl ?_
                      refine nN ?_
                      refine drN (.tail .head) ?_
                      refine fun a_ w_ hA hw => ⟨_, _, _, hA.sub ?_, (Fz.le.refl _), hw, (some ⟨g342, 0, none⟩), cp342, N342, rfl, rfl, r342, (by rw [if_neg (by omega)]; exact (decide_eq_false (by omega)).symm)⟩
                      exact (.cons rfl (.cons rfl (.cons rfl (.cons rfl (.cons rfl (.cons rfl (.nil _)))))))
                    · skip
                      refine skN ?_
                      refine fun a_ w_ hA hw => ⟨_, _, _, hA.sub ?_, (Fz.le.refl _), hw, none, 0, [], rfl, rfl, (by rw [show (lT x11.1).length = 0 by omega]; exact (Row.nil _ _)), (by rw [if_neg (by omega)]; exact (decide_eq_true (by omega)).symm)⟩
                      exact (.cons rfl (.cons rfl (.cons rfl (.cons rfl (.cons (by rw [show (lT x11.1).length = 0 by omega]; rfl) (.cons rfl (.nil _)))))))
                  · skip
                    obtain ⟨a11, c11, Nr11, rfl, rfl, pj0, pj1⟩ := hI
                    have hr11 := pj0
                    have hi11 := pj1
                    refine sq ?_
                    refine sr ?_
                    refine asg rfl rfl ?_
                    refine nl ?_
                    refine bl (lp ((lT x11.1).length) (fun k11 l' H' L' => ∃ (es11 : List (KE 18)) (M11 RN11 : Chunk), [(7, .pointer (some ⟨b_1, 0, none⟩)), (9, .bool (decide ((0 : Int) ≤ v))), (10, .pointer (some ⟨b, 0, none⟩)), (49, .slice none 0 0), (50, .slice a11 (lT x11.1).length c11), (51, .int .i32 (rArr true x10.2).1), (52, .int .i32 (k11 : Int))] = l' ∧ M11 :: RN11 :: [(b, .cells [.int .i16 v, .pointer p0, .pointer p1, .int .i32 (IntKind.i32.wrap x2.1.n), .int .i32 (IntKind.i32.wrap x3.1.n), .int .i32 (IntKind.i32.wrap x4.1.n), .int .i32 (IntKind.i32.wrap x5.1.n), .int .i32 (IntKind.i32.wrap x6.1.n), .int .i32 (IntKind.i32.wrap x7.1.n), .int .i8 (IntKind.i8.wrap x8.1.n), .bool (decide (x9.1.n % 2 = 1)), .slice a10 (lT x10.1).length c10, .slice none 0 0, .map none].toArray 181 (0, 0))] :: L = L' ∧ RdAt H' 193 b_1 (rMany (decV 10 (decP fs_sShareFetchRequestForgottenTopicsData v true) false true) k11 (rArr true x10.2).2).2 RN11 ∧ Row 191 18 a11 (lT x11.1).length c11 (es11.flatMap fk ++ reps [.int .u8 0, .int .u8 0, .int .u8 0, .int .u8 0, .int .u8 0, .int .u8 0, .int .u8 0, .int .u8 0, .int .u8 0, .int .u8 0, .int .u8 0, .int .u8 0, .int .u8 0, .int .u8 0, .int .u8 0, .int .u8 0, .slice none 0 0, .map none] ((lT x11.1).length - k11)) M11 ∧ es11.map (·.2) = (rMany (decV 10 (decP fs_sShareFetchRequestForgottenTopicsData v true) false true) k11 (rArr true x10.2).2).1 ∧ ∀ p ∈ es11, At_ShareFetchRequestForgottenTopicsData H' p.2 (fk p)) [(7, .pointer (some ⟨b_1, 0, none⟩)), (9, .bool (decide ((0 : Int) ≤ v))), (10, .pointer (some ⟨b, 0, none⟩)), (49, .slice none 0 0), (50, .slice a11 (lT x11.1).length c11), (51, .int .i32 (rArr true x10.2).1), (52, .int .i32 (0 : Int))] (.cons rfl (.cons rfl (.cons rfl (.cons rfl (.cons rfl (.cons rfl (.cons rfl (.nil _)))))))) ⟨[], Nr11, _, rfl, rfl, (hR331.mono le_35), hr11, rfl, (fun p hp => by cases hp)⟩ (fun k11 l' H' L' hk11 le_36 hI => ?_))
                    obtain ⟨es11, M11, RN11, rfl, rfl, hR_11, hw_11, he_11, hg_11⟩ := hI
                    have hs_11 := els_len he_11
                    have hp_11 : (es11.flatMap fk).length = k11 * 18 := els_flat hs_11
                    refine sq ?_
                    refine sr ?_
                    refine mv rfl rfl ?_
                    refine mv rfl rfl ?_
                    refine lt rfl rfl rfl ?_
                    refine nl ?_
                    refine cd rfl (fun h345 => ?_) (fun h345 => ?_)
                    · skip
                      have hkl11 : k11 < (lT x11.1).length := by omega
                      obtain ⟨g11, po11, hga11, rfl, hbk11⟩ := hw_11.next (zs := [.int .u8 0, .int .u8 0, .int .u8 0, .int .u8 0, .int .u8 0, .int .u8 0, .int .u8 0, .int .u8 0, .int .u8 0, .int .u8 0, .int .u8 0, .int .u8 0, .int .u8 0, .int .u8 0, .int .u8 0, .int .u8 0, .slice none 0 0, .map none]) hkl11 rfl (by decide)
                      have ho11 : 0 + k11 * 18 = (es11.flatMap fk).length := by rw [hp_11]; omega
                      have hbz11 : ((decV 10 (decP fs_sShareFetchRequestForgottenTopicsData v true) false true) (rMany (decV 10 (decP fs_sShareFetchRequestForgottenTopicsData v true) false true) k11 (rArr true x10.2).2).2).2.bad = true → (decP fs_ShareFetchRequest v true ⟨s, false, !a.isNone⟩).2.bad = true := fun h => hB11 (by rw [ex11]; exact rMany_mono (fun r h => decV_bad (fun r h => decP_bad _ _ _ r h) h) _ (show k11 + 1 ≤ (lT x11.1).length from hkl11) (by rw [rMany_succ]; exact h))
                      have hLk11 : (rMany (decV 10 (decP fs_sShareFetchRequestForgottenTopicsData v true) false true) k11 (rArr true x10.2).2).2.s.length ≤ BR := Nat.le_trans (rMany_shr (fun r => decV_shr (fun r => decP_shr _ _ _ r) r) _ _) hm11
                      have hL11__ := hLk11
                      obtain ⟨x11_0, hx11_0⟩ : ∃ x, x = stepF (Fd.mk 7 0 (-1) (-1) (-1) 0 0 []) v true (rMany (decV 10 (decP fs_sShareFetchRequestForgottenTopicsData v true) false true) k11 (rArr true x10.2).2).2 := ⟨_, rfl⟩
                      obtain ⟨x11_1, hx11_1⟩ : ∃ x, x = stepF (Fd.mk 11 0 (-1) (-1) (-1) 0 3 []) v true x11_0.2 := ⟨_, rfl⟩
                      obtain ⟨u11_, hu11_⟩ : ∃ x, x = tailU true x11_1.2 := ⟨_, rfl⟩
                      have hD11_ : decP fs_sShareFetchRequestForgottenTopicsData v true (rMany (decV 10 (decP fs_sShareFetchRequestForgottenTopicsData v true) false true) k11 (rArr true x10.2).2).2 = (.mk 0 [] false [x11_0.1, x11_1.1] u11_.1, u11_.2) := by
                        generalize ((rMany (decV 10 (decP fs_sShareFetchRequestForgottenTopicsData v true) false true) k11 (rArr true x10.2).2).2 : Rd) = r_ at hx11_0 ⊢
                        rw [decP_eq]; unfold fs_sShareFetchRequestForgottenTopicsData; simp only [decFs_cons, decFs_nil, ← hx11_0, ← hx11_1, ← hu11_]
                      have hL11_0 : x11_0.2.s.length ≤ BR := by rw [hx11_0]; exact Nat.le_trans (stepF_shr _ _ _ _) hL11__
                      have hL11_1 : x11_1.2.s.length ≤ BR := by rw [hx11_1]; exact Nat.le_trans (stepF_shr _ _ _ _) hL11_0
                      have hE11_ : u11_.2.bad = true → (decP fs_ShareFetchRequest v true ⟨s, false, !a.isNone⟩).2.bad = true := fun h => hbz11 (by show (decP fs_sShareFetchRequestForgottenTopicsData v true (rMany (decV 10 (decP fs_sShareFetchRequestForgottenTopicsData v true) false true) k11 (rArr true x10.2).2).2).2.bad = true; rw [hD11_]; exact h)
                      have hB11_1 : x11_1.2.bad = true → (decP fs_ShareFetchRequest v true ⟨s, false, !a.isNone⟩).2.bad = true := fun h => hE11_ (by rw [hu11_]; exact tailU_bad h)
                      have hB11_0 : x11_0.2.bad = true → (decP fs_ShareFetchRequest v true ⟨s, false, !a.isNone⟩).2.bad = true := fun h => hB11_1 (by rw [hx11_1]; exact step_bad h)
                      refine skt ?_
                      refine sq ?_
                      refine bl ?_
                      refine sr ?_
                      refine mv rfl rfl ?_
                      refine mv rfl rfl ?_
                      refine ixk (j := k11) Tryd.runUnderlying179 Tryd.sizeOf191 rfl hga11 rfl rfl hkl11 rfl ?_
                      refine asg rfl rfl ?_
                      refine nl ?_
                      refine sr ?_
                      refine mv rfl rfl ?_
                      refine cl rfl rfl rfl (def_ShareFetchRequestForgottenTopicsData ho11) rfl (fun v_ H1 L1 hle_ hR_ => ?_)
                      obtain ⟨rfl, rfl⟩ := hR_
                      refine nl ?_
                      refine sr ?_
                      refine mv rfl rfl ?_
                      refine asg rfl rfl ?_
                      refine nl ?_
                      refine sq ?_
                      refine sr ?_
                      refine tf (.tail .head) ?_
                      have ex11_0 : x11_0 = decV 7 (decP [] v true) false true (rMany (decV 10 (decP fs_sShareFetchRequestForgottenTopicsData v true) false true) k11 (rArr true x10.2).2).2 := (hx11_0.trans (step_yes (by decide) (show (0 : Int) ≤ v by omega) (Or.inl (by decide)))).trans (decF'_val (by decide) (rfl))
                      refine cl rfl rfl rfl (d7 hR_11 ex11_0) rfl (fun v_ H1 L1 hle_ hR_ => ?_)
                      obtain ⟨N354, rfl, hR354, rfl, rfl⟩ := hR_
                      refine al Tryd.zeroValue143 rfl rfl (fun b_38 => ?_)
                      refine sa Tryd.sizeOf143 rfl rfl rfl rfl rfl .head ?_
                      refine nl ?_
                      refine rg ?_
                      refine mv rfl rfl ?_
                      refine la (Says.own .head) Tryd.isAgg143 Tryd.sizeOf143 rfl (Nat.zero_add _).symm rfl rfl ?_
                      refine nc rfl rfl ?_
                      refine fa F191_0 rfl rfl ?_
                      refine saM (off := 0) Tryd.sizeOf143 rfl (by rw [ho11]) rfl rfl rfl rfl (.tail (.tail .head)) ?_
                      refine nl ?_
                      refine sq ?_
                      refine sr ?_
                      refine mv rfl rfl ?_
                      refine nc rfl rfl ?_
                      refine fa F191_1 rfl rfl ?_
                      refine ld (j := 16) (off := 0 + k11 * 18) (Says.mid (.tail (.tail .head)) ho11) Tryd.isAgg189 rfl rfl rfl rfl ?_
                      refine asg rfl rfl ?_
                      refine nl ?_
                      refine sr ?_
                      refine mv rfl rfl ?_
                      refine asg rfl rfl ?_
                      refine nl ?_
                      refine sr ?_
                      refine asg rfl rfl ?_
                      refine nl ?_
                      refine sq ?_
                      refine sr ?_
                      refine mv rfl rfl ?_
                      refine nl ?_
                      refine cdT rfl (by omega) ?_
                      refine rg ?_
                      have ey11_1 : x11_1 = (.mk 0 [] (if 0 ≤ ((-1) : Int) ∧ (v < ((-1) : Int) ∨ (rArr true x11_0.2).1 = 0) then false else decide ((rArr true x11_0.2).1 ≤ 0)) (rMany (decV 3 (decP [] v true) false true) (rArr true x11_0.2).1.toNat (rArr true x11_0.2).2).1 [], (rMany (decV 3 (decP [] v true) false true) (rArr true x11_0.2).1.toNat (rArr true x11_0.2).2).2) := (hx11_1.trans (step_yes (by decide) (show (0 : Int) ≤ v by omega) (Or.inl (by decide)))).trans (decF'_list rfl rfl)
                      have hn11_1 : (rArr true x11_0.2).1.toNat = (lT x11_1.1).length := by rw [ey11_1]; exact (lT_many nul_le).symm
                      have ex11_1 := ey11_1
                      rw [hn11_1] at ex11_1
                      have hl11_1 := rArr_le true x11_0.2
                      have hm11_1 : (rArr true x11_0.2).2.s.length ≤ BR := Nat.le_trans (rArr_len true x11_0.2) hL11_0
                      have hnb11_1 : (lT x11_1.1).length ≤ BR := by omega
                      refine tf (.tail .head) ?_
                      refine cl rfl rfl rfl (r_arrt hR354) rfl (fun v_ H1 L1 hle_ hR_ => ?_)
                      obtain ⟨rfl, N365, rfl, hR365, rfl⟩ := hR_
                      have hh11_1 := rArr_hi true x11_0.2
                      refine asg rfl rfl ?_
                      refine nl ?_
                      refine sq ?_
                      refine sr ?_
                      refine cl rfl rfl rfl (r_ok hR365) rfl (fun v_ H1 L1 hle_ hR_ => ?_)
                      obtain ⟨rfl, rfl, rfl⟩ := hR_
                      refine nt rfl rfl ?_
                      refine nl ?_
                      refine cb rfl (fun h368 => ?_) (fun h368 => ?_)
                      · skip
                        have hbad_ : (rArr true x11_0.2).2.bad = true := by simpa using h368
                        refine sr ?_
                        refine cl rfl rfl rfl (r_complete hR365 (he.mono (le_2.trans (le_3.trans (le_8.trans (le_10.trans (le_12.trans (le_14.trans (le_16.trans (le_17.trans (hlf10.trans (le_35.trans le_36)))))))))))) rfl (fun v_ H1 L1 hle_ hR_ => ?_)
                        obtain ⟨rfl, rfl, rfl⟩ := hR_
                        refine asg rfl rfl ?_
                        refine nl ?_
                        refine drW .head ?_
                        refine drW .head ?_
                        refine drW .head ?_
                        exact rT rfl rfl (le_2.trans (le_3.trans (le_8.trans (le_10.trans (le_12.trans (le_14.trans (le_16.trans (le_17.trans (hlf10.trans (le_35.trans le_36)))))))))) (fun _ _ h => h) ⟨_, rfl, RdEnd.out (hB11_1 (by rw [ey11_1]; exact rMany_bad (fun r h => decV_bad (decP_bad _ _ _) h) _ _ hbad_)) hbad_⟩
                      · skip
                        refine skt ?_
                        refine sr ?_
                        refine mv rfl rfl ?_
                        refine sh' (j := 0) Tryd.runUnderlying189 Tryd.sizeOf21 rfl rfl rfl (Nat.zero_le _) rfl ?_
                        refine asg rfl rfl ?_
                        refine nl ?_
                        refine sq ?_
                        refine sr ?_
                        refine mv rfl rfl ?_
                        refine gt rfl rfl rfl ?_
                        refine nl ?_
                        refine nulC2 ?_
                        refine cutT (fun l' H' L' => ∃ (a11_1 : Option Addr), ∃ (c11_1 : Nat), ∃ (Nr11_1 : Chunk), [(7, .pointer (some ⟨b_1, 0, none⟩)), (9, .bool (decide ((0 : Int) ≤ v))), (10, .pointer (some ⟨b, 0, none⟩)), (49, .slice none 0 0), (50, .slice a11 (lT x11.1).length c11), (51, .int .i32 (rArr true x10.2).1), (52, .int .i32 (k11 : Int)), (54, .pointer (some ⟨g11, 0 + k11 * 18, none⟩)), (56, .slice none 0 0), (57, .slice a11_1 (lT x11_1.1).length c11_1), (58, .int .i32 (rArr true x11_0.2).1)] = l' ∧ Nr11_1 :: N365 :: [(b_38, .cells [ub x11_0.1.s 0, ub x11_0.1.s 1, ub x11_0.1.s 2, ub x11_0.1.s 3, ub x11_0.1.s 4, ub x11_0.1.s 5, ub x11_0.1.s 6, ub x11_0.1.s 7, ub x11_0.1.s 8, ub x11_0.1.s 9, ub x11_0.1.s 10, ub x11_0.1.s 11, ub x11_0.1.s 12, ub x11_0.1.s 13, ub x11_0.1.s 14, ub x11_0.1.s 15].toArray 143 (0, 0))] :: [(g11, .cells ((es11.flatMap fk) ++ ([ub x11_0.1.s 0, ub x11_0.1.s 1, ub x11_0.1.s 2, ub x11_0.1.s 3, ub x11_0.1.s 4, ub x11_0.1.s 5, ub x11_0.1.s 6, ub x11_0.1.s 7, ub x11_0.1.s 8, ub x11_0.1.s 9, ub x11_0.1.s 10, ub x11_0.1.s 11, ub x11_0.1.s 12, ub x11_0.1.s 13, ub x11_0.1.s 14, ub x11_0.1.s 15, .slice none 0 0, .map none] : List Value) ++ po11).toArray 191 (0, 0))] :: [(b, .cells [.int .i16 v, .pointer p0, .pointer p1, .int .i32 (IntKind.i32.wrap x2.1.n), .int .i32 (IntKind.i32.wrap x3.1.n), .int .i32 (IntKind.i32.wrap x4.1.n), .int .i32 (IntKind.i32.wrap x5.1.n), .int .i32 (IntKind.i32.wrap x6.1.n), .int .i32 (IntKind.i32.wrap x7.1.n), .int .i8 (IntKind.i8.wrap x8.1.n), .bool (decide (x9.1.n % 2 = 1)), .slice a10 (lT x10.1).length c10, .slice none 0 0, .map none].toArray 181 (0, 0))] :: L = L' ∧ Row 21 1 a11_1 (lT x11_1.1).length c11_1 (reps [.int .i32 0] (lT x11_1.1).length) Nr11_1 ∧ a11_1.isNone = (if 0 ≤ ((-1) : Int) ∧ (v < ((-1) : Int) ∨ (rArr true x11_0.2).1 = 0) then false else decide ((rArr true x11_0.2).1 ≤ 0))) ?_ (fun l' H' L' le_39 hI => ?_)
                        · skip
                          refine cd rfl (fun h373 => ?_) (fun h373 => ?_)
                          · skip
                            refine rg ?_
                            refine mv rfl rfl ?_
                            refine mv rfl rfl ?_
                            refine apz (zs := [.int .i32 0]) (m := (lT x11_1.1).length) Tryd.underlying189 Tryd.underlying21 I21 rfl rfl rfl (by omega) (by omega) (by have h9 := hnb11_1; unfold BR at h9; omega) (by have h9 := hnb11_1; unfold BR at h9; unfold maxLen; omega) rfl (fun g376 cp376 N376 r376 => ?_)
                            refine asg rfl rfl ?_
                            refine nN ?_
                            refine drN (.tail .head) ?_
                            refine fun a_ w_ hA hw => ⟨_, _, _, hA.sub ?_, (Fz.le.refl _), hw, (some ⟨g376, 0, none⟩), cp376, N376, rfl, rfl, r376, (by rw [if_neg (by omega)]; exact (decide_eq_false (by omega)).symm)⟩
                            exact (.cons rfl (.cons rfl (.cons rfl (.cons rfl (.cons rfl (.cons rfl (.cons rfl (.cons rfl (.cons rfl (.cons rfl (.cons rfl (.nil _))))))))))))
                          · skip
                            refine skN ?_
                            refine fun a_ w_ hA hw => ⟨_, _, _, hA.sub ?_, (Fz.le.refl _), hw, none, 0, [], rfl, rfl, (by rw [show (lT x11_1.1).length = 0 by omega]; exact (Row.nil _ _)), (by rw [if_neg (by omega)]; exact (decide_eq_true (by omega)).symm)⟩
                            exact (.cons rfl (.cons rfl (.cons rfl (.cons rfl (.cons rfl (.cons rfl (.cons rfl (.cons rfl (.cons rfl (.cons (by rw [show (lT x11_1.1).length = 0 by omega]; rfl) (.cons rfl (.nil _))))))))))))
                        · skip
                          obtain ⟨a11_1, c11_1, Nr11_1, rfl, rfl, pj0, pj1⟩ := hI
                          have hr11_1 := pj0
                          have hi11_1 := pj1
                          refine sq ?_
                          refine sr ?_
                          refine asg rfl rfl ?_
                          refine nl ?_
                          refine bl (lp ((lT x11_1.1).length) (fun k11_1 l' H' L' => ∃ (es11_1 : List (KE 1)) (M11_1 RN11_1 : Chunk), [(7, .pointer (some ⟨b_1, 0, none⟩)), (9, .bool (decide ((0 : Int) ≤ v))), (10, .pointer (some ⟨b, 0, none⟩)), (49, .slice none 0 0), (50, .slice a11 (lT x11.1).length c11), (51, .int .i32 (rArr true x10.2).1), (52, .int .i32 (k11 : Int)), (54, .pointer (some ⟨g11, 0 + k11 * 18, none⟩)), (56, .slice none 0 0), (57, .slice a11_1 (lT x11_1.1).length c11_1), (58, .int .i32 (rArr true x11_0.2).1), (59, .int .i32 (k11_1 : Int))] = l' ∧ M11_1 :: RN11_1 :: [(b_38, .cells [ub x11_0.1.s 0, ub x11_0.1.s 1, ub x11_0.1.s 2, ub x11_0.1.s 3, ub x11_0.1.s 4, ub x11_0.1.s 5, ub x11_0.1.s 6, ub x11_0.1.s 7, ub x11_0.1.s 8, ub x11_0.1.s 9, ub x11_0.1.s 10, ub x11_0.1.s 11, ub x11_0.1.s 12, ub x11_0.1.s 13, ub x11_0.1.s 14, ub x11_0.1.s 15].toArray 143 (0, 0))] :: [(g11, .cells ((es11.flatMap fk) ++ ([ub x11_0.1.s 0, ub x11_0.1.s 1, ub x11_0.1.s 2, ub x11_0.1.s 3, ub x11_0.1.s 4, ub x11_0.1.s 5, ub x11_0.1.s 6, ub x11_0.1.s 7, ub x11_0.1.s 8, ub x11_0.1.s 9, ub x11_0.1.s 10, ub x11_0.1.s 11, ub x11_0.1.s 12, ub x11_0.1.s 13, ub x11_0.1.s 14, ub x11_0.1.s 15, .slice none 0 0, .map none] : List Value) ++ po11).toArray 191 (0, 0))] :: [(b, .cells [.int .i16 v, .pointer p0, .pointer p1, .int .i32 (IntKind.i32.wrap x2.1.n), .int .i32 (IntKind.i32.wrap x3.1.n), .int .i32 (IntKind.i32.wrap x4.1.n), .int .i32 (IntKind.i32.wrap x5.1.n), .int .i32 (IntKind.i32.wrap x6.1.n), .int .i32 (IntKind.i32.wrap x7.1.n), .int .i8 (IntKind.i8.wrap x8.1.n), .bool (decide (x9.1.n % 2 = 1)), .slice a10 (lT x10.1).length c10, .slice none 0 0, .map none].toArray 181 (0, 0))] :: L = L' ∧ RdAt H' 193 b_1 (rMany (decV 3 (decP [] v true) false true) k11_1 (rArr true x11_0.2).2).2 RN11_1 ∧ Row 21 1 a11_1 (lT x11_1.1).length c11_1 (es11_1.flatMap fk ++ reps [.int .i32 0] ((lT x11_1.1).length - k11_1)) M11_1 ∧ es11_1.map (·.2) = (rMany (decV 3 (decP [] v true) false true) k11_1 (rArr true x11_0.2).2).1 ∧ ∀ p ∈ es11_1, RI32 H' p.2 (fk p)) [(7, .pointer (some ⟨b_1, 0, none⟩)), (9, .bool (decide ((0 : Int) ≤ v))), (10, .pointer (some ⟨b, 0, none⟩)), (49, .slice none 0 0), (50, .slice a11 (lT x11.1).length c11), (51, .int .i32 (rArr true x10.2).1), (52, .int .i32 (k11 : Int)), (54, .pointer (some ⟨g11, 0 + k11 * 18, none⟩)), (56, .slice none 0 0), (57, .slice a11_1 (lT x11_1.1).length c11_1), (58, .int .i32 (rArr true x11_0.2).1), (59, .int .i32 (0 : Int))] (.cons rfl (.cons rfl (.cons rfl (.cons rfl (.cons rfl (.cons rfl (.cons rfl (.cons rfl (.cons rfl (.cons rfl (.cons rfl (.cons rfl (.nil _))))))))))))) ⟨[], Nr11_1, _, rfl, rfl, (hR365.mono le_39), hr11_1, rfl, (fun p hp => by cases hp)⟩ (fun k11_1 l' H' L' hk11_1 le_40 hI => ?_))
                          obtain ⟨es11_1, M11_1, RN11_1, rfl, rfl, hR_11_1, hw_11_1, he_11_1, hg_11_1⟩ := hI
                          have hs_11_1 := els_len he_11_1
                          have hp_11_1 : (es11_1.flatMap fk).length = k11_1 * 1 := els_flat hs_11_1
                          refine sq ?_
                          refine sr ?_
                          refine mv rfl rfl ?_
                          refine mv rfl rfl ?_
                          refine lt rfl rfl rfl ?_
                          refine nl ?_
                          refine cd rfl (fun h379 => ?_) (fun h379 => ?_)
                          · skip
                            have hkl11_1 : k11_1 < (lT x11_1.1).length := by omega
                            obtain ⟨g11_1, po11_1, hga11_1, rfl, hbk11_1⟩ := hw_11_1.next (zs := [.int .i32 0]) hkl11_1 rfl (by decide)
                            have ho11_1 : 0 + k11_1 * 1 = (es11_1.flatMap fk).length := by rw [hp_11_1]; omega
                            have hbz11_1 : ((decV 3 (decP [] v true) false true) (rMany (decV 3 (decP [] v true) false true) k11_1 (rArr true x11_0.2).2).2).2.bad = true → (decP fs_ShareFetchRequest v true ⟨s, false, !a.isNone⟩).2.bad = true := fun h => hB11_1 (by rw [ex11_1]; exact rMany_mono (fun r h => decV_bad (fun r h => decP_bad _ _ _ r h) h) _ (show k11_1 + 1 ≤ (lT x11_1.1).length from hkl11_1) (by rw [rMany_succ]; exact h))
                            have hLk11_1 : (rMany (decV 3 (decP [] v true) false true) k11_1 (rArr true x11_0.2).2).2.s.length ≤ BR := Nat.le_trans (rMany_shr (fun r => decV_shr (fun r => decP_shr _ _ _ r) r) _ _) hm11_1
                            obtain ⟨y11_1, hy11_1⟩ : ∃ x, x = (decV 3 (decP [] v true) false true) (rMany (decV 3 (decP [] v true) false true) k11_1 (rArr true x11_0.2).2).2 := ⟨_, rfl⟩
                            refine skt ?_
                            refine sq ?_
                            refine bl ?_
                            refine sr ?_
                            refine tf (.tail .head) ?_
                            refine cl rfl rfl rfl (d3 hR_11_1 hy11_1) rfl (fun v_ H1 L1 hle_ hR_ => ?_)
                            obtain ⟨N382, rfl, hR382, rfl, rfl⟩ := hR_
                            refine asg rfl rfl ?_
                            refine nl ?_
                            refine rg ?_
                            refine mv rfl rfl ?_
                            refine mv rfl rfl ?_
                            refine mv rfl rfl ?_
                            refine ixk (j := k11_1) Tryd.runUnderlying189 Tryd.sizeOf21 rfl hga11_1 rfl rfl hkl11_1 rfl ?_
                            refine stM (off := 0) Tryd.sizeOf21 rfl ho11_1 rfl rfl rfl (.tail .head) ?_
                            refine nN ?_
                            refine Nb ?_
                            refine Nt ?_
                            refine rg ?_
                            refine mv rfl rfl ?_
                            refine ad rfl rfl (c := ((k11_1 + 1 : Nat) : Int)) ((wrap32_le (by omega) (by omega)).trans (by omega)) rfl ?_
                            refine asg rfl rfl ?_
                            refine nN ?_
                            have hfs11_1 := flatMap_snoc' fk es11_1 ((⟨([.int .i32 (IntKind.i32.wrap y11_1.1.n)] : List Value), rfl, all_one rfl⟩, ((decV 3 (decP [] v true) false true) (rMany (decV 3 (decP [] v true) false true) k11_1 (rArr true x11_0.2).2).2).1) : KE 1)
                            have hrw11_1 := hbk11_1 ([.int .i32 (IntKind.i32.wrap y11_1.1.n)] : List Value) rfl
                            refine tfN (.tail .head) ?_
                            refine fun a_ w_ hA hw => ⟨hkl11_1, _, _, _, hA.sub ?_, le_40, hw, _, _, _, rfl, rfl, (by rw [rMany_succ, ← hy11_1]; exact hR382), (by rw [← hfs11_1]; exact hrw11_1), (dec_els he_11_1), (fun p hp => (mem_snoc hp).elim (fun h => RI32.mono _ _ _ _ (Fz.le.refl _) (hg_11_1 p h)) (fun h => h ▸ (by show RI32 _ ((decV 3 (decP [] v true) false true) (rMany (decV 3 (decP [] v true) false true) k11_1 (rArr true x11_0.2).2).2).1 [.int .i32 (IntKind.i32.wrap y11_1.1.n)]; rw [← hy11_1]; rfl)))⟩
                            exact (.cons rfl (.cons rfl (.cons rfl (.cons rfl (.cons rfl (.cons rfl (.cons rfl (.cons rfl (.cons rfl (.cons rfl (.cons rfl (.cons rfl (.nil _)))))))))))))
                          · skip
                            have hkn_ : k11_1 = (lT x11_1.1).length := by omega
                            subst hkn_
                            have hw2_11_1 : Row 21 1 a11_1 (lT x11_1.1).length c11_1 (es11_1.flatMap fk) M11_1 := by have h := hw_11_1; rw [Nat.sub_self] at h; simpa [reps] using h
                            refine frW hw2_11_1 .head (fun Hf11_1 hlf11_1 hfz11_1 => ?_)
                            have hrs11_1 := RowsAt.row (R := RI32) hfz11_1 hs_11_1.symm hw2_11_1.le.1 (fun p hp => RI32.mono _ _ _ _ hlf11_1 (hg_11_1 p hp))
                            rw [he_11_1] at hrs11_1
                            have hf11_1 : ListAt Hf11_1 x11_1.1 1 RI32 a11_1 c11_1 := by rw [ex11_1]; exact listAt_of hrs11_1 hi11_1 (fun h => by have h1 := nul_le h; rw [show (lT x11_1.1).length = 0 by omega]; rfl)
                            have hRx11_1 : RdAt Hf11_1 193 b_1 x11_1.2 RN11_1 := by rw [ex11_1]; exact (hR_11_1.mono hlf11_1)
                            refine exX ?_
                            refine XT ?_
                            refine XT ?_
                            refine Xb ?_
                            refine Nt ?_
                            refine sr ?_
                            refine mv rfl rfl ?_
                            refine asg rfl rfl ?_
                            refine nl ?_
                            refine rg ?_
                            refine mv rfl rfl ?_
                            refine mv rfl rfl ?_
                            refine nc rfl rfl ?_
                            refine fa F191_1 rfl rfl ?_
                            refine stM (off := 16) Tryd.sizeOf189 rfl (by rw [ho11]) rfl rfl rfl (.tail (.tail .head)) ?_
                            refine nl ?_
                            refine sr ?_
                            refine mv rfl rfl ?_
                            refine nl ?_
                            refine cdT rfl (by omega) ?_
                            refine rg ?_
                            refine mv rfl rfl ?_
                            refine cl rfl rfl rfl (d_tags hRx11_1) rfl (fun v_ H1 L1 le_42 hR_ => ?_)
                            obtain ⟨N394, rfl, hR394, m11_t, rfl, hft11_⟩ := hR_
                            have hu211_ : u11_ = rTags x11_1.2 := hu11_
                            rw [← hu211_] at hR394 hft11_
                            refine nc rfl rfl ?_
                            refine fa F191_2 rfl rfl ?_
                            refine saM (off := 17) Tryd.sizeOf99 rfl (by rw [ho11]) rfl rfl rfl rfl (.tail (.tail .head)) ?_
                            refine nN ?_
                            refine Nb ?_
                            refine Nt ?_
                            refine rg ?_
                            refine mv rfl rfl ?_
                            refine ad rfl rfl (c := ((k11 + 1 : Nat) : Int)) ((wrap32_le (by omega) (by omega)).trans (by omega)) rfl ?_
                            refine asg rfl rfl ?_
                            refine nN ?_
                            have hfs11 := flatMap_snoc' fk es11 ((⟨([ub x11_0.1.s 0, ub x11_0.1.s 1, ub x11_0.1.s 2, ub x11_0.1.s 3, ub x11_0.1.s 4, ub x11_0.1.s 5, ub x11_0.1.s 6, ub x11_0.1.s 7, ub x11_0.1.s 8, ub x11_0.1.s 9, ub x11_0.1.s 10, ub x11_0.1.s 11, ub x11_0.1.s 12, ub x11_0.1.s 13, ub x11_0.1.s 14, ub x11_0.1.s 15, .slice a11_1 (lT x11_1.1).length c11_1, .map m11_t] : List Value), rfl, all_one rfl⟩, ((decV 10 (decP fs_sShareFetchRequestForgottenTopicsData v true) false true) (rMany (decV 10 (decP fs_sShareFetchRequestForgottenTopicsData v true) false true) k11 (rArr true x10.2).2).2).1) : KE 18)
                            have hrw11 := hbk11 ([ub x11_0.1.s 0, ub x11_0.1.s 1, ub x11_0.1.s 2, ub x11_0.1.s 3, ub x11_0.1.s 4, ub x11_0.1.s 5, ub x11_0.1.s 6, ub x11_0.1.s 7, ub x11_0.1.s 8, ub x11_0.1.s 9, ub x11_0.1.s 10, ub x11_0.1.s 11, ub x11_0.1.s 12, ub x11_0.1.s 13, ub x11_0.1.s 14, ub x11_0.1.s 15, .slice a11_1 (lT x11_1.1).length c11_1, .map m11_t] : List Value) rfl
                            refine drN (.tail .head) ?_
                            refine tfN (.tail .head) ?_
                            refine fun a_ w_ hA hw => ⟨hkl11, _, _, _, hA.sub ?_, (le_36.trans (le_39.trans (le_40.trans (hlf11_1.trans le_42)))), hw, _, _, _, rfl, rfl, (by rw [rMany_succ]; show RdAt _ 193 b_1 (decP fs_sShareFetchRequestForgottenTopicsData v true (rMany (decV 10 (decP fs_sShareFetchRequestForgottenTopicsData v true) false true) k11 (rArr true x10.2).2).2).2 _; rw [hD11_]; exact hR394), (by rw [← hfs11]; exact hrw11), (dec_els he_11), (fun p hp => (mem_snoc hp).elim (fun h => At_ShareFetchRequestForgottenTopicsData.mono _ _ _ _ (le_39.trans (le_40.trans (hlf11_1.trans le_42))) (hg_11 p h)) (fun h => h ▸ (by show At_ShareFetchRequestForgottenTopicsData _ (decP fs_sShareFetchRequestForgottenTopicsData v true (rMany (decV 10 (decP fs_sShareFetchRequestForgottenTopicsData v true) false true) k11 (rArr true x10.2).2).2).1 [ub x11_0.1.s 0, ub x11_0.1.s 1, ub x11_0.1.s 2, ub x11_0.1.s 3, ub x11_0.1.s 4, ub x11_0.1.s 5, ub x11_0.1.s 6, ub x11_0.1.s 7, ub x11_0.1.s 8, ub x11_0.1.s 9, ub x11_0.1.s 10, ub x11_0.1.s 11, ub x11_0.1.s 12, ub x11_0.1.s 13, ub x11_0.1.s 14, ub x11_0.1.s 15, .slice a11_1 (lT x11_1.1).length c11_1, .map m11_t]; rw [hD11_]; exact ⟨a11_1, c11_1, m11_t, rfl, (hf11_1.mono RI32.mono le_42), hft11_⟩)))⟩
                            exact (.cons rfl (.cons rfl (.cons rfl (.cons rfl (.cons rfl (.cons rfl (.cons rfl (.nil _))))))))
                    · skip
                      have hkn_ : k11 = (lT x11.1).length := by omega
                      subst hkn_
                      have hw2_11 : Row 191 18 a11 (lT x11.1).length c11 (es11.flatMap fk) M11 := by have h := hw_11; rw [Nat.sub_self] at h; simpa [reps] using h
                      refine frW hw2_11 .head (fun Hf11 hlf11 hfz11 => ?_)
                      have hrs11 := RowsAt.row (R := At_ShareFetchRequestForgottenTopicsData) hfz11 hs_11.symm hw2_11.le.1 (fun p hp => At_ShareFetchRequestForgottenTopicsData.mono _ _ _ _ hlf11 (hg_11 p hp))
                      rw [he_11] at hrs11
                      have hf11 : ListAt Hf11 x11.1 18 At_ShareFetchRequestForgottenTopicsData a11 c11 := by rw [ex11]; exact listAt_of hrs11 hi11 (fun h => by have h1 := nul_le h; rw [show (lT x11.1).length = 0 by omega]; rfl)
                      have hRx11 : RdAt Hf11 193 b_1 x11.2 RN11 := by rw [ex11]; exact (hR_11.mono hlf11)
                      refine exX ?_
                      refine XT ?_
                      refine XT ?_
                      refine Xb ?_
                      refine Nt ?_
                      refine sr ?_
                      refine mv rfl rfl ?_
                      refine asg rfl rfl ?_
                      refine nl ?_
                      refine rg ?_
                      refine mv rfl rfl ?_
                      refine mv rfl rfl ?_
                      refine nc rfl rfl ?_
                      refine fa0 F181_12 rfl rfl ?_
                      refine st Tryd.sizeOf179 rfl rfl rfl rfl (.tail .head) ?_
                      refine nl ?_
                      refine sq ?_
                      refine sr ?_
                      refine mv rfl rfl ?_
                      refine nl ?_
                      refine cdT rfl (by omega) ?_
                      refine rg ?_
                      refine mv rfl rfl ?_
                      refine cl rfl rfl rfl (d_tags hRx11) rfl (fun v_ H1 L1 le_43 hR_ => ?_)
                      obtain ⟨N404, rfl, hR404, mt, rfl, hft⟩ := hR_
                      have hu2 : u = rTags x11.2 := hu
                      rw [← hu2] at hR404 hft
                      refine nc rfl rfl ?_
                      refine fa0 F181_13 rfl rfl ?_
                      refine sa Tryd.sizeOf99 rfl rfl rfl rfl rfl (.tail .head) ?_
                      refine nl ?_
                      refine sr ?_
                      refine cl rfl rfl rfl (r_complete hR404 (he.mono (le_2.trans (le_3.trans (le_8.trans (le_10.trans (le_12.trans (le_14.trans (le_16.trans (le_17.trans (hlf10.trans (le_35.trans (le_36.trans (hlf11.trans le_43)))))))))))))) rfl (fun v_ H1 L1 hle_ hR_ => ?_)
                      obtain ⟨rfl, rfl, rfl⟩ := hR_
                      refine asg rfl rfl ?_
                      refine nl ?_
                      refine drW .head ?_
                      have hA_ := (show At_ShareFetchRequest v _ (decP fs_ShareFetchRequest v true _).1 [.int .i16 v, .pointer p0, .pointer p1, .int .i32 (IntKind.i32.wrap x2.1.n), .int .i32 (IntKind.i32.wrap x3.1.n), .int .i32 (IntKind.i32.wrap x4.1.n), .int .i32 (IntKind.i32.wrap x5.1.n), .int .i32 (IntKind.i32.wrap x6.1.n), .int .i32 (IntKind.i32.wrap x7.1.n), .int .i8 (IntKind.i8.wrap x8.1.n), .bool (decide (x9.1.n % 2 = 1)), .slice a10 (lT x10.1).length c10, .slice a11 (lT x11.1).length c11, .map mt] from (by rw [hD]; exact ⟨p0, p1, a10, c10, a11, c11, mt, rfl, (hf0.mono (le_3.trans (le_8.trans (le_10.trans (le_12.trans (le_14.trans (le_16.trans (le_17.trans (hlf10.trans (le_35.trans (le_36.trans (hlf11.trans le_43)))))))))))), (hf1.mono (le_8.trans (le_10.trans (le_12.trans (le_14.trans (le_16.trans (le_17.trans (hlf10.trans (le_35.trans (le_36.trans (hlf11.trans le_43))))))))))), (hf10.mono At_ShareFetchRequestTopic.mono (le_35.trans (le_36.trans (hlf11.trans le_43)))), (hf11.mono At_ShareFetchRequestForgottenTopicsData.mono le_43), hft⟩))
                      refine rT rfl rfl (le_2.trans (le_3.trans (le_8.trans (le_10.trans (le_12.trans (le_14.trans (le_16.trans (le_17.trans (hlf10.trans (le_35.trans (le_36.trans (hlf11.trans le_43)))))))))))) (fun _ _ h => h) ⟨_, rfl, ?_⟩
                      have hz := RdEnd.of (e := e) hA_
                      rw [show (decP fs_ShareFetchRequest v true _).2.bad = u.2.bad by rw [hD]] at hz
                      exact hz
end Go.Sx

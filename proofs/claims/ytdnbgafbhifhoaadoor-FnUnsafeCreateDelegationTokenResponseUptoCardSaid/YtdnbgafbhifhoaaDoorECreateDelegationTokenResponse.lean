import Derived.Test.YtdnbgafbhifhoaaDoorCCreateDelegationTokenResponse
import Derived.KernelRfl
set_option linter.unusedVariables false
set_option linter.unusedSimpArgs false
set_option maxRecDepth 100000
set_option maxHeartbeats 20000000
namespace Go.Sx
open Go.Proofs
theorem rd_CreateDelegationTokenResponse_fu {H : Fz} {L : Own} {b : Nat} {v : Int} {a : Option Addr} {c : Nat} {s : List UInt8} {e : Value} (hB : BytesAt H a c s) (hL_ : s.length ≤ BR) (he : H.at 1 0 [e]) (hv0 : 0 ≤ v) (hv1 : v ≤ 1) :
    Fn Tryd.prog 132 [.pointer (some ⟨b, 0, none⟩), .slice a s.length c, .bool true] H ([(b, .cells [.int .i16 v, .int .i16 0, .string ⟨#[]⟩, .string ⟨#[]⟩, .string ⟨#[]⟩, .string ⟨#[]⟩, .int .i64 0, .int .i64 0, .int .i64 0, .string ⟨#[]⟩, .slice none 0 0, .int .i32 0, .map none].toArray 119 (0, 0))] :: L) (fun r H' L' => ∃ cs : List Value, L' = [(b, .cells cs.toArray 119 (0, 0))] :: L ∧ RdEnd H' (At_CreateDelegationTokenResponse v) (decP fs_CreateDelegationTokenResponse v false ⟨s, false, !a.isNone⟩) e r cs) := by
  refine Fn.mk Tryd.call132 Tryd.func132 rfl Tryd.ntmps132 rfl ?_
  refine sr ?_
  refine asg rfl rfl ?_
  refine nl ?_
  refine sr ?_
  refine mv rfl rfl ?_
  refine cl rfl rfl rfl def0_CreateDelegationTokenResponse rfl (fun v_ H1 L1 hle_ hR_ => ?_)
  obtain ⟨rfl, rfl⟩ := hR_
  refine nl ?_
  refine sr ?_
  refine mv rfl rfl ?_
  refine bd' S193 rfl rfl rfl ?_
  refine al Tryd.zeroValue193 rfl rfl (fun b_1 => ?_)
  refine sa Tryd.sizeOf193 rfl rfl rfl rfl rfl .head ?_
  have hR0_ : RdAt H 193 b_1 ⟨s, false, !a.isNone⟩ [(b_1, .cells [_, _].toArray 193 (0, 0))] := ⟨a, c, rfl, hB, by simp⟩
  obtain ⟨x0, hx0⟩ : ∃ x, x = stepF (Fd.mk 2 0 (-1) (-1) (-1) 0 0 []) v false ⟨s, false, !a.isNone⟩ := ⟨_, rfl⟩
  obtain ⟨x1, hx1⟩ : ∃ x, x = stepF (Fd.mk 8 0 (-1) (-1) (-1) 0 0 []) v false x0.2 := ⟨_, rfl⟩
  obtain ⟨x2, hx2⟩ : ∃ x, x = stepF (Fd.mk 8 0 (-1) (-1) (-1) 0 0 []) v false x1.2 := ⟨_, rfl⟩
  obtain ⟨x3, hx3⟩ : ∃ x, x = stepF (Fd.mk 8 3 (-1) (-1) (-1) 0 0 []) v false x2.2 := ⟨_, rfl⟩
  obtain ⟨x4, hx4⟩ : ∃ x, x = stepF (Fd.mk 8 3 (-1) (-1) (-1) 0 0 []) v false x3.2 := ⟨_, rfl⟩
  obtain ⟨x5, hx5⟩ : ∃ x, x = stepF (Fd.mk 4 0 (-1) (-1) (-1) 0 0 []) v false x4.2 := ⟨_, rfl⟩
  obtain ⟨x6, hx6⟩ : ∃ x, x = stepF (Fd.mk 4 0 (-1) (-1) (-1) 0 0 []) v false x5.2 := ⟨_, rfl⟩
  obtain ⟨x7, hx7⟩ : ∃ x, x = stepF (Fd.mk 4 0 (-1) (-1) (-1) 0 0 []) v false x6.2 := ⟨_, rfl⟩
  obtain ⟨x8, hx8⟩ : ∃ x, x = stepF (Fd.mk 8 0 (-1) (-1) (-1) 0 0 []) v false x7.2 := ⟨_, rfl⟩
  obtain ⟨x9, hx9⟩ : ∃ x, x = stepF (Fd.mk 9 0 (-1) (-1) (-1) 0 0 []) v false x8.2 := ⟨_, rfl⟩
  obtain ⟨x10, hx10⟩ : ∃ x, x = stepF (Fd.mk 3 0 (-1) (-1) (-1) 0 0 []) v false x9.2 := ⟨_, rfl⟩
  obtain ⟨u, hu⟩ : ∃ x, x = tailU false x10.2 := ⟨_, rfl⟩
  have hD : decP fs_CreateDelegationTokenResponse v false ⟨s, false, !a.isNone⟩ = (.mk 0 [] false [x0.1, x1.1, x2.1, x3.1, x4.1, x5.1, x6.1, x7.1, x8.1, x9.1, x10.1] u.1, u.2) := by
    generalize (⟨s, false, !a.isNone⟩ : Rd) = r_ at hx0 ⊢
    rw [decP_eq]; unfold fs_CreateDelegationTokenResponse; simp only [decFs_cons, decFs_nil, ← hx0, ← hx1, ← hx2, ← hx3, ← hx4, ← hx5, ← hx6, ← hx7, ← hx8, ← hx9, ← hx10, ← hu]
  have hL0 : x0.2.s.length ≤ BR := by rw [hx0]; exact Nat.le_trans (stepF_shr _ _ _ _) hL_
  have hL1 : x1.2.s.length ≤ BR := by rw [hx1]; exact Nat.le_trans (stepF_shr _ _ _ _) hL0
  have hL2 : x2.2.s.length ≤ BR := by rw [hx2]; exact Nat.le_trans (stepF_shr _ _ _ _) hL1
  have hL3 : x3.2.s.length ≤ BR := by rw [hx3]; exact Nat.le_trans (stepF_shr _ _ _ _) hL2
  have hL4 : x4.2.s.length ≤ BR := by rw [hx4]; exact Nat.le_trans (stepF_shr _ _ _ _) hL3
  have hL5 : x5.2.s.length ≤ BR := by rw [hx5]; exact Nat.le_trans (stepF_shr _ _ _ _) hL4
  have hL6 : x6.2.s.length ≤ BR := by rw [hx6]; exact Nat.le_trans (stepF_shr _ _ _ _) hL5
  have hL7 : x7.2.s.length ≤ BR := by rw [hx7]; exact Nat.le_trans (stepF_shr _ _ _ _) hL6
  have hL8 : x8.2.s.length ≤ BR := by rw [hx8]; exact Nat.le_trans (stepF_shr _ _ _ _) hL7
  have hL9 : x9.2.s.length ≤ BR := by rw [hx9]; exact Nat.le_trans (stepF_shr _ _ _ _) hL8
  have hL10 : x10.2.s.length ≤ BR := by rw [hx10]; exact Nat.le_trans (stepF_shr _ _ _ _) hL9
  have hE : u.2.bad = true → (decP fs_CreateDelegationTokenResponse v false ⟨s, false, !a.isNone⟩).2.bad = true := fun h => by rw [hD]; exact h
  have hB10 : x10.2.bad = true → (decP fs_CreateDelegationTokenResponse v false ⟨s, false, !a.isNone⟩).2.bad = true := fun h => hE (by rw [hu]; exact tailU_bad h)
  have hB9 : x9.2.bad = true → (decP fs_CreateDelegationTokenResponse v false ⟨s, false, !a.isNone⟩).2.bad = true := fun h => hB10 (by rw [hx10]; exact step_bad h)
  have hB8 : x8.2.bad = true → (decP fs_CreateDelegationTokenResponse v false ⟨s, false, !a.isNone⟩).2.bad = true := fun h => hB9 (by rw [hx9]; exact step_bad h)
  have hB7 : x7.2.bad = true → (decP fs_CreateDelegationTokenResponse v false ⟨s, false, !a.isNone⟩).2.bad = true := fun h => hB8 (by rw [hx8]; exact step_bad h)
  have hB6 : x6.2.bad = true → (decP fs_CreateDelegationTokenResponse v false ⟨s, false, !a.isNone⟩).2.bad = true := fun h => hB7 (by rw [hx7]; exact step_bad h)
  have hB5 : x5.2.bad = true → (decP fs_CreateDelegationTokenResponse v false ⟨s, false, !a.isNone⟩).2.bad = true := fun h => hB6 (by rw [hx6]; exact step_bad h)
  have hB4 : x4.2.bad = true → (decP fs_CreateDelegationTokenResponse v false ⟨s, false, !a.isNone⟩).2.bad = true := fun h => hB5 (by rw [hx5]; exact step_bad h)
  have hB3 : x3.2.bad = true → (decP fs_CreateDelegationTokenResponse v false ⟨s, false, !a.isNone⟩).2.bad = true := fun h => hB4 (by rw [hx4]; exact step_bad h)
  have hB2 : x2.2.bad = true → (decP fs_CreateDelegationTokenResponse v false ⟨s, false, !a.isNone⟩).2.bad = true := fun h => hB3 (by rw [hx3]; exact step_bad h)
  have hB1 : x1.2.bad = true → (decP fs_CreateDelegationTokenResponse v false ⟨s, false, !a.isNone⟩).2.bad = true := fun h => hB2 (by rw [hx2]; exact step_bad h)
  have hB0 : x0.2.bad = true → (decP fs_CreateDelegationTokenResponse v false ⟨s, false, !a.isNone⟩).2.bad = true := fun h => hB1 (by rw [hx1]; exact step_bad h)
  refine nl ?_
  refine sr ?_
  refine mv rfl rfl ?_
  refine nc rfl rfl ?_
  refine fa0 F119_0 rfl rfl ?_
  refine ld (Says.own (.tail .head)) Tryd.isAgg45 rfl (Nat.zero_add _).symm rfl rfl ?_
  refine asg rfl rfl ?_
  refine nl ?_
  refine sr ?_
  refine mv rfl rfl ?_
  refine nl ?_
  refine sr ?_
  refine mv rfl rfl ?_
  refine ge rfl rfl rfl ?_
  refine asg rfl rfl ?_
  refine nl ?_
  refine sr ?_
  refine mv rfl rfl ?_
  refine nl ?_
  refine sr ?_
  refine mv rfl rfl ?_
  refine asg rfl rfl ?_
  refine nl ?_
  refine sq ?_
  refine sr ?_
  have ex0 : x0 = decV 2 (decP [] v false) false false ⟨s, false, !a.isNone⟩ := (hx0.trans (step_yes (by decide) (show (0 : Int) ≤ v by omega) (Or.inl (by decide)))).trans (decF'_val (by decide) (rfl))
  refine cl rfl rfl rfl (d2 hR0_ ex0) rfl (fun v_ H1 L1 hle_ hR_ => ?_)
  obtain ⟨N35, rfl, hR35, rfl, rfl⟩ := hR_
  refine asg rfl rfl ?_
  refine nl ?_
  refine rg ?_
  refine mv rfl rfl ?_
  refine mv rfl rfl ?_
  refine nc rfl rfl ?_
  refine fa0 F119_1 rfl rfl ?_
  refine st Tryd.sizeOf45 rfl rfl rfl rfl (.tail .head) ?_
  refine nl ?_
  refine sq ?_
  refine sr ?_
  refine asg rfl rfl ?_
  refine nl ?_
  refine sq ?_
  refine sr ?_
  refine mv rfl rfl ?_
  refine nl ?_
  refine cT rfl ?_
  refine sr ?_
  refine mv rfl rfl ?_
  refine nl ?_
  refine cdF rfl (by omega) ?_
  refine rg ?_
  have ex1 : x1 = decV 8 (decP [] v false) false false x0.2 := (hx1.trans (step_yes (by decide) (show (0 : Int) ≤ v by omega) (Or.inl (by decide)))).trans (decF'_val (by decide) (rfl))
  refine cl rfl rfl rfl (d8fu hR35 ex1) rfl (fun v_ H1 L1 le_3 hR_ => ?_)
  obtain ⟨N43, rfl, hR43, rfl, rfl⟩ := hR_
  refine asg rfl rfl ?_
  refine nl ?_
  refine rg ?_
  refine mv rfl rfl ?_
  refine mv rfl rfl ?_
  refine nc rfl rfl ?_
  refine fa0 F119_2 rfl rfl ?_
  refine st Tryd.sizeOf9 rfl rfl rfl rfl (.tail .head) ?_
  refine nl ?_
  refine sq ?_
  refine sr ?_
  refine asg rfl rfl ?_
  refine nl ?_
  refine sq ?_
  refine sr ?_
  refine mv rfl rfl ?_
  refine nl ?_
  refine cT rfl ?_
  refine sr ?_
  refine mv rfl rfl ?_
  refine nl ?_
  refine cdF rfl (by omega) ?_
  refine rg ?_
  have ex2 : x2 = decV 8 (decP [] v false) false false x1.2 := (hx2.trans (step_yes (by decide) (show (0 : Int) ≤ v by omega) (Or.inl (by decide)))).trans (decF'_val (by decide) (rfl))
  refine cl rfl rfl rfl (d8fu hR43 ex2) rfl (fun v_ H1 L1 le_4 hR_ => ?_)
  obtain ⟨N54, rfl, hR54, rfl, rfl⟩ := hR_
  refine asg rfl rfl ?_
  refine nl ?_
  refine rg ?_
  refine mv rfl rfl ?_
  refine mv rfl rfl ?_
  refine nc rfl rfl ?_
  refine fa0 F119_3 rfl rfl ?_
  refine st Tryd.sizeOf9 rfl rfl rfl rfl (.tail .head) ?_
  refine nl ?_
  refine sq ?_
  refine sr ?_
  refine mv rfl rfl ?_
  refine ge rfl rfl rfl ?_
  refine nl ?_
  refine cdF rfl (by omega) ?_
  refine skt ?_
  refine sq ?_
  refine sr ?_
  refine mv rfl rfl ?_
  refine ge rfl rfl rfl ?_
  refine nl ?_
  refine cdF rfl (by omega) ?_
  refine skt ?_
  refine sq ?_
  refine sr ?_
  obtain rfl : x3 = ((Tr.mk 0 [] false [] []), x2.2) := (hx3.trans (step_no (Or.inl (show v < (3 : Int) by omega)))).trans (by rw [dflF_eq]; rfl)
  obtain rfl : x4 = ((Tr.mk 0 [] false [] []), x2.2) := (hx4.trans (step_no (Or.inl (show v < (3 : Int) by omega)))).trans (by rw [dflF_eq]; rfl)
  have ex5 : x5 = decV 4 (decP [] v false) false false x2.2 := (hx5.trans (step_yes (by decide) (show (0 : Int) ≤ v by omega) (Or.inl (by decide)))).trans (decF'_val (by decide) (rfl))
  refine cl rfl rfl rfl (d4 hR54 ex5) rfl (fun v_ H1 L1 hle_ hR_ => ?_)
  obtain ⟨N88, rfl, hR88, rfl, rfl⟩ := hR_
  refine asg rfl rfl ?_
  refine nl ?_
  refine rg ?_
  refine mv rfl rfl ?_
  refine mv rfl rfl ?_
  refine nc rfl rfl ?_
  refine fa0 F119_6 rfl rfl ?_
  refine st Tryd.sizeOf2 rfl rfl rfl rfl (.tail .head) ?_
  refine nl ?_
  refine sq ?_
  refine sr ?_
  have ex6 : x6 = decV 4 (decP [] v false) false false x5.2 := (hx6.trans (step_yes (by decide) (show (0 : Int) ≤ v by omega) (Or.inl (by decide)))).trans (decF'_val (by decide) (rfl))
  refine cl rfl rfl rfl (d4 hR88 ex6) rfl (fun v_ H1 L1 hle_ hR_ => ?_)
  obtain ⟨N93, rfl, hR93, rfl, rfl⟩ := hR_
  refine asg rfl rfl ?_
  refine nl ?_
  refine rg ?_
  refine mv rfl rfl ?_
  refine mv rfl rfl ?_
  refine nc rfl rfl ?_
  refine fa0 F119_7 rfl rfl ?_
  refine st Tryd.sizeOf2 rfl rfl rfl rfl (.tail .head) ?_
  refine nl ?_
  refine sq ?_
  refine sr ?_
  have ex7 : x7 = decV 4 (decP [] v false) false false x6.2 := (hx7.trans (step_yes (by decide) (show (0 : Int) ≤ v by omega) (Or.inl (by decide)))).trans (decF'_val (by decide) (rfl))
  refine cl rfl rfl rfl (d4 hR93 ex7) rfl (fun v_ H1 L1 hle_ hR_ => ?_)
  obtain ⟨N98, rfl, hR98, rfl, rfl⟩ := hR_
  refine asg rfl rfl ?_
  refine nl ?_
  refine rg ?_
  refine mv rfl rfl ?_
  refine mv rfl rfl ?_
  refine nc rfl rfl ?_
  refine fa0 F119_8 rfl rfl ?_
  refine st Tryd.sizeOf2 rfl rfl rfl rfl (.tail .head) ?_
  refine nl ?_
  refine sq ?_
  refine sr ?_
  refine asg rfl rfl ?_
  refine nl ?_
  refine sq ?_
  refine sr ?_
  refine mv rfl rfl ?_
  refine nl ?_
  refine cT rfl ?_
  refine sr ?_
  refine mv rfl rfl ?_
  refine nl ?_
  refine cdF rfl (by omega) ?_
  refine rg ?_
  have ex8 : x8 = decV 8 (decP [] v false) false false x7.2 := (hx8.trans (step_yes (by decide) (show (0 : Int) ≤ v by omega) (Or.inl (by decide)))).trans (decF'_val (by decide) (rfl))
  refine cl rfl rfl rfl (d8fu hR98 ex8) rfl (fun v_ H1 L1 le_8 hR_ => ?_)
  obtain ⟨N106, rfl, hR106, rfl, rfl⟩ := hR_
  refine asg rfl rfl ?_
  refine nl ?_
  refine rg ?_
  refine mv rfl rfl ?_
  refine mv rfl rfl ?_
  refine nc rfl rfl ?_
  refine fa0 F119_9 rfl rfl ?_
  refine st Tryd.sizeOf9 rfl rfl rfl rfl (.tail .head) ?_
  refine nl ?_
  refine sq ?_
  refine sr ?_
  refine asg rfl rfl ?_
  refine nl ?_
  refine sq ?_
  refine sr ?_
  refine mv rfl rfl ?_
  refine nl ?_
  refine cdF rfl (by omega) ?_
  refine rg ?_
  have ex9 : x9 = decV 9 (decP [] v false) false false x8.2 := (hx9.trans (step_yes (by decide) (show (0 : Int) ≤ v by omega) (Or.inl (by decide)))).trans (decF'_val (by decide) (rfl))
  refine cl rfl rfl rfl (d9f hR106 ex9) rfl (fun v_ H1 L1 le_9 hR_ => ?_)
  obtain ⟨N116, rfl, hR116, a9, c9, rfl, hf9⟩ := hR_
  refine asg rfl rfl ?_
  refine nl ?_
  refine rg ?_
  refine mv rfl rfl ?_
  refine mv rfl rfl ?_
  refine nc rfl rfl ?_
  refine fa0 F119_10 rfl rfl ?_
  refine st Tryd.sizeOf22 rfl rfl rfl rfl (.tail .head) ?_
  refine nl ?_
  refine sq ?_
  refine sr ?_
  have ex10 : x10 = decV 3 (decP [] v false) false false x9.2 := (hx10.trans (step_yes (by decide) (show (0 : Int) ≤ v by omega) (Or.inl (by decide)))).trans (decF'_val (by decide) (rfl))
  refine cl rfl rfl rfl (d3 hR116 ex10) rfl (fun v_ H1 L1 hle_ hR_ => ?_)
  obtain ⟨N121, rfl, hR121, rfl, rfl⟩ := hR_
  refine asg rfl rfl ?_
  refine nl ?_
  refine rg ?_
  refine mv rfl rfl ?_
  refine mv rfl rfl ?_
  refine nc rfl rfl ?_
  refine fa0 F119_11 rfl rfl ?_
  refine st Tryd.sizeOf21 rfl rfl rfl rfl (.tail .head) ?_
  refine nl ?_
  refine sq ?_
  refine sr ?_
  refine mv rfl rfl ?_
  refine nl ?_
  refine cdF rfl (by omega) ?_
  refine skt ?_
  refine sr ?_
  refine cl rfl rfl rfl (r_complete hR121 (he.mono le_9)) rfl (fun v_ H1 L1 hle_ hR_ => ?_)
  obtain ⟨rfl, rfl, rfl⟩ := hR_
  refine asg rfl rfl ?_
  refine nl ?_
  refine drW .head ?_
  obtain rfl : u = ([], x10.2) := hu
  have hA_ := (show At_CreateDelegationTokenResponse v _ (decP fs_CreateDelegationTokenResponse v false _).1 [.int .i16 v, .int .i16 (IntKind.i16.wrap x0.1.n), .string ⟨x1.1.s.toArray⟩, .string ⟨x2.1.s.toArray⟩, .string ⟨#[]⟩, .string ⟨#[]⟩, .int .i64 x5.1.n, .int .i64 x6.1.n, .int .i64 x7.1.n, .string ⟨x8.1.s.toArray⟩, .slice a9 (sT x9.1).length c9, .int .i32 (IntKind.i32.wrap x10.1.n), .map none] from (by rw [hD]; exact ⟨a9, c9, none, rfl, hf9, (KvAt.nil _)⟩))
  refine rT rfl rfl le_9 (fun _ _ h => h) ⟨_, rfl, ?_⟩
  have hz := RdEnd.of (e := e) hA_
  rw [show (decP fs_CreateDelegationTokenResponse v false _).2.bad = x10.2.bad by rw [hD]] at hz
  exact hz
theorem rd_CreateDelegationTokenResponse_tu {H : Fz} {L : Own} {b : Nat} {v : Int} {a : Option Addr} {c : Nat} {s : List UInt8} {e : Value} (hB : BytesAt H a c s) (hL_ : s.length ≤ BR) (he : H.at 1 0 [e]) (hv0 : 2 ≤ v) (hv1 : v ≤ 3) :
    Fn Tryd.prog 132 [.pointer (some ⟨b, 0, none⟩), .slice a s.length c, .bool true] H ([(b, .cells [.int .i16 v, .int .i16 0, .string ⟨#[]⟩, .string ⟨#[]⟩, .string ⟨#[]⟩, .string ⟨#[]⟩, .int .i64 0, .int .i64 0, .int .i64 0, .string ⟨#[]⟩, .slice none 0 0, .int .i32 0, .map none].toArray 119 (0, 0))] :: L) (fun r H' L' => ∃ cs : List Value, L' = [(b, .cells cs.toArray 119 (0, 0))] :: L ∧ RdEnd H' (At_CreateDelegationTokenResponse v) (decP fs_CreateDelegationTokenResponse v true ⟨s, false, !a.isNone⟩) e r cs) := by
  refine Fn.mk Tryd.call132 Tryd.func132 rfl Tryd.ntmps132 rfl ?_
  refine sr ?_
  refine asg rfl rfl ?_
  refine nl ?_
  refine sr ?_
  refine mv rfl rfl ?_
  refine cl rfl rfl rfl def0_CreateDelegationTokenResponse rfl (fun v_ H1 L1 hle_ hR_ => ?_)
  obtain ⟨rfl, rfl⟩ := hR_
  refine nl ?_
  refine sr ?_
  refine mv rfl rfl ?_
  refine bd' S193 rfl rfl rfl ?_
  refine al Tryd.zeroValue193 rfl rfl (fun b_1 => ?_)
  refine sa Tryd.sizeOf193 rfl rfl rfl rfl rfl .head ?_
  have hR0_ : RdAt H 193 b_1 ⟨s, false, !a.isNone⟩ [(b_1, .cells [_, _].toArray 193 (0, 0))] := ⟨a, c, rfl, hB, by simp⟩
  obtain ⟨x0, hx0⟩ : ∃ x, x = stepF (Fd.mk 2 0 (-1) (-1) (-1) 0 0 []) v true ⟨s, false, !a.isNone⟩ := ⟨_, rfl⟩
  obtain ⟨x1, hx1⟩ : ∃ x, x = stepF (Fd.mk 8 0 (-1) (-1) (-1) 0 0 []) v true x0.2 := ⟨_, rfl⟩
  obtain ⟨x2, hx2⟩ : ∃ x, x = stepF (Fd.mk 8 0 (-1) (-1) (-1) 0 0 []) v true x1.2 := ⟨_, rfl⟩
  obtain ⟨x3, hx3⟩ : ∃ x, x = stepF (Fd.mk 8 3 (-1) (-1) (-1) 0 0 []) v true x2.2 := ⟨_, rfl⟩
  obtain ⟨x4, hx4⟩ : ∃ x, x = stepF (Fd.mk 8 3 (-1) (-1) (-1) 0 0 []) v true x3.2 := ⟨_, rfl⟩
  obtain ⟨x5, hx5⟩ : ∃ x, x = stepF (Fd.mk 4 0 (-1) (-1) (-1) 0 0 []) v true x4.2 := ⟨_, rfl⟩
  obtain ⟨x6, hx6⟩ : ∃ x, x = stepF (Fd.mk 4 0 (-1) (-1) (-1) 0 0 []) v true x5.2 := ⟨_, rfl⟩
  obtain ⟨x7, hx7⟩ : ∃ x, x = stepF (Fd.mk 4 0 (-1) (-1) (-1) 0 0 []) v true x6.2 := ⟨_, rfl⟩
  obtain ⟨x8, hx8⟩ : ∃ x, x = stepF (Fd.mk 8 0 (-1) (-1) (-1) 0 0 []) v true x7.2 := ⟨_, rfl⟩
  obtain ⟨x9, hx9⟩ : ∃ x, x = stepF (Fd.mk 9 0 (-1) (-1) (-1) 0 0 []) v true x8.2 := ⟨_, rfl⟩
  obtain ⟨x10, hx10⟩ : ∃ x, x = stepF (Fd.mk 3 0 (-1) (-1) (-1) 0 0 []) v true x9.2 := ⟨_, rfl⟩
  obtain ⟨u, hu⟩ : ∃ x, x = tailU true x10.2 := ⟨_, rfl⟩
  have hD : decP fs_CreateDelegationTokenResponse v true ⟨s, false, !a.isNone⟩ = (.mk 0 [] false [x0.1, x1.1, x2.1, x3.1, x4.1, x5.1, x6.1, x7.1, x8.1, x9.1, x10.1] u.1, u.2) := by
    generalize (⟨s, false, !a.isNone⟩ : Rd) = r_ at hx0 ⊢
    rw [decP_eq]; unfold fs_CreateDelegationTokenResponse; simp only [decFs_cons, decFs_nil, ← hx0, ← hx1, ← hx2, ← hx3, ← hx4, ← hx5, ← hx6, ← hx7, ← hx8, ← hx9, ← hx10, ← hu]
  have hL0 : x0.2.s.length ≤ BR := by rw [hx0]; exact Nat.le_trans (stepF_shr _ _ _ _) hL_
  have hL1 : x1.2.s.length ≤ BR := by rw [hx1]; exact Nat.le_trans (stepF_shr _ _ _ _) hL0
  have hL2 : x2.2.s.length ≤ BR := by rw [hx2]; exact Nat.le_trans (stepF_shr _ _ _ _) hL1
  have hL3 : x3.2.s.length ≤ BR := by rw [hx3]; exact Nat.le_trans (stepF_shr _ _ _ _) hL2
  have hL4 : x4.2.s.length ≤ BR := by rw [hx4]; exact Nat.le_trans (stepF_shr _ _ _ _) hL3
  have hL5 : x5.2.s.length ≤ BR := by rw [hx5]; exact Nat.le_trans (stepF_shr _ _ _ _) hL4
  have hL6 : x6.2.s.length ≤ BR := by rw [hx6]; exact Nat.le_trans (stepF_shr _ _ _ _) hL5
  have hL7 : x7.2.s.length ≤ BR := by rw [hx7]; exact Nat.le_trans (stepF_shr _ _ _ _) hL6
  have hL8 : x8.2.s.length ≤ BR := by rw [hx8]; exact Nat.le_trans (stepF_shr _ _ _ _) hL7
  have hL9 : x9.2.s.length ≤ BR := by rw [hx9]; exact Nat.le_trans (stepF_shr _ _ _ _) hL8
  have hL10 : x10.2.s.length ≤ BR := by rw [hx10]; exact Nat.le_trans (stepF_shr _ _ _ _) hL9
  have hE : u.2.bad = true → (decP fs_CreateDelegationTokenResponse v true ⟨s, false, !a.isNone⟩).2.bad = true := fun h => by rw [hD]; exact h
  have hB10 : x10.2.bad = true → (decP fs_CreateDelegationTokenResponse v true ⟨s, false, !a.isNone⟩).2.bad = true := fun h => hE (by rw [hu]; exact tailU_bad h)
  have hB9 : x9.2.bad = true → (decP fs_CreateDelegationTokenResponse v true ⟨s, false, !a.isNone⟩).2.bad = true := fun h => hB10 (by rw [hx10]; exact step_bad h)
  have hB8 : x8.2.bad = true → (decP fs_CreateDelegationTokenResponse v true ⟨s, false, !a.isNone⟩).2.bad = true := fun h => hB9 (by rw [hx9]; exact step_bad h)
  have hB7 : x7.2.bad = true → (decP fs_CreateDelegationTokenResponse v true ⟨s, false, !a.isNone⟩).2.bad = true := fun h => hB8 (by rw [hx8]; exact step_bad h)
  have hB6 : x6.2.bad = true → (decP fs_CreateDelegationTokenResponse v true ⟨s, false, !a.isNone⟩).2.bad = true := fun h => hB7 (by rw [hx7]; exact step_bad h)
  have hB5 : x5.2.bad = true → (decP fs_CreateDelegationTokenResponse v true ⟨s, false, !a.isNone⟩).2.bad = true := fun h => hB6 (by rw [hx6]; exact step_bad h)
  have hB4 : x4.2.bad = true → (decP fs_CreateDelegationTokenResponse v true ⟨s, false, !a.isNone⟩).2.bad = true := fun h => hB5 (by rw [hx5]; exact step_bad h)
  have hB3 : x3.2.bad = true → (decP fs_CreateDelegationTokenResponse v true ⟨s, false, !a.isNone⟩).2.bad = true := fun h => hB4 (by rw [hx4]; exact step_bad h)
  have hB2 : x2.2.bad = true → (decP fs_CreateDelegationTokenResponse v true ⟨s, false, !a.isNone⟩).2.bad = true := fun h => hB3 (by rw [hx3]; exact step_bad h)
  have hB1 : x1.2.bad = true → (decP fs_CreateDelegationTokenResponse v true ⟨s, false, !a.isNone⟩).2.bad = true := fun h => hB2 (by rw [hx2]; exact step_bad h)
  have hB0 : x0.2.bad = true → (decP fs_CreateDelegationTokenResponse v true ⟨s, false, !a.isNone⟩).2.bad = true := fun h => hB1 (by rw [hx1]; exact step_bad h)
  refine nl ?_
  refine sr ?_
  refine mv rfl rfl ?_
  refine nc rfl rfl ?_
  refine fa0 F119_0 rfl rfl ?_
  refine ld (Says.own (.tail .head)) Tryd.isAgg45 rfl (Nat.zero_add _).symm rfl rfl ?_
  refine asg rfl rfl ?_
  refine nl ?_
  refine sr ?_
  refine mv rfl rfl ?_
  refine nl ?_
  refine sr ?_
  refine mv rfl rfl ?_
  refine ge rfl rfl rfl ?_
  refine asg rfl rfl ?_
  refine nl ?_
  refine sr ?_
  refine mv rfl rfl ?_
  refine nl ?_
  refine sr ?_
  refine mv rfl rfl ?_
  refine asg rfl rfl ?_
  refine nl ?_
  refine sq ?_
  refine sr ?_
  have ex0 : x0 = decV 2 (decP [] v true) false true ⟨s, false, !a.isNone⟩ := (hx0.trans (step_yes (by decide) (show (0 : Int) ≤ v by omega) (Or.inl (by decide)))).trans (decF'_val (by decide) (rfl))
  refine cl rfl rfl rfl (d2 hR0_ ex0) rfl (fun v_ H1 L1 hle_ hR_ => ?_)
  obtain ⟨N35, rfl, hR35, rfl, rfl⟩ := hR_
  refine asg rfl rfl ?_
  refine nl ?_
  refine rg ?_
  refine mv rfl rfl ?_
  refine mv rfl rfl ?_
  refine nc rfl rfl ?_
  refine fa0 F119_1 rfl rfl ?_
  refine st Tryd.sizeOf45 rfl rfl rfl rfl (.tail .head) ?_
  refine nl ?_
  refine sq ?_
  refine sr ?_
  refine asg rfl rfl ?_
  refine nl ?_
  refine sq ?_
  refine sr ?_
  refine mv rfl rfl ?_
  refine nl ?_
  refine cT rfl ?_
  refine sr ?_
  refine mv rfl rfl ?_
  refine nl ?_
  refine cdT rfl (by omega) ?_
  refine rg ?_
  have ex1 : x1 = decV 8 (decP [] v true) false true x0.2 := (hx1.trans (step_yes (by decide) (show (0 : Int) ≤ v by omega) (Or.inl (by decide)))).trans (decF'_val (by decide) (rfl))
  refine cl rfl rfl rfl (d8tu hR35 ex1) rfl (fun v_ H1 L1 le_3 hR_ => ?_)
  obtain ⟨N42, rfl, hR42, rfl, rfl⟩ := hR_
  refine asg rfl rfl ?_
  refine nl ?_
  refine rg ?_
  refine mv rfl rfl ?_
  refine mv rfl rfl ?_
  refine nc rfl rfl ?_
  refine fa0 F119_2 rfl rfl ?_
  refine st Tryd.sizeOf9 rfl rfl rfl rfl (.tail .head) ?_
  refine nl ?_
  refine sq ?_
  refine sr ?_
  refine asg rfl rfl ?_
  refine nl ?_
  refine sq ?_
  refine sr ?_
  refine mv rfl rfl ?_
  refine nl ?_
  refine cT rfl ?_
  refine sr ?_
  refine mv rfl rfl ?_
  refine nl ?_
  refine cdT rfl (by omega) ?_
  refine rg ?_
  have ex2 : x2 = decV 8 (decP [] v true) false true x1.2 := (hx2.trans (step_yes (by decide) (show (0 : Int) ≤ v by omega) (Or.inl (by decide)))).trans (decF'_val (by decide) (rfl))
  refine cl rfl rfl rfl (d8tu hR42 ex2) rfl (fun v_ H1 L1 le_4 hR_ => ?_)
  obtain ⟨N53, rfl, hR53, rfl, rfl⟩ := hR_
  refine asg rfl rfl ?_
  refine nl ?_
  refine rg ?_
  refine mv rfl rfl ?_
  refine mv rfl rfl ?_
  refine nc rfl rfl ?_
  refine fa0 F119_3 rfl rfl ?_
  refine st Tryd.sizeOf9 rfl rfl rfl rfl (.tail .head) ?_
  refine nl ?_
  refine sq ?_
  refine sr ?_
  refine mv rfl rfl ?_
  refine ge rfl rfl rfl ?_
  refine nl ?_
  refine cutT (fun l' H' L' => ∃ (Nj3 : Chunk), [(2, .bool true), (7, .pointer (some ⟨b_1, 0, none⟩)), (8, .int .i16 v), (9, .bool (decide ((2 : Int) ≤ v))), (10, .pointer (some ⟨b, 0, none⟩))] = l' ∧ Nj3 :: [(b, .cells [.int .i16 v, .int .i16 (IntKind.i16.wrap x0.1.n), .string ⟨x1.1.s.toArray⟩, .string ⟨x2.1.s.toArray⟩, .string ⟨x3.1.s.toArray⟩, .string ⟨#[]⟩, .int .i64 0, .int .i64 0, .int .i64 0, .string ⟨#[]⟩, .slice none 0 0, .int .i32 0, .map none].toArray 119 (0, 0))] :: L = L' ∧ RdAt H' 193 b_1 x3.2 Nj3) ?_ (fun l' H' L' le_5 hI => ?_)
  · skip
    refine cd rfl (fun h63 => ?_) (fun h63 => ?_)
    · skip
      refine sr ?_
      refine asg rfl rfl ?_
      refine nl ?_
      refine sq ?_
      refine sr ?_
      refine mv rfl rfl ?_
      refine nl ?_
      refine cT rfl ?_
      refine sr ?_
      refine mv rfl rfl ?_
      refine nl ?_
      refine cdT rfl (by omega) ?_
      refine rg ?_
      have ex3 : x3 = decV 8 (decP [] v true) false true x2.2 := (hx3.trans (step_yes (by decide) (show (3 : Int) ≤ v by omega) (Or.inl (by decide)))).trans (decF'_val (by decide) (rfl))
      refine cl rfl rfl rfl (d8tu hR53 ex3) rfl (fun v_ H1 L1 le_6 hR_ => ?_)
      obtain ⟨N66, rfl, hR66, rfl, rfl⟩ := hR_
      refine asg rfl rfl ?_
      refine nl ?_
      refine rg ?_
      refine mv rfl rfl ?_
      refine mv rfl rfl ?_
      refine nc rfl rfl ?_
      refine fa0 F119_4 rfl rfl ?_
      refine st Tryd.sizeOf9 rfl rfl rfl rfl (.tail .head) ?_
      refine nN ?_
      refine fun a_ w_ hA hw => ⟨_, _, _, hA.sub ?_, (Fz.le.refl _), hw, N66, rfl, rfl, hR66⟩
      exact (.cons rfl (.cons rfl (.cons rfl (.cons rfl (.cons rfl (.nil _))))))
    · skip
      refine skN ?_
      obtain rfl : x3 = ((Tr.mk 0 [] false [] []), x2.2) := (hx3.trans (step_no (Or.inl (show v < (3 : Int) by omega)))).trans (by rw [dflF_eq]; rfl)
      refine fun a_ w_ hA hw => ⟨_, _, _, hA.sub ?_, (Fz.le.refl _), hw, N53, rfl, rfl, hR53⟩
      exact (.cons rfl (.cons rfl (.cons rfl (.cons rfl (.cons rfl (.nil _))))))
  · skip
    obtain ⟨Nj3, rfl, rfl, pj0⟩ := hI
    have hRj3 := pj0
    refine sq ?_
    refine sr ?_
    refine mv rfl rfl ?_
    refine ge rfl rfl rfl ?_
    refine nl ?_
    refine cutT (fun l' H' L' => ∃ (Nj4 : Chunk), [(2, .bool true), (7, .pointer (some ⟨b_1, 0, none⟩)), (9, .bool (decide ((2 : Int) ≤ v))), (10, .pointer (some ⟨b, 0, none⟩))] = l' ∧ Nj4 :: [(b, .cells [.int .i16 v, .int .i16 (IntKind.i16.wrap x0.1.n), .string ⟨x1.1.s.toArray⟩, .string ⟨x2.1.s.toArray⟩, .string ⟨x3.1.s.toArray⟩, .string ⟨x4.1.s.toArray⟩, .int .i64 0, .int .i64 0, .int .i64 0, .string ⟨#[]⟩, .slice none 0 0, .int .i32 0, .map none].toArray 119 (0, 0))] :: L = L' ∧ RdAt H' 193 b_1 x4.2 Nj4) ?_ (fun l' H' L' le_7 hI => ?_)
    · skip
      refine cd rfl (fun h76 => ?_) (fun h76 => ?_)
      · skip
        refine sr ?_
        refine asg rfl rfl ?_
        refine nl ?_
        refine sq ?_
        refine sr ?_
        refine mv rfl rfl ?_
        refine nl ?_
        refine cT rfl ?_
        refine sr ?_
        refine mv rfl rfl ?_
        refine nl ?_
        refine cdT rfl (by omega) ?_
        refine rg ?_
        have ex4 : x4 = decV 8 (decP [] v true) false true x3.2 := (hx4.trans (step_yes (by decide) (show (3 : Int) ≤ v by omega) (Or.inl (by decide)))).trans (decF'_val (by decide) (rfl))
        refine cl rfl rfl rfl (d8tu hRj3 ex4) rfl (fun v_ H1 L1 le_8 hR_ => ?_)
        obtain ⟨N79, rfl, hR79, rfl, rfl⟩ := hR_
        refine asg rfl rfl ?_
        refine nl ?_
        refine rg ?_
        refine mv rfl rfl ?_
        refine mv rfl rfl ?_
        refine nc rfl rfl ?_
        refine fa0 F119_5 rfl rfl ?_
        refine st Tryd.sizeOf9 rfl rfl rfl rfl (.tail .head) ?_
        refine nN ?_
        refine fun a_ w_ hA hw => ⟨_, _, _, hA.sub ?_, (Fz.le.refl _), hw, N79, rfl, rfl, hR79⟩
        exact (.cons rfl (.cons rfl (.cons rfl (.cons rfl (.nil _)))))
      · skip
        refine skN ?_
        obtain rfl : x4 = ((Tr.mk 0 [] false [] []), x3.2) := (hx4.trans (step_no (Or.inl (show v < (3 : Int) by omega)))).trans (by rw [dflF_eq]; rfl)
        refine fun a_ w_ hA hw => ⟨_, _, _, hA.sub ?_, (Fz.le.refl _), hw, Nj3, rfl, rfl, hRj3⟩
        exact (.cons rfl (.cons rfl (.cons rfl (.cons rfl (.nil _)))))
    · skip
      obtain ⟨Nj4, rfl, rfl, pj0⟩ := hI
      have hRj4 := pj0
      refine sq ?_
      refine sr ?_
      have ex5 : x5 = decV 4 (decP [] v true) false true x4.2 := (hx5.trans (step_yes (by decide) (show (0 : Int) ≤ v by omega) (Or.inl (by decide)))).trans (decF'_val (by decide) (rfl))
      refine cl rfl rfl rfl (d4 hRj4 ex5) rfl (fun v_ H1 L1 hle_ hR_ => ?_)
      obtain ⟨N88, rfl, hR88, rfl, rfl⟩ := hR_
      refine asg rfl rfl ?_
      refine nl ?_
      refine rg ?_
      refine mv rfl rfl ?_
      refine mv rfl rfl ?_
      refine nc rfl rfl ?_
      refine fa0 F119_6 rfl rfl ?_
      refine st Tryd.sizeOf2 rfl rfl rfl rfl (.tail .head) ?_
      refine nl ?_
      refine sq ?_
      refine sr ?_
      have ex6 : x6 = decV 4 (decP [] v true) false true x5.2 := (hx6.trans (step_yes (by decide) (show (0 : Int) ≤ v by omega) (Or.inl (by decide)))).trans (decF'_val (by decide) (rfl))
      refine cl rfl rfl rfl (d4 hR88 ex6) rfl (fun v_ H1 L1 hle_ hR_ => ?_)
      obtain ⟨N93, rfl, hR93, rfl, rfl⟩ := hR_
      refine asg rfl rfl ?_
      refine nl ?_
      refine rg ?_
      refine mv rfl rfl ?_
      refine mv rfl rfl ?_
      refine nc rfl rfl ?_
      refine fa0 F119_7 rfl rfl ?_
      refine st Tryd.sizeOf2 rfl rfl rfl rfl (.tail .head) ?_
      refine nl ?_
      refine sq ?_
      refine sr ?_
      have ex7 : x7 = decV 4 (decP [] v true) false true x6.2 := (hx7.trans (step_yes (by decide) (show (0 : Int) ≤ v by omega) (Or.inl (by decide)))).trans (decF'_val (by decide) (rfl))
      refine cl rfl rfl rfl (d4 hR93 ex7) rfl (fun v_ H1 L1 hle_ hR_ => ?_)
      obtain ⟨N98, rfl, hR98, rfl, rfl⟩ := hR_
      refine asg rfl rfl ?_
      refine nl ?_
      refine rg ?_
      refine mv rfl rfl ?_
      refine mv rfl rfl ?_
      refine nc rfl rfl ?_
      refine fa0 F119_8 rfl rfl ?_
      refine st Tryd.sizeOf2 rfl rfl rfl rfl (.tail .head) ?_
      refine nl ?_
      refine sq ?_
      refine sr ?_
      refine asg rfl rfl ?_
      refine nl ?_
      refine sq ?_
      refine sr ?_
      refine mv rfl rfl ?_
      refine nl ?_
      refine cT rfl ?_
      refine sr ?_
      refine mv rfl rfl ?_
      refine nl ?_
      refine cdT rfl (by omega) ?_
      refine rg ?_
      have ex8 : x8 = decV 8 (decP [] v true) false true x7.2 := (hx8.trans (step_yes (by decide) (show (0 : Int) ≤ v by omega) (Or.inl (by decide)))).trans (decF'_val (by decide) (rfl))
      refine cl rfl rfl rfl (d8tu hR98 ex8) rfl (fun v_ H1 L1 le_12 hR_ => ?_)
      obtain ⟨N105, rfl, hR105, rfl, rfl⟩ := hR_
      refine asg rfl rfl ?_
      refine nl ?_
      refine rg ?_
      refine mv rfl rfl ?_
      refine mv rfl rfl ?_
      refine nc rfl rfl ?_
      refine fa0 F119_9 rfl rfl ?_
      refine st Tryd.sizeOf9 rfl rfl rfl rfl (.tail .head) ?_
      refine nl ?_
      refine sq ?_
      refine sr ?_
      refine asg rfl rfl ?_
      refine nl ?_
      refine sq ?_
      refine sr ?_
      refine mv rfl rfl ?_
      refine nl ?_
      refine cdT rfl (by omega) ?_
      refine rg ?_
      have ex9 : x9 = decV 9 (decP [] v true) false true x8.2 := (hx9.trans (step_yes (by decide) (show (0 : Int) ≤ v by omega) (Or.inl (by decide)))).trans (decF'_val (by decide) (rfl))
      refine cl rfl rfl rfl (d9t hR105 ex9) rfl (fun v_ H1 L1 le_13 hR_ => ?_)
      obtain ⟨N115, rfl, hR115, a9, c9, rfl, hf9⟩ := hR_
      refine asg rfl rfl ?_
      refine nl ?_
      refine rg ?_
      refine mv rfl rfl ?_
      refine mv rfl rfl ?_
      refine nc rfl rfl ?_
      refine fa0 F119_10 rfl rfl ?_
      refine st Tryd.sizeOf22 rfl rfl rfl rfl (.tail .head) ?_
      refine nl ?_
      refine sq ?_
      refine sr ?_
      have ex10 : x10 = decV 3 (decP [] v true) false true x9.2 := (hx10.trans (step_yes (by decide) (show (0 : Int) ≤ v by omega) (Or.inl (by decide)))).trans (decF'_val (by decide) (rfl))
      refine cl rfl rfl rfl (d3 hR115 ex10) rfl (fun v_ H1 L1 hle_ hR_ => ?_)
      obtain ⟨N121, rfl, hR121, rfl, rfl⟩ := hR_
      refine asg rfl rfl ?_
      refine nl ?_
      refine rg ?_
      refine mv rfl rfl ?_
      refine mv rfl rfl ?_
      refine nc rfl rfl ?_
      refine fa0 F119_11 rfl rfl ?_
      refine st Tryd.sizeOf21 rfl rfl rfl rfl (.tail .head) ?_
      refine nl ?_
      refine sq ?_
      refine sr ?_
      refine mv rfl rfl ?_
      refine nl ?_
      refine cdT rfl (by omega) ?_
      refine rg ?_
      refine mv rfl rfl ?_
      refine cl rfl rfl rfl (d_tags hR121) rfl (fun v_ H1 L1 le_15 hR_ => ?_)
      obtain ⟨N128, rfl, hR128, mt, rfl, hft⟩ := hR_
      have hu2 : u = rTags x10.2 := hu
      rw [← hu2] at hR128 hft
      refine nc rfl rfl ?_
      refine fa0 F119_12 rfl rfl ?_
      refine sa Tryd.sizeOf99 rfl rfl rfl rfl rfl (.tail .head) ?_
      refine nl ?_
      refine sr ?_
      refine cl rfl rfl rfl (r_complete hR128 (he.mono (le_5.trans (le_7.trans (le_13.trans le_15))))) rfl (fun v_ H1 L1 hle_ hR_ => ?_)
      obtain ⟨rfl, rfl, rfl⟩ := hR_
      refine asg rfl rfl ?_
      refine nl ?_
      refine drW .head ?_
      have hA_ := (show At_CreateDelegationTokenResponse v _ (decP fs_CreateDelegationTokenResponse v true _).1 [.int .i16 v, .int .i16 (IntKind.i16.wrap x0.1.n), .string ⟨x1.1.s.toArray⟩, .string ⟨x2.1.s.toArray⟩, .string ⟨x3.1.s.toArray⟩, .string ⟨x4.1.s.toArray⟩, .int .i64 x5.1.n, .int .i64 x6.1.n, .int .i64 x7.1.n, .string ⟨x8.1.s.toArray⟩, .slice a9 (sT x9.1).length c9, .int .i32 (IntKind.i32.wrap x10.1.n), .map mt] from (by rw [hD]; exact ⟨a9, c9, mt, rfl, (hf9.mono le_15), hft⟩))
      refine rT rfl rfl (le_5.trans (le_7.trans (le_13.trans le_15))) (fun _ _ h => h) ⟨_, rfl, ?_⟩
      have hz := RdEnd.of (e := e) hA_
      rw [show (decP fs_CreateDelegationTokenResponse v true _).2.bad = u.2.bad by rw [hD]] at hz
      exact hz
end Go.Sx

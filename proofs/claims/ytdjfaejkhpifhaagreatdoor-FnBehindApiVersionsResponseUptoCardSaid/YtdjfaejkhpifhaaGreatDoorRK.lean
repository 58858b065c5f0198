import Derived.Test.YtdjfaejkhpifhaaGreatDoorSxTab
import Derived.Test.YtdjfaejkhpifhaaGreatDoorLibG
import Derived.KernelRfl
set_option linter.unusedVariables false
set_option linter.unusedSimpArgs false
set_option maxRecDepth 100000
set_option maxHeartbeats 20000000
namespace Go.Sx
open Go.Proofs
theorem k_U16 {H : Fz} {L : Own} {a : Option Addr} {c : Nat} {s : List UInt8} (hB : BytesAt H a c s) (hn : 2 ≤ s.length) :
  Fn Tryz.prog 92 [.agg #[], .slice a s.length c] H L (fun v H' L' => H = H' ∧ L = L' ∧ v = .int .u16 ((beN (s.take 2) : Nat) : Int)) := by
 have hb0 := (s[0]'(by omega)).toNat_lt
 have hb1 := (s[1]'(by omega)).toNat_lt
 refine Fn.mk Tryz.call92 Tryz.func92 rfl Tryz.ntmps92 rfl ?_
 refine sr ?_
 refine bx rfl rfl rfl (fun b_1 => ?_)
 refine asg rfl rfl ?_
 refine nl ?_
 refine sr ?_
 refine mv rfl rfl ?_
 obtain ⟨b_2, o_3, e_4, q_5⟩ := hB.at_ (ne_nil_of_lt (show 1 < s.length by omega))
 refine ix2 (j := 1) Tryz.runUnderlying22 Tryz.sizeOf5 rfl e_4 rfl rfl (show 1 < s.length by omega) rfl ?_
 refine ld (Says.fz q_5) Tryz.isAgg5 rfl (by omega) (bytesOf_nth (show 1 < s.length by omega)) rfl ?_
 refine nl ?_
 refine sq ?_
 refine rgD 11 kp1 mixed ?_
 refine dU 0 rfl rfl rfl (y_mv rfl) kp1 ler ?_
 obtain ⟨b_6, o_7, e_8, q_9⟩ := hB.at_ (ne_nil_of_lt (show 1 < s.length by omega))
 refine dU 1 rfl rfl rfl (y_ix2 (j := 1) Tryz.runUnderlying22 Tryz.sizeOf5 rfl e_8 rfl rfl (show 1 < s.length by omega)) kp1 ler ?_
 refine dU 2 rfl rfl rfl (y_ld (Says.fz q_9) Tryz.isAgg5 rfl (by omega) (bytesOf_nth (show 1 < s.length by omega))) kp1 ler ?_
 refine dU 3 rfl rfl rfl (y_cv Tryz.runUnderlying5 Tryz.runUnderlying90 rfl (cvb _ (by simp))) kp1 ler ?_
 refine dU 4 rfl rfl rfl (y_mv rfl) kp1 ler ?_
 obtain ⟨b_10, o_11, e_12, q_13⟩ := hB.at_ (ne_nil_of_lt (show 0 < s.length by omega))
 refine dU 5 rfl rfl rfl (y_ix2 (j := 0) Tryz.runUnderlying22 Tryz.sizeOf5 rfl e_12 rfl rfl (show 0 < s.length by omega)) kp1 ler ?_
 refine dU 6 rfl rfl rfl (y_ld (Says.fz q_13) Tryz.isAgg5 rfl (by omega) (bytesOf_nth (show 0 < s.length by omega))) kp1 ler ?_
 refine dU 7 rfl rfl rfl (y_cv Tryz.runUnderlying5 Tryz.runUnderlying90 rfl (cvb _ (by simp))) kp1 ler ?_
 refine dU 8 rfl rfl rfl (y_shl rfl rfl (by decide) (shl_u16 (j := 8) (by decide) (by omega))) kp1 ler ?_
 refine dU 9 rfl rfl rfl (y_or rfl rfl (or_u16 (j := 8) (by omega) (by omega))) kp1 ler ?_
 refine dU 10 rfl rfl rfl (y_asg rfl) kp1 ler ?_
 refine dD (by kernel_rfl) ?_
 refine Nt ?_
 refine drW .head ?_
 exact rT rfl rfl ler (fun _ _ h => h) ⟨rfl, rfl, by rw [be2 hn]⟩
theorem k_U32 {H : Fz} {L : Own} {a : Option Addr} {c : Nat} {s : List UInt8} (hB : BytesAt H a c s) (hn : 4 ≤ s.length) :
  Fn Tryz.prog 94 [.agg #[], .slice a s.length c] H L (fun v H' L' => H = H' ∧ L = L' ∧ v = .int .u32 ((beN (s.take 4) : Nat) : Int)) := by
 have hb0 := (s[0]'(by omega)).toNat_lt
 have hb1 := (s[1]'(by omega)).toNat_lt
 have hb2 := (s[2]'(by omega)).toNat_lt
 have hb3 := (s[3]'(by omega)).toNat_lt
 refine Fn.mk Tryz.call94 Tryz.func94 rfl Tryz.ntmps94 rfl ?_
 refine sr ?_
 refine bx rfl rfl rfl (fun b_1 => ?_)
 refine asg rfl rfl ?_
 refine nl ?_
 refine sr ?_
 refine mv rfl rfl ?_
 obtain ⟨b_2, o_3, e_4, q_5⟩ := hB.at_ (ne_nil_of_lt (show 3 < s.length by omega))
 refine ix2 (j := 3) Tryz.runUnderlying22 Tryz.sizeOf5 rfl e_4 rfl rfl (show 3 < s.length by omega) rfl ?_
 refine ld (Says.fz q_5) Tryz.isAgg5 rfl (by omega) (bytesOf_nth (show 3 < s.length by omega)) rfl ?_
 refine nl ?_
 refine sq ?_
 refine rgD 23 kp1 mixed ?_
 refine dU 0 rfl rfl rfl (y_mv rfl) kp1 ler ?_
 obtain ⟨b_6, o_7, e_8, q_9⟩ := hB.at_ (ne_nil_of_lt (show 3 < s.length by omega))
 refine dU 1 rfl rfl rfl (y_ix2 (j := 3) Tryz.runUnderlying22 Tryz.sizeOf5 rfl e_8 rfl rfl (show 3 < s.length by omega)) kp1 ler ?_
 refine dU 2 rfl rfl rfl (y_ld (Says.fz q_9) Tryz.isAgg5 rfl (by omega) (bytesOf_nth (show 3 < s.length by omega))) kp1 ler ?_
 refine dU 3 rfl rfl rfl (y_cv Tryz.runUnderlying5 Tryz.runUnderlying55 rfl (cvb _ (by simp))) kp1 ler ?_
 refine dU 4 rfl rfl rfl (y_mv rfl) kp1 ler ?_
 obtain ⟨b_10, o_11, e_12, q_13⟩ := hB.at_ (ne_nil_of_lt (show 2 < s.length by omega))
 refine dU 5 rfl rfl rfl (y_ix2 (j := 2) Tryz.runUnderlying22 Tryz.sizeOf5 rfl e_12 rfl rfl (show 2 < s.length by omega)) kp1 ler ?_
 refine dU 6 rfl rfl rfl (y_ld (Says.fz q_13) Tryz.isAgg5 rfl (by omega) (bytesOf_nth (show 2 < s.length by omega))) kp1 ler ?_
 refine dU 7 rfl rfl rfl (y_cv Tryz.runUnderlying5 Tryz.runUnderlying55 rfl (cvb _ (by simp))) kp1 ler ?_
 refine dU 8 rfl rfl rfl (y_shl rfl rfl (by decide) (shl_u32 (j := 8) (by decide) (by omega))) kp1 ler ?_
 refine dU 9 rfl rfl rfl (y_or rfl rfl (or_u32 (j := 8) (by omega) (by omega))) kp1 ler ?_
 refine dU 10 rfl rfl rfl (y_mv rfl) kp1 ler ?_
 obtain ⟨b_14, o_15, e_16, q_17⟩ := hB.at_ (ne_nil_of_lt (show 1 < s.length by omega))
 refine dU 11 rfl rfl rfl (y_ix2 (j := 1) Tryz.runUnderlying22 Tryz.sizeOf5 rfl e_16 rfl rfl (show 1 < s.length by omega)) kp1 ler ?_
 refine dU 12 rfl rfl rfl (y_ld (Says.fz q_17) Tryz.isAgg5 rfl (by omega) (bytesOf_nth (show 1 < s.length by omega))) kp1 ler ?_
 refine dU 13 rfl rfl rfl (y_cv Tryz.runUnderlying5 Tryz.runUnderlying55 rfl (cvb _ (by simp))) kp1 ler ?_
 refine dU 14 rfl rfl rfl (y_shl rfl rfl (by decide) (shl_u32 (j := 16) (by decide) (by omega))) kp1 ler ?_
 refine dU 15 rfl rfl rfl (y_or rfl rfl (or_u32 (j := 16) (by omega) (by omega))) kp1 ler ?_
 refine dU 16 rfl rfl rfl (y_mv rfl) kp1 ler ?_
 obtain ⟨b_18, o_19, e_20, q_21⟩ := hB.at_ (ne_nil_of_lt (show 0 < s.length by omega))
 refine dU 17 rfl rfl rfl (y_ix2 (j := 0) Tryz.runUnderlying22 Tryz.sizeOf5 rfl e_20 rfl rfl (show 0 < s.length by omega)) kp1 ler ?_
 refine dU 18 rfl rfl rfl (y_ld (Says.fz q_21) Tryz.isAgg5 rfl (by omega) (bytesOf_nth (show 0 < s.length by omega))) kp1 ler ?_
 refine dU 19 rfl rfl rfl (y_cv Tryz.runUnderlying5 Tryz.runUnderlying55 rfl (cvb _ (by simp))) kp1 ler ?_
 refine dU 20 rfl rfl rfl (y_shl rfl rfl (by decide) (shl_u32 (j := 24) (by decide) (by omega))) kp1 ler ?_
 refine dU 21 rfl rfl rfl (y_or rfl rfl (or_u32 (j := 24) (by omega) (by omega))) kp1 ler ?_
 refine dU 22 rfl rfl rfl (y_asg rfl) kp1 ler ?_
 refine dD (by kernel_rfl) ?_
 refine Nt ?_
 refine drW .head ?_
 exact rT rfl rfl ler (fun _ _ h => h) ⟨rfl, rfl, by rw [be4 hn]⟩
theorem k_U64 {H : Fz} {L : Own} {a : Option Addr} {c : Nat} {s : List UInt8} (hB : BytesAt H a c s) (hn : 8 ≤ s.length) :
  Fn Tryz.prog 105 [.agg #[], .slice a s.length c] H L (fun v H' L' => H = H' ∧ L = L' ∧ v = .int .u64 ((beN (s.take 8) : Nat) : Int)) := by
 have hb0 := (s[0]'(by omega)).toNat_lt
 have hb1 := (s[1]'(by omega)).toNat_lt
 have hb2 := (s[2]'(by omega)).toNat_lt
 have hb3 := (s[3]'(by omega)).toNat_lt
 have hb4 := (s[4]'(by omega)).toNat_lt
 have hb5 := (s[5]'(by omega)).toNat_lt
 have hb6 := (s[6]'(by omega)).toNat_lt
 have hb7 := (s[7]'(by omega)).toNat_lt
 refine Fn.mk Tryz.call105 Tryz.func105 rfl Tryz.ntmps105 rfl ?_
 refine sr ?_
 refine bx rfl rfl rfl (fun b_1 => ?_)
 refine asg rfl rfl ?_
 refine nl ?_
 refine sr ?_
 refine mv rfl rfl ?_
 obtain ⟨b_2, o_3, e_4, q_5⟩ := hB.at_ (ne_nil_of_lt (show 7 < s.length by omega))
 refine ix2 (j := 7) Tryz.runUnderlying22 Tryz.sizeOf5 rfl e_4 rfl rfl (show 7 < s.length by omega) rfl ?_
 refine ld (Says.fz q_5) Tryz.isAgg5 rfl (by omega) (bytesOf_nth (show 7 < s.length by omega)) rfl ?_
 refine nl ?_
 refine sq ?_
 refine rgD 47 kp1 mixed ?_
 refine dU 0 rfl rfl rfl (y_mv rfl) kp1 ler ?_
 obtain ⟨b_6, o_7, e_8, q_9⟩ := hB.at_ (ne_nil_of_lt (show 7 < s.length by omega))
 refine dU 1 rfl rfl rfl (y_ix2 (j := 7) Tryz.runUnderlying22 Tryz.sizeOf5 rfl e_8 rfl rfl (show 7 < s.length by omega)) kp1 ler ?_
 refine dU 2 rfl rfl rfl (y_ld (Says.fz q_9) Tryz.isAgg5 rfl (by omega) (bytesOf_nth (show 7 < s.length by omega))) kp1 ler ?_
 refine dU 3 rfl rfl rfl (y_cv Tryz.runUnderlying5 Tryz.runUnderlying72 rfl (cvb _ (by simp))) kp1 ler ?_
 refine dU 4 rfl rfl rfl (y_mv rfl) kp1 ler ?_
 obtain ⟨b_10, o_11, e_12, q_13⟩ := hB.at_ (ne_nil_of_lt (show 6 < s.length by omega))
 refine dU 5 rfl rfl rfl (y_ix2 (j := 6) Tryz.runUnderlying22 Tryz.sizeOf5 rfl e_12 rfl rfl (show 6 < s.length by omega)) kp1 ler ?_
 refine dU 6 rfl rfl rfl (y_ld (Says.fz q_13) Tryz.isAgg5 rfl (by omega) (bytesOf_nth (show 6 < s.length by omega))) kp1 ler ?_
 refine dU 7 rfl rfl rfl (y_cv Tryz.runUnderlying5 Tryz.runUnderlying72 rfl (cvb _ (by simp))) kp1 ler ?_
 refine dU 8 rfl rfl rfl (y_shl rfl rfl (by decide) (shl_u64 (j := 8) (by decide) (by omega))) kp1 ler ?_
 refine dU 9 rfl rfl rfl (y_or rfl rfl (or_u64 (j := 8) (by omega) (by omega))) kp1 ler ?_
 refine dU 10 rfl rfl rfl (y_mv rfl) kp1 ler ?_
 obtain ⟨b_14, o_15, e_16, q_17⟩ := hB.at_ (ne_nil_of_lt (show 5 < s.length by omega))
 refine dU 11 rfl rfl rfl (y_ix2 (j := 5) Tryz.runUnderlying22 Tryz.sizeOf5 rfl e_16 rfl rfl (show 5 < s.length by omega)) kp1 ler ?_
 refine dU 12 rfl rfl rfl (y_ld (Says.fz q_17) Tryz.isAgg5 rfl (by omega) (bytesOf_nth (show 5 < s.length by omega))) kp1 ler ?_
 refine dU 13 rfl rfl rfl (y_cv Tryz.runUnderlying5 Tryz.runUnderlying72 rfl (cvb _ (by simp))) kp1 ler ?_
 refine dU 14 rfl rfl rfl (y_shl rfl rfl (by decide) (shl_u64 (j := 16) (by decide) (by omega))) kp1 ler ?_
 refine dU 15 rfl rfl rfl (y_or rfl rfl (or_u64 (j := 16) (by omega) (by omega))) kp1 ler ?_
 refine dU 16 rfl rfl rfl (y_mv rfl) kp1 ler ?_
 obtain ⟨b_18, o_19, e_20, q_21⟩ := hB.at_ (ne_nil_of_lt (show 4 < s.length by omega))
 refine dU 17 rfl rfl rfl (y_ix2 (j := 4) Tryz.runUnderlying22 Tryz.sizeOf5 rfl e_20 rfl rfl (show 4 < s.length by omega)) kp1 ler ?_
 refine dU 18 rfl rfl rfl (y_ld (Says.fz q_21) Tryz.isAgg5 rfl (by omega) (bytesOf_nth (show 4 < s.length by omega))) kp1 ler ?_
 refine dU 19 rfl rfl rfl (y_cv Tryz.runUnderlying5 Tryz.runUnderlying72 rfl (cvb _ (by simp))) kp1 ler ?_
 refine dU 20 rfl rfl rfl (y_shl rfl rfl (by decide) (shl_u64 (j := 24) (by decide) (by omega))) kp1 ler ?_
 refine dU 21 rfl rfl rfl (y_or rfl rfl (or_u64 (j := 24) (by omega) (by omega))) kp1 ler ?_
 refine dU 22 rfl rfl rfl (y_mv rfl) kp1 ler ?_
 obtain ⟨b_22, o_23, e_24, q_25⟩ := hB.at_ (ne_nil_of_lt (show 3 < s.length by omega))
 refine dU 23 rfl rfl rfl (y_ix2 (j := 3) Tryz.runUnderlying22 Tryz.sizeOf5 rfl e_24 rfl rfl (show 3 < s.length by omega)) kp1 ler ?_
 refine dU 24 rfl rfl rfl (y_ld (Says.fz q_25) Tryz.isAgg5 rfl (by omega) (bytesOf_nth (show 3 < s.length by omega))) kp1 ler ?_
 refine dU 25 rfl rfl rfl (y_cv Tryz.runUnderlying5 Tryz.runUnderlying72 rfl (cvb _ (by simp))) kp1 ler ?_
 refine dU 26 rfl rfl rfl (y_shl rfl rfl (by decide) (shl_u64 (j := 32) (by decide) (by omega))) kp1 ler ?_
 refine dU 27 rfl rfl rfl (y_or rfl rfl (or_u64 (j := 32) (by omega) (by omega))) kp1 ler ?_
 refine dU 28 rfl rfl rfl (y_mv rfl) kp1 ler ?_
 obtain ⟨b_26, o_27, e_28, q_29⟩ := hB.at_ (ne_nil_of_lt (show 2 < s.length by omega))
 refine dU 29 rfl rfl rfl (y_ix2 (j := 2) Tryz.runUnderlying22 Tryz.sizeOf5 rfl e_28 rfl rfl (show 2 < s.length by omega)) kp1 ler ?_
 refine dU 30 rfl rfl rfl (y_ld (Says.fz q_29) Tryz.isAgg5 rfl (by omega) (bytesOf_nth (show 2 < s.length by omega))) kp1 ler ?_
 refine dU 31 rfl rfl rfl (y_cv Tryz.runUnderlying5 Tryz.runUnderlying72 rfl (cvb _ (by simp))) kp1 ler ?_
 refine dU 32 rfl rfl rfl (y_shl rfl rfl (by decide) (shl_u64 (j := 40) (by decide) (by omega))) kp1 ler ?_
 refine dU 33 rfl rfl rfl (y_or rfl rfl (or_u64 (j := 40) (by omega) (by omega))) kp1 ler ?_
 refine dU 34 rfl rfl rfl (y_mv rfl) kp1 ler ?_
 obtain ⟨b_30, o_31, e_32, q_33⟩ := hB.at_ (ne_nil_of_lt (show 1 < s.length by omega))
 refine dU 35 rfl rfl rfl (y_ix2 (j := 1) Tryz.runUnderlying22 Tryz.sizeOf5 rfl e_32 rfl rfl (show 1 < s.length by omega)) kp1 ler ?_
 refine dU 36 rfl rfl rfl (y_ld (Says.fz q_33) Tryz.isAgg5 rfl (by omega) (bytesOf_nth (show 1 < s.length by omega))) kp1 ler ?_
 refine dU 37 rfl rfl rfl (y_cv Tryz.runUnderlying5 Tryz.runUnderlying72 rfl (cvb _ (by simp))) kp1 ler ?_
 refine dU 38 rfl rfl rfl (y_shl rfl rfl (by decide) (shl_u64 (j := 48) (by decide) (by omega))) kp1 ler ?_
 refine dU 39 rfl rfl rfl (y_or rfl rfl (or_u64 (j := 48) (by omega) (by omega))) kp1 ler ?_
 refine dU 40 rfl rfl rfl (y_mv rfl) kp1 ler ?_
 obtain ⟨b_34, o_35, e_36, q_37⟩ := hB.at_ (ne_nil_of_lt (show 0 < s.length by omega))
 refine dU 41 rfl rfl rfl (y_ix2 (j := 0) Tryz.runUnderlying22 Tryz.sizeOf5 rfl e_36 rfl rfl (show 0 < s.length by omega)) kp1 ler ?_
 refine dU 42 rfl rfl rfl (y_ld (Says.fz q_37) Tryz.isAgg5 rfl (by omega) (bytesOf_nth (show 0 < s.length by omega))) kp1 ler ?_
 refine dU 43 rfl rfl rfl (y_cv Tryz.runUnderlying5 Tryz.runUnderlying72 rfl (cvb _ (by simp))) kp1 ler ?_
 refine dU 44 rfl rfl rfl (y_shl rfl rfl (by decide) (shl_u64 (j := 56) (by decide) (by omega))) kp1 ler ?_
 refine dU 45 rfl rfl rfl (y_or rfl rfl (or_u64 (j := 56) (by omega) (by omega))) kp1 ler ?_
 refine dU 46 rfl rfl rfl (y_asg rfl) kp1 ler ?_
 refine dD (by kernel_rfl) ?_
 refine Nt ?_
 refine drW .head ?_
 exact rT rfl rfl ler (fun _ _ h => h) ⟨rfl, rfl, by rw [be8 hn]⟩
theorem r_Bool {H : Fz} {L : Own} {b : Nat} {r : Rd} {N : Chunk} (hR : RdAt H 117 b r N) :
  Fn Tryz.prog 76 [.pointer (some ⟨b, 0, none⟩)] H (N :: L) (fun v H' L' => H = H' ∧ ∃ N', L' = N' :: L ∧ RdAt H 117 b (rN 1 r).2 N' ∧ v = .bool (decide ((rN 1 r).1 ≠ 0))) := by
 obtain ⟨a, c, rfl, hB, hnn⟩ := hR
 refine Fn.mk Tryz.call76 Tryz.func76 rfl Tryz.ntmps76 rfl ?_
 refine sr ?_
 refine asg rfl rfl ?_
 refine nl ?_
 refine sq ?_
 refine sr ?_
 refine mv rfl rfl ?_
 refine nc rfl rfl ?_
 refine fa0 F117_0 rfl rfl ?_
 refine ld (Says.own .head) Tryz.isAgg22 rfl (Nat.zero_add _).symm rfl rfl ?_
 refine ls Tryz.runUnderlying22 rfl rfl ?_
 refine lt rfl rfl rfl ?_
 refine nl ?_
 refine cd rfl (fun h9 => ?_) (fun h9 => ?_)
 ·
  have e : rN 1 r = (0, .out) := by unfold rN; rw [if_pos (by omega)]
  refine sr ?_
  refine mv rfl rfl ?_
  refine nc rfl rfl ?_
  refine fa0 F117_1 rfl rfl ?_
  refine st Tryz.sizeOf4 rfl rfl rfl rfl .head ?_
  refine nl ?_
  refine sr ?_
  refine mv rfl rfl ?_
  refine nc rfl rfl ?_
  refine fa0 F117_0 rfl rfl ?_
  refine st Tryz.sizeOf22 rfl rfl rfl rfl .head ?_
  refine nl ?_
  refine sr ?_
  refine asg rfl rfl ?_
  refine nl ?_
  exact rT rfl rfl ler (fun _ _ h => h) ⟨rfl, _, rfl, by rw [e]; exact RdAt.out _ _ _, by rw [e]; rfl⟩
 ·
  have hn : 1 ≤ r.s.length := by omega
  have e : rN 1 r = (beN (r.s.take 1), ⟨r.s.drop 1, r.bad, true⟩) := by unfold rN; rw [if_neg (by omega)]
  refine skt ?_
  refine sr ?_
  refine mv rfl rfl ?_
  refine nc rfl rfl ?_
  refine fa0 F117_0 rfl rfl ?_
  refine ld (Says.own .head) Tryz.isAgg22 rfl (Nat.zero_add _).symm rfl rfl ?_
  obtain ⟨b_1, o_2, e_3, q_4⟩ := hB.at_ (ne_nil_of_lt (show 0 < r.s.length by omega))
  refine ix2 (j := 0) Tryz.runUnderlying22 Tryz.sizeOf5 rfl e_3 rfl rfl (show 0 < r.s.length by omega) rfl ?_
  refine ld (Says.fz q_4) Tryz.isAgg5 rfl (by omega) (bytesOf_nth (show 0 < r.s.length by omega)) rfl ?_
  refine ne' rfl rfl rfl ?_
  refine asg rfl rfl ?_
  refine nl ?_
  refine sr ?_
  refine mv rfl rfl ?_
  refine mv rfl rfl ?_
  refine nc rfl rfl ?_
  refine fa0 F117_0 rfl rfl ?_
  refine ld (Says.own .head) Tryz.isAgg22 rfl (Nat.zero_add _).symm rfl rfl ?_
  refine slo Tryz.runUnderlying22 Tryz.sizeOf5 rfl rfl hB rfl (j := 1) rfl (by omega) rfl (fun a' ha' hB' => ?_)
  refine nc rfl rfl ?_
  refine fa0 F117_0 rfl rfl ?_
  refine st Tryz.sizeOf22 rfl rfl rfl rfl .head ?_
  refine nl ?_
  refine sr ?_
  refine mv rfl rfl ?_
  refine asg rfl rfl ?_
  refine nl ?_
  exact rT rfl rfl ler (fun _ _ h => h) ⟨rfl, _, rfl, by rw [e]; exact ⟨a', c - 1, rfl, hB', by rw [ha', hB.some (ne_of_len hn)]; rfl⟩, by rw [e]; simp only [be1 hn]; congr 1; apply decide_eq_decide.2; omega⟩
theorem r_Int16 {H : Fz} {L : Own} {b : Nat} {r : Rd} {N : Chunk} (hR : RdAt H 117 b r N) :
  Fn Tryz.prog 64 [.pointer (some ⟨b, 0, none⟩)] H (N :: L) (fun v H' L' => H = H' ∧ ∃ N', L' = N' :: L ∧ RdAt H 117 b (rN 2 r).2 N' ∧ v = .int .i16 (IntKind.i16.wrap (rN 2 r).1)) := by
 obtain ⟨a, c, rfl, hB, hnn⟩ := hR
 refine Fn.mk Tryz.call64 Tryz.func64 rfl Tryz.ntmps64 rfl ?_
 refine sr ?_
 refine asg rfl rfl ?_
 refine nl ?_
 refine sq ?_
 refine sr ?_
 refine mv rfl rfl ?_
 refine nc rfl rfl ?_
 refine fa0 F117_0 rfl rfl ?_
 refine ld (Says.own .head) Tryz.isAgg22 rfl (Nat.zero_add _).symm rfl rfl ?_
 refine ls Tryz.runUnderlying22 rfl rfl ?_
 refine lt rfl rfl rfl ?_
 refine nl ?_
 refine cd rfl (fun h9 => ?_) (fun h9 => ?_)
 ·
  have e : rN 2 r = (0, .out) := by unfold rN; rw [if_pos (by omega)]
  refine sr ?_
  refine mv rfl rfl ?_
  refine nc rfl rfl ?_
  refine fa0 F117_1 rfl rfl ?_
  refine st Tryz.sizeOf4 rfl rfl rfl rfl .head ?_
  refine nl ?_
  refine sr ?_
  refine mv rfl rfl ?_
  refine nc rfl rfl ?_
  refine fa0 F117_0 rfl rfl ?_
  refine st Tryz.sizeOf22 rfl rfl rfl rfl .head ?_
  refine nl ?_
  refine sr ?_
  refine asg rfl rfl ?_
  refine nl ?_
  exact rT rfl rfl ler (fun _ _ h => h) ⟨rfl, _, rfl, by rw [e]; exact RdAt.out _ _ _, by rw [e]; rfl⟩
 ·
  have hn : 2 ≤ r.s.length := by omega
  have e : rN 2 r = (beN (r.s.take 2), ⟨r.s.drop 2, r.bad, true⟩) := by unfold rN; rw [if_neg (by omega)]
  refine skt ?_
  refine sq ?_
  refine rgD 8 kp1 mixed ?_
  refine dU 0 rfl rfl rfl (y_la0 Tryz.isAgg134 Tryz.sizeOf134 rfl) kp1 ler ?_
  refine dU 1 rfl rfl rfl (y_mv rfl) kp1 ler ?_
  refine dU 2 rfl rfl rfl (y_nc rfl) kp1 ler ?_
  refine dU 3 rfl rfl rfl (y_fa0 F117_0 rfl) kp1 ler ?_
  refine dU 4 rfl rfl rfl (y_ld (Says.own .head) Tryz.isAgg22 rfl (Nat.zero_add _).symm rfl) kp1 ler ?_
  refine dE 5 (by kernel_rfl) rfl ?_
  refine cl rfl rfl rfl (k_U16 hB hn) rfl (fun v_ H1 L1 hle hR => ?_)
  obtain ⟨rfl, rfl, rfl⟩ := hR
  refine dN kp1 ler ?_
  refine dU 6 rfl rfl rfl (y_cv Tryz.runUnderlying90 Tryz.runUnderlying40 rfl rfl) kp1 ler ?_
  refine dU 7 rfl rfl rfl (y_asg rfl) kp1 ler ?_
  refine dD (by kernel_rfl) ?_
  refine Nt ?_
  refine sr ?_
  refine mv rfl rfl ?_
  refine mv rfl rfl ?_
  refine nc rfl rfl ?_
  refine fa0 F117_0 rfl rfl ?_
  refine ld (Says.own .head) Tryz.isAgg22 rfl (Nat.zero_add _).symm rfl rfl ?_
  refine slo Tryz.runUnderlying22 Tryz.sizeOf5 rfl rfl hB rfl (j := 2) rfl (by omega) rfl (fun a' ha' hB' => ?_)
  refine nc rfl rfl ?_
  refine fa0 F117_0 rfl rfl ?_
  refine st Tryz.sizeOf22 rfl rfl rfl rfl .head ?_
  refine nl ?_
  refine sr ?_
  refine mv rfl rfl ?_
  refine asg rfl rfl ?_
  refine nl ?_
  exact rT rfl rfl ler (fun _ _ h => h) ⟨rfl, _, rfl, by rw [e]; exact ⟨a', c - 2, rfl, hB', by rw [ha', hB.some (ne_of_len hn)]; rfl⟩, by rw [e]⟩
theorem r_Uint16 {H : Fz} {L : Own} {b : Nat} {r : Rd} {N : Chunk} (hR : RdAt H 117 b r N) :
  Fn Tryz.prog 82 [.pointer (some ⟨b, 0, none⟩)] H (N :: L) (fun v H' L' => H = H' ∧ ∃ N', L' = N' :: L ∧ RdAt H 117 b (rN 2 r).2 N' ∧ v = .int .u16 ((rN 2 r).1 : Nat)) := by
 obtain ⟨a, c, rfl, hB, hnn⟩ := hR
 refine Fn.mk Tryz.call82 Tryz.func82 rfl Tryz.ntmps82 rfl ?_
 refine sr ?_
 refine asg rfl rfl ?_
 refine nl ?_
 refine sq ?_
 refine sr ?_
 refine mv rfl rfl ?_
 refine nc rfl rfl ?_
 refine fa0 F117_0 rfl rfl ?_
 refine ld (Says.own .head) Tryz.isAgg22 rfl (Nat.zero_add _).symm rfl rfl ?_
 refine ls Tryz.runUnderlying22 rfl rfl ?_
 refine lt rfl rfl rfl ?_
 refine nl ?_
 refine cd rfl (fun h9 => ?_) (fun h9 => ?_)
 ·
  have e : rN 2 r = (0, .out) := by unfold rN; rw [if_pos (by omega)]
  refine sr ?_
  refine mv rfl rfl ?_
  refine nc rfl rfl ?_
  refine fa0 F117_1 rfl rfl ?_
  refine st Tryz.sizeOf4 rfl rfl rfl rfl .head ?_
  refine nl ?_
  refine sr ?_
  refine mv rfl rfl ?_
  refine nc rfl rfl ?_
  refine fa0 F117_0 rfl rfl ?_
  refine st Tryz.sizeOf22 rfl rfl rfl rfl .head ?_
  refine nl ?_
  refine sr ?_
  refine asg rfl rfl ?_
  refine nl ?_
  exact rT rfl rfl ler (fun _ _ h => h) ⟨rfl, _, rfl, by rw [e]; exact RdAt.out _ _ _, by rw [e]; rfl⟩
 ·
  have hn : 2 ≤ r.s.length := by omega
  have e : rN 2 r = (beN (r.s.take 2), ⟨r.s.drop 2, r.bad, true⟩) := by unfold rN; rw [if_neg (by omega)]
  refine skt ?_
  refine sq ?_
  refine rgD 7 kp1 mixed ?_
  refine dU 0 rfl rfl rfl (y_la0 Tryz.isAgg134 Tryz.sizeOf134 rfl) kp1 ler ?_
  refine dU 1 rfl rfl rfl (y_mv rfl) kp1 ler ?_
  refine dU 2 rfl rfl rfl (y_nc rfl) kp1 ler ?_
  refine dU 3 rfl rfl rfl (y_fa0 F117_0 rfl) kp1 ler ?_
  refine dU 4 rfl rfl rfl (y_ld (Says.own .head) Tryz.isAgg22 rfl (Nat.zero_add _).symm rfl) kp1 ler ?_
  refine dE 5 (by kernel_rfl) rfl ?_
  refine cl rfl rfl rfl (k_U16 hB hn) rfl (fun v_ H1 L1 hle hR => ?_)
  obtain ⟨rfl, rfl, rfl⟩ := hR
  refine dN kp1 ler ?_
  refine dU 6 rfl rfl rfl (y_asg rfl) kp1 ler ?_
  refine dD (by kernel_rfl) ?_
  refine Nt ?_
  refine sr ?_
  refine mv rfl rfl ?_
  refine mv rfl rfl ?_
  refine nc rfl rfl ?_
  refine fa0 F117_0 rfl rfl ?_
  refine ld (Says.own .head) Tryz.isAgg22 rfl (Nat.zero_add _).symm rfl rfl ?_
  refine slo Tryz.runUnderlying22 Tryz.sizeOf5 rfl rfl hB rfl (j := 2) rfl (by omega) rfl (fun a' ha' hB' => ?_)
  refine nc rfl rfl ?_
  refine fa0 F117_0 rfl rfl ?_
  refine st Tryz.sizeOf22 rfl rfl rfl rfl .head ?_
  refine nl ?_
  refine sr ?_
  refine mv rfl rfl ?_
  refine asg rfl rfl ?_
  refine nl ?_
  exact rT rfl rfl ler (fun _ _ h => h) ⟨rfl, _, rfl, by rw [e]; exact ⟨a', c - 2, rfl, hB', by rw [ha', hB.some (ne_of_len hn)]; rfl⟩, by rw [e]⟩
theorem r_Int32 {H : Fz} {L : Own} {b : Nat} {r : Rd} {N : Chunk} (hR : RdAt H 117 b r N) :
  Fn Tryz.prog 75 [.pointer (some ⟨b, 0, none⟩)] H (N :: L) (fun v H' L' => H = H' ∧ ∃ N', L' = N' :: L ∧ RdAt H 117 b (rN 4 r).2 N' ∧ v = .int .i32 (IntKind.i32.wrap (rN 4 r).1)) := by
 obtain ⟨a, c, rfl, hB, hnn⟩ := hR
 refine Fn.mk Tryz.call75 Tryz.func75 rfl Tryz.ntmps75 rfl ?_
 refine sr ?_
 refine asg rfl rfl ?_
 refine nl ?_
 refine sq ?_
 refine sr ?_
 refine mv rfl rfl ?_
 refine nc rfl rfl ?_
 refine fa0 F117_0 rfl rfl ?_
 refine ld (Says.own .head) Tryz.isAgg22 rfl (Nat.zero_add _).symm rfl rfl ?_
 refine ls Tryz.runUnderlying22 rfl rfl ?_
 refine lt rfl rfl rfl ?_
 refine nl ?_
 refine cd rfl (fun h9 => ?_) (fun h9 => ?_)
 ·
  have e : rN 4 r = (0, .out) := by unfold rN; rw [if_pos (by omega)]
  refine sr ?_
  refine mv rfl rfl ?_
  refine nc rfl rfl ?_
  refine fa0 F117_1 rfl rfl ?_
  refine st Tryz.sizeOf4 rfl rfl rfl rfl .head ?_
  refine nl ?_
  refine sr ?_
  refine mv rfl rfl ?_
  refine nc rfl rfl ?_
  refine fa0 F117_0 rfl rfl ?_
  refine st Tryz.sizeOf22 rfl rfl rfl rfl .head ?_
  refine nl ?_
  refine sr ?_
  refine asg rfl rfl ?_
  refine nl ?_
  exact rT rfl rfl ler (fun _ _ h => h) ⟨rfl, _, rfl, by rw [e]; exact RdAt.out _ _ _, by rw [e]; rfl⟩
 ·
  have hn : 4 ≤ r.s.length := by omega
  have e : rN 4 r = (beN (r.s.take 4), ⟨r.s.drop 4, r.bad, true⟩) := by unfold rN; rw [if_neg (by omega)]
  refine skt ?_
  refine sq ?_
  refine rgD 8 kp1 mixed ?_
  refine dU 0 rfl rfl rfl (y_la0 Tryz.isAgg134 Tryz.sizeOf134 rfl) kp1 ler ?_
  refine dU 1 rfl rfl rfl (y_mv rfl) kp1 ler ?_
  refine dU 2 rfl rfl rfl (y_nc rfl) kp1 ler ?_
  refine dU 3 rfl rfl rfl (y_fa0 F117_0 rfl) kp1 ler ?_
  refine dU 4 rfl rfl rfl (y_ld (Says.own .head) Tryz.isAgg22 rfl (Nat.zero_add _).symm rfl) kp1 ler ?_
  refine dE 5 (by kernel_rfl) rfl ?_
  refine cl rfl rfl rfl (k_U32 hB hn) rfl (fun v_ H1 L1 hle hR => ?_)
  obtain ⟨rfl, rfl, rfl⟩ := hR
  refine dN kp1 ler ?_
  refine dU 6 rfl rfl rfl (y_cv Tryz.runUnderlying55 Tryz.runUnderlying21 rfl rfl) kp1 ler ?_
  refine dU 7 rfl rfl rfl (y_asg rfl) kp1 ler ?_
  refine dD (by kernel_rfl) ?_
  refine Nt ?_
  refine sr ?_
  refine mv rfl rfl ?_
  refine mv rfl rfl ?_
  refine nc rfl rfl ?_
  refine fa0 F117_0 rfl rfl ?_
  refine ld (Says.own .head) Tryz.isAgg22 rfl (Nat.zero_add _).symm rfl rfl ?_
  refine slo Tryz.runUnderlying22 Tryz.sizeOf5 rfl rfl hB rfl (j := 4) rfl (by omega) rfl (fun a' ha' hB' => ?_)
  refine nc rfl rfl ?_
  refine fa0 F117_0 rfl rfl ?_
  refine st Tryz.sizeOf22 rfl rfl rfl rfl .head ?_
  refine nl ?_
  refine sr ?_
  refine mv rfl rfl ?_
  refine asg rfl rfl ?_
  refine nl ?_
  exact rT rfl rfl ler (fun _ _ h => h) ⟨rfl, _, rfl, by rw [e]; exact ⟨a', c - 4, rfl, hB', by rw [ha', hB.some (ne_of_len hn)]; rfl⟩, by rw [e]⟩
theorem r_readUint64 {H : Fz} {L : Own} {b : Nat} {r : Rd} {N : Chunk} (hR : RdAt H 117 b r N) :
  Fn Tryz.prog 99 [.pointer (some ⟨b, 0, none⟩)] H (N :: L) (fun v H' L' => H = H' ∧ ∃ N', L' = N' :: L ∧ RdAt H 117 b (rN 8 r).2 N' ∧ v = .int .u64 ((rN 8 r).1 : Nat)) := by
 obtain ⟨a, c, rfl, hB, hnn⟩ := hR
 refine Fn.mk Tryz.call99 Tryz.func99 rfl Tryz.ntmps99 rfl ?_
 refine sr ?_
 refine asg rfl rfl ?_
 refine nl ?_
 refine sq ?_
 refine sr ?_
 refine mv rfl rfl ?_
 refine nc rfl rfl ?_
 refine fa0 F117_0 rfl rfl ?_
 refine ld (Says.own .head) Tryz.isAgg22 rfl (Nat.zero_add _).symm rfl rfl ?_
 refine ls Tryz.runUnderlying22 rfl rfl ?_
 refine lt rfl rfl rfl ?_
 refine nl ?_
 refine cd rfl (fun h9 => ?_) (fun h9 => ?_)
 ·
  have e : rN 8 r = (0, .out) := by unfold rN; rw [if_pos (by omega)]
  refine sr ?_
  refine mv rfl rfl ?_
  refine nc rfl rfl ?_
  refine fa0 F117_1 rfl rfl ?_
  refine st Tryz.sizeOf4 rfl rfl rfl rfl .head ?_
  refine nl ?_
  refine sr ?_
  refine mv rfl rfl ?_
  refine nc rfl rfl ?_
  refine fa0 F117_0 rfl rfl ?_
  refine st Tryz.sizeOf22 rfl rfl rfl rfl .head ?_
  refine nl ?_
  refine sr ?_
  refine asg rfl rfl ?_
  refine nl ?_
  exact rT rfl rfl ler (fun _ _ h => h) ⟨rfl, _, rfl, by rw [e]; exact RdAt.out _ _ _, by rw [e]; rfl⟩
 ·
  have hn : 8 ≤ r.s.length := by omega
  have e : rN 8 r = (beN (r.s.take 8), ⟨r.s.drop 8, r.bad, true⟩) := by unfold rN; rw [if_neg (by omega)]
  refine skt ?_
  refine sq ?_
  refine rgD 7 kp1 mixed ?_
  refine dU 0 rfl rfl rfl (y_la0 Tryz.isAgg134 Tryz.sizeOf134 rfl) kp1 ler ?_
  refine dU 1 rfl rfl rfl (y_mv rfl) kp1 ler ?_
  refine dU 2 rfl rfl rfl (y_nc rfl) kp1 ler ?_
  refine dU 3 rfl rfl rfl (y_fa0 F117_0 rfl) kp1 ler ?_
  refine dU 4 rfl rfl rfl (y_ld (Says.own .head) Tryz.isAgg22 rfl (Nat.zero_add _).symm rfl) kp1 ler ?_
  refine dE 5 (by kernel_rfl) rfl ?_
  refine cl rfl rfl rfl (k_U64 hB hn) rfl (fun v_ H1 L1 hle hR => ?_)
  obtain ⟨rfl, rfl, rfl⟩ := hR
  refine dN kp1 ler ?_
  refine dU 6 rfl rfl rfl (y_asg rfl) kp1 ler ?_
  refine dD (by kernel_rfl) ?_
  refine Nt ?_
  refine sr ?_
  refine mv rfl rfl ?_
  refine mv rfl rfl ?_
  refine nc rfl rfl ?_
  refine fa0 F117_0 rfl rfl ?_
  refine ld (Says.own .head) Tryz.isAgg22 rfl (Nat.zero_add _).symm rfl rfl ?_
  refine slo Tryz.runUnderlying22 Tryz.sizeOf5 rfl rfl hB rfl (j := 8) rfl (by omega) rfl (fun a' ha' hB' => ?_)
  refine nc rfl rfl ?_
  refine fa0 F117_0 rfl rfl ?_
  refine st Tryz.sizeOf22 rfl rfl rfl rfl .head ?_
  refine nl ?_
  refine sr ?_
  refine mv rfl rfl ?_
  refine asg rfl rfl ?_
  refine nl ?_
  exact rT rfl rfl ler (fun _ _ h => h) ⟨rfl, _, rfl, by rw [e]; exact ⟨a', c - 8, rfl, hB', by rw [ha', hB.some (ne_of_len hn)]; rfl⟩, by rw [e]⟩
theorem r_Span {H : Fz} {L : Own} {b : Nat} {r : Rd} {N : Chunk} {l : Int} (hR : RdAt H 117 b r N) :
  Fn Tryz.prog 80 [.pointer (some ⟨b, 0, none⟩), .int .i64 l] H (N :: L) (fun v H' L' => H = H' ∧ ∃ N', L' = N' :: L ∧ RdAt H 117 b (rSpan l r).2 N' ∧ ∃ a c, v = .slice a (rSpan l r).1.1.length c ∧ BytesAt H a c (rSpan l r).1.1 ∧ a.isNone = (rSpan l r).1.2) := by
 obtain ⟨a, c, rfl, hB, hnn⟩ := hR
 refine Fn.mk Tryz.call80 Tryz.func80 rfl Tryz.ntmps80 rfl ?_
 refine sr ?_
 refine asg rfl rfl ?_
 refine nl ?_
 refine sq ?_
 refine sr ?_
 refine mv rfl rfl ?_
 refine nc rfl rfl ?_
 refine fa0 F117_0 rfl rfl ?_
 refine ld (Says.own .head) Tryz.isAgg22 rfl (Nat.zero_add _).symm rfl rfl ?_
 refine ls Tryz.runUnderlying22 rfl rfl ?_
 refine mv rfl rfl ?_
 refine lt rfl rfl rfl ?_
 refine mv rfl rfl ?_
 refine spl (t := 13) rfl (fun h13 => ?_) (fun h13 => ?_)
 ·
  refine gs rfl rfl rfl rfl ?_
  refine gs rfl rfl rfl rfl ?_
  refine pk rfl rfl rfl rfl ?_
  refine nl ?_
  refine cT rfl ?_
  refine sr ?_
  refine mv rfl rfl ?_
  refine nc rfl rfl ?_
  refine fa0 F117_1 rfl rfl ?_
  refine st Tryz.sizeOf4 rfl rfl rfl rfl .head ?_
  refine nl ?_
  refine sr ?_
  refine mv rfl rfl ?_
  refine nc rfl rfl ?_
  refine fa0 F117_0 rfl rfl ?_
  refine st Tryz.sizeOf22 rfl rfl rfl rfl .head ?_
  refine nl ?_
  refine sr ?_
  refine asg rfl rfl ?_
  refine nl ?_
  have e : rSpan l r = (([], true), .out) := by unfold rSpan; rw [if_pos (by omega)]
  exact rT rfl rfl ler (fun _ _ h => h) ⟨rfl, _, rfl, by rw [e]; exact RdAt.out _ _ _, none, 0, by rw [e]; rfl, by rw [e]; exact .nil _, by rw [e]; rfl⟩
 ·
  refine gr rfl rfl ?_
  refine mv rfl rfl ?_
  refine gr rfl rfl ?_
  refine lt rfl rfl rfl ?_
  refine pk rfl rfl rfl rfl ?_
  refine nl ?_
  refine cd rfl (fun h16 => ?_) (fun h16 => ?_)
  ·
   refine sr ?_
   refine mv rfl rfl ?_
   refine nc rfl rfl ?_
   refine fa0 F117_1 rfl rfl ?_
   refine st Tryz.sizeOf4 rfl rfl rfl rfl .head ?_
   refine nl ?_
   refine sr ?_
   refine mv rfl rfl ?_
   refine nc rfl rfl ?_
   refine fa0 F117_0 rfl rfl ?_
   refine st Tryz.sizeOf22 rfl rfl rfl rfl .head ?_
   refine nl ?_
   refine sr ?_
   refine asg rfl rfl ?_
   refine nl ?_
   have e : rSpan l r = (([], true), .out) := by unfold rSpan; rw [if_pos (by omega)]
   exact rT rfl rfl ler (fun _ _ h => h) ⟨rfl, _, rfl, by rw [e]; exact RdAt.out _ _ _, none, 0, by rw [e]; rfl, by rw [e]; exact .nil _, by rw [e]; rfl⟩
  ·
   obtain ⟨k, rfl⟩ : ∃ k : Nat, l = (k : Int) := ⟨l.toNat, by omega⟩
   have hk : k ≤ r.s.length := by omega
   have e : rSpan (k : Int) r = ((r.s.take k, !r.nn), ⟨r.s.drop k, r.bad, r.nn⟩) := by unfold rSpan; rw [if_neg (by omega)]; simp
   have hcap := hB.cap
   refine skt ?_
   refine sr ?_
   refine mv rfl rfl ?_
   refine nc rfl rfl ?_
   refine fa0 F117_0 rfl rfl ?_
   refine ld (Says.own .head) Tryz.isAgg22 rfl (Nat.zero_add _).symm rfl rfl ?_
   refine mv rfl rfl ?_
   refine mv rfl rfl ?_
   refine shm (j := k) Tryz.runUnderlying22 Tryz.sizeOf5 rfl rfl rfl rfl rfl (by omega) rfl ?_
   refine asg rfl rfl ?_
   refine nl ?_
   refine sr ?_
   refine mv rfl rfl ?_
   refine mv rfl rfl ?_
   refine nc rfl rfl ?_
   refine fa0 F117_0 rfl rfl ?_
   refine ld (Says.own .head) Tryz.isAgg22 rfl (Nat.zero_add _).symm rfl rfl ?_
   refine mv rfl rfl ?_
   refine slo Tryz.runUnderlying22 Tryz.sizeOf5 rfl rfl hB rfl (j := k) rfl hk rfl (fun a' ha' hB' => ?_)
   refine nc rfl rfl ?_
   refine fa0 F117_0 rfl rfl ?_
   refine st Tryz.sizeOf22 rfl rfl rfl rfl .head ?_
   refine nl ?_
   refine sr ?_
   refine mv rfl rfl ?_
   refine asg rfl rfl ?_
   refine nl ?_
   exact rT rfl rfl ler (fun _ _ h => h) ⟨rfl, _, rfl, by rw [e]; exact ⟨a', c - k, rfl, hB', by rw [ha', hnn]⟩, a, k, by rw [e]; simp only [List.length_take]; rw [Nat.min_eq_left hk], by rw [e]; exact hB.cut hk, by rw [e]; exact hnn⟩
theorem k_Uvarint {H : Fz} {L : Own} {a : Option Addr} {c : Nat} {s : List UInt8} (hB : BytesAt H a c s) :
  Fn Tryz.prog 95 [.slice a s.length c] H L (fun v H' L' => H = H' ∧ L = L' ∧ ∃ x y : Int, v = .tuple #[.int .u32 x, .int .i64 y] ∧ UvSays s x y) := by
 refine Fn.mk Tryz.call95 Tryz.func95 rfl Tryz.ntmps95 rfl ?_
 refine sr ?_
 refine asg rfl rfl ?_
 refine asg rfl rfl ?_
 refine nl ?_
 refine sc (l0 := 0) (fun a_ w_ => ∃ ov : Int, Has 87 [(0, .slice a s.length c), (5, .int .i64 ov)] a_ ∧ Hp H L w_ ∧ ov ≤ 0 ∧ uvR s = none) rfl ?_ ?_
 ·
  refine sr ?_
  refine asg rfl rfl ?_
  refine nl ?_
  refine sr ?_
  refine asg rfl rfl ?_
  refine nl ?_
  refine sq ?_
  refine sr ?_
  refine mv rfl rfl ?_
  refine ls Tryz.runUnderlying22 rfl rfl ?_
  refine lt rfl rfl rfl ?_
  refine nl ?_
  refine cd rfl (fun h8 => ?_) (fun h8 => ?_)
  ·
   refine gt0 (fun a_ w_ hA hw => show _ ∧ _ from ⟨rfl, 0, hA.sub ?_, hw, by decide, uv_none0 (by omega)⟩)
   exact (.cons rfl (.cons rfl (.nil _)))
  ·
   have hn0 : 1 ≤ s.length := by omega
   have hb0 := (s[0]'(by omega)).toNat_lt
   refine skt ?_
   refine sr ?_
   refine mv rfl rfl ?_
   obtain ⟨b_1, o_2, e_3, q_4⟩ := hB.at_ (ne_nil_of_lt (show 0 < s.length by omega))
   refine ix2 (j := 0) Tryz.runUnderlying22 Tryz.sizeOf5 rfl e_3 rfl rfl (show 0 < s.length by omega) rfl ?_
   refine ld (Says.fz q_4) Tryz.isAgg5 rfl (by omega) (bytesOf_nth (show 0 < s.length by omega)) rfl ?_
   refine an rfl rfl (and127_u8 _) rfl ?_
   refine cv Tryz.runUnderlying5 Tryz.runUnderlying55 rfl (w32u (by omega) (by omega)) rfl ?_
   refine asg rfl rfl ?_
   refine nl ?_
   refine sq ?_
   refine sr ?_
   refine mv rfl rfl ?_
   obtain ⟨b_5, o_6, e_7, q_8⟩ := hB.at_ (ne_nil_of_lt (show 0 < s.length by omega))
   refine ix2 (j := 0) Tryz.runUnderlying22 Tryz.sizeOf5 rfl e_7 rfl rfl (show 0 < s.length by omega) rfl ?_
   refine ld (Says.fz q_8) Tryz.isAgg5 rfl (by omega) (bytesOf_nth (show 0 < s.length by omega)) rfl ?_
   refine an rfl rfl (and128_u8 _) rfl ?_
   refine eq' rfl rfl rfl ?_
   refine nl ?_
   refine cd rfl (fun h18 => ?_) (fun h18 => ?_)
   ·
    have hl : (s[0]'(by omega)).toNat < 128 := by omega
    refine sr ?_
    refine mv rfl rfl ?_
    refine asg rfl rfl ?_
    refine asg rfl rfl ?_
    refine nl ?_
    exact rT2 rfl rfl rfl ler (fun _ _ h => h) ⟨rfl, rfl, _, _, rfl, .inr ⟨_, 1, uv_some1 (by omega) hl, by omega, rfl, by decide, by omega⟩⟩
   ·
    have hq0 : ¬ (s[0]'(by omega)).toNat < 128 := by omega
    refine sr ?_
    refine mv rfl rfl ?_
    refine ls Tryz.runUnderlying22 rfl rfl ?_
    refine lt rfl rfl rfl ?_
    refine nl ?_
    refine cd rfl (fun h22 => ?_) (fun h22 => ?_)
    ·
     refine gt0 (fun a_ w_ hA hw => show _ ∧ _ from ⟨rfl, 0, hA.sub ?_, hw, by decide, uv_none1 (by omega) (by omega) hq0⟩)
     exact (.cons rfl (.cons rfl (.nil _)))
    ·
     have hn1 : 2 ≤ s.length := by omega
     have hb1 := (s[1]'(by omega)).toNat_lt
     refine skt ?_
     refine sr ?_
     refine mv rfl rfl ?_
     refine mv rfl rfl ?_
     obtain ⟨b_9, o_10, e_11, q_12⟩ := hB.at_ (ne_nil_of_lt (show 1 < s.length by omega))
     refine ix2 (j := 1) Tryz.runUnderlying22 Tryz.sizeOf5 rfl e_11 rfl rfl (show 1 < s.length by omega) rfl ?_
     refine ld (Says.fz q_12) Tryz.isAgg5 rfl (by omega) (bytesOf_nth (show 1 < s.length by omega)) rfl ?_
     refine an rfl rfl (and127_u8 _) rfl ?_
     refine cv Tryz.runUnderlying5 Tryz.runUnderlying55 rfl (w32u (by omega) (by omega)) rfl ?_
     refine shl rfl rfl (by decide) (shl_u32 (j := 7) (by decide) (by omega)) rfl ?_
     refine or' rfl rfl (or_u32 (j := 7) (by omega) (by omega)) rfl ?_
     refine asg rfl rfl ?_
     refine nl ?_
     refine sq ?_
     refine sr ?_
     refine mv rfl rfl ?_
     obtain ⟨b_13, o_14, e_15, q_16⟩ := hB.at_ (ne_nil_of_lt (show 1 < s.length by omega))
     refine ix2 (j := 1) Tryz.runUnderlying22 Tryz.sizeOf5 rfl e_15 rfl rfl (show 1 < s.length by omega) rfl ?_
     refine ld (Says.fz q_16) Tryz.isAgg5 rfl (by omega) (bytesOf_nth (show 1 < s.length by omega)) rfl ?_
     refine an rfl rfl (and128_u8 _) rfl ?_
     refine eq' rfl rfl rfl ?_
     refine nl ?_
     refine cd rfl (fun h35 => ?_) (fun h35 => ?_)
     ·
      have hl : (s[1]'(by omega)).toNat < 128 := by omega
      refine sr ?_
      refine mv rfl rfl ?_
      refine asg rfl rfl ?_
      refine asg rfl rfl ?_
      refine nl ?_
      exact rT2 rfl rfl rfl ler (fun _ _ h => h) ⟨rfl, rfl, _, _, rfl, .inr ⟨_, 2, uv_some2 (by omega) hq0 hl, by omega, rfl, by decide, by omega⟩⟩
     ·
      have hq1 : ¬ (s[1]'(by omega)).toNat < 128 := by omega
      refine sr ?_
      refine mv rfl rfl ?_
      refine ls Tryz.runUnderlying22 rfl rfl ?_
      refine lt rfl rfl rfl ?_
      refine nl ?_
      refine cd rfl (fun h39 => ?_) (fun h39 => ?_)
      ·
       refine gt0 (fun a_ w_ hA hw => show _ ∧ _ from ⟨rfl, 0, hA.sub ?_, hw, by decide, uv_none2 (by omega) (by omega) hq0 hq1⟩)
       exact (.cons rfl (.cons rfl (.nil _)))
      ·
       have hn2 : 3 ≤ s.length := by omega
       have hb2 := (s[2]'(by omega)).toNat_lt
       refine skt ?_
       refine sr ?_
       refine mv rfl rfl ?_
       refine mv rfl rfl ?_
       obtain ⟨b_17, o_18, e_19, q_20⟩ := hB.at_ (ne_nil_of_lt (show 2 < s.length by omega))
       refine ix2 (j := 2) Tryz.runUnderlying22 Tryz.sizeOf5 rfl e_19 rfl rfl (show 2 < s.length by omega) rfl ?_
       refine ld (Says.fz q_20) Tryz.isAgg5 rfl (by omega) (bytesOf_nth (show 2 < s.length by omega)) rfl ?_
       refine an rfl rfl (and127_u8 _) rfl ?_
       refine cv Tryz.runUnderlying5 Tryz.runUnderlying55 rfl (w32u (by omega) (by omega)) rfl ?_
       refine shl rfl rfl (by decide) (shl_u32 (j := 14) (by decide) (by omega)) rfl ?_
       refine or' rfl rfl (or_u32 (j := 14) (by omega) (by omega)) rfl ?_
       refine asg rfl rfl ?_
       refine nl ?_
       refine sq ?_
       refine sr ?_
       refine mv rfl rfl ?_
       obtain ⟨b_21, o_22, e_23, q_24⟩ := hB.at_ (ne_nil_of_lt (show 2 < s.length by omega))
       refine ix2 (j := 2) Tryz.runUnderlying22 Tryz.sizeOf5 rfl e_23 rfl rfl (show 2 < s.length by omega) rfl ?_
       refine ld (Says.fz q_24) Tryz.isAgg5 rfl (by omega) (bytesOf_nth (show 2 < s.length by omega)) rfl ?_
       refine an rfl rfl (and128_u8 _) rfl ?_
       refine eq' rfl rfl rfl ?_
       refine nl ?_
       refine cd rfl (fun h52 => ?_) (fun h52 => ?_)
       ·
        have hl : (s[2]'(by omega)).toNat < 128 := by omega
        refine sr ?_
        refine mv rfl rfl ?_
        refine asg rfl rfl ?_
        refine asg rfl rfl ?_
        refine nl ?_
        exact rT2 rfl rfl rfl ler (fun _ _ h => h) ⟨rfl, rfl, _, _, rfl, .inr ⟨_, 3, uv_some3 (by omega) hq0 hq1 hl, by omega, rfl, by decide, by omega⟩⟩
       ·
        have hq2 : ¬ (s[2]'(by omega)).toNat < 128 := by omega
        refine sr ?_
        refine mv rfl rfl ?_
        refine ls Tryz.runUnderlying22 rfl rfl ?_
        refine lt rfl rfl rfl ?_
        refine nl ?_
        refine cd rfl (fun h56 => ?_) (fun h56 => ?_)
        ·
         refine gt0 (fun a_ w_ hA hw => show _ ∧ _ from ⟨rfl, 0, hA.sub ?_, hw, by decide, uv_none3 (by omega) (by omega) hq0 hq1 hq2⟩)
         exact (.cons rfl (.cons rfl (.nil _)))
        ·
         have hn3 : 4 ≤ s.length := by omega
         have hb3 := (s[3]'(by omega)).toNat_lt
         refine skt ?_
         refine sr ?_
         refine mv rfl rfl ?_
         refine mv rfl rfl ?_
         obtain ⟨b_25, o_26, e_27, q_28⟩ := hB.at_ (ne_nil_of_lt (show 3 < s.length by omega))
         refine ix2 (j := 3) Tryz.runUnderlying22 Tryz.sizeOf5 rfl e_27 rfl rfl (show 3 < s.length by omega) rfl ?_
         refine ld (Says.fz q_28) Tryz.isAgg5 rfl (by omega) (bytesOf_nth (show 3 < s.length by omega)) rfl ?_
         refine an rfl rfl (and127_u8 _) rfl ?_
         refine cv Tryz.runUnderlying5 Tryz.runUnderlying55 rfl (w32u (by omega) (by omega)) rfl ?_
         refine shl rfl rfl (by decide) (shl_u32 (j := 21) (by decide) (by omega)) rfl ?_
         refine or' rfl rfl (or_u32 (j := 21) (by omega) (by omega)) rfl ?_
         refine asg rfl rfl ?_
         refine nl ?_
         refine sq ?_
         refine sr ?_
         refine mv rfl rfl ?_
         obtain ⟨b_29, o_30, e_31, q_32⟩ := hB.at_ (ne_nil_of_lt (show 3 < s.length by omega))
         refine ix2 (j := 3) Tryz.runUnderlying22 Tryz.sizeOf5 rfl e_31 rfl rfl (show 3 < s.length by omega) rfl ?_
         refine ld (Says.fz q_32) Tryz.isAgg5 rfl (by omega) (bytesOf_nth (show 3 < s.length by omega)) rfl ?_
         refine an rfl rfl (and128_u8 _) rfl ?_
         refine eq' rfl rfl rfl ?_
         refine nl ?_
         refine cd rfl (fun h69 => ?_) (fun h69 => ?_)
         ·
          have hl : (s[3]'(by omega)).toNat < 128 := by omega
          refine sr ?_
          refine mv rfl rfl ?_
          refine asg rfl rfl ?_
          refine asg rfl rfl ?_
          refine nl ?_
          exact rT2 rfl rfl rfl ler (fun _ _ h => h) ⟨rfl, rfl, _, _, rfl, .inr ⟨_, 4, uv_some4 (by omega) hq0 hq1 hq2 hl, by omega, rfl, by decide, by omega⟩⟩
         ·
          have hq3 : ¬ (s[3]'(by omega)).toNat < 128 := by omega
          refine sr ?_
          refine mv rfl rfl ?_
          refine ls Tryz.runUnderlying22 rfl rfl ?_
          refine lt rfl rfl rfl ?_
          refine nl ?_
          refine cd rfl (fun h73 => ?_) (fun h73 => ?_)
          ·
           refine gt0 (fun a_ w_ hA hw => show _ ∧ _ from ⟨rfl, 0, hA.sub ?_, hw, by decide, uv_none4 (by omega) (by omega) hq0 hq1 hq2 hq3⟩)
           exact (.cons rfl (.cons rfl (.nil _)))
          ·
           have hn4 : 5 ≤ s.length := by omega
           have hb4 := (s[4]'(by omega)).toNat_lt
           refine skt ?_
           refine sr ?_
           refine mv rfl rfl ?_
           refine mv rfl rfl ?_
           obtain ⟨b_33, o_34, e_35, q_36⟩ := hB.at_ (ne_nil_of_lt (show 4 < s.length by omega))
           refine ix2 (j := 4) Tryz.runUnderlying22 Tryz.sizeOf5 rfl e_35 rfl rfl (show 4 < s.length by omega) rfl ?_
           refine ld (Says.fz q_36) Tryz.isAgg5 rfl (by omega) (bytesOf_nth (show 4 < s.length by omega)) rfl ?_
           refine cv Tryz.runUnderlying5 Tryz.runUnderlying55 rfl (cvb _ (by simp)) rfl ?_
           refine shl rfl rfl (by decide) rfl rfl ?_
           refine or' rfl rfl rfl rfl ?_
           refine asg rfl rfl ?_
           refine nl ?_
           refine sq ?_
           refine sr ?_
           refine mv rfl rfl ?_
           obtain ⟨b_37, o_38, e_39, q_40⟩ := hB.at_ (ne_nil_of_lt (show 4 < s.length by omega))
           refine ix2 (j := 4) Tryz.runUnderlying22 Tryz.sizeOf5 rfl e_39 rfl rfl (show 4 < s.length by omega) rfl ?_
           refine ld (Says.fz q_40) Tryz.isAgg5 rfl (by omega) (bytesOf_nth (show 4 < s.length by omega)) rfl ?_
           refine le rfl rfl rfl ?_
           refine nl ?_
           refine cd rfl (fun h84 => ?_) (fun h84 => ?_)
           ·
            have hl : (s[4]'(by omega)).toNat < 16 := by omega
            refine sr ?_
            refine mv rfl rfl ?_
            refine asg rfl rfl ?_
            refine asg rfl rfl ?_
            refine nl ?_
            exact rT2 rfl rfl rfl ler (fun _ _ h => h) ⟨rfl, rfl, _, _, rfl, .inr ⟨_, 5, uv_some5 (by omega) hq0 hq1 hq2 hq3 hl, by rw [shl_u32 (j := 28) (by decide) (by omega), or_u32 (j := 28) (by omega) (by omega)], rfl, by decide, by omega⟩⟩
           ·
            have hq4 : ¬ (s[4]'(by omega)).toNat < 16 := by omega
            refine skt ?_
            refine sr ?_
            refine asg rfl rfl ?_
            refine nl ?_
            refine sq ?_
            refine lb ?_
            refine Nt ?_
            refine sr ?_
            refine mv rfl rfl ?_
            refine asg rfl rfl ?_
            refine asg rfl rfl ?_
            refine nl ?_
            exact rT2 rfl rfl rfl ler (fun _ _ h => h) ⟨rfl, rfl, _, _, rfl, .inl ⟨uv_none5 (by omega) hq0 hq1 hq2 hq3 hq4, by decide⟩⟩
 ·
  rintro a_ w_ ⟨ov, hA, hw, hov, huv⟩
  refine (?_ : Wp _ _ _ 87 [(0, .slice a s.length c), (5, .int .i64 ov)] H L) a_ w_ hA hw
  refine sq ?_
  refine skt ?_
  refine sr ?_
  refine mv rfl rfl ?_
  refine asg rfl rfl ?_
  refine asg rfl rfl ?_
  refine nl ?_
  exact rT2 rfl rfl rfl ler (fun _ _ h => h) ⟨rfl, rfl, _, _, rfl, .inl ⟨huv, hov⟩⟩
theorem k_UnsafeString {H : Fz} {L : Own} {a : Option Addr} {c : Nat} {x : List UInt8} (hx : BytesAt H a c x) :
  Fn Tryz.prog 93 [.slice a x.length c] H L (fun v H' L' => H = H' ∧ L = L' ∧ v = .string ⟨x.toArray⟩) := by
 refine Fn.mk Tryz.call93 Tryz.func93 rfl Tryz.ntmps93 rfl ?_
 refine sr ?_
 refine asg rfl rfl ?_
 refine nl ?_
 refine sr ?_
 refine mv rfl rfl ?_
 refine cbS Tryz.underlying22 Tryz.underlying5 Tryz.underlying9 rfl hx rfl rfl ?_
 refine asg rfl rfl ?_
 refine nl ?_
 exact rT rfl rfl ler (fun _ _ h => h) ⟨rfl, rfl, rfl⟩
theorem r_Int64 {H : Fz} {L : Own} {b : Nat} {r : Rd} {N : Chunk} (hR : RdAt H 117 b r N) :
  Fn Tryz.prog 89 [.pointer (some ⟨b, 0, none⟩)] H (N :: L) (fun v H' L' => H = H' ∧ ∃ N', L' = N' :: L ∧ RdAt H' 117 b (rN 8 r).2 N' ∧ v = .int .i64 (IntKind.i64.wrap (rN 8 r).1)) := by
 refine Fn.mk Tryz.call89 Tryz.func89 rfl Tryz.ntmps89 rfl ?_
 refine sr ?_
 refine asg rfl rfl ?_
 refine nl ?_
 refine sr ?_
 refine mv rfl rfl ?_
 refine cl rfl rfl rfl (r_readUint64 hR) rfl (fun v_ H1 L1 hle hR_ => ?_)
 obtain ⟨rfl, N4, rfl, hR4, rfl⟩ := hR_
 refine cv Tryz.runUnderlying72 Tryz.runUnderlying2 rfl rfl rfl ?_
 refine asg rfl rfl ?_
 refine nl ?_
 exact rT rfl rfl ler (fun _ _ h => h) ⟨rfl, _, rfl, hR4, rfl⟩
theorem r_Uvarint {H : Fz} {L : Own} {b : Nat} {r : Rd} {N : Chunk} (hR : RdAt H 117 b r N) :
  Fn Tryz.prog 78 [.pointer (some ⟨b, 0, none⟩)] H (N :: L) (fun v H' L' => H = H' ∧ ∃ N', L' = N' :: L ∧ RdAt H' 117 b (rU r).2 N' ∧ v = .int .u32 ((rU r).1 : Nat)) := by
 obtain ⟨a, c, rfl, hB, hnn⟩ := hR
 refine Fn.mk Tryz.call78 Tryz.func78 rfl Tryz.ntmps78 rfl ?_
 refine sr ?_
 refine asg rfl rfl ?_
 refine nl ?_
 refine sr ?_
 refine mv rfl rfl ?_
 refine nc rfl rfl ?_
 refine fa0 F117_0 rfl rfl ?_
 refine ld (Says.own .head) Tryz.isAgg22 rfl (Nat.zero_add _).symm rfl rfl ?_
 refine cl rfl rfl rfl (k_Uvarint hB) rfl (fun v_ H1 L1 hle hR_ => ?_)
 obtain ⟨rfl, rfl, x, y, rfl, hxy⟩ := hR_
 refine mv rfl rfl ?_
 refine extr rfl rfl rfl ?_
 refine extr rfl rfl rfl ?_
 refine asg rfl rfl ?_
 refine asg rfl rfl ?_
 refine nl ?_
 refine sq ?_
 refine sr ?_
 refine mv rfl rfl ?_
 refine le rfl rfl rfl ?_
 refine nl ?_
 refine cd rfl (fun h14 => ?_) (fun h14 => ?_)
 ·
  have e : rU r = (0, .out) := by
   rcases hxy with ⟨h1, _⟩ | ⟨u, n, _, _, h2, h3, _⟩
   · unfold rU; rw [h1]
   · omega
  refine sr ?_
  refine mv rfl rfl ?_
  refine nc rfl rfl ?_
  refine fa0 F117_1 rfl rfl ?_
  refine st Tryz.sizeOf4 rfl rfl rfl rfl .head ?_
  refine nl ?_
  refine sr ?_
  refine mv rfl rfl ?_
  refine nc rfl rfl ?_
  refine fa0 F117_0 rfl rfl ?_
  refine st Tryz.sizeOf22 rfl rfl rfl rfl .head ?_
  refine nl ?_
  refine sr ?_
  refine asg rfl rfl ?_
  refine nl ?_
  exact rT rfl rfl ler (fun _ _ h => h) ⟨rfl, _, rfl, by rw [e]; exact RdAt.out _ _ _, by rw [e]; rfl⟩
 ·
  obtain ⟨u, n, h1, rfl, rfl, h3, h4⟩ : ∃ u n : Nat, uvR r.s = some (u, n) ∧ x = u ∧ y = n ∧ 0 < n ∧ n ≤ r.s.length := by
   rcases hxy with ⟨_, h2⟩ | h2
   · omega
   · exact h2
  have e : rU r = (u, ⟨r.s.drop n, r.bad, true⟩) := by unfold rU; rw [h1]
  refine skt ?_
  refine sr ?_
  refine mv rfl rfl ?_
  refine mv rfl rfl ?_
  refine nc rfl rfl ?_
  refine fa0 F117_0 rfl rfl ?_
  refine ld (Says.own .head) Tryz.isAgg22 rfl (Nat.zero_add _).symm rfl rfl ?_
  refine mv rfl rfl ?_
  refine slo Tryz.runUnderlying22 Tryz.sizeOf5 rfl rfl hB rfl (j := n) rfl h4 rfl (fun a' ha' hB' => ?_)
  refine nc rfl rfl ?_
  refine fa0 F117_0 rfl rfl ?_
  refine st Tryz.sizeOf22 rfl rfl rfl rfl .head ?_
  refine nl ?_
  refine sr ?_
  refine mv rfl rfl ?_
  refine asg rfl rfl ?_
  refine nl ?_
  exact rT rfl rfl ler (fun _ _ h => h) ⟨rfl, _, rfl, by rw [e]; exact ⟨a', c - n, rfl, hB', by rw [ha', hB.some (by rintro e0; rw [e0] at h4; simp at h4; omega)]; rfl⟩, by rw [e]; rfl⟩
theorem d8f {H : Fz} {L : Own} {b : Nat} {r : Rd} {N : Chunk} {x : Tr × Rd} {part : Rd → Tr × Rd} (hR : RdAt H 117 b r N) (hx : x = decV 8 part false false r) :
  Fn Tryz.prog 73 [.pointer (some ⟨b, 0, none⟩)] H (N :: L) (fun v H' L' => ∃ N', L' = N' :: L ∧ RdAt H' 117 b x.2 N' ∧ H = H' ∧ v = .string ⟨x.1.s.toArray⟩) := by
 obtain rfl := hx.trans dV8n
 refine Fn.mk Tryz.call73 Tryz.func73 rfl Tryz.ntmps73 rfl ?_
 refine sr ?_
 refine asg rfl rfl ?_
 refine nl ?_
 refine sr ?_
 refine mv rfl rfl ?_
 refine cl rfl rfl rfl (r_Int16 hR) rfl (fun v_ H1 L1 hle hR_ => ?_)
 obtain ⟨rfl, N5, rfl, hR5, rfl⟩ := hR_
 refine asg rfl rfl ?_
 refine nl ?_
 refine sr ?_
 refine mv rfl rfl ?_
 refine mv rfl rfl ?_
 refine cv Tryz.runUnderlying40 Tryz.runUnderlying3 rfl (w64 (by have := i16_rng (rN 2 r).1; omega) (by have := i16_rng (rN 2 r).1; omega)) rfl ?_
 refine cl rfl rfl rfl (r_Span hR5) rfl (fun v_ H1 L1 hle hR_ => ?_)
 obtain ⟨rfl, N9, rfl, hR9, a9, c9, rfl, hB9, hn9⟩ := hR_
 refine cbS Tryz.underlying22 Tryz.underlying5 Tryz.underlying9 rfl hB9 rfl rfl ?_
 refine asg rfl rfl ?_
 refine nl ?_
 exact rT rfl rfl ler (fun _ _ h => h) ⟨_, rfl, hR9, rfl, rfl⟩
theorem d8t {H : Fz} {L : Own} {b : Nat} {r : Rd} {N : Chunk} {x : Tr × Rd} {part : Rd → Tr × Rd} (hR : RdAt H 117 b r N) (hx : x = decV 8 part false true r) :
  Fn Tryz.prog 72 [.pointer (some ⟨b, 0, none⟩)] H (N :: L) (fun v H' L' => ∃ N', L' = N' :: L ∧ RdAt H' 117 b x.2 N' ∧ H = H' ∧ v = .string ⟨x.1.s.toArray⟩) := by
 obtain rfl := hx.trans dV8n
 refine Fn.mk Tryz.call72 Tryz.func72 rfl Tryz.ntmps72 rfl ?_
 refine sr ?_
 refine asg rfl rfl ?_
 refine nl ?_
 refine sr ?_
 refine mv rfl rfl ?_
 refine cl rfl rfl rfl (r_Uvarint hR) rfl (fun v_ H1 L1 hle hR_ => ?_)
 obtain ⟨rfl, N5, rfl, hR5, rfl⟩ := hR_
 have hu_ := rU_lt r
 refine cv Tryz.runUnderlying55 Tryz.runUnderlying3 rfl (w64 (by omega) (by omega)) rfl ?_
 refine sb rfl rfl (w64 (by omega) (by omega)) rfl ?_
 refine asg rfl rfl ?_
 refine nl ?_
 refine sr ?_
 refine mv rfl rfl ?_
 refine mv rfl rfl ?_
 refine cl rfl rfl rfl (r_Span hR5) rfl (fun v_ H1 L1 hle hR_ => ?_)
 obtain ⟨rfl, N10, rfl, hR10, a10, c10, rfl, hB10, hn10⟩ := hR_
 refine cbS Tryz.underlying22 Tryz.underlying5 Tryz.underlying9 rfl hB10 rfl rfl ?_
 refine asg rfl rfl ?_
 refine nl ?_
 exact rT rfl rfl ler (fun _ _ h => h) ⟨_, rfl, hR10, rfl, rfl⟩
theorem d8fu {H : Fz} {L : Own} {b : Nat} {r : Rd} {N : Chunk} {x : Tr × Rd} {part : Rd → Tr × Rd} (hR : RdAt H 117 b r N) (hx : x = decV 8 part false false r) :
  Fn Tryz.prog 71 [.pointer (some ⟨b, 0, none⟩)] H (N :: L) (fun v H' L' => ∃ N', L' = N' :: L ∧ RdAt H' 117 b x.2 N' ∧ H = H' ∧ v = .string ⟨x.1.s.toArray⟩) := by
 obtain rfl := hx.trans dV8n
 refine Fn.mk Tryz.call71 Tryz.func71 rfl Tryz.ntmps71 rfl ?_
 refine sr ?_
 refine asg rfl rfl ?_
 refine nl ?_
 refine sr ?_
 refine mv rfl rfl ?_
 refine cl rfl rfl rfl (r_Int16 hR) rfl (fun v_ H1 L1 hle hR_ => ?_)
 obtain ⟨rfl, N5, rfl, hR5, rfl⟩ := hR_
 refine asg rfl rfl ?_
 refine nl ?_
 refine sr ?_
 refine mv rfl rfl ?_
 refine mv rfl rfl ?_
 refine cv Tryz.runUnderlying40 Tryz.runUnderlying3 rfl (w64 (by have := i16_rng (rN 2 r).1; omega) (by have := i16_rng (rN 2 r).1; omega)) rfl ?_
 refine cl rfl rfl rfl (r_Span hR5) rfl (fun v_ H1 L1 hle hR_ => ?_)
 obtain ⟨rfl, N9, rfl, hR9, a9, c9, rfl, hB9, hn9⟩ := hR_
 refine cl rfl rfl rfl (k_UnsafeString hB9) rfl (fun v_ H1 L1 hle hR_ => ?_)
 obtain ⟨rfl, rfl, rfl⟩ := hR_
 refine asg rfl rfl ?_
 refine nl ?_
 exact rT rfl rfl ler (fun _ _ h => h) ⟨_, rfl, hR9, rfl, rfl⟩
theorem d8tu {H : Fz} {L : Own} {b : Nat} {r : Rd} {N : Chunk} {x : Tr × Rd} {part : Rd → Tr × Rd} (hR : RdAt H 117 b r N) (hx : x = decV 8 part false true r) :
  Fn Tryz.prog 70 [.pointer (some ⟨b, 0, none⟩)] H (N :: L) (fun v H' L' => ∃ N', L' = N' :: L ∧ RdAt H' 117 b x.2 N' ∧ H = H' ∧ v = .string ⟨x.1.s.toArray⟩) := by
 obtain rfl := hx.trans dV8n
 refine Fn.mk Tryz.call70 Tryz.func70 rfl Tryz.ntmps70 rfl ?_
 refine sr ?_
 refine asg rfl rfl ?_
 refine nl ?_
 refine sr ?_
 refine mv rfl rfl ?_
 refine cl rfl rfl rfl (r_Uvarint hR) rfl (fun v_ H1 L1 hle hR_ => ?_)
 obtain ⟨rfl, N5, rfl, hR5, rfl⟩ := hR_
 have hu_ := rU_lt r
 refine cv Tryz.runUnderlying55 Tryz.runUnderlying3 rfl (w64 (by omega) (by omega)) rfl ?_
 refine sb rfl rfl (w64 (by omega) (by omega)) rfl ?_
 refine asg rfl rfl ?_
 refine nl ?_
 refine sr ?_
 refine mv rfl rfl ?_
 refine mv rfl rfl ?_
 refine cl rfl rfl rfl (r_Span hR5) rfl (fun v_ H1 L1 hle hR_ => ?_)
 obtain ⟨rfl, N10, rfl, hR10, a10, c10, rfl, hB10, hn10⟩ := hR_
 refine cl rfl rfl rfl (k_UnsafeString hB10) rfl (fun v_ H1 L1 hle hR_ => ?_)
 obtain ⟨rfl, rfl, rfl⟩ := hR_
 refine asg rfl rfl ?_
 refine nl ?_
 exact rT rfl rfl ler (fun _ _ h => h) ⟨_, rfl, hR10, rfl, rfl⟩
end Go.Sx

import Derived.Test.YtjpidbdhoiagpaaGreatDoorSxTab
import Derived.Test.YtjpidbdhoiagpaaGreatDoorLibG
import Derived.KernelRfl
set_option linter.unusedVariables false
set_option linter.unusedSimpArgs false
set_option maxRecDepth 100000
set_option maxHeartbeats 20000000
namespace Go.Sx
open Go.Proofs
theorem k_U16 {H : Fz} {L : Own} {a : Option Addr} {c : Nat} {s : List UInt8} (hB : BytesAt H a c s) (hn : 2 ≤ s.length) :
  Fn Tryz.prog 130 [.agg #[], .slice a s.length c] H L (fun v H' L' => H = H' ∧ L = L' ∧ v = .int .u16 ((beN (s.take 2) : Nat) : Int)) := by
 have hb0 := (s[0]'(by omega)).toNat_lt
 have hb1 := (s[1]'(by omega)).toNat_lt
 refine Fn.mk Tryz.call130 Tryz.func130 rfl Tryz.ntmps130 rfl ?_
 refine sr ?_
 refine bx rfl rfl rfl (fun b_1 => ?_)
 refine asg rfl rfl ?_
 refine nl ?_
 refine sr ?_
 refine mv rfl rfl ?_
 obtain ⟨b_2, o_3, e_4, q_5⟩ := hB.at_ (ne_nil_of_lt (show 1 < s.length by omega))
 refine ix2 (j := 1) Tryz.runUnderlying24 Tryz.sizeOf5 rfl e_4 rfl rfl (show 1 < s.length by omega) rfl ?_
 refine ld (Says.fz q_5) Tryz.isAgg5 rfl (by omega) (bytesOf_nth (show 1 < s.length by omega)) rfl ?_
 refine nl ?_
 refine sq ?_
 refine rgD 11 kp1 mixed ?_
 refine dU 0 rfl rfl rfl (y_mv rfl) kp1 ler ?_
 obtain ⟨b_6, o_7, e_8, q_9⟩ := hB.at_ (ne_nil_of_lt (show 1 < s.length by omega))
 refine dU 1 rfl rfl rfl (y_ix2 (j := 1) Tryz.runUnderlying24 Tryz.sizeOf5 rfl e_8 rfl rfl (show 1 < s.length by omega)) kp1 ler ?_
 refine dU 2 rfl rfl rfl (y_ld (Says.fz q_9) Tryz.isAgg5 rfl (by omega) (bytesOf_nth (show 1 < s.length by omega))) kp1 ler ?_
 refine dU 3 rfl rfl rfl (y_cv Tryz.runUnderlying5 Tryz.runUnderlying155 rfl (cvb _ (by simp))) kp1 ler ?_
 refine dU 4 rfl rfl rfl (y_mv rfl) kp1 ler ?_
 obtain ⟨b_10, o_11, e_12, q_13⟩ := hB.at_ (ne_nil_of_lt (show 0 < s.length by omega))
 refine dU 5 rfl rfl rfl (y_ix2 (j := 0) Tryz.runUnderlying24 Tryz.sizeOf5 rfl e_12 rfl rfl (show 0 < s.length by omega)) kp1 ler ?_
 refine dU 6 rfl rfl rfl (y_ld (Says.fz q_13) Tryz.isAgg5 rfl (by omega) (bytesOf_nth (show 0 < s.length by omega))) kp1 ler ?_
 refine dU 7 rfl rfl rfl (y_cv Tryz.runUnderlying5 Tryz.runUnderlying155 rfl (cvb _ (by simp))) kp1 ler ?_
 refine dU 8 rfl rfl rfl (y_shl rfl rfl (by decide) (shl_u16 (j := 8) (by decide) (by omega))) kp1 ler ?_
 refine dU 9 rfl rfl rfl (y_or rfl rfl (or_u16 (j := 8) (by omega) (by omega))) kp1 ler ?_
 refine dU 10 rfl rfl rfl (y_asg rfl) kp1 ler ?_
 refine dD (by kernel_rfl) ?_
 refine Nt ?_
 refine drW .head ?_
 exact rT rfl rfl ler (fun _ _ h => h) ⟨rfl, rfl, by rw [be2 hn]⟩
theorem k_U32 {H : Fz} {L : Own} {a : Option Addr} {c : Nat} {s : List UInt8} (hB : BytesAt H a c s) (hn : 4 ≤ s.length) :
  Fn Tryz.prog 125 [.agg #[], .slice a s.length c] H L (fun v H' L' => H = H' ∧ L = L' ∧ v = .int .u32 ((beN (s.take 4) : Nat) : Int)) := by
 have hb0 := (s[0]'(by omega)).toNat_lt
 have hb1 := (s[1]'(by omega)).toNat_lt
 have hb2 := (s[2]'(by omega)).toNat_lt
 have hb3 := (s[3]'(by omega)).toNat_lt
 refine Fn.mk Tryz.call125 Tryz.func125 rfl Tryz.ntmps125 rfl ?_
 refine sr ?_
 refine bx rfl rfl rfl (fun b_1 => ?_)
 refine asg rfl rfl ?_
 refine nl ?_
 refine sr ?_
 refine mv rfl rfl ?_
 obtain ⟨b_2, o_3, e_4, q_5⟩ := hB.at_ (ne_nil_of_lt (show 3 < s.length by omega))
 refine ix2 (j := 3) Tryz.runUnderlying24 Tryz.sizeOf5 rfl e_4 rfl rfl (show 3 < s.length by omega) rfl ?_
 refine ld (Says.fz q_5) Tryz.isAgg5 rfl (by omega) (bytesOf_nth (show 3 < s.length by omega)) rfl ?_
 refine nl ?_
 refine sq ?_
 refine rgD 23 kp1 mixed ?_
 refine dU 0 rfl rfl rfl (y_mv rfl) kp1 ler ?_
 obtain ⟨b_6, o_7, e_8, q_9⟩ := hB.at_ (ne_nil_of_lt (show 3 < s.length by omega))
 refine dU 1 rfl rfl rfl (y_ix2 (j := 3) Tryz.runUnderlying24 Tryz.sizeOf5 rfl e_8 rfl rfl (show 3 < s.length by omega)) kp1 ler ?_
 refine dU 2 rfl rfl rfl (y_ld (Says.fz q_9) Tryz.isAgg5 rfl (by omega) (bytesOf_nth (show 3 < s.length by omega))) kp1 ler ?_
 refine dU 3 rfl rfl rfl (y_cv Tryz.runUnderlying5 Tryz.runUnderlying67 rfl (cvb _ (by simp))) kp1 ler ?_
 refine dU 4 rfl rfl rfl (y_mv rfl) kp1 ler ?_
 obtain ⟨b_10, o_11, e_12, q_13⟩ := hB.at_ (ne_nil_of_lt (show 2 < s.length by omega))
 refine dU 5 rfl rfl rfl (y_ix2 (j := 2) Tryz.runUnderlying24 Tryz.sizeOf5 rfl e_12 rfl rfl (show 2 < s.length by omega)) kp1 ler ?_
 refine dU 6 rfl rfl rfl (y_ld (Says.fz q_13) Tryz.isAgg5 rfl (by omega) (bytesOf_nth (show 2 < s.length by omega))) kp1 ler ?_
 refine dU 7 rfl rfl rfl (y_cv Tryz.runUnderlying5 Tryz.runUnderlying67 rfl (cvb _ (by simp))) kp1 ler ?_
 refine dU 8 rfl rfl rfl (y_shl rfl rfl (by decide) (shl_u32 (j := 8) (by decide) (by omega))) kp1 ler ?_
 refine dU 9 rfl rfl rfl (y_or rfl rfl (or_u32 (j := 8) (by omega) (by omega))) kp1 ler ?_
 refine dU 10 rfl rfl rfl (y_mv rfl) kp1 ler ?_
 obtain ⟨b_14, o_15, e_16, q_17⟩ := hB.at_ (ne_nil_of_lt (show 1 < s.length by omega))
 refine dU 11 rfl rfl rfl (y_ix2 (j := 1) Tryz.runUnderlying24 Tryz.sizeOf5 rfl e_16 rfl rfl (show 1 < s.length by omega)) kp1 ler ?_
 refine dU 12 rfl rfl rfl (y_ld (Says.fz q_17) Tryz.isAgg5 rfl (by omega) (bytesOf_nth (show 1 < s.length by omega))) kp1 ler ?_
 refine dU 13 rfl rfl rfl (y_cv Tryz.runUnderlying5 Tryz.runUnderlying67 rfl (cvb _ (by simp))) kp1 ler ?_
 refine dU 14 rfl rfl rfl (y_shl rfl rfl (by decide) (shl_u32 (j := 16) (by decide) (by omega))) kp1 ler ?_
 refine dU 15 rfl rfl rfl (y_or rfl rfl (or_u32 (j := 16) (by omega) (by omega))) kp1 ler ?_
 refine dU 16 rfl rfl rfl (y_mv rfl) kp1 ler ?_
 obtain ⟨b_18, o_19, e_20, q_21⟩ := hB.at_ (ne_nil_of_lt (show 0 < s.length by omega))
 refine dU 17 rfl rfl rfl (y_ix2 (j := 0) Tryz.runUnderlying24 Tryz.sizeOf5 rfl e_20 rfl rfl (show 0 < s.length by omega)) kp1 ler ?_
 refine dU 18 rfl rfl rfl (y_ld (Says.fz q_21) Tryz.isAgg5 rfl (by omega) (bytesOf_nth (show 0 < s.length by omega))) kp1 ler ?_
 refine dU 19 rfl rfl rfl (y_cv Tryz.runUnderlying5 Tryz.runUnderlying67 rfl (cvb _ (by simp))) kp1 ler ?_
 refine dU 20 rfl rfl rfl (y_shl rfl rfl (by decide) (shl_u32 (j := 24) (by decide) (by omega))) kp1 ler ?_
 refine dU 21 rfl rfl rfl (y_or rfl rfl (or_u32 (j := 24) (by omega) (by omega))) kp1 ler ?_
 refine dU 22 rfl rfl rfl (y_asg rfl) kp1 ler ?_
 refine dD (by kernel_rfl) ?_
 refine Nt ?_
 refine drW .head ?_
 exact rT rfl rfl ler (fun _ _ h => h) ⟨rfl, rfl, by rw [be4 hn]⟩
theorem k_U64 {H : Fz} {L : Own} {a : Option Addr} {c : Nat} {s : List UInt8} (hB : BytesAt H a c s) (hn : 8 ≤ s.length) :
  Fn Tryz.prog 132 [.agg #[], .slice a s.length c] H L (fun v H' L' => H = H' ∧ L = L' ∧ v = .int .u64 ((beN (s.take 8) : Nat) : Int)) := by
 have hb0 := (s[0]'(by omega)).toNat_lt
 have hb1 := (s[1]'(by omega)).toNat_lt
 have hb2 := (s[2]'(by omega)).toNat_lt
 have hb3 := (s[3]'(by omega)).toNat_lt
 have hb4 := (s[4]'(by omega)).toNat_lt
 have hb5 := (s[5]'(by omega)).toNat_lt
 have hb6 := (s[6]'(by omega)).toNat_lt
 have hb7 := (s[7]'(by omega)).toNat_lt
 refine Fn.mk Tryz.call132 Tryz.func132 rfl Tryz.ntmps132 rfl ?_
 refine sr ?_
 refine bx rfl rfl rfl (fun b_1 => ?_)
 refine asg rfl rfl ?_
 refine nl ?_
 refine sr ?_
 refine mv rfl rfl ?_
 obtain ⟨b_2, o_3, e_4, q_5⟩ := hB.at_ (ne_nil_of_lt (show 7 < s.length by omega))
 refine ix2 (j := 7) Tryz.runUnderlying24 Tryz.sizeOf5 rfl e_4 rfl rfl (show 7 < s.length by omega) rfl ?_
 refine ld (Says.fz q_5) Tryz.isAgg5 rfl (by omega) (bytesOf_nth (show 7 < s.length by omega)) rfl ?_
 refine nl ?_
 refine sq ?_
 refine rgD 47 kp1 mixed ?_
 refine dU 0 rfl rfl rfl (y_mv rfl) kp1 ler ?_
 obtain ⟨b_6, o_7, e_8, q_9⟩ := hB.at_ (ne_nil_of_lt (show 7 < s.length by omega))
 refine dU 1 rfl rfl rfl (y_ix2 (j := 7) Tryz.runUnderlying24 Tryz.sizeOf5 rfl e_8 rfl rfl (show 7 < s.length by omega)) kp1 ler ?_
 refine dU 2 rfl rfl rfl (y_ld (Says.fz q_9) Tryz.isAgg5 rfl (by omega) (bytesOf_nth (show 7 < s.length by omega))) kp1 ler ?_
 refine dU 3 rfl rfl rfl (y_cv Tryz.runUnderlying5 Tryz.runUnderlying83 rfl (cvb _ (by simp))) kp1 ler ?_
 refine dU 4 rfl rfl rfl (y_mv rfl) kp1 ler ?_
 obtain ⟨b_10, o_11, e_12, q_13⟩ := hB.at_ (ne_nil_of_lt (show 6 < s.length by omega))
 refine dU 5 rfl rfl rfl (y_ix2 (j := 6) Tryz.runUnderlying24 Tryz.sizeOf5 rfl e_12 rfl rfl (show 6 < s.length by omega)) kp1 ler ?_
 refine dU 6 rfl rfl rfl (y_ld (Says.fz q_13) Tryz.isAgg5 rfl (by omega) (bytesOf_nth (show 6 < s.length by omega))) kp1 ler ?_
 refine dU 7 rfl rfl rfl (y_cv Tryz.runUnderlying5 Tryz.runUnderlying83 rfl (cvb _ (by simp))) kp1 ler ?_
 refine dU 8 rfl rfl rfl (y_shl rfl rfl (by decide) (shl_u64 (j := 8) (by decide) (by omega))) kp1 ler ?_
 refine dU 9 rfl rfl rfl (y_or rfl rfl (or_u64 (j := 8) (by omega) (by omega))) kp1 ler ?_
 refine dU 10 rfl rfl rfl (y_mv rfl) kp1 ler ?_
 obtain ⟨b_14, o_15, e_16, q_17⟩ := hB.at_ (ne_nil_of_lt (show 5 < s.length by omega))
 refine dU 11 rfl rfl rfl (y_ix2 (j := 5) Tryz.runUnderlying24 Tryz.sizeOf5 rfl e_16 rfl rfl (show 5 < s.length by omega)) kp1 ler ?_
 refine dU 12 rfl rfl rfl (y_ld (Says.fz q_17) Tryz.isAgg5 rfl (by omega) (bytesOf_nth (show 5 < s.length by omega))) kp1 ler ?_
 refine dU 13 rfl rfl rfl (y_cv Tryz.runUnderlying5 Tryz.runUnderlying83 rfl (cvb _ (by simp))) kp1 ler ?_
 refine dU 14 rfl rfl rfl (y_shl rfl rfl (by decide) (shl_u64 (j := 16) (by decide) (by omega))) kp1 ler ?_
 refine dU 15 rfl rfl rfl (y_or rfl rfl (or_u64 (j := 16) (by omega) (by omega))) kp1 ler ?_
 refine dU 16 rfl rfl rfl (y_mv rfl) kp1 ler ?_
 obtain ⟨b_18, o_19, e_20, q_21⟩ := hB.at_ (ne_nil_of_lt (show 4 < s.length by omega))
 refine dU 17 rfl rfl rfl (y_ix2 (j := 4) Tryz.runUnderlying24 Tryz.sizeOf5 rfl e_20 rfl rfl (show 4 < s.length by omega)) kp1 ler ?_
 refine dU 18 rfl rfl rfl (y_ld (Says.fz q_21) Tryz.isAgg5 rfl (by omega) (bytesOf_nth (show 4 < s.length by omega))) kp1 ler ?_
 refine dU 19 rfl rfl rfl (y_cv Tryz.runUnderlying5 Tryz.runUnderlying83 rfl (cvb _ (by simp))) kp1 ler ?_
 refine dU 20 rfl rfl rfl (y_shl rfl rfl (by decide) (shl_u64 (j := 24) (by decide) (by omega))) kp1 ler ?_
 refine dU 21 rfl rfl rfl (y_or rfl rfl (or_u64 (j := 24) (by omega) (by omega))) kp1 ler ?_
 refine dU 22 rfl rfl rfl (y_mv rfl) kp1 ler ?_
 obtain ⟨b_22, o_23, e_24, q_25⟩ := hB.at_ (ne_nil_of_lt (show 3 < s.length by omega))
 refine dU 23 rfl rfl rfl (y_ix2 (j := 3) Tryz.runUnderlying24 Tryz.sizeOf5 rfl e_24 rfl rfl (show 3 < s.length by omega)) kp1 ler ?_
 refine dU 24 rfl rfl rfl (y_ld (Says.fz q_25) Tryz.isAgg5 rfl (by omega) (bytesOf_nth (show 3 < s.length by omega))) kp1 ler ?_
 refine dU 25 rfl rfl rfl (y_cv Tryz.runUnderlying5 Tryz.runUnderlying83 rfl (cvb _ (by simp))) kp1 ler ?_
 refine dU 26 rfl rfl rfl (y_shl rfl rfl (by decide) (shl_u64 (j := 32) (by decide) (by omega))) kp1 ler ?_
 refine dU 27 rfl rfl rfl (y_or rfl rfl (or_u64 (j := 32) (by omega) (by omega))) kp1 ler ?_
 refine dU 28 rfl rfl rfl (y_mv rfl) kp1 ler ?_
 obtain ⟨b_26, o_27, e_28, q_29⟩ := hB.at_ (ne_nil_of_lt (show 2 < s.length by omega))
 refine dU 29 rfl rfl rfl (y_ix2 (j := 2) Tryz.runUnderlying24 Tryz.sizeOf5 rfl e_28 rfl rfl (show 2 < s.length by omega)) kp1 ler ?_
 refine dU 30 rfl rfl rfl (y_ld (Says.fz q_29) Tryz.isAgg5 rfl (by omega) (bytesOf_nth (show 2 < s.length by omega))) kp1 ler ?_
 refine dU 31 rfl rfl rfl (y_cv Tryz.runUnderlying5 Tryz.runUnderlying83 rfl (cvb _ (by simp))) kp1 ler ?_
 refine dU 32 rfl rfl rfl (y_shl rfl rfl (by decide) (shl_u64 (j := 40) (by decide) (by omega))) kp1 ler ?_
 refine dU 33 rfl rfl rfl (y_or rfl rfl (or_u64 (j := 40) (by omega) (by omega))) kp1 ler ?_
 refine dU 34 rfl rfl rfl (y_mv rfl) kp1 ler ?_
 obtain ⟨b_30, o_31, e_32, q_33⟩ := hB.at_ (ne_nil_of_lt (show 1 < s.length by omega))
 refine dU 35 rfl rfl rfl (y_ix2 (j := 1) Tryz.runUnderlying24 Tryz.sizeOf5 rfl e_32 rfl rfl (show 1 < s.length by omega)) kp1 ler ?_
 refine dU 36 rfl rfl rfl (y_ld (Says.fz q_33) Tryz.isAgg5 rfl (by omega) (bytesOf_nth (show 1 < s.length by omega))) kp1 ler ?_
 refine dU 37 rfl rfl rfl (y_cv Tryz.runUnderlying5 Tryz.runUnderlying83 rfl (cvb _ (by simp))) kp1 ler ?_
 refine dU 38 rfl rfl rfl (y_shl rfl rfl (by decide) (shl_u64 (j := 48) (by decide) (by omega))) kp1 ler ?_
 refine dU 39 rfl rfl rfl (y_or rfl rfl (or_u64 (j := 48) (by omega) (by omega))) kp1 ler ?_
 refine dU 40 rfl rfl rfl (y_mv rfl) kp1 ler ?_
 obtain ⟨b_34, o_35, e_36, q_37⟩ := hB.at_ (ne_nil_of_lt (show 0 < s.length by omega))
 refine dU 41 rfl rfl rfl (y_ix2 (j := 0) Tryz.runUnderlying24 Tryz.sizeOf5 rfl e_36 rfl rfl (show 0 < s.length by omega)) kp1 ler ?_
 refine dU 42 rfl rfl rfl (y_ld (Says.fz q_37) Tryz.isAgg5 rfl (by omega) (bytesOf_nth (show 0 < s.length by omega))) kp1 ler ?_
 refine dU 43 rfl rfl rfl (y_cv Tryz.runUnderlying5 Tryz.runUnderlying83 rfl (cvb _ (by simp))) kp1 ler ?_
 refine dU 44 rfl rfl rfl (y_shl rfl rfl (by decide) (shl_u64 (j := 56) (by decide) (by omega))) kp1 ler ?_
 refine dU 45 rfl rfl rfl (y_or rfl rfl (or_u64 (j := 56) (by omega) (by omega))) kp1 ler ?_
 refine dU 46 rfl rfl rfl (y_asg rfl) kp1 ler ?_
 refine dD (by kernel_rfl) ?_
 refine Nt ?_
 refine drW .head ?_
 exact rT rfl rfl ler (fun _ _ h => h) ⟨rfl, rfl, by rw [be8 hn]⟩
theorem r_Bool {H : Fz} {L : Own} {b : Nat} {r : Rd} {N : Chunk} (hR : RdAt H 118 b r N) :
  Fn Tryz.prog 110 [.pointer (some ⟨b, 0, none⟩)] H (N :: L) (fun v H' L' => H = H' ∧ ∃ N', L' = N' :: L ∧ RdAt H 118 b (rN 1 r).2 N' ∧ v = .bool (decide ((rN 1 r).1 ≠ 0))) := by
 obtain ⟨a, c, rfl, hB, hnn⟩ := hR
 refine Fn.mk Tryz.call110 Tryz.func110 rfl Tryz.ntmps110 rfl ?_
 refine sr ?_
 refine asg rfl rfl ?_
 refine nl ?_
 refine sq ?_
 refine sr ?_
 refine mv rfl rfl ?_
 refine nc rfl rfl ?_
 refine fa0 F118_0 rfl rfl ?_
 refine ld (Says.own .head) Tryz.isAgg24 rfl (Nat.zero_add _).symm rfl rfl ?_
 refine ls Tryz.runUnderlying24 rfl rfl ?_
 refine lt rfl rfl rfl ?_
 refine nl ?_
 refine cd rfl (fun h9 => ?_) (fun h9 => ?_)
 ·
  have e : rN 1 r = (0, .out) := by unfold rN; rw [if_pos (by omega)]
  refine sr ?_
  refine mv rfl rfl ?_
  refine nc rfl rfl ?_
  refine fa0 F118_1 rfl rfl ?_
  refine st Tryz.sizeOf4 rfl rfl rfl rfl .head ?_
  refine nl ?_
  refine sr ?_
  refine mv rfl rfl ?_
  refine nc rfl rfl ?_
  refine fa0 F118_0 rfl rfl ?_
  refine st Tryz.sizeOf24 rfl rfl rfl rfl .head ?_
  refine nl ?_
  refine sr ?_
  refine asg rfl rfl ?_
  refine nl ?_
  exact rT rfl rfl ler (fun _ _ h => h) ⟨rfl, _, rfl, by rw [e]; exact RdAt.out _ _ _, by rw [e]; rfl⟩
 ·
  have hn : 1 ≤ r.s.length := by omega
  have e : rN 1 r = (beN (r.s.take 1), ⟨r.s.drop 1, r.bad, true⟩) := by unfold rN; rw [if_neg (by omega)]
  refine skt ?_
  refine sr ?_
  refine mv rfl rfl ?_
  refine nc rfl rfl ?_
  refine fa0 F118_0 rfl rfl ?_
  refine ld (Says.own .head) Tryz.isAgg24 rfl (Nat.zero_add _).symm rfl rfl ?_
  obtain ⟨b_1, o_2, e_3, q_4⟩ := hB.at_ (ne_nil_of_lt (show 0 < r.s.length by omega))
  refine ix2 (j := 0) Tryz.runUnderlying24 Tryz.sizeOf5 rfl e_3 rfl rfl (show 0 < r.s.length by omega) rfl ?_
  refine ld (Says.fz q_4) Tryz.isAgg5 rfl (by omega) (bytesOf_nth (show 0 < r.s.length by omega)) rfl ?_
  refine ne' rfl rfl rfl ?_
  refine asg rfl rfl ?_
  refine nl ?_
  refine sr ?_
  refine mv rfl rfl ?_
  refine mv rfl rfl ?_
  refine nc rfl rfl ?_
  refine fa0 F118_0 rfl rfl ?_
  refine ld (Says.own .head) Tryz.isAgg24 rfl (Nat.zero_add _).symm rfl rfl ?_
  refine slo Tryz.runUnderlying24 Tryz.sizeOf5 rfl rfl hB rfl (j := 1) rfl (by omega) rfl (fun a' ha' hB' => ?_)
  refine nc rfl rfl ?_
  refine fa0 F118_0 rfl rfl ?_
  refine st Tryz.sizeOf24 rfl rfl rfl rfl .head ?_
  refine nl ?_
  refine sr ?_
  refine mv rfl rfl ?_
  refine asg rfl rfl ?_
  refine nl ?_
  exact rT rfl rfl ler (fun _ _ h => h) ⟨rfl, _, rfl, by rw [e]; exact ⟨a', c - 1, rfl, hB', by rw [ha', hB.some (ne_of_len hn)]; rfl⟩, by rw [e]; simp only [be1 hn]; congr 1; apply decide_eq_decide.2; omega⟩
theorem r_Int8 {H : Fz} {L : Own} {b : Nat} {r : Rd} {N : Chunk} (hR : RdAt H 118 b r N) :
  Fn Tryz.prog 97 [.pointer (some ⟨b, 0, none⟩)] H (N :: L) (fun v H' L' => H = H' ∧ ∃ N', L' = N' :: L ∧ RdAt H 118 b (rN 1 r).2 N' ∧ v = .int .i8 (IntKind.i8.wrap (rN 1 r).1)) := by
 obtain ⟨a, c, rfl, hB, hnn⟩ := hR
 refine Fn.mk Tryz.call97 Tryz.func97 rfl Tryz.ntmps97 rfl ?_
 refine sr ?_
 refine asg rfl rfl ?_
 refine nl ?_
 refine sq ?_
 refine sr ?_
 refine mv rfl rfl ?_
 refine nc rfl rfl ?_
 refine fa0 F118_0 rfl rfl ?_
 refine ld (Says.own .head) Tryz.isAgg24 rfl (Nat.zero_add _).symm rfl rfl ?_
 refine ls Tryz.runUnderlying24 rfl rfl ?_
 refine lt rfl rfl rfl ?_
 refine nl ?_
 refine cd rfl (fun h9 => ?_) (fun h9 => ?_)
 ·
  have e : rN 1 r = (0, .out) := by unfold rN; rw [if_pos (by omega)]
  refine sr ?_
  refine mv rfl rfl ?_
  refine nc rfl rfl ?_
  refine fa0 F118_1 rfl rfl ?_
  refine st Tryz.sizeOf4 rfl rfl rfl rfl .head ?_
  refine nl ?_
  refine sr ?_
  refine mv rfl rfl ?_
  refine nc rfl rfl ?_
  refine fa0 F118_0 rfl rfl ?_
  refine st Tryz.sizeOf24 rfl rfl rfl rfl .head ?_
  refine nl ?_
  refine sr ?_
  refine asg rfl rfl ?_
  refine nl ?_
  exact rT rfl rfl ler (fun _ _ h => h) ⟨rfl, _, rfl, by rw [e]; exact RdAt.out _ _ _, by rw [e]; rfl⟩
 ·
  have hn : 1 ≤ r.s.length := by omega
  have e : rN 1 r = (beN (r.s.take 1), ⟨r.s.drop 1, r.bad, true⟩) := by unfold rN; rw [if_neg (by omega)]
  refine skt ?_
  refine sr ?_
  refine mv rfl rfl ?_
  refine nc rfl rfl ?_
  refine fa0 F118_0 rfl rfl ?_
  refine ld (Says.own .head) Tryz.isAgg24 rfl (Nat.zero_add _).symm rfl rfl ?_
  obtain ⟨b_1, o_2, e_3, q_4⟩ := hB.at_ (ne_nil_of_lt (show 0 < r.s.length by omega))
  refine ix2 (j := 0) Tryz.runUnderlying24 Tryz.sizeOf5 rfl e_3 rfl rfl (show 0 < r.s.length by omega) rfl ?_
  refine ld (Says.fz q_4) Tryz.isAgg5 rfl (by omega) (bytesOf_nth (show 0 < r.s.length by omega)) rfl ?_
  refine asg rfl rfl ?_
  refine nl ?_
  refine sr ?_
  refine mv rfl rfl ?_
  refine mv rfl rfl ?_
  refine nc rfl rfl ?_
  refine fa0 F118_0 rfl rfl ?_
  refine ld (Says.own .head) Tryz.isAgg24 rfl (Nat.zero_add _).symm rfl rfl ?_
  refine slo Tryz.runUnderlying24 Tryz.sizeOf5 rfl rfl hB rfl (j := 1) rfl (by omega) rfl (fun a' ha' hB' => ?_)
  refine nc rfl rfl ?_
  refine fa0 F118_0 rfl rfl ?_
  refine st Tryz.sizeOf24 rfl rfl rfl rfl .head ?_
  refine nl ?_
  refine sr ?_
  refine mv rfl rfl ?_
  refine cv Tryz.runUnderlying5 Tryz.runUnderlying105 rfl rfl rfl ?_
  refine asg rfl rfl ?_
  refine nl ?_
  exact rT rfl rfl ler (fun _ _ h => h) ⟨rfl, _, rfl, by rw [e]; exact ⟨a', c - 1, rfl, hB', by rw [ha', hB.some (ne_of_len hn)]; rfl⟩, by rw [e, be1 hn]⟩
theorem r_Int16 {H : Fz} {L : Own} {b : Nat} {r : Rd} {N : Chunk} (hR : RdAt H 118 b r N) :
  Fn Tryz.prog 109 [.pointer (some ⟨b, 0, none⟩)] H (N :: L) (fun v H' L' => H = H' ∧ ∃ N', L' = N' :: L ∧ RdAt H 118 b (rN 2 r).2 N' ∧ v = .int .i16 (IntKind.i16.wrap (rN 2 r).1)) := by
 obtain ⟨a, c, rfl, hB, hnn⟩ := hR
 refine Fn.mk Tryz.call109 Tryz.func109 rfl Tryz.ntmps109 rfl ?_
 refine sr ?_
 refine asg rfl rfl ?_
 refine nl ?_
 refine sq ?_
 refine sr ?_
 refine mv rfl rfl ?_
 refine nc rfl rfl ?_
 refine fa0 F118_0 rfl rfl ?_
 refine ld (Says.own .head) Tryz.isAgg24 rfl (Nat.zero_add _).symm rfl rfl ?_
 refine ls Tryz.runUnderlying24 rfl rfl ?_
 refine lt rfl rfl rfl ?_
 refine nl ?_
 refine cd rfl (fun h9 => ?_) (fun h9 => ?_)
 ·
  have e : rN 2 r = (0, .out) := by unfold rN; rw [if_pos (by omega)]
  refine sr ?_
  refine mv rfl rfl ?_
  refine nc rfl rfl ?_
  refine fa0 F118_1 rfl rfl ?_
  refine st Tryz.sizeOf4 rfl rfl rfl rfl .head ?_
  refine nl ?_
  refine sr ?_
  refine mv rfl rfl ?_
  refine nc rfl rfl ?_
  refine fa0 F118_0 rfl rfl ?_
  refine st Tryz.sizeOf24 rfl rfl rfl rfl .head ?_
  refine nl ?_
  refine sr ?_
  refine asg rfl rfl ?_
  refine nl ?_
  exact rT rfl rfl ler (fun _ _ h => h) ⟨rfl, _, rfl, by rw [e]; exact RdAt.out _ _ _, by rw [e]; rfl⟩
 ·
  have hn : 2 ≤ r.s.length := by omega
  have e : rN 2 r = (beN (r.s.take 2), ⟨r.s.drop 2, r.bad, true⟩) := by unfold rN; rw [if_neg (by omega)]
  refine skt ?_
  refine sq ?_
  refine rgD 8 kp1 mixed ?_
  refine dU 0 rfl rfl rfl (y_la0 Tryz.isAgg169 Tryz.sizeOf169 rfl) kp1 ler ?_
  refine dU 1 rfl rfl rfl (y_mv rfl) kp1 ler ?_
  refine dU 2 rfl rfl rfl (y_nc rfl) kp1 ler ?_
  refine dU 3 rfl rfl rfl (y_fa0 F118_0 rfl) kp1 ler ?_
  refine dU 4 rfl rfl rfl (y_ld (Says.own .head) Tryz.isAgg24 rfl (Nat.zero_add _).symm rfl) kp1 ler ?_
  refine dE 5 (by kernel_rfl) rfl ?_
  refine cl rfl rfl rfl (k_U16 hB hn) rfl (fun v_ H1 L1 hle hR => ?_)
  obtain ⟨rfl, rfl, rfl⟩ := hR
  refine dN kp1 ler ?_
  refine dU 6 rfl rfl rfl (y_cv Tryz.runUnderlying155 Tryz.runUnderlying45 rfl rfl) kp1 ler ?_
  refine dU 7 rfl rfl rfl (y_asg rfl) kp1 ler ?_
  refine dD (by kernel_rfl) ?_
  refine Nt ?_
  refine sr ?_
  refine mv rfl rfl ?_
  refine mv rfl rfl ?_
  refine nc rfl rfl ?_
  refine fa0 F118_0 rfl rfl ?_
  refine ld (Says.own .head) Tryz.isAgg24 rfl (Nat.zero_add _).symm rfl rfl ?_
  refine slo Tryz.runUnderlying24 Tryz.sizeOf5 rfl rfl hB rfl (j := 2) rfl (by omega) rfl (fun a' ha' hB' => ?_)
  refine nc rfl rfl ?_
  refine fa0 F118_0 rfl rfl ?_
  refine st Tryz.sizeOf24 rfl rfl rfl rfl .head ?_
  refine nl ?_
  refine sr ?_
  refine mv rfl rfl ?_
  refine asg rfl rfl ?_
  refine nl ?_
  exact rT rfl rfl ler (fun _ _ h => h) ⟨rfl, _, rfl, by rw [e]; exact ⟨a', c - 2, rfl, hB', by rw [ha', hB.some (ne_of_len hn)]; rfl⟩, by rw [e]⟩
theorem r_Uint16 {H : Fz} {L : Own} {b : Nat} {r : Rd} {N : Chunk} (hR : RdAt H 118 b r N) :
  Fn Tryz.prog 118 [.pointer (some ⟨b, 0, none⟩)] H (N :: L) (fun v H' L' => H = H' ∧ ∃ N', L' = N' :: L ∧ RdAt H 118 b (rN 2 r).2 N' ∧ v = .int .u16 ((rN 2 r).1 : Nat)) := by
 obtain ⟨a, c, rfl, hB, hnn⟩ := hR
 refine Fn.mk Tryz.call118 Tryz.func118 rfl Tryz.ntmps118 rfl ?_
 refine sr ?_
 refine asg rfl rfl ?_
 refine nl ?_
 refine sq ?_
 refine sr ?_
 refine mv rfl rfl ?_
 refine nc rfl rfl ?_
 refine fa0 F118_0 rfl rfl ?_
 refine ld (Says.own .head) Tryz.isAgg24 rfl (Nat.zero_add _).symm rfl rfl ?_
 refine ls Tryz.runUnderlying24 rfl rfl ?_
 refine lt rfl rfl rfl ?_
 refine nl ?_
 refine cd rfl (fun h9 => ?_) (fun h9 => ?_)
 ·
  have e : rN 2 r = (0, .out) := by unfold rN; rw [if_pos (by omega)]
  refine sr ?_
  refine mv rfl rfl ?_
  refine nc rfl rfl ?_
  refine fa0 F118_1 rfl rfl ?_
  refine st Tryz.sizeOf4 rfl rfl rfl rfl .head ?_
  refine nl ?_
  refine sr ?_
  refine mv rfl rfl ?_
  refine nc rfl rfl ?_
  refine fa0 F118_0 rfl rfl ?_
  refine st Tryz.sizeOf24 rfl rfl rfl rfl .head ?_
  refine nl ?_
  refine sr ?_
  refine asg rfl rfl ?_
  refine nl ?_
  exact rT rfl rfl ler (fun _ _ h => h) ⟨rfl, _, rfl, by rw [e]; exact RdAt.out _ _ _, by rw [e]; rfl⟩
 ·
  have hn : 2 ≤ r.s.length := by omega
  have e : rN 2 r = (beN (r.s.take 2), ⟨r.s.drop 2, r.bad, true⟩) := by unfold rN; rw [if_neg (by omega)]
  refine skt ?_
  refine sq ?_
  refine rgD 7 kp1 mixed ?_
  refine dU 0 rfl rfl rfl (y_la0 Tryz.isAgg169 Tryz.sizeOf169 rfl) kp1 ler ?_
  refine dU 1 rfl rfl rfl (y_mv rfl) kp1 ler ?_
  refine dU 2 rfl rfl rfl (y_nc rfl) kp1 ler ?_
  refine dU 3 rfl rfl rfl (y_fa0 F118_0 rfl) kp1 ler ?_
  refine dU 4 rfl rfl rfl (y_ld (Says.own .head) Tryz.isAgg24 rfl (Nat.zero_add _).symm rfl) kp1 ler ?_
  refine dE 5 (by kernel_rfl) rfl ?_
  refine cl rfl rfl rfl (k_U16 hB hn) rfl (fun v_ H1 L1 hle hR => ?_)
  obtain ⟨rfl, rfl, rfl⟩ := hR
  refine dN kp1 ler ?_
  refine dU 6 rfl rfl rfl (y_asg rfl) kp1 ler ?_
  refine dD (by kernel_rfl) ?_
  refine Nt ?_
  refine sr ?_
  refine mv rfl rfl ?_
  refine mv rfl rfl ?_
  refine nc rfl rfl ?_
  refine fa0 F118_0 rfl rfl ?_
  refine ld (Says.own .head) Tryz.isAgg24 rfl (Nat.zero_add _).symm rfl rfl ?_
  refine slo Tryz.runUnderlying24 Tryz.sizeOf5 rfl rfl hB rfl (j := 2) rfl (by omega) rfl (fun a' ha' hB' => ?_)
  refine nc rfl rfl ?_
  refine fa0 F118_0 rfl rfl ?_
  refine st Tryz.sizeOf24 rfl rfl rfl rfl .head ?_
  refine nl ?_
  refine sr ?_
  refine mv rfl rfl ?_
  refine asg rfl rfl ?_
  refine nl ?_
  exact rT rfl rfl ler (fun _ _ h => h) ⟨rfl, _, rfl, by rw [e]; exact ⟨a', c - 2, rfl, hB', by rw [ha', hB.some (ne_of_len hn)]; rfl⟩, by rw [e]⟩
theorem r_Int32 {H : Fz} {L : Own} {b : Nat} {r : Rd} {N : Chunk} (hR : RdAt H 118 b r N) :
  Fn Tryz.prog 100 [.pointer (some ⟨b, 0, none⟩)] H (N :: L) (fun v H' L' => H = H' ∧ ∃ N', L' = N' :: L ∧ RdAt H 118 b (rN 4 r).2 N' ∧ v = .int .i32 (IntKind.i32.wrap (rN 4 r).1)) := by
 obtain ⟨a, c, rfl, hB, hnn⟩ := hR
 refine Fn.mk Tryz.call100 Tryz.func100 rfl Tryz.ntmps100 rfl ?_
 refine sr ?_
 refine asg rfl rfl ?_
 refine nl ?_
 refine sq ?_
 refine sr ?_
 refine mv rfl rfl ?_
 refine nc rfl rfl ?_
 refine fa0 F118_0 rfl rfl ?_
 refine ld (Says.own .head) Tryz.isAgg24 rfl (Nat.zero_add _).symm rfl rfl ?_
 refine ls Tryz.runUnderlying24 rfl rfl ?_
 refine lt rfl rfl rfl ?_
 refine nl ?_
 refine cd rfl (fun h9 => ?_) (fun h9 => ?_)
 ·
  have e : rN 4 r = (0, .out) := by unfold rN; rw [if_pos (by omega)]
  refine sr ?_
  refine mv rfl rfl ?_
  refine nc rfl rfl ?_
  refine fa0 F118_1 rfl rfl ?_
  refine st Tryz.sizeOf4 rfl rfl rfl rfl .head ?_
  refine nl ?_
  refine sr ?_
  refine mv rfl rfl ?_
  refine nc rfl rfl ?_
  refine fa0 F118_0 rfl rfl ?_
  refine st Tryz.sizeOf24 rfl rfl rfl rfl .head ?_
  refine nl ?_
  refine sr ?_
  refine asg rfl rfl ?_
  refine nl ?_
  exact rT rfl rfl ler (fun _ _ h => h) ⟨rfl, _, rfl, by rw [e]; exact RdAt.out _ _ _, by rw [e]; rfl⟩
 ·
  have hn : 4 ≤ r.s.length := by omega
  have e : rN 4 r = (beN (r.s.take 4), ⟨r.s.drop 4, r.bad, true⟩) := by unfold rN; rw [if_neg (by omega)]
  refine skt ?_
  refine sq ?_
  refine rgD 8 kp1 mixed ?_
  refine dU 0 rfl rfl rfl (y_la0 Tryz.isAgg169 Tryz.sizeOf169 rfl) kp1 ler ?_
  refine dU 1 rfl rfl rfl (y_mv rfl) kp1 ler ?_
  refine dU 2 rfl rfl rfl (y_nc rfl) kp1 ler ?_
  refine dU 3 rfl rfl rfl (y_fa0 F118_0 rfl) kp1 ler ?_
  refine dU 4 rfl rfl rfl (y_ld (Says.own .head) Tryz.isAgg24 rfl (Nat.zero_add _).symm rfl) kp1 ler ?_
  refine dE 5 (by kernel_rfl) rfl ?_
  refine cl rfl rfl rfl (k_U32 hB hn) rfl (fun v_ H1 L1 hle hR => ?_)
  obtain ⟨rfl, rfl, rfl⟩ := hR
  refine dN kp1 ler ?_
  refine dU 6 rfl rfl rfl (y_cv Tryz.runUnderlying67 Tryz.runUnderlying21 rfl rfl) kp1 ler ?_
  refine dU 7 rfl rfl rfl (y_asg rfl) kp1 ler ?_
  refine dD (by kernel_rfl) ?_
  refine Nt ?_
  refine sr ?_
  refine mv rfl rfl ?_
  refine mv rfl rfl ?_
  refine nc rfl rfl ?_
  refine fa0 F118_0 rfl rfl ?_
  refine ld (Says.own .head) Tryz.isAgg24 rfl (Nat.zero_add _).symm rfl rfl ?_
  refine slo Tryz.runUnderlying24 Tryz.sizeOf5 rfl rfl hB rfl (j := 4) rfl (by omega) rfl (fun a' ha' hB' => ?_)
  refine nc rfl rfl ?_
  refine fa0 F118_0 rfl rfl ?_
  refine st Tryz.sizeOf24 rfl rfl rfl rfl .head ?_
  refine nl ?_
  refine sr ?_
  refine mv rfl rfl ?_
  refine asg rfl rfl ?_
  refine nl ?_
  exact rT rfl rfl ler (fun _ _ h => h) ⟨rfl, _, rfl, by rw [e]; exact ⟨a', c - 4, rfl, hB', by rw [ha', hB.some (ne_of_len hn)]; rfl⟩, by rw [e]⟩
theorem r_readUint64 {H : Fz} {L : Own} {b : Nat} {r : Rd} {N : Chunk} (hR : RdAt H 118 b r N) :
  Fn Tryz.prog 129 [.pointer (some ⟨b, 0, none⟩)] H (N :: L) (fun v H' L' => H = H' ∧ ∃ N', L' = N' :: L ∧ RdAt H 118 b (rN 8 r).2 N' ∧ v = .int .u64 ((rN 8 r).1 : Nat)) := by
 obtain ⟨a, c, rfl, hB, hnn⟩ := hR
 refine Fn.mk Tryz.call129 Tryz.func129 rfl Tryz.ntmps129 rfl ?_
 refine sr ?_
 refine asg rfl rfl ?_
 refine nl ?_
 refine sq ?_
 refine sr ?_
 refine mv rfl rfl ?_
 refine nc rfl rfl ?_
 refine fa0 F118_0 rfl rfl ?_
 refine ld (Says.own .head) Tryz.isAgg24 rfl (Nat.zero_add _).symm rfl rfl ?_
 refine ls Tryz.runUnderlying24 rfl rfl ?_
 refine lt rfl rfl rfl ?_
 refine nl ?_
 refine cd rfl (fun h9 => ?_) (fun h9 => ?_)
 ·
  have e : rN 8 r = (0, .out) := by unfold rN; rw [if_pos (by omega)]
  refine sr ?_
  refine mv rfl rfl ?_
  refine nc rfl rfl ?_
  refine fa0 F118_1 rfl rfl ?_
  refine st Tryz.sizeOf4 rfl rfl rfl rfl .head ?_
  refine nl ?_
  refine sr ?_
  refine mv rfl rfl ?_
  refine nc rfl rfl ?_
  refine fa0 F118_0 rfl rfl ?_
  refine st Tryz.sizeOf24 rfl rfl rfl rfl .head ?_
  refine nl ?_
  refine sr ?_
  refine asg rfl rfl ?_
  refine nl ?_
  exact rT rfl rfl ler (fun _ _ h => h) ⟨rfl, _, rfl, by rw [e]; exact RdAt.out _ _ _, by rw [e]; rfl⟩
 ·
  have hn : 8 ≤ r.s.length := by omega
  have e : rN 8 r = (beN (r.s.take 8), ⟨r.s.drop 8, r.bad, true⟩) := by unfold rN; rw [if_neg (by omega)]
  refine skt ?_
  refine sq ?_
  refine rgD 7 kp1 mixed ?_
  refine dU 0 rfl rfl rfl (y_la0 Tryz.isAgg169 Tryz.sizeOf169 rfl) kp1 ler ?_
  refine dU 1 rfl rfl rfl (y_mv rfl) kp1 ler ?_
  refine dU 2 rfl rfl rfl (y_nc rfl) kp1 ler ?_
  refine dU 3 rfl rfl rfl (y_fa0 F118_0 rfl) kp1 ler ?_
  refine dU 4 rfl rfl rfl (y_ld (Says.own .head) Tryz.isAgg24 rfl (Nat.zero_add _).symm rfl) kp1 ler ?_
  refine dE 5 (by kernel_rfl) rfl ?_
  refine cl rfl rfl rfl (k_U64 hB hn) rfl (fun v_ H1 L1 hle hR => ?_)
  obtain ⟨rfl, rfl, rfl⟩ := hR
  refine dN kp1 ler ?_
  refine dU 6 rfl rfl rfl (y_asg rfl) kp1 ler ?_
  refine dD (by kernel_rfl) ?_
  refine Nt ?_
  refine sr ?_
  refine mv rfl rfl ?_
  refine mv rfl rfl ?_
  refine nc rfl rfl ?_
  refine fa0 F118_0 rfl rfl ?_
  refine ld (Says.own .head) Tryz.isAgg24 rfl (Nat.zero_add _).symm rfl rfl ?_
  refine slo Tryz.runUnderlying24 Tryz.sizeOf5 rfl rfl hB rfl (j := 8) rfl (by omega) rfl (fun a' ha' hB' => ?_)
  refine nc rfl rfl ?_
  refine fa0 F118_0 rfl rfl ?_
  refine st Tryz.sizeOf24 rfl rfl rfl rfl .head ?_
  refine nl ?_
  refine sr ?_
  refine mv rfl rfl ?_
  refine asg rfl rfl ?_
  refine nl ?_
  exact rT rfl rfl ler (fun _ _ h => h) ⟨rfl, _, rfl, by rw [e]; exact ⟨a', c - 8, rfl, hB', by rw [ha', hB.some (ne_of_len hn)]; rfl⟩, by rw [e]⟩
theorem r_Span {H : Fz} {L : Own} {b : Nat} {r : Rd} {N : Chunk} {l : Int} (hR : RdAt H 118 b r N) :
  Fn Tryz.prog 123 [.pointer (some ⟨b, 0, none⟩), .int .i64 l] H (N :: L) (fun v H' L' => H = H' ∧ ∃ N', L' = N' :: L ∧ RdAt H 118 b (rSpan l r).2 N' ∧ ∃ a c, v = .slice a (rSpan l r).1.1.length c ∧ BytesAt H a c (rSpan l r).1.1 ∧ a.isNone = (rSpan l r).1.2) := by
 obtain ⟨a, c, rfl, hB, hnn⟩ := hR
 refine Fn.mk Tryz.call123 Tryz.func123 rfl Tryz.ntmps123 rfl ?_
 refine sr ?_
 refine asg rfl rfl ?_
 refine nl ?_
 refine sq ?_
 refine sr ?_
 refine mv rfl rfl ?_
 refine nc rfl rfl ?_
 refine fa0 F118_0 rfl rfl ?_
 refine ld (Says.own .head) Tryz.isAgg24 rfl (Nat.zero_add _).symm rfl rfl ?_
 refine ls Tryz.runUnderlying24 rfl rfl ?_
 refine mv rfl rfl ?_
 refine lt rfl rfl rfl ?_
 refine mv rfl rfl ?_
 refine spl (t := 13) rfl (fun h13 => ?_) (fun h13 => ?_)
 ·
  refine gs rfl rfl rfl rfl ?_
  refine gs rfl rfl rfl rfl ?_
  refine pk rfl rfl rfl rfl ?_
  refine nl ?_
  refine cT rfl ?_
  refine sr ?_
  refine mv rfl rfl ?_
  refine nc rfl rfl ?_
  refine fa0 F118_1 rfl rfl ?_
  refine st Tryz.sizeOf4 rfl rfl rfl rfl .head ?_
  refine nl ?_
  refine sr ?_
  refine mv rfl rfl ?_
  refine nc rfl rfl ?_
  refine fa0 F118_0 rfl rfl ?_
  refine st Tryz.sizeOf24 rfl rfl rfl rfl .head ?_
  refine nl ?_
  refine sr ?_
  refine asg rfl rfl ?_
  refine nl ?_
  have e : rSpan l r = (([], true), .out) := by unfold rSpan; rw [if_pos (by omega)]
  exact rT rfl rfl ler (fun _ _ h => h) ⟨rfl, _, rfl, by rw [e]; exact RdAt.out _ _ _, none, 0, by rw [e]; rfl, by rw [e]; exact .nil _, by rw [e]; rfl⟩
 ·
  refine gr rfl rfl ?_
  refine mv rfl rfl ?_
  refine gr rfl rfl ?_
  refine lt rfl rfl rfl ?_
  refine pk rfl rfl rfl rfl ?_
  refine nl ?_
  refine cd rfl (fun h16 => ?_) (fun h16 => ?_)
  ·
   refine sr ?_
   refine mv rfl rfl ?_
   refine nc rfl rfl ?_
   refine fa0 F118_1 rfl rfl ?_
   refine st Tryz.sizeOf4 rfl rfl rfl rfl .head ?_
   refine nl ?_
   refine sr ?_
   refine mv rfl rfl ?_
   refine nc rfl rfl ?_
   refine fa0 F118_0 rfl rfl ?_
   refine st Tryz.sizeOf24 rfl rfl rfl rfl .head ?_
   refine nl ?_
   refine sr ?_
   refine asg rfl rfl ?_
   refine nl ?_
   have e : rSpan l r = (([], true), .out) := by unfold rSpan; rw [if_pos (by omega)]
   exact rT rfl rfl ler (fun _ _ h => h) ⟨rfl, _, rfl, by rw [e]; exact RdAt.out _ _ _, none, 0, by rw [e]; rfl, by rw [e]; exact .nil _, by rw [e]; rfl⟩
  ·
   obtain ⟨k, rfl⟩ : ∃ k : Nat, l = (k : Int) := ⟨l.toNat, by omega⟩
   have hk : k ≤ r.s.length := by omega
   have e : rSpan (k : Int) r = ((r.s.take k, !r.nn), ⟨r.s.drop k, r.bad, r.nn⟩) := by unfold rSpan; rw [if_neg (by omega)]; simp
   have hcap := hB.cap
   refine skt ?_
   refine sr ?_
   refine mv rfl rfl ?_
   refine nc rfl rfl ?_
   refine fa0 F118_0 rfl rfl ?_
   refine ld (Says.own .head) Tryz.isAgg24 rfl (Nat.zero_add _).symm rfl rfl ?_
   refine mv rfl rfl ?_
   refine mv rfl rfl ?_
   refine shm (j := k) Tryz.runUnderlying24 Tryz.sizeOf5 rfl rfl rfl rfl rfl (by omega) rfl ?_
   refine asg rfl rfl ?_
   refine nl ?_
   refine sr ?_
   refine mv rfl rfl ?_
   refine mv rfl rfl ?_
   refine nc rfl rfl ?_
   refine fa0 F118_0 rfl rfl ?_
   refine ld (Says.own .head) Tryz.isAgg24 rfl (Nat.zero_add _).symm rfl rfl ?_
   refine mv rfl rfl ?_
   refine slo Tryz.runUnderlying24 Tryz.sizeOf5 rfl rfl hB rfl (j := k) rfl hk rfl (fun a' ha' hB' => ?_)
   refine nc rfl rfl ?_
   refine fa0 F118_0 rfl rfl ?_
   refine st Tryz.sizeOf24 rfl rfl rfl rfl .head ?_
   refine nl ?_
   refine sr ?_
   refine mv rfl rfl ?_
   refine asg rfl rfl ?_
   refine nl ?_
   exact rT rfl rfl ler (fun _ _ h => h) ⟨rfl, _, rfl, by rw [e]; exact ⟨a', c - k, rfl, hB', by rw [ha', hnn]⟩, a, k, by rw [e]; simp only [List.length_take]; rw [Nat.min_eq_left hk], by rw [e]; exact hB.cut hk, by rw [e]; exact hnn⟩
theorem k_Uvarint {H : Fz} {L : Own} {a : Option Addr} {c : Nat} {s : List UInt8} (hB : BytesAt H a c s) :
  Fn Tryz.prog 131 [.slice a s.length c] H L (fun v H' L' => H = H' ∧ L = L' ∧ ∃ x y : Int, v = .tuple #[.int .u32 x, .int .i64 y] ∧ UvSays s x y) := by
 refine Fn.mk Tryz.call131 Tryz.func131 rfl Tryz.ntmps131 rfl ?_
 refine sr ?_
 refine asg rfl rfl ?_
 refine asg rfl rfl ?_
 refine nl ?_
 refine sc (l0 := 0) (fun a_ w_ => ∃ ov : Int, Has 87 [(0, .slice a s.length c), (5, .int .i64 ov)] a_ ∧ Hp H L w_ ∧ ov ≤ 0 ∧ uvR s = none) rfl ?_ ?_
 ·
  refine sr ?_
  refine asg rfl rfl ?_
  refine nl ?_
  refine sr ?_
  refine asg rfl rfl ?_
  refine nl ?_
  refine sq ?_
  refine sr ?_
  refine mv rfl rfl ?_
  refine ls Tryz.runUnderlying24 rfl rfl ?_
  refine lt rfl rfl rfl ?_
  refine nl ?_
  refine cd rfl (fun h8 => ?_) (fun h8 => ?_)
  ·
   refine gt0 (fun a_ w_ hA hw => show _ ∧ _ from ⟨rfl, 0, hA.sub ?_, hw, by decide, uv_none0 (by omega)⟩)
   exact (.cons rfl (.cons rfl (.nil _)))
  ·
   have hn0 : 1 ≤ s.length := by omega
   have hb0 := (s[0]'(by omega)).toNat_lt
   refine skt ?_
   refine sr ?_
   refine mv rfl rfl ?_
   obtain ⟨b_1, o_2, e_3, q_4⟩ := hB.at_ (ne_nil_of_lt (show 0 < s.length by omega))
   refine ix2 (j := 0) Tryz.runUnderlying24 Tryz.sizeOf5 rfl e_3 rfl rfl (show 0 < s.length by omega) rfl ?_
   refine ld (Says.fz q_4) Tryz.isAgg5 rfl (by omega) (bytesOf_nth (show 0 < s.length by omega)) rfl ?_
   refine an rfl rfl (and127_u8 _) rfl ?_
   refine cv Tryz.runUnderlying5 Tryz.runUnderlying67 rfl (w32u (by omega) (by omega)) rfl ?_
   refine asg rfl rfl ?_
   refine nl ?_
   refine sq ?_
   refine sr ?_
   refine mv rfl rfl ?_
   obtain ⟨b_5, o_6, e_7, q_8⟩ := hB.at_ (ne_nil_of_lt (show 0 < s.length by omega))
   refine ix2 (j := 0) Tryz.runUnderlying24 Tryz.sizeOf5 rfl e_7 rfl rfl (show 0 < s.length by omega) rfl ?_
   refine ld (Says.fz q_8) Tryz.isAgg5 rfl (by omega) (bytesOf_nth (show 0 < s.length by omega)) rfl ?_
   refine an rfl rfl (and128_u8 _) rfl ?_
   refine eq' rfl rfl rfl ?_
   refine nl ?_
   refine cd rfl (fun h18 => ?_) (fun h18 => ?_)
   ·
    have hl : (s[0]'(by omega)).toNat < 128 := by omega
    refine sr ?_
    refine mv rfl rfl ?_
    refine asg rfl rfl ?_
    refine asg rfl rfl ?_
    refine nl ?_
    exact rT2 rfl rfl rfl ler (fun _ _ h => h) ⟨rfl, rfl, _, _, rfl, .inr ⟨_, 1, uv_some1 (by omega) hl, by omega, rfl, by decide, by omega⟩⟩
   ·
    have hq0 : ¬ (s[0]'(by omega)).toNat < 128 := by omega
    refine sr ?_
    refine mv rfl rfl ?_
    refine ls Tryz.runUnderlying24 rfl rfl ?_
    refine lt rfl rfl rfl ?_
    refine nl ?_
    refine cd rfl (fun h22 => ?_) (fun h22 => ?_)
    ·
     refine gt0 (fun a_ w_ hA hw => show _ ∧ _ from ⟨rfl, 0, hA.sub ?_, hw, by decide, uv_none1 (by omega) (by omega) hq0⟩)
     exact (.cons rfl (.cons rfl (.nil _)))
    ·
     have hn1 : 2 ≤ s.length := by omega
     have hb1 := (s[1]'(by omega)).toNat_lt
     refine skt ?_
     refine sr ?_
     refine mv rfl rfl ?_
     refine mv rfl rfl ?_
     obtain ⟨b_9, o_10, e_11, q_12⟩ := hB.at_ (ne_nil_of_lt (show 1 < s.length by omega))
     refine ix2 (j := 1) Tryz.runUnderlying24 Tryz.sizeOf5 rfl e_11 rfl rfl (show 1 < s.length by omega) rfl ?_
     refine ld (Says.fz q_12) Tryz.isAgg5 rfl (by omega) (bytesOf_nth (show 1 < s.length by omega)) rfl ?_
     refine an rfl rfl (and127_u8 _) rfl ?_
     refine cv Tryz.runUnderlying5 Tryz.runUnderlying67 rfl (w32u (by omega) (by omega)) rfl ?_
     refine shl rfl rfl (by decide) (shl_u32 (j := 7) (by decide) (by omega)) rfl ?_
     refine or' rfl rfl (or_u32 (j := 7) (by omega) (by omega)) rfl ?_
     refine asg rfl rfl ?_
     refine nl ?_
     refine sq ?_
     refine sr ?_
     refine mv rfl rfl ?_
     obtain ⟨b_13, o_14, e_15, q_16⟩ := hB.at_ (ne_nil_of_lt (show 1 < s.length by omega))
     refine ix2 (j := 1) Tryz.runUnderlying24 Tryz.sizeOf5 rfl e_15 rfl rfl (show 1 < s.length by omega) rfl ?_
     refine ld (Says.fz q_16) Tryz.isAgg5 rfl (by omega) (bytesOf_nth (show 1 < s.length by omega)) rfl ?_
     refine an rfl rfl (and128_u8 _) rfl ?_
     refine eq' rfl rfl rfl ?_
     refine nl ?_
     refine cd rfl (fun h35 => ?_) (fun h35 => ?_)
     ·
      have hl : (s[1]'(by omega)).toNat < 128 := by omega
      refine sr ?_
      refine mv rfl rfl ?_
      refine asg rfl rfl ?_
      refine asg rfl rfl ?_
      refine nl ?_
      exact rT2 rfl rfl rfl ler (fun _ _ h => h) ⟨rfl, rfl, _, _, rfl, .inr ⟨_, 2, uv_some2 (by omega) hq0 hl, by omega, rfl, by decide, by omega⟩⟩
     ·
      have hq1 : ¬ (s[1]'(by omega)).toNat < 128 := by omega
      refine sr ?_
      refine mv rfl rfl ?_
      refine ls Tryz.runUnderlying24 rfl rfl ?_
      refine lt rfl rfl rfl ?_
      refine nl ?_
      refine cd rfl (fun h39 => ?_) (fun h39 => ?_)
      ·
       refine gt0 (fun a_ w_ hA hw => show _ ∧ _ from ⟨rfl, 0, hA.sub ?_, hw, by decide, uv_none2 (by omega) (by omega) hq0 hq1⟩)
       exact (.cons rfl (.cons rfl (.nil _)))
      ·
       have hn2 : 3 ≤ s.length := by omega
       have hb2 := (s[2]'(by omega)).toNat_lt
       refine skt ?_
       refine sr ?_
       refine mv rfl rfl ?_
       refine mv rfl rfl ?_
       obtain ⟨b_17, o_18, e_19, q_20⟩ := hB.at_ (ne_nil_of_lt (show 2 < s.length by omega))
       refine ix2 (j := 2) Tryz.runUnderlying24 Tryz.sizeOf5 rfl e_19 rfl rfl (show 2 < s.length by omega) rfl ?_
       refine ld (Says.fz q_20) Tryz.isAgg5 rfl (by omega) (bytesOf_nth (show 2 < s.length by omega)) rfl ?_
       refine an rfl rfl (and127_u8 _) rfl ?_
       refine cv Tryz.runUnderlying5 Tryz.runUnderlying67 rfl (w32u (by omega) (by omega)) rfl ?_
       refine shl rfl rfl (by decide) (shl_u32 (j := 14) (by decide) (by omega)) rfl ?_
       refine or' rfl rfl (or_u32 (j := 14) (by omega) (by omega)) rfl ?_
       refine asg rfl rfl ?_
       refine nl ?_
       refine sq ?_
       refine sr ?_
       refine mv rfl rfl ?_
       obtain ⟨b_21, o_22, e_23, q_24⟩ := hB.at_ (ne_nil_of_lt (show 2 < s.length by omega))
       refine ix2 (j := 2) Tryz.runUnderlying24 Tryz.sizeOf5 rfl e_23 rfl rfl (show 2 < s.length by omega) rfl ?_
       refine ld (Says.fz q_24) Tryz.isAgg5 rfl (by omega) (bytesOf_nth (show 2 < s.length by omega)) rfl ?_
       refine an rfl rfl (and128_u8 _) rfl ?_
       refine eq' rfl rfl rfl ?_
       refine nl ?_
       refine cd rfl (fun h52 => ?_) (fun h52 => ?_)
       ·
        have hl : (s[2]'(by omega)).toNat < 128 := by omega
        refine sr ?_
        refine mv rfl rfl ?_
        refine asg rfl rfl ?_
        refine asg rfl rfl ?_
        refine nl ?_
        exact rT2 rfl rfl rfl ler (fun _ _ h => h) ⟨rfl, rfl, _, _, rfl, .inr ⟨_, 3, uv_some3 (by omega) hq0 hq1 hl, by omega, rfl, by decide, by omega⟩⟩
       ·
        have hq2 : ¬ (s[2]'(by omega)).toNat < 128 := by omega
        refine sr ?_
        refine mv rfl rfl ?_
        refine ls Tryz.runUnderlying24 rfl rfl ?_
        refine lt rfl rfl rfl ?_
        refine nl ?_
        refine cd rfl (fun h56 => ?_) (fun h56 => ?_)
        ·
         refine gt0 (fun a_ w_ hA hw => show _ ∧ _ from ⟨rfl, 0, hA.sub ?_, hw, by decide, uv_none3 (by omega) (by omega) hq0 hq1 hq2⟩)
         exact (.cons rfl (.cons rfl (.nil _)))
        ·
         have hn3 : 4 ≤ s.length := by omega
         have hb3 := (s[3]'(by omega)).toNat_lt
         refine skt ?_
         refine sr ?_
         refine mv rfl rfl ?_
         refine mv rfl rfl ?_
         obtain ⟨b_25, o_26, e_27, q_28⟩ := hB.at_ (ne_nil_of_lt (show 3 < s.length by omega))
         refine ix2 (j := 3) Tryz.runUnderlying24 Tryz.sizeOf5 rfl e_27 rfl rfl (show 3 < s.length by omega) rfl ?_
         refine ld (Says.fz q_28) Tryz.isAgg5 rfl (by omega) (bytesOf_nth (show 3 < s.length by omega)) rfl ?_
         refine an rfl rfl (and127_u8 _) rfl ?_
         refine cv Tryz.runUnderlying5 Tryz.runUnderlying67 rfl (w32u (by omega) (by omega)) rfl ?_
         refine shl rfl rfl (by decide) (shl_u32 (j := 21) (by decide) (by omega)) rfl ?_
         refine or' rfl rfl (or_u32 (j := 21) (by omega) (by omega)) rfl ?_
         refine asg rfl rfl ?_
         refine nl ?_
         refine sq ?_
         refine sr ?_
         refine mv rfl rfl ?_
         obtain ⟨b_29, o_30, e_31, q_32⟩ := hB.at_ (ne_nil_of_lt (show 3 < s.length by omega))
         refine ix2 (j := 3) Tryz.runUnderlying24 Tryz.sizeOf5 rfl e_31 rfl rfl (show 3 < s.length by omega) rfl ?_
         refine ld (Says.fz q_32) Tryz.isAgg5 rfl (by omega) (bytesOf_nth (show 3 < s.length by omega)) rfl ?_
         refine an rfl rfl (and128_u8 _) rfl ?_
         refine eq' rfl rfl rfl ?_
         refine nl ?_
         refine cd rfl (fun h69 => ?_) (fun h69 => ?_)
         ·
          have hl : (s[3]'(by omega)).toNat < 128 := by omega
          refine sr ?_
          refine mv rfl rfl ?_
          refine asg rfl rfl ?_
          refine asg rfl rfl ?_
          refine nl ?_
          exact rT2 rfl rfl rfl ler (fun _ _ h => h) ⟨rfl, rfl, _, _, rfl, .inr ⟨_, 4, uv_some4 (by omega) hq0 hq1 hq2 hl, by omega, rfl, by decide, by omega⟩⟩
         ·
          have hq3 : ¬ (s[3]'(by omega)).toNat < 128 := by omega
          refine sr ?_
          refine mv rfl rfl ?_
          refine ls Tryz.runUnderlying24 rfl rfl ?_
          refine lt rfl rfl rfl ?_
          refine nl ?_
          refine cd rfl (fun h73 => ?_) (fun h73 => ?_)
          ·
           refine gt0 (fun a_ w_ hA hw => show _ ∧ _ from ⟨rfl, 0, hA.sub ?_, hw, by decide, uv_none4 (by omega) (by omega) hq0 hq1 hq2 hq3⟩)
           exact (.cons rfl (.cons rfl (.nil _)))
          ·
           have hn4 : 5 ≤ s.length := by omega
           have hb4 := (s[4]'(by omega)).toNat_lt
           refine skt ?_
           refine sr ?_
           refine mv rfl rfl ?_
           refine mv rfl rfl ?_
           obtain ⟨b_33, o_34, e_35, q_36⟩ := hB.at_ (ne_nil_of_lt (show 4 < s.length by omega))
           refine ix2 (j := 4) Tryz.runUnderlying24 Tryz.sizeOf5 rfl e_35 rfl rfl (show 4 < s.length by omega) rfl ?_
           refine ld (Says.fz q_36) Tryz.isAgg5 rfl (by omega) (bytesOf_nth (show 4 < s.length by omega)) rfl ?_
           refine cv Tryz.runUnderlying5 Tryz.runUnderlying67 rfl (cvb _ (by simp)) rfl ?_
           refine shl rfl rfl (by decide) rfl rfl ?_
           refine or' rfl rfl rfl rfl ?_
           refine asg rfl rfl ?_
           refine nl ?_
           refine sq ?_
           refine sr ?_
           refine mv rfl rfl ?_
           obtain ⟨b_37, o_38, e_39, q_40⟩ := hB.at_ (ne_nil_of_lt (show 4 < s.length by omega))
           refine ix2 (j := 4) Tryz.runUnderlying24 Tryz.sizeOf5 rfl e_39 rfl rfl (show 4 < s.length by omega) rfl ?_
           refine ld (Says.fz q_40) Tryz.isAgg5 rfl (by omega) (bytesOf_nth (show 4 < s.length by omega)) rfl ?_
           refine le rfl rfl rfl ?_
           refine nl ?_
           refine cd rfl (fun h84 => ?_) (fun h84 => ?_)
           ·
            have hl : (s[4]'(by omega)).toNat < 16 := by omega
            refine sr ?_
            refine mv rfl rfl ?_
            refine asg rfl rfl ?_
            refine asg rfl rfl ?_
            refine nl ?_
            exact rT2 rfl rfl rfl ler (fun _ _ h => h) ⟨rfl, rfl, _, _, rfl, .inr ⟨_, 5, uv_some5 (by omega) hq0 hq1 hq2 hq3 hl, by rw [shl_u32 (j := 28) (by decide) (by omega), or_u32 (j := 28) (by omega) (by omega)], rfl, by decide, by omega⟩⟩
           ·
            have hq4 : ¬ (s[4]'(by omega)).toNat < 16 := by omega
            refine skt ?_
            refine sr ?_
            refine asg rfl rfl ?_
            refine nl ?_
            refine sq ?_
            refine lb ?_
            refine Nt ?_
            refine sr ?_
            refine mv rfl rfl ?_
            refine asg rfl rfl ?_
            refine asg rfl rfl ?_
            refine nl ?_
            exact rT2 rfl rfl rfl ler (fun _ _ h => h) ⟨rfl, rfl, _, _, rfl, .inl ⟨uv_none5 (by omega) hq0 hq1 hq2 hq3 hq4, by decide⟩⟩
 ·
  rintro a_ w_ ⟨ov, hA, hw, hov, huv⟩
  refine (?_ : Wp _ _ _ 87 [(0, .slice a s.length c), (5, .int .i64 ov)] H L) a_ w_ hA hw
  refine sq ?_
  refine skt ?_
  refine sr ?_
  refine mv rfl rfl ?_
  refine asg rfl rfl ?_
  refine asg rfl rfl ?_
  refine nl ?_
  exact rT2 rfl rfl rfl ler (fun _ _ h => h) ⟨rfl, rfl, _, _, rfl, .inl ⟨huv, hov⟩⟩
theorem k_UnsafeString {H : Fz} {L : Own} {a : Option Addr} {c : Nat} {x : List UInt8} (hx : BytesAt H a c x) :
  Fn Tryz.prog 122 [.slice a x.length c] H L (fun v H' L' => H = H' ∧ L = L' ∧ v = .string ⟨x.toArray⟩) := by
 refine Fn.mk Tryz.call122 Tryz.func122 rfl Tryz.ntmps122 rfl ?_
 refine sr ?_
 refine asg rfl rfl ?_
 refine nl ?_
 refine sr ?_
 refine mv rfl rfl ?_
 refine cbS Tryz.underlying24 Tryz.underlying5 Tryz.underlying9 rfl hx rfl rfl ?_
 refine asg rfl rfl ?_
 refine nl ?_
 exact rT rfl rfl ler (fun _ _ h => h) ⟨rfl, rfl, rfl⟩
theorem r_Int64 {H : Fz} {L : Own} {b : Nat} {r : Rd} {N : Chunk} (hR : RdAt H 118 b r N) :
  Fn Tryz.prog 108 [.pointer (some ⟨b, 0, none⟩)] H (N :: L) (fun v H' L' => H = H' ∧ ∃ N', L' = N' :: L ∧ RdAt H' 118 b (rN 8 r).2 N' ∧ v = .int .i64 (IntKind.i64.wrap (rN 8 r).1)) := by
 refine Fn.mk Tryz.call108 Tryz.func108 rfl Tryz.ntmps108 rfl ?_
 refine sr ?_
 refine asg rfl rfl ?_
 refine nl ?_
 refine sr ?_
 refine mv rfl rfl ?_
 refine cl rfl rfl rfl (r_readUint64 hR) rfl (fun v_ H1 L1 hle hR_ => ?_)
 obtain ⟨rfl, N4, rfl, hR4, rfl⟩ := hR_
 refine cv Tryz.runUnderlying83 Tryz.runUnderlying2 rfl rfl rfl ?_
 refine asg rfl rfl ?_
 refine nl ?_
 exact rT rfl rfl ler (fun _ _ h => h) ⟨rfl, _, rfl, hR4, rfl⟩
theorem r_Uvarint {H : Fz} {L : Own} {b : Nat} {r : Rd} {N : Chunk} (hR : RdAt H 118 b r N) :
  Fn Tryz.prog 121 [.pointer (some ⟨b, 0, none⟩)] H (N :: L) (fun v H' L' => H = H' ∧ ∃ N', L' = N' :: L ∧ RdAt H' 118 b (rU r).2 N' ∧ v = .int .u32 ((rU r).1 : Nat)) := by
 obtain ⟨a, c, rfl, hB, hnn⟩ := hR
 refine Fn.mk Tryz.call121 Tryz.func121 rfl Tryz.ntmps121 rfl ?_
 refine sr ?_
 refine asg rfl rfl ?_
 refine nl ?_
 refine sr ?_
 refine mv rfl rfl ?_
 refine nc rfl rfl ?_
 refine fa0 F118_0 rfl rfl ?_
 refine ld (Says.own .head) Tryz.isAgg24 rfl (Nat.zero_add _).symm rfl rfl ?_
 refine cl rfl rfl rfl (k_Uvarint hB) rfl (fun v_ H1 L1 hle hR_ => ?_)
 obtain ⟨rfl, rfl, x, y, rfl, hxy⟩ := hR_
 refine mv rfl rfl ?_
 refine extr rfl rfl rfl ?_
 refine extr rfl rfl rfl ?_
 refine asg rfl rfl ?_
 refine asg rfl rfl ?_
 refine nl ?_
 refine sq ?_
 refine sr ?_
 refine mv rfl rfl ?_
 refine le rfl rfl rfl ?_
 refine nl ?_
 refine cd rfl (fun h14 => ?_) (fun h14 => ?_)
 ·
  have e : rU r = (0, .out) := by
   rcases hxy with ⟨h1, _⟩ | ⟨u, n, _, _, h2, h3, _⟩
   · unfold rU; rw [h1]
   · omega
  refine sr ?_
  refine mv rfl rfl ?_
  refine nc rfl rfl ?_
  refine fa0 F118_1 rfl rfl ?_
  refine st Tryz.sizeOf4 rfl rfl rfl rfl .head ?_
  refine nl ?_
  refine sr ?_
  refine mv rfl rfl ?_
  refine nc rfl rfl ?_
  refine fa0 F118_0 rfl rfl ?_
  refine st Tryz.sizeOf24 rfl rfl rfl rfl .head ?_
  refine nl ?_
  refine sr ?_
  refine asg rfl rfl ?_
  refine nl ?_
  exact rT rfl rfl ler (fun _ _ h => h) ⟨rfl, _, rfl, by rw [e]; exact RdAt.out _ _ _, by rw [e]; rfl⟩
 ·
  obtain ⟨u, n, h1, rfl, rfl, h3, h4⟩ : ∃ u n : Nat, uvR r.s = some (u, n) ∧ x = u ∧ y = n ∧ 0 < n ∧ n ≤ r.s.length := by
   rcases hxy with ⟨_, h2⟩ | h2
   · omega
   · exact h2
  have e : rU r = (u, ⟨r.s.drop n, r.bad, true⟩) := by unfold rU; rw [h1]
  refine skt ?_
  refine sr ?_
  refine mv rfl rfl ?_
  refine mv rfl rfl ?_
  refine nc rfl rfl ?_
  refine fa0 F118_0 rfl rfl ?_
  refine ld (Says.own .head) Tryz.isAgg24 rfl (Nat.zero_add _).symm rfl rfl ?_
  refine mv rfl rfl ?_
  refine slo Tryz.runUnderlying24 Tryz.sizeOf5 rfl rfl hB rfl (j := n) rfl h4 rfl (fun a' ha' hB' => ?_)
  refine nc rfl rfl ?_
  refine fa0 F118_0 rfl rfl ?_
  refine st Tryz.sizeOf24 rfl rfl rfl rfl .head ?_
  refine nl ?_
  refine sr ?_
  refine mv rfl rfl ?_
  refine asg rfl rfl ?_
  refine nl ?_
  exact rT rfl rfl ler (fun _ _ h => h) ⟨rfl, _, rfl, by rw [e]; exact ⟨a', c - n, rfl, hB', by rw [ha', hB.some (by rintro e0; rw [e0] at h4; simp at h4; omega)]; rfl⟩, by rw [e]; rfl⟩
theorem d8f {H : Fz} {L : Own} {b : Nat} {r : Rd} {N : Chunk} {x : Tr × Rd} {part : Rd → Tr × Rd} (hR : RdAt H 118 b r N) (hx : x = decV 8 part false false r) :
  Fn Tryz.prog 96 [.pointer (some ⟨b, 0, none⟩)] H (N :: L) (fun v H' L' => ∃ N', L' = N' :: L ∧ RdAt H' 118 b x.2 N' ∧ H = H' ∧ v = .string ⟨x.1.s.toArray⟩) := by
 obtain rfl := hx.trans dV8n
 refine Fn.mk Tryz.call96 Tryz.func96 rfl Tryz.ntmps96 rfl ?_
 refine sr ?_
 refine asg rfl rfl ?_
 refine nl ?_
 refine sr ?_
 refine mv rfl rfl ?_
 refine cl rfl rfl rfl (r_Int16 hR) rfl (fun v_ H1 L1 hle hR_ => ?_)
 obtain ⟨rfl, N5, rfl, hR5, rfl⟩ := hR_
 refine asg rfl rfl ?_
 refine nl ?_
 refine sr ?_
 refine mv rfl rfl ?_
 refine mv rfl rfl ?_
 refine cv Tryz.runUnderlying45 Tryz.runUnderlying3 rfl (w64 (by have := i16_rng (rN 2 r).1; omega) (by have := i16_rng (rN 2 r).1; omega)) rfl ?_
 refine cl rfl rfl rfl (r_Span hR5) rfl (fun v_ H1 L1 hle hR_ => ?_)
 obtain ⟨rfl, N9, rfl, hR9, a9, c9, rfl, hB9, hn9⟩ := hR_
 refine cbS Tryz.underlying24 Tryz.underlying5 Tryz.underlying9 rfl hB9 rfl rfl ?_
 refine asg rfl rfl ?_
 refine nl ?_
 exact rT rfl rfl ler (fun _ _ h => h) ⟨_, rfl, hR9, rfl, rfl⟩
theorem d8fn {H : Fz} {L : Own} {b : Nat} {r : Rd} {N : Chunk} {x : Tr × Rd} {part : Rd → Tr × Rd} (hR : RdAt H 118 b r N) (hx : x = decV 8 part true false r) :
  Fn Tryz.prog 115 [.pointer (some ⟨b, 0, none⟩)] H (N :: L) (fun v H' L' => ∃ N', L' = N' :: L ∧ RdAt H' 118 b x.2 N' ∧ ∃ p, v = .pointer p ∧ TextAt H' x.1 p) := by
 refine Fn.mk Tryz.call115 Tryz.func115 rfl Tryz.ntmps115 rfl ?_
 refine sr ?_
 refine asg rfl rfl ?_
 refine nl ?_
 refine sr ?_
 refine mv rfl rfl ?_
 refine cl rfl rfl rfl (r_Int16 hR) rfl (fun v_ H1 L1 hle hR_ => ?_)
 obtain ⟨rfl, N6, rfl, hR6, rfl⟩ := hR_
 refine asg rfl rfl ?_
 refine nl ?_
 refine sq ?_
 refine sr ?_
 refine mv rfl rfl ?_
 refine lt rfl rfl rfl ?_
 refine nl ?_
 refine cd rfl (fun h8 => ?_) (fun h8 => ?_)
 ·
  obtain rfl := hx.trans (dV8y0 h8)
  refine sr ?_
  refine asg rfl rfl ?_
  refine nl ?_
  exact rT rfl rfl ler (fun _ _ h => h) ⟨_, rfl, hR6, none, rfl, ⟨rfl, fun ad h => by cases h⟩⟩
 ·
  obtain rfl := hx.trans (dV8y1 h8)
  refine skt ?_
  refine sr ?_
  refine mv rfl rfl ?_
  refine mv rfl rfl ?_
  refine cv Tryz.runUnderlying45 Tryz.runUnderlying3 rfl (w64 (by have := i16_rng (rN 2 r).1; omega) (by have := i16_rng (rN 2 r).1; omega)) rfl ?_
  refine cl rfl rfl rfl (r_Span hR6) rfl (fun v_ H1 L1 hle hR_ => ?_)
  obtain ⟨rfl, N12, rfl, hR12, a12, c12, rfl, hB12, hn12⟩ := hR_
  refine cbS Tryz.underlying24 Tryz.underlying5 Tryz.underlying9 rfl hB12 rfl rfl ?_
  refine al Tryz.zeroValue9 rfl rfl (fun b_1 => ?_)
  refine st Tryz.sizeOf9 rfl rfl rfl rfl .head ?_
  refine nl ?_
  refine sr ?_
  refine asg rfl rfl ?_
  refine nl ?_
  refine frW (Row.whole (size := 1) (m := 1) rfl (by decide)) .head (fun H2 hle2 hz => ?_)
  have hz2 : H2.at b_1 0 [.string ⟨((rSpan (rLen false 2 r).1 (rLen false 2 r).2).1.1).toArray⟩] := by
   rcases hz with ⟨h, _⟩ | ⟨g, h, h2⟩
   · cases h
   · cases h; exact h2
  exact rT rfl rfl hle2 (fun _ _ h => h) ⟨_, rfl, hR12.mono hle2, some ⟨b_1, 0, none⟩, rfl, ⟨rfl, fun ad h => ⟨b_1, (Option.some.inj h).symm, hz2⟩⟩⟩
theorem d8t {H : Fz} {L : Own} {b : Nat} {r : Rd} {N : Chunk} {x : Tr × Rd} {part : Rd → Tr × Rd} (hR : RdAt H 118 b r N) (hx : x = decV 8 part false true r) :
  Fn Tryz.prog 95 [.pointer (some ⟨b, 0, none⟩)] H (N :: L) (fun v H' L' => ∃ N', L' = N' :: L ∧ RdAt H' 118 b x.2 N' ∧ H = H' ∧ v = .string ⟨x.1.s.toArray⟩) := by
 obtain rfl := hx.trans dV8n
 refine Fn.mk Tryz.call95 Tryz.func95 rfl Tryz.ntmps95 rfl ?_
 refine sr ?_
 refine asg rfl rfl ?_
 refine nl ?_
 refine sr ?_
 refine mv rfl rfl ?_
 refine cl rfl rfl rfl (r_Uvarint hR) rfl (fun v_ H1 L1 hle hR_ => ?_)
 obtain ⟨rfl, N5, rfl, hR5, rfl⟩ := hR_
 have hu_ := rU_lt r
 refine cv Tryz.runUnderlying67 Tryz.runUnderlying3 rfl (w64 (by omega) (by omega)) rfl ?_
 refine sb rfl rfl (w64 (by omega) (by omega)) rfl ?_
 refine asg rfl rfl ?_
 refine nl ?_
 refine sr ?_
 refine mv rfl rfl ?_
 refine mv rfl rfl ?_
 refine cl rfl rfl rfl (r_Span hR5) rfl (fun v_ H1 L1 hle hR_ => ?_)
 obtain ⟨rfl, N10, rfl, hR10, a10, c10, rfl, hB10, hn10⟩ := hR_
 refine cbS Tryz.underlying24 Tryz.underlying5 Tryz.underlying9 rfl hB10 rfl rfl ?_
 refine asg rfl rfl ?_
 refine nl ?_
 exact rT rfl rfl ler (fun _ _ h => h) ⟨_, rfl, hR10, rfl, rfl⟩
theorem d8tn {H : Fz} {L : Own} {b : Nat} {r : Rd} {N : Chunk} {x : Tr × Rd} {part : Rd → Tr × Rd} (hR : RdAt H 118 b r N) (hx : x = decV 8 part true true r) :
  Fn Tryz.prog 113 [.pointer (some ⟨b, 0, none⟩)] H (N :: L) (fun v H' L' => ∃ N', L' = N' :: L ∧ RdAt H' 118 b x.2 N' ∧ ∃ p, v = .pointer p ∧ TextAt H' x.1 p) := by
 refine Fn.mk Tryz.call113 Tryz.func113 rfl Tryz.ntmps113 rfl ?_
 refine sr ?_
 refine asg rfl rfl ?_
 refine nl ?_
 refine sr ?_
 refine mv rfl rfl ?_
 refine cl rfl rfl rfl (r_Uvarint hR) rfl (fun v_ H1 L1 hle hR_ => ?_)
 obtain ⟨rfl, N6, rfl, hR6, rfl⟩ := hR_
 have hu_ := rU_lt r
 refine cv Tryz.runUnderlying67 Tryz.runUnderlying3 rfl (w64 (by omega) (by omega)) rfl ?_
 refine sb rfl rfl (w64 (by omega) (by omega)) rfl ?_
 refine asg rfl rfl ?_
 refine nl ?_
 refine sq ?_
 refine sr ?_
 refine mv rfl rfl ?_
 refine lt rfl rfl rfl ?_
 refine nl ?_
 refine cd rfl (fun h10 => ?_) (fun h10 => ?_)
 ·
  obtain rfl := hx.trans (dV8y0 h10)
  refine sr ?_
  refine asg rfl rfl ?_
  refine nl ?_
  exact rT rfl rfl ler (fun _ _ h => h) ⟨_, rfl, hR6, none, rfl, ⟨rfl, fun ad h => by cases h⟩⟩
 ·
  obtain rfl := hx.trans (dV8y1 h10)
  refine skt ?_
  refine sr ?_
  refine mv rfl rfl ?_
  refine mv rfl rfl ?_
  refine cl rfl rfl rfl (r_Span hR6) rfl (fun v_ H1 L1 hle hR_ => ?_)
  obtain ⟨rfl, N13, rfl, hR13, a13, c13, rfl, hB13, hn13⟩ := hR_
  refine cbS Tryz.underlying24 Tryz.underlying5 Tryz.underlying9 rfl hB13 rfl rfl ?_
  refine al Tryz.zeroValue9 rfl rfl (fun b_1 => ?_)
  refine st Tryz.sizeOf9 rfl rfl rfl rfl .head ?_
  refine nl ?_
  refine sr ?_
  refine asg rfl rfl ?_
  refine nl ?_
  refine frW (Row.whole (size := 1) (m := 1) rfl (by decide)) .head (fun H2 hle2 hz => ?_)
  have hz2 : H2.at b_1 0 [.string ⟨((rSpan (rLen true 2 r).1 (rLen true 2 r).2).1.1).toArray⟩] := by
   rcases hz with ⟨h, _⟩ | ⟨g, h, h2⟩
   · cases h
   · cases h; exact h2
  exact rT rfl rfl hle2 (fun _ _ h => h) ⟨_, rfl, hR13.mono hle2, some ⟨b_1, 0, none⟩, rfl, ⟨rfl, fun ad h => ⟨b_1, (Option.some.inj h).symm, hz2⟩⟩⟩
theorem d8fu {H : Fz} {L : Own} {b : Nat} {r : Rd} {N : Chunk} {x : Tr × Rd} {part : Rd → Tr × Rd} (hR : RdAt H 118 b r N) (hx : x = decV 8 part false false r) :
  Fn Tryz.prog 94 [.pointer (some ⟨b, 0, none⟩)] H (N :: L) (fun v H' L' => ∃ N', L' = N' :: L ∧ RdAt H' 118 b x.2 N' ∧ H = H' ∧ v = .string ⟨x.1.s.toArray⟩) := by
 obtain rfl := hx.trans dV8n
 refine Fn.mk Tryz.call94 Tryz.func94 rfl Tryz.ntmps94 rfl ?_
 refine sr ?_
 refine asg rfl rfl ?_
 refine nl ?_
 refine sr ?_
 refine mv rfl rfl ?_
 refine cl rfl rfl rfl (r_Int16 hR) rfl (fun v_ H1 L1 hle hR_ => ?_)
 obtain ⟨rfl, N5, rfl, hR5, rfl⟩ := hR_
 refine asg rfl rfl ?_
 refine nl ?_
 refine sr ?_
 refine mv rfl rfl ?_
 refine mv rfl rfl ?_
 refine cv Tryz.runUnderlying45 Tryz.runUnderlying3 rfl (w64 (by have := i16_rng (rN 2 r).1; omega) (by have := i16_rng (rN 2 r).1; omega)) rfl ?_
 refine cl rfl rfl rfl (r_Span hR5) rfl (fun v_ H1 L1 hle hR_ => ?_)
 obtain ⟨rfl, N9, rfl, hR9, a9, c9, rfl, hB9, hn9⟩ := hR_
 refine cl rfl rfl rfl (k_UnsafeString hB9) rfl (fun v_ H1 L1 hle hR_ => ?_)
 obtain ⟨rfl, rfl, rfl⟩ := hR_
 refine asg rfl rfl ?_
 refine nl ?_
 exact rT rfl rfl ler (fun _ _ h => h) ⟨_, rfl, hR9, rfl, rfl⟩
theorem d8fnu {H : Fz} {L : Own} {b : Nat} {r : Rd} {N : Chunk} {x : Tr × Rd} {part : Rd → Tr × Rd} (hR : RdAt H 118 b r N) (hx : x = decV 8 part true false r) :
  Fn Tryz.prog 114 [.pointer (some ⟨b, 0, none⟩)] H (N :: L) (fun v H' L' => ∃ N', L' = N' :: L ∧ RdAt H' 118 b x.2 N' ∧ ∃ p, v = .pointer p ∧ TextAt H' x.1 p) := by
 refine Fn.mk Tryz.call114 Tryz.func114 rfl Tryz.ntmps114 rfl ?_
 refine sr ?_
 refine asg rfl rfl ?_
 refine nl ?_
 refine sr ?_
 refine mv rfl rfl ?_
 refine cl rfl rfl rfl (r_Int16 hR) rfl (fun v_ H1 L1 hle hR_ => ?_)
 obtain ⟨rfl, N6, rfl, hR6, rfl⟩ := hR_
 refine asg rfl rfl ?_
 refine nl ?_
 refine sq ?_
 refine sr ?_
 refine mv rfl rfl ?_
 refine lt rfl rfl rfl ?_
 refine nl ?_
 refine cd rfl (fun h8 => ?_) (fun h8 => ?_)
 ·
  obtain rfl := hx.trans (dV8y0 h8)
  refine sr ?_
  refine asg rfl rfl ?_
  refine nl ?_
  exact rT rfl rfl ler (fun _ _ h => h) ⟨_, rfl, hR6, none, rfl, ⟨rfl, fun ad h => by cases h⟩⟩
 ·
  obtain rfl := hx.trans (dV8y1 h8)
  refine skt ?_
  refine sr ?_
  refine mv rfl rfl ?_
  refine mv rfl rfl ?_
  refine cv Tryz.runUnderlying45 Tryz.runUnderlying3 rfl (w64 (by have := i16_rng (rN 2 r).1; omega) (by have := i16_rng (rN 2 r).1; omega)) rfl ?_
  refine cl rfl rfl rfl (r_Span hR6) rfl (fun v_ H1 L1 hle hR_ => ?_)
  obtain ⟨rfl, N12, rfl, hR12, a12, c12, rfl, hB12, hn12⟩ := hR_
  refine cl rfl rfl rfl (k_UnsafeString hB12) rfl (fun v_ H1 L1 hle hR_ => ?_)
  obtain ⟨rfl, rfl, rfl⟩ := hR_
  refine al Tryz.zeroValue9 rfl rfl (fun b_1 => ?_)
  refine st Tryz.sizeOf9 rfl rfl rfl rfl .head ?_
  refine nl ?_
  refine sr ?_
  refine asg rfl rfl ?_
  refine nl ?_
  refine frW (Row.whole (size := 1) (m := 1) rfl (by decide)) .head (fun H2 hle2 hz => ?_)
  have hz2 : H2.at b_1 0 [.string ⟨((rSpan (rLen false 2 r).1 (rLen false 2 r).2).1.1).toArray⟩] := by
   rcases hz with ⟨h, _⟩ | ⟨g, h, h2⟩
   · cases h
   · cases h; exact h2
  exact rT rfl rfl hle2 (fun _ _ h => h) ⟨_, rfl, hR12.mono hle2, some ⟨b_1, 0, none⟩, rfl, ⟨rfl, fun ad h => ⟨b_1, (Option.some.inj h).symm, hz2⟩⟩⟩
theorem d8tu {H : Fz} {L : Own} {b : Nat} {r : Rd} {N : Chunk} {x : Tr × Rd} {part : Rd → Tr × Rd} (hR : RdAt H 118 b r N) (hx : x = decV 8 part false true r) :
  Fn Tryz.prog 93 [.pointer (some ⟨b, 0, none⟩)] H (N :: L) (fun v H' L' => ∃ N', L' = N' :: L ∧ RdAt H' 118 b x.2 N' ∧ H = H' ∧ v = .string ⟨x.1.s.toArray⟩) := by
 obtain rfl := hx.trans dV8n
 refine Fn.mk Tryz.call93 Tryz.func93 rfl Tryz.ntmps93 rfl ?_
 refine sr ?_
 refine asg rfl rfl ?_
 refine nl ?_
 refine sr ?_
 refine mv rfl rfl ?_
 refine cl rfl rfl rfl (r_Uvarint hR) rfl (fun v_ H1 L1 hle hR_ => ?_)
 obtain ⟨rfl, N5, rfl, hR5, rfl⟩ := hR_
 have hu_ := rU_lt r
 refine cv Tryz.runUnderlying67 Tryz.runUnderlying3 rfl (w64 (by omega) (by omega)) rfl ?_
 refine sb rfl rfl (w64 (by omega) (by omega)) rfl ?_
 refine asg rfl rfl ?_
 refine nl ?_
 refine sr ?_
 refine mv rfl rfl ?_
 refine mv rfl rfl ?_
 refine cl rfl rfl rfl (r_Span hR5) rfl (fun v_ H1 L1 hle hR_ => ?_)
 obtain ⟨rfl, N10, rfl, hR10, a10, c10, rfl, hB10, hn10⟩ := hR_
 refine cl rfl rfl rfl (k_UnsafeString hB10) rfl (fun v_ H1 L1 hle hR_ => ?_)
 obtain ⟨rfl, rfl, rfl⟩ := hR_
 refine asg rfl rfl ?_
 refine nl ?_
 exact rT rfl rfl ler (fun _ _ h => h) ⟨_, rfl, hR10, rfl, rfl⟩
theorem d8tnu {H : Fz} {L : Own} {b : Nat} {r : Rd} {N : Chunk} {x : Tr × Rd} {part : Rd → Tr × Rd} (hR : RdAt H 118 b r N) (hx : x = decV 8 part true true r) :
  Fn Tryz.prog 112 [.pointer (some ⟨b, 0, none⟩)] H (N :: L) (fun v H' L' => ∃ N', L' = N' :: L ∧ RdAt H' 118 b x.2 N' ∧ ∃ p, v = .pointer p ∧ TextAt H' x.1 p) := by
 refine Fn.mk Tryz.call112 Tryz.func112 rfl Tryz.ntmps112 rfl ?_
 refine sr ?_
 refine asg rfl rfl ?_
 refine nl ?_
 refine sr ?_
 refine mv rfl rfl ?_
 refine cl rfl rfl rfl (r_Uvarint hR) rfl (fun v_ H1 L1 hle hR_ => ?_)
 obtain ⟨rfl, N6, rfl, hR6, rfl⟩ := hR_
 have hu_ := rU_lt r
 refine cv Tryz.runUnderlying67 Tryz.runUnderlying3 rfl (w64 (by omega) (by omega)) rfl ?_
 refine sb rfl rfl (w64 (by omega) (by omega)) rfl ?_
 refine asg rfl rfl ?_
 refine nl ?_
 refine sq ?_
 refine sr ?_
 refine mv rfl rfl ?_
 refine lt rfl rfl rfl ?_
 refine nl ?_
 refine cd rfl (fun h10 => ?_) (fun h10 => ?_)
 ·
  obtain rfl := hx.trans (dV8y0 h10)
  refine sr ?_
  refine asg rfl rfl ?_
  refine nl ?_
  exact rT rfl rfl ler (fun _ _ h => h) ⟨_, rfl, hR6, none, rfl, ⟨rfl, fun ad h => by cases h⟩⟩
 ·
  obtain rfl := hx.trans (dV8y1 h10)
  refine skt ?_
  refine sr ?_
  refine mv rfl rfl ?_
  refine mv rfl rfl ?_
  refine cl rfl rfl rfl (r_Span hR6) rfl (fun v_ H1 L1 hle hR_ => ?_)
  obtain ⟨rfl, N13, rfl, hR13, a13, c13, rfl, hB13, hn13⟩ := hR_
  refine cl rfl rfl rfl (k_UnsafeString hB13) rfl (fun v_ H1 L1 hle hR_ => ?_)
  obtain ⟨rfl, rfl, rfl⟩ := hR_
  refine al Tryz.zeroValue9 rfl rfl (fun b_1 => ?_)
  refine st Tryz.sizeOf9 rfl rfl rfl rfl .head ?_
  refine nl ?_
  refine sr ?_
  refine asg rfl rfl ?_
  refine nl ?_
  refine frW (Row.whole (size := 1) (m := 1) rfl (by decide)) .head (fun H2 hle2 hz => ?_)
  have hz2 : H2.at b_1 0 [.string ⟨((rSpan (rLen true 2 r).1 (rLen true 2 r).2).1.1).toArray⟩] := by
   rcases hz with ⟨h, _⟩ | ⟨g, h, h2⟩
   · cases h
   · cases h; exact h2
  exact rT rfl rfl hle2 (fun _ _ h => h) ⟨_, rfl, hR13.mono hle2, some ⟨b_1, 0, none⟩, rfl, ⟨rfl, fun ad h => ⟨b_1, (Option.some.inj h).symm, hz2⟩⟩⟩
theorem d9f {H : Fz} {L : Own} {b : Nat} {r : Rd} {N : Chunk} {x : Tr × Rd} {part : Rd → Tr × Rd} (hR : RdAt H 118 b r N) (hx : x = decV 9 part false false r) :
  Fn Tryz.prog 102 [.pointer (some ⟨b, 0, none⟩)] H (N :: L) (fun v H' L' => ∃ N', L' = N' :: L ∧ RdAt H' 118 b x.2 N' ∧ ∃ a c, v = .slice a (sT x.1).length c ∧ OctAt H' x.1 a c) := by
 refine Fn.mk Tryz.call102 Tryz.func102 rfl Tryz.ntmps102 rfl ?_
 refine sr ?_
 refine asg rfl rfl ?_
 refine nl ?_
 refine sr ?_
 refine mv rfl rfl ?_
 refine cl rfl rfl rfl (r_Int32 hR) rfl (fun v_ H1 L1 hle hR_ => ?_)
 obtain ⟨rfl, N5, rfl, hR5, rfl⟩ := hR_
 refine asg rfl rfl ?_
 refine nl ?_
 refine sq ?_
 refine sr ?_
 refine mv rfl rfl ?_
 refine eq' rfl rfl rfl ?_
 refine nl ?_
 refine cd rfl (fun h7 => ?_) (fun h7 => ?_)
 ·
  have hx0 := hx.trans (dV9n0 h7)
  clear hx
  subst hx0
  refine sr ?_
  refine bs' L24 rfl rfl rfl rfl (fun b_1 => ?_)
  refine asg rfl rfl ?_
  refine nl ?_
  refine drW .head ?_
  exact rT rfl rfl ler (fun _ _ h => h) ⟨_, rfl, hR5, some ⟨b_1, 0, none⟩, 0, rfl, ⟨⟨fun h => absurd rfl h, Nat.le_refl _, Nat.zero_le _⟩, rfl⟩⟩
 ·
  have hx0 := hx.trans (dV9n1 h7)
  clear hx
  subst hx0
  refine skt ?_
  refine sr ?_
  refine mv rfl rfl ?_
  refine mv rfl rfl ?_
  refine cv Tryz.runUnderlying21 Tryz.runUnderlying3 rfl (w64 (by have := i32_rng (rN 4 r).1; omega) (by have := i32_rng (rN 4 r).1; omega)) rfl ?_
  refine cl rfl rfl rfl (r_Span hR5) rfl (fun v_ H1 L1 hle hR_ => ?_)
  obtain ⟨rfl, N12, rfl, hR12, a12, c12, rfl, hB12, hn12⟩ := hR_
  refine asg rfl rfl ?_
  refine nl ?_
  have hsl : sT (Tr.mk 0 (rSpan (rLen false 4 r).1 (rLen false 4 r).2).1.1 (rSpan (rLen false 4 r).1 (rLen false 4 r).2).1.2 [] []) = (rSpan (rLen false 4 r).1 (rLen false 4 r).2).1.1 := sT_span _ _ (rSpan_nil (nn_of hR5))
  have hbb : BytesAt H a12 c12 (sT (Tr.mk 0 (rSpan (rLen false 4 r).1 (rLen false 4 r).2).1.1 (rSpan (rLen false 4 r).1 (rLen false 4 r).2).1.2 [] [])) := by rw [hsl]; exact hB12
  exact rT rfl rfl ler (fun _ _ h => h) ⟨_, rfl, hR12, a12, c12, congrArg (fun k => Value.slice a12 k c12) (congrArg List.length hsl.symm), ⟨hbb, hn12⟩⟩
theorem d9t {H : Fz} {L : Own} {b : Nat} {r : Rd} {N : Chunk} {x : Tr × Rd} {part : Rd → Tr × Rd} (hR : RdAt H 118 b r N) (hx : x = decV 9 part false true r) :
  Fn Tryz.prog 101 [.pointer (some ⟨b, 0, none⟩)] H (N :: L) (fun v H' L' => ∃ N', L' = N' :: L ∧ RdAt H' 118 b x.2 N' ∧ ∃ a c, v = .slice a (sT x.1).length c ∧ OctAt H' x.1 a c) := by
 refine Fn.mk Tryz.call101 Tryz.func101 rfl Tryz.ntmps101 rfl ?_
 refine sr ?_
 refine asg rfl rfl ?_
 refine nl ?_
 refine sr ?_
 refine mv rfl rfl ?_
 refine cl rfl rfl rfl (r_Uvarint hR) rfl (fun v_ H1 L1 hle hR_ => ?_)
 obtain ⟨rfl, N5, rfl, hR5, rfl⟩ := hR_
 have hu_ := rU_lt r
 refine cv Tryz.runUnderlying67 Tryz.runUnderlying3 rfl (w64 (by omega) (by omega)) rfl ?_
 refine sb rfl rfl (w64 (by omega) (by omega)) rfl ?_
 refine asg rfl rfl ?_
 refine nl ?_
 refine sq ?_
 refine sr ?_
 refine mv rfl rfl ?_
 refine eq' rfl rfl rfl ?_
 refine nl ?_
 refine cd rfl (fun h9 => ?_) (fun h9 => ?_)
 ·
  have hx0 := hx.trans (dV9n0 h9)
  clear hx
  subst hx0
  refine sr ?_
  refine bs' L24 rfl rfl rfl rfl (fun b_1 => ?_)
  refine asg rfl rfl ?_
  refine nl ?_
  refine drW .head ?_
  exact rT rfl rfl ler (fun _ _ h => h) ⟨_, rfl, hR5, some ⟨b_1, 0, none⟩, 0, rfl, ⟨⟨fun h => absurd rfl h, Nat.le_refl _, Nat.zero_le _⟩, rfl⟩⟩
 ·
  have hx0 := hx.trans (dV9n1 h9)
  clear hx
  subst hx0
  refine skt ?_
  refine sr ?_
  refine mv rfl rfl ?_
  refine mv rfl rfl ?_
  refine cl rfl rfl rfl (r_Span hR5) rfl (fun v_ H1 L1 hle hR_ => ?_)
  obtain ⟨rfl, N13, rfl, hR13, a13, c13, rfl, hB13, hn13⟩ := hR_
  refine asg rfl rfl ?_
  refine nl ?_
  have hsl : sT (Tr.mk 0 (rSpan (rLen true 4 r).1 (rLen true 4 r).2).1.1 (rSpan (rLen true 4 r).1 (rLen true 4 r).2).1.2 [] []) = (rSpan (rLen true 4 r).1 (rLen true 4 r).2).1.1 := sT_span _ _ (rSpan_nil (nn_of hR5))
  have hbb : BytesAt H a13 c13 (sT (Tr.mk 0 (rSpan (rLen true 4 r).1 (rLen true 4 r).2).1.1 (rSpan (rLen true 4 r).1 (rLen true 4 r).2).1.2 [] [])) := by rw [hsl]; exact hB13
  exact rT rfl rfl ler (fun _ _ h => h) ⟨_, rfl, hR13, a13, c13, congrArg (fun k => Value.slice a13 k c13) (congrArg List.length hsl.symm), ⟨hbb, hn13⟩⟩
theorem d7 {H : Fz} {L : Own} {b : Nat} {r : Rd} {N : Chunk} {x : Tr × Rd} {part : Rd → Tr × Rd} {nul flex : Bool} (hR : RdAt H 118 b r N) (hx : x = decV 7 part nul flex r) :
  Fn Tryz.prog 116 [.pointer (some ⟨b, 0, none⟩)] H (N :: L) (fun v H' L' => ∃ N', L' = N' :: L ∧ RdAt H' 118 b x.2 N' ∧ H = H' ∧ v = .agg (u16 x.1.s).toArray) := by
 obtain rfl := hx.trans dV7
 refine Fn.mk Tryz.call116 Tryz.func116 rfl Tryz.ntmps116 rfl ?_
 refine sr ?_
 refine al Tryz.zeroValue99 rfl rfl (fun b_1 => ?_)
 refine nl ?_
 refine sr ?_
 refine al Tryz.zeroValue99 rfl rfl (fun b_2 => ?_)
 refine nl ?_
 refine sq ?_
 refine rgD 4 .nil mixed ?_
 refine dU 0 rfl rfl rfl (y_sl16 Tryz.runUnderlying99 Tryz.sizeOf5 rfl) .nil ler ?_
 refine dU 1 rfl rfl rfl (y_mv rfl) .nil ler ?_
 refine dE 2 (by kernel_rfl) rfl ?_
 refine tf (.tail (.tail .head)) ?_
 refine cl rfl rfl rfl (r_Span hR) rfl (fun v_ H1 L1 hle hR_ => ?_)
 obtain ⟨rfl, N6, rfl, hR6, a6, c6, rfl, hB6, hn6⟩ := hR_
 refine dN .nil ler ?_
 refine dE 3 (by kernel_rfl) rfl ?_
 refine cpB2 Tryz.underlying24 (by kernel_rfl) rfl rfl (Row.whole (e := 99) (size := 1) (m := 16) (ds := reps [.int .u8 0] 16) rfl (by decide)) (fun _ => (.tail .head)) hB6 rfl rfl (fun N5 r5 => ?_)
 have h16 : (rSpan 16 r).1.1.length ≤ 16 := rSpan_16 r
 rw [List.take_of_length_le h16] at r5
 have e16 := row16 (rSpan 16 r).1.1
 rw [List.take_of_length_le h16] at e16
 rw [e16] at r5
 obtain ⟨cs, rfl, hcs⟩ : ∃ cs, N5 = [(b_2, .cells cs 99 (0, 0))] ∧ cs = (u16 (pad16 (rSpan 16 r).1.1)).toArray := by
  rcases r5.2 with ⟨h, _⟩ | ⟨g, cur, h1, h2, _, _, h3, h4⟩
  · cases h
  ·
   cases h1
   refine ⟨cur, h2, ?_⟩
   apply Array.ext'
   rw [u16_pad, u16_eq]
   have h5 : cur.toList.length = 16 := by simpa using h3
   rw [List.take_of_length_le (by omega)] at h4
   rw [h4]; unfold pad16; rw [List.take_of_length_le h16]
 subst hcs
 refine dN .nil ler ?_
 refine dD (by kernel_rfl) ?_
 refine Nt ?_
 refine sr ?_
 refine la (Says.own (.tail .head)) Tryz.isAgg99 Tryz.sizeOf99 rfl (Nat.zero_add _).symm rfl rfl ?_
 refine sa Tryz.sizeOf99 rfl rfl rfl rfl rfl (.tail (.tail .head)) ?_
 refine nl ?_
 refine drW (.tail .head) ?_
 exact rC rfl Tryz.isAgg99 Tryz.sizeOf99 rfl (.tail .head) rfl ler (fun _ _ h => h) ⟨_, rfl, hR6, rfl, rfl⟩
end Go.Sx

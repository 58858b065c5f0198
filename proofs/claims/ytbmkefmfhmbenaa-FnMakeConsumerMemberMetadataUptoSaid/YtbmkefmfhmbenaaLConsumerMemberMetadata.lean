import Derived.Test.YtbmkefmfhmbenaaCConsumerMemberMetadata
import Derived.Test.YtbmkefmfhmbenaaDConsumerMemberMetadata
import Derived.Test.YtbmkefmfhmbenaaS3
import Derived.KernelRfl
set_option linter.unusedVariables false
set_option linter.unusedSimpArgs false
set_option maxRecDepth 100000
set_option maxHeartbeats 20000000
namespace Go.Sx
open Go.Proofs
theorem app_ConsumerMemberMetadata {H : Fz} {L : Own} {a : Option Addr} {cap b : Nat} {D : List UInt8} {N : Chunk} {cs : List Value} {T : Tr} {v : Int} (hr : Row 5 1 a D.length cap (bytesOf D) N) (hv : H.at b 0 cs) (hA : At_ConsumerMemberMetadata v H T cs) (hok : OkP fs_ConsumerMemberMetadata v T) (h0 : 0 ≤ v) (h1 : v ≤ 3) (hb : D.length + ((Msg.mk fs_ConsumerMemberMetadata (-1)).kept v T).length ≤ LIM) :
    Fn Try.prog 43 [.pointer (some ⟨b, 0, none⟩), .slice a D.length cap] H (N :: L) (fun r H' L' => OutB 5 L (D ++ ((Msg.mk fs_ConsumerMemberMetadata (-1)).kept v T)) r L') := by
  have e : ((Msg.mk fs_ConsumerMemberMetadata (-1))).flexible v = false := by simp [Msg.flexible]
  simp only [Msg.write, Msg.kept, e] at hb ⊢
  rw [← List.append_assoc]
  exact app_ConsumerMemberMetadata_f hr hv hA hok (by omega) (by omega) (by simp only [List.length_append] at hb ⊢; omega)
theorem mk_ConsumerMemberMetadata {H : Fz} {L : Own} {c : TC} {T : Tr} {v : Int} (hT : TreeAt H c T) (hf : Fine T) (hok : OkP fs_ConsumerMemberMetadata v T) (h0 : 0 ≤ v) (h1 : v ≤ 3) (hb : ((Msg.mk fs_ConsumerMemberMetadata (-1)).kept v T).length ≤ B46) :
    Fn Try.prog 18 [.int .i64 v, .agg (c.cells T).toArray] H L (fun r H' L' => OutB 5 L ((Msg.mk fs_ConsumerMemberMetadata (-1)).kept v T) r L') := by
  refine Fn.mk Try.call18 Try.func18 rfl Try.ntmps18 rfl ?_
  refine sr ?_
  refine bx rfl rfl rfl (fun b_1 => ?_)
  refine asg rfl rfl ?_
  refine nl ?_
  refine sr ?_
  refine mv rfl rfl ?_
  refine cv Try.runUnderlying3 Try.runUnderlying45 rfl (wrap_i16 (by omega) (by omega)) rfl ?_
  refine bd' S71 rfl rfl rfl ?_
  refine bx rfl rfl rfl (fun b_2 => ?_)
  refine asg rfl rfl ?_
  refine nl ?_
  refine sr ?_
  refine mv rfl rfl ?_
  refine la (Says.own (.tail .head)) Try.isAgg39 Try.sizeOf39 rfl (Nat.zero_add _).symm rfl rfl ?_
  refine cl rfl rfl rfl (fill_ConsumerMemberMetadata hT hf) rfl (fun v_ H1 L1 le_3 hR => ?_)
  obtain ⟨cs, rfl, hA⟩ := hR
  refine nl ?_
  refine sr ?_
  refine mv rfl rfl ?_
  have hok_ := At_ConsumerMemberMetadata.ok hA
  refine frL (Row.whole (size := 6) (m := 1) (ds := cs) (by rw [hok_.1]) (by decide)) .head (fun H2 hle2 hfz => ?_)
  have hv : H2.at b_2 0 cs := by
    rcases hfz with ⟨h, _⟩ | ⟨g, h, h2⟩
    · cases h
    · cases h; exact h2
  refine nilL ?_
  refine cl rfl rfl rfl (app_ConsumerMemberMetadata (D := []) (Row.nil _ _) hv (At_ConsumerMemberMetadata.mono v _ _ _ _ hle2 hA) hok h0 h1 (by unfold B46 at hb; unfold LIM; simp only [List.length_nil]; omega)) rfl (fun v_ H1 L1 le_4 hR => ?_)
  obtain ⟨a14, c14, N14, rfl, rfl, h14⟩ := hR
  refine asg rfl rfl ?_
  refine nl ?_
  refine drW (.tail .head) ?_
  exact rT rfl rfl (le_3.trans (hle2.trans le_4)) (fun _ _ h => h) (OutB.of h14.1 rfl)
theorem good_ConsumerMemberMetadata : Good fs_ConsumerMemberMetadata := Good.of (by decide) (by decide)
theorem law_ConsumerMemberMetadata {H : Fz} {L : Own} {c : TC} {t : Tr} {n : Nat} (hT : TreeAt H c t) (hn : n < 256) (hb : ∀ v : Int, 0 ≤ v → v ≤ 3 → ((Msg.mk fs_ConsumerMemberMetadata (-1)).kept v t).length ≤ B46) :
    Fn Try.prog 4 [.int .u8 (n : Int), .agg (c.cells t).toArray] H L (fun r H' L' => L = L' ∧ r = .bool true) := by
  have h0 : (0 : Int) ≤ ((n % (3 + 1) : Nat) : Int) := by omega
  have h1 : ((n % (3 + 1) : Nat) : Int) ≤ 3 := by omega
  have hbv := hb _ h0 h1
  have hm : (Msg.mk fs_ConsumerMemberMetadata (-1)).kept ((n % (3 + 1) : Nat) : Int) (fit fs_ConsumerMemberMetadata ((n % (3 + 1) : Nat) : Int) t) = (Msg.mk fs_ConsumerMemberMetadata (-1)).kept ((n % (3 + 1) : Nat) : Int) t := by simp only [Msg.write, Msg.kept]; rw [partB_fit good_ConsumerMemberMetadata]
  refine Fn.mk Try.call4 Try.func4 rfl Try.ntmps4 rfl ?_
  refine sr ?_
  refine bx rfl rfl rfl (fun b_1 => ?_)
  refine asg rfl rfl ?_
  refine nl ?_
  refine sq ?_
  refine sr ?_
  refine la (Says.own .head) Try.isAgg26 Try.sizeOf26 rfl (Nat.zero_add _).symm rfl rfl ?_
  refine cl rfl rfl rfl (s_fits1 hT) rfl (fun v_ H1 L1 le_2 hR => ?_)
  obtain ⟨rfl, rfl, b8, rfl⟩ := hR
  refine nt rfl rfl ?_
  refine nl ?_
  refine cbU rfl (fun h9 => ?_) (fun h9 => ?_)
  · skip
    refine sr ?_
    refine asg rfl rfl ?_
    refine nl ?_
    refine drW .head ?_
    exact rT rfl rfl (Fz.le.refl _) (fun _ _ h => h) ⟨rfl, rfl⟩
  · skip
    refine skt ?_
    refine sr ?_
    refine cl rfl rfl rfl s_ConsumerMemberMetadata rfl (fun v_ H1 L1 le_3 hR => ?_)
    obtain ⟨rfl, af, rfl, hF⟩ := hR
    refine mv rfl rfl ?_
    refine cv Try.runUnderlying5 Try.runUnderlying3 rfl (w64 (by omega) (by omega)) rfl ?_
    refine rm (c := ((n % (3 + 1) : Nat) : Int)) rfl rfl (by omega) (by rw [Int.tmod_eq_emod_of_nonneg (by omega)]; simp) rfl ?_
    refine al Try.zeroValue31 rfl rfl (fun b_4 => ?_)
    refine sa Try.sizeOf31 rfl rfl rfl rfl rfl .head ?_
    refine asg rfl rfl ?_
    refine nl ?_
    refine sq ?_
    refine rgD 14 (.keep (.keep .nil)) mixed ?_
    refine dT 0 rfl rfl rfl (by kernel_rfl) (fun _ _ _ h => h) (y_mv rfl) (.keep (.keep .nil)) (Fz.le.refl _) ?_
    refine dT 1 rfl rfl rfl (by kernel_rfl) (fun _ _ _ h => h) (y_fa0 F31_0 rfl) (.keep (.keep .nil)) (Fz.le.refl _) ?_
    refine dT 2 rfl rfl rfl (by kernel_rfl) (fun _ _ _ h => h) (y_ld (Says.own .head) Try.isAgg29 rfl (Nat.zero_add _).symm rfl) (.keep (.keep .nil)) (Fz.le.refl _) ?_
    refine dT 3 rfl rfl rfl (by kernel_rfl) (fun _ _ _ h => h) (y_mv rfl) (.keep (.keep .nil)) (Fz.le.refl _) ?_
    refine dT 4 rfl rfl rfl (by kernel_rfl) (fun _ _ _ h => h) (y_la (Says.own (.tail .head)) Try.isAgg26 Try.sizeOf26 rfl (Nat.zero_add _).symm rfl) (.keep (.keep .nil)) (Fz.le.refl _) ?_
    refine dT 8 rfl rfl rfl (by kernel_rfl) (fun _ _ _ h => h) (y_la (Says.own .head) Try.isAgg31 Try.sizeOf31 rfl (Nat.zero_add _).symm rfl) (.keep (.keep .nil)) (Fz.le.refl _) ?_
    refine dT 9 rfl rfl rfl (by kernel_rfl) (fun _ _ _ h => h) (y_mv rfl) (.keep (.keep .nil)) (Fz.le.refl _) ?_
    refine dT 10 rfl rfl rfl (by kernel_rfl) (fun _ _ _ h => h) (y_la (Says.own (.tail .head)) Try.isAgg26 Try.sizeOf26 rfl (Nat.zero_add _).symm rfl) (.keep (.keep .nil)) (Fz.le.refl _) ?_
    refine dE 5 (by kernel_rfl) rfl ?_
    refine cl rfl rfl rfl (s_fit fs_ConsumerMemberMetadata ((n % (3 + 1) : Nat) : Int) hF (hT.mono le_3)) rfl (fun v_ H1 L1 le_5 hR => ?_)
    obtain ⟨rfl, cf, rfl, hf⟩ := hR
    refine dN (.keep (.keep .nil)) le_5 ?_
    refine dE 6 (by kernel_rfl) rfl ?_
    refine cl rfl rfl rfl (s_given _ hf) rfl (fun v_ H1 L1 le_6 hR => ?_)
    obtain ⟨rfl, cg, rfl, hg⟩ := hR
    refine dN (.keep (.keep .nil)) (le_5.trans le_6) ?_
    refine dE 7 (by kernel_rfl) rfl ?_
    refine cl rfl rfl rfl (mk_ConsumerMemberMetadata hg (fine_fit good_ConsumerMemberMetadata _ _) (ok_fit good_ConsumerMemberMetadata _ _) h0 h1 (by rw [hm]; exact hbv)) rfl (fun v_ H1 L1 le_7 hR => ?_)
    obtain ⟨ak, ck, Nk, rfl, rfl, hk_⟩ := hR
    refine dN (.skip (.keep (.keep .nil))) (le_5.trans (le_6.trans le_7)) ?_
    refine dE 11 (by kernel_rfl) rfl ?_
    refine cl rfl rfl rfl (s_kept (m := (Msg.mk fs_ConsumerMemberMetadata (-1))) (hF.mono (le_5.trans (le_6.trans le_7))) (hT.mono (le_3.trans (le_5.trans (le_6.trans le_7)))) hbv) rfl (fun v_ H1 L1 le_8 hR => ?_)
    obtain ⟨aw, cw, Nw, rfl, rfl, hw_⟩ := hR
    refine dN (.skip (.skip (.keep (.keep .nil)))) (le_5.trans (le_6.trans (le_7.trans le_8))) ?_
    refine dE 12 (by kernel_rfl) rfl ?_
    refine frL hk_.1 (.tail .head) (fun H8 le8 z8 => ?_)
    have y8 := BytesAt.row z8 hk_.1 (by rw [hm]; unfold B46 at hbv; unfold B47; omega)
    refine frL hw_.1 .head (fun H9 le9 z9 => ?_)
    have y9 := BytesAt.row z9 hw_.1 (by unfold B46 at hbv; unfold B47; omega)
    refine cl rfl rfl rfl (s_same (y8.mono le9) y9) rfl (fun v_ H1 L1 le_9 hR => ?_)
    obtain ⟨rfl, rfl, rfl⟩ := hR
    refine dN (.keep (.keep .nil)) (le_5.trans (le_6.trans (le_7.trans (le_8.trans (le8.trans le9))))) ?_
    refine dT 13 rfl rfl rfl (by kernel_rfl) (fun _ _ _ h => h) (y_asg rfl) (.keep (.keep .nil)) (le_5.trans (le_6.trans (le_7.trans (le_8.trans (le8.trans le9))))) ?_
    refine dD (by kernel_rfl) ?_
    refine Nt ?_
    refine drW .head ?_
    refine drW .head ?_
    exact rT rfl rfl (le_3.trans (le_5.trans (le_6.trans (le_7.trans (le_8.trans (le8.trans le9)))))) (fun _ _ h => h) ⟨rfl, by rw [hm]; simp⟩
end Go.Sx

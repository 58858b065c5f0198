import Derived.Test.YtahmkeoedpghjabGreatCUpdateMetadataRequest
import Derived.Test.YtahmkeoedpghjabGreatDUpdateMetadataRequest
import Derived.Test.YtahmkeoedpghjabGreatS3
import Derived.KernelRfl
set_option linter.unusedVariables false
set_option linter.unusedSimpArgs false
set_option maxRecDepth 100000
set_option maxHeartbeats 20000000
namespace Go.Sx
open Go.Proofs
theorem app_UpdateMetadataRequest {H : Fz} {L : Own} {a : Option Addr} {cap b : Nat} {D : List UInt8} {N : Chunk} {cs : List Value} {T : Tr} {v : Int} (hr : Row 5 1 a D.length cap (bytesOf D) N) (hv : H.at b 0 cs) (hA : At_UpdateMetadataRequest v H T cs) (hok : OkP fs_UpdateMetadataRequest v T) (h0 : 0 ≤ v) (h1 : v ≤ 8) (hb : D.length + ((Msg.mk fs_UpdateMetadataRequest 6).write v T).length ≤ LIM) :
    Fn Tryz.prog 51 [.pointer (some ⟨b, 0, none⟩), .slice a D.length cap] H (N :: L) (fun r H' L' => OutB 5 L (D ++ ((Msg.mk fs_UpdateMetadataRequest 6).write v T)) r L') := by
  by_cases hlv : v < 6
  · skip
    have e : ((Msg.mk fs_UpdateMetadataRequest 6)).flexible v = false := by simp [Msg.flexible]; omega
    simp only [Msg.write, e] at hb ⊢
    exact app_UpdateMetadataRequest_f hr hv hA hok (by omega) (by omega) hb
  have e : ((Msg.mk fs_UpdateMetadataRequest 6)).flexible v = true := by simp [Msg.flexible]; omega
  simp only [Msg.write, e] at hb ⊢
  exact app_UpdateMetadataRequest_t hr hv hA hok (by omega) (by omega) hb
theorem setv_UpdateMetadataRequest {H : Fz} {L : Own} {b : Nat} {x : Int} {cs : List Value} :
    Fn Tryz.prog 49 [.pointer (some ⟨b, 0, none⟩), .int .i16 x] H ([(b, .cells [.int .i16 0, .int .i32 0, .bool false, .int .i32 0, .int .i64 0, .slice none 0 0, .slice none 0 0, .slice none 0 0, .map none].toArray 85 (0, 0))] :: L) (fun _ H' L' => H = H' ∧ L' = [(b, .cells [.int .i16 x, .int .i32 0, .bool false, .int .i32 0, .int .i64 0, .slice none 0 0, .slice none 0 0, .slice none 0 0, .map none].toArray 85 (0, 0))] :: L) := by
  refine Fn.mk Tryz.call49 Tryz.func49 rfl Tryz.ntmps49 rfl ?_
  refine rg ?_
  refine mv rfl rfl ?_
  refine mv rfl rfl ?_
  refine nc rfl rfl ?_
  refine fa0 F85_0 rfl rfl ?_
  refine st Tryz.sizeOf45 rfl rfl rfl rfl .head ?_
  refine nN ?_
  exact fun _ _ hA hw => rn rfl (Fz.le.refl _) ⟨rfl, rfl⟩ hA hw
theorem def_UpdateMetadataRequest {H : Fz} {L : Own} {b : Nat} :
    Fn Tryz.prog 92 [.pointer (some ⟨b, 0, none⟩)] H ([(b, .cells [.int .i16 0, .int .i32 0, .bool false, .int .i32 0, .int .i64 0, .slice none 0 0, .slice none 0 0, .slice none 0 0, .map none].toArray 85 (0, 0))] :: L) (fun _ H' L' => H = H' ∧ L' = [(b, .cells [.int .i16 0, .int .i32 0, .bool false, .int .i32 0, .int .i64 (-1), .slice none 0 0, .slice none 0 0, .slice none 0 0, .map none].toArray 85 (0, 0))] :: L) := by
  refine Fn.mk Tryz.call92 Tryz.func92 rfl Tryz.ntmps92 rfl ?_
  refine rg ?_
  refine mv rfl rfl ?_
  refine nc rfl rfl ?_
  refine fa0 F85_4 rfl rfl ?_
  refine st Tryz.sizeOf2 rfl rfl rfl rfl .head ?_
  refine nN ?_
  exact fun _ _ hA hw => rn rfl (Fz.le.refl _) ⟨rfl, rfl⟩ hA hw
theorem new_UpdateMetadataRequest {H : Fz} {L : Own} :
    Fn Tryz.prog 44 [] H L (fun v H' L' => H = H' ∧ ∃ b, v = .pointer (some ⟨b, 0, none⟩) ∧ L' = [(b, .cells [.int .i16 0, .int .i32 0, .bool false, .int .i32 0, .int .i64 (-1), .slice none 0 0, .slice none 0 0, .slice none 0 0, .map none].toArray 85 (0, 0))] :: L) := by
  refine Fn.mk Tryz.call44 Tryz.func44 rfl Tryz.ntmps44 rfl ?_
  refine sr ?_
  refine asg rfl rfl ?_
  refine nl ?_
  refine sr ?_
  refine al Tryz.zeroValue85 rfl rfl (fun b_1 => ?_)
  refine nl ?_
  refine sr ?_
  refine cl rfl rfl rfl def_UpdateMetadataRequest rfl (fun v H1 L1 hle hR => ?_)
  obtain ⟨rfl, rfl⟩ := hR
  refine nl ?_
  refine sr ?_
  refine asg rfl rfl ?_
  refine nl ?_
  exact rT rfl rfl (Fz.le.refl _) (fun _ _ h => h) ⟨rfl, _, rfl, rfl⟩
theorem maxv_UpdateMetadataRequest {H : Fz} {L : Own} {p : Value} :
    Fn Tryz.prog 45 [p] H L (fun v H' L' => H = H' ∧ L = L' ∧ v = .int .i16 8) := by
  refine Fn.mk Tryz.call45 Tryz.func45 rfl Tryz.ntmps45 rfl ?_
  refine sr ?_
  refine asg rfl rfl ?_
  refine nl ?_
  refine sr ?_
  refine asg rfl rfl ?_
  refine nl ?_
  exact rT rfl rfl (Fz.le.refl _) (fun _ _ h => h) ⟨rfl, rfl, rfl⟩
theorem max_UpdateMetadataRequest {H : Fz} {L : Own} :
    Fn Tryz.prog 19 [] H L (fun v H' L' => H = H' ∧ L = L' ∧ v = .int .i64 8) := by
  refine Fn.mk Tryz.call19 Tryz.func19 rfl Tryz.ntmps19 rfl ?_
  refine sr ?_
  refine asg rfl rfl ?_
  refine nl ?_
  refine sr ?_
  refine cl rfl rfl rfl new_UpdateMetadataRequest rfl (fun v H1 L1 hle hR => ?_)
  obtain ⟨rfl, b, rfl, rfl⟩ := hR
  refine cl rfl rfl rfl maxv_UpdateMetadataRequest rfl (fun v H1 L1 hle hR => ?_)
  obtain ⟨rfl, rfl, rfl⟩ := hR
  refine cv Tryz.runUnderlying45 Tryz.runUnderlying3 rfl (w64 (by omega) (by omega)) rfl ?_
  refine asg rfl rfl ?_
  refine nl ?_
  refine drW .head ?_
  exact rT rfl rfl (Fz.le.refl _) (fun _ _ h => h) ⟨rfl, rfl, rfl⟩
theorem mk_UpdateMetadataRequest {H : Fz} {L : Own} {c : TC} {T : Tr} {v : Int} (hT : TreeAt H c T) (hf : Fine T) (hok : OkP fs_UpdateMetadataRequest v T) (h0 : 0 ≤ v) (h1 : v ≤ 8) (hb : ((Msg.mk fs_UpdateMetadataRequest 6).write v T).length ≤ B46) :
    Fn Tryz.prog 21 [.int .i64 v, .agg (c.cells T).toArray] H L (fun r H' L' => OutB 5 L ((Msg.mk fs_UpdateMetadataRequest 6).write v T) r L') := by
  refine Fn.mk Tryz.call21 Tryz.func21 rfl Tryz.ntmps21 rfl ?_
  refine sr ?_
  refine bx rfl rfl rfl (fun b_1 => ?_)
  refine asg rfl rfl ?_
  refine nl ?_
  refine sr ?_
  refine bd' S85 rfl rfl rfl ?_
  refine bx rfl rfl rfl (fun b_2 => ?_)
  refine asg rfl rfl ?_
  refine nl ?_
  refine sr ?_
  refine mv rfl rfl ?_
  refine mv rfl rfl ?_
  refine cv Tryz.runUnderlying3 Tryz.runUnderlying45 rfl (wrap_i16 (by omega) (by omega)) rfl ?_
  refine cl rfl rfl rfl (setv_UpdateMetadataRequest (cs := [])) rfl (fun v_ H1 L1 hle hR => ?_)
  obtain ⟨rfl, rfl⟩ := hR
  refine nl ?_
  refine sr ?_
  refine mv rfl rfl ?_
  refine la (Says.own (.tail .head)) Tryz.isAgg39 Tryz.sizeOf39 rfl (Nat.zero_add _).symm rfl rfl ?_
  refine cl rfl rfl rfl (fill_UpdateMetadataRequest hT hf) rfl (fun v_ H1 L1 le_4 hR => ?_)
  obtain ⟨cs, rfl, hA⟩ := hR
  refine nl ?_
  refine sr ?_
  refine mv rfl rfl ?_
  have hok_ := At_UpdateMetadataRequest.ok hA
  refine frL (Row.whole (size := 9) (m := 1) (ds := cs) (by rw [hok_.1]) (by decide)) .head (fun H2 hle2 hfz => ?_)
  have hv : H2.at b_2 0 cs := by
    rcases hfz with ⟨h, _⟩ | ⟨g, h, h2⟩
    · cases h
    · cases h; exact h2
  refine nilL ?_
  refine cl rfl rfl rfl (app_UpdateMetadataRequest (D := []) (Row.nil _ _) hv (At_UpdateMetadataRequest.mono v _ _ _ _ hle2 hA) hok h0 h1 (by unfold B46 at hb; unfold LIM; simp only [List.length_nil]; omega)) rfl (fun v_ H1 L1 le_5 hR => ?_)
  obtain ⟨a16, c16, N16, rfl, rfl, h16⟩ := hR
  refine asg rfl rfl ?_
  refine nl ?_
  refine drW (.tail .head) ?_
  exact rT rfl rfl (le_4.trans (hle2.trans le_5)) (fun _ _ h => h) (OutB.of h16.1 rfl)
theorem good_UpdateMetadataRequest : Good fs_UpdateMetadataRequest := Good.of (by decide) (by decide)
theorem law_UpdateMetadataRequest {H : Fz} {L : Own} {c : TC} {t : Tr} {n : Nat} (hT : TreeAt H c t) (hn : n < 256) (hb : ∀ v : Int, 0 ≤ v → v ≤ 8 → ((Msg.mk fs_UpdateMetadataRequest 6).write v t).length ≤ B46) :
    Fn Tryz.prog 5 [.int .u8 (n : Int), .agg (c.cells t).toArray] H L (fun r H' L' => L = L' ∧ r = .bool true) := by
  have h0 : (0 : Int) ≤ ((n % (8 + 1) : Nat) : Int) := by omega
  have h1 : ((n % (8 + 1) : Nat) : Int) ≤ 8 := by omega
  have hbv := hb _ h0 h1
  have hm : (Msg.mk fs_UpdateMetadataRequest 6).write ((n % (8 + 1) : Nat) : Int) (fit fs_UpdateMetadataRequest ((n % (8 + 1) : Nat) : Int) t) = (Msg.mk fs_UpdateMetadataRequest 6).write ((n % (8 + 1) : Nat) : Int) t := by simp only [Msg.write]; rw [partB_fit good_UpdateMetadataRequest]
  refine Fn.mk Tryz.call5 Tryz.func5 rfl Tryz.ntmps5 rfl ?_
  refine sr ?_
  refine bx rfl rfl rfl (fun b_1 => ?_)
  refine asg rfl rfl ?_
  refine nl ?_
  refine sq ?_
  refine sr ?_
  refine la (Says.own .head) Tryz.isAgg26 Tryz.sizeOf26 rfl (Nat.zero_add _).symm rfl rfl ?_
  refine cl rfl rfl rfl (s_fits1 hT) rfl (fun v_ H1 L1 le_2 hR => ?_)
  obtain ⟨rfl, rfl, b9, rfl⟩ := hR
  refine nt rfl rfl ?_
  refine nl ?_
  refine cbU rfl (fun h10 => ?_) (fun h10 => ?_)
  · skip
    refine sr ?_
    refine asg rfl rfl ?_
    refine nl ?_
    refine drW .head ?_
    exact rT rfl rfl (Fz.le.refl _) (fun _ _ h => h) ⟨rfl, rfl⟩
  · skip
    refine skt ?_
    refine sr ?_
    refine cl rfl rfl rfl max_UpdateMetadataRequest rfl (fun v_ H1 L1 le_3 hR => ?_)
    obtain ⟨rfl, rfl, rfl⟩ := hR
    refine asg rfl rfl ?_
    refine nl ?_
    refine sq ?_
    refine sr ?_
    refine mv rfl rfl ?_
    refine lt rfl rfl rfl ?_
    refine nl ?_
    refine cdU rfl (fun h13 => ?_) (fun h13 => ?_)
    · skip
      exact absurd h13 (by decide)
    · skip
      refine skt ?_
      refine sr ?_
      refine cl rfl rfl rfl s_UpdateMetadataRequest rfl (fun v_ H1 L1 le_4 hR => ?_)
      obtain ⟨rfl, af, rfl, hF⟩ := hR
      refine mv rfl rfl ?_
      refine mv rfl rfl ?_
      refine cl rfl rfl rfl (s_version (n := n) (most := 8) hn (by omega)) rfl (fun v_ H1 L1 le_5 hR => ?_)
      obtain ⟨rfl, rfl, rfl⟩ := hR
      refine al Tryz.zeroValue31 rfl rfl (fun b_6 => ?_)
      refine sa Tryz.sizeOf31 rfl rfl rfl rfl rfl .head ?_
      refine asg rfl rfl ?_
      refine nl ?_
      refine sq ?_
      refine rgD 14 (.keep (.keep .nil)) mixed ?_
      refine dT 0 rfl rfl rfl (by kernel_rfl) (fun _ _ _ h => h) (y_mv rfl) (.keep (.keep .nil)) (Fz.le.refl _) ?_
      refine dT 1 rfl rfl rfl (by kernel_rfl) (fun _ _ _ h => h) (y_fa0 F31_0 rfl) (.keep (.keep .nil)) (Fz.le.refl _) ?_
      refine dT 2 rfl rfl rfl (by kernel_rfl) (fun _ _ _ h => h) (y_ld (Says.own .head) Tryz.isAgg29 rfl (Nat.zero_add _).symm rfl) (.keep (.keep .nil)) (Fz.le.refl _) ?_
      refine dT 3 rfl rfl rfl (by kernel_rfl) (fun _ _ _ h => h) (y_mv rfl) (.keep (.keep .nil)) (Fz.le.refl _) ?_
      refine dT 4 rfl rfl rfl (by kernel_rfl) (fun _ _ _ h => h) (y_la (Says.own (.tail .head)) Tryz.isAgg26 Tryz.sizeOf26 rfl (Nat.zero_add _).symm rfl) (.keep (.keep .nil)) (Fz.le.refl _) ?_
      refine dT 8 rfl rfl rfl (by kernel_rfl) (fun _ _ _ h => h) (y_la (Says.own .head) Tryz.isAgg31 Tryz.sizeOf31 rfl (Nat.zero_add _).symm rfl) (.keep (.keep .nil)) (Fz.le.refl _) ?_
      refine dT 9 rfl rfl rfl (by kernel_rfl) (fun _ _ _ h => h) (y_mv rfl) (.keep (.keep .nil)) (Fz.le.refl _) ?_
      refine dT 10 rfl rfl rfl (by kernel_rfl) (fun _ _ _ h => h) (y_la (Says.own (.tail .head)) Tryz.isAgg26 Tryz.sizeOf26 rfl (Nat.zero_add _).symm rfl) (.keep (.keep .nil)) (Fz.le.refl _) ?_
      refine dE 5 (by kernel_rfl) rfl ?_
      refine cl rfl rfl rfl (s_fit fs_UpdateMetadataRequest ((n % (8 + 1) : Nat) : Int) hF (hT.mono le_4)) rfl (fun v_ H1 L1 le_7 hR => ?_)
      obtain ⟨rfl, cf, rfl, hf⟩ := hR
      refine dN (.keep (.keep .nil)) le_7 ?_
      refine dE 6 (by kernel_rfl) rfl ?_
      refine cl rfl rfl rfl (s_given _ hf) rfl (fun v_ H1 L1 le_8 hR => ?_)
      obtain ⟨rfl, cg, rfl, hg⟩ := hR
      refine dN (.keep (.keep .nil)) (le_7.trans le_8) ?_
      refine dE 7 (by kernel_rfl) rfl ?_
      refine cl rfl rfl rfl (mk_UpdateMetadataRequest hg (fine_fit good_UpdateMetadataRequest _ _) (ok_fit good_UpdateMetadataRequest _ _) h0 h1 (by rw [hm]; exact hbv)) rfl (fun v_ H1 L1 le_9 hR => ?_)
      obtain ⟨ak, ck, Nk, rfl, rfl, hk_⟩ := hR
      refine dN (.skip (.keep (.keep .nil))) (le_7.trans (le_8.trans le_9)) ?_
      refine dE 11 (by kernel_rfl) rfl ?_
      refine cl rfl rfl rfl (s_write (m := (Msg.mk fs_UpdateMetadataRequest 6)) (hF.mono (le_7.trans (le_8.trans le_9))) (hT.mono (le_4.trans (le_7.trans (le_8.trans le_9)))) hbv) rfl (fun v_ H1 L1 le_10 hR => ?_)
      obtain ⟨aw, cw, Nw, rfl, rfl, hw_⟩ := hR
      refine dN (.skip (.skip (.keep (.keep .nil)))) (le_7.trans (le_8.trans (le_9.trans le_10))) ?_
      refine dE 12 (by kernel_rfl) rfl ?_
      refine frL hk_.1 (.tail .head) (fun H8 le8 z8 => ?_)
      have y8 := BytesAt.row z8 hk_.1 (by rw [hm]; unfold B46 at hbv; unfold B47; omega)
      refine frL hw_.1 .head (fun H9 le9 z9 => ?_)
      have y9 := BytesAt.row z9 hw_.1 (by unfold B46 at hbv; unfold B47; omega)
      refine cl rfl rfl rfl (s_same (y8.mono le9) y9) rfl (fun v_ H1 L1 le_11 hR => ?_)
      obtain ⟨rfl, rfl, rfl⟩ := hR
      refine dN (.keep (.keep .nil)) (le_7.trans (le_8.trans (le_9.trans (le_10.trans (le8.trans le9))))) ?_
      refine dT 13 rfl rfl rfl (by kernel_rfl) (fun _ _ _ h => h) (y_asg rfl) (.keep (.keep .nil)) (le_7.trans (le_8.trans (le_9.trans (le_10.trans (le8.trans le9))))) ?_
      refine dD (by kernel_rfl) ?_
      refine Nt ?_
      refine drW .head ?_
      refine drW .head ?_
      exact rT rfl rfl (le_4.trans (le_7.trans (le_8.trans (le_9.trans (le_10.trans (le8.trans le9)))))) (fun _ _ h => h) ⟨rfl, by rw [hm]; simp⟩
end Go.Sx

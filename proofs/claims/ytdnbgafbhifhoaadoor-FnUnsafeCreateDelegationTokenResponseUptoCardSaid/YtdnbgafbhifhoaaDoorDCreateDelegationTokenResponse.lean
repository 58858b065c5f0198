import Derived.Test.YtdnbgafbhifhoaaDoorBCreateDelegationTokenResponse
import Derived.Test.YtdnbgafbhifhoaaDoorTB
import Derived.KernelRfl
set_option linter.unusedVariables false
set_option linter.unusedSimpArgs false
set_option maxRecDepth 100000
set_option maxHeartbeats 20000000
namespace Go.Sx
open Go.Proofs
def tl_CreateDelegationTokenResponse (T : Tr) : Tr := .mk 0 [] false [(.mk (IntKind.i16.wrap (T.at 0).n) [] false [] []), (.mk 0 (T.at 1).s false [] []), (.mk 0 (T.at 2).s false [] []), (.mk 0 (T.at 3).s false [] []), (.mk 0 (T.at 4).s false [] []), (.mk (T.at 5).n [] false [] []), (.mk (T.at 6).n [] false [] []), (.mk (T.at 7).n [] false [] []), (.mk 0 (T.at 8).s false [] []), (.mk 0 (sT (T.at 9)) (T.at 9).nul [] []), (.mk (IntKind.i32.wrap (T.at 10).n) [] false [] [])] T.u
theorem te_CreateDelegationTokenResponse {H : Fz} {L : Own} {b o : Nat} {cs : List Value} {T : Tr} {ver : Int} (hb : H.at b o cs) (hA : At_CreateDelegationTokenResponse ver H T cs) (hf : Fits T) :
    Fn Tryd.prog 74 [.pointer (some ⟨b, o, none⟩)] H L (fun v H' L' => L = L' ∧ ∃ c : TC, v = .agg (c.cells (tl_CreateDelegationTokenResponse T)).toArray ∧ TreeAt H' c (tl_CreateDelegationTokenResponse T)) := by
  obtain ⟨a9, c9, mt, rfl, h1, h2⟩ := hA
  refine Fn.mk Tryd.call74 Tryd.func74 rfl Tryd.ntmps74 rfl ?_
  refine sr ?_
  refine al Tryd.zeroValue26 rfl rfl (fun b_1 => ?_)
  refine nl ?_
  refine sr ?_
  refine mkC (m := 11) (zs := [.int .i64 0, .slice none 0 0, .bool false, .slice none 0 0, .slice none 0 0]) Tryd.underlying23 I26 rfl rfl rfl rfl rfl rfl (by decide) (by unfold maxLen; omega) rfl (fun b_2 => ?_)
  refine bd' S26 rfl rfl rfl ?_
  refine al Tryd.zeroValue26 rfl rfl (fun b_3 => ?_)
  refine sa Tryd.sizeOf26 rfl rfl rfl rfl rfl .head ?_
  refine nl ?_
  refine sq ?_
  refine rgD 9 (.keep (.keep (.keep .nil))) mixed ?_
  refine dT 0 rfl rfl rfl (by kernel_rfl) (fun _ _ _ h => h) (y_fa0 F26_3 rfl) (.keep (.keep (.keep .nil))) (Fz.le.refl _) ?_
  refine dT 1 rfl rfl rfl (by kernel_rfl) (fun _ _ _ h => h) (y_ld (Says.own .head) Tryd.isAgg23 rfl (Nat.zero_add _).symm rfl) (.keep (.keep (.keep .nil))) (Fz.le.refl _) ?_
  refine dT 2 rfl rfl rfl (by kernel_rfl) (fun _ _ _ h => h) (y_mv rfl) (.keep (.keep (.keep .nil))) (Fz.le.refl _) ?_
  refine dT 3 rfl rfl rfl (by kernel_rfl) (fun _ _ _ h => h) (y_nc rfl) (.keep (.keep (.keep .nil))) (Fz.le.refl _) ?_
  refine dT 4 rfl rfl rfl (by kernel_rfl) (fun _ _ _ h => h) (y_fa F119_1 rfl) (.keep (.keep (.keep .nil))) (Fz.le.refl _) ?_
  refine dT 5 rfl rfl rfl (by kernel_rfl) (fun _ _ _ h => h) (y_ld (j := 1) (Says.fz hb) Tryd.isAgg45 rfl rfl rfl) (.keep (.keep (.keep .nil))) (Fz.le.refl _) ?_
  refine dT 6 rfl rfl rfl (by kernel_rfl) (fun _ _ _ h => h) (y_cv Tryd.runUnderlying45 Tryd.runUnderlying2 rfl (i16_64 _)) (.keep (.keep (.keep .nil))) (Fz.le.refl _) ?_
  refine dT 7 rfl rfl rfl (by kernel_rfl) (fun _ _ _ h => h) (y_bd S26 rfl rfl) (.keep (.keep (.keep .nil))) (Fz.le.refl _) ?_
  refine dT 8 rfl rfl rfl (by kernel_rfl) (fun _ _ _ h => h) (y_ix2 (j := 0) Tryd.runUnderlying23 Tryd.sizeOf26 rfl rfl rfl rfl (by decide)) (.keep (.keep (.keep .nil))) (Fz.le.refl _) ?_
  refine dE 9 (by kernel_rfl) rfl ?_
  refine sa Tryd.sizeOf26 rfl rfl rfl rfl rfl (.tail .head) ?_
  refine dNk (by kernel_rfl) ?_
  refine dD (by kernel_rfl) ?_
  refine Nt ?_
  refine sq ?_
  refine rgD 9 (.keep (.keep (.keep .nil))) mixed ?_
  refine dT 0 rfl rfl rfl (by kernel_rfl) (fun _ _ _ h => h) (y_fa0 F26_3 rfl) (.keep (.keep (.keep .nil))) (Fz.le.refl _) ?_
  refine dT 1 rfl rfl rfl (by kernel_rfl) (fun _ _ _ h => h) (y_ld (Says.own .head) Tryd.isAgg23 rfl (Nat.zero_add _).symm rfl) (.keep (.keep (.keep .nil))) (Fz.le.refl _) ?_
  refine dT 2 rfl rfl rfl (by kernel_rfl) (fun _ _ _ h => h) (y_mv rfl) (.keep (.keep (.keep .nil))) (Fz.le.refl _) ?_
  refine dT 3 rfl rfl rfl (by kernel_rfl) (fun _ _ _ h => h) (y_nc rfl) (.keep (.keep (.keep .nil))) (Fz.le.refl _) ?_
  refine dT 4 rfl rfl rfl (by kernel_rfl) (fun _ _ _ h => h) (y_fa F119_2 rfl) (.keep (.keep (.keep .nil))) (Fz.le.refl _) ?_
  refine dT 5 rfl rfl rfl (by kernel_rfl) (fun _ _ _ h => h) (y_ld (j := 2) (Says.fz hb) Tryd.isAgg9 rfl rfl rfl) (.keep (.keep (.keep .nil))) (Fz.le.refl _) ?_
  refine dE 6 (by kernel_rfl) rfl ?_
  refine csb Tryd.underlying9 Tryd.underlying22 Tryd.underlying5 rfl (by have := (hf.at 1).s; unfold B47; omega) rfl (fun Hb21 b21 cp21 le_4 hb21 => ?_)
  refine dN (.keep (.keep (.keep .nil))) le_4 ?_
  refine dT 7 rfl rfl rfl (by kernel_rfl) (fun _ _ _ h => h) (y_bd S26 rfl rfl) (.keep (.keep (.keep .nil))) le_4 ?_
  refine dT 8 rfl rfl rfl (by kernel_rfl) (fun _ _ _ h => h) (y_ix2 (j := 1) Tryd.runUnderlying23 Tryd.sizeOf26 rfl rfl rfl rfl (by decide)) (.keep (.keep (.keep .nil))) le_4 ?_
  refine dE 9 (by kernel_rfl) rfl ?_
  refine sa Tryd.sizeOf26 rfl rfl rfl rfl rfl (.tail .head) ?_
  refine dNk (by kernel_rfl) ?_
  refine dD (by kernel_rfl) ?_
  refine Nt ?_
  refine sq ?_
  refine rgD 9 (.keep (.keep (.keep .nil))) mixed ?_
  refine dT 0 rfl rfl rfl (by kernel_rfl) (fun _ _ _ h => h) (y_fa0 F26_3 rfl) (.keep (.keep (.keep .nil))) (Fz.le.refl _) ?_
  refine dT 1 rfl rfl rfl (by kernel_rfl) (fun _ _ _ h => h) (y_ld (Says.own .head) Tryd.isAgg23 rfl (Nat.zero_add _).symm rfl) (.keep (.keep (.keep .nil))) (Fz.le.refl _) ?_
  refine dT 2 rfl rfl rfl (by kernel_rfl) (fun _ _ _ h => h) (y_mv rfl) (.keep (.keep (.keep .nil))) (Fz.le.refl _) ?_
  refine dT 3 rfl rfl rfl (by kernel_rfl) (fun _ _ _ h => h) (y_nc rfl) (.keep (.keep (.keep .nil))) (Fz.le.refl _) ?_
  refine dT 4 rfl rfl rfl (by kernel_rfl) (fun _ _ _ h => h) (y_fa F119_3 rfl) (.keep (.keep (.keep .nil))) (Fz.le.refl _) ?_
  refine dT 5 rfl rfl rfl (by kernel_rfl) (fun _ _ _ h => h) (y_ld (j := 3) (Says.fz (hb.mono le_4)) Tryd.isAgg9 rfl rfl rfl) (.keep (.keep (.keep .nil))) (Fz.le.refl _) ?_
  refine dE 6 (by kernel_rfl) rfl ?_
  refine csb Tryd.underlying9 Tryd.underlying22 Tryd.underlying5 rfl (by have := (hf.at 2).s; unfold B47; omega) rfl (fun Hb30 b30 cp30 le_5 hb30 => ?_)
  refine dN (.keep (.keep (.keep .nil))) le_5 ?_
  refine dT 7 rfl rfl rfl (by kernel_rfl) (fun _ _ _ h => h) (y_bd S26 rfl rfl) (.keep (.keep (.keep .nil))) le_5 ?_
  refine dT 8 rfl rfl rfl (by kernel_rfl) (fun _ _ _ h => h) (y_ix2 (j := 2) Tryd.runUnderlying23 Tryd.sizeOf26 rfl rfl rfl rfl (by decide)) (.keep (.keep (.keep .nil))) le_5 ?_
  refine dE 9 (by kernel_rfl) rfl ?_
  refine sa Tryd.sizeOf26 rfl rfl rfl rfl rfl (.tail .head) ?_
  refine dNk (by kernel_rfl) ?_
  refine dD (by kernel_rfl) ?_
  refine Nt ?_
  refine sq ?_
  refine rgD 9 (.keep (.keep (.keep .nil))) mixed ?_
  refine dT 0 rfl rfl rfl (by kernel_rfl) (fun _ _ _ h => h) (y_fa0 F26_3 rfl) (.keep (.keep (.keep .nil))) (Fz.le.refl _) ?_
  refine dT 1 rfl rfl rfl (by kernel_rfl) (fun _ _ _ h => h) (y_ld (Says.own .head) Tryd.isAgg23 rfl (Nat.zero_add _).symm rfl) (.keep (.keep (.keep .nil))) (Fz.le.refl _) ?_
  refine dT 2 rfl rfl rfl (by kernel_rfl) (fun _ _ _ h => h) (y_mv rfl) (.keep (.keep (.keep .nil))) (Fz.le.refl _) ?_
  refine dT 3 rfl rfl rfl (by kernel_rfl) (fun _ _ _ h => h) (y_nc rfl) (.keep (.keep (.keep .nil))) (Fz.le.refl _) ?_
  refine dT 4 rfl rfl rfl (by kernel_rfl) (fun _ _ _ h => h) (y_fa F119_4 rfl) (.keep (.keep (.keep .nil))) (Fz.le.refl _) ?_
  refine dT 5 rfl rfl rfl (by kernel_rfl) (fun _ _ _ h => h) (y_ld (j := 4) (Says.fz (hb.mono (le_4.trans le_5))) Tryd.isAgg9 rfl rfl rfl) (.keep (.keep (.keep .nil))) (Fz.le.refl _) ?_
  refine dE 6 (by kernel_rfl) rfl ?_
  refine csb Tryd.underlying9 Tryd.underlying22 Tryd.underlying5 rfl (by have := (hf.at 3).s; unfold B47; omega) rfl (fun Hb39 b39 cp39 le_6 hb39 => ?_)
  refine dN (.keep (.keep (.keep .nil))) le_6 ?_
  refine dT 7 rfl rfl rfl (by kernel_rfl) (fun _ _ _ h => h) (y_bd S26 rfl rfl) (.keep (.keep (.keep .nil))) le_6 ?_
  refine dT 8 rfl rfl rfl (by kernel_rfl) (fun _ _ _ h => h) (y_ix2 (j := 3) Tryd.runUnderlying23 Tryd.sizeOf26 rfl rfl rfl rfl (by decide)) (.keep (.keep (.keep .nil))) le_6 ?_
  refine dE 9 (by kernel_rfl) rfl ?_
  refine sa Tryd.sizeOf26 rfl rfl rfl rfl rfl (.tail .head) ?_
  refine dNk (by kernel_rfl) ?_
  refine dD (by kernel_rfl) ?_
  refine Nt ?_
  refine sq ?_
  refine rgD 9 (.keep (.keep (.keep .nil))) mixed ?_
  refine dT 0 rfl rfl rfl (by kernel_rfl) (fun _ _ _ h => h) (y_fa0 F26_3 rfl) (.keep (.keep (.keep .nil))) (Fz.le.refl _) ?_
  refine dT 1 rfl rfl rfl (by kernel_rfl) (fun _ _ _ h => h) (y_ld (Says.own .head) Tryd.isAgg23 rfl (Nat.zero_add _).symm rfl) (.keep (.keep (.keep .nil))) (Fz.le.refl _) ?_
  refine dT 2 rfl rfl rfl (by kernel_rfl) (fun _ _ _ h => h) (y_mv rfl) (.keep (.keep (.keep .nil))) (Fz.le.refl _) ?_
  refine dT 3 rfl rfl rfl (by kernel_rfl) (fun _ _ _ h => h) (y_nc rfl) (.keep (.keep (.keep .nil))) (Fz.le.refl _) ?_
  refine dT 4 rfl rfl rfl (by kernel_rfl) (fun _ _ _ h => h) (y_fa F119_5 rfl) (.keep (.keep (.keep .nil))) (Fz.le.refl _) ?_
  refine dT 5 rfl rfl rfl (by kernel_rfl) (fun _ _ _ h => h) (y_ld (j := 5) (Says.fz (hb.mono (le_4.trans (le_5.trans le_6)))) Tryd.isAgg9 rfl rfl rfl) (.keep (.keep (.keep .nil))) (Fz.le.refl _) ?_
  refine dE 6 (by kernel_rfl) rfl ?_
  refine csb Tryd.underlying9 Tryd.underlying22 Tryd.underlying5 rfl (by have := (hf.at 4).s; unfold B47; omega) rfl (fun Hb48 b48 cp48 le_7 hb48 => ?_)
  refine dN (.keep (.keep (.keep .nil))) le_7 ?_
  refine dT 7 rfl rfl rfl (by kernel_rfl) (fun _ _ _ h => h) (y_bd S26 rfl rfl) (.keep (.keep (.keep .nil))) le_7 ?_
  refine dT 8 rfl rfl rfl (by kernel_rfl) (fun _ _ _ h => h) (y_ix2 (j := 4) Tryd.runUnderlying23 Tryd.sizeOf26 rfl rfl rfl rfl (by decide)) (.keep (.keep (.keep .nil))) le_7 ?_
  refine dE 9 (by kernel_rfl) rfl ?_
  refine sa Tryd.sizeOf26 rfl rfl rfl rfl rfl (.tail .head) ?_
  refine dNk (by kernel_rfl) ?_
  refine dD (by kernel_rfl) ?_
  refine Nt ?_
  refine sq ?_
  refine rgD 8 (.keep (.keep (.keep .nil))) mixed ?_
  refine dT 0 rfl rfl rfl (by kernel_rfl) (fun _ _ _ h => h) (y_fa0 F26_3 rfl) (.keep (.keep (.keep .nil))) (Fz.le.refl _) ?_
  refine dT 1 rfl rfl rfl (by kernel_rfl) (fun _ _ _ h => h) (y_ld (Says.own .head) Tryd.isAgg23 rfl (Nat.zero_add _).symm rfl) (.keep (.keep (.keep .nil))) (Fz.le.refl _) ?_
  refine dT 2 rfl rfl rfl (by kernel_rfl) (fun _ _ _ h => h) (y_mv rfl) (.keep (.keep (.keep .nil))) (Fz.le.refl _) ?_
  refine dT 3 rfl rfl rfl (by kernel_rfl) (fun _ _ _ h => h) (y_nc rfl) (.keep (.keep (.keep .nil))) (Fz.le.refl _) ?_
  refine dT 4 rfl rfl rfl (by kernel_rfl) (fun _ _ _ h => h) (y_fa F119_6 rfl) (.keep (.keep (.keep .nil))) (Fz.le.refl _) ?_
  refine dT 5 rfl rfl rfl (by kernel_rfl) (fun _ _ _ h => h) (y_ld (j := 6) (Says.fz (hb.mono (le_4.trans (le_5.trans (le_6.trans le_7))))) Tryd.isAgg2 rfl rfl rfl) (.keep (.keep (.keep .nil))) (Fz.le.refl _) ?_
  refine dT 6 rfl rfl rfl (by kernel_rfl) (fun _ _ _ h => h) (y_bd S26 rfl rfl) (.keep (.keep (.keep .nil))) (Fz.le.refl _) ?_
  refine dT 7 rfl rfl rfl (by kernel_rfl) (fun _ _ _ h => h) (y_ix2 (j := 5) Tryd.runUnderlying23 Tryd.sizeOf26 rfl rfl rfl rfl (by decide)) (.keep (.keep (.keep .nil))) (Fz.le.refl _) ?_
  refine dE 8 (by kernel_rfl) rfl ?_
  refine sa Tryd.sizeOf26 rfl rfl rfl rfl rfl (.tail .head) ?_
  refine dNk (by kernel_rfl) ?_
  refine dD (by kernel_rfl) ?_
  refine Nt ?_
  refine sq ?_
  refine rgD 8 (.keep (.keep (.keep .nil))) mixed ?_
  refine dT 0 rfl rfl rfl (by kernel_rfl) (fun _ _ _ h => h) (y_fa0 F26_3 rfl) (.keep (.keep (.keep .nil))) (Fz.le.refl _) ?_
  refine dT 1 rfl rfl rfl (by kernel_rfl) (fun _ _ _ h => h) (y_ld (Says.own .head) Tryd.isAgg23 rfl (Nat.zero_add _).symm rfl) (.keep (.keep (.keep .nil))) (Fz.le.refl _) ?_
  refine dT 2 rfl rfl rfl (by kernel_rfl) (fun _ _ _ h => h) (y_mv rfl) (.keep (.keep (.keep .nil))) (Fz.le.refl _) ?_
  refine dT 3 rfl rfl rfl (by kernel_rfl) (fun _ _ _ h => h) (y_nc rfl) (.keep (.keep (.keep .nil))) (Fz.le.refl _) ?_
  refine dT 4 rfl rfl rfl (by kernel_rfl) (fun _ _ _ h => h) (y_fa F119_7 rfl) (.keep (.keep (.keep .nil))) (Fz.le.refl _) ?_
  refine dT 5 rfl rfl rfl (by kernel_rfl) (fun _ _ _ h => h) (y_ld (j := 7) (Says.fz (hb.mono (le_4.trans (le_5.trans (le_6.trans le_7))))) Tryd.isAgg2 rfl rfl rfl) (.keep (.keep (.keep .nil))) (Fz.le.refl _) ?_
  refine dT 6 rfl rfl rfl (by kernel_rfl) (fun _ _ _ h => h) (y_bd S26 rfl rfl) (.keep (.keep (.keep .nil))) (Fz.le.refl _) ?_
  refine dT 7 rfl rfl rfl (by kernel_rfl) (fun _ _ _ h => h) (y_ix2 (j := 6) Tryd.runUnderlying23 Tryd.sizeOf26 rfl rfl rfl rfl (by decide)) (.keep (.keep (.keep .nil))) (Fz.le.refl _) ?_
  refine dE 8 (by kernel_rfl) rfl ?_
  refine sa Tryd.sizeOf26 rfl rfl rfl rfl rfl (.tail .head) ?_
  refine dNk (by kernel_rfl) ?_
  refine dD (by kernel_rfl) ?_
  refine Nt ?_
  refine sq ?_
  refine rgD 8 (.keep (.keep (.keep .nil))) mixed ?_
  refine dT 0 rfl rfl rfl (by kernel_rfl) (fun _ _ _ h => h) (y_fa0 F26_3 rfl) (.keep (.keep (.keep .nil))) (Fz.le.refl _) ?_
  refine dT 1 rfl rfl rfl (by kernel_rfl) (fun _ _ _ h => h) (y_ld (Says.own .head) Tryd.isAgg23 rfl (Nat.zero_add _).symm rfl) (.keep (.keep (.keep .nil))) (Fz.le.refl _) ?_
  refine dT 2 rfl rfl rfl (by kernel_rfl) (fun _ _ _ h => h) (y_mv rfl) (.keep (.keep (.keep .nil))) (Fz.le.refl _) ?_
  refine dT 3 rfl rfl rfl (by kernel_rfl) (fun _ _ _ h => h) (y_nc rfl) (.keep (.keep (.keep .nil))) (Fz.le.refl _) ?_
  refine dT 4 rfl rfl rfl (by kernel_rfl) (fun _ _ _ h => h) (y_fa F119_8 rfl) (.keep (.keep (.keep .nil))) (Fz.le.refl _) ?_
  refine dT 5 rfl rfl rfl (by kernel_rfl) (fun _ _ _ h => h) (y_ld (j := 8) (Says.fz (hb.mono (le_4.trans (le_5.trans (le_6.trans le_7))))) Tryd.isAgg2 rfl rfl rfl) (.keep (.keep (.keep .nil))) (Fz.le.refl _) ?_
  refine dT 6 rfl rfl rfl (by kernel_rfl) (fun _ _ _ h => h) (y_bd S26 rfl rfl) (.keep (.keep (.keep .nil))) (Fz.le.refl _) ?_
  refine dT 7 rfl rfl rfl (by kernel_rfl) (fun _ _ _ h => h) (y_ix2 (j := 7) Tryd.runUnderlying23 Tryd.sizeOf26 rfl rfl rfl rfl (by decide)) (.keep (.keep (.keep .nil))) (Fz.le.refl _) ?_
  refine dE 8 (by kernel_rfl) rfl ?_
  refine sa Tryd.sizeOf26 rfl rfl rfl rfl rfl (.tail .head) ?_
  refine dNk (by kernel_rfl) ?_
  refine dD (by kernel_rfl) ?_
  refine Nt ?_
  refine sq ?_
  refine rgD 9 (.keep (.keep (.keep .nil))) mixed ?_
  refine dT 0 rfl rfl rfl (by kernel_rfl) (fun _ _ _ h => h) (y_fa0 F26_3 rfl) (.keep (.keep (.keep .nil))) (Fz.le.refl _) ?_
  refine dT 1 rfl rfl rfl (by kernel_rfl) (fun _ _ _ h => h) (y_ld (Says.own .head) Tryd.isAgg23 rfl (Nat.zero_add _).symm rfl) (.keep (.keep (.keep .nil))) (Fz.le.refl _) ?_
  refine dT 2 rfl rfl rfl (by kernel_rfl) (fun _ _ _ h => h) (y_mv rfl) (.keep (.keep (.keep .nil))) (Fz.le.refl _) ?_
  refine dT 3 rfl rfl rfl (by kernel_rfl) (fun _ _ _ h => h) (y_nc rfl) (.keep (.keep (.keep .nil))) (Fz.le.refl _) ?_
  refine dT 4 rfl rfl rfl (by kernel_rfl) (fun _ _ _ h => h) (y_fa F119_9 rfl) (.keep (.keep (.keep .nil))) (Fz.le.refl _) ?_
  refine dT 5 rfl rfl rfl (by kernel_rfl) (fun _ _ _ h => h) (y_ld (j := 9) (Says.fz (hb.mono (le_4.trans (le_5.trans (le_6.trans le_7))))) Tryd.isAgg9 rfl rfl rfl) (.keep (.keep (.keep .nil))) (Fz.le.refl _) ?_
  refine dE 6 (by kernel_rfl) rfl ?_
  refine csb Tryd.underlying9 Tryd.underlying22 Tryd.underlying5 rfl (by have := (hf.at 8).s; unfold B47; omega) rfl (fun Hb81 b81 cp81 le_8 hb81 => ?_)
  refine dN (.keep (.keep (.keep .nil))) le_8 ?_
  refine dT 7 rfl rfl rfl (by kernel_rfl) (fun _ _ _ h => h) (y_bd S26 rfl rfl) (.keep (.keep (.keep .nil))) le_8 ?_
  refine dT 8 rfl rfl rfl (by kernel_rfl) (fun _ _ _ h => h) (y_ix2 (j := 8) Tryd.runUnderlying23 Tryd.sizeOf26 rfl rfl rfl rfl (by decide)) (.keep (.keep (.keep .nil))) le_8 ?_
  refine dE 9 (by kernel_rfl) rfl ?_
  refine sa Tryd.sizeOf26 rfl rfl rfl rfl rfl (.tail .head) ?_
  refine dNk (by kernel_rfl) ?_
  refine dD (by kernel_rfl) ?_
  refine Nt ?_
  refine sq ?_
  refine rgD 8 (.keep (.keep (.keep .nil))) mixed ?_
  refine dT 0 rfl rfl rfl (by kernel_rfl) (fun _ _ _ h => h) (y_fa0 F26_3 rfl) (.keep (.keep (.keep .nil))) (Fz.le.refl _) ?_
  refine dT 1 rfl rfl rfl (by kernel_rfl) (fun _ _ _ h => h) (y_ld (Says.own .head) Tryd.isAgg23 rfl (Nat.zero_add _).symm rfl) (.keep (.keep (.keep .nil))) (Fz.le.refl _) ?_
  refine dT 2 rfl rfl rfl (by kernel_rfl) (fun _ _ _ h => h) (y_mv rfl) (.keep (.keep (.keep .nil))) (Fz.le.refl _) ?_
  refine dT 3 rfl rfl rfl (by kernel_rfl) (fun _ _ _ h => h) (y_nc rfl) (.keep (.keep (.keep .nil))) (Fz.le.refl _) ?_
  refine dT 4 rfl rfl rfl (by kernel_rfl) (fun _ _ _ h => h) (y_fa F119_10 rfl) (.keep (.keep (.keep .nil))) (Fz.le.refl _) ?_
  refine dT 5 rfl rfl rfl (by kernel_rfl) (fun _ _ _ h => h) (y_ld (j := 10) (Says.fz (hb.mono (le_4.trans (le_5.trans (le_6.trans (le_7.trans le_8)))))) Tryd.isAgg22 rfl rfl rfl) (.keep (.keep (.keep .nil))) (Fz.le.refl _) ?_
  refine dE 6 (by kernel_rfl) rfl ?_
  refine cl rfl rfl rfl (k_octetsTree (h1.mono (le_4.trans (le_5.trans (le_6.trans (le_7.trans le_8))))) (hf.at 9)) rfl (fun v_ H1 L1 le_9 hR_ => ?_)
  obtain ⟨rfl, ct90, rfl, hT90⟩ := hR_
  refine dN (.keep (.keep (.keep .nil))) le_9 ?_
  refine dT 7 rfl rfl rfl (by kernel_rfl) (fun _ _ _ h => h) (y_ix2 (j := 9) Tryd.runUnderlying23 Tryd.sizeOf26 rfl rfl rfl rfl (by decide)) (.keep (.keep (.keep .nil))) le_9 ?_
  refine dE 8 (by kernel_rfl) rfl ?_
  refine sa Tryd.sizeOf26 rfl rfl rfl rfl rfl (.tail .head) ?_
  refine dNk (by kernel_rfl) ?_
  refine dD (by kernel_rfl) ?_
  refine Nt ?_
  refine sq ?_
  refine rgD 9 (.keep (.keep (.keep .nil))) mixed ?_
  refine dT 0 rfl rfl rfl (by kernel_rfl) (fun _ _ _ h => h) (y_fa0 F26_3 rfl) (.keep (.keep (.keep .nil))) (Fz.le.refl _) ?_
  refine dT 1 rfl rfl rfl (by kernel_rfl) (fun _ _ _ h => h) (y_ld (Says.own .head) Tryd.isAgg23 rfl (Nat.zero_add _).symm rfl) (.keep (.keep (.keep .nil))) (Fz.le.refl _) ?_
  refine dT 2 rfl rfl rfl (by kernel_rfl) (fun _ _ _ h => h) (y_mv rfl) (.keep (.keep (.keep .nil))) (Fz.le.refl _) ?_
  refine dT 3 rfl rfl rfl (by kernel_rfl) (fun _ _ _ h => h) (y_nc rfl) (.keep (.keep (.keep .nil))) (Fz.le.refl _) ?_
  refine dT 4 rfl rfl rfl (by kernel_rfl) (fun _ _ _ h => h) (y_fa F119_11 rfl) (.keep (.keep (.keep .nil))) (Fz.le.refl _) ?_
  refine dT 5 rfl rfl rfl (by kernel_rfl) (fun _ _ _ h => h) (y_ld (j := 11) (Says.fz (hb.mono (le_4.trans (le_5.trans (le_6.trans (le_7.trans (le_8.trans le_9))))))) Tryd.isAgg21 rfl rfl rfl) (.keep (.keep (.keep .nil))) (Fz.le.refl _) ?_
  refine dT 6 rfl rfl rfl (by kernel_rfl) (fun _ _ _ h => h) (y_cv Tryd.runUnderlying21 Tryd.runUnderlying2 rfl (i32_64 _)) (.keep (.keep (.keep .nil))) (Fz.le.refl _) ?_
  refine dT 7 rfl rfl rfl (by kernel_rfl) (fun _ _ _ h => h) (y_bd S26 rfl rfl) (.keep (.keep (.keep .nil))) (Fz.le.refl _) ?_
  refine dT 8 rfl rfl rfl (by kernel_rfl) (fun _ _ _ h => h) (y_ix2 (j := 10) Tryd.runUnderlying23 Tryd.sizeOf26 rfl rfl rfl rfl (by decide)) (.keep (.keep (.keep .nil))) (Fz.le.refl _) ?_
  refine dE 9 (by kernel_rfl) rfl ?_
  refine sa Tryd.sizeOf26 rfl rfl rfl rfl rfl (.tail .head) ?_
  refine dNk (by kernel_rfl) ?_
  refine dD (by kernel_rfl) ?_
  refine Nt ?_
  refine sr ?_
  refine mv rfl rfl ?_
  refine nc rfl rfl ?_
  refine fa F119_12 rfl rfl ?_
  refine mkf rfl rfl ?_
  obtain ⟨kvs, hM, hlen, hel⟩ := (h2.mono (le_4.trans (le_5.trans (le_6.trans (le_7.trans (le_8.trans le_9))))))
  have hfu := hf.u
  refine cl rfl rfl rfl (t_each (j := 12) (I := fun i H1 Y => TgI 61 b_3 26 (.int .i64 0) (.slice none 0 0) (.bool false) (_) T.u i H1 Y) (hb.mono (le_4.trans (le_5.trans (le_6.trans (le_7.trans (le_8.trans le_9)))))) rfl hM (by omega) (fun i H1 H2 Y hle h => h.mono hle) TgI.start (fun i k v H1 Y L1 hi hle hI => ?_)) rfl (fun v_ H1 L1 le_11 hR_ => ?_)
  · obtain ⟨s, h1, ⟨va, vc, rfl, hx⟩, h2, h3⟩ := hel i k v hi
    have hik := sortKv_lt hi
    exact TgI.step (fun {_ _ _ _ _ _ _ _ _ _ _ _ _ _ _ _} => tc_134) hf.v (by omega) h1 (hx.mono hle) h2 h3 hI
  rw [hlen] at hR_
  obtain ⟨_, rfl, aU, cU, NU, esU, rfl, hrU, heU, hgU⟩ := hR_
  refine splL ?_
  rw [List.take_length] at heU
  refine frL hrU (.tail .head) (fun HU hleU hzU => ?_)
  have hU := (TagsAt.told hzU hrU heU hfu (fun p hp => (hgU p hp).mono hleU)).1
  refine nl ?_
  refine sr ?_
  refine fa0 F26_4 rfl rfl ?_
  refine ld (Says.own .head) Tryd.isAgg24 rfl (Nat.zero_add _).symm rfl rfl ?_
  refine cl rfl rfl rfl (k_sorted hU (h2.mono (le_4.trans (le_5.trans (le_6.trans (le_7.trans (le_8.trans (le_9.trans (le_11.trans hleU)))))))).rise) rfl (fun v_ H1 L1 hle_ hR_ => ?_)
  obtain ⟨rfl, rfl⟩ := hR_
  refine nl ?_
  refine sr ?_
  refine la (Says.own .head) Tryd.isAgg26 Tryd.sizeOf26 rfl (Nat.zero_add _).symm rfl rfl ?_
  refine sa Tryd.sizeOf26 rfl rfl rfl rfl rfl (.tail (.tail .head)) ?_
  refine nl ?_
  refine drW .head ?_
  refine frW (Row.whole (e := 26) (size := 5) (m := 11) (ds := [.int .i64 (IntKind.i16.wrap (T.at 0).n), .slice none 0 0, .bool false, .slice none 0 0, .slice none 0 0, .int .i64 0, .slice (some ⟨b21, 0, none⟩) (T.at 1).s.length cp21, .bool false, .slice none 0 0, .slice none 0 0, .int .i64 0, .slice (some ⟨b30, 0, none⟩) (T.at 2).s.length cp30, .bool false, .slice none 0 0, .slice none 0 0, .int .i64 0, .slice (some ⟨b39, 0, none⟩) (T.at 3).s.length cp39, .bool false, .slice none 0 0, .slice none 0 0, .int .i64 0, .slice (some ⟨b48, 0, none⟩) (T.at 4).s.length cp48, .bool false, .slice none 0 0, .slice none 0 0, .int .i64 (T.at 5).n, .slice none 0 0, .bool false, .slice none 0 0, .slice none 0 0, .int .i64 (T.at 6).n, .slice none 0 0, .bool false, .slice none 0 0, .slice none 0 0, .int .i64 (T.at 7).n, .slice none 0 0, .bool false, .slice none 0 0, .slice none 0 0, .int .i64 0, .slice (some ⟨b81, 0, none⟩) (T.at 8).s.length cp81, .bool false, .slice none 0 0, .slice none 0 0, .int .i64 0, .slice ct90.sa (sT (T.at 9)).length ct90.sc, .bool (T.at 9).nul, .slice ct90.la 0 ct90.lc, .slice ct90.ua 0 ct90.uc, .int .i64 (IntKind.i32.wrap (T.at 10).n), .slice none 0 0, .bool false, .slice none 0 0, .slice none 0 0]) rfl (by unfold maxLen; omega)) .head (fun H9 hle9 hz9 => ?_)
  have hrb : H9.at b_2 0 [.int .i64 (IntKind.i16.wrap (T.at 0).n), .slice none 0 0, .bool false, .slice none 0 0, .slice none 0 0, .int .i64 0, .slice (some ⟨b21, 0, none⟩) (T.at 1).s.length cp21, .bool false, .slice none 0 0, .slice none 0 0, .int .i64 0, .slice (some ⟨b30, 0, none⟩) (T.at 2).s.length cp30, .bool false, .slice none 0 0, .slice none 0 0, .int .i64 0, .slice (some ⟨b39, 0, none⟩) (T.at 3).s.length cp39, .bool false, .slice none 0 0, .slice none 0 0, .int .i64 0, .slice (some ⟨b48, 0, none⟩) (T.at 4).s.length cp48, .bool false, .slice none 0 0, .slice none 0 0, .int .i64 (T.at 5).n, .slice none 0 0, .bool false, .slice none 0 0, .slice none 0 0, .int .i64 (T.at 6).n, .slice none 0 0, .bool false, .slice none 0 0, .slice none 0 0, .int .i64 (T.at 7).n, .slice none 0 0, .bool false, .slice none 0 0, .slice none 0 0, .int .i64 0, .slice (some ⟨b81, 0, none⟩) (T.at 8).s.length cp81, .bool false, .slice none 0 0, .slice none 0 0, .int .i64 0, .slice ct90.sa (sT (T.at 9)).length ct90.sc, .bool (T.at 9).nul, .slice ct90.la 0 ct90.lc, .slice ct90.ua 0 ct90.uc, .int .i64 (IntKind.i32.wrap (T.at 10).n), .slice none 0 0, .bool false, .slice none 0 0, .slice none 0 0] := by
    rcases hz9 with ⟨h, _⟩ | ⟨g, h, h2⟩
    · cases h
    · cases h; exact h2
  have hrb2 : H9.at b_2 0 (([((TC.none : TC), (Tr.mk (IntKind.i16.wrap (T.at 0).n) [] false [] [] : Tr)), ((⟨some ⟨b21, 0, none⟩, cp21, none, 0, none, 0⟩ : TC), (Tr.mk 0 (T.at 1).s false [] [] : Tr)), ((⟨some ⟨b30, 0, none⟩, cp30, none, 0, none, 0⟩ : TC), (Tr.mk 0 (T.at 2).s false [] [] : Tr)), ((⟨some ⟨b39, 0, none⟩, cp39, none, 0, none, 0⟩ : TC), (Tr.mk 0 (T.at 3).s false [] [] : Tr)), ((⟨some ⟨b48, 0, none⟩, cp48, none, 0, none, 0⟩ : TC), (Tr.mk 0 (T.at 4).s false [] [] : Tr)), ((TC.none : TC), (Tr.mk (T.at 5).n [] false [] [] : Tr)), ((TC.none : TC), (Tr.mk (T.at 6).n [] false [] [] : Tr)), ((TC.none : TC), (Tr.mk (T.at 7).n [] false [] [] : Tr)), ((⟨some ⟨b81, 0, none⟩, cp81, none, 0, none, 0⟩ : TC), (Tr.mk 0 (T.at 8).s false [] [] : Tr)), ((ct90 : TC), (Tr.mk 0 (sT (T.at 9)) (T.at 9).nul [] [] : Tr)), ((TC.none : TC), (Tr.mk (IntKind.i32.wrap (T.at 10).n) [] false [] [] : Tr))] : List EE).flatMap fun p => p.1.cells p.2) := by exact hrb
  have hl9 : TreesAt H9 (some ⟨b_2, 0, none⟩) 11 [(.mk (IntKind.i16.wrap (T.at 0).n) [] false [] []), (.mk 0 (T.at 1).s false [] []), (.mk 0 (T.at 2).s false [] []), (.mk 0 (T.at 3).s false [] []), (.mk 0 (T.at 4).s false [] []), (.mk (T.at 5).n [] false [] []), (.mk (T.at 6).n [] false [] []), (.mk (T.at 7).n [] false [] []), (.mk 0 (T.at 8).s false [] []), (.mk 0 (sT (T.at 9)) (T.at 9).nul [] []), (.mk (IntKind.i32.wrap (T.at 10).n) [] false [] [])] := by
    refine TreesAt.row (es := [((TC.none : TC), (Tr.mk (IntKind.i16.wrap (T.at 0).n) [] false [] [] : Tr)), ((⟨some ⟨b21, 0, none⟩, cp21, none, 0, none, 0⟩ : TC), (Tr.mk 0 (T.at 1).s false [] [] : Tr)), ((⟨some ⟨b30, 0, none⟩, cp30, none, 0, none, 0⟩ : TC), (Tr.mk 0 (T.at 2).s false [] [] : Tr)), ((⟨some ⟨b39, 0, none⟩, cp39, none, 0, none, 0⟩ : TC), (Tr.mk 0 (T.at 3).s false [] [] : Tr)), ((⟨some ⟨b48, 0, none⟩, cp48, none, 0, none, 0⟩ : TC), (Tr.mk 0 (T.at 4).s false [] [] : Tr)), ((TC.none : TC), (Tr.mk (T.at 5).n [] false [] [] : Tr)), ((TC.none : TC), (Tr.mk (T.at 6).n [] false [] [] : Tr)), ((TC.none : TC), (Tr.mk (T.at 7).n [] false [] [] : Tr)), ((⟨some ⟨b81, 0, none⟩, cp81, none, 0, none, 0⟩ : TC), (Tr.mk 0 (T.at 8).s false [] [] : Tr)), ((ct90 : TC), (Tr.mk 0 (sT (T.at 9)) (T.at 9).nul [] [] : Tr)), ((TC.none : TC), (Tr.mk (IntKind.i32.wrap (T.at 10).n) [] false [] [] : Tr))]) (.inr ⟨_, rfl, hrb2⟩) rfl (Nat.le_refl _) (Nat.le_of_ble_eq_true rfl) ?_
    intro p hp
    simp only [List.mem_cons, List.not_mem_nil, or_false] at hp
    rcases hp with rfl | rfl | rfl | rfl | rfl | rfl | rfl | rfl | rfl | rfl | rfl
    · exact (.of (.nil _) (.nil _) (.nil _))
    · exact (.of (hb21.mono (le_5.trans (le_6.trans (le_7.trans (le_8.trans (le_9.trans (le_11.trans (hleU.trans hle9)))))))) (.nil _) (.nil _))
    · exact (.of (hb30.mono (le_6.trans (le_7.trans (le_8.trans (le_9.trans (le_11.trans (hleU.trans hle9))))))) (.nil _) (.nil _))
    · exact (.of (hb39.mono (le_7.trans (le_8.trans (le_9.trans (le_11.trans (hleU.trans hle9)))))) (.nil _) (.nil _))
    · exact (.of (hb48.mono (le_8.trans (le_9.trans (le_11.trans (hleU.trans hle9))))) (.nil _) (.nil _))
    · exact (.of (.nil _) (.nil _) (.nil _))
    · exact (.of (.nil _) (.nil _) (.nil _))
    · exact (.of (.nil _) (.nil _) (.nil _))
    · exact (.of (hb81.mono (le_9.trans (le_11.trans (hleU.trans hle9)))) (.nil _) (.nil _))
    · exact (hT90.mono (le_11.trans (hleU.trans hle9)))
    · exact (.of (.nil _) (.nil _) (.nil _))
  exact rC rfl Tryd.isAgg26 Tryd.sizeOf26 rfl .head rfl (le_4.trans (le_5.trans (le_6.trans (le_7.trans (le_8.trans (le_9.trans (le_11.trans (hleU.trans hle9)))))))) (fun _ _ h => h) ⟨rfl, ⟨none, 0, some ⟨b_2, 0, none⟩, 11, aU, cU⟩, rfl, .of (.nil _) hl9 (hU.mono hle9)⟩
end Go.Sx

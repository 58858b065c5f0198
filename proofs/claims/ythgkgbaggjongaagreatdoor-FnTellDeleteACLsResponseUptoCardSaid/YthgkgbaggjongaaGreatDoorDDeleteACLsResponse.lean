import Derived.Test.YthgkgbaggjongaaGreatDoorBDeleteACLsResponse
import Derived.Test.YthgkgbaggjongaaGreatDoorTB
import Derived.KernelRfl
set_option linter.unusedVariables false
set_option linter.unusedSimpArgs false
set_option maxRecDepth 100000
set_option maxHeartbeats 20000000
namespace Go.Sx
open Go.Proofs
def tl_DeleteACLsResponseResultMatchingACL (T : Tr) : Tr := .mk 0 [] false [(.mk (IntKind.i16.wrap (T.at 0).n) [] false [] []), (.mk 0 (sT (T.at 1)) (T.at 1).nul [] []), (.mk (IntKind.i8.wrap (T.at 2).n) [] false [] []), (.mk 0 (T.at 3).s false [] []), (.mk (IntKind.i8.wrap (T.at 4).n) [] false [] []), (.mk 0 (T.at 5).s false [] []), (.mk 0 (T.at 6).s false [] []), (.mk (IntKind.i8.wrap (T.at 7).n) [] false [] []), (.mk (IntKind.i8.wrap (T.at 8).n) [] false [] [])] T.u
theorem te_DeleteACLsResponseResultMatchingACL {H : Fz} {L : Own} {b o : Nat} {cs : List Value} {T : Tr} (hb : H.at b o cs) (hA : At_DeleteACLsResponseResultMatchingACL H T cs) (hf : Fits T) :
    Fn Tryz.prog 237 [.pointer (some ⟨b, o, none⟩)] H L (fun v H' L' => L = L' ∧ ∃ c : TC, v = .agg (c.cells (tl_DeleteACLsResponseResultMatchingACL T)).toArray ∧ TreeAt H' c (tl_DeleteACLsResponseResultMatchingACL T)) := by
  obtain ⟨p1, mt, rfl, h1, h2⟩ := hA
  refine Fn.mk Tryz.call237 Tryz.func237 rfl Tryz.ntmps237 rfl ?_
  refine sr ?_
  refine al Tryz.zeroValue37 rfl rfl (fun b_1 => ?_)
  refine nl ?_
  refine sr ?_
  refine mkC (m := 9) (zs := [.int .i64 0, .slice none 0 0, .bool false, .slice none 0 0, .slice none 0 0]) Tryz.underlying34 I37 rfl rfl rfl rfl rfl rfl (by decide) (by unfold maxLen; omega) rfl (fun b_2 => ?_)
  refine bd' S37 rfl rfl rfl ?_
  refine al Tryz.zeroValue37 rfl rfl (fun b_3 => ?_)
  refine sa Tryz.sizeOf37 rfl rfl rfl rfl rfl .head ?_
  refine nl ?_
  refine sq ?_
  refine rgD 9 (.keep (.keep (.keep .nil))) mixed ?_
  refine dT 0 rfl rfl rfl (by kernel_rfl) (fun _ _ _ h => h) (y_fa0 F37_3 rfl) (.keep (.keep (.keep .nil))) (Fz.le.refl _) ?_
  refine dT 1 rfl rfl rfl (by kernel_rfl) (fun _ _ _ h => h) (y_ld (Says.own .head) Tryz.isAgg34 rfl (Nat.zero_add _).symm rfl) (.keep (.keep (.keep .nil))) (Fz.le.refl _) ?_
  refine dT 2 rfl rfl rfl (by kernel_rfl) (fun _ _ _ h => h) (y_mv rfl) (.keep (.keep (.keep .nil))) (Fz.le.refl _) ?_
  refine dT 3 rfl rfl rfl (by kernel_rfl) (fun _ _ _ h => h) (y_nc rfl) (.keep (.keep (.keep .nil))) (Fz.le.refl _) ?_
  refine dT 4 rfl rfl rfl (by kernel_rfl) (fun _ _ _ h => h) (y_fa F257_0 rfl) (.keep (.keep (.keep .nil))) (Fz.le.refl _) ?_
  refine dT 5 rfl rfl rfl (by kernel_rfl) (fun _ _ _ h => h) (y_ld (j := 0) (Says.fz hb) Tryz.isAgg51 rfl (Nat.add_zero _).symm rfl) (.keep (.keep (.keep .nil))) (Fz.le.refl _) ?_
  refine dT 6 rfl rfl rfl (by kernel_rfl) (fun _ _ _ h => h) (y_cv Tryz.runUnderlying51 Tryz.runUnderlying2 rfl (i16_64 _)) (.keep (.keep (.keep .nil))) (Fz.le.refl _) ?_
  refine dT 7 rfl rfl rfl (by kernel_rfl) (fun _ _ _ h => h) (y_bd S37 rfl rfl) (.keep (.keep (.keep .nil))) (Fz.le.refl _) ?_
  refine dT 8 rfl rfl rfl (by kernel_rfl) (fun _ _ _ h => h) (y_ix2 (j := 0) Tryz.runUnderlying34 Tryz.sizeOf37 rfl rfl rfl rfl (by decide)) (.keep (.keep (.keep .nil))) (Fz.le.refl _) ?_
  refine dE 9 (by kernel_rfl) rfl ?_
  refine sa Tryz.sizeOf37 rfl rfl rfl rfl rfl (.tail .head) ?_
  refine dNk (by kernel_rfl) ?_
  refine dD (by kernel_rfl) ?_
  refine Nt ?_
  refine sq ?_
  refine rgD 8 (.keep (.keep (.keep .nil))) mixed ?_
  refine dT 0 rfl rfl rfl (by kernel_rfl) (fun _ _ _ h => h) (y_fa0 F37_3 rfl) (.keep (.keep (.keep .nil))) (Fz.le.refl _) ?_
  refine dT 1 rfl rfl rfl (by kernel_rfl) (fun _ _ _ h => h) (y_ld (Says.own .head) Tryz.isAgg34 rfl (Nat.zero_add _).symm rfl) (.keep (.keep (.keep .nil))) (Fz.le.refl _) ?_
  refine dT 2 rfl rfl rfl (by kernel_rfl) (fun _ _ _ h => h) (y_mv rfl) (.keep (.keep (.keep .nil))) (Fz.le.refl _) ?_
  refine dT 3 rfl rfl rfl (by kernel_rfl) (fun _ _ _ h => h) (y_nc rfl) (.keep (.keep (.keep .nil))) (Fz.le.refl _) ?_
  refine dT 4 rfl rfl rfl (by kernel_rfl) (fun _ _ _ h => h) (y_fa F257_1 rfl) (.keep (.keep (.keep .nil))) (Fz.le.refl _) ?_
  refine dT 5 rfl rfl rfl (by kernel_rfl) (fun _ _ _ h => h) (y_ld (j := 1) (Says.fz hb) Tryz.isAgg131 rfl rfl rfl) (.keep (.keep (.keep .nil))) (Fz.le.refl _) ?_
  refine dE 6 (by kernel_rfl) rfl ?_
  refine cl rfl rfl rfl (k_textTree h1 (hf.at 1)) rfl (fun v_ H1 L1 le_4 hR_ => ?_)
  obtain ⟨rfl, ct21, rfl, hT21⟩ := hR_
  refine dN (.keep (.keep (.keep .nil))) le_4 ?_
  refine dT 7 rfl rfl rfl (by kernel_rfl) (fun _ _ _ h => h) (y_ix2 (j := 1) Tryz.runUnderlying34 Tryz.sizeOf37 rfl rfl rfl rfl (by decide)) (.keep (.keep (.keep .nil))) le_4 ?_
  refine dE 8 (by kernel_rfl) rfl ?_
  refine sa Tryz.sizeOf37 rfl rfl rfl rfl rfl (.tail .head) ?_
  refine dNk (by kernel_rfl) ?_
  refine dD (by kernel_rfl) ?_
  refine Nt ?_
  refine sq ?_
  refine rgD 9 (.keep (.keep (.keep .nil))) mixed ?_
  refine dT 0 rfl rfl rfl (by kernel_rfl) (fun _ _ _ h => h) (y_fa0 F37_3 rfl) (.keep (.keep (.keep .nil))) (Fz.le.refl _) ?_
  refine dT 1 rfl rfl rfl (by kernel_rfl) (fun _ _ _ h => h) (y_ld (Says.own .head) Tryz.isAgg34 rfl (Nat.zero_add _).symm rfl) (.keep (.keep (.keep .nil))) (Fz.le.refl _) ?_
  refine dT 2 rfl rfl rfl (by kernel_rfl) (fun _ _ _ h => h) (y_mv rfl) (.keep (.keep (.keep .nil))) (Fz.le.refl _) ?_
  refine dT 3 rfl rfl rfl (by kernel_rfl) (fun _ _ _ h => h) (y_nc rfl) (.keep (.keep (.keep .nil))) (Fz.le.refl _) ?_
  refine dT 4 rfl rfl rfl (by kernel_rfl) (fun _ _ _ h => h) (y_fa F257_2 rfl) (.keep (.keep (.keep .nil))) (Fz.le.refl _) ?_
  refine dT 5 rfl rfl rfl (by kernel_rfl) (fun _ _ _ h => h) (y_ld (j := 2) (Says.fz (hb.mono le_4)) Tryz.isAgg252 rfl rfl rfl) (.keep (.keep (.keep .nil))) (Fz.le.refl _) ?_
  refine dT 6 rfl rfl rfl (by kernel_rfl) (fun _ _ _ h => h) (y_cv Tryz.runUnderlying252 Tryz.runUnderlying2 rfl (i8_64 _)) (.keep (.keep (.keep .nil))) (Fz.le.refl _) ?_
  refine dT 7 rfl rfl rfl (by kernel_rfl) (fun _ _ _ h => h) (y_bd S37 rfl rfl) (.keep (.keep (.keep .nil))) (Fz.le.refl _) ?_
  refine dT 8 rfl rfl rfl (by kernel_rfl) (fun _ _ _ h => h) (y_ix2 (j := 2) Tryz.runUnderlying34 Tryz.sizeOf37 rfl rfl rfl rfl (by decide)) (.keep (.keep (.keep .nil))) (Fz.le.refl _) ?_
  refine dE 9 (by kernel_rfl) rfl ?_
  refine sa Tryz.sizeOf37 rfl rfl rfl rfl rfl (.tail .head) ?_
  refine dNk (by kernel_rfl) ?_
  refine dD (by kernel_rfl) ?_
  refine Nt ?_
  refine sq ?_
  refine rgD 9 (.keep (.keep (.keep .nil))) mixed ?_
  refine dT 0 rfl rfl rfl (by kernel_rfl) (fun _ _ _ h => h) (y_fa0 F37_3 rfl) (.keep (.keep (.keep .nil))) (Fz.le.refl _) ?_
  refine dT 1 rfl rfl rfl (by kernel_rfl) (fun _ _ _ h => h) (y_ld (Says.own .head) Tryz.isAgg34 rfl (Nat.zero_add _).symm rfl) (.keep (.keep (.keep .nil))) (Fz.le.refl _) ?_
  refine dT 2 rfl rfl rfl (by kernel_rfl) (fun _ _ _ h => h) (y_mv rfl) (.keep (.keep (.keep .nil))) (Fz.le.refl _) ?_
  refine dT 3 rfl rfl rfl (by kernel_rfl) (fun _ _ _ h => h) (y_nc rfl) (.keep (.keep (.keep .nil))) (Fz.le.refl _) ?_
  refine dT 4 rfl rfl rfl (by kernel_rfl) (fun _ _ _ h => h) (y_fa F257_3 rfl) (.keep (.keep (.keep .nil))) (Fz.le.refl _) ?_
  refine dT 5 rfl rfl rfl (by kernel_rfl) (fun _ _ _ h => h) (y_ld (j := 3) (Says.fz (hb.mono le_4)) Tryz.isAgg9 rfl rfl rfl) (.keep (.keep (.keep .nil))) (Fz.le.refl _) ?_
  refine dE 6 (by kernel_rfl) rfl ?_
  refine csb Tryz.underlying9 Tryz.underlying22 Tryz.underlying5 rfl (by have := (hf.at 3).s; unfold B47; omega) rfl (fun Hb38 b38 cp38 le_5 hb38 => ?_)
  refine dN (.keep (.keep (.keep .nil))) le_5 ?_
  refine dT 7 rfl rfl rfl (by kernel_rfl) (fun _ _ _ h => h) (y_bd S37 rfl rfl) (.keep (.keep (.keep .nil))) le_5 ?_
  refine dT 8 rfl rfl rfl (by kernel_rfl) (fun _ _ _ h => h) (y_ix2 (j := 3) Tryz.runUnderlying34 Tryz.sizeOf37 rfl rfl rfl rfl (by decide)) (.keep (.keep (.keep .nil))) le_5 ?_
  refine dE 9 (by kernel_rfl) rfl ?_
  refine sa Tryz.sizeOf37 rfl rfl rfl rfl rfl (.tail .head) ?_
  refine dNk (by kernel_rfl) ?_
  refine dD (by kernel_rfl) ?_
  refine Nt ?_
  refine sq ?_
  refine rgD 9 (.keep (.keep (.keep .nil))) mixed ?_
  refine dT 0 rfl rfl rfl (by kernel_rfl) (fun _ _ _ h => h) (y_fa0 F37_3 rfl) (.keep (.keep (.keep .nil))) (Fz.le.refl _) ?_
  refine dT 1 rfl rfl rfl (by kernel_rfl) (fun _ _ _ h => h) (y_ld (Says.own .head) Tryz.isAgg34 rfl (Nat.zero_add _).symm rfl) (.keep (.keep (.keep .nil))) (Fz.le.refl _) ?_
  refine dT 2 rfl rfl rfl (by kernel_rfl) (fun _ _ _ h => h) (y_mv rfl) (.keep (.keep (.keep .nil))) (Fz.le.refl _) ?_
  refine dT 3 rfl rfl rfl (by kernel_rfl) (fun _ _ _ h => h) (y_nc rfl) (.keep (.keep (.keep .nil))) (Fz.le.refl _) ?_
  refine dT 4 rfl rfl rfl (by kernel_rfl) (fun _ _ _ h => h) (y_fa F257_4 rfl) (.keep (.keep (.keep .nil))) (Fz.le.refl _) ?_
  refine dT 5 rfl rfl rfl (by kernel_rfl) (fun _ _ _ h => h) (y_ld (j := 4) (Says.fz (hb.mono (le_4.trans le_5))) Tryz.isAgg253 rfl rfl rfl) (.keep (.keep (.keep .nil))) (Fz.le.refl _) ?_
  refine dT 6 rfl rfl rfl (by kernel_rfl) (fun _ _ _ h => h) (y_cv Tryz.runUnderlying253 Tryz.runUnderlying2 rfl (i8_64 _)) (.keep (.keep (.keep .nil))) (Fz.le.refl _) ?_
  refine dT 7 rfl rfl rfl (by kernel_rfl) (fun _ _ _ h => h) (y_bd S37 rfl rfl) (.keep (.keep (.keep .nil))) (Fz.le.refl _) ?_
  refine dT 8 rfl rfl rfl (by kernel_rfl) (fun _ _ _ h => h) (y_ix2 (j := 4) Tryz.runUnderlying34 Tryz.sizeOf37 rfl rfl rfl rfl (by decide)) (.keep (.keep (.keep .nil))) (Fz.le.refl _) ?_
  refine dE 9 (by kernel_rfl) rfl ?_
  refine sa Tryz.sizeOf37 rfl rfl rfl rfl rfl (.tail .head) ?_
  refine dNk (by kernel_rfl) ?_
  refine dD (by kernel_rfl) ?_
  refine Nt ?_
  refine sq ?_
  refine rgD 9 (.keep (.keep (.keep .nil))) mixed ?_
  refine dT 0 rfl rfl rfl (by kernel_rfl) (fun _ _ _ h => h) (y_fa0 F37_3 rfl) (.keep (.keep (.keep .nil))) (Fz.le.refl _) ?_
  refine dT 1 rfl rfl rfl (by kernel_rfl) (fun _ _ _ h => h) (y_ld (Says.own .head) Tryz.isAgg34 rfl (Nat.zero_add _).symm rfl) (.keep (.keep (.keep .nil))) (Fz.le.refl _) ?_
  refine dT 2 rfl rfl rfl (by kernel_rfl) (fun _ _ _ h => h) (y_mv rfl) (.keep (.keep (.keep .nil))) (Fz.le.refl _) ?_
  refine dT 3 rfl rfl rfl (by kernel_rfl) (fun _ _ _ h => h) (y_nc rfl) (.keep (.keep (.keep .nil))) (Fz.le.refl _) ?_
  refine dT 4 rfl rfl rfl (by kernel_rfl) (fun _ _ _ h => h) (y_fa F257_5 rfl) (.keep (.keep (.keep .nil))) (Fz.le.refl _) ?_
  refine dT 5 rfl rfl rfl (by kernel_rfl) (fun _ _ _ h => h) (y_ld (j := 5) (Says.fz (hb.mono (le_4.trans le_5))) Tryz.isAgg9 rfl rfl rfl) (.keep (.keep (.keep .nil))) (Fz.le.refl _) ?_
  refine dE 6 (by kernel_rfl) rfl ?_
  refine csb Tryz.underlying9 Tryz.underlying22 Tryz.underlying5 rfl (by have := (hf.at 5).s; unfold B47; omega) rfl (fun Hb56 b56 cp56 le_6 hb56 => ?_)
  refine dN (.keep (.keep (.keep .nil))) le_6 ?_
  refine dT 7 rfl rfl rfl (by kernel_rfl) (fun _ _ _ h => h) (y_bd S37 rfl rfl) (.keep (.keep (.keep .nil))) le_6 ?_
  refine dT 8 rfl rfl rfl (by kernel_rfl) (fun _ _ _ h => h) (y_ix2 (j := 5) Tryz.runUnderlying34 Tryz.sizeOf37 rfl rfl rfl rfl (by decide)) (.keep (.keep (.keep .nil))) le_6 ?_
  refine dE 9 (by kernel_rfl) rfl ?_
  refine sa Tryz.sizeOf37 rfl rfl rfl rfl rfl (.tail .head) ?_
  refine dNk (by kernel_rfl) ?_
  refine dD (by kernel_rfl) ?_
  refine Nt ?_
  refine sq ?_
  refine rgD 9 (.keep (.keep (.keep .nil))) mixed ?_
  refine dT 0 rfl rfl rfl (by kernel_rfl) (fun _ _ _ h => h) (y_fa0 F37_3 rfl) (.keep (.keep (.keep .nil))) (Fz.le.refl _) ?_
  refine dT 1 rfl rfl rfl (by kernel_rfl) (fun _ _ _ h => h) (y_ld (Says.own .head) Tryz.isAgg34 rfl (Nat.zero_add _).symm rfl) (.keep (.keep (.keep .nil))) (Fz.le.refl _) ?_
  refine dT 2 rfl rfl rfl (by kernel_rfl) (fun _ _ _ h => h) (y_mv rfl) (.keep (.keep (.keep .nil))) (Fz.le.refl _) ?_
  refine dT 3 rfl rfl rfl (by kernel_rfl) (fun _ _ _ h => h) (y_nc rfl) (.keep (.keep (.keep .nil))) (Fz.le.refl _) ?_
  refine dT 4 rfl rfl rfl (by kernel_rfl) (fun _ _ _ h => h) (y_fa F257_6 rfl) (.keep (.keep (.keep .nil))) (Fz.le.refl _) ?_
  refine dT 5 rfl rfl rfl (by kernel_rfl) (fun _ _ _ h => h) (y_ld (j := 6) (Says.fz (hb.mono (le_4.trans (le_5.trans le_6)))) Tryz.isAgg9 rfl rfl rfl) (.keep (.keep (.keep .nil))) (Fz.le.refl _) ?_
  refine dE 6 (by kernel_rfl) rfl ?_
  refine csb Tryz.underlying9 Tryz.underlying22 Tryz.underlying5 rfl (by have := (hf.at 6).s; unfold B47; omega) rfl (fun Hb65 b65 cp65 le_7 hb65 => ?_)
  refine dN (.keep (.keep (.keep .nil))) le_7 ?_
  refine dT 7 rfl rfl rfl (by kernel_rfl) (fun _ _ _ h => h) (y_bd S37 rfl rfl) (.keep (.keep (.keep .nil))) le_7 ?_
  refine dT 8 rfl rfl rfl (by kernel_rfl) (fun _ _ _ h => h) (y_ix2 (j := 6) Tryz.runUnderlying34 Tryz.sizeOf37 rfl rfl rfl rfl (by decide)) (.keep (.keep (.keep .nil))) le_7 ?_
  refine dE 9 (by kernel_rfl) rfl ?_
  refine sa Tryz.sizeOf37 rfl rfl rfl rfl rfl (.tail .head) ?_
  refine dNk (by kernel_rfl) ?_
  refine dD (by kernel_rfl) ?_
  refine Nt ?_
  refine sq ?_
  refine rgD 9 (.keep (.keep (.keep .nil))) mixed ?_
  refine dT 0 rfl rfl rfl (by kernel_rfl) (fun _ _ _ h => h) (y_fa0 F37_3 rfl) (.keep (.keep (.keep .nil))) (Fz.le.refl _) ?_
  refine dT 1 rfl rfl rfl (by kernel_rfl) (fun _ _ _ h => h) (y_ld (Says.own .head) Tryz.isAgg34 rfl (Nat.zero_add _).symm rfl) (.keep (.keep (.keep .nil))) (Fz.le.refl _) ?_
  refine dT 2 rfl rfl rfl (by kernel_rfl) (fun _ _ _ h => h) (y_mv rfl) (.keep (.keep (.keep .nil))) (Fz.le.refl _) ?_
  refine dT 3 rfl rfl rfl (by kernel_rfl) (fun _ _ _ h => h) (y_nc rfl) (.keep (.keep (.keep .nil))) (Fz.le.refl _) ?_
  refine dT 4 rfl rfl rfl (by kernel_rfl) (fun _ _ _ h => h) (y_fa F257_7 rfl) (.keep (.keep (.keep .nil))) (Fz.le.refl _) ?_
  refine dT 5 rfl rfl rfl (by kernel_rfl) (fun _ _ _ h => h) (y_ld (j := 7) (Says.fz (hb.mono (le_4.trans (le_5.trans (le_6.trans le_7))))) Tryz.isAgg254 rfl rfl rfl) (.keep (.keep (.keep .nil))) (Fz.le.refl _) ?_
  refine dT 6 rfl rfl rfl (by kernel_rfl) (fun _ _ _ h => h) (y_cv Tryz.runUnderlying254 Tryz.runUnderlying2 rfl (i8_64 _)) (.keep (.keep (.keep .nil))) (Fz.le.refl _) ?_
  refine dT 7 rfl rfl rfl (by kernel_rfl) (fun _ _ _ h => h) (y_bd S37 rfl rfl) (.keep (.keep (.keep .nil))) (Fz.le.refl _) ?_
  refine dT 8 rfl rfl rfl (by kernel_rfl) (fun _ _ _ h => h) (y_ix2 (j := 7) Tryz.runUnderlying34 Tryz.sizeOf37 rfl rfl rfl rfl (by decide)) (.keep (.keep (.keep .nil))) (Fz.le.refl _) ?_
  refine dE 9 (by kernel_rfl) rfl ?_
  refine sa Tryz.sizeOf37 rfl rfl rfl rfl rfl (.tail .head) ?_
  refine dNk (by kernel_rfl) ?_
  refine dD (by kernel_rfl) ?_
  refine Nt ?_
  refine sq ?_
  refine rgD 9 (.keep (.keep (.keep .nil))) mixed ?_
  refine dT 0 rfl rfl rfl (by kernel_rfl) (fun _ _ _ h => h) (y_fa0 F37_3 rfl) (.keep (.keep (.keep .nil))) (Fz.le.refl _) ?_
  refine dT 1 rfl rfl rfl (by kernel_rfl) (fun _ _ _ h => h) (y_ld (Says.own .head) Tryz.isAgg34 rfl (Nat.zero_add _).symm rfl) (.keep (.keep (.keep .nil))) (Fz.le.refl _) ?_
  refine dT 2 rfl rfl rfl (by kernel_rfl) (fun _ _ _ h => h) (y_mv rfl) (.keep (.keep (.keep .nil))) (Fz.le.refl _) ?_
  refine dT 3 rfl rfl rfl (by kernel_rfl) (fun _ _ _ h => h) (y_nc rfl) (.keep (.keep (.keep .nil))) (Fz.le.refl _) ?_
  refine dT 4 rfl rfl rfl (by kernel_rfl) (fun _ _ _ h => h) (y_fa F257_8 rfl) (.keep (.keep (.keep .nil))) (Fz.le.refl _) ?_
  refine dT 5 rfl rfl rfl (by kernel_rfl) (fun _ _ _ h => h) (y_ld (j := 8) (Says.fz (hb.mono (le_4.trans (le_5.trans (le_6.trans le_7))))) Tryz.isAgg255 rfl rfl rfl) (.keep (.keep (.keep .nil))) (Fz.le.refl _) ?_
  refine dT 6 rfl rfl rfl (by kernel_rfl) (fun _ _ _ h => h) (y_cv Tryz.runUnderlying255 Tryz.runUnderlying2 rfl (i8_64 _)) (.keep (.keep (.keep .nil))) (Fz.le.refl _) ?_
  refine dT 7 rfl rfl rfl (by kernel_rfl) (fun _ _ _ h => h) (y_bd S37 rfl rfl) (.keep (.keep (.keep .nil))) (Fz.le.refl _) ?_
  refine dT 8 rfl rfl rfl (by kernel_rfl) (fun _ _ _ h => h) (y_ix2 (j := 8) Tryz.runUnderlying34 Tryz.sizeOf37 rfl rfl rfl rfl (by decide)) (.keep (.keep (.keep .nil))) (Fz.le.refl _) ?_
  refine dE 9 (by kernel_rfl) rfl ?_
  refine sa Tryz.sizeOf37 rfl rfl rfl rfl rfl (.tail .head) ?_
  refine dNk (by kernel_rfl) ?_
  refine dD (by kernel_rfl) ?_
  refine Nt ?_
  refine sr ?_
  refine mv rfl rfl ?_
  refine nc rfl rfl ?_
  refine fa F257_9 rfl rfl ?_
  refine mkf rfl rfl ?_
  have hkv_ := (h2.mono (le_4.trans (le_5.trans (le_6.trans le_7))))
  obtain ⟨kvs, hM, hlen, hel⟩ := hkv_
  have hfu := hf.u
  refine cl rfl rfl rfl (t_each (j := 9) (I := fun i H1 Y => TgI 72 b_3 37 (.int .i64 0) (.slice none 0 0) (.bool false) (_) T.u i H1 Y) (hb.mono (le_4.trans (le_5.trans (le_6.trans le_7)))) rfl hM (by omega) (fun i H1 H2 Y hle h => h.mono hle) TgI.start (fun i k v H1 Y L1 hi hle hI => ?_)) rfl (fun v_ H1 L1 le_9 hR_ => ?_)
  · obtain ⟨s, h1, ⟨va, vc, rfl, hx⟩, h2, h3⟩ := hel i k v hi
    have hik := sortKv_lt hi
    exact TgI.step (fun {_ _ _ _ _ _ _ _ _ _ _ _ _ _ _ _} => tc_304) hf.v (by omega) h1 (hx.mono hle) h2 h3 hI
  rw [hlen] at hR_
  obtain ⟨_, rfl, aU, cU, NU, esU, rfl, hrU, heU, hgU⟩ := hR_
  refine splL ?_
  rw [List.take_length] at heU
  refine frL hrU (.tail .head) (fun HU hleU hzU => ?_)
  have hU := (TagsAt.told hzU hrU heU hfu (fun p hp => (hgU p hp).mono hleU)).1
  refine nl ?_
  refine sr ?_
  refine fa0 F37_4 rfl rfl ?_
  refine ld (Says.own .head) Tryz.isAgg35 rfl (Nat.zero_add _).symm rfl rfl ?_
  refine cl rfl rfl rfl (k_sorted hU (h2.mono (le_4.trans (le_5.trans (le_6.trans (le_7.trans (le_9.trans hleU)))))).rise) rfl (fun v_ H1 L1 hle_ hR_ => ?_)
  obtain ⟨rfl, rfl⟩ := hR_
  refine nl ?_
  refine sr ?_
  refine la (Says.own .head) Tryz.isAgg37 Tryz.sizeOf37 rfl (Nat.zero_add _).symm rfl rfl ?_
  refine sa Tryz.sizeOf37 rfl rfl rfl rfl rfl (.tail (.tail .head)) ?_
  refine nl ?_
  refine drW .head ?_
  refine frW (Row.whole (e := 37) (size := 5) (m := 9) (ds := [.int .i64 (IntKind.i16.wrap (T.at 0).n), .slice none 0 0, .bool false, .slice none 0 0, .slice none 0 0, .int .i64 0, .slice ct21.sa (sT (T.at 1)).length ct21.sc, .bool (T.at 1).nul, .slice ct21.la 0 ct21.lc, .slice ct21.ua 0 ct21.uc, .int .i64 (IntKind.i8.wrap (T.at 2).n), .slice none 0 0, .bool false, .slice none 0 0, .slice none 0 0, .int .i64 0, .slice (some ⟨b38, 0, none⟩) (T.at 3).s.length cp38, .bool false, .slice none 0 0, .slice none 0 0, .int .i64 (IntKind.i8.wrap (T.at 4).n), .slice none 0 0, .bool false, .slice none 0 0, .slice none 0 0, .int .i64 0, .slice (some ⟨b56, 0, none⟩) (T.at 5).s.length cp56, .bool false, .slice none 0 0, .slice none 0 0, .int .i64 0, .slice (some ⟨b65, 0, none⟩) (T.at 6).s.length cp65, .bool false, .slice none 0 0, .slice none 0 0, .int .i64 (IntKind.i8.wrap (T.at 7).n), .slice none 0 0, .bool false, .slice none 0 0, .slice none 0 0, .int .i64 (IntKind.i8.wrap (T.at 8).n), .slice none 0 0, .bool false, .slice none 0 0, .slice none 0 0]) rfl (by unfold maxLen; omega)) .head (fun H9 hle9 hz9 => ?_)
  have hrb : H9.at b_2 0 [.int .i64 (IntKind.i16.wrap (T.at 0).n), .slice none 0 0, .bool false, .slice none 0 0, .slice none 0 0, .int .i64 0, .slice ct21.sa (sT (T.at 1)).length ct21.sc, .bool (T.at 1).nul, .slice ct21.la 0 ct21.lc, .slice ct21.ua 0 ct21.uc, .int .i64 (IntKind.i8.wrap (T.at 2).n), .slice none 0 0, .bool false, .slice none 0 0, .slice none 0 0, .int .i64 0, .slice (some ⟨b38, 0, none⟩) (T.at 3).s.length cp38, .bool false, .slice none 0 0, .slice none 0 0, .int .i64 (IntKind.i8.wrap (T.at 4).n), .slice none 0 0, .bool false, .slice none 0 0, .slice none 0 0, .int .i64 0, .slice (some ⟨b56, 0, none⟩) (T.at 5).s.length cp56, .bool false, .slice none 0 0, .slice none 0 0, .int .i64 0, .slice (some ⟨b65, 0, none⟩) (T.at 6).s.length cp65, .bool false, .slice none 0 0, .slice none 0 0, .int .i64 (IntKind.i8.wrap (T.at 7).n), .slice none 0 0, .bool false, .slice none 0 0, .slice none 0 0, .int .i64 (IntKind.i8.wrap (T.at 8).n), .slice none 0 0, .bool false, .slice none 0 0, .slice none 0 0] := by
    rcases hz9 with ⟨h, _⟩ | ⟨g, h, h2⟩
    · cases h
    · cases h; exact h2
  have hrb2 : H9.at b_2 0 (([((TC.none : TC), (Tr.mk (IntKind.i16.wrap (T.at 0).n) [] false [] [] : Tr)), ((ct21 : TC), (Tr.mk 0 (sT (T.at 1)) (T.at 1).nul [] [] : Tr)), ((TC.none : TC), (Tr.mk (IntKind.i8.wrap (T.at 2).n) [] false [] [] : Tr)), ((⟨some ⟨b38, 0, none⟩, cp38, none, 0, none, 0⟩ : TC), (Tr.mk 0 (T.at 3).s false [] [] : Tr)), ((TC.none : TC), (Tr.mk (IntKind.i8.wrap (T.at 4).n) [] false [] [] : Tr)), ((⟨some ⟨b56, 0, none⟩, cp56, none, 0, none, 0⟩ : TC), (Tr.mk 0 (T.at 5).s false [] [] : Tr)), ((⟨some ⟨b65, 0, none⟩, cp65, none, 0, none, 0⟩ : TC), (Tr.mk 0 (T.at 6).s false [] [] : Tr)), ((TC.none : TC), (Tr.mk (IntKind.i8.wrap (T.at 7).n) [] false [] [] : Tr)), ((TC.none : TC), (Tr.mk (IntKind.i8.wrap (T.at 8).n) [] false [] [] : Tr))] : List EE).flatMap fun p => p.1.cells p.2) := by exact hrb
  have hl9 : TreesAt H9 (some ⟨b_2, 0, none⟩) 9 [(.mk (IntKind.i16.wrap (T.at 0).n) [] false [] []), (.mk 0 (sT (T.at 1)) (T.at 1).nul [] []), (.mk (IntKind.i8.wrap (T.at 2).n) [] false [] []), (.mk 0 (T.at 3).s false [] []), (.mk (IntKind.i8.wrap (T.at 4).n) [] false [] []), (.mk 0 (T.at 5).s false [] []), (.mk 0 (T.at 6).s false [] []), (.mk (IntKind.i8.wrap (T.at 7).n) [] false [] []), (.mk (IntKind.i8.wrap (T.at 8).n) [] false [] [])] := by
    refine TreesAt.row (es := [((TC.none : TC), (Tr.mk (IntKind.i16.wrap (T.at 0).n) [] false [] [] : Tr)), ((ct21 : TC), (Tr.mk 0 (sT (T.at 1)) (T.at 1).nul [] [] : Tr)), ((TC.none : TC), (Tr.mk (IntKind.i8.wrap (T.at 2).n) [] false [] [] : Tr)), ((⟨some ⟨b38, 0, none⟩, cp38, none, 0, none, 0⟩ : TC), (Tr.mk 0 (T.at 3).s false [] [] : Tr)), ((TC.none : TC), (Tr.mk (IntKind.i8.wrap (T.at 4).n) [] false [] [] : Tr)), ((⟨some ⟨b56, 0, none⟩, cp56, none, 0, none, 0⟩ : TC), (Tr.mk 0 (T.at 5).s false [] [] : Tr)), ((⟨some ⟨b65, 0, none⟩, cp65, none, 0, none, 0⟩ : TC), (Tr.mk 0 (T.at 6).s false [] [] : Tr)), ((TC.none : TC), (Tr.mk (IntKind.i8.wrap (T.at 7).n) [] false [] [] : Tr)), ((TC.none : TC), (Tr.mk (IntKind.i8.wrap (T.at 8).n) [] false [] [] : Tr))]) (.inr ⟨_, rfl, hrb2⟩) rfl (Nat.le_refl _) (Nat.le_of_ble_eq_true rfl) ?_
    intro p hp
    simp only [List.mem_cons, List.not_mem_nil, or_false] at hp
    rcases hp with rfl | rfl | rfl | rfl | rfl | rfl | rfl | rfl | rfl
    · exact (.of (.nil _) (.nil _) (.nil _))
    · exact (hT21.mono (le_5.trans (le_6.trans (le_7.trans (le_9.trans (hleU.trans hle9))))))
    · exact (.of (.nil _) (.nil _) (.nil _))
    · exact (.of (hb38.mono (le_6.trans (le_7.trans (le_9.trans (hleU.trans hle9))))) (.nil _) (.nil _))
    · exact (.of (.nil _) (.nil _) (.nil _))
    · exact (.of (hb56.mono (le_7.trans (le_9.trans (hleU.trans hle9)))) (.nil _) (.nil _))
    · exact (.of (hb65.mono (le_9.trans (hleU.trans hle9))) (.nil _) (.nil _))
    · exact (.of (.nil _) (.nil _) (.nil _))
    · exact (.of (.nil _) (.nil _) (.nil _))
  exact rC rfl Tryz.isAgg37 Tryz.sizeOf37 rfl .head rfl (le_4.trans (le_5.trans (le_6.trans (le_7.trans (le_9.trans (hleU.trans hle9)))))) (fun _ _ h => h) ⟨rfl, ⟨none, 0, some ⟨b_2, 0, none⟩, 9, aU, cU⟩, rfl, .of (.nil _) hl9 (hU.mono hle9)⟩
def tl_DeleteACLsResponseResult (T : Tr) : Tr := .mk 0 [] false [(.mk (IntKind.i16.wrap (T.at 0).n) [] false [] []), (.mk 0 (sT (T.at 1)) (T.at 1).nul [] []), (.mk 0 [] (T.at 2).nul ((lT (T.at 2)).map tl_DeleteACLsResponseResultMatchingACL) [])] T.u
theorem te_DeleteACLsResponseResult {H : Fz} {L : Own} {b o : Nat} {cs : List Value} {T : Tr} (hb : H.at b o cs) (hA : At_DeleteACLsResponseResult H T cs) (hf : Fits T) :
    Fn Tryz.prog 153 [.pointer (some ⟨b, o, none⟩)] H L (fun v H' L' => L = L' ∧ ∃ c : TC, v = .agg (c.cells (tl_DeleteACLsResponseResult T)).toArray ∧ TreeAt H' c (tl_DeleteACLsResponseResult T)) := by
  obtain ⟨p1, a2, c2, mt, rfl, h1, h2, h3⟩ := hA
  refine Fn.mk Tryz.call153 Tryz.func153 rfl Tryz.ntmps153 rfl ?_
  refine sr ?_
  refine al Tryz.zeroValue37 rfl rfl (fun b_1 => ?_)
  refine nl ?_
  refine sr ?_
  refine mkC (m := 3) (zs := [.int .i64 0, .slice none 0 0, .bool false, .slice none 0 0, .slice none 0 0]) Tryz.underlying34 I37 rfl rfl rfl rfl rfl rfl (by decide) (by unfold maxLen; omega) rfl (fun b_2 => ?_)
  refine bd' S37 rfl rfl rfl ?_
  refine al Tryz.zeroValue37 rfl rfl (fun b_3 => ?_)
  refine sa Tryz.sizeOf37 rfl rfl rfl rfl rfl .head ?_
  refine nl ?_
  refine sq ?_
  refine rgD 9 (.keep (.keep (.keep .nil))) mixed ?_
  refine dT 0 rfl rfl rfl (by kernel_rfl) (fun _ _ _ h => h) (y_fa0 F37_3 rfl) (.keep (.keep (.keep .nil))) (Fz.le.refl _) ?_
  refine dT 1 rfl rfl rfl (by kernel_rfl) (fun _ _ _ h => h) (y_ld (Says.own .head) Tryz.isAgg34 rfl (Nat.zero_add _).symm rfl) (.keep (.keep (.keep .nil))) (Fz.le.refl _) ?_
  refine dT 2 rfl rfl rfl (by kernel_rfl) (fun _ _ _ h => h) (y_mv rfl) (.keep (.keep (.keep .nil))) (Fz.le.refl _) ?_
  refine dT 3 rfl rfl rfl (by kernel_rfl) (fun _ _ _ h => h) (y_nc rfl) (.keep (.keep (.keep .nil))) (Fz.le.refl _) ?_
  refine dT 4 rfl rfl rfl (by kernel_rfl) (fun _ _ _ h => h) (y_fa F134_0 rfl) (.keep (.keep (.keep .nil))) (Fz.le.refl _) ?_
  refine dT 5 rfl rfl rfl (by kernel_rfl) (fun _ _ _ h => h) (y_ld (j := 0) (Says.fz hb) Tryz.isAgg51 rfl (Nat.add_zero _).symm rfl) (.keep (.keep (.keep .nil))) (Fz.le.refl _) ?_
  refine dT 6 rfl rfl rfl (by kernel_rfl) (fun _ _ _ h => h) (y_cv Tryz.runUnderlying51 Tryz.runUnderlying2 rfl (i16_64 _)) (.keep (.keep (.keep .nil))) (Fz.le.refl _) ?_
  refine dT 7 rfl rfl rfl (by kernel_rfl) (fun _ _ _ h => h) (y_bd S37 rfl rfl) (.keep (.keep (.keep .nil))) (Fz.le.refl _) ?_
  refine dT 8 rfl rfl rfl (by kernel_rfl) (fun _ _ _ h => h) (y_ix2 (j := 0) Tryz.runUnderlying34 Tryz.sizeOf37 rfl rfl rfl rfl (by decide)) (.keep (.keep (.keep .nil))) (Fz.le.refl _) ?_
  refine dE 9 (by kernel_rfl) rfl ?_
  refine sa Tryz.sizeOf37 rfl rfl rfl rfl rfl (.tail .head) ?_
  refine dNk (by kernel_rfl) ?_
  refine dD (by kernel_rfl) ?_
  refine Nt ?_
  refine sq ?_
  refine rgD 8 (.keep (.keep (.keep .nil))) mixed ?_
  refine dT 0 rfl rfl rfl (by kernel_rfl) (fun _ _ _ h => h) (y_fa0 F37_3 rfl) (.keep (.keep (.keep .nil))) (Fz.le.refl _) ?_
  refine dT 1 rfl rfl rfl (by kernel_rfl) (fun _ _ _ h => h) (y_ld (Says.own .head) Tryz.isAgg34 rfl (Nat.zero_add _).symm rfl) (.keep (.keep (.keep .nil))) (Fz.le.refl _) ?_
  refine dT 2 rfl rfl rfl (by kernel_rfl) (fun _ _ _ h => h) (y_mv rfl) (.keep (.keep (.keep .nil))) (Fz.le.refl _) ?_
  refine dT 3 rfl rfl rfl (by kernel_rfl) (fun _ _ _ h => h) (y_nc rfl) (.keep (.keep (.keep .nil))) (Fz.le.refl _) ?_
  refine dT 4 rfl rfl rfl (by kernel_rfl) (fun _ _ _ h => h) (y_fa F134_1 rfl) (.keep (.keep (.keep .nil))) (Fz.le.refl _) ?_
  refine dT 5 rfl rfl rfl (by kernel_rfl) (fun _ _ _ h => h) (y_ld (j := 1) (Says.fz hb) Tryz.isAgg131 rfl rfl rfl) (.keep (.keep (.keep .nil))) (Fz.le.refl _) ?_
  refine dE 6 (by kernel_rfl) rfl ?_
  refine cl rfl rfl rfl (k_textTree h1 (hf.at 1)) rfl (fun v_ H1 L1 le_4 hR_ => ?_)
  obtain ⟨rfl, ct22, rfl, hT22⟩ := hR_
  refine dN (.keep (.keep (.keep .nil))) le_4 ?_
  refine dT 7 rfl rfl rfl (by kernel_rfl) (fun _ _ _ h => h) (y_ix2 (j := 1) Tryz.runUnderlying34 Tryz.sizeOf37 rfl rfl rfl rfl (by decide)) (.keep (.keep (.keep .nil))) le_4 ?_
  refine dE 8 (by kernel_rfl) rfl ?_
  refine sa Tryz.sizeOf37 rfl rfl rfl rfl rfl (.tail .head) ?_
  refine dNk (by kernel_rfl) ?_
  refine dD (by kernel_rfl) ?_
  refine Nt ?_
  refine sq ?_
  refine rgD 9 (.keep (.keep (.keep .nil))) mixed ?_
  refine dT 0 rfl rfl rfl (by kernel_rfl) (fun _ _ _ h => h) (y_fa0 F37_3 rfl) (.keep (.keep (.keep .nil))) (Fz.le.refl _) ?_
  refine dT 1 rfl rfl rfl (by kernel_rfl) (fun _ _ _ h => h) (y_ld (Says.own .head) Tryz.isAgg34 rfl (Nat.zero_add _).symm rfl) (.keep (.keep (.keep .nil))) (Fz.le.refl _) ?_
  refine dT 2 rfl rfl rfl (by kernel_rfl) (fun _ _ _ h => h) (y_mv rfl) (.keep (.keep (.keep .nil))) (Fz.le.refl _) ?_
  refine dT 3 rfl rfl rfl (by kernel_rfl) (fun _ _ _ h => h) (y_nc rfl) (.keep (.keep (.keep .nil))) (Fz.le.refl _) ?_
  refine dT 4 rfl rfl rfl (by kernel_rfl) (fun _ _ _ h => h) (y_fa F134_2 rfl) (.keep (.keep (.keep .nil))) (Fz.le.refl _) ?_
  refine dT 5 rfl rfl rfl (by kernel_rfl) (fun _ _ _ h => h) (y_ld (j := 2) (Says.fz (hb.mono le_4)) Tryz.isAgg132 rfl rfl rfl) (.keep (.keep (.keep .nil))) (Fz.le.refl _) ?_
  refine dT 6 rfl rfl rfl (by kernel_rfl) (fun _ _ _ h => h) (y_esn Tryz.underlying132 rfl) (.keep (.keep (.keep .nil))) (Fz.le.refl _) ?_
  refine dE 7 (by kernel_rfl) rfl ?_
  refine ixk (j := 2) Tryz.runUnderlying34 Tryz.sizeOf37 rfl rfl rfl rfl (by decide) rfl ?_
  refine dN (.keep (.keep (.keep .nil))) (Fz.le.refl _) ?_
  refine dT 8 rfl rfl rfl (by kernel_rfl) (fun _ _ _ h => h) (y_fa F37_2 rfl) (.keep (.keep (.keep .nil))) (Fz.le.refl _) ?_
  refine dE 9 (by kernel_rfl) rfl ?_
  refine st Tryz.sizeOf4 rfl rfl rfl rfl (.tail .head) ?_
  refine dNk (by kernel_rfl) ?_
  refine dD (by kernel_rfl) ?_
  refine Nt ?_
  refine sq ?_
  refine sr ?_
  refine mv rfl rfl ?_
  refine nc rfl rfl ?_
  refine fa F134_2 rfl rfl ?_
  refine ld (Says.fz (hb.mono le_4)) Tryz.isAgg132 rfl rfl rfl rfl ?_
  refine ls Tryz.runUnderlying132 rfl rfl ?_
  refine mv rfl rfl ?_
  refine nl ?_
  have hlm2 := (hf.at 2).lTl
  refine nulC2 ?_
  refine fr ((lT (T.at 2)).length) (fun k2 l' H' L' => ∃ (al2 : Option Addr), ∃ (ml2 : Nat), ∃ (cl2 : Nat), ∃ (es2 : List EE), ∃ (Nl2 : Chunk), [(0, .pointer (some ⟨b, o, none⟩)), (2, .pointer (some ⟨b_1, 0, none⟩)), (3, .pointer (some ⟨b_3, 0, none⟩)), (37, .int .i64 ((lT (T.at 2)).length : Int))] = l' ∧ Nl2 :: [(b_3, .cells [.int .i64 0, .slice none 0 0, .bool false, _, .slice none 0 0].toArray 37 (0, 0))] :: [(b_2, .cells [.int .i64 (IntKind.i16.wrap (T.at 0).n), .slice none 0 0, .bool false, .slice none 0 0, .slice none 0 0, .int .i64 0, .slice ct22.sa (sT (T.at 1)).length ct22.sc, .bool (T.at 1).nul, .slice ct22.la 0 ct22.lc, .slice ct22.ua 0 ct22.uc, .int .i64 0, .slice none 0 0, .bool a2.isNone, .slice al2 ml2 cl2, .slice none 0 0].toArray 37 (0, 0))] :: [(b_1, .cells [.int .i64 0, .slice none 0 0, .bool false, .slice none 0 0, .slice none 0 0].toArray 37 (0, 0))] :: L = L' ∧ Row 37 5 al2 ml2 cl2 (es2.flatMap f5) Nl2 ∧ ml2 = es2.length ∧ es2.map (·.2) = ((lT (T.at 2)).take k2).map tl_DeleteACLsResponseResultMatchingACL ∧ (∀ p : EE, p ∈ es2 → TreeAt H' p.1 p.2)) [(0, .pointer (some ⟨b, o, none⟩)), (2, .pointer (some ⟨b_1, 0, none⟩)), (3, .pointer (some ⟨b_3, 0, none⟩)), (37, .int .i64 ((lT (T.at 2)).length : Int))] (fun k2 l' H' L' h => ?_) (by omega) rfl (.cons rfl (.cons rfl (.cons rfl (.cons rfl (.nil _))))) ⟨none, 0, 0, [], [], rfl, rfl, (Row.nil _ _), rfl, (by simp), (fun p hp => by cases hp)⟩ rfl rfl rfl rfl rfl (fun k2 l' H' L' hk2 le_5 hI => ?_) (fun l' H' L' le_6 hI => ?_)
  · obtain ⟨al2, ml2, cl2, es2, Nl2, rfl, _⟩ := h; exact ⟨rfl, rfl, rfl, rfl⟩
  · skip
    obtain ⟨al2, ml2, cl2, es2, Nl2, rfl, rfl, pk20, pk21, pk22, pk23⟩ := hI
    refine sr ?_
    refine mv rfl rfl ?_
    refine asg rfl rfl ?_
    refine nl ?_
    refine sq ?_
    refine rgD 4 .nil mixed ?_
    refine dE 0 (by kernel_rfl) rfl ?_
    refine al Tryz.zeroValue4 rfl rfl (fun b_7 => ?_)
    refine dN .nil (Fz.le.refl _) ?_
    refine dE2 1 2 (by kernel_rfl) rfl rfl ?_ ?_
    · skip
      refine st Tryz.sizeOf4 rfl rfl rfl rfl .head ?_
      refine dN .nil (Fz.le.refl _) ?_
      refine dE 2 (by kernel_rfl) rfl ?_
      refine st Tryz.sizeOf4 rfl rfl rfl rfl .head ?_
      refine dN .nil (Fz.le.refl _) ?_
      refine dE 3 (by kernel_rfl) rfl ?_
      refine ld (Says.own .head) Tryz.isAgg4 rfl (Nat.zero_add _).symm rfl rfl ?_
      refine dN .nil (Fz.le.refl _) ?_
      refine dD (by kernel_rfl) ?_
      refine drN .head ?_
      refine Nt ?_
      refine cF rfl ?_
      refine rgD 18 (.skip (.keep (.keep (.keep .nil)))) mixed ?_
      refine dT 0 rfl rfl rfl (by kernel_rfl) (fun _ _ _ h => h) (y_fa0 F37_3 rfl) (.skip (.keep (.keep (.keep .nil)))) (Fz.le.refl _) ?_
      refine dT 1 rfl rfl rfl (by kernel_rfl) (fun _ _ _ h => h) (y_ld (Says.own .head) Tryz.isAgg34 rfl (Nat.zero_add _).symm rfl) (.skip (.keep (.keep (.keep .nil)))) (Fz.le.refl _) ?_
      refine dT 2 rfl rfl rfl (by kernel_rfl) (fun _ _ _ h => h) (y_fa0 F37_3 rfl) (.skip (.keep (.keep (.keep .nil)))) (Fz.le.refl _) ?_
      refine dT 3 rfl rfl rfl (by kernel_rfl) (fun _ _ _ h => h) (y_ld (Says.own .head) Tryz.isAgg34 rfl (Nat.zero_add _).symm rfl) (.skip (.keep (.keep (.keep .nil)))) (Fz.le.refl _) ?_
      refine dT 4 rfl rfl rfl (by kernel_rfl) (fun _ _ _ h => h) (y_ix2 (j := 2) Tryz.runUnderlying34 Tryz.sizeOf37 rfl rfl rfl rfl (by decide)) (.skip (.keep (.keep (.keep .nil)))) (Fz.le.refl _) ?_
      refine dT 5 rfl rfl rfl (by kernel_rfl) (fun _ _ _ h => h) (y_fa F37_3 rfl) (.skip (.keep (.keep (.keep .nil)))) (Fz.le.refl _) ?_
      refine dT 6 rfl rfl rfl (by kernel_rfl) (fun _ _ _ h => h) (y_ld (Says.own (.tail .head)) Tryz.isAgg34 rfl (Nat.zero_add _).symm rfl) (.skip (.keep (.keep (.keep .nil)))) (Fz.le.refl _) ?_
      refine dT 7 rfl rfl rfl (by kernel_rfl) (fun _ _ _ h => h) (y_mv rfl) (.skip (.keep (.keep (.keep .nil)))) (Fz.le.refl _) ?_
      refine dT 8 rfl rfl rfl (by kernel_rfl) (fun _ _ _ h => h) (y_nc rfl) (.skip (.keep (.keep (.keep .nil)))) (Fz.le.refl _) ?_
      refine dT 9 rfl rfl rfl (by kernel_rfl) (fun _ _ _ h => h) (y_fa F134_2 rfl) (.skip (.keep (.keep (.keep .nil)))) (Fz.le.refl _) ?_
      refine dT 10 rfl rfl rfl (by kernel_rfl) (fun _ _ _ h => h) (y_ld (j := 2) (Says.fz (hb.mono (le_4.trans le_5))) Tryz.isAgg132 rfl rfl rfl) (.skip (.keep (.keep (.keep .nil)))) (Fz.le.refl _) ?_
      refine dT 11 rfl rfl rfl (by kernel_rfl) (fun _ _ _ h => h) (y_mv rfl) (.skip (.keep (.keep (.keep .nil)))) (Fz.le.refl _) ?_
      obtain ⟨beq_8, oeq_8, haq_8, hlq_8⟩ := ((h2.mono At_DeleteACLsResponseResultMatchingACL.mono (le_4.trans le_5))).rows.at_ (ne_nil_of_lt hk2)
      obtain ⟨ceq_8, hAq_8, hbq_8⟩ := hlq_8 k2 hk2
      refine dT 12 rfl rfl rfl (by kernel_rfl) (fun _ _ _ h => h) (y_ixk (j := k2) Tryz.runUnderlying132 Tryz.sizeOf257 rfl haq_8 rfl rfl hk2) (.skip (.keep (.keep (.keep .nil)))) (Fz.le.refl _) ?_
      refine dE 13 (by kernel_rfl) rfl ?_
      refine cl rfl rfl rfl (te_DeleteACLsResponseResultMatchingACL hbq_8 (At_DeleteACLsResponseResultMatchingACL.mono _ _ _ _ (Fz.le.refl _) hAq_8) ((hf.at 2).lTel (List.getElem_mem hk2))) rfl (fun v_ H1 L1 le_9 hR_ => ?_)
      obtain ⟨rfl, ct74, rfl, hT74⟩ := hR_
      refine dN (.skip (.keep (.keep (.keep .nil)))) le_9 ?_
      refine dE 14 (by kernel_rfl) rfl ?_
      refine bs' L34 rfl rfl rfl rfl (fun b_10 => ?_)
      refine dN (.skip (.skip (.keep (.keep (.keep .nil))))) le_9 ?_
      refine dE 15 (by kernel_rfl) rfl ?_
      have hmk : ml2 = k2 := by have h1 := congrArg List.length pk22; rw [List.length_map, List.length_map, List.length_take] at h1; omega
      have hmb := (hf.at 2).lTl
      refine ap (k := 1) (news := f5 ((ct74, tl_DeleteACLsResponseResultMatchingACL (lT (T.at 2))[k2]) : EE)) Tryz.underlying34 I37 rfl rfl pk20 (fun _ => (.tail .head)) (src_says Tryz.underlying34 rfl (fun _ => Says.own .head) (f5_one _)) (by omega) (by unfold maxLen; omega) rfl (fun a76 c76 N76 r76 z76 => ?_)
      rw [flatMap_snoc'] at r76
      refine dN (.skip (.skip (.keep (.keep (.keep .nil))))) le_9 ?_
      refine dE 16 (by kernel_rfl) rfl ?_
      refine ixk (j := 2) Tryz.runUnderlying34 Tryz.sizeOf37 rfl rfl rfl rfl (by decide) rfl ?_
      refine dN (.skip (.skip (.keep (.keep (.keep .nil))))) le_9 ?_
      refine dT 17 rfl rfl rfl (by kernel_rfl) (fun _ _ _ h => h) (y_fa F37_3 rfl) (.skip (.skip (.keep (.keep (.keep .nil))))) le_9 ?_
      refine dE 18 (by kernel_rfl) rfl ?_
      refine st Tryz.sizeOf34 rfl rfl rfl rfl (.tail (.tail (.tail .head))) ?_
      refine dNk (by kernel_rfl) ?_
      refine dD (by kernel_rfl) ?_
      refine Nb ?_
      refine drN .head ?_
      refine fun a_ w_ hA hw => ⟨_, _, _, hA.sub ?_, (le_5.trans le_9), hw, _, rfl, a76, (ml2 + 1), c76, (es2 ++ [((ct74, tl_DeleteACLsResponseResultMatchingACL (lT (T.at 2))[k2]) : EE)]), N76, rfl, rfl, r76, (by simp; omega), (map_take_snoc (g := tl_DeleteACLsResponseResultMatchingACL) hk2 pk22), (fun p hp => (mem_snoc hp).elim (fun h => (pk23 p h).mono le_9) (fun h => h ▸ hT74))⟩
      exact (.cons rfl (.cons rfl (.cons rfl (.cons rfl (.cons rfl (.nil _))))))
    · skip
      refine st Tryz.sizeOf4 rfl rfl rfl rfl .head ?_
      refine dN .nil (Fz.le.refl _) ?_
      refine dE 1 (by kernel_rfl) rfl ?_
      refine st Tryz.sizeOf4 rfl rfl rfl rfl .head ?_
      refine dN .nil (Fz.le.refl _) ?_
      refine dE 3 (by kernel_rfl) rfl ?_
      refine ld (Says.own .head) Tryz.isAgg4 rfl (Nat.zero_add _).symm rfl rfl ?_
      refine dN .nil (Fz.le.refl _) ?_
      refine dD (by kernel_rfl) ?_
      refine drN .head ?_
      refine Nt ?_
      refine cT rfl ?_
      refine sq ?_
      refine rgD 17 (.skip (.keep (.keep (.keep .nil)))) mixed ?_
      refine dT 0 rfl rfl rfl (by kernel_rfl) (fun _ _ _ h => h) (y_fa0 F37_3 rfl) (.skip (.keep (.keep (.keep .nil)))) (Fz.le.refl _) ?_
      refine dT 1 rfl rfl rfl (by kernel_rfl) (fun _ _ _ h => h) (y_ld (Says.own .head) Tryz.isAgg34 rfl (Nat.zero_add _).symm rfl) (.skip (.keep (.keep (.keep .nil)))) (Fz.le.refl _) ?_
      refine dT 2 rfl rfl rfl (by kernel_rfl) (fun _ _ _ h => h) (y_ix2 (j := 2) Tryz.runUnderlying34 Tryz.sizeOf37 rfl rfl rfl rfl (by decide)) (.skip (.keep (.keep (.keep .nil)))) (Fz.le.refl _) ?_
      refine dT 3 rfl rfl rfl (by kernel_rfl) (fun _ _ _ h => h) (y_fa F37_3 rfl) (.skip (.keep (.keep (.keep .nil)))) (Fz.le.refl _) ?_
      refine dT 4 rfl rfl rfl (by kernel_rfl) (fun _ _ _ h => h) (y_ld (Says.own (.tail .head)) Tryz.isAgg34 rfl (Nat.zero_add _).symm rfl) (.skip (.keep (.keep (.keep .nil)))) (Fz.le.refl _) ?_
      refine dT 5 rfl rfl rfl (by kernel_rfl) (fun _ _ _ h => h) (y_mv rfl) (.skip (.keep (.keep (.keep .nil)))) (Fz.le.refl _) ?_
      refine dT 6 rfl rfl rfl (by kernel_rfl) (fun _ _ _ h => h) (y_nc rfl) (.skip (.keep (.keep (.keep .nil)))) (Fz.le.refl _) ?_
      refine dT 7 rfl rfl rfl (by kernel_rfl) (fun _ _ _ h => h) (y_fa F134_2 rfl) (.skip (.keep (.keep (.keep .nil)))) (Fz.le.refl _) ?_
      refine dT 8 rfl rfl rfl (by kernel_rfl) (fun _ _ _ h => h) (y_ld (j := 2) (Says.fz (hb.mono (le_4.trans le_5))) Tryz.isAgg132 rfl rfl rfl) (.skip (.keep (.keep (.keep .nil)))) (Fz.le.refl _) ?_
      refine dT 9 rfl rfl rfl (by kernel_rfl) (fun _ _ _ h => h) (y_mv rfl) (.skip (.keep (.keep (.keep .nil)))) (Fz.le.refl _) ?_
      obtain ⟨beq_11, oeq_11, haq_11, hlq_11⟩ := ((h2.mono At_DeleteACLsResponseResultMatchingACL.mono (le_4.trans le_5))).rows.at_ (ne_nil_of_lt hk2)
      obtain ⟨ceq_11, hAq_11, hbq_11⟩ := hlq_11 k2 hk2
      refine dT 10 rfl rfl rfl (by kernel_rfl) (fun _ _ _ h => h) (y_ixk (j := k2) Tryz.runUnderlying132 Tryz.sizeOf257 rfl haq_11 rfl rfl hk2) (.skip (.keep (.keep (.keep .nil)))) (Fz.le.refl _) ?_
      refine dT 12 rfl rfl rfl (by kernel_rfl) (fun _ _ _ h => h) (y_ls Tryz.runUnderlying34 rfl) (.skip (.keep (.keep (.keep .nil)))) (Fz.le.refl _) ?_
      refine dE2 11 13 (by kernel_rfl) rfl rfl ?_ ?_
      · skip
        refine cl rfl rfl rfl (te_DeleteACLsResponseResultMatchingACL hbq_11 (At_DeleteACLsResponseResultMatchingACL.mono _ _ _ _ (Fz.le.refl _) hAq_11) ((hf.at 2).lTel (List.getElem_mem hk2))) rfl (fun v_ H1 L1 le_12 hR_ => ?_)
        obtain ⟨rfl, ct54, rfl, hT54⟩ := hR_
        refine dN (.skip (.keep (.keep (.keep .nil)))) le_12 ?_
        refine dE 13 (by kernel_rfl) rfl ?_
        refine bs' L34 rfl rfl rfl rfl (fun b_13 => ?_)
        refine dN (.skip (.skip (.keep (.keep (.keep .nil))))) le_12 ?_
        refine dE 14 (by kernel_rfl) rfl ?_
        have hmk : ml2 = k2 := by have h1 := congrArg List.length pk22; rw [List.length_map, List.length_map, List.length_take] at h1; omega
        have hmb := (hf.at 2).lTl
        refine ap (k := 1) (news := f5 ((TC.none, Tr.none) : EE)) Tryz.underlying34 I37 rfl rfl pk20 (fun _ => (.tail .head)) (src_says Tryz.underlying34 rfl (fun _ => Says.own .head) (f5_one _)) (by omega) (by unfold maxLen; omega) rfl (fun a57 c57 N57 r57 z57 => ?_)
        refine dN (.skip (.skip (.keep (.keep (.keep .nil))))) le_12 ?_
        refine dE 15 (by kernel_rfl) rfl ?_
        refine ixk (j := 2) Tryz.runUnderlying34 Tryz.sizeOf37 rfl rfl rfl rfl (by decide) rfl ?_
        refine dN (.skip (.skip (.keep (.keep (.keep .nil))))) le_12 ?_
        refine dT 16 rfl rfl rfl (by kernel_rfl) (fun _ _ _ h => h) (y_fa F37_3 rfl) (.skip (.skip (.keep (.keep (.keep .nil))))) le_12 ?_
        refine dE 17 (by kernel_rfl) rfl ?_
        refine st Tryz.sizeOf34 rfl rfl rfl rfl (.tail (.tail (.tail .head))) ?_
        refine dNk (by kernel_rfl) ?_
        refine dD (by kernel_rfl) ?_
        refine Nt ?_
        refine rg ?_
        obtain ⟨gg57, hgg57⟩ := r57.addr (by omega)
        refine ixk (j := ml2) Tryz.runUnderlying34 Tryz.sizeOf37 rfl hgg57 rfl rfl (by omega) rfl ?_
        refine sR (ds := f5 ((ct54, tl_DeleteACLsResponseResultMatchingACL (lT (T.at 2))[k2]) : EE)) r57 hgg57 (fun _ => (.tail .head)) Tryz.sizeOf37 rfl rfl rfl rfl (by omega) (fun N57b r57b => ?_)
        rw [row_put (k := 5) (m := ml2) (A := es2.flatMap f5) (by rw [flatMap_len f5 5 f5_len, pk21]) rfl, flatMap_snoc'] at r57b
        refine nN ?_
        refine Nb ?_
        refine drN .head ?_
        refine fun a_ w_ hA hw => ⟨_, _, _, hA.sub ?_, (le_5.trans le_12), hw, _, rfl, a57, (ml2 + 1), c57, (es2 ++ [((ct54, tl_DeleteACLsResponseResultMatchingACL (lT (T.at 2))[k2]) : EE)]), N57b, rfl, rfl, r57b, (by simp; omega), (map_take_snoc (g := tl_DeleteACLsResponseResultMatchingACL) hk2 pk22), (fun p hp => (mem_snoc hp).elim (fun h => (pk23 p h).mono le_12) (fun h => h ▸ hT54))⟩
        exact (.cons rfl (.cons rfl (.cons rfl (.cons rfl (.cons rfl (.nil _))))))
      · skip
        refine bs' L34 rfl rfl rfl rfl (fun b_14 => ?_)
        refine dN (.skip (.skip (.keep (.keep (.keep .nil))))) (Fz.le.refl _) ?_
        refine dE 11 (by kernel_rfl) rfl ?_
        refine cl rfl rfl rfl (te_DeleteACLsResponseResultMatchingACL hbq_11 (At_DeleteACLsResponseResultMatchingACL.mono _ _ _ _ (Fz.le.refl _) hAq_11) ((hf.at 2).lTel (List.getElem_mem hk2))) rfl (fun v_ H1 L1 le_15 hR_ => ?_)
        obtain ⟨rfl, ct54, rfl, hT54⟩ := hR_
        refine dN (.skip (.skip (.keep (.keep (.keep .nil))))) le_15 ?_
        refine dE 14 (by kernel_rfl) rfl ?_
        have hmk : ml2 = k2 := by have h1 := congrArg List.length pk22; rw [List.length_map, List.length_map, List.length_take] at h1; omega
        have hmb := (hf.at 2).lTl
        refine ap (k := 1) (news := f5 ((TC.none, Tr.none) : EE)) Tryz.underlying34 I37 rfl rfl pk20 (fun _ => (.tail .head)) (src_says Tryz.underlying34 rfl (fun _ => Says.own .head) (f5_one _)) (by omega) (by unfold maxLen; omega) rfl (fun a57 c57 N57 r57 z57 => ?_)
        refine dN (.skip (.skip (.keep (.keep (.keep .nil))))) le_15 ?_
        refine dE 15 (by kernel_rfl) rfl ?_
        refine ixk (j := 2) Tryz.runUnderlying34 Tryz.sizeOf37 rfl rfl rfl rfl (by decide) rfl ?_
        refine dN (.skip (.skip (.keep (.keep (.keep .nil))))) le_15 ?_
        refine dT 16 rfl rfl rfl (by kernel_rfl) (fun _ _ _ h => h) (y_fa F37_3 rfl) (.skip (.skip (.keep (.keep (.keep .nil))))) le_15 ?_
        refine dE 17 (by kernel_rfl) rfl ?_
        refine st Tryz.sizeOf34 rfl rfl rfl rfl (.tail (.tail (.tail .head))) ?_
        refine dNk (by kernel_rfl) ?_
        refine dD (by kernel_rfl) ?_
        refine Nt ?_
        refine rg ?_
        obtain ⟨gg57, hgg57⟩ := r57.addr (by omega)
        refine ixk (j := ml2) Tryz.runUnderlying34 Tryz.sizeOf37 rfl hgg57 rfl rfl (by omega) rfl ?_
        refine sR (ds := f5 ((ct54, tl_DeleteACLsResponseResultMatchingACL (lT (T.at 2))[k2]) : EE)) r57 hgg57 (fun _ => (.tail .head)) Tryz.sizeOf37 rfl rfl rfl rfl (by omega) (fun N57b r57b => ?_)
        rw [row_put (k := 5) (m := ml2) (A := es2.flatMap f5) (by rw [flatMap_len f5 5 f5_len, pk21]) rfl, flatMap_snoc'] at r57b
        refine nN ?_
        refine Nb ?_
        refine drN .head ?_
        refine fun a_ w_ hA hw => ⟨_, _, _, hA.sub ?_, (le_5.trans le_15), hw, _, rfl, a57, (ml2 + 1), c57, (es2 ++ [((ct54, tl_DeleteACLsResponseResultMatchingACL (lT (T.at 2))[k2]) : EE)]), N57b, rfl, rfl, r57b, (by simp; omega), (map_take_snoc (g := tl_DeleteACLsResponseResultMatchingACL) hk2 pk22), (fun p hp => (mem_snoc hp).elim (fun h => (pk23 p h).mono le_15) (fun h => h ▸ hT54))⟩
        exact (.cons rfl (.cons rfl (.cons rfl (.cons rfl (.cons rfl (.nil _))))))
  · skip
    obtain ⟨al2, ml2, cl2, es2, Nl2, rfl, rfl, pk20, pk21, pk22, pk23⟩ := hI
    refine toWp ?_
    have hes2 : es2.map (·.2) = (lT (T.at 2)).map tl_DeleteACLsResponseResultMatchingACL := by rw [pk22, List.take_length]
    have hm2 : ml2 = ((lT (T.at 2)).map tl_DeleteACLsResponseResultMatchingACL).length := by rw [← hes2, List.length_map]; exact pk21
    refine frW pk20 .head (fun Hl2 hll2 hzl2 => ?_)
    have ht2 := TreesAt.row hzl2 pk21 pk20.le.1 (by have h1 := congrArg List.length hes2; rw [List.length_map, List.length_map] at h1; unfold B47; omega) (fun p hp => (pk23 p hp).mono hll2)
    rw [hes2] at ht2
    subst hm2
    refine sr ?_
    refine mv rfl rfl ?_
    refine nc rfl rfl ?_
    refine fa F134_3 rfl rfl ?_
    refine mkf rfl rfl ?_
    have hkv_ := (h3.mono (le_4.trans (le_6.trans hll2)))
    obtain ⟨kvs, hM, hlen, hel⟩ := hkv_
    have hfu := hf.u
    refine cl rfl rfl rfl (t_each (j := 3) (I := fun i H1 Y => TgI 72 b_3 37 (.int .i64 0) (.slice none 0 0) (.bool false) (_) T.u i H1 Y) (hb.mono (le_4.trans (le_6.trans hll2))) rfl hM (by omega) (fun i H1 H2 Y hle h => h.mono hle) TgI.start (fun i k v H1 Y L1 hi hle hI => ?_)) rfl (fun v_ H1 L1 le_17 hR_ => ?_)
    · obtain ⟨s, h1, ⟨va, vc, rfl, hx⟩, h2, h3⟩ := hel i k v hi
      have hik := sortKv_lt hi
      exact TgI.step (fun {_ _ _ _ _ _ _ _ _ _ _ _ _ _ _ _} => tc_238) hf.v (by omega) h1 (hx.mono hle) h2 h3 hI
    rw [hlen] at hR_
    obtain ⟨_, rfl, aU, cU, NU, esU, rfl, hrU, heU, hgU⟩ := hR_
    refine splL ?_
    rw [List.take_length] at heU
    refine frL hrU (.tail .head) (fun HU hleU hzU => ?_)
    have hU := (TagsAt.told hzU hrU heU hfu (fun p hp => (hgU p hp).mono hleU)).1
    refine nl ?_
    refine sr ?_
    refine fa0 F37_4 rfl rfl ?_
    refine ld (Says.own .head) Tryz.isAgg35 rfl (Nat.zero_add _).symm rfl rfl ?_
    refine cl rfl rfl rfl (k_sorted hU (h3.mono (le_4.trans (le_6.trans (hll2.trans (le_17.trans hleU))))).rise) rfl (fun v_ H1 L1 hle_ hR_ => ?_)
    obtain ⟨rfl, rfl⟩ := hR_
    refine nl ?_
    refine sr ?_
    refine la (Says.own .head) Tryz.isAgg37 Tryz.sizeOf37 rfl (Nat.zero_add _).symm rfl rfl ?_
    refine sa Tryz.sizeOf37 rfl rfl rfl rfl rfl (.tail (.tail .head)) ?_
    refine nl ?_
    refine drW .head ?_
    refine frW (Row.whole (e := 37) (size := 5) (m := 3) (ds := [.int .i64 (IntKind.i16.wrap (T.at 0).n), .slice none 0 0, .bool false, .slice none 0 0, .slice none 0 0, .int .i64 0, .slice ct22.sa (sT (T.at 1)).length ct22.sc, .bool (T.at 1).nul, .slice ct22.la 0 ct22.lc, .slice ct22.ua 0 ct22.uc, .int .i64 0, .slice none 0 0, .bool a2.isNone, .slice al2 ((lT (T.at 2)).map tl_DeleteACLsResponseResultMatchingACL).length cl2, .slice none 0 0]) rfl (by unfold maxLen; omega)) .head (fun H9 hle9 hz9 => ?_)
    have hrb : H9.at b_2 0 [.int .i64 (IntKind.i16.wrap (T.at 0).n), .slice none 0 0, .bool false, .slice none 0 0, .slice none 0 0, .int .i64 0, .slice ct22.sa (sT (T.at 1)).length ct22.sc, .bool (T.at 1).nul, .slice ct22.la 0 ct22.lc, .slice ct22.ua 0 ct22.uc, .int .i64 0, .slice none 0 0, .bool a2.isNone, .slice al2 ((lT (T.at 2)).map tl_DeleteACLsResponseResultMatchingACL).length cl2, .slice none 0 0] := by
      rcases hz9 with ⟨h, _⟩ | ⟨g, h, h2⟩
      · cases h
      · cases h; exact h2
    rw [(h2).nul] at hrb
    have hrb2 : H9.at b_2 0 (([((TC.none : TC), (Tr.mk (IntKind.i16.wrap (T.at 0).n) [] false [] [] : Tr)), ((ct22 : TC), (Tr.mk 0 (sT (T.at 1)) (T.at 1).nul [] [] : Tr)), ((⟨none, 0, al2, cl2, none, 0⟩ : TC), (Tr.mk 0 [] (T.at 2).nul ((lT (T.at 2)).map tl_DeleteACLsResponseResultMatchingACL) [] : Tr))] : List EE).flatMap fun p => p.1.cells p.2) := by exact hrb
    have hl9 : TreesAt H9 (some ⟨b_2, 0, none⟩) 3 [(.mk (IntKind.i16.wrap (T.at 0).n) [] false [] []), (.mk 0 (sT (T.at 1)) (T.at 1).nul [] []), (.mk 0 [] (T.at 2).nul ((lT (T.at 2)).map tl_DeleteACLsResponseResultMatchingACL) [])] := by
      refine TreesAt.row (es := [((TC.none : TC), (Tr.mk (IntKind.i16.wrap (T.at 0).n) [] false [] [] : Tr)), ((ct22 : TC), (Tr.mk 0 (sT (T.at 1)) (T.at 1).nul [] [] : Tr)), ((⟨none, 0, al2, cl2, none, 0⟩ : TC), (Tr.mk 0 [] (T.at 2).nul ((lT (T.at 2)).map tl_DeleteACLsResponseResultMatchingACL) [] : Tr))]) (.inr ⟨_, rfl, hrb2⟩) rfl (Nat.le_refl _) (Nat.le_of_ble_eq_true rfl) ?_
      intro p hp
      simp only [List.mem_cons, List.not_mem_nil, or_false] at hp
      rcases hp with rfl | rfl | rfl
      · exact (.of (.nil _) (.nil _) (.nil _))
      · exact (hT22.mono (le_6.trans (hll2.trans (le_17.trans (hleU.trans hle9)))))
      · exact (.of (.nil _) (ht2.mono (le_17.trans (hleU.trans hle9))) (.nil _))
    exact rC rfl Tryz.isAgg37 Tryz.sizeOf37 rfl .head rfl (le_4.trans (le_6.trans (hll2.trans (le_17.trans (hleU.trans hle9))))) (fun _ _ h => h) ⟨rfl, ⟨none, 0, some ⟨b_2, 0, none⟩, 3, aU, cU⟩, rfl, .of (.nil _) hl9 (hU.mono hle9)⟩
def tl_DeleteACLsResponse (T : Tr) : Tr := .mk 0 [] false [(.mk (IntKind.i32.wrap (T.at 0).n) [] false [] []), (.mk 0 [] (T.at 1).nul ((lT (T.at 1)).map tl_DeleteACLsResponseResult) [])] T.u
theorem te_DeleteACLsResponse {H : Fz} {L : Own} {b o : Nat} {cs : List Value} {T : Tr} {ver : Int} (hb : H.at b o cs) (hA : At_DeleteACLsResponse ver H T cs) (hf : Fits T) :
    Fn Tryz.prog 75 [.pointer (some ⟨b, o, none⟩)] H L (fun v H' L' => L = L' ∧ ∃ c : TC, v = .agg (c.cells (tl_DeleteACLsResponse T)).toArray ∧ TreeAt H' c (tl_DeleteACLsResponse T)) := by
  obtain ⟨a1, c1, mt, rfl, h1, h2⟩ := hA
  refine Fn.mk Tryz.call75 Tryz.func75 rfl Tryz.ntmps75 rfl ?_
  refine sr ?_
  refine al Tryz.zeroValue37 rfl rfl (fun b_1 => ?_)
  refine nl ?_
  refine sr ?_
  refine mkC (m := 2) (zs := [.int .i64 0, .slice none 0 0, .bool false, .slice none 0 0, .slice none 0 0]) Tryz.underlying34 I37 rfl rfl rfl rfl rfl rfl (by decide) (by unfold maxLen; omega) rfl (fun b_2 => ?_)
  refine bd' S37 rfl rfl rfl ?_
  refine al Tryz.zeroValue37 rfl rfl (fun b_3 => ?_)
  refine sa Tryz.sizeOf37 rfl rfl rfl rfl rfl .head ?_
  refine nl ?_
  refine sq ?_
  refine rgD 9 (.keep (.keep (.keep .nil))) mixed ?_
  refine dT 0 rfl rfl rfl (by kernel_rfl) (fun _ _ _ h => h) (y_fa0 F37_3 rfl) (.keep (.keep (.keep .nil))) (Fz.le.refl _) ?_
  refine dT 1 rfl rfl rfl (by kernel_rfl) (fun _ _ _ h => h) (y_ld (Says.own .head) Tryz.isAgg34 rfl (Nat.zero_add _).symm rfl) (.keep (.keep (.keep .nil))) (Fz.le.refl _) ?_
  refine dT 2 rfl rfl rfl (by kernel_rfl) (fun _ _ _ h => h) (y_mv rfl) (.keep (.keep (.keep .nil))) (Fz.le.refl _) ?_
  refine dT 3 rfl rfl rfl (by kernel_rfl) (fun _ _ _ h => h) (y_nc rfl) (.keep (.keep (.keep .nil))) (Fz.le.refl _) ?_
  refine dT 4 rfl rfl rfl (by kernel_rfl) (fun _ _ _ h => h) (y_fa F128_1 rfl) (.keep (.keep (.keep .nil))) (Fz.le.refl _) ?_
  refine dT 5 rfl rfl rfl (by kernel_rfl) (fun _ _ _ h => h) (y_ld (j := 1) (Says.fz hb) Tryz.isAgg21 rfl rfl rfl) (.keep (.keep (.keep .nil))) (Fz.le.refl _) ?_
  refine dT 6 rfl rfl rfl (by kernel_rfl) (fun _ _ _ h => h) (y_cv Tryz.runUnderlying21 Tryz.runUnderlying2 rfl (i32_64 _)) (.keep (.keep (.keep .nil))) (Fz.le.refl _) ?_
  refine dT 7 rfl rfl rfl (by kernel_rfl) (fun _ _ _ h => h) (y_bd S37 rfl rfl) (.keep (.keep (.keep .nil))) (Fz.le.refl _) ?_
  refine dT 8 rfl rfl rfl (by kernel_rfl) (fun _ _ _ h => h) (y_ix2 (j := 0) Tryz.runUnderlying34 Tryz.sizeOf37 rfl rfl rfl rfl (by decide)) (.keep (.keep (.keep .nil))) (Fz.le.refl _) ?_
  refine dE 9 (by kernel_rfl) rfl ?_
  refine sa Tryz.sizeOf37 rfl rfl rfl rfl rfl (.tail .head) ?_
  refine dNk (by kernel_rfl) ?_
  refine dD (by kernel_rfl) ?_
  refine Nt ?_
  refine sq ?_
  refine rgD 9 (.keep (.keep (.keep .nil))) mixed ?_
  refine dT 0 rfl rfl rfl (by kernel_rfl) (fun _ _ _ h => h) (y_fa0 F37_3 rfl) (.keep (.keep (.keep .nil))) (Fz.le.refl _) ?_
  refine dT 1 rfl rfl rfl (by kernel_rfl) (fun _ _ _ h => h) (y_ld (Says.own .head) Tryz.isAgg34 rfl (Nat.zero_add _).symm rfl) (.keep (.keep (.keep .nil))) (Fz.le.refl _) ?_
  refine dT 2 rfl rfl rfl (by kernel_rfl) (fun _ _ _ h => h) (y_mv rfl) (.keep (.keep (.keep .nil))) (Fz.le.refl _) ?_
  refine dT 3 rfl rfl rfl (by kernel_rfl) (fun _ _ _ h => h) (y_nc rfl) (.keep (.keep (.keep .nil))) (Fz.le.refl _) ?_
  refine dT 4 rfl rfl rfl (by kernel_rfl) (fun _ _ _ h => h) (y_fa F128_2 rfl) (.keep (.keep (.keep .nil))) (Fz.le.refl _) ?_
  refine dT 5 rfl rfl rfl (by kernel_rfl) (fun _ _ _ h => h) (y_ld (j := 2) (Says.fz hb) Tryz.isAgg126 rfl rfl rfl) (.keep (.keep (.keep .nil))) (Fz.le.refl _) ?_
  refine dT 6 rfl rfl rfl (by kernel_rfl) (fun _ _ _ h => h) (y_esn Tryz.underlying126 rfl) (.keep (.keep (.keep .nil))) (Fz.le.refl _) ?_
  refine dE 7 (by kernel_rfl) rfl ?_
  refine ixk (j := 1) Tryz.runUnderlying34 Tryz.sizeOf37 rfl rfl rfl rfl (by decide) rfl ?_
  refine dN (.keep (.keep (.keep .nil))) (Fz.le.refl _) ?_
  refine dT 8 rfl rfl rfl (by kernel_rfl) (fun _ _ _ h => h) (y_fa F37_2 rfl) (.keep (.keep (.keep .nil))) (Fz.le.refl _) ?_
  refine dE 9 (by kernel_rfl) rfl ?_
  refine st Tryz.sizeOf4 rfl rfl rfl rfl (.tail .head) ?_
  refine dNk (by kernel_rfl) ?_
  refine dD (by kernel_rfl) ?_
  refine Nt ?_
  refine sq ?_
  refine sr ?_
  refine mv rfl rfl ?_
  refine nc rfl rfl ?_
  refine fa F128_2 rfl rfl ?_
  refine ld (Says.fz hb) Tryz.isAgg126 rfl rfl rfl rfl ?_
  refine ls Tryz.runUnderlying126 rfl rfl ?_
  refine mv rfl rfl ?_
  refine nl ?_
  have hlm1 := (hf.at 1).lTl
  refine nulC2 ?_
  refine fr ((lT (T.at 1)).length) (fun k1 l' H' L' => ∃ (al1 : Option Addr), ∃ (ml1 : Nat), ∃ (cl1 : Nat), ∃ (es1 : List EE), ∃ (Nl1 : Chunk), [(0, .pointer (some ⟨b, o, none⟩)), (2, .pointer (some ⟨b_1, 0, none⟩)), (3, .pointer (some ⟨b_3, 0, none⟩)), (29, .int .i64 ((lT (T.at 1)).length : Int))] = l' ∧ Nl1 :: [(b_3, .cells [.int .i64 0, .slice none 0 0, .bool false, _, .slice none 0 0].toArray 37 (0, 0))] :: [(b_2, .cells [.int .i64 (IntKind.i32.wrap (T.at 0).n), .slice none 0 0, .bool false, .slice none 0 0, .slice none 0 0, .int .i64 0, .slice none 0 0, .bool a1.isNone, .slice al1 ml1 cl1, .slice none 0 0].toArray 37 (0, 0))] :: [(b_1, .cells [.int .i64 0, .slice none 0 0, .bool false, .slice none 0 0, .slice none 0 0].toArray 37 (0, 0))] :: L = L' ∧ Row 37 5 al1 ml1 cl1 (es1.flatMap f5) Nl1 ∧ ml1 = es1.length ∧ es1.map (·.2) = ((lT (T.at 1)).take k1).map tl_DeleteACLsResponseResult ∧ (∀ p : EE, p ∈ es1 → TreeAt H' p.1 p.2)) [(0, .pointer (some ⟨b, o, none⟩)), (2, .pointer (some ⟨b_1, 0, none⟩)), (3, .pointer (some ⟨b_3, 0, none⟩)), (29, .int .i64 ((lT (T.at 1)).length : Int))] (fun k1 l' H' L' h => ?_) (by omega) rfl (.cons rfl (.cons rfl (.cons rfl (.cons rfl (.nil _))))) ⟨none, 0, 0, [], [], rfl, rfl, (Row.nil _ _), rfl, (by simp), (fun p hp => by cases hp)⟩ rfl rfl rfl rfl rfl (fun k1 l' H' L' hk1 le_4 hI => ?_) (fun l' H' L' le_5 hI => ?_)
  · obtain ⟨al1, ml1, cl1, es1, Nl1, rfl, _⟩ := h; exact ⟨rfl, rfl, rfl, rfl⟩
  · skip
    obtain ⟨al1, ml1, cl1, es1, Nl1, rfl, rfl, pk10, pk11, pk12, pk13⟩ := hI
    refine sr ?_
    refine mv rfl rfl ?_
    refine asg rfl rfl ?_
    refine nl ?_
    refine sq ?_
    refine rgD 4 .nil mixed ?_
    refine dE 0 (by kernel_rfl) rfl ?_
    refine al Tryz.zeroValue4 rfl rfl (fun b_6 => ?_)
    refine dN .nil (Fz.le.refl _) ?_
    refine dE2 1 2 (by kernel_rfl) rfl rfl ?_ ?_
    · skip
      refine st Tryz.sizeOf4 rfl rfl rfl rfl .head ?_
      refine dN .nil (Fz.le.refl _) ?_
      refine dE 2 (by kernel_rfl) rfl ?_
      refine st Tryz.sizeOf4 rfl rfl rfl rfl .head ?_
      refine dN .nil (Fz.le.refl _) ?_
      refine dE 3 (by kernel_rfl) rfl ?_
      refine ld (Says.own .head) Tryz.isAgg4 rfl (Nat.zero_add _).symm rfl rfl ?_
      refine dN .nil (Fz.le.refl _) ?_
      refine dD (by kernel_rfl) ?_
      refine drN .head ?_
      refine Nt ?_
      refine cF rfl ?_
      refine rgD 18 (.skip (.keep (.keep (.keep .nil)))) mixed ?_
      refine dT 0 rfl rfl rfl (by kernel_rfl) (fun _ _ _ h => h) (y_fa0 F37_3 rfl) (.skip (.keep (.keep (.keep .nil)))) (Fz.le.refl _) ?_
      refine dT 1 rfl rfl rfl (by kernel_rfl) (fun _ _ _ h => h) (y_ld (Says.own .head) Tryz.isAgg34 rfl (Nat.zero_add _).symm rfl) (.skip (.keep (.keep (.keep .nil)))) (Fz.le.refl _) ?_
      refine dT 2 rfl rfl rfl (by kernel_rfl) (fun _ _ _ h => h) (y_fa0 F37_3 rfl) (.skip (.keep (.keep (.keep .nil)))) (Fz.le.refl _) ?_
      refine dT 3 rfl rfl rfl (by kernel_rfl) (fun _ _ _ h => h) (y_ld (Says.own .head) Tryz.isAgg34 rfl (Nat.zero_add _).symm rfl) (.skip (.keep (.keep (.keep .nil)))) (Fz.le.refl _) ?_
      refine dT 4 rfl rfl rfl (by kernel_rfl) (fun _ _ _ h => h) (y_ix2 (j := 1) Tryz.runUnderlying34 Tryz.sizeOf37 rfl rfl rfl rfl (by decide)) (.skip (.keep (.keep (.keep .nil)))) (Fz.le.refl _) ?_
      refine dT 5 rfl rfl rfl (by kernel_rfl) (fun _ _ _ h => h) (y_fa F37_3 rfl) (.skip (.keep (.keep (.keep .nil)))) (Fz.le.refl _) ?_
      refine dT 6 rfl rfl rfl (by kernel_rfl) (fun _ _ _ h => h) (y_ld (Says.own (.tail .head)) Tryz.isAgg34 rfl (Nat.zero_add _).symm rfl) (.skip (.keep (.keep (.keep .nil)))) (Fz.le.refl _) ?_
      refine dT 7 rfl rfl rfl (by kernel_rfl) (fun _ _ _ h => h) (y_mv rfl) (.skip (.keep (.keep (.keep .nil)))) (Fz.le.refl _) ?_
      refine dT 8 rfl rfl rfl (by kernel_rfl) (fun _ _ _ h => h) (y_nc rfl) (.skip (.keep (.keep (.keep .nil)))) (Fz.le.refl _) ?_
      refine dT 9 rfl rfl rfl (by kernel_rfl) (fun _ _ _ h => h) (y_fa F128_2 rfl) (.skip (.keep (.keep (.keep .nil)))) (Fz.le.refl _) ?_
      refine dT 10 rfl rfl rfl (by kernel_rfl) (fun _ _ _ h => h) (y_ld (j := 2) (Says.fz (hb.mono le_4)) Tryz.isAgg126 rfl rfl rfl) (.skip (.keep (.keep (.keep .nil)))) (Fz.le.refl _) ?_
      refine dT 11 rfl rfl rfl (by kernel_rfl) (fun _ _ _ h => h) (y_mv rfl) (.skip (.keep (.keep (.keep .nil)))) (Fz.le.refl _) ?_
      obtain ⟨beq_7, oeq_7, haq_7, hlq_7⟩ := ((h1.mono At_DeleteACLsResponseResult.mono le_4)).rows.at_ (ne_nil_of_lt hk1)
      obtain ⟨ceq_7, hAq_7, hbq_7⟩ := hlq_7 k1 hk1
      refine dT 12 rfl rfl rfl (by kernel_rfl) (fun _ _ _ h => h) (y_ixk (j := k1) Tryz.runUnderlying126 Tryz.sizeOf134 rfl haq_7 rfl rfl hk1) (.skip (.keep (.keep (.keep .nil)))) (Fz.le.refl _) ?_
      refine dE 13 (by kernel_rfl) rfl ?_
      refine cl rfl rfl rfl (te_DeleteACLsResponseResult hbq_7 (At_DeleteACLsResponseResult.mono _ _ _ _ (Fz.le.refl _) hAq_7) ((hf.at 1).lTel (List.getElem_mem hk1))) rfl (fun v_ H1 L1 le_8 hR_ => ?_)
      obtain ⟨rfl, ct66, rfl, hT66⟩ := hR_
      refine dN (.skip (.keep (.keep (.keep .nil)))) le_8 ?_
      refine dE 14 (by kernel_rfl) rfl ?_
      refine bs' L34 rfl rfl rfl rfl (fun b_9 => ?_)
      refine dN (.skip (.skip (.keep (.keep (.keep .nil))))) le_8 ?_
      refine dE 15 (by kernel_rfl) rfl ?_
      have hmk : ml1 = k1 := by have h1 := congrArg List.length pk12; rw [List.length_map, List.length_map, List.length_take] at h1; omega
      have hmb := (hf.at 1).lTl
      refine ap (k := 1) (news := f5 ((ct66, tl_DeleteACLsResponseResult (lT (T.at 1))[k1]) : EE)) Tryz.underlying34 I37 rfl rfl pk10 (fun _ => (.tail .head)) (src_says Tryz.underlying34 rfl (fun _ => Says.own .head) (f5_one _)) (by omega) (by unfold maxLen; omega) rfl (fun a68 c68 N68 r68 z68 => ?_)
      rw [flatMap_snoc'] at r68
      refine dN (.skip (.skip (.keep (.keep (.keep .nil))))) le_8 ?_
      refine dE 16 (by kernel_rfl) rfl ?_
      refine ixk (j := 1) Tryz.runUnderlying34 Tryz.sizeOf37 rfl rfl rfl rfl (by decide) rfl ?_
      refine dN (.skip (.skip (.keep (.keep (.keep .nil))))) le_8 ?_
      refine dT 17 rfl rfl rfl (by kernel_rfl) (fun _ _ _ h => h) (y_fa F37_3 rfl) (.skip (.skip (.keep (.keep (.keep .nil))))) le_8 ?_
      refine dE 18 (by kernel_rfl) rfl ?_
      refine st Tryz.sizeOf34 rfl rfl rfl rfl (.tail (.tail (.tail .head))) ?_
      refine dNk (by kernel_rfl) ?_
      refine dD (by kernel_rfl) ?_
      refine Nb ?_
      refine drN .head ?_
      refine fun a_ w_ hA hw => ⟨_, _, _, hA.sub ?_, (le_4.trans le_8), hw, _, rfl, a68, (ml1 + 1), c68, (es1 ++ [((ct66, tl_DeleteACLsResponseResult (lT (T.at 1))[k1]) : EE)]), N68, rfl, rfl, r68, (by simp; omega), (map_take_snoc (g := tl_DeleteACLsResponseResult) hk1 pk12), (fun p hp => (mem_snoc hp).elim (fun h => (pk13 p h).mono le_8) (fun h => h ▸ hT66))⟩
      exact (.cons rfl (.cons rfl (.cons rfl (.cons rfl (.cons rfl (.nil _))))))
    · skip
      refine st Tryz.sizeOf4 rfl rfl rfl rfl .head ?_
      refine dN .nil (Fz.le.refl _) ?_
      refine dE 1 (by kernel_rfl) rfl ?_
      refine st Tryz.sizeOf4 rfl rfl rfl rfl .head ?_
      refine dN .nil (Fz.le.refl _) ?_
      refine dE 3 (by kernel_rfl) rfl ?_
      refine ld (Says.own .head) Tryz.isAgg4 rfl (Nat.zero_add _).symm rfl rfl ?_
      refine dN .nil (Fz.le.refl _) ?_
      refine dD (by kernel_rfl) ?_
      refine drN .head ?_
      refine Nt ?_
      refine cT rfl ?_
      refine sq ?_
      refine rgD 17 (.skip (.keep (.keep (.keep .nil)))) mixed ?_
      refine dT 0 rfl rfl rfl (by kernel_rfl) (fun _ _ _ h => h) (y_fa0 F37_3 rfl) (.skip (.keep (.keep (.keep .nil)))) (Fz.le.refl _) ?_
      refine dT 1 rfl rfl rfl (by kernel_rfl) (fun _ _ _ h => h) (y_ld (Says.own .head) Tryz.isAgg34 rfl (Nat.zero_add _).symm rfl) (.skip (.keep (.keep (.keep .nil)))) (Fz.le.refl _) ?_
      refine dT 2 rfl rfl rfl (by kernel_rfl) (fun _ _ _ h => h) (y_ix2 (j := 1) Tryz.runUnderlying34 Tryz.sizeOf37 rfl rfl rfl rfl (by decide)) (.skip (.keep (.keep (.keep .nil)))) (Fz.le.refl _) ?_
      refine dT 3 rfl rfl rfl (by kernel_rfl) (fun _ _ _ h => h) (y_fa F37_3 rfl) (.skip (.keep (.keep (.keep .nil)))) (Fz.le.refl _) ?_
      refine dT 4 rfl rfl rfl (by kernel_rfl) (fun _ _ _ h => h) (y_ld (Says.own (.tail .head)) Tryz.isAgg34 rfl (Nat.zero_add _).symm rfl) (.skip (.keep (.keep (.keep .nil)))) (Fz.le.refl _) ?_
      refine dT 5 rfl rfl rfl (by kernel_rfl) (fun _ _ _ h => h) (y_mv rfl) (.skip (.keep (.keep (.keep .nil)))) (Fz.le.refl _) ?_
      refine dT 6 rfl rfl rfl (by kernel_rfl) (fun _ _ _ h => h) (y_nc rfl) (.skip (.keep (.keep (.keep .nil)))) (Fz.le.refl _) ?_
      refine dT 7 rfl rfl rfl (by kernel_rfl) (fun _ _ _ h => h) (y_fa F128_2 rfl) (.skip (.keep (.keep (.keep .nil)))) (Fz.le.refl _) ?_
      refine dT 8 rfl rfl rfl (by kernel_rfl) (fun _ _ _ h => h) (y_ld (j := 2) (Says.fz (hb.mono le_4)) Tryz.isAgg126 rfl rfl rfl) (.skip (.keep (.keep (.keep .nil)))) (Fz.le.refl _) ?_
      refine dT 9 rfl rfl rfl (by kernel_rfl) (fun _ _ _ h => h) (y_mv rfl) (.skip (.keep (.keep (.keep .nil)))) (Fz.le.refl _) ?_
      obtain ⟨beq_10, oeq_10, haq_10, hlq_10⟩ := ((h1.mono At_DeleteACLsResponseResult.mono le_4)).rows.at_ (ne_nil_of_lt hk1)
      obtain ⟨ceq_10, hAq_10, hbq_10⟩ := hlq_10 k1 hk1
      refine dT 10 rfl rfl rfl (by kernel_rfl) (fun _ _ _ h => h) (y_ixk (j := k1) Tryz.runUnderlying126 Tryz.sizeOf134 rfl haq_10 rfl rfl hk1) (.skip (.keep (.keep (.keep .nil)))) (Fz.le.refl _) ?_
      refine dT 12 rfl rfl rfl (by kernel_rfl) (fun _ _ _ h => h) (y_ls Tryz.runUnderlying34 rfl) (.skip (.keep (.keep (.keep .nil)))) (Fz.le.refl _) ?_
      refine dE2 11 13 (by kernel_rfl) rfl rfl ?_ ?_
      · skip
        refine cl rfl rfl rfl (te_DeleteACLsResponseResult hbq_10 (At_DeleteACLsResponseResult.mono _ _ _ _ (Fz.le.refl _) hAq_10) ((hf.at 1).lTel (List.getElem_mem hk1))) rfl (fun v_ H1 L1 le_11 hR_ => ?_)
        obtain ⟨rfl, ct46, rfl, hT46⟩ := hR_
        refine dN (.skip (.keep (.keep (.keep .nil)))) le_11 ?_
        refine dE 13 (by kernel_rfl) rfl ?_
        refine bs' L34 rfl rfl rfl rfl (fun b_12 => ?_)
        refine dN (.skip (.skip (.keep (.keep (.keep .nil))))) le_11 ?_
        refine dE 14 (by kernel_rfl) rfl ?_
        have hmk : ml1 = k1 := by have h1 := congrArg List.length pk12; rw [List.length_map, List.length_map, List.length_take] at h1; omega
        have hmb := (hf.at 1).lTl
        refine ap (k := 1) (news := f5 ((TC.none, Tr.none) : EE)) Tryz.underlying34 I37 rfl rfl pk10 (fun _ => (.tail .head)) (src_says Tryz.underlying34 rfl (fun _ => Says.own .head) (f5_one _)) (by omega) (by unfold maxLen; omega) rfl (fun a49 c49 N49 r49 z49 => ?_)
        refine dN (.skip (.skip (.keep (.keep (.keep .nil))))) le_11 ?_
        refine dE 15 (by kernel_rfl) rfl ?_
        refine ixk (j := 1) Tryz.runUnderlying34 Tryz.sizeOf37 rfl rfl rfl rfl (by decide) rfl ?_
        refine dN (.skip (.skip (.keep (.keep (.keep .nil))))) le_11 ?_
        refine dT 16 rfl rfl rfl (by kernel_rfl) (fun _ _ _ h => h) (y_fa F37_3 rfl) (.skip (.skip (.keep (.keep (.keep .nil))))) le_11 ?_
        refine dE 17 (by kernel_rfl) rfl ?_
        refine st Tryz.sizeOf34 rfl rfl rfl rfl (.tail (.tail (.tail .head))) ?_
        refine dNk (by kernel_rfl) ?_
        refine dD (by kernel_rfl) ?_
        refine Nt ?_
        refine rg ?_
        obtain ⟨gg49, hgg49⟩ := r49.addr (by omega)
        refine ixk (j := ml1) Tryz.runUnderlying34 Tryz.sizeOf37 rfl hgg49 rfl rfl (by omega) rfl ?_
        refine sR (ds := f5 ((ct46, tl_DeleteACLsResponseResult (lT (T.at 1))[k1]) : EE)) r49 hgg49 (fun _ => (.tail .head)) Tryz.sizeOf37 rfl rfl rfl rfl (by omega) (fun N49b r49b => ?_)
        rw [row_put (k := 5) (m := ml1) (A := es1.flatMap f5) (by rw [flatMap_len f5 5 f5_len, pk11]) rfl, flatMap_snoc'] at r49b
        refine nN ?_
        refine Nb ?_
        refine drN .head ?_
        refine fun a_ w_ hA hw => ⟨_, _, _, hA.sub ?_, (le_4.trans le_11), hw, _, rfl, a49, (ml1 + 1), c49, (es1 ++ [((ct46, tl_DeleteACLsResponseResult (lT (T.at 1))[k1]) : EE)]), N49b, rfl, rfl, r49b, (by simp; omega), (map_take_snoc (g := tl_DeleteACLsResponseResult) hk1 pk12), (fun p hp => (mem_snoc hp).elim (fun h => (pk13 p h).mono le_11) (fun h => h ▸ hT46))⟩
        exact (.cons rfl (.cons rfl (.cons rfl (.cons rfl (.cons rfl (.nil _))))))
      · skip
        refine bs' L34 rfl rfl rfl rfl (fun b_13 => ?_)
        refine dN (.skip (.skip (.keep (.keep (.keep .nil))))) (Fz.le.refl _) ?_
        refine dE 11 (by kernel_rfl) rfl ?_
        refine cl rfl rfl rfl (te_DeleteACLsResponseResult hbq_10 (At_DeleteACLsResponseResult.mono _ _ _ _ (Fz.le.refl _) hAq_10) ((hf.at 1).lTel (List.getElem_mem hk1))) rfl (fun v_ H1 L1 le_14 hR_ => ?_)
        obtain ⟨rfl, ct46, rfl, hT46⟩ := hR_
        refine dN (.skip (.skip (.keep (.keep (.keep .nil))))) le_14 ?_
        refine dE 14 (by kernel_rfl) rfl ?_
        have hmk : ml1 = k1 := by have h1 := congrArg List.length pk12; rw [List.length_map, List.length_map, List.length_take] at h1; omega
        have hmb := (hf.at 1).lTl
        refine ap (k := 1) (news := f5 ((TC.none, Tr.none) : EE)) Tryz.underlying34 I37 rfl rfl pk10 (fun _ => (.tail .head)) (src_says Tryz.underlying34 rfl (fun _ => Says.own .head) (f5_one _)) (by omega) (by unfold maxLen; omega) rfl (fun a49 c49 N49 r49 z49 => ?_)
        refine dN (.skip (.skip (.keep (.keep (.keep .nil))))) le_14 ?_
        refine dE 15 (by kernel_rfl) rfl ?_
        refine ixk (j := 1) Tryz.runUnderlying34 Tryz.sizeOf37 rfl rfl rfl rfl (by decide) rfl ?_
        refine dN (.skip (.skip (.keep (.keep (.keep .nil))))) le_14 ?_
        refine dT 16 rfl rfl rfl (by kernel_rfl) (fun _ _ _ h => h) (y_fa F37_3 rfl) (.skip (.skip (.keep (.keep (.keep .nil))))) le_14 ?_
        refine dE 17 (by kernel_rfl) rfl ?_
        refine st Tryz.sizeOf34 rfl rfl rfl rfl (.tail (.tail (.tail .head))) ?_
        refine dNk (by kernel_rfl) ?_
        refine dD (by kernel_rfl) ?_
        refine Nt ?_
        refine rg ?_
        obtain ⟨gg49, hgg49⟩ := r49.addr (by omega)
        refine ixk (j := ml1) Tryz.runUnderlying34 Tryz.sizeOf37 rfl hgg49 rfl rfl (by omega) rfl ?_
        refine sR (ds := f5 ((ct46, tl_DeleteACLsResponseResult (lT (T.at 1))[k1]) : EE)) r49 hgg49 (fun _ => (.tail .head)) Tryz.sizeOf37 rfl rfl rfl rfl (by omega) (fun N49b r49b => ?_)
        rw [row_put (k := 5) (m := ml1) (A := es1.flatMap f5) (by rw [flatMap_len f5 5 f5_len, pk11]) rfl, flatMap_snoc'] at r49b
        refine nN ?_
        refine Nb ?_
        refine drN .head ?_
        refine fun a_ w_ hA hw => ⟨_, _, _, hA.sub ?_, (le_4.trans le_14), hw, _, rfl, a49, (ml1 + 1), c49, (es1 ++ [((ct46, tl_DeleteACLsResponseResult (lT (T.at 1))[k1]) : EE)]), N49b, rfl, rfl, r49b, (by simp; omega), (map_take_snoc (g := tl_DeleteACLsResponseResult) hk1 pk12), (fun p hp => (mem_snoc hp).elim (fun h => (pk13 p h).mono le_14) (fun h => h ▸ hT46))⟩
        exact (.cons rfl (.cons rfl (.cons rfl (.cons rfl (.cons rfl (.nil _))))))
  · skip
    obtain ⟨al1, ml1, cl1, es1, Nl1, rfl, rfl, pk10, pk11, pk12, pk13⟩ := hI
    refine toWp ?_
    have hes1 : es1.map (·.2) = (lT (T.at 1)).map tl_DeleteACLsResponseResult := by rw [pk12, List.take_length]
    have hm1 : ml1 = ((lT (T.at 1)).map tl_DeleteACLsResponseResult).length := by rw [← hes1, List.length_map]; exact pk11
    refine frW pk10 .head (fun Hl1 hll1 hzl1 => ?_)
    have ht1 := TreesAt.row hzl1 pk11 pk10.le.1 (by have h1 := congrArg List.length hes1; rw [List.length_map, List.length_map] at h1; unfold B47; omega) (fun p hp => (pk13 p hp).mono hll1)
    rw [hes1] at ht1
    subst hm1
    refine sr ?_
    refine mv rfl rfl ?_
    refine nc rfl rfl ?_
    refine fa F128_3 rfl rfl ?_
    refine mkf rfl rfl ?_
    have hkv_ := (h2.mono (le_5.trans hll1))
    obtain ⟨kvs, hM, hlen, hel⟩ := hkv_
    have hfu := hf.u
    refine cl rfl rfl rfl (t_each (j := 3) (I := fun i H1 Y => TgI 72 b_3 37 (.int .i64 0) (.slice none 0 0) (.bool false) (_) T.u i H1 Y) (hb.mono (le_5.trans hll1)) rfl hM (by omega) (fun i H1 H2 Y hle h => h.mono hle) TgI.start (fun i k v H1 Y L1 hi hle hI => ?_)) rfl (fun v_ H1 L1 le_16 hR_ => ?_)
    · obtain ⟨s, h1, ⟨va, vc, rfl, hx⟩, h2, h3⟩ := hel i k v hi
      have hik := sortKv_lt hi
      exact TgI.step (fun {_ _ _ _ _ _ _ _ _ _ _ _ _ _ _ _} => tc_154) hf.v (by omega) h1 (hx.mono hle) h2 h3 hI
    rw [hlen] at hR_
    obtain ⟨_, rfl, aU, cU, NU, esU, rfl, hrU, heU, hgU⟩ := hR_
    refine splL ?_
    rw [List.take_length] at heU
    refine frL hrU (.tail .head) (fun HU hleU hzU => ?_)
    have hU := (TagsAt.told hzU hrU heU hfu (fun p hp => (hgU p hp).mono hleU)).1
    refine nl ?_
    refine sr ?_
    refine fa0 F37_4 rfl rfl ?_
    refine ld (Says.own .head) Tryz.isAgg35 rfl (Nat.zero_add _).symm rfl rfl ?_
    refine cl rfl rfl rfl (k_sorted hU (h2.mono (le_5.trans (hll1.trans (le_16.trans hleU)))).rise) rfl (fun v_ H1 L1 hle_ hR_ => ?_)
    obtain ⟨rfl, rfl⟩ := hR_
    refine nl ?_
    refine sr ?_
    refine la (Says.own .head) Tryz.isAgg37 Tryz.sizeOf37 rfl (Nat.zero_add _).symm rfl rfl ?_
    refine sa Tryz.sizeOf37 rfl rfl rfl rfl rfl (.tail (.tail .head)) ?_
    refine nl ?_
    refine drW .head ?_
    refine frW (Row.whole (e := 37) (size := 5) (m := 2) (ds := [.int .i64 (IntKind.i32.wrap (T.at 0).n), .slice none 0 0, .bool false, .slice none 0 0, .slice none 0 0, .int .i64 0, .slice none 0 0, .bool a1.isNone, .slice al1 ((lT (T.at 1)).map tl_DeleteACLsResponseResult).length cl1, .slice none 0 0]) rfl (by unfold maxLen; omega)) .head (fun H9 hle9 hz9 => ?_)
    have hrb : H9.at b_2 0 [.int .i64 (IntKind.i32.wrap (T.at 0).n), .slice none 0 0, .bool false, .slice none 0 0, .slice none 0 0, .int .i64 0, .slice none 0 0, .bool a1.isNone, .slice al1 ((lT (T.at 1)).map tl_DeleteACLsResponseResult).length cl1, .slice none 0 0] := by
      rcases hz9 with ⟨h, _⟩ | ⟨g, h, h2⟩
      · cases h
      · cases h; exact h2
    rw [(h1).nul] at hrb
    have hrb2 : H9.at b_2 0 (([((TC.none : TC), (Tr.mk (IntKind.i32.wrap (T.at 0).n) [] false [] [] : Tr)), ((⟨none, 0, al1, cl1, none, 0⟩ : TC), (Tr.mk 0 [] (T.at 1).nul ((lT (T.at 1)).map tl_DeleteACLsResponseResult) [] : Tr))] : List EE).flatMap fun p => p.1.cells p.2) := by exact hrb
    have hl9 : TreesAt H9 (some ⟨b_2, 0, none⟩) 2 [(.mk (IntKind.i32.wrap (T.at 0).n) [] false [] []), (.mk 0 [] (T.at 1).nul ((lT (T.at 1)).map tl_DeleteACLsResponseResult) [])] := by
      refine TreesAt.row (es := [((TC.none : TC), (Tr.mk (IntKind.i32.wrap (T.at 0).n) [] false [] [] : Tr)), ((⟨none, 0, al1, cl1, none, 0⟩ : TC), (Tr.mk 0 [] (T.at 1).nul ((lT (T.at 1)).map tl_DeleteACLsResponseResult) [] : Tr))]) (.inr ⟨_, rfl, hrb2⟩) rfl (Nat.le_refl _) (Nat.le_of_ble_eq_true rfl) ?_
      intro p hp
      simp only [List.mem_cons, List.not_mem_nil, or_false] at hp
      rcases hp with rfl | rfl
      · exact (.of (.nil _) (.nil _) (.nil _))
      · exact (.of (.nil _) (ht1.mono (le_16.trans (hleU.trans hle9))) (.nil _))
    exact rC rfl Tryz.isAgg37 Tryz.sizeOf37 rfl .head rfl (le_5.trans (hll1.trans (le_16.trans (hleU.trans hle9)))) (fun _ _ h => h) ⟨rfl, ⟨none, 0, some ⟨b_2, 0, none⟩, 2, aU, cU⟩, rfl, .of (.nil _) hl9 (hU.mono hle9)⟩
end Go.Sx

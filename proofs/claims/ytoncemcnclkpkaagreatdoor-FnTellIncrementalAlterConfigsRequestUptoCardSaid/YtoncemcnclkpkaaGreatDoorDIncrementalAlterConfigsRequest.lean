import Derived.Test.YtoncemcnclkpkaaGreatDoorBIncrementalAlterConfigsRequest
import Derived.Test.YtoncemcnclkpkaaGreatDoorTB
import Derived.KernelRfl
set_option linter.unusedVariables false
set_option linter.unusedSimpArgs false
set_option maxRecDepth 100000
set_option maxHeartbeats 20000000
namespace Go.Sx
open Go.Proofs
def tl_IncrementalAlterConfigsRequestResourceConfig (T : Tr) : Tr := .mk 0 [] false [(.mk 0 (T.at 0).s false [] []), (.mk (IntKind.i8.wrap (T.at 1).n) [] false [] []), (.mk 0 (sT (T.at 2)) (T.at 2).nul [] [])] T.u
theorem te_IncrementalAlterConfigsRequestResourceConfig {H : Fz} {L : Own} {b o : Nat} {cs : List Value} {T : Tr} (hb : H.at b o cs) (hA : At_IncrementalAlterConfigsRequestResourceConfig H T cs) (hf : Fits T) :
    Fn Tryz.prog 141 [.pointer (some ⟨b, o, none⟩)] H L (fun v H' L' => L = L' ∧ ∃ c : TC, v = .agg (c.cells (tl_IncrementalAlterConfigsRequestResourceConfig T)).toArray ∧ TreeAt H' c (tl_IncrementalAlterConfigsRequestResourceConfig T)) := by
  obtain ⟨p2, mt, rfl, h1, h2⟩ := hA
  refine Fn.mk Tryz.call141 Tryz.func141 rfl Tryz.ntmps141 rfl ?_
  refine sr ?_
  refine al Tryz.zeroValue37 rfl rfl (fun b_1 => ?_)
  refine nl ?_
  refine sr ?_
  refine mkC (m := 3) (zs := [.int .i64 0, .slice none 0 0, .bool false, .slice none 0 0, .slice none 0 0]) Tryz.underlying34 I37 rfl rfl rfl rfl rfl rfl (by decide) (by unfold maxLen; omega) rfl (fun b_2 => ?_)
  refine bd' S37 rfl rfl rfl ?_
  refine al Tryz.zeroValue37 rfl rfl (fun b_3 => ?_)
  refine sa Tryz.sizeOf37 rfl rfl rfl rfl rfl .head ?_
  refine nl ?_
  refine sq ?_
  refine rgD 9 (.keep (.keep (.keep .nil))) mixed ?_
  refine dT 0 rfl rfl rfl (by kernel_rfl) (fun _ _ _ h => h) (y_fa0 F37_3 rfl) (.keep (.keep (.keep .nil))) (Fz.le.refl _) ?_
  refine dT 1 rfl rfl rfl (by kernel_rfl) (fun _ _ _ h => h) (y_ld (Says.own .head) Tryz.isAgg34 rfl (Nat.zero_add _).symm rfl) (.keep (.keep (.keep .nil))) (Fz.le.refl _) ?_
  refine dT 2 rfl rfl rfl (by kernel_rfl) (fun _ _ _ h => h) (y_mv rfl) (.keep (.keep (.keep .nil))) (Fz.le.refl _) ?_
  refine dT 3 rfl rfl rfl (by kernel_rfl) (fun _ _ _ h => h) (y_nc rfl) (.keep (.keep (.keep .nil))) (Fz.le.refl _) ?_
  refine dT 4 rfl rfl rfl (by kernel_rfl) (fun _ _ _ h => h) (y_fa F173_0 rfl) (.keep (.keep (.keep .nil))) (Fz.le.refl _) ?_
  refine dT 5 rfl rfl rfl (by kernel_rfl) (fun _ _ _ h => h) (y_ld (j := 0) (Says.fz hb) Tryz.isAgg9 rfl (Nat.add_zero _).symm rfl) (.keep (.keep (.keep .nil))) (Fz.le.refl _) ?_
  refine dE 6 (by kernel_rfl) rfl ?_
  refine csb Tryz.underlying9 Tryz.underlying22 Tryz.underlying5 rfl (by have := (hf.at 0).s; unfold B47; omega) rfl (fun Hb12 b12 cp12 le_4 hb12 => ?_)
  refine dN (.keep (.keep (.keep .nil))) le_4 ?_
  refine dT 7 rfl rfl rfl (by kernel_rfl) (fun _ _ _ h => h) (y_bd S37 rfl rfl) (.keep (.keep (.keep .nil))) le_4 ?_
  refine dT 8 rfl rfl rfl (by kernel_rfl) (fun _ _ _ h => h) (y_ix2 (j := 0) Tryz.runUnderlying34 Tryz.sizeOf37 rfl rfl rfl rfl (by decide)) (.keep (.keep (.keep .nil))) le_4 ?_
  refine dE 9 (by kernel_rfl) rfl ?_
  refine sa Tryz.sizeOf37 rfl rfl rfl rfl rfl (.tail .head) ?_
  refine dNk (by kernel_rfl) ?_
  refine dD (by kernel_rfl) ?_
  refine Nt ?_
  refine sq ?_
  refine rgD 9 (.keep (.keep (.keep .nil))) mixed ?_
  refine dT 0 rfl rfl rfl (by kernel_rfl) (fun _ _ _ h => h) (y_fa0 F37_3 rfl) (.keep (.keep (.keep .nil))) (Fz.le.refl _) ?_
  refine dT 1 rfl rfl rfl (by kernel_rfl) (fun _ _ _ h => h) (y_ld (Says.own .head) Tryz.isAgg34 rfl (Nat.zero_add _).symm rfl) (.keep (.keep (.keep .nil))) (Fz.le.refl _) ?_
  refine dT 2 rfl rfl rfl (by kernel_rfl) (fun _ _ _ h => h) (y_mv rfl) (.keep (.keep (.keep .nil))) (Fz.le.refl _) ?_
  refine dT 3 rfl rfl rfl (by kernel_rfl) (fun _ _ _ h => h) (y_nc rfl) (.keep (.keep (.keep .nil))) (Fz.le.refl _) ?_
  refine dT 4 rfl rfl rfl (by kernel_rfl) (fun _ _ _ h => h) (y_fa F173_1 rfl) (.keep (.keep (.keep .nil))) (Fz.le.refl _) ?_
  refine dT 5 rfl rfl rfl (by kernel_rfl) (fun _ _ _ h => h) (y_ld (j := 1) (Says.fz (hb.mono le_4)) Tryz.isAgg171 rfl rfl rfl) (.keep (.keep (.keep .nil))) (Fz.le.refl _) ?_
  refine dT 6 rfl rfl rfl (by kernel_rfl) (fun _ _ _ h => h) (y_cv Tryz.runUnderlying171 Tryz.runUnderlying2 rfl (i8_64 _)) (.keep (.keep (.keep .nil))) (Fz.le.refl _) ?_
  refine dT 7 rfl rfl rfl (by kernel_rfl) (fun _ _ _ h => h) (y_bd S37 rfl rfl) (.keep (.keep (.keep .nil))) (Fz.le.refl _) ?_
  refine dT 8 rfl rfl rfl (by kernel_rfl) (fun _ _ _ h => h) (y_ix2 (j := 1) Tryz.runUnderlying34 Tryz.sizeOf37 rfl rfl rfl rfl (by decide)) (.keep (.keep (.keep .nil))) (Fz.le.refl _) ?_
  refine dE 9 (by kernel_rfl) rfl ?_
  refine sa Tryz.sizeOf37 rfl rfl rfl rfl rfl (.tail .head) ?_
  refine dNk (by kernel_rfl) ?_
  refine dD (by kernel_rfl) ?_
  refine Nt ?_
  refine sq ?_
  refine rgD 8 (.keep (.keep (.keep .nil))) mixed ?_
  refine dT 0 rfl rfl rfl (by kernel_rfl) (fun _ _ _ h => h) (y_fa0 F37_3 rfl) (.keep (.keep (.keep .nil))) (Fz.le.refl _) ?_
  refine dT 1 rfl rfl rfl (by kernel_rfl) (fun _ _ _ h => h) (y_ld (Says.own .head) Tryz.isAgg34 rfl (Nat.zero_add _).symm rfl) (.keep (.keep (.keep .nil))) (Fz.le.refl _) ?_
  refine dT 2 rfl rfl rfl (by kernel_rfl) (fun _ _ _ h => h) (y_mv rfl) (.keep (.keep (.keep .nil))) (Fz.le.refl _) ?_
  refine dT 3 rfl rfl rfl (by kernel_rfl) (fun _ _ _ h => h) (y_nc rfl) (.keep (.keep (.keep .nil))) (Fz.le.refl _) ?_
  refine dT 4 rfl rfl rfl (by kernel_rfl) (fun _ _ _ h => h) (y_fa F173_2 rfl) (.keep (.keep (.keep .nil))) (Fz.le.refl _) ?_
  refine dT 5 rfl rfl rfl (by kernel_rfl) (fun _ _ _ h => h) (y_ld (j := 2) (Says.fz (hb.mono le_4)) Tryz.isAgg114 rfl rfl rfl) (.keep (.keep (.keep .nil))) (Fz.le.refl _) ?_
  refine dE 6 (by kernel_rfl) rfl ?_
  refine cl rfl rfl rfl (k_textTree (h1.mono le_4) (hf.at 2)) rfl (fun v_ H1 L1 le_5 hR_ => ?_)
  obtain ⟨rfl, ct30, rfl, hT30⟩ := hR_
  refine dN (.keep (.keep (.keep .nil))) le_5 ?_
  refine dT 7 rfl rfl rfl (by kernel_rfl) (fun _ _ _ h => h) (y_ix2 (j := 2) Tryz.runUnderlying34 Tryz.sizeOf37 rfl rfl rfl rfl (by decide)) (.keep (.keep (.keep .nil))) le_5 ?_
  refine dE 8 (by kernel_rfl) rfl ?_
  refine sa Tryz.sizeOf37 rfl rfl rfl rfl rfl (.tail .head) ?_
  refine dNk (by kernel_rfl) ?_
  refine dD (by kernel_rfl) ?_
  refine Nt ?_
  refine sr ?_
  refine mv rfl rfl ?_
  refine nc rfl rfl ?_
  refine fa F173_3 rfl rfl ?_
  refine mkf rfl rfl ?_
  have hkv_ := (h2.mono (le_4.trans le_5))
  obtain ⟨kvs, hM, hlen, hel⟩ := hkv_
  have hfu := hf.u
  refine cl rfl rfl rfl (t_each (j := 3) (I := fun i H1 Y => TgI 69 b_3 37 (.int .i64 0) (.slice none 0 0) (.bool false) (_) T.u i H1 Y) (hb.mono (le_4.trans le_5)) rfl hM (by omega) (fun i H1 H2 Y hle h => h.mono hle) TgI.start (fun i k v H1 Y L1 hi hle hI => ?_)) rfl (fun v_ H1 L1 le_7 hR_ => ?_)
  · obtain ⟨s, h1, ⟨va, vc, rfl, hx⟩, h2, h3⟩ := hel i k v hi
    have hik := sortKv_lt hi
    exact TgI.step (fun {_ _ _ _ _ _ _ _ _ _ _ _ _ _ _ _} => tc_156) hf.v (by omega) h1 (hx.mono hle) h2 h3 hI
  rw [hlen] at hR_
  obtain ⟨_, rfl, aU, cU, NU, esU, rfl, hrU, heU, hgU⟩ := hR_
  refine splL ?_
  rw [List.take_length] at heU
  refine frL hrU (.tail .head) (fun HU hleU hzU => ?_)
  have hU := (TagsAt.told hzU hrU heU hfu (fun p hp => (hgU p hp).mono hleU)).1
  refine nl ?_
  refine sr ?_
  refine fa0 F37_4 rfl rfl ?_
  refine ld (Says.own .head) Tryz.isAgg35 rfl (Nat.zero_add _).symm rfl rfl ?_
  refine cl rfl rfl rfl (k_sorted hU (h2.mono (le_4.trans (le_5.trans (le_7.trans hleU)))).rise) rfl (fun v_ H1 L1 hle_ hR_ => ?_)
  obtain ⟨rfl, rfl⟩ := hR_
  refine nl ?_
  refine sr ?_
  refine la (Says.own .head) Tryz.isAgg37 Tryz.sizeOf37 rfl (Nat.zero_add _).symm rfl rfl ?_
  refine sa Tryz.sizeOf37 rfl rfl rfl rfl rfl (.tail (.tail .head)) ?_
  refine nl ?_
  refine drW .head ?_
  refine frW (Row.whole (e := 37) (size := 5) (m := 3) (ds := [.int .i64 0, .slice (some ⟨b12, 0, none⟩) (T.at 0).s.length cp12, .bool false, .slice none 0 0, .slice none 0 0, .int .i64 (IntKind.i8.wrap (T.at 1).n), .slice none 0 0, .bool false, .slice none 0 0, .slice none 0 0, .int .i64 0, .slice ct30.sa (sT (T.at 2)).length ct30.sc, .bool (T.at 2).nul, .slice ct30.la 0 ct30.lc, .slice ct30.ua 0 ct30.uc]) rfl (by unfold maxLen; omega)) .head (fun H9 hle9 hz9 => ?_)
  have hrb : H9.at b_2 0 [.int .i64 0, .slice (some ⟨b12, 0, none⟩) (T.at 0).s.length cp12, .bool false, .slice none 0 0, .slice none 0 0, .int .i64 (IntKind.i8.wrap (T.at 1).n), .slice none 0 0, .bool false, .slice none 0 0, .slice none 0 0, .int .i64 0, .slice ct30.sa (sT (T.at 2)).length ct30.sc, .bool (T.at 2).nul, .slice ct30.la 0 ct30.lc, .slice ct30.ua 0 ct30.uc] := by
    rcases hz9 with ⟨h, _⟩ | ⟨g, h, h2⟩
    · cases h
    · cases h; exact h2
  have hrb2 : H9.at b_2 0 (([((⟨some ⟨b12, 0, none⟩, cp12, none, 0, none, 0⟩ : TC), (Tr.mk 0 (T.at 0).s false [] [] : Tr)), ((TC.none : TC), (Tr.mk (IntKind.i8.wrap (T.at 1).n) [] false [] [] : Tr)), ((ct30 : TC), (Tr.mk 0 (sT (T.at 2)) (T.at 2).nul [] [] : Tr))] : List EE).flatMap fun p => p.1.cells p.2) := by exact hrb
  have hl9 : TreesAt H9 (some ⟨b_2, 0, none⟩) 3 [(.mk 0 (T.at 0).s false [] []), (.mk (IntKind.i8.wrap (T.at 1).n) [] false [] []), (.mk 0 (sT (T.at 2)) (T.at 2).nul [] [])] := by
    refine TreesAt.row (es := [((⟨some ⟨b12, 0, none⟩, cp12, none, 0, none, 0⟩ : TC), (Tr.mk 0 (T.at 0).s false [] [] : Tr)), ((TC.none : TC), (Tr.mk (IntKind.i8.wrap (T.at 1).n) [] false [] [] : Tr)), ((ct30 : TC), (Tr.mk 0 (sT (T.at 2)) (T.at 2).nul [] [] : Tr))]) (.inr ⟨_, rfl, hrb2⟩) rfl (Nat.le_refl _) (Nat.le_of_ble_eq_true rfl) ?_
    intro p hp
    simp only [List.mem_cons, List.not_mem_nil, or_false] at hp
    rcases hp with rfl | rfl | rfl
    · exact (.of (hb12.mono (le_5.trans (le_7.trans (hleU.trans hle9)))) (.nil _) (.nil _))
    · exact (.of (.nil _) (.nil _) (.nil _))
    · exact (hT30.mono (le_7.trans (hleU.trans hle9)))
  exact rC rfl Tryz.isAgg37 Tryz.sizeOf37 rfl .head rfl (le_4.trans (le_5.trans (le_7.trans (hleU.trans hle9)))) (fun _ _ h => h) ⟨rfl, ⟨none, 0, some ⟨b_2, 0, none⟩, 3, aU, cU⟩, rfl, .of (.nil _) hl9 (hU.mono hle9)⟩
def tl_IncrementalAlterConfigsRequestResource (T : Tr) : Tr := .mk 0 [] false [(.mk (IntKind.i8.wrap (T.at 0).n) [] false [] []), (.mk 0 (T.at 1).s false [] []), (.mk 0 [] (T.at 2).nul ((lT (T.at 2)).map tl_IncrementalAlterConfigsRequestResourceConfig) [])] T.u
theorem te_IncrementalAlterConfigsRequestResource {H : Fz} {L : Own} {b o : Nat} {cs : List Value} {T : Tr} (hb : H.at b o cs) (hA : At_IncrementalAlterConfigsRequestResource H T cs) (hf : Fits T) :
    Fn Tryz.prog 102 [.pointer (some ⟨b, o, none⟩)] H L (fun v H' L' => L = L' ∧ ∃ c : TC, v = .agg (c.cells (tl_IncrementalAlterConfigsRequestResource T)).toArray ∧ TreeAt H' c (tl_IncrementalAlterConfigsRequestResource T)) := by
  obtain ⟨a2, c2, mt, rfl, h1, h2⟩ := hA
  refine Fn.mk Tryz.call102 Tryz.func102 rfl Tryz.ntmps102 rfl ?_
  refine sr ?_
  refine al Tryz.zeroValue37 rfl rfl (fun b_1 => ?_)
  refine nl ?_
  refine sr ?_
  refine mkC (m := 3) (zs := [.int .i64 0, .slice none 0 0, .bool false, .slice none 0 0, .slice none 0 0]) Tryz.underlying34 I37 rfl rfl rfl rfl rfl rfl (by decide) (by unfold maxLen; omega) rfl (fun b_2 => ?_)
  refine bd' S37 rfl rfl rfl ?_
  refine al Tryz.zeroValue37 rfl rfl (fun b_3 => ?_)
  refine sa Tryz.sizeOf37 rfl rfl rfl rfl rfl .head ?_
  refine nl ?_
  refine sq ?_
  refine rgD 9 (.keep (.keep (.keep .nil))) mixed ?_
  refine dT 0 rfl rfl rfl (by kernel_rfl) (fun _ _ _ h => h) (y_fa0 F37_3 rfl) (.keep (.keep (.keep .nil))) (Fz.le.refl _) ?_
  refine dT 1 rfl rfl rfl (by kernel_rfl) (fun _ _ _ h => h) (y_ld (Says.own .head) Tryz.isAgg34 rfl (Nat.zero_add _).symm rfl) (.keep (.keep (.keep .nil))) (Fz.le.refl _) ?_
  refine dT 2 rfl rfl rfl (by kernel_rfl) (fun _ _ _ h => h) (y_mv rfl) (.keep (.keep (.keep .nil))) (Fz.le.refl _) ?_
  refine dT 3 rfl rfl rfl (by kernel_rfl) (fun _ _ _ h => h) (y_nc rfl) (.keep (.keep (.keep .nil))) (Fz.le.refl _) ?_
  refine dT 4 rfl rfl rfl (by kernel_rfl) (fun _ _ _ h => h) (y_fa F141_0 rfl) (.keep (.keep (.keep .nil))) (Fz.le.refl _) ?_
  refine dT 5 rfl rfl rfl (by kernel_rfl) (fun _ _ _ h => h) (y_ld (j := 0) (Says.fz hb) Tryz.isAgg138 rfl (Nat.add_zero _).symm rfl) (.keep (.keep (.keep .nil))) (Fz.le.refl _) ?_
  refine dT 6 rfl rfl rfl (by kernel_rfl) (fun _ _ _ h => h) (y_cv Tryz.runUnderlying138 Tryz.runUnderlying2 rfl (i8_64 _)) (.keep (.keep (.keep .nil))) (Fz.le.refl _) ?_
  refine dT 7 rfl rfl rfl (by kernel_rfl) (fun _ _ _ h => h) (y_bd S37 rfl rfl) (.keep (.keep (.keep .nil))) (Fz.le.refl _) ?_
  refine dT 8 rfl rfl rfl (by kernel_rfl) (fun _ _ _ h => h) (y_ix2 (j := 0) Tryz.runUnderlying34 Tryz.sizeOf37 rfl rfl rfl rfl (by decide)) (.keep (.keep (.keep .nil))) (Fz.le.refl _) ?_
  refine dE 9 (by kernel_rfl) rfl ?_
  refine sa Tryz.sizeOf37 rfl rfl rfl rfl rfl (.tail .head) ?_
  refine dNk (by kernel_rfl) ?_
  refine dD (by kernel_rfl) ?_
  refine Nt ?_
  refine sq ?_
  refine rgD 9 (.keep (.keep (.keep .nil))) mixed ?_
  refine dT 0 rfl rfl rfl (by kernel_rfl) (fun _ _ _ h => h) (y_fa0 F37_3 rfl) (.keep (.keep (.keep .nil))) (Fz.le.refl _) ?_
  refine dT 1 rfl rfl rfl (by kernel_rfl) (fun _ _ _ h => h) (y_ld (Says.own .head) Tryz.isAgg34 rfl (Nat.zero_add _).symm rfl) (.keep (.keep (.keep .nil))) (Fz.le.refl _) ?_
  refine dT 2 rfl rfl rfl (by kernel_rfl) (fun _ _ _ h => h) (y_mv rfl) (.keep (.keep (.keep .nil))) (Fz.le.refl _) ?_
  refine dT 3 rfl rfl rfl (by kernel_rfl) (fun _ _ _ h => h) (y_nc rfl) (.keep (.keep (.keep .nil))) (Fz.le.refl _) ?_
  refine dT 4 rfl rfl rfl (by kernel_rfl) (fun _ _ _ h => h) (y_fa F141_1 rfl) (.keep (.keep (.keep .nil))) (Fz.le.refl _) ?_
  refine dT 5 rfl rfl rfl (by kernel_rfl) (fun _ _ _ h => h) (y_ld (j := 1) (Says.fz hb) Tryz.isAgg9 rfl rfl rfl) (.keep (.keep (.keep .nil))) (Fz.le.refl _) ?_
  refine dE 6 (by kernel_rfl) rfl ?_
  refine csb Tryz.underlying9 Tryz.underlying22 Tryz.underlying5 rfl (by have := (hf.at 1).s; unfold B47; omega) rfl (fun Hb22 b22 cp22 le_4 hb22 => ?_)
  refine dN (.keep (.keep (.keep .nil))) le_4 ?_
  refine dT 7 rfl rfl rfl (by kernel_rfl) (fun _ _ _ h => h) (y_bd S37 rfl rfl) (.keep (.keep (.keep .nil))) le_4 ?_
  refine dT 8 rfl rfl rfl (by kernel_rfl) (fun _ _ _ h => h) (y_ix2 (j := 1) Tryz.runUnderlying34 Tryz.sizeOf37 rfl rfl rfl rfl (by decide)) (.keep (.keep (.keep .nil))) le_4 ?_
  refine dE 9 (by kernel_rfl) rfl ?_
  refine sa Tryz.sizeOf37 rfl rfl rfl rfl rfl (.tail .head) ?_
  refine dNk (by kernel_rfl) ?_
  refine dD (by kernel_rfl) ?_
  refine Nt ?_
  refine sq ?_
  refine rgD 9 (.keep (.keep (.keep .nil))) mixed ?_
  refine dT 0 rfl rfl rfl (by kernel_rfl) (fun _ _ _ h => h) (y_fa0 F37_3 rfl) (.keep (.keep (.keep .nil))) (Fz.le.refl _) ?_
  refine dT 1 rfl rfl rfl (by kernel_rfl) (fun _ _ _ h => h) (y_ld (Says.own .head) Tryz.isAgg34 rfl (Nat.zero_add _).symm rfl) (.keep (.keep (.keep .nil))) (Fz.le.refl _) ?_
  refine dT 2 rfl rfl rfl (by kernel_rfl) (fun _ _ _ h => h) (y_mv rfl) (.keep (.keep (.keep .nil))) (Fz.le.refl _) ?_
  refine dT 3 rfl rfl rfl (by kernel_rfl) (fun _ _ _ h => h) (y_nc rfl) (.keep (.keep (.keep .nil))) (Fz.le.refl _) ?_
  refine dT 4 rfl rfl rfl (by kernel_rfl) (fun _ _ _ h => h) (y_fa F141_2 rfl) (.keep (.keep (.keep .nil))) (Fz.le.refl _) ?_
  refine dT 5 rfl rfl rfl (by kernel_rfl) (fun _ _ _ h => h) (y_ld (j := 2) (Says.fz (hb.mono le_4)) Tryz.isAgg139 rfl rfl rfl) (.keep (.keep (.keep .nil))) (Fz.le.refl _) ?_
  refine dT 6 rfl rfl rfl (by kernel_rfl) (fun _ _ _ h => h) (y_esn Tryz.underlying139 rfl) (.keep (.keep (.keep .nil))) (Fz.le.refl _) ?_
  refine dE 7 (by kernel_rfl) rfl ?_
  refine ixk (j := 2) Tryz.runUnderlying34 Tryz.sizeOf37 rfl rfl rfl rfl (by decide) rfl ?_
  refine dN (.keep (.keep (.keep .nil))) (Fz.le.refl _) ?_
  refine dT 8 rfl rfl rfl (by kernel_rfl) (fun _ _ _ h => h) (y_fa F37_2 rfl) (.keep (.keep (.keep .nil))) (Fz.le.refl _) ?_
  refine dE 9 (by kernel_rfl) rfl ?_
  refine st Tryz.sizeOf4 rfl rfl rfl rfl (.tail .head) ?_
  refine dNk (by kernel_rfl) ?_
  refine dD (by kernel_rfl) ?_
  refine Nt ?_
  refine sq ?_
  refine sr ?_
  refine mv rfl rfl ?_
  refine nc rfl rfl ?_
  refine fa F141_2 rfl rfl ?_
  refine ld (Says.fz (hb.mono le_4)) Tryz.isAgg139 rfl rfl rfl rfl ?_
  refine ls Tryz.runUnderlying139 rfl rfl ?_
  refine mv rfl rfl ?_
  refine nl ?_
  have hlm2 := (hf.at 2).lTl
  refine nulC2 ?_
  refine fr ((lT (T.at 2)).length) (fun k2 l' H' L' => ∃ (al2 : Option Addr), ∃ (ml2 : Nat), ∃ (cl2 : Nat), ∃ (es2 : List EE), ∃ (Nl2 : Chunk), [(0, .pointer (some ⟨b, o, none⟩)), (2, .pointer (some ⟨b_1, 0, none⟩)), (3, .pointer (some ⟨b_3, 0, none⟩)), (38, .int .i64 ((lT (T.at 2)).length : Int))] = l' ∧ Nl2 :: [(b_3, .cells [.int .i64 0, .slice none 0 0, .bool false, _, .slice none 0 0].toArray 37 (0, 0))] :: [(b_2, .cells [.int .i64 (IntKind.i8.wrap (T.at 0).n), .slice none 0 0, .bool false, .slice none 0 0, .slice none 0 0, .int .i64 0, .slice (some ⟨b22, 0, none⟩) (T.at 1).s.length cp22, .bool false, .slice none 0 0, .slice none 0 0, .int .i64 0, .slice none 0 0, .bool a2.isNone, .slice al2 ml2 cl2, .slice none 0 0].toArray 37 (0, 0))] :: [(b_1, .cells [.int .i64 0, .slice none 0 0, .bool false, .slice none 0 0, .slice none 0 0].toArray 37 (0, 0))] :: L = L' ∧ Row 37 5 al2 ml2 cl2 (es2.flatMap f5) Nl2 ∧ ml2 = es2.length ∧ es2.map (·.2) = ((lT (T.at 2)).take k2).map tl_IncrementalAlterConfigsRequestResourceConfig ∧ (∀ p : EE, p ∈ es2 → TreeAt H' p.1 p.2)) [(0, .pointer (some ⟨b, o, none⟩)), (2, .pointer (some ⟨b_1, 0, none⟩)), (3, .pointer (some ⟨b_3, 0, none⟩)), (38, .int .i64 ((lT (T.at 2)).length : Int))] (fun k2 l' H' L' h => ?_) (by omega) rfl (.cons rfl (.cons rfl (.cons rfl (.cons rfl (.nil _))))) ⟨none, 0, 0, [], [], rfl, rfl, (Row.nil _ _), rfl, (by simp), (fun p hp => by cases hp)⟩ rfl rfl rfl rfl rfl (fun k2 l' H' L' hk2 le_5 hI => ?_) (fun l' H' L' le_6 hI => ?_)
  · obtain ⟨al2, ml2, cl2, es2, Nl2, rfl, _⟩ := h; exact ⟨rfl, rfl, rfl, rfl⟩
  · skip
    obtain ⟨al2, ml2, cl2, es2, Nl2, rfl, rfl, pk20, pk21, pk22, pk23⟩ := hI
    refine sr ?_
    refine mv rfl rfl ?_
    refine asg rfl rfl ?_
    refine nl ?_
    refine sq ?_
    refine rgD 4 .nil mixed ?_
    refine dE 0 (by kernel_rfl) rfl ?_
    refine al Tryz.zeroValue4 rfl rfl (fun b_7 => ?_)
    refine dN .nil (Fz.le.refl _) ?_
    refine dE2 1 2 (by kernel_rfl) rfl rfl ?_ ?_
    · skip
      refine st Tryz.sizeOf4 rfl rfl rfl rfl .head ?_
      refine dN .nil (Fz.le.refl _) ?_
      refine dE 2 (by kernel_rfl) rfl ?_
      refine st Tryz.sizeOf4 rfl rfl rfl rfl .head ?_
      refine dN .nil (Fz.le.refl _) ?_
      refine dE 3 (by kernel_rfl) rfl ?_
      refine ld (Says.own .head) Tryz.isAgg4 rfl (Nat.zero_add _).symm rfl rfl ?_
      refine dN .nil (Fz.le.refl _) ?_
      refine dD (by kernel_rfl) ?_
      refine drN .head ?_
      refine Nt ?_
      refine cF rfl ?_
      refine rgD 18 (.skip (.keep (.keep (.keep .nil)))) mixed ?_
      refine dT 0 rfl rfl rfl (by kernel_rfl) (fun _ _ _ h => h) (y_fa0 F37_3 rfl) (.skip (.keep (.keep (.keep .nil)))) (Fz.le.refl _) ?_
      refine dT 1 rfl rfl rfl (by kernel_rfl) (fun _ _ _ h => h) (y_ld (Says.own .head) Tryz.isAgg34 rfl (Nat.zero_add _).symm rfl) (.skip (.keep (.keep (.keep .nil)))) (Fz.le.refl _) ?_
      refine dT 2 rfl rfl rfl (by kernel_rfl) (fun _ _ _ h => h) (y_fa0 F37_3 rfl) (.skip (.keep (.keep (.keep .nil)))) (Fz.le.refl _) ?_
      refine dT 3 rfl rfl rfl (by kernel_rfl) (fun _ _ _ h => h) (y_ld (Says.own .head) Tryz.isAgg34 rfl (Nat.zero_add _).symm rfl) (.skip (.keep (.keep (.keep .nil)))) (Fz.le.refl _) ?_
      refine dT 4 rfl rfl rfl (by kernel_rfl) (fun _ _ _ h => h) (y_ix2 (j := 2) Tryz.runUnderlying34 Tryz.sizeOf37 rfl rfl rfl rfl (by decide)) (.skip (.keep (.keep (.keep .nil)))) (Fz.le.refl _) ?_
      refine dT 5 rfl rfl rfl (by kernel_rfl) (fun _ _ _ h => h) (y_fa F37_3 rfl) (.skip (.keep (.keep (.keep .nil)))) (Fz.le.refl _) ?_
      refine dT 6 rfl rfl rfl (by kernel_rfl) (fun _ _ _ h => h) (y_ld (Says.own (.tail .head)) Tryz.isAgg34 rfl (Nat.zero_add _).symm rfl) (.skip (.keep (.keep (.keep .nil)))) (Fz.le.refl _) ?_
      refine dT 7 rfl rfl rfl (by kernel_rfl) (fun _ _ _ h => h) (y_mv rfl) (.skip (.keep (.keep (.keep .nil)))) (Fz.le.refl _) ?_
      refine dT 8 rfl rfl rfl (by kernel_rfl) (fun _ _ _ h => h) (y_nc rfl) (.skip (.keep (.keep (.keep .nil)))) (Fz.le.refl _) ?_
      refine dT 9 rfl rfl rfl (by kernel_rfl) (fun _ _ _ h => h) (y_fa F141_2 rfl) (.skip (.keep (.keep (.keep .nil)))) (Fz.le.refl _) ?_
      refine dT 10 rfl rfl rfl (by kernel_rfl) (fun _ _ _ h => h) (y_ld (j := 2) (Says.fz (hb.mono (le_4.trans le_5))) Tryz.isAgg139 rfl rfl rfl) (.skip (.keep (.keep (.keep .nil)))) (Fz.le.refl _) ?_
      refine dT 11 rfl rfl rfl (by kernel_rfl) (fun _ _ _ h => h) (y_mv rfl) (.skip (.keep (.keep (.keep .nil)))) (Fz.le.refl _) ?_
      obtain ⟨beq_8, oeq_8, haq_8, hlq_8⟩ := ((h1.mono At_IncrementalAlterConfigsRequestResourceConfig.mono (le_4.trans le_5))).rows.at_ (ne_nil_of_lt hk2)
      obtain ⟨ceq_8, hAq_8, hbq_8⟩ := hlq_8 k2 hk2
      refine dT 12 rfl rfl rfl (by kernel_rfl) (fun _ _ _ h => h) (y_ixk (j := k2) Tryz.runUnderlying139 Tryz.sizeOf173 rfl haq_8 rfl rfl hk2) (.skip (.keep (.keep (.keep .nil)))) (Fz.le.refl _) ?_
      refine dE 13 (by kernel_rfl) rfl ?_
      refine cl rfl rfl rfl (te_IncrementalAlterConfigsRequestResourceConfig hbq_8 (At_IncrementalAlterConfigsRequestResourceConfig.mono _ _ _ _ (Fz.le.refl _) hAq_8) ((hf.at 2).lTel (List.getElem_mem hk2))) rfl (fun v_ H1 L1 le_9 hR_ => ?_)
      obtain ⟨rfl, ct75, rfl, hT75⟩ := hR_
      refine dN (.skip (.keep (.keep (.keep .nil)))) le_9 ?_
      refine dE 14 (by kernel_rfl) rfl ?_
      refine bs' L34 rfl rfl rfl rfl (fun b_10 => ?_)
      refine dN (.skip (.skip (.keep (.keep (.keep .nil))))) le_9 ?_
      refine dE 15 (by kernel_rfl) rfl ?_
      have hmk : ml2 = k2 := by have h1 := congrArg List.length pk22; rw [List.length_map, List.length_map, List.length_take] at h1; omega
      have hmb := (hf.at 2).lTl
      refine ap (k := 1) (news := f5 ((ct75, tl_IncrementalAlterConfigsRequestResourceConfig (lT (T.at 2))[k2]) : EE)) Tryz.underlying34 I37 rfl rfl pk20 (fun _ => (.tail .head)) (src_says Tryz.underlying34 rfl (fun _ => Says.own .head) (f5_one _)) (by omega) (by unfold maxLen; omega) rfl (fun a77 c77 N77 r77 z77 => ?_)
      rw [flatMap_snoc'] at r77
      refine dN (.skip (.skip (.keep (.keep (.keep .nil))))) le_9 ?_
      refine dE 16 (by kernel_rfl) rfl ?_
      refine ixk (j := 2) Tryz.runUnderlying34 Tryz.sizeOf37 rfl rfl rfl rfl (by decide) rfl ?_
      refine dN (.skip (.skip (.keep (.keep (.keep .nil))))) le_9 ?_
      refine dT 17 rfl rfl rfl (by kernel_rfl) (fun _ _ _ h => h) (y_fa F37_3 rfl) (.skip (.skip (.keep (.keep (.keep .nil))))) le_9 ?_
      refine dE 18 (by kernel_rfl) rfl ?_
      refine st Tryz.sizeOf34 rfl rfl rfl rfl (.tail (.tail (.tail .head))) ?_
      refine dNk (by kernel_rfl) ?_
      refine dD (by kernel_rfl) ?_
      refine Nb ?_
      refine drN .head ?_
      refine fun a_ w_ hA hw => ⟨_, _, _, hA.sub ?_, (le_5.trans le_9), hw, _, rfl, a77, (ml2 + 1), c77, (es2 ++ [((ct75, tl_IncrementalAlterConfigsRequestResourceConfig (lT (T.at 2))[k2]) : EE)]), N77, rfl, rfl, r77, (by simp; omega), (map_take_snoc (g := tl_IncrementalAlterConfigsRequestResourceConfig) hk2 pk22), (fun p hp => (mem_snoc hp).elim (fun h => (pk23 p h).mono le_9) (fun h => h ▸ hT75))⟩
      exact (.cons rfl (.cons rfl (.cons rfl (.cons rfl (.cons rfl (.nil _))))))
    · skip
      refine st Tryz.sizeOf4 rfl rfl rfl rfl .head ?_
      refine dN .nil (Fz.le.refl _) ?_
      refine dE 1 (by kernel_rfl) rfl ?_
      refine st Tryz.sizeOf4 rfl rfl rfl rfl .head ?_
      refine dN .nil (Fz.le.refl _) ?_
      refine dE 3 (by kernel_rfl) rfl ?_
      refine ld (Says.own .head) Tryz.isAgg4 rfl (Nat.zero_add _).symm rfl rfl ?_
      refine dN .nil (Fz.le.refl _) ?_
      refine dD (by kernel_rfl) ?_
      refine drN .head ?_
      refine Nt ?_
      refine cT rfl ?_
      refine sq ?_
      refine rgD 17 (.skip (.keep (.keep (.keep .nil)))) mixed ?_
      refine dT 0 rfl rfl rfl (by kernel_rfl) (fun _ _ _ h => h) (y_fa0 F37_3 rfl) (.skip (.keep (.keep (.keep .nil)))) (Fz.le.refl _) ?_
      refine dT 1 rfl rfl rfl (by kernel_rfl) (fun _ _ _ h => h) (y_ld (Says.own .head) Tryz.isAgg34 rfl (Nat.zero_add _).symm rfl) (.skip (.keep (.keep (.keep .nil)))) (Fz.le.refl _) ?_
      refine dT 2 rfl rfl rfl (by kernel_rfl) (fun _ _ _ h => h) (y_ix2 (j := 2) Tryz.runUnderlying34 Tryz.sizeOf37 rfl rfl rfl rfl (by decide)) (.skip (.keep (.keep (.keep .nil)))) (Fz.le.refl _) ?_
      refine dT 3 rfl rfl rfl (by kernel_rfl) (fun _ _ _ h => h) (y_fa F37_3 rfl) (.skip (.keep (.keep (.keep .nil)))) (Fz.le.refl _) ?_
      refine dT 4 rfl rfl rfl (by kernel_rfl) (fun _ _ _ h => h) (y_ld (Says.own (.tail .head)) Tryz.isAgg34 rfl (Nat.zero_add _).symm rfl) (.skip (.keep (.keep (.keep .nil)))) (Fz.le.refl _) ?_
      refine dT 5 rfl rfl rfl (by kernel_rfl) (fun _ _ _ h => h) (y_mv rfl) (.skip (.keep (.keep (.keep .nil)))) (Fz.le.refl _) ?_
      refine dT 6 rfl rfl rfl (by kernel_rfl) (fun _ _ _ h => h) (y_nc rfl) (.skip (.keep (.keep (.keep .nil)))) (Fz.le.refl _) ?_
      refine dT 7 rfl rfl rfl (by kernel_rfl) (fun _ _ _ h => h) (y_fa F141_2 rfl) (.skip (.keep (.keep (.keep .nil)))) (Fz.le.refl _) ?_
      refine dT 8 rfl rfl rfl (by kernel_rfl) (fun _ _ _ h => h) (y_ld (j := 2) (Says.fz (hb.mono (le_4.trans le_5))) Tryz.isAgg139 rfl rfl rfl) (.skip (.keep (.keep (.keep .nil)))) (Fz.le.refl _) ?_
      refine dT 9 rfl rfl rfl (by kernel_rfl) (fun _ _ _ h => h) (y_mv rfl) (.skip (.keep (.keep (.keep .nil)))) (Fz.le.refl _) ?_
      obtain ⟨beq_11, oeq_11, haq_11, hlq_11⟩ := ((h1.mono At_IncrementalAlterConfigsRequestResourceConfig.mono (le_4.trans le_5))).rows.at_ (ne_nil_of_lt hk2)
      obtain ⟨ceq_11, hAq_11, hbq_11⟩ := hlq_11 k2 hk2
      refine dT 10 rfl rfl rfl (by kernel_rfl) (fun _ _ _ h => h) (y_ixk (j := k2) Tryz.runUnderlying139 Tryz.sizeOf173 rfl haq_11 rfl rfl hk2) (.skip (.keep (.keep (.keep .nil)))) (Fz.le.refl _) ?_
      refine dT 12 rfl rfl rfl (by kernel_rfl) (fun _ _ _ h => h) (y_ls Tryz.runUnderlying34 rfl) (.skip (.keep (.keep (.keep .nil)))) (Fz.le.refl _) ?_
      refine dE2 11 13 (by kernel_rfl) rfl rfl ?_ ?_
      · skip
        refine cl rfl rfl rfl (te_IncrementalAlterConfigsRequestResourceConfig hbq_11 (At_IncrementalAlterConfigsRequestResourceConfig.mono _ _ _ _ (Fz.le.refl _) hAq_11) ((hf.at 2).lTel (List.getElem_mem hk2))) rfl (fun v_ H1 L1 le_12 hR_ => ?_)
        obtain ⟨rfl, ct55, rfl, hT55⟩ := hR_
        refine dN (.skip (.keep (.keep (.keep .nil)))) le_12 ?_
        refine dE 13 (by kernel_rfl) rfl ?_
        refine bs' L34 rfl rfl rfl rfl (fun b_13 => ?_)
        refine dN (.skip (.skip (.keep (.keep (.keep .nil))))) le_12 ?_
        refine dE 14 (by kernel_rfl) rfl ?_
        have hmk : ml2 = k2 := by have h1 := congrArg List.length pk22; rw [List.length_map, List.length_map, List.length_take] at h1; omega
        have hmb := (hf.at 2).lTl
        refine ap (k := 1) (news := f5 ((TC.none, Tr.none) : EE)) Tryz.underlying34 I37 rfl rfl pk20 (fun _ => (.tail .head)) (src_says Tryz.underlying34 rfl (fun _ => Says.own .head) (f5_one _)) (by omega) (by unfold maxLen; omega) rfl (fun a58 c58 N58 r58 z58 => ?_)
        refine dN (.skip (.skip (.keep (.keep (.keep .nil))))) le_12 ?_
        refine dE 15 (by kernel_rfl) rfl ?_
        refine ixk (j := 2) Tryz.runUnderlying34 Tryz.sizeOf37 rfl rfl rfl rfl (by decide) rfl ?_
        refine dN (.skip (.skip (.keep (.keep (.keep .nil))))) le_12 ?_
        refine dT 16 rfl rfl rfl (by kernel_rfl) (fun _ _ _ h => h) (y_fa F37_3 rfl) (.skip (.skip (.keep (.keep (.keep .nil))))) le_12 ?_
        refine dE 17 (by kernel_rfl) rfl ?_
        refine st Tryz.sizeOf34 rfl rfl rfl rfl (.tail (.tail (.tail .head))) ?_
        refine dNk (by kernel_rfl) ?_
        refine dD (by kernel_rfl) ?_
        refine Nt ?_
        refine rg ?_
        obtain ⟨gg58, hgg58⟩ := r58.addr (by omega)
        refine ixk (j := ml2) Tryz.runUnderlying34 Tryz.sizeOf37 rfl hgg58 rfl rfl (by omega) rfl ?_
        refine sR (ds := f5 ((ct55, tl_IncrementalAlterConfigsRequestResourceConfig (lT (T.at 2))[k2]) : EE)) r58 hgg58 (fun _ => (.tail .head)) Tryz.sizeOf37 rfl rfl rfl rfl (by omega) (fun N58b r58b => ?_)
        rw [row_put (k := 5) (m := ml2) (A := es2.flatMap f5) (by rw [flatMap_len f5 5 f5_len, pk21]) rfl, flatMap_snoc'] at r58b
        refine nN ?_
        refine Nb ?_
        refine drN .head ?_
        refine fun a_ w_ hA hw => ⟨_, _, _, hA.sub ?_, (le_5.trans le_12), hw, _, rfl, a58, (ml2 + 1), c58, (es2 ++ [((ct55, tl_IncrementalAlterConfigsRequestResourceConfig (lT (T.at 2))[k2]) : EE)]), N58b, rfl, rfl, r58b, (by simp; omega), (map_take_snoc (g := tl_IncrementalAlterConfigsRequestResourceConfig) hk2 pk22), (fun p hp => (mem_snoc hp).elim (fun h => (pk23 p h).mono le_12) (fun h => h ▸ hT55))⟩
        exact (.cons rfl (.cons rfl (.cons rfl (.cons rfl (.cons rfl (.nil _))))))
      · skip
        refine bs' L34 rfl rfl rfl rfl (fun b_14 => ?_)
        refine dN (.skip (.skip (.keep (.keep (.keep .nil))))) (Fz.le.refl _) ?_
        refine dE 11 (by kernel_rfl) rfl ?_
        refine cl rfl rfl rfl (te_IncrementalAlterConfigsRequestResourceConfig hbq_11 (At_IncrementalAlterConfigsRequestResourceConfig.mono _ _ _ _ (Fz.le.refl _) hAq_11) ((hf.at 2).lTel (List.getElem_mem hk2))) rfl (fun v_ H1 L1 le_15 hR_ => ?_)
        obtain ⟨rfl, ct55, rfl, hT55⟩ := hR_
        refine dN (.skip (.skip (.keep (.keep (.keep .nil))))) le_15 ?_
        refine dE 14 (by kernel_rfl) rfl ?_
        have hmk : ml2 = k2 := by have h1 := congrArg List.length pk22; rw [List.length_map, List.length_map, List.length_take] at h1; omega
        have hmb := (hf.at 2).lTl
        refine ap (k := 1) (news := f5 ((TC.none, Tr.none) : EE)) Tryz.underlying34 I37 rfl rfl pk20 (fun _ => (.tail .head)) (src_says Tryz.underlying34 rfl (fun _ => Says.own .head) (f5_one _)) (by omega) (by unfold maxLen; omega) rfl (fun a58 c58 N58 r58 z58 => ?_)
        refine dN (.skip (.skip (.keep (.keep (.keep .nil))))) le_15 ?_
        refine dE 15 (by kernel_rfl) rfl ?_
        refine ixk (j := 2) Tryz.runUnderlying34 Tryz.sizeOf37 rfl rfl rfl rfl (by decide) rfl ?_
        refine dN (.skip (.skip (.keep (.keep (.keep .nil))))) le_15 ?_
        refine dT 16 rfl rfl rfl (by kernel_rfl) (fun _ _ _ h => h) (y_fa F37_3 rfl) (.skip (.skip (.keep (.keep (.keep .nil))))) le_15 ?_
        refine dE 17 (by kernel_rfl) rfl ?_
        refine st Tryz.sizeOf34 rfl rfl rfl rfl (.tail (.tail (.tail .head))) ?_
        refine dNk (by kernel_rfl) ?_
        refine dD (by kernel_rfl) ?_
        refine Nt ?_
        refine rg ?_
        obtain ⟨gg58, hgg58⟩ := r58.addr (by omega)
        refine ixk (j := ml2) Tryz.runUnderlying34 Tryz.sizeOf37 rfl hgg58 rfl rfl (by omega) rfl ?_
        refine sR (ds := f5 ((ct55, tl_IncrementalAlterConfigsRequestResourceConfig (lT (T.at 2))[k2]) : EE)) r58 hgg58 (fun _ => (.tail .head)) Tryz.sizeOf37 rfl rfl rfl rfl (by omega) (fun N58b r58b => ?_)
        rw [row_put (k := 5) (m := ml2) (A := es2.flatMap f5) (by rw [flatMap_len f5 5 f5_len, pk21]) rfl, flatMap_snoc'] at r58b
        refine nN ?_
        refine Nb ?_
        refine drN .head ?_
        refine fun a_ w_ hA hw => ⟨_, _, _, hA.sub ?_, (le_5.trans le_15), hw, _, rfl, a58, (ml2 + 1), c58, (es2 ++ [((ct55, tl_IncrementalAlterConfigsRequestResourceConfig (lT (T.at 2))[k2]) : EE)]), N58b, rfl, rfl, r58b, (by simp; omega), (map_take_snoc (g := tl_IncrementalAlterConfigsRequestResourceConfig) hk2 pk22), (fun p hp => (mem_snoc hp).elim (fun h => (pk23 p h).mono le_15) (fun h => h ▸ hT55))⟩
        exact (.cons rfl (.cons rfl (.cons rfl (.cons rfl (.cons rfl (.nil _))))))
  · skip
    obtain ⟨al2, ml2, cl2, es2, Nl2, rfl, rfl, pk20, pk21, pk22, pk23⟩ := hI
    refine toWp ?_
    have hes2 : es2.map (·.2) = (lT (T.at 2)).map tl_IncrementalAlterConfigsRequestResourceConfig := by rw [pk22, List.take_length]
    have hm2 : ml2 = ((lT (T.at 2)).map tl_IncrementalAlterConfigsRequestResourceConfig).length := by rw [← hes2, List.length_map]; exact pk21
    refine frW pk20 .head (fun Hl2 hll2 hzl2 => ?_)
    have ht2 := TreesAt.row hzl2 pk21 pk20.le.1 (by have h1 := congrArg List.length hes2; rw [List.length_map, List.length_map] at h1; unfold B47; omega) (fun p hp => (pk23 p hp).mono hll2)
    rw [hes2] at ht2
    subst hm2
    refine sr ?_
    refine mv rfl rfl ?_
    refine nc rfl rfl ?_
    refine fa F141_3 rfl rfl ?_
    refine mkf rfl rfl ?_
    have hkv_ := (h2.mono (le_4.trans (le_6.trans hll2)))
    obtain ⟨kvs, hM, hlen, hel⟩ := hkv_
    have hfu := hf.u
    refine cl rfl rfl rfl (t_each (j := 3) (I := fun i H1 Y => TgI 69 b_3 37 (.int .i64 0) (.slice none 0 0) (.bool false) (_) T.u i H1 Y) (hb.mono (le_4.trans (le_6.trans hll2))) rfl hM (by omega) (fun i H1 H2 Y hle h => h.mono hle) TgI.start (fun i k v H1 Y L1 hi hle hI => ?_)) rfl (fun v_ H1 L1 le_17 hR_ => ?_)
    · obtain ⟨s, h1, ⟨va, vc, rfl, hx⟩, h2, h3⟩ := hel i k v hi
      have hik := sortKv_lt hi
      exact TgI.step (fun {_ _ _ _ _ _ _ _ _ _ _ _ _ _ _ _} => tc_142) hf.v (by omega) h1 (hx.mono hle) h2 h3 hI
    rw [hlen] at hR_
    obtain ⟨_, rfl, aU, cU, NU, esU, rfl, hrU, heU, hgU⟩ := hR_
    refine splL ?_
    rw [List.take_length] at heU
    refine frL hrU (.tail .head) (fun HU hleU hzU => ?_)
    have hU := (TagsAt.told hzU hrU heU hfu (fun p hp => (hgU p hp).mono hleU)).1
    refine nl ?_
    refine sr ?_
    refine fa0 F37_4 rfl rfl ?_
    refine ld (Says.own .head) Tryz.isAgg35 rfl (Nat.zero_add _).symm rfl rfl ?_
    refine cl rfl rfl rfl (k_sorted hU (h2.mono (le_4.trans (le_6.trans (hll2.trans (le_17.trans hleU))))).rise) rfl (fun v_ H1 L1 hle_ hR_ => ?_)
    obtain ⟨rfl, rfl⟩ := hR_
    refine nl ?_
    refine sr ?_
    refine la (Says.own .head) Tryz.isAgg37 Tryz.sizeOf37 rfl (Nat.zero_add _).symm rfl rfl ?_
    refine sa Tryz.sizeOf37 rfl rfl rfl rfl rfl (.tail (.tail .head)) ?_
    refine nl ?_
    refine drW .head ?_
    refine frW (Row.whole (e := 37) (size := 5) (m := 3) (ds := [.int .i64 (IntKind.i8.wrap (T.at 0).n), .slice none 0 0, .bool false, .slice none 0 0, .slice none 0 0, .int .i64 0, .slice (some ⟨b22, 0, none⟩) (T.at 1).s.length cp22, .bool false, .slice none 0 0, .slice none 0 0, .int .i64 0, .slice none 0 0, .bool a2.isNone, .slice al2 ((lT (T.at 2)).map tl_IncrementalAlterConfigsRequestResourceConfig).length cl2, .slice none 0 0]) rfl (by unfold maxLen; omega)) .head (fun H9 hle9 hz9 => ?_)
    have hrb : H9.at b_2 0 [.int .i64 (IntKind.i8.wrap (T.at 0).n), .slice none 0 0, .bool false, .slice none 0 0, .slice none 0 0, .int .i64 0, .slice (some ⟨b22, 0, none⟩) (T.at 1).s.length cp22, .bool false, .slice none 0 0, .slice none 0 0, .int .i64 0, .slice none 0 0, .bool a2.isNone, .slice al2 ((lT (T.at 2)).map tl_IncrementalAlterConfigsRequestResourceConfig).length cl2, .slice none 0 0] := by
      rcases hz9 with ⟨h, _⟩ | ⟨g, h, h2⟩
      · cases h
      · cases h; exact h2
    rw [(h1).nul] at hrb
    have hrb2 : H9.at b_2 0 (([((TC.none : TC), (Tr.mk (IntKind.i8.wrap (T.at 0).n) [] false [] [] : Tr)), ((⟨some ⟨b22, 0, none⟩, cp22, none, 0, none, 0⟩ : TC), (Tr.mk 0 (T.at 1).s false [] [] : Tr)), ((⟨none, 0, al2, cl2, none, 0⟩ : TC), (Tr.mk 0 [] (T.at 2).nul ((lT (T.at 2)).map tl_IncrementalAlterConfigsRequestResourceConfig) [] : Tr))] : List EE).flatMap fun p => p.1.cells p.2) := by exact hrb
    have hl9 : TreesAt H9 (some ⟨b_2, 0, none⟩) 3 [(.mk (IntKind.i8.wrap (T.at 0).n) [] false [] []), (.mk 0 (T.at 1).s false [] []), (.mk 0 [] (T.at 2).nul ((lT (T.at 2)).map tl_IncrementalAlterConfigsRequestResourceConfig) [])] := by
      refine TreesAt.row (es := [((TC.none : TC), (Tr.mk (IntKind.i8.wrap (T.at 0).n) [] false [] [] : Tr)), ((⟨some ⟨b22, 0, none⟩, cp22, none, 0, none, 0⟩ : TC), (Tr.mk 0 (T.at 1).s false [] [] : Tr)), ((⟨none, 0, al2, cl2, none, 0⟩ : TC), (Tr.mk 0 [] (T.at 2).nul ((lT (T.at 2)).map tl_IncrementalAlterConfigsRequestResourceConfig) [] : Tr))]) (.inr ⟨_, rfl, hrb2⟩) rfl (Nat.le_refl _) (Nat.le_of_ble_eq_true rfl) ?_
      intro p hp
      simp only [List.mem_cons, List.not_mem_nil, or_false] at hp
      rcases hp with rfl | rfl | rfl
      · exact (.of (.nil _) (.nil _) (.nil _))
      · exact (.of (hb22.mono (le_6.trans (hll2.trans (le_17.trans (hleU.trans hle9))))) (.nil _) (.nil _))
      · exact (.of (.nil _) (ht2.mono (le_17.trans (hleU.trans hle9))) (.nil _))
    exact rC rfl Tryz.isAgg37 Tryz.sizeOf37 rfl .head rfl (le_4.trans (le_6.trans (hll2.trans (le_17.trans (hleU.trans hle9))))) (fun _ _ h => h) ⟨rfl, ⟨none, 0, some ⟨b_2, 0, none⟩, 3, aU, cU⟩, rfl, .of (.nil _) hl9 (hU.mono hle9)⟩
def tl_IncrementalAlterConfigsRequest (T : Tr) : Tr := .mk 0 [] false [(.mk 0 [] (T.at 0).nul ((lT (T.at 0)).map tl_IncrementalAlterConfigsRequestResource) []), (.mk (if decide ((T.at 1).n % 2 = 1) = true then 1 else 0) [] false [] [])] T.u
theorem te_IncrementalAlterConfigsRequest {H : Fz} {L : Own} {b o : Nat} {cs : List Value} {T : Tr} {ver : Int} (hb : H.at b o cs) (hA : At_IncrementalAlterConfigsRequest ver H T cs) (hf : Fits T) :
    Fn Tryz.prog 68 [.pointer (some ⟨b, o, none⟩)] H L (fun v H' L' => L = L' ∧ ∃ c : TC, v = .agg (c.cells (tl_IncrementalAlterConfigsRequest T)).toArray ∧ TreeAt H' c (tl_IncrementalAlterConfigsRequest T)) := by
  obtain ⟨a0, c0, mt, rfl, h1, h2⟩ := hA
  refine Fn.mk Tryz.call68 Tryz.func68 rfl Tryz.ntmps68 rfl ?_
  refine sr ?_
  refine al Tryz.zeroValue37 rfl rfl (fun b_1 => ?_)
  refine nl ?_
  refine sr ?_
  refine mkC (m := 2) (zs := [.int .i64 0, .slice none 0 0, .bool false, .slice none 0 0, .slice none 0 0]) Tryz.underlying34 I37 rfl rfl rfl rfl rfl rfl (by decide) (by unfold maxLen; omega) rfl (fun b_2 => ?_)
  refine bd' S37 rfl rfl rfl ?_
  refine al Tryz.zeroValue37 rfl rfl (fun b_3 => ?_)
  refine sa Tryz.sizeOf37 rfl rfl rfl rfl rfl .head ?_
  refine nl ?_
  refine sq ?_
  refine rgD 9 (.keep (.keep (.keep .nil))) mixed ?_
  refine dT 0 rfl rfl rfl (by kernel_rfl) (fun _ _ _ h => h) (y_fa0 F37_3 rfl) (.keep (.keep (.keep .nil))) (Fz.le.refl _) ?_
  refine dT 1 rfl rfl rfl (by kernel_rfl) (fun _ _ _ h => h) (y_ld (Says.own .head) Tryz.isAgg34 rfl (Nat.zero_add _).symm rfl) (.keep (.keep (.keep .nil))) (Fz.le.refl _) ?_
  refine dT 2 rfl rfl rfl (by kernel_rfl) (fun _ _ _ h => h) (y_mv rfl) (.keep (.keep (.keep .nil))) (Fz.le.refl _) ?_
  refine dT 3 rfl rfl rfl (by kernel_rfl) (fun _ _ _ h => h) (y_nc rfl) (.keep (.keep (.keep .nil))) (Fz.le.refl _) ?_
  refine dT 4 rfl rfl rfl (by kernel_rfl) (fun _ _ _ h => h) (y_fa F134_1 rfl) (.keep (.keep (.keep .nil))) (Fz.le.refl _) ?_
  refine dT 5 rfl rfl rfl (by kernel_rfl) (fun _ _ _ h => h) (y_ld (j := 1) (Says.fz hb) Tryz.isAgg132 rfl rfl rfl) (.keep (.keep (.keep .nil))) (Fz.le.refl _) ?_
  refine dT 6 rfl rfl rfl (by kernel_rfl) (fun _ _ _ h => h) (y_esn Tryz.underlying132 rfl) (.keep (.keep (.keep .nil))) (Fz.le.refl _) ?_
  refine dE 7 (by kernel_rfl) rfl ?_
  refine ixk (j := 0) Tryz.runUnderlying34 Tryz.sizeOf37 rfl rfl rfl rfl (by decide) rfl ?_
  refine dN (.keep (.keep (.keep .nil))) (Fz.le.refl _) ?_
  refine dT 8 rfl rfl rfl (by kernel_rfl) (fun _ _ _ h => h) (y_fa F37_2 rfl) (.keep (.keep (.keep .nil))) (Fz.le.refl _) ?_
  refine dE 9 (by kernel_rfl) rfl ?_
  refine st Tryz.sizeOf4 rfl rfl rfl rfl (.tail .head) ?_
  refine dNk (by kernel_rfl) ?_
  refine dD (by kernel_rfl) ?_
  refine Nt ?_
  refine sq ?_
  refine sr ?_
  refine mv rfl rfl ?_
  refine nc rfl rfl ?_
  refine fa F134_1 rfl rfl ?_
  refine ld (Says.fz hb) Tryz.isAgg132 rfl rfl rfl rfl ?_
  refine ls Tryz.runUnderlying132 rfl rfl ?_
  refine mv rfl rfl ?_
  refine nl ?_
  have hlm0 := (hf.at 0).lTl
  refine nulC2 ?_
  refine fr ((lT (T.at 0)).length) (fun k0 l' H' L' => ∃ (al0 : Option Addr), ∃ (ml0 : Nat), ∃ (cl0 : Nat), ∃ (es0 : List EE), ∃ (Nl0 : Chunk), [(0, .pointer (some ⟨b, o, none⟩)), (2, .pointer (some ⟨b_1, 0, none⟩)), (3, .pointer (some ⟨b_3, 0, none⟩)), (20, .int .i64 ((lT (T.at 0)).length : Int))] = l' ∧ Nl0 :: [(b_3, .cells [.int .i64 0, .slice none 0 0, .bool false, _, .slice none 0 0].toArray 37 (0, 0))] :: [(b_2, .cells [.int .i64 0, .slice none 0 0, .bool a0.isNone, .slice al0 ml0 cl0, .slice none 0 0, .int .i64 0, .slice none 0 0, .bool false, .slice none 0 0, .slice none 0 0].toArray 37 (0, 0))] :: [(b_1, .cells [.int .i64 0, .slice none 0 0, .bool false, .slice none 0 0, .slice none 0 0].toArray 37 (0, 0))] :: L = L' ∧ Row 37 5 al0 ml0 cl0 (es0.flatMap f5) Nl0 ∧ ml0 = es0.length ∧ es0.map (·.2) = ((lT (T.at 0)).take k0).map tl_IncrementalAlterConfigsRequestResource ∧ (∀ p : EE, p ∈ es0 → TreeAt H' p.1 p.2)) [(0, .pointer (some ⟨b, o, none⟩)), (2, .pointer (some ⟨b_1, 0, none⟩)), (3, .pointer (some ⟨b_3, 0, none⟩)), (20, .int .i64 ((lT (T.at 0)).length : Int))] (fun k0 l' H' L' h => ?_) (by omega) rfl (.cons rfl (.cons rfl (.cons rfl (.cons rfl (.nil _))))) ⟨none, 0, 0, [], [], rfl, rfl, (Row.nil _ _), rfl, (by simp), (fun p hp => by cases hp)⟩ rfl rfl rfl rfl rfl (fun k0 l' H' L' hk0 le_4 hI => ?_) (fun l' H' L' le_5 hI => ?_)
  · obtain ⟨al0, ml0, cl0, es0, Nl0, rfl, _⟩ := h; exact ⟨rfl, rfl, rfl, rfl⟩
  · skip
    obtain ⟨al0, ml0, cl0, es0, Nl0, rfl, rfl, pk00, pk01, pk02, pk03⟩ := hI
    refine sr ?_
    refine mv rfl rfl ?_
    refine asg rfl rfl ?_
    refine nl ?_
    refine sq ?_
    refine rgD 4 .nil mixed ?_
    refine dE 0 (by kernel_rfl) rfl ?_
    refine al Tryz.zeroValue4 rfl rfl (fun b_6 => ?_)
    refine dN .nil (Fz.le.refl _) ?_
    refine dE2 1 2 (by kernel_rfl) rfl rfl ?_ ?_
    · skip
      refine st Tryz.sizeOf4 rfl rfl rfl rfl .head ?_
      refine dN .nil (Fz.le.refl _) ?_
      refine dE 2 (by kernel_rfl) rfl ?_
      refine st Tryz.sizeOf4 rfl rfl rfl rfl .head ?_
      refine dN .nil (Fz.le.refl _) ?_
      refine dE 3 (by kernel_rfl) rfl ?_
      refine ld (Says.own .head) Tryz.isAgg4 rfl (Nat.zero_add _).symm rfl rfl ?_
      refine dN .nil (Fz.le.refl _) ?_
      refine dD (by kernel_rfl) ?_
      refine drN .head ?_
      refine Nt ?_
      refine cF rfl ?_
      refine rgD 18 (.skip (.keep (.keep (.keep .nil)))) mixed ?_
      refine dT 0 rfl rfl rfl (by kernel_rfl) (fun _ _ _ h => h) (y_fa0 F37_3 rfl) (.skip (.keep (.keep (.keep .nil)))) (Fz.le.refl _) ?_
      refine dT 1 rfl rfl rfl (by kernel_rfl) (fun _ _ _ h => h) (y_ld (Says.own .head) Tryz.isAgg34 rfl (Nat.zero_add _).symm rfl) (.skip (.keep (.keep (.keep .nil)))) (Fz.le.refl _) ?_
      refine dT 2 rfl rfl rfl (by kernel_rfl) (fun _ _ _ h => h) (y_fa0 F37_3 rfl) (.skip (.keep (.keep (.keep .nil)))) (Fz.le.refl _) ?_
      refine dT 3 rfl rfl rfl (by kernel_rfl) (fun _ _ _ h => h) (y_ld (Says.own .head) Tryz.isAgg34 rfl (Nat.zero_add _).symm rfl) (.skip (.keep (.keep (.keep .nil)))) (Fz.le.refl _) ?_
      refine dT 4 rfl rfl rfl (by kernel_rfl) (fun _ _ _ h => h) (y_ix2 (j := 0) Tryz.runUnderlying34 Tryz.sizeOf37 rfl rfl rfl rfl (by decide)) (.skip (.keep (.keep (.keep .nil)))) (Fz.le.refl _) ?_
      refine dT 5 rfl rfl rfl (by kernel_rfl) (fun _ _ _ h => h) (y_fa F37_3 rfl) (.skip (.keep (.keep (.keep .nil)))) (Fz.le.refl _) ?_
      refine dT 6 rfl rfl rfl (by kernel_rfl) (fun _ _ _ h => h) (y_ld (Says.own (.tail .head)) Tryz.isAgg34 rfl (Nat.zero_add _).symm rfl) (.skip (.keep (.keep (.keep .nil)))) (Fz.le.refl _) ?_
      refine dT 7 rfl rfl rfl (by kernel_rfl) (fun _ _ _ h => h) (y_mv rfl) (.skip (.keep (.keep (.keep .nil)))) (Fz.le.refl _) ?_
      refine dT 8 rfl rfl rfl (by kernel_rfl) (fun _ _ _ h => h) (y_nc rfl) (.skip (.keep (.keep (.keep .nil)))) (Fz.le.refl _) ?_
      refine dT 9 rfl rfl rfl (by kernel_rfl) (fun _ _ _ h => h) (y_fa F134_1 rfl) (.skip (.keep (.keep (.keep .nil)))) (Fz.le.refl _) ?_
      refine dT 10 rfl rfl rfl (by kernel_rfl) (fun _ _ _ h => h) (y_ld (j := 1) (Says.fz (hb.mono le_4)) Tryz.isAgg132 rfl rfl rfl) (.skip (.keep (.keep (.keep .nil)))) (Fz.le.refl _) ?_
      refine dT 11 rfl rfl rfl (by kernel_rfl) (fun _ _ _ h => h) (y_mv rfl) (.skip (.keep (.keep (.keep .nil)))) (Fz.le.refl _) ?_
      obtain ⟨beq_7, oeq_7, haq_7, hlq_7⟩ := ((h1.mono At_IncrementalAlterConfigsRequestResource.mono le_4)).rows.at_ (ne_nil_of_lt hk0)
      obtain ⟨ceq_7, hAq_7, hbq_7⟩ := hlq_7 k0 hk0
      refine dT 12 rfl rfl rfl (by kernel_rfl) (fun _ _ _ h => h) (y_ixk (j := k0) Tryz.runUnderlying132 Tryz.sizeOf141 rfl haq_7 rfl rfl hk0) (.skip (.keep (.keep (.keep .nil)))) (Fz.le.refl _) ?_
      refine dE 13 (by kernel_rfl) rfl ?_
      refine cl rfl rfl rfl (te_IncrementalAlterConfigsRequestResource hbq_7 (At_IncrementalAlterConfigsRequestResource.mono _ _ _ _ (Fz.le.refl _) hAq_7) ((hf.at 0).lTel (List.getElem_mem hk0))) rfl (fun v_ H1 L1 le_8 hR_ => ?_)
      obtain ⟨rfl, ct57, rfl, hT57⟩ := hR_
      refine dN (.skip (.keep (.keep (.keep .nil)))) le_8 ?_
      refine dE 14 (by kernel_rfl) rfl ?_
      refine bs' L34 rfl rfl rfl rfl (fun b_9 => ?_)
      refine dN (.skip (.skip (.keep (.keep (.keep .nil))))) le_8 ?_
      refine dE 15 (by kernel_rfl) rfl ?_
      have hmk : ml0 = k0 := by have h1 := congrArg List.length pk02; rw [List.length_map, List.length_map, List.length_take] at h1; omega
      have hmb := (hf.at 0).lTl
      refine ap (k := 1) (news := f5 ((ct57, tl_IncrementalAlterConfigsRequestResource (lT (T.at 0))[k0]) : EE)) Tryz.underlying34 I37 rfl rfl pk00 (fun _ => (.tail .head)) (src_says Tryz.underlying34 rfl (fun _ => Says.own .head) (f5_one _)) (by omega) (by unfold maxLen; omega) rfl (fun a59 c59 N59 r59 z59 => ?_)
      rw [flatMap_snoc'] at r59
      refine dN (.skip (.skip (.keep (.keep (.keep .nil))))) le_8 ?_
      refine dE 16 (by kernel_rfl) rfl ?_
      refine ixk (j := 0) Tryz.runUnderlying34 Tryz.sizeOf37 rfl rfl rfl rfl (by decide) rfl ?_
      refine dN (.skip (.skip (.keep (.keep (.keep .nil))))) le_8 ?_
      refine dT 17 rfl rfl rfl (by kernel_rfl) (fun _ _ _ h => h) (y_fa F37_3 rfl) (.skip (.skip (.keep (.keep (.keep .nil))))) le_8 ?_
      refine dE 18 (by kernel_rfl) rfl ?_
      refine st Tryz.sizeOf34 rfl rfl rfl rfl (.tail (.tail (.tail .head))) ?_
      refine dNk (by kernel_rfl) ?_
      refine dD (by kernel_rfl) ?_
      refine Nb ?_
      refine drN .head ?_
      refine fun a_ w_ hA hw => ⟨_, _, _, hA.sub ?_, (le_4.trans le_8), hw, _, rfl, a59, (ml0 + 1), c59, (es0 ++ [((ct57, tl_IncrementalAlterConfigsRequestResource (lT (T.at 0))[k0]) : EE)]), N59, rfl, rfl, r59, (by simp; omega), (map_take_snoc (g := tl_IncrementalAlterConfigsRequestResource) hk0 pk02), (fun p hp => (mem_snoc hp).elim (fun h => (pk03 p h).mono le_8) (fun h => h ▸ hT57))⟩
      exact (.cons rfl (.cons rfl (.cons rfl (.cons rfl (.cons rfl (.nil _))))))
    · skip
      refine st Tryz.sizeOf4 rfl rfl rfl rfl .head ?_
      refine dN .nil (Fz.le.refl _) ?_
      refine dE 1 (by kernel_rfl) rfl ?_
      refine st Tryz.sizeOf4 rfl rfl rfl rfl .head ?_
      refine dN .nil (Fz.le.refl _) ?_
      refine dE 3 (by kernel_rfl) rfl ?_
      refine ld (Says.own .head) Tryz.isAgg4 rfl (Nat.zero_add _).symm rfl rfl ?_
      refine dN .nil (Fz.le.refl _) ?_
      refine dD (by kernel_rfl) ?_
      refine drN .head ?_
      refine Nt ?_
      refine cT rfl ?_
      refine sq ?_
      refine rgD 17 (.skip (.keep (.keep (.keep .nil)))) mixed ?_
      refine dT 0 rfl rfl rfl (by kernel_rfl) (fun _ _ _ h => h) (y_fa0 F37_3 rfl) (.skip (.keep (.keep (.keep .nil)))) (Fz.le.refl _) ?_
      refine dT 1 rfl rfl rfl (by kernel_rfl) (fun _ _ _ h => h) (y_ld (Says.own .head) Tryz.isAgg34 rfl (Nat.zero_add _).symm rfl) (.skip (.keep (.keep (.keep .nil)))) (Fz.le.refl _) ?_
      refine dT 2 rfl rfl rfl (by kernel_rfl) (fun _ _ _ h => h) (y_ix2 (j := 0) Tryz.runUnderlying34 Tryz.sizeOf37 rfl rfl rfl rfl (by decide)) (.skip (.keep (.keep (.keep .nil)))) (Fz.le.refl _) ?_
      refine dT 3 rfl rfl rfl (by kernel_rfl) (fun _ _ _ h => h) (y_fa F37_3 rfl) (.skip (.keep (.keep (.keep .nil)))) (Fz.le.refl _) ?_
      refine dT 4 rfl rfl rfl (by kernel_rfl) (fun _ _ _ h => h) (y_ld (Says.own (.tail .head)) Tryz.isAgg34 rfl (Nat.zero_add _).symm rfl) (.skip (.keep (.keep (.keep .nil)))) (Fz.le.refl _) ?_
      refine dT 5 rfl rfl rfl (by kernel_rfl) (fun _ _ _ h => h) (y_mv rfl) (.skip (.keep (.keep (.keep .nil)))) (Fz.le.refl _) ?_
      refine dT 6 rfl rfl rfl (by kernel_rfl) (fun _ _ _ h => h) (y_nc rfl) (.skip (.keep (.keep (.keep .nil)))) (Fz.le.refl _) ?_
      refine dT 7 rfl rfl rfl (by kernel_rfl) (fun _ _ _ h => h) (y_fa F134_1 rfl) (.skip (.keep (.keep (.keep .nil)))) (Fz.le.refl _) ?_
      refine dT 8 rfl rfl rfl (by kernel_rfl) (fun _ _ _ h => h) (y_ld (j := 1) (Says.fz (hb.mono le_4)) Tryz.isAgg132 rfl rfl rfl) (.skip (.keep (.keep (.keep .nil)))) (Fz.le.refl _) ?_
      refine dT 9 rfl rfl rfl (by kernel_rfl) (fun _ _ _ h => h) (y_mv rfl) (.skip (.keep (.keep (.keep .nil)))) (Fz.le.refl _) ?_
      obtain ⟨beq_10, oeq_10, haq_10, hlq_10⟩ := ((h1.mono At_IncrementalAlterConfigsRequestResource.mono le_4)).rows.at_ (ne_nil_of_lt hk0)
      obtain ⟨ceq_10, hAq_10, hbq_10⟩ := hlq_10 k0 hk0
      refine dT 10 rfl rfl rfl (by kernel_rfl) (fun _ _ _ h => h) (y_ixk (j := k0) Tryz.runUnderlying132 Tryz.sizeOf141 rfl haq_10 rfl rfl hk0) (.skip (.keep (.keep (.keep .nil)))) (Fz.le.refl _) ?_
      refine dT 12 rfl rfl rfl (by kernel_rfl) (fun _ _ _ h => h) (y_ls Tryz.runUnderlying34 rfl) (.skip (.keep (.keep (.keep .nil)))) (Fz.le.refl _) ?_
      refine dE2 11 13 (by kernel_rfl) rfl rfl ?_ ?_
      · skip
        refine cl rfl rfl rfl (te_IncrementalAlterConfigsRequestResource hbq_10 (At_IncrementalAlterConfigsRequestResource.mono _ _ _ _ (Fz.le.refl _) hAq_10) ((hf.at 0).lTel (List.getElem_mem hk0))) rfl (fun v_ H1 L1 le_11 hR_ => ?_)
        obtain ⟨rfl, ct37, rfl, hT37⟩ := hR_
        refine dN (.skip (.keep (.keep (.keep .nil)))) le_11 ?_
        refine dE 13 (by kernel_rfl) rfl ?_
        refine bs' L34 rfl rfl rfl rfl (fun b_12 => ?_)
        refine dN (.skip (.skip (.keep (.keep (.keep .nil))))) le_11 ?_
        refine dE 14 (by kernel_rfl) rfl ?_
        have hmk : ml0 = k0 := by have h1 := congrArg List.length pk02; rw [List.length_map, List.length_map, List.length_take] at h1; omega
        have hmb := (hf.at 0).lTl
        refine ap (k := 1) (news := f5 ((TC.none, Tr.none) : EE)) Tryz.underlying34 I37 rfl rfl pk00 (fun _ => (.tail .head)) (src_says Tryz.underlying34 rfl (fun _ => Says.own .head) (f5_one _)) (by omega) (by unfold maxLen; omega) rfl (fun a40 c40 N40 r40 z40 => ?_)
        refine dN (.skip (.skip (.keep (.keep (.keep .nil))))) le_11 ?_
        refine dE 15 (by kernel_rfl) rfl ?_
        refine ixk (j := 0) Tryz.runUnderlying34 Tryz.sizeOf37 rfl rfl rfl rfl (by decide) rfl ?_
        refine dN (.skip (.skip (.keep (.keep (.keep .nil))))) le_11 ?_
        refine dT 16 rfl rfl rfl (by kernel_rfl) (fun _ _ _ h => h) (y_fa F37_3 rfl) (.skip (.skip (.keep (.keep (.keep .nil))))) le_11 ?_
        refine dE 17 (by kernel_rfl) rfl ?_
        refine st Tryz.sizeOf34 rfl rfl rfl rfl (.tail (.tail (.tail .head))) ?_
        refine dNk (by kernel_rfl) ?_
        refine dD (by kernel_rfl) ?_
        refine Nt ?_
        refine rg ?_
        obtain ⟨gg40, hgg40⟩ := r40.addr (by omega)
        refine ixk (j := ml0) Tryz.runUnderlying34 Tryz.sizeOf37 rfl hgg40 rfl rfl (by omega) rfl ?_
        refine sR (ds := f5 ((ct37, tl_IncrementalAlterConfigsRequestResource (lT (T.at 0))[k0]) : EE)) r40 hgg40 (fun _ => (.tail .head)) Tryz.sizeOf37 rfl rfl rfl rfl (by omega) (fun N40b r40b => ?_)
        rw [row_put (k := 5) (m := ml0) (A := es0.flatMap f5) (by rw [flatMap_len f5 5 f5_len, pk01]) rfl, flatMap_snoc'] at r40b
        refine nN ?_
        refine Nb ?_
        refine drN .head ?_
        refine fun a_ w_ hA hw => ⟨_, _, _, hA.sub ?_, (le_4.trans le_11), hw, _, rfl, a40, (ml0 + 1), c40, (es0 ++ [((ct37, tl_IncrementalAlterConfigsRequestResource (lT (T.at 0))[k0]) : EE)]), N40b, rfl, rfl, r40b, (by simp; omega), (map_take_snoc (g := tl_IncrementalAlterConfigsRequestResource) hk0 pk02), (fun p hp => (mem_snoc hp).elim (fun h => (pk03 p h).mono le_11) (fun h => h ▸ hT37))⟩
        exact (.cons rfl (.cons rfl (.cons rfl (.cons rfl (.cons rfl (.nil _))))))
      · skip
        refine bs' L34 rfl rfl rfl rfl (fun b_13 => ?_)
        refine dN (.skip (.skip (.keep (.keep (.keep .nil))))) (Fz.le.refl _) ?_
        refine dE 11 (by kernel_rfl) rfl ?_
        refine cl rfl rfl rfl (te_IncrementalAlterConfigsRequestResource hbq_10 (At_IncrementalAlterConfigsRequestResource.mono _ _ _ _ (Fz.le.refl _) hAq_10) ((hf.at 0).lTel (List.getElem_mem hk0))) rfl (fun v_ H1 L1 le_14 hR_ => ?_)
        obtain ⟨rfl, ct37, rfl, hT37⟩ := hR_
        refine dN (.skip (.skip (.keep (.keep (.keep .nil))))) le_14 ?_
        refine dE 14 (by kernel_rfl) rfl ?_
        have hmk : ml0 = k0 := by have h1 := congrArg List.length pk02; rw [List.length_map, List.length_map, List.length_take] at h1; omega
        have hmb := (hf.at 0).lTl
        refine ap (k := 1) (news := f5 ((TC.none, Tr.none) : EE)) Tryz.underlying34 I37 rfl rfl pk00 (fun _ => (.tail .head)) (src_says Tryz.underlying34 rfl (fun _ => Says.own .head) (f5_one _)) (by omega) (by unfold maxLen; omega) rfl (fun a40 c40 N40 r40 z40 => ?_)
        refine dN (.skip (.skip (.keep (.keep (.keep .nil))))) le_14 ?_
        refine dE 15 (by kernel_rfl) rfl ?_
        refine ixk (j := 0) Tryz.runUnderlying34 Tryz.sizeOf37 rfl rfl rfl rfl (by decide) rfl ?_
        refine dN (.skip (.skip (.keep (.keep (.keep .nil))))) le_14 ?_
        refine dT 16 rfl rfl rfl (by kernel_rfl) (fun _ _ _ h => h) (y_fa F37_3 rfl) (.skip (.skip (.keep (.keep (.keep .nil))))) le_14 ?_
        refine dE 17 (by kernel_rfl) rfl ?_
        refine st Tryz.sizeOf34 rfl rfl rfl rfl (.tail (.tail (.tail .head))) ?_
        refine dNk (by kernel_rfl) ?_
        refine dD (by kernel_rfl) ?_
        refine Nt ?_
        refine rg ?_
        obtain ⟨gg40, hgg40⟩ := r40.addr (by omega)
        refine ixk (j := ml0) Tryz.runUnderlying34 Tryz.sizeOf37 rfl hgg40 rfl rfl (by omega) rfl ?_
        refine sR (ds := f5 ((ct37, tl_IncrementalAlterConfigsRequestResource (lT (T.at 0))[k0]) : EE)) r40 hgg40 (fun _ => (.tail .head)) Tryz.sizeOf37 rfl rfl rfl rfl (by omega) (fun N40b r40b => ?_)
        rw [row_put (k := 5) (m := ml0) (A := es0.flatMap f5) (by rw [flatMap_len f5 5 f5_len, pk01]) rfl, flatMap_snoc'] at r40b
        refine nN ?_
        refine Nb ?_
        refine drN .head ?_
        refine fun a_ w_ hA hw => ⟨_, _, _, hA.sub ?_, (le_4.trans le_14), hw, _, rfl, a40, (ml0 + 1), c40, (es0 ++ [((ct37, tl_IncrementalAlterConfigsRequestResource (lT (T.at 0))[k0]) : EE)]), N40b, rfl, rfl, r40b, (by simp; omega), (map_take_snoc (g := tl_IncrementalAlterConfigsRequestResource) hk0 pk02), (fun p hp => (mem_snoc hp).elim (fun h => (pk03 p h).mono le_14) (fun h => h ▸ hT37))⟩
        exact (.cons rfl (.cons rfl (.cons rfl (.cons rfl (.cons rfl (.nil _))))))
  · skip
    obtain ⟨al0, ml0, cl0, es0, Nl0, rfl, rfl, pk00, pk01, pk02, pk03⟩ := hI
    refine toWp ?_
    have hes0 : es0.map (·.2) = (lT (T.at 0)).map tl_IncrementalAlterConfigsRequestResource := by rw [pk02, List.take_length]
    have hm0 : ml0 = ((lT (T.at 0)).map tl_IncrementalAlterConfigsRequestResource).length := by rw [← hes0, List.length_map]; exact pk01
    refine frW pk00 .head (fun Hl0 hll0 hzl0 => ?_)
    have ht0 := TreesAt.row hzl0 pk01 pk00.le.1 (by have h1 := congrArg List.length hes0; rw [List.length_map, List.length_map] at h1; unfold B47; omega) (fun p hp => (pk03 p hp).mono hll0)
    rw [hes0] at ht0
    subst hm0
    refine sq ?_
    refine rgD 8 (.keep (.keep (.keep .nil))) mixed ?_
    refine dT 0 rfl rfl rfl (by kernel_rfl) (fun _ _ _ h => h) (y_fa0 F37_3 rfl) (.keep (.keep (.keep .nil))) (Fz.le.refl _) ?_
    refine dT 1 rfl rfl rfl (by kernel_rfl) (fun _ _ _ h => h) (y_ld (Says.own .head) Tryz.isAgg34 rfl (Nat.zero_add _).symm rfl) (.keep (.keep (.keep .nil))) (Fz.le.refl _) ?_
    refine dT 2 rfl rfl rfl (by kernel_rfl) (fun _ _ _ h => h) (y_mv rfl) (.keep (.keep (.keep .nil))) (Fz.le.refl _) ?_
    refine dT 3 rfl rfl rfl (by kernel_rfl) (fun _ _ _ h => h) (y_nc rfl) (.keep (.keep (.keep .nil))) (Fz.le.refl _) ?_
    refine dT 4 rfl rfl rfl (by kernel_rfl) (fun _ _ _ h => h) (y_fa F134_2 rfl) (.keep (.keep (.keep .nil))) (Fz.le.refl _) ?_
    refine dT 5 rfl rfl rfl (by kernel_rfl) (fun _ _ _ h => h) (y_ld (j := 2) (Says.fz (hb.mono (le_5.trans hll0))) Tryz.isAgg4 rfl rfl rfl) (.keep (.keep (.keep .nil))) (Fz.le.refl _) ?_
    refine dE 6 (by kernel_rfl) rfl ?_
    refine cl rfl rfl rfl (k_boolTree (p := (decide ((T.at 1).n % 2 = 1)))) rfl (fun v_ H1 L1 hle_ hR_ => ?_)
    obtain ⟨rfl, rfl, rfl⟩ := hR_
    refine dN (.keep (.keep (.keep .nil))) (Fz.le.refl _) ?_
    refine dT 7 rfl rfl rfl (by kernel_rfl) (fun _ _ _ h => h) (y_ix2 (j := 1) Tryz.runUnderlying34 Tryz.sizeOf37 rfl rfl rfl rfl (by decide)) (.keep (.keep (.keep .nil))) (Fz.le.refl _) ?_
    refine dE 8 (by kernel_rfl) rfl ?_
    refine sa Tryz.sizeOf37 rfl rfl rfl rfl rfl (.tail .head) ?_
    refine dNk (by kernel_rfl) ?_
    refine dD (by kernel_rfl) ?_
    refine Nt ?_
    refine sr ?_
    refine mv rfl rfl ?_
    refine nc rfl rfl ?_
    refine fa F134_3 rfl rfl ?_
    refine mkf rfl rfl ?_
    have hkv_ := (h2.mono (le_5.trans hll0))
    obtain ⟨kvs, hM, hlen, hel⟩ := hkv_
    have hfu := hf.u
    refine cl rfl rfl rfl (t_each (j := 3) (I := fun i H1 Y => TgI 69 b_3 37 (.int .i64 0) (.slice none 0 0) (.bool false) (_) T.u i H1 Y) (hb.mono (le_5.trans hll0)) rfl hM (by omega) (fun i H1 H2 Y hle h => h.mono hle) TgI.start (fun i k v H1 Y L1 hi hle hI => ?_)) rfl (fun v_ H1 L1 le_17 hR_ => ?_)
    · obtain ⟨s, h1, ⟨va, vc, rfl, hx⟩, h2, h3⟩ := hel i k v hi
      have hik := sortKv_lt hi
      exact TgI.step (fun {_ _ _ _ _ _ _ _ _ _ _ _ _ _ _ _} => tc_104) hf.v (by omega) h1 (hx.mono hle) h2 h3 hI
    rw [hlen] at hR_
    obtain ⟨_, rfl, aU, cU, NU, esU, rfl, hrU, heU, hgU⟩ := hR_
    refine splL ?_
    rw [List.take_length] at heU
    refine frL hrU (.tail .head) (fun HU hleU hzU => ?_)
    have hU := (TagsAt.told hzU hrU heU hfu (fun p hp => (hgU p hp).mono hleU)).1
    refine nl ?_
    refine sr ?_
    refine fa0 F37_4 rfl rfl ?_
    refine ld (Says.own .head) Tryz.isAgg35 rfl (Nat.zero_add _).symm rfl rfl ?_
    refine cl rfl rfl rfl (k_sorted hU (h2.mono (le_5.trans (hll0.trans (le_17.trans hleU)))).rise) rfl (fun v_ H1 L1 hle_ hR_ => ?_)
    obtain ⟨rfl, rfl⟩ := hR_
    refine nl ?_
    refine sr ?_
    refine la (Says.own .head) Tryz.isAgg37 Tryz.sizeOf37 rfl (Nat.zero_add _).symm rfl rfl ?_
    refine sa Tryz.sizeOf37 rfl rfl rfl rfl rfl (.tail (.tail .head)) ?_
    refine nl ?_
    refine drW .head ?_
    refine frW (Row.whole (e := 37) (size := 5) (m := 2) (ds := [.int .i64 0, .slice none 0 0, .bool a0.isNone, .slice al0 ((lT (T.at 0)).map tl_IncrementalAlterConfigsRequestResource).length cl0, .slice none 0 0, .int .i64 (if (decide ((T.at 1).n % 2 = 1)) = true then 1 else 0), .slice none 0 0, .bool false, .slice none 0 0, .slice none 0 0]) rfl (by unfold maxLen; omega)) .head (fun H9 hle9 hz9 => ?_)
    have hrb : H9.at b_2 0 [.int .i64 0, .slice none 0 0, .bool a0.isNone, .slice al0 ((lT (T.at 0)).map tl_IncrementalAlterConfigsRequestResource).length cl0, .slice none 0 0, .int .i64 (if (decide ((T.at 1).n % 2 = 1)) = true then 1 else 0), .slice none 0 0, .bool false, .slice none 0 0, .slice none 0 0] := by
      rcases hz9 with ⟨h, _⟩ | ⟨g, h, h2⟩
      · cases h
      · cases h; exact h2
    rw [(h1).nul] at hrb
    have hrb2 : H9.at b_2 0 (([((⟨none, 0, al0, cl0, none, 0⟩ : TC), (Tr.mk 0 [] (T.at 0).nul ((lT (T.at 0)).map tl_IncrementalAlterConfigsRequestResource) [] : Tr)), ((TC.none : TC), (Tr.mk (if decide ((T.at 1).n % 2 = 1) = true then 1 else 0) [] false [] [] : Tr))] : List EE).flatMap fun p => p.1.cells p.2) := by exact hrb
    have hl9 : TreesAt H9 (some ⟨b_2, 0, none⟩) 2 [(.mk 0 [] (T.at 0).nul ((lT (T.at 0)).map tl_IncrementalAlterConfigsRequestResource) []), (.mk (if decide ((T.at 1).n % 2 = 1) = true then 1 else 0) [] false [] [])] := by
      refine TreesAt.row (es := [((⟨none, 0, al0, cl0, none, 0⟩ : TC), (Tr.mk 0 [] (T.at 0).nul ((lT (T.at 0)).map tl_IncrementalAlterConfigsRequestResource) [] : Tr)), ((TC.none : TC), (Tr.mk (if decide ((T.at 1).n % 2 = 1) = true then 1 else 0) [] false [] [] : Tr))]) (.inr ⟨_, rfl, hrb2⟩) rfl (Nat.le_refl _) (Nat.le_of_ble_eq_true rfl) ?_
      intro p hp
      simp only [List.mem_cons, List.not_mem_nil, or_false] at hp
      rcases hp with rfl | rfl
      · exact (.of (.nil _) (ht0.mono (le_17.trans (hleU.trans hle9))) (.nil _))
      · exact (.of (.nil _) (.nil _) (.nil _))
    exact rC rfl Tryz.isAgg37 Tryz.sizeOf37 rfl .head rfl (le_5.trans (hll0.trans (le_17.trans (hleU.trans hle9)))) (fun _ _ h => h) ⟨rfl, ⟨none, 0, some ⟨b_2, 0, none⟩, 2, aU, cU⟩, rfl, .of (.nil _) hl9 (hU.mono hle9)⟩
end Go.Sx

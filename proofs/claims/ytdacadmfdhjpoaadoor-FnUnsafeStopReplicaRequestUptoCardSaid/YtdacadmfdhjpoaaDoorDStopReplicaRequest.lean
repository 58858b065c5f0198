import Derived.Test.YtdacadmfdhjpoaaDoorBStopReplicaRequest
import Derived.Test.YtdacadmfdhjpoaaDoorTB
import Derived.KernelRfl
set_option linter.unusedVariables false
set_option linter.unusedSimpArgs false
set_option maxRecDepth 100000
set_option maxHeartbeats 20000000
namespace Go.Sx
open Go.Proofs
def tl_StopReplicaRequestTopicPartitionState (T : Tr) : Tr := .mk 0 [] false [(.mk (IntKind.i32.wrap (T.at 0).n) [] false [] []), (.mk (IntKind.i32.wrap (T.at 1).n) [] false [] []), (.mk (if decide ((T.at 2).n % 2 = 1) = true then 1 else 0) [] false [] [])] T.u
theorem te_StopReplicaRequestTopicPartitionState {H : Fz} {L : Own} {b o : Nat} {cs : List Value} {T : Tr} (hb : H.at b o cs) (hA : At_StopReplicaRequestTopicPartitionState H T cs) (hf : Fits T) :
    Fn Tryd.prog 38 [.pointer (some ⟨b, o, none⟩)] H L (fun v H' L' => L = L' ∧ ∃ c : TC, v = .agg (c.cells (tl_StopReplicaRequestTopicPartitionState T)).toArray ∧ TreeAt H' c (tl_StopReplicaRequestTopicPartitionState T)) := by
  obtain ⟨mt, rfl, h1⟩ := hA
  refine Fn.mk Tryd.call38 Tryd.func38 rfl Tryd.ntmps38 rfl ?_
  refine sr ?_
  refine al Tryd.zeroValue27 rfl rfl (fun b_1 => ?_)
  refine nl ?_
  refine sr ?_
  refine mkC (m := 3) (zs := [.int .i64 0, .slice none 0 0, .bool false, .slice none 0 0, .slice none 0 0]) Tryd.underlying24 I27 rfl rfl rfl rfl rfl rfl (by decide) (by unfold maxLen; omega) rfl (fun b_2 => ?_)
  refine bd' S27 rfl rfl rfl ?_
  refine al Tryd.zeroValue27 rfl rfl (fun b_3 => ?_)
  refine sa Tryd.sizeOf27 rfl rfl rfl rfl rfl .head ?_
  refine nl ?_
  refine sq ?_
  refine rgD 9 (.keep (.keep (.keep .nil))) mixed ?_
  refine dT 0 rfl rfl rfl (by kernel_rfl) (fun _ _ _ h => h) (y_fa0 F27_3 rfl) (.keep (.keep (.keep .nil))) (Fz.le.refl _) ?_
  refine dT 1 rfl rfl rfl (by kernel_rfl) (fun _ _ _ h => h) (y_ld (Says.own .head) Tryd.isAgg24 rfl (Nat.zero_add _).symm rfl) (.keep (.keep (.keep .nil))) (Fz.le.refl _) ?_
  refine dT 2 rfl rfl rfl (by kernel_rfl) (fun _ _ _ h => h) (y_mv rfl) (.keep (.keep (.keep .nil))) (Fz.le.refl _) ?_
  refine dT 3 rfl rfl rfl (by kernel_rfl) (fun _ _ _ h => h) (y_nc rfl) (.keep (.keep (.keep .nil))) (Fz.le.refl _) ?_
  refine dT 4 rfl rfl rfl (by kernel_rfl) (fun _ _ _ h => h) (y_fa F78_0 rfl) (.keep (.keep (.keep .nil))) (Fz.le.refl _) ?_
  refine dT 5 rfl rfl rfl (by kernel_rfl) (fun _ _ _ h => h) (y_ld (j := 0) (Says.fz hb) Tryd.isAgg21 rfl (Nat.add_zero _).symm rfl) (.keep (.keep (.keep .nil))) (Fz.le.refl _) ?_
  refine dT 6 rfl rfl rfl (by kernel_rfl) (fun _ _ _ h => h) (y_cv Tryd.runUnderlying21 Tryd.runUnderlying2 rfl (i32_64 _)) (.keep (.keep (.keep .nil))) (Fz.le.refl _) ?_
  refine dT 7 rfl rfl rfl (by kernel_rfl) (fun _ _ _ h => h) (y_bd S27 rfl rfl) (.keep (.keep (.keep .nil))) (Fz.le.refl _) ?_
  refine dT 8 rfl rfl rfl (by kernel_rfl) (fun _ _ _ h => h) (y_ix2 (j := 0) Tryd.runUnderlying24 Tryd.sizeOf27 rfl rfl rfl rfl (by decide)) (.keep (.keep (.keep .nil))) (Fz.le.refl _) ?_
  refine dE 9 (by kernel_rfl) rfl ?_
  refine sa Tryd.sizeOf27 rfl rfl rfl rfl rfl (.tail .head) ?_
  refine dNk (by kernel_rfl) ?_
  refine dD (by kernel_rfl) ?_
  refine Nt ?_
  refine sq ?_
  refine rgD 9 (.keep (.keep (.keep .nil))) mixed ?_
  refine dT 0 rfl rfl rfl (by kernel_rfl) (fun _ _ _ h => h) (y_fa0 F27_3 rfl) (.keep (.keep (.keep .nil))) (Fz.le.refl _) ?_
  refine dT 1 rfl rfl rfl (by kernel_rfl) (fun _ _ _ h => h) (y_ld (Says.own .head) Tryd.isAgg24 rfl (Nat.zero_add _).symm rfl) (.keep (.keep (.keep .nil))) (Fz.le.refl _) ?_
  refine dT 2 rfl rfl rfl (by kernel_rfl) (fun _ _ _ h => h) (y_mv rfl) (.keep (.keep (.keep .nil))) (Fz.le.refl _) ?_
  refine dT 3 rfl rfl rfl (by kernel_rfl) (fun _ _ _ h => h) (y_nc rfl) (.keep (.keep (.keep .nil))) (Fz.le.refl _) ?_
  refine dT 4 rfl rfl rfl (by kernel_rfl) (fun _ _ _ h => h) (y_fa F78_1 rfl) (.keep (.keep (.keep .nil))) (Fz.le.refl _) ?_
  refine dT 5 rfl rfl rfl (by kernel_rfl) (fun _ _ _ h => h) (y_ld (j := 1) (Says.fz hb) Tryd.isAgg21 rfl rfl rfl) (.keep (.keep (.keep .nil))) (Fz.le.refl _) ?_
  refine dT 6 rfl rfl rfl (by kernel_rfl) (fun _ _ _ h => h) (y_cv Tryd.runUnderlying21 Tryd.runUnderlying2 rfl (i32_64 _)) (.keep (.keep (.keep .nil))) (Fz.le.refl _) ?_
  refine dT 7 rfl rfl rfl (by kernel_rfl) (fun _ _ _ h => h) (y_bd S27 rfl rfl) (.keep (.keep (.keep .nil))) (Fz.le.refl _) ?_
  refine dT 8 rfl rfl rfl (by kernel_rfl) (fun _ _ _ h => h) (y_ix2 (j := 1) Tryd.runUnderlying24 Tryd.sizeOf27 rfl rfl rfl rfl (by decide)) (.keep (.keep (.keep .nil))) (Fz.le.refl _) ?_
  refine dE 9 (by kernel_rfl) rfl ?_
  refine sa Tryd.sizeOf27 rfl rfl rfl rfl rfl (.tail .head) ?_
  refine dNk (by kernel_rfl) ?_
  refine dD (by kernel_rfl) ?_
  refine Nt ?_
  refine sq ?_
  refine rgD 8 (.keep (.keep (.keep .nil))) mixed ?_
  refine dT 0 rfl rfl rfl (by kernel_rfl) (fun _ _ _ h => h) (y_fa0 F27_3 rfl) (.keep (.keep (.keep .nil))) (Fz.le.refl _) ?_
  refine dT 1 rfl rfl rfl (by kernel_rfl) (fun _ _ _ h => h) (y_ld (Says.own .head) Tryd.isAgg24 rfl (Nat.zero_add _).symm rfl) (.keep (.keep (.keep .nil))) (Fz.le.refl _) ?_
  refine dT 2 rfl rfl rfl (by kernel_rfl) (fun _ _ _ h => h) (y_mv rfl) (.keep (.keep (.keep .nil))) (Fz.le.refl _) ?_
  refine dT 3 rfl rfl rfl (by kernel_rfl) (fun _ _ _ h => h) (y_nc rfl) (.keep (.keep (.keep .nil))) (Fz.le.refl _) ?_
  refine dT 4 rfl rfl rfl (by kernel_rfl) (fun _ _ _ h => h) (y_fa F78_2 rfl) (.keep (.keep (.keep .nil))) (Fz.le.refl _) ?_
  refine dT 5 rfl rfl rfl (by kernel_rfl) (fun _ _ _ h => h) (y_ld (j := 2) (Says.fz hb) Tryd.isAgg4 rfl rfl rfl) (.keep (.keep (.keep .nil))) (Fz.le.refl _) ?_
  refine dE 6 (by kernel_rfl) rfl ?_
  refine cl rfl rfl rfl (k_boolTree (p := (decide ((T.at 2).n % 2 = 1)))) rfl (fun v_ H1 L1 hle_ hR_ => ?_)
  obtain ⟨rfl, rfl, rfl⟩ := hR_
  refine dN (.keep (.keep (.keep .nil))) (Fz.le.refl _) ?_
  refine dT 7 rfl rfl rfl (by kernel_rfl) (fun _ _ _ h => h) (y_ix2 (j := 2) Tryd.runUnderlying24 Tryd.sizeOf27 rfl rfl rfl rfl (by decide)) (.keep (.keep (.keep .nil))) (Fz.le.refl _) ?_
  refine dE 8 (by kernel_rfl) rfl ?_
  refine sa Tryd.sizeOf27 rfl rfl rfl rfl rfl (.tail .head) ?_
  refine dNk (by kernel_rfl) ?_
  refine dD (by kernel_rfl) ?_
  refine Nt ?_
  refine sr ?_
  refine mv rfl rfl ?_
  refine nc rfl rfl ?_
  refine fa F78_3 rfl rfl ?_
  refine mkf rfl rfl ?_
  have hkv_ := h1
  obtain ⟨kvs, hM, hlen, hel⟩ := hkv_
  have hfu := hf.u
  refine cl rfl rfl rfl (t_each (j := 3) (I := fun i H1 Y => TgI 51 b_3 27 (.int .i64 0) (.slice none 0 0) (.bool false) (_) T.u i H1 Y) hb rfl hM (by omega) (fun i H1 H2 Y hle h => h.mono hle) TgI.start (fun i k v H1 Y L1 hi hle hI => ?_)) rfl (fun v_ H1 L1 le_6 hR_ => ?_)
  · obtain ⟨s, h1, ⟨va, vc, rfl, hx⟩, h2, h3⟩ := hel i k v hi
    have hik := sortKv_lt hi
    exact TgI.step (fun {_ _ _ _ _ _ _ _ _ _ _ _ _ _ _ _} => tc_49) hf.v (by omega) h1 (hx.mono hle) h2 h3 hI
  rw [hlen] at hR_
  obtain ⟨_, rfl, aU, cU, NU, esU, rfl, hrU, heU, hgU⟩ := hR_
  refine splL ?_
  rw [List.take_length] at heU
  refine frL hrU (.tail .head) (fun HU hleU hzU => ?_)
  have hU := (TagsAt.told hzU hrU heU hfu (fun p hp => (hgU p hp).mono hleU)).1
  refine nl ?_
  refine sr ?_
  refine fa0 F27_4 rfl rfl ?_
  refine ld (Says.own .head) Tryd.isAgg25 rfl (Nat.zero_add _).symm rfl rfl ?_
  refine cl rfl rfl rfl (k_sorted hU (h1.mono (le_6.trans hleU)).rise) rfl (fun v_ H1 L1 hle_ hR_ => ?_)
  obtain ⟨rfl, rfl⟩ := hR_
  refine nl ?_
  refine sr ?_
  refine la (Says.own .head) Tryd.isAgg27 Tryd.sizeOf27 rfl (Nat.zero_add _).symm rfl rfl ?_
  refine sa Tryd.sizeOf27 rfl rfl rfl rfl rfl (.tail (.tail .head)) ?_
  refine nl ?_
  refine drW .head ?_
  refine frW (Row.whole (e := 27) (size := 5) (m := 3) (ds := [.int .i64 (IntKind.i32.wrap (T.at 0).n), .slice none 0 0, .bool false, .slice none 0 0, .slice none 0 0, .int .i64 (IntKind.i32.wrap (T.at 1).n), .slice none 0 0, .bool false, .slice none 0 0, .slice none 0 0, .int .i64 (if (decide ((T.at 2).n % 2 = 1)) = true then 1 else 0), .slice none 0 0, .bool false, .slice none 0 0, .slice none 0 0]) rfl (by unfold maxLen; omega)) .head (fun H9 hle9 hz9 => ?_)
  have hrb : H9.at b_2 0 [.int .i64 (IntKind.i32.wrap (T.at 0).n), .slice none 0 0, .bool false, .slice none 0 0, .slice none 0 0, .int .i64 (IntKind.i32.wrap (T.at 1).n), .slice none 0 0, .bool false, .slice none 0 0, .slice none 0 0, .int .i64 (if (decide ((T.at 2).n % 2 = 1)) = true then 1 else 0), .slice none 0 0, .bool false, .slice none 0 0, .slice none 0 0] := by
    rcases hz9 with ⟨h, _⟩ | ⟨g, h, h2⟩
    · cases h
    · cases h; exact h2
  have hrb2 : H9.at b_2 0 (([((TC.none : TC), (Tr.mk (IntKind.i32.wrap (T.at 0).n) [] false [] [] : Tr)), ((TC.none : TC), (Tr.mk (IntKind.i32.wrap (T.at 1).n) [] false [] [] : Tr)), ((TC.none : TC), (Tr.mk (if decide ((T.at 2).n % 2 = 1) = true then 1 else 0) [] false [] [] : Tr))] : List EE).flatMap fun p => p.1.cells p.2) := by exact hrb
  have hl9 : TreesAt H9 (some ⟨b_2, 0, none⟩) 3 [(.mk (IntKind.i32.wrap (T.at 0).n) [] false [] []), (.mk (IntKind.i32.wrap (T.at 1).n) [] false [] []), (.mk (if decide ((T.at 2).n % 2 = 1) = true then 1 else 0) [] false [] [])] := by
    refine TreesAt.row (es := [((TC.none : TC), (Tr.mk (IntKind.i32.wrap (T.at 0).n) [] false [] [] : Tr)), ((TC.none : TC), (Tr.mk (IntKind.i32.wrap (T.at 1).n) [] false [] [] : Tr)), ((TC.none : TC), (Tr.mk (if decide ((T.at 2).n % 2 = 1) = true then 1 else 0) [] false [] [] : Tr))]) (.inr ⟨_, rfl, hrb2⟩) rfl (Nat.le_refl _) (Nat.le_of_ble_eq_true rfl) ?_
    intro p hp
    simp only [List.mem_cons, List.not_mem_nil, or_false] at hp
    rcases hp with rfl | rfl | rfl
    · exact (.of (.nil _) (.nil _) (.nil _))
    · exact (.of (.nil _) (.nil _) (.nil _))
    · exact (.of (.nil _) (.nil _) (.nil _))
  exact rC rfl Tryd.isAgg27 Tryd.sizeOf27 rfl .head rfl (le_6.trans (hleU.trans hle9)) (fun _ _ h => h) ⟨rfl, ⟨none, 0, some ⟨b_2, 0, none⟩, 3, aU, cU⟩, rfl, .of (.nil _) hl9 (hU.mono hle9)⟩
def tl_StopReplicaRequestTopic (T : Tr) : Tr := .mk 0 [] false [(.mk 0 (T.at 0).s false [] []), (.mk (IntKind.i32.wrap (T.at 1).n) [] false [] []), (.mk 0 [] (T.at 2).nul ((lT (T.at 2)).map (fun y : Tr => (Tr.mk (IntKind.i32.wrap y.n) [] false [] [] : Tr))) []), (.mk 0 [] (T.at 3).nul ((lT (T.at 3)).map tl_StopReplicaRequestTopicPartitionState) [])] T.u
theorem te_StopReplicaRequestTopic {H : Fz} {L : Own} {b o : Nat} {cs : List Value} {T : Tr} (hb : H.at b o cs) (hA : At_StopReplicaRequestTopic H T cs) (hf : Fits T) :
    Fn Tryd.prog 20 [.pointer (some ⟨b, o, none⟩)] H L (fun v H' L' => L = L' ∧ ∃ c : TC, v = .agg (c.cells (tl_StopReplicaRequestTopic T)).toArray ∧ TreeAt H' c (tl_StopReplicaRequestTopic T)) := by
  obtain ⟨a2, c2, a3, c3, mt, rfl, h1, h2, h3⟩ := hA
  refine Fn.mk Tryd.call20 Tryd.func20 rfl Tryd.ntmps20 rfl ?_
  refine sr ?_
  refine al Tryd.zeroValue27 rfl rfl (fun b_1 => ?_)
  refine nl ?_
  refine sr ?_
  refine mkC (m := 4) (zs := [.int .i64 0, .slice none 0 0, .bool false, .slice none 0 0, .slice none 0 0]) Tryd.underlying24 I27 rfl rfl rfl rfl rfl rfl (by decide) (by unfold maxLen; omega) rfl (fun b_2 => ?_)
  refine bd' S27 rfl rfl rfl ?_
  refine al Tryd.zeroValue27 rfl rfl (fun b_3 => ?_)
  refine sa Tryd.sizeOf27 rfl rfl rfl rfl rfl .head ?_
  refine nl ?_
  refine sq ?_
  refine rgD 9 (.keep (.keep (.keep .nil))) mixed ?_
  refine dT 0 rfl rfl rfl (by kernel_rfl) (fun _ _ _ h => h) (y_fa0 F27_3 rfl) (.keep (.keep (.keep .nil))) (Fz.le.refl _) ?_
  refine dT 1 rfl rfl rfl (by kernel_rfl) (fun _ _ _ h => h) (y_ld (Says.own .head) Tryd.isAgg24 rfl (Nat.zero_add _).symm rfl) (.keep (.keep (.keep .nil))) (Fz.le.refl _) ?_
  refine dT 2 rfl rfl rfl (by kernel_rfl) (fun _ _ _ h => h) (y_mv rfl) (.keep (.keep (.keep .nil))) (Fz.le.refl _) ?_
  refine dT 3 rfl rfl rfl (by kernel_rfl) (fun _ _ _ h => h) (y_nc rfl) (.keep (.keep (.keep .nil))) (Fz.le.refl _) ?_
  refine dT 4 rfl rfl rfl (by kernel_rfl) (fun _ _ _ h => h) (y_fa F65_0 rfl) (.keep (.keep (.keep .nil))) (Fz.le.refl _) ?_
  refine dT 5 rfl rfl rfl (by kernel_rfl) (fun _ _ _ h => h) (y_ld (j := 0) (Says.fz hb) Tryd.isAgg9 rfl (Nat.add_zero _).symm rfl) (.keep (.keep (.keep .nil))) (Fz.le.refl _) ?_
  refine dE 6 (by kernel_rfl) rfl ?_
  refine csb Tryd.underlying9 Tryd.underlying22 Tryd.underlying5 rfl (by have := (hf.at 0).s; unfold B47; omega) rfl (fun Hb14 b14 cp14 le_4 hb14 => ?_)
  refine dN (.keep (.keep (.keep .nil))) le_4 ?_
  refine dT 7 rfl rfl rfl (by kernel_rfl) (fun _ _ _ h => h) (y_bd S27 rfl rfl) (.keep (.keep (.keep .nil))) le_4 ?_
  refine dT 8 rfl rfl rfl (by kernel_rfl) (fun _ _ _ h => h) (y_ix2 (j := 0) Tryd.runUnderlying24 Tryd.sizeOf27 rfl rfl rfl rfl (by decide)) (.keep (.keep (.keep .nil))) le_4 ?_
  refine dE 9 (by kernel_rfl) rfl ?_
  refine sa Tryd.sizeOf27 rfl rfl rfl rfl rfl (.tail .head) ?_
  refine dNk (by kernel_rfl) ?_
  refine dD (by kernel_rfl) ?_
  refine Nt ?_
  refine sq ?_
  refine rgD 9 (.keep (.keep (.keep .nil))) mixed ?_
  refine dT 0 rfl rfl rfl (by kernel_rfl) (fun _ _ _ h => h) (y_fa0 F27_3 rfl) (.keep (.keep (.keep .nil))) (Fz.le.refl _) ?_
  refine dT 1 rfl rfl rfl (by kernel_rfl) (fun _ _ _ h => h) (y_ld (Says.own .head) Tryd.isAgg24 rfl (Nat.zero_add _).symm rfl) (.keep (.keep (.keep .nil))) (Fz.le.refl _) ?_
  refine dT 2 rfl rfl rfl (by kernel_rfl) (fun _ _ _ h => h) (y_mv rfl) (.keep (.keep (.keep .nil))) (Fz.le.refl _) ?_
  refine dT 3 rfl rfl rfl (by kernel_rfl) (fun _ _ _ h => h) (y_nc rfl) (.keep (.keep (.keep .nil))) (Fz.le.refl _) ?_
  refine dT 4 rfl rfl rfl (by kernel_rfl) (fun _ _ _ h => h) (y_fa F65_1 rfl) (.keep (.keep (.keep .nil))) (Fz.le.refl _) ?_
  refine dT 5 rfl rfl rfl (by kernel_rfl) (fun _ _ _ h => h) (y_ld (j := 1) (Says.fz (hb.mono le_4)) Tryd.isAgg21 rfl rfl rfl) (.keep (.keep (.keep .nil))) (Fz.le.refl _) ?_
  refine dT 6 rfl rfl rfl (by kernel_rfl) (fun _ _ _ h => h) (y_cv Tryd.runUnderlying21 Tryd.runUnderlying2 rfl (i32_64 _)) (.keep (.keep (.keep .nil))) (Fz.le.refl _) ?_
  refine dT 7 rfl rfl rfl (by kernel_rfl) (fun _ _ _ h => h) (y_bd S27 rfl rfl) (.keep (.keep (.keep .nil))) (Fz.le.refl _) ?_
  refine dT 8 rfl rfl rfl (by kernel_rfl) (fun _ _ _ h => h) (y_ix2 (j := 1) Tryd.runUnderlying24 Tryd.sizeOf27 rfl rfl rfl rfl (by decide)) (.keep (.keep (.keep .nil))) (Fz.le.refl _) ?_
  refine dE 9 (by kernel_rfl) rfl ?_
  refine sa Tryd.sizeOf27 rfl rfl rfl rfl rfl (.tail .head) ?_
  refine dNk (by kernel_rfl) ?_
  refine dD (by kernel_rfl) ?_
  refine Nt ?_
  refine sq ?_
  refine rgD 9 (.keep (.keep (.keep .nil))) mixed ?_
  refine dT 0 rfl rfl rfl (by kernel_rfl) (fun _ _ _ h => h) (y_fa0 F27_3 rfl) (.keep (.keep (.keep .nil))) (Fz.le.refl _) ?_
  refine dT 1 rfl rfl rfl (by kernel_rfl) (fun _ _ _ h => h) (y_ld (Says.own .head) Tryd.isAgg24 rfl (Nat.zero_add _).symm rfl) (.keep (.keep (.keep .nil))) (Fz.le.refl _) ?_
  refine dT 2 rfl rfl rfl (by kernel_rfl) (fun _ _ _ h => h) (y_mv rfl) (.keep (.keep (.keep .nil))) (Fz.le.refl _) ?_
  refine dT 3 rfl rfl rfl (by kernel_rfl) (fun _ _ _ h => h) (y_nc rfl) (.keep (.keep (.keep .nil))) (Fz.le.refl _) ?_
  refine dT 4 rfl rfl rfl (by kernel_rfl) (fun _ _ _ h => h) (y_fa F65_2 rfl) (.keep (.keep (.keep .nil))) (Fz.le.refl _) ?_
  refine dT 5 rfl rfl rfl (by kernel_rfl) (fun _ _ _ h => h) (y_ld (j := 2) (Says.fz (hb.mono le_4)) Tryd.isAgg62 rfl rfl rfl) (.keep (.keep (.keep .nil))) (Fz.le.refl _) ?_
  refine dT 6 rfl rfl rfl (by kernel_rfl) (fun _ _ _ h => h) (y_esn Tryd.underlying62 rfl) (.keep (.keep (.keep .nil))) (Fz.le.refl _) ?_
  refine dE 7 (by kernel_rfl) rfl ?_
  refine ixk (j := 2) Tryd.runUnderlying24 Tryd.sizeOf27 rfl rfl rfl rfl (by decide) rfl ?_
  refine dN (.keep (.keep (.keep .nil))) (Fz.le.refl _) ?_
  refine dT 8 rfl rfl rfl (by kernel_rfl) (fun _ _ _ h => h) (y_fa F27_2 rfl) (.keep (.keep (.keep .nil))) (Fz.le.refl _) ?_
  refine dE 9 (by kernel_rfl) rfl ?_
  refine st Tryd.sizeOf4 rfl rfl rfl rfl (.tail .head) ?_
  refine dNk (by kernel_rfl) ?_
  refine dD (by kernel_rfl) ?_
  refine Nt ?_
  refine sq ?_
  refine sr ?_
  refine mv rfl rfl ?_
  refine nc rfl rfl ?_
  refine fa F65_2 rfl rfl ?_
  refine ld (Says.fz (hb.mono le_4)) Tryd.isAgg62 rfl rfl rfl rfl ?_
  refine ls Tryd.runUnderlying62 rfl rfl ?_
  refine mv rfl rfl ?_
  refine nl ?_
  have hlm2 := (hf.at 2).lTl
  refine nulC2 ?_
  refine fr ((lT (T.at 2)).length) (fun k2 l' H' L' => ∃ (al2 : Option Addr), ∃ (ml2 : Nat), ∃ (cl2 : Nat), ∃ (es2 : List EE), ∃ (Nl2 : Chunk), [(0, .pointer (some ⟨b, o, none⟩)), (2, .pointer (some ⟨b_1, 0, none⟩)), (3, .pointer (some ⟨b_3, 0, none⟩)), (39, .int .i64 ((lT (T.at 2)).length : Int))] = l' ∧ Nl2 :: [(b_3, .cells [.int .i64 0, .slice none 0 0, .bool false, _, .slice none 0 0].toArray 27 (0, 0))] :: [(b_2, .cells [.int .i64 0, .slice (some ⟨b14, 0, none⟩) (T.at 0).s.length cp14, .bool false, .slice none 0 0, .slice none 0 0, .int .i64 (IntKind.i32.wrap (T.at 1).n), .slice none 0 0, .bool false, .slice none 0 0, .slice none 0 0, .int .i64 0, .slice none 0 0, .bool a2.isNone, .slice al2 ml2 cl2, .slice none 0 0, .int .i64 0, .slice none 0 0, .bool false, .slice none 0 0, .slice none 0 0].toArray 27 (0, 0))] :: [(b_1, .cells [.int .i64 0, .slice none 0 0, .bool false, .slice none 0 0, .slice none 0 0].toArray 27 (0, 0))] :: L = L' ∧ Row 27 5 al2 ml2 cl2 (es2.flatMap f5) Nl2 ∧ ml2 = es2.length ∧ es2.map (·.2) = ((lT (T.at 2)).take k2).map (fun y : Tr => (Tr.mk (IntKind.i32.wrap y.n) [] false [] [] : Tr)) ∧ (∀ p : EE, p ∈ es2 → TreeAt H' p.1 p.2)) [(0, .pointer (some ⟨b, o, none⟩)), (2, .pointer (some ⟨b_1, 0, none⟩)), (3, .pointer (some ⟨b_3, 0, none⟩)), (39, .int .i64 ((lT (T.at 2)).length : Int))] (fun k2 l' H' L' h => ?_) (by omega) rfl (.cons rfl (.cons rfl (.cons rfl (.cons rfl (.nil _))))) ⟨none, 0, 0, [], [], rfl, rfl, (Row.nil _ _), rfl, (by simp), (fun p hp => by cases hp)⟩ rfl rfl rfl rfl rfl (fun k2 l' H' L' hk2 le_5 hI => ?_) (fun l' H' L' le_6 hI => ?_)
  · obtain ⟨al2, ml2, cl2, es2, Nl2, rfl, _⟩ := h; exact ⟨rfl, rfl, rfl, rfl⟩
  · skip
    obtain ⟨al2, ml2, cl2, es2, Nl2, rfl, rfl, pk20, pk21, pk22, pk23⟩ := hI
    refine sr ?_
    refine mv rfl rfl ?_
    refine asg rfl rfl ?_
    refine nl ?_
    refine sq ?_
    refine rgD 4 .nil mixed ?_
    refine dE 0 (by kernel_rfl) rfl ?_
    refine al Tryd.zeroValue4 rfl rfl (fun b_7 => ?_)
    refine dN .nil (Fz.le.refl _) ?_
    refine dE2 1 2 (by kernel_rfl) rfl rfl ?_ ?_
    · skip
      refine st Tryd.sizeOf4 rfl rfl rfl rfl .head ?_
      refine dN .nil (Fz.le.refl _) ?_
      refine dE 2 (by kernel_rfl) rfl ?_
      refine st Tryd.sizeOf4 rfl rfl rfl rfl .head ?_
      refine dN .nil (Fz.le.refl _) ?_
      refine dE 3 (by kernel_rfl) rfl ?_
      refine ld (Says.own .head) Tryd.isAgg4 rfl (Nat.zero_add _).symm rfl rfl ?_
      refine dN .nil (Fz.le.refl _) ?_
      refine dD (by kernel_rfl) ?_
      refine drN .head ?_
      refine Nt ?_
      refine cF rfl ?_
      refine rgD 20 (.skip (.keep (.keep (.keep .nil)))) mixed ?_
      refine dT 0 rfl rfl rfl (by kernel_rfl) (fun _ _ _ h => h) (y_fa0 F27_3 rfl) (.skip (.keep (.keep (.keep .nil)))) (Fz.le.refl _) ?_
      refine dT 1 rfl rfl rfl (by kernel_rfl) (fun _ _ _ h => h) (y_ld (Says.own .head) Tryd.isAgg24 rfl (Nat.zero_add _).symm rfl) (.skip (.keep (.keep (.keep .nil)))) (Fz.le.refl _) ?_
      refine dT 2 rfl rfl rfl (by kernel_rfl) (fun _ _ _ h => h) (y_fa0 F27_3 rfl) (.skip (.keep (.keep (.keep .nil)))) (Fz.le.refl _) ?_
      refine dT 3 rfl rfl rfl (by kernel_rfl) (fun _ _ _ h => h) (y_ld (Says.own .head) Tryd.isAgg24 rfl (Nat.zero_add _).symm rfl) (.skip (.keep (.keep (.keep .nil)))) (Fz.le.refl _) ?_
      refine dT 4 rfl rfl rfl (by kernel_rfl) (fun _ _ _ h => h) (y_ix2 (j := 2) Tryd.runUnderlying24 Tryd.sizeOf27 rfl rfl rfl rfl (by decide)) (.skip (.keep (.keep (.keep .nil)))) (Fz.le.refl _) ?_
      refine dT 5 rfl rfl rfl (by kernel_rfl) (fun _ _ _ h => h) (y_fa F27_3 rfl) (.skip (.keep (.keep (.keep .nil)))) (Fz.le.refl _) ?_
      refine dT 6 rfl rfl rfl (by kernel_rfl) (fun _ _ _ h => h) (y_ld (Says.own (.tail .head)) Tryd.isAgg24 rfl (Nat.zero_add _).symm rfl) (.skip (.keep (.keep (.keep .nil)))) (Fz.le.refl _) ?_
      refine dT 7 rfl rfl rfl (by kernel_rfl) (fun _ _ _ h => h) (y_mv rfl) (.skip (.keep (.keep (.keep .nil)))) (Fz.le.refl _) ?_
      refine dT 8 rfl rfl rfl (by kernel_rfl) (fun _ _ _ h => h) (y_nc rfl) (.skip (.keep (.keep (.keep .nil)))) (Fz.le.refl _) ?_
      refine dT 9 rfl rfl rfl (by kernel_rfl) (fun _ _ _ h => h) (y_fa F65_2 rfl) (.skip (.keep (.keep (.keep .nil)))) (Fz.le.refl _) ?_
      refine dT 10 rfl rfl rfl (by kernel_rfl) (fun _ _ _ h => h) (y_ld (j := 2) (Says.fz (hb.mono (le_4.trans le_5))) Tryd.isAgg62 rfl rfl rfl) (.skip (.keep (.keep (.keep .nil)))) (Fz.le.refl _) ?_
      refine dT 11 rfl rfl rfl (by kernel_rfl) (fun _ _ _ h => h) (y_mv rfl) (.skip (.keep (.keep (.keep .nil)))) (Fz.le.refl _) ?_
      obtain ⟨beq_8, oeq_8, haq_8, hlq_8⟩ := ((h1.mono RI32.mono (le_4.trans le_5))).rows.at_ (ne_nil_of_lt hk2)
      obtain ⟨ceq_8, hAq_8, hbq_8⟩ := hlq_8 k2 hk2
      obtain rfl : ceq_8 = [.int .i32 (IntKind.i32.wrap ((lT (T.at 2))[k2]).n)] := hAq_8
      refine dT 12 rfl rfl rfl (by kernel_rfl) (fun _ _ _ h => h) (y_ixk (j := k2) Tryd.runUnderlying62 Tryd.sizeOf21 rfl haq_8 rfl rfl hk2) (.skip (.keep (.keep (.keep .nil)))) (Fz.le.refl _) ?_
      refine dT 13 rfl rfl rfl (by kernel_rfl) (fun _ _ _ h => h) (y_ld (Says.fz hbq_8) Tryd.isAgg21 rfl (Nat.add_zero _).symm rfl) (.skip (.keep (.keep (.keep .nil)))) (Fz.le.refl _) ?_
      refine dT 14 rfl rfl rfl (by kernel_rfl) (fun _ _ _ h => h) (y_cv Tryd.runUnderlying21 Tryd.runUnderlying2 rfl (i32_64 _)) (.skip (.keep (.keep (.keep .nil)))) (Fz.le.refl _) ?_
      refine dT 15 rfl rfl rfl (by kernel_rfl) (fun _ _ _ h => h) (y_bd S27 rfl rfl) (.skip (.keep (.keep (.keep .nil)))) (Fz.le.refl _) ?_
      refine dE 16 (by kernel_rfl) rfl ?_
      refine bs' L24 rfl rfl rfl rfl (fun b_9 => ?_)
      refine dN (.skip (.skip (.keep (.keep (.keep .nil))))) (Fz.le.refl _) ?_
      refine dE 17 (by kernel_rfl) rfl ?_
      have hmk : ml2 = k2 := by have h1 := congrArg List.length pk22; rw [List.length_map, List.length_map, List.length_take] at h1; omega
      have hmb := (hf.at 2).lTl
      refine ap (k := 1) (news := f5 (((TC.none : TC), (Tr.mk (IntKind.i32.wrap ((lT (T.at 2))[k2]).n) [] false [] [] : Tr)) : EE)) Tryd.underlying24 I27 rfl rfl pk20 (fun _ => (.tail .head)) (src_says Tryd.underlying24 rfl (fun _ => Says.own .head) (f5_one _)) (by omega) (by unfold maxLen; omega) rfl (fun a82 c82 N82 r82 z82 => ?_)
      rw [flatMap_snoc'] at r82
      refine dN (.skip (.skip (.keep (.keep (.keep .nil))))) (Fz.le.refl _) ?_
      refine dE 18 (by kernel_rfl) rfl ?_
      refine ixk (j := 2) Tryd.runUnderlying24 Tryd.sizeOf27 rfl rfl rfl rfl (by decide) rfl ?_
      refine dN (.skip (.skip (.keep (.keep (.keep .nil))))) (Fz.le.refl _) ?_
      refine dT 19 rfl rfl rfl (by kernel_rfl) (fun _ _ _ h => h) (y_fa F27_3 rfl) (.skip (.skip (.keep (.keep (.keep .nil))))) (Fz.le.refl _) ?_
      refine dE 20 (by kernel_rfl) rfl ?_
      refine st Tryd.sizeOf24 rfl rfl rfl rfl (.tail (.tail (.tail .head))) ?_
      refine dNk (by kernel_rfl) ?_
      refine dD (by kernel_rfl) ?_
      refine Nb ?_
      refine drN .head ?_
      refine fun a_ w_ hA hw => ⟨_, _, _, hA.sub ?_, le_5, hw, _, rfl, a82, (ml2 + 1), c82, (es2 ++ [(((TC.none : TC), (Tr.mk (IntKind.i32.wrap ((lT (T.at 2))[k2]).n) [] false [] [] : Tr)) : EE)]), N82, rfl, rfl, r82, (by simp; omega), (map_take_snoc (g := (fun y : Tr => (Tr.mk (IntKind.i32.wrap y.n) [] false [] [] : Tr))) hk2 pk22), (fun p hp => (mem_snoc hp).elim (fun h => (pk23 p h).mono (Fz.le.refl _)) (fun h => h ▸ (.of (.nil _) (.nil _) (.nil _))))⟩
      exact (.cons rfl (.cons rfl (.cons rfl (.cons rfl (.cons rfl (.nil _))))))
    · skip
      refine st Tryd.sizeOf4 rfl rfl rfl rfl .head ?_
      refine dN .nil (Fz.le.refl _) ?_
      refine dE 1 (by kernel_rfl) rfl ?_
      refine st Tryd.sizeOf4 rfl rfl rfl rfl .head ?_
      refine dN .nil (Fz.le.refl _) ?_
      refine dE 3 (by kernel_rfl) rfl ?_
      refine ld (Says.own .head) Tryd.isAgg4 rfl (Nat.zero_add _).symm rfl rfl ?_
      refine dN .nil (Fz.le.refl _) ?_
      refine dD (by kernel_rfl) ?_
      refine drN .head ?_
      refine Nt ?_
      refine cT rfl ?_
      refine sq ?_
      refine rgD 19 (.skip (.keep (.keep (.keep .nil)))) mixed ?_
      refine dT 0 rfl rfl rfl (by kernel_rfl) (fun _ _ _ h => h) (y_fa0 F27_3 rfl) (.skip (.keep (.keep (.keep .nil)))) (Fz.le.refl _) ?_
      refine dT 1 rfl rfl rfl (by kernel_rfl) (fun _ _ _ h => h) (y_ld (Says.own .head) Tryd.isAgg24 rfl (Nat.zero_add _).symm rfl) (.skip (.keep (.keep (.keep .nil)))) (Fz.le.refl _) ?_
      refine dT 2 rfl rfl rfl (by kernel_rfl) (fun _ _ _ h => h) (y_ix2 (j := 2) Tryd.runUnderlying24 Tryd.sizeOf27 rfl rfl rfl rfl (by decide)) (.skip (.keep (.keep (.keep .nil)))) (Fz.le.refl _) ?_
      refine dT 3 rfl rfl rfl (by kernel_rfl) (fun _ _ _ h => h) (y_fa F27_3 rfl) (.skip (.keep (.keep (.keep .nil)))) (Fz.le.refl _) ?_
      refine dT 4 rfl rfl rfl (by kernel_rfl) (fun _ _ _ h => h) (y_ld (Says.own (.tail .head)) Tryd.isAgg24 rfl (Nat.zero_add _).symm rfl) (.skip (.keep (.keep (.keep .nil)))) (Fz.le.refl _) ?_
      refine dT 5 rfl rfl rfl (by kernel_rfl) (fun _ _ _ h => h) (y_mv rfl) (.skip (.keep (.keep (.keep .nil)))) (Fz.le.refl _) ?_
      refine dT 6 rfl rfl rfl (by kernel_rfl) (fun _ _ _ h => h) (y_nc rfl) (.skip (.keep (.keep (.keep .nil)))) (Fz.le.refl _) ?_
      refine dT 7 rfl rfl rfl (by kernel_rfl) (fun _ _ _ h => h) (y_fa F65_2 rfl) (.skip (.keep (.keep (.keep .nil)))) (Fz.le.refl _) ?_
      refine dT 8 rfl rfl rfl (by kernel_rfl) (fun _ _ _ h => h) (y_ld (j := 2) (Says.fz (hb.mono (le_4.trans le_5))) Tryd.isAgg62 rfl rfl rfl) (.skip (.keep (.keep (.keep .nil)))) (Fz.le.refl _) ?_
      refine dT 9 rfl rfl rfl (by kernel_rfl) (fun _ _ _ h => h) (y_mv rfl) (.skip (.keep (.keep (.keep .nil)))) (Fz.le.refl _) ?_
      obtain ⟨beq_10, oeq_10, haq_10, hlq_10⟩ := ((h1.mono RI32.mono (le_4.trans le_5))).rows.at_ (ne_nil_of_lt hk2)
      obtain ⟨ceq_10, hAq_10, hbq_10⟩ := hlq_10 k2 hk2
      obtain rfl : ceq_10 = [.int .i32 (IntKind.i32.wrap ((lT (T.at 2))[k2]).n)] := hAq_10
      refine dT 10 rfl rfl rfl (by kernel_rfl) (fun _ _ _ h => h) (y_ixk (j := k2) Tryd.runUnderlying62 Tryd.sizeOf21 rfl haq_10 rfl rfl hk2) (.skip (.keep (.keep (.keep .nil)))) (Fz.le.refl _) ?_
      refine dT 11 rfl rfl rfl (by kernel_rfl) (fun _ _ _ h => h) (y_ld (Says.fz hbq_10) Tryd.isAgg21 rfl (Nat.add_zero _).symm rfl) (.skip (.keep (.keep (.keep .nil)))) (Fz.le.refl _) ?_
      refine dT 12 rfl rfl rfl (by kernel_rfl) (fun _ _ _ h => h) (y_cv Tryd.runUnderlying21 Tryd.runUnderlying2 rfl (i32_64 _)) (.skip (.keep (.keep (.keep .nil)))) (Fz.le.refl _) ?_
      refine dT 13 rfl rfl rfl (by kernel_rfl) (fun _ _ _ h => h) (y_bd S27 rfl rfl) (.skip (.keep (.keep (.keep .nil)))) (Fz.le.refl _) ?_
      refine dT 14 rfl rfl rfl (by kernel_rfl) (fun _ _ _ h => h) (y_ls Tryd.runUnderlying24 rfl) (.skip (.keep (.keep (.keep .nil)))) (Fz.le.refl _) ?_
      refine dE 15 (by kernel_rfl) rfl ?_
      refine bs' L24 rfl rfl rfl rfl (fun b_11 => ?_)
      refine dN (.skip (.skip (.keep (.keep (.keep .nil))))) (Fz.le.refl _) ?_
      refine dE 16 (by kernel_rfl) rfl ?_
      have hmk : ml2 = k2 := by have h1 := congrArg List.length pk22; rw [List.length_map, List.length_map, List.length_take] at h1; omega
      have hmb := (hf.at 2).lTl
      refine ap (k := 1) (news := f5 ((TC.none, Tr.none) : EE)) Tryd.underlying24 I27 rfl rfl pk20 (fun _ => (.tail .head)) (src_says Tryd.underlying24 rfl (fun _ => Says.own .head) (f5_one _)) (by omega) (by unfold maxLen; omega) rfl (fun a61 c61 N61 r61 z61 => ?_)
      refine dN (.skip (.skip (.keep (.keep (.keep .nil))))) (Fz.le.refl _) ?_
      refine dE 17 (by kernel_rfl) rfl ?_
      refine ixk (j := 2) Tryd.runUnderlying24 Tryd.sizeOf27 rfl rfl rfl rfl (by decide) rfl ?_
      refine dN (.skip (.skip (.keep (.keep (.keep .nil))))) (Fz.le.refl _) ?_
      refine dT 18 rfl rfl rfl (by kernel_rfl) (fun _ _ _ h => h) (y_fa F27_3 rfl) (.skip (.skip (.keep (.keep (.keep .nil))))) (Fz.le.refl _) ?_
      refine dE 19 (by kernel_rfl) rfl ?_
      refine st Tryd.sizeOf24 rfl rfl rfl rfl (.tail (.tail (.tail .head))) ?_
      refine dNk (by kernel_rfl) ?_
      refine dD (by kernel_rfl) ?_
      refine Nt ?_
      refine rg ?_
      obtain ⟨gg61, hgg61⟩ := r61.addr (by omega)
      refine ixk (j := ml2) Tryd.runUnderlying24 Tryd.sizeOf27 rfl hgg61 rfl rfl (by omega) rfl ?_
      refine sR (ds := f5 (((TC.none : TC), (Tr.mk (IntKind.i32.wrap ((lT (T.at 2))[k2]).n) [] false [] [] : Tr)) : EE)) r61 hgg61 (fun _ => (.tail .head)) Tryd.sizeOf27 rfl rfl rfl rfl (by omega) (fun N61b r61b => ?_)
      rw [row_put (k := 5) (m := ml2) (A := es2.flatMap f5) (by rw [flatMap_len f5 5 f5_len, pk21]) rfl, flatMap_snoc'] at r61b
      refine nN ?_
      refine Nb ?_
      refine drN .head ?_
      refine fun a_ w_ hA hw => ⟨_, _, _, hA.sub ?_, le_5, hw, _, rfl, a61, (ml2 + 1), c61, (es2 ++ [(((TC.none : TC), (Tr.mk (IntKind.i32.wrap ((lT (T.at 2))[k2]).n) [] false [] [] : Tr)) : EE)]), N61b, rfl, rfl, r61b, (by simp; omega), (map_take_snoc (g := (fun y : Tr => (Tr.mk (IntKind.i32.wrap y.n) [] false [] [] : Tr))) hk2 pk22), (fun p hp => (mem_snoc hp).elim (fun h => (pk23 p h).mono (Fz.le.refl _)) (fun h => h ▸ (.of (.nil _) (.nil _) (.nil _))))⟩
      exact (.cons rfl (.cons rfl (.cons rfl (.cons rfl (.cons rfl (.nil _))))))
  · skip
    obtain ⟨al2, ml2, cl2, es2, Nl2, rfl, rfl, pk20, pk21, pk22, pk23⟩ := hI
    refine toWp ?_
    have hes2 : es2.map (·.2) = (lT (T.at 2)).map (fun y : Tr => (Tr.mk (IntKind.i32.wrap y.n) [] false [] [] : Tr)) := by rw [pk22, List.take_length]
    have hm2 : ml2 = ((lT (T.at 2)).map (fun y : Tr => (Tr.mk (IntKind.i32.wrap y.n) [] false [] [] : Tr))).length := by rw [← hes2, List.length_map]; exact pk21
    refine frW pk20 .head (fun Hl2 hll2 hzl2 => ?_)
    have ht2 := TreesAt.row hzl2 pk21 pk20.le.1 (by have h1 := congrArg List.length hes2; rw [List.length_map, List.length_map] at h1; unfold B47; omega) (fun p hp => (pk23 p hp).mono hll2)
    rw [hes2] at ht2
    subst hm2
    refine sq ?_
    refine rgD 9 (.keep (.keep (.keep .nil))) mixed ?_
    refine dT 0 rfl rfl rfl (by kernel_rfl) (fun _ _ _ h => h) (y_fa0 F27_3 rfl) (.keep (.keep (.keep .nil))) (Fz.le.refl _) ?_
    refine dT 1 rfl rfl rfl (by kernel_rfl) (fun _ _ _ h => h) (y_ld (Says.own .head) Tryd.isAgg24 rfl (Nat.zero_add _).symm rfl) (.keep (.keep (.keep .nil))) (Fz.le.refl _) ?_
    refine dT 2 rfl rfl rfl (by kernel_rfl) (fun _ _ _ h => h) (y_mv rfl) (.keep (.keep (.keep .nil))) (Fz.le.refl _) ?_
    refine dT 3 rfl rfl rfl (by kernel_rfl) (fun _ _ _ h => h) (y_nc rfl) (.keep (.keep (.keep .nil))) (Fz.le.refl _) ?_
    refine dT 4 rfl rfl rfl (by kernel_rfl) (fun _ _ _ h => h) (y_fa F65_3 rfl) (.keep (.keep (.keep .nil))) (Fz.le.refl _) ?_
    refine dT 5 rfl rfl rfl (by kernel_rfl) (fun _ _ _ h => h) (y_ld (j := 3) (Says.fz (hb.mono (le_4.trans (le_6.trans hll2)))) Tryd.isAgg63 rfl rfl rfl) (.keep (.keep (.keep .nil))) (Fz.le.refl _) ?_
    refine dT 6 rfl rfl rfl (by kernel_rfl) (fun _ _ _ h => h) (y_esn Tryd.underlying63 rfl) (.keep (.keep (.keep .nil))) (Fz.le.refl _) ?_
    refine dE 7 (by kernel_rfl) rfl ?_
    refine ixk (j := 3) Tryd.runUnderlying24 Tryd.sizeOf27 rfl rfl rfl rfl (by decide) rfl ?_
    refine dN (.keep (.keep (.keep .nil))) (Fz.le.refl _) ?_
    refine dT 8 rfl rfl rfl (by kernel_rfl) (fun _ _ _ h => h) (y_fa F27_2 rfl) (.keep (.keep (.keep .nil))) (Fz.le.refl _) ?_
    refine dE 9 (by kernel_rfl) rfl ?_
    refine st Tryd.sizeOf4 rfl rfl rfl rfl (.tail .head) ?_
    refine dNk (by kernel_rfl) ?_
    refine dD (by kernel_rfl) ?_
    refine Nt ?_
    refine sq ?_
    refine sr ?_
    refine mv rfl rfl ?_
    refine nc rfl rfl ?_
    refine fa F65_3 rfl rfl ?_
    refine ld (Says.fz (hb.mono (le_4.trans (le_6.trans hll2)))) Tryd.isAgg63 rfl rfl rfl rfl ?_
    refine ls Tryd.runUnderlying63 rfl rfl ?_
    refine mv rfl rfl ?_
    refine nl ?_
    have hlm3 := (hf.at 3).lTl
    refine nulC2 ?_
    refine fr ((lT (T.at 3)).length) (fun k3 l' H' L' => ∃ (al3 : Option Addr), ∃ (ml3 : Nat), ∃ (cl3 : Nat), ∃ (es3 : List EE), ∃ (Nl3 : Chunk), [(0, .pointer (some ⟨b, o, none⟩)), (2, .pointer (some ⟨b_1, 0, none⟩)), (3, .pointer (some ⟨b_3, 0, none⟩)), (99, .int .i64 ((lT (T.at 3)).length : Int))] = l' ∧ Nl3 :: [(b_3, .cells [.int .i64 0, .slice none 0 0, .bool false, _, .slice none 0 0].toArray 27 (0, 0))] :: [(b_2, .cells [.int .i64 0, .slice (some ⟨b14, 0, none⟩) (T.at 0).s.length cp14, .bool false, .slice none 0 0, .slice none 0 0, .int .i64 (IntKind.i32.wrap (T.at 1).n), .slice none 0 0, .bool false, .slice none 0 0, .slice none 0 0, .int .i64 0, .slice none 0 0, .bool a2.isNone, .slice al2 ((lT (T.at 2)).map (fun y : Tr => (Tr.mk (IntKind.i32.wrap y.n) [] false [] [] : Tr))).length cl2, .slice none 0 0, .int .i64 0, .slice none 0 0, .bool a3.isNone, .slice al3 ml3 cl3, .slice none 0 0].toArray 27 (0, 0))] :: [(b_1, .cells [.int .i64 0, .slice none 0 0, .bool false, .slice none 0 0, .slice none 0 0].toArray 27 (0, 0))] :: L = L' ∧ Row 27 5 al3 ml3 cl3 (es3.flatMap f5) Nl3 ∧ ml3 = es3.length ∧ es3.map (·.2) = ((lT (T.at 3)).take k3).map tl_StopReplicaRequestTopicPartitionState ∧ (∀ p : EE, p ∈ es3 → TreeAt H' p.1 p.2)) [(0, .pointer (some ⟨b, o, none⟩)), (2, .pointer (some ⟨b_1, 0, none⟩)), (3, .pointer (some ⟨b_3, 0, none⟩)), (99, .int .i64 ((lT (T.at 3)).length : Int))] (fun k3 l' H' L' h => ?_) (by omega) rfl (.cons rfl (.cons rfl (.cons rfl (.cons rfl (.nil _))))) ⟨none, 0, 0, [], [], rfl, rfl, (Row.nil _ _), rfl, (by simp), (fun p hp => by cases hp)⟩ rfl rfl rfl rfl rfl (fun k3 l' H' L' hk3 le_12 hI => ?_) (fun l' H' L' le_13 hI => ?_)
    · obtain ⟨al3, ml3, cl3, es3, Nl3, rfl, _⟩ := h; exact ⟨rfl, rfl, rfl, rfl⟩
    · skip
      obtain ⟨al3, ml3, cl3, es3, Nl3, rfl, rfl, pk30, pk31, pk32, pk33⟩ := hI
      refine sr ?_
      refine mv rfl rfl ?_
      refine asg rfl rfl ?_
      refine nl ?_
      refine sq ?_
      refine rgD 4 .nil mixed ?_
      refine dE 0 (by kernel_rfl) rfl ?_
      refine al Tryd.zeroValue4 rfl rfl (fun b_14 => ?_)
      refine dN .nil (Fz.le.refl _) ?_
      refine dE2 1 2 (by kernel_rfl) rfl rfl ?_ ?_
      · skip
        refine st Tryd.sizeOf4 rfl rfl rfl rfl .head ?_
        refine dN .nil (Fz.le.refl _) ?_
        refine dE 2 (by kernel_rfl) rfl ?_
        refine st Tryd.sizeOf4 rfl rfl rfl rfl .head ?_
        refine dN .nil (Fz.le.refl _) ?_
        refine dE 3 (by kernel_rfl) rfl ?_
        refine ld (Says.own .head) Tryd.isAgg4 rfl (Nat.zero_add _).symm rfl rfl ?_
        refine dN .nil (Fz.le.refl _) ?_
        refine dD (by kernel_rfl) ?_
        refine drN .head ?_
        refine Nt ?_
        refine cF rfl ?_
        refine rgD 18 (.skip (.keep (.keep (.keep .nil)))) mixed ?_
        refine dT 0 rfl rfl rfl (by kernel_rfl) (fun _ _ _ h => h) (y_fa0 F27_3 rfl) (.skip (.keep (.keep (.keep .nil)))) (Fz.le.refl _) ?_
        refine dT 1 rfl rfl rfl (by kernel_rfl) (fun _ _ _ h => h) (y_ld (Says.own .head) Tryd.isAgg24 rfl (Nat.zero_add _).symm rfl) (.skip (.keep (.keep (.keep .nil)))) (Fz.le.refl _) ?_
        refine dT 2 rfl rfl rfl (by kernel_rfl) (fun _ _ _ h => h) (y_fa0 F27_3 rfl) (.skip (.keep (.keep (.keep .nil)))) (Fz.le.refl _) ?_
        refine dT 3 rfl rfl rfl (by kernel_rfl) (fun _ _ _ h => h) (y_ld (Says.own .head) Tryd.isAgg24 rfl (Nat.zero_add _).symm rfl) (.skip (.keep (.keep (.keep .nil)))) (Fz.le.refl _) ?_
        refine dT 4 rfl rfl rfl (by kernel_rfl) (fun _ _ _ h => h) (y_ix2 (j := 3) Tryd.runUnderlying24 Tryd.sizeOf27 rfl rfl rfl rfl (by decide)) (.skip (.keep (.keep (.keep .nil)))) (Fz.le.refl _) ?_
        refine dT 5 rfl rfl rfl (by kernel_rfl) (fun _ _ _ h => h) (y_fa F27_3 rfl) (.skip (.keep (.keep (.keep .nil)))) (Fz.le.refl _) ?_
        refine dT 6 rfl rfl rfl (by kernel_rfl) (fun _ _ _ h => h) (y_ld (Says.own (.tail .head)) Tryd.isAgg24 rfl (Nat.zero_add _).symm rfl) (.skip (.keep (.keep (.keep .nil)))) (Fz.le.refl _) ?_
        refine dT 7 rfl rfl rfl (by kernel_rfl) (fun _ _ _ h => h) (y_mv rfl) (.skip (.keep (.keep (.keep .nil)))) (Fz.le.refl _) ?_
        refine dT 8 rfl rfl rfl (by kernel_rfl) (fun _ _ _ h => h) (y_nc rfl) (.skip (.keep (.keep (.keep .nil)))) (Fz.le.refl _) ?_
        refine dT 9 rfl rfl rfl (by kernel_rfl) (fun _ _ _ h => h) (y_fa F65_3 rfl) (.skip (.keep (.keep (.keep .nil)))) (Fz.le.refl _) ?_
        refine dT 10 rfl rfl rfl (by kernel_rfl) (fun _ _ _ h => h) (y_ld (j := 3) (Says.fz (hb.mono (le_4.trans (le_6.trans (hll2.trans le_12))))) Tryd.isAgg63 rfl rfl rfl) (.skip (.keep (.keep (.keep .nil)))) (Fz.le.refl _) ?_
        refine dT 11 rfl rfl rfl (by kernel_rfl) (fun _ _ _ h => h) (y_mv rfl) (.skip (.keep (.keep (.keep .nil)))) (Fz.le.refl _) ?_
        obtain ⟨beq_15, oeq_15, haq_15, hlq_15⟩ := ((h2.mono At_StopReplicaRequestTopicPartitionState.mono (le_4.trans (le_6.trans (hll2.trans le_12))))).rows.at_ (ne_nil_of_lt hk3)
        obtain ⟨ceq_15, hAq_15, hbq_15⟩ := hlq_15 k3 hk3
        refine dT 12 rfl rfl rfl (by kernel_rfl) (fun _ _ _ h => h) (y_ixk (j := k3) Tryd.runUnderlying63 Tryd.sizeOf78 rfl haq_15 rfl rfl hk3) (.skip (.keep (.keep (.keep .nil)))) (Fz.le.refl _) ?_
        refine dE 13 (by kernel_rfl) rfl ?_
        refine cl rfl rfl rfl (te_StopReplicaRequestTopicPartitionState hbq_15 (At_StopReplicaRequestTopicPartitionState.mono _ _ _ _ (Fz.le.refl _) hAq_15) ((hf.at 3).lTel (List.getElem_mem hk3))) rfl (fun v_ H1 L1 le_16 hR_ => ?_)
        obtain ⟨rfl, ct136, rfl, hT136⟩ := hR_
        refine dN (.skip (.keep (.keep (.keep .nil)))) le_16 ?_
        refine dE 14 (by kernel_rfl) rfl ?_
        refine bs' L24 rfl rfl rfl rfl (fun b_17 => ?_)
        refine dN (.skip (.skip (.keep (.keep (.keep .nil))))) le_16 ?_
        refine dE 15 (by kernel_rfl) rfl ?_
        have hmk : ml3 = k3 := by have h1 := congrArg List.length pk32; rw [List.length_map, List.length_map, List.length_take] at h1; omega
        have hmb := (hf.at 3).lTl
        refine ap (k := 1) (news := f5 ((ct136, tl_StopReplicaRequestTopicPartitionState (lT (T.at 3))[k3]) : EE)) Tryd.underlying24 I27 rfl rfl pk30 (fun _ => (.tail .head)) (src_says Tryd.underlying24 rfl (fun _ => Says.own .head) (f5_one _)) (by omega) (by unfold maxLen; omega) rfl (fun a138 c138 N138 r138 z138 => ?_)
        rw [flatMap_snoc'] at r138
        refine dN (.skip (.skip (.keep (.keep (.keep .nil))))) le_16 ?_
        refine dE 16 (by kernel_rfl) rfl ?_
        refine ixk (j := 3) Tryd.runUnderlying24 Tryd.sizeOf27 rfl rfl rfl rfl (by decide) rfl ?_
        refine dN (.skip (.skip (.keep (.keep (.keep .nil))))) le_16 ?_
        refine dT 17 rfl rfl rfl (by kernel_rfl) (fun _ _ _ h => h) (y_fa F27_3 rfl) (.skip (.skip (.keep (.keep (.keep .nil))))) le_16 ?_
        refine dE 18 (by kernel_rfl) rfl ?_
        refine st Tryd.sizeOf24 rfl rfl rfl rfl (.tail (.tail (.tail .head))) ?_
        refine dNk (by kernel_rfl) ?_
        refine dD (by kernel_rfl) ?_
        refine Nb ?_
        refine drN .head ?_
        refine fun a_ w_ hA hw => ⟨_, _, _, hA.sub ?_, (le_12.trans le_16), hw, _, rfl, a138, (ml3 + 1), c138, (es3 ++ [((ct136, tl_StopReplicaRequestTopicPartitionState (lT (T.at 3))[k3]) : EE)]), N138, rfl, rfl, r138, (by simp; omega), (map_take_snoc (g := tl_StopReplicaRequestTopicPartitionState) hk3 pk32), (fun p hp => (mem_snoc hp).elim (fun h => (pk33 p h).mono le_16) (fun h => h ▸ hT136))⟩
        exact (.cons rfl (.cons rfl (.cons rfl (.cons rfl (.cons rfl (.nil _))))))
      · skip
        refine st Tryd.sizeOf4 rfl rfl rfl rfl .head ?_
        refine dN .nil (Fz.le.refl _) ?_
        refine dE 1 (by kernel_rfl) rfl ?_
        refine st Tryd.sizeOf4 rfl rfl rfl rfl .head ?_
        refine dN .nil (Fz.le.refl _) ?_
        refine dE 3 (by kernel_rfl) rfl ?_
        refine ld (Says.own .head) Tryd.isAgg4 rfl (Nat.zero_add _).symm rfl rfl ?_
        refine dN .nil (Fz.le.refl _) ?_
        refine dD (by kernel_rfl) ?_
        refine drN .head ?_
        refine Nt ?_
        refine cT rfl ?_
        refine sq ?_
        refine rgD 17 (.skip (.keep (.keep (.keep .nil)))) mixed ?_
        refine dT 0 rfl rfl rfl (by kernel_rfl) (fun _ _ _ h => h) (y_fa0 F27_3 rfl) (.skip (.keep (.keep (.keep .nil)))) (Fz.le.refl _) ?_
        refine dT 1 rfl rfl rfl (by kernel_rfl) (fun _ _ _ h => h) (y_ld (Says.own .head) Tryd.isAgg24 rfl (Nat.zero_add _).symm rfl) (.skip (.keep (.keep (.keep .nil)))) (Fz.le.refl _) ?_
        refine dT 2 rfl rfl rfl (by kernel_rfl) (fun _ _ _ h => h) (y_ix2 (j := 3) Tryd.runUnderlying24 Tryd.sizeOf27 rfl rfl rfl rfl (by decide)) (.skip (.keep (.keep (.keep .nil)))) (Fz.le.refl _) ?_
        refine dT 3 rfl rfl rfl (by kernel_rfl) (fun _ _ _ h => h) (y_fa F27_3 rfl) (.skip (.keep (.keep (.keep .nil)))) (Fz.le.refl _) ?_
        refine dT 4 rfl rfl rfl (by kernel_rfl) (fun _ _ _ h => h) (y_ld (Says.own (.tail .head)) Tryd.isAgg24 rfl (Nat.zero_add _).symm rfl) (.skip (.keep (.keep (.keep .nil)))) (Fz.le.refl _) ?_
        refine dT 5 rfl rfl rfl (by kernel_rfl) (fun _ _ _ h => h) (y_mv rfl) (.skip (.keep (.keep (.keep .nil)))) (Fz.le.refl _) ?_
        refine dT 6 rfl rfl rfl (by kernel_rfl) (fun _ _ _ h => h) (y_nc rfl) (.skip (.keep (.keep (.keep .nil)))) (Fz.le.refl _) ?_
        refine dT 7 rfl rfl rfl (by kernel_rfl) (fun _ _ _ h => h) (y_fa F65_3 rfl) (.skip (.keep (.keep (.keep .nil)))) (Fz.le.refl _) ?_
        refine dT 8 rfl rfl rfl (by kernel_rfl) (fun _ _ _ h => h) (y_ld (j := 3) (Says.fz (hb.mono (le_4.trans (le_6.trans (hll2.trans le_12))))) Tryd.isAgg63 rfl rfl rfl) (.skip (.keep (.keep (.keep .nil)))) (Fz.le.refl _) ?_
        refine dT 9 rfl rfl rfl (by kernel_rfl) (fun _ _ _ h => h) (y_mv rfl) (.skip (.keep (.keep (.keep .nil)))) (Fz.le.refl _) ?_
        obtain ⟨beq_18, oeq_18, haq_18, hlq_18⟩ := ((h2.mono At_StopReplicaRequestTopicPartitionState.mono (le_4.trans (le_6.trans (hll2.trans le_12))))).rows.at_ (ne_nil_of_lt hk3)
        obtain ⟨ceq_18, hAq_18, hbq_18⟩ := hlq_18 k3 hk3
        refine dT 10 rfl rfl rfl (by kernel_rfl) (fun _ _ _ h => h) (y_ixk (j := k3) Tryd.runUnderlying63 Tryd.sizeOf78 rfl haq_18 rfl rfl hk3) (.skip (.keep (.keep (.keep .nil)))) (Fz.le.refl _) ?_
        refine dT 12 rfl rfl rfl (by kernel_rfl) (fun _ _ _ h => h) (y_ls Tryd.runUnderlying24 rfl) (.skip (.keep (.keep (.keep .nil)))) (Fz.le.refl _) ?_
        refine dE2 11 13 (by kernel_rfl) rfl rfl ?_ ?_
        · skip
          refine cl rfl rfl rfl (te_StopReplicaRequestTopicPartitionState hbq_18 (At_StopReplicaRequestTopicPartitionState.mono _ _ _ _ (Fz.le.refl _) hAq_18) ((hf.at 3).lTel (List.getElem_mem hk3))) rfl (fun v_ H1 L1 le_19 hR_ => ?_)
          obtain ⟨rfl, ct116, rfl, hT116⟩ := hR_
          refine dN (.skip (.keep (.keep (.keep .nil)))) le_19 ?_
          refine dE 13 (by kernel_rfl) rfl ?_
          refine bs' L24 rfl rfl rfl rfl (fun b_20 => ?_)
          refine dN (.skip (.skip (.keep (.keep (.keep .nil))))) le_19 ?_
          refine dE 14 (by kernel_rfl) rfl ?_
          have hmk : ml3 = k3 := by have h1 := congrArg List.length pk32; rw [List.length_map, List.length_map, List.length_take] at h1; omega
          have hmb := (hf.at 3).lTl
          refine ap (k := 1) (news := f5 ((TC.none, Tr.none) : EE)) Tryd.underlying24 I27 rfl rfl pk30 (fun _ => (.tail .head)) (src_says Tryd.underlying24 rfl (fun _ => Says.own .head) (f5_one _)) (by omega) (by unfold maxLen; omega) rfl (fun a119 c119 N119 r119 z119 => ?_)
          refine dN (.skip (.skip (.keep (.keep (.keep .nil))))) le_19 ?_
          refine dE 15 (by kernel_rfl) rfl ?_
          refine ixk (j := 3) Tryd.runUnderlying24 Tryd.sizeOf27 rfl rfl rfl rfl (by decide) rfl ?_
          refine dN (.skip (.skip (.keep (.keep (.keep .nil))))) le_19 ?_
          refine dT 16 rfl rfl rfl (by kernel_rfl) (fun _ _ _ h => h) (y_fa F27_3 rfl) (.skip (.skip (.keep (.keep (.keep .nil))))) le_19 ?_
          refine dE 17 (by kernel_rfl) rfl ?_
          refine st Tryd.sizeOf24 rfl rfl rfl rfl (.tail (.tail (.tail .head))) ?_
          refine dNk (by kernel_rfl) ?_
          refine dD (by kernel_rfl) ?_
          refine Nt ?_
          refine rg ?_
          obtain ⟨gg119, hgg119⟩ := r119.addr (by omega)
          refine ixk (j := ml3) Tryd.runUnderlying24 Tryd.sizeOf27 rfl hgg119 rfl rfl (by omega) rfl ?_
          refine sR (ds := f5 ((ct116, tl_StopReplicaRequestTopicPartitionState (lT (T.at 3))[k3]) : EE)) r119 hgg119 (fun _ => (.tail .head)) Tryd.sizeOf27 rfl rfl rfl rfl (by omega) (fun N119b r119b => ?_)
          rw [row_put (k := 5) (m := ml3) (A := es3.flatMap f5) (by rw [flatMap_len f5 5 f5_len, pk31]) rfl, flatMap_snoc'] at r119b
          refine nN ?_
          refine Nb ?_
          refine drN .head ?_
          refine fun a_ w_ hA hw => ⟨_, _, _, hA.sub ?_, (le_12.trans le_19), hw, _, rfl, a119, (ml3 + 1), c119, (es3 ++ [((ct116, tl_StopReplicaRequestTopicPartitionState (lT (T.at 3))[k3]) : EE)]), N119b, rfl, rfl, r119b, (by simp; omega), (map_take_snoc (g := tl_StopReplicaRequestTopicPartitionState) hk3 pk32), (fun p hp => (mem_snoc hp).elim (fun h => (pk33 p h).mono le_19) (fun h => h ▸ hT116))⟩
          exact (.cons rfl (.cons rfl (.cons rfl (.cons rfl (.cons rfl (.nil _))))))
        · skip
          refine bs' L24 rfl rfl rfl rfl (fun b_21 => ?_)
          refine dN (.skip (.skip (.keep (.keep (.keep .nil))))) (Fz.le.refl _) ?_
          refine dE 11 (by kernel_rfl) rfl ?_
          refine cl rfl rfl rfl (te_StopReplicaRequestTopicPartitionState hbq_18 (At_StopReplicaRequestTopicPartitionState.mono _ _ _ _ (Fz.le.refl _) hAq_18) ((hf.at 3).lTel (List.getElem_mem hk3))) rfl (fun v_ H1 L1 le_22 hR_ => ?_)
          obtain ⟨rfl, ct116, rfl, hT116⟩ := hR_
          refine dN (.skip (.skip (.keep (.keep (.keep .nil))))) le_22 ?_
          refine dE 14 (by kernel_rfl) rfl ?_
          have hmk : ml3 = k3 := by have h1 := congrArg List.length pk32; rw [List.length_map, List.length_map, List.length_take] at h1; omega
          have hmb := (hf.at 3).lTl
          refine ap (k := 1) (news := f5 ((TC.none, Tr.none) : EE)) Tryd.underlying24 I27 rfl rfl pk30 (fun _ => (.tail .head)) (src_says Tryd.underlying24 rfl (fun _ => Says.own .head) (f5_one _)) (by omega) (by unfold maxLen; omega) rfl (fun a119 c119 N119 r119 z119 => ?_)
          refine dN (.skip (.skip (.keep (.keep (.keep .nil))))) le_22 ?_
          refine dE 15 (by kernel_rfl) rfl ?_
          refine ixk (j := 3) Tryd.runUnderlying24 Tryd.sizeOf27 rfl rfl rfl rfl (by decide) rfl ?_
          refine dN (.skip (.skip (.keep (.keep (.keep .nil))))) le_22 ?_
          refine dT 16 rfl rfl rfl (by kernel_rfl) (fun _ _ _ h => h) (y_fa F27_3 rfl) (.skip (.skip (.keep (.keep (.keep .nil))))) le_22 ?_
          refine dE 17 (by kernel_rfl) rfl ?_
          refine st Tryd.sizeOf24 rfl rfl rfl rfl (.tail (.tail (.tail .head))) ?_
          refine dNk (by kernel_rfl) ?_
          refine dD (by kernel_rfl) ?_
          refine Nt ?_
          refine rg ?_
          obtain ⟨gg119, hgg119⟩ := r119.addr (by omega)
          refine ixk (j := ml3) Tryd.runUnderlying24 Tryd.sizeOf27 rfl hgg119 rfl rfl (by omega) rfl ?_
          refine sR (ds := f5 ((ct116, tl_StopReplicaRequestTopicPartitionState (lT (T.at 3))[k3]) : EE)) r119 hgg119 (fun _ => (.tail .head)) Tryd.sizeOf27 rfl rfl rfl rfl (by omega) (fun N119b r119b => ?_)
          rw [row_put (k := 5) (m := ml3) (A := es3.flatMap f5) (by rw [flatMap_len f5 5 f5_len, pk31]) rfl, flatMap_snoc'] at r119b
          refine nN ?_
          refine Nb ?_
          refine drN .head ?_
          refine fun a_ w_ hA hw => ⟨_, _, _, hA.sub ?_, (le_12.trans le_22), hw, _, rfl, a119, (ml3 + 1), c119, (es3 ++ [((ct116, tl_StopReplicaRequestTopicPartitionState (lT (T.at 3))[k3]) : EE)]), N119b, rfl, rfl, r119b, (by simp; omega), (map_take_snoc (g := tl_StopReplicaRequestTopicPartitionState) hk3 pk32), (fun p hp => (mem_snoc hp).elim (fun h => (pk33 p h).mono le_22) (fun h => h ▸ hT116))⟩
          exact (.cons rfl (.cons rfl (.cons rfl (.cons rfl (.cons rfl (.nil _))))))
    · skip
      obtain ⟨al3, ml3, cl3, es3, Nl3, rfl, rfl, pk30, pk31, pk32, pk33⟩ := hI
      refine toWp ?_
      have hes3 : es3.map (·.2) = (lT (T.at 3)).map tl_StopReplicaRequestTopicPartitionState := by rw [pk32, List.take_length]
      have hm3 : ml3 = ((lT (T.at 3)).map tl_StopReplicaRequestTopicPartitionState).length := by rw [← hes3, List.length_map]; exact pk31
      refine frW pk30 .head (fun Hl3 hll3 hzl3 => ?_)
      have ht3 := TreesAt.row hzl3 pk31 pk30.le.1 (by have h1 := congrArg List.length hes3; rw [List.length_map, List.length_map] at h1; unfold B47; omega) (fun p hp => (pk33 p hp).mono hll3)
      rw [hes3] at ht3
      subst hm3
      refine sr ?_
      refine mv rfl rfl ?_
      refine nc rfl rfl ?_
      refine fa F65_4 rfl rfl ?_
      refine mkf rfl rfl ?_
      have hkv_ := (h3.mono (le_4.trans (le_6.trans (hll2.trans (le_13.trans hll3)))))
      obtain ⟨kvs, hM, hlen, hel⟩ := hkv_
      have hfu := hf.u
      refine cl rfl rfl rfl (t_each (j := 4) (I := fun i H1 Y => TgI 51 b_3 27 (.int .i64 0) (.slice none 0 0) (.bool false) (_) T.u i H1 Y) (hb.mono (le_4.trans (le_6.trans (hll2.trans (le_13.trans hll3))))) rfl hM (by omega) (fun i H1 H2 Y hle h => h.mono hle) TgI.start (fun i k v H1 Y L1 hi hle hI => ?_)) rfl (fun v_ H1 L1 le_24 hR_ => ?_)
      · obtain ⟨s, h1, ⟨va, vc, rfl, hx⟩, h2, h3⟩ := hel i k v hi
        have hik := sortKv_lt hi
        exact TgI.step (fun {_ _ _ _ _ _ _ _ _ _ _ _ _ _ _ _} => tc_39) hf.v (by omega) h1 (hx.mono hle) h2 h3 hI
      rw [hlen] at hR_
      obtain ⟨_, rfl, aU, cU, NU, esU, rfl, hrU, heU, hgU⟩ := hR_
      refine splL ?_
      rw [List.take_length] at heU
      refine frL hrU (.tail .head) (fun HU hleU hzU => ?_)
      have hU := (TagsAt.told hzU hrU heU hfu (fun p hp => (hgU p hp).mono hleU)).1
      refine nl ?_
      refine sr ?_
      refine fa0 F27_4 rfl rfl ?_
      refine ld (Says.own .head) Tryd.isAgg25 rfl (Nat.zero_add _).symm rfl rfl ?_
      refine cl rfl rfl rfl (k_sorted hU (h3.mono (le_4.trans (le_6.trans (hll2.trans (le_13.trans (hll3.trans (le_24.trans hleU))))))).rise) rfl (fun v_ H1 L1 hle_ hR_ => ?_)
      obtain ⟨rfl, rfl⟩ := hR_
      refine nl ?_
      refine sr ?_
      refine la (Says.own .head) Tryd.isAgg27 Tryd.sizeOf27 rfl (Nat.zero_add _).symm rfl rfl ?_
      refine sa Tryd.sizeOf27 rfl rfl rfl rfl rfl (.tail (.tail .head)) ?_
      refine nl ?_
      refine drW .head ?_
      refine frW (Row.whole (e := 27) (size := 5) (m := 4) (ds := [.int .i64 0, .slice (some ⟨b14, 0, none⟩) (T.at 0).s.length cp14, .bool false, .slice none 0 0, .slice none 0 0, .int .i64 (IntKind.i32.wrap (T.at 1).n), .slice none 0 0, .bool false, .slice none 0 0, .slice none 0 0, .int .i64 0, .slice none 0 0, .bool a2.isNone, .slice al2 ((lT (T.at 2)).map (fun y : Tr => (Tr.mk (IntKind.i32.wrap y.n) [] false [] [] : Tr))).length cl2, .slice none 0 0, .int .i64 0, .slice none 0 0, .bool a3.isNone, .slice al3 ((lT (T.at 3)).map tl_StopReplicaRequestTopicPartitionState).length cl3, .slice none 0 0]) rfl (by unfold maxLen; omega)) .head (fun H9 hle9 hz9 => ?_)
      have hrb : H9.at b_2 0 [.int .i64 0, .slice (some ⟨b14, 0, none⟩) (T.at 0).s.length cp14, .bool false, .slice none 0 0, .slice none 0 0, .int .i64 (IntKind.i32.wrap (T.at 1).n), .slice none 0 0, .bool false, .slice none 0 0, .slice none 0 0, .int .i64 0, .slice none 0 0, .bool a2.isNone, .slice al2 ((lT (T.at 2)).map (fun y : Tr => (Tr.mk (IntKind.i32.wrap y.n) [] false [] [] : Tr))).length cl2, .slice none 0 0, .int .i64 0, .slice none 0 0, .bool a3.isNone, .slice al3 ((lT (T.at 3)).map tl_StopReplicaRequestTopicPartitionState).length cl3, .slice none 0 0] := by
        rcases hz9 with ⟨h, _⟩ | ⟨g, h, h2⟩
        · cases h
        · cases h; exact h2
      rw [(h1).nul, (h2).nul] at hrb
      have hrb2 : H9.at b_2 0 (([((⟨some ⟨b14, 0, none⟩, cp14, none, 0, none, 0⟩ : TC), (Tr.mk 0 (T.at 0).s false [] [] : Tr)), ((TC.none : TC), (Tr.mk (IntKind.i32.wrap (T.at 1).n) [] false [] [] : Tr)), ((⟨none, 0, al2, cl2, none, 0⟩ : TC), (Tr.mk 0 [] (T.at 2).nul ((lT (T.at 2)).map (fun y : Tr => (Tr.mk (IntKind.i32.wrap y.n) [] false [] [] : Tr))) [] : Tr)), ((⟨none, 0, al3, cl3, none, 0⟩ : TC), (Tr.mk 0 [] (T.at 3).nul ((lT (T.at 3)).map tl_StopReplicaRequestTopicPartitionState) [] : Tr))] : List EE).flatMap fun p => p.1.cells p.2) := by exact hrb
      have hl9 : TreesAt H9 (some ⟨b_2, 0, none⟩) 4 [(.mk 0 (T.at 0).s false [] []), (.mk (IntKind.i32.wrap (T.at 1).n) [] false [] []), (.mk 0 [] (T.at 2).nul ((lT (T.at 2)).map (fun y : Tr => (Tr.mk (IntKind.i32.wrap y.n) [] false [] [] : Tr))) []), (.mk 0 [] (T.at 3).nul ((lT (T.at 3)).map tl_StopReplicaRequestTopicPartitionState) [])] := by
        refine TreesAt.row (es := [((⟨some ⟨b14, 0, none⟩, cp14, none, 0, none, 0⟩ : TC), (Tr.mk 0 (T.at 0).s false [] [] : Tr)), ((TC.none : TC), (Tr.mk (IntKind.i32.wrap (T.at 1).n) [] false [] [] : Tr)), ((⟨none, 0, al2, cl2, none, 0⟩ : TC), (Tr.mk 0 [] (T.at 2).nul ((lT (T.at 2)).map (fun y : Tr => (Tr.mk (IntKind.i32.wrap y.n) [] false [] [] : Tr))) [] : Tr)), ((⟨none, 0, al3, cl3, none, 0⟩ : TC), (Tr.mk 0 [] (T.at 3).nul ((lT (T.at 3)).map tl_StopReplicaRequestTopicPartitionState) [] : Tr))]) (.inr ⟨_, rfl, hrb2⟩) rfl (Nat.le_refl _) (Nat.le_of_ble_eq_true rfl) ?_
        intro p hp
        simp only [List.mem_cons, List.not_mem_nil, or_false] at hp
        rcases hp with rfl | rfl | rfl | rfl
        · exact (.of (hb14.mono (le_6.trans (hll2.trans (le_13.trans (hll3.trans (le_24.trans (hleU.trans hle9))))))) (.nil _) (.nil _))
        · exact (.of (.nil _) (.nil _) (.nil _))
        · exact (.of (.nil _) (ht2.mono (le_13.trans (hll3.trans (le_24.trans (hleU.trans hle9))))) (.nil _))
        · exact (.of (.nil _) (ht3.mono (le_24.trans (hleU.trans hle9))) (.nil _))
      exact rC rfl Tryd.isAgg27 Tryd.sizeOf27 rfl .head rfl (le_4.trans (le_6.trans (hll2.trans (le_13.trans (hll3.trans (le_24.trans (hleU.trans hle9))))))) (fun _ _ h => h) ⟨rfl, ⟨none, 0, some ⟨b_2, 0, none⟩, 4, aU, cU⟩, rfl, .of (.nil _) hl9 (hU.mono hle9)⟩
def tl_StopReplicaRequest (T : Tr) : Tr := .mk 0 [] false [(.mk (IntKind.i32.wrap (T.at 0).n) [] false [] []), (.mk (IntKind.i32.wrap (T.at 1).n) [] false [] []), (.mk (if decide ((T.at 2).n % 2 = 1) = true then 1 else 0) [] false [] []), (.mk (T.at 3).n [] false [] []), (.mk (if decide ((T.at 4).n % 2 = 1) = true then 1 else 0) [] false [] []), (.mk 0 [] (T.at 5).nul ((lT (T.at 5)).map tl_StopReplicaRequestTopic) [])] T.u
theorem te_StopReplicaRequest {H : Fz} {L : Own} {b o : Nat} {cs : List Value} {T : Tr} {ver : Int} (hb : H.at b o cs) (hA : At_StopReplicaRequest ver H T cs) (hf : Fits T) :
    Fn Tryd.prog 14 [.pointer (some ⟨b, o, none⟩)] H L (fun v H' L' => L = L' ∧ ∃ c : TC, v = .agg (c.cells (tl_StopReplicaRequest T)).toArray ∧ TreeAt H' c (tl_StopReplicaRequest T)) := by
  obtain ⟨a5, c5, mt, rfl, h1, h2⟩ := hA
  refine Fn.mk Tryd.call14 Tryd.func14 rfl Tryd.ntmps14 rfl ?_
  refine sr ?_
  refine al Tryd.zeroValue27 rfl rfl (fun b_1 => ?_)
  refine nl ?_
  refine sr ?_
  refine mkC (m := 6) (zs := [.int .i64 0, .slice none 0 0, .bool false, .slice none 0 0, .slice none 0 0]) Tryd.underlying24 I27 rfl rfl rfl rfl rfl rfl (by decide) (by unfold maxLen; omega) rfl (fun b_2 => ?_)
  refine bd' S27 rfl rfl rfl ?_
  refine al Tryd.zeroValue27 rfl rfl (fun b_3 => ?_)
  refine sa Tryd.sizeOf27 rfl rfl rfl rfl rfl .head ?_
  refine nl ?_
  refine sq ?_
  refine rgD 9 (.keep (.keep (.keep .nil))) mixed ?_
  refine dT 0 rfl rfl rfl (by kernel_rfl) (fun _ _ _ h => h) (y_fa0 F27_3 rfl) (.keep (.keep (.keep .nil))) (Fz.le.refl _) ?_
  refine dT 1 rfl rfl rfl (by kernel_rfl) (fun _ _ _ h => h) (y_ld (Says.own .head) Tryd.isAgg24 rfl (Nat.zero_add _).symm rfl) (.keep (.keep (.keep .nil))) (Fz.le.refl _) ?_
  refine dT 2 rfl rfl rfl (by kernel_rfl) (fun _ _ _ h => h) (y_mv rfl) (.keep (.keep (.keep .nil))) (Fz.le.refl _) ?_
  refine dT 3 rfl rfl rfl (by kernel_rfl) (fun _ _ _ h => h) (y_nc rfl) (.keep (.keep (.keep .nil))) (Fz.le.refl _) ?_
  refine dT 4 rfl rfl rfl (by kernel_rfl) (fun _ _ _ h => h) (y_fa F57_1 rfl) (.keep (.keep (.keep .nil))) (Fz.le.refl _) ?_
  refine dT 5 rfl rfl rfl (by kernel_rfl) (fun _ _ _ h => h) (y_ld (j := 1) (Says.fz hb) Tryd.isAgg21 rfl rfl rfl) (.keep (.keep (.keep .nil))) (Fz.le.refl _) ?_
  refine dT 6 rfl rfl rfl (by kernel_rfl) (fun _ _ _ h => h) (y_cv Tryd.runUnderlying21 Tryd.runUnderlying2 rfl (i32_64 _)) (.keep (.keep (.keep .nil))) (Fz.le.refl _) ?_
  refine dT 7 rfl rfl rfl (by kernel_rfl) (fun _ _ _ h => h) (y_bd S27 rfl rfl) (.keep (.keep (.keep .nil))) (Fz.le.refl _) ?_
  refine dT 8 rfl rfl rfl (by kernel_rfl) (fun _ _ _ h => h) (y_ix2 (j := 0) Tryd.runUnderlying24 Tryd.sizeOf27 rfl rfl rfl rfl (by decide)) (.keep (.keep (.keep .nil))) (Fz.le.refl _) ?_
  refine dE 9 (by kernel_rfl) rfl ?_
  refine sa Tryd.sizeOf27 rfl rfl rfl rfl rfl (.tail .head) ?_
  refine dNk (by kernel_rfl) ?_
  refine dD (by kernel_rfl) ?_
  refine Nt ?_
  refine sq ?_
  refine rgD 9 (.keep (.keep (.keep .nil))) mixed ?_
  refine dT 0 rfl rfl rfl (by kernel_rfl) (fun _ _ _ h => h) (y_fa0 F27_3 rfl) (.keep (.keep (.keep .nil))) (Fz.le.refl _) ?_
  refine dT 1 rfl rfl rfl (by kernel_rfl) (fun _ _ _ h => h) (y_ld (Says.own .head) Tryd.isAgg24 rfl (Nat.zero_add _).symm rfl) (.keep (.keep (.keep .nil))) (Fz.le.refl _) ?_
  refine dT 2 rfl rfl rfl (by kernel_rfl) (fun _ _ _ h => h) (y_mv rfl) (.keep (.keep (.keep .nil))) (Fz.le.refl _) ?_
  refine dT 3 rfl rfl rfl (by kernel_rfl) (fun _ _ _ h => h) (y_nc rfl) (.keep (.keep (.keep .nil))) (Fz.le.refl _) ?_
  refine dT 4 rfl rfl rfl (by kernel_rfl) (fun _ _ _ h => h) (y_fa F57_2 rfl) (.keep (.keep (.keep .nil))) (Fz.le.refl _) ?_
  refine dT 5 rfl rfl rfl (by kernel_rfl) (fun _ _ _ h => h) (y_ld (j := 2) (Says.fz hb) Tryd.isAgg21 rfl rfl rfl) (.keep (.keep (.keep .nil))) (Fz.le.refl _) ?_
  refine dT 6 rfl rfl rfl (by kernel_rfl) (fun _ _ _ h => h) (y_cv Tryd.runUnderlying21 Tryd.runUnderlying2 rfl (i32_64 _)) (.keep (.keep (.keep .nil))) (Fz.le.refl _) ?_
  refine dT 7 rfl rfl rfl (by kernel_rfl) (fun _ _ _ h => h) (y_bd S27 rfl rfl) (.keep (.keep (.keep .nil))) (Fz.le.refl _) ?_
  refine dT 8 rfl rfl rfl (by kernel_rfl) (fun _ _ _ h => h) (y_ix2 (j := 1) Tryd.runUnderlying24 Tryd.sizeOf27 rfl rfl rfl rfl (by decide)) (.keep (.keep (.keep .nil))) (Fz.le.refl _) ?_
  refine dE 9 (by kernel_rfl) rfl ?_
  refine sa Tryd.sizeOf27 rfl rfl rfl rfl rfl (.tail .head) ?_
  refine dNk (by kernel_rfl) ?_
  refine dD (by kernel_rfl) ?_
  refine Nt ?_
  refine sq ?_
  refine rgD 8 (.keep (.keep (.keep .nil))) mixed ?_
  refine dT 0 rfl rfl rfl (by kernel_rfl) (fun _ _ _ h => h) (y_fa0 F27_3 rfl) (.keep (.keep (.keep .nil))) (Fz.le.refl _) ?_
  refine dT 1 rfl rfl rfl (by kernel_rfl) (fun _ _ _ h => h) (y_ld (Says.own .head) Tryd.isAgg24 rfl (Nat.zero_add _).symm rfl) (.keep (.keep (.keep .nil))) (Fz.le.refl _) ?_
  refine dT 2 rfl rfl rfl (by kernel_rfl) (fun _ _ _ h => h) (y_mv rfl) (.keep (.keep (.keep .nil))) (Fz.le.refl _) ?_
  refine dT 3 rfl rfl rfl (by kernel_rfl) (fun _ _ _ h => h) (y_nc rfl) (.keep (.keep (.keep .nil))) (Fz.le.refl _) ?_
  refine dT 4 rfl rfl rfl (by kernel_rfl) (fun _ _ _ h => h) (y_fa F57_3 rfl) (.keep (.keep (.keep .nil))) (Fz.le.refl _) ?_
  refine dT 5 rfl rfl rfl (by kernel_rfl) (fun _ _ _ h => h) (y_ld (j := 3) (Says.fz hb) Tryd.isAgg4 rfl rfl rfl) (.keep (.keep (.keep .nil))) (Fz.le.refl _) ?_
  refine dE 6 (by kernel_rfl) rfl ?_
  refine cl rfl rfl rfl (k_boolTree (p := (decide ((T.at 2).n % 2 = 1)))) rfl (fun v_ H1 L1 hle_ hR_ => ?_)
  obtain ⟨rfl, rfl, rfl⟩ := hR_
  refine dN (.keep (.keep (.keep .nil))) (Fz.le.refl _) ?_
  refine dT 7 rfl rfl rfl (by kernel_rfl) (fun _ _ _ h => h) (y_ix2 (j := 2) Tryd.runUnderlying24 Tryd.sizeOf27 rfl rfl rfl rfl (by decide)) (.keep (.keep (.keep .nil))) (Fz.le.refl _) ?_
  refine dE 8 (by kernel_rfl) rfl ?_
  refine sa Tryd.sizeOf27 rfl rfl rfl rfl rfl (.tail .head) ?_
  refine dNk (by kernel_rfl) ?_
  refine dD (by kernel_rfl) ?_
  refine Nt ?_
  refine sq ?_
  refine rgD 8 (.keep (.keep (.keep .nil))) mixed ?_
  refine dT 0 rfl rfl rfl (by kernel_rfl) (fun _ _ _ h => h) (y_fa0 F27_3 rfl) (.keep (.keep (.keep .nil))) (Fz.le.refl _) ?_
  refine dT 1 rfl rfl rfl (by kernel_rfl) (fun _ _ _ h => h) (y_ld (Says.own .head) Tryd.isAgg24 rfl (Nat.zero_add _).symm rfl) (.keep (.keep (.keep .nil))) (Fz.le.refl _) ?_
  refine dT 2 rfl rfl rfl (by kernel_rfl) (fun _ _ _ h => h) (y_mv rfl) (.keep (.keep (.keep .nil))) (Fz.le.refl _) ?_
  refine dT 3 rfl rfl rfl (by kernel_rfl) (fun _ _ _ h => h) (y_nc rfl) (.keep (.keep (.keep .nil))) (Fz.le.refl _) ?_
  refine dT 4 rfl rfl rfl (by kernel_rfl) (fun _ _ _ h => h) (y_fa F57_4 rfl) (.keep (.keep (.keep .nil))) (Fz.le.refl _) ?_
  refine dT 5 rfl rfl rfl (by kernel_rfl) (fun _ _ _ h => h) (y_ld (j := 4) (Says.fz hb) Tryd.isAgg2 rfl rfl rfl) (.keep (.keep (.keep .nil))) (Fz.le.refl _) ?_
  refine dT 6 rfl rfl rfl (by kernel_rfl) (fun _ _ _ h => h) (y_bd S27 rfl rfl) (.keep (.keep (.keep .nil))) (Fz.le.refl _) ?_
  refine dT 7 rfl rfl rfl (by kernel_rfl) (fun _ _ _ h => h) (y_ix2 (j := 3) Tryd.runUnderlying24 Tryd.sizeOf27 rfl rfl rfl rfl (by decide)) (.keep (.keep (.keep .nil))) (Fz.le.refl _) ?_
  refine dE 8 (by kernel_rfl) rfl ?_
  refine sa Tryd.sizeOf27 rfl rfl rfl rfl rfl (.tail .head) ?_
  refine dNk (by kernel_rfl) ?_
  refine dD (by kernel_rfl) ?_
  refine Nt ?_
  refine sq ?_
  refine rgD 8 (.keep (.keep (.keep .nil))) mixed ?_
  refine dT 0 rfl rfl rfl (by kernel_rfl) (fun _ _ _ h => h) (y_fa0 F27_3 rfl) (.keep (.keep (.keep .nil))) (Fz.le.refl _) ?_
  refine dT 1 rfl rfl rfl (by kernel_rfl) (fun _ _ _ h => h) (y_ld (Says.own .head) Tryd.isAgg24 rfl (Nat.zero_add _).symm rfl) (.keep (.keep (.keep .nil))) (Fz.le.refl _) ?_
  refine dT 2 rfl rfl rfl (by kernel_rfl) (fun _ _ _ h => h) (y_mv rfl) (.keep (.keep (.keep .nil))) (Fz.le.refl _) ?_
  refine dT 3 rfl rfl rfl (by kernel_rfl) (fun _ _ _ h => h) (y_nc rfl) (.keep (.keep (.keep .nil))) (Fz.le.refl _) ?_
  refine dT 4 rfl rfl rfl (by kernel_rfl) (fun _ _ _ h => h) (y_fa F57_5 rfl) (.keep (.keep (.keep .nil))) (Fz.le.refl _) ?_
  refine dT 5 rfl rfl rfl (by kernel_rfl) (fun _ _ _ h => h) (y_ld (j := 5) (Says.fz hb) Tryd.isAgg4 rfl rfl rfl) (.keep (.keep (.keep .nil))) (Fz.le.refl _) ?_
  refine dE 6 (by kernel_rfl) rfl ?_
  refine cl rfl rfl rfl (k_boolTree (p := (decide ((T.at 4).n % 2 = 1)))) rfl (fun v_ H1 L1 hle_ hR_ => ?_)
  obtain ⟨rfl, rfl, rfl⟩ := hR_
  refine dN (.keep (.keep (.keep .nil))) (Fz.le.refl _) ?_
  refine dT 7 rfl rfl rfl (by kernel_rfl) (fun _ _ _ h => h) (y_ix2 (j := 4) Tryd.runUnderlying24 Tryd.sizeOf27 rfl rfl rfl rfl (by decide)) (.keep (.keep (.keep .nil))) (Fz.le.refl _) ?_
  refine dE 8 (by kernel_rfl) rfl ?_
  refine sa Tryd.sizeOf27 rfl rfl rfl rfl rfl (.tail .head) ?_
  refine dNk (by kernel_rfl) ?_
  refine dD (by kernel_rfl) ?_
  refine Nt ?_
  refine sq ?_
  refine rgD 9 (.keep (.keep (.keep .nil))) mixed ?_
  refine dT 0 rfl rfl rfl (by kernel_rfl) (fun _ _ _ h => h) (y_fa0 F27_3 rfl) (.keep (.keep (.keep .nil))) (Fz.le.refl _) ?_
  refine dT 1 rfl rfl rfl (by kernel_rfl) (fun _ _ _ h => h) (y_ld (Says.own .head) Tryd.isAgg24 rfl (Nat.zero_add _).symm rfl) (.keep (.keep (.keep .nil))) (Fz.le.refl _) ?_
  refine dT 2 rfl rfl rfl (by kernel_rfl) (fun _ _ _ h => h) (y_mv rfl) (.keep (.keep (.keep .nil))) (Fz.le.refl _) ?_
  refine dT 3 rfl rfl rfl (by kernel_rfl) (fun _ _ _ h => h) (y_nc rfl) (.keep (.keep (.keep .nil))) (Fz.le.refl _) ?_
  refine dT 4 rfl rfl rfl (by kernel_rfl) (fun _ _ _ h => h) (y_fa F57_6 rfl) (.keep (.keep (.keep .nil))) (Fz.le.refl _) ?_
  refine dT 5 rfl rfl rfl (by kernel_rfl) (fun _ _ _ h => h) (y_ld (j := 6) (Says.fz hb) Tryd.isAgg52 rfl rfl rfl) (.keep (.keep (.keep .nil))) (Fz.le.refl _) ?_
  refine dT 6 rfl rfl rfl (by kernel_rfl) (fun _ _ _ h => h) (y_esn Tryd.underlying52 rfl) (.keep (.keep (.keep .nil))) (Fz.le.refl _) ?_
  refine dE 7 (by kernel_rfl) rfl ?_
  refine ixk (j := 5) Tryd.runUnderlying24 Tryd.sizeOf27 rfl rfl rfl rfl (by decide) rfl ?_
  refine dN (.keep (.keep (.keep .nil))) (Fz.le.refl _) ?_
  refine dT 8 rfl rfl rfl (by kernel_rfl) (fun _ _ _ h => h) (y_fa F27_2 rfl) (.keep (.keep (.keep .nil))) (Fz.le.refl _) ?_
  refine dE 9 (by kernel_rfl) rfl ?_
  refine st Tryd.sizeOf4 rfl rfl rfl rfl (.tail .head) ?_
  refine dNk (by kernel_rfl) ?_
  refine dD (by kernel_rfl) ?_
  refine Nt ?_
  refine sq ?_
  refine sr ?_
  refine mv rfl rfl ?_
  refine nc rfl rfl ?_
  refine fa F57_6 rfl rfl ?_
  refine ld (Says.fz hb) Tryd.isAgg52 rfl rfl rfl rfl ?_
  refine ls Tryd.runUnderlying52 rfl rfl ?_
  refine mv rfl rfl ?_
  refine nl ?_
  have hlm5 := (hf.at 5).lTl
  refine nulC2 ?_
  refine fr ((lT (T.at 5)).length) (fun k5 l' H' L' => ∃ (al5 : Option Addr), ∃ (ml5 : Nat), ∃ (cl5 : Nat), ∃ (es5 : List EE), ∃ (Nl5 : Chunk), [(0, .pointer (some ⟨b, o, none⟩)), (2, .pointer (some ⟨b_1, 0, none⟩)), (3, .pointer (some ⟨b_3, 0, none⟩)), (62, .int .i64 ((lT (T.at 5)).length : Int))] = l' ∧ Nl5 :: [(b_3, .cells [.int .i64 0, .slice none 0 0, .bool false, _, .slice none 0 0].toArray 27 (0, 0))] :: [(b_2, .cells [.int .i64 (IntKind.i32.wrap (T.at 0).n), .slice none 0 0, .bool false, .slice none 0 0, .slice none 0 0, .int .i64 (IntKind.i32.wrap (T.at 1).n), .slice none 0 0, .bool false, .slice none 0 0, .slice none 0 0, .int .i64 (if (decide ((T.at 2).n % 2 = 1)) = true then 1 else 0), .slice none 0 0, .bool false, .slice none 0 0, .slice none 0 0, .int .i64 (T.at 3).n, .slice none 0 0, .bool false, .slice none 0 0, .slice none 0 0, .int .i64 (if (decide ((T.at 4).n % 2 = 1)) = true then 1 else 0), .slice none 0 0, .bool false, .slice none 0 0, .slice none 0 0, .int .i64 0, .slice none 0 0, .bool a5.isNone, .slice al5 ml5 cl5, .slice none 0 0].toArray 27 (0, 0))] :: [(b_1, .cells [.int .i64 0, .slice none 0 0, .bool false, .slice none 0 0, .slice none 0 0].toArray 27 (0, 0))] :: L = L' ∧ Row 27 5 al5 ml5 cl5 (es5.flatMap f5) Nl5 ∧ ml5 = es5.length ∧ es5.map (·.2) = ((lT (T.at 5)).take k5).map tl_StopReplicaRequestTopic ∧ (∀ p : EE, p ∈ es5 → TreeAt H' p.1 p.2)) [(0, .pointer (some ⟨b, o, none⟩)), (2, .pointer (some ⟨b_1, 0, none⟩)), (3, .pointer (some ⟨b_3, 0, none⟩)), (62, .int .i64 ((lT (T.at 5)).length : Int))] (fun k5 l' H' L' h => ?_) (by omega) rfl (.cons rfl (.cons rfl (.cons rfl (.cons rfl (.nil _))))) ⟨none, 0, 0, [], [], rfl, rfl, (Row.nil _ _), rfl, (by simp), (fun p hp => by cases hp)⟩ rfl rfl rfl rfl rfl (fun k5 l' H' L' hk5 le_6 hI => ?_) (fun l' H' L' le_7 hI => ?_)
  · obtain ⟨al5, ml5, cl5, es5, Nl5, rfl, _⟩ := h; exact ⟨rfl, rfl, rfl, rfl⟩
  · skip
    obtain ⟨al5, ml5, cl5, es5, Nl5, rfl, rfl, pk50, pk51, pk52, pk53⟩ := hI
    refine sr ?_
    refine mv rfl rfl ?_
    refine asg rfl rfl ?_
    refine nl ?_
    refine sq ?_
    refine rgD 4 .nil mixed ?_
    refine dE 0 (by kernel_rfl) rfl ?_
    refine al Tryd.zeroValue4 rfl rfl (fun b_8 => ?_)
    refine dN .nil (Fz.le.refl _) ?_
    refine dE2 1 2 (by kernel_rfl) rfl rfl ?_ ?_
    · skip
      refine st Tryd.sizeOf4 rfl rfl rfl rfl .head ?_
      refine dN .nil (Fz.le.refl _) ?_
      refine dE 2 (by kernel_rfl) rfl ?_
      refine st Tryd.sizeOf4 rfl rfl rfl rfl .head ?_
      refine dN .nil (Fz.le.refl _) ?_
      refine dE 3 (by kernel_rfl) rfl ?_
      refine ld (Says.own .head) Tryd.isAgg4 rfl (Nat.zero_add _).symm rfl rfl ?_
      refine dN .nil (Fz.le.refl _) ?_
      refine dD (by kernel_rfl) ?_
      refine drN .head ?_
      refine Nt ?_
      refine cF rfl ?_
      refine rgD 18 (.skip (.keep (.keep (.keep .nil)))) mixed ?_
      refine dT 0 rfl rfl rfl (by kernel_rfl) (fun _ _ _ h => h) (y_fa0 F27_3 rfl) (.skip (.keep (.keep (.keep .nil)))) (Fz.le.refl _) ?_
      refine dT 1 rfl rfl rfl (by kernel_rfl) (fun _ _ _ h => h) (y_ld (Says.own .head) Tryd.isAgg24 rfl (Nat.zero_add _).symm rfl) (.skip (.keep (.keep (.keep .nil)))) (Fz.le.refl _) ?_
      refine dT 2 rfl rfl rfl (by kernel_rfl) (fun _ _ _ h => h) (y_fa0 F27_3 rfl) (.skip (.keep (.keep (.keep .nil)))) (Fz.le.refl _) ?_
      refine dT 3 rfl rfl rfl (by kernel_rfl) (fun _ _ _ h => h) (y_ld (Says.own .head) Tryd.isAgg24 rfl (Nat.zero_add _).symm rfl) (.skip (.keep (.keep (.keep .nil)))) (Fz.le.refl _) ?_
      refine dT 4 rfl rfl rfl (by kernel_rfl) (fun _ _ _ h => h) (y_ix2 (j := 5) Tryd.runUnderlying24 Tryd.sizeOf27 rfl rfl rfl rfl (by decide)) (.skip (.keep (.keep (.keep .nil)))) (Fz.le.refl _) ?_
      refine dT 5 rfl rfl rfl (by kernel_rfl) (fun _ _ _ h => h) (y_fa F27_3 rfl) (.skip (.keep (.keep (.keep .nil)))) (Fz.le.refl _) ?_
      refine dT 6 rfl rfl rfl (by kernel_rfl) (fun _ _ _ h => h) (y_ld (Says.own (.tail .head)) Tryd.isAgg24 rfl (Nat.zero_add _).symm rfl) (.skip (.keep (.keep (.keep .nil)))) (Fz.le.refl _) ?_
      refine dT 7 rfl rfl rfl (by kernel_rfl) (fun _ _ _ h => h) (y_mv rfl) (.skip (.keep (.keep (.keep .nil)))) (Fz.le.refl _) ?_
      refine dT 8 rfl rfl rfl (by kernel_rfl) (fun _ _ _ h => h) (y_nc rfl) (.skip (.keep (.keep (.keep .nil)))) (Fz.le.refl _) ?_
      refine dT 9 rfl rfl rfl (by kernel_rfl) (fun _ _ _ h => h) (y_fa F57_6 rfl) (.skip (.keep (.keep (.keep .nil)))) (Fz.le.refl _) ?_
      refine dT 10 rfl rfl rfl (by kernel_rfl) (fun _ _ _ h => h) (y_ld (j := 6) (Says.fz (hb.mono le_6)) Tryd.isAgg52 rfl rfl rfl) (.skip (.keep (.keep (.keep .nil)))) (Fz.le.refl _) ?_
      refine dT 11 rfl rfl rfl (by kernel_rfl) (fun _ _ _ h => h) (y_mv rfl) (.skip (.keep (.keep (.keep .nil)))) (Fz.le.refl _) ?_
      obtain ⟨beq_9, oeq_9, haq_9, hlq_9⟩ := ((h1.mono At_StopReplicaRequestTopic.mono le_6)).rows.at_ (ne_nil_of_lt hk5)
      obtain ⟨ceq_9, hAq_9, hbq_9⟩ := hlq_9 k5 hk5
      refine dT 12 rfl rfl rfl (by kernel_rfl) (fun _ _ _ h => h) (y_ixk (j := k5) Tryd.runUnderlying52 Tryd.sizeOf65 rfl haq_9 rfl rfl hk5) (.skip (.keep (.keep (.keep .nil)))) (Fz.le.refl _) ?_
      refine dE 13 (by kernel_rfl) rfl ?_
      refine cl rfl rfl rfl (te_StopReplicaRequestTopic hbq_9 (At_StopReplicaRequestTopic.mono _ _ _ _ (Fz.le.refl _) hAq_9) ((hf.at 5).lTel (List.getElem_mem hk5))) rfl (fun v_ H1 L1 le_10 hR_ => ?_)
      obtain ⟨rfl, ct99, rfl, hT99⟩ := hR_
      refine dN (.skip (.keep (.keep (.keep .nil)))) le_10 ?_
      refine dE 14 (by kernel_rfl) rfl ?_
      refine bs' L24 rfl rfl rfl rfl (fun b_11 => ?_)
      refine dN (.skip (.skip (.keep (.keep (.keep .nil))))) le_10 ?_
      refine dE 15 (by kernel_rfl) rfl ?_
      have hmk : ml5 = k5 := by have h1 := congrArg List.length pk52; rw [List.length_map, List.length_map, List.length_take] at h1; omega
      have hmb := (hf.at 5).lTl
      refine ap (k := 1) (news := f5 ((ct99, tl_StopReplicaRequestTopic (lT (T.at 5))[k5]) : EE)) Tryd.underlying24 I27 rfl rfl pk50 (fun _ => (.tail .head)) (src_says Tryd.underlying24 rfl (fun _ => Says.own .head) (f5_one _)) (by omega) (by unfold maxLen; omega) rfl (fun a101 c101 N101 r101 z101 => ?_)
      rw [flatMap_snoc'] at r101
      refine dN (.skip (.skip (.keep (.keep (.keep .nil))))) le_10 ?_
      refine dE 16 (by kernel_rfl) rfl ?_
      refine ixk (j := 5) Tryd.runUnderlying24 Tryd.sizeOf27 rfl rfl rfl rfl (by decide) rfl ?_
      refine dN (.skip (.skip (.keep (.keep (.keep .nil))))) le_10 ?_
      refine dT 17 rfl rfl rfl (by kernel_rfl) (fun _ _ _ h => h) (y_fa F27_3 rfl) (.skip (.skip (.keep (.keep (.keep .nil))))) le_10 ?_
      refine dE 18 (by kernel_rfl) rfl ?_
      refine st Tryd.sizeOf24 rfl rfl rfl rfl (.tail (.tail (.tail .head))) ?_
      refine dNk (by kernel_rfl) ?_
      refine dD (by kernel_rfl) ?_
      refine Nb ?_
      refine drN .head ?_
      refine fun a_ w_ hA hw => ⟨_, _, _, hA.sub ?_, (le_6.trans le_10), hw, _, rfl, a101, (ml5 + 1), c101, (es5 ++ [((ct99, tl_StopReplicaRequestTopic (lT (T.at 5))[k5]) : EE)]), N101, rfl, rfl, r101, (by simp; omega), (map_take_snoc (g := tl_StopReplicaRequestTopic) hk5 pk52), (fun p hp => (mem_snoc hp).elim (fun h => (pk53 p h).mono le_10) (fun h => h ▸ hT99))⟩
      exact (.cons rfl (.cons rfl (.cons rfl (.cons rfl (.cons rfl (.nil _))))))
    · skip
      refine st Tryd.sizeOf4 rfl rfl rfl rfl .head ?_
      refine dN .nil (Fz.le.refl _) ?_
      refine dE 1 (by kernel_rfl) rfl ?_
      refine st Tryd.sizeOf4 rfl rfl rfl rfl .head ?_
      refine dN .nil (Fz.le.refl _) ?_
      refine dE 3 (by kernel_rfl) rfl ?_
      refine ld (Says.own .head) Tryd.isAgg4 rfl (Nat.zero_add _).symm rfl rfl ?_
      refine dN .nil (Fz.le.refl _) ?_
      refine dD (by kernel_rfl) ?_
      refine drN .head ?_
      refine Nt ?_
      refine cT rfl ?_
      refine sq ?_
      refine rgD 17 (.skip (.keep (.keep (.keep .nil)))) mixed ?_
      refine dT 0 rfl rfl rfl (by kernel_rfl) (fun _ _ _ h => h) (y_fa0 F27_3 rfl) (.skip (.keep (.keep (.keep .nil)))) (Fz.le.refl _) ?_
      refine dT 1 rfl rfl rfl (by kernel_rfl) (fun _ _ _ h => h) (y_ld (Says.own .head) Tryd.isAgg24 rfl (Nat.zero_add _).symm rfl) (.skip (.keep (.keep (.keep .nil)))) (Fz.le.refl _) ?_
      refine dT 2 rfl rfl rfl (by kernel_rfl) (fun _ _ _ h => h) (y_ix2 (j := 5) Tryd.runUnderlying24 Tryd.sizeOf27 rfl rfl rfl rfl (by decide)) (.skip (.keep (.keep (.keep .nil)))) (Fz.le.refl _) ?_
      refine dT 3 rfl rfl rfl (by kernel_rfl) (fun _ _ _ h => h) (y_fa F27_3 rfl) (.skip (.keep (.keep (.keep .nil)))) (Fz.le.refl _) ?_
      refine dT 4 rfl rfl rfl (by kernel_rfl) (fun _ _ _ h => h) (y_ld (Says.own (.tail .head)) Tryd.isAgg24 rfl (Nat.zero_add _).symm rfl) (.skip (.keep (.keep (.keep .nil)))) (Fz.le.refl _) ?_
      refine dT 5 rfl rfl rfl (by kernel_rfl) (fun _ _ _ h => h) (y_mv rfl) (.skip (.keep (.keep (.keep .nil)))) (Fz.le.refl _) ?_
      refine dT 6 rfl rfl rfl (by kernel_rfl) (fun _ _ _ h => h) (y_nc rfl) (.skip (.keep (.keep (.keep .nil)))) (Fz.le.refl _) ?_
      refine dT 7 rfl rfl rfl (by kernel_rfl) (fun _ _ _ h => h) (y_fa F57_6 rfl) (.skip (.keep (.keep (.keep .nil)))) (Fz.le.refl _) ?_
      refine dT 8 rfl rfl rfl (by kernel_rfl) (fun _ _ _ h => h) (y_ld (j := 6) (Says.fz (hb.mono le_6)) Tryd.isAgg52 rfl rfl rfl) (.skip (.keep (.keep (.keep .nil)))) (Fz.le.refl _) ?_
      refine dT 9 rfl rfl rfl (by kernel_rfl) (fun _ _ _ h => h) (y_mv rfl) (.skip (.keep (.keep (.keep .nil)))) (Fz.le.refl _) ?_
      obtain ⟨beq_12, oeq_12, haq_12, hlq_12⟩ := ((h1.mono At_StopReplicaRequestTopic.mono le_6)).rows.at_ (ne_nil_of_lt hk5)
      obtain ⟨ceq_12, hAq_12, hbq_12⟩ := hlq_12 k5 hk5
      refine dT 10 rfl rfl rfl (by kernel_rfl) (fun _ _ _ h => h) (y_ixk (j := k5) Tryd.runUnderlying52 Tryd.sizeOf65 rfl haq_12 rfl rfl hk5) (.skip (.keep (.keep (.keep .nil)))) (Fz.le.refl _) ?_
      refine dT 12 rfl rfl rfl (by kernel_rfl) (fun _ _ _ h => h) (y_ls Tryd.runUnderlying24 rfl) (.skip (.keep (.keep (.keep .nil)))) (Fz.le.refl _) ?_
      refine dE2 11 13 (by kernel_rfl) rfl rfl ?_ ?_
      · skip
        refine cl rfl rfl rfl (te_StopReplicaRequestTopic hbq_12 (At_StopReplicaRequestTopic.mono _ _ _ _ (Fz.le.refl _) hAq_12) ((hf.at 5).lTel (List.getElem_mem hk5))) rfl (fun v_ H1 L1 le_13 hR_ => ?_)
        obtain ⟨rfl, ct79, rfl, hT79⟩ := hR_
        refine dN (.skip (.keep (.keep (.keep .nil)))) le_13 ?_
        refine dE 13 (by kernel_rfl) rfl ?_
        refine bs' L24 rfl rfl rfl rfl (fun b_14 => ?_)
        refine dN (.skip (.skip (.keep (.keep (.keep .nil))))) le_13 ?_
        refine dE 14 (by kernel_rfl) rfl ?_
        have hmk : ml5 = k5 := by have h1 := congrArg List.length pk52; rw [List.length_map, List.length_map, List.length_take] at h1; omega
        have hmb := (hf.at 5).lTl
        refine ap (k := 1) (news := f5 ((TC.none, Tr.none) : EE)) Tryd.underlying24 I27 rfl rfl pk50 (fun _ => (.tail .head)) (src_says Tryd.underlying24 rfl (fun _ => Says.own .head) (f5_one _)) (by omega) (by unfold maxLen; omega) rfl (fun a82 c82 N82 r82 z82 => ?_)
        refine dN (.skip (.skip (.keep (.keep (.keep .nil))))) le_13 ?_
        refine dE 15 (by kernel_rfl) rfl ?_
        refine ixk (j := 5) Tryd.runUnderlying24 Tryd.sizeOf27 rfl rfl rfl rfl (by decide) rfl ?_
        refine dN (.skip (.skip (.keep (.keep (.keep .nil))))) le_13 ?_
        refine dT 16 rfl rfl rfl (by kernel_rfl) (fun _ _ _ h => h) (y_fa F27_3 rfl) (.skip (.skip (.keep (.keep (.keep .nil))))) le_13 ?_
        refine dE 17 (by kernel_rfl) rfl ?_
        refine st Tryd.sizeOf24 rfl rfl rfl rfl (.tail (.tail (.tail .head))) ?_
        refine dNk (by kernel_rfl) ?_
        refine dD (by kernel_rfl) ?_
        refine Nt ?_
        refine rg ?_
        obtain ⟨gg82, hgg82⟩ := r82.addr (by omega)
        refine ixk (j := ml5) Tryd.runUnderlying24 Tryd.sizeOf27 rfl hgg82 rfl rfl (by omega) rfl ?_
        refine sR (ds := f5 ((ct79, tl_StopReplicaRequestTopic (lT (T.at 5))[k5]) : EE)) r82 hgg82 (fun _ => (.tail .head)) Tryd.sizeOf27 rfl rfl rfl rfl (by omega) (fun N82b r82b => ?_)
        rw [row_put (k := 5) (m := ml5) (A := es5.flatMap f5) (by rw [flatMap_len f5 5 f5_len, pk51]) rfl, flatMap_snoc'] at r82b
        refine nN ?_
        refine Nb ?_
        refine drN .head ?_
        refine fun a_ w_ hA hw => ⟨_, _, _, hA.sub ?_, (le_6.trans le_13), hw, _, rfl, a82, (ml5 + 1), c82, (es5 ++ [((ct79, tl_StopReplicaRequestTopic (lT (T.at 5))[k5]) : EE)]), N82b, rfl, rfl, r82b, (by simp; omega), (map_take_snoc (g := tl_StopReplicaRequestTopic) hk5 pk52), (fun p hp => (mem_snoc hp).elim (fun h => (pk53 p h).mono le_13) (fun h => h ▸ hT79))⟩
        exact (.cons rfl (.cons rfl (.cons rfl (.cons rfl (.cons rfl (.nil _))))))
      · skip
        refine bs' L24 rfl rfl rfl rfl (fun b_15 => ?_)
        refine dN (.skip (.skip (.keep (.keep (.keep .nil))))) (Fz.le.refl _) ?_
        refine dE 11 (by kernel_rfl) rfl ?_
        refine cl rfl rfl rfl (te_StopReplicaRequestTopic hbq_12 (At_StopReplicaRequestTopic.mono _ _ _ _ (Fz.le.refl _) hAq_12) ((hf.at 5).lTel (List.getElem_mem hk5))) rfl (fun v_ H1 L1 le_16 hR_ => ?_)
        obtain ⟨rfl, ct79, rfl, hT79⟩ := hR_
        refine dN (.skip (.skip (.keep (.keep (.keep .nil))))) le_16 ?_
        refine dE 14 (by kernel_rfl) rfl ?_
        have hmk : ml5 = k5 := by have h1 := congrArg List.length pk52; rw [List.length_map, List.length_map, List.length_take] at h1; omega
        have hmb := (hf.at 5).lTl
        refine ap (k := 1) (news := f5 ((TC.none, Tr.none) : EE)) Tryd.underlying24 I27 rfl rfl pk50 (fun _ => (.tail .head)) (src_says Tryd.underlying24 rfl (fun _ => Says.own .head) (f5_one _)) (by omega) (by unfold maxLen; omega) rfl (fun a82 c82 N82 r82 z82 => ?_)
        refine dN (.skip (.skip (.keep (.keep (.keep .nil))))) le_16 ?_
        refine dE 15 (by kernel_rfl) rfl ?_
        refine ixk (j := 5) Tryd.runUnderlying24 Tryd.sizeOf27 rfl rfl rfl rfl (by decide) rfl ?_
        refine dN (.skip (.skip (.keep (.keep (.keep .nil))))) le_16 ?_
        refine dT 16 rfl rfl rfl (by kernel_rfl) (fun _ _ _ h => h) (y_fa F27_3 rfl) (.skip (.skip (.keep (.keep (.keep .nil))))) le_16 ?_
        refine dE 17 (by kernel_rfl) rfl ?_
        refine st Tryd.sizeOf24 rfl rfl rfl rfl (.tail (.tail (.tail .head))) ?_
        refine dNk (by kernel_rfl) ?_
        refine dD (by kernel_rfl) ?_
        refine Nt ?_
        refine rg ?_
        obtain ⟨gg82, hgg82⟩ := r82.addr (by omega)
        refine ixk (j := ml5) Tryd.runUnderlying24 Tryd.sizeOf27 rfl hgg82 rfl rfl (by omega) rfl ?_
        refine sR (ds := f5 ((ct79, tl_StopReplicaRequestTopic (lT (T.at 5))[k5]) : EE)) r82 hgg82 (fun _ => (.tail .head)) Tryd.sizeOf27 rfl rfl rfl rfl (by omega) (fun N82b r82b => ?_)
        rw [row_put (k := 5) (m := ml5) (A := es5.flatMap f5) (by rw [flatMap_len f5 5 f5_len, pk51]) rfl, flatMap_snoc'] at r82b
        refine nN ?_
        refine Nb ?_
        refine drN .head ?_
        refine fun a_ w_ hA hw => ⟨_, _, _, hA.sub ?_, (le_6.trans le_16), hw, _, rfl, a82, (ml5 + 1), c82, (es5 ++ [((ct79, tl_StopReplicaRequestTopic (lT (T.at 5))[k5]) : EE)]), N82b, rfl, rfl, r82b, (by simp; omega), (map_take_snoc (g := tl_StopReplicaRequestTopic) hk5 pk52), (fun p hp => (mem_snoc hp).elim (fun h => (pk53 p h).mono le_16) (fun h => h ▸ hT79))⟩
        exact (.cons rfl (.cons rfl (.cons rfl (.cons rfl (.cons rfl (.nil _))))))
  · skip
    obtain ⟨al5, ml5, cl5, es5, Nl5, rfl, rfl, pk50, pk51, pk52, pk53⟩ := hI
    refine toWp ?_
    have hes5 : es5.map (·.2) = (lT (T.at 5)).map tl_StopReplicaRequestTopic := by rw [pk52, List.take_length]
    have hm5 : ml5 = ((lT (T.at 5)).map tl_StopReplicaRequestTopic).length := by rw [← hes5, List.length_map]; exact pk51
    refine frW pk50 .head (fun Hl5 hll5 hzl5 => ?_)
    have ht5 := TreesAt.row hzl5 pk51 pk50.le.1 (by have h1 := congrArg List.length hes5; rw [List.length_map, List.length_map] at h1; unfold B47; omega) (fun p hp => (pk53 p hp).mono hll5)
    rw [hes5] at ht5
    subst hm5
    refine sr ?_
    refine mv rfl rfl ?_
    refine nc rfl rfl ?_
    refine fa F57_7 rfl rfl ?_
    refine mkf rfl rfl ?_
    have hkv_ := (h2.mono (le_7.trans hll5))
    obtain ⟨kvs, hM, hlen, hel⟩ := hkv_
    have hfu := hf.u
    refine cl rfl rfl rfl (t_each (j := 7) (I := fun i H1 Y => TgI 51 b_3 27 (.int .i64 0) (.slice none 0 0) (.bool false) (_) T.u i H1 Y) (hb.mono (le_7.trans hll5)) rfl hM (by omega) (fun i H1 H2 Y hle h => h.mono hle) TgI.start (fun i k v H1 Y L1 hi hle hI => ?_)) rfl (fun v_ H1 L1 le_18 hR_ => ?_)
    · obtain ⟨s, h1, ⟨va, vc, rfl, hx⟩, h2, h3⟩ := hel i k v hi
      have hik := sortKv_lt hi
      exact TgI.step (fun {_ _ _ _ _ _ _ _ _ _ _ _ _ _ _ _} => tc_22) hf.v (by omega) h1 (hx.mono hle) h2 h3 hI
    rw [hlen] at hR_
    obtain ⟨_, rfl, aU, cU, NU, esU, rfl, hrU, heU, hgU⟩ := hR_
    refine splL ?_
    rw [List.take_length] at heU
    refine frL hrU (.tail .head) (fun HU hleU hzU => ?_)
    have hU := (TagsAt.told hzU hrU heU hfu (fun p hp => (hgU p hp).mono hleU)).1
    refine nl ?_
    refine sr ?_
    refine fa0 F27_4 rfl rfl ?_
    refine ld (Says.own .head) Tryd.isAgg25 rfl (Nat.zero_add _).symm rfl rfl ?_
    refine cl rfl rfl rfl (k_sorted hU (h2.mono (le_7.trans (hll5.trans (le_18.trans hleU)))).rise) rfl (fun v_ H1 L1 hle_ hR_ => ?_)
    obtain ⟨rfl, rfl⟩ := hR_
    refine nl ?_
    refine sr ?_
    refine la (Says.own .head) Tryd.isAgg27 Tryd.sizeOf27 rfl (Nat.zero_add _).symm rfl rfl ?_
    refine sa Tryd.sizeOf27 rfl rfl rfl rfl rfl (.tail (.tail .head)) ?_
    refine nl ?_
    refine drW .head ?_
    refine frW (Row.whole (e := 27) (size := 5) (m := 6) (ds := [.int .i64 (IntKind.i32.wrap (T.at 0).n), .slice none 0 0, .bool false, .slice none 0 0, .slice none 0 0, .int .i64 (IntKind.i32.wrap (T.at 1).n), .slice none 0 0, .bool false, .slice none 0 0, .slice none 0 0, .int .i64 (if (decide ((T.at 2).n % 2 = 1)) = true then 1 else 0), .slice none 0 0, .bool false, .slice none 0 0, .slice none 0 0, .int .i64 (T.at 3).n, .slice none 0 0, .bool false, .slice none 0 0, .slice none 0 0, .int .i64 (if (decide ((T.at 4).n % 2 = 1)) = true then 1 else 0), .slice none 0 0, .bool false, .slice none 0 0, .slice none 0 0, .int .i64 0, .slice none 0 0, .bool a5.isNone, .slice al5 ((lT (T.at 5)).map tl_StopReplicaRequestTopic).length cl5, .slice none 0 0]) rfl (by unfold maxLen; omega)) .head (fun H9 hle9 hz9 => ?_)
    have hrb : H9.at b_2 0 [.int .i64 (IntKind.i32.wrap (T.at 0).n), .slice none 0 0, .bool false, .slice none 0 0, .slice none 0 0, .int .i64 (IntKind.i32.wrap (T.at 1).n), .slice none 0 0, .bool false, .slice none 0 0, .slice none 0 0, .int .i64 (if (decide ((T.at 2).n % 2 = 1)) = true then 1 else 0), .slice none 0 0, .bool false, .slice none 0 0, .slice none 0 0, .int .i64 (T.at 3).n, .slice none 0 0, .bool false, .slice none 0 0, .slice none 0 0, .int .i64 (if (decide ((T.at 4).n % 2 = 1)) = true then 1 else 0), .slice none 0 0, .bool false, .slice none 0 0, .slice none 0 0, .int .i64 0, .slice none 0 0, .bool a5.isNone, .slice al5 ((lT (T.at 5)).map tl_StopReplicaRequestTopic).length cl5, .slice none 0 0] := by
      rcases hz9 with ⟨h, _⟩ | ⟨g, h, h2⟩
      · cases h
      · cases h; exact h2
    rw [(h1).nul] at hrb
    have hrb2 : H9.at b_2 0 (([((TC.none : TC), (Tr.mk (IntKind.i32.wrap (T.at 0).n) [] false [] [] : Tr)), ((TC.none : TC), (Tr.mk (IntKind.i32.wrap (T.at 1).n) [] false [] [] : Tr)), ((TC.none : TC), (Tr.mk (if decide ((T.at 2).n % 2 = 1) = true then 1 else 0) [] false [] [] : Tr)), ((TC.none : TC), (Tr.mk (T.at 3).n [] false [] [] : Tr)), ((TC.none : TC), (Tr.mk (if decide ((T.at 4).n % 2 = 1) = true then 1 else 0) [] false [] [] : Tr)), ((⟨none, 0, al5, cl5, none, 0⟩ : TC), (Tr.mk 0 [] (T.at 5).nul ((lT (T.at 5)).map tl_StopReplicaRequestTopic) [] : Tr))] : List EE).flatMap fun p => p.1.cells p.2) := by exact hrb
    have hl9 : TreesAt H9 (some ⟨b_2, 0, none⟩) 6 [(.mk (IntKind.i32.wrap (T.at 0).n) [] false [] []), (.mk (IntKind.i32.wrap (T.at 1).n) [] false [] []), (.mk (if decide ((T.at 2).n % 2 = 1) = true then 1 else 0) [] false [] []), (.mk (T.at 3).n [] false [] []), (.mk (if decide ((T.at 4).n % 2 = 1) = true then 1 else 0) [] false [] []), (.mk 0 [] (T.at 5).nul ((lT (T.at 5)).map tl_StopReplicaRequestTopic) [])] := by
      refine TreesAt.row (es := [((TC.none : TC), (Tr.mk (IntKind.i32.wrap (T.at 0).n) [] false [] [] : Tr)), ((TC.none : TC), (Tr.mk (IntKind.i32.wrap (T.at 1).n) [] false [] [] : Tr)), ((TC.none : TC), (Tr.mk (if decide ((T.at 2).n % 2 = 1) = true then 1 else 0) [] false [] [] : Tr)), ((TC.none : TC), (Tr.mk (T.at 3).n [] false [] [] : Tr)), ((TC.none : TC), (Tr.mk (if decide ((T.at 4).n % 2 = 1) = true then 1 else 0) [] false [] [] : Tr)), ((⟨none, 0, al5, cl5, none, 0⟩ : TC), (Tr.mk 0 [] (T.at 5).nul ((lT (T.at 5)).map tl_StopReplicaRequestTopic) [] : Tr))]) (.inr ⟨_, rfl, hrb2⟩) rfl (Nat.le_refl _) (Nat.le_of_ble_eq_true rfl) ?_
      intro p hp
      simp only [List.mem_cons, List.not_mem_nil, or_false] at hp
      rcases hp with rfl | rfl | rfl | rfl | rfl | rfl
      · exact (.of (.nil _) (.nil _) (.nil _))
      · exact (.of (.nil _) (.nil _) (.nil _))
      · exact (.of (.nil _) (.nil _) (.nil _))
      · exact (.of (.nil _) (.nil _) (.nil _))
      · exact (.of (.nil _) (.nil _) (.nil _))
      · exact (.of (.nil _) (ht5.mono (le_18.trans (hleU.trans hle9))) (.nil _))
    exact rC rfl Tryd.isAgg27 Tryd.sizeOf27 rfl .head rfl (le_7.trans (hll5.trans (le_18.trans (hleU.trans hle9)))) (fun _ _ h => h) ⟨rfl, ⟨none, 0, some ⟨b_2, 0, none⟩, 6, aU, cU⟩, rfl, .of (.nil _) hl9 (hU.mono hle9)⟩
end Go.Sx

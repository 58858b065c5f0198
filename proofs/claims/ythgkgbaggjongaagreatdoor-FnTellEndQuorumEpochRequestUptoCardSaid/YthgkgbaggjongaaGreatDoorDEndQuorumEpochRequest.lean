import Derived.Test.YthgkgbaggjongaaGreatDoorBEndQuorumEpochRequest
import Derived.Test.YthgkgbaggjongaaGreatDoorTB
import Derived.KernelRfl
set_option linter.unusedVariables false
set_option linter.unusedSimpArgs false
set_option maxRecDepth 100000
set_option maxHeartbeats 20000000
namespace Go.Sx
open Go.Proofs
def tl_EndQuorumEpochRequestTopicPartitionPreferredCandidate (T : Tr) : Tr := .mk 0 [] false [(.mk (IntKind.i32.wrap (T.at 0).n) [] false [] []), (.mk 0 (pad16 (T.at 1).s) false [] [])] T.u
theorem te_EndQuorumEpochRequestTopicPartitionPreferredCandidate {H : Fz} {L : Own} {b o : Nat} {cs : List Value} {T : Tr} (hb : H.at b o cs) (hA : At_EndQuorumEpochRequestTopicPartitionPreferredCandidate H T cs) (hf : Fits T) :
  Fn Tryz.prog 311 [.pointer (some ⟨b, o, none⟩)] H L (fun v H' L' => L = L' ∧ ∃ c : TC, v = .agg (c.cells (tl_EndQuorumEpochRequestTopicPartitionPreferredCandidate T)).toArray ∧ TreeAt H' c (tl_EndQuorumEpochRequestTopicPartitionPreferredCandidate T)) := by
 obtain ⟨mt, rfl, h1⟩ := hA
 refine Fn.mk Tryz.call311 Tryz.func311 rfl Tryz.ntmps311 rfl ?_
 refine sr ?_
 refine al Tryz.zeroValue37 rfl rfl (fun b_1 => ?_)
 refine nl ?_
 refine sr ?_
 refine mkC (m := 2) (zs := [.int .i64 0, .slice none 0 0, .bool false, .slice none 0 0, .slice none 0 0]) Tryz.underlying34 I37 rfl rfl rfl rfl rfl rfl (by decide) (by unfold maxLen; omega) rfl (fun b_2 => ?_)
 refine bd' S37 rfl rfl rfl ?_
 refine al Tryz.zeroValue37 rfl rfl (fun b_3 => ?_)
 refine sa Tryz.sizeOf37 rfl rfl rfl rfl rfl .head ?_
 refine nl ?_
 refine sq ?_
 refine rgD 9 (.keep (.keep (.keep .nil))) mixed ?_
 refine dT 0 rfl rfl rfl (by kernel_rfl) (fun _ _ _ h => h) (y_fa0 F37_3 rfl) (.keep (.keep (.keep .nil))) (Fz.le.refl _) ?_
 refine dT 1 rfl rfl rfl (by kernel_rfl) (fun _ _ _ h => h) (y_ld (Says.own .head) Tryz.isAgg34 rfl (Nat.zero_add _).symm rfl) (.keep (.keep (.keep .nil))) (Fz.le.refl _) ?_
 refine dT 2 rfl rfl rfl (by kernel_rfl) (fun _ _ _ h => h) (y_mv rfl) (.keep (.keep (.keep .nil))) (Fz.le.refl _) ?_
 refine dT 3 rfl rfl rfl (by kernel_rfl) (fun _ _ _ h => h) (y_nc rfl) (.keep (.keep (.keep .nil))) (Fz.le.refl _) ?_
 refine dT 4 rfl rfl rfl (by kernel_rfl) (fun _ _ _ h => h) (y_fa F286_0 rfl) (.keep (.keep (.keep .nil))) (Fz.le.refl _) ?_
 refine dT 5 rfl rfl rfl (by kernel_rfl) (fun _ _ _ h => h) (y_ld (j := 0) (Says.fz hb) Tryz.isAgg21 rfl (Nat.add_zero _).symm rfl) (.keep (.keep (.keep .nil))) (Fz.le.refl _) ?_
 refine dT 6 rfl rfl rfl (by kernel_rfl) (fun _ _ _ h => h) (y_cv Tryz.runUnderlying21 Tryz.runUnderlying2 rfl (i32_64 _)) (.keep (.keep (.keep .nil))) (Fz.le.refl _) ?_
 refine dT 7 rfl rfl rfl (by kernel_rfl) (fun _ _ _ h => h) (y_bd S37 rfl rfl) (.keep (.keep (.keep .nil))) (Fz.le.refl _) ?_
 refine dT 8 rfl rfl rfl (by kernel_rfl) (fun _ _ _ h => h) (y_ix2 (j := 0) Tryz.runUnderlying34 Tryz.sizeOf37 rfl rfl rfl rfl (by decide)) (.keep (.keep (.keep .nil))) (Fz.le.refl _) ?_
 refine dE 9 (by kernel_rfl) rfl ?_
 refine sa Tryz.sizeOf37 rfl rfl rfl rfl rfl (.tail .head) ?_
 refine dNk (by kernel_rfl) ?_
 refine dD (by kernel_rfl) ?_
 refine Nt ?_
 refine sq ?_
 refine rgD 9 (.keep (.keep (.keep .nil))) mixed ?_
 refine dT 0 rfl rfl rfl (by kernel_rfl) (fun _ _ _ h => h) (y_fa0 F37_3 rfl) (.keep (.keep (.keep .nil))) (Fz.le.refl _) ?_
 refine dT 1 rfl rfl rfl (by kernel_rfl) (fun _ _ _ h => h) (y_ld (Says.own .head) Tryz.isAgg34 rfl (Nat.zero_add _).symm rfl) (.keep (.keep (.keep .nil))) (Fz.le.refl _) ?_
 refine dT 2 rfl rfl rfl (by kernel_rfl) (fun _ _ _ h => h) (y_mv rfl) (.keep (.keep (.keep .nil))) (Fz.le.refl _) ?_
 refine dT 3 rfl rfl rfl (by kernel_rfl) (fun _ _ _ h => h) (y_nc rfl) (.keep (.keep (.keep .nil))) (Fz.le.refl _) ?_
 refine dT 4 rfl rfl rfl (by kernel_rfl) (fun _ _ _ h => h) (y_fa F286_1 rfl) (.keep (.keep (.keep .nil))) (Fz.le.refl _) ?_
 refine dT 5 rfl rfl rfl (by kernel_rfl) (fun _ _ _ h => h) (y_slA Tryz.runUnderlying182 Tryz.sizeOf5 rfl) (.keep (.keep (.keep .nil))) (Fz.le.refl _) ?_
 refine dE 6 (by kernel_rfl) rfl ?_
 have hq21 := pad16_len (T.at 1).s
 refine apn (k := 16) (news := bytesOf (pad16 (T.at 1).s)) Tryz.underlying22 I5 rfl rfl (src_says (m := 16) (size := 1) Tryz.underlying22 (by rw [bytesOf_length, hq21]) (fun _ => Says.fz (by rw [← u16_eq]; exact (hb.part 1 16))) (bytesOf_one _)) (by omega) (by unfold maxLen; omega) rfl (fun a21 c21 N21 r21 => ?_)
 refine frL r21 .head (fun Hu21 hlu21 hz21 => ?_)
 have hb21 := BytesAt.row hz21 r21 (by rw [hq21]; unfold B47; omega)
 refine dN (.keep (.keep (.keep .nil))) hlu21 ?_
 refine dT 7 rfl rfl rfl (by kernel_rfl) (fun _ _ _ h => h) (y_bd S37 rfl rfl) (.keep (.keep (.keep .nil))) hlu21 ?_
 refine dT 8 rfl rfl rfl (by kernel_rfl) (fun _ _ _ h => h) (y_ix2 (j := 1) Tryz.runUnderlying34 Tryz.sizeOf37 rfl rfl rfl rfl (by decide)) (.keep (.keep (.keep .nil))) hlu21 ?_
 refine dE 9 (by kernel_rfl) rfl ?_
 refine sa Tryz.sizeOf37 rfl rfl rfl rfl rfl (.tail .head) ?_
 refine dNk (by kernel_rfl) ?_
 refine dD (by kernel_rfl) ?_
 refine Nt ?_
 refine sr ?_
 refine mv rfl rfl ?_
 refine nc rfl rfl ?_
 refine fa F286_2 rfl rfl ?_
 refine mkf rfl rfl ?_
 have hkv_ := (h1.mono hlu21)
 obtain ⟨kvs, hM, hlen, hel⟩ := hkv_
 have hfu := hf.u
 refine cl rfl rfl rfl (t_each (j := 17) (I := fun i H1 Y => TgI 72 b_3 37 (.int .i64 0) (.slice none 0 0) (.bool false) (_) T.u i H1 Y) (hb.mono hlu21) rfl hM (by omega) (fun i H1 H2 Y hle h => h.mono hle) TgI.start (fun i k v H1 Y L1 hi hle hI => ?_)) rfl (fun v_ H1 L1 le_5 hR_ => ?_)
 ·
  obtain ⟨s, h1, ⟨va, vc, rfl, hx⟩, h2, h3⟩ := hel i k v hi
  have hik := sortKv_lt hi
  exact TgI.step (fun {_ _ _ _ _ _ _ _ _ _ _ _ _ _ _ _} => tc_342) hf.v (by omega) h1 (hx.mono hle) h2 h3 hI
 rw [hlen] at hR_
 obtain ⟨_, rfl, aU, cU, NU, esU, rfl, hrU, heU, hgU⟩ := hR_
 refine splL ?_
 rw [List.take_length] at heU
 refine frL hrU (.tail .head) (fun HU hleU hzU => ?_)
 have hU := (TagsAt.told hzU hrU heU hfu (fun p hp => (hgU p hp).mono hleU)).1
 refine nl ?_
 refine sr ?_
 refine fa0 F37_4 rfl rfl ?_
 refine ld (Says.own .head) Tryz.isAgg35 rfl (Nat.zero_add _).symm rfl rfl ?_
 refine cl rfl rfl rfl (k_sorted hU (h1.mono (hlu21.trans (le_5.trans hleU))).rise) rfl (fun v_ H1 L1 hle_ hR_ => ?_)
 obtain ⟨rfl, rfl⟩ := hR_
 refine nl ?_
 refine sr ?_
 refine la (Says.own .head) Tryz.isAgg37 Tryz.sizeOf37 rfl (Nat.zero_add _).symm rfl rfl ?_
 refine sa Tryz.sizeOf37 rfl rfl rfl rfl rfl (.tail (.tail .head)) ?_
 refine nl ?_
 refine drW .head ?_
 refine frW (Row.whole (e := 37) (size := 5) (m := 2) (ds := [.int .i64 (IntKind.i32.wrap (T.at 0).n), .slice none 0 0, .bool false, .slice none 0 0, .slice none 0 0, .int .i64 0, .slice a21 16 c21, .bool false, .slice none 0 0, .slice none 0 0]) rfl (by unfold maxLen; omega)) .head (fun H9 hle9 hz9 => ?_)
 have hrb : H9.at b_2 0 [.int .i64 (IntKind.i32.wrap (T.at 0).n), .slice none 0 0, .bool false, .slice none 0 0, .slice none 0 0, .int .i64 0, .slice a21 16 c21, .bool false, .slice none 0 0, .slice none 0 0] := by
  rcases hz9 with ⟨h, _⟩ | ⟨g, h, h2⟩
  · cases h
  · cases h; exact h2
 have hq9_1 := pad16_len (T.at 1).s
 have hrb2 : H9.at b_2 0 (([((TC.none : TC), (Tr.mk (IntKind.i32.wrap (T.at 0).n) [] false [] [] : Tr)), ((⟨a21, c21, none, 0, none, 0⟩ : TC), (Tr.mk 0 (pad16 (T.at 1).s) false [] [] : Tr))] : List EE).flatMap fun p => p.1.cells p.2) := by
  simp only [List.flatMap_cons, List.flatMap_nil, TC.cells, Tr.n, Tr.s, Tr.nul, Tr.l, Tr.u, TC.none, pad16_len]
  exact hrb
 have hl9 : TreesAt H9 (some ⟨b_2, 0, none⟩) 2 [(.mk (IntKind.i32.wrap (T.at 0).n) [] false [] []), (.mk 0 (pad16 (T.at 1).s) false [] [])] := by
  refine TreesAt.row (es := [((TC.none : TC), (Tr.mk (IntKind.i32.wrap (T.at 0).n) [] false [] [] : Tr)), ((⟨a21, c21, none, 0, none, 0⟩ : TC), (Tr.mk 0 (pad16 (T.at 1).s) false [] [] : Tr))]) (.inr ⟨_, rfl, hrb2⟩) rfl (Nat.le_refl _) (Nat.le_of_ble_eq_true rfl) ?_
  intro p hp
  simp only [List.mem_cons, List.not_mem_nil, or_false] at hp
  rcases hp with rfl | rfl
  · exact (.of (.nil _) (.nil _) (.nil _))
  · exact (.of (hb21.mono (le_5.trans (hleU.trans hle9))) (.nil _) (.nil _))
 exact rC rfl Tryz.isAgg37 Tryz.sizeOf37 rfl .head rfl (hlu21.trans (le_5.trans (hleU.trans hle9))) (fun _ _ h => h) ⟨rfl, ⟨none, 0, some ⟨b_2, 0, none⟩, 2, aU, cU⟩, rfl, .of (.nil _) hl9 (hU.mono hle9)⟩
def tl_EndQuorumEpochRequestTopicPartition (T : Tr) : Tr := .mk 0 [] false [(.mk (IntKind.i32.wrap (T.at 0).n) [] false [] []), (.mk (IntKind.i32.wrap (T.at 1).n) [] false [] []), (.mk (IntKind.i32.wrap (T.at 2).n) [] false [] []), (.mk 0 [] (T.at 3).nul ((lT (T.at 3)).map (fun y : Tr => (Tr.mk (IntKind.i32.wrap y.n) [] false [] [] : Tr))) []), (.mk 0 [] (T.at 4).nul ((lT (T.at 4)).map tl_EndQuorumEpochRequestTopicPartitionPreferredCandidate) [])] T.u
theorem te_EndQuorumEpochRequestTopicPartition {H : Fz} {L : Own} {b o : Nat} {cs : List Value} {T : Tr} (hb : H.at b o cs) (hA : At_EndQuorumEpochRequestTopicPartition H T cs) (hf : Fits T) :
  Fn Tryz.prog 263 [.pointer (some ⟨b, o, none⟩)] H L (fun v H' L' => L = L' ∧ ∃ c : TC, v = .agg (c.cells (tl_EndQuorumEpochRequestTopicPartition T)).toArray ∧ TreeAt H' c (tl_EndQuorumEpochRequestTopicPartition T)) := by
 obtain ⟨a3, c3, a4, c4, mt, rfl, h1, h2, h3⟩ := hA
 refine Fn.mk Tryz.call263 Tryz.func263 rfl Tryz.ntmps263 rfl ?_
 refine sr ?_
 refine al Tryz.zeroValue37 rfl rfl (fun b_1 => ?_)
 refine nl ?_
 refine sr ?_
 refine mkC (m := 5) (zs := [.int .i64 0, .slice none 0 0, .bool false, .slice none 0 0, .slice none 0 0]) Tryz.underlying34 I37 rfl rfl rfl rfl rfl rfl (by decide) (by unfold maxLen; omega) rfl (fun b_2 => ?_)
 refine bd' S37 rfl rfl rfl ?_
 refine al Tryz.zeroValue37 rfl rfl (fun b_3 => ?_)
 refine sa Tryz.sizeOf37 rfl rfl rfl rfl rfl .head ?_
 refine nl ?_
 refine sq ?_
 refine rgD 9 (.keep (.keep (.keep .nil))) mixed ?_
 refine dT 0 rfl rfl rfl (by kernel_rfl) (fun _ _ _ h => h) (y_fa0 F37_3 rfl) (.keep (.keep (.keep .nil))) (Fz.le.refl _) ?_
 refine dT 1 rfl rfl rfl (by kernel_rfl) (fun _ _ _ h => h) (y_ld (Says.own .head) Tryz.isAgg34 rfl (Nat.zero_add _).symm rfl) (.keep (.keep (.keep .nil))) (Fz.le.refl _) ?_
 refine dT 2 rfl rfl rfl (by kernel_rfl) (fun _ _ _ h => h) (y_mv rfl) (.keep (.keep (.keep .nil))) (Fz.le.refl _) ?_
 refine dT 3 rfl rfl rfl (by kernel_rfl) (fun _ _ _ h => h) (y_nc rfl) (.keep (.keep (.keep .nil))) (Fz.le.refl _) ?_
 refine dT 4 rfl rfl rfl (by kernel_rfl) (fun _ _ _ h => h) (y_fa F283_0 rfl) (.keep (.keep (.keep .nil))) (Fz.le.refl _) ?_
 refine dT 5 rfl rfl rfl (by kernel_rfl) (fun _ _ _ h => h) (y_ld (j := 0) (Says.fz hb) Tryz.isAgg21 rfl (Nat.add_zero _).symm rfl) (.keep (.keep (.keep .nil))) (Fz.le.refl _) ?_
 refine dT 6 rfl rfl rfl (by kernel_rfl) (fun _ _ _ h => h) (y_cv Tryz.runUnderlying21 Tryz.runUnderlying2 rfl (i32_64 _)) (.keep (.keep (.keep .nil))) (Fz.le.refl _) ?_
 refine dT 7 rfl rfl rfl (by kernel_rfl) (fun _ _ _ h => h) (y_bd S37 rfl rfl) (.keep (.keep (.keep .nil))) (Fz.le.refl _) ?_
 refine dT 8 rfl rfl rfl (by kernel_rfl) (fun _ _ _ h => h) (y_ix2 (j := 0) Tryz.runUnderlying34 Tryz.sizeOf37 rfl rfl rfl rfl (by decide)) (.keep (.keep (.keep .nil))) (Fz.le.refl _) ?_
 refine dE 9 (by kernel_rfl) rfl ?_
 refine sa Tryz.sizeOf37 rfl rfl rfl rfl rfl (.tail .head) ?_
 refine dNk (by kernel_rfl) ?_
 refine dD (by kernel_rfl) ?_
 refine Nt ?_
 refine sq ?_
 refine rgD 9 (.keep (.keep (.keep .nil))) mixed ?_
 refine dT 0 rfl rfl rfl (by kernel_rfl) (fun _ _ _ h => h) (y_fa0 F37_3 rfl) (.keep (.keep (.keep .nil))) (Fz.le.refl _) ?_
 refine dT 1 rfl rfl rfl (by kernel_rfl) (fun _ _ _ h => h) (y_ld (Says.own .head) Tryz.isAgg34 rfl (Nat.zero_add _).symm rfl) (.keep (.keep (.keep .nil))) (Fz.le.refl _) ?_
 refine dT 2 rfl rfl rfl (by kernel_rfl) (fun _ _ _ h => h) (y_mv rfl) (.keep (.keep (.keep .nil))) (Fz.le.refl _) ?_
 refine dT 3 rfl rfl rfl (by kernel_rfl) (fun _ _ _ h => h) (y_nc rfl) (.keep (.keep (.keep .nil))) (Fz.le.refl _) ?_
 refine dT 4 rfl rfl rfl (by kernel_rfl) (fun _ _ _ h => h) (y_fa F283_1 rfl) (.keep (.keep (.keep .nil))) (Fz.le.refl _) ?_
 refine dT 5 rfl rfl rfl (by kernel_rfl) (fun _ _ _ h => h) (y_ld (j := 1) (Says.fz hb) Tryz.isAgg21 rfl rfl rfl) (.keep (.keep (.keep .nil))) (Fz.le.refl _) ?_
 refine dT 6 rfl rfl rfl (by kernel_rfl) (fun _ _ _ h => h) (y_cv Tryz.runUnderlying21 Tryz.runUnderlying2 rfl (i32_64 _)) (.keep (.keep (.keep .nil))) (Fz.le.refl _) ?_
 refine dT 7 rfl rfl rfl (by kernel_rfl) (fun _ _ _ h => h) (y_bd S37 rfl rfl) (.keep (.keep (.keep .nil))) (Fz.le.refl _) ?_
 refine dT 8 rfl rfl rfl (by kernel_rfl) (fun _ _ _ h => h) (y_ix2 (j := 1) Tryz.runUnderlying34 Tryz.sizeOf37 rfl rfl rfl rfl (by decide)) (.keep (.keep (.keep .nil))) (Fz.le.refl _) ?_
 refine dE 9 (by kernel_rfl) rfl ?_
 refine sa Tryz.sizeOf37 rfl rfl rfl rfl rfl (.tail .head) ?_
 refine dNk (by kernel_rfl) ?_
 refine dD (by kernel_rfl) ?_
 refine Nt ?_
 refine sq ?_
 refine rgD 9 (.keep (.keep (.keep .nil))) mixed ?_
 refine dT 0 rfl rfl rfl (by kernel_rfl) (fun _ _ _ h => h) (y_fa0 F37_3 rfl) (.keep (.keep (.keep .nil))) (Fz.le.refl _) ?_
 refine dT 1 rfl rfl rfl (by kernel_rfl) (fun _ _ _ h => h) (y_ld (Says.own .head) Tryz.isAgg34 rfl (Nat.zero_add _).symm rfl) (.keep (.keep (.keep .nil))) (Fz.le.refl _) ?_
 refine dT 2 rfl rfl rfl (by kernel_rfl) (fun _ _ _ h => h) (y_mv rfl) (.keep (.keep (.keep .nil))) (Fz.le.refl _) ?_
 refine dT 3 rfl rfl rfl (by kernel_rfl) (fun _ _ _ h => h) (y_nc rfl) (.keep (.keep (.keep .nil))) (Fz.le.refl _) ?_
 refine dT 4 rfl rfl rfl (by kernel_rfl) (fun _ _ _ h => h) (y_fa F283_2 rfl) (.keep (.keep (.keep .nil))) (Fz.le.refl _) ?_
 refine dT 5 rfl rfl rfl (by kernel_rfl) (fun _ _ _ h => h) (y_ld (j := 2) (Says.fz hb) Tryz.isAgg21 rfl rfl rfl) (.keep (.keep (.keep .nil))) (Fz.le.refl _) ?_
 refine dT 6 rfl rfl rfl (by kernel_rfl) (fun _ _ _ h => h) (y_cv Tryz.runUnderlying21 Tryz.runUnderlying2 rfl (i32_64 _)) (.keep (.keep (.keep .nil))) (Fz.le.refl _) ?_
 refine dT 7 rfl rfl rfl (by kernel_rfl) (fun _ _ _ h => h) (y_bd S37 rfl rfl) (.keep (.keep (.keep .nil))) (Fz.le.refl _) ?_
 refine dT 8 rfl rfl rfl (by kernel_rfl) (fun _ _ _ h => h) (y_ix2 (j := 2) Tryz.runUnderlying34 Tryz.sizeOf37 rfl rfl rfl rfl (by decide)) (.keep (.keep (.keep .nil))) (Fz.le.refl _) ?_
 refine dE 9 (by kernel_rfl) rfl ?_
 refine sa Tryz.sizeOf37 rfl rfl rfl rfl rfl (.tail .head) ?_
 refine dNk (by kernel_rfl) ?_
 refine dD (by kernel_rfl) ?_
 refine Nt ?_
 refine sq ?_
 refine rgD 9 (.keep (.keep (.keep .nil))) mixed ?_
 refine dT 0 rfl rfl rfl (by kernel_rfl) (fun _ _ _ h => h) (y_fa0 F37_3 rfl) (.keep (.keep (.keep .nil))) (Fz.le.refl _) ?_
 refine dT 1 rfl rfl rfl (by kernel_rfl) (fun _ _ _ h => h) (y_ld (Says.own .head) Tryz.isAgg34 rfl (Nat.zero_add _).symm rfl) (.keep (.keep (.keep .nil))) (Fz.le.refl _) ?_
 refine dT 2 rfl rfl rfl (by kernel_rfl) (fun _ _ _ h => h) (y_mv rfl) (.keep (.keep (.keep .nil))) (Fz.le.refl _) ?_
 refine dT 3 rfl rfl rfl (by kernel_rfl) (fun _ _ _ h => h) (y_nc rfl) (.keep (.keep (.keep .nil))) (Fz.le.refl _) ?_
 refine dT 4 rfl rfl rfl (by kernel_rfl) (fun _ _ _ h => h) (y_fa F283_3 rfl) (.keep (.keep (.keep .nil))) (Fz.le.refl _) ?_
 refine dT 5 rfl rfl rfl (by kernel_rfl) (fun _ _ _ h => h) (y_ld (j := 3) (Says.fz hb) Tryz.isAgg227 rfl rfl rfl) (.keep (.keep (.keep .nil))) (Fz.le.refl _) ?_
 refine dT 6 rfl rfl rfl (by kernel_rfl) (fun _ _ _ h => h) (y_esn Tryz.underlying227 rfl) (.keep (.keep (.keep .nil))) (Fz.le.refl _) ?_
 refine dE 7 (by kernel_rfl) rfl ?_
 refine ixk (j := 3) Tryz.runUnderlying34 Tryz.sizeOf37 rfl rfl rfl rfl (by decide) rfl ?_
 refine dN (.keep (.keep (.keep .nil))) (Fz.le.refl _) ?_
 refine dT 8 rfl rfl rfl (by kernel_rfl) (fun _ _ _ h => h) (y_fa F37_2 rfl) (.keep (.keep (.keep .nil))) (Fz.le.refl _) ?_
 refine dE 9 (by kernel_rfl) rfl ?_
 refine st Tryz.sizeOf4 rfl rfl rfl rfl (.tail .head) ?_
 refine dNk (by kernel_rfl) ?_
 refine dD (by kernel_rfl) ?_
 refine Nt ?_
 refine sq ?_
 refine sr ?_
 refine mv rfl rfl ?_
 refine nc rfl rfl ?_
 refine fa F283_3 rfl rfl ?_
 refine ld (Says.fz hb) Tryz.isAgg227 rfl rfl rfl rfl ?_
 refine ls Tryz.runUnderlying227 rfl rfl ?_
 refine mv rfl rfl ?_
 refine nl ?_
 have hlm3 := (hf.at 3).lTl
 refine nulC2 ?_
 refine fr ((lT (T.at 3)).length) (fun k3 l' H' L' => ∃ (al3 : Option Addr), ∃ (ml3 : Nat), ∃ (cl3 : Nat), ∃ (es3 : List EE), ∃ (Nl3 : Chunk), [(0, .pointer (some ⟨b, o, none⟩)), (2, .pointer (some ⟨b_1, 0, none⟩)), (3, .pointer (some ⟨b_3, 0, none⟩)), (48, .int .i64 ((lT (T.at 3)).length : Int))] = l' ∧ Nl3 :: [(b_3, .cells [.int .i64 0, .slice none 0 0, .bool false, _, .slice none 0 0].toArray 37 (0, 0))] :: [(b_2, .cells [.int .i64 (IntKind.i32.wrap (T.at 0).n), .slice none 0 0, .bool false, .slice none 0 0, .slice none 0 0, .int .i64 (IntKind.i32.wrap (T.at 1).n), .slice none 0 0, .bool false, .slice none 0 0, .slice none 0 0, .int .i64 (IntKind.i32.wrap (T.at 2).n), .slice none 0 0, .bool false, .slice none 0 0, .slice none 0 0, .int .i64 0, .slice none 0 0, .bool a3.isNone, .slice al3 ml3 cl3, .slice none 0 0, .int .i64 0, .slice none 0 0, .bool false, .slice none 0 0, .slice none 0 0].toArray 37 (0, 0))] :: [(b_1, .cells [.int .i64 0, .slice none 0 0, .bool false, .slice none 0 0, .slice none 0 0].toArray 37 (0, 0))] :: L = L' ∧ Row 37 5 al3 ml3 cl3 (es3.flatMap f5) Nl3 ∧ ml3 = es3.length ∧ es3.map (·.2) = ((lT (T.at 3)).take k3).map (fun y : Tr => (Tr.mk (IntKind.i32.wrap y.n) [] false [] [] : Tr)) ∧ (∀ p : EE, p ∈ es3 → TreeAt H' p.1 p.2)) [(0, .pointer (some ⟨b, o, none⟩)), (2, .pointer (some ⟨b_1, 0, none⟩)), (3, .pointer (some ⟨b_3, 0, none⟩)), (48, .int .i64 ((lT (T.at 3)).length : Int))] (fun k3 l' H' L' h => ?_) (by omega) rfl (.cons rfl (.cons rfl (.cons rfl (.cons rfl (.nil _))))) ⟨none, 0, 0, [], [], rfl, rfl, (Row.nil _ _), rfl, (by simp), (fun p hp => by cases hp)⟩ rfl rfl rfl rfl rfl (fun k3 l' H' L' hk3 le_4 hI => ?_) (fun l' H' L' le_5 hI => ?_)
 · obtain ⟨al3, ml3, cl3, es3, Nl3, rfl, _⟩ := h; exact ⟨rfl, rfl, rfl, rfl⟩
 ·
  obtain ⟨al3, ml3, cl3, es3, Nl3, rfl, rfl, pk30, pk31, pk32, pk33⟩ := hI
  refine sr ?_
  refine mv rfl rfl ?_
  refine asg rfl rfl ?_
  refine nl ?_
  refine sq ?_
  refine rgD 4 .nil mixed ?_
  refine dE 0 (by kernel_rfl) rfl ?_
  refine al Tryz.zeroValue4 rfl rfl (fun b_6 => ?_)
  refine dN .nil (Fz.le.refl _) ?_
  refine dE2 1 2 (by kernel_rfl) rfl rfl ?_ ?_
  ·
   refine st Tryz.sizeOf4 rfl rfl rfl rfl .head ?_
   refine dN .nil (Fz.le.refl _) ?_
   refine dE 2 (by kernel_rfl) rfl ?_
   refine st Tryz.sizeOf4 rfl rfl rfl rfl .head ?_
   refine dN .nil (Fz.le.refl _) ?_
   refine dE 3 (by kernel_rfl) rfl ?_
   refine ld (Says.own .head) Tryz.isAgg4 rfl (Nat.zero_add _).symm rfl rfl ?_
   refine dN .nil (Fz.le.refl _) ?_
   refine dD (by kernel_rfl) ?_
   refine drN .head ?_
   refine Nt ?_
   refine cF rfl ?_
   refine rgD 20 (.skip (.keep (.keep (.keep .nil)))) mixed ?_
   refine dT 0 rfl rfl rfl (by kernel_rfl) (fun _ _ _ h => h) (y_fa0 F37_3 rfl) (.skip (.keep (.keep (.keep .nil)))) (Fz.le.refl _) ?_
   refine dT 1 rfl rfl rfl (by kernel_rfl) (fun _ _ _ h => h) (y_ld (Says.own .head) Tryz.isAgg34 rfl (Nat.zero_add _).symm rfl) (.skip (.keep (.keep (.keep .nil)))) (Fz.le.refl _) ?_
   refine dT 2 rfl rfl rfl (by kernel_rfl) (fun _ _ _ h => h) (y_fa0 F37_3 rfl) (.skip (.keep (.keep (.keep .nil)))) (Fz.le.refl _) ?_
   refine dT 3 rfl rfl rfl (by kernel_rfl) (fun _ _ _ h => h) (y_ld (Says.own .head) Tryz.isAgg34 rfl (Nat.zero_add _).symm rfl) (.skip (.keep (.keep (.keep .nil)))) (Fz.le.refl _) ?_
   refine dT 4 rfl rfl rfl (by kernel_rfl) (fun _ _ _ h => h) (y_ix2 (j := 3) Tryz.runUnderlying34 Tryz.sizeOf37 rfl rfl rfl rfl (by decide)) (.skip (.keep (.keep (.keep .nil)))) (Fz.le.refl _) ?_
   refine dT 5 rfl rfl rfl (by kernel_rfl) (fun _ _ _ h => h) (y_fa F37_3 rfl) (.skip (.keep (.keep (.keep .nil)))) (Fz.le.refl _) ?_
   refine dT 6 rfl rfl rfl (by kernel_rfl) (fun _ _ _ h => h) (y_ld (Says.own (.tail .head)) Tryz.isAgg34 rfl (Nat.zero_add _).symm rfl) (.skip (.keep (.keep (.keep .nil)))) (Fz.le.refl _) ?_
   refine dT 7 rfl rfl rfl (by kernel_rfl) (fun _ _ _ h => h) (y_mv rfl) (.skip (.keep (.keep (.keep .nil)))) (Fz.le.refl _) ?_
   refine dT 8 rfl rfl rfl (by kernel_rfl) (fun _ _ _ h => h) (y_nc rfl) (.skip (.keep (.keep (.keep .nil)))) (Fz.le.refl _) ?_
   refine dT 9 rfl rfl rfl (by kernel_rfl) (fun _ _ _ h => h) (y_fa F283_3 rfl) (.skip (.keep (.keep (.keep .nil)))) (Fz.le.refl _) ?_
   refine dT 10 rfl rfl rfl (by kernel_rfl) (fun _ _ _ h => h) (y_ld (j := 3) (Says.fz (hb.mono le_4)) Tryz.isAgg227 rfl rfl rfl) (.skip (.keep (.keep (.keep .nil)))) (Fz.le.refl _) ?_
   refine dT 11 rfl rfl rfl (by kernel_rfl) (fun _ _ _ h => h) (y_mv rfl) (.skip (.keep (.keep (.keep .nil)))) (Fz.le.refl _) ?_
   obtain ⟨beq_7, oeq_7, haq_7, hlq_7⟩ := ((h1.mono RI32.mono le_4)).rows.at_ (ne_nil_of_lt hk3)
   obtain ⟨ceq_7, hAq_7, hbq_7⟩ := hlq_7 k3 hk3
   obtain rfl : ceq_7 = [.int .i32 (IntKind.i32.wrap ((lT (T.at 3))[k3]).n)] := hAq_7
   refine dT 12 rfl rfl rfl (by kernel_rfl) (fun _ _ _ h => h) (y_ixk (j := k3) Tryz.runUnderlying227 Tryz.sizeOf21 rfl haq_7 rfl rfl hk3) (.skip (.keep (.keep (.keep .nil)))) (Fz.le.refl _) ?_
   refine dT 13 rfl rfl rfl (by kernel_rfl) (fun _ _ _ h => h) (y_ld (Says.fz hbq_7) Tryz.isAgg21 rfl (Nat.add_zero _).symm rfl) (.skip (.keep (.keep (.keep .nil)))) (Fz.le.refl _) ?_
   refine dT 14 rfl rfl rfl (by kernel_rfl) (fun _ _ _ h => h) (y_cv Tryz.runUnderlying21 Tryz.runUnderlying2 rfl (i32_64 _)) (.skip (.keep (.keep (.keep .nil)))) (Fz.le.refl _) ?_
   refine dT 15 rfl rfl rfl (by kernel_rfl) (fun _ _ _ h => h) (y_bd S37 rfl rfl) (.skip (.keep (.keep (.keep .nil)))) (Fz.le.refl _) ?_
   refine dE 16 (by kernel_rfl) rfl ?_
   refine bs' L34 rfl rfl rfl rfl (fun b_8 => ?_)
   refine dN (.skip (.skip (.keep (.keep (.keep .nil))))) (Fz.le.refl _) ?_
   refine dE 17 (by kernel_rfl) rfl ?_
   have hmk : ml3 = k3 := by have h1 := congrArg List.length pk32; rw [List.length_map, List.length_map, List.length_take] at h1; omega
   have hmb := (hf.at 3).lTl
   refine ap (k := 1) (news := f5 (((TC.none : TC), (Tr.mk (IntKind.i32.wrap ((lT (T.at 3))[k3]).n) [] false [] [] : Tr)) : EE)) Tryz.underlying34 I37 rfl rfl pk30 (fun _ => (.tail .head)) (src_says Tryz.underlying34 rfl (fun _ => Says.own .head) (f5_one _)) (by omega) (by unfold maxLen; omega) rfl (fun a91 c91 N91 r91 z91 => ?_)
   rw [flatMap_snoc'] at r91
   refine dN (.skip (.skip (.keep (.keep (.keep .nil))))) (Fz.le.refl _) ?_
   refine dE 18 (by kernel_rfl) rfl ?_
   refine ixk (j := 3) Tryz.runUnderlying34 Tryz.sizeOf37 rfl rfl rfl rfl (by decide) rfl ?_
   refine dN (.skip (.skip (.keep (.keep (.keep .nil))))) (Fz.le.refl _) ?_
   refine dT 19 rfl rfl rfl (by kernel_rfl) (fun _ _ _ h => h) (y_fa F37_3 rfl) (.skip (.skip (.keep (.keep (.keep .nil))))) (Fz.le.refl _) ?_
   refine dE 20 (by kernel_rfl) rfl ?_
   refine st Tryz.sizeOf34 rfl rfl rfl rfl (.tail (.tail (.tail .head))) ?_
   refine dNk (by kernel_rfl) ?_
   refine dD (by kernel_rfl) ?_
   refine Nb ?_
   refine drN .head ?_
   refine fun a_ w_ hA hw => ⟨_, _, _, hA.sub ?_, le_4, hw, _, rfl, a91, (ml3 + 1), c91, (es3 ++ [(((TC.none : TC), (Tr.mk (IntKind.i32.wrap ((lT (T.at 3))[k3]).n) [] false [] [] : Tr)) : EE)]), N91, rfl, rfl, r91, (by simp; omega), (map_take_snoc (g := (fun y : Tr => (Tr.mk (IntKind.i32.wrap y.n) [] false [] [] : Tr))) hk3 pk32), (fun p hp => (mem_snoc hp).elim (fun h => (pk33 p h).mono (Fz.le.refl _)) (fun h => h ▸ (.of (.nil _) (.nil _) (.nil _))))⟩
   exact (.cons rfl (.cons rfl (.cons rfl (.cons rfl (.cons rfl (.nil _))))))
  ·
   refine st Tryz.sizeOf4 rfl rfl rfl rfl .head ?_
   refine dN .nil (Fz.le.refl _) ?_
   refine dE 1 (by kernel_rfl) rfl ?_
   refine st Tryz.sizeOf4 rfl rfl rfl rfl .head ?_
   refine dN .nil (Fz.le.refl _) ?_
   refine dE 3 (by kernel_rfl) rfl ?_
   refine ld (Says.own .head) Tryz.isAgg4 rfl (Nat.zero_add _).symm rfl rfl ?_
   refine dN .nil (Fz.le.refl _) ?_
   refine dD (by kernel_rfl) ?_
   refine drN .head ?_
   refine Nt ?_
   refine cT rfl ?_
   refine sq ?_
   refine rgD 19 (.skip (.keep (.keep (.keep .nil)))) mixed ?_
   refine dT 0 rfl rfl rfl (by kernel_rfl) (fun _ _ _ h => h) (y_fa0 F37_3 rfl) (.skip (.keep (.keep (.keep .nil)))) (Fz.le.refl _) ?_
   refine dT 1 rfl rfl rfl (by kernel_rfl) (fun _ _ _ h => h) (y_ld (Says.own .head) Tryz.isAgg34 rfl (Nat.zero_add _).symm rfl) (.skip (.keep (.keep (.keep .nil)))) (Fz.le.refl _) ?_
   refine dT 2 rfl rfl rfl (by kernel_rfl) (fun _ _ _ h => h) (y_ix2 (j := 3) Tryz.runUnderlying34 Tryz.sizeOf37 rfl rfl rfl rfl (by decide)) (.skip (.keep (.keep (.keep .nil)))) (Fz.le.refl _) ?_
   refine dT 3 rfl rfl rfl (by kernel_rfl) (fun _ _ _ h => h) (y_fa F37_3 rfl) (.skip (.keep (.keep (.keep .nil)))) (Fz.le.refl _) ?_
   refine dT 4 rfl rfl rfl (by kernel_rfl) (fun _ _ _ h => h) (y_ld (Says.own (.tail .head)) Tryz.isAgg34 rfl (Nat.zero_add _).symm rfl) (.skip (.keep (.keep (.keep .nil)))) (Fz.le.refl _) ?_
   refine dT 5 rfl rfl rfl (by kernel_rfl) (fun _ _ _ h => h) (y_mv rfl) (.skip (.keep (.keep (.keep .nil)))) (Fz.le.refl _) ?_
   refine dT 6 rfl rfl rfl (by kernel_rfl) (fun _ _ _ h => h) (y_nc rfl) (.skip (.keep (.keep (.keep .nil)))) (Fz.le.refl _) ?_
   refine dT 7 rfl rfl rfl (by kernel_rfl) (fun _ _ _ h => h) (y_fa F283_3 rfl) (.skip (.keep (.keep (.keep .nil)))) (Fz.le.refl _) ?_
   refine dT 8 rfl rfl rfl (by kernel_rfl) (fun _ _ _ h => h) (y_ld (j := 3) (Says.fz (hb.mono le_4)) Tryz.isAgg227 rfl rfl rfl) (.skip (.keep (.keep (.keep .nil)))) (Fz.le.refl _) ?_
   refine dT 9 rfl rfl rfl (by kernel_rfl) (fun _ _ _ h => h) (y_mv rfl) (.skip (.keep (.keep (.keep .nil)))) (Fz.le.refl _) ?_
   obtain ⟨beq_9, oeq_9, haq_9, hlq_9⟩ := ((h1.mono RI32.mono le_4)).rows.at_ (ne_nil_of_lt hk3)
   obtain ⟨ceq_9, hAq_9, hbq_9⟩ := hlq_9 k3 hk3
   obtain rfl : ceq_9 = [.int .i32 (IntKind.i32.wrap ((lT (T.at 3))[k3]).n)] := hAq_9
   refine dT 10 rfl rfl rfl (by kernel_rfl) (fun _ _ _ h => h) (y_ixk (j := k3) Tryz.runUnderlying227 Tryz.sizeOf21 rfl haq_9 rfl rfl hk3) (.skip (.keep (.keep (.keep .nil)))) (Fz.le.refl _) ?_
   refine dT 11 rfl rfl rfl (by kernel_rfl) (fun _ _ _ h => h) (y_ld (Says.fz hbq_9) Tryz.isAgg21 rfl (Nat.add_zero _).symm rfl) (.skip (.keep (.keep (.keep .nil)))) (Fz.le.refl _) ?_
   refine dT 12 rfl rfl rfl (by kernel_rfl) (fun _ _ _ h => h) (y_cv Tryz.runUnderlying21 Tryz.runUnderlying2 rfl (i32_64 _)) (.skip (.keep (.keep (.keep .nil)))) (Fz.le.refl _) ?_
   refine dT 13 rfl rfl rfl (by kernel_rfl) (fun _ _ _ h => h) (y_bd S37 rfl rfl) (.skip (.keep (.keep (.keep .nil)))) (Fz.le.refl _) ?_
   refine dT 14 rfl rfl rfl (by kernel_rfl) (fun _ _ _ h => h) (y_ls Tryz.runUnderlying34 rfl) (.skip (.keep (.keep (.keep .nil)))) (Fz.le.refl _) ?_
   refine dE 15 (by kernel_rfl) rfl ?_
   refine bs' L34 rfl rfl rfl rfl (fun b_10 => ?_)
   refine dN (.skip (.skip (.keep (.keep (.keep .nil))))) (Fz.le.refl _) ?_
   refine dE 16 (by kernel_rfl) rfl ?_
   have hmk : ml3 = k3 := by have h1 := congrArg List.length pk32; rw [List.length_map, List.length_map, List.length_take] at h1; omega
   have hmb := (hf.at 3).lTl
   refine ap (k := 1) (news := f5 ((TC.none, Tr.none) : EE)) Tryz.underlying34 I37 rfl rfl pk30 (fun _ => (.tail .head)) (src_says Tryz.underlying34 rfl (fun _ => Says.own .head) (f5_one _)) (by omega) (by unfold maxLen; omega) rfl (fun a70 c70 N70 r70 z70 => ?_)
   refine dN (.skip (.skip (.keep (.keep (.keep .nil))))) (Fz.le.refl _) ?_
   refine dE 17 (by kernel_rfl) rfl ?_
   refine ixk (j := 3) Tryz.runUnderlying34 Tryz.sizeOf37 rfl rfl rfl rfl (by decide) rfl ?_
   refine dN (.skip (.skip (.keep (.keep (.keep .nil))))) (Fz.le.refl _) ?_
   refine dT 18 rfl rfl rfl (by kernel_rfl) (fun _ _ _ h => h) (y_fa F37_3 rfl) (.skip (.skip (.keep (.keep (.keep .nil))))) (Fz.le.refl _) ?_
   refine dE 19 (by kernel_rfl) rfl ?_
   refine st Tryz.sizeOf34 rfl rfl rfl rfl (.tail (.tail (.tail .head))) ?_
   refine dNk (by kernel_rfl) ?_
   refine dD (by kernel_rfl) ?_
   refine Nt ?_
   refine rg ?_
   obtain ⟨gg70, hgg70⟩ := r70.addr (by omega)
   refine ixk (j := ml3) Tryz.runUnderlying34 Tryz.sizeOf37 rfl hgg70 rfl rfl (by omega) rfl ?_
   refine sR (ds := f5 (((TC.none : TC), (Tr.mk (IntKind.i32.wrap ((lT (T.at 3))[k3]).n) [] false [] [] : Tr)) : EE)) r70 hgg70 (fun _ => (.tail .head)) Tryz.sizeOf37 rfl rfl rfl rfl (by omega) (fun N70b r70b => ?_)
   rw [row_put (k := 5) (m := ml3) (A := es3.flatMap f5) (by rw [flatMap_len f5 5 f5_len, pk31]) rfl, flatMap_snoc'] at r70b
   refine nN ?_
   refine Nb ?_
   refine drN .head ?_
   refine fun a_ w_ hA hw => ⟨_, _, _, hA.sub ?_, le_4, hw, _, rfl, a70, (ml3 + 1), c70, (es3 ++ [(((TC.none : TC), (Tr.mk (IntKind.i32.wrap ((lT (T.at 3))[k3]).n) [] false [] [] : Tr)) : EE)]), N70b, rfl, rfl, r70b, (by simp; omega), (map_take_snoc (g := (fun y : Tr => (Tr.mk (IntKind.i32.wrap y.n) [] false [] [] : Tr))) hk3 pk32), (fun p hp => (mem_snoc hp).elim (fun h => (pk33 p h).mono (Fz.le.refl _)) (fun h => h ▸ (.of (.nil _) (.nil _) (.nil _))))⟩
   exact (.cons rfl (.cons rfl (.cons rfl (.cons rfl (.cons rfl (.nil _))))))
 ·
  obtain ⟨al3, ml3, cl3, es3, Nl3, rfl, rfl, pk30, pk31, pk32, pk33⟩ := hI
  refine toWp ?_
  have hes3 : es3.map (·.2) = (lT (T.at 3)).map (fun y : Tr => (Tr.mk (IntKind.i32.wrap y.n) [] false [] [] : Tr)) := by rw [pk32, List.take_length]
  have hm3 : ml3 = ((lT (T.at 3)).map (fun y : Tr => (Tr.mk (IntKind.i32.wrap y.n) [] false [] [] : Tr))).length := by rw [← hes3, List.length_map]; exact pk31
  refine frW pk30 .head (fun Hl3 hll3 hzl3 => ?_)
  have ht3 := TreesAt.row hzl3 pk31 pk30.le.1 (by have h1 := congrArg List.length hes3; rw [List.length_map, List.length_map] at h1; unfold B47; omega) (fun p hp => (pk33 p hp).mono hll3)
  rw [hes3] at ht3
  subst hm3
  refine sq ?_
  refine rgD 9 (.keep (.keep (.keep .nil))) mixed ?_
  refine dT 0 rfl rfl rfl (by kernel_rfl) (fun _ _ _ h => h) (y_fa0 F37_3 rfl) (.keep (.keep (.keep .nil))) (Fz.le.refl _) ?_
  refine dT 1 rfl rfl rfl (by kernel_rfl) (fun _ _ _ h => h) (y_ld (Says.own .head) Tryz.isAgg34 rfl (Nat.zero_add _).symm rfl) (.keep (.keep (.keep .nil))) (Fz.le.refl _) ?_
  refine dT 2 rfl rfl rfl (by kernel_rfl) (fun _ _ _ h => h) (y_mv rfl) (.keep (.keep (.keep .nil))) (Fz.le.refl _) ?_
  refine dT 3 rfl rfl rfl (by kernel_rfl) (fun _ _ _ h => h) (y_nc rfl) (.keep (.keep (.keep .nil))) (Fz.le.refl _) ?_
  refine dT 4 rfl rfl rfl (by kernel_rfl) (fun _ _ _ h => h) (y_fa F283_4 rfl) (.keep (.keep (.keep .nil))) (Fz.le.refl _) ?_
  refine dT 5 rfl rfl rfl (by kernel_rfl) (fun _ _ _ h => h) (y_ld (j := 4) (Says.fz (hb.mono (le_5.trans hll3))) Tryz.isAgg281 rfl rfl rfl) (.keep (.keep (.keep .nil))) (Fz.le.refl _) ?_
  refine dT 6 rfl rfl rfl (by kernel_rfl) (fun _ _ _ h => h) (y_esn Tryz.underlying281 rfl) (.keep (.keep (.keep .nil))) (Fz.le.refl _) ?_
  refine dE 7 (by kernel_rfl) rfl ?_
  refine ixk (j := 4) Tryz.runUnderlying34 Tryz.sizeOf37 rfl rfl rfl rfl (by decide) rfl ?_
  refine dN (.keep (.keep (.keep .nil))) (Fz.le.refl _) ?_
  refine dT 8 rfl rfl rfl (by kernel_rfl) (fun _ _ _ h => h) (y_fa F37_2 rfl) (.keep (.keep (.keep .nil))) (Fz.le.refl _) ?_
  refine dE 9 (by kernel_rfl) rfl ?_
  refine st Tryz.sizeOf4 rfl rfl rfl rfl (.tail .head) ?_
  refine dNk (by kernel_rfl) ?_
  refine dD (by kernel_rfl) ?_
  refine Nt ?_
  refine sq ?_
  refine sr ?_
  refine mv rfl rfl ?_
  refine nc rfl rfl ?_
  refine fa F283_4 rfl rfl ?_
  refine ld (Says.fz (hb.mono (le_5.trans hll3))) Tryz.isAgg281 rfl rfl rfl rfl ?_
  refine ls Tryz.runUnderlying281 rfl rfl ?_
  refine mv rfl rfl ?_
  refine nl ?_
  have hlm4 := (hf.at 4).lTl
  refine nulC2 ?_
  refine fr ((lT (T.at 4)).length) (fun k4 l' H' L' => ∃ (al4 : Option Addr), ∃ (ml4 : Nat), ∃ (cl4 : Nat), ∃ (es4 : List EE), ∃ (Nl4 : Chunk), [(0, .pointer (some ⟨b, o, none⟩)), (2, .pointer (some ⟨b_1, 0, none⟩)), (3, .pointer (some ⟨b_3, 0, none⟩)), (108, .int .i64 ((lT (T.at 4)).length : Int))] = l' ∧ Nl4 :: [(b_3, .cells [.int .i64 0, .slice none 0 0, .bool false, _, .slice none 0 0].toArray 37 (0, 0))] :: [(b_2, .cells [.int .i64 (IntKind.i32.wrap (T.at 0).n), .slice none 0 0, .bool false, .slice none 0 0, .slice none 0 0, .int .i64 (IntKind.i32.wrap (T.at 1).n), .slice none 0 0, .bool false, .slice none 0 0, .slice none 0 0, .int .i64 (IntKind.i32.wrap (T.at 2).n), .slice none 0 0, .bool false, .slice none 0 0, .slice none 0 0, .int .i64 0, .slice none 0 0, .bool a3.isNone, .slice al3 ((lT (T.at 3)).map (fun y : Tr => (Tr.mk (IntKind.i32.wrap y.n) [] false [] [] : Tr))).length cl3, .slice none 0 0, .int .i64 0, .slice none 0 0, .bool a4.isNone, .slice al4 ml4 cl4, .slice none 0 0].toArray 37 (0, 0))] :: [(b_1, .cells [.int .i64 0, .slice none 0 0, .bool false, .slice none 0 0, .slice none 0 0].toArray 37 (0, 0))] :: L = L' ∧ Row 37 5 al4 ml4 cl4 (es4.flatMap f5) Nl4 ∧ ml4 = es4.length ∧ es4.map (·.2) = ((lT (T.at 4)).take k4).map tl_EndQuorumEpochRequestTopicPartitionPreferredCandidate ∧ (∀ p : EE, p ∈ es4 → TreeAt H' p.1 p.2)) [(0, .pointer (some ⟨b, o, none⟩)), (2, .pointer (some ⟨b_1, 0, none⟩)), (3, .pointer (some ⟨b_3, 0, none⟩)), (108, .int .i64 ((lT (T.at 4)).length : Int))] (fun k4 l' H' L' h => ?_) (by omega) rfl (.cons rfl (.cons rfl (.cons rfl (.cons rfl (.nil _))))) ⟨none, 0, 0, [], [], rfl, rfl, (Row.nil _ _), rfl, (by simp), (fun p hp => by cases hp)⟩ rfl rfl rfl rfl rfl (fun k4 l' H' L' hk4 le_11 hI => ?_) (fun l' H' L' le_12 hI => ?_)
  · obtain ⟨al4, ml4, cl4, es4, Nl4, rfl, _⟩ := h; exact ⟨rfl, rfl, rfl, rfl⟩
  ·
   obtain ⟨al4, ml4, cl4, es4, Nl4, rfl, rfl, pk40, pk41, pk42, pk43⟩ := hI
   refine sr ?_
   refine mv rfl rfl ?_
   refine asg rfl rfl ?_
   refine nl ?_
   refine sq ?_
   refine rgD 4 .nil mixed ?_
   refine dE 0 (by kernel_rfl) rfl ?_
   refine al Tryz.zeroValue4 rfl rfl (fun b_13 => ?_)
   refine dN .nil (Fz.le.refl _) ?_
   refine dE2 1 2 (by kernel_rfl) rfl rfl ?_ ?_
   ·
    refine st Tryz.sizeOf4 rfl rfl rfl rfl .head ?_
    refine dN .nil (Fz.le.refl _) ?_
    refine dE 2 (by kernel_rfl) rfl ?_
    refine st Tryz.sizeOf4 rfl rfl rfl rfl .head ?_
    refine dN .nil (Fz.le.refl _) ?_
    refine dE 3 (by kernel_rfl) rfl ?_
    refine ld (Says.own .head) Tryz.isAgg4 rfl (Nat.zero_add _).symm rfl rfl ?_
    refine dN .nil (Fz.le.refl _) ?_
    refine dD (by kernel_rfl) ?_
    refine drN .head ?_
    refine Nt ?_
    refine cF rfl ?_
    refine rgD 18 (.skip (.keep (.keep (.keep .nil)))) mixed ?_
    refine dT 0 rfl rfl rfl (by kernel_rfl) (fun _ _ _ h => h) (y_fa0 F37_3 rfl) (.skip (.keep (.keep (.keep .nil)))) (Fz.le.refl _) ?_
    refine dT 1 rfl rfl rfl (by kernel_rfl) (fun _ _ _ h => h) (y_ld (Says.own .head) Tryz.isAgg34 rfl (Nat.zero_add _).symm rfl) (.skip (.keep (.keep (.keep .nil)))) (Fz.le.refl _) ?_
    refine dT 2 rfl rfl rfl (by kernel_rfl) (fun _ _ _ h => h) (y_fa0 F37_3 rfl) (.skip (.keep (.keep (.keep .nil)))) (Fz.le.refl _) ?_
    refine dT 3 rfl rfl rfl (by kernel_rfl) (fun _ _ _ h => h) (y_ld (Says.own .head) Tryz.isAgg34 rfl (Nat.zero_add _).symm rfl) (.skip (.keep (.keep (.keep .nil)))) (Fz.le.refl _) ?_
    refine dT 4 rfl rfl rfl (by kernel_rfl) (fun _ _ _ h => h) (y_ix2 (j := 4) Tryz.runUnderlying34 Tryz.sizeOf37 rfl rfl rfl rfl (by decide)) (.skip (.keep (.keep (.keep .nil)))) (Fz.le.refl _) ?_
    refine dT 5 rfl rfl rfl (by kernel_rfl) (fun _ _ _ h => h) (y_fa F37_3 rfl) (.skip (.keep (.keep (.keep .nil)))) (Fz.le.refl _) ?_
    refine dT 6 rfl rfl rfl (by kernel_rfl) (fun _ _ _ h => h) (y_ld (Says.own (.tail .head)) Tryz.isAgg34 rfl (Nat.zero_add _).symm rfl) (.skip (.keep (.keep (.keep .nil)))) (Fz.le.refl _) ?_
    refine dT 7 rfl rfl rfl (by kernel_rfl) (fun _ _ _ h => h) (y_mv rfl) (.skip (.keep (.keep (.keep .nil)))) (Fz.le.refl _) ?_
    refine dT 8 rfl rfl rfl (by kernel_rfl) (fun _ _ _ h => h) (y_nc rfl) (.skip (.keep (.keep (.keep .nil)))) (Fz.le.refl _) ?_
    refine dT 9 rfl rfl rfl (by kernel_rfl) (fun _ _ _ h => h) (y_fa F283_4 rfl) (.skip (.keep (.keep (.keep .nil)))) (Fz.le.refl _) ?_
    refine dT 10 rfl rfl rfl (by kernel_rfl) (fun _ _ _ h => h) (y_ld (j := 4) (Says.fz (hb.mono (le_5.trans (hll3.trans le_11)))) Tryz.isAgg281 rfl rfl rfl) (.skip (.keep (.keep (.keep .nil)))) (Fz.le.refl _) ?_
    refine dT 11 rfl rfl rfl (by kernel_rfl) (fun _ _ _ h => h) (y_mv rfl) (.skip (.keep (.keep (.keep .nil)))) (Fz.le.refl _) ?_
    obtain ⟨beq_14, oeq_14, haq_14, hlq_14⟩ := ((h2.mono At_EndQuorumEpochRequestTopicPartitionPreferredCandidate.mono (le_5.trans (hll3.trans le_11)))).rows.at_ (ne_nil_of_lt hk4)
    obtain ⟨ceq_14, hAq_14, hbq_14⟩ := hlq_14 k4 hk4
    refine dT 12 rfl rfl rfl (by kernel_rfl) (fun _ _ _ h => h) (y_ixk (j := k4) Tryz.runUnderlying281 Tryz.sizeOf286 rfl haq_14 rfl rfl hk4) (.skip (.keep (.keep (.keep .nil)))) (Fz.le.refl _) ?_
    refine dE 13 (by kernel_rfl) rfl ?_
    refine cl rfl rfl rfl (te_EndQuorumEpochRequestTopicPartitionPreferredCandidate hbq_14 (At_EndQuorumEpochRequestTopicPartitionPreferredCandidate.mono _ _ _ _ (Fz.le.refl _) hAq_14) ((hf.at 4).lTel (List.getElem_mem hk4))) rfl (fun v_ H1 L1 le_15 hR_ => ?_)
    obtain ⟨rfl, ct145, rfl, hT145⟩ := hR_
    refine dN (.skip (.keep (.keep (.keep .nil)))) le_15 ?_
    refine dE 14 (by kernel_rfl) rfl ?_
    refine bs' L34 rfl rfl rfl rfl (fun b_16 => ?_)
    refine dN (.skip (.skip (.keep (.keep (.keep .nil))))) le_15 ?_
    refine dE 15 (by kernel_rfl) rfl ?_
    have hmk : ml4 = k4 := by have h1 := congrArg List.length pk42; rw [List.length_map, List.length_map, List.length_take] at h1; omega
    have hmb := (hf.at 4).lTl
    refine ap (k := 1) (news := f5 ((ct145, tl_EndQuorumEpochRequestTopicPartitionPreferredCandidate (lT (T.at 4))[k4]) : EE)) Tryz.underlying34 I37 rfl rfl pk40 (fun _ => (.tail .head)) (src_says Tryz.underlying34 rfl (fun _ => Says.own .head) (f5_one _)) (by omega) (by unfold maxLen; omega) rfl (fun a147 c147 N147 r147 z147 => ?_)
    rw [flatMap_snoc'] at r147
    refine dN (.skip (.skip (.keep (.keep (.keep .nil))))) le_15 ?_
    refine dE 16 (by kernel_rfl) rfl ?_
    refine ixk (j := 4) Tryz.runUnderlying34 Tryz.sizeOf37 rfl rfl rfl rfl (by decide) rfl ?_
    refine dN (.skip (.skip (.keep (.keep (.keep .nil))))) le_15 ?_
    refine dT 17 rfl rfl rfl (by kernel_rfl) (fun _ _ _ h => h) (y_fa F37_3 rfl) (.skip (.skip (.keep (.keep (.keep .nil))))) le_15 ?_
    refine dE 18 (by kernel_rfl) rfl ?_
    refine st Tryz.sizeOf34 rfl rfl rfl rfl (.tail (.tail (.tail .head))) ?_
    refine dNk (by kernel_rfl) ?_
    refine dD (by kernel_rfl) ?_
    refine Nb ?_
    refine drN .head ?_
    refine fun a_ w_ hA hw => ⟨_, _, _, hA.sub ?_, (le_11.trans le_15), hw, _, rfl, a147, (ml4 + 1), c147, (es4 ++ [((ct145, tl_EndQuorumEpochRequestTopicPartitionPreferredCandidate (lT (T.at 4))[k4]) : EE)]), N147, rfl, rfl, r147, (by simp; omega), (map_take_snoc (g := tl_EndQuorumEpochRequestTopicPartitionPreferredCandidate) hk4 pk42), (fun p hp => (mem_snoc hp).elim (fun h => (pk43 p h).mono le_15) (fun h => h ▸ hT145))⟩
    exact (.cons rfl (.cons rfl (.cons rfl (.cons rfl (.cons rfl (.nil _))))))
   ·
    refine st Tryz.sizeOf4 rfl rfl rfl rfl .head ?_
    refine dN .nil (Fz.le.refl _) ?_
    refine dE 1 (by kernel_rfl) rfl ?_
    refine st Tryz.sizeOf4 rfl rfl rfl rfl .head ?_
    refine dN .nil (Fz.le.refl _) ?_
    refine dE 3 (by kernel_rfl) rfl ?_
    refine ld (Says.own .head) Tryz.isAgg4 rfl (Nat.zero_add _).symm rfl rfl ?_
    refine dN .nil (Fz.le.refl _) ?_
    refine dD (by kernel_rfl) ?_
    refine drN .head ?_
    refine Nt ?_
    refine cT rfl ?_
    refine sq ?_
    refine rgD 17 (.skip (.keep (.keep (.keep .nil)))) mixed ?_
    refine dT 0 rfl rfl rfl (by kernel_rfl) (fun _ _ _ h => h) (y_fa0 F37_3 rfl) (.skip (.keep (.keep (.keep .nil)))) (Fz.le.refl _) ?_
    refine dT 1 rfl rfl rfl (by kernel_rfl) (fun _ _ _ h => h) (y_ld (Says.own .head) Tryz.isAgg34 rfl (Nat.zero_add _).symm rfl) (.skip (.keep (.keep (.keep .nil)))) (Fz.le.refl _) ?_
    refine dT 2 rfl rfl rfl (by kernel_rfl) (fun _ _ _ h => h) (y_ix2 (j := 4) Tryz.runUnderlying34 Tryz.sizeOf37 rfl rfl rfl rfl (by decide)) (.skip (.keep (.keep (.keep .nil)))) (Fz.le.refl _) ?_
    refine dT 3 rfl rfl rfl (by kernel_rfl) (fun _ _ _ h => h) (y_fa F37_3 rfl) (.skip (.keep (.keep (.keep .nil)))) (Fz.le.refl _) ?_
    refine dT 4 rfl rfl rfl (by kernel_rfl) (fun _ _ _ h => h) (y_ld (Says.own (.tail .head)) Tryz.isAgg34 rfl (Nat.zero_add _).symm rfl) (.skip (.keep (.keep (.keep .nil)))) (Fz.le.refl _) ?_
    refine dT 5 rfl rfl rfl (by kernel_rfl) (fun _ _ _ h => h) (y_mv rfl) (.skip (.keep (.keep (.keep .nil)))) (Fz.le.refl _) ?_
    refine dT 6 rfl rfl rfl (by kernel_rfl) (fun _ _ _ h => h) (y_nc rfl) (.skip (.keep (.keep (.keep .nil)))) (Fz.le.refl _) ?_
    refine dT 7 rfl rfl rfl (by kernel_rfl) (fun _ _ _ h => h) (y_fa F283_4 rfl) (.skip (.keep (.keep (.keep .nil)))) (Fz.le.refl _) ?_
    refine dT 8 rfl rfl rfl (by kernel_rfl) (fun _ _ _ h => h) (y_ld (j := 4) (Says.fz (hb.mono (le_5.trans (hll3.trans le_11)))) Tryz.isAgg281 rfl rfl rfl) (.skip (.keep (.keep (.keep .nil)))) (Fz.le.refl _) ?_
    refine dT 9 rfl rfl rfl (by kernel_rfl) (fun _ _ _ h => h) (y_mv rfl) (.skip (.keep (.keep (.keep .nil)))) (Fz.le.refl _) ?_
    obtain ⟨beq_17, oeq_17, haq_17, hlq_17⟩ := ((h2.mono At_EndQuorumEpochRequestTopicPartitionPreferredCandidate.mono (le_5.trans (hll3.trans le_11)))).rows.at_ (ne_nil_of_lt hk4)
    obtain ⟨ceq_17, hAq_17, hbq_17⟩ := hlq_17 k4 hk4
    refine dT 10 rfl rfl rfl (by kernel_rfl) (fun _ _ _ h => h) (y_ixk (j := k4) Tryz.runUnderlying281 Tryz.sizeOf286 rfl haq_17 rfl rfl hk4) (.skip (.keep (.keep (.keep .nil)))) (Fz.le.refl _) ?_
    refine dT 12 rfl rfl rfl (by kernel_rfl) (fun _ _ _ h => h) (y_ls Tryz.runUnderlying34 rfl) (.skip (.keep (.keep (.keep .nil)))) (Fz.le.refl _) ?_
    refine dE2 11 13 (by kernel_rfl) rfl rfl ?_ ?_
    ·
     refine cl rfl rfl rfl (te_EndQuorumEpochRequestTopicPartitionPreferredCandidate hbq_17 (At_EndQuorumEpochRequestTopicPartitionPreferredCandidate.mono _ _ _ _ (Fz.le.refl _) hAq_17) ((hf.at 4).lTel (List.getElem_mem hk4))) rfl (fun v_ H1 L1 le_18 hR_ => ?_)
     obtain ⟨rfl, ct125, rfl, hT125⟩ := hR_
     refine dN (.skip (.keep (.keep (.keep .nil)))) le_18 ?_
     refine dE 13 (by kernel_rfl) rfl ?_
     refine bs' L34 rfl rfl rfl rfl (fun b_19 => ?_)
     refine dN (.skip (.skip (.keep (.keep (.keep .nil))))) le_18 ?_
     refine dE 14 (by kernel_rfl) rfl ?_
     have hmk : ml4 = k4 := by have h1 := congrArg List.length pk42; rw [List.length_map, List.length_map, List.length_take] at h1; omega
     have hmb := (hf.at 4).lTl
     refine ap (k := 1) (news := f5 ((TC.none, Tr.none) : EE)) Tryz.underlying34 I37 rfl rfl pk40 (fun _ => (.tail .head)) (src_says Tryz.underlying34 rfl (fun _ => Says.own .head) (f5_one _)) (by omega) (by unfold maxLen; omega) rfl (fun a128 c128 N128 r128 z128 => ?_)
     refine dN (.skip (.skip (.keep (.keep (.keep .nil))))) le_18 ?_
     refine dE 15 (by kernel_rfl) rfl ?_
     refine ixk (j := 4) Tryz.runUnderlying34 Tryz.sizeOf37 rfl rfl rfl rfl (by decide) rfl ?_
     refine dN (.skip (.skip (.keep (.keep (.keep .nil))))) le_18 ?_
     refine dT 16 rfl rfl rfl (by kernel_rfl) (fun _ _ _ h => h) (y_fa F37_3 rfl) (.skip (.skip (.keep (.keep (.keep .nil))))) le_18 ?_
     refine dE 17 (by kernel_rfl) rfl ?_
     refine st Tryz.sizeOf34 rfl rfl rfl rfl (.tail (.tail (.tail .head))) ?_
     refine dNk (by kernel_rfl) ?_
     refine dD (by kernel_rfl) ?_
     refine Nt ?_
     refine rg ?_
     obtain ⟨gg128, hgg128⟩ := r128.addr (by omega)
     refine ixk (j := ml4) Tryz.runUnderlying34 Tryz.sizeOf37 rfl hgg128 rfl rfl (by omega) rfl ?_
     refine sR (ds := f5 ((ct125, tl_EndQuorumEpochRequestTopicPartitionPreferredCandidate (lT (T.at 4))[k4]) : EE)) r128 hgg128 (fun _ => (.tail .head)) Tryz.sizeOf37 rfl rfl rfl rfl (by omega) (fun N128b r128b => ?_)
     rw [row_put (k := 5) (m := ml4) (A := es4.flatMap f5) (by rw [flatMap_len f5 5 f5_len, pk41]) rfl, flatMap_snoc'] at r128b
     refine nN ?_
     refine Nb ?_
     refine drN .head ?_
     refine fun a_ w_ hA hw => ⟨_, _, _, hA.sub ?_, (le_11.trans le_18), hw, _, rfl, a128, (ml4 + 1), c128, (es4 ++ [((ct125, tl_EndQuorumEpochRequestTopicPartitionPreferredCandidate (lT (T.at 4))[k4]) : EE)]), N128b, rfl, rfl, r128b, (by simp; omega), (map_take_snoc (g := tl_EndQuorumEpochRequestTopicPartitionPreferredCandidate) hk4 pk42), (fun p hp => (mem_snoc hp).elim (fun h => (pk43 p h).mono le_18) (fun h => h ▸ hT125))⟩
     exact (.cons rfl (.cons rfl (.cons rfl (.cons rfl (.cons rfl (.nil _))))))
    ·
     refine bs' L34 rfl rfl rfl rfl (fun b_20 => ?_)
     refine dN (.skip (.skip (.keep (.keep (.keep .nil))))) (Fz.le.refl _) ?_
     refine dE 11 (by kernel_rfl) rfl ?_
     refine cl rfl rfl rfl (te_EndQuorumEpochRequestTopicPartitionPreferredCandidate hbq_17 (At_EndQuorumEpochRequestTopicPartitionPreferredCandidate.mono _ _ _ _ (Fz.le.refl _) hAq_17) ((hf.at 4).lTel (List.getElem_mem hk4))) rfl (fun v_ H1 L1 le_21 hR_ => ?_)
     obtain ⟨rfl, ct125, rfl, hT125⟩ := hR_
     refine dN (.skip (.skip (.keep (.keep (.keep .nil))))) le_21 ?_
     refine dE 14 (by kernel_rfl) rfl ?_
     have hmk : ml4 = k4 := by have h1 := congrArg List.length pk42; rw [List.length_map, List.length_map, List.length_take] at h1; omega
     have hmb := (hf.at 4).lTl
     refine ap (k := 1) (news := f5 ((TC.none, Tr.none) : EE)) Tryz.underlying34 I37 rfl rfl pk40 (fun _ => (.tail .head)) (src_says Tryz.underlying34 rfl (fun _ => Says.own .head) (f5_one _)) (by omega) (by unfold maxLen; omega) rfl (fun a128 c128 N128 r128 z128 => ?_)
     refine dN (.skip (.skip (.keep (.keep (.keep .nil))))) le_21 ?_
     refine dE 15 (by kernel_rfl) rfl ?_
     refine ixk (j := 4) Tryz.runUnderlying34 Tryz.sizeOf37 rfl rfl rfl rfl (by decide) rfl ?_
     refine dN (.skip (.skip (.keep (.keep (.keep .nil))))) le_21 ?_
     refine dT 16 rfl rfl rfl (by kernel_rfl) (fun _ _ _ h => h) (y_fa F37_3 rfl) (.skip (.skip (.keep (.keep (.keep .nil))))) le_21 ?_
     refine dE 17 (by kernel_rfl) rfl ?_
     refine st Tryz.sizeOf34 rfl rfl rfl rfl (.tail (.tail (.tail .head))) ?_
     refine dNk (by kernel_rfl) ?_
     refine dD (by kernel_rfl) ?_
     refine Nt ?_
     refine rg ?_
     obtain ⟨gg128, hgg128⟩ := r128.addr (by omega)
     refine ixk (j := ml4) Tryz.runUnderlying34 Tryz.sizeOf37 rfl hgg128 rfl rfl (by omega) rfl ?_
     refine sR (ds := f5 ((ct125, tl_EndQuorumEpochRequestTopicPartitionPreferredCandidate (lT (T.at 4))[k4]) : EE)) r128 hgg128 (fun _ => (.tail .head)) Tryz.sizeOf37 rfl rfl rfl rfl (by omega) (fun N128b r128b => ?_)
     rw [row_put (k := 5) (m := ml4) (A := es4.flatMap f5) (by rw [flatMap_len f5 5 f5_len, pk41]) rfl, flatMap_snoc'] at r128b
     refine nN ?_
     refine Nb ?_
     refine drN .head ?_
     refine fun a_ w_ hA hw => ⟨_, _, _, hA.sub ?_, (le_11.trans le_21), hw, _, rfl, a128, (ml4 + 1), c128, (es4 ++ [((ct125, tl_EndQuorumEpochRequestTopicPartitionPreferredCandidate (lT (T.at 4))[k4]) : EE)]), N128b, rfl, rfl, r128b, (by simp; omega), (map_take_snoc (g := tl_EndQuorumEpochRequestTopicPartitionPreferredCandidate) hk4 pk42), (fun p hp => (mem_snoc hp).elim (fun h => (pk43 p h).mono le_21) (fun h => h ▸ hT125))⟩
     exact (.cons rfl (.cons rfl (.cons rfl (.cons rfl (.cons rfl (.nil _))))))
  ·
   obtain ⟨al4, ml4, cl4, es4, Nl4, rfl, rfl, pk40, pk41, pk42, pk43⟩ := hI
   refine toWp ?_
   have hes4 : es4.map (·.2) = (lT (T.at 4)).map tl_EndQuorumEpochRequestTopicPartitionPreferredCandidate := by rw [pk42, List.take_length]
   have hm4 : ml4 = ((lT (T.at 4)).map tl_EndQuorumEpochRequestTopicPartitionPreferredCandidate).length := by rw [← hes4, List.length_map]; exact pk41
   refine frW pk40 .head (fun Hl4 hll4 hzl4 => ?_)
   have ht4 := TreesAt.row hzl4 pk41 pk40.le.1 (by have h1 := congrArg List.length hes4; rw [List.length_map, List.length_map] at h1; unfold B47; omega) (fun p hp => (pk43 p hp).mono hll4)
   rw [hes4] at ht4
   subst hm4
   refine sr ?_
   refine mv rfl rfl ?_
   refine nc rfl rfl ?_
   refine fa F283_5 rfl rfl ?_
   refine mkf rfl rfl ?_
   have hkv_ := (h3.mono (le_5.trans (hll3.trans (le_12.trans hll4))))
   obtain ⟨kvs, hM, hlen, hel⟩ := hkv_
   have hfu := hf.u
   refine cl rfl rfl rfl (t_each (j := 5) (I := fun i H1 Y => TgI 72 b_3 37 (.int .i64 0) (.slice none 0 0) (.bool false) (_) T.u i H1 Y) (hb.mono (le_5.trans (hll3.trans (le_12.trans hll4)))) rfl hM (by omega) (fun i H1 H2 Y hle h => h.mono hle) TgI.start (fun i k v H1 Y L1 hi hle hI => ?_)) rfl (fun v_ H1 L1 le_23 hR_ => ?_)
   ·
    obtain ⟨s, h1, ⟨va, vc, rfl, hx⟩, h2, h3⟩ := hel i k v hi
    have hik := sortKv_lt hi
    exact TgI.step (fun {_ _ _ _ _ _ _ _ _ _ _ _ _ _ _ _} => tc_312) hf.v (by omega) h1 (hx.mono hle) h2 h3 hI
   rw [hlen] at hR_
   obtain ⟨_, rfl, aU, cU, NU, esU, rfl, hrU, heU, hgU⟩ := hR_
   refine splL ?_
   rw [List.take_length] at heU
   refine frL hrU (.tail .head) (fun HU hleU hzU => ?_)
   have hU := (TagsAt.told hzU hrU heU hfu (fun p hp => (hgU p hp).mono hleU)).1
   refine nl ?_
   refine sr ?_
   refine fa0 F37_4 rfl rfl ?_
   refine ld (Says.own .head) Tryz.isAgg35 rfl (Nat.zero_add _).symm rfl rfl ?_
   refine cl rfl rfl rfl (k_sorted hU (h3.mono (le_5.trans (hll3.trans (le_12.trans (hll4.trans (le_23.trans hleU)))))).rise) rfl (fun v_ H1 L1 hle_ hR_ => ?_)
   obtain ⟨rfl, rfl⟩ := hR_
   refine nl ?_
   refine sr ?_
   refine la (Says.own .head) Tryz.isAgg37 Tryz.sizeOf37 rfl (Nat.zero_add _).symm rfl rfl ?_
   refine sa Tryz.sizeOf37 rfl rfl rfl rfl rfl (.tail (.tail .head)) ?_
   refine nl ?_
   refine drW .head ?_
   refine frW (Row.whole (e := 37) (size := 5) (m := 5) (ds := [.int .i64 (IntKind.i32.wrap (T.at 0).n), .slice none 0 0, .bool false, .slice none 0 0, .slice none 0 0, .int .i64 (IntKind.i32.wrap (T.at 1).n), .slice none 0 0, .bool false, .slice none 0 0, .slice none 0 0, .int .i64 (IntKind.i32.wrap (T.at 2).n), .slice none 0 0, .bool false, .slice none 0 0, .slice none 0 0, .int .i64 0, .slice none 0 0, .bool a3.isNone, .slice al3 ((lT (T.at 3)).map (fun y : Tr => (Tr.mk (IntKind.i32.wrap y.n) [] false [] [] : Tr))).length cl3, .slice none 0 0, .int .i64 0, .slice none 0 0, .bool a4.isNone, .slice al4 ((lT (T.at 4)).map tl_EndQuorumEpochRequestTopicPartitionPreferredCandidate).length cl4, .slice none 0 0]) rfl (by unfold maxLen; omega)) .head (fun H9 hle9 hz9 => ?_)
   have hrb : H9.at b_2 0 [.int .i64 (IntKind.i32.wrap (T.at 0).n), .slice none 0 0, .bool false, .slice none 0 0, .slice none 0 0, .int .i64 (IntKind.i32.wrap (T.at 1).n), .slice none 0 0, .bool false, .slice none 0 0, .slice none 0 0, .int .i64 (IntKind.i32.wrap (T.at 2).n), .slice none 0 0, .bool false, .slice none 0 0, .slice none 0 0, .int .i64 0, .slice none 0 0, .bool a3.isNone, .slice al3 ((lT (T.at 3)).map (fun y : Tr => (Tr.mk (IntKind.i32.wrap y.n) [] false [] [] : Tr))).length cl3, .slice none 0 0, .int .i64 0, .slice none 0 0, .bool a4.isNone, .slice al4 ((lT (T.at 4)).map tl_EndQuorumEpochRequestTopicPartitionPreferredCandidate).length cl4, .slice none 0 0] := by
    rcases hz9 with ⟨h, _⟩ | ⟨g, h, h2⟩
    · cases h
    · cases h; exact h2
   rw [(h1).nul, (h2).nul] at hrb
   have hrb2 : H9.at b_2 0 (([((TC.none : TC), (Tr.mk (IntKind.i32.wrap (T.at 0).n) [] false [] [] : Tr)), ((TC.none : TC), (Tr.mk (IntKind.i32.wrap (T.at 1).n) [] false [] [] : Tr)), ((TC.none : TC), (Tr.mk (IntKind.i32.wrap (T.at 2).n) [] false [] [] : Tr)), ((⟨none, 0, al3, cl3, none, 0⟩ : TC), (Tr.mk 0 [] (T.at 3).nul ((lT (T.at 3)).map (fun y : Tr => (Tr.mk (IntKind.i32.wrap y.n) [] false [] [] : Tr))) [] : Tr)), ((⟨none, 0, al4, cl4, none, 0⟩ : TC), (Tr.mk 0 [] (T.at 4).nul ((lT (T.at 4)).map tl_EndQuorumEpochRequestTopicPartitionPreferredCandidate) [] : Tr))] : List EE).flatMap fun p => p.1.cells p.2) := by exact hrb
   have hl9 : TreesAt H9 (some ⟨b_2, 0, none⟩) 5 [(.mk (IntKind.i32.wrap (T.at 0).n) [] false [] []), (.mk (IntKind.i32.wrap (T.at 1).n) [] false [] []), (.mk (IntKind.i32.wrap (T.at 2).n) [] false [] []), (.mk 0 [] (T.at 3).nul ((lT (T.at 3)).map (fun y : Tr => (Tr.mk (IntKind.i32.wrap y.n) [] false [] [] : Tr))) []), (.mk 0 [] (T.at 4).nul ((lT (T.at 4)).map tl_EndQuorumEpochRequestTopicPartitionPreferredCandidate) [])] := by
    refine TreesAt.row (es := [((TC.none : TC), (Tr.mk (IntKind.i32.wrap (T.at 0).n) [] false [] [] : Tr)), ((TC.none : TC), (Tr.mk (IntKind.i32.wrap (T.at 1).n) [] false [] [] : Tr)), ((TC.none : TC), (Tr.mk (IntKind.i32.wrap (T.at 2).n) [] false [] [] : Tr)), ((⟨none, 0, al3, cl3, none, 0⟩ : TC), (Tr.mk 0 [] (T.at 3).nul ((lT (T.at 3)).map (fun y : Tr => (Tr.mk (IntKind.i32.wrap y.n) [] false [] [] : Tr))) [] : Tr)), ((⟨none, 0, al4, cl4, none, 0⟩ : TC), (Tr.mk 0 [] (T.at 4).nul ((lT (T.at 4)).map tl_EndQuorumEpochRequestTopicPartitionPreferredCandidate) [] : Tr))]) (.inr ⟨_, rfl, hrb2⟩) rfl (Nat.le_refl _) (Nat.le_of_ble_eq_true rfl) ?_
    intro p hp
    simp only [List.mem_cons, List.not_mem_nil, or_false] at hp
    rcases hp with rfl | rfl | rfl | rfl | rfl
    · exact (.of (.nil _) (.nil _) (.nil _))
    · exact (.of (.nil _) (.nil _) (.nil _))
    · exact (.of (.nil _) (.nil _) (.nil _))
    · exact (.of (.nil _) (ht3.mono (le_12.trans (hll4.trans (le_23.trans (hleU.trans hle9))))) (.nil _))
    · exact (.of (.nil _) (ht4.mono (le_23.trans (hleU.trans hle9))) (.nil _))
   exact rC rfl Tryz.isAgg37 Tryz.sizeOf37 rfl .head rfl (le_5.trans (hll3.trans (le_12.trans (hll4.trans (le_23.trans (hleU.trans hle9)))))) (fun _ _ h => h) ⟨rfl, ⟨none, 0, some ⟨b_2, 0, none⟩, 5, aU, cU⟩, rfl, .of (.nil _) hl9 (hU.mono hle9)⟩
def tl_EndQuorumEpochRequestTopic (T : Tr) : Tr := .mk 0 [] false [(.mk 0 (T.at 0).s false [] []), (.mk 0 [] (T.at 1).nul ((lT (T.at 1)).map tl_EndQuorumEpochRequestTopicPartition) [])] T.u
theorem te_EndQuorumEpochRequestTopic {H : Fz} {L : Own} {b o : Nat} {cs : List Value} {T : Tr} (hb : H.at b o cs) (hA : At_EndQuorumEpochRequestTopic H T cs) (hf : Fits T) :
  Fn Tryz.prog 171 [.pointer (some ⟨b, o, none⟩)] H L (fun v H' L' => L = L' ∧ ∃ c : TC, v = .agg (c.cells (tl_EndQuorumEpochRequestTopic T)).toArray ∧ TreeAt H' c (tl_EndQuorumEpochRequestTopic T)) := by
 obtain ⟨a1, c1, mt, rfl, h1, h2⟩ := hA
 refine Fn.mk Tryz.call171 Tryz.func171 rfl Tryz.ntmps171 rfl ?_
 refine sr ?_
 refine al Tryz.zeroValue37 rfl rfl (fun b_1 => ?_)
 refine nl ?_
 refine sr ?_
 refine mkC (m := 2) (zs := [.int .i64 0, .slice none 0 0, .bool false, .slice none 0 0, .slice none 0 0]) Tryz.underlying34 I37 rfl rfl rfl rfl rfl rfl (by decide) (by unfold maxLen; omega) rfl (fun b_2 => ?_)
 refine bd' S37 rfl rfl rfl ?_
 refine al Tryz.zeroValue37 rfl rfl (fun b_3 => ?_)
 refine sa Tryz.sizeOf37 rfl rfl rfl rfl rfl .head ?_
 refine nl ?_
 refine sq ?_
 refine rgD 9 (.keep (.keep (.keep .nil))) mixed ?_
 refine dT 0 rfl rfl rfl (by kernel_rfl) (fun _ _ _ h => h) (y_fa0 F37_3 rfl) (.keep (.keep (.keep .nil))) (Fz.le.refl _) ?_
 refine dT 1 rfl rfl rfl (by kernel_rfl) (fun _ _ _ h => h) (y_ld (Says.own .head) Tryz.isAgg34 rfl (Nat.zero_add _).symm rfl) (.keep (.keep (.keep .nil))) (Fz.le.refl _) ?_
 refine dT 2 rfl rfl rfl (by kernel_rfl) (fun _ _ _ h => h) (y_mv rfl) (.keep (.keep (.keep .nil))) (Fz.le.refl _) ?_
 refine dT 3 rfl rfl rfl (by kernel_rfl) (fun _ _ _ h => h) (y_nc rfl) (.keep (.keep (.keep .nil))) (Fz.le.refl _) ?_
 refine dT 4 rfl rfl rfl (by kernel_rfl) (fun _ _ _ h => h) (y_fa F166_0 rfl) (.keep (.keep (.keep .nil))) (Fz.le.refl _) ?_
 refine dT 5 rfl rfl rfl (by kernel_rfl) (fun _ _ _ h => h) (y_ld (j := 0) (Says.fz hb) Tryz.isAgg9 rfl (Nat.add_zero _).symm rfl) (.keep (.keep (.keep .nil))) (Fz.le.refl _) ?_
 refine dE 6 (by kernel_rfl) rfl ?_
 refine csb Tryz.underlying9 Tryz.underlying22 Tryz.underlying5 rfl (by have := (hf.at 0).s; unfold B47; omega) rfl (fun Hb13 b13 cp13 le_4 hb13 => ?_)
 refine dN (.keep (.keep (.keep .nil))) le_4 ?_
 refine dT 7 rfl rfl rfl (by kernel_rfl) (fun _ _ _ h => h) (y_bd S37 rfl rfl) (.keep (.keep (.keep .nil))) le_4 ?_
 refine dT 8 rfl rfl rfl (by kernel_rfl) (fun _ _ _ h => h) (y_ix2 (j := 0) Tryz.runUnderlying34 Tryz.sizeOf37 rfl rfl rfl rfl (by decide)) (.keep (.keep (.keep .nil))) le_4 ?_
 refine dE 9 (by kernel_rfl) rfl ?_
 refine sa Tryz.sizeOf37 rfl rfl rfl rfl rfl (.tail .head) ?_
 refine dNk (by kernel_rfl) ?_
 refine dD (by kernel_rfl) ?_
 refine Nt ?_
 refine sq ?_
 refine rgD 9 (.keep (.keep (.keep .nil))) mixed ?_
 refine dT 0 rfl rfl rfl (by kernel_rfl) (fun _ _ _ h => h) (y_fa0 F37_3 rfl) (.keep (.keep (.keep .nil))) (Fz.le.refl _) ?_
 refine dT 1 rfl rfl rfl (by kernel_rfl) (fun _ _ _ h => h) (y_ld (Says.own .head) Tryz.isAgg34 rfl (Nat.zero_add _).symm rfl) (.keep (.keep (.keep .nil))) (Fz.le.refl _) ?_
 refine dT 2 rfl rfl rfl (by kernel_rfl) (fun _ _ _ h => h) (y_mv rfl) (.keep (.keep (.keep .nil))) (Fz.le.refl _) ?_
 refine dT 3 rfl rfl rfl (by kernel_rfl) (fun _ _ _ h => h) (y_nc rfl) (.keep (.keep (.keep .nil))) (Fz.le.refl _) ?_
 refine dT 4 rfl rfl rfl (by kernel_rfl) (fun _ _ _ h => h) (y_fa F166_1 rfl) (.keep (.keep (.keep .nil))) (Fz.le.refl _) ?_
 refine dT 5 rfl rfl rfl (by kernel_rfl) (fun _ _ _ h => h) (y_ld (j := 1) (Says.fz (hb.mono le_4)) Tryz.isAgg164 rfl rfl rfl) (.keep (.keep (.keep .nil))) (Fz.le.refl _) ?_
 refine dT 6 rfl rfl rfl (by kernel_rfl) (fun _ _ _ h => h) (y_esn Tryz.underlying164 rfl) (.keep (.keep (.keep .nil))) (Fz.le.refl _) ?_
 refine dE 7 (by kernel_rfl) rfl ?_
 refine ixk (j := 1) Tryz.runUnderlying34 Tryz.sizeOf37 rfl rfl rfl rfl (by decide) rfl ?_
 refine dN (.keep (.keep (.keep .nil))) (Fz.le.refl _) ?_
 refine dT 8 rfl rfl rfl (by kernel_rfl) (fun _ _ _ h => h) (y_fa F37_2 rfl) (.keep (.keep (.keep .nil))) (Fz.le.refl _) ?_
 refine dE 9 (by kernel_rfl) rfl ?_
 refine st Tryz.sizeOf4 rfl rfl rfl rfl (.tail .head) ?_
 refine dNk (by kernel_rfl) ?_
 refine dD (by kernel_rfl) ?_
 refine Nt ?_
 refine sq ?_
 refine sr ?_
 refine mv rfl rfl ?_
 refine nc rfl rfl ?_
 refine fa F166_1 rfl rfl ?_
 refine ld (Says.fz (hb.mono le_4)) Tryz.isAgg164 rfl rfl rfl rfl ?_
 refine ls Tryz.runUnderlying164 rfl rfl ?_
 refine mv rfl rfl ?_
 refine nl ?_
 have hlm1 := (hf.at 1).lTl
 refine nulC2 ?_
 refine fr ((lT (T.at 1)).length) (fun k1 l' H' L' => ∃ (al1 : Option Addr), ∃ (ml1 : Nat), ∃ (cl1 : Nat), ∃ (es1 : List EE), ∃ (Nl1 : Chunk), [(0, .pointer (some ⟨b, o, none⟩)), (2, .pointer (some ⟨b_1, 0, none⟩)), (3, .pointer (some ⟨b_3, 0, none⟩)), (29, .int .i64 ((lT (T.at 1)).length : Int))] = l' ∧ Nl1 :: [(b_3, .cells [.int .i64 0, .slice none 0 0, .bool false, _, .slice none 0 0].toArray 37 (0, 0))] :: [(b_2, .cells [.int .i64 0, .slice (some ⟨b13, 0, none⟩) (T.at 0).s.length cp13, .bool false, .slice none 0 0, .slice none 0 0, .int .i64 0, .slice none 0 0, .bool a1.isNone, .slice al1 ml1 cl1, .slice none 0 0].toArray 37 (0, 0))] :: [(b_1, .cells [.int .i64 0, .slice none 0 0, .bool false, .slice none 0 0, .slice none 0 0].toArray 37 (0, 0))] :: L = L' ∧ Row 37 5 al1 ml1 cl1 (es1.flatMap f5) Nl1 ∧ ml1 = es1.length ∧ es1.map (·.2) = ((lT (T.at 1)).take k1).map tl_EndQuorumEpochRequestTopicPartition ∧ (∀ p : EE, p ∈ es1 → TreeAt H' p.1 p.2)) [(0, .pointer (some ⟨b, o, none⟩)), (2, .pointer (some ⟨b_1, 0, none⟩)), (3, .pointer (some ⟨b_3, 0, none⟩)), (29, .int .i64 ((lT (T.at 1)).length : Int))] (fun k1 l' H' L' h => ?_) (by omega) rfl (.cons rfl (.cons rfl (.cons rfl (.cons rfl (.nil _))))) ⟨none, 0, 0, [], [], rfl, rfl, (Row.nil _ _), rfl, (by simp), (fun p hp => by cases hp)⟩ rfl rfl rfl rfl rfl (fun k1 l' H' L' hk1 le_5 hI => ?_) (fun l' H' L' le_6 hI => ?_)
 · obtain ⟨al1, ml1, cl1, es1, Nl1, rfl, _⟩ := h; exact ⟨rfl, rfl, rfl, rfl⟩
 ·
  obtain ⟨al1, ml1, cl1, es1, Nl1, rfl, rfl, pk10, pk11, pk12, pk13⟩ := hI
  refine sr ?_
  refine mv rfl rfl ?_
  refine asg rfl rfl ?_
  refine nl ?_
  refine sq ?_
  refine rgD 4 .nil mixed ?_
  refine dE 0 (by kernel_rfl) rfl ?_
  refine al Tryz.zeroValue4 rfl rfl (fun b_7 => ?_)
  refine dN .nil (Fz.le.refl _) ?_
  refine dE2 1 2 (by kernel_rfl) rfl rfl ?_ ?_
  ·
   refine st Tryz.sizeOf4 rfl rfl rfl rfl .head ?_
   refine dN .nil (Fz.le.refl _) ?_
   refine dE 2 (by kernel_rfl) rfl ?_
   refine st Tryz.sizeOf4 rfl rfl rfl rfl .head ?_
   refine dN .nil (Fz.le.refl _) ?_
   refine dE 3 (by kernel_rfl) rfl ?_
   refine ld (Says.own .head) Tryz.isAgg4 rfl (Nat.zero_add _).symm rfl rfl ?_
   refine dN .nil (Fz.le.refl _) ?_
   refine dD (by kernel_rfl) ?_
   refine drN .head ?_
   refine Nt ?_
   refine cF rfl ?_
   refine rgD 18 (.skip (.keep (.keep (.keep .nil)))) mixed ?_
   refine dT 0 rfl rfl rfl (by kernel_rfl) (fun _ _ _ h => h) (y_fa0 F37_3 rfl) (.skip (.keep (.keep (.keep .nil)))) (Fz.le.refl _) ?_
   refine dT 1 rfl rfl rfl (by kernel_rfl) (fun _ _ _ h => h) (y_ld (Says.own .head) Tryz.isAgg34 rfl (Nat.zero_add _).symm rfl) (.skip (.keep (.keep (.keep .nil)))) (Fz.le.refl _) ?_
   refine dT 2 rfl rfl rfl (by kernel_rfl) (fun _ _ _ h => h) (y_fa0 F37_3 rfl) (.skip (.keep (.keep (.keep .nil)))) (Fz.le.refl _) ?_
   refine dT 3 rfl rfl rfl (by kernel_rfl) (fun _ _ _ h => h) (y_ld (Says.own .head) Tryz.isAgg34 rfl (Nat.zero_add _).symm rfl) (.skip (.keep (.keep (.keep .nil)))) (Fz.le.refl _) ?_
   refine dT 4 rfl rfl rfl (by kernel_rfl) (fun _ _ _ h => h) (y_ix2 (j := 1) Tryz.runUnderlying34 Tryz.sizeOf37 rfl rfl rfl rfl (by decide)) (.skip (.keep (.keep (.keep .nil)))) (Fz.le.refl _) ?_
   refine dT 5 rfl rfl rfl (by kernel_rfl) (fun _ _ _ h => h) (y_fa F37_3 rfl) (.skip (.keep (.keep (.keep .nil)))) (Fz.le.refl _) ?_
   refine dT 6 rfl rfl rfl (by kernel_rfl) (fun _ _ _ h => h) (y_ld (Says.own (.tail .head)) Tryz.isAgg34 rfl (Nat.zero_add _).symm rfl) (.skip (.keep (.keep (.keep .nil)))) (Fz.le.refl _) ?_
   refine dT 7 rfl rfl rfl (by kernel_rfl) (fun _ _ _ h => h) (y_mv rfl) (.skip (.keep (.keep (.keep .nil)))) (Fz.le.refl _) ?_
   refine dT 8 rfl rfl rfl (by kernel_rfl) (fun _ _ _ h => h) (y_nc rfl) (.skip (.keep (.keep (.keep .nil)))) (Fz.le.refl _) ?_
   refine dT 9 rfl rfl rfl (by kernel_rfl) (fun _ _ _ h => h) (y_fa F166_1 rfl) (.skip (.keep (.keep (.keep .nil)))) (Fz.le.refl _) ?_
   refine dT 10 rfl rfl rfl (by kernel_rfl) (fun _ _ _ h => h) (y_ld (j := 1) (Says.fz (hb.mono (le_4.trans le_5))) Tryz.isAgg164 rfl rfl rfl) (.skip (.keep (.keep (.keep .nil)))) (Fz.le.refl _) ?_
   refine dT 11 rfl rfl rfl (by kernel_rfl) (fun _ _ _ h => h) (y_mv rfl) (.skip (.keep (.keep (.keep .nil)))) (Fz.le.refl _) ?_
   obtain ⟨beq_8, oeq_8, haq_8, hlq_8⟩ := ((h1.mono At_EndQuorumEpochRequestTopicPartition.mono (le_4.trans le_5))).rows.at_ (ne_nil_of_lt hk1)
   obtain ⟨ceq_8, hAq_8, hbq_8⟩ := hlq_8 k1 hk1
   refine dT 12 rfl rfl rfl (by kernel_rfl) (fun _ _ _ h => h) (y_ixk (j := k1) Tryz.runUnderlying164 Tryz.sizeOf283 rfl haq_8 rfl rfl hk1) (.skip (.keep (.keep (.keep .nil)))) (Fz.le.refl _) ?_
   refine dE 13 (by kernel_rfl) rfl ?_
   refine cl rfl rfl rfl (te_EndQuorumEpochRequestTopicPartition hbq_8 (At_EndQuorumEpochRequestTopicPartition.mono _ _ _ _ (Fz.le.refl _) hAq_8) ((hf.at 1).lTel (List.getElem_mem hk1))) rfl (fun v_ H1 L1 le_9 hR_ => ?_)
   obtain ⟨rfl, ct66, rfl, hT66⟩ := hR_
   refine dN (.skip (.keep (.keep (.keep .nil)))) le_9 ?_
   refine dE 14 (by kernel_rfl) rfl ?_
   refine bs' L34 rfl rfl rfl rfl (fun b_10 => ?_)
   refine dN (.skip (.skip (.keep (.keep (.keep .nil))))) le_9 ?_
   refine dE 15 (by kernel_rfl) rfl ?_
   have hmk : ml1 = k1 := by have h1 := congrArg List.length pk12; rw [List.length_map, List.length_map, List.length_take] at h1; omega
   have hmb := (hf.at 1).lTl
   refine ap (k := 1) (news := f5 ((ct66, tl_EndQuorumEpochRequestTopicPartition (lT (T.at 1))[k1]) : EE)) Tryz.underlying34 I37 rfl rfl pk10 (fun _ => (.tail .head)) (src_says Tryz.underlying34 rfl (fun _ => Says.own .head) (f5_one _)) (by omega) (by unfold maxLen; omega) rfl (fun a68 c68 N68 r68 z68 => ?_)
   rw [flatMap_snoc'] at r68
   refine dN (.skip (.skip (.keep (.keep (.keep .nil))))) le_9 ?_
   refine dE 16 (by kernel_rfl) rfl ?_
   refine ixk (j := 1) Tryz.runUnderlying34 Tryz.sizeOf37 rfl rfl rfl rfl (by decide) rfl ?_
   refine dN (.skip (.skip (.keep (.keep (.keep .nil))))) le_9 ?_
   refine dT 17 rfl rfl rfl (by kernel_rfl) (fun _ _ _ h => h) (y_fa F37_3 rfl) (.skip (.skip (.keep (.keep (.keep .nil))))) le_9 ?_
   refine dE 18 (by kernel_rfl) rfl ?_
   refine st Tryz.sizeOf34 rfl rfl rfl rfl (.tail (.tail (.tail .head))) ?_
   refine dNk (by kernel_rfl) ?_
   refine dD (by kernel_rfl) ?_
   refine Nb ?_
   refine drN .head ?_
   refine fun a_ w_ hA hw => ⟨_, _, _, hA.sub ?_, (le_5.trans le_9), hw, _, rfl, a68, (ml1 + 1), c68, (es1 ++ [((ct66, tl_EndQuorumEpochRequestTopicPartition (lT (T.at 1))[k1]) : EE)]), N68, rfl, rfl, r68, (by simp; omega), (map_take_snoc (g := tl_EndQuorumEpochRequestTopicPartition) hk1 pk12), (fun p hp => (mem_snoc hp).elim (fun h => (pk13 p h).mono le_9) (fun h => h ▸ hT66))⟩
   exact (.cons rfl (.cons rfl (.cons rfl (.cons rfl (.cons rfl (.nil _))))))
  ·
   refine st Tryz.sizeOf4 rfl rfl rfl rfl .head ?_
   refine dN .nil (Fz.le.refl _) ?_
   refine dE 1 (by kernel_rfl) rfl ?_
   refine st Tryz.sizeOf4 rfl rfl rfl rfl .head ?_
   refine dN .nil (Fz.le.refl _) ?_
   refine dE 3 (by kernel_rfl) rfl ?_
   refine ld (Says.own .head) Tryz.isAgg4 rfl (Nat.zero_add _).symm rfl rfl ?_
   refine dN .nil (Fz.le.refl _) ?_
   refine dD (by kernel_rfl) ?_
   refine drN .head ?_
   refine Nt ?_
   refine cT rfl ?_
   refine sq ?_
   refine rgD 17 (.skip (.keep (.keep (.keep .nil)))) mixed ?_
   refine dT 0 rfl rfl rfl (by kernel_rfl) (fun _ _ _ h => h) (y_fa0 F37_3 rfl) (.skip (.keep (.keep (.keep .nil)))) (Fz.le.refl _) ?_
   refine dT 1 rfl rfl rfl (by kernel_rfl) (fun _ _ _ h => h) (y_ld (Says.own .head) Tryz.isAgg34 rfl (Nat.zero_add _).symm rfl) (.skip (.keep (.keep (.keep .nil)))) (Fz.le.refl _) ?_
   refine dT 2 rfl rfl rfl (by kernel_rfl) (fun _ _ _ h => h) (y_ix2 (j := 1) Tryz.runUnderlying34 Tryz.sizeOf37 rfl rfl rfl rfl (by decide)) (.skip (.keep (.keep (.keep .nil)))) (Fz.le.refl _) ?_
   refine dT 3 rfl rfl rfl (by kernel_rfl) (fun _ _ _ h => h) (y_fa F37_3 rfl) (.skip (.keep (.keep (.keep .nil)))) (Fz.le.refl _) ?_
   refine dT 4 rfl rfl rfl (by kernel_rfl) (fun _ _ _ h => h) (y_ld (Says.own (.tail .head)) Tryz.isAgg34 rfl (Nat.zero_add _).symm rfl) (.skip (.keep (.keep (.keep .nil)))) (Fz.le.refl _) ?_
   refine dT 5 rfl rfl rfl (by kernel_rfl) (fun _ _ _ h => h) (y_mv rfl) (.skip (.keep (.keep (.keep .nil)))) (Fz.le.refl _) ?_
   refine dT 6 rfl rfl rfl (by kernel_rfl) (fun _ _ _ h => h) (y_nc rfl) (.skip (.keep (.keep (.keep .nil)))) (Fz.le.refl _) ?_
   refine dT 7 rfl rfl rfl (by kernel_rfl) (fun _ _ _ h => h) (y_fa F166_1 rfl) (.skip (.keep (.keep (.keep .nil)))) (Fz.le.refl _) ?_
   refine dT 8 rfl rfl rfl (by kernel_rfl) (fun _ _ _ h => h) (y_ld (j := 1) (Says.fz (hb.mono (le_4.trans le_5))) Tryz.isAgg164 rfl rfl rfl) (.skip (.keep (.keep (.keep .nil)))) (Fz.le.refl _) ?_
   refine dT 9 rfl rfl rfl (by kernel_rfl) (fun _ _ _ h => h) (y_mv rfl) (.skip (.keep (.keep (.keep .nil)))) (Fz.le.refl _) ?_
   obtain ⟨beq_11, oeq_11, haq_11, hlq_11⟩ := ((h1.mono At_EndQuorumEpochRequestTopicPartition.mono (le_4.trans le_5))).rows.at_ (ne_nil_of_lt hk1)
   obtain ⟨ceq_11, hAq_11, hbq_11⟩ := hlq_11 k1 hk1
   refine dT 10 rfl rfl rfl (by kernel_rfl) (fun _ _ _ h => h) (y_ixk (j := k1) Tryz.runUnderlying164 Tryz.sizeOf283 rfl haq_11 rfl rfl hk1) (.skip (.keep (.keep (.keep .nil)))) (Fz.le.refl _) ?_
   refine dT 12 rfl rfl rfl (by kernel_rfl) (fun _ _ _ h => h) (y_ls Tryz.runUnderlying34 rfl) (.skip (.keep (.keep (.keep .nil)))) (Fz.le.refl _) ?_
   refine dE2 11 13 (by kernel_rfl) rfl rfl ?_ ?_
   ·
    refine cl rfl rfl rfl (te_EndQuorumEpochRequestTopicPartition hbq_11 (At_EndQuorumEpochRequestTopicPartition.mono _ _ _ _ (Fz.le.refl _) hAq_11) ((hf.at 1).lTel (List.getElem_mem hk1))) rfl (fun v_ H1 L1 le_12 hR_ => ?_)
    obtain ⟨rfl, ct46, rfl, hT46⟩ := hR_
    refine dN (.skip (.keep (.keep (.keep .nil)))) le_12 ?_
    refine dE 13 (by kernel_rfl) rfl ?_
    refine bs' L34 rfl rfl rfl rfl (fun b_13 => ?_)
    refine dN (.skip (.skip (.keep (.keep (.keep .nil))))) le_12 ?_
    refine dE 14 (by kernel_rfl) rfl ?_
    have hmk : ml1 = k1 := by have h1 := congrArg List.length pk12; rw [List.length_map, List.length_map, List.length_take] at h1; omega
    have hmb := (hf.at 1).lTl
    refine ap (k := 1) (news := f5 ((TC.none, Tr.none) : EE)) Tryz.underlying34 I37 rfl rfl pk10 (fun _ => (.tail .head)) (src_says Tryz.underlying34 rfl (fun _ => Says.own .head) (f5_one _)) (by omega) (by unfold maxLen; omega) rfl (fun a49 c49 N49 r49 z49 => ?_)
    refine dN (.skip (.skip (.keep (.keep (.keep .nil))))) le_12 ?_
    refine dE 15 (by kernel_rfl) rfl ?_
    refine ixk (j := 1) Tryz.runUnderlying34 Tryz.sizeOf37 rfl rfl rfl rfl (by decide) rfl ?_
    refine dN (.skip (.skip (.keep (.keep (.keep .nil))))) le_12 ?_
    refine dT 16 rfl rfl rfl (by kernel_rfl) (fun _ _ _ h => h) (y_fa F37_3 rfl) (.skip (.skip (.keep (.keep (.keep .nil))))) le_12 ?_
    refine dE 17 (by kernel_rfl) rfl ?_
    refine st Tryz.sizeOf34 rfl rfl rfl rfl (.tail (.tail (.tail .head))) ?_
    refine dNk (by kernel_rfl) ?_
    refine dD (by kernel_rfl) ?_
    refine Nt ?_
    refine rg ?_
    obtain ⟨gg49, hgg49⟩ := r49.addr (by omega)
    refine ixk (j := ml1) Tryz.runUnderlying34 Tryz.sizeOf37 rfl hgg49 rfl rfl (by omega) rfl ?_
    refine sR (ds := f5 ((ct46, tl_EndQuorumEpochRequestTopicPartition (lT (T.at 1))[k1]) : EE)) r49 hgg49 (fun _ => (.tail .head)) Tryz.sizeOf37 rfl rfl rfl rfl (by omega) (fun N49b r49b => ?_)
    rw [row_put (k := 5) (m := ml1) (A := es1.flatMap f5) (by rw [flatMap_len f5 5 f5_len, pk11]) rfl, flatMap_snoc'] at r49b
    refine nN ?_
    refine Nb ?_
    refine drN .head ?_
    refine fun a_ w_ hA hw => ⟨_, _, _, hA.sub ?_, (le_5.trans le_12), hw, _, rfl, a49, (ml1 + 1), c49, (es1 ++ [((ct46, tl_EndQuorumEpochRequestTopicPartition (lT (T.at 1))[k1]) : EE)]), N49b, rfl, rfl, r49b, (by simp; omega), (map_take_snoc (g := tl_EndQuorumEpochRequestTopicPartition) hk1 pk12), (fun p hp => (mem_snoc hp).elim (fun h => (pk13 p h).mono le_12) (fun h => h ▸ hT46))⟩
    exact (.cons rfl (.cons rfl (.cons rfl (.cons rfl (.cons rfl (.nil _))))))
   ·
    refine bs' L34 rfl rfl rfl rfl (fun b_14 => ?_)
    refine dN (.skip (.skip (.keep (.keep (.keep .nil))))) (Fz.le.refl _) ?_
    refine dE 11 (by kernel_rfl) rfl ?_
    refine cl rfl rfl rfl (te_EndQuorumEpochRequestTopicPartition hbq_11 (At_EndQuorumEpochRequestTopicPartition.mono _ _ _ _ (Fz.le.refl _) hAq_11) ((hf.at 1).lTel (List.getElem_mem hk1))) rfl (fun v_ H1 L1 le_15 hR_ => ?_)
    obtain ⟨rfl, ct46, rfl, hT46⟩ := hR_
    refine dN (.skip (.skip (.keep (.keep (.keep .nil))))) le_15 ?_
    refine dE 14 (by kernel_rfl) rfl ?_
    have hmk : ml1 = k1 := by have h1 := congrArg List.length pk12; rw [List.length_map, List.length_map, List.length_take] at h1; omega
    have hmb := (hf.at 1).lTl
    refine ap (k := 1) (news := f5 ((TC.none, Tr.none) : EE)) Tryz.underlying34 I37 rfl rfl pk10 (fun _ => (.tail .head)) (src_says Tryz.underlying34 rfl (fun _ => Says.own .head) (f5_one _)) (by omega) (by unfold maxLen; omega) rfl (fun a49 c49 N49 r49 z49 => ?_)
    refine dN (.skip (.skip (.keep (.keep (.keep .nil))))) le_15 ?_
    refine dE 15 (by kernel_rfl) rfl ?_
    refine ixk (j := 1) Tryz.runUnderlying34 Tryz.sizeOf37 rfl rfl rfl rfl (by decide) rfl ?_
    refine dN (.skip (.skip (.keep (.keep (.keep .nil))))) le_15 ?_
    refine dT 16 rfl rfl rfl (by kernel_rfl) (fun _ _ _ h => h) (y_fa F37_3 rfl) (.skip (.skip (.keep (.keep (.keep .nil))))) le_15 ?_
    refine dE 17 (by kernel_rfl) rfl ?_
    refine st Tryz.sizeOf34 rfl rfl rfl rfl (.tail (.tail (.tail .head))) ?_
    refine dNk (by kernel_rfl) ?_
    refine dD (by kernel_rfl) ?_
    refine Nt ?_
    refine rg ?_
    obtain ⟨gg49, hgg49⟩ := r49.addr (by omega)
    refine ixk (j := ml1) Tryz.runUnderlying34 Tryz.sizeOf37 rfl hgg49 rfl rfl (by omega) rfl ?_
    refine sR (ds := f5 ((ct46, tl_EndQuorumEpochRequestTopicPartition (lT (T.at 1))[k1]) : EE)) r49 hgg49 (fun _ => (.tail .head)) Tryz.sizeOf37 rfl rfl rfl rfl (by omega) (fun N49b r49b => ?_)
    rw [row_put (k := 5) (m := ml1) (A := es1.flatMap f5) (by rw [flatMap_len f5 5 f5_len, pk11]) rfl, flatMap_snoc'] at r49b
    refine nN ?_
    refine Nb ?_
    refine drN .head ?_
    refine fun a_ w_ hA hw => ⟨_, _, _, hA.sub ?_, (le_5.trans le_15), hw, _, rfl, a49, (ml1 + 1), c49, (es1 ++ [((ct46, tl_EndQuorumEpochRequestTopicPartition (lT (T.at 1))[k1]) : EE)]), N49b, rfl, rfl, r49b, (by simp; omega), (map_take_snoc (g := tl_EndQuorumEpochRequestTopicPartition) hk1 pk12), (fun p hp => (mem_snoc hp).elim (fun h => (pk13 p h).mono le_15) (fun h => h ▸ hT46))⟩
    exact (.cons rfl (.cons rfl (.cons rfl (.cons rfl (.cons rfl (.nil _))))))
 ·
  obtain ⟨al1, ml1, cl1, es1, Nl1, rfl, rfl, pk10, pk11, pk12, pk13⟩ := hI
  refine toWp ?_
  have hes1 : es1.map (·.2) = (lT (T.at 1)).map tl_EndQuorumEpochRequestTopicPartition := by rw [pk12, List.take_length]
  have hm1 : ml1 = ((lT (T.at 1)).map tl_EndQuorumEpochRequestTopicPartition).length := by rw [← hes1, List.length_map]; exact pk11
  refine frW pk10 .head (fun Hl1 hll1 hzl1 => ?_)
  have ht1 := TreesAt.row hzl1 pk11 pk10.le.1 (by have h1 := congrArg List.length hes1; rw [List.length_map, List.length_map] at h1; unfold B47; omega) (fun p hp => (pk13 p hp).mono hll1)
  rw [hes1] at ht1
  subst hm1
  refine sr ?_
  refine mv rfl rfl ?_
  refine nc rfl rfl ?_
  refine fa F166_2 rfl rfl ?_
  refine mkf rfl rfl ?_
  have hkv_ := (h2.mono (le_4.trans (le_6.trans hll1)))
  obtain ⟨kvs, hM, hlen, hel⟩ := hkv_
  have hfu := hf.u
  refine cl rfl rfl rfl (t_each (j := 2) (I := fun i H1 Y => TgI 72 b_3 37 (.int .i64 0) (.slice none 0 0) (.bool false) (_) T.u i H1 Y) (hb.mono (le_4.trans (le_6.trans hll1))) rfl hM (by omega) (fun i H1 H2 Y hle h => h.mono hle) TgI.start (fun i k v H1 Y L1 hi hle hI => ?_)) rfl (fun v_ H1 L1 le_17 hR_ => ?_)
  ·
   obtain ⟨s, h1, ⟨va, vc, rfl, hx⟩, h2, h3⟩ := hel i k v hi
   have hik := sortKv_lt hi
   exact TgI.step (fun {_ _ _ _ _ _ _ _ _ _ _ _ _ _ _ _} => tc_264) hf.v (by omega) h1 (hx.mono hle) h2 h3 hI
  rw [hlen] at hR_
  obtain ⟨_, rfl, aU, cU, NU, esU, rfl, hrU, heU, hgU⟩ := hR_
  refine splL ?_
  rw [List.take_length] at heU
  refine frL hrU (.tail .head) (fun HU hleU hzU => ?_)
  have hU := (TagsAt.told hzU hrU heU hfu (fun p hp => (hgU p hp).mono hleU)).1
  refine nl ?_
  refine sr ?_
  refine fa0 F37_4 rfl rfl ?_
  refine ld (Says.own .head) Tryz.isAgg35 rfl (Nat.zero_add _).symm rfl rfl ?_
  refine cl rfl rfl rfl (k_sorted hU (h2.mono (le_4.trans (le_6.trans (hll1.trans (le_17.trans hleU))))).rise) rfl (fun v_ H1 L1 hle_ hR_ => ?_)
  obtain ⟨rfl, rfl⟩ := hR_
  refine nl ?_
  refine sr ?_
  refine la (Says.own .head) Tryz.isAgg37 Tryz.sizeOf37 rfl (Nat.zero_add _).symm rfl rfl ?_
  refine sa Tryz.sizeOf37 rfl rfl rfl rfl rfl (.tail (.tail .head)) ?_
  refine nl ?_
  refine drW .head ?_
  refine frW (Row.whole (e := 37) (size := 5) (m := 2) (ds := [.int .i64 0, .slice (some ⟨b13, 0, none⟩) (T.at 0).s.length cp13, .bool false, .slice none 0 0, .slice none 0 0, .int .i64 0, .slice none 0 0, .bool a1.isNone, .slice al1 ((lT (T.at 1)).map tl_EndQuorumEpochRequestTopicPartition).length cl1, .slice none 0 0]) rfl (by unfold maxLen; omega)) .head (fun H9 hle9 hz9 => ?_)
  have hrb : H9.at b_2 0 [.int .i64 0, .slice (some ⟨b13, 0, none⟩) (T.at 0).s.length cp13, .bool false, .slice none 0 0, .slice none 0 0, .int .i64 0, .slice none 0 0, .bool a1.isNone, .slice al1 ((lT (T.at 1)).map tl_EndQuorumEpochRequestTopicPartition).length cl1, .slice none 0 0] := by
   rcases hz9 with ⟨h, _⟩ | ⟨g, h, h2⟩
   · cases h
   · cases h; exact h2
  rw [(h1).nul] at hrb
  have hrb2 : H9.at b_2 0 (([((⟨some ⟨b13, 0, none⟩, cp13, none, 0, none, 0⟩ : TC), (Tr.mk 0 (T.at 0).s false [] [] : Tr)), ((⟨none, 0, al1, cl1, none, 0⟩ : TC), (Tr.mk 0 [] (T.at 1).nul ((lT (T.at 1)).map tl_EndQuorumEpochRequestTopicPartition) [] : Tr))] : List EE).flatMap fun p => p.1.cells p.2) := by exact hrb
  have hl9 : TreesAt H9 (some ⟨b_2, 0, none⟩) 2 [(.mk 0 (T.at 0).s false [] []), (.mk 0 [] (T.at 1).nul ((lT (T.at 1)).map tl_EndQuorumEpochRequestTopicPartition) [])] := by
   refine TreesAt.row (es := [((⟨some ⟨b13, 0, none⟩, cp13, none, 0, none, 0⟩ : TC), (Tr.mk 0 (T.at 0).s false [] [] : Tr)), ((⟨none, 0, al1, cl1, none, 0⟩ : TC), (Tr.mk 0 [] (T.at 1).nul ((lT (T.at 1)).map tl_EndQuorumEpochRequestTopicPartition) [] : Tr))]) (.inr ⟨_, rfl, hrb2⟩) rfl (Nat.le_refl _) (Nat.le_of_ble_eq_true rfl) ?_
   intro p hp
   simp only [List.mem_cons, List.not_mem_nil, or_false] at hp
   rcases hp with rfl | rfl
   · exact (.of (hb13.mono (le_6.trans (hll1.trans (le_17.trans (hleU.trans hle9))))) (.nil _) (.nil _))
   · exact (.of (.nil _) (ht1.mono (le_17.trans (hleU.trans hle9))) (.nil _))
  exact rC rfl Tryz.isAgg37 Tryz.sizeOf37 rfl .head rfl (le_4.trans (le_6.trans (hll1.trans (le_17.trans (hleU.trans hle9))))) (fun _ _ h => h) ⟨rfl, ⟨none, 0, some ⟨b_2, 0, none⟩, 2, aU, cU⟩, rfl, .of (.nil _) hl9 (hU.mono hle9)⟩
def tl_EndQuorumEpochRequestLeaderEndpoint (T : Tr) : Tr := .mk 0 [] false [(.mk 0 (T.at 0).s false [] []), (.mk 0 (T.at 1).s false [] []), (.mk (IntKind.u16.wrap (T.at 2).n) [] false [] [])] T.u
theorem te_EndQuorumEpochRequestLeaderEndpoint {H : Fz} {L : Own} {b o : Nat} {cs : List Value} {T : Tr} (hb : H.at b o cs) (hA : At_EndQuorumEpochRequestLeaderEndpoint H T cs) (hf : Fits T) :
  Fn Tryz.prog 172 [.pointer (some ⟨b, o, none⟩)] H L (fun v H' L' => L = L' ∧ ∃ c : TC, v = .agg (c.cells (tl_EndQuorumEpochRequestLeaderEndpoint T)).toArray ∧ TreeAt H' c (tl_EndQuorumEpochRequestLeaderEndpoint T)) := by
 obtain ⟨mt, rfl, h1⟩ := hA
 refine Fn.mk Tryz.call172 Tryz.func172 rfl Tryz.ntmps172 rfl ?_
 refine sr ?_
 refine al Tryz.zeroValue37 rfl rfl (fun b_1 => ?_)
 refine nl ?_
 refine sr ?_
 refine mkC (m := 3) (zs := [.int .i64 0, .slice none 0 0, .bool false, .slice none 0 0, .slice none 0 0]) Tryz.underlying34 I37 rfl rfl rfl rfl rfl rfl (by decide) (by unfold maxLen; omega) rfl (fun b_2 => ?_)
 refine bd' S37 rfl rfl rfl ?_
 refine al Tryz.zeroValue37 rfl rfl (fun b_3 => ?_)
 refine sa Tryz.sizeOf37 rfl rfl rfl rfl rfl .head ?_
 refine nl ?_
 refine sq ?_
 refine rgD 9 (.keep (.keep (.keep .nil))) mixed ?_
 refine dT 0 rfl rfl rfl (by kernel_rfl) (fun _ _ _ h => h) (y_fa0 F37_3 rfl) (.keep (.keep (.keep .nil))) (Fz.le.refl _) ?_
 refine dT 1 rfl rfl rfl (by kernel_rfl) (fun _ _ _ h => h) (y_ld (Says.own .head) Tryz.isAgg34 rfl (Nat.zero_add _).symm rfl) (.keep (.keep (.keep .nil))) (Fz.le.refl _) ?_
 refine dT 2 rfl rfl rfl (by kernel_rfl) (fun _ _ _ h => h) (y_mv rfl) (.keep (.keep (.keep .nil))) (Fz.le.refl _) ?_
 refine dT 3 rfl rfl rfl (by kernel_rfl) (fun _ _ _ h => h) (y_nc rfl) (.keep (.keep (.keep .nil))) (Fz.le.refl _) ?_
 refine dT 4 rfl rfl rfl (by kernel_rfl) (fun _ _ _ h => h) (y_fa F171_0 rfl) (.keep (.keep (.keep .nil))) (Fz.le.refl _) ?_
 refine dT 5 rfl rfl rfl (by kernel_rfl) (fun _ _ _ h => h) (y_ld (j := 0) (Says.fz hb) Tryz.isAgg9 rfl (Nat.add_zero _).symm rfl) (.keep (.keep (.keep .nil))) (Fz.le.refl _) ?_
 refine dE 6 (by kernel_rfl) rfl ?_
 refine csb Tryz.underlying9 Tryz.underlying22 Tryz.underlying5 rfl (by have := (hf.at 0).s; unfold B47; omega) rfl (fun Hb12 b12 cp12 le_4 hb12 => ?_)
 refine dN (.keep (.keep (.keep .nil))) le_4 ?_
 refine dT 7 rfl rfl rfl (by kernel_rfl) (fun _ _ _ h => h) (y_bd S37 rfl rfl) (.keep (.keep (.keep .nil))) le_4 ?_
 refine dT 8 rfl rfl rfl (by kernel_rfl) (fun _ _ _ h => h) (y_ix2 (j := 0) Tryz.runUnderlying34 Tryz.sizeOf37 rfl rfl rfl rfl (by decide)) (.keep (.keep (.keep .nil))) le_4 ?_
 refine dE 9 (by kernel_rfl) rfl ?_
 refine sa Tryz.sizeOf37 rfl rfl rfl rfl rfl (.tail .head) ?_
 refine dNk (by kernel_rfl) ?_
 refine dD (by kernel_rfl) ?_
 refine Nt ?_
 refine sq ?_
 refine rgD 9 (.keep (.keep (.keep .nil))) mixed ?_
 refine dT 0 rfl rfl rfl (by kernel_rfl) (fun _ _ _ h => h) (y_fa0 F37_3 rfl) (.keep (.keep (.keep .nil))) (Fz.le.refl _) ?_
 refine dT 1 rfl rfl rfl (by kernel_rfl) (fun _ _ _ h => h) (y_ld (Says.own .head) Tryz.isAgg34 rfl (Nat.zero_add _).symm rfl) (.keep (.keep (.keep .nil))) (Fz.le.refl _) ?_
 refine dT 2 rfl rfl rfl (by kernel_rfl) (fun _ _ _ h => h) (y_mv rfl) (.keep (.keep (.keep .nil))) (Fz.le.refl _) ?_
 refine dT 3 rfl rfl rfl (by kernel_rfl) (fun _ _ _ h => h) (y_nc rfl) (.keep (.keep (.keep .nil))) (Fz.le.refl _) ?_
 refine dT 4 rfl rfl rfl (by kernel_rfl) (fun _ _ _ h => h) (y_fa F171_1 rfl) (.keep (.keep (.keep .nil))) (Fz.le.refl _) ?_
 refine dT 5 rfl rfl rfl (by kernel_rfl) (fun _ _ _ h => h) (y_ld (j := 1) (Says.fz (hb.mono le_4)) Tryz.isAgg9 rfl rfl rfl) (.keep (.keep (.keep .nil))) (Fz.le.refl _) ?_
 refine dE 6 (by kernel_rfl) rfl ?_
 refine csb Tryz.underlying9 Tryz.underlying22 Tryz.underlying5 rfl (by have := (hf.at 1).s; unfold B47; omega) rfl (fun Hb21 b21 cp21 le_5 hb21 => ?_)
 refine dN (.keep (.keep (.keep .nil))) le_5 ?_
 refine dT 7 rfl rfl rfl (by kernel_rfl) (fun _ _ _ h => h) (y_bd S37 rfl rfl) (.keep (.keep (.keep .nil))) le_5 ?_
 refine dT 8 rfl rfl rfl (by kernel_rfl) (fun _ _ _ h => h) (y_ix2 (j := 1) Tryz.runUnderlying34 Tryz.sizeOf37 rfl rfl rfl rfl (by decide)) (.keep (.keep (.keep .nil))) le_5 ?_
 refine dE 9 (by kernel_rfl) rfl ?_
 refine sa Tryz.sizeOf37 rfl rfl rfl rfl rfl (.tail .head) ?_
 refine dNk (by kernel_rfl) ?_
 refine dD (by kernel_rfl) ?_
 refine Nt ?_
 refine sq ?_
 refine rgD 9 (.keep (.keep (.keep .nil))) mixed ?_
 refine dT 0 rfl rfl rfl (by kernel_rfl) (fun _ _ _ h => h) (y_fa0 F37_3 rfl) (.keep (.keep (.keep .nil))) (Fz.le.refl _) ?_
 refine dT 1 rfl rfl rfl (by kernel_rfl) (fun _ _ _ h => h) (y_ld (Says.own .head) Tryz.isAgg34 rfl (Nat.zero_add _).symm rfl) (.keep (.keep (.keep .nil))) (Fz.le.refl _) ?_
 refine dT 2 rfl rfl rfl (by kernel_rfl) (fun _ _ _ h => h) (y_mv rfl) (.keep (.keep (.keep .nil))) (Fz.le.refl _) ?_
 refine dT 3 rfl rfl rfl (by kernel_rfl) (fun _ _ _ h => h) (y_nc rfl) (.keep (.keep (.keep .nil))) (Fz.le.refl _) ?_
 refine dT 4 rfl rfl rfl (by kernel_rfl) (fun _ _ _ h => h) (y_fa F171_2 rfl) (.keep (.keep (.keep .nil))) (Fz.le.refl _) ?_
 refine dT 5 rfl rfl rfl (by kernel_rfl) (fun _ _ _ h => h) (y_ld (j := 2) (Says.fz (hb.mono (le_4.trans le_5))) Tryz.isAgg169 rfl rfl rfl) (.keep (.keep (.keep .nil))) (Fz.le.refl _) ?_
 refine dT 6 rfl rfl rfl (by kernel_rfl) (fun _ _ _ h => h) (y_cv Tryz.runUnderlying169 Tryz.runUnderlying2 rfl (u16_64 _)) (.keep (.keep (.keep .nil))) (Fz.le.refl _) ?_
 refine dT 7 rfl rfl rfl (by kernel_rfl) (fun _ _ _ h => h) (y_bd S37 rfl rfl) (.keep (.keep (.keep .nil))) (Fz.le.refl _) ?_
 refine dT 8 rfl rfl rfl (by kernel_rfl) (fun _ _ _ h => h) (y_ix2 (j := 2) Tryz.runUnderlying34 Tryz.sizeOf37 rfl rfl rfl rfl (by decide)) (.keep (.keep (.keep .nil))) (Fz.le.refl _) ?_
 refine dE 9 (by kernel_rfl) rfl ?_
 refine sa Tryz.sizeOf37 rfl rfl rfl rfl rfl (.tail .head) ?_
 refine dNk (by kernel_rfl) ?_
 refine dD (by kernel_rfl) ?_
 refine Nt ?_
 refine sr ?_
 refine mv rfl rfl ?_
 refine nc rfl rfl ?_
 refine fa F171_3 rfl rfl ?_
 refine mkf rfl rfl ?_
 have hkv_ := (h1.mono (le_4.trans le_5))
 obtain ⟨kvs, hM, hlen, hel⟩ := hkv_
 have hfu := hf.u
 refine cl rfl rfl rfl (t_each (j := 3) (I := fun i H1 Y => TgI 72 b_3 37 (.int .i64 0) (.slice none 0 0) (.bool false) (_) T.u i H1 Y) (hb.mono (le_4.trans le_5)) rfl hM (by omega) (fun i H1 H2 Y hle h => h.mono hle) TgI.start (fun i k v H1 Y L1 hi hle hI => ?_)) rfl (fun v_ H1 L1 le_7 hR_ => ?_)
 ·
  obtain ⟨s, h1, ⟨va, vc, rfl, hx⟩, h2, h3⟩ := hel i k v hi
  have hik := sortKv_lt hi
  exact TgI.step (fun {_ _ _ _ _ _ _ _ _ _ _ _ _ _ _ _} => tc_265) hf.v (by omega) h1 (hx.mono hle) h2 h3 hI
 rw [hlen] at hR_
 obtain ⟨_, rfl, aU, cU, NU, esU, rfl, hrU, heU, hgU⟩ := hR_
 refine splL ?_
 rw [List.take_length] at heU
 refine frL hrU (.tail .head) (fun HU hleU hzU => ?_)
 have hU := (TagsAt.told hzU hrU heU hfu (fun p hp => (hgU p hp).mono hleU)).1
 refine nl ?_
 refine sr ?_
 refine fa0 F37_4 rfl rfl ?_
 refine ld (Says.own .head) Tryz.isAgg35 rfl (Nat.zero_add _).symm rfl rfl ?_
 refine cl rfl rfl rfl (k_sorted hU (h1.mono (le_4.trans (le_5.trans (le_7.trans hleU)))).rise) rfl (fun v_ H1 L1 hle_ hR_ => ?_)
 obtain ⟨rfl, rfl⟩ := hR_
 refine nl ?_
 refine sr ?_
 refine la (Says.own .head) Tryz.isAgg37 Tryz.sizeOf37 rfl (Nat.zero_add _).symm rfl rfl ?_
 refine sa Tryz.sizeOf37 rfl rfl rfl rfl rfl (.tail (.tail .head)) ?_
 refine nl ?_
 refine drW .head ?_
 refine frW (Row.whole (e := 37) (size := 5) (m := 3) (ds := [.int .i64 0, .slice (some ⟨b12, 0, none⟩) (T.at 0).s.length cp12, .bool false, .slice none 0 0, .slice none 0 0, .int .i64 0, .slice (some ⟨b21, 0, none⟩) (T.at 1).s.length cp21, .bool false, .slice none 0 0, .slice none 0 0, .int .i64 (IntKind.u16.wrap (T.at 2).n), .slice none 0 0, .bool false, .slice none 0 0, .slice none 0 0]) rfl (by unfold maxLen; omega)) .head (fun H9 hle9 hz9 => ?_)
 have hrb : H9.at b_2 0 [.int .i64 0, .slice (some ⟨b12, 0, none⟩) (T.at 0).s.length cp12, .bool false, .slice none 0 0, .slice none 0 0, .int .i64 0, .slice (some ⟨b21, 0, none⟩) (T.at 1).s.length cp21, .bool false, .slice none 0 0, .slice none 0 0, .int .i64 (IntKind.u16.wrap (T.at 2).n), .slice none 0 0, .bool false, .slice none 0 0, .slice none 0 0] := by
  rcases hz9 with ⟨h, _⟩ | ⟨g, h, h2⟩
  · cases h
  · cases h; exact h2
 have hrb2 : H9.at b_2 0 (([((⟨some ⟨b12, 0, none⟩, cp12, none, 0, none, 0⟩ : TC), (Tr.mk 0 (T.at 0).s false [] [] : Tr)), ((⟨some ⟨b21, 0, none⟩, cp21, none, 0, none, 0⟩ : TC), (Tr.mk 0 (T.at 1).s false [] [] : Tr)), ((TC.none : TC), (Tr.mk (IntKind.u16.wrap (T.at 2).n) [] false [] [] : Tr))] : List EE).flatMap fun p => p.1.cells p.2) := by exact hrb
 have hl9 : TreesAt H9 (some ⟨b_2, 0, none⟩) 3 [(.mk 0 (T.at 0).s false [] []), (.mk 0 (T.at 1).s false [] []), (.mk (IntKind.u16.wrap (T.at 2).n) [] false [] [])] := by
  refine TreesAt.row (es := [((⟨some ⟨b12, 0, none⟩, cp12, none, 0, none, 0⟩ : TC), (Tr.mk 0 (T.at 0).s false [] [] : Tr)), ((⟨some ⟨b21, 0, none⟩, cp21, none, 0, none, 0⟩ : TC), (Tr.mk 0 (T.at 1).s false [] [] : Tr)), ((TC.none : TC), (Tr.mk (IntKind.u16.wrap (T.at 2).n) [] false [] [] : Tr))]) (.inr ⟨_, rfl, hrb2⟩) rfl (Nat.le_refl _) (Nat.le_of_ble_eq_true rfl) ?_
  intro p hp
  simp only [List.mem_cons, List.not_mem_nil, or_false] at hp
  rcases hp with rfl | rfl | rfl
  · exact (.of (hb12.mono (le_5.trans (le_7.trans (hleU.trans hle9)))) (.nil _) (.nil _))
  · exact (.of (hb21.mono (le_7.trans (hleU.trans hle9))) (.nil _) (.nil _))
  · exact (.of (.nil _) (.nil _) (.nil _))
 exact rC rfl Tryz.isAgg37 Tryz.sizeOf37 rfl .head rfl (le_4.trans (le_5.trans (le_7.trans (hleU.trans hle9)))) (fun _ _ h => h) ⟨rfl, ⟨none, 0, some ⟨b_2, 0, none⟩, 3, aU, cU⟩, rfl, .of (.nil _) hl9 (hU.mono hle9)⟩
def tl_EndQuorumEpochRequest (T : Tr) : Tr := .mk 0 [] false [(.mk 0 (sT (T.at 0)) (T.at 0).nul [] []), (.mk 0 [] (T.at 1).nul ((lT (T.at 1)).map tl_EndQuorumEpochRequestTopic) []), (.mk 0 [] (T.at 2).nul ((lT (T.at 2)).map tl_EndQuorumEpochRequestLeaderEndpoint) [])] T.u
theorem te_EndQuorumEpochRequest {H : Fz} {L : Own} {b o : Nat} {cs : List Value} {T : Tr} {ver : Int} (hb : H.at b o cs) (hA : At_EndQuorumEpochRequest ver H T cs) (hf : Fits T) :
  Fn Tryz.prog 95 [.pointer (some ⟨b, o, none⟩)] H L (fun v H' L' => L = L' ∧ ∃ c : TC, v = .agg (c.cells (tl_EndQuorumEpochRequest T)).toArray ∧ TreeAt H' c (tl_EndQuorumEpochRequest T)) := by
 obtain ⟨p0, a1, c1, a2, c2, mt, rfl, h1, h2, h3, h4⟩ := hA
 refine Fn.mk Tryz.call95 Tryz.func95 rfl Tryz.ntmps95 rfl ?_
 refine sr ?_
 refine al Tryz.zeroValue37 rfl rfl (fun b_1 => ?_)
 refine nl ?_
 refine sr ?_
 refine mkC (m := 3) (zs := [.int .i64 0, .slice none 0 0, .bool false, .slice none 0 0, .slice none 0 0]) Tryz.underlying34 I37 rfl rfl rfl rfl rfl rfl (by decide) (by unfold maxLen; omega) rfl (fun b_2 => ?_)
 refine bd' S37 rfl rfl rfl ?_
 refine al Tryz.zeroValue37 rfl rfl (fun b_3 => ?_)
 refine sa Tryz.sizeOf37 rfl rfl rfl rfl rfl .head ?_
 refine nl ?_
 refine sq ?_
 refine rgD 8 (.keep (.keep (.keep .nil))) mixed ?_
 refine dT 0 rfl rfl rfl (by kernel_rfl) (fun _ _ _ h => h) (y_fa0 F37_3 rfl) (.keep (.keep (.keep .nil))) (Fz.le.refl _) ?_
 refine dT 1 rfl rfl rfl (by kernel_rfl) (fun _ _ _ h => h) (y_ld (Says.own .head) Tryz.isAgg34 rfl (Nat.zero_add _).symm rfl) (.keep (.keep (.keep .nil))) (Fz.le.refl _) ?_
 refine dT 2 rfl rfl rfl (by kernel_rfl) (fun _ _ _ h => h) (y_mv rfl) (.keep (.keep (.keep .nil))) (Fz.le.refl _) ?_
 refine dT 3 rfl rfl rfl (by kernel_rfl) (fun _ _ _ h => h) (y_nc rfl) (.keep (.keep (.keep .nil))) (Fz.le.refl _) ?_
 refine dT 4 rfl rfl rfl (by kernel_rfl) (fun _ _ _ h => h) (y_fa F160_1 rfl) (.keep (.keep (.keep .nil))) (Fz.le.refl _) ?_
 refine dT 5 rfl rfl rfl (by kernel_rfl) (fun _ _ _ h => h) (y_ld (j := 1) (Says.fz hb) Tryz.isAgg131 rfl rfl rfl) (.keep (.keep (.keep .nil))) (Fz.le.refl _) ?_
 refine dE 6 (by kernel_rfl) rfl ?_
 refine cl rfl rfl rfl (k_textTree h1 (hf.at 0)) rfl (fun v_ H1 L1 le_4 hR_ => ?_)
 obtain ⟨rfl, ct14, rfl, hT14⟩ := hR_
 refine dN (.keep (.keep (.keep .nil))) le_4 ?_
 refine dT 7 rfl rfl rfl (by kernel_rfl) (fun _ _ _ h => h) (y_ix2 (j := 0) Tryz.runUnderlying34 Tryz.sizeOf37 rfl rfl rfl rfl (by decide)) (.keep (.keep (.keep .nil))) le_4 ?_
 refine dE 8 (by kernel_rfl) rfl ?_
 refine sa Tryz.sizeOf37 rfl rfl rfl rfl rfl (.tail .head) ?_
 refine dNk (by kernel_rfl) ?_
 refine dD (by kernel_rfl) ?_
 refine Nt ?_
 refine sq ?_
 refine rgD 9 (.keep (.keep (.keep .nil))) mixed ?_
 refine dT 0 rfl rfl rfl (by kernel_rfl) (fun _ _ _ h => h) (y_fa0 F37_3 rfl) (.keep (.keep (.keep .nil))) (Fz.le.refl _) ?_
 refine dT 1 rfl rfl rfl (by kernel_rfl) (fun _ _ _ h => h) (y_ld (Says.own .head) Tryz.isAgg34 rfl (Nat.zero_add _).symm rfl) (.keep (.keep (.keep .nil))) (Fz.le.refl _) ?_
 refine dT 2 rfl rfl rfl (by kernel_rfl) (fun _ _ _ h => h) (y_mv rfl) (.keep (.keep (.keep .nil))) (Fz.le.refl _) ?_
 refine dT 3 rfl rfl rfl (by kernel_rfl) (fun _ _ _ h => h) (y_nc rfl) (.keep (.keep (.keep .nil))) (Fz.le.refl _) ?_
 refine dT 4 rfl rfl rfl (by kernel_rfl) (fun _ _ _ h => h) (y_fa F160_2 rfl) (.keep (.keep (.keep .nil))) (Fz.le.refl _) ?_
 refine dT 5 rfl rfl rfl (by kernel_rfl) (fun _ _ _ h => h) (y_ld (j := 2) (Says.fz (hb.mono le_4)) Tryz.isAgg157 rfl rfl rfl) (.keep (.keep (.keep .nil))) (Fz.le.refl _) ?_
 refine dT 6 rfl rfl rfl (by kernel_rfl) (fun _ _ _ h => h) (y_esn Tryz.underlying157 rfl) (.keep (.keep (.keep .nil))) (Fz.le.refl _) ?_
 refine dE 7 (by kernel_rfl) rfl ?_
 refine ixk (j := 1) Tryz.runUnderlying34 Tryz.sizeOf37 rfl rfl rfl rfl (by decide) rfl ?_
 refine dN (.keep (.keep (.keep .nil))) (Fz.le.refl _) ?_
 refine dT 8 rfl rfl rfl (by kernel_rfl) (fun _ _ _ h => h) (y_fa F37_2 rfl) (.keep (.keep (.keep .nil))) (Fz.le.refl _) ?_
 refine dE 9 (by kernel_rfl) rfl ?_
 refine st Tryz.sizeOf4 rfl rfl rfl rfl (.tail .head) ?_
 refine dNk (by kernel_rfl) ?_
 refine dD (by kernel_rfl) ?_
 refine Nt ?_
 refine sq ?_
 refine sr ?_
 refine mv rfl rfl ?_
 refine nc rfl rfl ?_
 refine fa F160_2 rfl rfl ?_
 refine ld (Says.fz (hb.mono le_4)) Tryz.isAgg157 rfl rfl rfl rfl ?_
 refine ls Tryz.runUnderlying157 rfl rfl ?_
 refine mv rfl rfl ?_
 refine nl ?_
 have hlm1 := (hf.at 1).lTl
 refine nulC2 ?_
 refine fr ((lT (T.at 1)).length) (fun k1 l' H' L' => ∃ (al1 : Option Addr), ∃ (ml1 : Nat), ∃ (cl1 : Nat), ∃ (es1 : List EE), ∃ (Nl1 : Chunk), [(0, .pointer (some ⟨b, o, none⟩)), (2, .pointer (some ⟨b_1, 0, none⟩)), (3, .pointer (some ⟨b_3, 0, none⟩)), (29, .int .i64 ((lT (T.at 1)).length : Int))] = l' ∧ Nl1 :: [(b_3, .cells [.int .i64 0, .slice none 0 0, .bool false, _, .slice none 0 0].toArray 37 (0, 0))] :: [(b_2, .cells [.int .i64 0, .slice ct14.sa (sT (T.at 0)).length ct14.sc, .bool (T.at 0).nul, .slice ct14.la 0 ct14.lc, .slice ct14.ua 0 ct14.uc, .int .i64 0, .slice none 0 0, .bool a1.isNone, .slice al1 ml1 cl1, .slice none 0 0, .int .i64 0, .slice none 0 0, .bool false, .slice none 0 0, .slice none 0 0].toArray 37 (0, 0))] :: [(b_1, .cells [.int .i64 0, .slice none 0 0, .bool false, .slice none 0 0, .slice none 0 0].toArray 37 (0, 0))] :: L = L' ∧ Row 37 5 al1 ml1 cl1 (es1.flatMap f5) Nl1 ∧ ml1 = es1.length ∧ es1.map (·.2) = ((lT (T.at 1)).take k1).map tl_EndQuorumEpochRequestTopic ∧ (∀ p : EE, p ∈ es1 → TreeAt H' p.1 p.2)) [(0, .pointer (some ⟨b, o, none⟩)), (2, .pointer (some ⟨b_1, 0, none⟩)), (3, .pointer (some ⟨b_3, 0, none⟩)), (29, .int .i64 ((lT (T.at 1)).length : Int))] (fun k1 l' H' L' h => ?_) (by omega) rfl (.cons rfl (.cons rfl (.cons rfl (.cons rfl (.nil _))))) ⟨none, 0, 0, [], [], rfl, rfl, (Row.nil _ _), rfl, (by simp), (fun p hp => by cases hp)⟩ rfl rfl rfl rfl rfl (fun k1 l' H' L' hk1 le_5 hI => ?_) (fun l' H' L' le_6 hI => ?_)
 · obtain ⟨al1, ml1, cl1, es1, Nl1, rfl, _⟩ := h; exact ⟨rfl, rfl, rfl, rfl⟩
 ·
  obtain ⟨al1, ml1, cl1, es1, Nl1, rfl, rfl, pk10, pk11, pk12, pk13⟩ := hI
  refine sr ?_
  refine mv rfl rfl ?_
  refine asg rfl rfl ?_
  refine nl ?_
  refine sq ?_
  refine rgD 4 .nil mixed ?_
  refine dE 0 (by kernel_rfl) rfl ?_
  refine al Tryz.zeroValue4 rfl rfl (fun b_7 => ?_)
  refine dN .nil (Fz.le.refl _) ?_
  refine dE2 1 2 (by kernel_rfl) rfl rfl ?_ ?_
  ·
   refine st Tryz.sizeOf4 rfl rfl rfl rfl .head ?_
   refine dN .nil (Fz.le.refl _) ?_
   refine dE 2 (by kernel_rfl) rfl ?_
   refine st Tryz.sizeOf4 rfl rfl rfl rfl .head ?_
   refine dN .nil (Fz.le.refl _) ?_
   refine dE 3 (by kernel_rfl) rfl ?_
   refine ld (Says.own .head) Tryz.isAgg4 rfl (Nat.zero_add _).symm rfl rfl ?_
   refine dN .nil (Fz.le.refl _) ?_
   refine dD (by kernel_rfl) ?_
   refine drN .head ?_
   refine Nt ?_
   refine cF rfl ?_
   refine rgD 18 (.skip (.keep (.keep (.keep .nil)))) mixed ?_
   refine dT 0 rfl rfl rfl (by kernel_rfl) (fun _ _ _ h => h) (y_fa0 F37_3 rfl) (.skip (.keep (.keep (.keep .nil)))) (Fz.le.refl _) ?_
   refine dT 1 rfl rfl rfl (by kernel_rfl) (fun _ _ _ h => h) (y_ld (Says.own .head) Tryz.isAgg34 rfl (Nat.zero_add _).symm rfl) (.skip (.keep (.keep (.keep .nil)))) (Fz.le.refl _) ?_
   refine dT 2 rfl rfl rfl (by kernel_rfl) (fun _ _ _ h => h) (y_fa0 F37_3 rfl) (.skip (.keep (.keep (.keep .nil)))) (Fz.le.refl _) ?_
   refine dT 3 rfl rfl rfl (by kernel_rfl) (fun _ _ _ h => h) (y_ld (Says.own .head) Tryz.isAgg34 rfl (Nat.zero_add _).symm rfl) (.skip (.keep (.keep (.keep .nil)))) (Fz.le.refl _) ?_
   refine dT 4 rfl rfl rfl (by kernel_rfl) (fun _ _ _ h => h) (y_ix2 (j := 1) Tryz.runUnderlying34 Tryz.sizeOf37 rfl rfl rfl rfl (by decide)) (.skip (.keep (.keep (.keep .nil)))) (Fz.le.refl _) ?_
   refine dT 5 rfl rfl rfl (by kernel_rfl) (fun _ _ _ h => h) (y_fa F37_3 rfl) (.skip (.keep (.keep (.keep .nil)))) (Fz.le.refl _) ?_
   refine dT 6 rfl rfl rfl (by kernel_rfl) (fun _ _ _ h => h) (y_ld (Says.own (.tail .head)) Tryz.isAgg34 rfl (Nat.zero_add _).symm rfl) (.skip (.keep (.keep (.keep .nil)))) (Fz.le.refl _) ?_
   refine dT 7 rfl rfl rfl (by kernel_rfl) (fun _ _ _ h => h) (y_mv rfl) (.skip (.keep (.keep (.keep .nil)))) (Fz.le.refl _) ?_
   refine dT 8 rfl rfl rfl (by kernel_rfl) (fun _ _ _ h => h) (y_nc rfl) (.skip (.keep (.keep (.keep .nil)))) (Fz.le.refl _) ?_
   refine dT 9 rfl rfl rfl (by kernel_rfl) (fun _ _ _ h => h) (y_fa F160_2 rfl) (.skip (.keep (.keep (.keep .nil)))) (Fz.le.refl _) ?_
   refine dT 10 rfl rfl rfl (by kernel_rfl) (fun _ _ _ h => h) (y_ld (j := 2) (Says.fz (hb.mono (le_4.trans le_5))) Tryz.isAgg157 rfl rfl rfl) (.skip (.keep (.keep (.keep .nil)))) (Fz.le.refl _) ?_
   refine dT 11 rfl rfl rfl (by kernel_rfl) (fun _ _ _ h => h) (y_mv rfl) (.skip (.keep (.keep (.keep .nil)))) (Fz.le.refl _) ?_
   obtain ⟨beq_8, oeq_8, haq_8, hlq_8⟩ := ((h2.mono At_EndQuorumEpochRequestTopic.mono (le_4.trans le_5))).rows.at_ (ne_nil_of_lt hk1)
   obtain ⟨ceq_8, hAq_8, hbq_8⟩ := hlq_8 k1 hk1
   refine dT 12 rfl rfl rfl (by kernel_rfl) (fun _ _ _ h => h) (y_ixk (j := k1) Tryz.runUnderlying157 Tryz.sizeOf166 rfl haq_8 rfl rfl hk1) (.skip (.keep (.keep (.keep .nil)))) (Fz.le.refl _) ?_
   refine dE 13 (by kernel_rfl) rfl ?_
   refine cl rfl rfl rfl (te_EndQuorumEpochRequestTopic hbq_8 (At_EndQuorumEpochRequestTopic.mono _ _ _ _ (Fz.le.refl _) hAq_8) ((hf.at 1).lTel (List.getElem_mem hk1))) rfl (fun v_ H1 L1 le_9 hR_ => ?_)
   obtain ⟨rfl, ct66, rfl, hT66⟩ := hR_
   refine dN (.skip (.keep (.keep (.keep .nil)))) le_9 ?_
   refine dE 14 (by kernel_rfl) rfl ?_
   refine bs' L34 rfl rfl rfl rfl (fun b_10 => ?_)
   refine dN (.skip (.skip (.keep (.keep (.keep .nil))))) le_9 ?_
   refine dE 15 (by kernel_rfl) rfl ?_
   have hmk : ml1 = k1 := by have h1 := congrArg List.length pk12; rw [List.length_map, List.length_map, List.length_take] at h1; omega
   have hmb := (hf.at 1).lTl
   refine ap (k := 1) (news := f5 ((ct66, tl_EndQuorumEpochRequestTopic (lT (T.at 1))[k1]) : EE)) Tryz.underlying34 I37 rfl rfl pk10 (fun _ => (.tail .head)) (src_says Tryz.underlying34 rfl (fun _ => Says.own .head) (f5_one _)) (by omega) (by unfold maxLen; omega) rfl (fun a68 c68 N68 r68 z68 => ?_)
   rw [flatMap_snoc'] at r68
   refine dN (.skip (.skip (.keep (.keep (.keep .nil))))) le_9 ?_
   refine dE 16 (by kernel_rfl) rfl ?_
   refine ixk (j := 1) Tryz.runUnderlying34 Tryz.sizeOf37 rfl rfl rfl rfl (by decide) rfl ?_
   refine dN (.skip (.skip (.keep (.keep (.keep .nil))))) le_9 ?_
   refine dT 17 rfl rfl rfl (by kernel_rfl) (fun _ _ _ h => h) (y_fa F37_3 rfl) (.skip (.skip (.keep (.keep (.keep .nil))))) le_9 ?_
   refine dE 18 (by kernel_rfl) rfl ?_
   refine st Tryz.sizeOf34 rfl rfl rfl rfl (.tail (.tail (.tail .head))) ?_
   refine dNk (by kernel_rfl) ?_
   refine dD (by kernel_rfl) ?_
   refine Nb ?_
   refine drN .head ?_
   refine fun a_ w_ hA hw => ⟨_, _, _, hA.sub ?_, (le_5.trans le_9), hw, _, rfl, a68, (ml1 + 1), c68, (es1 ++ [((ct66, tl_EndQuorumEpochRequestTopic (lT (T.at 1))[k1]) : EE)]), N68, rfl, rfl, r68, (by simp; omega), (map_take_snoc (g := tl_EndQuorumEpochRequestTopic) hk1 pk12), (fun p hp => (mem_snoc hp).elim (fun h => (pk13 p h).mono le_9) (fun h => h ▸ hT66))⟩
   exact (.cons rfl (.cons rfl (.cons rfl (.cons rfl (.cons rfl (.nil _))))))
  ·
   refine st Tryz.sizeOf4 rfl rfl rfl rfl .head ?_
   refine dN .nil (Fz.le.refl _) ?_
   refine dE 1 (by kernel_rfl) rfl ?_
   refine st Tryz.sizeOf4 rfl rfl rfl rfl .head ?_
   refine dN .nil (Fz.le.refl _) ?_
   refine dE 3 (by kernel_rfl) rfl ?_
   refine ld (Says.own .head) Tryz.isAgg4 rfl (Nat.zero_add _).symm rfl rfl ?_
   refine dN .nil (Fz.le.refl _) ?_
   refine dD (by kernel_rfl) ?_
   refine drN .head ?_
   refine Nt ?_
   refine cT rfl ?_
   refine sq ?_
   refine rgD 17 (.skip (.keep (.keep (.keep .nil)))) mixed ?_
   refine dT 0 rfl rfl rfl (by kernel_rfl) (fun _ _ _ h => h) (y_fa0 F37_3 rfl) (.skip (.keep (.keep (.keep .nil)))) (Fz.le.refl _) ?_
   refine dT 1 rfl rfl rfl (by kernel_rfl) (fun _ _ _ h => h) (y_ld (Says.own .head) Tryz.isAgg34 rfl (Nat.zero_add _).symm rfl) (.skip (.keep (.keep (.keep .nil)))) (Fz.le.refl _) ?_
   refine dT 2 rfl rfl rfl (by kernel_rfl) (fun _ _ _ h => h) (y_ix2 (j := 1) Tryz.runUnderlying34 Tryz.sizeOf37 rfl rfl rfl rfl (by decide)) (.skip (.keep (.keep (.keep .nil)))) (Fz.le.refl _) ?_
   refine dT 3 rfl rfl rfl (by kernel_rfl) (fun _ _ _ h => h) (y_fa F37_3 rfl) (.skip (.keep (.keep (.keep .nil)))) (Fz.le.refl _) ?_
   refine dT 4 rfl rfl rfl (by kernel_rfl) (fun _ _ _ h => h) (y_ld (Says.own (.tail .head)) Tryz.isAgg34 rfl (Nat.zero_add _).symm rfl) (.skip (.keep (.keep (.keep .nil)))) (Fz.le.refl _) ?_
   refine dT 5 rfl rfl rfl (by kernel_rfl) (fun _ _ _ h => h) (y_mv rfl) (.skip (.keep (.keep (.keep .nil)))) (Fz.le.refl _) ?_
   refine dT 6 rfl rfl rfl (by kernel_rfl) (fun _ _ _ h => h) (y_nc rfl) (.skip (.keep (.keep (.keep .nil)))) (Fz.le.refl _) ?_
   refine dT 7 rfl rfl rfl (by kernel_rfl) (fun _ _ _ h => h) (y_fa F160_2 rfl) (.skip (.keep (.keep (.keep .nil)))) (Fz.le.refl _) ?_
   refine dT 8 rfl rfl rfl (by kernel_rfl) (fun _ _ _ h => h) (y_ld (j := 2) (Says.fz (hb.mono (le_4.trans le_5))) Tryz.isAgg157 rfl rfl rfl) (.skip (.keep (.keep (.keep .nil)))) (Fz.le.refl _) ?_
   refine dT 9 rfl rfl rfl (by kernel_rfl) (fun _ _ _ h => h) (y_mv rfl) (.skip (.keep (.keep (.keep .nil)))) (Fz.le.refl _) ?_
   obtain ⟨beq_11, oeq_11, haq_11, hlq_11⟩ := ((h2.mono At_EndQuorumEpochRequestTopic.mono (le_4.trans le_5))).rows.at_ (ne_nil_of_lt hk1)
   obtain ⟨ceq_11, hAq_11, hbq_11⟩ := hlq_11 k1 hk1
   refine dT 10 rfl rfl rfl (by kernel_rfl) (fun _ _ _ h => h) (y_ixk (j := k1) Tryz.runUnderlying157 Tryz.sizeOf166 rfl haq_11 rfl rfl hk1) (.skip (.keep (.keep (.keep .nil)))) (Fz.le.refl _) ?_
   refine dT 12 rfl rfl rfl (by kernel_rfl) (fun _ _ _ h => h) (y_ls Tryz.runUnderlying34 rfl) (.skip (.keep (.keep (.keep .nil)))) (Fz.le.refl _) ?_
   refine dE2 11 13 (by kernel_rfl) rfl rfl ?_ ?_
   ·
    refine cl rfl rfl rfl (te_EndQuorumEpochRequestTopic hbq_11 (At_EndQuorumEpochRequestTopic.mono _ _ _ _ (Fz.le.refl _) hAq_11) ((hf.at 1).lTel (List.getElem_mem hk1))) rfl (fun v_ H1 L1 le_12 hR_ => ?_)
    obtain ⟨rfl, ct46, rfl, hT46⟩ := hR_
    refine dN (.skip (.keep (.keep (.keep .nil)))) le_12 ?_
    refine dE 13 (by kernel_rfl) rfl ?_
    refine bs' L34 rfl rfl rfl rfl (fun b_13 => ?_)
    refine dN (.skip (.skip (.keep (.keep (.keep .nil))))) le_12 ?_
    refine dE 14 (by kernel_rfl) rfl ?_
    have hmk : ml1 = k1 := by have h1 := congrArg List.length pk12; rw [List.length_map, List.length_map, List.length_take] at h1; omega
    have hmb := (hf.at 1).lTl
    refine ap (k := 1) (news := f5 ((TC.none, Tr.none) : EE)) Tryz.underlying34 I37 rfl rfl pk10 (fun _ => (.tail .head)) (src_says Tryz.underlying34 rfl (fun _ => Says.own .head) (f5_one _)) (by omega) (by unfold maxLen; omega) rfl (fun a49 c49 N49 r49 z49 => ?_)
    refine dN (.skip (.skip (.keep (.keep (.keep .nil))))) le_12 ?_
    refine dE 15 (by kernel_rfl) rfl ?_
    refine ixk (j := 1) Tryz.runUnderlying34 Tryz.sizeOf37 rfl rfl rfl rfl (by decide) rfl ?_
    refine dN (.skip (.skip (.keep (.keep (.keep .nil))))) le_12 ?_
    refine dT 16 rfl rfl rfl (by kernel_rfl) (fun _ _ _ h => h) (y_fa F37_3 rfl) (.skip (.skip (.keep (.keep (.keep .nil))))) le_12 ?_
    refine dE 17 (by kernel_rfl) rfl ?_
    refine st Tryz.sizeOf34 rfl rfl rfl rfl (.tail (.tail (.tail .head))) ?_
    refine dNk (by kernel_rfl) ?_
    refine dD (by kernel_rfl) ?_
    refine Nt ?_
    refine rg ?_
    obtain ⟨gg49, hgg49⟩ := r49.addr (by omega)
    refine ixk (j := ml1) Tryz.runUnderlying34 Tryz.sizeOf37 rfl hgg49 rfl rfl (by omega) rfl ?_
    refine sR (ds := f5 ((ct46, tl_EndQuorumEpochRequestTopic (lT (T.at 1))[k1]) : EE)) r49 hgg49 (fun _ => (.tail .head)) Tryz.sizeOf37 rfl rfl rfl rfl (by omega) (fun N49b r49b => ?_)
    rw [row_put (k := 5) (m := ml1) (A := es1.flatMap f5) (by rw [flatMap_len f5 5 f5_len, pk11]) rfl, flatMap_snoc'] at r49b
    refine nN ?_
    refine Nb ?_
    refine drN .head ?_
    refine fun a_ w_ hA hw => ⟨_, _, _, hA.sub ?_, (le_5.trans le_12), hw, _, rfl, a49, (ml1 + 1), c49, (es1 ++ [((ct46, tl_EndQuorumEpochRequestTopic (lT (T.at 1))[k1]) : EE)]), N49b, rfl, rfl, r49b, (by simp; omega), (map_take_snoc (g := tl_EndQuorumEpochRequestTopic) hk1 pk12), (fun p hp => (mem_snoc hp).elim (fun h => (pk13 p h).mono le_12) (fun h => h ▸ hT46))⟩
    exact (.cons rfl (.cons rfl (.cons rfl (.cons rfl (.cons rfl (.nil _))))))
   ·
    refine bs' L34 rfl rfl rfl rfl (fun b_14 => ?_)
    refine dN (.skip (.skip (.keep (.keep (.keep .nil))))) (Fz.le.refl _) ?_
    refine dE 11 (by kernel_rfl) rfl ?_
    refine cl rfl rfl rfl (te_EndQuorumEpochRequestTopic hbq_11 (At_EndQuorumEpochRequestTopic.mono _ _ _ _ (Fz.le.refl _) hAq_11) ((hf.at 1).lTel (List.getElem_mem hk1))) rfl (fun v_ H1 L1 le_15 hR_ => ?_)
    obtain ⟨rfl, ct46, rfl, hT46⟩ := hR_
    refine dN (.skip (.skip (.keep (.keep (.keep .nil))))) le_15 ?_
    refine dE 14 (by kernel_rfl) rfl ?_
    have hmk : ml1 = k1 := by have h1 := congrArg List.length pk12; rw [List.length_map, List.length_map, List.length_take] at h1; omega
    have hmb := (hf.at 1).lTl
    refine ap (k := 1) (news := f5 ((TC.none, Tr.none) : EE)) Tryz.underlying34 I37 rfl rfl pk10 (fun _ => (.tail .head)) (src_says Tryz.underlying34 rfl (fun _ => Says.own .head) (f5_one _)) (by omega) (by unfold maxLen; omega) rfl (fun a49 c49 N49 r49 z49 => ?_)
    refine dN (.skip (.skip (.keep (.keep (.keep .nil))))) le_15 ?_
    refine dE 15 (by kernel_rfl) rfl ?_
    refine ixk (j := 1) Tryz.runUnderlying34 Tryz.sizeOf37 rfl rfl rfl rfl (by decide) rfl ?_
    refine dN (.skip (.skip (.keep (.keep (.keep .nil))))) le_15 ?_
    refine dT 16 rfl rfl rfl (by kernel_rfl) (fun _ _ _ h => h) (y_fa F37_3 rfl) (.skip (.skip (.keep (.keep (.keep .nil))))) le_15 ?_
    refine dE 17 (by kernel_rfl) rfl ?_
    refine st Tryz.sizeOf34 rfl rfl rfl rfl (.tail (.tail (.tail .head))) ?_
    refine dNk (by kernel_rfl) ?_
    refine dD (by kernel_rfl) ?_
    refine Nt ?_
    refine rg ?_
    obtain ⟨gg49, hgg49⟩ := r49.addr (by omega)
    refine ixk (j := ml1) Tryz.runUnderlying34 Tryz.sizeOf37 rfl hgg49 rfl rfl (by omega) rfl ?_
    refine sR (ds := f5 ((ct46, tl_EndQuorumEpochRequestTopic (lT (T.at 1))[k1]) : EE)) r49 hgg49 (fun _ => (.tail .head)) Tryz.sizeOf37 rfl rfl rfl rfl (by omega) (fun N49b r49b => ?_)
    rw [row_put (k := 5) (m := ml1) (A := es1.flatMap f5) (by rw [flatMap_len f5 5 f5_len, pk11]) rfl, flatMap_snoc'] at r49b
    refine nN ?_
    refine Nb ?_
    refine drN .head ?_
    refine fun a_ w_ hA hw => ⟨_, _, _, hA.sub ?_, (le_5.trans le_15), hw, _, rfl, a49, (ml1 + 1), c49, (es1 ++ [((ct46, tl_EndQuorumEpochRequestTopic (lT (T.at 1))[k1]) : EE)]), N49b, rfl, rfl, r49b, (by simp; omega), (map_take_snoc (g := tl_EndQuorumEpochRequestTopic) hk1 pk12), (fun p hp => (mem_snoc hp).elim (fun h => (pk13 p h).mono le_15) (fun h => h ▸ hT46))⟩
    exact (.cons rfl (.cons rfl (.cons rfl (.cons rfl (.cons rfl (.nil _))))))
 ·
  obtain ⟨al1, ml1, cl1, es1, Nl1, rfl, rfl, pk10, pk11, pk12, pk13⟩ := hI
  refine toWp ?_
  have hes1 : es1.map (·.2) = (lT (T.at 1)).map tl_EndQuorumEpochRequestTopic := by rw [pk12, List.take_length]
  have hm1 : ml1 = ((lT (T.at 1)).map tl_EndQuorumEpochRequestTopic).length := by rw [← hes1, List.length_map]; exact pk11
  refine frW pk10 .head (fun Hl1 hll1 hzl1 => ?_)
  have ht1 := TreesAt.row hzl1 pk11 pk10.le.1 (by have h1 := congrArg List.length hes1; rw [List.length_map, List.length_map] at h1; unfold B47; omega) (fun p hp => (pk13 p hp).mono hll1)
  rw [hes1] at ht1
  subst hm1
  refine sq ?_
  refine rgD 9 (.keep (.keep (.keep .nil))) mixed ?_
  refine dT 0 rfl rfl rfl (by kernel_rfl) (fun _ _ _ h => h) (y_fa0 F37_3 rfl) (.keep (.keep (.keep .nil))) (Fz.le.refl _) ?_
  refine dT 1 rfl rfl rfl (by kernel_rfl) (fun _ _ _ h => h) (y_ld (Says.own .head) Tryz.isAgg34 rfl (Nat.zero_add _).symm rfl) (.keep (.keep (.keep .nil))) (Fz.le.refl _) ?_
  refine dT 2 rfl rfl rfl (by kernel_rfl) (fun _ _ _ h => h) (y_mv rfl) (.keep (.keep (.keep .nil))) (Fz.le.refl _) ?_
  refine dT 3 rfl rfl rfl (by kernel_rfl) (fun _ _ _ h => h) (y_nc rfl) (.keep (.keep (.keep .nil))) (Fz.le.refl _) ?_
  refine dT 4 rfl rfl rfl (by kernel_rfl) (fun _ _ _ h => h) (y_fa F160_3 rfl) (.keep (.keep (.keep .nil))) (Fz.le.refl _) ?_
  refine dT 5 rfl rfl rfl (by kernel_rfl) (fun _ _ _ h => h) (y_ld (j := 3) (Says.fz (hb.mono (le_4.trans (le_6.trans hll1)))) Tryz.isAgg158 rfl rfl rfl) (.keep (.keep (.keep .nil))) (Fz.le.refl _) ?_
  refine dT 6 rfl rfl rfl (by kernel_rfl) (fun _ _ _ h => h) (y_esn Tryz.underlying158 rfl) (.keep (.keep (.keep .nil))) (Fz.le.refl _) ?_
  refine dE 7 (by kernel_rfl) rfl ?_
  refine ixk (j := 2) Tryz.runUnderlying34 Tryz.sizeOf37 rfl rfl rfl rfl (by decide) rfl ?_
  refine dN (.keep (.keep (.keep .nil))) (Fz.le.refl _) ?_
  refine dT 8 rfl rfl rfl (by kernel_rfl) (fun _ _ _ h => h) (y_fa F37_2 rfl) (.keep (.keep (.keep .nil))) (Fz.le.refl _) ?_
  refine dE 9 (by kernel_rfl) rfl ?_
  refine st Tryz.sizeOf4 rfl rfl rfl rfl (.tail .head) ?_
  refine dNk (by kernel_rfl) ?_
  refine dD (by kernel_rfl) ?_
  refine Nt ?_
  refine sq ?_
  refine sr ?_
  refine mv rfl rfl ?_
  refine nc rfl rfl ?_
  refine fa F160_3 rfl rfl ?_
  refine ld (Says.fz (hb.mono (le_4.trans (le_6.trans hll1)))) Tryz.isAgg158 rfl rfl rfl rfl ?_
  refine ls Tryz.runUnderlying158 rfl rfl ?_
  refine mv rfl rfl ?_
  refine nl ?_
  have hlm2 := (hf.at 2).lTl
  refine nulC2 ?_
  refine fr ((lT (T.at 2)).length) (fun k2 l' H' L' => ∃ (al2 : Option Addr), ∃ (ml2 : Nat), ∃ (cl2 : Nat), ∃ (es2 : List EE), ∃ (Nl2 : Chunk), [(0, .pointer (some ⟨b, o, none⟩)), (2, .pointer (some ⟨b_1, 0, none⟩)), (3, .pointer (some ⟨b_3, 0, none⟩)), (85, .int .i64 ((lT (T.at 2)).length : Int))] = l' ∧ Nl2 :: [(b_3, .cells [.int .i64 0, .slice none 0 0, .bool false, _, .slice none 0 0].toArray 37 (0, 0))] :: [(b_2, .cells [.int .i64 0, .slice ct14.sa (sT (T.at 0)).length ct14.sc, .bool (T.at 0).nul, .slice ct14.la 0 ct14.lc, .slice ct14.ua 0 ct14.uc, .int .i64 0, .slice none 0 0, .bool a1.isNone, .slice al1 ((lT (T.at 1)).map tl_EndQuorumEpochRequestTopic).length cl1, .slice none 0 0, .int .i64 0, .slice none 0 0, .bool a2.isNone, .slice al2 ml2 cl2, .slice none 0 0].toArray 37 (0, 0))] :: [(b_1, .cells [.int .i64 0, .slice none 0 0, .bool false, .slice none 0 0, .slice none 0 0].toArray 37 (0, 0))] :: L = L' ∧ Row 37 5 al2 ml2 cl2 (es2.flatMap f5) Nl2 ∧ ml2 = es2.length ∧ es2.map (·.2) = ((lT (T.at 2)).take k2).map tl_EndQuorumEpochRequestLeaderEndpoint ∧ (∀ p : EE, p ∈ es2 → TreeAt H' p.1 p.2)) [(0, .pointer (some ⟨b, o, none⟩)), (2, .pointer (some ⟨b_1, 0, none⟩)), (3, .pointer (some ⟨b_3, 0, none⟩)), (85, .int .i64 ((lT (T.at 2)).length : Int))] (fun k2 l' H' L' h => ?_) (by omega) rfl (.cons rfl (.cons rfl (.cons rfl (.cons rfl (.nil _))))) ⟨none, 0, 0, [], [], rfl, rfl, (Row.nil _ _), rfl, (by simp), (fun p hp => by cases hp)⟩ rfl rfl rfl rfl rfl (fun k2 l' H' L' hk2 le_16 hI => ?_) (fun l' H' L' le_17 hI => ?_)
  · obtain ⟨al2, ml2, cl2, es2, Nl2, rfl, _⟩ := h; exact ⟨rfl, rfl, rfl, rfl⟩
  ·
   obtain ⟨al2, ml2, cl2, es2, Nl2, rfl, rfl, pk20, pk21, pk22, pk23⟩ := hI
   refine sr ?_
   refine mv rfl rfl ?_
   refine asg rfl rfl ?_
   refine nl ?_
   refine sq ?_
   refine rgD 4 .nil mixed ?_
   refine dE 0 (by kernel_rfl) rfl ?_
   refine al Tryz.zeroValue4 rfl rfl (fun b_18 => ?_)
   refine dN .nil (Fz.le.refl _) ?_
   refine dE2 1 2 (by kernel_rfl) rfl rfl ?_ ?_
   ·
    refine st Tryz.sizeOf4 rfl rfl rfl rfl .head ?_
    refine dN .nil (Fz.le.refl _) ?_
    refine dE 2 (by kernel_rfl) rfl ?_
    refine st Tryz.sizeOf4 rfl rfl rfl rfl .head ?_
    refine dN .nil (Fz.le.refl _) ?_
    refine dE 3 (by kernel_rfl) rfl ?_
    refine ld (Says.own .head) Tryz.isAgg4 rfl (Nat.zero_add _).symm rfl rfl ?_
    refine dN .nil (Fz.le.refl _) ?_
    refine dD (by kernel_rfl) ?_
    refine drN .head ?_
    refine Nt ?_
    refine cF rfl ?_
    refine rgD 18 (.skip (.keep (.keep (.keep .nil)))) mixed ?_
    refine dT 0 rfl rfl rfl (by kernel_rfl) (fun _ _ _ h => h) (y_fa0 F37_3 rfl) (.skip (.keep (.keep (.keep .nil)))) (Fz.le.refl _) ?_
    refine dT 1 rfl rfl rfl (by kernel_rfl) (fun _ _ _ h => h) (y_ld (Says.own .head) Tryz.isAgg34 rfl (Nat.zero_add _).symm rfl) (.skip (.keep (.keep (.keep .nil)))) (Fz.le.refl _) ?_
    refine dT 2 rfl rfl rfl (by kernel_rfl) (fun _ _ _ h => h) (y_fa0 F37_3 rfl) (.skip (.keep (.keep (.keep .nil)))) (Fz.le.refl _) ?_
    refine dT 3 rfl rfl rfl (by kernel_rfl) (fun _ _ _ h => h) (y_ld (Says.own .head) Tryz.isAgg34 rfl (Nat.zero_add _).symm rfl) (.skip (.keep (.keep (.keep .nil)))) (Fz.le.refl _) ?_
    refine dT 4 rfl rfl rfl (by kernel_rfl) (fun _ _ _ h => h) (y_ix2 (j := 2) Tryz.runUnderlying34 Tryz.sizeOf37 rfl rfl rfl rfl (by decide)) (.skip (.keep (.keep (.keep .nil)))) (Fz.le.refl _) ?_
    refine dT 5 rfl rfl rfl (by kernel_rfl) (fun _ _ _ h => h) (y_fa F37_3 rfl) (.skip (.keep (.keep (.keep .nil)))) (Fz.le.refl _) ?_
    refine dT 6 rfl rfl rfl (by kernel_rfl) (fun _ _ _ h => h) (y_ld (Says.own (.tail .head)) Tryz.isAgg34 rfl (Nat.zero_add _).symm rfl) (.skip (.keep (.keep (.keep .nil)))) (Fz.le.refl _) ?_
    refine dT 7 rfl rfl rfl (by kernel_rfl) (fun _ _ _ h => h) (y_mv rfl) (.skip (.keep (.keep (.keep .nil)))) (Fz.le.refl _) ?_
    refine dT 8 rfl rfl rfl (by kernel_rfl) (fun _ _ _ h => h) (y_nc rfl) (.skip (.keep (.keep (.keep .nil)))) (Fz.le.refl _) ?_
    refine dT 9 rfl rfl rfl (by kernel_rfl) (fun _ _ _ h => h) (y_fa F160_3 rfl) (.skip (.keep (.keep (.keep .nil)))) (Fz.le.refl _) ?_
    refine dT 10 rfl rfl rfl (by kernel_rfl) (fun _ _ _ h => h) (y_ld (j := 3) (Says.fz (hb.mono (le_4.trans (le_6.trans (hll1.trans le_16))))) Tryz.isAgg158 rfl rfl rfl) (.skip (.keep (.keep (.keep .nil)))) (Fz.le.refl _) ?_
    refine dT 11 rfl rfl rfl (by kernel_rfl) (fun _ _ _ h => h) (y_mv rfl) (.skip (.keep (.keep (.keep .nil)))) (Fz.le.refl _) ?_
    obtain ⟨beq_19, oeq_19, haq_19, hlq_19⟩ := ((h3.mono At_EndQuorumEpochRequestLeaderEndpoint.mono (le_4.trans (le_6.trans (hll1.trans le_16))))).rows.at_ (ne_nil_of_lt hk2)
    obtain ⟨ceq_19, hAq_19, hbq_19⟩ := hlq_19 k2 hk2
    refine dT 12 rfl rfl rfl (by kernel_rfl) (fun _ _ _ h => h) (y_ixk (j := k2) Tryz.runUnderlying158 Tryz.sizeOf171 rfl haq_19 rfl rfl hk2) (.skip (.keep (.keep (.keep .nil)))) (Fz.le.refl _) ?_
    refine dE 13 (by kernel_rfl) rfl ?_
    refine cl rfl rfl rfl (te_EndQuorumEpochRequestLeaderEndpoint hbq_19 (At_EndQuorumEpochRequestLeaderEndpoint.mono _ _ _ _ (Fz.le.refl _) hAq_19) ((hf.at 2).lTel (List.getElem_mem hk2))) rfl (fun v_ H1 L1 le_20 hR_ => ?_)
    obtain ⟨rfl, ct122, rfl, hT122⟩ := hR_
    refine dN (.skip (.keep (.keep (.keep .nil)))) le_20 ?_
    refine dE 14 (by kernel_rfl) rfl ?_
    refine bs' L34 rfl rfl rfl rfl (fun b_21 => ?_)
    refine dN (.skip (.skip (.keep (.keep (.keep .nil))))) le_20 ?_
    refine dE 15 (by kernel_rfl) rfl ?_
    have hmk : ml2 = k2 := by have h1 := congrArg List.length pk22; rw [List.length_map, List.length_map, List.length_take] at h1; omega
    have hmb := (hf.at 2).lTl
    refine ap (k := 1) (news := f5 ((ct122, tl_EndQuorumEpochRequestLeaderEndpoint (lT (T.at 2))[k2]) : EE)) Tryz.underlying34 I37 rfl rfl pk20 (fun _ => (.tail .head)) (src_says Tryz.underlying34 rfl (fun _ => Says.own .head) (f5_one _)) (by omega) (by unfold maxLen; omega) rfl (fun a124 c124 N124 r124 z124 => ?_)
    rw [flatMap_snoc'] at r124
    refine dN (.skip (.skip (.keep (.keep (.keep .nil))))) le_20 ?_
    refine dE 16 (by kernel_rfl) rfl ?_
    refine ixk (j := 2) Tryz.runUnderlying34 Tryz.sizeOf37 rfl rfl rfl rfl (by decide) rfl ?_
    refine dN (.skip (.skip (.keep (.keep (.keep .nil))))) le_20 ?_
    refine dT 17 rfl rfl rfl (by kernel_rfl) (fun _ _ _ h => h) (y_fa F37_3 rfl) (.skip (.skip (.keep (.keep (.keep .nil))))) le_20 ?_
    refine dE 18 (by kernel_rfl) rfl ?_
    refine st Tryz.sizeOf34 rfl rfl rfl rfl (.tail (.tail (.tail .head))) ?_
    refine dNk (by kernel_rfl) ?_
    refine dD (by kernel_rfl) ?_
    refine Nb ?_
    refine drN .head ?_
    refine fun a_ w_ hA hw => ⟨_, _, _, hA.sub ?_, (le_16.trans le_20), hw, _, rfl, a124, (ml2 + 1), c124, (es2 ++ [((ct122, tl_EndQuorumEpochRequestLeaderEndpoint (lT (T.at 2))[k2]) : EE)]), N124, rfl, rfl, r124, (by simp; omega), (map_take_snoc (g := tl_EndQuorumEpochRequestLeaderEndpoint) hk2 pk22), (fun p hp => (mem_snoc hp).elim (fun h => (pk23 p h).mono le_20) (fun h => h ▸ hT122))⟩
    exact (.cons rfl (.cons rfl (.cons rfl (.cons rfl (.cons rfl (.nil _))))))
   ·
    refine st Tryz.sizeOf4 rfl rfl rfl rfl .head ?_
    refine dN .nil (Fz.le.refl _) ?_
    refine dE 1 (by kernel_rfl) rfl ?_
    refine st Tryz.sizeOf4 rfl rfl rfl rfl .head ?_
    refine dN .nil (Fz.le.refl _) ?_
    refine dE 3 (by kernel_rfl) rfl ?_
    refine ld (Says.own .head) Tryz.isAgg4 rfl (Nat.zero_add _).symm rfl rfl ?_
    refine dN .nil (Fz.le.refl _) ?_
    refine dD (by kernel_rfl) ?_
    refine drN .head ?_
    refine Nt ?_
    refine cT rfl ?_
    refine sq ?_
    refine rgD 17 (.skip (.keep (.keep (.keep .nil)))) mixed ?_
    refine dT 0 rfl rfl rfl (by kernel_rfl) (fun _ _ _ h => h) (y_fa0 F37_3 rfl) (.skip (.keep (.keep (.keep .nil)))) (Fz.le.refl _) ?_
    refine dT 1 rfl rfl rfl (by kernel_rfl) (fun _ _ _ h => h) (y_ld (Says.own .head) Tryz.isAgg34 rfl (Nat.zero_add _).symm rfl) (.skip (.keep (.keep (.keep .nil)))) (Fz.le.refl _) ?_
    refine dT 2 rfl rfl rfl (by kernel_rfl) (fun _ _ _ h => h) (y_ix2 (j := 2) Tryz.runUnderlying34 Tryz.sizeOf37 rfl rfl rfl rfl (by decide)) (.skip (.keep (.keep (.keep .nil)))) (Fz.le.refl _) ?_
    refine dT 3 rfl rfl rfl (by kernel_rfl) (fun _ _ _ h => h) (y_fa F37_3 rfl) (.skip (.keep (.keep (.keep .nil)))) (Fz.le.refl _) ?_
    refine dT 4 rfl rfl rfl (by kernel_rfl) (fun _ _ _ h => h) (y_ld (Says.own (.tail .head)) Tryz.isAgg34 rfl (Nat.zero_add _).symm rfl) (.skip (.keep (.keep (.keep .nil)))) (Fz.le.refl _) ?_
    refine dT 5 rfl rfl rfl (by kernel_rfl) (fun _ _ _ h => h) (y_mv rfl) (.skip (.keep (.keep (.keep .nil)))) (Fz.le.refl _) ?_
    refine dT 6 rfl rfl rfl (by kernel_rfl) (fun _ _ _ h => h) (y_nc rfl) (.skip (.keep (.keep (.keep .nil)))) (Fz.le.refl _) ?_
    refine dT 7 rfl rfl rfl (by kernel_rfl) (fun _ _ _ h => h) (y_fa F160_3 rfl) (.skip (.keep (.keep (.keep .nil)))) (Fz.le.refl _) ?_
    refine dT 8 rfl rfl rfl (by kernel_rfl) (fun _ _ _ h => h) (y_ld (j := 3) (Says.fz (hb.mono (le_4.trans (le_6.trans (hll1.trans le_16))))) Tryz.isAgg158 rfl rfl rfl) (.skip (.keep (.keep (.keep .nil)))) (Fz.le.refl _) ?_
    refine dT 9 rfl rfl rfl (by kernel_rfl) (fun _ _ _ h => h) (y_mv rfl) (.skip (.keep (.keep (.keep .nil)))) (Fz.le.refl _) ?_
    obtain ⟨beq_22, oeq_22, haq_22, hlq_22⟩ := ((h3.mono At_EndQuorumEpochRequestLeaderEndpoint.mono (le_4.trans (le_6.trans (hll1.trans le_16))))).rows.at_ (ne_nil_of_lt hk2)
    obtain ⟨ceq_22, hAq_22, hbq_22⟩ := hlq_22 k2 hk2
    refine dT 10 rfl rfl rfl (by kernel_rfl) (fun _ _ _ h => h) (y_ixk (j := k2) Tryz.runUnderlying158 Tryz.sizeOf171 rfl haq_22 rfl rfl hk2) (.skip (.keep (.keep (.keep .nil)))) (Fz.le.refl _) ?_
    refine dT 12 rfl rfl rfl (by kernel_rfl) (fun _ _ _ h => h) (y_ls Tryz.runUnderlying34 rfl) (.skip (.keep (.keep (.keep .nil)))) (Fz.le.refl _) ?_
    refine dE2 11 13 (by kernel_rfl) rfl rfl ?_ ?_
    ·
     refine cl rfl rfl rfl (te_EndQuorumEpochRequestLeaderEndpoint hbq_22 (At_EndQuorumEpochRequestLeaderEndpoint.mono _ _ _ _ (Fz.le.refl _) hAq_22) ((hf.at 2).lTel (List.getElem_mem hk2))) rfl (fun v_ H1 L1 le_23 hR_ => ?_)
     obtain ⟨rfl, ct102, rfl, hT102⟩ := hR_
     refine dN (.skip (.keep (.keep (.keep .nil)))) le_23 ?_
     refine dE 13 (by kernel_rfl) rfl ?_
     refine bs' L34 rfl rfl rfl rfl (fun b_24 => ?_)
     refine dN (.skip (.skip (.keep (.keep (.keep .nil))))) le_23 ?_
     refine dE 14 (by kernel_rfl) rfl ?_
     have hmk : ml2 = k2 := by have h1 := congrArg List.length pk22; rw [List.length_map, List.length_map, List.length_take] at h1; omega
     have hmb := (hf.at 2).lTl
     refine ap (k := 1) (news := f5 ((TC.none, Tr.none) : EE)) Tryz.underlying34 I37 rfl rfl pk20 (fun _ => (.tail .head)) (src_says Tryz.underlying34 rfl (fun _ => Says.own .head) (f5_one _)) (by omega) (by unfold maxLen; omega) rfl (fun a105 c105 N105 r105 z105 => ?_)
     refine dN (.skip (.skip (.keep (.keep (.keep .nil))))) le_23 ?_
     refine dE 15 (by kernel_rfl) rfl ?_
     refine ixk (j := 2) Tryz.runUnderlying34 Tryz.sizeOf37 rfl rfl rfl rfl (by decide) rfl ?_
     refine dN (.skip (.skip (.keep (.keep (.keep .nil))))) le_23 ?_
     refine dT 16 rfl rfl rfl (by kernel_rfl) (fun _ _ _ h => h) (y_fa F37_3 rfl) (.skip (.skip (.keep (.keep (.keep .nil))))) le_23 ?_
     refine dE 17 (by kernel_rfl) rfl ?_
     refine st Tryz.sizeOf34 rfl rfl rfl rfl (.tail (.tail (.tail .head))) ?_
     refine dNk (by kernel_rfl) ?_
     refine dD (by kernel_rfl) ?_
     refine Nt ?_
     refine rg ?_
     obtain ⟨gg105, hgg105⟩ := r105.addr (by omega)
     refine ixk (j := ml2) Tryz.runUnderlying34 Tryz.sizeOf37 rfl hgg105 rfl rfl (by omega) rfl ?_
     refine sR (ds := f5 ((ct102, tl_EndQuorumEpochRequestLeaderEndpoint (lT (T.at 2))[k2]) : EE)) r105 hgg105 (fun _ => (.tail .head)) Tryz.sizeOf37 rfl rfl rfl rfl (by omega) (fun N105b r105b => ?_)
     rw [row_put (k := 5) (m := ml2) (A := es2.flatMap f5) (by rw [flatMap_len f5 5 f5_len, pk21]) rfl, flatMap_snoc'] at r105b
     refine nN ?_
     refine Nb ?_
     refine drN .head ?_
     refine fun a_ w_ hA hw => ⟨_, _, _, hA.sub ?_, (le_16.trans le_23), hw, _, rfl, a105, (ml2 + 1), c105, (es2 ++ [((ct102, tl_EndQuorumEpochRequestLeaderEndpoint (lT (T.at 2))[k2]) : EE)]), N105b, rfl, rfl, r105b, (by simp; omega), (map_take_snoc (g := tl_EndQuorumEpochRequestLeaderEndpoint) hk2 pk22), (fun p hp => (mem_snoc hp).elim (fun h => (pk23 p h).mono le_23) (fun h => h ▸ hT102))⟩
     exact (.cons rfl (.cons rfl (.cons rfl (.cons rfl (.cons rfl (.nil _))))))
    ·
     refine bs' L34 rfl rfl rfl rfl (fun b_25 => ?_)
     refine dN (.skip (.skip (.keep (.keep (.keep .nil))))) (Fz.le.refl _) ?_
     refine dE 11 (by kernel_rfl) rfl ?_
     refine cl rfl rfl rfl (te_EndQuorumEpochRequestLeaderEndpoint hbq_22 (At_EndQuorumEpochRequestLeaderEndpoint.mono _ _ _ _ (Fz.le.refl _) hAq_22) ((hf.at 2).lTel (List.getElem_mem hk2))) rfl (fun v_ H1 L1 le_26 hR_ => ?_)
     obtain ⟨rfl, ct102, rfl, hT102⟩ := hR_
     refine dN (.skip (.skip (.keep (.keep (.keep .nil))))) le_26 ?_
     refine dE 14 (by kernel_rfl) rfl ?_
     have hmk : ml2 = k2 := by have h1 := congrArg List.length pk22; rw [List.length_map, List.length_map, List.length_take] at h1; omega
     have hmb := (hf.at 2).lTl
     refine ap (k := 1) (news := f5 ((TC.none, Tr.none) : EE)) Tryz.underlying34 I37 rfl rfl pk20 (fun _ => (.tail .head)) (src_says Tryz.underlying34 rfl (fun _ => Says.own .head) (f5_one _)) (by omega) (by unfold maxLen; omega) rfl (fun a105 c105 N105 r105 z105 => ?_)
     refine dN (.skip (.skip (.keep (.keep (.keep .nil))))) le_26 ?_
     refine dE 15 (by kernel_rfl) rfl ?_
     refine ixk (j := 2) Tryz.runUnderlying34 Tryz.sizeOf37 rfl rfl rfl rfl (by decide) rfl ?_
     refine dN (.skip (.skip (.keep (.keep (.keep .nil))))) le_26 ?_
     refine dT 16 rfl rfl rfl (by kernel_rfl) (fun _ _ _ h => h) (y_fa F37_3 rfl) (.skip (.skip (.keep (.keep (.keep .nil))))) le_26 ?_
     refine dE 17 (by kernel_rfl) rfl ?_
     refine st Tryz.sizeOf34 rfl rfl rfl rfl (.tail (.tail (.tail .head))) ?_
     refine dNk (by kernel_rfl) ?_
     refine dD (by kernel_rfl) ?_
     refine Nt ?_
     refine rg ?_
     obtain ⟨gg105, hgg105⟩ := r105.addr (by omega)
     refine ixk (j := ml2) Tryz.runUnderlying34 Tryz.sizeOf37 rfl hgg105 rfl rfl (by omega) rfl ?_
     refine sR (ds := f5 ((ct102, tl_EndQuorumEpochRequestLeaderEndpoint (lT (T.at 2))[k2]) : EE)) r105 hgg105 (fun _ => (.tail .head)) Tryz.sizeOf37 rfl rfl rfl rfl (by omega) (fun N105b r105b => ?_)
     rw [row_put (k := 5) (m := ml2) (A := es2.flatMap f5) (by rw [flatMap_len f5 5 f5_len, pk21]) rfl, flatMap_snoc'] at r105b
     refine nN ?_
     refine Nb ?_
     refine drN .head ?_
     refine fun a_ w_ hA hw => ⟨_, _, _, hA.sub ?_, (le_16.trans le_26), hw, _, rfl, a105, (ml2 + 1), c105, (es2 ++ [((ct102, tl_EndQuorumEpochRequestLeaderEndpoint (lT (T.at 2))[k2]) : EE)]), N105b, rfl, rfl, r105b, (by simp; omega), (map_take_snoc (g := tl_EndQuorumEpochRequestLeaderEndpoint) hk2 pk22), (fun p hp => (mem_snoc hp).elim (fun h => (pk23 p h).mono le_26) (fun h => h ▸ hT102))⟩
     exact (.cons rfl (.cons rfl (.cons rfl (.cons rfl (.cons rfl (.nil _))))))
  ·
   obtain ⟨al2, ml2, cl2, es2, Nl2, rfl, rfl, pk20, pk21, pk22, pk23⟩ := hI
   refine toWp ?_
   have hes2 : es2.map (·.2) = (lT (T.at 2)).map tl_EndQuorumEpochRequestLeaderEndpoint := by rw [pk22, List.take_length]
   have hm2 : ml2 = ((lT (T.at 2)).map tl_EndQuorumEpochRequestLeaderEndpoint).length := by rw [← hes2, List.length_map]; exact pk21
   refine frW pk20 .head (fun Hl2 hll2 hzl2 => ?_)
   have ht2 := TreesAt.row hzl2 pk21 pk20.le.1 (by have h1 := congrArg List.length hes2; rw [List.length_map, List.length_map] at h1; unfold B47; omega) (fun p hp => (pk23 p hp).mono hll2)
   rw [hes2] at ht2
   subst hm2
   refine sr ?_
   refine mv rfl rfl ?_
   refine nc rfl rfl ?_
   refine fa F160_4 rfl rfl ?_
   refine mkf rfl rfl ?_
   have hkv_ := (h4.mono (le_4.trans (le_6.trans (hll1.trans (le_17.trans hll2)))))
   obtain ⟨kvs, hM, hlen, hel⟩ := hkv_
   have hfu := hf.u
   refine cl rfl rfl rfl (t_each (j := 4) (I := fun i H1 Y => TgI 72 b_3 37 (.int .i64 0) (.slice none 0 0) (.bool false) (_) T.u i H1 Y) (hb.mono (le_4.trans (le_6.trans (hll1.trans (le_17.trans hll2))))) rfl hM (by omega) (fun i H1 H2 Y hle h => h.mono hle) TgI.start (fun i k v H1 Y L1 hi hle hI => ?_)) rfl (fun v_ H1 L1 le_28 hR_ => ?_)
   ·
    obtain ⟨s, h1, ⟨va, vc, rfl, hx⟩, h2, h3⟩ := hel i k v hi
    have hik := sortKv_lt hi
    exact TgI.step (fun {_ _ _ _ _ _ _ _ _ _ _ _ _ _ _ _} => tc_173) hf.v (by omega) h1 (hx.mono hle) h2 h3 hI
   rw [hlen] at hR_
   obtain ⟨_, rfl, aU, cU, NU, esU, rfl, hrU, heU, hgU⟩ := hR_
   refine splL ?_
   rw [List.take_length] at heU
   refine frL hrU (.tail .head) (fun HU hleU hzU => ?_)
   have hU := (TagsAt.told hzU hrU heU hfu (fun p hp => (hgU p hp).mono hleU)).1
   refine nl ?_
   refine sr ?_
   refine fa0 F37_4 rfl rfl ?_
   refine ld (Says.own .head) Tryz.isAgg35 rfl (Nat.zero_add _).symm rfl rfl ?_
   refine cl rfl rfl rfl (k_sorted hU (h4.mono (le_4.trans (le_6.trans (hll1.trans (le_17.trans (hll2.trans (le_28.trans hleU))))))).rise) rfl (fun v_ H1 L1 hle_ hR_ => ?_)
   obtain ⟨rfl, rfl⟩ := hR_
   refine nl ?_
   refine sr ?_
   refine la (Says.own .head) Tryz.isAgg37 Tryz.sizeOf37 rfl (Nat.zero_add _).symm rfl rfl ?_
   refine sa Tryz.sizeOf37 rfl rfl rfl rfl rfl (.tail (.tail .head)) ?_
   refine nl ?_
   refine drW .head ?_
   refine frW (Row.whole (e := 37) (size := 5) (m := 3) (ds := [.int .i64 0, .slice ct14.sa (sT (T.at 0)).length ct14.sc, .bool (T.at 0).nul, .slice ct14.la 0 ct14.lc, .slice ct14.ua 0 ct14.uc, .int .i64 0, .slice none 0 0, .bool a1.isNone, .slice al1 ((lT (T.at 1)).map tl_EndQuorumEpochRequestTopic).length cl1, .slice none 0 0, .int .i64 0, .slice none 0 0, .bool a2.isNone, .slice al2 ((lT (T.at 2)).map tl_EndQuorumEpochRequestLeaderEndpoint).length cl2, .slice none 0 0]) rfl (by unfold maxLen; omega)) .head (fun H9 hle9 hz9 => ?_)
   have hrb : H9.at b_2 0 [.int .i64 0, .slice ct14.sa (sT (T.at 0)).length ct14.sc, .bool (T.at 0).nul, .slice ct14.la 0 ct14.lc, .slice ct14.ua 0 ct14.uc, .int .i64 0, .slice none 0 0, .bool a1.isNone, .slice al1 ((lT (T.at 1)).map tl_EndQuorumEpochRequestTopic).length cl1, .slice none 0 0, .int .i64 0, .slice none 0 0, .bool a2.isNone, .slice al2 ((lT (T.at 2)).map tl_EndQuorumEpochRequestLeaderEndpoint).length cl2, .slice none 0 0] := by
    rcases hz9 with ⟨h, _⟩ | ⟨g, h, h2⟩
    · cases h
    · cases h; exact h2
   rw [(h2).nul, (h3).nul] at hrb
   have hrb2 : H9.at b_2 0 (([((ct14 : TC), (Tr.mk 0 (sT (T.at 0)) (T.at 0).nul [] [] : Tr)), ((⟨none, 0, al1, cl1, none, 0⟩ : TC), (Tr.mk 0 [] (T.at 1).nul ((lT (T.at 1)).map tl_EndQuorumEpochRequestTopic) [] : Tr)), ((⟨none, 0, al2, cl2, none, 0⟩ : TC), (Tr.mk 0 [] (T.at 2).nul ((lT (T.at 2)).map tl_EndQuorumEpochRequestLeaderEndpoint) [] : Tr))] : List EE).flatMap fun p => p.1.cells p.2) := by exact hrb
   have hl9 : TreesAt H9 (some ⟨b_2, 0, none⟩) 3 [(.mk 0 (sT (T.at 0)) (T.at 0).nul [] []), (.mk 0 [] (T.at 1).nul ((lT (T.at 1)).map tl_EndQuorumEpochRequestTopic) []), (.mk 0 [] (T.at 2).nul ((lT (T.at 2)).map tl_EndQuorumEpochRequestLeaderEndpoint) [])] := by
    refine TreesAt.row (es := [((ct14 : TC), (Tr.mk 0 (sT (T.at 0)) (T.at 0).nul [] [] : Tr)), ((⟨none, 0, al1, cl1, none, 0⟩ : TC), (Tr.mk 0 [] (T.at 1).nul ((lT (T.at 1)).map tl_EndQuorumEpochRequestTopic) [] : Tr)), ((⟨none, 0, al2, cl2, none, 0⟩ : TC), (Tr.mk 0 [] (T.at 2).nul ((lT (T.at 2)).map tl_EndQuorumEpochRequestLeaderEndpoint) [] : Tr))]) (.inr ⟨_, rfl, hrb2⟩) rfl (Nat.le_refl _) (Nat.le_of_ble_eq_true rfl) ?_
    intro p hp
    simp only [List.mem_cons, List.not_mem_nil, or_false] at hp
    rcases hp with rfl | rfl | rfl
    · exact (hT14.mono (le_6.trans (hll1.trans (le_17.trans (hll2.trans (le_28.trans (hleU.trans hle9)))))))
    · exact (.of (.nil _) (ht1.mono (le_17.trans (hll2.trans (le_28.trans (hleU.trans hle9))))) (.nil _))
    · exact (.of (.nil _) (ht2.mono (le_28.trans (hleU.trans hle9))) (.nil _))
   exact rC rfl Tryz.isAgg37 Tryz.sizeOf37 rfl .head rfl (le_4.trans (le_6.trans (hll1.trans (le_17.trans (hll2.trans (le_28.trans (hleU.trans hle9))))))) (fun _ _ h => h) ⟨rfl, ⟨none, 0, some ⟨b_2, 0, none⟩, 3, aU, cU⟩, rfl, .of (.nil _) hl9 (hU.mono hle9)⟩
end Go.Sx

import Derived.Test.YthgkgbaggjongaaGreatDoorBAlterPartitionRequest
import Derived.Test.YthgkgbaggjongaaGreatDoorTB
import Derived.KernelRfl
set_option linter.unusedVariables false
set_option linter.unusedSimpArgs false
set_option maxRecDepth 100000
set_option maxHeartbeats 20000000
namespace Go.Sx
open Go.Proofs
def tl_AlterPartitionRequestTopicPartitionNewEpochISR (T : Tr) : Tr := .mk 0 [] false [(.mk (IntKind.i32.wrap (T.at 0).n) [] false [] []), (.mk (T.at 1).n [] false [] [])] T.u
theorem te_AlterPartitionRequestTopicPartitionNewEpochISR {H : Fz} {L : Own} {b o : Nat} {cs : List Value} {T : Tr} (hb : H.at b o cs) (hA : At_AlterPartitionRequestTopicPartitionNewEpochISR H T cs) (hf : Fits T) :
  Fn Tryz.prog 317 [.pointer (some ⟨b, o, none⟩)] H L (fun v H' L' => L = L' ∧ ∃ c : TC, v = .agg (c.cells (tl_AlterPartitionRequestTopicPartitionNewEpochISR T)).toArray ∧ TreeAt H' c (tl_AlterPartitionRequestTopicPartitionNewEpochISR T)) := by
 obtain ⟨mt, rfl, h1⟩ := hA
 refine Fn.mk Tryz.call317 Tryz.func317 rfl Tryz.ntmps317 rfl ?_
 refine sr ?_
 refine al Tryz.zeroValue37 rfl rfl (fun b_1 => ?_)
 refine nl ?_
 refine sr ?_
 refine mkC (m := 2) (zs := [.int .i64 0, .slice none 0 0, .bool false, .slice none 0 0, .slice none 0 0]) Tryz.underlying34 I37 rfl rfl rfl rfl rfl rfl (by decide) (by unfold maxLen; omega) rfl (fun b_2 => ?_)
 refine bd' S37 rfl rfl rfl ?_
 refine al Tryz.zeroValue37 rfl rfl (fun b_3 => ?_)
 refine sa Tryz.sizeOf37 rfl rfl rfl rfl rfl .head ?_
 refine nl ?_
 refine sq ?_
 refine rgD 9 (.keep (.keep (.keep .nil))) mixed ?_
 refine dT 0 rfl rfl rfl (by kernel_rfl) (fun _ _ _ h => h) (y_fa0 F37_3 rfl) (.keep (.keep (.keep .nil))) (Fz.le.refl _) ?_
 refine dT 1 rfl rfl rfl (by kernel_rfl) (fun _ _ _ h => h) (y_ld (Says.own .head) Tryz.isAgg34 rfl (Nat.zero_add _).symm rfl) (.keep (.keep (.keep .nil))) (Fz.le.refl _) ?_
 refine dT 2 rfl rfl rfl (by kernel_rfl) (fun _ _ _ h => h) (y_mv rfl) (.keep (.keep (.keep .nil))) (Fz.le.refl _) ?_
 refine dT 3 rfl rfl rfl (by kernel_rfl) (fun _ _ _ h => h) (y_nc rfl) (.keep (.keep (.keep .nil))) (Fz.le.refl _) ?_
 refine dT 4 rfl rfl rfl (by kernel_rfl) (fun _ _ _ h => h) (y_fa F310_0 rfl) (.keep (.keep (.keep .nil))) (Fz.le.refl _) ?_
 refine dT 5 rfl rfl rfl (by kernel_rfl) (fun _ _ _ h => h) (y_ld (j := 0) (Says.fz hb) Tryz.isAgg21 rfl (Nat.add_zero _).symm rfl) (.keep (.keep (.keep .nil))) (Fz.le.refl _) ?_
 refine dT 6 rfl rfl rfl (by kernel_rfl) (fun _ _ _ h => h) (y_cv Tryz.runUnderlying21 Tryz.runUnderlying2 rfl (i32_64 _)) (.keep (.keep (.keep .nil))) (Fz.le.refl _) ?_
 refine dT 7 rfl rfl rfl (by kernel_rfl) (fun _ _ _ h => h) (y_bd S37 rfl rfl) (.keep (.keep (.keep .nil))) (Fz.le.refl _) ?_
 refine dT 8 rfl rfl rfl (by kernel_rfl) (fun _ _ _ h => h) (y_ix2 (j := 0) Tryz.runUnderlying34 Tryz.sizeOf37 rfl rfl rfl rfl (by decide)) (.keep (.keep (.keep .nil))) (Fz.le.refl _) ?_
 refine dE 9 (by kernel_rfl) rfl ?_
 refine sa Tryz.sizeOf37 rfl rfl rfl rfl rfl (.tail .head) ?_
 refine dNk (by kernel_rfl) ?_
 refine dD (by kernel_rfl) ?_
 refine Nt ?_
 refine sq ?_
 refine rgD 8 (.keep (.keep (.keep .nil))) mixed ?_
 refine dT 0 rfl rfl rfl (by kernel_rfl) (fun _ _ _ h => h) (y_fa0 F37_3 rfl) (.keep (.keep (.keep .nil))) (Fz.le.refl _) ?_
 refine dT 1 rfl rfl rfl (by kernel_rfl) (fun _ _ _ h => h) (y_ld (Says.own .head) Tryz.isAgg34 rfl (Nat.zero_add _).symm rfl) (.keep (.keep (.keep .nil))) (Fz.le.refl _) ?_
 refine dT 2 rfl rfl rfl (by kernel_rfl) (fun _ _ _ h => h) (y_mv rfl) (.keep (.keep (.keep .nil))) (Fz.le.refl _) ?_
 refine dT 3 rfl rfl rfl (by kernel_rfl) (fun _ _ _ h => h) (y_nc rfl) (.keep (.keep (.keep .nil))) (Fz.le.refl _) ?_
 refine dT 4 rfl rfl rfl (by kernel_rfl) (fun _ _ _ h => h) (y_fa F310_1 rfl) (.keep (.keep (.keep .nil))) (Fz.le.refl _) ?_
 refine dT 5 rfl rfl rfl (by kernel_rfl) (fun _ _ _ h => h) (y_ld (j := 1) (Says.fz hb) Tryz.isAgg2 rfl rfl rfl) (.keep (.keep (.keep .nil))) (Fz.le.refl _) ?_
 refine dT 6 rfl rfl rfl (by kernel_rfl) (fun _ _ _ h => h) (y_bd S37 rfl rfl) (.keep (.keep (.keep .nil))) (Fz.le.refl _) ?_
 refine dT 7 rfl rfl rfl (by kernel_rfl) (fun _ _ _ h => h) (y_ix2 (j := 1) Tryz.runUnderlying34 Tryz.sizeOf37 rfl rfl rfl rfl (by decide)) (.keep (.keep (.keep .nil))) (Fz.le.refl _) ?_
 refine dE 8 (by kernel_rfl) rfl ?_
 refine sa Tryz.sizeOf37 rfl rfl rfl rfl rfl (.tail .head) ?_
 refine dNk (by kernel_rfl) ?_
 refine dD (by kernel_rfl) ?_
 refine Nt ?_
 refine sr ?_
 refine mv rfl rfl ?_
 refine nc rfl rfl ?_
 refine fa F310_2 rfl rfl ?_
 refine mkf rfl rfl ?_
 have hkv_ := h1
 obtain ⟨kvs, hM, hlen, hel⟩ := hkv_
 have hfu := hf.u
 refine cl rfl rfl rfl (t_each (j := 2) (I := fun i H1 Y => TgI 72 b_3 37 (.int .i64 0) (.slice none 0 0) (.bool false) (_) T.u i H1 Y) hb rfl hM (by omega) (fun i H1 H2 Y hle h => h.mono hle) TgI.start (fun i k v H1 Y L1 hi hle hI => ?_)) rfl (fun v_ H1 L1 le_5 hR_ => ?_)
 ·
  obtain ⟨s, h1, ⟨va, vc, rfl, hx⟩, h2, h3⟩ := hel i k v hi
  have hik := sortKv_lt hi
  exact TgI.step (fun {_ _ _ _ _ _ _ _ _ _ _ _ _ _ _ _} => tc_345) hf.v (by omega) h1 (hx.mono hle) h2 h3 hI
 rw [hlen] at hR_
 obtain ⟨_, rfl, aU, cU, NU, esU, rfl, hrU, heU, hgU⟩ := hR_
 refine splL ?_
 rw [List.take_length] at heU
 refine frL hrU (.tail .head) (fun HU hleU hzU => ?_)
 have hU := (TagsAt.told hzU hrU heU hfu (fun p hp => (hgU p hp).mono hleU)).1
 refine nl ?_
 refine sr ?_
 refine fa0 F37_4 rfl rfl ?_
 refine ld (Says.own .head) Tryz.isAgg35 rfl (Nat.zero_add _).symm rfl rfl ?_
 refine cl rfl rfl rfl (k_sorted hU (h1.mono (le_5.trans hleU)).rise) rfl (fun v_ H1 L1 hle_ hR_ => ?_)
 obtain ⟨rfl, rfl⟩ := hR_
 refine nl ?_
 refine sr ?_
 refine la (Says.own .head) Tryz.isAgg37 Tryz.sizeOf37 rfl (Nat.zero_add _).symm rfl rfl ?_
 refine sa Tryz.sizeOf37 rfl rfl rfl rfl rfl (.tail (.tail .head)) ?_
 refine nl ?_
 refine drW .head ?_
 refine frW (Row.whole (e := 37) (size := 5) (m := 2) (ds := [.int .i64 (IntKind.i32.wrap (T.at 0).n), .slice none 0 0, .bool false, .slice none 0 0, .slice none 0 0, .int .i64 (T.at 1).n, .slice none 0 0, .bool false, .slice none 0 0, .slice none 0 0]) rfl (by unfold maxLen; omega)) .head (fun H9 hle9 hz9 => ?_)
 have hrb : H9.at b_2 0 [.int .i64 (IntKind.i32.wrap (T.at 0).n), .slice none 0 0, .bool false, .slice none 0 0, .slice none 0 0, .int .i64 (T.at 1).n, .slice none 0 0, .bool false, .slice none 0 0, .slice none 0 0] := by
  rcases hz9 with ⟨h, _⟩ | ⟨g, h, h2⟩
  · cases h
  · cases h; exact h2
 have hrb2 : H9.at b_2 0 (([((TC.none : TC), (Tr.mk (IntKind.i32.wrap (T.at 0).n) [] false [] [] : Tr)), ((TC.none : TC), (Tr.mk (T.at 1).n [] false [] [] : Tr))] : List EE).flatMap fun p => p.1.cells p.2) := by exact hrb
 have hl9 : TreesAt H9 (some ⟨b_2, 0, none⟩) 2 [(.mk (IntKind.i32.wrap (T.at 0).n) [] false [] []), (.mk (T.at 1).n [] false [] [])] := by
  refine TreesAt.row (es := [((TC.none : TC), (Tr.mk (IntKind.i32.wrap (T.at 0).n) [] false [] [] : Tr)), ((TC.none : TC), (Tr.mk (T.at 1).n [] false [] [] : Tr))]) (.inr ⟨_, rfl, hrb2⟩) rfl (Nat.le_refl _) (Nat.le_of_ble_eq_true rfl) ?_
  intro p hp
  simp only [List.mem_cons, List.not_mem_nil, or_false] at hp
  rcases hp with rfl | rfl
  · exact (.of (.nil _) (.nil _) (.nil _))
  · exact (.of (.nil _) (.nil _) (.nil _))
 exact rC rfl Tryz.isAgg37 Tryz.sizeOf37 rfl .head rfl (le_5.trans (hleU.trans hle9)) (fun _ _ h => h) ⟨rfl, ⟨none, 0, some ⟨b_2, 0, none⟩, 2, aU, cU⟩, rfl, .of (.nil _) hl9 (hU.mono hle9)⟩
def tl_AlterPartitionRequestTopicPartition (T : Tr) : Tr := .mk 0 [] false [(.mk (IntKind.i32.wrap (T.at 0).n) [] false [] []), (.mk (IntKind.i32.wrap (T.at 1).n) [] false [] []), (.mk 0 [] (T.at 2).nul ((lT (T.at 2)).map (fun y : Tr => (Tr.mk (IntKind.i32.wrap y.n) [] false [] [] : Tr))) []), (.mk 0 [] (T.at 3).nul ((lT (T.at 3)).map tl_AlterPartitionRequestTopicPartitionNewEpochISR) []), (.mk (IntKind.i8.wrap (T.at 4).n) [] false [] []), (.mk (IntKind.i32.wrap (T.at 5).n) [] false [] [])] T.u
theorem te_AlterPartitionRequestTopicPartition {H : Fz} {L : Own} {b o : Nat} {cs : List Value} {T : Tr} (hb : H.at b o cs) (hA : At_AlterPartitionRequestTopicPartition H T cs) (hf : Fits T) :
  Fn Tryz.prog 283 [.pointer (some ⟨b, o, none⟩)] H L (fun v H' L' => L = L' ∧ ∃ c : TC, v = .agg (c.cells (tl_AlterPartitionRequestTopicPartition T)).toArray ∧ TreeAt H' c (tl_AlterPartitionRequestTopicPartition T)) := by
 obtain ⟨a2, c2, a3, c3, mt, rfl, h1, h2, h3⟩ := hA
 refine Fn.mk Tryz.call283 Tryz.func283 rfl Tryz.ntmps283 rfl ?_
 refine sr ?_
 refine al Tryz.zeroValue37 rfl rfl (fun b_1 => ?_)
 refine nl ?_
 refine sr ?_
 refine mkC (m := 6) (zs := [.int .i64 0, .slice none 0 0, .bool false, .slice none 0 0, .slice none 0 0]) Tryz.underlying34 I37 rfl rfl rfl rfl rfl rfl (by decide) (by unfold maxLen; omega) rfl (fun b_2 => ?_)
 refine bd' S37 rfl rfl rfl ?_
 refine al Tryz.zeroValue37 rfl rfl (fun b_3 => ?_)
 refine sa Tryz.sizeOf37 rfl rfl rfl rfl rfl .head ?_
 refine nl ?_
 refine sq ?_
 refine rgD 9 (.keep (.keep (.keep .nil))) mixed ?_
 refine dT 0 rfl rfl rfl (by kernel_rfl) (fun _ _ _ h => h) (y_fa0 F37_3 rfl) (.keep (.keep (.keep .nil))) (Fz.le.refl _) ?_
 refine dT 1 rfl rfl rfl (by kernel_rfl) (fun _ _ _ h => h) (y_ld (Says.own .head) Tryz.isAgg34 rfl (Nat.zero_add _).symm rfl) (.keep (.keep (.keep .nil))) (Fz.le.refl _) ?_
 refine dT 2 rfl rfl rfl (by kernel_rfl) (fun _ _ _ h => h) (y_mv rfl) (.keep (.keep (.keep .nil))) (Fz.le.refl _) ?_
 refine dT 3 rfl rfl rfl (by kernel_rfl) (fun _ _ _ h => h) (y_nc rfl) (.keep (.keep (.keep .nil))) (Fz.le.refl _) ?_
 refine dT 4 rfl rfl rfl (by kernel_rfl) (fun _ _ _ h => h) (y_fa F307_0 rfl) (.keep (.keep (.keep .nil))) (Fz.le.refl _) ?_
 refine dT 5 rfl rfl rfl (by kernel_rfl) (fun _ _ _ h => h) (y_ld (j := 0) (Says.fz hb) Tryz.isAgg21 rfl (Nat.add_zero _).symm rfl) (.keep (.keep (.keep .nil))) (Fz.le.refl _) ?_
 refine dT 6 rfl rfl rfl (by kernel_rfl) (fun _ _ _ h => h) (y_cv Tryz.runUnderlying21 Tryz.runUnderlying2 rfl (i32_64 _)) (.keep (.keep (.keep .nil))) (Fz.le.refl _) ?_
 refine dT 7 rfl rfl rfl (by kernel_rfl) (fun _ _ _ h => h) (y_bd S37 rfl rfl) (.keep (.keep (.keep .nil))) (Fz.le.refl _) ?_
 refine dT 8 rfl rfl rfl (by kernel_rfl) (fun _ _ _ h => h) (y_ix2 (j := 0) Tryz.runUnderlying34 Tryz.sizeOf37 rfl rfl rfl rfl (by decide)) (.keep (.keep (.keep .nil))) (Fz.le.refl _) ?_
 refine dE 9 (by kernel_rfl) rfl ?_
 refine sa Tryz.sizeOf37 rfl rfl rfl rfl rfl (.tail .head) ?_
 refine dNk (by kernel_rfl) ?_
 refine dD (by kernel_rfl) ?_
 refine Nt ?_
 refine sq ?_
 refine rgD 9 (.keep (.keep (.keep .nil))) mixed ?_
 refine dT 0 rfl rfl rfl (by kernel_rfl) (fun _ _ _ h => h) (y_fa0 F37_3 rfl) (.keep (.keep (.keep .nil))) (Fz.le.refl _) ?_
 refine dT 1 rfl rfl rfl (by kernel_rfl) (fun _ _ _ h => h) (y_ld (Says.own .head) Tryz.isAgg34 rfl (Nat.zero_add _).symm rfl) (.keep (.keep (.keep .nil))) (Fz.le.refl _) ?_
 refine dT 2 rfl rfl rfl (by kernel_rfl) (fun _ _ _ h => h) (y_mv rfl) (.keep (.keep (.keep .nil))) (Fz.le.refl _) ?_
 refine dT 3 rfl rfl rfl (by kernel_rfl) (fun _ _ _ h => h) (y_nc rfl) (.keep (.keep (.keep .nil))) (Fz.le.refl _) ?_
 refine dT 4 rfl rfl rfl (by kernel_rfl) (fun _ _ _ h => h) (y_fa F307_1 rfl) (.keep (.keep (.keep .nil))) (Fz.le.refl _) ?_
 refine dT 5 rfl rfl rfl (by kernel_rfl) (fun _ _ _ h => h) (y_ld (j := 1) (Says.fz hb) Tryz.isAgg21 rfl rfl rfl) (.keep (.keep (.keep .nil))) (Fz.le.refl _) ?_
 refine dT 6 rfl rfl rfl (by kernel_rfl) (fun _ _ _ h => h) (y_cv Tryz.runUnderlying21 Tryz.runUnderlying2 rfl (i32_64 _)) (.keep (.keep (.keep .nil))) (Fz.le.refl _) ?_
 refine dT 7 rfl rfl rfl (by kernel_rfl) (fun _ _ _ h => h) (y_bd S37 rfl rfl) (.keep (.keep (.keep .nil))) (Fz.le.refl _) ?_
 refine dT 8 rfl rfl rfl (by kernel_rfl) (fun _ _ _ h => h) (y_ix2 (j := 1) Tryz.runUnderlying34 Tryz.sizeOf37 rfl rfl rfl rfl (by decide)) (.keep (.keep (.keep .nil))) (Fz.le.refl _) ?_
 refine dE 9 (by kernel_rfl) rfl ?_
 refine sa Tryz.sizeOf37 rfl rfl rfl rfl rfl (.tail .head) ?_
 refine dNk (by kernel_rfl) ?_
 refine dD (by kernel_rfl) ?_
 refine Nt ?_
 refine sq ?_
 refine rgD 9 (.keep (.keep (.keep .nil))) mixed ?_
 refine dT 0 rfl rfl rfl (by kernel_rfl) (fun _ _ _ h => h) (y_fa0 F37_3 rfl) (.keep (.keep (.keep .nil))) (Fz.le.refl _) ?_
 refine dT 1 rfl rfl rfl (by kernel_rfl) (fun _ _ _ h => h) (y_ld (Says.own .head) Tryz.isAgg34 rfl (Nat.zero_add _).symm rfl) (.keep (.keep (.keep .nil))) (Fz.le.refl _) ?_
 refine dT 2 rfl rfl rfl (by kernel_rfl) (fun _ _ _ h => h) (y_mv rfl) (.keep (.keep (.keep .nil))) (Fz.le.refl _) ?_
 refine dT 3 rfl rfl rfl (by kernel_rfl) (fun _ _ _ h => h) (y_nc rfl) (.keep (.keep (.keep .nil))) (Fz.le.refl _) ?_
 refine dT 4 rfl rfl rfl (by kernel_rfl) (fun _ _ _ h => h) (y_fa F307_2 rfl) (.keep (.keep (.keep .nil))) (Fz.le.refl _) ?_
 refine dT 5 rfl rfl rfl (by kernel_rfl) (fun _ _ _ h => h) (y_ld (j := 2) (Says.fz hb) Tryz.isAgg227 rfl rfl rfl) (.keep (.keep (.keep .nil))) (Fz.le.refl _) ?_
 refine dT 6 rfl rfl rfl (by kernel_rfl) (fun _ _ _ h => h) (y_esn Tryz.underlying227 rfl) (.keep (.keep (.keep .nil))) (Fz.le.refl _) ?_
 refine dE 7 (by kernel_rfl) rfl ?_
 refine ixk (j := 2) Tryz.runUnderlying34 Tryz.sizeOf37 rfl rfl rfl rfl (by decide) rfl ?_
 refine dN (.keep (.keep (.keep .nil))) (Fz.le.refl _) ?_
 refine dT 8 rfl rfl rfl (by kernel_rfl) (fun _ _ _ h => h) (y_fa F37_2 rfl) (.keep (.keep (.keep .nil))) (Fz.le.refl _) ?_
 refine dE 9 (by kernel_rfl) rfl ?_
 refine st Tryz.sizeOf4 rfl rfl rfl rfl (.tail .head) ?_
 refine dNk (by kernel_rfl) ?_
 refine dD (by kernel_rfl) ?_
 refine Nt ?_
 refine sq ?_
 refine sr ?_
 refine mv rfl rfl ?_
 refine nc rfl rfl ?_
 refine fa F307_2 rfl rfl ?_
 refine ld (Says.fz hb) Tryz.isAgg227 rfl rfl rfl rfl ?_
 refine ls Tryz.runUnderlying227 rfl rfl ?_
 refine mv rfl rfl ?_
 refine nl ?_
 have hlm2 := (hf.at 2).lTl
 refine nulC2 ?_
 refine fr ((lT (T.at 2)).length) (fun k2 l' H' L' => ∃ (al2 : Option Addr), ∃ (ml2 : Nat), ∃ (cl2 : Nat), ∃ (es2 : List EE), ∃ (Nl2 : Chunk), [(0, .pointer (some ⟨b, o, none⟩)), (2, .pointer (some ⟨b_1, 0, none⟩)), (3, .pointer (some ⟨b_3, 0, none⟩)), (39, .int .i64 ((lT (T.at 2)).length : Int))] = l' ∧ Nl2 :: [(b_3, .cells [.int .i64 0, .slice none 0 0, .bool false, _, .slice none 0 0].toArray 37 (0, 0))] :: [(b_2, .cells [.int .i64 (IntKind.i32.wrap (T.at 0).n), .slice none 0 0, .bool false, .slice none 0 0, .slice none 0 0, .int .i64 (IntKind.i32.wrap (T.at 1).n), .slice none 0 0, .bool false, .slice none 0 0, .slice none 0 0, .int .i64 0, .slice none 0 0, .bool a2.isNone, .slice al2 ml2 cl2, .slice none 0 0, .int .i64 0, .slice none 0 0, .bool false, .slice none 0 0, .slice none 0 0, .int .i64 0, .slice none 0 0, .bool false, .slice none 0 0, .slice none 0 0, .int .i64 0, .slice none 0 0, .bool false, .slice none 0 0, .slice none 0 0].toArray 37 (0, 0))] :: [(b_1, .cells [.int .i64 0, .slice none 0 0, .bool false, .slice none 0 0, .slice none 0 0].toArray 37 (0, 0))] :: L = L' ∧ Row 37 5 al2 ml2 cl2 (es2.flatMap f5) Nl2 ∧ ml2 = es2.length ∧ es2.map (·.2) = ((lT (T.at 2)).take k2).map (fun y : Tr => (Tr.mk (IntKind.i32.wrap y.n) [] false [] [] : Tr)) ∧ (∀ p : EE, p ∈ es2 → TreeAt H' p.1 p.2)) [(0, .pointer (some ⟨b, o, none⟩)), (2, .pointer (some ⟨b_1, 0, none⟩)), (3, .pointer (some ⟨b_3, 0, none⟩)), (39, .int .i64 ((lT (T.at 2)).length : Int))] (fun k2 l' H' L' h => ?_) (by omega) rfl (.cons rfl (.cons rfl (.cons rfl (.cons rfl (.nil _))))) ⟨none, 0, 0, [], [], rfl, rfl, (Row.nil _ _), rfl, (by simp), (fun p hp => by cases hp)⟩ rfl rfl rfl rfl rfl (fun k2 l' H' L' hk2 le_4 hI => ?_) (fun l' H' L' le_5 hI => ?_)
 · obtain ⟨al2, ml2, cl2, es2, Nl2, rfl, _⟩ := h; exact ⟨rfl, rfl, rfl, rfl⟩
 ·
  obtain ⟨al2, ml2, cl2, es2, Nl2, rfl, rfl, pk20, pk21, pk22, pk23⟩ := hI
  refine sr ?_
  refine mv rfl rfl ?_
  refine asg rfl rfl ?_
  refine nl ?_
  refine sq ?_
  refine rgD 4 .nil mixed ?_
  refine dE 0 (by kernel_rfl) rfl ?_
  refine al Tryz.zeroValue4 rfl rfl (fun b_6 => ?_)
  refine dN .nil (Fz.le.refl _) ?_
  refine dE2 1 2 (by kernel_rfl) rfl rfl ?_ ?_
  ·
   refine st Tryz.sizeOf4 rfl rfl rfl rfl .head ?_
   refine dN .nil (Fz.le.refl _) ?_
   refine dE 2 (by kernel_rfl) rfl ?_
   refine st Tryz.sizeOf4 rfl rfl rfl rfl .head ?_
   refine dN .nil (Fz.le.refl _) ?_
   refine dE 3 (by kernel_rfl) rfl ?_
   refine ld (Says.own .head) Tryz.isAgg4 rfl (Nat.zero_add _).symm rfl rfl ?_
   refine dN .nil (Fz.le.refl _) ?_
   refine dD (by kernel_rfl) ?_
   refine drN .head ?_
   refine Nt ?_
   refine cF rfl ?_
   refine rgD 20 (.skip (.keep (.keep (.keep .nil)))) mixed ?_
   refine dT 0 rfl rfl rfl (by kernel_rfl) (fun _ _ _ h => h) (y_fa0 F37_3 rfl) (.skip (.keep (.keep (.keep .nil)))) (Fz.le.refl _) ?_
   refine dT 1 rfl rfl rfl (by kernel_rfl) (fun _ _ _ h => h) (y_ld (Says.own .head) Tryz.isAgg34 rfl (Nat.zero_add _).symm rfl) (.skip (.keep (.keep (.keep .nil)))) (Fz.le.refl _) ?_
   refine dT 2 rfl rfl rfl (by kernel_rfl) (fun _ _ _ h => h) (y_fa0 F37_3 rfl) (.skip (.keep (.keep (.keep .nil)))) (Fz.le.refl _) ?_
   refine dT 3 rfl rfl rfl (by kernel_rfl) (fun _ _ _ h => h) (y_ld (Says.own .head) Tryz.isAgg34 rfl (Nat.zero_add _).symm rfl) (.skip (.keep (.keep (.keep .nil)))) (Fz.le.refl _) ?_
   refine dT 4 rfl rfl rfl (by kernel_rfl) (fun _ _ _ h => h) (y_ix2 (j := 2) Tryz.runUnderlying34 Tryz.sizeOf37 rfl rfl rfl rfl (by decide)) (.skip (.keep (.keep (.keep .nil)))) (Fz.le.refl _) ?_
   refine dT 5 rfl rfl rfl (by kernel_rfl) (fun _ _ _ h => h) (y_fa F37_3 rfl) (.skip (.keep (.keep (.keep .nil)))) (Fz.le.refl _) ?_
   refine dT 6 rfl rfl rfl (by kernel_rfl) (fun _ _ _ h => h) (y_ld (Says.own (.tail .head)) Tryz.isAgg34 rfl (Nat.zero_add _).symm rfl) (.skip (.keep (.keep (.keep .nil)))) (Fz.le.refl _) ?_
   refine dT 7 rfl rfl rfl (by kernel_rfl) (fun _ _ _ h => h) (y_mv rfl) (.skip (.keep (.keep (.keep .nil)))) (Fz.le.refl _) ?_
   refine dT 8 rfl rfl rfl (by kernel_rfl) (fun _ _ _ h => h) (y_nc rfl) (.skip (.keep (.keep (.keep .nil)))) (Fz.le.refl _) ?_
   refine dT 9 rfl rfl rfl (by kernel_rfl) (fun _ _ _ h => h) (y_fa F307_2 rfl) (.skip (.keep (.keep (.keep .nil)))) (Fz.le.refl _) ?_
   refine dT 10 rfl rfl rfl (by kernel_rfl) (fun _ _ _ h => h) (y_ld (j := 2) (Says.fz (hb.mono le_4)) Tryz.isAgg227 rfl rfl rfl) (.skip (.keep (.keep (.keep .nil)))) (Fz.le.refl _) ?_
   refine dT 11 rfl rfl rfl (by kernel_rfl) (fun _ _ _ h => h) (y_mv rfl) (.skip (.keep (.keep (.keep .nil)))) (Fz.le.refl _) ?_
   obtain ⟨beq_7, oeq_7, haq_7, hlq_7⟩ := ((h1.mono RI32.mono le_4)).rows.at_ (ne_nil_of_lt hk2)
   obtain ⟨ceq_7, hAq_7, hbq_7⟩ := hlq_7 k2 hk2
   obtain rfl : ceq_7 = [.int .i32 (IntKind.i32.wrap ((lT (T.at 2))[k2]).n)] := hAq_7
   refine dT 12 rfl rfl rfl (by kernel_rfl) (fun _ _ _ h => h) (y_ixk (j := k2) Tryz.runUnderlying227 Tryz.sizeOf21 rfl haq_7 rfl rfl hk2) (.skip (.keep (.keep (.keep .nil)))) (Fz.le.refl _) ?_
   refine dT 13 rfl rfl rfl (by kernel_rfl) (fun _ _ _ h => h) (y_ld (Says.fz hbq_7) Tryz.isAgg21 rfl (Nat.add_zero _).symm rfl) (.skip (.keep (.keep (.keep .nil)))) (Fz.le.refl _) ?_
   refine dT 14 rfl rfl rfl (by kernel_rfl) (fun _ _ _ h => h) (y_cv Tryz.runUnderlying21 Tryz.runUnderlying2 rfl (i32_64 _)) (.skip (.keep (.keep (.keep .nil)))) (Fz.le.refl _) ?_
   refine dT 15 rfl rfl rfl (by kernel_rfl) (fun _ _ _ h => h) (y_bd S37 rfl rfl) (.skip (.keep (.keep (.keep .nil)))) (Fz.le.refl _) ?_
   refine dE 16 (by kernel_rfl) rfl ?_
   refine bs' L34 rfl rfl rfl rfl (fun b_8 => ?_)
   refine dN (.skip (.skip (.keep (.keep (.keep .nil))))) (Fz.le.refl _) ?_
   refine dE 17 (by kernel_rfl) rfl ?_
   have hmk : ml2 = k2 := by have h1 := congrArg List.length pk22; rw [List.length_map, List.length_map, List.length_take] at h1; omega
   have hmb := (hf.at 2).lTl
   refine ap (k := 1) (news := f5 (((TC.none : TC), (Tr.mk (IntKind.i32.wrap ((lT (T.at 2))[k2]).n) [] false [] [] : Tr)) : EE)) Tryz.underlying34 I37 rfl rfl pk20 (fun _ => (.tail .head)) (src_says Tryz.underlying34 rfl (fun _ => Says.own .head) (f5_one _)) (by omega) (by unfold maxLen; omega) rfl (fun a82 c82 N82 r82 z82 => ?_)
   rw [flatMap_snoc'] at r82
   refine dN (.skip (.skip (.keep (.keep (.keep .nil))))) (Fz.le.refl _) ?_
   refine dE 18 (by kernel_rfl) rfl ?_
   refine ixk (j := 2) Tryz.runUnderlying34 Tryz.sizeOf37 rfl rfl rfl rfl (by decide) rfl ?_
   refine dN (.skip (.skip (.keep (.keep (.keep .nil))))) (Fz.le.refl _) ?_
   refine dT 19 rfl rfl rfl (by kernel_rfl) (fun _ _ _ h => h) (y_fa F37_3 rfl) (.skip (.skip (.keep (.keep (.keep .nil))))) (Fz.le.refl _) ?_
   refine dE 20 (by kernel_rfl) rfl ?_
   refine st Tryz.sizeOf34 rfl rfl rfl rfl (.tail (.tail (.tail .head))) ?_
   refine dNk (by kernel_rfl) ?_
   refine dD (by kernel_rfl) ?_
   refine Nb ?_
   refine drN .head ?_
   refine fun a_ w_ hA hw => ⟨_, _, _, hA.sub ?_, le_4, hw, _, rfl, a82, (ml2 + 1), c82, (es2 ++ [(((TC.none : TC), (Tr.mk (IntKind.i32.wrap ((lT (T.at 2))[k2]).n) [] false [] [] : Tr)) : EE)]), N82, rfl, rfl, r82, (by simp; omega), (map_take_snoc (g := (fun y : Tr => (Tr.mk (IntKind.i32.wrap y.n) [] false [] [] : Tr))) hk2 pk22), (fun p hp => (mem_snoc hp).elim (fun h => (pk23 p h).mono (Fz.le.refl _)) (fun h => h ▸ (.of (.nil _) (.nil _) (.nil _))))⟩
   exact (.cons rfl (.cons rfl (.cons rfl (.cons rfl (.cons rfl (.nil _))))))
  ·
   refine st Tryz.sizeOf4 rfl rfl rfl rfl .head ?_
   refine dN .nil (Fz.le.refl _) ?_
   refine dE 1 (by kernel_rfl) rfl ?_
   refine st Tryz.sizeOf4 rfl rfl rfl rfl .head ?_
   refine dN .nil (Fz.le.refl _) ?_
   refine dE 3 (by kernel_rfl) rfl ?_
   refine ld (Says.own .head) Tryz.isAgg4 rfl (Nat.zero_add _).symm rfl rfl ?_
   refine dN .nil (Fz.le.refl _) ?_
   refine dD (by kernel_rfl) ?_
   refine drN .head ?_
   refine Nt ?_
   refine cT rfl ?_
   refine sq ?_
   refine rgD 19 (.skip (.keep (.keep (.keep .nil)))) mixed ?_
   refine dT 0 rfl rfl rfl (by kernel_rfl) (fun _ _ _ h => h) (y_fa0 F37_3 rfl) (.skip (.keep (.keep (.keep .nil)))) (Fz.le.refl _) ?_
   refine dT 1 rfl rfl rfl (by kernel_rfl) (fun _ _ _ h => h) (y_ld (Says.own .head) Tryz.isAgg34 rfl (Nat.zero_add _).symm rfl) (.skip (.keep (.keep (.keep .nil)))) (Fz.le.refl _) ?_
   refine dT 2 rfl rfl rfl (by kernel_rfl) (fun _ _ _ h => h) (y_ix2 (j := 2) Tryz.runUnderlying34 Tryz.sizeOf37 rfl rfl rfl rfl (by decide)) (.skip (.keep (.keep (.keep .nil)))) (Fz.le.refl _) ?_
   refine dT 3 rfl rfl rfl (by kernel_rfl) (fun _ _ _ h => h) (y_fa F37_3 rfl) (.skip (.keep (.keep (.keep .nil)))) (Fz.le.refl _) ?_
   refine dT 4 rfl rfl rfl (by kernel_rfl) (fun _ _ _ h => h) (y_ld (Says.own (.tail .head)) Tryz.isAgg34 rfl (Nat.zero_add _).symm rfl) (.skip (.keep (.keep (.keep .nil)))) (Fz.le.refl _) ?_
   refine dT 5 rfl rfl rfl (by kernel_rfl) (fun _ _ _ h => h) (y_mv rfl) (.skip (.keep (.keep (.keep .nil)))) (Fz.le.refl _) ?_
   refine dT 6 rfl rfl rfl (by kernel_rfl) (fun _ _ _ h => h) (y_nc rfl) (.skip (.keep (.keep (.keep .nil)))) (Fz.le.refl _) ?_
   refine dT 7 rfl rfl rfl (by kernel_rfl) (fun _ _ _ h => h) (y_fa F307_2 rfl) (.skip (.keep (.keep (.keep .nil)))) (Fz.le.refl _) ?_
   refine dT 8 rfl rfl rfl (by kernel_rfl) (fun _ _ _ h => h) (y_ld (j := 2) (Says.fz (hb.mono le_4)) Tryz.isAgg227 rfl rfl rfl) (.skip (.keep (.keep (.keep .nil)))) (Fz.le.refl _) ?_
   refine dT 9 rfl rfl rfl (by kernel_rfl) (fun _ _ _ h => h) (y_mv rfl) (.skip (.keep (.keep (.keep .nil)))) (Fz.le.refl _) ?_
   obtain ⟨beq_9, oeq_9, haq_9, hlq_9⟩ := ((h1.mono RI32.mono le_4)).rows.at_ (ne_nil_of_lt hk2)
   obtain ⟨ceq_9, hAq_9, hbq_9⟩ := hlq_9 k2 hk2
   obtain rfl : ceq_9 = [.int .i32 (IntKind.i32.wrap ((lT (T.at 2))[k2]).n)] := hAq_9
   refine dT 10 rfl rfl rfl (by kernel_rfl) (fun _ _ _ h => h) (y_ixk (j := k2) Tryz.runUnderlying227 Tryz.sizeOf21 rfl haq_9 rfl rfl hk2) (.skip (.keep (.keep (.keep .nil)))) (Fz.le.refl _) ?_
   refine dT 11 rfl rfl rfl (by kernel_rfl) (fun _ _ _ h => h) (y_ld (Says.fz hbq_9) Tryz.isAgg21 rfl (Nat.add_zero _).symm rfl) (.skip (.keep (.keep (.keep .nil)))) (Fz.le.refl _) ?_
   refine dT 12 rfl rfl rfl (by kernel_rfl) (fun _ _ _ h => h) (y_cv Tryz.runUnderlying21 Tryz.runUnderlying2 rfl (i32_64 _)) (.skip (.keep (.keep (.keep .nil)))) (Fz.le.refl _) ?_
   refine dT 13 rfl rfl rfl (by kernel_rfl) (fun _ _ _ h => h) (y_bd S37 rfl rfl) (.skip (.keep (.keep (.keep .nil)))) (Fz.le.refl _) ?_
   refine dT 14 rfl rfl rfl (by kernel_rfl) (fun _ _ _ h => h) (y_ls Tryz.runUnderlying34 rfl) (.skip (.keep (.keep (.keep .nil)))) (Fz.le.refl _) ?_
   refine dE 15 (by kernel_rfl) rfl ?_
   refine bs' L34 rfl rfl rfl rfl (fun b_10 => ?_)
   refine dN (.skip (.skip (.keep (.keep (.keep .nil))))) (Fz.le.refl _) ?_
   refine dE 16 (by kernel_rfl) rfl ?_
   have hmk : ml2 = k2 := by have h1 := congrArg List.length pk22; rw [List.length_map, List.length_map, List.length_take] at h1; omega
   have hmb := (hf.at 2).lTl
   refine ap (k := 1) (news := f5 ((TC.none, Tr.none) : EE)) Tryz.underlying34 I37 rfl rfl pk20 (fun _ => (.tail .head)) (src_says Tryz.underlying34 rfl (fun _ => Says.own .head) (f5_one _)) (by omega) (by unfold maxLen; omega) rfl (fun a61 c61 N61 r61 z61 => ?_)
   refine dN (.skip (.skip (.keep (.keep (.keep .nil))))) (Fz.le.refl _) ?_
   refine dE 17 (by kernel_rfl) rfl ?_
   refine ixk (j := 2) Tryz.runUnderlying34 Tryz.sizeOf37 rfl rfl rfl rfl (by decide) rfl ?_
   refine dN (.skip (.skip (.keep (.keep (.keep .nil))))) (Fz.le.refl _) ?_
   refine dT 18 rfl rfl rfl (by kernel_rfl) (fun _ _ _ h => h) (y_fa F37_3 rfl) (.skip (.skip (.keep (.keep (.keep .nil))))) (Fz.le.refl _) ?_
   refine dE 19 (by kernel_rfl) rfl ?_
   refine st Tryz.sizeOf34 rfl rfl rfl rfl (.tail (.tail (.tail .head))) ?_
   refine dNk (by kernel_rfl) ?_
   refine dD (by kernel_rfl) ?_
   refine Nt ?_
   refine rg ?_
   obtain ⟨gg61, hgg61⟩ := r61.addr (by omega)
   refine ixk (j := ml2) Tryz.runUnderlying34 Tryz.sizeOf37 rfl hgg61 rfl rfl (by omega) rfl ?_
   refine sR (ds := f5 (((TC.none : TC), (Tr.mk (IntKind.i32.wrap ((lT (T.at 2))[k2]).n) [] false [] [] : Tr)) : EE)) r61 hgg61 (fun _ => (.tail .head)) Tryz.sizeOf37 rfl rfl rfl rfl (by omega) (fun N61b r61b => ?_)
   rw [row_put (k := 5) (m := ml2) (A := es2.flatMap f5) (by rw [flatMap_len f5 5 f5_len, pk21]) rfl, flatMap_snoc'] at r61b
   refine nN ?_
   refine Nb ?_
   refine drN .head ?_
   refine fun a_ w_ hA hw => ⟨_, _, _, hA.sub ?_, le_4, hw, _, rfl, a61, (ml2 + 1), c61, (es2 ++ [(((TC.none : TC), (Tr.mk (IntKind.i32.wrap ((lT (T.at 2))[k2]).n) [] false [] [] : Tr)) : EE)]), N61b, rfl, rfl, r61b, (by simp; omega), (map_take_snoc (g := (fun y : Tr => (Tr.mk (IntKind.i32.wrap y.n) [] false [] [] : Tr))) hk2 pk22), (fun p hp => (mem_snoc hp).elim (fun h => (pk23 p h).mono (Fz.le.refl _)) (fun h => h ▸ (.of (.nil _) (.nil _) (.nil _))))⟩
   exact (.cons rfl (.cons rfl (.cons rfl (.cons rfl (.cons rfl (.nil _))))))
 ·
  obtain ⟨al2, ml2, cl2, es2, Nl2, rfl, rfl, pk20, pk21, pk22, pk23⟩ := hI
  refine toWp ?_
  have hes2 : es2.map (·.2) = (lT (T.at 2)).map (fun y : Tr => (Tr.mk (IntKind.i32.wrap y.n) [] false [] [] : Tr)) := by rw [pk22, List.take_length]
  have hm2 : ml2 = ((lT (T.at 2)).map (fun y : Tr => (Tr.mk (IntKind.i32.wrap y.n) [] false [] [] : Tr))).length := by rw [← hes2, List.length_map]; exact pk21
  refine frW pk20 .head (fun Hl2 hll2 hzl2 => ?_)
  have ht2 := TreesAt.row hzl2 pk21 pk20.le.1 (by have h1 := congrArg List.length hes2; rw [List.length_map, List.length_map] at h1; unfold B47; omega) (fun p hp => (pk23 p hp).mono hll2)
  rw [hes2] at ht2
  subst hm2
  refine sq ?_
  refine rgD 9 (.keep (.keep (.keep .nil))) mixed ?_
  refine dT 0 rfl rfl rfl (by kernel_rfl) (fun _ _ _ h => h) (y_fa0 F37_3 rfl) (.keep (.keep (.keep .nil))) (Fz.le.refl _) ?_
  refine dT 1 rfl rfl rfl (by kernel_rfl) (fun _ _ _ h => h) (y_ld (Says.own .head) Tryz.isAgg34 rfl (Nat.zero_add _).symm rfl) (.keep (.keep (.keep .nil))) (Fz.le.refl _) ?_
  refine dT 2 rfl rfl rfl (by kernel_rfl) (fun _ _ _ h => h) (y_mv rfl) (.keep (.keep (.keep .nil))) (Fz.le.refl _) ?_
  refine dT 3 rfl rfl rfl (by kernel_rfl) (fun _ _ _ h => h) (y_nc rfl) (.keep (.keep (.keep .nil))) (Fz.le.refl _) ?_
  refine dT 4 rfl rfl rfl (by kernel_rfl) (fun _ _ _ h => h) (y_fa F307_3 rfl) (.keep (.keep (.keep .nil))) (Fz.le.refl _) ?_
  refine dT 5 rfl rfl rfl (by kernel_rfl) (fun _ _ _ h => h) (y_ld (j := 3) (Says.fz (hb.mono (le_5.trans hll2))) Tryz.isAgg305 rfl rfl rfl) (.keep (.keep (.keep .nil))) (Fz.le.refl _) ?_
  refine dT 6 rfl rfl rfl (by kernel_rfl) (fun _ _ _ h => h) (y_esn Tryz.underlying305 rfl) (.keep (.keep (.keep .nil))) (Fz.le.refl _) ?_
  refine dE 7 (by kernel_rfl) rfl ?_
  refine ixk (j := 3) Tryz.runUnderlying34 Tryz.sizeOf37 rfl rfl rfl rfl (by decide) rfl ?_
  refine dN (.keep (.keep (.keep .nil))) (Fz.le.refl _) ?_
  refine dT 8 rfl rfl rfl (by kernel_rfl) (fun _ _ _ h => h) (y_fa F37_2 rfl) (.keep (.keep (.keep .nil))) (Fz.le.refl _) ?_
  refine dE 9 (by kernel_rfl) rfl ?_
  refine st Tryz.sizeOf4 rfl rfl rfl rfl (.tail .head) ?_
  refine dNk (by kernel_rfl) ?_
  refine dD (by kernel_rfl) ?_
  refine Nt ?_
  refine sq ?_
  refine sr ?_
  refine mv rfl rfl ?_
  refine nc rfl rfl ?_
  refine fa F307_3 rfl rfl ?_
  refine ld (Says.fz (hb.mono (le_5.trans hll2))) Tryz.isAgg305 rfl rfl rfl rfl ?_
  refine ls Tryz.runUnderlying305 rfl rfl ?_
  refine mv rfl rfl ?_
  refine nl ?_
  have hlm3 := (hf.at 3).lTl
  refine nulC2 ?_
  refine fr ((lT (T.at 3)).length) (fun k3 l' H' L' => ∃ (al3 : Option Addr), ∃ (ml3 : Nat), ∃ (cl3 : Nat), ∃ (es3 : List EE), ∃ (Nl3 : Chunk), [(0, .pointer (some ⟨b, o, none⟩)), (2, .pointer (some ⟨b_1, 0, none⟩)), (3, .pointer (some ⟨b_3, 0, none⟩)), (99, .int .i64 ((lT (T.at 3)).length : Int))] = l' ∧ Nl3 :: [(b_3, .cells [.int .i64 0, .slice none 0 0, .bool false, _, .slice none 0 0].toArray 37 (0, 0))] :: [(b_2, .cells [.int .i64 (IntKind.i32.wrap (T.at 0).n), .slice none 0 0, .bool false, .slice none 0 0, .slice none 0 0, .int .i64 (IntKind.i32.wrap (T.at 1).n), .slice none 0 0, .bool false, .slice none 0 0, .slice none 0 0, .int .i64 0, .slice none 0 0, .bool a2.isNone, .slice al2 ((lT (T.at 2)).map (fun y : Tr => (Tr.mk (IntKind.i32.wrap y.n) [] false [] [] : Tr))).length cl2, .slice none 0 0, .int .i64 0, .slice none 0 0, .bool a3.isNone, .slice al3 ml3 cl3, .slice none 0 0, .int .i64 0, .slice none 0 0, .bool false, .slice none 0 0, .slice none 0 0, .int .i64 0, .slice none 0 0, .bool false, .slice none 0 0, .slice none 0 0].toArray 37 (0, 0))] :: [(b_1, .cells [.int .i64 0, .slice none 0 0, .bool false, .slice none 0 0, .slice none 0 0].toArray 37 (0, 0))] :: L = L' ∧ Row 37 5 al3 ml3 cl3 (es3.flatMap f5) Nl3 ∧ ml3 = es3.length ∧ es3.map (·.2) = ((lT (T.at 3)).take k3).map tl_AlterPartitionRequestTopicPartitionNewEpochISR ∧ (∀ p : EE, p ∈ es3 → TreeAt H' p.1 p.2)) [(0, .pointer (some ⟨b, o, none⟩)), (2, .pointer (some ⟨b_1, 0, none⟩)), (3, .pointer (some ⟨b_3, 0, none⟩)), (99, .int .i64 ((lT (T.at 3)).length : Int))] (fun k3 l' H' L' h => ?_) (by omega) rfl (.cons rfl (.cons rfl (.cons rfl (.cons rfl (.nil _))))) ⟨none, 0, 0, [], [], rfl, rfl, (Row.nil _ _), rfl, (by simp), (fun p hp => by cases hp)⟩ rfl rfl rfl rfl rfl (fun k3 l' H' L' hk3 le_11 hI => ?_) (fun l' H' L' le_12 hI => ?_)
  · obtain ⟨al3, ml3, cl3, es3, Nl3, rfl, _⟩ := h; exact ⟨rfl, rfl, rfl, rfl⟩
  ·
   obtain ⟨al3, ml3, cl3, es3, Nl3, rfl, rfl, pk30, pk31, pk32, pk33⟩ := hI
   refine sr ?_
   refine mv rfl rfl ?_
   refine asg rfl rfl ?_
   refine nl ?_
   refine sq ?_
   refine rgD 4 .nil mixed ?_
   refine dE 0 (by kernel_rfl) rfl ?_
   refine al Tryz.zeroValue4 rfl rfl (fun b_13 => ?_)
   refine dN .nil (Fz.le.refl _) ?_
   refine dE2 1 2 (by kernel_rfl) rfl rfl ?_ ?_
   ·
    refine st Tryz.sizeOf4 rfl rfl rfl rfl .head ?_
    refine dN .nil (Fz.le.refl _) ?_
    refine dE 2 (by kernel_rfl) rfl ?_
    refine st Tryz.sizeOf4 rfl rfl rfl rfl .head ?_
    refine dN .nil (Fz.le.refl _) ?_
    refine dE 3 (by kernel_rfl) rfl ?_
    refine ld (Says.own .head) Tryz.isAgg4 rfl (Nat.zero_add _).symm rfl rfl ?_
    refine dN .nil (Fz.le.refl _) ?_
    refine dD (by kernel_rfl) ?_
    refine drN .head ?_
    refine Nt ?_
    refine cF rfl ?_
    refine rgD 18 (.skip (.keep (.keep (.keep .nil)))) mixed ?_
    refine dT 0 rfl rfl rfl (by kernel_rfl) (fun _ _ _ h => h) (y_fa0 F37_3 rfl) (.skip (.keep (.keep (.keep .nil)))) (Fz.le.refl _) ?_
    refine dT 1 rfl rfl rfl (by kernel_rfl) (fun _ _ _ h => h) (y_ld (Says.own .head) Tryz.isAgg34 rfl (Nat.zero_add _).symm rfl) (.skip (.keep (.keep (.keep .nil)))) (Fz.le.refl _) ?_
    refine dT 2 rfl rfl rfl (by kernel_rfl) (fun _ _ _ h => h) (y_fa0 F37_3 rfl) (.skip (.keep (.keep (.keep .nil)))) (Fz.le.refl _) ?_
    refine dT 3 rfl rfl rfl (by kernel_rfl) (fun _ _ _ h => h) (y_ld (Says.own .head) Tryz.isAgg34 rfl (Nat.zero_add _).symm rfl) (.skip (.keep (.keep (.keep .nil)))) (Fz.le.refl _) ?_
    refine dT 4 rfl rfl rfl (by kernel_rfl) (fun _ _ _ h => h) (y_ix2 (j := 3) Tryz.runUnderlying34 Tryz.sizeOf37 rfl rfl rfl rfl (by decide)) (.skip (.keep (.keep (.keep .nil)))) (Fz.le.refl _) ?_
    refine dT 5 rfl rfl rfl (by kernel_rfl) (fun _ _ _ h => h) (y_fa F37_3 rfl) (.skip (.keep (.keep (.keep .nil)))) (Fz.le.refl _) ?_
    refine dT 6 rfl rfl rfl (by kernel_rfl) (fun _ _ _ h => h) (y_ld (Says.own (.tail .head)) Tryz.isAgg34 rfl (Nat.zero_add _).symm rfl) (.skip (.keep (.keep (.keep .nil)))) (Fz.le.refl _) ?_
    refine dT 7 rfl rfl rfl (by kernel_rfl) (fun _ _ _ h => h) (y_mv rfl) (.skip (.keep (.keep (.keep .nil)))) (Fz.le.refl _) ?_
    refine dT 8 rfl rfl rfl (by kernel_rfl) (fun _ _ _ h => h) (y_nc rfl) (.skip (.keep (.keep (.keep .nil)))) (Fz.le.refl _) ?_
    refine dT 9 rfl rfl rfl (by kernel_rfl) (fun _ _ _ h => h) (y_fa F307_3 rfl) (.skip (.keep (.keep (.keep .nil)))) (Fz.le.refl _) ?_
    refine dT 10 rfl rfl rfl (by kernel_rfl) (fun _ _ _ h => h) (y_ld (j := 3) (Says.fz (hb.mono (le_5.trans (hll2.trans le_11)))) Tryz.isAgg305 rfl rfl rfl) (.skip (.keep (.keep (.keep .nil)))) (Fz.le.refl _) ?_
    refine dT 11 rfl rfl rfl (by kernel_rfl) (fun _ _ _ h => h) (y_mv rfl) (.skip (.keep (.keep (.keep .nil)))) (Fz.le.refl _) ?_
    obtain ⟨beq_14, oeq_14, haq_14, hlq_14⟩ := ((h2.mono At_AlterPartitionRequestTopicPartitionNewEpochISR.mono (le_5.trans (hll2.trans le_11)))).rows.at_ (ne_nil_of_lt hk3)
    obtain ⟨ceq_14, hAq_14, hbq_14⟩ := hlq_14 k3 hk3
    refine dT 12 rfl rfl rfl (by kernel_rfl) (fun _ _ _ h => h) (y_ixk (j := k3) Tryz.runUnderlying305 Tryz.sizeOf310 rfl haq_14 rfl rfl hk3) (.skip (.keep (.keep (.keep .nil)))) (Fz.le.refl _) ?_
    refine dE 13 (by kernel_rfl) rfl ?_
    refine cl rfl rfl rfl (te_AlterPartitionRequestTopicPartitionNewEpochISR hbq_14 (At_AlterPartitionRequestTopicPartitionNewEpochISR.mono _ _ _ _ (Fz.le.refl _) hAq_14) ((hf.at 3).lTel (List.getElem_mem hk3))) rfl (fun v_ H1 L1 le_15 hR_ => ?_)
    obtain ⟨rfl, ct136, rfl, hT136⟩ := hR_
    refine dN (.skip (.keep (.keep (.keep .nil)))) le_15 ?_
    refine dE 14 (by kernel_rfl) rfl ?_
    refine bs' L34 rfl rfl rfl rfl (fun b_16 => ?_)
    refine dN (.skip (.skip (.keep (.keep (.keep .nil))))) le_15 ?_
    refine dE 15 (by kernel_rfl) rfl ?_
    have hmk : ml3 = k3 := by have h1 := congrArg List.length pk32; rw [List.length_map, List.length_map, List.length_take] at h1; omega
    have hmb := (hf.at 3).lTl
    refine ap (k := 1) (news := f5 ((ct136, tl_AlterPartitionRequestTopicPartitionNewEpochISR (lT (T.at 3))[k3]) : EE)) Tryz.underlying34 I37 rfl rfl pk30 (fun _ => (.tail .head)) (src_says Tryz.underlying34 rfl (fun _ => Says.own .head) (f5_one _)) (by omega) (by unfold maxLen; omega) rfl (fun a138 c138 N138 r138 z138 => ?_)
    rw [flatMap_snoc'] at r138
    refine dN (.skip (.skip (.keep (.keep (.keep .nil))))) le_15 ?_
    refine dE 16 (by kernel_rfl) rfl ?_
    refine ixk (j := 3) Tryz.runUnderlying34 Tryz.sizeOf37 rfl rfl rfl rfl (by decide) rfl ?_
    refine dN (.skip (.skip (.keep (.keep (.keep .nil))))) le_15 ?_
    refine dT 17 rfl rfl rfl (by kernel_rfl) (fun _ _ _ h => h) (y_fa F37_3 rfl) (.skip (.skip (.keep (.keep (.keep .nil))))) le_15 ?_
    refine dE 18 (by kernel_rfl) rfl ?_
    refine st Tryz.sizeOf34 rfl rfl rfl rfl (.tail (.tail (.tail .head))) ?_
    refine dNk (by kernel_rfl) ?_
    refine dD (by kernel_rfl) ?_
    refine Nb ?_
    refine drN .head ?_
    refine fun a_ w_ hA hw => ⟨_, _, _, hA.sub ?_, (le_11.trans le_15), hw, _, rfl, a138, (ml3 + 1), c138, (es3 ++ [((ct136, tl_AlterPartitionRequestTopicPartitionNewEpochISR (lT (T.at 3))[k3]) : EE)]), N138, rfl, rfl, r138, (by simp; omega), (map_take_snoc (g := tl_AlterPartitionRequestTopicPartitionNewEpochISR) hk3 pk32), (fun p hp => (mem_snoc hp).elim (fun h => (pk33 p h).mono le_15) (fun h => h ▸ hT136))⟩
    exact (.cons rfl (.cons rfl (.cons rfl (.cons rfl (.cons rfl (.nil _))))))
   ·
    refine st Tryz.sizeOf4 rfl rfl rfl rfl .head ?_
    refine dN .nil (Fz.le.refl _) ?_
    refine dE 1 (by kernel_rfl) rfl ?_
    refine st Tryz.sizeOf4 rfl rfl rfl rfl .head ?_
    refine dN .nil (Fz.le.refl _) ?_
    refine dE 3 (by kernel_rfl) rfl ?_
    refine ld (Says.own .head) Tryz.isAgg4 rfl (Nat.zero_add _).symm rfl rfl ?_
    refine dN .nil (Fz.le.refl _) ?_
    refine dD (by kernel_rfl) ?_
    refine drN .head ?_
    refine Nt ?_
    refine cT rfl ?_
    refine sq ?_
    refine rgD 17 (.skip (.keep (.keep (.keep .nil)))) mixed ?_
    refine dT 0 rfl rfl rfl (by kernel_rfl) (fun _ _ _ h => h) (y_fa0 F37_3 rfl) (.skip (.keep (.keep (.keep .nil)))) (Fz.le.refl _) ?_
    refine dT 1 rfl rfl rfl (by kernel_rfl) (fun _ _ _ h => h) (y_ld (Says.own .head) Tryz.isAgg34 rfl (Nat.zero_add _).symm rfl) (.skip (.keep (.keep (.keep .nil)))) (Fz.le.refl _) ?_
    refine dT 2 rfl rfl rfl (by kernel_rfl) (fun _ _ _ h => h) (y_ix2 (j := 3) Tryz.runUnderlying34 Tryz.sizeOf37 rfl rfl rfl rfl (by decide)) (.skip (.keep (.keep (.keep .nil)))) (Fz.le.refl _) ?_
    refine dT 3 rfl rfl rfl (by kernel_rfl) (fun _ _ _ h => h) (y_fa F37_3 rfl) (.skip (.keep (.keep (.keep .nil)))) (Fz.le.refl _) ?_
    refine dT 4 rfl rfl rfl (by kernel_rfl) (fun _ _ _ h => h) (y_ld (Says.own (.tail .head)) Tryz.isAgg34 rfl (Nat.zero_add _).symm rfl) (.skip (.keep (.keep (.keep .nil)))) (Fz.le.refl _) ?_
    refine dT 5 rfl rfl rfl (by kernel_rfl) (fun _ _ _ h => h) (y_mv rfl) (.skip (.keep (.keep (.keep .nil)))) (Fz.le.refl _) ?_
    refine dT 6 rfl rfl rfl (by kernel_rfl) (fun _ _ _ h => h) (y_nc rfl) (.skip (.keep (.keep (.keep .nil)))) (Fz.le.refl _) ?_
    refine dT 7 rfl rfl rfl (by kernel_rfl) (fun _ _ _ h => h) (y_fa F307_3 rfl) (.skip (.keep (.keep (.keep .nil)))) (Fz.le.refl _) ?_
    refine dT 8 rfl rfl rfl (by kernel_rfl) (fun _ _ _ h => h) (y_ld (j := 3) (Says.fz (hb.mono (le_5.trans (hll2.trans le_11)))) Tryz.isAgg305 rfl rfl rfl) (.skip (.keep (.keep (.keep .nil)))) (Fz.le.refl _) ?_
    refine dT 9 rfl rfl rfl (by kernel_rfl) (fun _ _ _ h => h) (y_mv rfl) (.skip (.keep (.keep (.keep .nil)))) (Fz.le.refl _) ?_
    obtain ⟨beq_17, oeq_17, haq_17, hlq_17⟩ := ((h2.mono At_AlterPartitionRequestTopicPartitionNewEpochISR.mono (le_5.trans (hll2.trans le_11)))).rows.at_ (ne_nil_of_lt hk3)
    obtain ⟨ceq_17, hAq_17, hbq_17⟩ := hlq_17 k3 hk3
    refine dT 10 rfl rfl rfl (by kernel_rfl) (fun _ _ _ h => h) (y_ixk (j := k3) Tryz.runUnderlying305 Tryz.sizeOf310 rfl haq_17 rfl rfl hk3) (.skip (.keep (.keep (.keep .nil)))) (Fz.le.refl _) ?_
    refine dT 12 rfl rfl rfl (by kernel_rfl) (fun _ _ _ h => h) (y_ls Tryz.runUnderlying34 rfl) (.skip (.keep (.keep (.keep .nil)))) (Fz.le.refl _) ?_
    refine dE2 11 13 (by kernel_rfl) rfl rfl ?_ ?_
    ·
     refine cl rfl rfl rfl (te_AlterPartitionRequestTopicPartitionNewEpochISR hbq_17 (At_AlterPartitionRequestTopicPartitionNewEpochISR.mono _ _ _ _ (Fz.le.refl _) hAq_17) ((hf.at 3).lTel (List.getElem_mem hk3))) rfl (fun v_ H1 L1 le_18 hR_ => ?_)
     obtain ⟨rfl, ct116, rfl, hT116⟩ := hR_
     refine dN (.skip (.keep (.keep (.keep .nil)))) le_18 ?_
     refine dE 13 (by kernel_rfl) rfl ?_
     refine bs' L34 rfl rfl rfl rfl (fun b_19 => ?_)
     refine dN (.skip (.skip (.keep (.keep (.keep .nil))))) le_18 ?_
     refine dE 14 (by kernel_rfl) rfl ?_
     have hmk : ml3 = k3 := by have h1 := congrArg List.length pk32; rw [List.length_map, List.length_map, List.length_take] at h1; omega
     have hmb := (hf.at 3).lTl
     refine ap (k := 1) (news := f5 ((TC.none, Tr.none) : EE)) Tryz.underlying34 I37 rfl rfl pk30 (fun _ => (.tail .head)) (src_says Tryz.underlying34 rfl (fun _ => Says.own .head) (f5_one _)) (by omega) (by unfold maxLen; omega) rfl (fun a119 c119 N119 r119 z119 => ?_)
     refine dN (.skip (.skip (.keep (.keep (.keep .nil))))) le_18 ?_
     refine dE 15 (by kernel_rfl) rfl ?_
     refine ixk (j := 3) Tryz.runUnderlying34 Tryz.sizeOf37 rfl rfl rfl rfl (by decide) rfl ?_
     refine dN (.skip (.skip (.keep (.keep (.keep .nil))))) le_18 ?_
     refine dT 16 rfl rfl rfl (by kernel_rfl) (fun _ _ _ h => h) (y_fa F37_3 rfl) (.skip (.skip (.keep (.keep (.keep .nil))))) le_18 ?_
     refine dE 17 (by kernel_rfl) rfl ?_
     refine st Tryz.sizeOf34 rfl rfl rfl rfl (.tail (.tail (.tail .head))) ?_
     refine dNk (by kernel_rfl) ?_
     refine dD (by kernel_rfl) ?_
     refine Nt ?_
     refine rg ?_
     obtain ⟨gg119, hgg119⟩ := r119.addr (by omega)
     refine ixk (j := ml3) Tryz.runUnderlying34 Tryz.sizeOf37 rfl hgg119 rfl rfl (by omega) rfl ?_
     refine sR (ds := f5 ((ct116, tl_AlterPartitionRequestTopicPartitionNewEpochISR (lT (T.at 3))[k3]) : EE)) r119 hgg119 (fun _ => (.tail .head)) Tryz.sizeOf37 rfl rfl rfl rfl (by omega) (fun N119b r119b => ?_)
     rw [row_put (k := 5) (m := ml3) (A := es3.flatMap f5) (by rw [flatMap_len f5 5 f5_len, pk31]) rfl, flatMap_snoc'] at r119b
     refine nN ?_
     refine Nb ?_
     refine drN .head ?_
     refine fun a_ w_ hA hw => ⟨_, _, _, hA.sub ?_, (le_11.trans le_18), hw, _, rfl, a119, (ml3 + 1), c119, (es3 ++ [((ct116, tl_AlterPartitionRequestTopicPartitionNewEpochISR (lT (T.at 3))[k3]) : EE)]), N119b, rfl, rfl, r119b, (by simp; omega), (map_take_snoc (g := tl_AlterPartitionRequestTopicPartitionNewEpochISR) hk3 pk32), (fun p hp => (mem_snoc hp).elim (fun h => (pk33 p h).mono le_18) (fun h => h ▸ hT116))⟩
     exact (.cons rfl (.cons rfl (.cons rfl (.cons rfl (.cons rfl (.nil _))))))
    ·
     refine bs' L34 rfl rfl rfl rfl (fun b_20 => ?_)
     refine dN (.skip (.skip (.keep (.keep (.keep .nil))))) (Fz.le.refl _) ?_
     refine dE 11 (by kernel_rfl) rfl ?_
     refine cl rfl rfl rfl (te_AlterPartitionRequestTopicPartitionNewEpochISR hbq_17 (At_AlterPartitionRequestTopicPartitionNewEpochISR.mono _ _ _ _ (Fz.le.refl _) hAq_17) ((hf.at 3).lTel (List.getElem_mem hk3))) rfl (fun v_ H1 L1 le_21 hR_ => ?_)
     obtain ⟨rfl, ct116, rfl, hT116⟩ := hR_
     refine dN (.skip (.skip (.keep (.keep (.keep .nil))))) le_21 ?_
     refine dE 14 (by kernel_rfl) rfl ?_
     have hmk : ml3 = k3 := by have h1 := congrArg List.length pk32; rw [List.length_map, List.length_map, List.length_take] at h1; omega
     have hmb := (hf.at 3).lTl
     refine ap (k := 1) (news := f5 ((TC.none, Tr.none) : EE)) Tryz.underlying34 I37 rfl rfl pk30 (fun _ => (.tail .head)) (src_says Tryz.underlying34 rfl (fun _ => Says.own .head) (f5_one _)) (by omega) (by unfold maxLen; omega) rfl (fun a119 c119 N119 r119 z119 => ?_)
     refine dN (.skip (.skip (.keep (.keep (.keep .nil))))) le_21 ?_
     refine dE 15 (by kernel_rfl) rfl ?_
     refine ixk (j := 3) Tryz.runUnderlying34 Tryz.sizeOf37 rfl rfl rfl rfl (by decide) rfl ?_
     refine dN (.skip (.skip (.keep (.keep (.keep .nil))))) le_21 ?_
     refine dT 16 rfl rfl rfl (by kernel_rfl) (fun _ _ _ h => h) (y_fa F37_3 rfl) (.skip (.skip (.keep (.keep (.keep .nil))))) le_21 ?_
     refine dE 17 (by kernel_rfl) rfl ?_
     refine st Tryz.sizeOf34 rfl rfl rfl rfl (.tail (.tail (.tail .head))) ?_
     refine dNk (by kernel_rfl) ?_
     refine dD (by kernel_rfl) ?_
     refine Nt ?_
     refine rg ?_
     obtain ⟨gg119, hgg119⟩ := r119.addr (by omega)
     refine ixk (j := ml3) Tryz.runUnderlying34 Tryz.sizeOf37 rfl hgg119 rfl rfl (by omega) rfl ?_
     refine sR (ds := f5 ((ct116, tl_AlterPartitionRequestTopicPartitionNewEpochISR (lT (T.at 3))[k3]) : EE)) r119 hgg119 (fun _ => (.tail .head)) Tryz.sizeOf37 rfl rfl rfl rfl (by omega) (fun N119b r119b => ?_)
     rw [row_put (k := 5) (m := ml3) (A := es3.flatMap f5) (by rw [flatMap_len f5 5 f5_len, pk31]) rfl, flatMap_snoc'] at r119b
     refine nN ?_
     refine Nb ?_
     refine drN .head ?_
     refine fun a_ w_ hA hw => ⟨_, _, _, hA.sub ?_, (le_11.trans le_21), hw, _, rfl, a119, (ml3 + 1), c119, (es3 ++ [((ct116, tl_AlterPartitionRequestTopicPartitionNewEpochISR (lT (T.at 3))[k3]) : EE)]), N119b, rfl, rfl, r119b, (by simp; omega), (map_take_snoc (g := tl_AlterPartitionRequestTopicPartitionNewEpochISR) hk3 pk32), (fun p hp => (mem_snoc hp).elim (fun h => (pk33 p h).mono le_21) (fun h => h ▸ hT116))⟩
     exact (.cons rfl (.cons rfl (.cons rfl (.cons rfl (.cons rfl (.nil _))))))
  ·
   obtain ⟨al3, ml3, cl3, es3, Nl3, rfl, rfl, pk30, pk31, pk32, pk33⟩ := hI
   refine toWp ?_
   have hes3 : es3.map (·.2) = (lT (T.at 3)).map tl_AlterPartitionRequestTopicPartitionNewEpochISR := by rw [pk32, List.take_length]
   have hm3 : ml3 = ((lT (T.at 3)).map tl_AlterPartitionRequestTopicPartitionNewEpochISR).length := by rw [← hes3, List.length_map]; exact pk31
   refine frW pk30 .head (fun Hl3 hll3 hzl3 => ?_)
   have ht3 := TreesAt.row hzl3 pk31 pk30.le.1 (by have h1 := congrArg List.length hes3; rw [List.length_map, List.length_map] at h1; unfold B47; omega) (fun p hp => (pk33 p hp).mono hll3)
   rw [hes3] at ht3
   subst hm3
   refine sq ?_
   refine rgD 9 (.keep (.keep (.keep .nil))) mixed ?_
   refine dT 0 rfl rfl rfl (by kernel_rfl) (fun _ _ _ h => h) (y_fa0 F37_3 rfl) (.keep (.keep (.keep .nil))) (Fz.le.refl _) ?_
   refine dT 1 rfl rfl rfl (by kernel_rfl) (fun _ _ _ h => h) (y_ld (Says.own .head) Tryz.isAgg34 rfl (Nat.zero_add _).symm rfl) (.keep (.keep (.keep .nil))) (Fz.le.refl _) ?_
   refine dT 2 rfl rfl rfl (by kernel_rfl) (fun _ _ _ h => h) (y_mv rfl) (.keep (.keep (.keep .nil))) (Fz.le.refl _) ?_
   refine dT 3 rfl rfl rfl (by kernel_rfl) (fun _ _ _ h => h) (y_nc rfl) (.keep (.keep (.keep .nil))) (Fz.le.refl _) ?_
   refine dT 4 rfl rfl rfl (by kernel_rfl) (fun _ _ _ h => h) (y_fa F307_4 rfl) (.keep (.keep (.keep .nil))) (Fz.le.refl _) ?_
   refine dT 5 rfl rfl rfl (by kernel_rfl) (fun _ _ _ h => h) (y_ld (j := 4) (Says.fz (hb.mono (le_5.trans (hll2.trans (le_12.trans hll3))))) Tryz.isAgg202 rfl rfl rfl) (.keep (.keep (.keep .nil))) (Fz.le.refl _) ?_
   refine dT 6 rfl rfl rfl (by kernel_rfl) (fun _ _ _ h => h) (y_cv Tryz.runUnderlying202 Tryz.runUnderlying2 rfl (i8_64 _)) (.keep (.keep (.keep .nil))) (Fz.le.refl _) ?_
   refine dT 7 rfl rfl rfl (by kernel_rfl) (fun _ _ _ h => h) (y_bd S37 rfl rfl) (.keep (.keep (.keep .nil))) (Fz.le.refl _) ?_
   refine dT 8 rfl rfl rfl (by kernel_rfl) (fun _ _ _ h => h) (y_ix2 (j := 4) Tryz.runUnderlying34 Tryz.sizeOf37 rfl rfl rfl rfl (by decide)) (.keep (.keep (.keep .nil))) (Fz.le.refl _) ?_
   refine dE 9 (by kernel_rfl) rfl ?_
   refine sa Tryz.sizeOf37 rfl rfl rfl rfl rfl (.tail .head) ?_
   refine dNk (by kernel_rfl) ?_
   refine dD (by kernel_rfl) ?_
   refine Nt ?_
   refine sq ?_
   refine rgD 9 (.keep (.keep (.keep .nil))) mixed ?_
   refine dT 0 rfl rfl rfl (by kernel_rfl) (fun _ _ _ h => h) (y_fa0 F37_3 rfl) (.keep (.keep (.keep .nil))) (Fz.le.refl _) ?_
   refine dT 1 rfl rfl rfl (by kernel_rfl) (fun _ _ _ h => h) (y_ld (Says.own .head) Tryz.isAgg34 rfl (Nat.zero_add _).symm rfl) (.keep (.keep (.keep .nil))) (Fz.le.refl _) ?_
   refine dT 2 rfl rfl rfl (by kernel_rfl) (fun _ _ _ h => h) (y_mv rfl) (.keep (.keep (.keep .nil))) (Fz.le.refl _) ?_
   refine dT 3 rfl rfl rfl (by kernel_rfl) (fun _ _ _ h => h) (y_nc rfl) (.keep (.keep (.keep .nil))) (Fz.le.refl _) ?_
   refine dT 4 rfl rfl rfl (by kernel_rfl) (fun _ _ _ h => h) (y_fa F307_5 rfl) (.keep (.keep (.keep .nil))) (Fz.le.refl _) ?_
   refine dT 5 rfl rfl rfl (by kernel_rfl) (fun _ _ _ h => h) (y_ld (j := 5) (Says.fz (hb.mono (le_5.trans (hll2.trans (le_12.trans hll3))))) Tryz.isAgg21 rfl rfl rfl) (.keep (.keep (.keep .nil))) (Fz.le.refl _) ?_
   refine dT 6 rfl rfl rfl (by kernel_rfl) (fun _ _ _ h => h) (y_cv Tryz.runUnderlying21 Tryz.runUnderlying2 rfl (i32_64 _)) (.keep (.keep (.keep .nil))) (Fz.le.refl _) ?_
   refine dT 7 rfl rfl rfl (by kernel_rfl) (fun _ _ _ h => h) (y_bd S37 rfl rfl) (.keep (.keep (.keep .nil))) (Fz.le.refl _) ?_
   refine dT 8 rfl rfl rfl (by kernel_rfl) (fun _ _ _ h => h) (y_ix2 (j := 5) Tryz.runUnderlying34 Tryz.sizeOf37 rfl rfl rfl rfl (by decide)) (.keep (.keep (.keep .nil))) (Fz.le.refl _) ?_
   refine dE 9 (by kernel_rfl) rfl ?_
   refine sa Tryz.sizeOf37 rfl rfl rfl rfl rfl (.tail .head) ?_
   refine dNk (by kernel_rfl) ?_
   refine dD (by kernel_rfl) ?_
   refine Nt ?_
   refine sr ?_
   refine mv rfl rfl ?_
   refine nc rfl rfl ?_
   refine fa F307_6 rfl rfl ?_
   refine mkf rfl rfl ?_
   have hkv_ := (h3.mono (le_5.trans (hll2.trans (le_12.trans hll3))))
   obtain ⟨kvs, hM, hlen, hel⟩ := hkv_
   have hfu := hf.u
   refine cl rfl rfl rfl (t_each (j := 6) (I := fun i H1 Y => TgI 72 b_3 37 (.int .i64 0) (.slice none 0 0) (.bool false) (_) T.u i H1 Y) (hb.mono (le_5.trans (hll2.trans (le_12.trans hll3)))) rfl hM (by omega) (fun i H1 H2 Y hle h => h.mono hle) TgI.start (fun i k v H1 Y L1 hi hle hI => ?_)) rfl (fun v_ H1 L1 le_23 hR_ => ?_)
   ·
    obtain ⟨s, h1, ⟨va, vc, rfl, hx⟩, h2, h3⟩ := hel i k v hi
    have hik := sortKv_lt hi
    exact TgI.step (fun {_ _ _ _ _ _ _ _ _ _ _ _ _ _ _ _} => tc_318) hf.v (by omega) h1 (hx.mono hle) h2 h3 hI
   rw [hlen] at hR_
   obtain ⟨_, rfl, aU, cU, NU, esU, rfl, hrU, heU, hgU⟩ := hR_
   refine splL ?_
   rw [List.take_length] at heU
   refine frL hrU (.tail .head) (fun HU hleU hzU => ?_)
   have hU := (TagsAt.told hzU hrU heU hfu (fun p hp => (hgU p hp).mono hleU)).1
   refine nl ?_
   refine sr ?_
   refine fa0 F37_4 rfl rfl ?_
   refine ld (Says.own .head) Tryz.isAgg35 rfl (Nat.zero_add _).symm rfl rfl ?_
   refine cl rfl rfl rfl (k_sorted hU (h3.mono (le_5.trans (hll2.trans (le_12.trans (hll3.trans (le_23.trans hleU)))))).rise) rfl (fun v_ H1 L1 hle_ hR_ => ?_)
   obtain ⟨rfl, rfl⟩ := hR_
   refine nl ?_
   refine sr ?_
   refine la (Says.own .head) Tryz.isAgg37 Tryz.sizeOf37 rfl (Nat.zero_add _).symm rfl rfl ?_
   refine sa Tryz.sizeOf37 rfl rfl rfl rfl rfl (.tail (.tail .head)) ?_
   refine nl ?_
   refine drW .head ?_
   refine frW (Row.whole (e := 37) (size := 5) (m := 6) (ds := [.int .i64 (IntKind.i32.wrap (T.at 0).n), .slice none 0 0, .bool false, .slice none 0 0, .slice none 0 0, .int .i64 (IntKind.i32.wrap (T.at 1).n), .slice none 0 0, .bool false, .slice none 0 0, .slice none 0 0, .int .i64 0, .slice none 0 0, .bool a2.isNone, .slice al2 ((lT (T.at 2)).map (fun y : Tr => (Tr.mk (IntKind.i32.wrap y.n) [] false [] [] : Tr))).length cl2, .slice none 0 0, .int .i64 0, .slice none 0 0, .bool a3.isNone, .slice al3 ((lT (T.at 3)).map tl_AlterPartitionRequestTopicPartitionNewEpochISR).length cl3, .slice none 0 0, .int .i64 (IntKind.i8.wrap (T.at 4).n), .slice none 0 0, .bool false, .slice none 0 0, .slice none 0 0, .int .i64 (IntKind.i32.wrap (T.at 5).n), .slice none 0 0, .bool false, .slice none 0 0, .slice none 0 0]) rfl (by unfold maxLen; omega)) .head (fun H9 hle9 hz9 => ?_)
   have hrb : H9.at b_2 0 [.int .i64 (IntKind.i32.wrap (T.at 0).n), .slice none 0 0, .bool false, .slice none 0 0, .slice none 0 0, .int .i64 (IntKind.i32.wrap (T.at 1).n), .slice none 0 0, .bool false, .slice none 0 0, .slice none 0 0, .int .i64 0, .slice none 0 0, .bool a2.isNone, .slice al2 ((lT (T.at 2)).map (fun y : Tr => (Tr.mk (IntKind.i32.wrap y.n) [] false [] [] : Tr))).length cl2, .slice none 0 0, .int .i64 0, .slice none 0 0, .bool a3.isNone, .slice al3 ((lT (T.at 3)).map tl_AlterPartitionRequestTopicPartitionNewEpochISR).length cl3, .slice none 0 0, .int .i64 (IntKind.i8.wrap (T.at 4).n), .slice none 0 0, .bool false, .slice none 0 0, .slice none 0 0, .int .i64 (IntKind.i32.wrap (T.at 5).n), .slice none 0 0, .bool false, .slice none 0 0, .slice none 0 0] := by
    rcases hz9 with ⟨h, _⟩ | ⟨g, h, h2⟩
    · cases h
    · cases h; exact h2
   rw [(h1).nul, (h2).nul] at hrb
   have hrb2 : H9.at b_2 0 (([((TC.none : TC), (Tr.mk (IntKind.i32.wrap (T.at 0).n) [] false [] [] : Tr)), ((TC.none : TC), (Tr.mk (IntKind.i32.wrap (T.at 1).n) [] false [] [] : Tr)), ((⟨none, 0, al2, cl2, none, 0⟩ : TC), (Tr.mk 0 [] (T.at 2).nul ((lT (T.at 2)).map (fun y : Tr => (Tr.mk (IntKind.i32.wrap y.n) [] false [] [] : Tr))) [] : Tr)), ((⟨none, 0, al3, cl3, none, 0⟩ : TC), (Tr.mk 0 [] (T.at 3).nul ((lT (T.at 3)).map tl_AlterPartitionRequestTopicPartitionNewEpochISR) [] : Tr)), ((TC.none : TC), (Tr.mk (IntKind.i8.wrap (T.at 4).n) [] false [] [] : Tr)), ((TC.none : TC), (Tr.mk (IntKind.i32.wrap (T.at 5).n) [] false [] [] : Tr))] : List EE).flatMap fun p => p.1.cells p.2) := by exact hrb
   have hl9 : TreesAt H9 (some ⟨b_2, 0, none⟩) 6 [(.mk (IntKind.i32.wrap (T.at 0).n) [] false [] []), (.mk (IntKind.i32.wrap (T.at 1).n) [] false [] []), (.mk 0 [] (T.at 2).nul ((lT (T.at 2)).map (fun y : Tr => (Tr.mk (IntKind.i32.wrap y.n) [] false [] [] : Tr))) []), (.mk 0 [] (T.at 3).nul ((lT (T.at 3)).map tl_AlterPartitionRequestTopicPartitionNewEpochISR) []), (.mk (IntKind.i8.wrap (T.at 4).n) [] false [] []), (.mk (IntKind.i32.wrap (T.at 5).n) [] false [] [])] := by
    refine TreesAt.row (es := [((TC.none : TC), (Tr.mk (IntKind.i32.wrap (T.at 0).n) [] false [] [] : Tr)), ((TC.none : TC), (Tr.mk (IntKind.i32.wrap (T.at 1).n) [] false [] [] : Tr)), ((⟨none, 0, al2, cl2, none, 0⟩ : TC), (Tr.mk 0 [] (T.at 2).nul ((lT (T.at 2)).map (fun y : Tr => (Tr.mk (IntKind.i32.wrap y.n) [] false [] [] : Tr))) [] : Tr)), ((⟨none, 0, al3, cl3, none, 0⟩ : TC), (Tr.mk 0 [] (T.at 3).nul ((lT (T.at 3)).map tl_AlterPartitionRequestTopicPartitionNewEpochISR) [] : Tr)), ((TC.none : TC), (Tr.mk (IntKind.i8.wrap (T.at 4).n) [] false [] [] : Tr)), ((TC.none : TC), (Tr.mk (IntKind.i32.wrap (T.at 5).n) [] false [] [] : Tr))]) (.inr ⟨_, rfl, hrb2⟩) rfl (Nat.le_refl _) (Nat.le_of_ble_eq_true rfl) ?_
    intro p hp
    simp only [List.mem_cons, List.not_mem_nil, or_false] at hp
    rcases hp with rfl | rfl | rfl | rfl | rfl | rfl
    · exact (.of (.nil _) (.nil _) (.nil _))
    · exact (.of (.nil _) (.nil _) (.nil _))
    · exact (.of (.nil _) (ht2.mono (le_12.trans (hll3.trans (le_23.trans (hleU.trans hle9))))) (.nil _))
    · exact (.of (.nil _) (ht3.mono (le_23.trans (hleU.trans hle9))) (.nil _))
    · exact (.of (.nil _) (.nil _) (.nil _))
    · exact (.of (.nil _) (.nil _) (.nil _))
   exact rC rfl Tryz.isAgg37 Tryz.sizeOf37 rfl .head rfl (le_5.trans (hll2.trans (le_12.trans (hll3.trans (le_23.trans (hleU.trans hle9)))))) (fun _ _ h => h) ⟨rfl, ⟨none, 0, some ⟨b_2, 0, none⟩, 6, aU, cU⟩, rfl, .of (.nil _) hl9 (hU.mono hle9)⟩
def tl_AlterPartitionRequestTopic (T : Tr) : Tr := .mk 0 [] false [(.mk 0 (T.at 0).s false [] []), (.mk 0 (pad16 (T.at 1).s) false [] []), (.mk 0 [] (T.at 2).nul ((lT (T.at 2)).map tl_AlterPartitionRequestTopicPartition) [])] T.u
theorem te_AlterPartitionRequestTopic {H : Fz} {L : Own} {b o : Nat} {cs : List Value} {T : Tr} (hb : H.at b o cs) (hA : At_AlterPartitionRequestTopic H T cs) (hf : Fits T) :
  Fn Tryz.prog 187 [.pointer (some ⟨b, o, none⟩)] H L (fun v H' L' => L = L' ∧ ∃ c : TC, v = .agg (c.cells (tl_AlterPartitionRequestTopic T)).toArray ∧ TreeAt H' c (tl_AlterPartitionRequestTopic T)) := by
 obtain ⟨a2, c2, mt, rfl, h1, h2⟩ := hA
 refine Fn.mk Tryz.call187 Tryz.func187 rfl Tryz.ntmps187 rfl ?_
 refine sr ?_
 refine al Tryz.zeroValue37 rfl rfl (fun b_1 => ?_)
 refine nl ?_
 refine sr ?_
 refine mkC (m := 3) (zs := [.int .i64 0, .slice none 0 0, .bool false, .slice none 0 0, .slice none 0 0]) Tryz.underlying34 I37 rfl rfl rfl rfl rfl rfl (by decide) (by unfold maxLen; omega) rfl (fun b_2 => ?_)
 refine bd' S37 rfl rfl rfl ?_
 refine al Tryz.zeroValue37 rfl rfl (fun b_3 => ?_)
 refine sa Tryz.sizeOf37 rfl rfl rfl rfl rfl .head ?_
 refine nl ?_
 refine sq ?_
 refine rgD 9 (.keep (.keep (.keep .nil))) mixed ?_
 refine dT 0 rfl rfl rfl (by kernel_rfl) (fun _ _ _ h => h) (y_fa0 F37_3 rfl) (.keep (.keep (.keep .nil))) (Fz.le.refl _) ?_
 refine dT 1 rfl rfl rfl (by kernel_rfl) (fun _ _ _ h => h) (y_ld (Says.own .head) Tryz.isAgg34 rfl (Nat.zero_add _).symm rfl) (.keep (.keep (.keep .nil))) (Fz.le.refl _) ?_
 refine dT 2 rfl rfl rfl (by kernel_rfl) (fun _ _ _ h => h) (y_mv rfl) (.keep (.keep (.keep .nil))) (Fz.le.refl _) ?_
 refine dT 3 rfl rfl rfl (by kernel_rfl) (fun _ _ _ h => h) (y_nc rfl) (.keep (.keep (.keep .nil))) (Fz.le.refl _) ?_
 refine dT 4 rfl rfl rfl (by kernel_rfl) (fun _ _ _ h => h) (y_fa F201_0 rfl) (.keep (.keep (.keep .nil))) (Fz.le.refl _) ?_
 refine dT 5 rfl rfl rfl (by kernel_rfl) (fun _ _ _ h => h) (y_ld (j := 0) (Says.fz hb) Tryz.isAgg9 rfl (Nat.add_zero _).symm rfl) (.keep (.keep (.keep .nil))) (Fz.le.refl _) ?_
 refine dE 6 (by kernel_rfl) rfl ?_
 refine csb Tryz.underlying9 Tryz.underlying22 Tryz.underlying5 rfl (by have := (hf.at 0).s; unfold B47; omega) rfl (fun Hb13 b13 cp13 le_4 hb13 => ?_)
 refine dN (.keep (.keep (.keep .nil))) le_4 ?_
 refine dT 7 rfl rfl rfl (by kernel_rfl) (fun _ _ _ h => h) (y_bd S37 rfl rfl) (.keep (.keep (.keep .nil))) le_4 ?_
 refine dT 8 rfl rfl rfl (by kernel_rfl) (fun _ _ _ h => h) (y_ix2 (j := 0) Tryz.runUnderlying34 Tryz.sizeOf37 rfl rfl rfl rfl (by decide)) (.keep (.keep (.keep .nil))) le_4 ?_
 refine dE 9 (by kernel_rfl) rfl ?_
 refine sa Tryz.sizeOf37 rfl rfl rfl rfl rfl (.tail .head) ?_
 refine dNk (by kernel_rfl) ?_
 refine dD (by kernel_rfl) ?_
 refine Nt ?_
 refine sq ?_
 refine rgD 9 (.keep (.keep (.keep .nil))) mixed ?_
 refine dT 0 rfl rfl rfl (by kernel_rfl) (fun _ _ _ h => h) (y_fa0 F37_3 rfl) (.keep (.keep (.keep .nil))) (Fz.le.refl _) ?_
 refine dT 1 rfl rfl rfl (by kernel_rfl) (fun _ _ _ h => h) (y_ld (Says.own .head) Tryz.isAgg34 rfl (Nat.zero_add _).symm rfl) (.keep (.keep (.keep .nil))) (Fz.le.refl _) ?_
 refine dT 2 rfl rfl rfl (by kernel_rfl) (fun _ _ _ h => h) (y_mv rfl) (.keep (.keep (.keep .nil))) (Fz.le.refl _) ?_
 refine dT 3 rfl rfl rfl (by kernel_rfl) (fun _ _ _ h => h) (y_nc rfl) (.keep (.keep (.keep .nil))) (Fz.le.refl _) ?_
 refine dT 4 rfl rfl rfl (by kernel_rfl) (fun _ _ _ h => h) (y_fa F201_1 rfl) (.keep (.keep (.keep .nil))) (Fz.le.refl _) ?_
 refine dT 5 rfl rfl rfl (by kernel_rfl) (fun _ _ _ h => h) (y_slA Tryz.runUnderlying182 Tryz.sizeOf5 rfl) (.keep (.keep (.keep .nil))) (Fz.le.refl _) ?_
 refine dE 6 (by kernel_rfl) rfl ?_
 have hq22 := pad16_len (T.at 1).s
 refine apn (k := 16) (news := bytesOf (pad16 (T.at 1).s)) Tryz.underlying22 I5 rfl rfl (src_says (m := 16) (size := 1) Tryz.underlying22 (by rw [bytesOf_length, hq22]) (fun _ => Says.fz (by rw [← u16_eq]; exact ((hb.mono le_4).part 1 16))) (bytesOf_one _)) (by omega) (by unfold maxLen; omega) rfl (fun a22 c22 N22 r22 => ?_)
 refine frL r22 .head (fun Hu22 hlu22 hz22 => ?_)
 have hb22 := BytesAt.row hz22 r22 (by rw [hq22]; unfold B47; omega)
 refine dN (.keep (.keep (.keep .nil))) hlu22 ?_
 refine dT 7 rfl rfl rfl (by kernel_rfl) (fun _ _ _ h => h) (y_bd S37 rfl rfl) (.keep (.keep (.keep .nil))) hlu22 ?_
 refine dT 8 rfl rfl rfl (by kernel_rfl) (fun _ _ _ h => h) (y_ix2 (j := 1) Tryz.runUnderlying34 Tryz.sizeOf37 rfl rfl rfl rfl (by decide)) (.keep (.keep (.keep .nil))) hlu22 ?_
 refine dE 9 (by kernel_rfl) rfl ?_
 refine sa Tryz.sizeOf37 rfl rfl rfl rfl rfl (.tail .head) ?_
 refine dNk (by kernel_rfl) ?_
 refine dD (by kernel_rfl) ?_
 refine Nt ?_
 refine sq ?_
 refine rgD 9 (.keep (.keep (.keep .nil))) mixed ?_
 refine dT 0 rfl rfl rfl (by kernel_rfl) (fun _ _ _ h => h) (y_fa0 F37_3 rfl) (.keep (.keep (.keep .nil))) (Fz.le.refl _) ?_
 refine dT 1 rfl rfl rfl (by kernel_rfl) (fun _ _ _ h => h) (y_ld (Says.own .head) Tryz.isAgg34 rfl (Nat.zero_add _).symm rfl) (.keep (.keep (.keep .nil))) (Fz.le.refl _) ?_
 refine dT 2 rfl rfl rfl (by kernel_rfl) (fun _ _ _ h => h) (y_mv rfl) (.keep (.keep (.keep .nil))) (Fz.le.refl _) ?_
 refine dT 3 rfl rfl rfl (by kernel_rfl) (fun _ _ _ h => h) (y_nc rfl) (.keep (.keep (.keep .nil))) (Fz.le.refl _) ?_
 refine dT 4 rfl rfl rfl (by kernel_rfl) (fun _ _ _ h => h) (y_fa F201_2 rfl) (.keep (.keep (.keep .nil))) (Fz.le.refl _) ?_
 refine dT 5 rfl rfl rfl (by kernel_rfl) (fun _ _ _ h => h) (y_ld (j := 17) (Says.fz (hb.mono (le_4.trans hlu22))) Tryz.isAgg199 rfl rfl rfl) (.keep (.keep (.keep .nil))) (Fz.le.refl _) ?_
 refine dT 6 rfl rfl rfl (by kernel_rfl) (fun _ _ _ h => h) (y_esn Tryz.underlying199 rfl) (.keep (.keep (.keep .nil))) (Fz.le.refl _) ?_
 refine dE 7 (by kernel_rfl) rfl ?_
 refine ixk (j := 2) Tryz.runUnderlying34 Tryz.sizeOf37 rfl rfl rfl rfl (by decide) rfl ?_
 refine dN (.keep (.keep (.keep .nil))) (Fz.le.refl _) ?_
 refine dT 8 rfl rfl rfl (by kernel_rfl) (fun _ _ _ h => h) (y_fa F37_2 rfl) (.keep (.keep (.keep .nil))) (Fz.le.refl _) ?_
 refine dE 9 (by kernel_rfl) rfl ?_
 refine st Tryz.sizeOf4 rfl rfl rfl rfl (.tail .head) ?_
 refine dNk (by kernel_rfl) ?_
 refine dD (by kernel_rfl) ?_
 refine Nt ?_
 refine sq ?_
 refine sr ?_
 refine mv rfl rfl ?_
 refine nc rfl rfl ?_
 refine fa F201_2 rfl rfl ?_
 refine ld (Says.fz (hb.mono (le_4.trans hlu22))) Tryz.isAgg199 rfl rfl rfl rfl ?_
 refine ls Tryz.runUnderlying199 rfl rfl ?_
 refine mv rfl rfl ?_
 refine nl ?_
 have hlm2 := (hf.at 2).lTl
 refine nulC2 ?_
 refine fr ((lT (T.at 2)).length) (fun k2 l' H' L' => ∃ (al2 : Option Addr), ∃ (ml2 : Nat), ∃ (cl2 : Nat), ∃ (es2 : List EE), ∃ (Nl2 : Chunk), [(0, .pointer (some ⟨b, o, none⟩)), (2, .pointer (some ⟨b_1, 0, none⟩)), (3, .pointer (some ⟨b_3, 0, none⟩)), (38, .int .i64 ((lT (T.at 2)).length : Int))] = l' ∧ Nl2 :: [(b_3, .cells [.int .i64 0, .slice none 0 0, .bool false, _, .slice none 0 0].toArray 37 (0, 0))] :: [(b_2, .cells [.int .i64 0, .slice (some ⟨b13, 0, none⟩) (T.at 0).s.length cp13, .bool false, .slice none 0 0, .slice none 0 0, .int .i64 0, .slice a22 16 c22, .bool false, .slice none 0 0, .slice none 0 0, .int .i64 0, .slice none 0 0, .bool a2.isNone, .slice al2 ml2 cl2, .slice none 0 0].toArray 37 (0, 0))] :: [(b_1, .cells [.int .i64 0, .slice none 0 0, .bool false, .slice none 0 0, .slice none 0 0].toArray 37 (0, 0))] :: L = L' ∧ Row 37 5 al2 ml2 cl2 (es2.flatMap f5) Nl2 ∧ ml2 = es2.length ∧ es2.map (·.2) = ((lT (T.at 2)).take k2).map tl_AlterPartitionRequestTopicPartition ∧ (∀ p : EE, p ∈ es2 → TreeAt H' p.1 p.2)) [(0, .pointer (some ⟨b, o, none⟩)), (2, .pointer (some ⟨b_1, 0, none⟩)), (3, .pointer (some ⟨b_3, 0, none⟩)), (38, .int .i64 ((lT (T.at 2)).length : Int))] (fun k2 l' H' L' h => ?_) (by omega) rfl (.cons rfl (.cons rfl (.cons rfl (.cons rfl (.nil _))))) ⟨none, 0, 0, [], [], rfl, rfl, (Row.nil _ _), rfl, (by simp), (fun p hp => by cases hp)⟩ rfl rfl rfl rfl rfl (fun k2 l' H' L' hk2 le_5 hI => ?_) (fun l' H' L' le_6 hI => ?_)
 · obtain ⟨al2, ml2, cl2, es2, Nl2, rfl, _⟩ := h; exact ⟨rfl, rfl, rfl, rfl⟩
 ·
  obtain ⟨al2, ml2, cl2, es2, Nl2, rfl, rfl, pk20, pk21, pk22, pk23⟩ := hI
  refine sr ?_
  refine mv rfl rfl ?_
  refine asg rfl rfl ?_
  refine nl ?_
  refine sq ?_
  refine rgD 4 .nil mixed ?_
  refine dE 0 (by kernel_rfl) rfl ?_
  refine al Tryz.zeroValue4 rfl rfl (fun b_7 => ?_)
  refine dN .nil (Fz.le.refl _) ?_
  refine dE2 1 2 (by kernel_rfl) rfl rfl ?_ ?_
  ·
   refine st Tryz.sizeOf4 rfl rfl rfl rfl .head ?_
   refine dN .nil (Fz.le.refl _) ?_
   refine dE 2 (by kernel_rfl) rfl ?_
   refine st Tryz.sizeOf4 rfl rfl rfl rfl .head ?_
   refine dN .nil (Fz.le.refl _) ?_
   refine dE 3 (by kernel_rfl) rfl ?_
   refine ld (Says.own .head) Tryz.isAgg4 rfl (Nat.zero_add _).symm rfl rfl ?_
   refine dN .nil (Fz.le.refl _) ?_
   refine dD (by kernel_rfl) ?_
   refine drN .head ?_
   refine Nt ?_
   refine cF rfl ?_
   refine rgD 18 (.skip (.keep (.keep (.keep .nil)))) mixed ?_
   refine dT 0 rfl rfl rfl (by kernel_rfl) (fun _ _ _ h => h) (y_fa0 F37_3 rfl) (.skip (.keep (.keep (.keep .nil)))) (Fz.le.refl _) ?_
   refine dT 1 rfl rfl rfl (by kernel_rfl) (fun _ _ _ h => h) (y_ld (Says.own .head) Tryz.isAgg34 rfl (Nat.zero_add _).symm rfl) (.skip (.keep (.keep (.keep .nil)))) (Fz.le.refl _) ?_
   refine dT 2 rfl rfl rfl (by kernel_rfl) (fun _ _ _ h => h) (y_fa0 F37_3 rfl) (.skip (.keep (.keep (.keep .nil)))) (Fz.le.refl _) ?_
   refine dT 3 rfl rfl rfl (by kernel_rfl) (fun _ _ _ h => h) (y_ld (Says.own .head) Tryz.isAgg34 rfl (Nat.zero_add _).symm rfl) (.skip (.keep (.keep (.keep .nil)))) (Fz.le.refl _) ?_
   refine dT 4 rfl rfl rfl (by kernel_rfl) (fun _ _ _ h => h) (y_ix2 (j := 2) Tryz.runUnderlying34 Tryz.sizeOf37 rfl rfl rfl rfl (by decide)) (.skip (.keep (.keep (.keep .nil)))) (Fz.le.refl _) ?_
   refine dT 5 rfl rfl rfl (by kernel_rfl) (fun _ _ _ h => h) (y_fa F37_3 rfl) (.skip (.keep (.keep (.keep .nil)))) (Fz.le.refl _) ?_
   refine dT 6 rfl rfl rfl (by kernel_rfl) (fun _ _ _ h => h) (y_ld (Says.own (.tail .head)) Tryz.isAgg34 rfl (Nat.zero_add _).symm rfl) (.skip (.keep (.keep (.keep .nil)))) (Fz.le.refl _) ?_
   refine dT 7 rfl rfl rfl (by kernel_rfl) (fun _ _ _ h => h) (y_mv rfl) (.skip (.keep (.keep (.keep .nil)))) (Fz.le.refl _) ?_
   refine dT 8 rfl rfl rfl (by kernel_rfl) (fun _ _ _ h => h) (y_nc rfl) (.skip (.keep (.keep (.keep .nil)))) (Fz.le.refl _) ?_
   refine dT 9 rfl rfl rfl (by kernel_rfl) (fun _ _ _ h => h) (y_fa F201_2 rfl) (.skip (.keep (.keep (.keep .nil)))) (Fz.le.refl _) ?_
   refine dT 10 rfl rfl rfl (by kernel_rfl) (fun _ _ _ h => h) (y_ld (j := 17) (Says.fz (hb.mono (le_4.trans (hlu22.trans le_5)))) Tryz.isAgg199 rfl rfl rfl) (.skip (.keep (.keep (.keep .nil)))) (Fz.le.refl _) ?_
   refine dT 11 rfl rfl rfl (by kernel_rfl) (fun _ _ _ h => h) (y_mv rfl) (.skip (.keep (.keep (.keep .nil)))) (Fz.le.refl _) ?_
   obtain ⟨beq_8, oeq_8, haq_8, hlq_8⟩ := ((h1.mono At_AlterPartitionRequestTopicPartition.mono (le_4.trans (hlu22.trans le_5)))).rows.at_ (ne_nil_of_lt hk2)
   obtain ⟨ceq_8, hAq_8, hbq_8⟩ := hlq_8 k2 hk2
   refine dT 12 rfl rfl rfl (by kernel_rfl) (fun _ _ _ h => h) (y_ixk (j := k2) Tryz.runUnderlying199 Tryz.sizeOf307 rfl haq_8 rfl rfl hk2) (.skip (.keep (.keep (.keep .nil)))) (Fz.le.refl _) ?_
   refine dE 13 (by kernel_rfl) rfl ?_
   refine cl rfl rfl rfl (te_AlterPartitionRequestTopicPartition hbq_8 (At_AlterPartitionRequestTopicPartition.mono _ _ _ _ (Fz.le.refl _) hAq_8) ((hf.at 2).lTel (List.getElem_mem hk2))) rfl (fun v_ H1 L1 le_9 hR_ => ?_)
   obtain ⟨rfl, ct75, rfl, hT75⟩ := hR_
   refine dN (.skip (.keep (.keep (.keep .nil)))) le_9 ?_
   refine dE 14 (by kernel_rfl) rfl ?_
   refine bs' L34 rfl rfl rfl rfl (fun b_10 => ?_)
   refine dN (.skip (.skip (.keep (.keep (.keep .nil))))) le_9 ?_
   refine dE 15 (by kernel_rfl) rfl ?_
   have hmk : ml2 = k2 := by have h1 := congrArg List.length pk22; rw [List.length_map, List.length_map, List.length_take] at h1; omega
   have hmb := (hf.at 2).lTl
   refine ap (k := 1) (news := f5 ((ct75, tl_AlterPartitionRequestTopicPartition (lT (T.at 2))[k2]) : EE)) Tryz.underlying34 I37 rfl rfl pk20 (fun _ => (.tail .head)) (src_says Tryz.underlying34 rfl (fun _ => Says.own .head) (f5_one _)) (by omega) (by unfold maxLen; omega) rfl (fun a77 c77 N77 r77 z77 => ?_)
   rw [flatMap_snoc'] at r77
   refine dN (.skip (.skip (.keep (.keep (.keep .nil))))) le_9 ?_
   refine dE 16 (by kernel_rfl) rfl ?_
   refine ixk (j := 2) Tryz.runUnderlying34 Tryz.sizeOf37 rfl rfl rfl rfl (by decide) rfl ?_
   refine dN (.skip (.skip (.keep (.keep (.keep .nil))))) le_9 ?_
   refine dT 17 rfl rfl rfl (by kernel_rfl) (fun _ _ _ h => h) (y_fa F37_3 rfl) (.skip (.skip (.keep (.keep (.keep .nil))))) le_9 ?_
   refine dE 18 (by kernel_rfl) rfl ?_
   refine st Tryz.sizeOf34 rfl rfl rfl rfl (.tail (.tail (.tail .head))) ?_
   refine dNk (by kernel_rfl) ?_
   refine dD (by kernel_rfl) ?_
   refine Nb ?_
   refine drN .head ?_
   refine fun a_ w_ hA hw => ⟨_, _, _, hA.sub ?_, (le_5.trans le_9), hw, _, rfl, a77, (ml2 + 1), c77, (es2 ++ [((ct75, tl_AlterPartitionRequestTopicPartition (lT (T.at 2))[k2]) : EE)]), N77, rfl, rfl, r77, (by simp; omega), (map_take_snoc (g := tl_AlterPartitionRequestTopicPartition) hk2 pk22), (fun p hp => (mem_snoc hp).elim (fun h => (pk23 p h).mono le_9) (fun h => h ▸ hT75))⟩
   exact (.cons rfl (.cons rfl (.cons rfl (.cons rfl (.cons rfl (.nil _))))))
  ·
   refine st Tryz.sizeOf4 rfl rfl rfl rfl .head ?_
   refine dN .nil (Fz.le.refl _) ?_
   refine dE 1 (by kernel_rfl) rfl ?_
   refine st Tryz.sizeOf4 rfl rfl rfl rfl .head ?_
   refine dN .nil (Fz.le.refl _) ?_
   refine dE 3 (by kernel_rfl) rfl ?_
   refine ld (Says.own .head) Tryz.isAgg4 rfl (Nat.zero_add _).symm rfl rfl ?_
   refine dN .nil (Fz.le.refl _) ?_
   refine dD (by kernel_rfl) ?_
   refine drN .head ?_
   refine Nt ?_
   refine cT rfl ?_
   refine sq ?_
   refine rgD 17 (.skip (.keep (.keep (.keep .nil)))) mixed ?_
   refine dT 0 rfl rfl rfl (by kernel_rfl) (fun _ _ _ h => h) (y_fa0 F37_3 rfl) (.skip (.keep (.keep (.keep .nil)))) (Fz.le.refl _) ?_
   refine dT 1 rfl rfl rfl (by kernel_rfl) (fun _ _ _ h => h) (y_ld (Says.own .head) Tryz.isAgg34 rfl (Nat.zero_add _).symm rfl) (.skip (.keep (.keep (.keep .nil)))) (Fz.le.refl _) ?_
   refine dT 2 rfl rfl rfl (by kernel_rfl) (fun _ _ _ h => h) (y_ix2 (j := 2) Tryz.runUnderlying34 Tryz.sizeOf37 rfl rfl rfl rfl (by decide)) (.skip (.keep (.keep (.keep .nil)))) (Fz.le.refl _) ?_
   refine dT 3 rfl rfl rfl (by kernel_rfl) (fun _ _ _ h => h) (y_fa F37_3 rfl) (.skip (.keep (.keep (.keep .nil)))) (Fz.le.refl _) ?_
   refine dT 4 rfl rfl rfl (by kernel_rfl) (fun _ _ _ h => h) (y_ld (Says.own (.tail .head)) Tryz.isAgg34 rfl (Nat.zero_add _).symm rfl) (.skip (.keep (.keep (.keep .nil)))) (Fz.le.refl _) ?_
   refine dT 5 rfl rfl rfl (by kernel_rfl) (fun _ _ _ h => h) (y_mv rfl) (.skip (.keep (.keep (.keep .nil)))) (Fz.le.refl _) ?_
   refine dT 6 rfl rfl rfl (by kernel_rfl) (fun _ _ _ h => h) (y_nc rfl) (.skip (.keep (.keep (.keep .nil)))) (Fz.le.refl _) ?_
   refine dT 7 rfl rfl rfl (by kernel_rfl) (fun _ _ _ h => h) (y_fa F201_2 rfl) (.skip (.keep (.keep (.keep .nil)))) (Fz.le.refl _) ?_
   refine dT 8 rfl rfl rfl (by kernel_rfl) (fun _ _ _ h => h) (y_ld (j := 17) (Says.fz (hb.mono (le_4.trans (hlu22.trans le_5)))) Tryz.isAgg199 rfl rfl rfl) (.skip (.keep (.keep (.keep .nil)))) (Fz.le.refl _) ?_
   refine dT 9 rfl rfl rfl (by kernel_rfl) (fun _ _ _ h => h) (y_mv rfl) (.skip (.keep (.keep (.keep .nil)))) (Fz.le.refl _) ?_
   obtain ⟨beq_11, oeq_11, haq_11, hlq_11⟩ := ((h1.mono At_AlterPartitionRequestTopicPartition.mono (le_4.trans (hlu22.trans le_5)))).rows.at_ (ne_nil_of_lt hk2)
   obtain ⟨ceq_11, hAq_11, hbq_11⟩ := hlq_11 k2 hk2
   refine dT 10 rfl rfl rfl (by kernel_rfl) (fun _ _ _ h => h) (y_ixk (j := k2) Tryz.runUnderlying199 Tryz.sizeOf307 rfl haq_11 rfl rfl hk2) (.skip (.keep (.keep (.keep .nil)))) (Fz.le.refl _) ?_
   refine dT 12 rfl rfl rfl (by kernel_rfl) (fun _ _ _ h => h) (y_ls Tryz.runUnderlying34 rfl) (.skip (.keep (.keep (.keep .nil)))) (Fz.le.refl _) ?_
   refine dE2 11 13 (by kernel_rfl) rfl rfl ?_ ?_
   ·
    refine cl rfl rfl rfl (te_AlterPartitionRequestTopicPartition hbq_11 (At_AlterPartitionRequestTopicPartition.mono _ _ _ _ (Fz.le.refl _) hAq_11) ((hf.at 2).lTel (List.getElem_mem hk2))) rfl (fun v_ H1 L1 le_12 hR_ => ?_)
    obtain ⟨rfl, ct55, rfl, hT55⟩ := hR_
    refine dN (.skip (.keep (.keep (.keep .nil)))) le_12 ?_
    refine dE 13 (by kernel_rfl) rfl ?_
    refine bs' L34 rfl rfl rfl rfl (fun b_13 => ?_)
    refine dN (.skip (.skip (.keep (.keep (.keep .nil))))) le_12 ?_
    refine dE 14 (by kernel_rfl) rfl ?_
    have hmk : ml2 = k2 := by have h1 := congrArg List.length pk22; rw [List.length_map, List.length_map, List.length_take] at h1; omega
    have hmb := (hf.at 2).lTl
    refine ap (k := 1) (news := f5 ((TC.none, Tr.none) : EE)) Tryz.underlying34 I37 rfl rfl pk20 (fun _ => (.tail .head)) (src_says Tryz.underlying34 rfl (fun _ => Says.own .head) (f5_one _)) (by omega) (by unfold maxLen; omega) rfl (fun a58 c58 N58 r58 z58 => ?_)
    refine dN (.skip (.skip (.keep (.keep (.keep .nil))))) le_12 ?_
    refine dE 15 (by kernel_rfl) rfl ?_
    refine ixk (j := 2) Tryz.runUnderlying34 Tryz.sizeOf37 rfl rfl rfl rfl (by decide) rfl ?_
    refine dN (.skip (.skip (.keep (.keep (.keep .nil))))) le_12 ?_
    refine dT 16 rfl rfl rfl (by kernel_rfl) (fun _ _ _ h => h) (y_fa F37_3 rfl) (.skip (.skip (.keep (.keep (.keep .nil))))) le_12 ?_
    refine dE 17 (by kernel_rfl) rfl ?_
    refine st Tryz.sizeOf34 rfl rfl rfl rfl (.tail (.tail (.tail .head))) ?_
    refine dNk (by kernel_rfl) ?_
    refine dD (by kernel_rfl) ?_
    refine Nt ?_
    refine rg ?_
    obtain ⟨gg58, hgg58⟩ := r58.addr (by omega)
    refine ixk (j := ml2) Tryz.runUnderlying34 Tryz.sizeOf37 rfl hgg58 rfl rfl (by omega) rfl ?_
    refine sR (ds := f5 ((ct55, tl_AlterPartitionRequestTopicPartition (lT (T.at 2))[k2]) : EE)) r58 hgg58 (fun _ => (.tail .head)) Tryz.sizeOf37 rfl rfl rfl rfl (by omega) (fun N58b r58b => ?_)
    rw [row_put (k := 5) (m := ml2) (A := es2.flatMap f5) (by rw [flatMap_len f5 5 f5_len, pk21]) rfl, flatMap_snoc'] at r58b
    refine nN ?_
    refine Nb ?_
    refine drN .head ?_
    refine fun a_ w_ hA hw => ⟨_, _, _, hA.sub ?_, (le_5.trans le_12), hw, _, rfl, a58, (ml2 + 1), c58, (es2 ++ [((ct55, tl_AlterPartitionRequestTopicPartition (lT (T.at 2))[k2]) : EE)]), N58b, rfl, rfl, r58b, (by simp; omega), (map_take_snoc (g := tl_AlterPartitionRequestTopicPartition) hk2 pk22), (fun p hp => (mem_snoc hp).elim (fun h => (pk23 p h).mono le_12) (fun h => h ▸ hT55))⟩
    exact (.cons rfl (.cons rfl (.cons rfl (.cons rfl (.cons rfl (.nil _))))))
   ·
    refine bs' L34 rfl rfl rfl rfl (fun b_14 => ?_)
    refine dN (.skip (.skip (.keep (.keep (.keep .nil))))) (Fz.le.refl _) ?_
    refine dE 11 (by kernel_rfl) rfl ?_
    refine cl rfl rfl rfl (te_AlterPartitionRequestTopicPartition hbq_11 (At_AlterPartitionRequestTopicPartition.mono _ _ _ _ (Fz.le.refl _) hAq_11) ((hf.at 2).lTel (List.getElem_mem hk2))) rfl (fun v_ H1 L1 le_15 hR_ => ?_)
    obtain ⟨rfl, ct55, rfl, hT55⟩ := hR_
    refine dN (.skip (.skip (.keep (.keep (.keep .nil))))) le_15 ?_
    refine dE 14 (by kernel_rfl) rfl ?_
    have hmk : ml2 = k2 := by have h1 := congrArg List.length pk22; rw [List.length_map, List.length_map, List.length_take] at h1; omega
    have hmb := (hf.at 2).lTl
    refine ap (k := 1) (news := f5 ((TC.none, Tr.none) : EE)) Tryz.underlying34 I37 rfl rfl pk20 (fun _ => (.tail .head)) (src_says Tryz.underlying34 rfl (fun _ => Says.own .head) (f5_one _)) (by omega) (by unfold maxLen; omega) rfl (fun a58 c58 N58 r58 z58 => ?_)
    refine dN (.skip (.skip (.keep (.keep (.keep .nil))))) le_15 ?_
    refine dE 15 (by kernel_rfl) rfl ?_
    refine ixk (j := 2) Tryz.runUnderlying34 Tryz.sizeOf37 rfl rfl rfl rfl (by decide) rfl ?_
    refine dN (.skip (.skip (.keep (.keep (.keep .nil))))) le_15 ?_
    refine dT 16 rfl rfl rfl (by kernel_rfl) (fun _ _ _ h => h) (y_fa F37_3 rfl) (.skip (.skip (.keep (.keep (.keep .nil))))) le_15 ?_
    refine dE 17 (by kernel_rfl) rfl ?_
    refine st Tryz.sizeOf34 rfl rfl rfl rfl (.tail (.tail (.tail .head))) ?_
    refine dNk (by kernel_rfl) ?_
    refine dD (by kernel_rfl) ?_
    refine Nt ?_
    refine rg ?_
    obtain ⟨gg58, hgg58⟩ := r58.addr (by omega)
    refine ixk (j := ml2) Tryz.runUnderlying34 Tryz.sizeOf37 rfl hgg58 rfl rfl (by omega) rfl ?_
    refine sR (ds := f5 ((ct55, tl_AlterPartitionRequestTopicPartition (lT (T.at 2))[k2]) : EE)) r58 hgg58 (fun _ => (.tail .head)) Tryz.sizeOf37 rfl rfl rfl rfl (by omega) (fun N58b r58b => ?_)
    rw [row_put (k := 5) (m := ml2) (A := es2.flatMap f5) (by rw [flatMap_len f5 5 f5_len, pk21]) rfl, flatMap_snoc'] at r58b
    refine nN ?_
    refine Nb ?_
    refine drN .head ?_
    refine fun a_ w_ hA hw => ⟨_, _, _, hA.sub ?_, (le_5.trans le_15), hw, _, rfl, a58, (ml2 + 1), c58, (es2 ++ [((ct55, tl_AlterPartitionRequestTopicPartition (lT (T.at 2))[k2]) : EE)]), N58b, rfl, rfl, r58b, (by simp; omega), (map_take_snoc (g := tl_AlterPartitionRequestTopicPartition) hk2 pk22), (fun p hp => (mem_snoc hp).elim (fun h => (pk23 p h).mono le_15) (fun h => h ▸ hT55))⟩
    exact (.cons rfl (.cons rfl (.cons rfl (.cons rfl (.cons rfl (.nil _))))))
 ·
  obtain ⟨al2, ml2, cl2, es2, Nl2, rfl, rfl, pk20, pk21, pk22, pk23⟩ := hI
  refine toWp ?_
  have hes2 : es2.map (·.2) = (lT (T.at 2)).map tl_AlterPartitionRequestTopicPartition := by rw [pk22, List.take_length]
  have hm2 : ml2 = ((lT (T.at 2)).map tl_AlterPartitionRequestTopicPartition).length := by rw [← hes2, List.length_map]; exact pk21
  refine frW pk20 .head (fun Hl2 hll2 hzl2 => ?_)
  have ht2 := TreesAt.row hzl2 pk21 pk20.le.1 (by have h1 := congrArg List.length hes2; rw [List.length_map, List.length_map] at h1; unfold B47; omega) (fun p hp => (pk23 p hp).mono hll2)
  rw [hes2] at ht2
  subst hm2
  refine sr ?_
  refine mv rfl rfl ?_
  refine nc rfl rfl ?_
  refine fa F201_3 rfl rfl ?_
  refine mkf rfl rfl ?_
  have hkv_ := (h2.mono (le_4.trans (hlu22.trans (le_6.trans hll2))))
  obtain ⟨kvs, hM, hlen, hel⟩ := hkv_
  have hfu := hf.u
  refine cl rfl rfl rfl (t_each (j := 18) (I := fun i H1 Y => TgI 72 b_3 37 (.int .i64 0) (.slice none 0 0) (.bool false) (_) T.u i H1 Y) (hb.mono (le_4.trans (hlu22.trans (le_6.trans hll2)))) rfl hM (by omega) (fun i H1 H2 Y hle h => h.mono hle) TgI.start (fun i k v H1 Y L1 hi hle hI => ?_)) rfl (fun v_ H1 L1 le_17 hR_ => ?_)
  ·
   obtain ⟨s, h1, ⟨va, vc, rfl, hx⟩, h2, h3⟩ := hel i k v hi
   have hik := sortKv_lt hi
   exact TgI.step (fun {_ _ _ _ _ _ _ _ _ _ _ _ _ _ _ _} => tc_284) hf.v (by omega) h1 (hx.mono hle) h2 h3 hI
  rw [hlen] at hR_
  obtain ⟨_, rfl, aU, cU, NU, esU, rfl, hrU, heU, hgU⟩ := hR_
  refine splL ?_
  rw [List.take_length] at heU
  refine frL hrU (.tail .head) (fun HU hleU hzU => ?_)
  have hU := (TagsAt.told hzU hrU heU hfu (fun p hp => (hgU p hp).mono hleU)).1
  refine nl ?_
  refine sr ?_
  refine fa0 F37_4 rfl rfl ?_
  refine ld (Says.own .head) Tryz.isAgg35 rfl (Nat.zero_add _).symm rfl rfl ?_
  refine cl rfl rfl rfl (k_sorted hU (h2.mono (le_4.trans (hlu22.trans (le_6.trans (hll2.trans (le_17.trans hleU)))))).rise) rfl (fun v_ H1 L1 hle_ hR_ => ?_)
  obtain ⟨rfl, rfl⟩ := hR_
  refine nl ?_
  refine sr ?_
  refine la (Says.own .head) Tryz.isAgg37 Tryz.sizeOf37 rfl (Nat.zero_add _).symm rfl rfl ?_
  refine sa Tryz.sizeOf37 rfl rfl rfl rfl rfl (.tail (.tail .head)) ?_
  refine nl ?_
  refine drW .head ?_
  refine frW (Row.whole (e := 37) (size := 5) (m := 3) (ds := [.int .i64 0, .slice (some ⟨b13, 0, none⟩) (T.at 0).s.length cp13, .bool false, .slice none 0 0, .slice none 0 0, .int .i64 0, .slice a22 16 c22, .bool false, .slice none 0 0, .slice none 0 0, .int .i64 0, .slice none 0 0, .bool a2.isNone, .slice al2 ((lT (T.at 2)).map tl_AlterPartitionRequestTopicPartition).length cl2, .slice none 0 0]) rfl (by unfold maxLen; omega)) .head (fun H9 hle9 hz9 => ?_)
  have hrb : H9.at b_2 0 [.int .i64 0, .slice (some ⟨b13, 0, none⟩) (T.at 0).s.length cp13, .bool false, .slice none 0 0, .slice none 0 0, .int .i64 0, .slice a22 16 c22, .bool false, .slice none 0 0, .slice none 0 0, .int .i64 0, .slice none 0 0, .bool a2.isNone, .slice al2 ((lT (T.at 2)).map tl_AlterPartitionRequestTopicPartition).length cl2, .slice none 0 0] := by
   rcases hz9 with ⟨h, _⟩ | ⟨g, h, h2⟩
   · cases h
   · cases h; exact h2
  rw [(h1).nul] at hrb
  have hq9_1 := pad16_len (T.at 1).s
  have hrb2 : H9.at b_2 0 (([((⟨some ⟨b13, 0, none⟩, cp13, none, 0, none, 0⟩ : TC), (Tr.mk 0 (T.at 0).s false [] [] : Tr)), ((⟨a22, c22, none, 0, none, 0⟩ : TC), (Tr.mk 0 (pad16 (T.at 1).s) false [] [] : Tr)), ((⟨none, 0, al2, cl2, none, 0⟩ : TC), (Tr.mk 0 [] (T.at 2).nul ((lT (T.at 2)).map tl_AlterPartitionRequestTopicPartition) [] : Tr))] : List EE).flatMap fun p => p.1.cells p.2) := by
   simp only [List.flatMap_cons, List.flatMap_nil, TC.cells, Tr.n, Tr.s, Tr.nul, Tr.l, Tr.u, TC.none, pad16_len]
   exact hrb
  have hl9 : TreesAt H9 (some ⟨b_2, 0, none⟩) 3 [(.mk 0 (T.at 0).s false [] []), (.mk 0 (pad16 (T.at 1).s) false [] []), (.mk 0 [] (T.at 2).nul ((lT (T.at 2)).map tl_AlterPartitionRequestTopicPartition) [])] := by
   refine TreesAt.row (es := [((⟨some ⟨b13, 0, none⟩, cp13, none, 0, none, 0⟩ : TC), (Tr.mk 0 (T.at 0).s false [] [] : Tr)), ((⟨a22, c22, none, 0, none, 0⟩ : TC), (Tr.mk 0 (pad16 (T.at 1).s) false [] [] : Tr)), ((⟨none, 0, al2, cl2, none, 0⟩ : TC), (Tr.mk 0 [] (T.at 2).nul ((lT (T.at 2)).map tl_AlterPartitionRequestTopicPartition) [] : Tr))]) (.inr ⟨_, rfl, hrb2⟩) rfl (Nat.le_refl _) (Nat.le_of_ble_eq_true rfl) ?_
   intro p hp
   simp only [List.mem_cons, List.not_mem_nil, or_false] at hp
   rcases hp with rfl | rfl | rfl
   · exact (.of (hb13.mono (hlu22.trans (le_6.trans (hll2.trans (le_17.trans (hleU.trans hle9)))))) (.nil _) (.nil _))
   · exact (.of (hb22.mono (le_6.trans (hll2.trans (le_17.trans (hleU.trans hle9))))) (.nil _) (.nil _))
   · exact (.of (.nil _) (ht2.mono (le_17.trans (hleU.trans hle9))) (.nil _))
  exact rC rfl Tryz.isAgg37 Tryz.sizeOf37 rfl .head rfl (le_4.trans (hlu22.trans (le_6.trans (hll2.trans (le_17.trans (hleU.trans hle9)))))) (fun _ _ h => h) ⟨rfl, ⟨none, 0, some ⟨b_2, 0, none⟩, 3, aU, cU⟩, rfl, .of (.nil _) hl9 (hU.mono hle9)⟩
def tl_AlterPartitionRequest (T : Tr) : Tr := .mk 0 [] false [(.mk (IntKind.i32.wrap (T.at 0).n) [] false [] []), (.mk (T.at 1).n [] false [] []), (.mk 0 [] (T.at 2).nul ((lT (T.at 2)).map tl_AlterPartitionRequestTopic) [])] T.u
theorem te_AlterPartitionRequest {H : Fz} {L : Own} {b o : Nat} {cs : List Value} {T : Tr} {ver : Int} (hb : H.at b o cs) (hA : At_AlterPartitionRequest ver H T cs) (hf : Fits T) :
  Fn Tryz.prog 115 [.pointer (some ⟨b, o, none⟩)] H L (fun v H' L' => L = L' ∧ ∃ c : TC, v = .agg (c.cells (tl_AlterPartitionRequest T)).toArray ∧ TreeAt H' c (tl_AlterPartitionRequest T)) := by
 obtain ⟨a2, c2, mt, rfl, h1, h2⟩ := hA
 refine Fn.mk Tryz.call115 Tryz.func115 rfl Tryz.ntmps115 rfl ?_
 refine sr ?_
 refine al Tryz.zeroValue37 rfl rfl (fun b_1 => ?_)
 refine nl ?_
 refine sr ?_
 refine mkC (m := 3) (zs := [.int .i64 0, .slice none 0 0, .bool false, .slice none 0 0, .slice none 0 0]) Tryz.underlying34 I37 rfl rfl rfl rfl rfl rfl (by decide) (by unfold maxLen; omega) rfl (fun b_2 => ?_)
 refine bd' S37 rfl rfl rfl ?_
 refine al Tryz.zeroValue37 rfl rfl (fun b_3 => ?_)
 refine sa Tryz.sizeOf37 rfl rfl rfl rfl rfl .head ?_
 refine nl ?_
 refine sq ?_
 refine rgD 9 (.keep (.keep (.keep .nil))) mixed ?_
 refine dT 0 rfl rfl rfl (by kernel_rfl) (fun _ _ _ h => h) (y_fa0 F37_3 rfl) (.keep (.keep (.keep .nil))) (Fz.le.refl _) ?_
 refine dT 1 rfl rfl rfl (by kernel_rfl) (fun _ _ _ h => h) (y_ld (Says.own .head) Tryz.isAgg34 rfl (Nat.zero_add _).symm rfl) (.keep (.keep (.keep .nil))) (Fz.le.refl _) ?_
 refine dT 2 rfl rfl rfl (by kernel_rfl) (fun _ _ _ h => h) (y_mv rfl) (.keep (.keep (.keep .nil))) (Fz.le.refl _) ?_
 refine dT 3 rfl rfl rfl (by kernel_rfl) (fun _ _ _ h => h) (y_nc rfl) (.keep (.keep (.keep .nil))) (Fz.le.refl _) ?_
 refine dT 4 rfl rfl rfl (by kernel_rfl) (fun _ _ _ h => h) (y_fa F196_1 rfl) (.keep (.keep (.keep .nil))) (Fz.le.refl _) ?_
 refine dT 5 rfl rfl rfl (by kernel_rfl) (fun _ _ _ h => h) (y_ld (j := 1) (Says.fz hb) Tryz.isAgg21 rfl rfl rfl) (.keep (.keep (.keep .nil))) (Fz.le.refl _) ?_
 refine dT 6 rfl rfl rfl (by kernel_rfl) (fun _ _ _ h => h) (y_cv Tryz.runUnderlying21 Tryz.runUnderlying2 rfl (i32_64 _)) (.keep (.keep (.keep .nil))) (Fz.le.refl _) ?_
 refine dT 7 rfl rfl rfl (by kernel_rfl) (fun _ _ _ h => h) (y_bd S37 rfl rfl) (.keep (.keep (.keep .nil))) (Fz.le.refl _) ?_
 refine dT 8 rfl rfl rfl (by kernel_rfl) (fun _ _ _ h => h) (y_ix2 (j := 0) Tryz.runUnderlying34 Tryz.sizeOf37 rfl rfl rfl rfl (by decide)) (.keep (.keep (.keep .nil))) (Fz.le.refl _) ?_
 refine dE 9 (by kernel_rfl) rfl ?_
 refine sa Tryz.sizeOf37 rfl rfl rfl rfl rfl (.tail .head) ?_
 refine dNk (by kernel_rfl) ?_
 refine dD (by kernel_rfl) ?_
 refine Nt ?_
 refine sq ?_
 refine rgD 8 (.keep (.keep (.keep .nil))) mixed ?_
 refine dT 0 rfl rfl rfl (by kernel_rfl) (fun _ _ _ h => h) (y_fa0 F37_3 rfl) (.keep (.keep (.keep .nil))) (Fz.le.refl _) ?_
 refine dT 1 rfl rfl rfl (by kernel_rfl) (fun _ _ _ h => h) (y_ld (Says.own .head) Tryz.isAgg34 rfl (Nat.zero_add _).symm rfl) (.keep (.keep (.keep .nil))) (Fz.le.refl _) ?_
 refine dT 2 rfl rfl rfl (by kernel_rfl) (fun _ _ _ h => h) (y_mv rfl) (.keep (.keep (.keep .nil))) (Fz.le.refl _) ?_
 refine dT 3 rfl rfl rfl (by kernel_rfl) (fun _ _ _ h => h) (y_nc rfl) (.keep (.keep (.keep .nil))) (Fz.le.refl _) ?_
 refine dT 4 rfl rfl rfl (by kernel_rfl) (fun _ _ _ h => h) (y_fa F196_2 rfl) (.keep (.keep (.keep .nil))) (Fz.le.refl _) ?_
 refine dT 5 rfl rfl rfl (by kernel_rfl) (fun _ _ _ h => h) (y_ld (j := 2) (Says.fz hb) Tryz.isAgg2 rfl rfl rfl) (.keep (.keep (.keep .nil))) (Fz.le.refl _) ?_
 refine dT 6 rfl rfl rfl (by kernel_rfl) (fun _ _ _ h => h) (y_bd S37 rfl rfl) (.keep (.keep (.keep .nil))) (Fz.le.refl _) ?_
 refine dT 7 rfl rfl rfl (by kernel_rfl) (fun _ _ _ h => h) (y_ix2 (j := 1) Tryz.runUnderlying34 Tryz.sizeOf37 rfl rfl rfl rfl (by decide)) (.keep (.keep (.keep .nil))) (Fz.le.refl _) ?_
 refine dE 8 (by kernel_rfl) rfl ?_
 refine sa Tryz.sizeOf37 rfl rfl rfl rfl rfl (.tail .head) ?_
 refine dNk (by kernel_rfl) ?_
 refine dD (by kernel_rfl) ?_
 refine Nt ?_
 refine sq ?_
 refine rgD 9 (.keep (.keep (.keep .nil))) mixed ?_
 refine dT 0 rfl rfl rfl (by kernel_rfl) (fun _ _ _ h => h) (y_fa0 F37_3 rfl) (.keep (.keep (.keep .nil))) (Fz.le.refl _) ?_
 refine dT 1 rfl rfl rfl (by kernel_rfl) (fun _ _ _ h => h) (y_ld (Says.own .head) Tryz.isAgg34 rfl (Nat.zero_add _).symm rfl) (.keep (.keep (.keep .nil))) (Fz.le.refl _) ?_
 refine dT 2 rfl rfl rfl (by kernel_rfl) (fun _ _ _ h => h) (y_mv rfl) (.keep (.keep (.keep .nil))) (Fz.le.refl _) ?_
 refine dT 3 rfl rfl rfl (by kernel_rfl) (fun _ _ _ h => h) (y_nc rfl) (.keep (.keep (.keep .nil))) (Fz.le.refl _) ?_
 refine dT 4 rfl rfl rfl (by kernel_rfl) (fun _ _ _ h => h) (y_fa F196_3 rfl) (.keep (.keep (.keep .nil))) (Fz.le.refl _) ?_
 refine dT 5 rfl rfl rfl (by kernel_rfl) (fun _ _ _ h => h) (y_ld (j := 3) (Says.fz hb) Tryz.isAgg194 rfl rfl rfl) (.keep (.keep (.keep .nil))) (Fz.le.refl _) ?_
 refine dT 6 rfl rfl rfl (by kernel_rfl) (fun _ _ _ h => h) (y_esn Tryz.underlying194 rfl) (.keep (.keep (.keep .nil))) (Fz.le.refl _) ?_
 refine dE 7 (by kernel_rfl) rfl ?_
 refine ixk (j := 2) Tryz.runUnderlying34 Tryz.sizeOf37 rfl rfl rfl rfl (by decide) rfl ?_
 refine dN (.keep (.keep (.keep .nil))) (Fz.le.refl _) ?_
 refine dT 8 rfl rfl rfl (by kernel_rfl) (fun _ _ _ h => h) (y_fa F37_2 rfl) (.keep (.keep (.keep .nil))) (Fz.le.refl _) ?_
 refine dE 9 (by kernel_rfl) rfl ?_
 refine st Tryz.sizeOf4 rfl rfl rfl rfl (.tail .head) ?_
 refine dNk (by kernel_rfl) ?_
 refine dD (by kernel_rfl) ?_
 refine Nt ?_
 refine sq ?_
 refine sr ?_
 refine mv rfl rfl ?_
 refine nc rfl rfl ?_
 refine fa F196_3 rfl rfl ?_
 refine ld (Says.fz hb) Tryz.isAgg194 rfl rfl rfl rfl ?_
 refine ls Tryz.runUnderlying194 rfl rfl ?_
 refine mv rfl rfl ?_
 refine nl ?_
 have hlm2 := (hf.at 2).lTl
 refine nulC2 ?_
 refine fr ((lT (T.at 2)).length) (fun k2 l' H' L' => ∃ (al2 : Option Addr), ∃ (ml2 : Nat), ∃ (cl2 : Nat), ∃ (es2 : List EE), ∃ (Nl2 : Chunk), [(0, .pointer (some ⟨b, o, none⟩)), (2, .pointer (some ⟨b_1, 0, none⟩)), (3, .pointer (some ⟨b_3, 0, none⟩)), (37, .int .i64 ((lT (T.at 2)).length : Int))] = l' ∧ Nl2 :: [(b_3, .cells [.int .i64 0, .slice none 0 0, .bool false, _, .slice none 0 0].toArray 37 (0, 0))] :: [(b_2, .cells [.int .i64 (IntKind.i32.wrap (T.at 0).n), .slice none 0 0, .bool false, .slice none 0 0, .slice none 0 0, .int .i64 (T.at 1).n, .slice none 0 0, .bool false, .slice none 0 0, .slice none 0 0, .int .i64 0, .slice none 0 0, .bool a2.isNone, .slice al2 ml2 cl2, .slice none 0 0].toArray 37 (0, 0))] :: [(b_1, .cells [.int .i64 0, .slice none 0 0, .bool false, .slice none 0 0, .slice none 0 0].toArray 37 (0, 0))] :: L = L' ∧ Row 37 5 al2 ml2 cl2 (es2.flatMap f5) Nl2 ∧ ml2 = es2.length ∧ es2.map (·.2) = ((lT (T.at 2)).take k2).map tl_AlterPartitionRequestTopic ∧ (∀ p : EE, p ∈ es2 → TreeAt H' p.1 p.2)) [(0, .pointer (some ⟨b, o, none⟩)), (2, .pointer (some ⟨b_1, 0, none⟩)), (3, .pointer (some ⟨b_3, 0, none⟩)), (37, .int .i64 ((lT (T.at 2)).length : Int))] (fun k2 l' H' L' h => ?_) (by omega) rfl (.cons rfl (.cons rfl (.cons rfl (.cons rfl (.nil _))))) ⟨none, 0, 0, [], [], rfl, rfl, (Row.nil _ _), rfl, (by simp), (fun p hp => by cases hp)⟩ rfl rfl rfl rfl rfl (fun k2 l' H' L' hk2 le_4 hI => ?_) (fun l' H' L' le_5 hI => ?_)
 · obtain ⟨al2, ml2, cl2, es2, Nl2, rfl, _⟩ := h; exact ⟨rfl, rfl, rfl, rfl⟩
 ·
  obtain ⟨al2, ml2, cl2, es2, Nl2, rfl, rfl, pk20, pk21, pk22, pk23⟩ := hI
  refine sr ?_
  refine mv rfl rfl ?_
  refine asg rfl rfl ?_
  refine nl ?_
  refine sq ?_
  refine rgD 4 .nil mixed ?_
  refine dE 0 (by kernel_rfl) rfl ?_
  refine al Tryz.zeroValue4 rfl rfl (fun b_6 => ?_)
  refine dN .nil (Fz.le.refl _) ?_
  refine dE2 1 2 (by kernel_rfl) rfl rfl ?_ ?_
  ·
   refine st Tryz.sizeOf4 rfl rfl rfl rfl .head ?_
   refine dN .nil (Fz.le.refl _) ?_
   refine dE 2 (by kernel_rfl) rfl ?_
   refine st Tryz.sizeOf4 rfl rfl rfl rfl .head ?_
   refine dN .nil (Fz.le.refl _) ?_
   refine dE 3 (by kernel_rfl) rfl ?_
   refine ld (Says.own .head) Tryz.isAgg4 rfl (Nat.zero_add _).symm rfl rfl ?_
   refine dN .nil (Fz.le.refl _) ?_
   refine dD (by kernel_rfl) ?_
   refine drN .head ?_
   refine Nt ?_
   refine cF rfl ?_
   refine rgD 18 (.skip (.keep (.keep (.keep .nil)))) mixed ?_
   refine dT 0 rfl rfl rfl (by kernel_rfl) (fun _ _ _ h => h) (y_fa0 F37_3 rfl) (.skip (.keep (.keep (.keep .nil)))) (Fz.le.refl _) ?_
   refine dT 1 rfl rfl rfl (by kernel_rfl) (fun _ _ _ h => h) (y_ld (Says.own .head) Tryz.isAgg34 rfl (Nat.zero_add _).symm rfl) (.skip (.keep (.keep (.keep .nil)))) (Fz.le.refl _) ?_
   refine dT 2 rfl rfl rfl (by kernel_rfl) (fun _ _ _ h => h) (y_fa0 F37_3 rfl) (.skip (.keep (.keep (.keep .nil)))) (Fz.le.refl _) ?_
   refine dT 3 rfl rfl rfl (by kernel_rfl) (fun _ _ _ h => h) (y_ld (Says.own .head) Tryz.isAgg34 rfl (Nat.zero_add _).symm rfl) (.skip (.keep (.keep (.keep .nil)))) (Fz.le.refl _) ?_
   refine dT 4 rfl rfl rfl (by kernel_rfl) (fun _ _ _ h => h) (y_ix2 (j := 2) Tryz.runUnderlying34 Tryz.sizeOf37 rfl rfl rfl rfl (by decide)) (.skip (.keep (.keep (.keep .nil)))) (Fz.le.refl _) ?_
   refine dT 5 rfl rfl rfl (by kernel_rfl) (fun _ _ _ h => h) (y_fa F37_3 rfl) (.skip (.keep (.keep (.keep .nil)))) (Fz.le.refl _) ?_
   refine dT 6 rfl rfl rfl (by kernel_rfl) (fun _ _ _ h => h) (y_ld (Says.own (.tail .head)) Tryz.isAgg34 rfl (Nat.zero_add _).symm rfl) (.skip (.keep (.keep (.keep .nil)))) (Fz.le.refl _) ?_
   refine dT 7 rfl rfl rfl (by kernel_rfl) (fun _ _ _ h => h) (y_mv rfl) (.skip (.keep (.keep (.keep .nil)))) (Fz.le.refl _) ?_
   refine dT 8 rfl rfl rfl (by kernel_rfl) (fun _ _ _ h => h) (y_nc rfl) (.skip (.keep (.keep (.keep .nil)))) (Fz.le.refl _) ?_
   refine dT 9 rfl rfl rfl (by kernel_rfl) (fun _ _ _ h => h) (y_fa F196_3 rfl) (.skip (.keep (.keep (.keep .nil)))) (Fz.le.refl _) ?_
   refine dT 10 rfl rfl rfl (by kernel_rfl) (fun _ _ _ h => h) (y_ld (j := 3) (Says.fz (hb.mono le_4)) Tryz.isAgg194 rfl rfl rfl) (.skip (.keep (.keep (.keep .nil)))) (Fz.le.refl _) ?_
   refine dT 11 rfl rfl rfl (by kernel_rfl) (fun _ _ _ h => h) (y_mv rfl) (.skip (.keep (.keep (.keep .nil)))) (Fz.le.refl _) ?_
   obtain ⟨beq_7, oeq_7, haq_7, hlq_7⟩ := ((h1.mono At_AlterPartitionRequestTopic.mono le_4)).rows.at_ (ne_nil_of_lt hk2)
   obtain ⟨ceq_7, hAq_7, hbq_7⟩ := hlq_7 k2 hk2
   refine dT 12 rfl rfl rfl (by kernel_rfl) (fun _ _ _ h => h) (y_ixk (j := k2) Tryz.runUnderlying194 Tryz.sizeOf201 rfl haq_7 rfl rfl hk2) (.skip (.keep (.keep (.keep .nil)))) (Fz.le.refl _) ?_
   refine dE 13 (by kernel_rfl) rfl ?_
   refine cl rfl rfl rfl (te_AlterPartitionRequestTopic hbq_7 (At_AlterPartitionRequestTopic.mono _ _ _ _ (Fz.le.refl _) hAq_7) ((hf.at 2).lTel (List.getElem_mem hk2))) rfl (fun v_ H1 L1 le_8 hR_ => ?_)
   obtain ⟨rfl, ct74, rfl, hT74⟩ := hR_
   refine dN (.skip (.keep (.keep (.keep .nil)))) le_8 ?_
   refine dE 14 (by kernel_rfl) rfl ?_
   refine bs' L34 rfl rfl rfl rfl (fun b_9 => ?_)
   refine dN (.skip (.skip (.keep (.keep (.keep .nil))))) le_8 ?_
   refine dE 15 (by kernel_rfl) rfl ?_
   have hmk : ml2 = k2 := by have h1 := congrArg List.length pk22; rw [List.length_map, List.length_map, List.length_take] at h1; omega
   have hmb := (hf.at 2).lTl
   refine ap (k := 1) (news := f5 ((ct74, tl_AlterPartitionRequestTopic (lT (T.at 2))[k2]) : EE)) Tryz.underlying34 I37 rfl rfl pk20 (fun _ => (.tail .head)) (src_says Tryz.underlying34 rfl (fun _ => Says.own .head) (f5_one _)) (by omega) (by unfold maxLen; omega) rfl (fun a76 c76 N76 r76 z76 => ?_)
   rw [flatMap_snoc'] at r76
   refine dN (.skip (.skip (.keep (.keep (.keep .nil))))) le_8 ?_
   refine dE 16 (by kernel_rfl) rfl ?_
   refine ixk (j := 2) Tryz.runUnderlying34 Tryz.sizeOf37 rfl rfl rfl rfl (by decide) rfl ?_
   refine dN (.skip (.skip (.keep (.keep (.keep .nil))))) le_8 ?_
   refine dT 17 rfl rfl rfl (by kernel_rfl) (fun _ _ _ h => h) (y_fa F37_3 rfl) (.skip (.skip (.keep (.keep (.keep .nil))))) le_8 ?_
   refine dE 18 (by kernel_rfl) rfl ?_
   refine st Tryz.sizeOf34 rfl rfl rfl rfl (.tail (.tail (.tail .head))) ?_
   refine dNk (by kernel_rfl) ?_
   refine dD (by kernel_rfl) ?_
   refine Nb ?_
   refine drN .head ?_
   refine fun a_ w_ hA hw => ⟨_, _, _, hA.sub ?_, (le_4.trans le_8), hw, _, rfl, a76, (ml2 + 1), c76, (es2 ++ [((ct74, tl_AlterPartitionRequestTopic (lT (T.at 2))[k2]) : EE)]), N76, rfl, rfl, r76, (by simp; omega), (map_take_snoc (g := tl_AlterPartitionRequestTopic) hk2 pk22), (fun p hp => (mem_snoc hp).elim (fun h => (pk23 p h).mono le_8) (fun h => h ▸ hT74))⟩
   exact (.cons rfl (.cons rfl (.cons rfl (.cons rfl (.cons rfl (.nil _))))))
  ·
   refine st Tryz.sizeOf4 rfl rfl rfl rfl .head ?_
   refine dN .nil (Fz.le.refl _) ?_
   refine dE 1 (by kernel_rfl) rfl ?_
   refine st Tryz.sizeOf4 rfl rfl rfl rfl .head ?_
   refine dN .nil (Fz.le.refl _) ?_
   refine dE 3 (by kernel_rfl) rfl ?_
   refine ld (Says.own .head) Tryz.isAgg4 rfl (Nat.zero_add _).symm rfl rfl ?_
   refine dN .nil (Fz.le.refl _) ?_
   refine dD (by kernel_rfl) ?_
   refine drN .head ?_
   refine Nt ?_
   refine cT rfl ?_
   refine sq ?_
   refine rgD 17 (.skip (.keep (.keep (.keep .nil)))) mixed ?_
   refine dT 0 rfl rfl rfl (by kernel_rfl) (fun _ _ _ h => h) (y_fa0 F37_3 rfl) (.skip (.keep (.keep (.keep .nil)))) (Fz.le.refl _) ?_
   refine dT 1 rfl rfl rfl (by kernel_rfl) (fun _ _ _ h => h) (y_ld (Says.own .head) Tryz.isAgg34 rfl (Nat.zero_add _).symm rfl) (.skip (.keep (.keep (.keep .nil)))) (Fz.le.refl _) ?_
   refine dT 2 rfl rfl rfl (by kernel_rfl) (fun _ _ _ h => h) (y_ix2 (j := 2) Tryz.runUnderlying34 Tryz.sizeOf37 rfl rfl rfl rfl (by decide)) (.skip (.keep (.keep (.keep .nil)))) (Fz.le.refl _) ?_
   refine dT 3 rfl rfl rfl (by kernel_rfl) (fun _ _ _ h => h) (y_fa F37_3 rfl) (.skip (.keep (.keep (.keep .nil)))) (Fz.le.refl _) ?_
   refine dT 4 rfl rfl rfl (by kernel_rfl) (fun _ _ _ h => h) (y_ld (Says.own (.tail .head)) Tryz.isAgg34 rfl (Nat.zero_add _).symm rfl) (.skip (.keep (.keep (.keep .nil)))) (Fz.le.refl _) ?_
   refine dT 5 rfl rfl rfl (by kernel_rfl) (fun _ _ _ h => h) (y_mv rfl) (.skip (.keep (.keep (.keep .nil)))) (Fz.le.refl _) ?_
   refine dT 6 rfl rfl rfl (by kernel_rfl) (fun _ _ _ h => h) (y_nc rfl) (.skip (.keep (.keep (.keep .nil)))) (Fz.le.refl _) ?_
   refine dT 7 rfl rfl rfl (by kernel_rfl) (fun _ _ _ h => h) (y_fa F196_3 rfl) (.skip (.keep (.keep (.keep .nil)))) (Fz.le.refl _) ?_
   refine dT 8 rfl rfl rfl (by kernel_rfl) (fun _ _ _ h => h) (y_ld (j := 3) (Says.fz (hb.mono le_4)) Tryz.isAgg194 rfl rfl rfl) (.skip (.keep (.keep (.keep .nil)))) (Fz.le.refl _) ?_
   refine dT 9 rfl rfl rfl (by kernel_rfl) (fun _ _ _ h => h) (y_mv rfl) (.skip (.keep (.keep (.keep .nil)))) (Fz.le.refl _) ?_
   obtain ⟨beq_10, oeq_10, haq_10, hlq_10⟩ := ((h1.mono At_AlterPartitionRequestTopic.mono le_4)).rows.at_ (ne_nil_of_lt hk2)
   obtain ⟨ceq_10, hAq_10, hbq_10⟩ := hlq_10 k2 hk2
   refine dT 10 rfl rfl rfl (by kernel_rfl) (fun _ _ _ h => h) (y_ixk (j := k2) Tryz.runUnderlying194 Tryz.sizeOf201 rfl haq_10 rfl rfl hk2) (.skip (.keep (.keep (.keep .nil)))) (Fz.le.refl _) ?_
   refine dT 12 rfl rfl rfl (by kernel_rfl) (fun _ _ _ h => h) (y_ls Tryz.runUnderlying34 rfl) (.skip (.keep (.keep (.keep .nil)))) (Fz.le.refl _) ?_
   refine dE2 11 13 (by kernel_rfl) rfl rfl ?_ ?_
   ·
    refine cl rfl rfl rfl (te_AlterPartitionRequestTopic hbq_10 (At_AlterPartitionRequestTopic.mono _ _ _ _ (Fz.le.refl _) hAq_10) ((hf.at 2).lTel (List.getElem_mem hk2))) rfl (fun v_ H1 L1 le_11 hR_ => ?_)
    obtain ⟨rfl, ct54, rfl, hT54⟩ := hR_
    refine dN (.skip (.keep (.keep (.keep .nil)))) le_11 ?_
    refine dE 13 (by kernel_rfl) rfl ?_
    refine bs' L34 rfl rfl rfl rfl (fun b_12 => ?_)
    refine dN (.skip (.skip (.keep (.keep (.keep .nil))))) le_11 ?_
    refine dE 14 (by kernel_rfl) rfl ?_
    have hmk : ml2 = k2 := by have h1 := congrArg List.length pk22; rw [List.length_map, List.length_map, List.length_take] at h1; omega
    have hmb := (hf.at 2).lTl
    refine ap (k := 1) (news := f5 ((TC.none, Tr.none) : EE)) Tryz.underlying34 I37 rfl rfl pk20 (fun _ => (.tail .head)) (src_says Tryz.underlying34 rfl (fun _ => Says.own .head) (f5_one _)) (by omega) (by unfold maxLen; omega) rfl (fun a57 c57 N57 r57 z57 => ?_)
    refine dN (.skip (.skip (.keep (.keep (.keep .nil))))) le_11 ?_
    refine dE 15 (by kernel_rfl) rfl ?_
    refine ixk (j := 2) Tryz.runUnderlying34 Tryz.sizeOf37 rfl rfl rfl rfl (by decide) rfl ?_
    refine dN (.skip (.skip (.keep (.keep (.keep .nil))))) le_11 ?_
    refine dT 16 rfl rfl rfl (by kernel_rfl) (fun _ _ _ h => h) (y_fa F37_3 rfl) (.skip (.skip (.keep (.keep (.keep .nil))))) le_11 ?_
    refine dE 17 (by kernel_rfl) rfl ?_
    refine st Tryz.sizeOf34 rfl rfl rfl rfl (.tail (.tail (.tail .head))) ?_
    refine dNk (by kernel_rfl) ?_
    refine dD (by kernel_rfl) ?_
    refine Nt ?_
    refine rg ?_
    obtain ⟨gg57, hgg57⟩ := r57.addr (by omega)
    refine ixk (j := ml2) Tryz.runUnderlying34 Tryz.sizeOf37 rfl hgg57 rfl rfl (by omega) rfl ?_
    refine sR (ds := f5 ((ct54, tl_AlterPartitionRequestTopic (lT (T.at 2))[k2]) : EE)) r57 hgg57 (fun _ => (.tail .head)) Tryz.sizeOf37 rfl rfl rfl rfl (by omega) (fun N57b r57b => ?_)
    rw [row_put (k := 5) (m := ml2) (A := es2.flatMap f5) (by rw [flatMap_len f5 5 f5_len, pk21]) rfl, flatMap_snoc'] at r57b
    refine nN ?_
    refine Nb ?_
    refine drN .head ?_
    refine fun a_ w_ hA hw => ⟨_, _, _, hA.sub ?_, (le_4.trans le_11), hw, _, rfl, a57, (ml2 + 1), c57, (es2 ++ [((ct54, tl_AlterPartitionRequestTopic (lT (T.at 2))[k2]) : EE)]), N57b, rfl, rfl, r57b, (by simp; omega), (map_take_snoc (g := tl_AlterPartitionRequestTopic) hk2 pk22), (fun p hp => (mem_snoc hp).elim (fun h => (pk23 p h).mono le_11) (fun h => h ▸ hT54))⟩
    exact (.cons rfl (.cons rfl (.cons rfl (.cons rfl (.cons rfl (.nil _))))))
   ·
    refine bs' L34 rfl rfl rfl rfl (fun b_13 => ?_)
    refine dN (.skip (.skip (.keep (.keep (.keep .nil))))) (Fz.le.refl _) ?_
    refine dE 11 (by kernel_rfl) rfl ?_
    refine cl rfl rfl rfl (te_AlterPartitionRequestTopic hbq_10 (At_AlterPartitionRequestTopic.mono _ _ _ _ (Fz.le.refl _) hAq_10) ((hf.at 2).lTel (List.getElem_mem hk2))) rfl (fun v_ H1 L1 le_14 hR_ => ?_)
    obtain ⟨rfl, ct54, rfl, hT54⟩ := hR_
    refine dN (.skip (.skip (.keep (.keep (.keep .nil))))) le_14 ?_
    refine dE 14 (by kernel_rfl) rfl ?_
    have hmk : ml2 = k2 := by have h1 := congrArg List.length pk22; rw [List.length_map, List.length_map, List.length_take] at h1; omega
    have hmb := (hf.at 2).lTl
    refine ap (k := 1) (news := f5 ((TC.none, Tr.none) : EE)) Tryz.underlying34 I37 rfl rfl pk20 (fun _ => (.tail .head)) (src_says Tryz.underlying34 rfl (fun _ => Says.own .head) (f5_one _)) (by omega) (by unfold maxLen; omega) rfl (fun a57 c57 N57 r57 z57 => ?_)
    refine dN (.skip (.skip (.keep (.keep (.keep .nil))))) le_14 ?_
    refine dE 15 (by kernel_rfl) rfl ?_
    refine ixk (j := 2) Tryz.runUnderlying34 Tryz.sizeOf37 rfl rfl rfl rfl (by decide) rfl ?_
    refine dN (.skip (.skip (.keep (.keep (.keep .nil))))) le_14 ?_
    refine dT 16 rfl rfl rfl (by kernel_rfl) (fun _ _ _ h => h) (y_fa F37_3 rfl) (.skip (.skip (.keep (.keep (.keep .nil))))) le_14 ?_
    refine dE 17 (by kernel_rfl) rfl ?_
    refine st Tryz.sizeOf34 rfl rfl rfl rfl (.tail (.tail (.tail .head))) ?_
    refine dNk (by kernel_rfl) ?_
    refine dD (by kernel_rfl) ?_
    refine Nt ?_
    refine rg ?_
    obtain ⟨gg57, hgg57⟩ := r57.addr (by omega)
    refine ixk (j := ml2) Tryz.runUnderlying34 Tryz.sizeOf37 rfl hgg57 rfl rfl (by omega) rfl ?_
    refine sR (ds := f5 ((ct54, tl_AlterPartitionRequestTopic (lT (T.at 2))[k2]) : EE)) r57 hgg57 (fun _ => (.tail .head)) Tryz.sizeOf37 rfl rfl rfl rfl (by omega) (fun N57b r57b => ?_)
    rw [row_put (k := 5) (m := ml2) (A := es2.flatMap f5) (by rw [flatMap_len f5 5 f5_len, pk21]) rfl, flatMap_snoc'] at r57b
    refine nN ?_
    refine Nb ?_
    refine drN .head ?_
    refine fun a_ w_ hA hw => ⟨_, _, _, hA.sub ?_, (le_4.trans le_14), hw, _, rfl, a57, (ml2 + 1), c57, (es2 ++ [((ct54, tl_AlterPartitionRequestTopic (lT (T.at 2))[k2]) : EE)]), N57b, rfl, rfl, r57b, (by simp; omega), (map_take_snoc (g := tl_AlterPartitionRequestTopic) hk2 pk22), (fun p hp => (mem_snoc hp).elim (fun h => (pk23 p h).mono le_14) (fun h => h ▸ hT54))⟩
    exact (.cons rfl (.cons rfl (.cons rfl (.cons rfl (.cons rfl (.nil _))))))
 ·
  obtain ⟨al2, ml2, cl2, es2, Nl2, rfl, rfl, pk20, pk21, pk22, pk23⟩ := hI
  refine toWp ?_
  have hes2 : es2.map (·.2) = (lT (T.at 2)).map tl_AlterPartitionRequestTopic := by rw [pk22, List.take_length]
  have hm2 : ml2 = ((lT (T.at 2)).map tl_AlterPartitionRequestTopic).length := by rw [← hes2, List.length_map]; exact pk21
  refine frW pk20 .head (fun Hl2 hll2 hzl2 => ?_)
  have ht2 := TreesAt.row hzl2 pk21 pk20.le.1 (by have h1 := congrArg List.length hes2; rw [List.length_map, List.length_map] at h1; unfold B47; omega) (fun p hp => (pk23 p hp).mono hll2)
  rw [hes2] at ht2
  subst hm2
  refine sr ?_
  refine mv rfl rfl ?_
  refine nc rfl rfl ?_
  refine fa F196_4 rfl rfl ?_
  refine mkf rfl rfl ?_
  have hkv_ := (h2.mono (le_5.trans hll2))
  obtain ⟨kvs, hM, hlen, hel⟩ := hkv_
  have hfu := hf.u
  refine cl rfl rfl rfl (t_each (j := 4) (I := fun i H1 Y => TgI 72 b_3 37 (.int .i64 0) (.slice none 0 0) (.bool false) (_) T.u i H1 Y) (hb.mono (le_5.trans hll2)) rfl hM (by omega) (fun i H1 H2 Y hle h => h.mono hle) TgI.start (fun i k v H1 Y L1 hi hle hI => ?_)) rfl (fun v_ H1 L1 le_16 hR_ => ?_)
  ·
   obtain ⟨s, h1, ⟨va, vc, rfl, hx⟩, h2, h3⟩ := hel i k v hi
   have hik := sortKv_lt hi
   exact TgI.step (fun {_ _ _ _ _ _ _ _ _ _ _ _ _ _ _ _} => tc_188) hf.v (by omega) h1 (hx.mono hle) h2 h3 hI
  rw [hlen] at hR_
  obtain ⟨_, rfl, aU, cU, NU, esU, rfl, hrU, heU, hgU⟩ := hR_
  refine splL ?_
  rw [List.take_length] at heU
  refine frL hrU (.tail .head) (fun HU hleU hzU => ?_)
  have hU := (TagsAt.told hzU hrU heU hfu (fun p hp => (hgU p hp).mono hleU)).1
  refine nl ?_
  refine sr ?_
  refine fa0 F37_4 rfl rfl ?_
  refine ld (Says.own .head) Tryz.isAgg35 rfl (Nat.zero_add _).symm rfl rfl ?_
  refine cl rfl rfl rfl (k_sorted hU (h2.mono (le_5.trans (hll2.trans (le_16.trans hleU)))).rise) rfl (fun v_ H1 L1 hle_ hR_ => ?_)
  obtain ⟨rfl, rfl⟩ := hR_
  refine nl ?_
  refine sr ?_
  refine la (Says.own .head) Tryz.isAgg37 Tryz.sizeOf37 rfl (Nat.zero_add _).symm rfl rfl ?_
  refine sa Tryz.sizeOf37 rfl rfl rfl rfl rfl (.tail (.tail .head)) ?_
  refine nl ?_
  refine drW .head ?_
  refine frW (Row.whole (e := 37) (size := 5) (m := 3) (ds := [.int .i64 (IntKind.i32.wrap (T.at 0).n), .slice none 0 0, .bool false, .slice none 0 0, .slice none 0 0, .int .i64 (T.at 1).n, .slice none 0 0, .bool false, .slice none 0 0, .slice none 0 0, .int .i64 0, .slice none 0 0, .bool a2.isNone, .slice al2 ((lT (T.at 2)).map tl_AlterPartitionRequestTopic).length cl2, .slice none 0 0]) rfl (by unfold maxLen; omega)) .head (fun H9 hle9 hz9 => ?_)
  have hrb : H9.at b_2 0 [.int .i64 (IntKind.i32.wrap (T.at 0).n), .slice none 0 0, .bool false, .slice none 0 0, .slice none 0 0, .int .i64 (T.at 1).n, .slice none 0 0, .bool false, .slice none 0 0, .slice none 0 0, .int .i64 0, .slice none 0 0, .bool a2.isNone, .slice al2 ((lT (T.at 2)).map tl_AlterPartitionRequestTopic).length cl2, .slice none 0 0] := by
   rcases hz9 with ⟨h, _⟩ | ⟨g, h, h2⟩
   · cases h
   · cases h; exact h2
  rw [(h1).nul] at hrb
  have hrb2 : H9.at b_2 0 (([((TC.none : TC), (Tr.mk (IntKind.i32.wrap (T.at 0).n) [] false [] [] : Tr)), ((TC.none : TC), (Tr.mk (T.at 1).n [] false [] [] : Tr)), ((⟨none, 0, al2, cl2, none, 0⟩ : TC), (Tr.mk 0 [] (T.at 2).nul ((lT (T.at 2)).map tl_AlterPartitionRequestTopic) [] : Tr))] : List EE).flatMap fun p => p.1.cells p.2) := by exact hrb
  have hl9 : TreesAt H9 (some ⟨b_2, 0, none⟩) 3 [(.mk (IntKind.i32.wrap (T.at 0).n) [] false [] []), (.mk (T.at 1).n [] false [] []), (.mk 0 [] (T.at 2).nul ((lT (T.at 2)).map tl_AlterPartitionRequestTopic) [])] := by
   refine TreesAt.row (es := [((TC.none : TC), (Tr.mk (IntKind.i32.wrap (T.at 0).n) [] false [] [] : Tr)), ((TC.none : TC), (Tr.mk (T.at 1).n [] false [] [] : Tr)), ((⟨none, 0, al2, cl2, none, 0⟩ : TC), (Tr.mk 0 [] (T.at 2).nul ((lT (T.at 2)).map tl_AlterPartitionRequestTopic) [] : Tr))]) (.inr ⟨_, rfl, hrb2⟩) rfl (Nat.le_refl _) (Nat.le_of_ble_eq_true rfl) ?_
   intro p hp
   simp only [List.mem_cons, List.not_mem_nil, or_false] at hp
   rcases hp with rfl | rfl | rfl
   · exact (.of (.nil _) (.nil _) (.nil _))
   · exact (.of (.nil _) (.nil _) (.nil _))
   · exact (.of (.nil _) (ht2.mono (le_16.trans (hleU.trans hle9))) (.nil _))
  exact rC rfl Tryz.isAgg37 Tryz.sizeOf37 rfl .head rfl (le_5.trans (hll2.trans (le_16.trans (hleU.trans hle9)))) (fun _ _ h => h) ⟨rfl, ⟨none, 0, some ⟨b_2, 0, none⟩, 3, aU, cU⟩, rfl, .of (.nil _) hl9 (hU.mono hle9)⟩
end Go.Sx

import Derived.Test.YthgkgbaggjongaaGreatDoorBAddPartitionsToTxnResponse
import Derived.Test.YthgkgbaggjongaaGreatDoorTB
import Derived.KernelRfl
set_option linter.unusedVariables false
set_option linter.unusedSimpArgs false
set_option maxRecDepth 100000
set_option maxHeartbeats 20000000
namespace Go.Sx
open Go.Proofs
def tl_AddPartitionsToTxnResponseTransactionTopicPartition (T : Tr) : Tr := .mk 0 [] false [(.mk (IntKind.i32.wrap (T.at 0).n) [] false [] []), (.mk (IntKind.i16.wrap (T.at 1).n) [] false [] [])] T.u
theorem te_AddPartitionsToTxnResponseTransactionTopicPartition {H : Fz} {L : Own} {b o : Nat} {cs : List Value} {T : Tr} (hb : H.at b o cs) (hA : At_AddPartitionsToTxnResponseTransactionTopicPartition H T cs) (hf : Fits T) :
  Fn Tryz.prog 305 [.pointer (some ⟨b, o, none⟩)] H L (fun v H' L' => L = L' ∧ ∃ c : TC, v = .agg (c.cells (tl_AddPartitionsToTxnResponseTransactionTopicPartition T)).toArray ∧ TreeAt H' c (tl_AddPartitionsToTxnResponseTransactionTopicPartition T)) := by
 obtain ⟨mt, rfl, h1⟩ := hA
 refine Fn.mk Tryz.call305 Tryz.func305 rfl Tryz.ntmps305 rfl ?_
 refine sr ?_
 refine al Tryz.zeroValue37 rfl rfl (fun b_1 => ?_)
 refine nl ?_
 refine sr ?_
 refine mkC (m := 2) (zs := [.int .i64 0, .slice none 0 0, .bool false, .slice none 0 0, .slice none 0 0]) Tryz.underlying34 I37 rfl rfl rfl rfl rfl rfl (by decide) (by unfold maxLen; omega) rfl (fun b_2 => ?_)
 refine bd' S37 rfl rfl rfl ?_
 refine al Tryz.zeroValue37 rfl rfl (fun b_3 => ?_)
 refine sa Tryz.sizeOf37 rfl rfl rfl rfl rfl .head ?_
 refine nl ?_
 refine sq ?_
 refine rgD 9 (.keep (.keep (.keep .nil))) mixed ?_
 refine dT 0 rfl rfl rfl (by kernel_rfl) (fun _ _ _ h => h) (y_fa0 F37_3 rfl) (.keep (.keep (.keep .nil))) (Fz.le.refl _) ?_
 refine dT 1 rfl rfl rfl (by kernel_rfl) (fun _ _ _ h => h) (y_ld (Says.own .head) Tryz.isAgg34 rfl (Nat.zero_add _).symm rfl) (.keep (.keep (.keep .nil))) (Fz.le.refl _) ?_
 refine dT 2 rfl rfl rfl (by kernel_rfl) (fun _ _ _ h => h) (y_mv rfl) (.keep (.keep (.keep .nil))) (Fz.le.refl _) ?_
 refine dT 3 rfl rfl rfl (by kernel_rfl) (fun _ _ _ h => h) (y_nc rfl) (.keep (.keep (.keep .nil))) (Fz.le.refl _) ?_
 refine dT 4 rfl rfl rfl (by kernel_rfl) (fun _ _ _ h => h) (y_fa F265_0 rfl) (.keep (.keep (.keep .nil))) (Fz.le.refl _) ?_
 refine dT 5 rfl rfl rfl (by kernel_rfl) (fun _ _ _ h => h) (y_ld (j := 0) (Says.fz hb) Tryz.isAgg21 rfl (Nat.add_zero _).symm rfl) (.keep (.keep (.keep .nil))) (Fz.le.refl _) ?_
 refine dT 6 rfl rfl rfl (by kernel_rfl) (fun _ _ _ h => h) (y_cv Tryz.runUnderlying21 Tryz.runUnderlying2 rfl (i32_64 _)) (.keep (.keep (.keep .nil))) (Fz.le.refl _) ?_
 refine dT 7 rfl rfl rfl (by kernel_rfl) (fun _ _ _ h => h) (y_bd S37 rfl rfl) (.keep (.keep (.keep .nil))) (Fz.le.refl _) ?_
 refine dT 8 rfl rfl rfl (by kernel_rfl) (fun _ _ _ h => h) (y_ix2 (j := 0) Tryz.runUnderlying34 Tryz.sizeOf37 rfl rfl rfl rfl (by decide)) (.keep (.keep (.keep .nil))) (Fz.le.refl _) ?_
 refine dE 9 (by kernel_rfl) rfl ?_
 refine sa Tryz.sizeOf37 rfl rfl rfl rfl rfl (.tail .head) ?_
 refine dNk (by kernel_rfl) ?_
 refine dD (by kernel_rfl) ?_
 refine Nt ?_
 refine sq ?_
 refine rgD 9 (.keep (.keep (.keep .nil))) mixed ?_
 refine dT 0 rfl rfl rfl (by kernel_rfl) (fun _ _ _ h => h) (y_fa0 F37_3 rfl) (.keep (.keep (.keep .nil))) (Fz.le.refl _) ?_
 refine dT 1 rfl rfl rfl (by kernel_rfl) (fun _ _ _ h => h) (y_ld (Says.own .head) Tryz.isAgg34 rfl (Nat.zero_add _).symm rfl) (.keep (.keep (.keep .nil))) (Fz.le.refl _) ?_
 refine dT 2 rfl rfl rfl (by kernel_rfl) (fun _ _ _ h => h) (y_mv rfl) (.keep (.keep (.keep .nil))) (Fz.le.refl _) ?_
 refine dT 3 rfl rfl rfl (by kernel_rfl) (fun _ _ _ h => h) (y_nc rfl) (.keep (.keep (.keep .nil))) (Fz.le.refl _) ?_
 refine dT 4 rfl rfl rfl (by kernel_rfl) (fun _ _ _ h => h) (y_fa F265_1 rfl) (.keep (.keep (.keep .nil))) (Fz.le.refl _) ?_
 refine dT 5 rfl rfl rfl (by kernel_rfl) (fun _ _ _ h => h) (y_ld (j := 1) (Says.fz hb) Tryz.isAgg51 rfl rfl rfl) (.keep (.keep (.keep .nil))) (Fz.le.refl _) ?_
 refine dT 6 rfl rfl rfl (by kernel_rfl) (fun _ _ _ h => h) (y_cv Tryz.runUnderlying51 Tryz.runUnderlying2 rfl (i16_64 _)) (.keep (.keep (.keep .nil))) (Fz.le.refl _) ?_
 refine dT 7 rfl rfl rfl (by kernel_rfl) (fun _ _ _ h => h) (y_bd S37 rfl rfl) (.keep (.keep (.keep .nil))) (Fz.le.refl _) ?_
 refine dT 8 rfl rfl rfl (by kernel_rfl) (fun _ _ _ h => h) (y_ix2 (j := 1) Tryz.runUnderlying34 Tryz.sizeOf37 rfl rfl rfl rfl (by decide)) (.keep (.keep (.keep .nil))) (Fz.le.refl _) ?_
 refine dE 9 (by kernel_rfl) rfl ?_
 refine sa Tryz.sizeOf37 rfl rfl rfl rfl rfl (.tail .head) ?_
 refine dNk (by kernel_rfl) ?_
 refine dD (by kernel_rfl) ?_
 refine Nt ?_
 refine sr ?_
 refine mv rfl rfl ?_
 refine nc rfl rfl ?_
 refine fa F265_2 rfl rfl ?_
 refine mkf rfl rfl ?_
 have hkv_ := h1
 obtain ⟨kvs, hM, hlen, hel⟩ := hkv_
 have hfu := hf.u
 refine cl rfl rfl rfl (t_each (j := 2) (I := fun i H1 Y => TgI 72 b_3 37 (.int .i64 0) (.slice none 0 0) (.bool false) (_) T.u i H1 Y) hb rfl hM (by omega) (fun i H1 H2 Y hle h => h.mono hle) TgI.start (fun i k v H1 Y L1 hi hle hI => ?_)) rfl (fun v_ H1 L1 le_5 hR_ => ?_)
 ·
  obtain ⟨s, h1, ⟨va, vc, rfl, hx⟩, h2, h3⟩ := hel i k v hi
  have hik := sortKv_lt hi
  exact TgI.step (fun {_ _ _ _ _ _ _ _ _ _ _ _ _ _ _ _} => tc_339) hf.v (by omega) h1 (hx.mono hle) h2 h3 hI
 rw [hlen] at hR_
 obtain ⟨_, rfl, aU, cU, NU, esU, rfl, hrU, heU, hgU⟩ := hR_
 refine splL ?_
 rw [List.take_length] at heU
 refine frL hrU (.tail .head) (fun HU hleU hzU => ?_)
 have hU := (TagsAt.told hzU hrU heU hfu (fun p hp => (hgU p hp).mono hleU)).1
 refine nl ?_
 refine sr ?_
 refine fa0 F37_4 rfl rfl ?_
 refine ld (Says.own .head) Tryz.isAgg35 rfl (Nat.zero_add _).symm rfl rfl ?_
 refine cl rfl rfl rfl (k_sorted hU (h1.mono (le_5.trans hleU)).rise) rfl (fun v_ H1 L1 hle_ hR_ => ?_)
 obtain ⟨rfl, rfl⟩ := hR_
 refine nl ?_
 refine sr ?_
 refine la (Says.own .head) Tryz.isAgg37 Tryz.sizeOf37 rfl (Nat.zero_add _).symm rfl rfl ?_
 refine sa Tryz.sizeOf37 rfl rfl rfl rfl rfl (.tail (.tail .head)) ?_
 refine nl ?_
 refine drW .head ?_
 refine frW (Row.whole (e := 37) (size := 5) (m := 2) (ds := [.int .i64 (IntKind.i32.wrap (T.at 0).n), .slice none 0 0, .bool false, .slice none 0 0, .slice none 0 0, .int .i64 (IntKind.i16.wrap (T.at 1).n), .slice none 0 0, .bool false, .slice none 0 0, .slice none 0 0]) rfl (by unfold maxLen; omega)) .head (fun H9 hle9 hz9 => ?_)
 have hrb : H9.at b_2 0 [.int .i64 (IntKind.i32.wrap (T.at 0).n), .slice none 0 0, .bool false, .slice none 0 0, .slice none 0 0, .int .i64 (IntKind.i16.wrap (T.at 1).n), .slice none 0 0, .bool false, .slice none 0 0, .slice none 0 0] := by
  rcases hz9 with ⟨h, _⟩ | ⟨g, h, h2⟩
  · cases h
  · cases h; exact h2
 have hrb2 : H9.at b_2 0 (([((TC.none : TC), (Tr.mk (IntKind.i32.wrap (T.at 0).n) [] false [] [] : Tr)), ((TC.none : TC), (Tr.mk (IntKind.i16.wrap (T.at 1).n) [] false [] [] : Tr))] : List EE).flatMap fun p => p.1.cells p.2) := by exact hrb
 have hl9 : TreesAt H9 (some ⟨b_2, 0, none⟩) 2 [(.mk (IntKind.i32.wrap (T.at 0).n) [] false [] []), (.mk (IntKind.i16.wrap (T.at 1).n) [] false [] [])] := by
  refine TreesAt.row (es := [((TC.none : TC), (Tr.mk (IntKind.i32.wrap (T.at 0).n) [] false [] [] : Tr)), ((TC.none : TC), (Tr.mk (IntKind.i16.wrap (T.at 1).n) [] false [] [] : Tr))]) (.inr ⟨_, rfl, hrb2⟩) rfl (Nat.le_refl _) (Nat.le_of_ble_eq_true rfl) ?_
  intro p hp
  simp only [List.mem_cons, List.not_mem_nil, or_false] at hp
  rcases hp with rfl | rfl
  · exact (.of (.nil _) (.nil _) (.nil _))
  · exact (.of (.nil _) (.nil _) (.nil _))
 exact rC rfl Tryz.isAgg37 Tryz.sizeOf37 rfl .head rfl (le_5.trans (hleU.trans hle9)) (fun _ _ h => h) ⟨rfl, ⟨none, 0, some ⟨b_2, 0, none⟩, 2, aU, cU⟩, rfl, .of (.nil _) hl9 (hU.mono hle9)⟩
def tl_AddPartitionsToTxnResponseTransactionTopic (T : Tr) : Tr := .mk 0 [] false [(.mk 0 (T.at 0).s false [] []), (.mk 0 [] (T.at 1).nul ((lT (T.at 1)).map tl_AddPartitionsToTxnResponseTransactionTopicPartition) [])] T.u
theorem te_AddPartitionsToTxnResponseTransactionTopic {H : Fz} {L : Own} {b o : Nat} {cs : List Value} {T : Tr} (hb : H.at b o cs) (hA : At_AddPartitionsToTxnResponseTransactionTopic H T cs) (hf : Fits T) :
  Fn Tryz.prog 245 [.pointer (some ⟨b, o, none⟩)] H L (fun v H' L' => L = L' ∧ ∃ c : TC, v = .agg (c.cells (tl_AddPartitionsToTxnResponseTransactionTopic T)).toArray ∧ TreeAt H' c (tl_AddPartitionsToTxnResponseTransactionTopic T)) := by
 obtain ⟨a1, c1, mt, rfl, h1, h2⟩ := hA
 refine Fn.mk Tryz.call245 Tryz.func245 rfl Tryz.ntmps245 rfl ?_
 refine sr ?_
 refine al Tryz.zeroValue37 rfl rfl (fun b_1 => ?_)
 refine nl ?_
 refine sr ?_
 refine mkC (m := 2) (zs := [.int .i64 0, .slice none 0 0, .bool false, .slice none 0 0, .slice none 0 0]) Tryz.underlying34 I37 rfl rfl rfl rfl rfl rfl (by decide) (by unfold maxLen; omega) rfl (fun b_2 => ?_)
 refine bd' S37 rfl rfl rfl ?_
 refine al Tryz.zeroValue37 rfl rfl (fun b_3 => ?_)
 refine sa Tryz.sizeOf37 rfl rfl rfl rfl rfl .head ?_
 refine nl ?_
 refine sq ?_
 refine rgD 9 (.keep (.keep (.keep .nil))) mixed ?_
 refine dT 0 rfl rfl rfl (by kernel_rfl) (fun _ _ _ h => h) (y_fa0 F37_3 rfl) (.keep (.keep (.keep .nil))) (Fz.le.refl _) ?_
 refine dT 1 rfl rfl rfl (by kernel_rfl) (fun _ _ _ h => h) (y_ld (Says.own .head) Tryz.isAgg34 rfl (Nat.zero_add _).symm rfl) (.keep (.keep (.keep .nil))) (Fz.le.refl _) ?_
 refine dT 2 rfl rfl rfl (by kernel_rfl) (fun _ _ _ h => h) (y_mv rfl) (.keep (.keep (.keep .nil))) (Fz.le.refl _) ?_
 refine dT 3 rfl rfl rfl (by kernel_rfl) (fun _ _ _ h => h) (y_nc rfl) (.keep (.keep (.keep .nil))) (Fz.le.refl _) ?_
 refine dT 4 rfl rfl rfl (by kernel_rfl) (fun _ _ _ h => h) (y_fa F263_0 rfl) (.keep (.keep (.keep .nil))) (Fz.le.refl _) ?_
 refine dT 5 rfl rfl rfl (by kernel_rfl) (fun _ _ _ h => h) (y_ld (j := 0) (Says.fz hb) Tryz.isAgg9 rfl (Nat.add_zero _).symm rfl) (.keep (.keep (.keep .nil))) (Fz.le.refl _) ?_
 refine dE 6 (by kernel_rfl) rfl ?_
 refine csb Tryz.underlying9 Tryz.underlying22 Tryz.underlying5 rfl (by have := (hf.at 0).s; unfold B47; omega) rfl (fun Hb13 b13 cp13 le_4 hb13 => ?_)
 refine dN (.keep (.keep (.keep .nil))) le_4 ?_
 refine dT 7 rfl rfl rfl (by kernel_rfl) (fun _ _ _ h => h) (y_bd S37 rfl rfl) (.keep (.keep (.keep .nil))) le_4 ?_
 refine dT 8 rfl rfl rfl (by kernel_rfl) (fun _ _ _ h => h) (y_ix2 (j := 0) Tryz.runUnderlying34 Tryz.sizeOf37 rfl rfl rfl rfl (by decide)) (.keep (.keep (.keep .nil))) le_4 ?_
 refine dE 9 (by kernel_rfl) rfl ?_
 refine sa Tryz.sizeOf37 rfl rfl rfl rfl rfl (.tail .head) ?_
 refine dNk (by kernel_rfl) ?_
 refine dD (by kernel_rfl) ?_
 refine Nt ?_
 refine sq ?_
 refine rgD 9 (.keep (.keep (.keep .nil))) mixed ?_
 refine dT 0 rfl rfl rfl (by kernel_rfl) (fun _ _ _ h => h) (y_fa0 F37_3 rfl) (.keep (.keep (.keep .nil))) (Fz.le.refl _) ?_
 refine dT 1 rfl rfl rfl (by kernel_rfl) (fun _ _ _ h => h) (y_ld (Says.own .head) Tryz.isAgg34 rfl (Nat.zero_add _).symm rfl) (.keep (.keep (.keep .nil))) (Fz.le.refl _) ?_
 refine dT 2 rfl rfl rfl (by kernel_rfl) (fun _ _ _ h => h) (y_mv rfl) (.keep (.keep (.keep .nil))) (Fz.le.refl _) ?_
 refine dT 3 rfl rfl rfl (by kernel_rfl) (fun _ _ _ h => h) (y_nc rfl) (.keep (.keep (.keep .nil))) (Fz.le.refl _) ?_
 refine dT 4 rfl rfl rfl (by kernel_rfl) (fun _ _ _ h => h) (y_fa F263_1 rfl) (.keep (.keep (.keep .nil))) (Fz.le.refl _) ?_
 refine dT 5 rfl rfl rfl (by kernel_rfl) (fun _ _ _ h => h) (y_ld (j := 1) (Says.fz (hb.mono le_4)) Tryz.isAgg261 rfl rfl rfl) (.keep (.keep (.keep .nil))) (Fz.le.refl _) ?_
 refine dT 6 rfl rfl rfl (by kernel_rfl) (fun _ _ _ h => h) (y_esn Tryz.underlying261 rfl) (.keep (.keep (.keep .nil))) (Fz.le.refl _) ?_
 refine dE 7 (by kernel_rfl) rfl ?_
 refine ixk (j := 1) Tryz.runUnderlying34 Tryz.sizeOf37 rfl rfl rfl rfl (by decide) rfl ?_
 refine dN (.keep (.keep (.keep .nil))) (Fz.le.refl _) ?_
 refine dT 8 rfl rfl rfl (by kernel_rfl) (fun _ _ _ h => h) (y_fa F37_2 rfl) (.keep (.keep (.keep .nil))) (Fz.le.refl _) ?_
 refine dE 9 (by kernel_rfl) rfl ?_
 refine st Tryz.sizeOf4 rfl rfl rfl rfl (.tail .head) ?_
 refine dNk (by kernel_rfl) ?_
 refine dD (by kernel_rfl) ?_
 refine Nt ?_
 refine sq ?_
 refine sr ?_
 refine mv rfl rfl ?_
 refine nc rfl rfl ?_
 refine fa F263_1 rfl rfl ?_
 refine ld (Says.fz (hb.mono le_4)) Tryz.isAgg261 rfl rfl rfl rfl ?_
 refine ls Tryz.runUnderlying261 rfl rfl ?_
 refine mv rfl rfl ?_
 refine nl ?_
 have hlm1 := (hf.at 1).lTl
 refine nulC2 ?_
 refine fr ((lT (T.at 1)).length) (fun k1 l' H' L' => ∃ (al1 : Option Addr), ∃ (ml1 : Nat), ∃ (cl1 : Nat), ∃ (es1 : List EE), ∃ (Nl1 : Chunk), [(0, .pointer (some ⟨b, o, none⟩)), (2, .pointer (some ⟨b_1, 0, none⟩)), (3, .pointer (some ⟨b_3, 0, none⟩)), (29, .int .i64 ((lT (T.at 1)).length : Int))] = l' ∧ Nl1 :: [(b_3, .cells [.int .i64 0, .slice none 0 0, .bool false, _, .slice none 0 0].toArray 37 (0, 0))] :: [(b_2, .cells [.int .i64 0, .slice (some ⟨b13, 0, none⟩) (T.at 0).s.length cp13, .bool false, .slice none 0 0, .slice none 0 0, .int .i64 0, .slice none 0 0, .bool a1.isNone, .slice al1 ml1 cl1, .slice none 0 0].toArray 37 (0, 0))] :: [(b_1, .cells [.int .i64 0, .slice none 0 0, .bool false, .slice none 0 0, .slice none 0 0].toArray 37 (0, 0))] :: L = L' ∧ Row 37 5 al1 ml1 cl1 (es1.flatMap f5) Nl1 ∧ ml1 = es1.length ∧ es1.map (·.2) = ((lT (T.at 1)).take k1).map tl_AddPartitionsToTxnResponseTransactionTopicPartition ∧ (∀ p : EE, p ∈ es1 → TreeAt H' p.1 p.2)) [(0, .pointer (some ⟨b, o, none⟩)), (2, .pointer (some ⟨b_1, 0, none⟩)), (3, .pointer (some ⟨b_3, 0, none⟩)), (29, .int .i64 ((lT (T.at 1)).length : Int))] (fun k1 l' H' L' h => ?_) (by omega) rfl (.cons rfl (.cons rfl (.cons rfl (.cons rfl (.nil _))))) ⟨none, 0, 0, [], [], rfl, rfl, (Row.nil _ _), rfl, (by simp), (fun p hp => by cases hp)⟩ rfl rfl rfl rfl rfl (fun k1 l' H' L' hk1 le_5 hI => ?_) (fun l' H' L' le_6 hI => ?_)
 · obtain ⟨al1, ml1, cl1, es1, Nl1, rfl, _⟩ := h; exact ⟨rfl, rfl, rfl, rfl⟩
 ·
  obtain ⟨al1, ml1, cl1, es1, Nl1, rfl, rfl, pk10, pk11, pk12, pk13⟩ := hI
  refine sr ?_
  refine mv rfl rfl ?_
  refine asg rfl rfl ?_
  refine nl ?_
  refine sq ?_
  refine rgD 4 .nil mixed ?_
  refine dE 0 (by kernel_rfl) rfl ?_
  refine al Tryz.zeroValue4 rfl rfl (fun b_7 => ?_)
  refine dN .nil (Fz.le.refl _) ?_
  refine dE2 1 2 (by kernel_rfl) rfl rfl ?_ ?_
  ·
   refine st Tryz.sizeOf4 rfl rfl rfl rfl .head ?_
   refine dN .nil (Fz.le.refl _) ?_
   refine dE 2 (by kernel_rfl) rfl ?_
   refine st Tryz.sizeOf4 rfl rfl rfl rfl .head ?_
   refine dN .nil (Fz.le.refl _) ?_
   refine dE 3 (by kernel_rfl) rfl ?_
   refine ld (Says.own .head) Tryz.isAgg4 rfl (Nat.zero_add _).symm rfl rfl ?_
   refine dN .nil (Fz.le.refl _) ?_
   refine dD (by kernel_rfl) ?_
   refine drN .head ?_
   refine Nt ?_
   refine cF rfl ?_
   refine rgD 18 (.skip (.keep (.keep (.keep .nil)))) mixed ?_
   refine dT 0 rfl rfl rfl (by kernel_rfl) (fun _ _ _ h => h) (y_fa0 F37_3 rfl) (.skip (.keep (.keep (.keep .nil)))) (Fz.le.refl _) ?_
   refine dT 1 rfl rfl rfl (by kernel_rfl) (fun _ _ _ h => h) (y_ld (Says.own .head) Tryz.isAgg34 rfl (Nat.zero_add _).symm rfl) (.skip (.keep (.keep (.keep .nil)))) (Fz.le.refl _) ?_
   refine dT 2 rfl rfl rfl (by kernel_rfl) (fun _ _ _ h => h) (y_fa0 F37_3 rfl) (.skip (.keep (.keep (.keep .nil)))) (Fz.le.refl _) ?_
   refine dT 3 rfl rfl rfl (by kernel_rfl) (fun _ _ _ h => h) (y_ld (Says.own .head) Tryz.isAgg34 rfl (Nat.zero_add _).symm rfl) (.skip (.keep (.keep (.keep .nil)))) (Fz.le.refl _) ?_
   refine dT 4 rfl rfl rfl (by kernel_rfl) (fun _ _ _ h => h) (y_ix2 (j := 1) Tryz.runUnderlying34 Tryz.sizeOf37 rfl rfl rfl rfl (by decide)) (.skip (.keep (.keep (.keep .nil)))) (Fz.le.refl _) ?_
   refine dT 5 rfl rfl rfl (by kernel_rfl) (fun _ _ _ h => h) (y_fa F37_3 rfl) (.skip (.keep (.keep (.keep .nil)))) (Fz.le.refl _) ?_
   refine dT 6 rfl rfl rfl (by kernel_rfl) (fun _ _ _ h => h) (y_ld (Says.own (.tail .head)) Tryz.isAgg34 rfl (Nat.zero_add _).symm rfl) (.skip (.keep (.keep (.keep .nil)))) (Fz.le.refl _) ?_
   refine dT 7 rfl rfl rfl (by kernel_rfl) (fun _ _ _ h => h) (y_mv rfl) (.skip (.keep (.keep (.keep .nil)))) (Fz.le.refl _) ?_
   refine dT 8 rfl rfl rfl (by kernel_rfl) (fun _ _ _ h => h) (y_nc rfl) (.skip (.keep (.keep (.keep .nil)))) (Fz.le.refl _) ?_
   refine dT 9 rfl rfl rfl (by kernel_rfl) (fun _ _ _ h => h) (y_fa F263_1 rfl) (.skip (.keep (.keep (.keep .nil)))) (Fz.le.refl _) ?_
   refine dT 10 rfl rfl rfl (by kernel_rfl) (fun _ _ _ h => h) (y_ld (j := 1) (Says.fz (hb.mono (le_4.trans le_5))) Tryz.isAgg261 rfl rfl rfl) (.skip (.keep (.keep (.keep .nil)))) (Fz.le.refl _) ?_
   refine dT 11 rfl rfl rfl (by kernel_rfl) (fun _ _ _ h => h) (y_mv rfl) (.skip (.keep (.keep (.keep .nil)))) (Fz.le.refl _) ?_
   obtain ⟨beq_8, oeq_8, haq_8, hlq_8⟩ := ((h1.mono At_AddPartitionsToTxnResponseTransactionTopicPartition.mono (le_4.trans le_5))).rows.at_ (ne_nil_of_lt hk1)
   obtain ⟨ceq_8, hAq_8, hbq_8⟩ := hlq_8 k1 hk1
   refine dT 12 rfl rfl rfl (by kernel_rfl) (fun _ _ _ h => h) (y_ixk (j := k1) Tryz.runUnderlying261 Tryz.sizeOf265 rfl haq_8 rfl rfl hk1) (.skip (.keep (.keep (.keep .nil)))) (Fz.le.refl _) ?_
   refine dE 13 (by kernel_rfl) rfl ?_
   refine cl rfl rfl rfl (te_AddPartitionsToTxnResponseTransactionTopicPartition hbq_8 (At_AddPartitionsToTxnResponseTransactionTopicPartition.mono _ _ _ _ (Fz.le.refl _) hAq_8) ((hf.at 1).lTel (List.getElem_mem hk1))) rfl (fun v_ H1 L1 le_9 hR_ => ?_)
   obtain ⟨rfl, ct66, rfl, hT66⟩ := hR_
   refine dN (.skip (.keep (.keep (.keep .nil)))) le_9 ?_
   refine dE 14 (by kernel_rfl) rfl ?_
   refine bs' L34 rfl rfl rfl rfl (fun b_10 => ?_)
   refine dN (.skip (.skip (.keep (.keep (.keep .nil))))) le_9 ?_
   refine dE 15 (by kernel_rfl) rfl ?_
   have hmk : ml1 = k1 := by have h1 := congrArg List.length pk12; rw [List.length_map, List.length_map, List.length_take] at h1; omega
   have hmb := (hf.at 1).lTl
   refine ap (k := 1) (news := f5 ((ct66, tl_AddPartitionsToTxnResponseTransactionTopicPartition (lT (T.at 1))[k1]) : EE)) Tryz.underlying34 I37 rfl rfl pk10 (fun _ => (.tail .head)) (src_says Tryz.underlying34 rfl (fun _ => Says.own .head) (f5_one _)) (by omega) (by unfold maxLen; omega) rfl (fun a68 c68 N68 r68 z68 => ?_)
   rw [flatMap_snoc'] at r68
   refine dN (.skip (.skip (.keep (.keep (.keep .nil))))) le_9 ?_
   refine dE 16 (by kernel_rfl) rfl ?_
   refine ixk (j := 1) Tryz.runUnderlying34 Tryz.sizeOf37 rfl rfl rfl rfl (by decide) rfl ?_
   refine dN (.skip (.skip (.keep (.keep (.keep .nil))))) le_9 ?_
   refine dT 17 rfl rfl rfl (by kernel_rfl) (fun _ _ _ h => h) (y_fa F37_3 rfl) (.skip (.skip (.keep (.keep (.keep .nil))))) le_9 ?_
   refine dE 18 (by kernel_rfl) rfl ?_
   refine st Tryz.sizeOf34 rfl rfl rfl rfl (.tail (.tail (.tail .head))) ?_
   refine dNk (by kernel_rfl) ?_
   refine dD (by kernel_rfl) ?_
   refine Nb ?_
   refine drN .head ?_
   refine fun a_ w_ hA hw => ⟨_, _, _, hA.sub ?_, (le_5.trans le_9), hw, _, rfl, a68, (ml1 + 1), c68, (es1 ++ [((ct66, tl_AddPartitionsToTxnResponseTransactionTopicPartition (lT (T.at 1))[k1]) : EE)]), N68, rfl, rfl, r68, (by simp; omega), (map_take_snoc (g := tl_AddPartitionsToTxnResponseTransactionTopicPartition) hk1 pk12), (fun p hp => (mem_snoc hp).elim (fun h => (pk13 p h).mono le_9) (fun h => h ▸ hT66))⟩
   exact (.cons rfl (.cons rfl (.cons rfl (.cons rfl (.cons rfl (.nil _))))))
  ·
   refine st Tryz.sizeOf4 rfl rfl rfl rfl .head ?_
   refine dN .nil (Fz.le.refl _) ?_
   refine dE 1 (by kernel_rfl) rfl ?_
   refine st Tryz.sizeOf4 rfl rfl rfl rfl .head ?_
   refine dN .nil (Fz.le.refl _) ?_
   refine dE 3 (by kernel_rfl) rfl ?_
   refine ld (Says.own .head) Tryz.isAgg4 rfl (Nat.zero_add _).symm rfl rfl ?_
   refine dN .nil (Fz.le.refl _) ?_
   refine dD (by kernel_rfl) ?_
   refine drN .head ?_
   refine Nt ?_
   refine cT rfl ?_
   refine sq ?_
   refine rgD 17 (.skip (.keep (.keep (.keep .nil)))) mixed ?_
   refine dT 0 rfl rfl rfl (by kernel_rfl) (fun _ _ _ h => h) (y_fa0 F37_3 rfl) (.skip (.keep (.keep (.keep .nil)))) (Fz.le.refl _) ?_
   refine dT 1 rfl rfl rfl (by kernel_rfl) (fun _ _ _ h => h) (y_ld (Says.own .head) Tryz.isAgg34 rfl (Nat.zero_add _).symm rfl) (.skip (.keep (.keep (.keep .nil)))) (Fz.le.refl _) ?_
   refine dT 2 rfl rfl rfl (by kernel_rfl) (fun _ _ _ h => h) (y_ix2 (j := 1) Tryz.runUnderlying34 Tryz.sizeOf37 rfl rfl rfl rfl (by decide)) (.skip (.keep (.keep (.keep .nil)))) (Fz.le.refl _) ?_
   refine dT 3 rfl rfl rfl (by kernel_rfl) (fun _ _ _ h => h) (y_fa F37_3 rfl) (.skip (.keep (.keep (.keep .nil)))) (Fz.le.refl _) ?_
   refine dT 4 rfl rfl rfl (by kernel_rfl) (fun _ _ _ h => h) (y_ld (Says.own (.tail .head)) Tryz.isAgg34 rfl (Nat.zero_add _).symm rfl) (.skip (.keep (.keep (.keep .nil)))) (Fz.le.refl _) ?_
   refine dT 5 rfl rfl rfl (by kernel_rfl) (fun _ _ _ h => h) (y_mv rfl) (.skip (.keep (.keep (.keep .nil)))) (Fz.le.refl _) ?_
   refine dT 6 rfl rfl rfl (by kernel_rfl) (fun _ _ _ h => h) (y_nc rfl) (.skip (.keep (.keep (.keep .nil)))) (Fz.le.refl _) ?_
   refine dT 7 rfl rfl rfl (by kernel_rfl) (fun _ _ _ h => h) (y_fa F263_1 rfl) (.skip (.keep (.keep (.keep .nil)))) (Fz.le.refl _) ?_
   refine dT 8 rfl rfl rfl (by kernel_rfl) (fun _ _ _ h => h) (y_ld (j := 1) (Says.fz (hb.mono (le_4.trans le_5))) Tryz.isAgg261 rfl rfl rfl) (.skip (.keep (.keep (.keep .nil)))) (Fz.le.refl _) ?_
   refine dT 9 rfl rfl rfl (by kernel_rfl) (fun _ _ _ h => h) (y_mv rfl) (.skip (.keep (.keep (.keep .nil)))) (Fz.le.refl _) ?_
   obtain ⟨beq_11, oeq_11, haq_11, hlq_11⟩ := ((h1.mono At_AddPartitionsToTxnResponseTransactionTopicPartition.mono (le_4.trans le_5))).rows.at_ (ne_nil_of_lt hk1)
   obtain ⟨ceq_11, hAq_11, hbq_11⟩ := hlq_11 k1 hk1
   refine dT 10 rfl rfl rfl (by kernel_rfl) (fun _ _ _ h => h) (y_ixk (j := k1) Tryz.runUnderlying261 Tryz.sizeOf265 rfl haq_11 rfl rfl hk1) (.skip (.keep (.keep (.keep .nil)))) (Fz.le.refl _) ?_
   refine dT 12 rfl rfl rfl (by kernel_rfl) (fun _ _ _ h => h) (y_ls Tryz.runUnderlying34 rfl) (.skip (.keep (.keep (.keep .nil)))) (Fz.le.refl _) ?_
   refine dE2 11 13 (by kernel_rfl) rfl rfl ?_ ?_
   ·
    refine cl rfl rfl rfl (te_AddPartitionsToTxnResponseTransactionTopicPartition hbq_11 (At_AddPartitionsToTxnResponseTransactionTopicPartition.mono _ _ _ _ (Fz.le.refl _) hAq_11) ((hf.at 1).lTel (List.getElem_mem hk1))) rfl (fun v_ H1 L1 le_12 hR_ => ?_)
    obtain ⟨rfl, ct46, rfl, hT46⟩ := hR_
    refine dN (.skip (.keep (.keep (.keep .nil)))) le_12 ?_
    refine dE 13 (by kernel_rfl) rfl ?_
    refine bs' L34 rfl rfl rfl rfl (fun b_13 => ?_)
    refine dN (.skip (.skip (.keep (.keep (.keep .nil))))) le_12 ?_
    refine dE 14 (by kernel_rfl) rfl ?_
    have hmk : ml1 = k1 := by have h1 := congrArg List.length pk12; rw [List.length_map, List.length_map, List.length_take] at h1; omega
    have hmb := (hf.at 1).lTl
    refine ap (k := 1) (news := f5 ((TC.none, Tr.none) : EE)) Tryz.underlying34 I37 rfl rfl pk10 (fun _ => (.tail .head)) (src_says Tryz.underlying34 rfl (fun _ => Says.own .head) (f5_one _)) (by omega) (by unfold maxLen; omega) rfl (fun a49 c49 N49 r49 z49 => ?_)
    refine dN (.skip (.skip (.keep (.keep (.keep .nil))))) le_12 ?_
    refine dE 15 (by kernel_rfl) rfl ?_
    refine ixk (j := 1) Tryz.runUnderlying34 Tryz.sizeOf37 rfl rfl rfl rfl (by decide) rfl ?_
    refine dN (.skip (.skip (.keep (.keep (.keep .nil))))) le_12 ?_
    refine dT 16 rfl rfl rfl (by kernel_rfl) (fun _ _ _ h => h) (y_fa F37_3 rfl) (.skip (.skip (.keep (.keep (.keep .nil))))) le_12 ?_
    refine dE 17 (by kernel_rfl) rfl ?_
    refine st Tryz.sizeOf34 rfl rfl rfl rfl (.tail (.tail (.tail .head))) ?_
    refine dNk (by kernel_rfl) ?_
    refine dD (by kernel_rfl) ?_
    refine Nt ?_
    refine rg ?_
    obtain ⟨gg49, hgg49⟩ := r49.addr (by omega)
    refine ixk (j := ml1) Tryz.runUnderlying34 Tryz.sizeOf37 rfl hgg49 rfl rfl (by omega) rfl ?_
    refine sR (ds := f5 ((ct46, tl_AddPartitionsToTxnResponseTransactionTopicPartition (lT (T.at 1))[k1]) : EE)) r49 hgg49 (fun _ => (.tail .head)) Tryz.sizeOf37 rfl rfl rfl rfl (by omega) (fun N49b r49b => ?_)
    rw [row_put (k := 5) (m := ml1) (A := es1.flatMap f5) (by rw [flatMap_len f5 5 f5_len, pk11]) rfl, flatMap_snoc'] at r49b
    refine nN ?_
    refine Nb ?_
    refine drN .head ?_
    refine fun a_ w_ hA hw => ⟨_, _, _, hA.sub ?_, (le_5.trans le_12), hw, _, rfl, a49, (ml1 + 1), c49, (es1 ++ [((ct46, tl_AddPartitionsToTxnResponseTransactionTopicPartition (lT (T.at 1))[k1]) : EE)]), N49b, rfl, rfl, r49b, (by simp; omega), (map_take_snoc (g := tl_AddPartitionsToTxnResponseTransactionTopicPartition) hk1 pk12), (fun p hp => (mem_snoc hp).elim (fun h => (pk13 p h).mono le_12) (fun h => h ▸ hT46))⟩
    exact (.cons rfl (.cons rfl (.cons rfl (.cons rfl (.cons rfl (.nil _))))))
   ·
    refine bs' L34 rfl rfl rfl rfl (fun b_14 => ?_)
    refine dN (.skip (.skip (.keep (.keep (.keep .nil))))) (Fz.le.refl _) ?_
    refine dE 11 (by kernel_rfl) rfl ?_
    refine cl rfl rfl rfl (te_AddPartitionsToTxnResponseTransactionTopicPartition hbq_11 (At_AddPartitionsToTxnResponseTransactionTopicPartition.mono _ _ _ _ (Fz.le.refl _) hAq_11) ((hf.at 1).lTel (List.getElem_mem hk1))) rfl (fun v_ H1 L1 le_15 hR_ => ?_)
    obtain ⟨rfl, ct46, rfl, hT46⟩ := hR_
    refine dN (.skip (.skip (.keep (.keep (.keep .nil))))) le_15 ?_
    refine dE 14 (by kernel_rfl) rfl ?_
    have hmk : ml1 = k1 := by have h1 := congrArg List.length pk12; rw [List.length_map, List.length_map, List.length_take] at h1; omega
    have hmb := (hf.at 1).lTl
    refine ap (k := 1) (news := f5 ((TC.none, Tr.none) : EE)) Tryz.underlying34 I37 rfl rfl pk10 (fun _ => (.tail .head)) (src_says Tryz.underlying34 rfl (fun _ => Says.own .head) (f5_one _)) (by omega) (by unfold maxLen; omega) rfl (fun a49 c49 N49 r49 z49 => ?_)
    refine dN (.skip (.skip (.keep (.keep (.keep .nil))))) le_15 ?_
    refine dE 15 (by kernel_rfl) rfl ?_
    refine ixk (j := 1) Tryz.runUnderlying34 Tryz.sizeOf37 rfl rfl rfl rfl (by decide) rfl ?_
    refine dN (.skip (.skip (.keep (.keep (.keep .nil))))) le_15 ?_
    refine dT 16 rfl rfl rfl (by kernel_rfl) (fun _ _ _ h => h) (y_fa F37_3 rfl) (.skip (.skip (.keep (.keep (.keep .nil))))) le_15 ?_
    refine dE 17 (by kernel_rfl) rfl ?_
    refine st Tryz.sizeOf34 rfl rfl rfl rfl (.tail (.tail (.tail .head))) ?_
    refine dNk (by kernel_rfl) ?_
    refine dD (by kernel_rfl) ?_
    refine Nt ?_
    refine rg ?_
    obtain ⟨gg49, hgg49⟩ := r49.addr (by omega)
    refine ixk (j := ml1) Tryz.runUnderlying34 Tryz.sizeOf37 rfl hgg49 rfl rfl (by omega) rfl ?_
    refine sR (ds := f5 ((ct46, tl_AddPartitionsToTxnResponseTransactionTopicPartition (lT (T.at 1))[k1]) : EE)) r49 hgg49 (fun _ => (.tail .head)) Tryz.sizeOf37 rfl rfl rfl rfl (by omega) (fun N49b r49b => ?_)
    rw [row_put (k := 5) (m := ml1) (A := es1.flatMap f5) (by rw [flatMap_len f5 5 f5_len, pk11]) rfl, flatMap_snoc'] at r49b
    refine nN ?_
    refine Nb ?_
    refine drN .head ?_
    refine fun a_ w_ hA hw => ⟨_, _, _, hA.sub ?_, (le_5.trans le_15), hw, _, rfl, a49, (ml1 + 1), c49, (es1 ++ [((ct46, tl_AddPartitionsToTxnResponseTransactionTopicPartition (lT (T.at 1))[k1]) : EE)]), N49b, rfl, rfl, r49b, (by simp; omega), (map_take_snoc (g := tl_AddPartitionsToTxnResponseTransactionTopicPartition) hk1 pk12), (fun p hp => (mem_snoc hp).elim (fun h => (pk13 p h).mono le_15) (fun h => h ▸ hT46))⟩
    exact (.cons rfl (.cons rfl (.cons rfl (.cons rfl (.cons rfl (.nil _))))))
 ·
  obtain ⟨al1, ml1, cl1, es1, Nl1, rfl, rfl, pk10, pk11, pk12, pk13⟩ := hI
  refine toWp ?_
  have hes1 : es1.map (·.2) = (lT (T.at 1)).map tl_AddPartitionsToTxnResponseTransactionTopicPartition := by rw [pk12, List.take_length]
  have hm1 : ml1 = ((lT (T.at 1)).map tl_AddPartitionsToTxnResponseTransactionTopicPartition).length := by rw [← hes1, List.length_map]; exact pk11
  refine frW pk10 .head (fun Hl1 hll1 hzl1 => ?_)
  have ht1 := TreesAt.row hzl1 pk11 pk10.le.1 (by have h1 := congrArg List.length hes1; rw [List.length_map, List.length_map] at h1; unfold B47; omega) (fun p hp => (pk13 p hp).mono hll1)
  rw [hes1] at ht1
  subst hm1
  refine sr ?_
  refine mv rfl rfl ?_
  refine nc rfl rfl ?_
  refine fa F263_2 rfl rfl ?_
  refine mkf rfl rfl ?_
  have hkv_ := (h2.mono (le_4.trans (le_6.trans hll1)))
  obtain ⟨kvs, hM, hlen, hel⟩ := hkv_
  have hfu := hf.u
  refine cl rfl rfl rfl (t_each (j := 2) (I := fun i H1 Y => TgI 72 b_3 37 (.int .i64 0) (.slice none 0 0) (.bool false) (_) T.u i H1 Y) (hb.mono (le_4.trans (le_6.trans hll1))) rfl hM (by omega) (fun i H1 H2 Y hle h => h.mono hle) TgI.start (fun i k v H1 Y L1 hi hle hI => ?_)) rfl (fun v_ H1 L1 le_17 hR_ => ?_)
  ·
   obtain ⟨s, h1, ⟨va, vc, rfl, hx⟩, h2, h3⟩ := hel i k v hi
   have hik := sortKv_lt hi
   exact TgI.step (fun {_ _ _ _ _ _ _ _ _ _ _ _ _ _ _ _} => tc_306) hf.v (by omega) h1 (hx.mono hle) h2 h3 hI
  rw [hlen] at hR_
  obtain ⟨_, rfl, aU, cU, NU, esU, rfl, hrU, heU, hgU⟩ := hR_
  refine splL ?_
  rw [List.take_length] at heU
  refine frL hrU (.tail .head) (fun HU hleU hzU => ?_)
  have hU := (TagsAt.told hzU hrU heU hfu (fun p hp => (hgU p hp).mono hleU)).1
  refine nl ?_
  refine sr ?_
  refine fa0 F37_4 rfl rfl ?_
  refine ld (Says.own .head) Tryz.isAgg35 rfl (Nat.zero_add _).symm rfl rfl ?_
  refine cl rfl rfl rfl (k_sorted hU (h2.mono (le_4.trans (le_6.trans (hll1.trans (le_17.trans hleU))))).rise) rfl (fun v_ H1 L1 hle_ hR_ => ?_)
  obtain ⟨rfl, rfl⟩ := hR_
  refine nl ?_
  refine sr ?_
  refine la (Says.own .head) Tryz.isAgg37 Tryz.sizeOf37 rfl (Nat.zero_add _).symm rfl rfl ?_
  refine sa Tryz.sizeOf37 rfl rfl rfl rfl rfl (.tail (.tail .head)) ?_
  refine nl ?_
  refine drW .head ?_
  refine frW (Row.whole (e := 37) (size := 5) (m := 2) (ds := [.int .i64 0, .slice (some ⟨b13, 0, none⟩) (T.at 0).s.length cp13, .bool false, .slice none 0 0, .slice none 0 0, .int .i64 0, .slice none 0 0, .bool a1.isNone, .slice al1 ((lT (T.at 1)).map tl_AddPartitionsToTxnResponseTransactionTopicPartition).length cl1, .slice none 0 0]) rfl (by unfold maxLen; omega)) .head (fun H9 hle9 hz9 => ?_)
  have hrb : H9.at b_2 0 [.int .i64 0, .slice (some ⟨b13, 0, none⟩) (T.at 0).s.length cp13, .bool false, .slice none 0 0, .slice none 0 0, .int .i64 0, .slice none 0 0, .bool a1.isNone, .slice al1 ((lT (T.at 1)).map tl_AddPartitionsToTxnResponseTransactionTopicPartition).length cl1, .slice none 0 0] := by
   rcases hz9 with ⟨h, _⟩ | ⟨g, h, h2⟩
   · cases h
   · cases h; exact h2
  rw [(h1).nul] at hrb
  have hrb2 : H9.at b_2 0 (([((⟨some ⟨b13, 0, none⟩, cp13, none, 0, none, 0⟩ : TC), (Tr.mk 0 (T.at 0).s false [] [] : Tr)), ((⟨none, 0, al1, cl1, none, 0⟩ : TC), (Tr.mk 0 [] (T.at 1).nul ((lT (T.at 1)).map tl_AddPartitionsToTxnResponseTransactionTopicPartition) [] : Tr))] : List EE).flatMap fun p => p.1.cells p.2) := by exact hrb
  have hl9 : TreesAt H9 (some ⟨b_2, 0, none⟩) 2 [(.mk 0 (T.at 0).s false [] []), (.mk 0 [] (T.at 1).nul ((lT (T.at 1)).map tl_AddPartitionsToTxnResponseTransactionTopicPartition) [])] := by
   refine TreesAt.row (es := [((⟨some ⟨b13, 0, none⟩, cp13, none, 0, none, 0⟩ : TC), (Tr.mk 0 (T.at 0).s false [] [] : Tr)), ((⟨none, 0, al1, cl1, none, 0⟩ : TC), (Tr.mk 0 [] (T.at 1).nul ((lT (T.at 1)).map tl_AddPartitionsToTxnResponseTransactionTopicPartition) [] : Tr))]) (.inr ⟨_, rfl, hrb2⟩) rfl (Nat.le_refl _) (Nat.le_of_ble_eq_true rfl) ?_
   intro p hp
   simp only [List.mem_cons, List.not_mem_nil, or_false] at hp
   rcases hp with rfl | rfl
   · exact (.of (hb13.mono (le_6.trans (hll1.trans (le_17.trans (hleU.trans hle9))))) (.nil _) (.nil _))
   · exact (.of (.nil _) (ht1.mono (le_17.trans (hleU.trans hle9))) (.nil _))
  exact rC rfl Tryz.isAgg37 Tryz.sizeOf37 rfl .head rfl (le_4.trans (le_6.trans (hll1.trans (le_17.trans (hleU.trans hle9))))) (fun _ _ h => h) ⟨rfl, ⟨none, 0, some ⟨b_2, 0, none⟩, 2, aU, cU⟩, rfl, .of (.nil _) hl9 (hU.mono hle9)⟩
def tl_AddPartitionsToTxnResponseTransaction (T : Tr) : Tr := .mk 0 [] false [(.mk 0 (T.at 0).s false [] []), (.mk 0 [] (T.at 1).nul ((lT (T.at 1)).map tl_AddPartitionsToTxnResponseTransactionTopic) [])] T.u
theorem te_AddPartitionsToTxnResponseTransaction {H : Fz} {L : Own} {b o : Nat} {cs : List Value} {T : Tr} (hb : H.at b o cs) (hA : At_AddPartitionsToTxnResponseTransaction H T cs) (hf : Fits T) :
  Fn Tryz.prog 159 [.pointer (some ⟨b, o, none⟩)] H L (fun v H' L' => L = L' ∧ ∃ c : TC, v = .agg (c.cells (tl_AddPartitionsToTxnResponseTransaction T)).toArray ∧ TreeAt H' c (tl_AddPartitionsToTxnResponseTransaction T)) := by
 obtain ⟨a1, c1, mt, rfl, h1, h2⟩ := hA
 refine Fn.mk Tryz.call159 Tryz.func159 rfl Tryz.ntmps159 rfl ?_
 refine sr ?_
 refine al Tryz.zeroValue37 rfl rfl (fun b_1 => ?_)
 refine nl ?_
 refine sr ?_
 refine mkC (m := 2) (zs := [.int .i64 0, .slice none 0 0, .bool false, .slice none 0 0, .slice none 0 0]) Tryz.underlying34 I37 rfl rfl rfl rfl rfl rfl (by decide) (by unfold maxLen; omega) rfl (fun b_2 => ?_)
 refine bd' S37 rfl rfl rfl ?_
 refine al Tryz.zeroValue37 rfl rfl (fun b_3 => ?_)
 refine sa Tryz.sizeOf37 rfl rfl rfl rfl rfl .head ?_
 refine nl ?_
 refine sq ?_
 refine rgD 9 (.keep (.keep (.keep .nil))) mixed ?_
 refine dT 0 rfl rfl rfl (by kernel_rfl) (fun _ _ _ h => h) (y_fa0 F37_3 rfl) (.keep (.keep (.keep .nil))) (Fz.le.refl _) ?_
 refine dT 1 rfl rfl rfl (by kernel_rfl) (fun _ _ _ h => h) (y_ld (Says.own .head) Tryz.isAgg34 rfl (Nat.zero_add _).symm rfl) (.keep (.keep (.keep .nil))) (Fz.le.refl _) ?_
 refine dT 2 rfl rfl rfl (by kernel_rfl) (fun _ _ _ h => h) (y_mv rfl) (.keep (.keep (.keep .nil))) (Fz.le.refl _) ?_
 refine dT 3 rfl rfl rfl (by kernel_rfl) (fun _ _ _ h => h) (y_nc rfl) (.keep (.keep (.keep .nil))) (Fz.le.refl _) ?_
 refine dT 4 rfl rfl rfl (by kernel_rfl) (fun _ _ _ h => h) (y_fa F143_0 rfl) (.keep (.keep (.keep .nil))) (Fz.le.refl _) ?_
 refine dT 5 rfl rfl rfl (by kernel_rfl) (fun _ _ _ h => h) (y_ld (j := 0) (Says.fz hb) Tryz.isAgg9 rfl (Nat.add_zero _).symm rfl) (.keep (.keep (.keep .nil))) (Fz.le.refl _) ?_
 refine dE 6 (by kernel_rfl) rfl ?_
 refine csb Tryz.underlying9 Tryz.underlying22 Tryz.underlying5 rfl (by have := (hf.at 0).s; unfold B47; omega) rfl (fun Hb13 b13 cp13 le_4 hb13 => ?_)
 refine dN (.keep (.keep (.keep .nil))) le_4 ?_
 refine dT 7 rfl rfl rfl (by kernel_rfl) (fun _ _ _ h => h) (y_bd S37 rfl rfl) (.keep (.keep (.keep .nil))) le_4 ?_
 refine dT 8 rfl rfl rfl (by kernel_rfl) (fun _ _ _ h => h) (y_ix2 (j := 0) Tryz.runUnderlying34 Tryz.sizeOf37 rfl rfl rfl rfl (by decide)) (.keep (.keep (.keep .nil))) le_4 ?_
 refine dE 9 (by kernel_rfl) rfl ?_
 refine sa Tryz.sizeOf37 rfl rfl rfl rfl rfl (.tail .head) ?_
 refine dNk (by kernel_rfl) ?_
 refine dD (by kernel_rfl) ?_
 refine Nt ?_
 refine sq ?_
 refine rgD 9 (.keep (.keep (.keep .nil))) mixed ?_
 refine dT 0 rfl rfl rfl (by kernel_rfl) (fun _ _ _ h => h) (y_fa0 F37_3 rfl) (.keep (.keep (.keep .nil))) (Fz.le.refl _) ?_
 refine dT 1 rfl rfl rfl (by kernel_rfl) (fun _ _ _ h => h) (y_ld (Says.own .head) Tryz.isAgg34 rfl (Nat.zero_add _).symm rfl) (.keep (.keep (.keep .nil))) (Fz.le.refl _) ?_
 refine dT 2 rfl rfl rfl (by kernel_rfl) (fun _ _ _ h => h) (y_mv rfl) (.keep (.keep (.keep .nil))) (Fz.le.refl _) ?_
 refine dT 3 rfl rfl rfl (by kernel_rfl) (fun _ _ _ h => h) (y_nc rfl) (.keep (.keep (.keep .nil))) (Fz.le.refl _) ?_
 refine dT 4 rfl rfl rfl (by kernel_rfl) (fun _ _ _ h => h) (y_fa F143_1 rfl) (.keep (.keep (.keep .nil))) (Fz.le.refl _) ?_
 refine dT 5 rfl rfl rfl (by kernel_rfl) (fun _ _ _ h => h) (y_ld (j := 1) (Says.fz (hb.mono le_4)) Tryz.isAgg141 rfl rfl rfl) (.keep (.keep (.keep .nil))) (Fz.le.refl _) ?_
 refine dT 6 rfl rfl rfl (by kernel_rfl) (fun _ _ _ h => h) (y_esn Tryz.underlying141 rfl) (.keep (.keep (.keep .nil))) (Fz.le.refl _) ?_
 refine dE 7 (by kernel_rfl) rfl ?_
 refine ixk (j := 1) Tryz.runUnderlying34 Tryz.sizeOf37 rfl rfl rfl rfl (by decide) rfl ?_
 refine dN (.keep (.keep (.keep .nil))) (Fz.le.refl _) ?_
 refine dT 8 rfl rfl rfl (by kernel_rfl) (fun _ _ _ h => h) (y_fa F37_2 rfl) (.keep (.keep (.keep .nil))) (Fz.le.refl _) ?_
 refine dE 9 (by kernel_rfl) rfl ?_
 refine st Tryz.sizeOf4 rfl rfl rfl rfl (.tail .head) ?_
 refine dNk (by kernel_rfl) ?_
 refine dD (by kernel_rfl) ?_
 refine Nt ?_
 refine sq ?_
 refine sr ?_
 refine mv rfl rfl ?_
 refine nc rfl rfl ?_
 refine fa F143_1 rfl rfl ?_
 refine ld (Says.fz (hb.mono le_4)) Tryz.isAgg141 rfl rfl rfl rfl ?_
 refine ls Tryz.runUnderlying141 rfl rfl ?_
 refine mv rfl rfl ?_
 refine nl ?_
 have hlm1 := (hf.at 1).lTl
 refine nulC2 ?_
 refine fr ((lT (T.at 1)).length) (fun k1 l' H' L' => ∃ (al1 : Option Addr), ∃ (ml1 : Nat), ∃ (cl1 : Nat), ∃ (es1 : List EE), ∃ (Nl1 : Chunk), [(0, .pointer (some ⟨b, o, none⟩)), (2, .pointer (some ⟨b_1, 0, none⟩)), (3, .pointer (some ⟨b_3, 0, none⟩)), (29, .int .i64 ((lT (T.at 1)).length : Int))] = l' ∧ Nl1 :: [(b_3, .cells [.int .i64 0, .slice none 0 0, .bool false, _, .slice none 0 0].toArray 37 (0, 0))] :: [(b_2, .cells [.int .i64 0, .slice (some ⟨b13, 0, none⟩) (T.at 0).s.length cp13, .bool false, .slice none 0 0, .slice none 0 0, .int .i64 0, .slice none 0 0, .bool a1.isNone, .slice al1 ml1 cl1, .slice none 0 0].toArray 37 (0, 0))] :: [(b_1, .cells [.int .i64 0, .slice none 0 0, .bool false, .slice none 0 0, .slice none 0 0].toArray 37 (0, 0))] :: L = L' ∧ Row 37 5 al1 ml1 cl1 (es1.flatMap f5) Nl1 ∧ ml1 = es1.length ∧ es1.map (·.2) = ((lT (T.at 1)).take k1).map tl_AddPartitionsToTxnResponseTransactionTopic ∧ (∀ p : EE, p ∈ es1 → TreeAt H' p.1 p.2)) [(0, .pointer (some ⟨b, o, none⟩)), (2, .pointer (some ⟨b_1, 0, none⟩)), (3, .pointer (some ⟨b_3, 0, none⟩)), (29, .int .i64 ((lT (T.at 1)).length : Int))] (fun k1 l' H' L' h => ?_) (by omega) rfl (.cons rfl (.cons rfl (.cons rfl (.cons rfl (.nil _))))) ⟨none, 0, 0, [], [], rfl, rfl, (Row.nil _ _), rfl, (by simp), (fun p hp => by cases hp)⟩ rfl rfl rfl rfl rfl (fun k1 l' H' L' hk1 le_5 hI => ?_) (fun l' H' L' le_6 hI => ?_)
 · obtain ⟨al1, ml1, cl1, es1, Nl1, rfl, _⟩ := h; exact ⟨rfl, rfl, rfl, rfl⟩
 ·
  obtain ⟨al1, ml1, cl1, es1, Nl1, rfl, rfl, pk10, pk11, pk12, pk13⟩ := hI
  refine sr ?_
  refine mv rfl rfl ?_
  refine asg rfl rfl ?_
  refine nl ?_
  refine sq ?_
  refine rgD 4 .nil mixed ?_
  refine dE 0 (by kernel_rfl) rfl ?_
  refine al Tryz.zeroValue4 rfl rfl (fun b_7 => ?_)
  refine dN .nil (Fz.le.refl _) ?_
  refine dE2 1 2 (by kernel_rfl) rfl rfl ?_ ?_
  ·
   refine st Tryz.sizeOf4 rfl rfl rfl rfl .head ?_
   refine dN .nil (Fz.le.refl _) ?_
   refine dE 2 (by kernel_rfl) rfl ?_
   refine st Tryz.sizeOf4 rfl rfl rfl rfl .head ?_
   refine dN .nil (Fz.le.refl _) ?_
   refine dE 3 (by kernel_rfl) rfl ?_
   refine ld (Says.own .head) Tryz.isAgg4 rfl (Nat.zero_add _).symm rfl rfl ?_
   refine dN .nil (Fz.le.refl _) ?_
   refine dD (by kernel_rfl) ?_
   refine drN .head ?_
   refine Nt ?_
   refine cF rfl ?_
   refine rgD 18 (.skip (.keep (.keep (.keep .nil)))) mixed ?_
   refine dT 0 rfl rfl rfl (by kernel_rfl) (fun _ _ _ h => h) (y_fa0 F37_3 rfl) (.skip (.keep (.keep (.keep .nil)))) (Fz.le.refl _) ?_
   refine dT 1 rfl rfl rfl (by kernel_rfl) (fun _ _ _ h => h) (y_ld (Says.own .head) Tryz.isAgg34 rfl (Nat.zero_add _).symm rfl) (.skip (.keep (.keep (.keep .nil)))) (Fz.le.refl _) ?_
   refine dT 2 rfl rfl rfl (by kernel_rfl) (fun _ _ _ h => h) (y_fa0 F37_3 rfl) (.skip (.keep (.keep (.keep .nil)))) (Fz.le.refl _) ?_
   refine dT 3 rfl rfl rfl (by kernel_rfl) (fun _ _ _ h => h) (y_ld (Says.own .head) Tryz.isAgg34 rfl (Nat.zero_add _).symm rfl) (.skip (.keep (.keep (.keep .nil)))) (Fz.le.refl _) ?_
   refine dT 4 rfl rfl rfl (by kernel_rfl) (fun _ _ _ h => h) (y_ix2 (j := 1) Tryz.runUnderlying34 Tryz.sizeOf37 rfl rfl rfl rfl (by decide)) (.skip (.keep (.keep (.keep .nil)))) (Fz.le.refl _) ?_
   refine dT 5 rfl rfl rfl (by kernel_rfl) (fun _ _ _ h => h) (y_fa F37_3 rfl) (.skip (.keep (.keep (.keep .nil)))) (Fz.le.refl _) ?_
   refine dT 6 rfl rfl rfl (by kernel_rfl) (fun _ _ _ h => h) (y_ld (Says.own (.tail .head)) Tryz.isAgg34 rfl (Nat.zero_add _).symm rfl) (.skip (.keep (.keep (.keep .nil)))) (Fz.le.refl _) ?_
   refine dT 7 rfl rfl rfl (by kernel_rfl) (fun _ _ _ h => h) (y_mv rfl) (.skip (.keep (.keep (.keep .nil)))) (Fz.le.refl _) ?_
   refine dT 8 rfl rfl rfl (by kernel_rfl) (fun _ _ _ h => h) (y_nc rfl) (.skip (.keep (.keep (.keep .nil)))) (Fz.le.refl _) ?_
   refine dT 9 rfl rfl rfl (by kernel_rfl) (fun _ _ _ h => h) (y_fa F143_1 rfl) (.skip (.keep (.keep (.keep .nil)))) (Fz.le.refl _) ?_
   refine dT 10 rfl rfl rfl (by kernel_rfl) (fun _ _ _ h => h) (y_ld (j := 1) (Says.fz (hb.mono (le_4.trans le_5))) Tryz.isAgg141 rfl rfl rfl) (.skip (.keep (.keep (.keep .nil)))) (Fz.le.refl _) ?_
   refine dT 11 rfl rfl rfl (by kernel_rfl) (fun _ _ _ h => h) (y_mv rfl) (.skip (.keep (.keep (.keep .nil)))) (Fz.le.refl _) ?_
   obtain ⟨beq_8, oeq_8, haq_8, hlq_8⟩ := ((h1.mono At_AddPartitionsToTxnResponseTransactionTopic.mono (le_4.trans le_5))).rows.at_ (ne_nil_of_lt hk1)
   obtain ⟨ceq_8, hAq_8, hbq_8⟩ := hlq_8 k1 hk1
   refine dT 12 rfl rfl rfl (by kernel_rfl) (fun _ _ _ h => h) (y_ixk (j := k1) Tryz.runUnderlying141 Tryz.sizeOf263 rfl haq_8 rfl rfl hk1) (.skip (.keep (.keep (.keep .nil)))) (Fz.le.refl _) ?_
   refine dE 13 (by kernel_rfl) rfl ?_
   refine cl rfl rfl rfl (te_AddPartitionsToTxnResponseTransactionTopic hbq_8 (At_AddPartitionsToTxnResponseTransactionTopic.mono _ _ _ _ (Fz.le.refl _) hAq_8) ((hf.at 1).lTel (List.getElem_mem hk1))) rfl (fun v_ H1 L1 le_9 hR_ => ?_)
   obtain ⟨rfl, ct66, rfl, hT66⟩ := hR_
   refine dN (.skip (.keep (.keep (.keep .nil)))) le_9 ?_
   refine dE 14 (by kernel_rfl) rfl ?_
   refine bs' L34 rfl rfl rfl rfl (fun b_10 => ?_)
   refine dN (.skip (.skip (.keep (.keep (.keep .nil))))) le_9 ?_
   refine dE 15 (by kernel_rfl) rfl ?_
   have hmk : ml1 = k1 := by have h1 := congrArg List.length pk12; rw [List.length_map, List.length_map, List.length_take] at h1; omega
   have hmb := (hf.at 1).lTl
   refine ap (k := 1) (news := f5 ((ct66, tl_AddPartitionsToTxnResponseTransactionTopic (lT (T.at 1))[k1]) : EE)) Tryz.underlying34 I37 rfl rfl pk10 (fun _ => (.tail .head)) (src_says Tryz.underlying34 rfl (fun _ => Says.own .head) (f5_one _)) (by omega) (by unfold maxLen; omega) rfl (fun a68 c68 N68 r68 z68 => ?_)
   rw [flatMap_snoc'] at r68
   refine dN (.skip (.skip (.keep (.keep (.keep .nil))))) le_9 ?_
   refine dE 16 (by kernel_rfl) rfl ?_
   refine ixk (j := 1) Tryz.runUnderlying34 Tryz.sizeOf37 rfl rfl rfl rfl (by decide) rfl ?_
   refine dN (.skip (.skip (.keep (.keep (.keep .nil))))) le_9 ?_
   refine dT 17 rfl rfl rfl (by kernel_rfl) (fun _ _ _ h => h) (y_fa F37_3 rfl) (.skip (.skip (.keep (.keep (.keep .nil))))) le_9 ?_
   refine dE 18 (by kernel_rfl) rfl ?_
   refine st Tryz.sizeOf34 rfl rfl rfl rfl (.tail (.tail (.tail .head))) ?_
   refine dNk (by kernel_rfl) ?_
   refine dD (by kernel_rfl) ?_
   refine Nb ?_
   refine drN .head ?_
   refine fun a_ w_ hA hw => ⟨_, _, _, hA.sub ?_, (le_5.trans le_9), hw, _, rfl, a68, (ml1 + 1), c68, (es1 ++ [((ct66, tl_AddPartitionsToTxnResponseTransactionTopic (lT (T.at 1))[k1]) : EE)]), N68, rfl, rfl, r68, (by simp; omega), (map_take_snoc (g := tl_AddPartitionsToTxnResponseTransactionTopic) hk1 pk12), (fun p hp => (mem_snoc hp).elim (fun h => (pk13 p h).mono le_9) (fun h => h ▸ hT66))⟩
   exact (.cons rfl (.cons rfl (.cons rfl (.cons rfl (.cons rfl (.nil _))))))
  ·
   refine st Tryz.sizeOf4 rfl rfl rfl rfl .head ?_
   refine dN .nil (Fz.le.refl _) ?_
   refine dE 1 (by kernel_rfl) rfl ?_
   refine st Tryz.sizeOf4 rfl rfl rfl rfl .head ?_
   refine dN .nil (Fz.le.refl _) ?_
   refine dE 3 (by kernel_rfl) rfl ?_
   refine ld (Says.own .head) Tryz.isAgg4 rfl (Nat.zero_add _).symm rfl rfl ?_
   refine dN .nil (Fz.le.refl _) ?_
   refine dD (by kernel_rfl) ?_
   refine drN .head ?_
   refine Nt ?_
   refine cT rfl ?_
   refine sq ?_
   refine rgD 17 (.skip (.keep (.keep (.keep .nil)))) mixed ?_
   refine dT 0 rfl rfl rfl (by kernel_rfl) (fun _ _ _ h => h) (y_fa0 F37_3 rfl) (.skip (.keep (.keep (.keep .nil)))) (Fz.le.refl _) ?_
   refine dT 1 rfl rfl rfl (by kernel_rfl) (fun _ _ _ h => h) (y_ld (Says.own .head) Tryz.isAgg34 rfl (Nat.zero_add _).symm rfl) (.skip (.keep (.keep (.keep .nil)))) (Fz.le.refl _) ?_
   refine dT 2 rfl rfl rfl (by kernel_rfl) (fun _ _ _ h => h) (y_ix2 (j := 1) Tryz.runUnderlying34 Tryz.sizeOf37 rfl rfl rfl rfl (by decide)) (.skip (.keep (.keep (.keep .nil)))) (Fz.le.refl _) ?_
   refine dT 3 rfl rfl rfl (by kernel_rfl) (fun _ _ _ h => h) (y_fa F37_3 rfl) (.skip (.keep (.keep (.keep .nil)))) (Fz.le.refl _) ?_
   refine dT 4 rfl rfl rfl (by kernel_rfl) (fun _ _ _ h => h) (y_ld (Says.own (.tail .head)) Tryz.isAgg34 rfl (Nat.zero_add _).symm rfl) (.skip (.keep (.keep (.keep .nil)))) (Fz.le.refl _) ?_
   refine dT 5 rfl rfl rfl (by kernel_rfl) (fun _ _ _ h => h) (y_mv rfl) (.skip (.keep (.keep (.keep .nil)))) (Fz.le.refl _) ?_
   refine dT 6 rfl rfl rfl (by kernel_rfl) (fun _ _ _ h => h) (y_nc rfl) (.skip (.keep (.keep (.keep .nil)))) (Fz.le.refl _) ?_
   refine dT 7 rfl rfl rfl (by kernel_rfl) (fun _ _ _ h => h) (y_fa F143_1 rfl) (.skip (.keep (.keep (.keep .nil)))) (Fz.le.refl _) ?_
   refine dT 8 rfl rfl rfl (by kernel_rfl) (fun _ _ _ h => h) (y_ld (j := 1) (Says.fz (hb.mono (le_4.trans le_5))) Tryz.isAgg141 rfl rfl rfl) (.skip (.keep (.keep (.keep .nil)))) (Fz.le.refl _) ?_
   refine dT 9 rfl rfl rfl (by kernel_rfl) (fun _ _ _ h => h) (y_mv rfl) (.skip (.keep (.keep (.keep .nil)))) (Fz.le.refl _) ?_
   obtain ⟨beq_11, oeq_11, haq_11, hlq_11⟩ := ((h1.mono At_AddPartitionsToTxnResponseTransactionTopic.mono (le_4.trans le_5))).rows.at_ (ne_nil_of_lt hk1)
   obtain ⟨ceq_11, hAq_11, hbq_11⟩ := hlq_11 k1 hk1
   refine dT 10 rfl rfl rfl (by kernel_rfl) (fun _ _ _ h => h) (y_ixk (j := k1) Tryz.runUnderlying141 Tryz.sizeOf263 rfl haq_11 rfl rfl hk1) (.skip (.keep (.keep (.keep .nil)))) (Fz.le.refl _) ?_
   refine dT 12 rfl rfl rfl (by kernel_rfl) (fun _ _ _ h => h) (y_ls Tryz.runUnderlying34 rfl) (.skip (.keep (.keep (.keep .nil)))) (Fz.le.refl _) ?_
   refine dE2 11 13 (by kernel_rfl) rfl rfl ?_ ?_
   ·
    refine cl rfl rfl rfl (te_AddPartitionsToTxnResponseTransactionTopic hbq_11 (At_AddPartitionsToTxnResponseTransactionTopic.mono _ _ _ _ (Fz.le.refl _) hAq_11) ((hf.at 1).lTel (List.getElem_mem hk1))) rfl (fun v_ H1 L1 le_12 hR_ => ?_)
    obtain ⟨rfl, ct46, rfl, hT46⟩ := hR_
    refine dN (.skip (.keep (.keep (.keep .nil)))) le_12 ?_
    refine dE 13 (by kernel_rfl) rfl ?_
    refine bs' L34 rfl rfl rfl rfl (fun b_13 => ?_)
    refine dN (.skip (.skip (.keep (.keep (.keep .nil))))) le_12 ?_
    refine dE 14 (by kernel_rfl) rfl ?_
    have hmk : ml1 = k1 := by have h1 := congrArg List.length pk12; rw [List.length_map, List.length_map, List.length_take] at h1; omega
    have hmb := (hf.at 1).lTl
    refine ap (k := 1) (news := f5 ((TC.none, Tr.none) : EE)) Tryz.underlying34 I37 rfl rfl pk10 (fun _ => (.tail .head)) (src_says Tryz.underlying34 rfl (fun _ => Says.own .head) (f5_one _)) (by omega) (by unfold maxLen; omega) rfl (fun a49 c49 N49 r49 z49 => ?_)
    refine dN (.skip (.skip (.keep (.keep (.keep .nil))))) le_12 ?_
    refine dE 15 (by kernel_rfl) rfl ?_
    refine ixk (j := 1) Tryz.runUnderlying34 Tryz.sizeOf37 rfl rfl rfl rfl (by decide) rfl ?_
    refine dN (.skip (.skip (.keep (.keep (.keep .nil))))) le_12 ?_
    refine dT 16 rfl rfl rfl (by kernel_rfl) (fun _ _ _ h => h) (y_fa F37_3 rfl) (.skip (.skip (.keep (.keep (.keep .nil))))) le_12 ?_
    refine dE 17 (by kernel_rfl) rfl ?_
    refine st Tryz.sizeOf34 rfl rfl rfl rfl (.tail (.tail (.tail .head))) ?_
    refine dNk (by kernel_rfl) ?_
    refine dD (by kernel_rfl) ?_
    refine Nt ?_
    refine rg ?_
    obtain ⟨gg49, hgg49⟩ := r49.addr (by omega)
    refine ixk (j := ml1) Tryz.runUnderlying34 Tryz.sizeOf37 rfl hgg49 rfl rfl (by omega) rfl ?_
    refine sR (ds := f5 ((ct46, tl_AddPartitionsToTxnResponseTransactionTopic (lT (T.at 1))[k1]) : EE)) r49 hgg49 (fun _ => (.tail .head)) Tryz.sizeOf37 rfl rfl rfl rfl (by omega) (fun N49b r49b => ?_)
    rw [row_put (k := 5) (m := ml1) (A := es1.flatMap f5) (by rw [flatMap_len f5 5 f5_len, pk11]) rfl, flatMap_snoc'] at r49b
    refine nN ?_
    refine Nb ?_
    refine drN .head ?_
    refine fun a_ w_ hA hw => ⟨_, _, _, hA.sub ?_, (le_5.trans le_12), hw, _, rfl, a49, (ml1 + 1), c49, (es1 ++ [((ct46, tl_AddPartitionsToTxnResponseTransactionTopic (lT (T.at 1))[k1]) : EE)]), N49b, rfl, rfl, r49b, (by simp; omega), (map_take_snoc (g := tl_AddPartitionsToTxnResponseTransactionTopic) hk1 pk12), (fun p hp => (mem_snoc hp).elim (fun h => (pk13 p h).mono le_12) (fun h => h ▸ hT46))⟩
    exact (.cons rfl (.cons rfl (.cons rfl (.cons rfl (.cons rfl (.nil _))))))
   ·
    refine bs' L34 rfl rfl rfl rfl (fun b_14 => ?_)
    refine dN (.skip (.skip (.keep (.keep (.keep .nil))))) (Fz.le.refl _) ?_
    refine dE 11 (by kernel_rfl) rfl ?_
    refine cl rfl rfl rfl (te_AddPartitionsToTxnResponseTransactionTopic hbq_11 (At_AddPartitionsToTxnResponseTransactionTopic.mono _ _ _ _ (Fz.le.refl _) hAq_11) ((hf.at 1).lTel (List.getElem_mem hk1))) rfl (fun v_ H1 L1 le_15 hR_ => ?_)
    obtain ⟨rfl, ct46, rfl, hT46⟩ := hR_
    refine dN (.skip (.skip (.keep (.keep (.keep .nil))))) le_15 ?_
    refine dE 14 (by kernel_rfl) rfl ?_
    have hmk : ml1 = k1 := by have h1 := congrArg List.length pk12; rw [List.length_map, List.length_map, List.length_take] at h1; omega
    have hmb := (hf.at 1).lTl
    refine ap (k := 1) (news := f5 ((TC.none, Tr.none) : EE)) Tryz.underlying34 I37 rfl rfl pk10 (fun _ => (.tail .head)) (src_says Tryz.underlying34 rfl (fun _ => Says.own .head) (f5_one _)) (by omega) (by unfold maxLen; omega) rfl (fun a49 c49 N49 r49 z49 => ?_)
    refine dN (.skip (.skip (.keep (.keep (.keep .nil))))) le_15 ?_
    refine dE 15 (by kernel_rfl) rfl ?_
    refine ixk (j := 1) Tryz.runUnderlying34 Tryz.sizeOf37 rfl rfl rfl rfl (by decide) rfl ?_
    refine dN (.skip (.skip (.keep (.keep (.keep .nil))))) le_15 ?_
    refine dT 16 rfl rfl rfl (by kernel_rfl) (fun _ _ _ h => h) (y_fa F37_3 rfl) (.skip (.skip (.keep (.keep (.keep .nil))))) le_15 ?_
    refine dE 17 (by kernel_rfl) rfl ?_
    refine st Tryz.sizeOf34 rfl rfl rfl rfl (.tail (.tail (.tail .head))) ?_
    refine dNk (by kernel_rfl) ?_
    refine dD (by kernel_rfl) ?_
    refine Nt ?_
    refine rg ?_
    obtain ⟨gg49, hgg49⟩ := r49.addr (by omega)
    refine ixk (j := ml1) Tryz.runUnderlying34 Tryz.sizeOf37 rfl hgg49 rfl rfl (by omega) rfl ?_
    refine sR (ds := f5 ((ct46, tl_AddPartitionsToTxnResponseTransactionTopic (lT (T.at 1))[k1]) : EE)) r49 hgg49 (fun _ => (.tail .head)) Tryz.sizeOf37 rfl rfl rfl rfl (by omega) (fun N49b r49b => ?_)
    rw [row_put (k := 5) (m := ml1) (A := es1.flatMap f5) (by rw [flatMap_len f5 5 f5_len, pk11]) rfl, flatMap_snoc'] at r49b
    refine nN ?_
    refine Nb ?_
    refine drN .head ?_
    refine fun a_ w_ hA hw => ⟨_, _, _, hA.sub ?_, (le_5.trans le_15), hw, _, rfl, a49, (ml1 + 1), c49, (es1 ++ [((ct46, tl_AddPartitionsToTxnResponseTransactionTopic (lT (T.at 1))[k1]) : EE)]), N49b, rfl, rfl, r49b, (by simp; omega), (map_take_snoc (g := tl_AddPartitionsToTxnResponseTransactionTopic) hk1 pk12), (fun p hp => (mem_snoc hp).elim (fun h => (pk13 p h).mono le_15) (fun h => h ▸ hT46))⟩
    exact (.cons rfl (.cons rfl (.cons rfl (.cons rfl (.cons rfl (.nil _))))))
 ·
  obtain ⟨al1, ml1, cl1, es1, Nl1, rfl, rfl, pk10, pk11, pk12, pk13⟩ := hI
  refine toWp ?_
  have hes1 : es1.map (·.2) = (lT (T.at 1)).map tl_AddPartitionsToTxnResponseTransactionTopic := by rw [pk12, List.take_length]
  have hm1 : ml1 = ((lT (T.at 1)).map tl_AddPartitionsToTxnResponseTransactionTopic).length := by rw [← hes1, List.length_map]; exact pk11
  refine frW pk10 .head (fun Hl1 hll1 hzl1 => ?_)
  have ht1 := TreesAt.row hzl1 pk11 pk10.le.1 (by have h1 := congrArg List.length hes1; rw [List.length_map, List.length_map] at h1; unfold B47; omega) (fun p hp => (pk13 p hp).mono hll1)
  rw [hes1] at ht1
  subst hm1
  refine sr ?_
  refine mv rfl rfl ?_
  refine nc rfl rfl ?_
  refine fa F143_2 rfl rfl ?_
  refine mkf rfl rfl ?_
  have hkv_ := (h2.mono (le_4.trans (le_6.trans hll1)))
  obtain ⟨kvs, hM, hlen, hel⟩ := hkv_
  have hfu := hf.u
  refine cl rfl rfl rfl (t_each (j := 2) (I := fun i H1 Y => TgI 72 b_3 37 (.int .i64 0) (.slice none 0 0) (.bool false) (_) T.u i H1 Y) (hb.mono (le_4.trans (le_6.trans hll1))) rfl hM (by omega) (fun i H1 H2 Y hle h => h.mono hle) TgI.start (fun i k v H1 Y L1 hi hle hI => ?_)) rfl (fun v_ H1 L1 le_17 hR_ => ?_)
  ·
   obtain ⟨s, h1, ⟨va, vc, rfl, hx⟩, h2, h3⟩ := hel i k v hi
   have hik := sortKv_lt hi
   exact TgI.step (fun {_ _ _ _ _ _ _ _ _ _ _ _ _ _ _ _} => tc_246) hf.v (by omega) h1 (hx.mono hle) h2 h3 hI
  rw [hlen] at hR_
  obtain ⟨_, rfl, aU, cU, NU, esU, rfl, hrU, heU, hgU⟩ := hR_
  refine splL ?_
  rw [List.take_length] at heU
  refine frL hrU (.tail .head) (fun HU hleU hzU => ?_)
  have hU := (TagsAt.told hzU hrU heU hfu (fun p hp => (hgU p hp).mono hleU)).1
  refine nl ?_
  refine sr ?_
  refine fa0 F37_4 rfl rfl ?_
  refine ld (Says.own .head) Tryz.isAgg35 rfl (Nat.zero_add _).symm rfl rfl ?_
  refine cl rfl rfl rfl (k_sorted hU (h2.mono (le_4.trans (le_6.trans (hll1.trans (le_17.trans hleU))))).rise) rfl (fun v_ H1 L1 hle_ hR_ => ?_)
  obtain ⟨rfl, rfl⟩ := hR_
  refine nl ?_
  refine sr ?_
  refine la (Says.own .head) Tryz.isAgg37 Tryz.sizeOf37 rfl (Nat.zero_add _).symm rfl rfl ?_
  refine sa Tryz.sizeOf37 rfl rfl rfl rfl rfl (.tail (.tail .head)) ?_
  refine nl ?_
  refine drW .head ?_
  refine frW (Row.whole (e := 37) (size := 5) (m := 2) (ds := [.int .i64 0, .slice (some ⟨b13, 0, none⟩) (T.at 0).s.length cp13, .bool false, .slice none 0 0, .slice none 0 0, .int .i64 0, .slice none 0 0, .bool a1.isNone, .slice al1 ((lT (T.at 1)).map tl_AddPartitionsToTxnResponseTransactionTopic).length cl1, .slice none 0 0]) rfl (by unfold maxLen; omega)) .head (fun H9 hle9 hz9 => ?_)
  have hrb : H9.at b_2 0 [.int .i64 0, .slice (some ⟨b13, 0, none⟩) (T.at 0).s.length cp13, .bool false, .slice none 0 0, .slice none 0 0, .int .i64 0, .slice none 0 0, .bool a1.isNone, .slice al1 ((lT (T.at 1)).map tl_AddPartitionsToTxnResponseTransactionTopic).length cl1, .slice none 0 0] := by
   rcases hz9 with ⟨h, _⟩ | ⟨g, h, h2⟩
   · cases h
   · cases h; exact h2
  rw [(h1).nul] at hrb
  have hrb2 : H9.at b_2 0 (([((⟨some ⟨b13, 0, none⟩, cp13, none, 0, none, 0⟩ : TC), (Tr.mk 0 (T.at 0).s false [] [] : Tr)), ((⟨none, 0, al1, cl1, none, 0⟩ : TC), (Tr.mk 0 [] (T.at 1).nul ((lT (T.at 1)).map tl_AddPartitionsToTxnResponseTransactionTopic) [] : Tr))] : List EE).flatMap fun p => p.1.cells p.2) := by exact hrb
  have hl9 : TreesAt H9 (some ⟨b_2, 0, none⟩) 2 [(.mk 0 (T.at 0).s false [] []), (.mk 0 [] (T.at 1).nul ((lT (T.at 1)).map tl_AddPartitionsToTxnResponseTransactionTopic) [])] := by
   refine TreesAt.row (es := [((⟨some ⟨b13, 0, none⟩, cp13, none, 0, none, 0⟩ : TC), (Tr.mk 0 (T.at 0).s false [] [] : Tr)), ((⟨none, 0, al1, cl1, none, 0⟩ : TC), (Tr.mk 0 [] (T.at 1).nul ((lT (T.at 1)).map tl_AddPartitionsToTxnResponseTransactionTopic) [] : Tr))]) (.inr ⟨_, rfl, hrb2⟩) rfl (Nat.le_refl _) (Nat.le_of_ble_eq_true rfl) ?_
   intro p hp
   simp only [List.mem_cons, List.not_mem_nil, or_false] at hp
   rcases hp with rfl | rfl
   · exact (.of (hb13.mono (le_6.trans (hll1.trans (le_17.trans (hleU.trans hle9))))) (.nil _) (.nil _))
   · exact (.of (.nil _) (ht1.mono (le_17.trans (hleU.trans hle9))) (.nil _))
  exact rC rfl Tryz.isAgg37 Tryz.sizeOf37 rfl .head rfl (le_4.trans (le_6.trans (hll1.trans (le_17.trans (hleU.trans hle9))))) (fun _ _ h => h) ⟨rfl, ⟨none, 0, some ⟨b_2, 0, none⟩, 2, aU, cU⟩, rfl, .of (.nil _) hl9 (hU.mono hle9)⟩
def tl_AddPartitionsToTxnResponseTopicPartition (T : Tr) : Tr := .mk 0 [] false [(.mk (IntKind.i32.wrap (T.at 0).n) [] false [] []), (.mk (IntKind.i16.wrap (T.at 1).n) [] false [] [])] T.u
theorem te_AddPartitionsToTxnResponseTopicPartition {H : Fz} {L : Own} {b o : Nat} {cs : List Value} {T : Tr} (hb : H.at b o cs) (hA : At_AddPartitionsToTxnResponseTopicPartition H T cs) (hf : Fits T) :
  Fn Tryz.prog 247 [.pointer (some ⟨b, o, none⟩)] H L (fun v H' L' => L = L' ∧ ∃ c : TC, v = .agg (c.cells (tl_AddPartitionsToTxnResponseTopicPartition T)).toArray ∧ TreeAt H' c (tl_AddPartitionsToTxnResponseTopicPartition T)) := by
 obtain ⟨mt, rfl, h1⟩ := hA
 refine Fn.mk Tryz.call247 Tryz.func247 rfl Tryz.ntmps247 rfl ?_
 refine sr ?_
 refine al Tryz.zeroValue37 rfl rfl (fun b_1 => ?_)
 refine nl ?_
 refine sr ?_
 refine mkC (m := 2) (zs := [.int .i64 0, .slice none 0 0, .bool false, .slice none 0 0, .slice none 0 0]) Tryz.underlying34 I37 rfl rfl rfl rfl rfl rfl (by decide) (by unfold maxLen; omega) rfl (fun b_2 => ?_)
 refine bd' S37 rfl rfl rfl ?_
 refine al Tryz.zeroValue37 rfl rfl (fun b_3 => ?_)
 refine sa Tryz.sizeOf37 rfl rfl rfl rfl rfl .head ?_
 refine nl ?_
 refine sq ?_
 refine rgD 9 (.keep (.keep (.keep .nil))) mixed ?_
 refine dT 0 rfl rfl rfl (by kernel_rfl) (fun _ _ _ h => h) (y_fa0 F37_3 rfl) (.keep (.keep (.keep .nil))) (Fz.le.refl _) ?_
 refine dT 1 rfl rfl rfl (by kernel_rfl) (fun _ _ _ h => h) (y_ld (Says.own .head) Tryz.isAgg34 rfl (Nat.zero_add _).symm rfl) (.keep (.keep (.keep .nil))) (Fz.le.refl _) ?_
 refine dT 2 rfl rfl rfl (by kernel_rfl) (fun _ _ _ h => h) (y_mv rfl) (.keep (.keep (.keep .nil))) (Fz.le.refl _) ?_
 refine dT 3 rfl rfl rfl (by kernel_rfl) (fun _ _ _ h => h) (y_nc rfl) (.keep (.keep (.keep .nil))) (Fz.le.refl _) ?_
 refine dT 4 rfl rfl rfl (by kernel_rfl) (fun _ _ _ h => h) (y_fa F267_0 rfl) (.keep (.keep (.keep .nil))) (Fz.le.refl _) ?_
 refine dT 5 rfl rfl rfl (by kernel_rfl) (fun _ _ _ h => h) (y_ld (j := 0) (Says.fz hb) Tryz.isAgg21 rfl (Nat.add_zero _).symm rfl) (.keep (.keep (.keep .nil))) (Fz.le.refl _) ?_
 refine dT 6 rfl rfl rfl (by kernel_rfl) (fun _ _ _ h => h) (y_cv Tryz.runUnderlying21 Tryz.runUnderlying2 rfl (i32_64 _)) (.keep (.keep (.keep .nil))) (Fz.le.refl _) ?_
 refine dT 7 rfl rfl rfl (by kernel_rfl) (fun _ _ _ h => h) (y_bd S37 rfl rfl) (.keep (.keep (.keep .nil))) (Fz.le.refl _) ?_
 refine dT 8 rfl rfl rfl (by kernel_rfl) (fun _ _ _ h => h) (y_ix2 (j := 0) Tryz.runUnderlying34 Tryz.sizeOf37 rfl rfl rfl rfl (by decide)) (.keep (.keep (.keep .nil))) (Fz.le.refl _) ?_
 refine dE 9 (by kernel_rfl) rfl ?_
 refine sa Tryz.sizeOf37 rfl rfl rfl rfl rfl (.tail .head) ?_
 refine dNk (by kernel_rfl) ?_
 refine dD (by kernel_rfl) ?_
 refine Nt ?_
 refine sq ?_
 refine rgD 9 (.keep (.keep (.keep .nil))) mixed ?_
 refine dT 0 rfl rfl rfl (by kernel_rfl) (fun _ _ _ h => h) (y_fa0 F37_3 rfl) (.keep (.keep (.keep .nil))) (Fz.le.refl _) ?_
 refine dT 1 rfl rfl rfl (by kernel_rfl) (fun _ _ _ h => h) (y_ld (Says.own .head) Tryz.isAgg34 rfl (Nat.zero_add _).symm rfl) (.keep (.keep (.keep .nil))) (Fz.le.refl _) ?_
 refine dT 2 rfl rfl rfl (by kernel_rfl) (fun _ _ _ h => h) (y_mv rfl) (.keep (.keep (.keep .nil))) (Fz.le.refl _) ?_
 refine dT 3 rfl rfl rfl (by kernel_rfl) (fun _ _ _ h => h) (y_nc rfl) (.keep (.keep (.keep .nil))) (Fz.le.refl _) ?_
 refine dT 4 rfl rfl rfl (by kernel_rfl) (fun _ _ _ h => h) (y_fa F267_1 rfl) (.keep (.keep (.keep .nil))) (Fz.le.refl _) ?_
 refine dT 5 rfl rfl rfl (by kernel_rfl) (fun _ _ _ h => h) (y_ld (j := 1) (Says.fz hb) Tryz.isAgg51 rfl rfl rfl) (.keep (.keep (.keep .nil))) (Fz.le.refl _) ?_
 refine dT 6 rfl rfl rfl (by kernel_rfl) (fun _ _ _ h => h) (y_cv Tryz.runUnderlying51 Tryz.runUnderlying2 rfl (i16_64 _)) (.keep (.keep (.keep .nil))) (Fz.le.refl _) ?_
 refine dT 7 rfl rfl rfl (by kernel_rfl) (fun _ _ _ h => h) (y_bd S37 rfl rfl) (.keep (.keep (.keep .nil))) (Fz.le.refl _) ?_
 refine dT 8 rfl rfl rfl (by kernel_rfl) (fun _ _ _ h => h) (y_ix2 (j := 1) Tryz.runUnderlying34 Tryz.sizeOf37 rfl rfl rfl rfl (by decide)) (.keep (.keep (.keep .nil))) (Fz.le.refl _) ?_
 refine dE 9 (by kernel_rfl) rfl ?_
 refine sa Tryz.sizeOf37 rfl rfl rfl rfl rfl (.tail .head) ?_
 refine dNk (by kernel_rfl) ?_
 refine dD (by kernel_rfl) ?_
 refine Nt ?_
 refine sr ?_
 refine mv rfl rfl ?_
 refine nc rfl rfl ?_
 refine fa F267_2 rfl rfl ?_
 refine mkf rfl rfl ?_
 have hkv_ := h1
 obtain ⟨kvs, hM, hlen, hel⟩ := hkv_
 have hfu := hf.u
 refine cl rfl rfl rfl (t_each (j := 2) (I := fun i H1 Y => TgI 72 b_3 37 (.int .i64 0) (.slice none 0 0) (.bool false) (_) T.u i H1 Y) hb rfl hM (by omega) (fun i H1 H2 Y hle h => h.mono hle) TgI.start (fun i k v H1 Y L1 hi hle hI => ?_)) rfl (fun v_ H1 L1 le_5 hR_ => ?_)
 ·
  obtain ⟨s, h1, ⟨va, vc, rfl, hx⟩, h2, h3⟩ := hel i k v hi
  have hik := sortKv_lt hi
  exact TgI.step (fun {_ _ _ _ _ _ _ _ _ _ _ _ _ _ _ _} => tc_307) hf.v (by omega) h1 (hx.mono hle) h2 h3 hI
 rw [hlen] at hR_
 obtain ⟨_, rfl, aU, cU, NU, esU, rfl, hrU, heU, hgU⟩ := hR_
 refine splL ?_
 rw [List.take_length] at heU
 refine frL hrU (.tail .head) (fun HU hleU hzU => ?_)
 have hU := (TagsAt.told hzU hrU heU hfu (fun p hp => (hgU p hp).mono hleU)).1
 refine nl ?_
 refine sr ?_
 refine fa0 F37_4 rfl rfl ?_
 refine ld (Says.own .head) Tryz.isAgg35 rfl (Nat.zero_add _).symm rfl rfl ?_
 refine cl rfl rfl rfl (k_sorted hU (h1.mono (le_5.trans hleU)).rise) rfl (fun v_ H1 L1 hle_ hR_ => ?_)
 obtain ⟨rfl, rfl⟩ := hR_
 refine nl ?_
 refine sr ?_
 refine la (Says.own .head) Tryz.isAgg37 Tryz.sizeOf37 rfl (Nat.zero_add _).symm rfl rfl ?_
 refine sa Tryz.sizeOf37 rfl rfl rfl rfl rfl (.tail (.tail .head)) ?_
 refine nl ?_
 refine drW .head ?_
 refine frW (Row.whole (e := 37) (size := 5) (m := 2) (ds := [.int .i64 (IntKind.i32.wrap (T.at 0).n), .slice none 0 0, .bool false, .slice none 0 0, .slice none 0 0, .int .i64 (IntKind.i16.wrap (T.at 1).n), .slice none 0 0, .bool false, .slice none 0 0, .slice none 0 0]) rfl (by unfold maxLen; omega)) .head (fun H9 hle9 hz9 => ?_)
 have hrb : H9.at b_2 0 [.int .i64 (IntKind.i32.wrap (T.at 0).n), .slice none 0 0, .bool false, .slice none 0 0, .slice none 0 0, .int .i64 (IntKind.i16.wrap (T.at 1).n), .slice none 0 0, .bool false, .slice none 0 0, .slice none 0 0] := by
  rcases hz9 with ⟨h, _⟩ | ⟨g, h, h2⟩
  · cases h
  · cases h; exact h2
 have hrb2 : H9.at b_2 0 (([((TC.none : TC), (Tr.mk (IntKind.i32.wrap (T.at 0).n) [] false [] [] : Tr)), ((TC.none : TC), (Tr.mk (IntKind.i16.wrap (T.at 1).n) [] false [] [] : Tr))] : List EE).flatMap fun p => p.1.cells p.2) := by exact hrb
 have hl9 : TreesAt H9 (some ⟨b_2, 0, none⟩) 2 [(.mk (IntKind.i32.wrap (T.at 0).n) [] false [] []), (.mk (IntKind.i16.wrap (T.at 1).n) [] false [] [])] := by
  refine TreesAt.row (es := [((TC.none : TC), (Tr.mk (IntKind.i32.wrap (T.at 0).n) [] false [] [] : Tr)), ((TC.none : TC), (Tr.mk (IntKind.i16.wrap (T.at 1).n) [] false [] [] : Tr))]) (.inr ⟨_, rfl, hrb2⟩) rfl (Nat.le_refl _) (Nat.le_of_ble_eq_true rfl) ?_
  intro p hp
  simp only [List.mem_cons, List.not_mem_nil, or_false] at hp
  rcases hp with rfl | rfl
  · exact (.of (.nil _) (.nil _) (.nil _))
  · exact (.of (.nil _) (.nil _) (.nil _))
 exact rC rfl Tryz.isAgg37 Tryz.sizeOf37 rfl .head rfl (le_5.trans (hleU.trans hle9)) (fun _ _ h => h) ⟨rfl, ⟨none, 0, some ⟨b_2, 0, none⟩, 2, aU, cU⟩, rfl, .of (.nil _) hl9 (hU.mono hle9)⟩
def tl_AddPartitionsToTxnResponseTopic (T : Tr) : Tr := .mk 0 [] false [(.mk 0 (T.at 0).s false [] []), (.mk 0 [] (T.at 1).nul ((lT (T.at 1)).map tl_AddPartitionsToTxnResponseTopicPartition) [])] T.u
theorem te_AddPartitionsToTxnResponseTopic {H : Fz} {L : Own} {b o : Nat} {cs : List Value} {T : Tr} (hb : H.at b o cs) (hA : At_AddPartitionsToTxnResponseTopic H T cs) (hf : Fits T) :
  Fn Tryz.prog 160 [.pointer (some ⟨b, o, none⟩)] H L (fun v H' L' => L = L' ∧ ∃ c : TC, v = .agg (c.cells (tl_AddPartitionsToTxnResponseTopic T)).toArray ∧ TreeAt H' c (tl_AddPartitionsToTxnResponseTopic T)) := by
 obtain ⟨a1, c1, mt, rfl, h1, h2⟩ := hA
 refine Fn.mk Tryz.call160 Tryz.func160 rfl Tryz.ntmps160 rfl ?_
 refine sr ?_
 refine al Tryz.zeroValue37 rfl rfl (fun b_1 => ?_)
 refine nl ?_
 refine sr ?_
 refine mkC (m := 2) (zs := [.int .i64 0, .slice none 0 0, .bool false, .slice none 0 0, .slice none 0 0]) Tryz.underlying34 I37 rfl rfl rfl rfl rfl rfl (by decide) (by unfold maxLen; omega) rfl (fun b_2 => ?_)
 refine bd' S37 rfl rfl rfl ?_
 refine al Tryz.zeroValue37 rfl rfl (fun b_3 => ?_)
 refine sa Tryz.sizeOf37 rfl rfl rfl rfl rfl .head ?_
 refine nl ?_
 refine sq ?_
 refine rgD 9 (.keep (.keep (.keep .nil))) mixed ?_
 refine dT 0 rfl rfl rfl (by kernel_rfl) (fun _ _ _ h => h) (y_fa0 F37_3 rfl) (.keep (.keep (.keep .nil))) (Fz.le.refl _) ?_
 refine dT 1 rfl rfl rfl (by kernel_rfl) (fun _ _ _ h => h) (y_ld (Says.own .head) Tryz.isAgg34 rfl (Nat.zero_add _).symm rfl) (.keep (.keep (.keep .nil))) (Fz.le.refl _) ?_
 refine dT 2 rfl rfl rfl (by kernel_rfl) (fun _ _ _ h => h) (y_mv rfl) (.keep (.keep (.keep .nil))) (Fz.le.refl _) ?_
 refine dT 3 rfl rfl rfl (by kernel_rfl) (fun _ _ _ h => h) (y_nc rfl) (.keep (.keep (.keep .nil))) (Fz.le.refl _) ?_
 refine dT 4 rfl rfl rfl (by kernel_rfl) (fun _ _ _ h => h) (y_fa F148_0 rfl) (.keep (.keep (.keep .nil))) (Fz.le.refl _) ?_
 refine dT 5 rfl rfl rfl (by kernel_rfl) (fun _ _ _ h => h) (y_ld (j := 0) (Says.fz hb) Tryz.isAgg9 rfl (Nat.add_zero _).symm rfl) (.keep (.keep (.keep .nil))) (Fz.le.refl _) ?_
 refine dE 6 (by kernel_rfl) rfl ?_
 refine csb Tryz.underlying9 Tryz.underlying22 Tryz.underlying5 rfl (by have := (hf.at 0).s; unfold B47; omega) rfl (fun Hb13 b13 cp13 le_4 hb13 => ?_)
 refine dN (.keep (.keep (.keep .nil))) le_4 ?_
 refine dT 7 rfl rfl rfl (by kernel_rfl) (fun _ _ _ h => h) (y_bd S37 rfl rfl) (.keep (.keep (.keep .nil))) le_4 ?_
 refine dT 8 rfl rfl rfl (by kernel_rfl) (fun _ _ _ h => h) (y_ix2 (j := 0) Tryz.runUnderlying34 Tryz.sizeOf37 rfl rfl rfl rfl (by decide)) (.keep (.keep (.keep .nil))) le_4 ?_
 refine dE 9 (by kernel_rfl) rfl ?_
 refine sa Tryz.sizeOf37 rfl rfl rfl rfl rfl (.tail .head) ?_
 refine dNk (by kernel_rfl) ?_
 refine dD (by kernel_rfl) ?_
 refine Nt ?_
 refine sq ?_
 refine rgD 9 (.keep (.keep (.keep .nil))) mixed ?_
 refine dT 0 rfl rfl rfl (by kernel_rfl) (fun _ _ _ h => h) (y_fa0 F37_3 rfl) (.keep (.keep (.keep .nil))) (Fz.le.refl _) ?_
 refine dT 1 rfl rfl rfl (by kernel_rfl) (fun _ _ _ h => h) (y_ld (Says.own .head) Tryz.isAgg34 rfl (Nat.zero_add _).symm rfl) (.keep (.keep (.keep .nil))) (Fz.le.refl _) ?_
 refine dT 2 rfl rfl rfl (by kernel_rfl) (fun _ _ _ h => h) (y_mv rfl) (.keep (.keep (.keep .nil))) (Fz.le.refl _) ?_
 refine dT 3 rfl rfl rfl (by kernel_rfl) (fun _ _ _ h => h) (y_nc rfl) (.keep (.keep (.keep .nil))) (Fz.le.refl _) ?_
 refine dT 4 rfl rfl rfl (by kernel_rfl) (fun _ _ _ h => h) (y_fa F148_1 rfl) (.keep (.keep (.keep .nil))) (Fz.le.refl _) ?_
 refine dT 5 rfl rfl rfl (by kernel_rfl) (fun _ _ _ h => h) (y_ld (j := 1) (Says.fz (hb.mono le_4)) Tryz.isAgg146 rfl rfl rfl) (.keep (.keep (.keep .nil))) (Fz.le.refl _) ?_
 refine dT 6 rfl rfl rfl (by kernel_rfl) (fun _ _ _ h => h) (y_esn Tryz.underlying146 rfl) (.keep (.keep (.keep .nil))) (Fz.le.refl _) ?_
 refine dE 7 (by kernel_rfl) rfl ?_
 refine ixk (j := 1) Tryz.runUnderlying34 Tryz.sizeOf37 rfl rfl rfl rfl (by decide) rfl ?_
 refine dN (.keep (.keep (.keep .nil))) (Fz.le.refl _) ?_
 refine dT 8 rfl rfl rfl (by kernel_rfl) (fun _ _ _ h => h) (y_fa F37_2 rfl) (.keep (.keep (.keep .nil))) (Fz.le.refl _) ?_
 refine dE 9 (by kernel_rfl) rfl ?_
 refine st Tryz.sizeOf4 rfl rfl rfl rfl (.tail .head) ?_
 refine dNk (by kernel_rfl) ?_
 refine dD (by kernel_rfl) ?_
 refine Nt ?_
 refine sq ?_
 refine sr ?_
 refine mv rfl rfl ?_
 refine nc rfl rfl ?_
 refine fa F148_1 rfl rfl ?_
 refine ld (Says.fz (hb.mono le_4)) Tryz.isAgg146 rfl rfl rfl rfl ?_
 refine ls Tryz.runUnderlying146 rfl rfl ?_
 refine mv rfl rfl ?_
 refine nl ?_
 have hlm1 := (hf.at 1).lTl
 refine nulC2 ?_
 refine fr ((lT (T.at 1)).length) (fun k1 l' H' L' => ∃ (al1 : Option Addr), ∃ (ml1 : Nat), ∃ (cl1 : Nat), ∃ (es1 : List EE), ∃ (Nl1 : Chunk), [(0, .pointer (some ⟨b, o, none⟩)), (2, .pointer (some ⟨b_1, 0, none⟩)), (3, .pointer (some ⟨b_3, 0, none⟩)), (29, .int .i64 ((lT (T.at 1)).length : Int))] = l' ∧ Nl1 :: [(b_3, .cells [.int .i64 0, .slice none 0 0, .bool false, _, .slice none 0 0].toArray 37 (0, 0))] :: [(b_2, .cells [.int .i64 0, .slice (some ⟨b13, 0, none⟩) (T.at 0).s.length cp13, .bool false, .slice none 0 0, .slice none 0 0, .int .i64 0, .slice none 0 0, .bool a1.isNone, .slice al1 ml1 cl1, .slice none 0 0].toArray 37 (0, 0))] :: [(b_1, .cells [.int .i64 0, .slice none 0 0, .bool false, .slice none 0 0, .slice none 0 0].toArray 37 (0, 0))] :: L = L' ∧ Row 37 5 al1 ml1 cl1 (es1.flatMap f5) Nl1 ∧ ml1 = es1.length ∧ es1.map (·.2) = ((lT (T.at 1)).take k1).map tl_AddPartitionsToTxnResponseTopicPartition ∧ (∀ p : EE, p ∈ es1 → TreeAt H' p.1 p.2)) [(0, .pointer (some ⟨b, o, none⟩)), (2, .pointer (some ⟨b_1, 0, none⟩)), (3, .pointer (some ⟨b_3, 0, none⟩)), (29, .int .i64 ((lT (T.at 1)).length : Int))] (fun k1 l' H' L' h => ?_) (by omega) rfl (.cons rfl (.cons rfl (.cons rfl (.cons rfl (.nil _))))) ⟨none, 0, 0, [], [], rfl, rfl, (Row.nil _ _), rfl, (by simp), (fun p hp => by cases hp)⟩ rfl rfl rfl rfl rfl (fun k1 l' H' L' hk1 le_5 hI => ?_) (fun l' H' L' le_6 hI => ?_)
 · obtain ⟨al1, ml1, cl1, es1, Nl1, rfl, _⟩ := h; exact ⟨rfl, rfl, rfl, rfl⟩
 ·
  obtain ⟨al1, ml1, cl1, es1, Nl1, rfl, rfl, pk10, pk11, pk12, pk13⟩ := hI
  refine sr ?_
  refine mv rfl rfl ?_
  refine asg rfl rfl ?_
  refine nl ?_
  refine sq ?_
  refine rgD 4 .nil mixed ?_
  refine dE 0 (by kernel_rfl) rfl ?_
  refine al Tryz.zeroValue4 rfl rfl (fun b_7 => ?_)
  refine dN .nil (Fz.le.refl _) ?_
  refine dE2 1 2 (by kernel_rfl) rfl rfl ?_ ?_
  ·
   refine st Tryz.sizeOf4 rfl rfl rfl rfl .head ?_
   refine dN .nil (Fz.le.refl _) ?_
   refine dE 2 (by kernel_rfl) rfl ?_
   refine st Tryz.sizeOf4 rfl rfl rfl rfl .head ?_
   refine dN .nil (Fz.le.refl _) ?_
   refine dE 3 (by kernel_rfl) rfl ?_
   refine ld (Says.own .head) Tryz.isAgg4 rfl (Nat.zero_add _).symm rfl rfl ?_
   refine dN .nil (Fz.le.refl _) ?_
   refine dD (by kernel_rfl) ?_
   refine drN .head ?_
   refine Nt ?_
   refine cF rfl ?_
   refine rgD 18 (.skip (.keep (.keep (.keep .nil)))) mixed ?_
   refine dT 0 rfl rfl rfl (by kernel_rfl) (fun _ _ _ h => h) (y_fa0 F37_3 rfl) (.skip (.keep (.keep (.keep .nil)))) (Fz.le.refl _) ?_
   refine dT 1 rfl rfl rfl (by kernel_rfl) (fun _ _ _ h => h) (y_ld (Says.own .head) Tryz.isAgg34 rfl (Nat.zero_add _).symm rfl) (.skip (.keep (.keep (.keep .nil)))) (Fz.le.refl _) ?_
   refine dT 2 rfl rfl rfl (by kernel_rfl) (fun _ _ _ h => h) (y_fa0 F37_3 rfl) (.skip (.keep (.keep (.keep .nil)))) (Fz.le.refl _) ?_
   refine dT 3 rfl rfl rfl (by kernel_rfl) (fun _ _ _ h => h) (y_ld (Says.own .head) Tryz.isAgg34 rfl (Nat.zero_add _).symm rfl) (.skip (.keep (.keep (.keep .nil)))) (Fz.le.refl _) ?_
   refine dT 4 rfl rfl rfl (by kernel_rfl) (fun _ _ _ h => h) (y_ix2 (j := 1) Tryz.runUnderlying34 Tryz.sizeOf37 rfl rfl rfl rfl (by decide)) (.skip (.keep (.keep (.keep .nil)))) (Fz.le.refl _) ?_
   refine dT 5 rfl rfl rfl (by kernel_rfl) (fun _ _ _ h => h) (y_fa F37_3 rfl) (.skip (.keep (.keep (.keep .nil)))) (Fz.le.refl _) ?_
   refine dT 6 rfl rfl rfl (by kernel_rfl) (fun _ _ _ h => h) (y_ld (Says.own (.tail .head)) Tryz.isAgg34 rfl (Nat.zero_add _).symm rfl) (.skip (.keep (.keep (.keep .nil)))) (Fz.le.refl _) ?_
   refine dT 7 rfl rfl rfl (by kernel_rfl) (fun _ _ _ h => h) (y_mv rfl) (.skip (.keep (.keep (.keep .nil)))) (Fz.le.refl _) ?_
   refine dT 8 rfl rfl rfl (by kernel_rfl) (fun _ _ _ h => h) (y_nc rfl) (.skip (.keep (.keep (.keep .nil)))) (Fz.le.refl _) ?_
   refine dT 9 rfl rfl rfl (by kernel_rfl) (fun _ _ _ h => h) (y_fa F148_1 rfl) (.skip (.keep (.keep (.keep .nil)))) (Fz.le.refl _) ?_
   refine dT 10 rfl rfl rfl (by kernel_rfl) (fun _ _ _ h => h) (y_ld (j := 1) (Says.fz (hb.mono (le_4.trans le_5))) Tryz.isAgg146 rfl rfl rfl) (.skip (.keep (.keep (.keep .nil)))) (Fz.le.refl _) ?_
   refine dT 11 rfl rfl rfl (by kernel_rfl) (fun _ _ _ h => h) (y_mv rfl) (.skip (.keep (.keep (.keep .nil)))) (Fz.le.refl _) ?_
   obtain ⟨beq_8, oeq_8, haq_8, hlq_8⟩ := ((h1.mono At_AddPartitionsToTxnResponseTopicPartition.mono (le_4.trans le_5))).rows.at_ (ne_nil_of_lt hk1)
   obtain ⟨ceq_8, hAq_8, hbq_8⟩ := hlq_8 k1 hk1
   refine dT 12 rfl rfl rfl (by kernel_rfl) (fun _ _ _ h => h) (y_ixk (j := k1) Tryz.runUnderlying146 Tryz.sizeOf267 rfl haq_8 rfl rfl hk1) (.skip (.keep (.keep (.keep .nil)))) (Fz.le.refl _) ?_
   refine dE 13 (by kernel_rfl) rfl ?_
   refine cl rfl rfl rfl (te_AddPartitionsToTxnResponseTopicPartition hbq_8 (At_AddPartitionsToTxnResponseTopicPartition.mono _ _ _ _ (Fz.le.refl _) hAq_8) ((hf.at 1).lTel (List.getElem_mem hk1))) rfl (fun v_ H1 L1 le_9 hR_ => ?_)
   obtain ⟨rfl, ct66, rfl, hT66⟩ := hR_
   refine dN (.skip (.keep (.keep (.keep .nil)))) le_9 ?_
   refine dE 14 (by kernel_rfl) rfl ?_
   refine bs' L34 rfl rfl rfl rfl (fun b_10 => ?_)
   refine dN (.skip (.skip (.keep (.keep (.keep .nil))))) le_9 ?_
   refine dE 15 (by kernel_rfl) rfl ?_
   have hmk : ml1 = k1 := by have h1 := congrArg List.length pk12; rw [List.length_map, List.length_map, List.length_take] at h1; omega
   have hmb := (hf.at 1).lTl
   refine ap (k := 1) (news := f5 ((ct66, tl_AddPartitionsToTxnResponseTopicPartition (lT (T.at 1))[k1]) : EE)) Tryz.underlying34 I37 rfl rfl pk10 (fun _ => (.tail .head)) (src_says Tryz.underlying34 rfl (fun _ => Says.own .head) (f5_one _)) (by omega) (by unfold maxLen; omega) rfl (fun a68 c68 N68 r68 z68 => ?_)
   rw [flatMap_snoc'] at r68
   refine dN (.skip (.skip (.keep (.keep (.keep .nil))))) le_9 ?_
   refine dE 16 (by kernel_rfl) rfl ?_
   refine ixk (j := 1) Tryz.runUnderlying34 Tryz.sizeOf37 rfl rfl rfl rfl (by decide) rfl ?_
   refine dN (.skip (.skip (.keep (.keep (.keep .nil))))) le_9 ?_
   refine dT 17 rfl rfl rfl (by kernel_rfl) (fun _ _ _ h => h) (y_fa F37_3 rfl) (.skip (.skip (.keep (.keep (.keep .nil))))) le_9 ?_
   refine dE 18 (by kernel_rfl) rfl ?_
   refine st Tryz.sizeOf34 rfl rfl rfl rfl (.tail (.tail (.tail .head))) ?_
   refine dNk (by kernel_rfl) ?_
   refine dD (by kernel_rfl) ?_
   refine Nb ?_
   refine drN .head ?_
   refine fun a_ w_ hA hw => ⟨_, _, _, hA.sub ?_, (le_5.trans le_9), hw, _, rfl, a68, (ml1 + 1), c68, (es1 ++ [((ct66, tl_AddPartitionsToTxnResponseTopicPartition (lT (T.at 1))[k1]) : EE)]), N68, rfl, rfl, r68, (by simp; omega), (map_take_snoc (g := tl_AddPartitionsToTxnResponseTopicPartition) hk1 pk12), (fun p hp => (mem_snoc hp).elim (fun h => (pk13 p h).mono le_9) (fun h => h ▸ hT66))⟩
   exact (.cons rfl (.cons rfl (.cons rfl (.cons rfl (.cons rfl (.nil _))))))
  ·
   refine st Tryz.sizeOf4 rfl rfl rfl rfl .head ?_
   refine dN .nil (Fz.le.refl _) ?_
   refine dE 1 (by kernel_rfl) rfl ?_
   refine st Tryz.sizeOf4 rfl rfl rfl rfl .head ?_
   refine dN .nil (Fz.le.refl _) ?_
   refine dE 3 (by kernel_rfl) rfl ?_
   refine ld (Says.own .head) Tryz.isAgg4 rfl (Nat.zero_add _).symm rfl rfl ?_
   refine dN .nil (Fz.le.refl _) ?_
   refine dD (by kernel_rfl) ?_
   refine drN .head ?_
   refine Nt ?_
   refine cT rfl ?_
   refine sq ?_
   refine rgD 17 (.skip (.keep (.keep (.keep .nil)))) mixed ?_
   refine dT 0 rfl rfl rfl (by kernel_rfl) (fun _ _ _ h => h) (y_fa0 F37_3 rfl) (.skip (.keep (.keep (.keep .nil)))) (Fz.le.refl _) ?_
   refine dT 1 rfl rfl rfl (by kernel_rfl) (fun _ _ _ h => h) (y_ld (Says.own .head) Tryz.isAgg34 rfl (Nat.zero_add _).symm rfl) (.skip (.keep (.keep (.keep .nil)))) (Fz.le.refl _) ?_
   refine dT 2 rfl rfl rfl (by kernel_rfl) (fun _ _ _ h => h) (y_ix2 (j := 1) Tryz.runUnderlying34 Tryz.sizeOf37 rfl rfl rfl rfl (by decide)) (.skip (.keep (.keep (.keep .nil)))) (Fz.le.refl _) ?_
   refine dT 3 rfl rfl rfl (by kernel_rfl) (fun _ _ _ h => h) (y_fa F37_3 rfl) (.skip (.keep (.keep (.keep .nil)))) (Fz.le.refl _) ?_
   refine dT 4 rfl rfl rfl (by kernel_rfl) (fun _ _ _ h => h) (y_ld (Says.own (.tail .head)) Tryz.isAgg34 rfl (Nat.zero_add _).symm rfl) (.skip (.keep (.keep (.keep .nil)))) (Fz.le.refl _) ?_
   refine dT 5 rfl rfl rfl (by kernel_rfl) (fun _ _ _ h => h) (y_mv rfl) (.skip (.keep (.keep (.keep .nil)))) (Fz.le.refl _) ?_
   refine dT 6 rfl rfl rfl (by kernel_rfl) (fun _ _ _ h => h) (y_nc rfl) (.skip (.keep (.keep (.keep .nil)))) (Fz.le.refl _) ?_
   refine dT 7 rfl rfl rfl (by kernel_rfl) (fun _ _ _ h => h) (y_fa F148_1 rfl) (.skip (.keep (.keep (.keep .nil)))) (Fz.le.refl _) ?_
   refine dT 8 rfl rfl rfl (by kernel_rfl) (fun _ _ _ h => h) (y_ld (j := 1) (Says.fz (hb.mono (le_4.trans le_5))) Tryz.isAgg146 rfl rfl rfl) (.skip (.keep (.keep (.keep .nil)))) (Fz.le.refl _) ?_
   refine dT 9 rfl rfl rfl (by kernel_rfl) (fun _ _ _ h => h) (y_mv rfl) (.skip (.keep (.keep (.keep .nil)))) (Fz.le.refl _) ?_
   obtain ⟨beq_11, oeq_11, haq_11, hlq_11⟩ := ((h1.mono At_AddPartitionsToTxnResponseTopicPartition.mono (le_4.trans le_5))).rows.at_ (ne_nil_of_lt hk1)
   obtain ⟨ceq_11, hAq_11, hbq_11⟩ := hlq_11 k1 hk1
   refine dT 10 rfl rfl rfl (by kernel_rfl) (fun _ _ _ h => h) (y_ixk (j := k1) Tryz.runUnderlying146 Tryz.sizeOf267 rfl haq_11 rfl rfl hk1) (.skip (.keep (.keep (.keep .nil)))) (Fz.le.refl _) ?_
   refine dT 12 rfl rfl rfl (by kernel_rfl) (fun _ _ _ h => h) (y_ls Tryz.runUnderlying34 rfl) (.skip (.keep (.keep (.keep .nil)))) (Fz.le.refl _) ?_
   refine dE2 11 13 (by kernel_rfl) rfl rfl ?_ ?_
   ·
    refine cl rfl rfl rfl (te_AddPartitionsToTxnResponseTopicPartition hbq_11 (At_AddPartitionsToTxnResponseTopicPartition.mono _ _ _ _ (Fz.le.refl _) hAq_11) ((hf.at 1).lTel (List.getElem_mem hk1))) rfl (fun v_ H1 L1 le_12 hR_ => ?_)
    obtain ⟨rfl, ct46, rfl, hT46⟩ := hR_
    refine dN (.skip (.keep (.keep (.keep .nil)))) le_12 ?_
    refine dE 13 (by kernel_rfl) rfl ?_
    refine bs' L34 rfl rfl rfl rfl (fun b_13 => ?_)
    refine dN (.skip (.skip (.keep (.keep (.keep .nil))))) le_12 ?_
    refine dE 14 (by kernel_rfl) rfl ?_
    have hmk : ml1 = k1 := by have h1 := congrArg List.length pk12; rw [List.length_map, List.length_map, List.length_take] at h1; omega
    have hmb := (hf.at 1).lTl
    refine ap (k := 1) (news := f5 ((TC.none, Tr.none) : EE)) Tryz.underlying34 I37 rfl rfl pk10 (fun _ => (.tail .head)) (src_says Tryz.underlying34 rfl (fun _ => Says.own .head) (f5_one _)) (by omega) (by unfold maxLen; omega) rfl (fun a49 c49 N49 r49 z49 => ?_)
    refine dN (.skip (.skip (.keep (.keep (.keep .nil))))) le_12 ?_
    refine dE 15 (by kernel_rfl) rfl ?_
    refine ixk (j := 1) Tryz.runUnderlying34 Tryz.sizeOf37 rfl rfl rfl rfl (by decide) rfl ?_
    refine dN (.skip (.skip (.keep (.keep (.keep .nil))))) le_12 ?_
    refine dT 16 rfl rfl rfl (by kernel_rfl) (fun _ _ _ h => h) (y_fa F37_3 rfl) (.skip (.skip (.keep (.keep (.keep .nil))))) le_12 ?_
    refine dE 17 (by kernel_rfl) rfl ?_
    refine st Tryz.sizeOf34 rfl rfl rfl rfl (.tail (.tail (.tail .head))) ?_
    refine dNk (by kernel_rfl) ?_
    refine dD (by kernel_rfl) ?_
    refine Nt ?_
    refine rg ?_
    obtain ⟨gg49, hgg49⟩ := r49.addr (by omega)
    refine ixk (j := ml1) Tryz.runUnderlying34 Tryz.sizeOf37 rfl hgg49 rfl rfl (by omega) rfl ?_
    refine sR (ds := f5 ((ct46, tl_AddPartitionsToTxnResponseTopicPartition (lT (T.at 1))[k1]) : EE)) r49 hgg49 (fun _ => (.tail .head)) Tryz.sizeOf37 rfl rfl rfl rfl (by omega) (fun N49b r49b => ?_)
    rw [row_put (k := 5) (m := ml1) (A := es1.flatMap f5) (by rw [flatMap_len f5 5 f5_len, pk11]) rfl, flatMap_snoc'] at r49b
    refine nN ?_
    refine Nb ?_
    refine drN .head ?_
    refine fun a_ w_ hA hw => ⟨_, _, _, hA.sub ?_, (le_5.trans le_12), hw, _, rfl, a49, (ml1 + 1), c49, (es1 ++ [((ct46, tl_AddPartitionsToTxnResponseTopicPartition (lT (T.at 1))[k1]) : EE)]), N49b, rfl, rfl, r49b, (by simp; omega), (map_take_snoc (g := tl_AddPartitionsToTxnResponseTopicPartition) hk1 pk12), (fun p hp => (mem_snoc hp).elim (fun h => (pk13 p h).mono le_12) (fun h => h ▸ hT46))⟩
    exact (.cons rfl (.cons rfl (.cons rfl (.cons rfl (.cons rfl (.nil _))))))
   ·
    refine bs' L34 rfl rfl rfl rfl (fun b_14 => ?_)
    refine dN (.skip (.skip (.keep (.keep (.keep .nil))))) (Fz.le.refl _) ?_
    refine dE 11 (by kernel_rfl) rfl ?_
    refine cl rfl rfl rfl (te_AddPartitionsToTxnResponseTopicPartition hbq_11 (At_AddPartitionsToTxnResponseTopicPartition.mono _ _ _ _ (Fz.le.refl _) hAq_11) ((hf.at 1).lTel (List.getElem_mem hk1))) rfl (fun v_ H1 L1 le_15 hR_ => ?_)
    obtain ⟨rfl, ct46, rfl, hT46⟩ := hR_
    refine dN (.skip (.skip (.keep (.keep (.keep .nil))))) le_15 ?_
    refine dE 14 (by kernel_rfl) rfl ?_
    have hmk : ml1 = k1 := by have h1 := congrArg List.length pk12; rw [List.length_map, List.length_map, List.length_take] at h1; omega
    have hmb := (hf.at 1).lTl
    refine ap (k := 1) (news := f5 ((TC.none, Tr.none) : EE)) Tryz.underlying34 I37 rfl rfl pk10 (fun _ => (.tail .head)) (src_says Tryz.underlying34 rfl (fun _ => Says.own .head) (f5_one _)) (by omega) (by unfold maxLen; omega) rfl (fun a49 c49 N49 r49 z49 => ?_)
    refine dN (.skip (.skip (.keep (.keep (.keep .nil))))) le_15 ?_
    refine dE 15 (by kernel_rfl) rfl ?_
    refine ixk (j := 1) Tryz.runUnderlying34 Tryz.sizeOf37 rfl rfl rfl rfl (by decide) rfl ?_
    refine dN (.skip (.skip (.keep (.keep (.keep .nil))))) le_15 ?_
    refine dT 16 rfl rfl rfl (by kernel_rfl) (fun _ _ _ h => h) (y_fa F37_3 rfl) (.skip (.skip (.keep (.keep (.keep .nil))))) le_15 ?_
    refine dE 17 (by kernel_rfl) rfl ?_
    refine st Tryz.sizeOf34 rfl rfl rfl rfl (.tail (.tail (.tail .head))) ?_
    refine dNk (by kernel_rfl) ?_
    refine dD (by kernel_rfl) ?_
    refine Nt ?_
    refine rg ?_
    obtain ⟨gg49, hgg49⟩ := r49.addr (by omega)
    refine ixk (j := ml1) Tryz.runUnderlying34 Tryz.sizeOf37 rfl hgg49 rfl rfl (by omega) rfl ?_
    refine sR (ds := f5 ((ct46, tl_AddPartitionsToTxnResponseTopicPartition (lT (T.at 1))[k1]) : EE)) r49 hgg49 (fun _ => (.tail .head)) Tryz.sizeOf37 rfl rfl rfl rfl (by omega) (fun N49b r49b => ?_)
    rw [row_put (k := 5) (m := ml1) (A := es1.flatMap f5) (by rw [flatMap_len f5 5 f5_len, pk11]) rfl, flatMap_snoc'] at r49b
    refine nN ?_
    refine Nb ?_
    refine drN .head ?_
    refine fun a_ w_ hA hw => ⟨_, _, _, hA.sub ?_, (le_5.trans le_15), hw, _, rfl, a49, (ml1 + 1), c49, (es1 ++ [((ct46, tl_AddPartitionsToTxnResponseTopicPartition (lT (T.at 1))[k1]) : EE)]), N49b, rfl, rfl, r49b, (by simp; omega), (map_take_snoc (g := tl_AddPartitionsToTxnResponseTopicPartition) hk1 pk12), (fun p hp => (mem_snoc hp).elim (fun h => (pk13 p h).mono le_15) (fun h => h ▸ hT46))⟩
    exact (.cons rfl (.cons rfl (.cons rfl (.cons rfl (.cons rfl (.nil _))))))
 ·
  obtain ⟨al1, ml1, cl1, es1, Nl1, rfl, rfl, pk10, pk11, pk12, pk13⟩ := hI
  refine toWp ?_
  have hes1 : es1.map (·.2) = (lT (T.at 1)).map tl_AddPartitionsToTxnResponseTopicPartition := by rw [pk12, List.take_length]
  have hm1 : ml1 = ((lT (T.at 1)).map tl_AddPartitionsToTxnResponseTopicPartition).length := by rw [← hes1, List.length_map]; exact pk11
  refine frW pk10 .head (fun Hl1 hll1 hzl1 => ?_)
  have ht1 := TreesAt.row hzl1 pk11 pk10.le.1 (by have h1 := congrArg List.length hes1; rw [List.length_map, List.length_map] at h1; unfold B47; omega) (fun p hp => (pk13 p hp).mono hll1)
  rw [hes1] at ht1
  subst hm1
  refine sr ?_
  refine mv rfl rfl ?_
  refine nc rfl rfl ?_
  refine fa F148_2 rfl rfl ?_
  refine mkf rfl rfl ?_
  have hkv_ := (h2.mono (le_4.trans (le_6.trans hll1)))
  obtain ⟨kvs, hM, hlen, hel⟩ := hkv_
  have hfu := hf.u
  refine cl rfl rfl rfl (t_each (j := 2) (I := fun i H1 Y => TgI 72 b_3 37 (.int .i64 0) (.slice none 0 0) (.bool false) (_) T.u i H1 Y) (hb.mono (le_4.trans (le_6.trans hll1))) rfl hM (by omega) (fun i H1 H2 Y hle h => h.mono hle) TgI.start (fun i k v H1 Y L1 hi hle hI => ?_)) rfl (fun v_ H1 L1 le_17 hR_ => ?_)
  ·
   obtain ⟨s, h1, ⟨va, vc, rfl, hx⟩, h2, h3⟩ := hel i k v hi
   have hik := sortKv_lt hi
   exact TgI.step (fun {_ _ _ _ _ _ _ _ _ _ _ _ _ _ _ _} => tc_248) hf.v (by omega) h1 (hx.mono hle) h2 h3 hI
  rw [hlen] at hR_
  obtain ⟨_, rfl, aU, cU, NU, esU, rfl, hrU, heU, hgU⟩ := hR_
  refine splL ?_
  rw [List.take_length] at heU
  refine frL hrU (.tail .head) (fun HU hleU hzU => ?_)
  have hU := (TagsAt.told hzU hrU heU hfu (fun p hp => (hgU p hp).mono hleU)).1
  refine nl ?_
  refine sr ?_
  refine fa0 F37_4 rfl rfl ?_
  refine ld (Says.own .head) Tryz.isAgg35 rfl (Nat.zero_add _).symm rfl rfl ?_
  refine cl rfl rfl rfl (k_sorted hU (h2.mono (le_4.trans (le_6.trans (hll1.trans (le_17.trans hleU))))).rise) rfl (fun v_ H1 L1 hle_ hR_ => ?_)
  obtain ⟨rfl, rfl⟩ := hR_
  refine nl ?_
  refine sr ?_
  refine la (Says.own .head) Tryz.isAgg37 Tryz.sizeOf37 rfl (Nat.zero_add _).symm rfl rfl ?_
  refine sa Tryz.sizeOf37 rfl rfl rfl rfl rfl (.tail (.tail .head)) ?_
  refine nl ?_
  refine drW .head ?_
  refine frW (Row.whole (e := 37) (size := 5) (m := 2) (ds := [.int .i64 0, .slice (some ⟨b13, 0, none⟩) (T.at 0).s.length cp13, .bool false, .slice none 0 0, .slice none 0 0, .int .i64 0, .slice none 0 0, .bool a1.isNone, .slice al1 ((lT (T.at 1)).map tl_AddPartitionsToTxnResponseTopicPartition).length cl1, .slice none 0 0]) rfl (by unfold maxLen; omega)) .head (fun H9 hle9 hz9 => ?_)
  have hrb : H9.at b_2 0 [.int .i64 0, .slice (some ⟨b13, 0, none⟩) (T.at 0).s.length cp13, .bool false, .slice none 0 0, .slice none 0 0, .int .i64 0, .slice none 0 0, .bool a1.isNone, .slice al1 ((lT (T.at 1)).map tl_AddPartitionsToTxnResponseTopicPartition).length cl1, .slice none 0 0] := by
   rcases hz9 with ⟨h, _⟩ | ⟨g, h, h2⟩
   · cases h
   · cases h; exact h2
  rw [(h1).nul] at hrb
  have hrb2 : H9.at b_2 0 (([((⟨some ⟨b13, 0, none⟩, cp13, none, 0, none, 0⟩ : TC), (Tr.mk 0 (T.at 0).s false [] [] : Tr)), ((⟨none, 0, al1, cl1, none, 0⟩ : TC), (Tr.mk 0 [] (T.at 1).nul ((lT (T.at 1)).map tl_AddPartitionsToTxnResponseTopicPartition) [] : Tr))] : List EE).flatMap fun p => p.1.cells p.2) := by exact hrb
  have hl9 : TreesAt H9 (some ⟨b_2, 0, none⟩) 2 [(.mk 0 (T.at 0).s false [] []), (.mk 0 [] (T.at 1).nul ((lT (T.at 1)).map tl_AddPartitionsToTxnResponseTopicPartition) [])] := by
   refine TreesAt.row (es := [((⟨some ⟨b13, 0, none⟩, cp13, none, 0, none, 0⟩ : TC), (Tr.mk 0 (T.at 0).s false [] [] : Tr)), ((⟨none, 0, al1, cl1, none, 0⟩ : TC), (Tr.mk 0 [] (T.at 1).nul ((lT (T.at 1)).map tl_AddPartitionsToTxnResponseTopicPartition) [] : Tr))]) (.inr ⟨_, rfl, hrb2⟩) rfl (Nat.le_refl _) (Nat.le_of_ble_eq_true rfl) ?_
   intro p hp
   simp only [List.mem_cons, List.not_mem_nil, or_false] at hp
   rcases hp with rfl | rfl
   · exact (.of (hb13.mono (le_6.trans (hll1.trans (le_17.trans (hleU.trans hle9))))) (.nil _) (.nil _))
   · exact (.of (.nil _) (ht1.mono (le_17.trans (hleU.trans hle9))) (.nil _))
  exact rC rfl Tryz.isAgg37 Tryz.sizeOf37 rfl .head rfl (le_4.trans (le_6.trans (hll1.trans (le_17.trans (hleU.trans hle9))))) (fun _ _ h => h) ⟨rfl, ⟨none, 0, some ⟨b_2, 0, none⟩, 2, aU, cU⟩, rfl, .of (.nil _) hl9 (hU.mono hle9)⟩
def tl_AddPartitionsToTxnResponse (T : Tr) : Tr := .mk 0 [] false [(.mk (IntKind.i32.wrap (T.at 0).n) [] false [] []), (.mk (IntKind.i16.wrap (T.at 1).n) [] false [] []), (.mk 0 [] (T.at 2).nul ((lT (T.at 2)).map tl_AddPartitionsToTxnResponseTransaction) []), (.mk 0 [] (T.at 3).nul ((lT (T.at 3)).map tl_AddPartitionsToTxnResponseTopic) [])] T.u
theorem te_AddPartitionsToTxnResponse {H : Fz} {L : Own} {b o : Nat} {cs : List Value} {T : Tr} {ver : Int} (hb : H.at b o cs) (hA : At_AddPartitionsToTxnResponse ver H T cs) (hf : Fits T) :
  Fn Tryz.prog 82 [.pointer (some ⟨b, o, none⟩)] H L (fun v H' L' => L = L' ∧ ∃ c : TC, v = .agg (c.cells (tl_AddPartitionsToTxnResponse T)).toArray ∧ TreeAt H' c (tl_AddPartitionsToTxnResponse T)) := by
 obtain ⟨a2, c2, a3, c3, mt, rfl, h1, h2, h3⟩ := hA
 refine Fn.mk Tryz.call82 Tryz.func82 rfl Tryz.ntmps82 rfl ?_
 refine sr ?_
 refine al Tryz.zeroValue37 rfl rfl (fun b_1 => ?_)
 refine nl ?_
 refine sr ?_
 refine mkC (m := 4) (zs := [.int .i64 0, .slice none 0 0, .bool false, .slice none 0 0, .slice none 0 0]) Tryz.underlying34 I37 rfl rfl rfl rfl rfl rfl (by decide) (by unfold maxLen; omega) rfl (fun b_2 => ?_)
 refine bd' S37 rfl rfl rfl ?_
 refine al Tryz.zeroValue37 rfl rfl (fun b_3 => ?_)
 refine sa Tryz.sizeOf37 rfl rfl rfl rfl rfl .head ?_
 refine nl ?_
 refine sq ?_
 refine rgD 9 (.keep (.keep (.keep .nil))) mixed ?_
 refine dT 0 rfl rfl rfl (by kernel_rfl) (fun _ _ _ h => h) (y_fa0 F37_3 rfl) (.keep (.keep (.keep .nil))) (Fz.le.refl _) ?_
 refine dT 1 rfl rfl rfl (by kernel_rfl) (fun _ _ _ h => h) (y_ld (Says.own .head) Tryz.isAgg34 rfl (Nat.zero_add _).symm rfl) (.keep (.keep (.keep .nil))) (Fz.le.refl _) ?_
 refine dT 2 rfl rfl rfl (by kernel_rfl) (fun _ _ _ h => h) (y_mv rfl) (.keep (.keep (.keep .nil))) (Fz.le.refl _) ?_
 refine dT 3 rfl rfl rfl (by kernel_rfl) (fun _ _ _ h => h) (y_nc rfl) (.keep (.keep (.keep .nil))) (Fz.le.refl _) ?_
 refine dT 4 rfl rfl rfl (by kernel_rfl) (fun _ _ _ h => h) (y_fa F138_1 rfl) (.keep (.keep (.keep .nil))) (Fz.le.refl _) ?_
 refine dT 5 rfl rfl rfl (by kernel_rfl) (fun _ _ _ h => h) (y_ld (j := 1) (Says.fz hb) Tryz.isAgg21 rfl rfl rfl) (.keep (.keep (.keep .nil))) (Fz.le.refl _) ?_
 refine dT 6 rfl rfl rfl (by kernel_rfl) (fun _ _ _ h => h) (y_cv Tryz.runUnderlying21 Tryz.runUnderlying2 rfl (i32_64 _)) (.keep (.keep (.keep .nil))) (Fz.le.refl _) ?_
 refine dT 7 rfl rfl rfl (by kernel_rfl) (fun _ _ _ h => h) (y_bd S37 rfl rfl) (.keep (.keep (.keep .nil))) (Fz.le.refl _) ?_
 refine dT 8 rfl rfl rfl (by kernel_rfl) (fun _ _ _ h => h) (y_ix2 (j := 0) Tryz.runUnderlying34 Tryz.sizeOf37 rfl rfl rfl rfl (by decide)) (.keep (.keep (.keep .nil))) (Fz.le.refl _) ?_
 refine dE 9 (by kernel_rfl) rfl ?_
 refine sa Tryz.sizeOf37 rfl rfl rfl rfl rfl (.tail .head) ?_
 refine dNk (by kernel_rfl) ?_
 refine dD (by kernel_rfl) ?_
 refine Nt ?_
 refine sq ?_
 refine rgD 9 (.keep (.keep (.keep .nil))) mixed ?_
 refine dT 0 rfl rfl rfl (by kernel_rfl) (fun _ _ _ h => h) (y_fa0 F37_3 rfl) (.keep (.keep (.keep .nil))) (Fz.le.refl _) ?_
 refine dT 1 rfl rfl rfl (by kernel_rfl) (fun _ _ _ h => h) (y_ld (Says.own .head) Tryz.isAgg34 rfl (Nat.zero_add _).symm rfl) (.keep (.keep (.keep .nil))) (Fz.le.refl _) ?_
 refine dT 2 rfl rfl rfl (by kernel_rfl) (fun _ _ _ h => h) (y_mv rfl) (.keep (.keep (.keep .nil))) (Fz.le.refl _) ?_
 refine dT 3 rfl rfl rfl (by kernel_rfl) (fun _ _ _ h => h) (y_nc rfl) (.keep (.keep (.keep .nil))) (Fz.le.refl _) ?_
 refine dT 4 rfl rfl rfl (by kernel_rfl) (fun _ _ _ h => h) (y_fa F138_2 rfl) (.keep (.keep (.keep .nil))) (Fz.le.refl _) ?_
 refine dT 5 rfl rfl rfl (by kernel_rfl) (fun _ _ _ h => h) (y_ld (j := 2) (Says.fz hb) Tryz.isAgg51 rfl rfl rfl) (.keep (.keep (.keep .nil))) (Fz.le.refl _) ?_
 refine dT 6 rfl rfl rfl (by kernel_rfl) (fun _ _ _ h => h) (y_cv Tryz.runUnderlying51 Tryz.runUnderlying2 rfl (i16_64 _)) (.keep (.keep (.keep .nil))) (Fz.le.refl _) ?_
 refine dT 7 rfl rfl rfl (by kernel_rfl) (fun _ _ _ h => h) (y_bd S37 rfl rfl) (.keep (.keep (.keep .nil))) (Fz.le.refl _) ?_
 refine dT 8 rfl rfl rfl (by kernel_rfl) (fun _ _ _ h => h) (y_ix2 (j := 1) Tryz.runUnderlying34 Tryz.sizeOf37 rfl rfl rfl rfl (by decide)) (.keep (.keep (.keep .nil))) (Fz.le.refl _) ?_
 refine dE 9 (by kernel_rfl) rfl ?_
 refine sa Tryz.sizeOf37 rfl rfl rfl rfl rfl (.tail .head) ?_
 refine dNk (by kernel_rfl) ?_
 refine dD (by kernel_rfl) ?_
 refine Nt ?_
 refine sq ?_
 refine rgD 9 (.keep (.keep (.keep .nil))) mixed ?_
 refine dT 0 rfl rfl rfl (by kernel_rfl) (fun _ _ _ h => h) (y_fa0 F37_3 rfl) (.keep (.keep (.keep .nil))) (Fz.le.refl _) ?_
 refine dT 1 rfl rfl rfl (by kernel_rfl) (fun _ _ _ h => h) (y_ld (Says.own .head) Tryz.isAgg34 rfl (Nat.zero_add _).symm rfl) (.keep (.keep (.keep .nil))) (Fz.le.refl _) ?_
 refine dT 2 rfl rfl rfl (by kernel_rfl) (fun _ _ _ h => h) (y_mv rfl) (.keep (.keep (.keep .nil))) (Fz.le.refl _) ?_
 refine dT 3 rfl rfl rfl (by kernel_rfl) (fun _ _ _ h => h) (y_nc rfl) (.keep (.keep (.keep .nil))) (Fz.le.refl _) ?_
 refine dT 4 rfl rfl rfl (by kernel_rfl) (fun _ _ _ h => h) (y_fa F138_3 rfl) (.keep (.keep (.keep .nil))) (Fz.le.refl _) ?_
 refine dT 5 rfl rfl rfl (by kernel_rfl) (fun _ _ _ h => h) (y_ld (j := 3) (Says.fz hb) Tryz.isAgg135 rfl rfl rfl) (.keep (.keep (.keep .nil))) (Fz.le.refl _) ?_
 refine dT 6 rfl rfl rfl (by kernel_rfl) (fun _ _ _ h => h) (y_esn Tryz.underlying135 rfl) (.keep (.keep (.keep .nil))) (Fz.le.refl _) ?_
 refine dE 7 (by kernel_rfl) rfl ?_
 refine ixk (j := 2) Tryz.runUnderlying34 Tryz.sizeOf37 rfl rfl rfl rfl (by decide) rfl ?_
 refine dN (.keep (.keep (.keep .nil))) (Fz.le.refl _) ?_
 refine dT 8 rfl rfl rfl (by kernel_rfl) (fun _ _ _ h => h) (y_fa F37_2 rfl) (.keep (.keep (.keep .nil))) (Fz.le.refl _) ?_
 refine dE 9 (by kernel_rfl) rfl ?_
 refine st Tryz.sizeOf4 rfl rfl rfl rfl (.tail .head) ?_
 refine dNk (by kernel_rfl) ?_
 refine dD (by kernel_rfl) ?_
 refine Nt ?_
 refine sq ?_
 refine sr ?_
 refine mv rfl rfl ?_
 refine nc rfl rfl ?_
 refine fa F138_3 rfl rfl ?_
 refine ld (Says.fz hb) Tryz.isAgg135 rfl rfl rfl rfl ?_
 refine ls Tryz.runUnderlying135 rfl rfl ?_
 refine mv rfl rfl ?_
 refine nl ?_
 have hlm2 := (hf.at 2).lTl
 refine nulC2 ?_
 refine fr ((lT (T.at 2)).length) (fun k2 l' H' L' => ∃ (al2 : Option Addr), ∃ (ml2 : Nat), ∃ (cl2 : Nat), ∃ (es2 : List EE), ∃ (Nl2 : Chunk), [(0, .pointer (some ⟨b, o, none⟩)), (2, .pointer (some ⟨b_1, 0, none⟩)), (3, .pointer (some ⟨b_3, 0, none⟩)), (39, .int .i64 ((lT (T.at 2)).length : Int))] = l' ∧ Nl2 :: [(b_3, .cells [.int .i64 0, .slice none 0 0, .bool false, _, .slice none 0 0].toArray 37 (0, 0))] :: [(b_2, .cells [.int .i64 (IntKind.i32.wrap (T.at 0).n), .slice none 0 0, .bool false, .slice none 0 0, .slice none 0 0, .int .i64 (IntKind.i16.wrap (T.at 1).n), .slice none 0 0, .bool false, .slice none 0 0, .slice none 0 0, .int .i64 0, .slice none 0 0, .bool a2.isNone, .slice al2 ml2 cl2, .slice none 0 0, .int .i64 0, .slice none 0 0, .bool false, .slice none 0 0, .slice none 0 0].toArray 37 (0, 0))] :: [(b_1, .cells [.int .i64 0, .slice none 0 0, .bool false, .slice none 0 0, .slice none 0 0].toArray 37 (0, 0))] :: L = L' ∧ Row 37 5 al2 ml2 cl2 (es2.flatMap f5) Nl2 ∧ ml2 = es2.length ∧ es2.map (·.2) = ((lT (T.at 2)).take k2).map tl_AddPartitionsToTxnResponseTransaction ∧ (∀ p : EE, p ∈ es2 → TreeAt H' p.1 p.2)) [(0, .pointer (some ⟨b, o, none⟩)), (2, .pointer (some ⟨b_1, 0, none⟩)), (3, .pointer (some ⟨b_3, 0, none⟩)), (39, .int .i64 ((lT (T.at 2)).length : Int))] (fun k2 l' H' L' h => ?_) (by omega) rfl (.cons rfl (.cons rfl (.cons rfl (.cons rfl (.nil _))))) ⟨none, 0, 0, [], [], rfl, rfl, (Row.nil _ _), rfl, (by simp), (fun p hp => by cases hp)⟩ rfl rfl rfl rfl rfl (fun k2 l' H' L' hk2 le_4 hI => ?_) (fun l' H' L' le_5 hI => ?_)
 · obtain ⟨al2, ml2, cl2, es2, Nl2, rfl, _⟩ := h; exact ⟨rfl, rfl, rfl, rfl⟩
 ·
  obtain ⟨al2, ml2, cl2, es2, Nl2, rfl, rfl, pk20, pk21, pk22, pk23⟩ := hI
  refine sr ?_
  refine mv rfl rfl ?_
  refine asg rfl rfl ?_
  refine nl ?_
  refine sq ?_
  refine rgD 4 .nil mixed ?_
  refine dE 0 (by kernel_rfl) rfl ?_
  refine al Tryz.zeroValue4 rfl rfl (fun b_6 => ?_)
  refine dN .nil (Fz.le.refl _) ?_
  refine dE2 1 2 (by kernel_rfl) rfl rfl ?_ ?_
  ·
   refine st Tryz.sizeOf4 rfl rfl rfl rfl .head ?_
   refine dN .nil (Fz.le.refl _) ?_
   refine dE 2 (by kernel_rfl) rfl ?_
   refine st Tryz.sizeOf4 rfl rfl rfl rfl .head ?_
   refine dN .nil (Fz.le.refl _) ?_
   refine dE 3 (by kernel_rfl) rfl ?_
   refine ld (Says.own .head) Tryz.isAgg4 rfl (Nat.zero_add _).symm rfl rfl ?_
   refine dN .nil (Fz.le.refl _) ?_
   refine dD (by kernel_rfl) ?_
   refine drN .head ?_
   refine Nt ?_
   refine cF rfl ?_
   refine rgD 18 (.skip (.keep (.keep (.keep .nil)))) mixed ?_
   refine dT 0 rfl rfl rfl (by kernel_rfl) (fun _ _ _ h => h) (y_fa0 F37_3 rfl) (.skip (.keep (.keep (.keep .nil)))) (Fz.le.refl _) ?_
   refine dT 1 rfl rfl rfl (by kernel_rfl) (fun _ _ _ h => h) (y_ld (Says.own .head) Tryz.isAgg34 rfl (Nat.zero_add _).symm rfl) (.skip (.keep (.keep (.keep .nil)))) (Fz.le.refl _) ?_
   refine dT 2 rfl rfl rfl (by kernel_rfl) (fun _ _ _ h => h) (y_fa0 F37_3 rfl) (.skip (.keep (.keep (.keep .nil)))) (Fz.le.refl _) ?_
   refine dT 3 rfl rfl rfl (by kernel_rfl) (fun _ _ _ h => h) (y_ld (Says.own .head) Tryz.isAgg34 rfl (Nat.zero_add _).symm rfl) (.skip (.keep (.keep (.keep .nil)))) (Fz.le.refl _) ?_
   refine dT 4 rfl rfl rfl (by kernel_rfl) (fun _ _ _ h => h) (y_ix2 (j := 2) Tryz.runUnderlying34 Tryz.sizeOf37 rfl rfl rfl rfl (by decide)) (.skip (.keep (.keep (.keep .nil)))) (Fz.le.refl _) ?_
   refine dT 5 rfl rfl rfl (by kernel_rfl) (fun _ _ _ h => h) (y_fa F37_3 rfl) (.skip (.keep (.keep (.keep .nil)))) (Fz.le.refl _) ?_
   refine dT 6 rfl rfl rfl (by kernel_rfl) (fun _ _ _ h => h) (y_ld (Says.own (.tail .head)) Tryz.isAgg34 rfl (Nat.zero_add _).symm rfl) (.skip (.keep (.keep (.keep .nil)))) (Fz.le.refl _) ?_
   refine dT 7 rfl rfl rfl (by kernel_rfl) (fun _ _ _ h => h) (y_mv rfl) (.skip (.keep (.keep (.keep .nil)))) (Fz.le.refl _) ?_
   refine dT 8 rfl rfl rfl (by kernel_rfl) (fun _ _ _ h => h) (y_nc rfl) (.skip (.keep (.keep (.keep .nil)))) (Fz.le.refl _) ?_
   refine dT 9 rfl rfl rfl (by kernel_rfl) (fun _ _ _ h => h) (y_fa F138_3 rfl) (.skip (.keep (.keep (.keep .nil)))) (Fz.le.refl _) ?_
   refine dT 10 rfl rfl rfl (by kernel_rfl) (fun _ _ _ h => h) (y_ld (j := 3) (Says.fz (hb.mono le_4)) Tryz.isAgg135 rfl rfl rfl) (.skip (.keep (.keep (.keep .nil)))) (Fz.le.refl _) ?_
   refine dT 11 rfl rfl rfl (by kernel_rfl) (fun _ _ _ h => h) (y_mv rfl) (.skip (.keep (.keep (.keep .nil)))) (Fz.le.refl _) ?_
   obtain ⟨beq_7, oeq_7, haq_7, hlq_7⟩ := ((h1.mono At_AddPartitionsToTxnResponseTransaction.mono le_4)).rows.at_ (ne_nil_of_lt hk2)
   obtain ⟨ceq_7, hAq_7, hbq_7⟩ := hlq_7 k2 hk2
   refine dT 12 rfl rfl rfl (by kernel_rfl) (fun _ _ _ h => h) (y_ixk (j := k2) Tryz.runUnderlying135 Tryz.sizeOf143 rfl haq_7 rfl rfl hk2) (.skip (.keep (.keep (.keep .nil)))) (Fz.le.refl _) ?_
   refine dE 13 (by kernel_rfl) rfl ?_
   refine cl rfl rfl rfl (te_AddPartitionsToTxnResponseTransaction hbq_7 (At_AddPartitionsToTxnResponseTransaction.mono _ _ _ _ (Fz.le.refl _) hAq_7) ((hf.at 2).lTel (List.getElem_mem hk2))) rfl (fun v_ H1 L1 le_8 hR_ => ?_)
   obtain ⟨rfl, ct76, rfl, hT76⟩ := hR_
   refine dN (.skip (.keep (.keep (.keep .nil)))) le_8 ?_
   refine dE 14 (by kernel_rfl) rfl ?_
   refine bs' L34 rfl rfl rfl rfl (fun b_9 => ?_)
   refine dN (.skip (.skip (.keep (.keep (.keep .nil))))) le_8 ?_
   refine dE 15 (by kernel_rfl) rfl ?_
   have hmk : ml2 = k2 := by have h1 := congrArg List.length pk22; rw [List.length_map, List.length_map, List.length_take] at h1; omega
   have hmb := (hf.at 2).lTl
   refine ap (k := 1) (news := f5 ((ct76, tl_AddPartitionsToTxnResponseTransaction (lT (T.at 2))[k2]) : EE)) Tryz.underlying34 I37 rfl rfl pk20 (fun _ => (.tail .head)) (src_says Tryz.underlying34 rfl (fun _ => Says.own .head) (f5_one _)) (by omega) (by unfold maxLen; omega) rfl (fun a78 c78 N78 r78 z78 => ?_)
   rw [flatMap_snoc'] at r78
   refine dN (.skip (.skip (.keep (.keep (.keep .nil))))) le_8 ?_
   refine dE 16 (by kernel_rfl) rfl ?_
   refine ixk (j := 2) Tryz.runUnderlying34 Tryz.sizeOf37 rfl rfl rfl rfl (by decide) rfl ?_
   refine dN (.skip (.skip (.keep (.keep (.keep .nil))))) le_8 ?_
   refine dT 17 rfl rfl rfl (by kernel_rfl) (fun _ _ _ h => h) (y_fa F37_3 rfl) (.skip (.skip (.keep (.keep (.keep .nil))))) le_8 ?_
   refine dE 18 (by kernel_rfl) rfl ?_
   refine st Tryz.sizeOf34 rfl rfl rfl rfl (.tail (.tail (.tail .head))) ?_
   refine dNk (by kernel_rfl) ?_
   refine dD (by kernel_rfl) ?_
   refine Nb ?_
   refine drN .head ?_
   refine fun a_ w_ hA hw => ⟨_, _, _, hA.sub ?_, (le_4.trans le_8), hw, _, rfl, a78, (ml2 + 1), c78, (es2 ++ [((ct76, tl_AddPartitionsToTxnResponseTransaction (lT (T.at 2))[k2]) : EE)]), N78, rfl, rfl, r78, (by simp; omega), (map_take_snoc (g := tl_AddPartitionsToTxnResponseTransaction) hk2 pk22), (fun p hp => (mem_snoc hp).elim (fun h => (pk23 p h).mono le_8) (fun h => h ▸ hT76))⟩
   exact (.cons rfl (.cons rfl (.cons rfl (.cons rfl (.cons rfl (.nil _))))))
  ·
   refine st Tryz.sizeOf4 rfl rfl rfl rfl .head ?_
   refine dN .nil (Fz.le.refl _) ?_
   refine dE 1 (by kernel_rfl) rfl ?_
   refine st Tryz.sizeOf4 rfl rfl rfl rfl .head ?_
   refine dN .nil (Fz.le.refl _) ?_
   refine dE 3 (by kernel_rfl) rfl ?_
   refine ld (Says.own .head) Tryz.isAgg4 rfl (Nat.zero_add _).symm rfl rfl ?_
   refine dN .nil (Fz.le.refl _) ?_
   refine dD (by kernel_rfl) ?_
   refine drN .head ?_
   refine Nt ?_
   refine cT rfl ?_
   refine sq ?_
   refine rgD 17 (.skip (.keep (.keep (.keep .nil)))) mixed ?_
   refine dT 0 rfl rfl rfl (by kernel_rfl) (fun _ _ _ h => h) (y_fa0 F37_3 rfl) (.skip (.keep (.keep (.keep .nil)))) (Fz.le.refl _) ?_
   refine dT 1 rfl rfl rfl (by kernel_rfl) (fun _ _ _ h => h) (y_ld (Says.own .head) Tryz.isAgg34 rfl (Nat.zero_add _).symm rfl) (.skip (.keep (.keep (.keep .nil)))) (Fz.le.refl _) ?_
   refine dT 2 rfl rfl rfl (by kernel_rfl) (fun _ _ _ h => h) (y_ix2 (j := 2) Tryz.runUnderlying34 Tryz.sizeOf37 rfl rfl rfl rfl (by decide)) (.skip (.keep (.keep (.keep .nil)))) (Fz.le.refl _) ?_
   refine dT 3 rfl rfl rfl (by kernel_rfl) (fun _ _ _ h => h) (y_fa F37_3 rfl) (.skip (.keep (.keep (.keep .nil)))) (Fz.le.refl _) ?_
   refine dT 4 rfl rfl rfl (by kernel_rfl) (fun _ _ _ h => h) (y_ld (Says.own (.tail .head)) Tryz.isAgg34 rfl (Nat.zero_add _).symm rfl) (.skip (.keep (.keep (.keep .nil)))) (Fz.le.refl _) ?_
   refine dT 5 rfl rfl rfl (by kernel_rfl) (fun _ _ _ h => h) (y_mv rfl) (.skip (.keep (.keep (.keep .nil)))) (Fz.le.refl _) ?_
   refine dT 6 rfl rfl rfl (by kernel_rfl) (fun _ _ _ h => h) (y_nc rfl) (.skip (.keep (.keep (.keep .nil)))) (Fz.le.refl _) ?_
   refine dT 7 rfl rfl rfl (by kernel_rfl) (fun _ _ _ h => h) (y_fa F138_3 rfl) (.skip (.keep (.keep (.keep .nil)))) (Fz.le.refl _) ?_
   refine dT 8 rfl rfl rfl (by kernel_rfl) (fun _ _ _ h => h) (y_ld (j := 3) (Says.fz (hb.mono le_4)) Tryz.isAgg135 rfl rfl rfl) (.skip (.keep (.keep (.keep .nil)))) (Fz.le.refl _) ?_
   refine dT 9 rfl rfl rfl (by kernel_rfl) (fun _ _ _ h => h) (y_mv rfl) (.skip (.keep (.keep (.keep .nil)))) (Fz.le.refl _) ?_
   obtain ⟨beq_10, oeq_10, haq_10, hlq_10⟩ := ((h1.mono At_AddPartitionsToTxnResponseTransaction.mono le_4)).rows.at_ (ne_nil_of_lt hk2)
   obtain ⟨ceq_10, hAq_10, hbq_10⟩ := hlq_10 k2 hk2
   refine dT 10 rfl rfl rfl (by kernel_rfl) (fun _ _ _ h => h) (y_ixk (j := k2) Tryz.runUnderlying135 Tryz.sizeOf143 rfl haq_10 rfl rfl hk2) (.skip (.keep (.keep (.keep .nil)))) (Fz.le.refl _) ?_
   refine dT 12 rfl rfl rfl (by kernel_rfl) (fun _ _ _ h => h) (y_ls Tryz.runUnderlying34 rfl) (.skip (.keep (.keep (.keep .nil)))) (Fz.le.refl _) ?_
   refine dE2 11 13 (by kernel_rfl) rfl rfl ?_ ?_
   ·
    refine cl rfl rfl rfl (te_AddPartitionsToTxnResponseTransaction hbq_10 (At_AddPartitionsToTxnResponseTransaction.mono _ _ _ _ (Fz.le.refl _) hAq_10) ((hf.at 2).lTel (List.getElem_mem hk2))) rfl (fun v_ H1 L1 le_11 hR_ => ?_)
    obtain ⟨rfl, ct56, rfl, hT56⟩ := hR_
    refine dN (.skip (.keep (.keep (.keep .nil)))) le_11 ?_
    refine dE 13 (by kernel_rfl) rfl ?_
    refine bs' L34 rfl rfl rfl rfl (fun b_12 => ?_)
    refine dN (.skip (.skip (.keep (.keep (.keep .nil))))) le_11 ?_
    refine dE 14 (by kernel_rfl) rfl ?_
    have hmk : ml2 = k2 := by have h1 := congrArg List.length pk22; rw [List.length_map, List.length_map, List.length_take] at h1; omega
    have hmb := (hf.at 2).lTl
    refine ap (k := 1) (news := f5 ((TC.none, Tr.none) : EE)) Tryz.underlying34 I37 rfl rfl pk20 (fun _ => (.tail .head)) (src_says Tryz.underlying34 rfl (fun _ => Says.own .head) (f5_one _)) (by omega) (by unfold maxLen; omega) rfl (fun a59 c59 N59 r59 z59 => ?_)
    refine dN (.skip (.skip (.keep (.keep (.keep .nil))))) le_11 ?_
    refine dE 15 (by kernel_rfl) rfl ?_
    refine ixk (j := 2) Tryz.runUnderlying34 Tryz.sizeOf37 rfl rfl rfl rfl (by decide) rfl ?_
    refine dN (.skip (.skip (.keep (.keep (.keep .nil))))) le_11 ?_
    refine dT 16 rfl rfl rfl (by kernel_rfl) (fun _ _ _ h => h) (y_fa F37_3 rfl) (.skip (.skip (.keep (.keep (.keep .nil))))) le_11 ?_
    refine dE 17 (by kernel_rfl) rfl ?_
    refine st Tryz.sizeOf34 rfl rfl rfl rfl (.tail (.tail (.tail .head))) ?_
    refine dNk (by kernel_rfl) ?_
    refine dD (by kernel_rfl) ?_
    refine Nt ?_
    refine rg ?_
    obtain ⟨gg59, hgg59⟩ := r59.addr (by omega)
    refine ixk (j := ml2) Tryz.runUnderlying34 Tryz.sizeOf37 rfl hgg59 rfl rfl (by omega) rfl ?_
    refine sR (ds := f5 ((ct56, tl_AddPartitionsToTxnResponseTransaction (lT (T.at 2))[k2]) : EE)) r59 hgg59 (fun _ => (.tail .head)) Tryz.sizeOf37 rfl rfl rfl rfl (by omega) (fun N59b r59b => ?_)
    rw [row_put (k := 5) (m := ml2) (A := es2.flatMap f5) (by rw [flatMap_len f5 5 f5_len, pk21]) rfl, flatMap_snoc'] at r59b
    refine nN ?_
    refine Nb ?_
    refine drN .head ?_
    refine fun a_ w_ hA hw => ⟨_, _, _, hA.sub ?_, (le_4.trans le_11), hw, _, rfl, a59, (ml2 + 1), c59, (es2 ++ [((ct56, tl_AddPartitionsToTxnResponseTransaction (lT (T.at 2))[k2]) : EE)]), N59b, rfl, rfl, r59b, (by simp; omega), (map_take_snoc (g := tl_AddPartitionsToTxnResponseTransaction) hk2 pk22), (fun p hp => (mem_snoc hp).elim (fun h => (pk23 p h).mono le_11) (fun h => h ▸ hT56))⟩
    exact (.cons rfl (.cons rfl (.cons rfl (.cons rfl (.cons rfl (.nil _))))))
   ·
    refine bs' L34 rfl rfl rfl rfl (fun b_13 => ?_)
    refine dN (.skip (.skip (.keep (.keep (.keep .nil))))) (Fz.le.refl _) ?_
    refine dE 11 (by kernel_rfl) rfl ?_
    refine cl rfl rfl rfl (te_AddPartitionsToTxnResponseTransaction hbq_10 (At_AddPartitionsToTxnResponseTransaction.mono _ _ _ _ (Fz.le.refl _) hAq_10) ((hf.at 2).lTel (List.getElem_mem hk2))) rfl (fun v_ H1 L1 le_14 hR_ => ?_)
    obtain ⟨rfl, ct56, rfl, hT56⟩ := hR_
    refine dN (.skip (.skip (.keep (.keep (.keep .nil))))) le_14 ?_
    refine dE 14 (by kernel_rfl) rfl ?_
    have hmk : ml2 = k2 := by have h1 := congrArg List.length pk22; rw [List.length_map, List.length_map, List.length_take] at h1; omega
    have hmb := (hf.at 2).lTl
    refine ap (k := 1) (news := f5 ((TC.none, Tr.none) : EE)) Tryz.underlying34 I37 rfl rfl pk20 (fun _ => (.tail .head)) (src_says Tryz.underlying34 rfl (fun _ => Says.own .head) (f5_one _)) (by omega) (by unfold maxLen; omega) rfl (fun a59 c59 N59 r59 z59 => ?_)
    refine dN (.skip (.skip (.keep (.keep (.keep .nil))))) le_14 ?_
    refine dE 15 (by kernel_rfl) rfl ?_
    refine ixk (j := 2) Tryz.runUnderlying34 Tryz.sizeOf37 rfl rfl rfl rfl (by decide) rfl ?_
    refine dN (.skip (.skip (.keep (.keep (.keep .nil))))) le_14 ?_
    refine dT 16 rfl rfl rfl (by kernel_rfl) (fun _ _ _ h => h) (y_fa F37_3 rfl) (.skip (.skip (.keep (.keep (.keep .nil))))) le_14 ?_
    refine dE 17 (by kernel_rfl) rfl ?_
    refine st Tryz.sizeOf34 rfl rfl rfl rfl (.tail (.tail (.tail .head))) ?_
    refine dNk (by kernel_rfl) ?_
    refine dD (by kernel_rfl) ?_
    refine Nt ?_
    refine rg ?_
    obtain ⟨gg59, hgg59⟩ := r59.addr (by omega)
    refine ixk (j := ml2) Tryz.runUnderlying34 Tryz.sizeOf37 rfl hgg59 rfl rfl (by omega) rfl ?_
    refine sR (ds := f5 ((ct56, tl_AddPartitionsToTxnResponseTransaction (lT (T.at 2))[k2]) : EE)) r59 hgg59 (fun _ => (.tail .head)) Tryz.sizeOf37 rfl rfl rfl rfl (by omega) (fun N59b r59b => ?_)
    rw [row_put (k := 5) (m := ml2) (A := es2.flatMap f5) (by rw [flatMap_len f5 5 f5_len, pk21]) rfl, flatMap_snoc'] at r59b
    refine nN ?_
    refine Nb ?_
    refine drN .head ?_
    refine fun a_ w_ hA hw => ⟨_, _, _, hA.sub ?_, (le_4.trans le_14), hw, _, rfl, a59, (ml2 + 1), c59, (es2 ++ [((ct56, tl_AddPartitionsToTxnResponseTransaction (lT (T.at 2))[k2]) : EE)]), N59b, rfl, rfl, r59b, (by simp; omega), (map_take_snoc (g := tl_AddPartitionsToTxnResponseTransaction) hk2 pk22), (fun p hp => (mem_snoc hp).elim (fun h => (pk23 p h).mono le_14) (fun h => h ▸ hT56))⟩
    exact (.cons rfl (.cons rfl (.cons rfl (.cons rfl (.cons rfl (.nil _))))))
 ·
  obtain ⟨al2, ml2, cl2, es2, Nl2, rfl, rfl, pk20, pk21, pk22, pk23⟩ := hI
  refine toWp ?_
  have hes2 : es2.map (·.2) = (lT (T.at 2)).map tl_AddPartitionsToTxnResponseTransaction := by rw [pk22, List.take_length]
  have hm2 : ml2 = ((lT (T.at 2)).map tl_AddPartitionsToTxnResponseTransaction).length := by rw [← hes2, List.length_map]; exact pk21
  refine frW pk20 .head (fun Hl2 hll2 hzl2 => ?_)
  have ht2 := TreesAt.row hzl2 pk21 pk20.le.1 (by have h1 := congrArg List.length hes2; rw [List.length_map, List.length_map] at h1; unfold B47; omega) (fun p hp => (pk23 p hp).mono hll2)
  rw [hes2] at ht2
  subst hm2
  refine sq ?_
  refine rgD 9 (.keep (.keep (.keep .nil))) mixed ?_
  refine dT 0 rfl rfl rfl (by kernel_rfl) (fun _ _ _ h => h) (y_fa0 F37_3 rfl) (.keep (.keep (.keep .nil))) (Fz.le.refl _) ?_
  refine dT 1 rfl rfl rfl (by kernel_rfl) (fun _ _ _ h => h) (y_ld (Says.own .head) Tryz.isAgg34 rfl (Nat.zero_add _).symm rfl) (.keep (.keep (.keep .nil))) (Fz.le.refl _) ?_
  refine dT 2 rfl rfl rfl (by kernel_rfl) (fun _ _ _ h => h) (y_mv rfl) (.keep (.keep (.keep .nil))) (Fz.le.refl _) ?_
  refine dT 3 rfl rfl rfl (by kernel_rfl) (fun _ _ _ h => h) (y_nc rfl) (.keep (.keep (.keep .nil))) (Fz.le.refl _) ?_
  refine dT 4 rfl rfl rfl (by kernel_rfl) (fun _ _ _ h => h) (y_fa F138_4 rfl) (.keep (.keep (.keep .nil))) (Fz.le.refl _) ?_
  refine dT 5 rfl rfl rfl (by kernel_rfl) (fun _ _ _ h => h) (y_ld (j := 4) (Says.fz (hb.mono (le_5.trans hll2))) Tryz.isAgg136 rfl rfl rfl) (.keep (.keep (.keep .nil))) (Fz.le.refl _) ?_
  refine dT 6 rfl rfl rfl (by kernel_rfl) (fun _ _ _ h => h) (y_esn Tryz.underlying136 rfl) (.keep (.keep (.keep .nil))) (Fz.le.refl _) ?_
  refine dE 7 (by kernel_rfl) rfl ?_
  refine ixk (j := 3) Tryz.runUnderlying34 Tryz.sizeOf37 rfl rfl rfl rfl (by decide) rfl ?_
  refine dN (.keep (.keep (.keep .nil))) (Fz.le.refl _) ?_
  refine dT 8 rfl rfl rfl (by kernel_rfl) (fun _ _ _ h => h) (y_fa F37_2 rfl) (.keep (.keep (.keep .nil))) (Fz.le.refl _) ?_
  refine dE 9 (by kernel_rfl) rfl ?_
  refine st Tryz.sizeOf4 rfl rfl rfl rfl (.tail .head) ?_
  refine dNk (by kernel_rfl) ?_
  refine dD (by kernel_rfl) ?_
  refine Nt ?_
  refine sq ?_
  refine sr ?_
  refine mv rfl rfl ?_
  refine nc rfl rfl ?_
  refine fa F138_4 rfl rfl ?_
  refine ld (Says.fz (hb.mono (le_5.trans hll2))) Tryz.isAgg136 rfl rfl rfl rfl ?_
  refine ls Tryz.runUnderlying136 rfl rfl ?_
  refine mv rfl rfl ?_
  refine nl ?_
  have hlm3 := (hf.at 3).lTl
  refine nulC2 ?_
  refine fr ((lT (T.at 3)).length) (fun k3 l' H' L' => ∃ (al3 : Option Addr), ∃ (ml3 : Nat), ∃ (cl3 : Nat), ∃ (es3 : List EE), ∃ (Nl3 : Chunk), [(0, .pointer (some ⟨b, o, none⟩)), (2, .pointer (some ⟨b_1, 0, none⟩)), (3, .pointer (some ⟨b_3, 0, none⟩)), (95, .int .i64 ((lT (T.at 3)).length : Int))] = l' ∧ Nl3 :: [(b_3, .cells [.int .i64 0, .slice none 0 0, .bool false, _, .slice none 0 0].toArray 37 (0, 0))] :: [(b_2, .cells [.int .i64 (IntKind.i32.wrap (T.at 0).n), .slice none 0 0, .bool false, .slice none 0 0, .slice none 0 0, .int .i64 (IntKind.i16.wrap (T.at 1).n), .slice none 0 0, .bool false, .slice none 0 0, .slice none 0 0, .int .i64 0, .slice none 0 0, .bool a2.isNone, .slice al2 ((lT (T.at 2)).map tl_AddPartitionsToTxnResponseTransaction).length cl2, .slice none 0 0, .int .i64 0, .slice none 0 0, .bool a3.isNone, .slice al3 ml3 cl3, .slice none 0 0].toArray 37 (0, 0))] :: [(b_1, .cells [.int .i64 0, .slice none 0 0, .bool false, .slice none 0 0, .slice none 0 0].toArray 37 (0, 0))] :: L = L' ∧ Row 37 5 al3 ml3 cl3 (es3.flatMap f5) Nl3 ∧ ml3 = es3.length ∧ es3.map (·.2) = ((lT (T.at 3)).take k3).map tl_AddPartitionsToTxnResponseTopic ∧ (∀ p : EE, p ∈ es3 → TreeAt H' p.1 p.2)) [(0, .pointer (some ⟨b, o, none⟩)), (2, .pointer (some ⟨b_1, 0, none⟩)), (3, .pointer (some ⟨b_3, 0, none⟩)), (95, .int .i64 ((lT (T.at 3)).length : Int))] (fun k3 l' H' L' h => ?_) (by omega) rfl (.cons rfl (.cons rfl (.cons rfl (.cons rfl (.nil _))))) ⟨none, 0, 0, [], [], rfl, rfl, (Row.nil _ _), rfl, (by simp), (fun p hp => by cases hp)⟩ rfl rfl rfl rfl rfl (fun k3 l' H' L' hk3 le_15 hI => ?_) (fun l' H' L' le_16 hI => ?_)
  · obtain ⟨al3, ml3, cl3, es3, Nl3, rfl, _⟩ := h; exact ⟨rfl, rfl, rfl, rfl⟩
  ·
   obtain ⟨al3, ml3, cl3, es3, Nl3, rfl, rfl, pk30, pk31, pk32, pk33⟩ := hI
   refine sr ?_
   refine mv rfl rfl ?_
   refine asg rfl rfl ?_
   refine nl ?_
   refine sq ?_
   refine rgD 4 .nil mixed ?_
   refine dE 0 (by kernel_rfl) rfl ?_
   refine al Tryz.zeroValue4 rfl rfl (fun b_17 => ?_)
   refine dN .nil (Fz.le.refl _) ?_
   refine dE2 1 2 (by kernel_rfl) rfl rfl ?_ ?_
   ·
    refine st Tryz.sizeOf4 rfl rfl rfl rfl .head ?_
    refine dN .nil (Fz.le.refl _) ?_
    refine dE 2 (by kernel_rfl) rfl ?_
    refine st Tryz.sizeOf4 rfl rfl rfl rfl .head ?_
    refine dN .nil (Fz.le.refl _) ?_
    refine dE 3 (by kernel_rfl) rfl ?_
    refine ld (Says.own .head) Tryz.isAgg4 rfl (Nat.zero_add _).symm rfl rfl ?_
    refine dN .nil (Fz.le.refl _) ?_
    refine dD (by kernel_rfl) ?_
    refine drN .head ?_
    refine Nt ?_
    refine cF rfl ?_
    refine rgD 18 (.skip (.keep (.keep (.keep .nil)))) mixed ?_
    refine dT 0 rfl rfl rfl (by kernel_rfl) (fun _ _ _ h => h) (y_fa0 F37_3 rfl) (.skip (.keep (.keep (.keep .nil)))) (Fz.le.refl _) ?_
    refine dT 1 rfl rfl rfl (by kernel_rfl) (fun _ _ _ h => h) (y_ld (Says.own .head) Tryz.isAgg34 rfl (Nat.zero_add _).symm rfl) (.skip (.keep (.keep (.keep .nil)))) (Fz.le.refl _) ?_
    refine dT 2 rfl rfl rfl (by kernel_rfl) (fun _ _ _ h => h) (y_fa0 F37_3 rfl) (.skip (.keep (.keep (.keep .nil)))) (Fz.le.refl _) ?_
    refine dT 3 rfl rfl rfl (by kernel_rfl) (fun _ _ _ h => h) (y_ld (Says.own .head) Tryz.isAgg34 rfl (Nat.zero_add _).symm rfl) (.skip (.keep (.keep (.keep .nil)))) (Fz.le.refl _) ?_
    refine dT 4 rfl rfl rfl (by kernel_rfl) (fun _ _ _ h => h) (y_ix2 (j := 3) Tryz.runUnderlying34 Tryz.sizeOf37 rfl rfl rfl rfl (by decide)) (.skip (.keep (.keep (.keep .nil)))) (Fz.le.refl _) ?_
    refine dT 5 rfl rfl rfl (by kernel_rfl) (fun _ _ _ h => h) (y_fa F37_3 rfl) (.skip (.keep (.keep (.keep .nil)))) (Fz.le.refl _) ?_
    refine dT 6 rfl rfl rfl (by kernel_rfl) (fun _ _ _ h => h) (y_ld (Says.own (.tail .head)) Tryz.isAgg34 rfl (Nat.zero_add _).symm rfl) (.skip (.keep (.keep (.keep .nil)))) (Fz.le.refl _) ?_
    refine dT 7 rfl rfl rfl (by kernel_rfl) (fun _ _ _ h => h) (y_mv rfl) (.skip (.keep (.keep (.keep .nil)))) (Fz.le.refl _) ?_
    refine dT 8 rfl rfl rfl (by kernel_rfl) (fun _ _ _ h => h) (y_nc rfl) (.skip (.keep (.keep (.keep .nil)))) (Fz.le.refl _) ?_
    refine dT 9 rfl rfl rfl (by kernel_rfl) (fun _ _ _ h => h) (y_fa F138_4 rfl) (.skip (.keep (.keep (.keep .nil)))) (Fz.le.refl _) ?_
    refine dT 10 rfl rfl rfl (by kernel_rfl) (fun _ _ _ h => h) (y_ld (j := 4) (Says.fz (hb.mono (le_5.trans (hll2.trans le_15)))) Tryz.isAgg136 rfl rfl rfl) (.skip (.keep (.keep (.keep .nil)))) (Fz.le.refl _) ?_
    refine dT 11 rfl rfl rfl (by kernel_rfl) (fun _ _ _ h => h) (y_mv rfl) (.skip (.keep (.keep (.keep .nil)))) (Fz.le.refl _) ?_
    obtain ⟨beq_18, oeq_18, haq_18, hlq_18⟩ := ((h2.mono At_AddPartitionsToTxnResponseTopic.mono (le_5.trans (hll2.trans le_15)))).rows.at_ (ne_nil_of_lt hk3)
    obtain ⟨ceq_18, hAq_18, hbq_18⟩ := hlq_18 k3 hk3
    refine dT 12 rfl rfl rfl (by kernel_rfl) (fun _ _ _ h => h) (y_ixk (j := k3) Tryz.runUnderlying136 Tryz.sizeOf148 rfl haq_18 rfl rfl hk3) (.skip (.keep (.keep (.keep .nil)))) (Fz.le.refl _) ?_
    refine dE 13 (by kernel_rfl) rfl ?_
    refine cl rfl rfl rfl (te_AddPartitionsToTxnResponseTopic hbq_18 (At_AddPartitionsToTxnResponseTopic.mono _ _ _ _ (Fz.le.refl _) hAq_18) ((hf.at 3).lTel (List.getElem_mem hk3))) rfl (fun v_ H1 L1 le_19 hR_ => ?_)
    obtain ⟨rfl, ct132, rfl, hT132⟩ := hR_
    refine dN (.skip (.keep (.keep (.keep .nil)))) le_19 ?_
    refine dE 14 (by kernel_rfl) rfl ?_
    refine bs' L34 rfl rfl rfl rfl (fun b_20 => ?_)
    refine dN (.skip (.skip (.keep (.keep (.keep .nil))))) le_19 ?_
    refine dE 15 (by kernel_rfl) rfl ?_
    have hmk : ml3 = k3 := by have h1 := congrArg List.length pk32; rw [List.length_map, List.length_map, List.length_take] at h1; omega
    have hmb := (hf.at 3).lTl
    refine ap (k := 1) (news := f5 ((ct132, tl_AddPartitionsToTxnResponseTopic (lT (T.at 3))[k3]) : EE)) Tryz.underlying34 I37 rfl rfl pk30 (fun _ => (.tail .head)) (src_says Tryz.underlying34 rfl (fun _ => Says.own .head) (f5_one _)) (by omega) (by unfold maxLen; omega) rfl (fun a134 c134 N134 r134 z134 => ?_)
    rw [flatMap_snoc'] at r134
    refine dN (.skip (.skip (.keep (.keep (.keep .nil))))) le_19 ?_
    refine dE 16 (by kernel_rfl) rfl ?_
    refine ixk (j := 3) Tryz.runUnderlying34 Tryz.sizeOf37 rfl rfl rfl rfl (by decide) rfl ?_
    refine dN (.skip (.skip (.keep (.keep (.keep .nil))))) le_19 ?_
    refine dT 17 rfl rfl rfl (by kernel_rfl) (fun _ _ _ h => h) (y_fa F37_3 rfl) (.skip (.skip (.keep (.keep (.keep .nil))))) le_19 ?_
    refine dE 18 (by kernel_rfl) rfl ?_
    refine st Tryz.sizeOf34 rfl rfl rfl rfl (.tail (.tail (.tail .head))) ?_
    refine dNk (by kernel_rfl) ?_
    refine dD (by kernel_rfl) ?_
    refine Nb ?_
    refine drN .head ?_
    refine fun a_ w_ hA hw => ⟨_, _, _, hA.sub ?_, (le_15.trans le_19), hw, _, rfl, a134, (ml3 + 1), c134, (es3 ++ [((ct132, tl_AddPartitionsToTxnResponseTopic (lT (T.at 3))[k3]) : EE)]), N134, rfl, rfl, r134, (by simp; omega), (map_take_snoc (g := tl_AddPartitionsToTxnResponseTopic) hk3 pk32), (fun p hp => (mem_snoc hp).elim (fun h => (pk33 p h).mono le_19) (fun h => h ▸ hT132))⟩
    exact (.cons rfl (.cons rfl (.cons rfl (.cons rfl (.cons rfl (.nil _))))))
   ·
    refine st Tryz.sizeOf4 rfl rfl rfl rfl .head ?_
    refine dN .nil (Fz.le.refl _) ?_
    refine dE 1 (by kernel_rfl) rfl ?_
    refine st Tryz.sizeOf4 rfl rfl rfl rfl .head ?_
    refine dN .nil (Fz.le.refl _) ?_
    refine dE 3 (by kernel_rfl) rfl ?_
    refine ld (Says.own .head) Tryz.isAgg4 rfl (Nat.zero_add _).symm rfl rfl ?_
    refine dN .nil (Fz.le.refl _) ?_
    refine dD (by kernel_rfl) ?_
    refine drN .head ?_
    refine Nt ?_
    refine cT rfl ?_
    refine sq ?_
    refine rgD 17 (.skip (.keep (.keep (.keep .nil)))) mixed ?_
    refine dT 0 rfl rfl rfl (by kernel_rfl) (fun _ _ _ h => h) (y_fa0 F37_3 rfl) (.skip (.keep (.keep (.keep .nil)))) (Fz.le.refl _) ?_
    refine dT 1 rfl rfl rfl (by kernel_rfl) (fun _ _ _ h => h) (y_ld (Says.own .head) Tryz.isAgg34 rfl (Nat.zero_add _).symm rfl) (.skip (.keep (.keep (.keep .nil)))) (Fz.le.refl _) ?_
    refine dT 2 rfl rfl rfl (by kernel_rfl) (fun _ _ _ h => h) (y_ix2 (j := 3) Tryz.runUnderlying34 Tryz.sizeOf37 rfl rfl rfl rfl (by decide)) (.skip (.keep (.keep (.keep .nil)))) (Fz.le.refl _) ?_
    refine dT 3 rfl rfl rfl (by kernel_rfl) (fun _ _ _ h => h) (y_fa F37_3 rfl) (.skip (.keep (.keep (.keep .nil)))) (Fz.le.refl _) ?_
    refine dT 4 rfl rfl rfl (by kernel_rfl) (fun _ _ _ h => h) (y_ld (Says.own (.tail .head)) Tryz.isAgg34 rfl (Nat.zero_add _).symm rfl) (.skip (.keep (.keep (.keep .nil)))) (Fz.le.refl _) ?_
    refine dT 5 rfl rfl rfl (by kernel_rfl) (fun _ _ _ h => h) (y_mv rfl) (.skip (.keep (.keep (.keep .nil)))) (Fz.le.refl _) ?_
    refine dT 6 rfl rfl rfl (by kernel_rfl) (fun _ _ _ h => h) (y_nc rfl) (.skip (.keep (.keep (.keep .nil)))) (Fz.le.refl _) ?_
    refine dT 7 rfl rfl rfl (by kernel_rfl) (fun _ _ _ h => h) (y_fa F138_4 rfl) (.skip (.keep (.keep (.keep .nil)))) (Fz.le.refl _) ?_
    refine dT 8 rfl rfl rfl (by kernel_rfl) (fun _ _ _ h => h) (y_ld (j := 4) (Says.fz (hb.mono (le_5.trans (hll2.trans le_15)))) Tryz.isAgg136 rfl rfl rfl) (.skip (.keep (.keep (.keep .nil)))) (Fz.le.refl _) ?_
    refine dT 9 rfl rfl rfl (by kernel_rfl) (fun _ _ _ h => h) (y_mv rfl) (.skip (.keep (.keep (.keep .nil)))) (Fz.le.refl _) ?_
    obtain ⟨beq_21, oeq_21, haq_21, hlq_21⟩ := ((h2.mono At_AddPartitionsToTxnResponseTopic.mono (le_5.trans (hll2.trans le_15)))).rows.at_ (ne_nil_of_lt hk3)
    obtain ⟨ceq_21, hAq_21, hbq_21⟩ := hlq_21 k3 hk3
    refine dT 10 rfl rfl rfl (by kernel_rfl) (fun _ _ _ h => h) (y_ixk (j := k3) Tryz.runUnderlying136 Tryz.sizeOf148 rfl haq_21 rfl rfl hk3) (.skip (.keep (.keep (.keep .nil)))) (Fz.le.refl _) ?_
    refine dT 12 rfl rfl rfl (by kernel_rfl) (fun _ _ _ h => h) (y_ls Tryz.runUnderlying34 rfl) (.skip (.keep (.keep (.keep .nil)))) (Fz.le.refl _) ?_
    refine dE2 11 13 (by kernel_rfl) rfl rfl ?_ ?_
    ·
     refine cl rfl rfl rfl (te_AddPartitionsToTxnResponseTopic hbq_21 (At_AddPartitionsToTxnResponseTopic.mono _ _ _ _ (Fz.le.refl _) hAq_21) ((hf.at 3).lTel (List.getElem_mem hk3))) rfl (fun v_ H1 L1 le_22 hR_ => ?_)
     obtain ⟨rfl, ct112, rfl, hT112⟩ := hR_
     refine dN (.skip (.keep (.keep (.keep .nil)))) le_22 ?_
     refine dE 13 (by kernel_rfl) rfl ?_
     refine bs' L34 rfl rfl rfl rfl (fun b_23 => ?_)
     refine dN (.skip (.skip (.keep (.keep (.keep .nil))))) le_22 ?_
     refine dE 14 (by kernel_rfl) rfl ?_
     have hmk : ml3 = k3 := by have h1 := congrArg List.length pk32; rw [List.length_map, List.length_map, List.length_take] at h1; omega
     have hmb := (hf.at 3).lTl
     refine ap (k := 1) (news := f5 ((TC.none, Tr.none) : EE)) Tryz.underlying34 I37 rfl rfl pk30 (fun _ => (.tail .head)) (src_says Tryz.underlying34 rfl (fun _ => Says.own .head) (f5_one _)) (by omega) (by unfold maxLen; omega) rfl (fun a115 c115 N115 r115 z115 => ?_)
     refine dN (.skip (.skip (.keep (.keep (.keep .nil))))) le_22 ?_
     refine dE 15 (by kernel_rfl) rfl ?_
     refine ixk (j := 3) Tryz.runUnderlying34 Tryz.sizeOf37 rfl rfl rfl rfl (by decide) rfl ?_
     refine dN (.skip (.skip (.keep (.keep (.keep .nil))))) le_22 ?_
     refine dT 16 rfl rfl rfl (by kernel_rfl) (fun _ _ _ h => h) (y_fa F37_3 rfl) (.skip (.skip (.keep (.keep (.keep .nil))))) le_22 ?_
     refine dE 17 (by kernel_rfl) rfl ?_
     refine st Tryz.sizeOf34 rfl rfl rfl rfl (.tail (.tail (.tail .head))) ?_
     refine dNk (by kernel_rfl) ?_
     refine dD (by kernel_rfl) ?_
     refine Nt ?_
     refine rg ?_
     obtain ⟨gg115, hgg115⟩ := r115.addr (by omega)
     refine ixk (j := ml3) Tryz.runUnderlying34 Tryz.sizeOf37 rfl hgg115 rfl rfl (by omega) rfl ?_
     refine sR (ds := f5 ((ct112, tl_AddPartitionsToTxnResponseTopic (lT (T.at 3))[k3]) : EE)) r115 hgg115 (fun _ => (.tail .head)) Tryz.sizeOf37 rfl rfl rfl rfl (by omega) (fun N115b r115b => ?_)
     rw [row_put (k := 5) (m := ml3) (A := es3.flatMap f5) (by rw [flatMap_len f5 5 f5_len, pk31]) rfl, flatMap_snoc'] at r115b
     refine nN ?_
     refine Nb ?_
     refine drN .head ?_
     refine fun a_ w_ hA hw => ⟨_, _, _, hA.sub ?_, (le_15.trans le_22), hw, _, rfl, a115, (ml3 + 1), c115, (es3 ++ [((ct112, tl_AddPartitionsToTxnResponseTopic (lT (T.at 3))[k3]) : EE)]), N115b, rfl, rfl, r115b, (by simp; omega), (map_take_snoc (g := tl_AddPartitionsToTxnResponseTopic) hk3 pk32), (fun p hp => (mem_snoc hp).elim (fun h => (pk33 p h).mono le_22) (fun h => h ▸ hT112))⟩
     exact (.cons rfl (.cons rfl (.cons rfl (.cons rfl (.cons rfl (.nil _))))))
    ·
     refine bs' L34 rfl rfl rfl rfl (fun b_24 => ?_)
     refine dN (.skip (.skip (.keep (.keep (.keep .nil))))) (Fz.le.refl _) ?_
     refine dE 11 (by kernel_rfl) rfl ?_
     refine cl rfl rfl rfl (te_AddPartitionsToTxnResponseTopic hbq_21 (At_AddPartitionsToTxnResponseTopic.mono _ _ _ _ (Fz.le.refl _) hAq_21) ((hf.at 3).lTel (List.getElem_mem hk3))) rfl (fun v_ H1 L1 le_25 hR_ => ?_)
     obtain ⟨rfl, ct112, rfl, hT112⟩ := hR_
     refine dN (.skip (.skip (.keep (.keep (.keep .nil))))) le_25 ?_
     refine dE 14 (by kernel_rfl) rfl ?_
     have hmk : ml3 = k3 := by have h1 := congrArg List.length pk32; rw [List.length_map, List.length_map, List.length_take] at h1; omega
     have hmb := (hf.at 3).lTl
     refine ap (k := 1) (news := f5 ((TC.none, Tr.none) : EE)) Tryz.underlying34 I37 rfl rfl pk30 (fun _ => (.tail .head)) (src_says Tryz.underlying34 rfl (fun _ => Says.own .head) (f5_one _)) (by omega) (by unfold maxLen; omega) rfl (fun a115 c115 N115 r115 z115 => ?_)
     refine dN (.skip (.skip (.keep (.keep (.keep .nil))))) le_25 ?_
     refine dE 15 (by kernel_rfl) rfl ?_
     refine ixk (j := 3) Tryz.runUnderlying34 Tryz.sizeOf37 rfl rfl rfl rfl (by decide) rfl ?_
     refine dN (.skip (.skip (.keep (.keep (.keep .nil))))) le_25 ?_
     refine dT 16 rfl rfl rfl (by kernel_rfl) (fun _ _ _ h => h) (y_fa F37_3 rfl) (.skip (.skip (.keep (.keep (.keep .nil))))) le_25 ?_
     refine dE 17 (by kernel_rfl) rfl ?_
     refine st Tryz.sizeOf34 rfl rfl rfl rfl (.tail (.tail (.tail .head))) ?_
     refine dNk (by kernel_rfl) ?_
     refine dD (by kernel_rfl) ?_
     refine Nt ?_
     refine rg ?_
     obtain ⟨gg115, hgg115⟩ := r115.addr (by omega)
     refine ixk (j := ml3) Tryz.runUnderlying34 Tryz.sizeOf37 rfl hgg115 rfl rfl (by omega) rfl ?_
     refine sR (ds := f5 ((ct112, tl_AddPartitionsToTxnResponseTopic (lT (T.at 3))[k3]) : EE)) r115 hgg115 (fun _ => (.tail .head)) Tryz.sizeOf37 rfl rfl rfl rfl (by omega) (fun N115b r115b => ?_)
     rw [row_put (k := 5) (m := ml3) (A := es3.flatMap f5) (by rw [flatMap_len f5 5 f5_len, pk31]) rfl, flatMap_snoc'] at r115b
     refine nN ?_
     refine Nb ?_
     refine drN .head ?_
     refine fun a_ w_ hA hw => ⟨_, _, _, hA.sub ?_, (le_15.trans le_25), hw, _, rfl, a115, (ml3 + 1), c115, (es3 ++ [((ct112, tl_AddPartitionsToTxnResponseTopic (lT (T.at 3))[k3]) : EE)]), N115b, rfl, rfl, r115b, (by simp; omega), (map_take_snoc (g := tl_AddPartitionsToTxnResponseTopic) hk3 pk32), (fun p hp => (mem_snoc hp).elim (fun h => (pk33 p h).mono le_25) (fun h => h ▸ hT112))⟩
     exact (.cons rfl (.cons rfl (.cons rfl (.cons rfl (.cons rfl (.nil _))))))
  ·
   obtain ⟨al3, ml3, cl3, es3, Nl3, rfl, rfl, pk30, pk31, pk32, pk33⟩ := hI
   refine toWp ?_
   have hes3 : es3.map (·.2) = (lT (T.at 3)).map tl_AddPartitionsToTxnResponseTopic := by rw [pk32, List.take_length]
   have hm3 : ml3 = ((lT (T.at 3)).map tl_AddPartitionsToTxnResponseTopic).length := by rw [← hes3, List.length_map]; exact pk31
   refine frW pk30 .head (fun Hl3 hll3 hzl3 => ?_)
   have ht3 := TreesAt.row hzl3 pk31 pk30.le.1 (by have h1 := congrArg List.length hes3; rw [List.length_map, List.length_map] at h1; unfold B47; omega) (fun p hp => (pk33 p hp).mono hll3)
   rw [hes3] at ht3
   subst hm3
   refine sr ?_
   refine mv rfl rfl ?_
   refine nc rfl rfl ?_
   refine fa F138_5 rfl rfl ?_
   refine mkf rfl rfl ?_
   have hkv_ := (h3.mono (le_5.trans (hll2.trans (le_16.trans hll3))))
   obtain ⟨kvs, hM, hlen, hel⟩ := hkv_
   have hfu := hf.u
   refine cl rfl rfl rfl (t_each (j := 5) (I := fun i H1 Y => TgI 72 b_3 37 (.int .i64 0) (.slice none 0 0) (.bool false) (_) T.u i H1 Y) (hb.mono (le_5.trans (hll2.trans (le_16.trans hll3)))) rfl hM (by omega) (fun i H1 H2 Y hle h => h.mono hle) TgI.start (fun i k v H1 Y L1 hi hle hI => ?_)) rfl (fun v_ H1 L1 le_27 hR_ => ?_)
   ·
    obtain ⟨s, h1, ⟨va, vc, rfl, hx⟩, h2, h3⟩ := hel i k v hi
    have hik := sortKv_lt hi
    exact TgI.step (fun {_ _ _ _ _ _ _ _ _ _ _ _ _ _ _ _} => tc_161) hf.v (by omega) h1 (hx.mono hle) h2 h3 hI
   rw [hlen] at hR_
   obtain ⟨_, rfl, aU, cU, NU, esU, rfl, hrU, heU, hgU⟩ := hR_
   refine splL ?_
   rw [List.take_length] at heU
   refine frL hrU (.tail .head) (fun HU hleU hzU => ?_)
   have hU := (TagsAt.told hzU hrU heU hfu (fun p hp => (hgU p hp).mono hleU)).1
   refine nl ?_
   refine sr ?_
   refine fa0 F37_4 rfl rfl ?_
   refine ld (Says.own .head) Tryz.isAgg35 rfl (Nat.zero_add _).symm rfl rfl ?_
   refine cl rfl rfl rfl (k_sorted hU (h3.mono (le_5.trans (hll2.trans (le_16.trans (hll3.trans (le_27.trans hleU)))))).rise) rfl (fun v_ H1 L1 hle_ hR_ => ?_)
   obtain ⟨rfl, rfl⟩ := hR_
   refine nl ?_
   refine sr ?_
   refine la (Says.own .head) Tryz.isAgg37 Tryz.sizeOf37 rfl (Nat.zero_add _).symm rfl rfl ?_
   refine sa Tryz.sizeOf37 rfl rfl rfl rfl rfl (.tail (.tail .head)) ?_
   refine nl ?_
   refine drW .head ?_
   refine frW (Row.whole (e := 37) (size := 5) (m := 4) (ds := [.int .i64 (IntKind.i32.wrap (T.at 0).n), .slice none 0 0, .bool false, .slice none 0 0, .slice none 0 0, .int .i64 (IntKind.i16.wrap (T.at 1).n), .slice none 0 0, .bool false, .slice none 0 0, .slice none 0 0, .int .i64 0, .slice none 0 0, .bool a2.isNone, .slice al2 ((lT (T.at 2)).map tl_AddPartitionsToTxnResponseTransaction).length cl2, .slice none 0 0, .int .i64 0, .slice none 0 0, .bool a3.isNone, .slice al3 ((lT (T.at 3)).map tl_AddPartitionsToTxnResponseTopic).length cl3, .slice none 0 0]) rfl (by unfold maxLen; omega)) .head (fun H9 hle9 hz9 => ?_)
   have hrb : H9.at b_2 0 [.int .i64 (IntKind.i32.wrap (T.at 0).n), .slice none 0 0, .bool false, .slice none 0 0, .slice none 0 0, .int .i64 (IntKind.i16.wrap (T.at 1).n), .slice none 0 0, .bool false, .slice none 0 0, .slice none 0 0, .int .i64 0, .slice none 0 0, .bool a2.isNone, .slice al2 ((lT (T.at 2)).map tl_AddPartitionsToTxnResponseTransaction).length cl2, .slice none 0 0, .int .i64 0, .slice none 0 0, .bool a3.isNone, .slice al3 ((lT (T.at 3)).map tl_AddPartitionsToTxnResponseTopic).length cl3, .slice none 0 0] := by
    rcases hz9 with ⟨h, _⟩ | ⟨g, h, h2⟩
    · cases h
    · cases h; exact h2
   rw [(h1).nul, (h2).nul] at hrb
   have hrb2 : H9.at b_2 0 (([((TC.none : TC), (Tr.mk (IntKind.i32.wrap (T.at 0).n) [] false [] [] : Tr)), ((TC.none : TC), (Tr.mk (IntKind.i16.wrap (T.at 1).n) [] false [] [] : Tr)), ((⟨none, 0, al2, cl2, none, 0⟩ : TC), (Tr.mk 0 [] (T.at 2).nul ((lT (T.at 2)).map tl_AddPartitionsToTxnResponseTransaction) [] : Tr)), ((⟨none, 0, al3, cl3, none, 0⟩ : TC), (Tr.mk 0 [] (T.at 3).nul ((lT (T.at 3)).map tl_AddPartitionsToTxnResponseTopic) [] : Tr))] : List EE).flatMap fun p => p.1.cells p.2) := by exact hrb
   have hl9 : TreesAt H9 (some ⟨b_2, 0, none⟩) 4 [(.mk (IntKind.i32.wrap (T.at 0).n) [] false [] []), (.mk (IntKind.i16.wrap (T.at 1).n) [] false [] []), (.mk 0 [] (T.at 2).nul ((lT (T.at 2)).map tl_AddPartitionsToTxnResponseTransaction) []), (.mk 0 [] (T.at 3).nul ((lT (T.at 3)).map tl_AddPartitionsToTxnResponseTopic) [])] := by
    refine TreesAt.row (es := [((TC.none : TC), (Tr.mk (IntKind.i32.wrap (T.at 0).n) [] false [] [] : Tr)), ((TC.none : TC), (Tr.mk (IntKind.i16.wrap (T.at 1).n) [] false [] [] : Tr)), ((⟨none, 0, al2, cl2, none, 0⟩ : TC), (Tr.mk 0 [] (T.at 2).nul ((lT (T.at 2)).map tl_AddPartitionsToTxnResponseTransaction) [] : Tr)), ((⟨none, 0, al3, cl3, none, 0⟩ : TC), (Tr.mk 0 [] (T.at 3).nul ((lT (T.at 3)).map tl_AddPartitionsToTxnResponseTopic) [] : Tr))]) (.inr ⟨_, rfl, hrb2⟩) rfl (Nat.le_refl _) (Nat.le_of_ble_eq_true rfl) ?_
    intro p hp
    simp only [List.mem_cons, List.not_mem_nil, or_false] at hp
    rcases hp with rfl | rfl | rfl | rfl
    · exact (.of (.nil _) (.nil _) (.nil _))
    · exact (.of (.nil _) (.nil _) (.nil _))
    · exact (.of (.nil _) (ht2.mono (le_16.trans (hll3.trans (le_27.trans (hleU.trans hle9))))) (.nil _))
    · exact (.of (.nil _) (ht3.mono (le_27.trans (hleU.trans hle9))) (.nil _))
   exact rC rfl Tryz.isAgg37 Tryz.sizeOf37 rfl .head rfl (le_5.trans (hll2.trans (le_16.trans (hll3.trans (le_27.trans (hleU.trans hle9)))))) (fun _ _ h => h) ⟨rfl, ⟨none, 0, some ⟨b_2, 0, none⟩, 4, aU, cU⟩, rfl, .of (.nil _) hl9 (hU.mono hle9)⟩
end Go.Sx

import Derived.Test.YthegbjcccjpbcaaGreatDoorBMetadataResponse
import Derived.Test.YthegbjcccjpbcaaGreatDoorTB
import Derived.KernelRfl
set_option linter.unusedVariables false
set_option linter.unusedSimpArgs false
set_option maxRecDepth 100000
set_option maxHeartbeats 20000000
namespace Go.Sx
open Go.Proofs
def tl_MetadataResponseBroker (T : Tr) : Tr := .mk 0 [] false [(.mk (IntKind.i32.wrap (T.at 0).n) [] false [] []), (.mk 0 (T.at 1).s false [] []), (.mk (IntKind.i32.wrap (T.at 2).n) [] false [] []), (.mk 0 (sT (T.at 3)) (T.at 3).nul [] [])] T.u
theorem te_MetadataResponseBroker {H : Fz} {L : Own} {b o : Nat} {cs : List Value} {T : Tr} (hb : H.at b o cs) (hA : At_MetadataResponseBroker H T cs) (hf : Fits T) :
  Fn Tryz.prog 34 [.pointer (some ⟨b, o, none⟩)] H L (fun v H' L' => L = L' ∧ ∃ c : TC, v = .agg (c.cells (tl_MetadataResponseBroker T)).toArray ∧ TreeAt H' c (tl_MetadataResponseBroker T)) := by
 obtain ⟨p3, mt, rfl, h1, h2⟩ := hA
 refine Fn.mk Tryz.call34 Tryz.func34 rfl Tryz.ntmps34 rfl ?_
 refine sr ?_
 refine al Tryz.zeroValue37 rfl rfl (fun b_1 => ?_)
 refine nl ?_
 refine sr ?_
 refine mkC (m := 4) (zs := [.int .i64 0, .slice none 0 0, .bool false, .slice none 0 0, .slice none 0 0]) Tryz.underlying34 I37 rfl rfl rfl rfl rfl rfl (by decide) (by unfold maxLen; omega) rfl (fun b_2 => ?_)
 refine bd' S37 rfl rfl rfl ?_
 refine al Tryz.zeroValue37 rfl rfl (fun b_3 => ?_)
 refine sa Tryz.sizeOf37 rfl rfl rfl rfl rfl .head ?_
 refine nl ?_
 refine sq ?_
 refine rgD 9 kp3 mixed ?_
 refine dU 0 rfl rfl rfl (y_fa0 F37_3 rfl) kp3 ler ?_
 refine dU 1 rfl rfl rfl (y_ld (Says.own .head) Tryz.isAgg34 rfl (Nat.zero_add _).symm rfl) kp3 ler ?_
 refine dU 2 rfl rfl rfl (y_mv rfl) kp3 ler ?_
 refine dU 3 rfl rfl rfl (y_nc rfl) kp3 ler ?_
 refine dU 4 rfl rfl rfl (y_fa F83_0 rfl) kp3 ler ?_
 refine dU 5 rfl rfl rfl (y_ld (j := 0) (Says.fz hb) Tryz.isAgg21 rfl (Nat.add_zero _).symm rfl) kp3 ler ?_
 refine dU 6 rfl rfl rfl (y_cv Tryz.runUnderlying21 Tryz.runUnderlying2 rfl (i32_64 _)) kp3 ler ?_
 refine dU 7 rfl rfl rfl (y_bd S37 rfl rfl) kp3 ler ?_
 refine dU 8 rfl rfl rfl (y_ix2 (j := 0) Tryz.runUnderlying34 Tryz.sizeOf37 rfl rfl rfl rfl (by decide)) kp3 ler ?_
 refine dE 9 (by kernel_rfl) rfl ?_
 refine sa Tryz.sizeOf37 rfl rfl rfl rfl rfl (.tail .head) ?_
 refine dNk (by kernel_rfl) ?_
 refine dD (by kernel_rfl) ?_
 refine Nt ?_
 refine sq ?_
 refine rgD 9 kp3 mixed ?_
 refine dU 0 rfl rfl rfl (y_fa0 F37_3 rfl) kp3 ler ?_
 refine dU 1 rfl rfl rfl (y_ld (Says.own .head) Tryz.isAgg34 rfl (Nat.zero_add _).symm rfl) kp3 ler ?_
 refine dU 2 rfl rfl rfl (y_mv rfl) kp3 ler ?_
 refine dU 3 rfl rfl rfl (y_nc rfl) kp3 ler ?_
 refine dU 4 rfl rfl rfl (y_fa F83_1 rfl) kp3 ler ?_
 refine dU 5 rfl rfl rfl (y_ld (j := 1) (Says.fz hb) Tryz.isAgg9 rfl rfl rfl) kp3 ler ?_
 refine dE 6 (by kernel_rfl) rfl ?_
 refine csb Tryz.underlying9 Tryz.underlying22 Tryz.underlying5 rfl (by have := (hf.at 1).s; unfold B47; omega) rfl (fun Hb21 b21 cp21 le_4 hb21 => ?_)
 refine dN kp3 le_4 ?_
 refine dU 7 rfl rfl rfl (y_bd S37 rfl rfl) kp3 le_4 ?_
 refine dU 8 rfl rfl rfl (y_ix2 (j := 1) Tryz.runUnderlying34 Tryz.sizeOf37 rfl rfl rfl rfl (by decide)) kp3 le_4 ?_
 refine dE 9 (by kernel_rfl) rfl ?_
 refine sa Tryz.sizeOf37 rfl rfl rfl rfl rfl (.tail .head) ?_
 refine dNk (by kernel_rfl) ?_
 refine dD (by kernel_rfl) ?_
 refine Nt ?_
 refine sq ?_
 refine rgD 9 kp3 mixed ?_
 refine dU 0 rfl rfl rfl (y_fa0 F37_3 rfl) kp3 ler ?_
 refine dU 1 rfl rfl rfl (y_ld (Says.own .head) Tryz.isAgg34 rfl (Nat.zero_add _).symm rfl) kp3 ler ?_
 refine dU 2 rfl rfl rfl (y_mv rfl) kp3 ler ?_
 refine dU 3 rfl rfl rfl (y_nc rfl) kp3 ler ?_
 refine dU 4 rfl rfl rfl (y_fa F83_2 rfl) kp3 ler ?_
 refine dU 5 rfl rfl rfl (y_ld (j := 2) (Says.fz (hb.mono le_4)) Tryz.isAgg21 rfl rfl rfl) kp3 ler ?_
 refine dU 6 rfl rfl rfl (y_cv Tryz.runUnderlying21 Tryz.runUnderlying2 rfl (i32_64 _)) kp3 ler ?_
 refine dU 7 rfl rfl rfl (y_bd S37 rfl rfl) kp3 ler ?_
 refine dU 8 rfl rfl rfl (y_ix2 (j := 2) Tryz.runUnderlying34 Tryz.sizeOf37 rfl rfl rfl rfl (by decide)) kp3 ler ?_
 refine dE 9 (by kernel_rfl) rfl ?_
 refine sa Tryz.sizeOf37 rfl rfl rfl rfl rfl (.tail .head) ?_
 refine dNk (by kernel_rfl) ?_
 refine dD (by kernel_rfl) ?_
 refine Nt ?_
 refine sq ?_
 refine rgD 8 kp3 mixed ?_
 refine dU 0 rfl rfl rfl (y_fa0 F37_3 rfl) kp3 ler ?_
 refine dU 1 rfl rfl rfl (y_ld (Says.own .head) Tryz.isAgg34 rfl (Nat.zero_add _).symm rfl) kp3 ler ?_
 refine dU 2 rfl rfl rfl (y_mv rfl) kp3 ler ?_
 refine dU 3 rfl rfl rfl (y_nc rfl) kp3 ler ?_
 refine dU 4 rfl rfl rfl (y_fa F83_3 rfl) kp3 ler ?_
 refine dU 5 rfl rfl rfl (y_ld (j := 3) (Says.fz (hb.mono le_4)) Tryz.isAgg72 rfl rfl rfl) kp3 ler ?_
 refine dE 6 (by kernel_rfl) rfl ?_
 refine cl rfl rfl rfl (k_textTree (h1.mono le_4) (hf.at 3)) rfl (fun v_ H1 L1 le_5 hR_ => ?_)
 obtain ⟨rfl, ct39, rfl, hT39⟩ := hR_
 refine dN kp3 le_5 ?_
 refine dU 7 rfl rfl rfl (y_ix2 (j := 3) Tryz.runUnderlying34 Tryz.sizeOf37 rfl rfl rfl rfl (by decide)) kp3 le_5 ?_
 refine dE 8 (by kernel_rfl) rfl ?_
 refine sa Tryz.sizeOf37 rfl rfl rfl rfl rfl (.tail .head) ?_
 refine dNk (by kernel_rfl) ?_
 refine dD (by kernel_rfl) ?_
 refine Nt ?_
 refine sr ?_
 refine mv rfl rfl ?_
 refine nc rfl rfl ?_
 refine fa F83_4 rfl rfl ?_
 refine mkf rfl rfl ?_
 have hkv_ := (h2.mono (le_4.trans le_5))
 obtain ⟨kvs, hM, hlen, hel⟩ := hkv_
 have hfu := hf.u
 refine cl rfl rfl rfl (t_each (j := 4) (I := fun i H1 Y => TgI 69 b_3 37 (.int .i64 0) (.slice none 0 0) (.bool false) (_) T.u i H1 Y) (hb.mono (le_4.trans le_5)) rfl hM (by omega) (fun i H1 H2 Y hle h => h.mono hle) TgI.start (fun i k v H1 Y L1 hi hle hI => ?_)) rfl (fun v_ H1 L1 le_7 hR_ => ?_)
 ·
  obtain ⟨s, h1, ⟨va, vc, rfl, hx⟩, h2, h3⟩ := hel i k v hi
  have hik := sortKv_lt hi
  exact TgI.step (fun {_ _ _ _ _ _ _ _ _ _ _ _ _ _ _ _} => tc_68) hf.v (by omega) h1 (hx.mono hle) h2 h3 hI
 rw [hlen] at hR_
 obtain ⟨_, rfl, aU, cU, NU, esU, rfl, hrU, heU, hgU⟩ := hR_
 refine splL ?_
 rw [List.take_length] at heU
 refine frL hrU (.tail .head) (fun HU hleU hzU => ?_)
 have hU := (TagsAt.told hzU hrU heU hfu (fun p hp => (hgU p hp).mono hleU)).1
 refine nl ?_
 refine sr ?_
 refine fa0 F37_4 rfl rfl ?_
 refine ld (Says.own .head) Tryz.isAgg35 rfl (Nat.zero_add _).symm rfl rfl ?_
 refine cl rfl rfl rfl (k_sorted hU (h2.mono (le_4.trans (le_5.trans (le_7.trans hleU)))).rise) rfl (fun v_ H1 L1 hle_ hR_ => ?_)
 obtain ⟨rfl, rfl⟩ := hR_
 refine nl ?_
 refine sr ?_
 refine la (Says.own .head) Tryz.isAgg37 Tryz.sizeOf37 rfl (Nat.zero_add _).symm rfl rfl ?_
 refine sa Tryz.sizeOf37 rfl rfl rfl rfl rfl (.tail (.tail .head)) ?_
 refine nl ?_
 refine drW .head ?_
 refine frW (Row.whole (e := 37) (size := 5) (m := 4) (ds := [.int .i64 (IntKind.i32.wrap (T.at 0).n), .slice none 0 0, .bool false, .slice none 0 0, .slice none 0 0, .int .i64 0, .slice (some ⟨b21, 0, none⟩) (T.at 1).s.length cp21, .bool false, .slice none 0 0, .slice none 0 0, .int .i64 (IntKind.i32.wrap (T.at 2).n), .slice none 0 0, .bool false, .slice none 0 0, .slice none 0 0, .int .i64 0, .slice ct39.sa (sT (T.at 3)).length ct39.sc, .bool (T.at 3).nul, .slice ct39.la 0 ct39.lc, .slice ct39.ua 0 ct39.uc]) rfl (by unfold maxLen; omega)) .head (fun H9 hle9 hz9 => ?_)
 have hrb : H9.at b_2 0 [.int .i64 (IntKind.i32.wrap (T.at 0).n), .slice none 0 0, .bool false, .slice none 0 0, .slice none 0 0, .int .i64 0, .slice (some ⟨b21, 0, none⟩) (T.at 1).s.length cp21, .bool false, .slice none 0 0, .slice none 0 0, .int .i64 (IntKind.i32.wrap (T.at 2).n), .slice none 0 0, .bool false, .slice none 0 0, .slice none 0 0, .int .i64 0, .slice ct39.sa (sT (T.at 3)).length ct39.sc, .bool (T.at 3).nul, .slice ct39.la 0 ct39.lc, .slice ct39.ua 0 ct39.uc] := by
  rcases hz9 with ⟨h, _⟩ | ⟨g, h, h2⟩
  · cases h
  · cases h; exact h2
 have hrb2 : H9.at b_2 0 (([((TC.none : TC), (Tr.mk (IntKind.i32.wrap (T.at 0).n) [] false [] [] : Tr)), ((⟨some ⟨b21, 0, none⟩, cp21, none, 0, none, 0⟩ : TC), (Tr.mk 0 (T.at 1).s false [] [] : Tr)), ((TC.none : TC), (Tr.mk (IntKind.i32.wrap (T.at 2).n) [] false [] [] : Tr)), ((ct39 : TC), (Tr.mk 0 (sT (T.at 3)) (T.at 3).nul [] [] : Tr))] : List EE).flatMap fun p => p.1.cells p.2) := by exact hrb
 have hl9 : TreesAt H9 (some ⟨b_2, 0, none⟩) 4 [(.mk (IntKind.i32.wrap (T.at 0).n) [] false [] []), (.mk 0 (T.at 1).s false [] []), (.mk (IntKind.i32.wrap (T.at 2).n) [] false [] []), (.mk 0 (sT (T.at 3)) (T.at 3).nul [] [])] := by
  refine TreesAt.row (es := [((TC.none : TC), (Tr.mk (IntKind.i32.wrap (T.at 0).n) [] false [] [] : Tr)), ((⟨some ⟨b21, 0, none⟩, cp21, none, 0, none, 0⟩ : TC), (Tr.mk 0 (T.at 1).s false [] [] : Tr)), ((TC.none : TC), (Tr.mk (IntKind.i32.wrap (T.at 2).n) [] false [] [] : Tr)), ((ct39 : TC), (Tr.mk 0 (sT (T.at 3)) (T.at 3).nul [] [] : Tr))]) (.inr ⟨_, rfl, hrb2⟩) rfl (Nat.le_refl _) (Nat.le_of_ble_eq_true rfl) ?_
  intro p hp
  simp only [List.mem_cons, List.not_mem_nil, or_false] at hp
  rcases hp with rfl | rfl | rfl | rfl
  · exact (.of (.nil _) (.nil _) (.nil _))
  · exact (.of (hb21.mono (le_5.trans (le_7.trans (hleU.trans hle9)))) (.nil _) (.nil _))
  · exact (.of (.nil _) (.nil _) (.nil _))
  · exact (hT39.mono (le_7.trans (hleU.trans hle9)))
 exact rC rfl Tryz.isAgg37 Tryz.sizeOf37 rfl .head rfl (le_4.trans (le_5.trans (le_7.trans (hleU.trans hle9)))) (fun _ _ h => h) ⟨rfl, ⟨none, 0, some ⟨b_2, 0, none⟩, 4, aU, cU⟩, rfl, .of (.nil _) hl9 (hU.mono hle9)⟩
def tl_MetadataResponseTopicPartition (T : Tr) : Tr := .mk 0 [] false [(.mk (IntKind.i16.wrap (T.at 0).n) [] false [] []), (.mk (IntKind.i32.wrap (T.at 1).n) [] false [] []), (.mk (IntKind.i32.wrap (T.at 2).n) [] false [] []), (.mk (IntKind.i32.wrap (T.at 3).n) [] false [] []), (.mk 0 [] (T.at 4).nul ((lT (T.at 4)).map (fun y : Tr => (Tr.mk (IntKind.i32.wrap y.n) [] false [] [] : Tr))) []), (.mk 0 [] (T.at 5).nul ((lT (T.at 5)).map (fun y : Tr => (Tr.mk (IntKind.i32.wrap y.n) [] false [] [] : Tr))) []), (.mk 0 [] (T.at 6).nul ((lT (T.at 6)).map (fun y : Tr => (Tr.mk (IntKind.i32.wrap y.n) [] false [] [] : Tr))) [])] T.u
theorem te_MetadataResponseTopicPartition {H : Fz} {L : Own} {b o : Nat} {cs : List Value} {T : Tr} (hb : H.at b o cs) (hA : At_MetadataResponseTopicPartition H T cs) (hf : Fits T) :
  Fn Tryz.prog 70 [.pointer (some ⟨b, o, none⟩)] H L (fun v H' L' => L = L' ∧ ∃ c : TC, v = .agg (c.cells (tl_MetadataResponseTopicPartition T)).toArray ∧ TreeAt H' c (tl_MetadataResponseTopicPartition T)) := by
 obtain ⟨a4, c4, a5, c5, a6, c6, mt, rfl, h1, h2, h3, h4⟩ := hA
 refine Fn.mk Tryz.call70 Tryz.func70 rfl Tryz.ntmps70 rfl ?_
 refine sr ?_
 refine al Tryz.zeroValue37 rfl rfl (fun b_1 => ?_)
 refine nl ?_
 refine sr ?_
 refine mkC (m := 7) (zs := [.int .i64 0, .slice none 0 0, .bool false, .slice none 0 0, .slice none 0 0]) Tryz.underlying34 I37 rfl rfl rfl rfl rfl rfl (by decide) (by unfold maxLen; omega) rfl (fun b_2 => ?_)
 refine bd' S37 rfl rfl rfl ?_
 refine al Tryz.zeroValue37 rfl rfl (fun b_3 => ?_)
 refine sa Tryz.sizeOf37 rfl rfl rfl rfl rfl .head ?_
 refine nl ?_
 refine sq ?_
 refine rgD 9 kp3 mixed ?_
 refine dU 0 rfl rfl rfl (y_fa0 F37_3 rfl) kp3 ler ?_
 refine dU 1 rfl rfl rfl (y_ld (Says.own .head) Tryz.isAgg34 rfl (Nat.zero_add _).symm rfl) kp3 ler ?_
 refine dU 2 rfl rfl rfl (y_mv rfl) kp3 ler ?_
 refine dU 3 rfl rfl rfl (y_nc rfl) kp3 ler ?_
 refine dU 4 rfl rfl rfl (y_fa F116_0 rfl) kp3 ler ?_
 refine dU 5 rfl rfl rfl (y_ld (j := 0) (Says.fz hb) Tryz.isAgg46 rfl (Nat.add_zero _).symm rfl) kp3 ler ?_
 refine dU 6 rfl rfl rfl (y_cv Tryz.runUnderlying46 Tryz.runUnderlying2 rfl (i16_64 _)) kp3 ler ?_
 refine dU 7 rfl rfl rfl (y_bd S37 rfl rfl) kp3 ler ?_
 refine dU 8 rfl rfl rfl (y_ix2 (j := 0) Tryz.runUnderlying34 Tryz.sizeOf37 rfl rfl rfl rfl (by decide)) kp3 ler ?_
 refine dE 9 (by kernel_rfl) rfl ?_
 refine sa Tryz.sizeOf37 rfl rfl rfl rfl rfl (.tail .head) ?_
 refine dNk (by kernel_rfl) ?_
 refine dD (by kernel_rfl) ?_
 refine Nt ?_
 refine sq ?_
 refine rgD 9 kp3 mixed ?_
 refine dU 0 rfl rfl rfl (y_fa0 F37_3 rfl) kp3 ler ?_
 refine dU 1 rfl rfl rfl (y_ld (Says.own .head) Tryz.isAgg34 rfl (Nat.zero_add _).symm rfl) kp3 ler ?_
 refine dU 2 rfl rfl rfl (y_mv rfl) kp3 ler ?_
 refine dU 3 rfl rfl rfl (y_nc rfl) kp3 ler ?_
 refine dU 4 rfl rfl rfl (y_fa F116_1 rfl) kp3 ler ?_
 refine dU 5 rfl rfl rfl (y_ld (j := 1) (Says.fz hb) Tryz.isAgg21 rfl rfl rfl) kp3 ler ?_
 refine dU 6 rfl rfl rfl (y_cv Tryz.runUnderlying21 Tryz.runUnderlying2 rfl (i32_64 _)) kp3 ler ?_
 refine dU 7 rfl rfl rfl (y_bd S37 rfl rfl) kp3 ler ?_
 refine dU 8 rfl rfl rfl (y_ix2 (j := 1) Tryz.runUnderlying34 Tryz.sizeOf37 rfl rfl rfl rfl (by decide)) kp3 ler ?_
 refine dE 9 (by kernel_rfl) rfl ?_
 refine sa Tryz.sizeOf37 rfl rfl rfl rfl rfl (.tail .head) ?_
 refine dNk (by kernel_rfl) ?_
 refine dD (by kernel_rfl) ?_
 refine Nt ?_
 refine sq ?_
 refine rgD 9 kp3 mixed ?_
 refine dU 0 rfl rfl rfl (y_fa0 F37_3 rfl) kp3 ler ?_
 refine dU 1 rfl rfl rfl (y_ld (Says.own .head) Tryz.isAgg34 rfl (Nat.zero_add _).symm rfl) kp3 ler ?_
 refine dU 2 rfl rfl rfl (y_mv rfl) kp3 ler ?_
 refine dU 3 rfl rfl rfl (y_nc rfl) kp3 ler ?_
 refine dU 4 rfl rfl rfl (y_fa F116_2 rfl) kp3 ler ?_
 refine dU 5 rfl rfl rfl (y_ld (j := 2) (Says.fz hb) Tryz.isAgg21 rfl rfl rfl) kp3 ler ?_
 refine dU 6 rfl rfl rfl (y_cv Tryz.runUnderlying21 Tryz.runUnderlying2 rfl (i32_64 _)) kp3 ler ?_
 refine dU 7 rfl rfl rfl (y_bd S37 rfl rfl) kp3 ler ?_
 refine dU 8 rfl rfl rfl (y_ix2 (j := 2) Tryz.runUnderlying34 Tryz.sizeOf37 rfl rfl rfl rfl (by decide)) kp3 ler ?_
 refine dE 9 (by kernel_rfl) rfl ?_
 refine sa Tryz.sizeOf37 rfl rfl rfl rfl rfl (.tail .head) ?_
 refine dNk (by kernel_rfl) ?_
 refine dD (by kernel_rfl) ?_
 refine Nt ?_
 refine sq ?_
 refine rgD 9 kp3 mixed ?_
 refine dU 0 rfl rfl rfl (y_fa0 F37_3 rfl) kp3 ler ?_
 refine dU 1 rfl rfl rfl (y_ld (Says.own .head) Tryz.isAgg34 rfl (Nat.zero_add _).symm rfl) kp3 ler ?_
 refine dU 2 rfl rfl rfl (y_mv rfl) kp3 ler ?_
 refine dU 3 rfl rfl rfl (y_nc rfl) kp3 ler ?_
 refine dU 4 rfl rfl rfl (y_fa F116_3 rfl) kp3 ler ?_
 refine dU 5 rfl rfl rfl (y_ld (j := 3) (Says.fz hb) Tryz.isAgg21 rfl rfl rfl) kp3 ler ?_
 refine dU 6 rfl rfl rfl (y_cv Tryz.runUnderlying21 Tryz.runUnderlying2 rfl (i32_64 _)) kp3 ler ?_
 refine dU 7 rfl rfl rfl (y_bd S37 rfl rfl) kp3 ler ?_
 refine dU 8 rfl rfl rfl (y_ix2 (j := 3) Tryz.runUnderlying34 Tryz.sizeOf37 rfl rfl rfl rfl (by decide)) kp3 ler ?_
 refine dE 9 (by kernel_rfl) rfl ?_
 refine sa Tryz.sizeOf37 rfl rfl rfl rfl rfl (.tail .head) ?_
 refine dNk (by kernel_rfl) ?_
 refine dD (by kernel_rfl) ?_
 refine Nt ?_
 refine sq ?_
 refine rgD 9 kp3 mixed ?_
 refine dU 0 rfl rfl rfl (y_fa0 F37_3 rfl) kp3 ler ?_
 refine dU 1 rfl rfl rfl (y_ld (Says.own .head) Tryz.isAgg34 rfl (Nat.zero_add _).symm rfl) kp3 ler ?_
 refine dU 2 rfl rfl rfl (y_mv rfl) kp3 ler ?_
 refine dU 3 rfl rfl rfl (y_nc rfl) kp3 ler ?_
 refine dU 4 rfl rfl rfl (y_fa F116_4 rfl) kp3 ler ?_
 refine dU 5 rfl rfl rfl (y_ld (j := 4) (Says.fz hb) Tryz.isAgg114 rfl rfl rfl) kp3 ler ?_
 refine dU 6 rfl rfl rfl (y_esn Tryz.underlying114 rfl) kp3 ler ?_
 refine dE 7 (by kernel_rfl) rfl ?_
 refine ixk (j := 4) Tryz.runUnderlying34 Tryz.sizeOf37 rfl rfl rfl rfl (by decide) rfl ?_
 refine dN kp3 ler ?_
 refine dU 8 rfl rfl rfl (y_fa F37_2 rfl) kp3 ler ?_
 refine dE 9 (by kernel_rfl) rfl ?_
 refine st Tryz.sizeOf4 rfl rfl rfl rfl (.tail .head) ?_
 refine dNk (by kernel_rfl) ?_
 refine dD (by kernel_rfl) ?_
 refine Nt ?_
 refine sq ?_
 refine sr ?_
 refine mv rfl rfl ?_
 refine nc rfl rfl ?_
 refine fa F116_4 rfl rfl ?_
 refine ld (Says.fz hb) Tryz.isAgg114 rfl rfl rfl rfl ?_
 refine ls Tryz.runUnderlying114 rfl rfl ?_
 refine mv rfl rfl ?_
 refine nl ?_
 have hlm4 := (hf.at 4).lTl
 refine nulC2 ?_
 refine fr ((lT (T.at 4)).length) (fun k4 l' H' L' => ∃ (al4 : Option Addr), ∃ (ml4 : Nat), ∃ (cl4 : Nat), ∃ (es4 : List EE), ∃ (Nl4 : Chunk), [(0, .pointer (some ⟨b, o, none⟩)), (2, .pointer (some ⟨b_1, 0, none⟩)), (3, .pointer (some ⟨b_3, 0, none⟩)), (58, .int .i64 ((lT (T.at 4)).length : Int))] = l' ∧ Nl4 :: [(b_3, .cells [.int .i64 0, .slice none 0 0, .bool false, _, .slice none 0 0].toArray 37 (0, 0))] :: [(b_2, .cells [.int .i64 (IntKind.i16.wrap (T.at 0).n), .slice none 0 0, .bool false, .slice none 0 0, .slice none 0 0, .int .i64 (IntKind.i32.wrap (T.at 1).n), .slice none 0 0, .bool false, .slice none 0 0, .slice none 0 0, .int .i64 (IntKind.i32.wrap (T.at 2).n), .slice none 0 0, .bool false, .slice none 0 0, .slice none 0 0, .int .i64 (IntKind.i32.wrap (T.at 3).n), .slice none 0 0, .bool false, .slice none 0 0, .slice none 0 0, .int .i64 0, .slice none 0 0, .bool a4.isNone, .slice al4 ml4 cl4, .slice none 0 0, .int .i64 0, .slice none 0 0, .bool false, .slice none 0 0, .slice none 0 0, .int .i64 0, .slice none 0 0, .bool false, .slice none 0 0, .slice none 0 0].toArray 37 (0, 0))] :: [(b_1, .cells [.int .i64 0, .slice none 0 0, .bool false, .slice none 0 0, .slice none 0 0].toArray 37 (0, 0))] :: L = L' ∧ Row 37 5 al4 ml4 cl4 (es4.flatMap f5) Nl4 ∧ ml4 = es4.length ∧ es4.map (·.2) = ((lT (T.at 4)).take k4).map (fun y : Tr => (Tr.mk (IntKind.i32.wrap y.n) [] false [] [] : Tr)) ∧ (∀ p : EE, p ∈ es4 → TreeAt H' p.1 p.2)) [(0, .pointer (some ⟨b, o, none⟩)), (2, .pointer (some ⟨b_1, 0, none⟩)), (3, .pointer (some ⟨b_3, 0, none⟩)), (58, .int .i64 ((lT (T.at 4)).length : Int))] (fun k4 l' H' L' h => ?_) (by omega) rfl (.of ⟨rfl, rfl, rfl, rfl, trivial⟩) ⟨none, 0, 0, [], [], rfl, rfl, (Row.nil _ _), rfl, (by simp), (fun p hp => by cases hp)⟩ rfl rfl rfl rfl rfl (fun k4 l' H' L' hk4 le_4 hI => ?_) (fun l' H' L' le_5 hI => ?_)
 · obtain ⟨al4, ml4, cl4, es4, Nl4, rfl, _⟩ := h; exact ⟨rfl, rfl, rfl, rfl⟩
 ·
  obtain ⟨al4, ml4, cl4, es4, Nl4, rfl, rfl, pk40, pk41, pk42, pk43⟩ := hI
  refine sr ?_
  refine mv rfl rfl ?_
  refine asg rfl rfl ?_
  refine nl ?_
  refine sq ?_
  refine rgD 4 .nil mixed ?_
  refine dE 0 (by kernel_rfl) rfl ?_
  refine al Tryz.zeroValue4 rfl rfl (fun b_6 => ?_)
  refine dN .nil ler ?_
  refine dE2 1 2 (by kernel_rfl) rfl rfl ?_ ?_
  ·
   refine st Tryz.sizeOf4 rfl rfl rfl rfl .head ?_
   refine dN .nil ler ?_
   refine dE 2 (by kernel_rfl) rfl ?_
   refine st Tryz.sizeOf4 rfl rfl rfl rfl .head ?_
   refine dN .nil ler ?_
   refine dE 3 (by kernel_rfl) rfl ?_
   refine ld (Says.own .head) Tryz.isAgg4 rfl (Nat.zero_add _).symm rfl rfl ?_
   refine dN .nil ler ?_
   refine dD (by kernel_rfl) ?_
   refine drN .head ?_
   refine Nt ?_
   refine cF rfl ?_
   refine rgD 20 (.skip (.keep (.keep (.keep .nil)))) mixed ?_
   refine dU 0 rfl rfl rfl (y_fa0 F37_3 rfl) (.skip (.keep (.keep (.keep .nil)))) ler ?_
   refine dU 1 rfl rfl rfl (y_ld (Says.own .head) Tryz.isAgg34 rfl (Nat.zero_add _).symm rfl) (.skip (.keep (.keep (.keep .nil)))) ler ?_
   refine dU 2 rfl rfl rfl (y_fa0 F37_3 rfl) (.skip (.keep (.keep (.keep .nil)))) ler ?_
   refine dU 3 rfl rfl rfl (y_ld (Says.own .head) Tryz.isAgg34 rfl (Nat.zero_add _).symm rfl) (.skip (.keep (.keep (.keep .nil)))) ler ?_
   refine dU 4 rfl rfl rfl (y_ix2 (j := 4) Tryz.runUnderlying34 Tryz.sizeOf37 rfl rfl rfl rfl (by decide)) (.skip (.keep (.keep (.keep .nil)))) ler ?_
   refine dU 5 rfl rfl rfl (y_fa F37_3 rfl) (.skip (.keep (.keep (.keep .nil)))) ler ?_
   refine dU 6 rfl rfl rfl (y_ld (Says.own (.tail .head)) Tryz.isAgg34 rfl (Nat.zero_add _).symm rfl) (.skip (.keep (.keep (.keep .nil)))) ler ?_
   refine dU 7 rfl rfl rfl (y_mv rfl) (.skip (.keep (.keep (.keep .nil)))) ler ?_
   refine dU 8 rfl rfl rfl (y_nc rfl) (.skip (.keep (.keep (.keep .nil)))) ler ?_
   refine dU 9 rfl rfl rfl (y_fa F116_4 rfl) (.skip (.keep (.keep (.keep .nil)))) ler ?_
   refine dU 10 rfl rfl rfl (y_ld (j := 4) (Says.fz (hb.mono le_4)) Tryz.isAgg114 rfl rfl rfl) (.skip (.keep (.keep (.keep .nil)))) ler ?_
   refine dU 11 rfl rfl rfl (y_mv rfl) (.skip (.keep (.keep (.keep .nil)))) ler ?_
   obtain ⟨beq_7, oeq_7, haq_7, hlq_7⟩ := ((h1.mono RI32.mono le_4)).rows.at_ (ne_nil_of_lt hk4)
   obtain ⟨ceq_7, hAq_7, hbq_7⟩ := hlq_7 k4 hk4
   obtain rfl : ceq_7 = [.int .i32 (IntKind.i32.wrap ((lT (T.at 4))[k4]).n)] := hAq_7
   refine dU 12 rfl rfl rfl (y_ixk (j := k4) Tryz.runUnderlying114 Tryz.sizeOf21 rfl haq_7 rfl rfl hk4) (.skip (.keep (.keep (.keep .nil)))) ler ?_
   refine dU 13 rfl rfl rfl (y_ld (Says.fz hbq_7) Tryz.isAgg21 rfl (Nat.add_zero _).symm rfl) (.skip (.keep (.keep (.keep .nil)))) ler ?_
   refine dU 14 rfl rfl rfl (y_cv Tryz.runUnderlying21 Tryz.runUnderlying2 rfl (i32_64 _)) (.skip (.keep (.keep (.keep .nil)))) ler ?_
   refine dU 15 rfl rfl rfl (y_bd S37 rfl rfl) (.skip (.keep (.keep (.keep .nil)))) ler ?_
   refine dE 16 (by kernel_rfl) rfl ?_
   refine bs' L34 rfl rfl rfl rfl (fun b_8 => ?_)
   refine dN (.skip (.skip (.keep (.keep (.keep .nil))))) ler ?_
   refine dE 17 (by kernel_rfl) rfl ?_
   have hmk : ml4 = k4 := by have h1 := congrArg List.length pk42; rw [List.length_map, List.length_map, List.length_take] at h1; omega
   have hmb := (hf.at 4).lTl
   refine ap (k := 1) (news := f5 (((TC.none : TC), (Tr.mk (IntKind.i32.wrap ((lT (T.at 4))[k4]).n) [] false [] [] : Tr)) : EE)) Tryz.underlying34 I37 rfl rfl pk40 (fun _ => (.tail .head)) (src_says Tryz.underlying34 rfl (fun _ => Says.own .head) (f5_one _)) (by omega) (by unfold maxLen; omega) rfl (fun a101 c101 N101 r101 z101 => ?_)
   rw [flatMap_snoc'] at r101
   refine dN (.skip (.skip (.keep (.keep (.keep .nil))))) ler ?_
   refine dE 18 (by kernel_rfl) rfl ?_
   refine ixk (j := 4) Tryz.runUnderlying34 Tryz.sizeOf37 rfl rfl rfl rfl (by decide) rfl ?_
   refine dN (.skip (.skip (.keep (.keep (.keep .nil))))) ler ?_
   refine dU 19 rfl rfl rfl (y_fa F37_3 rfl) (.skip (.skip (.keep (.keep (.keep .nil))))) ler ?_
   refine dE 20 (by kernel_rfl) rfl ?_
   refine st Tryz.sizeOf34 rfl rfl rfl rfl (.tail (.tail (.tail .head))) ?_
   refine dNk (by kernel_rfl) ?_
   refine dD (by kernel_rfl) ?_
   refine Nb ?_
   refine drN .head ?_
   refine fun a_ w_ hA hw => ⟨_, _, _, hA.sub ?_, le_4, hw, _, rfl, a101, (ml4 + 1), c101, (es4 ++ [(((TC.none : TC), (Tr.mk (IntKind.i32.wrap ((lT (T.at 4))[k4]).n) [] false [] [] : Tr)) : EE)]), N101, rfl, rfl, r101, (by simp; omega), (map_take_snoc (g := (fun y : Tr => (Tr.mk (IntKind.i32.wrap y.n) [] false [] [] : Tr))) hk4 pk42), (fun p hp => (mem_snoc hp).elim (fun h => (pk43 p h).mono ler) (fun h => h ▸ (.of (.nil _) (.nil _) (.nil _))))⟩
   exact (.of ⟨rfl, rfl, rfl, rfl, rfl, trivial⟩)
  ·
   refine st Tryz.sizeOf4 rfl rfl rfl rfl .head ?_
   refine dN .nil ler ?_
   refine dE 1 (by kernel_rfl) rfl ?_
   refine st Tryz.sizeOf4 rfl rfl rfl rfl .head ?_
   refine dN .nil ler ?_
   refine dE 3 (by kernel_rfl) rfl ?_
   refine ld (Says.own .head) Tryz.isAgg4 rfl (Nat.zero_add _).symm rfl rfl ?_
   refine dN .nil ler ?_
   refine dD (by kernel_rfl) ?_
   refine drN .head ?_
   refine Nt ?_
   refine cT rfl ?_
   refine sq ?_
   refine rgD 19 (.skip (.keep (.keep (.keep .nil)))) mixed ?_
   refine dU 0 rfl rfl rfl (y_fa0 F37_3 rfl) (.skip (.keep (.keep (.keep .nil)))) ler ?_
   refine dU 1 rfl rfl rfl (y_ld (Says.own .head) Tryz.isAgg34 rfl (Nat.zero_add _).symm rfl) (.skip (.keep (.keep (.keep .nil)))) ler ?_
   refine dU 2 rfl rfl rfl (y_ix2 (j := 4) Tryz.runUnderlying34 Tryz.sizeOf37 rfl rfl rfl rfl (by decide)) (.skip (.keep (.keep (.keep .nil)))) ler ?_
   refine dU 3 rfl rfl rfl (y_fa F37_3 rfl) (.skip (.keep (.keep (.keep .nil)))) ler ?_
   refine dU 4 rfl rfl rfl (y_ld (Says.own (.tail .head)) Tryz.isAgg34 rfl (Nat.zero_add _).symm rfl) (.skip (.keep (.keep (.keep .nil)))) ler ?_
   refine dU 5 rfl rfl rfl (y_mv rfl) (.skip (.keep (.keep (.keep .nil)))) ler ?_
   refine dU 6 rfl rfl rfl (y_nc rfl) (.skip (.keep (.keep (.keep .nil)))) ler ?_
   refine dU 7 rfl rfl rfl (y_fa F116_4 rfl) (.skip (.keep (.keep (.keep .nil)))) ler ?_
   refine dU 8 rfl rfl rfl (y_ld (j := 4) (Says.fz (hb.mono le_4)) Tryz.isAgg114 rfl rfl rfl) (.skip (.keep (.keep (.keep .nil)))) ler ?_
   refine dU 9 rfl rfl rfl (y_mv rfl) (.skip (.keep (.keep (.keep .nil)))) ler ?_
   obtain ⟨beq_9, oeq_9, haq_9, hlq_9⟩ := ((h1.mono RI32.mono le_4)).rows.at_ (ne_nil_of_lt hk4)
   obtain ⟨ceq_9, hAq_9, hbq_9⟩ := hlq_9 k4 hk4
   obtain rfl : ceq_9 = [.int .i32 (IntKind.i32.wrap ((lT (T.at 4))[k4]).n)] := hAq_9
   refine dU 10 rfl rfl rfl (y_ixk (j := k4) Tryz.runUnderlying114 Tryz.sizeOf21 rfl haq_9 rfl rfl hk4) (.skip (.keep (.keep (.keep .nil)))) ler ?_
   refine dU 11 rfl rfl rfl (y_ld (Says.fz hbq_9) Tryz.isAgg21 rfl (Nat.add_zero _).symm rfl) (.skip (.keep (.keep (.keep .nil)))) ler ?_
   refine dU 12 rfl rfl rfl (y_cv Tryz.runUnderlying21 Tryz.runUnderlying2 rfl (i32_64 _)) (.skip (.keep (.keep (.keep .nil)))) ler ?_
   refine dU 13 rfl rfl rfl (y_bd S37 rfl rfl) (.skip (.keep (.keep (.keep .nil)))) ler ?_
   refine dU 14 rfl rfl rfl (y_ls Tryz.runUnderlying34 rfl) (.skip (.keep (.keep (.keep .nil)))) ler ?_
   refine dE 15 (by kernel_rfl) rfl ?_
   refine bs' L34 rfl rfl rfl rfl (fun b_10 => ?_)
   refine dN (.skip (.skip (.keep (.keep (.keep .nil))))) ler ?_
   refine dE 16 (by kernel_rfl) rfl ?_
   have hmk : ml4 = k4 := by have h1 := congrArg List.length pk42; rw [List.length_map, List.length_map, List.length_take] at h1; omega
   have hmb := (hf.at 4).lTl
   refine ap (k := 1) (news := f5 ((TC.none, Tr.none) : EE)) Tryz.underlying34 I37 rfl rfl pk40 (fun _ => (.tail .head)) (src_says Tryz.underlying34 rfl (fun _ => Says.own .head) (f5_one _)) (by omega) (by unfold maxLen; omega) rfl (fun a80 c80 N80 r80 z80 => ?_)
   refine dN (.skip (.skip (.keep (.keep (.keep .nil))))) ler ?_
   refine dE 17 (by kernel_rfl) rfl ?_
   refine ixk (j := 4) Tryz.runUnderlying34 Tryz.sizeOf37 rfl rfl rfl rfl (by decide) rfl ?_
   refine dN (.skip (.skip (.keep (.keep (.keep .nil))))) ler ?_
   refine dU 18 rfl rfl rfl (y_fa F37_3 rfl) (.skip (.skip (.keep (.keep (.keep .nil))))) ler ?_
   refine dE 19 (by kernel_rfl) rfl ?_
   refine st Tryz.sizeOf34 rfl rfl rfl rfl (.tail (.tail (.tail .head))) ?_
   refine dNk (by kernel_rfl) ?_
   refine dD (by kernel_rfl) ?_
   refine Nt ?_
   refine rg ?_
   obtain ⟨gg80, hgg80⟩ := r80.addr (by omega)
   refine ixk (j := ml4) Tryz.runUnderlying34 Tryz.sizeOf37 rfl hgg80 rfl rfl (by omega) rfl ?_
   refine sR (ds := f5 (((TC.none : TC), (Tr.mk (IntKind.i32.wrap ((lT (T.at 4))[k4]).n) [] false [] [] : Tr)) : EE)) r80 hgg80 (fun _ => (.tail .head)) Tryz.sizeOf37 rfl rfl rfl rfl (by omega) (fun N80b r80b => ?_)
   rw [row_put (k := 5) (m := ml4) (A := es4.flatMap f5) (by rw [flatMap_len f5 5 f5_len, pk41]) rfl, flatMap_snoc'] at r80b
   refine nN ?_
   refine Nb ?_
   refine drN .head ?_
   refine fun a_ w_ hA hw => ⟨_, _, _, hA.sub ?_, le_4, hw, _, rfl, a80, (ml4 + 1), c80, (es4 ++ [(((TC.none : TC), (Tr.mk (IntKind.i32.wrap ((lT (T.at 4))[k4]).n) [] false [] [] : Tr)) : EE)]), N80b, rfl, rfl, r80b, (by simp; omega), (map_take_snoc (g := (fun y : Tr => (Tr.mk (IntKind.i32.wrap y.n) [] false [] [] : Tr))) hk4 pk42), (fun p hp => (mem_snoc hp).elim (fun h => (pk43 p h).mono ler) (fun h => h ▸ (.of (.nil _) (.nil _) (.nil _))))⟩
   exact (.of ⟨rfl, rfl, rfl, rfl, rfl, trivial⟩)
 ·
  obtain ⟨al4, ml4, cl4, es4, Nl4, rfl, rfl, pk40, pk41, pk42, pk43⟩ := hI
  refine toWp ?_
  have hes4 : es4.map (·.2) = (lT (T.at 4)).map (fun y : Tr => (Tr.mk (IntKind.i32.wrap y.n) [] false [] [] : Tr)) := by rw [pk42, List.take_length]
  have hm4 : ml4 = ((lT (T.at 4)).map (fun y : Tr => (Tr.mk (IntKind.i32.wrap y.n) [] false [] [] : Tr))).length := by rw [← hes4, List.length_map]; exact pk41
  refine frW pk40 .head (fun Hl4 hll4 hzl4 => ?_)
  have ht4 := TreesAt.row hzl4 pk41 pk40.le.1 (by have h1 := congrArg List.length hes4; rw [List.length_map, List.length_map] at h1; unfold B47; omega) (fun p hp => (pk43 p hp).mono hll4)
  rw [hes4] at ht4
  subst hm4
  refine sq ?_
  refine rgD 9 kp3 mixed ?_
  refine dU 0 rfl rfl rfl (y_fa0 F37_3 rfl) kp3 ler ?_
  refine dU 1 rfl rfl rfl (y_ld (Says.own .head) Tryz.isAgg34 rfl (Nat.zero_add _).symm rfl) kp3 ler ?_
  refine dU 2 rfl rfl rfl (y_mv rfl) kp3 ler ?_
  refine dU 3 rfl rfl rfl (y_nc rfl) kp3 ler ?_
  refine dU 4 rfl rfl rfl (y_fa F116_5 rfl) kp3 ler ?_
  refine dU 5 rfl rfl rfl (y_ld (j := 5) (Says.fz (hb.mono (le_5.trans hll4))) Tryz.isAgg114 rfl rfl rfl) kp3 ler ?_
  refine dU 6 rfl rfl rfl (y_esn Tryz.underlying114 rfl) kp3 ler ?_
  refine dE 7 (by kernel_rfl) rfl ?_
  refine ixk (j := 5) Tryz.runUnderlying34 Tryz.sizeOf37 rfl rfl rfl rfl (by decide) rfl ?_
  refine dN kp3 ler ?_
  refine dU 8 rfl rfl rfl (y_fa F37_2 rfl) kp3 ler ?_
  refine dE 9 (by kernel_rfl) rfl ?_
  refine st Tryz.sizeOf4 rfl rfl rfl rfl (.tail .head) ?_
  refine dNk (by kernel_rfl) ?_
  refine dD (by kernel_rfl) ?_
  refine Nt ?_
  refine sq ?_
  refine sr ?_
  refine mv rfl rfl ?_
  refine nc rfl rfl ?_
  refine fa F116_5 rfl rfl ?_
  refine ld (Says.fz (hb.mono (le_5.trans hll4))) Tryz.isAgg114 rfl rfl rfl rfl ?_
  refine ls Tryz.runUnderlying114 rfl rfl ?_
  refine mv rfl rfl ?_
  refine nl ?_
  have hlm5 := (hf.at 5).lTl
  refine nulC2 ?_
  refine fr ((lT (T.at 5)).length) (fun k5 l' H' L' => ∃ (al5 : Option Addr), ∃ (ml5 : Nat), ∃ (cl5 : Nat), ∃ (es5 : List EE), ∃ (Nl5 : Chunk), [(0, .pointer (some ⟨b, o, none⟩)), (2, .pointer (some ⟨b_1, 0, none⟩)), (3, .pointer (some ⟨b_3, 0, none⟩)), (118, .int .i64 ((lT (T.at 5)).length : Int))] = l' ∧ Nl5 :: [(b_3, .cells [.int .i64 0, .slice none 0 0, .bool false, _, .slice none 0 0].toArray 37 (0, 0))] :: [(b_2, .cells [.int .i64 (IntKind.i16.wrap (T.at 0).n), .slice none 0 0, .bool false, .slice none 0 0, .slice none 0 0, .int .i64 (IntKind.i32.wrap (T.at 1).n), .slice none 0 0, .bool false, .slice none 0 0, .slice none 0 0, .int .i64 (IntKind.i32.wrap (T.at 2).n), .slice none 0 0, .bool false, .slice none 0 0, .slice none 0 0, .int .i64 (IntKind.i32.wrap (T.at 3).n), .slice none 0 0, .bool false, .slice none 0 0, .slice none 0 0, .int .i64 0, .slice none 0 0, .bool a4.isNone, .slice al4 ((lT (T.at 4)).map (fun y : Tr => (Tr.mk (IntKind.i32.wrap y.n) [] false [] [] : Tr))).length cl4, .slice none 0 0, .int .i64 0, .slice none 0 0, .bool a5.isNone, .slice al5 ml5 cl5, .slice none 0 0, .int .i64 0, .slice none 0 0, .bool false, .slice none 0 0, .slice none 0 0].toArray 37 (0, 0))] :: [(b_1, .cells [.int .i64 0, .slice none 0 0, .bool false, .slice none 0 0, .slice none 0 0].toArray 37 (0, 0))] :: L = L' ∧ Row 37 5 al5 ml5 cl5 (es5.flatMap f5) Nl5 ∧ ml5 = es5.length ∧ es5.map (·.2) = ((lT (T.at 5)).take k5).map (fun y : Tr => (Tr.mk (IntKind.i32.wrap y.n) [] false [] [] : Tr)) ∧ (∀ p : EE, p ∈ es5 → TreeAt H' p.1 p.2)) [(0, .pointer (some ⟨b, o, none⟩)), (2, .pointer (some ⟨b_1, 0, none⟩)), (3, .pointer (some ⟨b_3, 0, none⟩)), (118, .int .i64 ((lT (T.at 5)).length : Int))] (fun k5 l' H' L' h => ?_) (by omega) rfl (.of ⟨rfl, rfl, rfl, rfl, trivial⟩) ⟨none, 0, 0, [], [], rfl, rfl, (Row.nil _ _), rfl, (by simp), (fun p hp => by cases hp)⟩ rfl rfl rfl rfl rfl (fun k5 l' H' L' hk5 le_11 hI => ?_) (fun l' H' L' le_12 hI => ?_)
  · obtain ⟨al5, ml5, cl5, es5, Nl5, rfl, _⟩ := h; exact ⟨rfl, rfl, rfl, rfl⟩
  ·
   obtain ⟨al5, ml5, cl5, es5, Nl5, rfl, rfl, pk50, pk51, pk52, pk53⟩ := hI
   refine sr ?_
   refine mv rfl rfl ?_
   refine asg rfl rfl ?_
   refine nl ?_
   refine sq ?_
   refine rgD 4 .nil mixed ?_
   refine dE 0 (by kernel_rfl) rfl ?_
   refine al Tryz.zeroValue4 rfl rfl (fun b_13 => ?_)
   refine dN .nil ler ?_
   refine dE2 1 2 (by kernel_rfl) rfl rfl ?_ ?_
   ·
    refine st Tryz.sizeOf4 rfl rfl rfl rfl .head ?_
    refine dN .nil ler ?_
    refine dE 2 (by kernel_rfl) rfl ?_
    refine st Tryz.sizeOf4 rfl rfl rfl rfl .head ?_
    refine dN .nil ler ?_
    refine dE 3 (by kernel_rfl) rfl ?_
    refine ld (Says.own .head) Tryz.isAgg4 rfl (Nat.zero_add _).symm rfl rfl ?_
    refine dN .nil ler ?_
    refine dD (by kernel_rfl) ?_
    refine drN .head ?_
    refine Nt ?_
    refine cF rfl ?_
    refine rgD 20 (.skip (.keep (.keep (.keep .nil)))) mixed ?_
    refine dU 0 rfl rfl rfl (y_fa0 F37_3 rfl) (.skip (.keep (.keep (.keep .nil)))) ler ?_
    refine dU 1 rfl rfl rfl (y_ld (Says.own .head) Tryz.isAgg34 rfl (Nat.zero_add _).symm rfl) (.skip (.keep (.keep (.keep .nil)))) ler ?_
    refine dU 2 rfl rfl rfl (y_fa0 F37_3 rfl) (.skip (.keep (.keep (.keep .nil)))) ler ?_
    refine dU 3 rfl rfl rfl (y_ld (Says.own .head) Tryz.isAgg34 rfl (Nat.zero_add _).symm rfl) (.skip (.keep (.keep (.keep .nil)))) ler ?_
    refine dU 4 rfl rfl rfl (y_ix2 (j := 5) Tryz.runUnderlying34 Tryz.sizeOf37 rfl rfl rfl rfl (by decide)) (.skip (.keep (.keep (.keep .nil)))) ler ?_
    refine dU 5 rfl rfl rfl (y_fa F37_3 rfl) (.skip (.keep (.keep (.keep .nil)))) ler ?_
    refine dU 6 rfl rfl rfl (y_ld (Says.own (.tail .head)) Tryz.isAgg34 rfl (Nat.zero_add _).symm rfl) (.skip (.keep (.keep (.keep .nil)))) ler ?_
    refine dU 7 rfl rfl rfl (y_mv rfl) (.skip (.keep (.keep (.keep .nil)))) ler ?_
    refine dU 8 rfl rfl rfl (y_nc rfl) (.skip (.keep (.keep (.keep .nil)))) ler ?_
    refine dU 9 rfl rfl rfl (y_fa F116_5 rfl) (.skip (.keep (.keep (.keep .nil)))) ler ?_
    refine dU 10 rfl rfl rfl (y_ld (j := 5) (Says.fz (hb.mono (le_5.trans (hll4.trans le_11)))) Tryz.isAgg114 rfl rfl rfl) (.skip (.keep (.keep (.keep .nil)))) ler ?_
    refine dU 11 rfl rfl rfl (y_mv rfl) (.skip (.keep (.keep (.keep .nil)))) ler ?_
    obtain ⟨beq_14, oeq_14, haq_14, hlq_14⟩ := ((h2.mono RI32.mono (le_5.trans (hll4.trans le_11)))).rows.at_ (ne_nil_of_lt hk5)
    obtain ⟨ceq_14, hAq_14, hbq_14⟩ := hlq_14 k5 hk5
    obtain rfl : ceq_14 = [.int .i32 (IntKind.i32.wrap ((lT (T.at 5))[k5]).n)] := hAq_14
    refine dU 12 rfl rfl rfl (y_ixk (j := k5) Tryz.runUnderlying114 Tryz.sizeOf21 rfl haq_14 rfl rfl hk5) (.skip (.keep (.keep (.keep .nil)))) ler ?_
    refine dU 13 rfl rfl rfl (y_ld (Says.fz hbq_14) Tryz.isAgg21 rfl (Nat.add_zero _).symm rfl) (.skip (.keep (.keep (.keep .nil)))) ler ?_
    refine dU 14 rfl rfl rfl (y_cv Tryz.runUnderlying21 Tryz.runUnderlying2 rfl (i32_64 _)) (.skip (.keep (.keep (.keep .nil)))) ler ?_
    refine dU 15 rfl rfl rfl (y_bd S37 rfl rfl) (.skip (.keep (.keep (.keep .nil)))) ler ?_
    refine dE 16 (by kernel_rfl) rfl ?_
    refine bs' L34 rfl rfl rfl rfl (fun b_15 => ?_)
    refine dN (.skip (.skip (.keep (.keep (.keep .nil))))) ler ?_
    refine dE 17 (by kernel_rfl) rfl ?_
    have hmk : ml5 = k5 := by have h1 := congrArg List.length pk52; rw [List.length_map, List.length_map, List.length_take] at h1; omega
    have hmb := (hf.at 5).lTl
    refine ap (k := 1) (news := f5 (((TC.none : TC), (Tr.mk (IntKind.i32.wrap ((lT (T.at 5))[k5]).n) [] false [] [] : Tr)) : EE)) Tryz.underlying34 I37 rfl rfl pk50 (fun _ => (.tail .head)) (src_says Tryz.underlying34 rfl (fun _ => Says.own .head) (f5_one _)) (by omega) (by unfold maxLen; omega) rfl (fun a161 c161 N161 r161 z161 => ?_)
    rw [flatMap_snoc'] at r161
    refine dN (.skip (.skip (.keep (.keep (.keep .nil))))) ler ?_
    refine dE 18 (by kernel_rfl) rfl ?_
    refine ixk (j := 5) Tryz.runUnderlying34 Tryz.sizeOf37 rfl rfl rfl rfl (by decide) rfl ?_
    refine dN (.skip (.skip (.keep (.keep (.keep .nil))))) ler ?_
    refine dU 19 rfl rfl rfl (y_fa F37_3 rfl) (.skip (.skip (.keep (.keep (.keep .nil))))) ler ?_
    refine dE 20 (by kernel_rfl) rfl ?_
    refine st Tryz.sizeOf34 rfl rfl rfl rfl (.tail (.tail (.tail .head))) ?_
    refine dNk (by kernel_rfl) ?_
    refine dD (by kernel_rfl) ?_
    refine Nb ?_
    refine drN .head ?_
    refine fun a_ w_ hA hw => ⟨_, _, _, hA.sub ?_, le_11, hw, _, rfl, a161, (ml5 + 1), c161, (es5 ++ [(((TC.none : TC), (Tr.mk (IntKind.i32.wrap ((lT (T.at 5))[k5]).n) [] false [] [] : Tr)) : EE)]), N161, rfl, rfl, r161, (by simp; omega), (map_take_snoc (g := (fun y : Tr => (Tr.mk (IntKind.i32.wrap y.n) [] false [] [] : Tr))) hk5 pk52), (fun p hp => (mem_snoc hp).elim (fun h => (pk53 p h).mono ler) (fun h => h ▸ (.of (.nil _) (.nil _) (.nil _))))⟩
    exact (.of ⟨rfl, rfl, rfl, rfl, rfl, trivial⟩)
   ·
    refine st Tryz.sizeOf4 rfl rfl rfl rfl .head ?_
    refine dN .nil ler ?_
    refine dE 1 (by kernel_rfl) rfl ?_
    refine st Tryz.sizeOf4 rfl rfl rfl rfl .head ?_
    refine dN .nil ler ?_
    refine dE 3 (by kernel_rfl) rfl ?_
    refine ld (Says.own .head) Tryz.isAgg4 rfl (Nat.zero_add _).symm rfl rfl ?_
    refine dN .nil ler ?_
    refine dD (by kernel_rfl) ?_
    refine drN .head ?_
    refine Nt ?_
    refine cT rfl ?_
    refine sq ?_
    refine rgD 19 (.skip (.keep (.keep (.keep .nil)))) mixed ?_
    refine dU 0 rfl rfl rfl (y_fa0 F37_3 rfl) (.skip (.keep (.keep (.keep .nil)))) ler ?_
    refine dU 1 rfl rfl rfl (y_ld (Says.own .head) Tryz.isAgg34 rfl (Nat.zero_add _).symm rfl) (.skip (.keep (.keep (.keep .nil)))) ler ?_
    refine dU 2 rfl rfl rfl (y_ix2 (j := 5) Tryz.runUnderlying34 Tryz.sizeOf37 rfl rfl rfl rfl (by decide)) (.skip (.keep (.keep (.keep .nil)))) ler ?_
    refine dU 3 rfl rfl rfl (y_fa F37_3 rfl) (.skip (.keep (.keep (.keep .nil)))) ler ?_
    refine dU 4 rfl rfl rfl (y_ld (Says.own (.tail .head)) Tryz.isAgg34 rfl (Nat.zero_add _).symm rfl) (.skip (.keep (.keep (.keep .nil)))) ler ?_
    refine dU 5 rfl rfl rfl (y_mv rfl) (.skip (.keep (.keep (.keep .nil)))) ler ?_
    refine dU 6 rfl rfl rfl (y_nc rfl) (.skip (.keep (.keep (.keep .nil)))) ler ?_
    refine dU 7 rfl rfl rfl (y_fa F116_5 rfl) (.skip (.keep (.keep (.keep .nil)))) ler ?_
    refine dU 8 rfl rfl rfl (y_ld (j := 5) (Says.fz (hb.mono (le_5.trans (hll4.trans le_11)))) Tryz.isAgg114 rfl rfl rfl) (.skip (.keep (.keep (.keep .nil)))) ler ?_
    refine dU 9 rfl rfl rfl (y_mv rfl) (.skip (.keep (.keep (.keep .nil)))) ler ?_
    obtain ⟨beq_16, oeq_16, haq_16, hlq_16⟩ := ((h2.mono RI32.mono (le_5.trans (hll4.trans le_11)))).rows.at_ (ne_nil_of_lt hk5)
    obtain ⟨ceq_16, hAq_16, hbq_16⟩ := hlq_16 k5 hk5
    obtain rfl : ceq_16 = [.int .i32 (IntKind.i32.wrap ((lT (T.at 5))[k5]).n)] := hAq_16
    refine dU 10 rfl rfl rfl (y_ixk (j := k5) Tryz.runUnderlying114 Tryz.sizeOf21 rfl haq_16 rfl rfl hk5) (.skip (.keep (.keep (.keep .nil)))) ler ?_
    refine dU 11 rfl rfl rfl (y_ld (Says.fz hbq_16) Tryz.isAgg21 rfl (Nat.add_zero _).symm rfl) (.skip (.keep (.keep (.keep .nil)))) ler ?_
    refine dU 12 rfl rfl rfl (y_cv Tryz.runUnderlying21 Tryz.runUnderlying2 rfl (i32_64 _)) (.skip (.keep (.keep (.keep .nil)))) ler ?_
    refine dU 13 rfl rfl rfl (y_bd S37 rfl rfl) (.skip (.keep (.keep (.keep .nil)))) ler ?_
    refine dU 14 rfl rfl rfl (y_ls Tryz.runUnderlying34 rfl) (.skip (.keep (.keep (.keep .nil)))) ler ?_
    refine dE 15 (by kernel_rfl) rfl ?_
    refine bs' L34 rfl rfl rfl rfl (fun b_17 => ?_)
    refine dN (.skip (.skip (.keep (.keep (.keep .nil))))) ler ?_
    refine dE 16 (by kernel_rfl) rfl ?_
    have hmk : ml5 = k5 := by have h1 := congrArg List.length pk52; rw [List.length_map, List.length_map, List.length_take] at h1; omega
    have hmb := (hf.at 5).lTl
    refine ap (k := 1) (news := f5 ((TC.none, Tr.none) : EE)) Tryz.underlying34 I37 rfl rfl pk50 (fun _ => (.tail .head)) (src_says Tryz.underlying34 rfl (fun _ => Says.own .head) (f5_one _)) (by omega) (by unfold maxLen; omega) rfl (fun a140 c140 N140 r140 z140 => ?_)
    refine dN (.skip (.skip (.keep (.keep (.keep .nil))))) ler ?_
    refine dE 17 (by kernel_rfl) rfl ?_
    refine ixk (j := 5) Tryz.runUnderlying34 Tryz.sizeOf37 rfl rfl rfl rfl (by decide) rfl ?_
    refine dN (.skip (.skip (.keep (.keep (.keep .nil))))) ler ?_
    refine dU 18 rfl rfl rfl (y_fa F37_3 rfl) (.skip (.skip (.keep (.keep (.keep .nil))))) ler ?_
    refine dE 19 (by kernel_rfl) rfl ?_
    refine st Tryz.sizeOf34 rfl rfl rfl rfl (.tail (.tail (.tail .head))) ?_
    refine dNk (by kernel_rfl) ?_
    refine dD (by kernel_rfl) ?_
    refine Nt ?_
    refine rg ?_
    obtain ⟨gg140, hgg140⟩ := r140.addr (by omega)
    refine ixk (j := ml5) Tryz.runUnderlying34 Tryz.sizeOf37 rfl hgg140 rfl rfl (by omega) rfl ?_
    refine sR (ds := f5 (((TC.none : TC), (Tr.mk (IntKind.i32.wrap ((lT (T.at 5))[k5]).n) [] false [] [] : Tr)) : EE)) r140 hgg140 (fun _ => (.tail .head)) Tryz.sizeOf37 rfl rfl rfl rfl (by omega) (fun N140b r140b => ?_)
    rw [row_put (k := 5) (m := ml5) (A := es5.flatMap f5) (by rw [flatMap_len f5 5 f5_len, pk51]) rfl, flatMap_snoc'] at r140b
    refine nN ?_
    refine Nb ?_
    refine drN .head ?_
    refine fun a_ w_ hA hw => ⟨_, _, _, hA.sub ?_, le_11, hw, _, rfl, a140, (ml5 + 1), c140, (es5 ++ [(((TC.none : TC), (Tr.mk (IntKind.i32.wrap ((lT (T.at 5))[k5]).n) [] false [] [] : Tr)) : EE)]), N140b, rfl, rfl, r140b, (by simp; omega), (map_take_snoc (g := (fun y : Tr => (Tr.mk (IntKind.i32.wrap y.n) [] false [] [] : Tr))) hk5 pk52), (fun p hp => (mem_snoc hp).elim (fun h => (pk53 p h).mono ler) (fun h => h ▸ (.of (.nil _) (.nil _) (.nil _))))⟩
    exact (.of ⟨rfl, rfl, rfl, rfl, rfl, trivial⟩)
  ·
   obtain ⟨al5, ml5, cl5, es5, Nl5, rfl, rfl, pk50, pk51, pk52, pk53⟩ := hI
   refine toWp ?_
   have hes5 : es5.map (·.2) = (lT (T.at 5)).map (fun y : Tr => (Tr.mk (IntKind.i32.wrap y.n) [] false [] [] : Tr)) := by rw [pk52, List.take_length]
   have hm5 : ml5 = ((lT (T.at 5)).map (fun y : Tr => (Tr.mk (IntKind.i32.wrap y.n) [] false [] [] : Tr))).length := by rw [← hes5, List.length_map]; exact pk51
   refine frW pk50 .head (fun Hl5 hll5 hzl5 => ?_)
   have ht5 := TreesAt.row hzl5 pk51 pk50.le.1 (by have h1 := congrArg List.length hes5; rw [List.length_map, List.length_map] at h1; unfold B47; omega) (fun p hp => (pk53 p hp).mono hll5)
   rw [hes5] at ht5
   subst hm5
   refine sq ?_
   refine rgD 9 kp3 mixed ?_
   refine dU 0 rfl rfl rfl (y_fa0 F37_3 rfl) kp3 ler ?_
   refine dU 1 rfl rfl rfl (y_ld (Says.own .head) Tryz.isAgg34 rfl (Nat.zero_add _).symm rfl) kp3 ler ?_
   refine dU 2 rfl rfl rfl (y_mv rfl) kp3 ler ?_
   refine dU 3 rfl rfl rfl (y_nc rfl) kp3 ler ?_
   refine dU 4 rfl rfl rfl (y_fa F116_6 rfl) kp3 ler ?_
   refine dU 5 rfl rfl rfl (y_ld (j := 6) (Says.fz (hb.mono (le_5.trans (hll4.trans (le_12.trans hll5))))) Tryz.isAgg114 rfl rfl rfl) kp3 ler ?_
   refine dU 6 rfl rfl rfl (y_esn Tryz.underlying114 rfl) kp3 ler ?_
   refine dE 7 (by kernel_rfl) rfl ?_
   refine ixk (j := 6) Tryz.runUnderlying34 Tryz.sizeOf37 rfl rfl rfl rfl (by decide) rfl ?_
   refine dN kp3 ler ?_
   refine dU 8 rfl rfl rfl (y_fa F37_2 rfl) kp3 ler ?_
   refine dE 9 (by kernel_rfl) rfl ?_
   refine st Tryz.sizeOf4 rfl rfl rfl rfl (.tail .head) ?_
   refine dNk (by kernel_rfl) ?_
   refine dD (by kernel_rfl) ?_
   refine Nt ?_
   refine sq ?_
   refine sr ?_
   refine mv rfl rfl ?_
   refine nc rfl rfl ?_
   refine fa F116_6 rfl rfl ?_
   refine ld (Says.fz (hb.mono (le_5.trans (hll4.trans (le_12.trans hll5))))) Tryz.isAgg114 rfl rfl rfl rfl ?_
   refine ls Tryz.runUnderlying114 rfl rfl ?_
   refine mv rfl rfl ?_
   refine nl ?_
   have hlm6 := (hf.at 6).lTl
   refine nulC2 ?_
   refine fr ((lT (T.at 6)).length) (fun k6 l' H' L' => ∃ (al6 : Option Addr), ∃ (ml6 : Nat), ∃ (cl6 : Nat), ∃ (es6 : List EE), ∃ (Nl6 : Chunk), [(0, .pointer (some ⟨b, o, none⟩)), (2, .pointer (some ⟨b_1, 0, none⟩)), (3, .pointer (some ⟨b_3, 0, none⟩)), (178, .int .i64 ((lT (T.at 6)).length : Int))] = l' ∧ Nl6 :: [(b_3, .cells [.int .i64 0, .slice none 0 0, .bool false, _, .slice none 0 0].toArray 37 (0, 0))] :: [(b_2, .cells [.int .i64 (IntKind.i16.wrap (T.at 0).n), .slice none 0 0, .bool false, .slice none 0 0, .slice none 0 0, .int .i64 (IntKind.i32.wrap (T.at 1).n), .slice none 0 0, .bool false, .slice none 0 0, .slice none 0 0, .int .i64 (IntKind.i32.wrap (T.at 2).n), .slice none 0 0, .bool false, .slice none 0 0, .slice none 0 0, .int .i64 (IntKind.i32.wrap (T.at 3).n), .slice none 0 0, .bool false, .slice none 0 0, .slice none 0 0, .int .i64 0, .slice none 0 0, .bool a4.isNone, .slice al4 ((lT (T.at 4)).map (fun y : Tr => (Tr.mk (IntKind.i32.wrap y.n) [] false [] [] : Tr))).length cl4, .slice none 0 0, .int .i64 0, .slice none 0 0, .bool a5.isNone, .slice al5 ((lT (T.at 5)).map (fun y : Tr => (Tr.mk (IntKind.i32.wrap y.n) [] false [] [] : Tr))).length cl5, .slice none 0 0, .int .i64 0, .slice none 0 0, .bool a6.isNone, .slice al6 ml6 cl6, .slice none 0 0].toArray 37 (0, 0))] :: [(b_1, .cells [.int .i64 0, .slice none 0 0, .bool false, .slice none 0 0, .slice none 0 0].toArray 37 (0, 0))] :: L = L' ∧ Row 37 5 al6 ml6 cl6 (es6.flatMap f5) Nl6 ∧ ml6 = es6.length ∧ es6.map (·.2) = ((lT (T.at 6)).take k6).map (fun y : Tr => (Tr.mk (IntKind.i32.wrap y.n) [] false [] [] : Tr)) ∧ (∀ p : EE, p ∈ es6 → TreeAt H' p.1 p.2)) [(0, .pointer (some ⟨b, o, none⟩)), (2, .pointer (some ⟨b_1, 0, none⟩)), (3, .pointer (some ⟨b_3, 0, none⟩)), (178, .int .i64 ((lT (T.at 6)).length : Int))] (fun k6 l' H' L' h => ?_) (by omega) rfl (.of ⟨rfl, rfl, rfl, rfl, trivial⟩) ⟨none, 0, 0, [], [], rfl, rfl, (Row.nil _ _), rfl, (by simp), (fun p hp => by cases hp)⟩ rfl rfl rfl rfl rfl (fun k6 l' H' L' hk6 le_18 hI => ?_) (fun l' H' L' le_19 hI => ?_)
   · obtain ⟨al6, ml6, cl6, es6, Nl6, rfl, _⟩ := h; exact ⟨rfl, rfl, rfl, rfl⟩
   ·
    obtain ⟨al6, ml6, cl6, es6, Nl6, rfl, rfl, pk60, pk61, pk62, pk63⟩ := hI
    refine sr ?_
    refine mv rfl rfl ?_
    refine asg rfl rfl ?_
    refine nl ?_
    refine sq ?_
    refine rgD 4 .nil mixed ?_
    refine dE 0 (by kernel_rfl) rfl ?_
    refine al Tryz.zeroValue4 rfl rfl (fun b_20 => ?_)
    refine dN .nil ler ?_
    refine dE2 1 2 (by kernel_rfl) rfl rfl ?_ ?_
    ·
     refine st Tryz.sizeOf4 rfl rfl rfl rfl .head ?_
     refine dN .nil ler ?_
     refine dE 2 (by kernel_rfl) rfl ?_
     refine st Tryz.sizeOf4 rfl rfl rfl rfl .head ?_
     refine dN .nil ler ?_
     refine dE 3 (by kernel_rfl) rfl ?_
     refine ld (Says.own .head) Tryz.isAgg4 rfl (Nat.zero_add _).symm rfl rfl ?_
     refine dN .nil ler ?_
     refine dD (by kernel_rfl) ?_
     refine drN .head ?_
     refine Nt ?_
     refine cF rfl ?_
     refine rgD 20 (.skip (.keep (.keep (.keep .nil)))) mixed ?_
     refine dU 0 rfl rfl rfl (y_fa0 F37_3 rfl) (.skip (.keep (.keep (.keep .nil)))) ler ?_
     refine dU 1 rfl rfl rfl (y_ld (Says.own .head) Tryz.isAgg34 rfl (Nat.zero_add _).symm rfl) (.skip (.keep (.keep (.keep .nil)))) ler ?_
     refine dU 2 rfl rfl rfl (y_fa0 F37_3 rfl) (.skip (.keep (.keep (.keep .nil)))) ler ?_
     refine dU 3 rfl rfl rfl (y_ld (Says.own .head) Tryz.isAgg34 rfl (Nat.zero_add _).symm rfl) (.skip (.keep (.keep (.keep .nil)))) ler ?_
     refine dU 4 rfl rfl rfl (y_ix2 (j := 6) Tryz.runUnderlying34 Tryz.sizeOf37 rfl rfl rfl rfl (by decide)) (.skip (.keep (.keep (.keep .nil)))) ler ?_
     refine dU 5 rfl rfl rfl (y_fa F37_3 rfl) (.skip (.keep (.keep (.keep .nil)))) ler ?_
     refine dU 6 rfl rfl rfl (y_ld (Says.own (.tail .head)) Tryz.isAgg34 rfl (Nat.zero_add _).symm rfl) (.skip (.keep (.keep (.keep .nil)))) ler ?_
     refine dU 7 rfl rfl rfl (y_mv rfl) (.skip (.keep (.keep (.keep .nil)))) ler ?_
     refine dU 8 rfl rfl rfl (y_nc rfl) (.skip (.keep (.keep (.keep .nil)))) ler ?_
     refine dU 9 rfl rfl rfl (y_fa F116_6 rfl) (.skip (.keep (.keep (.keep .nil)))) ler ?_
     refine dU 10 rfl rfl rfl (y_ld (j := 6) (Says.fz (hb.mono (le_5.trans (hll4.trans (le_12.trans (hll5.trans le_18)))))) Tryz.isAgg114 rfl rfl rfl) (.skip (.keep (.keep (.keep .nil)))) ler ?_
     refine dU 11 rfl rfl rfl (y_mv rfl) (.skip (.keep (.keep (.keep .nil)))) ler ?_
     obtain ⟨beq_21, oeq_21, haq_21, hlq_21⟩ := ((h3.mono RI32.mono (le_5.trans (hll4.trans (le_12.trans (hll5.trans le_18)))))).rows.at_ (ne_nil_of_lt hk6)
     obtain ⟨ceq_21, hAq_21, hbq_21⟩ := hlq_21 k6 hk6
     obtain rfl : ceq_21 = [.int .i32 (IntKind.i32.wrap ((lT (T.at 6))[k6]).n)] := hAq_21
     refine dU 12 rfl rfl rfl (y_ixk (j := k6) Tryz.runUnderlying114 Tryz.sizeOf21 rfl haq_21 rfl rfl hk6) (.skip (.keep (.keep (.keep .nil)))) ler ?_
     refine dU 13 rfl rfl rfl (y_ld (Says.fz hbq_21) Tryz.isAgg21 rfl (Nat.add_zero _).symm rfl) (.skip (.keep (.keep (.keep .nil)))) ler ?_
     refine dU 14 rfl rfl rfl (y_cv Tryz.runUnderlying21 Tryz.runUnderlying2 rfl (i32_64 _)) (.skip (.keep (.keep (.keep .nil)))) ler ?_
     refine dU 15 rfl rfl rfl (y_bd S37 rfl rfl) (.skip (.keep (.keep (.keep .nil)))) ler ?_
     refine dE 16 (by kernel_rfl) rfl ?_
     refine bs' L34 rfl rfl rfl rfl (fun b_22 => ?_)
     refine dN (.skip (.skip (.keep (.keep (.keep .nil))))) ler ?_
     refine dE 17 (by kernel_rfl) rfl ?_
     have hmk : ml6 = k6 := by have h1 := congrArg List.length pk62; rw [List.length_map, List.length_map, List.length_take] at h1; omega
     have hmb := (hf.at 6).lTl
     refine ap (k := 1) (news := f5 (((TC.none : TC), (Tr.mk (IntKind.i32.wrap ((lT (T.at 6))[k6]).n) [] false [] [] : Tr)) : EE)) Tryz.underlying34 I37 rfl rfl pk60 (fun _ => (.tail .head)) (src_says Tryz.underlying34 rfl (fun _ => Says.own .head) (f5_one _)) (by omega) (by unfold maxLen; omega) rfl (fun a221 c221 N221 r221 z221 => ?_)
     rw [flatMap_snoc'] at r221
     refine dN (.skip (.skip (.keep (.keep (.keep .nil))))) ler ?_
     refine dE 18 (by kernel_rfl) rfl ?_
     refine ixk (j := 6) Tryz.runUnderlying34 Tryz.sizeOf37 rfl rfl rfl rfl (by decide) rfl ?_
     refine dN (.skip (.skip (.keep (.keep (.keep .nil))))) ler ?_
     refine dU 19 rfl rfl rfl (y_fa F37_3 rfl) (.skip (.skip (.keep (.keep (.keep .nil))))) ler ?_
     refine dE 20 (by kernel_rfl) rfl ?_
     refine st Tryz.sizeOf34 rfl rfl rfl rfl (.tail (.tail (.tail .head))) ?_
     refine dNk (by kernel_rfl) ?_
     refine dD (by kernel_rfl) ?_
     refine Nb ?_
     refine drN .head ?_
     refine fun a_ w_ hA hw => ⟨_, _, _, hA.sub ?_, le_18, hw, _, rfl, a221, (ml6 + 1), c221, (es6 ++ [(((TC.none : TC), (Tr.mk (IntKind.i32.wrap ((lT (T.at 6))[k6]).n) [] false [] [] : Tr)) : EE)]), N221, rfl, rfl, r221, (by simp; omega), (map_take_snoc (g := (fun y : Tr => (Tr.mk (IntKind.i32.wrap y.n) [] false [] [] : Tr))) hk6 pk62), (fun p hp => (mem_snoc hp).elim (fun h => (pk63 p h).mono ler) (fun h => h ▸ (.of (.nil _) (.nil _) (.nil _))))⟩
     exact (.of ⟨rfl, rfl, rfl, rfl, rfl, trivial⟩)
    ·
     refine st Tryz.sizeOf4 rfl rfl rfl rfl .head ?_
     refine dN .nil ler ?_
     refine dE 1 (by kernel_rfl) rfl ?_
     refine st Tryz.sizeOf4 rfl rfl rfl rfl .head ?_
     refine dN .nil ler ?_
     refine dE 3 (by kernel_rfl) rfl ?_
     refine ld (Says.own .head) Tryz.isAgg4 rfl (Nat.zero_add _).symm rfl rfl ?_
     refine dN .nil ler ?_
     refine dD (by kernel_rfl) ?_
     refine drN .head ?_
     refine Nt ?_
     refine cT rfl ?_
     refine sq ?_
     refine rgD 19 (.skip (.keep (.keep (.keep .nil)))) mixed ?_
     refine dU 0 rfl rfl rfl (y_fa0 F37_3 rfl) (.skip (.keep (.keep (.keep .nil)))) ler ?_
     refine dU 1 rfl rfl rfl (y_ld (Says.own .head) Tryz.isAgg34 rfl (Nat.zero_add _).symm rfl) (.skip (.keep (.keep (.keep .nil)))) ler ?_
     refine dU 2 rfl rfl rfl (y_ix2 (j := 6) Tryz.runUnderlying34 Tryz.sizeOf37 rfl rfl rfl rfl (by decide)) (.skip (.keep (.keep (.keep .nil)))) ler ?_
     refine dU 3 rfl rfl rfl (y_fa F37_3 rfl) (.skip (.keep (.keep (.keep .nil)))) ler ?_
     refine dU 4 rfl rfl rfl (y_ld (Says.own (.tail .head)) Tryz.isAgg34 rfl (Nat.zero_add _).symm rfl) (.skip (.keep (.keep (.keep .nil)))) ler ?_
     refine dU 5 rfl rfl rfl (y_mv rfl) (.skip (.keep (.keep (.keep .nil)))) ler ?_
     refine dU 6 rfl rfl rfl (y_nc rfl) (.skip (.keep (.keep (.keep .nil)))) ler ?_
     refine dU 7 rfl rfl rfl (y_fa F116_6 rfl) (.skip (.keep (.keep (.keep .nil)))) ler ?_
     refine dU 8 rfl rfl rfl (y_ld (j := 6) (Says.fz (hb.mono (le_5.trans (hll4.trans (le_12.trans (hll5.trans le_18)))))) Tryz.isAgg114 rfl rfl rfl) (.skip (.keep (.keep (.keep .nil)))) ler ?_
     refine dU 9 rfl rfl rfl (y_mv rfl) (.skip (.keep (.keep (.keep .nil)))) ler ?_
     obtain ⟨beq_23, oeq_23, haq_23, hlq_23⟩ := ((h3.mono RI32.mono (le_5.trans (hll4.trans (le_12.trans (hll5.trans le_18)))))).rows.at_ (ne_nil_of_lt hk6)
     obtain ⟨ceq_23, hAq_23, hbq_23⟩ := hlq_23 k6 hk6
     obtain rfl : ceq_23 = [.int .i32 (IntKind.i32.wrap ((lT (T.at 6))[k6]).n)] := hAq_23
     refine dU 10 rfl rfl rfl (y_ixk (j := k6) Tryz.runUnderlying114 Tryz.sizeOf21 rfl haq_23 rfl rfl hk6) (.skip (.keep (.keep (.keep .nil)))) ler ?_
     refine dU 11 rfl rfl rfl (y_ld (Says.fz hbq_23) Tryz.isAgg21 rfl (Nat.add_zero _).symm rfl) (.skip (.keep (.keep (.keep .nil)))) ler ?_
     refine dU 12 rfl rfl rfl (y_cv Tryz.runUnderlying21 Tryz.runUnderlying2 rfl (i32_64 _)) (.skip (.keep (.keep (.keep .nil)))) ler ?_
     refine dU 13 rfl rfl rfl (y_bd S37 rfl rfl) (.skip (.keep (.keep (.keep .nil)))) ler ?_
     refine dU 14 rfl rfl rfl (y_ls Tryz.runUnderlying34 rfl) (.skip (.keep (.keep (.keep .nil)))) ler ?_
     refine dE 15 (by kernel_rfl) rfl ?_
     refine bs' L34 rfl rfl rfl rfl (fun b_24 => ?_)
     refine dN (.skip (.skip (.keep (.keep (.keep .nil))))) ler ?_
     refine dE 16 (by kernel_rfl) rfl ?_
     have hmk : ml6 = k6 := by have h1 := congrArg List.length pk62; rw [List.length_map, List.length_map, List.length_take] at h1; omega
     have hmb := (hf.at 6).lTl
     refine ap (k := 1) (news := f5 ((TC.none, Tr.none) : EE)) Tryz.underlying34 I37 rfl rfl pk60 (fun _ => (.tail .head)) (src_says Tryz.underlying34 rfl (fun _ => Says.own .head) (f5_one _)) (by omega) (by unfold maxLen; omega) rfl (fun a200 c200 N200 r200 z200 => ?_)
     refine dN (.skip (.skip (.keep (.keep (.keep .nil))))) ler ?_
     refine dE 17 (by kernel_rfl) rfl ?_
     refine ixk (j := 6) Tryz.runUnderlying34 Tryz.sizeOf37 rfl rfl rfl rfl (by decide) rfl ?_
     refine dN (.skip (.skip (.keep (.keep (.keep .nil))))) ler ?_
     refine dU 18 rfl rfl rfl (y_fa F37_3 rfl) (.skip (.skip (.keep (.keep (.keep .nil))))) ler ?_
     refine dE 19 (by kernel_rfl) rfl ?_
     refine st Tryz.sizeOf34 rfl rfl rfl rfl (.tail (.tail (.tail .head))) ?_
     refine dNk (by kernel_rfl) ?_
     refine dD (by kernel_rfl) ?_
     refine Nt ?_
     refine rg ?_
     obtain ⟨gg200, hgg200⟩ := r200.addr (by omega)
     refine ixk (j := ml6) Tryz.runUnderlying34 Tryz.sizeOf37 rfl hgg200 rfl rfl (by omega) rfl ?_
     refine sR (ds := f5 (((TC.none : TC), (Tr.mk (IntKind.i32.wrap ((lT (T.at 6))[k6]).n) [] false [] [] : Tr)) : EE)) r200 hgg200 (fun _ => (.tail .head)) Tryz.sizeOf37 rfl rfl rfl rfl (by omega) (fun N200b r200b => ?_)
     rw [row_put (k := 5) (m := ml6) (A := es6.flatMap f5) (by rw [flatMap_len f5 5 f5_len, pk61]) rfl, flatMap_snoc'] at r200b
     refine nN ?_
     refine Nb ?_
     refine drN .head ?_
     refine fun a_ w_ hA hw => ⟨_, _, _, hA.sub ?_, le_18, hw, _, rfl, a200, (ml6 + 1), c200, (es6 ++ [(((TC.none : TC), (Tr.mk (IntKind.i32.wrap ((lT (T.at 6))[k6]).n) [] false [] [] : Tr)) : EE)]), N200b, rfl, rfl, r200b, (by simp; omega), (map_take_snoc (g := (fun y : Tr => (Tr.mk (IntKind.i32.wrap y.n) [] false [] [] : Tr))) hk6 pk62), (fun p hp => (mem_snoc hp).elim (fun h => (pk63 p h).mono ler) (fun h => h ▸ (.of (.nil _) (.nil _) (.nil _))))⟩
     exact (.of ⟨rfl, rfl, rfl, rfl, rfl, trivial⟩)
   ·
    obtain ⟨al6, ml6, cl6, es6, Nl6, rfl, rfl, pk60, pk61, pk62, pk63⟩ := hI
    refine toWp ?_
    have hes6 : es6.map (·.2) = (lT (T.at 6)).map (fun y : Tr => (Tr.mk (IntKind.i32.wrap y.n) [] false [] [] : Tr)) := by rw [pk62, List.take_length]
    have hm6 : ml6 = ((lT (T.at 6)).map (fun y : Tr => (Tr.mk (IntKind.i32.wrap y.n) [] false [] [] : Tr))).length := by rw [← hes6, List.length_map]; exact pk61
    refine frW pk60 .head (fun Hl6 hll6 hzl6 => ?_)
    have ht6 := TreesAt.row hzl6 pk61 pk60.le.1 (by have h1 := congrArg List.length hes6; rw [List.length_map, List.length_map] at h1; unfold B47; omega) (fun p hp => (pk63 p hp).mono hll6)
    rw [hes6] at ht6
    subst hm6
    refine sr ?_
    refine mv rfl rfl ?_
    refine nc rfl rfl ?_
    refine fa F116_7 rfl rfl ?_
    refine mkf rfl rfl ?_
    have hkv_ := (h4.mono (le_5.trans (hll4.trans (le_12.trans (hll5.trans (le_19.trans hll6))))))
    obtain ⟨kvs, hM, hlen, hel⟩ := hkv_
    have hfu := hf.u
    refine cl rfl rfl rfl (t_each (j := 7) (I := fun i H1 Y => TgI 69 b_3 37 (.int .i64 0) (.slice none 0 0) (.bool false) (_) T.u i H1 Y) (hb.mono (le_5.trans (hll4.trans (le_12.trans (hll5.trans (le_19.trans hll6)))))) rfl hM (by omega) (fun i H1 H2 Y hle h => h.mono hle) TgI.start (fun i k v H1 Y L1 hi hle hI => ?_)) rfl (fun v_ H1 L1 le_26 hR_ => ?_)
    ·
     obtain ⟨s, h1, ⟨va, vc, rfl, hx⟩, h2, h3⟩ := hel i k v hi
     have hik := sortKv_lt hi
     exact TgI.step (fun {_ _ _ _ _ _ _ _ _ _ _ _ _ _ _ _} => tc_82) hf.v (by omega) h1 (hx.mono hle) h2 h3 hI
    rw [hlen] at hR_
    obtain ⟨_, rfl, aU, cU, NU, esU, rfl, hrU, heU, hgU⟩ := hR_
    refine splL ?_
    rw [List.take_length] at heU
    refine frL hrU (.tail .head) (fun HU hleU hzU => ?_)
    have hU := (TagsAt.told hzU hrU heU hfu (fun p hp => (hgU p hp).mono hleU)).1
    refine nl ?_
    refine sr ?_
    refine fa0 F37_4 rfl rfl ?_
    refine ld (Says.own .head) Tryz.isAgg35 rfl (Nat.zero_add _).symm rfl rfl ?_
    refine cl rfl rfl rfl (k_sorted hU (h4.mono (le_5.trans (hll4.trans (le_12.trans (hll5.trans (le_19.trans (hll6.trans (le_26.trans hleU)))))))).rise) rfl (fun v_ H1 L1 hle_ hR_ => ?_)
    obtain ⟨rfl, rfl⟩ := hR_
    refine nl ?_
    refine sr ?_
    refine la (Says.own .head) Tryz.isAgg37 Tryz.sizeOf37 rfl (Nat.zero_add _).symm rfl rfl ?_
    refine sa Tryz.sizeOf37 rfl rfl rfl rfl rfl (.tail (.tail .head)) ?_
    refine nl ?_
    refine drW .head ?_
    refine frW (Row.whole (e := 37) (size := 5) (m := 7) (ds := [.int .i64 (IntKind.i16.wrap (T.at 0).n), .slice none 0 0, .bool false, .slice none 0 0, .slice none 0 0, .int .i64 (IntKind.i32.wrap (T.at 1).n), .slice none 0 0, .bool false, .slice none 0 0, .slice none 0 0, .int .i64 (IntKind.i32.wrap (T.at 2).n), .slice none 0 0, .bool false, .slice none 0 0, .slice none 0 0, .int .i64 (IntKind.i32.wrap (T.at 3).n), .slice none 0 0, .bool false, .slice none 0 0, .slice none 0 0, .int .i64 0, .slice none 0 0, .bool a4.isNone, .slice al4 ((lT (T.at 4)).map (fun y : Tr => (Tr.mk (IntKind.i32.wrap y.n) [] false [] [] : Tr))).length cl4, .slice none 0 0, .int .i64 0, .slice none 0 0, .bool a5.isNone, .slice al5 ((lT (T.at 5)).map (fun y : Tr => (Tr.mk (IntKind.i32.wrap y.n) [] false [] [] : Tr))).length cl5, .slice none 0 0, .int .i64 0, .slice none 0 0, .bool a6.isNone, .slice al6 ((lT (T.at 6)).map (fun y : Tr => (Tr.mk (IntKind.i32.wrap y.n) [] false [] [] : Tr))).length cl6, .slice none 0 0]) rfl (by unfold maxLen; omega)) .head (fun H9 hle9 hz9 => ?_)
    have hrb : H9.at b_2 0 [.int .i64 (IntKind.i16.wrap (T.at 0).n), .slice none 0 0, .bool false, .slice none 0 0, .slice none 0 0, .int .i64 (IntKind.i32.wrap (T.at 1).n), .slice none 0 0, .bool false, .slice none 0 0, .slice none 0 0, .int .i64 (IntKind.i32.wrap (T.at 2).n), .slice none 0 0, .bool false, .slice none 0 0, .slice none 0 0, .int .i64 (IntKind.i32.wrap (T.at 3).n), .slice none 0 0, .bool false, .slice none 0 0, .slice none 0 0, .int .i64 0, .slice none 0 0, .bool a4.isNone, .slice al4 ((lT (T.at 4)).map (fun y : Tr => (Tr.mk (IntKind.i32.wrap y.n) [] false [] [] : Tr))).length cl4, .slice none 0 0, .int .i64 0, .slice none 0 0, .bool a5.isNone, .slice al5 ((lT (T.at 5)).map (fun y : Tr => (Tr.mk (IntKind.i32.wrap y.n) [] false [] [] : Tr))).length cl5, .slice none 0 0, .int .i64 0, .slice none 0 0, .bool a6.isNone, .slice al6 ((lT (T.at 6)).map (fun y : Tr => (Tr.mk (IntKind.i32.wrap y.n) [] false [] [] : Tr))).length cl6, .slice none 0 0] := by
     rcases hz9 with ⟨h, _⟩ | ⟨g, h, h2⟩
     · cases h
     · cases h; exact h2
    rw [(h1).nul, (h2).nul, (h3).nul] at hrb
    have hrb2 : H9.at b_2 0 (([((TC.none : TC), (Tr.mk (IntKind.i16.wrap (T.at 0).n) [] false [] [] : Tr)), ((TC.none : TC), (Tr.mk (IntKind.i32.wrap (T.at 1).n) [] false [] [] : Tr)), ((TC.none : TC), (Tr.mk (IntKind.i32.wrap (T.at 2).n) [] false [] [] : Tr)), ((TC.none : TC), (Tr.mk (IntKind.i32.wrap (T.at 3).n) [] false [] [] : Tr)), ((⟨none, 0, al4, cl4, none, 0⟩ : TC), (Tr.mk 0 [] (T.at 4).nul ((lT (T.at 4)).map (fun y : Tr => (Tr.mk (IntKind.i32.wrap y.n) [] false [] [] : Tr))) [] : Tr)), ((⟨none, 0, al5, cl5, none, 0⟩ : TC), (Tr.mk 0 [] (T.at 5).nul ((lT (T.at 5)).map (fun y : Tr => (Tr.mk (IntKind.i32.wrap y.n) [] false [] [] : Tr))) [] : Tr)), ((⟨none, 0, al6, cl6, none, 0⟩ : TC), (Tr.mk 0 [] (T.at 6).nul ((lT (T.at 6)).map (fun y : Tr => (Tr.mk (IntKind.i32.wrap y.n) [] false [] [] : Tr))) [] : Tr))] : List EE).flatMap fun p => p.1.cells p.2) := by exact hrb
    have hl9 : TreesAt H9 (some ⟨b_2, 0, none⟩) 7 [(.mk (IntKind.i16.wrap (T.at 0).n) [] false [] []), (.mk (IntKind.i32.wrap (T.at 1).n) [] false [] []), (.mk (IntKind.i32.wrap (T.at 2).n) [] false [] []), (.mk (IntKind.i32.wrap (T.at 3).n) [] false [] []), (.mk 0 [] (T.at 4).nul ((lT (T.at 4)).map (fun y : Tr => (Tr.mk (IntKind.i32.wrap y.n) [] false [] [] : Tr))) []), (.mk 0 [] (T.at 5).nul ((lT (T.at 5)).map (fun y : Tr => (Tr.mk (IntKind.i32.wrap y.n) [] false [] [] : Tr))) []), (.mk 0 [] (T.at 6).nul ((lT (T.at 6)).map (fun y : Tr => (Tr.mk (IntKind.i32.wrap y.n) [] false [] [] : Tr))) [])] := by
     refine TreesAt.row (es := [((TC.none : TC), (Tr.mk (IntKind.i16.wrap (T.at 0).n) [] false [] [] : Tr)), ((TC.none : TC), (Tr.mk (IntKind.i32.wrap (T.at 1).n) [] false [] [] : Tr)), ((TC.none : TC), (Tr.mk (IntKind.i32.wrap (T.at 2).n) [] false [] [] : Tr)), ((TC.none : TC), (Tr.mk (IntKind.i32.wrap (T.at 3).n) [] false [] [] : Tr)), ((⟨none, 0, al4, cl4, none, 0⟩ : TC), (Tr.mk 0 [] (T.at 4).nul ((lT (T.at 4)).map (fun y : Tr => (Tr.mk (IntKind.i32.wrap y.n) [] false [] [] : Tr))) [] : Tr)), ((⟨none, 0, al5, cl5, none, 0⟩ : TC), (Tr.mk 0 [] (T.at 5).nul ((lT (T.at 5)).map (fun y : Tr => (Tr.mk (IntKind.i32.wrap y.n) [] false [] [] : Tr))) [] : Tr)), ((⟨none, 0, al6, cl6, none, 0⟩ : TC), (Tr.mk 0 [] (T.at 6).nul ((lT (T.at 6)).map (fun y : Tr => (Tr.mk (IntKind.i32.wrap y.n) [] false [] [] : Tr))) [] : Tr))]) (.inr ⟨_, rfl, hrb2⟩) rfl (Nat.le_refl _) (Nat.le_of_ble_eq_true rfl) ?_
     intro p hp
     simp only [List.mem_cons, List.not_mem_nil, or_false] at hp
     rcases hp with rfl | rfl | rfl | rfl | rfl | rfl | rfl
     · exact (.of (.nil _) (.nil _) (.nil _))
     · exact (.of (.nil _) (.nil _) (.nil _))
     · exact (.of (.nil _) (.nil _) (.nil _))
     · exact (.of (.nil _) (.nil _) (.nil _))
     · exact (.of (.nil _) (ht4.mono (le_12.trans (hll5.trans (le_19.trans (hll6.trans (le_26.trans (hleU.trans hle9))))))) (.nil _))
     · exact (.of (.nil _) (ht5.mono (le_19.trans (hll6.trans (le_26.trans (hleU.trans hle9))))) (.nil _))
     · exact (.of (.nil _) (ht6.mono (le_26.trans (hleU.trans hle9))) (.nil _))
    exact rC rfl Tryz.isAgg37 Tryz.sizeOf37 rfl .head rfl (le_5.trans (hll4.trans (le_12.trans (hll5.trans (le_19.trans (hll6.trans (le_26.trans (hleU.trans hle9)))))))) (fun _ _ h => h) ⟨rfl, ⟨none, 0, some ⟨b_2, 0, none⟩, 7, aU, cU⟩, rfl, .of (.nil _) hl9 (hU.mono hle9)⟩
def tl_MetadataResponseTopic (T : Tr) : Tr := .mk 0 [] false [(.mk (IntKind.i16.wrap (T.at 0).n) [] false [] []), (.mk 0 (sT (T.at 1)) (T.at 1).nul [] []), (.mk 0 (pad16 (T.at 2).s) false [] []), (.mk (if decide ((T.at 3).n % 2 = 1) = true then 1 else 0) [] false [] []), (.mk 0 [] (T.at 4).nul ((lT (T.at 4)).map tl_MetadataResponseTopicPartition) []), (.mk (IntKind.i32.wrap (T.at 5).n) [] false [] [])] T.u
theorem te_MetadataResponseTopic {H : Fz} {L : Own} {b o : Nat} {cs : List Value} {T : Tr} (hb : H.at b o cs) (hA : At_MetadataResponseTopic H T cs) (hf : Fits T) :
  Fn Tryz.prog 36 [.pointer (some ⟨b, o, none⟩)] H L (fun v H' L' => L = L' ∧ ∃ c : TC, v = .agg (c.cells (tl_MetadataResponseTopic T)).toArray ∧ TreeAt H' c (tl_MetadataResponseTopic T)) := by
 obtain ⟨p1, a4, c4, mt, rfl, h1, h2, h3⟩ := hA
 refine Fn.mk Tryz.call36 Tryz.func36 rfl Tryz.ntmps36 rfl ?_
 refine sr ?_
 refine al Tryz.zeroValue37 rfl rfl (fun b_1 => ?_)
 refine nl ?_
 refine sr ?_
 refine mkC (m := 6) (zs := [.int .i64 0, .slice none 0 0, .bool false, .slice none 0 0, .slice none 0 0]) Tryz.underlying34 I37 rfl rfl rfl rfl rfl rfl (by decide) (by unfold maxLen; omega) rfl (fun b_2 => ?_)
 refine bd' S37 rfl rfl rfl ?_
 refine al Tryz.zeroValue37 rfl rfl (fun b_3 => ?_)
 refine sa Tryz.sizeOf37 rfl rfl rfl rfl rfl .head ?_
 refine nl ?_
 refine sq ?_
 refine rgD 9 kp3 mixed ?_
 refine dU 0 rfl rfl rfl (y_fa0 F37_3 rfl) kp3 ler ?_
 refine dU 1 rfl rfl rfl (y_ld (Says.own .head) Tryz.isAgg34 rfl (Nat.zero_add _).symm rfl) kp3 ler ?_
 refine dU 2 rfl rfl rfl (y_mv rfl) kp3 ler ?_
 refine dU 3 rfl rfl rfl (y_nc rfl) kp3 ler ?_
 refine dU 4 rfl rfl rfl (y_fa F90_0 rfl) kp3 ler ?_
 refine dU 5 rfl rfl rfl (y_ld (j := 0) (Says.fz hb) Tryz.isAgg46 rfl (Nat.add_zero _).symm rfl) kp3 ler ?_
 refine dU 6 rfl rfl rfl (y_cv Tryz.runUnderlying46 Tryz.runUnderlying2 rfl (i16_64 _)) kp3 ler ?_
 refine dU 7 rfl rfl rfl (y_bd S37 rfl rfl) kp3 ler ?_
 refine dU 8 rfl rfl rfl (y_ix2 (j := 0) Tryz.runUnderlying34 Tryz.sizeOf37 rfl rfl rfl rfl (by decide)) kp3 ler ?_
 refine dE 9 (by kernel_rfl) rfl ?_
 refine sa Tryz.sizeOf37 rfl rfl rfl rfl rfl (.tail .head) ?_
 refine dNk (by kernel_rfl) ?_
 refine dD (by kernel_rfl) ?_
 refine Nt ?_
 refine sq ?_
 refine rgD 8 kp3 mixed ?_
 refine dU 0 rfl rfl rfl (y_fa0 F37_3 rfl) kp3 ler ?_
 refine dU 1 rfl rfl rfl (y_ld (Says.own .head) Tryz.isAgg34 rfl (Nat.zero_add _).symm rfl) kp3 ler ?_
 refine dU 2 rfl rfl rfl (y_mv rfl) kp3 ler ?_
 refine dU 3 rfl rfl rfl (y_nc rfl) kp3 ler ?_
 refine dU 4 rfl rfl rfl (y_fa F90_1 rfl) kp3 ler ?_
 refine dU 5 rfl rfl rfl (y_ld (j := 1) (Says.fz hb) Tryz.isAgg72 rfl rfl rfl) kp3 ler ?_
 refine dE 6 (by kernel_rfl) rfl ?_
 refine cl rfl rfl rfl (k_textTree h1 (hf.at 1)) rfl (fun v_ H1 L1 le_4 hR_ => ?_)
 obtain ⟨rfl, ct22, rfl, hT22⟩ := hR_
 refine dN kp3 le_4 ?_
 refine dU 7 rfl rfl rfl (y_ix2 (j := 1) Tryz.runUnderlying34 Tryz.sizeOf37 rfl rfl rfl rfl (by decide)) kp3 le_4 ?_
 refine dE 8 (by kernel_rfl) rfl ?_
 refine sa Tryz.sizeOf37 rfl rfl rfl rfl rfl (.tail .head) ?_
 refine dNk (by kernel_rfl) ?_
 refine dD (by kernel_rfl) ?_
 refine Nt ?_
 refine sq ?_
 refine rgD 9 kp3 mixed ?_
 refine dU 0 rfl rfl rfl (y_fa0 F37_3 rfl) kp3 ler ?_
 refine dU 1 rfl rfl rfl (y_ld (Says.own .head) Tryz.isAgg34 rfl (Nat.zero_add _).symm rfl) kp3 ler ?_
 refine dU 2 rfl rfl rfl (y_mv rfl) kp3 ler ?_
 refine dU 3 rfl rfl rfl (y_nc rfl) kp3 ler ?_
 refine dU 4 rfl rfl rfl (y_fa F90_2 rfl) kp3 ler ?_
 refine dU 5 rfl rfl rfl (y_slA Tryz.runUnderlying87 Tryz.sizeOf5 rfl) kp3 ler ?_
 refine dE 6 (by kernel_rfl) rfl ?_
 have hq30 := pad16_len (T.at 2).s
 refine apn (k := 16) (news := bytesOf (pad16 (T.at 2).s)) Tryz.underlying22 I5 rfl rfl (src_says (m := 16) (size := 1) Tryz.underlying22 (by rw [bytesOf_length, hq30]) (fun _ => Says.fz (by rw [← u16_eq]; exact ((hb.mono le_4).part 2 16))) (bytesOf_one _)) (by omega) (by unfold maxLen; omega) rfl (fun a30 c30 N30 r30 => ?_)
 refine frL r30 .head (fun Hu30 hlu30 hz30 => ?_)
 have hb30 := BytesAt.row hz30 r30 (by rw [hq30]; unfold B47; omega)
 refine dN kp3 hlu30 ?_
 refine dU 7 rfl rfl rfl (y_bd S37 rfl rfl) kp3 hlu30 ?_
 refine dU 8 rfl rfl rfl (y_ix2 (j := 2) Tryz.runUnderlying34 Tryz.sizeOf37 rfl rfl rfl rfl (by decide)) kp3 hlu30 ?_
 refine dE 9 (by kernel_rfl) rfl ?_
 refine sa Tryz.sizeOf37 rfl rfl rfl rfl rfl (.tail .head) ?_
 refine dNk (by kernel_rfl) ?_
 refine dD (by kernel_rfl) ?_
 refine Nt ?_
 refine sq ?_
 refine rgD 8 kp3 mixed ?_
 refine dU 0 rfl rfl rfl (y_fa0 F37_3 rfl) kp3 ler ?_
 refine dU 1 rfl rfl rfl (y_ld (Says.own .head) Tryz.isAgg34 rfl (Nat.zero_add _).symm rfl) kp3 ler ?_
 refine dU 2 rfl rfl rfl (y_mv rfl) kp3 ler ?_
 refine dU 3 rfl rfl rfl (y_nc rfl) kp3 ler ?_
 refine dU 4 rfl rfl rfl (y_fa F90_3 rfl) kp3 ler ?_
 refine dU 5 rfl rfl rfl (y_ld (j := 18) (Says.fz (hb.mono (le_4.trans hlu30))) Tryz.isAgg4 rfl rfl rfl) kp3 ler ?_
 refine dE 6 (by kernel_rfl) rfl ?_
 refine cl rfl rfl rfl (k_boolTree (p := (decide ((T.at 3).n % 2 = 1)))) rfl (fun v_ H1 L1 hle_ hR_ => ?_)
 obtain ⟨rfl, rfl, rfl⟩ := hR_
 refine dN kp3 ler ?_
 refine dU 7 rfl rfl rfl (y_ix2 (j := 3) Tryz.runUnderlying34 Tryz.sizeOf37 rfl rfl rfl rfl (by decide)) kp3 ler ?_
 refine dE 8 (by kernel_rfl) rfl ?_
 refine sa Tryz.sizeOf37 rfl rfl rfl rfl rfl (.tail .head) ?_
 refine dNk (by kernel_rfl) ?_
 refine dD (by kernel_rfl) ?_
 refine Nt ?_
 refine sq ?_
 refine rgD 9 kp3 mixed ?_
 refine dU 0 rfl rfl rfl (y_fa0 F37_3 rfl) kp3 ler ?_
 refine dU 1 rfl rfl rfl (y_ld (Says.own .head) Tryz.isAgg34 rfl (Nat.zero_add _).symm rfl) kp3 ler ?_
 refine dU 2 rfl rfl rfl (y_mv rfl) kp3 ler ?_
 refine dU 3 rfl rfl rfl (y_nc rfl) kp3 ler ?_
 refine dU 4 rfl rfl rfl (y_fa F90_4 rfl) kp3 ler ?_
 refine dU 5 rfl rfl rfl (y_ld (j := 19) (Says.fz (hb.mono (le_4.trans hlu30))) Tryz.isAgg88 rfl rfl rfl) kp3 ler ?_
 refine dU 6 rfl rfl rfl (y_esn Tryz.underlying88 rfl) kp3 ler ?_
 refine dE 7 (by kernel_rfl) rfl ?_
 refine ixk (j := 4) Tryz.runUnderlying34 Tryz.sizeOf37 rfl rfl rfl rfl (by decide) rfl ?_
 refine dN kp3 ler ?_
 refine dU 8 rfl rfl rfl (y_fa F37_2 rfl) kp3 ler ?_
 refine dE 9 (by kernel_rfl) rfl ?_
 refine st Tryz.sizeOf4 rfl rfl rfl rfl (.tail .head) ?_
 refine dNk (by kernel_rfl) ?_
 refine dD (by kernel_rfl) ?_
 refine Nt ?_
 refine sq ?_
 refine sr ?_
 refine mv rfl rfl ?_
 refine nc rfl rfl ?_
 refine fa F90_4 rfl rfl ?_
 refine ld (Says.fz (hb.mono (le_4.trans hlu30))) Tryz.isAgg88 rfl rfl rfl rfl ?_
 refine ls Tryz.runUnderlying88 rfl rfl ?_
 refine mv rfl rfl ?_
 refine nl ?_
 have hlm4 := (hf.at 4).lTl
 refine nulC2 ?_
 refine fr ((lT (T.at 4)).length) (fun k4 l' H' L' => ∃ (al4 : Option Addr), ∃ (ml4 : Nat), ∃ (cl4 : Nat), ∃ (es4 : List EE), ∃ (Nl4 : Chunk), [(0, .pointer (some ⟨b, o, none⟩)), (2, .pointer (some ⟨b_1, 0, none⟩)), (3, .pointer (some ⟨b_3, 0, none⟩)), (54, .int .i64 ((lT (T.at 4)).length : Int))] = l' ∧ Nl4 :: [(b_3, .cells [.int .i64 0, .slice none 0 0, .bool false, _, .slice none 0 0].toArray 37 (0, 0))] :: [(b_2, .cells [.int .i64 (IntKind.i16.wrap (T.at 0).n), .slice none 0 0, .bool false, .slice none 0 0, .slice none 0 0, .int .i64 0, .slice ct22.sa (sT (T.at 1)).length ct22.sc, .bool (T.at 1).nul, .slice ct22.la 0 ct22.lc, .slice ct22.ua 0 ct22.uc, .int .i64 0, .slice a30 16 c30, .bool false, .slice none 0 0, .slice none 0 0, .int .i64 (if (decide ((T.at 3).n % 2 = 1)) = true then 1 else 0), .slice none 0 0, .bool false, .slice none 0 0, .slice none 0 0, .int .i64 0, .slice none 0 0, .bool a4.isNone, .slice al4 ml4 cl4, .slice none 0 0, .int .i64 0, .slice none 0 0, .bool false, .slice none 0 0, .slice none 0 0].toArray 37 (0, 0))] :: [(b_1, .cells [.int .i64 0, .slice none 0 0, .bool false, .slice none 0 0, .slice none 0 0].toArray 37 (0, 0))] :: L = L' ∧ Row 37 5 al4 ml4 cl4 (es4.flatMap f5) Nl4 ∧ ml4 = es4.length ∧ es4.map (·.2) = ((lT (T.at 4)).take k4).map tl_MetadataResponseTopicPartition ∧ (∀ p : EE, p ∈ es4 → TreeAt H' p.1 p.2)) [(0, .pointer (some ⟨b, o, none⟩)), (2, .pointer (some ⟨b_1, 0, none⟩)), (3, .pointer (some ⟨b_3, 0, none⟩)), (54, .int .i64 ((lT (T.at 4)).length : Int))] (fun k4 l' H' L' h => ?_) (by omega) rfl (.of ⟨rfl, rfl, rfl, rfl, trivial⟩) ⟨none, 0, 0, [], [], rfl, rfl, (Row.nil _ _), rfl, (by simp), (fun p hp => by cases hp)⟩ rfl rfl rfl rfl rfl (fun k4 l' H' L' hk4 le_6 hI => ?_) (fun l' H' L' le_7 hI => ?_)
 · obtain ⟨al4, ml4, cl4, es4, Nl4, rfl, _⟩ := h; exact ⟨rfl, rfl, rfl, rfl⟩
 ·
  obtain ⟨al4, ml4, cl4, es4, Nl4, rfl, rfl, pk40, pk41, pk42, pk43⟩ := hI
  refine sr ?_
  refine mv rfl rfl ?_
  refine asg rfl rfl ?_
  refine nl ?_
  refine sq ?_
  refine rgD 4 .nil mixed ?_
  refine dE 0 (by kernel_rfl) rfl ?_
  refine al Tryz.zeroValue4 rfl rfl (fun b_8 => ?_)
  refine dN .nil ler ?_
  refine dE2 1 2 (by kernel_rfl) rfl rfl ?_ ?_
  ·
   refine st Tryz.sizeOf4 rfl rfl rfl rfl .head ?_
   refine dN .nil ler ?_
   refine dE 2 (by kernel_rfl) rfl ?_
   refine st Tryz.sizeOf4 rfl rfl rfl rfl .head ?_
   refine dN .nil ler ?_
   refine dE 3 (by kernel_rfl) rfl ?_
   refine ld (Says.own .head) Tryz.isAgg4 rfl (Nat.zero_add _).symm rfl rfl ?_
   refine dN .nil ler ?_
   refine dD (by kernel_rfl) ?_
   refine drN .head ?_
   refine Nt ?_
   refine cF rfl ?_
   refine rgD 18 (.skip (.keep (.keep (.keep .nil)))) mixed ?_
   refine dU 0 rfl rfl rfl (y_fa0 F37_3 rfl) (.skip (.keep (.keep (.keep .nil)))) ler ?_
   refine dU 1 rfl rfl rfl (y_ld (Says.own .head) Tryz.isAgg34 rfl (Nat.zero_add _).symm rfl) (.skip (.keep (.keep (.keep .nil)))) ler ?_
   refine dU 2 rfl rfl rfl (y_fa0 F37_3 rfl) (.skip (.keep (.keep (.keep .nil)))) ler ?_
   refine dU 3 rfl rfl rfl (y_ld (Says.own .head) Tryz.isAgg34 rfl (Nat.zero_add _).symm rfl) (.skip (.keep (.keep (.keep .nil)))) ler ?_
   refine dU 4 rfl rfl rfl (y_ix2 (j := 4) Tryz.runUnderlying34 Tryz.sizeOf37 rfl rfl rfl rfl (by decide)) (.skip (.keep (.keep (.keep .nil)))) ler ?_
   refine dU 5 rfl rfl rfl (y_fa F37_3 rfl) (.skip (.keep (.keep (.keep .nil)))) ler ?_
   refine dU 6 rfl rfl rfl (y_ld (Says.own (.tail .head)) Tryz.isAgg34 rfl (Nat.zero_add _).symm rfl) (.skip (.keep (.keep (.keep .nil)))) ler ?_
   refine dU 7 rfl rfl rfl (y_mv rfl) (.skip (.keep (.keep (.keep .nil)))) ler ?_
   refine dU 8 rfl rfl rfl (y_nc rfl) (.skip (.keep (.keep (.keep .nil)))) ler ?_
   refine dU 9 rfl rfl rfl (y_fa F90_4 rfl) (.skip (.keep (.keep (.keep .nil)))) ler ?_
   refine dU 10 rfl rfl rfl (y_ld (j := 19) (Says.fz (hb.mono (le_4.trans (hlu30.trans le_6)))) Tryz.isAgg88 rfl rfl rfl) (.skip (.keep (.keep (.keep .nil)))) ler ?_
   refine dU 11 rfl rfl rfl (y_mv rfl) (.skip (.keep (.keep (.keep .nil)))) ler ?_
   obtain ⟨beq_9, oeq_9, haq_9, hlq_9⟩ := ((h2.mono At_MetadataResponseTopicPartition.mono (le_4.trans (hlu30.trans le_6)))).rows.at_ (ne_nil_of_lt hk4)
   obtain ⟨ceq_9, hAq_9, hbq_9⟩ := hlq_9 k4 hk4
   refine dU 12 rfl rfl rfl (y_ixk (j := k4) Tryz.runUnderlying88 Tryz.sizeOf116 rfl haq_9 rfl rfl hk4) (.skip (.keep (.keep (.keep .nil)))) ler ?_
   refine dE 13 (by kernel_rfl) rfl ?_
   refine cl rfl rfl rfl (te_MetadataResponseTopicPartition hbq_9 (At_MetadataResponseTopicPartition.mono _ _ _ _ ler hAq_9) ((hf.at 4).lTel (List.getElem_mem hk4))) rfl (fun v_ H1 L1 le_10 hR_ => ?_)
   obtain ⟨rfl, ct91, rfl, hT91⟩ := hR_
   refine dN (.skip (.keep (.keep (.keep .nil)))) le_10 ?_
   refine dE 14 (by kernel_rfl) rfl ?_
   refine bs' L34 rfl rfl rfl rfl (fun b_11 => ?_)
   refine dN (.skip (.skip (.keep (.keep (.keep .nil))))) le_10 ?_
   refine dE 15 (by kernel_rfl) rfl ?_
   have hmk : ml4 = k4 := by have h1 := congrArg List.length pk42; rw [List.length_map, List.length_map, List.length_take] at h1; omega
   have hmb := (hf.at 4).lTl
   refine ap (k := 1) (news := f5 ((ct91, tl_MetadataResponseTopicPartition (lT (T.at 4))[k4]) : EE)) Tryz.underlying34 I37 rfl rfl pk40 (fun _ => (.tail .head)) (src_says Tryz.underlying34 rfl (fun _ => Says.own .head) (f5_one _)) (by omega) (by unfold maxLen; omega) rfl (fun a93 c93 N93 r93 z93 => ?_)
   rw [flatMap_snoc'] at r93
   refine dN (.skip (.skip (.keep (.keep (.keep .nil))))) le_10 ?_
   refine dE 16 (by kernel_rfl) rfl ?_
   refine ixk (j := 4) Tryz.runUnderlying34 Tryz.sizeOf37 rfl rfl rfl rfl (by decide) rfl ?_
   refine dN (.skip (.skip (.keep (.keep (.keep .nil))))) le_10 ?_
   refine dU 17 rfl rfl rfl (y_fa F37_3 rfl) (.skip (.skip (.keep (.keep (.keep .nil))))) le_10 ?_
   refine dE 18 (by kernel_rfl) rfl ?_
   refine st Tryz.sizeOf34 rfl rfl rfl rfl (.tail (.tail (.tail .head))) ?_
   refine dNk (by kernel_rfl) ?_
   refine dD (by kernel_rfl) ?_
   refine Nb ?_
   refine drN .head ?_
   refine fun a_ w_ hA hw => ⟨_, _, _, hA.sub ?_, (le_6.trans le_10), hw, _, rfl, a93, (ml4 + 1), c93, (es4 ++ [((ct91, tl_MetadataResponseTopicPartition (lT (T.at 4))[k4]) : EE)]), N93, rfl, rfl, r93, (by simp; omega), (map_take_snoc (g := tl_MetadataResponseTopicPartition) hk4 pk42), (fun p hp => (mem_snoc hp).elim (fun h => (pk43 p h).mono le_10) (fun h => h ▸ hT91))⟩
   exact (.of ⟨rfl, rfl, rfl, rfl, rfl, trivial⟩)
  ·
   refine st Tryz.sizeOf4 rfl rfl rfl rfl .head ?_
   refine dN .nil ler ?_
   refine dE 1 (by kernel_rfl) rfl ?_
   refine st Tryz.sizeOf4 rfl rfl rfl rfl .head ?_
   refine dN .nil ler ?_
   refine dE 3 (by kernel_rfl) rfl ?_
   refine ld (Says.own .head) Tryz.isAgg4 rfl (Nat.zero_add _).symm rfl rfl ?_
   refine dN .nil ler ?_
   refine dD (by kernel_rfl) ?_
   refine drN .head ?_
   refine Nt ?_
   refine cT rfl ?_
   refine sq ?_
   refine rgD 17 (.skip (.keep (.keep (.keep .nil)))) mixed ?_
   refine dU 0 rfl rfl rfl (y_fa0 F37_3 rfl) (.skip (.keep (.keep (.keep .nil)))) ler ?_
   refine dU 1 rfl rfl rfl (y_ld (Says.own .head) Tryz.isAgg34 rfl (Nat.zero_add _).symm rfl) (.skip (.keep (.keep (.keep .nil)))) ler ?_
   refine dU 2 rfl rfl rfl (y_ix2 (j := 4) Tryz.runUnderlying34 Tryz.sizeOf37 rfl rfl rfl rfl (by decide)) (.skip (.keep (.keep (.keep .nil)))) ler ?_
   refine dU 3 rfl rfl rfl (y_fa F37_3 rfl) (.skip (.keep (.keep (.keep .nil)))) ler ?_
   refine dU 4 rfl rfl rfl (y_ld (Says.own (.tail .head)) Tryz.isAgg34 rfl (Nat.zero_add _).symm rfl) (.skip (.keep (.keep (.keep .nil)))) ler ?_
   refine dU 5 rfl rfl rfl (y_mv rfl) (.skip (.keep (.keep (.keep .nil)))) ler ?_
   refine dU 6 rfl rfl rfl (y_nc rfl) (.skip (.keep (.keep (.keep .nil)))) ler ?_
   refine dU 7 rfl rfl rfl (y_fa F90_4 rfl) (.skip (.keep (.keep (.keep .nil)))) ler ?_
   refine dU 8 rfl rfl rfl (y_ld (j := 19) (Says.fz (hb.mono (le_4.trans (hlu30.trans le_6)))) Tryz.isAgg88 rfl rfl rfl) (.skip (.keep (.keep (.keep .nil)))) ler ?_
   refine dU 9 rfl rfl rfl (y_mv rfl) (.skip (.keep (.keep (.keep .nil)))) ler ?_
   obtain ⟨beq_12, oeq_12, haq_12, hlq_12⟩ := ((h2.mono At_MetadataResponseTopicPartition.mono (le_4.trans (hlu30.trans le_6)))).rows.at_ (ne_nil_of_lt hk4)
   obtain ⟨ceq_12, hAq_12, hbq_12⟩ := hlq_12 k4 hk4
   refine dU 10 rfl rfl rfl (y_ixk (j := k4) Tryz.runUnderlying88 Tryz.sizeOf116 rfl haq_12 rfl rfl hk4) (.skip (.keep (.keep (.keep .nil)))) ler ?_
   refine dU 12 rfl rfl rfl (y_ls Tryz.runUnderlying34 rfl) (.skip (.keep (.keep (.keep .nil)))) ler ?_
   refine dE2 11 13 (by kernel_rfl) rfl rfl ?_ ?_
   ·
    refine cl rfl rfl rfl (te_MetadataResponseTopicPartition hbq_12 (At_MetadataResponseTopicPartition.mono _ _ _ _ ler hAq_12) ((hf.at 4).lTel (List.getElem_mem hk4))) rfl (fun v_ H1 L1 le_13 hR_ => ?_)
    obtain ⟨rfl, ct71, rfl, hT71⟩ := hR_
    refine dN (.skip (.keep (.keep (.keep .nil)))) le_13 ?_
    refine dE 13 (by kernel_rfl) rfl ?_
    refine bs' L34 rfl rfl rfl rfl (fun b_14 => ?_)
    refine dN (.skip (.skip (.keep (.keep (.keep .nil))))) le_13 ?_
    refine dE 14 (by kernel_rfl) rfl ?_
    have hmk : ml4 = k4 := by have h1 := congrArg List.length pk42; rw [List.length_map, List.length_map, List.length_take] at h1; omega
    have hmb := (hf.at 4).lTl
    refine ap (k := 1) (news := f5 ((TC.none, Tr.none) : EE)) Tryz.underlying34 I37 rfl rfl pk40 (fun _ => (.tail .head)) (src_says Tryz.underlying34 rfl (fun _ => Says.own .head) (f5_one _)) (by omega) (by unfold maxLen; omega) rfl (fun a74 c74 N74 r74 z74 => ?_)
    refine dN (.skip (.skip (.keep (.keep (.keep .nil))))) le_13 ?_
    refine dE 15 (by kernel_rfl) rfl ?_
    refine ixk (j := 4) Tryz.runUnderlying34 Tryz.sizeOf37 rfl rfl rfl rfl (by decide) rfl ?_
    refine dN (.skip (.skip (.keep (.keep (.keep .nil))))) le_13 ?_
    refine dU 16 rfl rfl rfl (y_fa F37_3 rfl) (.skip (.skip (.keep (.keep (.keep .nil))))) le_13 ?_
    refine dE 17 (by kernel_rfl) rfl ?_
    refine st Tryz.sizeOf34 rfl rfl rfl rfl (.tail (.tail (.tail .head))) ?_
    refine dNk (by kernel_rfl) ?_
    refine dD (by kernel_rfl) ?_
    refine Nt ?_
    refine rg ?_
    obtain ⟨gg74, hgg74⟩ := r74.addr (by omega)
    refine ixk (j := ml4) Tryz.runUnderlying34 Tryz.sizeOf37 rfl hgg74 rfl rfl (by omega) rfl ?_
    refine sR (ds := f5 ((ct71, tl_MetadataResponseTopicPartition (lT (T.at 4))[k4]) : EE)) r74 hgg74 (fun _ => (.tail .head)) Tryz.sizeOf37 rfl rfl rfl rfl (by omega) (fun N74b r74b => ?_)
    rw [row_put (k := 5) (m := ml4) (A := es4.flatMap f5) (by rw [flatMap_len f5 5 f5_len, pk41]) rfl, flatMap_snoc'] at r74b
    refine nN ?_
    refine Nb ?_
    refine drN .head ?_
    refine fun a_ w_ hA hw => ⟨_, _, _, hA.sub ?_, (le_6.trans le_13), hw, _, rfl, a74, (ml4 + 1), c74, (es4 ++ [((ct71, tl_MetadataResponseTopicPartition (lT (T.at 4))[k4]) : EE)]), N74b, rfl, rfl, r74b, (by simp; omega), (map_take_snoc (g := tl_MetadataResponseTopicPartition) hk4 pk42), (fun p hp => (mem_snoc hp).elim (fun h => (pk43 p h).mono le_13) (fun h => h ▸ hT71))⟩
    exact (.of ⟨rfl, rfl, rfl, rfl, rfl, trivial⟩)
   ·
    refine bs' L34 rfl rfl rfl rfl (fun b_15 => ?_)
    refine dN (.skip (.skip (.keep (.keep (.keep .nil))))) ler ?_
    refine dE 11 (by kernel_rfl) rfl ?_
    refine cl rfl rfl rfl (te_MetadataResponseTopicPartition hbq_12 (At_MetadataResponseTopicPartition.mono _ _ _ _ ler hAq_12) ((hf.at 4).lTel (List.getElem_mem hk4))) rfl (fun v_ H1 L1 le_16 hR_ => ?_)
    obtain ⟨rfl, ct71, rfl, hT71⟩ := hR_
    refine dN (.skip (.skip (.keep (.keep (.keep .nil))))) le_16 ?_
    refine dE 14 (by kernel_rfl) rfl ?_
    have hmk : ml4 = k4 := by have h1 := congrArg List.length pk42; rw [List.length_map, List.length_map, List.length_take] at h1; omega
    have hmb := (hf.at 4).lTl
    refine ap (k := 1) (news := f5 ((TC.none, Tr.none) : EE)) Tryz.underlying34 I37 rfl rfl pk40 (fun _ => (.tail .head)) (src_says Tryz.underlying34 rfl (fun _ => Says.own .head) (f5_one _)) (by omega) (by unfold maxLen; omega) rfl (fun a74 c74 N74 r74 z74 => ?_)
    refine dN (.skip (.skip (.keep (.keep (.keep .nil))))) le_16 ?_
    refine dE 15 (by kernel_rfl) rfl ?_
    refine ixk (j := 4) Tryz.runUnderlying34 Tryz.sizeOf37 rfl rfl rfl rfl (by decide) rfl ?_
    refine dN (.skip (.skip (.keep (.keep (.keep .nil))))) le_16 ?_
    refine dU 16 rfl rfl rfl (y_fa F37_3 rfl) (.skip (.skip (.keep (.keep (.keep .nil))))) le_16 ?_
    refine dE 17 (by kernel_rfl) rfl ?_
    refine st Tryz.sizeOf34 rfl rfl rfl rfl (.tail (.tail (.tail .head))) ?_
    refine dNk (by kernel_rfl) ?_
    refine dD (by kernel_rfl) ?_
    refine Nt ?_
    refine rg ?_
    obtain ⟨gg74, hgg74⟩ := r74.addr (by omega)
    refine ixk (j := ml4) Tryz.runUnderlying34 Tryz.sizeOf37 rfl hgg74 rfl rfl (by omega) rfl ?_
    refine sR (ds := f5 ((ct71, tl_MetadataResponseTopicPartition (lT (T.at 4))[k4]) : EE)) r74 hgg74 (fun _ => (.tail .head)) Tryz.sizeOf37 rfl rfl rfl rfl (by omega) (fun N74b r74b => ?_)
    rw [row_put (k := 5) (m := ml4) (A := es4.flatMap f5) (by rw [flatMap_len f5 5 f5_len, pk41]) rfl, flatMap_snoc'] at r74b
    refine nN ?_
    refine Nb ?_
    refine drN .head ?_
    refine fun a_ w_ hA hw => ⟨_, _, _, hA.sub ?_, (le_6.trans le_16), hw, _, rfl, a74, (ml4 + 1), c74, (es4 ++ [((ct71, tl_MetadataResponseTopicPartition (lT (T.at 4))[k4]) : EE)]), N74b, rfl, rfl, r74b, (by simp; omega), (map_take_snoc (g := tl_MetadataResponseTopicPartition) hk4 pk42), (fun p hp => (mem_snoc hp).elim (fun h => (pk43 p h).mono le_16) (fun h => h ▸ hT71))⟩
    exact (.of ⟨rfl, rfl, rfl, rfl, rfl, trivial⟩)
 ·
  obtain ⟨al4, ml4, cl4, es4, Nl4, rfl, rfl, pk40, pk41, pk42, pk43⟩ := hI
  refine toWp ?_
  have hes4 : es4.map (·.2) = (lT (T.at 4)).map tl_MetadataResponseTopicPartition := by rw [pk42, List.take_length]
  have hm4 : ml4 = ((lT (T.at 4)).map tl_MetadataResponseTopicPartition).length := by rw [← hes4, List.length_map]; exact pk41
  refine frW pk40 .head (fun Hl4 hll4 hzl4 => ?_)
  have ht4 := TreesAt.row hzl4 pk41 pk40.le.1 (by have h1 := congrArg List.length hes4; rw [List.length_map, List.length_map] at h1; unfold B47; omega) (fun p hp => (pk43 p hp).mono hll4)
  rw [hes4] at ht4
  subst hm4
  refine sq ?_
  refine rgD 9 kp3 mixed ?_
  refine dU 0 rfl rfl rfl (y_fa0 F37_3 rfl) kp3 ler ?_
  refine dU 1 rfl rfl rfl (y_ld (Says.own .head) Tryz.isAgg34 rfl (Nat.zero_add _).symm rfl) kp3 ler ?_
  refine dU 2 rfl rfl rfl (y_mv rfl) kp3 ler ?_
  refine dU 3 rfl rfl rfl (y_nc rfl) kp3 ler ?_
  refine dU 4 rfl rfl rfl (y_fa F90_5 rfl) kp3 ler ?_
  refine dU 5 rfl rfl rfl (y_ld (j := 20) (Says.fz (hb.mono (le_4.trans (hlu30.trans (le_7.trans hll4))))) Tryz.isAgg21 rfl rfl rfl) kp3 ler ?_
  refine dU 6 rfl rfl rfl (y_cv Tryz.runUnderlying21 Tryz.runUnderlying2 rfl (i32_64 _)) kp3 ler ?_
  refine dU 7 rfl rfl rfl (y_bd S37 rfl rfl) kp3 ler ?_
  refine dU 8 rfl rfl rfl (y_ix2 (j := 5) Tryz.runUnderlying34 Tryz.sizeOf37 rfl rfl rfl rfl (by decide)) kp3 ler ?_
  refine dE 9 (by kernel_rfl) rfl ?_
  refine sa Tryz.sizeOf37 rfl rfl rfl rfl rfl (.tail .head) ?_
  refine dNk (by kernel_rfl) ?_
  refine dD (by kernel_rfl) ?_
  refine Nt ?_
  refine sr ?_
  refine mv rfl rfl ?_
  refine nc rfl rfl ?_
  refine fa F90_6 rfl rfl ?_
  refine mkf rfl rfl ?_
  have hkv_ := (h3.mono (le_4.trans (hlu30.trans (le_7.trans hll4))))
  obtain ⟨kvs, hM, hlen, hel⟩ := hkv_
  have hfu := hf.u
  refine cl rfl rfl rfl (t_each (j := 21) (I := fun i H1 Y => TgI 69 b_3 37 (.int .i64 0) (.slice none 0 0) (.bool false) (_) T.u i H1 Y) (hb.mono (le_4.trans (hlu30.trans (le_7.trans hll4)))) rfl hM (by omega) (fun i H1 H2 Y hle h => h.mono hle) TgI.start (fun i k v H1 Y L1 hi hle hI => ?_)) rfl (fun v_ H1 L1 le_18 hR_ => ?_)
  ·
   obtain ⟨s, h1, ⟨va, vc, rfl, hx⟩, h2, h3⟩ := hel i k v hi
   have hik := sortKv_lt hi
   exact TgI.step (fun {_ _ _ _ _ _ _ _ _ _ _ _ _ _ _ _} => tc_71) hf.v (by omega) h1 (hx.mono hle) h2 h3 hI
  rw [hlen] at hR_
  obtain ⟨_, rfl, aU, cU, NU, esU, rfl, hrU, heU, hgU⟩ := hR_
  refine splL ?_
  rw [List.take_length] at heU
  refine frL hrU (.tail .head) (fun HU hleU hzU => ?_)
  have hU := (TagsAt.told hzU hrU heU hfu (fun p hp => (hgU p hp).mono hleU)).1
  refine nl ?_
  refine sr ?_
  refine fa0 F37_4 rfl rfl ?_
  refine ld (Says.own .head) Tryz.isAgg35 rfl (Nat.zero_add _).symm rfl rfl ?_
  refine cl rfl rfl rfl (k_sorted hU (h3.mono (le_4.trans (hlu30.trans (le_7.trans (hll4.trans (le_18.trans hleU)))))).rise) rfl (fun v_ H1 L1 hle_ hR_ => ?_)
  obtain ⟨rfl, rfl⟩ := hR_
  refine nl ?_
  refine sr ?_
  refine la (Says.own .head) Tryz.isAgg37 Tryz.sizeOf37 rfl (Nat.zero_add _).symm rfl rfl ?_
  refine sa Tryz.sizeOf37 rfl rfl rfl rfl rfl (.tail (.tail .head)) ?_
  refine nl ?_
  refine drW .head ?_
  refine frW (Row.whole (e := 37) (size := 5) (m := 6) (ds := [.int .i64 (IntKind.i16.wrap (T.at 0).n), .slice none 0 0, .bool false, .slice none 0 0, .slice none 0 0, .int .i64 0, .slice ct22.sa (sT (T.at 1)).length ct22.sc, .bool (T.at 1).nul, .slice ct22.la 0 ct22.lc, .slice ct22.ua 0 ct22.uc, .int .i64 0, .slice a30 16 c30, .bool false, .slice none 0 0, .slice none 0 0, .int .i64 (if (decide ((T.at 3).n % 2 = 1)) = true then 1 else 0), .slice none 0 0, .bool false, .slice none 0 0, .slice none 0 0, .int .i64 0, .slice none 0 0, .bool a4.isNone, .slice al4 ((lT (T.at 4)).map tl_MetadataResponseTopicPartition).length cl4, .slice none 0 0, .int .i64 (IntKind.i32.wrap (T.at 5).n), .slice none 0 0, .bool false, .slice none 0 0, .slice none 0 0]) rfl (by unfold maxLen; omega)) .head (fun H9 hle9 hz9 => ?_)
  have hrb : H9.at b_2 0 [.int .i64 (IntKind.i16.wrap (T.at 0).n), .slice none 0 0, .bool false, .slice none 0 0, .slice none 0 0, .int .i64 0, .slice ct22.sa (sT (T.at 1)).length ct22.sc, .bool (T.at 1).nul, .slice ct22.la 0 ct22.lc, .slice ct22.ua 0 ct22.uc, .int .i64 0, .slice a30 16 c30, .bool false, .slice none 0 0, .slice none 0 0, .int .i64 (if (decide ((T.at 3).n % 2 = 1)) = true then 1 else 0), .slice none 0 0, .bool false, .slice none 0 0, .slice none 0 0, .int .i64 0, .slice none 0 0, .bool a4.isNone, .slice al4 ((lT (T.at 4)).map tl_MetadataResponseTopicPartition).length cl4, .slice none 0 0, .int .i64 (IntKind.i32.wrap (T.at 5).n), .slice none 0 0, .bool false, .slice none 0 0, .slice none 0 0] := by
   rcases hz9 with ⟨h, _⟩ | ⟨g, h, h2⟩
   · cases h
   · cases h; exact h2
  rw [(h2).nul] at hrb
  have hq9_2 := pad16_len (T.at 2).s
  have hrb2 : H9.at b_2 0 (([((TC.none : TC), (Tr.mk (IntKind.i16.wrap (T.at 0).n) [] false [] [] : Tr)), ((ct22 : TC), (Tr.mk 0 (sT (T.at 1)) (T.at 1).nul [] [] : Tr)), ((⟨a30, c30, none, 0, none, 0⟩ : TC), (Tr.mk 0 (pad16 (T.at 2).s) false [] [] : Tr)), ((TC.none : TC), (Tr.mk (if decide ((T.at 3).n % 2 = 1) = true then 1 else 0) [] false [] [] : Tr)), ((⟨none, 0, al4, cl4, none, 0⟩ : TC), (Tr.mk 0 [] (T.at 4).nul ((lT (T.at 4)).map tl_MetadataResponseTopicPartition) [] : Tr)), ((TC.none : TC), (Tr.mk (IntKind.i32.wrap (T.at 5).n) [] false [] [] : Tr))] : List EE).flatMap fun p => p.1.cells p.2) := by
   simp only [List.flatMap_cons, List.flatMap_nil, TC.cells, Tr.n, Tr.s, Tr.nul, Tr.l, Tr.u, TC.none, pad16_len]
   exact hrb
  have hl9 : TreesAt H9 (some ⟨b_2, 0, none⟩) 6 [(.mk (IntKind.i16.wrap (T.at 0).n) [] false [] []), (.mk 0 (sT (T.at 1)) (T.at 1).nul [] []), (.mk 0 (pad16 (T.at 2).s) false [] []), (.mk (if decide ((T.at 3).n % 2 = 1) = true then 1 else 0) [] false [] []), (.mk 0 [] (T.at 4).nul ((lT (T.at 4)).map tl_MetadataResponseTopicPartition) []), (.mk (IntKind.i32.wrap (T.at 5).n) [] false [] [])] := by
   refine TreesAt.row (es := [((TC.none : TC), (Tr.mk (IntKind.i16.wrap (T.at 0).n) [] false [] [] : Tr)), ((ct22 : TC), (Tr.mk 0 (sT (T.at 1)) (T.at 1).nul [] [] : Tr)), ((⟨a30, c30, none, 0, none, 0⟩ : TC), (Tr.mk 0 (pad16 (T.at 2).s) false [] [] : Tr)), ((TC.none : TC), (Tr.mk (if decide ((T.at 3).n % 2 = 1) = true then 1 else 0) [] false [] [] : Tr)), ((⟨none, 0, al4, cl4, none, 0⟩ : TC), (Tr.mk 0 [] (T.at 4).nul ((lT (T.at 4)).map tl_MetadataResponseTopicPartition) [] : Tr)), ((TC.none : TC), (Tr.mk (IntKind.i32.wrap (T.at 5).n) [] false [] [] : Tr))]) (.inr ⟨_, rfl, hrb2⟩) rfl (Nat.le_refl _) (Nat.le_of_ble_eq_true rfl) ?_
   intro p hp
   simp only [List.mem_cons, List.not_mem_nil, or_false] at hp
   rcases hp with rfl | rfl | rfl | rfl | rfl | rfl
   · exact (.of (.nil _) (.nil _) (.nil _))
   · exact (hT22.mono (hlu30.trans (le_7.trans (hll4.trans (le_18.trans (hleU.trans hle9))))))
   · exact (.of (hb30.mono (le_7.trans (hll4.trans (le_18.trans (hleU.trans hle9))))) (.nil _) (.nil _))
   · exact (.of (.nil _) (.nil _) (.nil _))
   · exact (.of (.nil _) (ht4.mono (le_18.trans (hleU.trans hle9))) (.nil _))
   · exact (.of (.nil _) (.nil _) (.nil _))
  exact rC rfl Tryz.isAgg37 Tryz.sizeOf37 rfl .head rfl (le_4.trans (hlu30.trans (le_7.trans (hll4.trans (le_18.trans (hleU.trans hle9)))))) (fun _ _ h => h) ⟨rfl, ⟨none, 0, some ⟨b_2, 0, none⟩, 6, aU, cU⟩, rfl, .of (.nil _) hl9 (hU.mono hle9)⟩
def tl_MetadataResponse (T : Tr) : Tr := .mk 0 [] false [(.mk (IntKind.i32.wrap (T.at 0).n) [] false [] []), (.mk 0 [] (T.at 1).nul ((lT (T.at 1)).map tl_MetadataResponseBroker) []), (.mk 0 (sT (T.at 2)) (T.at 2).nul [] []), (.mk (IntKind.i32.wrap (T.at 3).n) [] false [] []), (.mk 0 [] (T.at 4).nul ((lT (T.at 4)).map tl_MetadataResponseTopic) []), (.mk (IntKind.i32.wrap (T.at 5).n) [] false [] []), (.mk (IntKind.i16.wrap (T.at 6).n) [] false [] [])] T.u
theorem te_MetadataResponse {H : Fz} {L : Own} {b o : Nat} {cs : List Value} {T : Tr} {ver : Int} (hb : H.at b o cs) (hA : At_MetadataResponse ver H T cs) (hf : Fits T) :
  Fn Tryz.prog 20 [.pointer (some ⟨b, o, none⟩)] H L (fun v H' L' => L = L' ∧ ∃ c : TC, v = .agg (c.cells (tl_MetadataResponse T)).toArray ∧ TreeAt H' c (tl_MetadataResponse T)) := by
 obtain ⟨a1, c1, p2, a4, c4, mt, rfl, h1, h2, h3, h4⟩ := hA
 refine Fn.mk Tryz.call20 Tryz.func20 rfl Tryz.ntmps20 rfl ?_
 refine sr ?_
 refine al Tryz.zeroValue37 rfl rfl (fun b_1 => ?_)
 refine nl ?_
 refine sr ?_
 refine mkC (m := 7) (zs := [.int .i64 0, .slice none 0 0, .bool false, .slice none 0 0, .slice none 0 0]) Tryz.underlying34 I37 rfl rfl rfl rfl rfl rfl (by decide) (by unfold maxLen; omega) rfl (fun b_2 => ?_)
 refine bd' S37 rfl rfl rfl ?_
 refine al Tryz.zeroValue37 rfl rfl (fun b_3 => ?_)
 refine sa Tryz.sizeOf37 rfl rfl rfl rfl rfl .head ?_
 refine nl ?_
 refine sq ?_
 refine rgD 9 kp3 mixed ?_
 refine dU 0 rfl rfl rfl (y_fa0 F37_3 rfl) kp3 ler ?_
 refine dU 1 rfl rfl rfl (y_ld (Says.own .head) Tryz.isAgg34 rfl (Nat.zero_add _).symm rfl) kp3 ler ?_
 refine dU 2 rfl rfl rfl (y_mv rfl) kp3 ler ?_
 refine dU 3 rfl rfl rfl (y_nc rfl) kp3 ler ?_
 refine dU 4 rfl rfl rfl (y_fa F78_1 rfl) kp3 ler ?_
 refine dU 5 rfl rfl rfl (y_ld (j := 1) (Says.fz hb) Tryz.isAgg21 rfl rfl rfl) kp3 ler ?_
 refine dU 6 rfl rfl rfl (y_cv Tryz.runUnderlying21 Tryz.runUnderlying2 rfl (i32_64 _)) kp3 ler ?_
 refine dU 7 rfl rfl rfl (y_bd S37 rfl rfl) kp3 ler ?_
 refine dU 8 rfl rfl rfl (y_ix2 (j := 0) Tryz.runUnderlying34 Tryz.sizeOf37 rfl rfl rfl rfl (by decide)) kp3 ler ?_
 refine dE 9 (by kernel_rfl) rfl ?_
 refine sa Tryz.sizeOf37 rfl rfl rfl rfl rfl (.tail .head) ?_
 refine dNk (by kernel_rfl) ?_
 refine dD (by kernel_rfl) ?_
 refine Nt ?_
 refine sq ?_
 refine rgD 9 kp3 mixed ?_
 refine dU 0 rfl rfl rfl (y_fa0 F37_3 rfl) kp3 ler ?_
 refine dU 1 rfl rfl rfl (y_ld (Says.own .head) Tryz.isAgg34 rfl (Nat.zero_add _).symm rfl) kp3 ler ?_
 refine dU 2 rfl rfl rfl (y_mv rfl) kp3 ler ?_
 refine dU 3 rfl rfl rfl (y_nc rfl) kp3 ler ?_
 refine dU 4 rfl rfl rfl (y_fa F78_2 rfl) kp3 ler ?_
 refine dU 5 rfl rfl rfl (y_ld (j := 2) (Says.fz hb) Tryz.isAgg71 rfl rfl rfl) kp3 ler ?_
 refine dU 6 rfl rfl rfl (y_esn Tryz.underlying71 rfl) kp3 ler ?_
 refine dE 7 (by kernel_rfl) rfl ?_
 refine ixk (j := 1) Tryz.runUnderlying34 Tryz.sizeOf37 rfl rfl rfl rfl (by decide) rfl ?_
 refine dN kp3 ler ?_
 refine dU 8 rfl rfl rfl (y_fa F37_2 rfl) kp3 ler ?_
 refine dE 9 (by kernel_rfl) rfl ?_
 refine st Tryz.sizeOf4 rfl rfl rfl rfl (.tail .head) ?_
 refine dNk (by kernel_rfl) ?_
 refine dD (by kernel_rfl) ?_
 refine Nt ?_
 refine sq ?_
 refine sr ?_
 refine mv rfl rfl ?_
 refine nc rfl rfl ?_
 refine fa F78_2 rfl rfl ?_
 refine ld (Says.fz hb) Tryz.isAgg71 rfl rfl rfl rfl ?_
 refine ls Tryz.runUnderlying71 rfl rfl ?_
 refine mv rfl rfl ?_
 refine nl ?_
 have hlm1 := (hf.at 1).lTl
 refine nulC2 ?_
 refine fr ((lT (T.at 1)).length) (fun k1 l' H' L' => ∃ (al1 : Option Addr), ∃ (ml1 : Nat), ∃ (cl1 : Nat), ∃ (es1 : List EE), ∃ (Nl1 : Chunk), [(0, .pointer (some ⟨b, o, none⟩)), (2, .pointer (some ⟨b_1, 0, none⟩)), (3, .pointer (some ⟨b_3, 0, none⟩)), (30, .int .i64 ((lT (T.at 1)).length : Int))] = l' ∧ Nl1 :: [(b_3, .cells [.int .i64 0, .slice none 0 0, .bool false, _, .slice none 0 0].toArray 37 (0, 0))] :: [(b_2, .cells [.int .i64 (IntKind.i32.wrap (T.at 0).n), .slice none 0 0, .bool false, .slice none 0 0, .slice none 0 0, .int .i64 0, .slice none 0 0, .bool a1.isNone, .slice al1 ml1 cl1, .slice none 0 0, .int .i64 0, .slice none 0 0, .bool false, .slice none 0 0, .slice none 0 0, .int .i64 0, .slice none 0 0, .bool false, .slice none 0 0, .slice none 0 0, .int .i64 0, .slice none 0 0, .bool false, .slice none 0 0, .slice none 0 0, .int .i64 0, .slice none 0 0, .bool false, .slice none 0 0, .slice none 0 0, .int .i64 0, .slice none 0 0, .bool false, .slice none 0 0, .slice none 0 0].toArray 37 (0, 0))] :: [(b_1, .cells [.int .i64 0, .slice none 0 0, .bool false, .slice none 0 0, .slice none 0 0].toArray 37 (0, 0))] :: L = L' ∧ Row 37 5 al1 ml1 cl1 (es1.flatMap f5) Nl1 ∧ ml1 = es1.length ∧ es1.map (·.2) = ((lT (T.at 1)).take k1).map tl_MetadataResponseBroker ∧ (∀ p : EE, p ∈ es1 → TreeAt H' p.1 p.2)) [(0, .pointer (some ⟨b, o, none⟩)), (2, .pointer (some ⟨b_1, 0, none⟩)), (3, .pointer (some ⟨b_3, 0, none⟩)), (30, .int .i64 ((lT (T.at 1)).length : Int))] (fun k1 l' H' L' h => ?_) (by omega) rfl (.of ⟨rfl, rfl, rfl, rfl, trivial⟩) ⟨none, 0, 0, [], [], rfl, rfl, (Row.nil _ _), rfl, (by simp), (fun p hp => by cases hp)⟩ rfl rfl rfl rfl rfl (fun k1 l' H' L' hk1 le_4 hI => ?_) (fun l' H' L' le_5 hI => ?_)
 · obtain ⟨al1, ml1, cl1, es1, Nl1, rfl, _⟩ := h; exact ⟨rfl, rfl, rfl, rfl⟩
 ·
  obtain ⟨al1, ml1, cl1, es1, Nl1, rfl, rfl, pk10, pk11, pk12, pk13⟩ := hI
  refine sr ?_
  refine mv rfl rfl ?_
  refine asg rfl rfl ?_
  refine nl ?_
  refine sq ?_
  refine rgD 4 .nil mixed ?_
  refine dE 0 (by kernel_rfl) rfl ?_
  refine al Tryz.zeroValue4 rfl rfl (fun b_6 => ?_)
  refine dN .nil ler ?_
  refine dE2 1 2 (by kernel_rfl) rfl rfl ?_ ?_
  ·
   refine st Tryz.sizeOf4 rfl rfl rfl rfl .head ?_
   refine dN .nil ler ?_
   refine dE 2 (by kernel_rfl) rfl ?_
   refine st Tryz.sizeOf4 rfl rfl rfl rfl .head ?_
   refine dN .nil ler ?_
   refine dE 3 (by kernel_rfl) rfl ?_
   refine ld (Says.own .head) Tryz.isAgg4 rfl (Nat.zero_add _).symm rfl rfl ?_
   refine dN .nil ler ?_
   refine dD (by kernel_rfl) ?_
   refine drN .head ?_
   refine Nt ?_
   refine cF rfl ?_
   refine rgD 18 (.skip (.keep (.keep (.keep .nil)))) mixed ?_
   refine dU 0 rfl rfl rfl (y_fa0 F37_3 rfl) (.skip (.keep (.keep (.keep .nil)))) ler ?_
   refine dU 1 rfl rfl rfl (y_ld (Says.own .head) Tryz.isAgg34 rfl (Nat.zero_add _).symm rfl) (.skip (.keep (.keep (.keep .nil)))) ler ?_
   refine dU 2 rfl rfl rfl (y_fa0 F37_3 rfl) (.skip (.keep (.keep (.keep .nil)))) ler ?_
   refine dU 3 rfl rfl rfl (y_ld (Says.own .head) Tryz.isAgg34 rfl (Nat.zero_add _).symm rfl) (.skip (.keep (.keep (.keep .nil)))) ler ?_
   refine dU 4 rfl rfl rfl (y_ix2 (j := 1) Tryz.runUnderlying34 Tryz.sizeOf37 rfl rfl rfl rfl (by decide)) (.skip (.keep (.keep (.keep .nil)))) ler ?_
   refine dU 5 rfl rfl rfl (y_fa F37_3 rfl) (.skip (.keep (.keep (.keep .nil)))) ler ?_
   refine dU 6 rfl rfl rfl (y_ld (Says.own (.tail .head)) Tryz.isAgg34 rfl (Nat.zero_add _).symm rfl) (.skip (.keep (.keep (.keep .nil)))) ler ?_
   refine dU 7 rfl rfl rfl (y_mv rfl) (.skip (.keep (.keep (.keep .nil)))) ler ?_
   refine dU 8 rfl rfl rfl (y_nc rfl) (.skip (.keep (.keep (.keep .nil)))) ler ?_
   refine dU 9 rfl rfl rfl (y_fa F78_2 rfl) (.skip (.keep (.keep (.keep .nil)))) ler ?_
   refine dU 10 rfl rfl rfl (y_ld (j := 2) (Says.fz (hb.mono le_4)) Tryz.isAgg71 rfl rfl rfl) (.skip (.keep (.keep (.keep .nil)))) ler ?_
   refine dU 11 rfl rfl rfl (y_mv rfl) (.skip (.keep (.keep (.keep .nil)))) ler ?_
   obtain ⟨beq_7, oeq_7, haq_7, hlq_7⟩ := ((h1.mono At_MetadataResponseBroker.mono le_4)).rows.at_ (ne_nil_of_lt hk1)
   obtain ⟨ceq_7, hAq_7, hbq_7⟩ := hlq_7 k1 hk1
   refine dU 12 rfl rfl rfl (y_ixk (j := k1) Tryz.runUnderlying71 Tryz.sizeOf83 rfl haq_7 rfl rfl hk1) (.skip (.keep (.keep (.keep .nil)))) ler ?_
   refine dE 13 (by kernel_rfl) rfl ?_
   refine cl rfl rfl rfl (te_MetadataResponseBroker hbq_7 (At_MetadataResponseBroker.mono _ _ _ _ ler hAq_7) ((hf.at 1).lTel (List.getElem_mem hk1))) rfl (fun v_ H1 L1 le_8 hR_ => ?_)
   obtain ⟨rfl, ct67, rfl, hT67⟩ := hR_
   refine dN (.skip (.keep (.keep (.keep .nil)))) le_8 ?_
   refine dE 14 (by kernel_rfl) rfl ?_
   refine bs' L34 rfl rfl rfl rfl (fun b_9 => ?_)
   refine dN (.skip (.skip (.keep (.keep (.keep .nil))))) le_8 ?_
   refine dE 15 (by kernel_rfl) rfl ?_
   have hmk : ml1 = k1 := by have h1 := congrArg List.length pk12; rw [List.length_map, List.length_map, List.length_take] at h1; omega
   have hmb := (hf.at 1).lTl
   refine ap (k := 1) (news := f5 ((ct67, tl_MetadataResponseBroker (lT (T.at 1))[k1]) : EE)) Tryz.underlying34 I37 rfl rfl pk10 (fun _ => (.tail .head)) (src_says Tryz.underlying34 rfl (fun _ => Says.own .head) (f5_one _)) (by omega) (by unfold maxLen; omega) rfl (fun a69 c69 N69 r69 z69 => ?_)
   rw [flatMap_snoc'] at r69
   refine dN (.skip (.skip (.keep (.keep (.keep .nil))))) le_8 ?_
   refine dE 16 (by kernel_rfl) rfl ?_
   refine ixk (j := 1) Tryz.runUnderlying34 Tryz.sizeOf37 rfl rfl rfl rfl (by decide) rfl ?_
   refine dN (.skip (.skip (.keep (.keep (.keep .nil))))) le_8 ?_
   refine dU 17 rfl rfl rfl (y_fa F37_3 rfl) (.skip (.skip (.keep (.keep (.keep .nil))))) le_8 ?_
   refine dE 18 (by kernel_rfl) rfl ?_
   refine st Tryz.sizeOf34 rfl rfl rfl rfl (.tail (.tail (.tail .head))) ?_
   refine dNk (by kernel_rfl) ?_
   refine dD (by kernel_rfl) ?_
   refine Nb ?_
   refine drN .head ?_
   refine fun a_ w_ hA hw => ⟨_, _, _, hA.sub ?_, (le_4.trans le_8), hw, _, rfl, a69, (ml1 + 1), c69, (es1 ++ [((ct67, tl_MetadataResponseBroker (lT (T.at 1))[k1]) : EE)]), N69, rfl, rfl, r69, (by simp; omega), (map_take_snoc (g := tl_MetadataResponseBroker) hk1 pk12), (fun p hp => (mem_snoc hp).elim (fun h => (pk13 p h).mono le_8) (fun h => h ▸ hT67))⟩
   exact (.of ⟨rfl, rfl, rfl, rfl, rfl, trivial⟩)
  ·
   refine st Tryz.sizeOf4 rfl rfl rfl rfl .head ?_
   refine dN .nil ler ?_
   refine dE 1 (by kernel_rfl) rfl ?_
   refine st Tryz.sizeOf4 rfl rfl rfl rfl .head ?_
   refine dN .nil ler ?_
   refine dE 3 (by kernel_rfl) rfl ?_
   refine ld (Says.own .head) Tryz.isAgg4 rfl (Nat.zero_add _).symm rfl rfl ?_
   refine dN .nil ler ?_
   refine dD (by kernel_rfl) ?_
   refine drN .head ?_
   refine Nt ?_
   refine cT rfl ?_
   refine sq ?_
   refine rgD 17 (.skip (.keep (.keep (.keep .nil)))) mixed ?_
   refine dU 0 rfl rfl rfl (y_fa0 F37_3 rfl) (.skip (.keep (.keep (.keep .nil)))) ler ?_
   refine dU 1 rfl rfl rfl (y_ld (Says.own .head) Tryz.isAgg34 rfl (Nat.zero_add _).symm rfl) (.skip (.keep (.keep (.keep .nil)))) ler ?_
   refine dU 2 rfl rfl rfl (y_ix2 (j := 1) Tryz.runUnderlying34 Tryz.sizeOf37 rfl rfl rfl rfl (by decide)) (.skip (.keep (.keep (.keep .nil)))) ler ?_
   refine dU 3 rfl rfl rfl (y_fa F37_3 rfl) (.skip (.keep (.keep (.keep .nil)))) ler ?_
   refine dU 4 rfl rfl rfl (y_ld (Says.own (.tail .head)) Tryz.isAgg34 rfl (Nat.zero_add _).symm rfl) (.skip (.keep (.keep (.keep .nil)))) ler ?_
   refine dU 5 rfl rfl rfl (y_mv rfl) (.skip (.keep (.keep (.keep .nil)))) ler ?_
   refine dU 6 rfl rfl rfl (y_nc rfl) (.skip (.keep (.keep (.keep .nil)))) ler ?_
   refine dU 7 rfl rfl rfl (y_fa F78_2 rfl) (.skip (.keep (.keep (.keep .nil)))) ler ?_
   refine dU 8 rfl rfl rfl (y_ld (j := 2) (Says.fz (hb.mono le_4)) Tryz.isAgg71 rfl rfl rfl) (.skip (.keep (.keep (.keep .nil)))) ler ?_
   refine dU 9 rfl rfl rfl (y_mv rfl) (.skip (.keep (.keep (.keep .nil)))) ler ?_
   obtain ⟨beq_10, oeq_10, haq_10, hlq_10⟩ := ((h1.mono At_MetadataResponseBroker.mono le_4)).rows.at_ (ne_nil_of_lt hk1)
   obtain ⟨ceq_10, hAq_10, hbq_10⟩ := hlq_10 k1 hk1
   refine dU 10 rfl rfl rfl (y_ixk (j := k1) Tryz.runUnderlying71 Tryz.sizeOf83 rfl haq_10 rfl rfl hk1) (.skip (.keep (.keep (.keep .nil)))) ler ?_
   refine dU 12 rfl rfl rfl (y_ls Tryz.runUnderlying34 rfl) (.skip (.keep (.keep (.keep .nil)))) ler ?_
   refine dE2 11 13 (by kernel_rfl) rfl rfl ?_ ?_
   ·
    refine cl rfl rfl rfl (te_MetadataResponseBroker hbq_10 (At_MetadataResponseBroker.mono _ _ _ _ ler hAq_10) ((hf.at 1).lTel (List.getElem_mem hk1))) rfl (fun v_ H1 L1 le_11 hR_ => ?_)
    obtain ⟨rfl, ct47, rfl, hT47⟩ := hR_
    refine dN (.skip (.keep (.keep (.keep .nil)))) le_11 ?_
    refine dE 13 (by kernel_rfl) rfl ?_
    refine bs' L34 rfl rfl rfl rfl (fun b_12 => ?_)
    refine dN (.skip (.skip (.keep (.keep (.keep .nil))))) le_11 ?_
    refine dE 14 (by kernel_rfl) rfl ?_
    have hmk : ml1 = k1 := by have h1 := congrArg List.length pk12; rw [List.length_map, List.length_map, List.length_take] at h1; omega
    have hmb := (hf.at 1).lTl
    refine ap (k := 1) (news := f5 ((TC.none, Tr.none) : EE)) Tryz.underlying34 I37 rfl rfl pk10 (fun _ => (.tail .head)) (src_says Tryz.underlying34 rfl (fun _ => Says.own .head) (f5_one _)) (by omega) (by unfold maxLen; omega) rfl (fun a50 c50 N50 r50 z50 => ?_)
    refine dN (.skip (.skip (.keep (.keep (.keep .nil))))) le_11 ?_
    refine dE 15 (by kernel_rfl) rfl ?_
    refine ixk (j := 1) Tryz.runUnderlying34 Tryz.sizeOf37 rfl rfl rfl rfl (by decide) rfl ?_
    refine dN (.skip (.skip (.keep (.keep (.keep .nil))))) le_11 ?_
    refine dU 16 rfl rfl rfl (y_fa F37_3 rfl) (.skip (.skip (.keep (.keep (.keep .nil))))) le_11 ?_
    refine dE 17 (by kernel_rfl) rfl ?_
    refine st Tryz.sizeOf34 rfl rfl rfl rfl (.tail (.tail (.tail .head))) ?_
    refine dNk (by kernel_rfl) ?_
    refine dD (by kernel_rfl) ?_
    refine Nt ?_
    refine rg ?_
    obtain ⟨gg50, hgg50⟩ := r50.addr (by omega)
    refine ixk (j := ml1) Tryz.runUnderlying34 Tryz.sizeOf37 rfl hgg50 rfl rfl (by omega) rfl ?_
    refine sR (ds := f5 ((ct47, tl_MetadataResponseBroker (lT (T.at 1))[k1]) : EE)) r50 hgg50 (fun _ => (.tail .head)) Tryz.sizeOf37 rfl rfl rfl rfl (by omega) (fun N50b r50b => ?_)
    rw [row_put (k := 5) (m := ml1) (A := es1.flatMap f5) (by rw [flatMap_len f5 5 f5_len, pk11]) rfl, flatMap_snoc'] at r50b
    refine nN ?_
    refine Nb ?_
    refine drN .head ?_
    refine fun a_ w_ hA hw => ⟨_, _, _, hA.sub ?_, (le_4.trans le_11), hw, _, rfl, a50, (ml1 + 1), c50, (es1 ++ [((ct47, tl_MetadataResponseBroker (lT (T.at 1))[k1]) : EE)]), N50b, rfl, rfl, r50b, (by simp; omega), (map_take_snoc (g := tl_MetadataResponseBroker) hk1 pk12), (fun p hp => (mem_snoc hp).elim (fun h => (pk13 p h).mono le_11) (fun h => h ▸ hT47))⟩
    exact (.of ⟨rfl, rfl, rfl, rfl, rfl, trivial⟩)
   ·
    refine bs' L34 rfl rfl rfl rfl (fun b_13 => ?_)
    refine dN (.skip (.skip (.keep (.keep (.keep .nil))))) ler ?_
    refine dE 11 (by kernel_rfl) rfl ?_
    refine cl rfl rfl rfl (te_MetadataResponseBroker hbq_10 (At_MetadataResponseBroker.mono _ _ _ _ ler hAq_10) ((hf.at 1).lTel (List.getElem_mem hk1))) rfl (fun v_ H1 L1 le_14 hR_ => ?_)
    obtain ⟨rfl, ct47, rfl, hT47⟩ := hR_
    refine dN (.skip (.skip (.keep (.keep (.keep .nil))))) le_14 ?_
    refine dE 14 (by kernel_rfl) rfl ?_
    have hmk : ml1 = k1 := by have h1 := congrArg List.length pk12; rw [List.length_map, List.length_map, List.length_take] at h1; omega
    have hmb := (hf.at 1).lTl
    refine ap (k := 1) (news := f5 ((TC.none, Tr.none) : EE)) Tryz.underlying34 I37 rfl rfl pk10 (fun _ => (.tail .head)) (src_says Tryz.underlying34 rfl (fun _ => Says.own .head) (f5_one _)) (by omega) (by unfold maxLen; omega) rfl (fun a50 c50 N50 r50 z50 => ?_)
    refine dN (.skip (.skip (.keep (.keep (.keep .nil))))) le_14 ?_
    refine dE 15 (by kernel_rfl) rfl ?_
    refine ixk (j := 1) Tryz.runUnderlying34 Tryz.sizeOf37 rfl rfl rfl rfl (by decide) rfl ?_
    refine dN (.skip (.skip (.keep (.keep (.keep .nil))))) le_14 ?_
    refine dU 16 rfl rfl rfl (y_fa F37_3 rfl) (.skip (.skip (.keep (.keep (.keep .nil))))) le_14 ?_
    refine dE 17 (by kernel_rfl) rfl ?_
    refine st Tryz.sizeOf34 rfl rfl rfl rfl (.tail (.tail (.tail .head))) ?_
    refine dNk (by kernel_rfl) ?_
    refine dD (by kernel_rfl) ?_
    refine Nt ?_
    refine rg ?_
    obtain ⟨gg50, hgg50⟩ := r50.addr (by omega)
    refine ixk (j := ml1) Tryz.runUnderlying34 Tryz.sizeOf37 rfl hgg50 rfl rfl (by omega) rfl ?_
    refine sR (ds := f5 ((ct47, tl_MetadataResponseBroker (lT (T.at 1))[k1]) : EE)) r50 hgg50 (fun _ => (.tail .head)) Tryz.sizeOf37 rfl rfl rfl rfl (by omega) (fun N50b r50b => ?_)
    rw [row_put (k := 5) (m := ml1) (A := es1.flatMap f5) (by rw [flatMap_len f5 5 f5_len, pk11]) rfl, flatMap_snoc'] at r50b
    refine nN ?_
    refine Nb ?_
    refine drN .head ?_
    refine fun a_ w_ hA hw => ⟨_, _, _, hA.sub ?_, (le_4.trans le_14), hw, _, rfl, a50, (ml1 + 1), c50, (es1 ++ [((ct47, tl_MetadataResponseBroker (lT (T.at 1))[k1]) : EE)]), N50b, rfl, rfl, r50b, (by simp; omega), (map_take_snoc (g := tl_MetadataResponseBroker) hk1 pk12), (fun p hp => (mem_snoc hp).elim (fun h => (pk13 p h).mono le_14) (fun h => h ▸ hT47))⟩
    exact (.of ⟨rfl, rfl, rfl, rfl, rfl, trivial⟩)
 ·
  obtain ⟨al1, ml1, cl1, es1, Nl1, rfl, rfl, pk10, pk11, pk12, pk13⟩ := hI
  refine toWp ?_
  have hes1 : es1.map (·.2) = (lT (T.at 1)).map tl_MetadataResponseBroker := by rw [pk12, List.take_length]
  have hm1 : ml1 = ((lT (T.at 1)).map tl_MetadataResponseBroker).length := by rw [← hes1, List.length_map]; exact pk11
  refine frW pk10 .head (fun Hl1 hll1 hzl1 => ?_)
  have ht1 := TreesAt.row hzl1 pk11 pk10.le.1 (by have h1 := congrArg List.length hes1; rw [List.length_map, List.length_map] at h1; unfold B47; omega) (fun p hp => (pk13 p hp).mono hll1)
  rw [hes1] at ht1
  subst hm1
  refine sq ?_
  refine rgD 8 kp3 mixed ?_
  refine dU 0 rfl rfl rfl (y_fa0 F37_3 rfl) kp3 ler ?_
  refine dU 1 rfl rfl rfl (y_ld (Says.own .head) Tryz.isAgg34 rfl (Nat.zero_add _).symm rfl) kp3 ler ?_
  refine dU 2 rfl rfl rfl (y_mv rfl) kp3 ler ?_
  refine dU 3 rfl rfl rfl (y_nc rfl) kp3 ler ?_
  refine dU 4 rfl rfl rfl (y_fa F78_3 rfl) kp3 ler ?_
  refine dU 5 rfl rfl rfl (y_ld (j := 3) (Says.fz (hb.mono (le_5.trans hll1))) Tryz.isAgg72 rfl rfl rfl) kp3 ler ?_
  refine dE 6 (by kernel_rfl) rfl ?_
  refine cl rfl rfl rfl (k_textTree (h2.mono (le_5.trans hll1)) (hf.at 2)) rfl (fun v_ H1 L1 le_15 hR_ => ?_)
  obtain ⟨rfl, ct79, rfl, hT79⟩ := hR_
  refine dN kp3 le_15 ?_
  refine dU 7 rfl rfl rfl (y_ix2 (j := 2) Tryz.runUnderlying34 Tryz.sizeOf37 rfl rfl rfl rfl (by decide)) kp3 le_15 ?_
  refine dE 8 (by kernel_rfl) rfl ?_
  refine sa Tryz.sizeOf37 rfl rfl rfl rfl rfl (.tail .head) ?_
  refine dNk (by kernel_rfl) ?_
  refine dD (by kernel_rfl) ?_
  refine Nt ?_
  refine sq ?_
  refine rgD 9 kp3 mixed ?_
  refine dU 0 rfl rfl rfl (y_fa0 F37_3 rfl) kp3 ler ?_
  refine dU 1 rfl rfl rfl (y_ld (Says.own .head) Tryz.isAgg34 rfl (Nat.zero_add _).symm rfl) kp3 ler ?_
  refine dU 2 rfl rfl rfl (y_mv rfl) kp3 ler ?_
  refine dU 3 rfl rfl rfl (y_nc rfl) kp3 ler ?_
  refine dU 4 rfl rfl rfl (y_fa F78_4 rfl) kp3 ler ?_
  refine dU 5 rfl rfl rfl (y_ld (j := 4) (Says.fz (hb.mono (le_5.trans (hll1.trans le_15)))) Tryz.isAgg21 rfl rfl rfl) kp3 ler ?_
  refine dU 6 rfl rfl rfl (y_cv Tryz.runUnderlying21 Tryz.runUnderlying2 rfl (i32_64 _)) kp3 ler ?_
  refine dU 7 rfl rfl rfl (y_bd S37 rfl rfl) kp3 ler ?_
  refine dU 8 rfl rfl rfl (y_ix2 (j := 3) Tryz.runUnderlying34 Tryz.sizeOf37 rfl rfl rfl rfl (by decide)) kp3 ler ?_
  refine dE 9 (by kernel_rfl) rfl ?_
  refine sa Tryz.sizeOf37 rfl rfl rfl rfl rfl (.tail .head) ?_
  refine dNk (by kernel_rfl) ?_
  refine dD (by kernel_rfl) ?_
  refine Nt ?_
  refine sq ?_
  refine rgD 9 kp3 mixed ?_
  refine dU 0 rfl rfl rfl (y_fa0 F37_3 rfl) kp3 ler ?_
  refine dU 1 rfl rfl rfl (y_ld (Says.own .head) Tryz.isAgg34 rfl (Nat.zero_add _).symm rfl) kp3 ler ?_
  refine dU 2 rfl rfl rfl (y_mv rfl) kp3 ler ?_
  refine dU 3 rfl rfl rfl (y_nc rfl) kp3 ler ?_
  refine dU 4 rfl rfl rfl (y_fa F78_5 rfl) kp3 ler ?_
  refine dU 5 rfl rfl rfl (y_ld (j := 5) (Says.fz (hb.mono (le_5.trans (hll1.trans le_15)))) Tryz.isAgg73 rfl rfl rfl) kp3 ler ?_
  refine dU 6 rfl rfl rfl (y_esn Tryz.underlying73 rfl) kp3 ler ?_
  refine dE 7 (by kernel_rfl) rfl ?_
  refine ixk (j := 4) Tryz.runUnderlying34 Tryz.sizeOf37 rfl rfl rfl rfl (by decide) rfl ?_
  refine dN kp3 ler ?_
  refine dU 8 rfl rfl rfl (y_fa F37_2 rfl) kp3 ler ?_
  refine dE 9 (by kernel_rfl) rfl ?_
  refine st Tryz.sizeOf4 rfl rfl rfl rfl (.tail .head) ?_
  refine dNk (by kernel_rfl) ?_
  refine dD (by kernel_rfl) ?_
  refine Nt ?_
  refine sq ?_
  refine sr ?_
  refine mv rfl rfl ?_
  refine nc rfl rfl ?_
  refine fa F78_5 rfl rfl ?_
  refine ld (Says.fz (hb.mono (le_5.trans (hll1.trans le_15)))) Tryz.isAgg73 rfl rfl rfl rfl ?_
  refine ls Tryz.runUnderlying73 rfl rfl ?_
  refine mv rfl rfl ?_
  refine nl ?_
  have hlm4 := (hf.at 4).lTl
  refine nulC2 ?_
  refine fr ((lT (T.at 4)).length) (fun k4 l' H' L' => ∃ (al4 : Option Addr), ∃ (ml4 : Nat), ∃ (cl4 : Nat), ∃ (es4 : List EE), ∃ (Nl4 : Chunk), [(0, .pointer (some ⟨b, o, none⟩)), (2, .pointer (some ⟨b_1, 0, none⟩)), (3, .pointer (some ⟨b_3, 0, none⟩)), (103, .int .i64 ((lT (T.at 4)).length : Int))] = l' ∧ Nl4 :: [(b_3, .cells [.int .i64 0, .slice none 0 0, .bool false, _, .slice none 0 0].toArray 37 (0, 0))] :: [(b_2, .cells [.int .i64 (IntKind.i32.wrap (T.at 0).n), .slice none 0 0, .bool false, .slice none 0 0, .slice none 0 0, .int .i64 0, .slice none 0 0, .bool a1.isNone, .slice al1 ((lT (T.at 1)).map tl_MetadataResponseBroker).length cl1, .slice none 0 0, .int .i64 0, .slice ct79.sa (sT (T.at 2)).length ct79.sc, .bool (T.at 2).nul, .slice ct79.la 0 ct79.lc, .slice ct79.ua 0 ct79.uc, .int .i64 (IntKind.i32.wrap (T.at 3).n), .slice none 0 0, .bool false, .slice none 0 0, .slice none 0 0, .int .i64 0, .slice none 0 0, .bool a4.isNone, .slice al4 ml4 cl4, .slice none 0 0, .int .i64 0, .slice none 0 0, .bool false, .slice none 0 0, .slice none 0 0, .int .i64 0, .slice none 0 0, .bool false, .slice none 0 0, .slice none 0 0].toArray 37 (0, 0))] :: [(b_1, .cells [.int .i64 0, .slice none 0 0, .bool false, .slice none 0 0, .slice none 0 0].toArray 37 (0, 0))] :: L = L' ∧ Row 37 5 al4 ml4 cl4 (es4.flatMap f5) Nl4 ∧ ml4 = es4.length ∧ es4.map (·.2) = ((lT (T.at 4)).take k4).map tl_MetadataResponseTopic ∧ (∀ p : EE, p ∈ es4 → TreeAt H' p.1 p.2)) [(0, .pointer (some ⟨b, o, none⟩)), (2, .pointer (some ⟨b_1, 0, none⟩)), (3, .pointer (some ⟨b_3, 0, none⟩)), (103, .int .i64 ((lT (T.at 4)).length : Int))] (fun k4 l' H' L' h => ?_) (by omega) rfl (.of ⟨rfl, rfl, rfl, rfl, trivial⟩) ⟨none, 0, 0, [], [], rfl, rfl, (Row.nil _ _), rfl, (by simp), (fun p hp => by cases hp)⟩ rfl rfl rfl rfl rfl (fun k4 l' H' L' hk4 le_16 hI => ?_) (fun l' H' L' le_17 hI => ?_)
  · obtain ⟨al4, ml4, cl4, es4, Nl4, rfl, _⟩ := h; exact ⟨rfl, rfl, rfl, rfl⟩
  ·
   obtain ⟨al4, ml4, cl4, es4, Nl4, rfl, rfl, pk40, pk41, pk42, pk43⟩ := hI
   refine sr ?_
   refine mv rfl rfl ?_
   refine asg rfl rfl ?_
   refine nl ?_
   refine sq ?_
   refine rgD 4 .nil mixed ?_
   refine dE 0 (by kernel_rfl) rfl ?_
   refine al Tryz.zeroValue4 rfl rfl (fun b_18 => ?_)
   refine dN .nil ler ?_
   refine dE2 1 2 (by kernel_rfl) rfl rfl ?_ ?_
   ·
    refine st Tryz.sizeOf4 rfl rfl rfl rfl .head ?_
    refine dN .nil ler ?_
    refine dE 2 (by kernel_rfl) rfl ?_
    refine st Tryz.sizeOf4 rfl rfl rfl rfl .head ?_
    refine dN .nil ler ?_
    refine dE 3 (by kernel_rfl) rfl ?_
    refine ld (Says.own .head) Tryz.isAgg4 rfl (Nat.zero_add _).symm rfl rfl ?_
    refine dN .nil ler ?_
    refine dD (by kernel_rfl) ?_
    refine drN .head ?_
    refine Nt ?_
    refine cF rfl ?_
    refine rgD 18 (.skip (.keep (.keep (.keep .nil)))) mixed ?_
    refine dU 0 rfl rfl rfl (y_fa0 F37_3 rfl) (.skip (.keep (.keep (.keep .nil)))) ler ?_
    refine dU 1 rfl rfl rfl (y_ld (Says.own .head) Tryz.isAgg34 rfl (Nat.zero_add _).symm rfl) (.skip (.keep (.keep (.keep .nil)))) ler ?_
    refine dU 2 rfl rfl rfl (y_fa0 F37_3 rfl) (.skip (.keep (.keep (.keep .nil)))) ler ?_
    refine dU 3 rfl rfl rfl (y_ld (Says.own .head) Tryz.isAgg34 rfl (Nat.zero_add _).symm rfl) (.skip (.keep (.keep (.keep .nil)))) ler ?_
    refine dU 4 rfl rfl rfl (y_ix2 (j := 4) Tryz.runUnderlying34 Tryz.sizeOf37 rfl rfl rfl rfl (by decide)) (.skip (.keep (.keep (.keep .nil)))) ler ?_
    refine dU 5 rfl rfl rfl (y_fa F37_3 rfl) (.skip (.keep (.keep (.keep .nil)))) ler ?_
    refine dU 6 rfl rfl rfl (y_ld (Says.own (.tail .head)) Tryz.isAgg34 rfl (Nat.zero_add _).symm rfl) (.skip (.keep (.keep (.keep .nil)))) ler ?_
    refine dU 7 rfl rfl rfl (y_mv rfl) (.skip (.keep (.keep (.keep .nil)))) ler ?_
    refine dU 8 rfl rfl rfl (y_nc rfl) (.skip (.keep (.keep (.keep .nil)))) ler ?_
    refine dU 9 rfl rfl rfl (y_fa F78_5 rfl) (.skip (.keep (.keep (.keep .nil)))) ler ?_
    refine dU 10 rfl rfl rfl (y_ld (j := 5) (Says.fz (hb.mono (le_5.trans (hll1.trans (le_15.trans le_16))))) Tryz.isAgg73 rfl rfl rfl) (.skip (.keep (.keep (.keep .nil)))) ler ?_
    refine dU 11 rfl rfl rfl (y_mv rfl) (.skip (.keep (.keep (.keep .nil)))) ler ?_
    obtain ⟨beq_19, oeq_19, haq_19, hlq_19⟩ := ((h3.mono At_MetadataResponseTopic.mono (le_5.trans (hll1.trans (le_15.trans le_16))))).rows.at_ (ne_nil_of_lt hk4)
    obtain ⟨ceq_19, hAq_19, hbq_19⟩ := hlq_19 k4 hk4
    refine dU 12 rfl rfl rfl (y_ixk (j := k4) Tryz.runUnderlying73 Tryz.sizeOf90 rfl haq_19 rfl rfl hk4) (.skip (.keep (.keep (.keep .nil)))) ler ?_
    refine dE 13 (by kernel_rfl) rfl ?_
    refine cl rfl rfl rfl (te_MetadataResponseTopic hbq_19 (At_MetadataResponseTopic.mono _ _ _ _ ler hAq_19) ((hf.at 4).lTel (List.getElem_mem hk4))) rfl (fun v_ H1 L1 le_20 hR_ => ?_)
    obtain ⟨rfl, ct140, rfl, hT140⟩ := hR_
    refine dN (.skip (.keep (.keep (.keep .nil)))) le_20 ?_
    refine dE 14 (by kernel_rfl) rfl ?_
    refine bs' L34 rfl rfl rfl rfl (fun b_21 => ?_)
    refine dN (.skip (.skip (.keep (.keep (.keep .nil))))) le_20 ?_
    refine dE 15 (by kernel_rfl) rfl ?_
    have hmk : ml4 = k4 := by have h1 := congrArg List.length pk42; rw [List.length_map, List.length_map, List.length_take] at h1; omega
    have hmb := (hf.at 4).lTl
    refine ap (k := 1) (news := f5 ((ct140, tl_MetadataResponseTopic (lT (T.at 4))[k4]) : EE)) Tryz.underlying34 I37 rfl rfl pk40 (fun _ => (.tail .head)) (src_says Tryz.underlying34 rfl (fun _ => Says.own .head) (f5_one _)) (by omega) (by unfold maxLen; omega) rfl (fun a142 c142 N142 r142 z142 => ?_)
    rw [flatMap_snoc'] at r142
    refine dN (.skip (.skip (.keep (.keep (.keep .nil))))) le_20 ?_
    refine dE 16 (by kernel_rfl) rfl ?_
    refine ixk (j := 4) Tryz.runUnderlying34 Tryz.sizeOf37 rfl rfl rfl rfl (by decide) rfl ?_
    refine dN (.skip (.skip (.keep (.keep (.keep .nil))))) le_20 ?_
    refine dU 17 rfl rfl rfl (y_fa F37_3 rfl) (.skip (.skip (.keep (.keep (.keep .nil))))) le_20 ?_
    refine dE 18 (by kernel_rfl) rfl ?_
    refine st Tryz.sizeOf34 rfl rfl rfl rfl (.tail (.tail (.tail .head))) ?_
    refine dNk (by kernel_rfl) ?_
    refine dD (by kernel_rfl) ?_
    refine Nb ?_
    refine drN .head ?_
    refine fun a_ w_ hA hw => ⟨_, _, _, hA.sub ?_, (le_16.trans le_20), hw, _, rfl, a142, (ml4 + 1), c142, (es4 ++ [((ct140, tl_MetadataResponseTopic (lT (T.at 4))[k4]) : EE)]), N142, rfl, rfl, r142, (by simp; omega), (map_take_snoc (g := tl_MetadataResponseTopic) hk4 pk42), (fun p hp => (mem_snoc hp).elim (fun h => (pk43 p h).mono le_20) (fun h => h ▸ hT140))⟩
    exact (.of ⟨rfl, rfl, rfl, rfl, rfl, trivial⟩)
   ·
    refine st Tryz.sizeOf4 rfl rfl rfl rfl .head ?_
    refine dN .nil ler ?_
    refine dE 1 (by kernel_rfl) rfl ?_
    refine st Tryz.sizeOf4 rfl rfl rfl rfl .head ?_
    refine dN .nil ler ?_
    refine dE 3 (by kernel_rfl) rfl ?_
    refine ld (Says.own .head) Tryz.isAgg4 rfl (Nat.zero_add _).symm rfl rfl ?_
    refine dN .nil ler ?_
    refine dD (by kernel_rfl) ?_
    refine drN .head ?_
    refine Nt ?_
    refine cT rfl ?_
    refine sq ?_
    refine rgD 17 (.skip (.keep (.keep (.keep .nil)))) mixed ?_
    refine dU 0 rfl rfl rfl (y_fa0 F37_3 rfl) (.skip (.keep (.keep (.keep .nil)))) ler ?_
    refine dU 1 rfl rfl rfl (y_ld (Says.own .head) Tryz.isAgg34 rfl (Nat.zero_add _).symm rfl) (.skip (.keep (.keep (.keep .nil)))) ler ?_
    refine dU 2 rfl rfl rfl (y_ix2 (j := 4) Tryz.runUnderlying34 Tryz.sizeOf37 rfl rfl rfl rfl (by decide)) (.skip (.keep (.keep (.keep .nil)))) ler ?_
    refine dU 3 rfl rfl rfl (y_fa F37_3 rfl) (.skip (.keep (.keep (.keep .nil)))) ler ?_
    refine dU 4 rfl rfl rfl (y_ld (Says.own (.tail .head)) Tryz.isAgg34 rfl (Nat.zero_add _).symm rfl) (.skip (.keep (.keep (.keep .nil)))) ler ?_
    refine dU 5 rfl rfl rfl (y_mv rfl) (.skip (.keep (.keep (.keep .nil)))) ler ?_
    refine dU 6 rfl rfl rfl (y_nc rfl) (.skip (.keep (.keep (.keep .nil)))) ler ?_
    refine dU 7 rfl rfl rfl (y_fa F78_5 rfl) (.skip (.keep (.keep (.keep .nil)))) ler ?_
    refine dU 8 rfl rfl rfl (y_ld (j := 5) (Says.fz (hb.mono (le_5.trans (hll1.trans (le_15.trans le_16))))) Tryz.isAgg73 rfl rfl rfl) (.skip (.keep (.keep (.keep .nil)))) ler ?_
    refine dU 9 rfl rfl rfl (y_mv rfl) (.skip (.keep (.keep (.keep .nil)))) ler ?_
    obtain ⟨beq_22, oeq_22, haq_22, hlq_22⟩ := ((h3.mono At_MetadataResponseTopic.mono (le_5.trans (hll1.trans (le_15.trans le_16))))).rows.at_ (ne_nil_of_lt hk4)
    obtain ⟨ceq_22, hAq_22, hbq_22⟩ := hlq_22 k4 hk4
    refine dU 10 rfl rfl rfl (y_ixk (j := k4) Tryz.runUnderlying73 Tryz.sizeOf90 rfl haq_22 rfl rfl hk4) (.skip (.keep (.keep (.keep .nil)))) ler ?_
    refine dU 12 rfl rfl rfl (y_ls Tryz.runUnderlying34 rfl) (.skip (.keep (.keep (.keep .nil)))) ler ?_
    refine dE2 11 13 (by kernel_rfl) rfl rfl ?_ ?_
    ·
     refine cl rfl rfl rfl (te_MetadataResponseTopic hbq_22 (At_MetadataResponseTopic.mono _ _ _ _ ler hAq_22) ((hf.at 4).lTel (List.getElem_mem hk4))) rfl (fun v_ H1 L1 le_23 hR_ => ?_)
     obtain ⟨rfl, ct120, rfl, hT120⟩ := hR_
     refine dN (.skip (.keep (.keep (.keep .nil)))) le_23 ?_
     refine dE 13 (by kernel_rfl) rfl ?_
     refine bs' L34 rfl rfl rfl rfl (fun b_24 => ?_)
     refine dN (.skip (.skip (.keep (.keep (.keep .nil))))) le_23 ?_
     refine dE 14 (by kernel_rfl) rfl ?_
     have hmk : ml4 = k4 := by have h1 := congrArg List.length pk42; rw [List.length_map, List.length_map, List.length_take] at h1; omega
     have hmb := (hf.at 4).lTl
     refine ap (k := 1) (news := f5 ((TC.none, Tr.none) : EE)) Tryz.underlying34 I37 rfl rfl pk40 (fun _ => (.tail .head)) (src_says Tryz.underlying34 rfl (fun _ => Says.own .head) (f5_one _)) (by omega) (by unfold maxLen; omega) rfl (fun a123 c123 N123 r123 z123 => ?_)
     refine dN (.skip (.skip (.keep (.keep (.keep .nil))))) le_23 ?_
     refine dE 15 (by kernel_rfl) rfl ?_
     refine ixk (j := 4) Tryz.runUnderlying34 Tryz.sizeOf37 rfl rfl rfl rfl (by decide) rfl ?_
     refine dN (.skip (.skip (.keep (.keep (.keep .nil))))) le_23 ?_
     refine dU 16 rfl rfl rfl (y_fa F37_3 rfl) (.skip (.skip (.keep (.keep (.keep .nil))))) le_23 ?_
     refine dE 17 (by kernel_rfl) rfl ?_
     refine st Tryz.sizeOf34 rfl rfl rfl rfl (.tail (.tail (.tail .head))) ?_
     refine dNk (by kernel_rfl) ?_
     refine dD (by kernel_rfl) ?_
     refine Nt ?_
     refine rg ?_
     obtain ⟨gg123, hgg123⟩ := r123.addr (by omega)
     refine ixk (j := ml4) Tryz.runUnderlying34 Tryz.sizeOf37 rfl hgg123 rfl rfl (by omega) rfl ?_
     refine sR (ds := f5 ((ct120, tl_MetadataResponseTopic (lT (T.at 4))[k4]) : EE)) r123 hgg123 (fun _ => (.tail .head)) Tryz.sizeOf37 rfl rfl rfl rfl (by omega) (fun N123b r123b => ?_)
     rw [row_put (k := 5) (m := ml4) (A := es4.flatMap f5) (by rw [flatMap_len f5 5 f5_len, pk41]) rfl, flatMap_snoc'] at r123b
     refine nN ?_
     refine Nb ?_
     refine drN .head ?_
     refine fun a_ w_ hA hw => ⟨_, _, _, hA.sub ?_, (le_16.trans le_23), hw, _, rfl, a123, (ml4 + 1), c123, (es4 ++ [((ct120, tl_MetadataResponseTopic (lT (T.at 4))[k4]) : EE)]), N123b, rfl, rfl, r123b, (by simp; omega), (map_take_snoc (g := tl_MetadataResponseTopic) hk4 pk42), (fun p hp => (mem_snoc hp).elim (fun h => (pk43 p h).mono le_23) (fun h => h ▸ hT120))⟩
     exact (.of ⟨rfl, rfl, rfl, rfl, rfl, trivial⟩)
    ·
     refine bs' L34 rfl rfl rfl rfl (fun b_25 => ?_)
     refine dN (.skip (.skip (.keep (.keep (.keep .nil))))) ler ?_
     refine dE 11 (by kernel_rfl) rfl ?_
     refine cl rfl rfl rfl (te_MetadataResponseTopic hbq_22 (At_MetadataResponseTopic.mono _ _ _ _ ler hAq_22) ((hf.at 4).lTel (List.getElem_mem hk4))) rfl (fun v_ H1 L1 le_26 hR_ => ?_)
     obtain ⟨rfl, ct120, rfl, hT120⟩ := hR_
     refine dN (.skip (.skip (.keep (.keep (.keep .nil))))) le_26 ?_
     refine dE 14 (by kernel_rfl) rfl ?_
     have hmk : ml4 = k4 := by have h1 := congrArg List.length pk42; rw [List.length_map, List.length_map, List.length_take] at h1; omega
     have hmb := (hf.at 4).lTl
     refine ap (k := 1) (news := f5 ((TC.none, Tr.none) : EE)) Tryz.underlying34 I37 rfl rfl pk40 (fun _ => (.tail .head)) (src_says Tryz.underlying34 rfl (fun _ => Says.own .head) (f5_one _)) (by omega) (by unfold maxLen; omega) rfl (fun a123 c123 N123 r123 z123 => ?_)
     refine dN (.skip (.skip (.keep (.keep (.keep .nil))))) le_26 ?_
     refine dE 15 (by kernel_rfl) rfl ?_
     refine ixk (j := 4) Tryz.runUnderlying34 Tryz.sizeOf37 rfl rfl rfl rfl (by decide) rfl ?_
     refine dN (.skip (.skip (.keep (.keep (.keep .nil))))) le_26 ?_
     refine dU 16 rfl rfl rfl (y_fa F37_3 rfl) (.skip (.skip (.keep (.keep (.keep .nil))))) le_26 ?_
     refine dE 17 (by kernel_rfl) rfl ?_
     refine st Tryz.sizeOf34 rfl rfl rfl rfl (.tail (.tail (.tail .head))) ?_
     refine dNk (by kernel_rfl) ?_
     refine dD (by kernel_rfl) ?_
     refine Nt ?_
     refine rg ?_
     obtain ⟨gg123, hgg123⟩ := r123.addr (by omega)
     refine ixk (j := ml4) Tryz.runUnderlying34 Tryz.sizeOf37 rfl hgg123 rfl rfl (by omega) rfl ?_
     refine sR (ds := f5 ((ct120, tl_MetadataResponseTopic (lT (T.at 4))[k4]) : EE)) r123 hgg123 (fun _ => (.tail .head)) Tryz.sizeOf37 rfl rfl rfl rfl (by omega) (fun N123b r123b => ?_)
     rw [row_put (k := 5) (m := ml4) (A := es4.flatMap f5) (by rw [flatMap_len f5 5 f5_len, pk41]) rfl, flatMap_snoc'] at r123b
     refine nN ?_
     refine Nb ?_
     refine drN .head ?_
     refine fun a_ w_ hA hw => ⟨_, _, _, hA.sub ?_, (le_16.trans le_26), hw, _, rfl, a123, (ml4 + 1), c123, (es4 ++ [((ct120, tl_MetadataResponseTopic (lT (T.at 4))[k4]) : EE)]), N123b, rfl, rfl, r123b, (by simp; omega), (map_take_snoc (g := tl_MetadataResponseTopic) hk4 pk42), (fun p hp => (mem_snoc hp).elim (fun h => (pk43 p h).mono le_26) (fun h => h ▸ hT120))⟩
     exact (.of ⟨rfl, rfl, rfl, rfl, rfl, trivial⟩)
  ·
   obtain ⟨al4, ml4, cl4, es4, Nl4, rfl, rfl, pk40, pk41, pk42, pk43⟩ := hI
   refine toWp ?_
   have hes4 : es4.map (·.2) = (lT (T.at 4)).map tl_MetadataResponseTopic := by rw [pk42, List.take_length]
   have hm4 : ml4 = ((lT (T.at 4)).map tl_MetadataResponseTopic).length := by rw [← hes4, List.length_map]; exact pk41
   refine frW pk40 .head (fun Hl4 hll4 hzl4 => ?_)
   have ht4 := TreesAt.row hzl4 pk41 pk40.le.1 (by have h1 := congrArg List.length hes4; rw [List.length_map, List.length_map] at h1; unfold B47; omega) (fun p hp => (pk43 p hp).mono hll4)
   rw [hes4] at ht4
   subst hm4
   refine sq ?_
   refine rgD 9 kp3 mixed ?_
   refine dU 0 rfl rfl rfl (y_fa0 F37_3 rfl) kp3 ler ?_
   refine dU 1 rfl rfl rfl (y_ld (Says.own .head) Tryz.isAgg34 rfl (Nat.zero_add _).symm rfl) kp3 ler ?_
   refine dU 2 rfl rfl rfl (y_mv rfl) kp3 ler ?_
   refine dU 3 rfl rfl rfl (y_nc rfl) kp3 ler ?_
   refine dU 4 rfl rfl rfl (y_fa F78_6 rfl) kp3 ler ?_
   refine dU 5 rfl rfl rfl (y_ld (j := 6) (Says.fz (hb.mono (le_5.trans (hll1.trans (le_15.trans (le_17.trans hll4)))))) Tryz.isAgg21 rfl rfl rfl) kp3 ler ?_
   refine dU 6 rfl rfl rfl (y_cv Tryz.runUnderlying21 Tryz.runUnderlying2 rfl (i32_64 _)) kp3 ler ?_
   refine dU 7 rfl rfl rfl (y_bd S37 rfl rfl) kp3 ler ?_
   refine dU 8 rfl rfl rfl (y_ix2 (j := 5) Tryz.runUnderlying34 Tryz.sizeOf37 rfl rfl rfl rfl (by decide)) kp3 ler ?_
   refine dE 9 (by kernel_rfl) rfl ?_
   refine sa Tryz.sizeOf37 rfl rfl rfl rfl rfl (.tail .head) ?_
   refine dNk (by kernel_rfl) ?_
   refine dD (by kernel_rfl) ?_
   refine Nt ?_
   refine sq ?_
   refine rgD 9 kp3 mixed ?_
   refine dU 0 rfl rfl rfl (y_fa0 F37_3 rfl) kp3 ler ?_
   refine dU 1 rfl rfl rfl (y_ld (Says.own .head) Tryz.isAgg34 rfl (Nat.zero_add _).symm rfl) kp3 ler ?_
   refine dU 2 rfl rfl rfl (y_mv rfl) kp3 ler ?_
   refine dU 3 rfl rfl rfl (y_nc rfl) kp3 ler ?_
   refine dU 4 rfl rfl rfl (y_fa F78_7 rfl) kp3 ler ?_
   refine dU 5 rfl rfl rfl (y_ld (j := 7) (Says.fz (hb.mono (le_5.trans (hll1.trans (le_15.trans (le_17.trans hll4)))))) Tryz.isAgg46 rfl rfl rfl) kp3 ler ?_
   refine dU 6 rfl rfl rfl (y_cv Tryz.runUnderlying46 Tryz.runUnderlying2 rfl (i16_64 _)) kp3 ler ?_
   refine dU 7 rfl rfl rfl (y_bd S37 rfl rfl) kp3 ler ?_
   refine dU 8 rfl rfl rfl (y_ix2 (j := 6) Tryz.runUnderlying34 Tryz.sizeOf37 rfl rfl rfl rfl (by decide)) kp3 ler ?_
   refine dE 9 (by kernel_rfl) rfl ?_
   refine sa Tryz.sizeOf37 rfl rfl rfl rfl rfl (.tail .head) ?_
   refine dNk (by kernel_rfl) ?_
   refine dD (by kernel_rfl) ?_
   refine Nt ?_
   refine sr ?_
   refine mv rfl rfl ?_
   refine nc rfl rfl ?_
   refine fa F78_8 rfl rfl ?_
   refine mkf rfl rfl ?_
   have hkv_ := (h4.mono (le_5.trans (hll1.trans (le_15.trans (le_17.trans hll4)))))
   obtain ⟨kvs, hM, hlen, hel⟩ := hkv_
   have hfu := hf.u
   refine cl rfl rfl rfl (t_each (j := 8) (I := fun i H1 Y => TgI 69 b_3 37 (.int .i64 0) (.slice none 0 0) (.bool false) (_) T.u i H1 Y) (hb.mono (le_5.trans (hll1.trans (le_15.trans (le_17.trans hll4))))) rfl hM (by omega) (fun i H1 H2 Y hle h => h.mono hle) TgI.start (fun i k v H1 Y L1 hi hle hI => ?_)) rfl (fun v_ H1 L1 le_28 hR_ => ?_)
   ·
    obtain ⟨s, h1, ⟨va, vc, rfl, hx⟩, h2, h3⟩ := hel i k v hi
    have hik := sortKv_lt hi
    exact TgI.step (fun {_ _ _ _ _ _ _ _ _ _ _ _ _ _ _ _} => tc_38) hf.v (by omega) h1 (hx.mono hle) h2 h3 hI
   rw [hlen] at hR_
   obtain ⟨_, rfl, aU, cU, NU, esU, rfl, hrU, heU, hgU⟩ := hR_
   refine splL ?_
   rw [List.take_length] at heU
   refine frL hrU (.tail .head) (fun HU hleU hzU => ?_)
   have hU := (TagsAt.told hzU hrU heU hfu (fun p hp => (hgU p hp).mono hleU)).1
   refine nl ?_
   refine sr ?_
   refine fa0 F37_4 rfl rfl ?_
   refine ld (Says.own .head) Tryz.isAgg35 rfl (Nat.zero_add _).symm rfl rfl ?_
   refine cl rfl rfl rfl (k_sorted hU (h4.mono (le_5.trans (hll1.trans (le_15.trans (le_17.trans (hll4.trans (le_28.trans hleU))))))).rise) rfl (fun v_ H1 L1 hle_ hR_ => ?_)
   obtain ⟨rfl, rfl⟩ := hR_
   refine nl ?_
   refine sr ?_
   refine la (Says.own .head) Tryz.isAgg37 Tryz.sizeOf37 rfl (Nat.zero_add _).symm rfl rfl ?_
   refine sa Tryz.sizeOf37 rfl rfl rfl rfl rfl (.tail (.tail .head)) ?_
   refine nl ?_
   refine drW .head ?_
   refine frW (Row.whole (e := 37) (size := 5) (m := 7) (ds := [.int .i64 (IntKind.i32.wrap (T.at 0).n), .slice none 0 0, .bool false, .slice none 0 0, .slice none 0 0, .int .i64 0, .slice none 0 0, .bool a1.isNone, .slice al1 ((lT (T.at 1)).map tl_MetadataResponseBroker).length cl1, .slice none 0 0, .int .i64 0, .slice ct79.sa (sT (T.at 2)).length ct79.sc, .bool (T.at 2).nul, .slice ct79.la 0 ct79.lc, .slice ct79.ua 0 ct79.uc, .int .i64 (IntKind.i32.wrap (T.at 3).n), .slice none 0 0, .bool false, .slice none 0 0, .slice none 0 0, .int .i64 0, .slice none 0 0, .bool a4.isNone, .slice al4 ((lT (T.at 4)).map tl_MetadataResponseTopic).length cl4, .slice none 0 0, .int .i64 (IntKind.i32.wrap (T.at 5).n), .slice none 0 0, .bool false, .slice none 0 0, .slice none 0 0, .int .i64 (IntKind.i16.wrap (T.at 6).n), .slice none 0 0, .bool false, .slice none 0 0, .slice none 0 0]) rfl (by unfold maxLen; omega)) .head (fun H9 hle9 hz9 => ?_)
   have hrb : H9.at b_2 0 [.int .i64 (IntKind.i32.wrap (T.at 0).n), .slice none 0 0, .bool false, .slice none 0 0, .slice none 0 0, .int .i64 0, .slice none 0 0, .bool a1.isNone, .slice al1 ((lT (T.at 1)).map tl_MetadataResponseBroker).length cl1, .slice none 0 0, .int .i64 0, .slice ct79.sa (sT (T.at 2)).length ct79.sc, .bool (T.at 2).nul, .slice ct79.la 0 ct79.lc, .slice ct79.ua 0 ct79.uc, .int .i64 (IntKind.i32.wrap (T.at 3).n), .slice none 0 0, .bool false, .slice none 0 0, .slice none 0 0, .int .i64 0, .slice none 0 0, .bool a4.isNone, .slice al4 ((lT (T.at 4)).map tl_MetadataResponseTopic).length cl4, .slice none 0 0, .int .i64 (IntKind.i32.wrap (T.at 5).n), .slice none 0 0, .bool false, .slice none 0 0, .slice none 0 0, .int .i64 (IntKind.i16.wrap (T.at 6).n), .slice none 0 0, .bool false, .slice none 0 0, .slice none 0 0] := by
    rcases hz9 with ⟨h, _⟩ | ⟨g, h, h2⟩
    · cases h
    · cases h; exact h2
   rw [(h1).nul, (h3).nul] at hrb
   have hrb2 : H9.at b_2 0 (([((TC.none : TC), (Tr.mk (IntKind.i32.wrap (T.at 0).n) [] false [] [] : Tr)), ((⟨none, 0, al1, cl1, none, 0⟩ : TC), (Tr.mk 0 [] (T.at 1).nul ((lT (T.at 1)).map tl_MetadataResponseBroker) [] : Tr)), ((ct79 : TC), (Tr.mk 0 (sT (T.at 2)) (T.at 2).nul [] [] : Tr)), ((TC.none : TC), (Tr.mk (IntKind.i32.wrap (T.at 3).n) [] false [] [] : Tr)), ((⟨none, 0, al4, cl4, none, 0⟩ : TC), (Tr.mk 0 [] (T.at 4).nul ((lT (T.at 4)).map tl_MetadataResponseTopic) [] : Tr)), ((TC.none : TC), (Tr.mk (IntKind.i32.wrap (T.at 5).n) [] false [] [] : Tr)), ((TC.none : TC), (Tr.mk (IntKind.i16.wrap (T.at 6).n) [] false [] [] : Tr))] : List EE).flatMap fun p => p.1.cells p.2) := by exact hrb
   have hl9 : TreesAt H9 (some ⟨b_2, 0, none⟩) 7 [(.mk (IntKind.i32.wrap (T.at 0).n) [] false [] []), (.mk 0 [] (T.at 1).nul ((lT (T.at 1)).map tl_MetadataResponseBroker) []), (.mk 0 (sT (T.at 2)) (T.at 2).nul [] []), (.mk (IntKind.i32.wrap (T.at 3).n) [] false [] []), (.mk 0 [] (T.at 4).nul ((lT (T.at 4)).map tl_MetadataResponseTopic) []), (.mk (IntKind.i32.wrap (T.at 5).n) [] false [] []), (.mk (IntKind.i16.wrap (T.at 6).n) [] false [] [])] := by
    refine TreesAt.row (es := [((TC.none : TC), (Tr.mk (IntKind.i32.wrap (T.at 0).n) [] false [] [] : Tr)), ((⟨none, 0, al1, cl1, none, 0⟩ : TC), (Tr.mk 0 [] (T.at 1).nul ((lT (T.at 1)).map tl_MetadataResponseBroker) [] : Tr)), ((ct79 : TC), (Tr.mk 0 (sT (T.at 2)) (T.at 2).nul [] [] : Tr)), ((TC.none : TC), (Tr.mk (IntKind.i32.wrap (T.at 3).n) [] false [] [] : Tr)), ((⟨none, 0, al4, cl4, none, 0⟩ : TC), (Tr.mk 0 [] (T.at 4).nul ((lT (T.at 4)).map tl_MetadataResponseTopic) [] : Tr)), ((TC.none : TC), (Tr.mk (IntKind.i32.wrap (T.at 5).n) [] false [] [] : Tr)), ((TC.none : TC), (Tr.mk (IntKind.i16.wrap (T.at 6).n) [] false [] [] : Tr))]) (.inr ⟨_, rfl, hrb2⟩) rfl (Nat.le_refl _) (Nat.le_of_ble_eq_true rfl) ?_
    intro p hp
    simp only [List.mem_cons, List.not_mem_nil, or_false] at hp
    rcases hp with rfl | rfl | rfl | rfl | rfl | rfl | rfl
    · exact (.of (.nil _) (.nil _) (.nil _))
    · exact (.of (.nil _) (ht1.mono (le_15.trans (le_17.trans (hll4.trans (le_28.trans (hleU.trans hle9)))))) (.nil _))
    · exact (hT79.mono (le_17.trans (hll4.trans (le_28.trans (hleU.trans hle9)))))
    · exact (.of (.nil _) (.nil _) (.nil _))
    · exact (.of (.nil _) (ht4.mono (le_28.trans (hleU.trans hle9))) (.nil _))
    · exact (.of (.nil _) (.nil _) (.nil _))
    · exact (.of (.nil _) (.nil _) (.nil _))
   exact rC rfl Tryz.isAgg37 Tryz.sizeOf37 rfl .head rfl (le_5.trans (hll1.trans (le_15.trans (le_17.trans (hll4.trans (le_28.trans (hleU.trans hle9))))))) (fun _ _ h => h) ⟨rfl, ⟨none, 0, some ⟨b_2, 0, none⟩, 7, aU, cU⟩, rfl, .of (.nil _) hl9 (hU.mono hle9)⟩
end Go.Sx

import Derived.Test.YtdnbgafbhifhoaaDoorBDeleteTopicsRequest
import Derived.Test.YtdnbgafbhifhoaaDoorTB
import Derived.KernelRfl
set_option linter.unusedVariables false
set_option linter.unusedSimpArgs false
set_option maxRecDepth 100000
set_option maxHeartbeats 20000000
namespace Go.Sx
open Go.Proofs
def tl_DeleteTopicsRequestTopic (T : Tr) : Tr := .mk 0 [] false [(.mk 0 (sT (T.at 0)) (T.at 0).nul [] []), (.mk 0 (pad16 (T.at 1).s) false [] [])] T.u
theorem te_DeleteTopicsRequestTopic {H : Fz} {L : Own} {b o : Nat} {cs : List Value} {T : Tr} (hb : H.at b o cs) (hA : At_DeleteTopicsRequestTopic H T cs) (hf : Fits T) :
    Fn Tryd.prog 145 [.pointer (some ⟨b, o, none⟩)] H L (fun v H' L' => L = L' ∧ ∃ c : TC, v = .agg (c.cells (tl_DeleteTopicsRequestTopic T)).toArray ∧ TreeAt H' c (tl_DeleteTopicsRequestTopic T)) := by
  obtain ⟨p0, mt, rfl, h1, h2⟩ := hA
  refine Fn.mk Tryd.call145 Tryd.func145 rfl Tryd.ntmps145 rfl ?_
  refine sr ?_
  refine al Tryd.zeroValue26 rfl rfl (fun b_1 => ?_)
  refine nl ?_
  refine sr ?_
  refine mkC (m := 2) (zs := [.int .i64 0, .slice none 0 0, .bool false, .slice none 0 0, .slice none 0 0]) Tryd.underlying23 I26 rfl rfl rfl rfl rfl rfl (by decide) (by unfold maxLen; omega) rfl (fun b_2 => ?_)
  refine bd' S26 rfl rfl rfl ?_
  refine al Tryd.zeroValue26 rfl rfl (fun b_3 => ?_)
  refine sa Tryd.sizeOf26 rfl rfl rfl rfl rfl .head ?_
  refine nl ?_
  refine sq ?_
  refine rgD 8 (.keep (.keep (.keep .nil))) mixed ?_
  refine dT 0 rfl rfl rfl (by kernel_rfl) (fun _ _ _ h => h) (y_fa0 F26_3 rfl) (.keep (.keep (.keep .nil))) (Fz.le.refl _) ?_
  refine dT 1 rfl rfl rfl (by kernel_rfl) (fun _ _ _ h => h) (y_ld (Says.own .head) Tryd.isAgg23 rfl (Nat.zero_add _).symm rfl) (.keep (.keep (.keep .nil))) (Fz.le.refl _) ?_
  refine dT 2 rfl rfl rfl (by kernel_rfl) (fun _ _ _ h => h) (y_mv rfl) (.keep (.keep (.keep .nil))) (Fz.le.refl _) ?_
  refine dT 3 rfl rfl rfl (by kernel_rfl) (fun _ _ _ h => h) (y_nc rfl) (.keep (.keep (.keep .nil))) (Fz.le.refl _) ?_
  refine dT 4 rfl rfl rfl (by kernel_rfl) (fun _ _ _ h => h) (y_fa F145_0 rfl) (.keep (.keep (.keep .nil))) (Fz.le.refl _) ?_
  refine dT 5 rfl rfl rfl (by kernel_rfl) (fun _ _ _ h => h) (y_ld (j := 0) (Says.fz hb) Tryd.isAgg104 rfl (Nat.add_zero _).symm rfl) (.keep (.keep (.keep .nil))) (Fz.le.refl _) ?_
  refine dE 6 (by kernel_rfl) rfl ?_
  refine cl rfl rfl rfl (k_textTree h1 (hf.at 0)) rfl (fun v_ H1 L1 le_4 hR_ => ?_)
  obtain ⟨rfl, ct12, rfl, hT12⟩ := hR_
  refine dN (.keep (.keep (.keep .nil))) le_4 ?_
  refine dT 7 rfl rfl rfl (by kernel_rfl) (fun _ _ _ h => h) (y_ix2 (j := 0) Tryd.runUnderlying23 Tryd.sizeOf26 rfl rfl rfl rfl (by decide)) (.keep (.keep (.keep .nil))) le_4 ?_
  refine dE 8 (by kernel_rfl) rfl ?_
  refine sa Tryd.sizeOf26 rfl rfl rfl rfl rfl (.tail .head) ?_
  refine dNk (by kernel_rfl) ?_
  refine dD (by kernel_rfl) ?_
  refine Nt ?_
  refine sq ?_
  refine rgD 9 (.keep (.keep (.keep .nil))) mixed ?_
  refine dT 0 rfl rfl rfl (by kernel_rfl) (fun _ _ _ h => h) (y_fa0 F26_3 rfl) (.keep (.keep (.keep .nil))) (Fz.le.refl _) ?_
  refine dT 1 rfl rfl rfl (by kernel_rfl) (fun _ _ _ h => h) (y_ld (Says.own .head) Tryd.isAgg23 rfl (Nat.zero_add _).symm rfl) (.keep (.keep (.keep .nil))) (Fz.le.refl _) ?_
  refine dT 2 rfl rfl rfl (by kernel_rfl) (fun _ _ _ h => h) (y_mv rfl) (.keep (.keep (.keep .nil))) (Fz.le.refl _) ?_
  refine dT 3 rfl rfl rfl (by kernel_rfl) (fun _ _ _ h => h) (y_nc rfl) (.keep (.keep (.keep .nil))) (Fz.le.refl _) ?_
  refine dT 4 rfl rfl rfl (by kernel_rfl) (fun _ _ _ h => h) (y_fa F145_1 rfl) (.keep (.keep (.keep .nil))) (Fz.le.refl _) ?_
  refine dT 5 rfl rfl rfl (by kernel_rfl) (fun _ _ _ h => h) (y_slA Tryd.runUnderlying143 Tryd.sizeOf5 rfl) (.keep (.keep (.keep .nil))) (Fz.le.refl _) ?_
  refine dE 6 (by kernel_rfl) rfl ?_
  have hq20 := pad16_len (T.at 1).s
  refine apn (k := 16) (news := bytesOf (pad16 (T.at 1).s)) Tryd.underlying22 I5 rfl rfl (src_says (m := 16) (size := 1) Tryd.underlying22 (by rw [bytesOf_length, hq20]) (fun _ => Says.fz (by rw [← u16_eq]; exact ((hb.mono le_4).part 1 16))) (bytesOf_one _)) (by omega) (by unfold maxLen; omega) rfl (fun a20 c20 N20 r20 => ?_)
  refine frL r20 .head (fun Hu20 hlu20 hz20 => ?_)
  have hb20 := BytesAt.row hz20 r20 (by rw [hq20]; unfold B47; omega)
  refine dN (.keep (.keep (.keep .nil))) hlu20 ?_
  refine dT 7 rfl rfl rfl (by kernel_rfl) (fun _ _ _ h => h) (y_bd S26 rfl rfl) (.keep (.keep (.keep .nil))) hlu20 ?_
  refine dT 8 rfl rfl rfl (by kernel_rfl) (fun _ _ _ h => h) (y_ix2 (j := 1) Tryd.runUnderlying23 Tryd.sizeOf26 rfl rfl rfl rfl (by decide)) (.keep (.keep (.keep .nil))) hlu20 ?_
  refine dE 9 (by kernel_rfl) rfl ?_
  refine sa Tryd.sizeOf26 rfl rfl rfl rfl rfl (.tail .head) ?_
  refine dNk (by kernel_rfl) ?_
  refine dD (by kernel_rfl) ?_
  refine Nt ?_
  refine sr ?_
  refine mv rfl rfl ?_
  refine nc rfl rfl ?_
  refine fa F145_2 rfl rfl ?_
  refine mkf rfl rfl ?_
  obtain ⟨kvs, hM, hlen, hel⟩ := (h2.mono (le_4.trans hlu20))
  have hfu := hf.u
  refine cl rfl rfl rfl (t_each (j := 17) (I := fun i H1 Y => TgI 61 b_3 26 (.int .i64 0) (.slice none 0 0) (.bool false) (_) T.u i H1 Y) (hb.mono (le_4.trans hlu20)) rfl hM (by omega) (fun i H1 H2 Y hle h => h.mono hle) TgI.start (fun i k v H1 Y L1 hi hle hI => ?_)) rfl (fun v_ H1 L1 le_6 hR_ => ?_)
  · obtain ⟨s, h1, ⟨va, vc, rfl, hx⟩, h2, h3⟩ := hel i k v hi
    have hik := sortKv_lt hi
    exact TgI.step (fun {_ _ _ _ _ _ _ _ _ _ _ _ _ _ _ _} => tc_205) hf.v (by omega) h1 (hx.mono hle) h2 h3 hI
  rw [hlen] at hR_
  obtain ⟨_, rfl, aU, cU, NU, esU, rfl, hrU, heU, hgU⟩ := hR_
  refine splL ?_
  rw [List.take_length] at heU
  refine frL hrU (.tail .head) (fun HU hleU hzU => ?_)
  have hU := (TagsAt.told hzU hrU heU hfu (fun p hp => (hgU p hp).mono hleU)).1
  refine nl ?_
  refine sr ?_
  refine fa0 F26_4 rfl rfl ?_
  refine ld (Says.own .head) Tryd.isAgg24 rfl (Nat.zero_add _).symm rfl rfl ?_
  refine cl rfl rfl rfl (k_sorted hU (h2.mono (le_4.trans (hlu20.trans (le_6.trans hleU)))).rise) rfl (fun v_ H1 L1 hle_ hR_ => ?_)
  obtain ⟨rfl, rfl⟩ := hR_
  refine nl ?_
  refine sr ?_
  refine la (Says.own .head) Tryd.isAgg26 Tryd.sizeOf26 rfl (Nat.zero_add _).symm rfl rfl ?_
  refine sa Tryd.sizeOf26 rfl rfl rfl rfl rfl (.tail (.tail .head)) ?_
  refine nl ?_
  refine drW .head ?_
  refine frW (Row.whole (e := 26) (size := 5) (m := 2) (ds := [.int .i64 0, .slice ct12.sa (sT (T.at 0)).length ct12.sc, .bool (T.at 0).nul, .slice ct12.la 0 ct12.lc, .slice ct12.ua 0 ct12.uc, .int .i64 0, .slice a20 16 c20, .bool false, .slice none 0 0, .slice none 0 0]) rfl (by unfold maxLen; omega)) .head (fun H9 hle9 hz9 => ?_)
  have hrb : H9.at b_2 0 [.int .i64 0, .slice ct12.sa (sT (T.at 0)).length ct12.sc, .bool (T.at 0).nul, .slice ct12.la 0 ct12.lc, .slice ct12.ua 0 ct12.uc, .int .i64 0, .slice a20 16 c20, .bool false, .slice none 0 0, .slice none 0 0] := by
    rcases hz9 with ⟨h, _⟩ | ⟨g, h, h2⟩
    · cases h
    · cases h; exact h2
  have hq9_1 := pad16_len (T.at 1).s
  have hrb2 : H9.at b_2 0 (([((ct12 : TC), (Tr.mk 0 (sT (T.at 0)) (T.at 0).nul [] [] : Tr)), ((⟨a20, c20, none, 0, none, 0⟩ : TC), (Tr.mk 0 (pad16 (T.at 1).s) false [] [] : Tr))] : List EE).flatMap fun p => p.1.cells p.2) := by
    simp only [List.flatMap_cons, List.flatMap_nil, TC.cells, Tr.n, Tr.s, Tr.nul, Tr.l, Tr.u, TC.none, pad16_len]
    exact hrb
  have hl9 : TreesAt H9 (some ⟨b_2, 0, none⟩) 2 [(.mk 0 (sT (T.at 0)) (T.at 0).nul [] []), (.mk 0 (pad16 (T.at 1).s) false [] [])] := by
    refine TreesAt.row (es := [((ct12 : TC), (Tr.mk 0 (sT (T.at 0)) (T.at 0).nul [] [] : Tr)), ((⟨a20, c20, none, 0, none, 0⟩ : TC), (Tr.mk 0 (pad16 (T.at 1).s) false [] [] : Tr))]) (.inr ⟨_, rfl, hrb2⟩) rfl (Nat.le_refl _) (Nat.le_of_ble_eq_true rfl) ?_
    intro p hp
    simp only [List.mem_cons, List.not_mem_nil, or_false] at hp
    rcases hp with rfl | rfl
    · exact (hT12.mono (hlu20.trans (le_6.trans (hleU.trans hle9))))
    · exact (.of (hb20.mono (le_6.trans (hleU.trans hle9))) (.nil _) (.nil _))
  exact rC rfl Tryd.isAgg26 Tryd.sizeOf26 rfl .head rfl (le_4.trans (hlu20.trans (le_6.trans (hleU.trans hle9)))) (fun _ _ h => h) ⟨rfl, ⟨none, 0, some ⟨b_2, 0, none⟩, 2, aU, cU⟩, rfl, .of (.nil _) hl9 (hU.mono hle9)⟩
def tl_DeleteTopicsRequest (T : Tr) : Tr := .mk 0 [] false [(.mk 0 [] (T.at 0).nul ((lT (T.at 0)).map (fun y : Tr => (Tr.mk 0 y.s false [] [] : Tr))) []), (.mk 0 [] (T.at 1).nul ((lT (T.at 1)).map tl_DeleteTopicsRequestTopic) []), (.mk (IntKind.i32.wrap (T.at 2).n) [] false [] [])] T.u
theorem te_DeleteTopicsRequest {H : Fz} {L : Own} {b o : Nat} {cs : List Value} {T : Tr} {ver : Int} (hb : H.at b o cs) (hA : At_DeleteTopicsRequest ver H T cs) (hf : Fits T) :
    Fn Tryd.prog 92 [.pointer (some ⟨b, o, none⟩)] H L (fun v H' L' => L = L' ∧ ∃ c : TC, v = .agg (c.cells (tl_DeleteTopicsRequest T)).toArray ∧ TreeAt H' c (tl_DeleteTopicsRequest T)) := by
  obtain ⟨a0, c0, a1, c1, mt, rfl, h1, h2, h3⟩ := hA
  refine Fn.mk Tryd.call92 Tryd.func92 rfl Tryd.ntmps92 rfl ?_
  refine sr ?_
  refine al Tryd.zeroValue26 rfl rfl (fun b_1 => ?_)
  refine nl ?_
  refine sr ?_
  refine mkC (m := 3) (zs := [.int .i64 0, .slice none 0 0, .bool false, .slice none 0 0, .slice none 0 0]) Tryd.underlying23 I26 rfl rfl rfl rfl rfl rfl (by decide) (by unfold maxLen; omega) rfl (fun b_2 => ?_)
  refine bd' S26 rfl rfl rfl ?_
  refine al Tryd.zeroValue26 rfl rfl (fun b_3 => ?_)
  refine sa Tryd.sizeOf26 rfl rfl rfl rfl rfl .head ?_
  refine nl ?_
  refine sq ?_
  refine rgD 9 (.keep (.keep (.keep .nil))) mixed ?_
  refine dT 0 rfl rfl rfl (by kernel_rfl) (fun _ _ _ h => h) (y_fa0 F26_3 rfl) (.keep (.keep (.keep .nil))) (Fz.le.refl _) ?_
  refine dT 1 rfl rfl rfl (by kernel_rfl) (fun _ _ _ h => h) (y_ld (Says.own .head) Tryd.isAgg23 rfl (Nat.zero_add _).symm rfl) (.keep (.keep (.keep .nil))) (Fz.le.refl _) ?_
  refine dT 2 rfl rfl rfl (by kernel_rfl) (fun _ _ _ h => h) (y_mv rfl) (.keep (.keep (.keep .nil))) (Fz.le.refl _) ?_
  refine dT 3 rfl rfl rfl (by kernel_rfl) (fun _ _ _ h => h) (y_nc rfl) (.keep (.keep (.keep .nil))) (Fz.le.refl _) ?_
  refine dT 4 rfl rfl rfl (by kernel_rfl) (fun _ _ _ h => h) (y_fa F140_1 rfl) (.keep (.keep (.keep .nil))) (Fz.le.refl _) ?_
  refine dT 5 rfl rfl rfl (by kernel_rfl) (fun _ _ _ h => h) (y_ld (j := 1) (Says.fz hb) Tryd.isAgg133 rfl rfl rfl) (.keep (.keep (.keep .nil))) (Fz.le.refl _) ?_
  refine dT 6 rfl rfl rfl (by kernel_rfl) (fun _ _ _ h => h) (y_esn Tryd.underlying133 rfl) (.keep (.keep (.keep .nil))) (Fz.le.refl _) ?_
  refine dE 7 (by kernel_rfl) rfl ?_
  refine ixk (j := 0) Tryd.runUnderlying23 Tryd.sizeOf26 rfl rfl rfl rfl (by decide) rfl ?_
  refine dN (.keep (.keep (.keep .nil))) (Fz.le.refl _) ?_
  refine dT 8 rfl rfl rfl (by kernel_rfl) (fun _ _ _ h => h) (y_fa F26_2 rfl) (.keep (.keep (.keep .nil))) (Fz.le.refl _) ?_
  refine dE 9 (by kernel_rfl) rfl ?_
  refine st Tryd.sizeOf4 rfl rfl rfl rfl (.tail .head) ?_
  refine dNk (by kernel_rfl) ?_
  refine dD (by kernel_rfl) ?_
  refine Nt ?_
  refine sq ?_
  refine sr ?_
  refine mv rfl rfl ?_
  refine nc rfl rfl ?_
  refine fa F140_1 rfl rfl ?_
  refine ld (Says.fz hb) Tryd.isAgg133 rfl rfl rfl rfl ?_
  refine ls Tryd.runUnderlying133 rfl rfl ?_
  refine mv rfl rfl ?_
  refine nl ?_
  have hlm0 := (hf.at 0).lTl
  refine nulC2 ?_
  refine fr ((lT (T.at 0)).length) (fun k0 l' H' L' => ∃ (al0 : Option Addr), ∃ (ml0 : Nat), ∃ (cl0 : Nat), ∃ (es0 : List EE), ∃ (Nl0 : Chunk), [(0, .pointer (some ⟨b, o, none⟩)), (2, .pointer (some ⟨b_1, 0, none⟩)), (3, .pointer (some ⟨b_3, 0, none⟩)), (21, .int .i64 ((lT (T.at 0)).length : Int))] = l' ∧ Nl0 :: [(b_3, .cells [.int .i64 0, .slice none 0 0, .bool false, _, .slice none 0 0].toArray 26 (0, 0))] :: [(b_2, .cells [.int .i64 0, .slice none 0 0, .bool a0.isNone, .slice al0 ml0 cl0, .slice none 0 0, .int .i64 0, .slice none 0 0, .bool false, .slice none 0 0, .slice none 0 0, .int .i64 0, .slice none 0 0, .bool false, .slice none 0 0, .slice none 0 0].toArray 26 (0, 0))] :: [(b_1, .cells [.int .i64 0, .slice none 0 0, .bool false, .slice none 0 0, .slice none 0 0].toArray 26 (0, 0))] :: L = L' ∧ Row 26 5 al0 ml0 cl0 (es0.flatMap f5) Nl0 ∧ ml0 = es0.length ∧ es0.map (·.2) = ((lT (T.at 0)).take k0).map (fun y : Tr => (Tr.mk 0 y.s false [] [] : Tr)) ∧ (∀ p : EE, p ∈ es0 → TreeAt H' p.1 p.2)) [(0, .pointer (some ⟨b, o, none⟩)), (2, .pointer (some ⟨b_1, 0, none⟩)), (3, .pointer (some ⟨b_3, 0, none⟩)), (21, .int .i64 ((lT (T.at 0)).length : Int))] (fun k0 l' H' L' h => ?_) (by omega) rfl (.cons rfl (.cons rfl (.cons rfl (.cons rfl (.nil _))))) ⟨none, 0, 0, [], [], rfl, rfl, (Row.nil _ _), rfl, (by simp), (fun p hp => by cases hp)⟩ rfl rfl rfl rfl rfl (fun k0 l' H' L' hk0 le_4 hI => ?_) (fun l' H' L' le_5 hI => ?_)
  · obtain ⟨al0, ml0, cl0, es0, Nl0, rfl, _⟩ := h; exact ⟨rfl, rfl, rfl, rfl⟩
  · skip
    obtain ⟨al0, ml0, cl0, es0, Nl0, rfl, rfl, pk00, pk01, pk02, pk03⟩ := hI
    refine sr ?_
    refine mv rfl rfl ?_
    refine asg rfl rfl ?_
    refine nl ?_
    refine sq ?_
    refine rgD 4 .nil mixed ?_
    refine dE 0 (by kernel_rfl) rfl ?_
    refine al Tryd.zeroValue4 rfl rfl (fun b_6 => ?_)
    refine dN .nil (Fz.le.refl _) ?_
    refine dE2 1 2 (by kernel_rfl) rfl rfl ?_ ?_
    · skip
      refine st Tryd.sizeOf4 rfl rfl rfl rfl .head ?_
      refine dN .nil (Fz.le.refl _) ?_
      refine dE 2 (by kernel_rfl) rfl ?_
      refine st Tryd.sizeOf4 rfl rfl rfl rfl .head ?_
      refine dN .nil (Fz.le.refl _) ?_
      refine dE 3 (by kernel_rfl) rfl ?_
      refine ld (Says.own .head) Tryd.isAgg4 rfl (Nat.zero_add _).symm rfl rfl ?_
      refine dN .nil (Fz.le.refl _) ?_
      refine dD (by kernel_rfl) ?_
      refine drN .head ?_
      refine Nt ?_
      refine cF rfl ?_
      refine rgD 20 (.skip (.keep (.keep (.keep .nil)))) mixed ?_
      refine dT 0 rfl rfl rfl (by kernel_rfl) (fun _ _ _ h => h) (y_fa0 F26_3 rfl) (.skip (.keep (.keep (.keep .nil)))) (Fz.le.refl _) ?_
      refine dT 1 rfl rfl rfl (by kernel_rfl) (fun _ _ _ h => h) (y_ld (Says.own .head) Tryd.isAgg23 rfl (Nat.zero_add _).symm rfl) (.skip (.keep (.keep (.keep .nil)))) (Fz.le.refl _) ?_
      refine dT 2 rfl rfl rfl (by kernel_rfl) (fun _ _ _ h => h) (y_fa0 F26_3 rfl) (.skip (.keep (.keep (.keep .nil)))) (Fz.le.refl _) ?_
      refine dT 3 rfl rfl rfl (by kernel_rfl) (fun _ _ _ h => h) (y_ld (Says.own .head) Tryd.isAgg23 rfl (Nat.zero_add _).symm rfl) (.skip (.keep (.keep (.keep .nil)))) (Fz.le.refl _) ?_
      refine dT 4 rfl rfl rfl (by kernel_rfl) (fun _ _ _ h => h) (y_ix2 (j := 0) Tryd.runUnderlying23 Tryd.sizeOf26 rfl rfl rfl rfl (by decide)) (.skip (.keep (.keep (.keep .nil)))) (Fz.le.refl _) ?_
      refine dT 5 rfl rfl rfl (by kernel_rfl) (fun _ _ _ h => h) (y_fa F26_3 rfl) (.skip (.keep (.keep (.keep .nil)))) (Fz.le.refl _) ?_
      refine dT 6 rfl rfl rfl (by kernel_rfl) (fun _ _ _ h => h) (y_ld (Says.own (.tail .head)) Tryd.isAgg23 rfl (Nat.zero_add _).symm rfl) (.skip (.keep (.keep (.keep .nil)))) (Fz.le.refl _) ?_
      refine dT 7 rfl rfl rfl (by kernel_rfl) (fun _ _ _ h => h) (y_mv rfl) (.skip (.keep (.keep (.keep .nil)))) (Fz.le.refl _) ?_
      refine dT 8 rfl rfl rfl (by kernel_rfl) (fun _ _ _ h => h) (y_nc rfl) (.skip (.keep (.keep (.keep .nil)))) (Fz.le.refl _) ?_
      refine dT 9 rfl rfl rfl (by kernel_rfl) (fun _ _ _ h => h) (y_fa F140_1 rfl) (.skip (.keep (.keep (.keep .nil)))) (Fz.le.refl _) ?_
      refine dT 10 rfl rfl rfl (by kernel_rfl) (fun _ _ _ h => h) (y_ld (j := 1) (Says.fz (hb.mono le_4)) Tryd.isAgg133 rfl rfl rfl) (.skip (.keep (.keep (.keep .nil)))) (Fz.le.refl _) ?_
      refine dT 11 rfl rfl rfl (by kernel_rfl) (fun _ _ _ h => h) (y_mv rfl) (.skip (.keep (.keep (.keep .nil)))) (Fz.le.refl _) ?_
      obtain ⟨beq_7, oeq_7, haq_7, hlq_7⟩ := ((h1.mono RText.mono le_4)).rows.at_ (ne_nil_of_lt hk0)
      obtain ⟨ceq_7, hAq_7, hbq_7⟩ := hlq_7 k0 hk0
      obtain rfl : ceq_7 = [.string ⟨((lT (T.at 0))[k0]).s.toArray⟩] := hAq_7
      refine dT 12 rfl rfl rfl (by kernel_rfl) (fun _ _ _ h => h) (y_ixk (j := k0) Tryd.runUnderlying133 Tryd.sizeOf9 rfl haq_7 rfl rfl hk0) (.skip (.keep (.keep (.keep .nil)))) (Fz.le.refl _) ?_
      refine dT 13 rfl rfl rfl (by kernel_rfl) (fun _ _ _ h => h) (y_ld (Says.fz hbq_7) Tryd.isAgg9 rfl (Nat.add_zero _).symm rfl) (.skip (.keep (.keep (.keep .nil)))) (Fz.le.refl _) ?_
      refine dE 14 (by kernel_rfl) rfl ?_
      refine csb Tryd.underlying9 Tryd.underlying22 Tryd.underlying5 rfl (by have := (hf.at 0).lTel (List.getElem_mem hk0); have := this.s; unfold B47; omega) rfl (fun Hb61 b61 cp61 le_8 hb61 => ?_)
      refine dN (.skip (.keep (.keep (.keep .nil)))) le_8 ?_
      refine dT 15 rfl rfl rfl (by kernel_rfl) (fun _ _ _ h => h) (y_bd S26 rfl rfl) (.skip (.keep (.keep (.keep .nil)))) le_8 ?_
      refine dE 16 (by kernel_rfl) rfl ?_
      refine bs' L23 rfl rfl rfl rfl (fun b_9 => ?_)
      refine dN (.skip (.skip (.keep (.keep (.keep .nil))))) le_8 ?_
      refine dE 17 (by kernel_rfl) rfl ?_
      have hmk : ml0 = k0 := by have h1 := congrArg List.length pk02; rw [List.length_map, List.length_map, List.length_take] at h1; omega
      have hmb := (hf.at 0).lTl
      refine ap (k := 1) (news := f5 (((⟨some ⟨b61, 0, none⟩, cp61, none, 0, none, 0⟩ : TC), (Tr.mk 0 ((lT (T.at 0))[k0]).s false [] [] : Tr)) : EE)) Tryd.underlying23 I26 rfl rfl pk00 (fun _ => (.tail .head)) (src_says Tryd.underlying23 rfl (fun _ => Says.own .head) (f5_one _)) (by omega) (by unfold maxLen; omega) rfl (fun a64 c64 N64 r64 z64 => ?_)
      rw [flatMap_snoc'] at r64
      refine dN (.skip (.skip (.keep (.keep (.keep .nil))))) le_8 ?_
      refine dE 18 (by kernel_rfl) rfl ?_
      refine ixk (j := 0) Tryd.runUnderlying23 Tryd.sizeOf26 rfl rfl rfl rfl (by decide) rfl ?_
      refine dN (.skip (.skip (.keep (.keep (.keep .nil))))) le_8 ?_
      refine dT 19 rfl rfl rfl (by kernel_rfl) (fun _ _ _ h => h) (y_fa F26_3 rfl) (.skip (.skip (.keep (.keep (.keep .nil))))) le_8 ?_
      refine dE 20 (by kernel_rfl) rfl ?_
      refine st Tryd.sizeOf23 rfl rfl rfl rfl (.tail (.tail (.tail .head))) ?_
      refine dNk (by kernel_rfl) ?_
      refine dD (by kernel_rfl) ?_
      refine Nb ?_
      refine drN .head ?_
      refine fun a_ w_ hA hw => ⟨_, _, _, hA.sub ?_, (le_4.trans le_8), hw, _, rfl, a64, (ml0 + 1), c64, (es0 ++ [(((⟨some ⟨b61, 0, none⟩, cp61, none, 0, none, 0⟩ : TC), (Tr.mk 0 ((lT (T.at 0))[k0]).s false [] [] : Tr)) : EE)]), N64, rfl, rfl, r64, (by simp; omega), (map_take_snoc (g := (fun y : Tr => (Tr.mk 0 y.s false [] [] : Tr))) hk0 pk02), (fun p hp => (mem_snoc hp).elim (fun h => (pk03 p h).mono le_8) (fun h => h ▸ (.of hb61 (.nil _) (.nil _))))⟩
      exact (.cons rfl (.cons rfl (.cons rfl (.cons rfl (.cons rfl (.nil _))))))
    · skip
      refine st Tryd.sizeOf4 rfl rfl rfl rfl .head ?_
      refine dN .nil (Fz.le.refl _) ?_
      refine dE 1 (by kernel_rfl) rfl ?_
      refine st Tryd.sizeOf4 rfl rfl rfl rfl .head ?_
      refine dN .nil (Fz.le.refl _) ?_
      refine dE 3 (by kernel_rfl) rfl ?_
      refine ld (Says.own .head) Tryd.isAgg4 rfl (Nat.zero_add _).symm rfl rfl ?_
      refine dN .nil (Fz.le.refl _) ?_
      refine dD (by kernel_rfl) ?_
      refine drN .head ?_
      refine Nt ?_
      refine cT rfl ?_
      refine sq ?_
      refine rgD 19 (.skip (.keep (.keep (.keep .nil)))) mixed ?_
      refine dT 0 rfl rfl rfl (by kernel_rfl) (fun _ _ _ h => h) (y_fa0 F26_3 rfl) (.skip (.keep (.keep (.keep .nil)))) (Fz.le.refl _) ?_
      refine dT 1 rfl rfl rfl (by kernel_rfl) (fun _ _ _ h => h) (y_ld (Says.own .head) Tryd.isAgg23 rfl (Nat.zero_add _).symm rfl) (.skip (.keep (.keep (.keep .nil)))) (Fz.le.refl _) ?_
      refine dT 2 rfl rfl rfl (by kernel_rfl) (fun _ _ _ h => h) (y_ix2 (j := 0) Tryd.runUnderlying23 Tryd.sizeOf26 rfl rfl rfl rfl (by decide)) (.skip (.keep (.keep (.keep .nil)))) (Fz.le.refl _) ?_
      refine dT 3 rfl rfl rfl (by kernel_rfl) (fun _ _ _ h => h) (y_fa F26_3 rfl) (.skip (.keep (.keep (.keep .nil)))) (Fz.le.refl _) ?_
      refine dT 4 rfl rfl rfl (by kernel_rfl) (fun _ _ _ h => h) (y_ld (Says.own (.tail .head)) Tryd.isAgg23 rfl (Nat.zero_add _).symm rfl) (.skip (.keep (.keep (.keep .nil)))) (Fz.le.refl _) ?_
      refine dT 5 rfl rfl rfl (by kernel_rfl) (fun _ _ _ h => h) (y_mv rfl) (.skip (.keep (.keep (.keep .nil)))) (Fz.le.refl _) ?_
      refine dT 6 rfl rfl rfl (by kernel_rfl) (fun _ _ _ h => h) (y_nc rfl) (.skip (.keep (.keep (.keep .nil)))) (Fz.le.refl _) ?_
      refine dT 7 rfl rfl rfl (by kernel_rfl) (fun _ _ _ h => h) (y_fa F140_1 rfl) (.skip (.keep (.keep (.keep .nil)))) (Fz.le.refl _) ?_
      refine dT 8 rfl rfl rfl (by kernel_rfl) (fun _ _ _ h => h) (y_ld (j := 1) (Says.fz (hb.mono le_4)) Tryd.isAgg133 rfl rfl rfl) (.skip (.keep (.keep (.keep .nil)))) (Fz.le.refl _) ?_
      refine dT 9 rfl rfl rfl (by kernel_rfl) (fun _ _ _ h => h) (y_mv rfl) (.skip (.keep (.keep (.keep .nil)))) (Fz.le.refl _) ?_
      obtain ⟨beq_10, oeq_10, haq_10, hlq_10⟩ := ((h1.mono RText.mono le_4)).rows.at_ (ne_nil_of_lt hk0)
      obtain ⟨ceq_10, hAq_10, hbq_10⟩ := hlq_10 k0 hk0
      obtain rfl : ceq_10 = [.string ⟨((lT (T.at 0))[k0]).s.toArray⟩] := hAq_10
      refine dT 10 rfl rfl rfl (by kernel_rfl) (fun _ _ _ h => h) (y_ixk (j := k0) Tryd.runUnderlying133 Tryd.sizeOf9 rfl haq_10 rfl rfl hk0) (.skip (.keep (.keep (.keep .nil)))) (Fz.le.refl _) ?_
      refine dT 11 rfl rfl rfl (by kernel_rfl) (fun _ _ _ h => h) (y_ld (Says.fz hbq_10) Tryd.isAgg9 rfl (Nat.add_zero _).symm rfl) (.skip (.keep (.keep (.keep .nil)))) (Fz.le.refl _) ?_
      refine dT 14 rfl rfl rfl (by kernel_rfl) (fun _ _ _ h => h) (y_ls Tryd.runUnderlying23 rfl) (.skip (.keep (.keep (.keep .nil)))) (Fz.le.refl _) ?_
      refine dE2 12 15 (by kernel_rfl) rfl rfl ?_ ?_
      · skip
        refine csb Tryd.underlying9 Tryd.underlying22 Tryd.underlying5 rfl (by have := (hf.at 0).lTel (List.getElem_mem hk0); have := this.s; unfold B47; omega) rfl (fun Hb39 b39 cp39 le_11 hb39 => ?_)
        refine dN (.skip (.keep (.keep (.keep .nil)))) le_11 ?_
        refine dT 13 rfl rfl rfl (by kernel_rfl) (fun _ _ _ h => h) (y_bd S26 rfl rfl) (.skip (.keep (.keep (.keep .nil)))) le_11 ?_
        refine dE 15 (by kernel_rfl) rfl ?_
        refine bs' L23 rfl rfl rfl rfl (fun b_12 => ?_)
        refine dN (.skip (.skip (.keep (.keep (.keep .nil))))) le_11 ?_
        refine dE 16 (by kernel_rfl) rfl ?_
        have hmk : ml0 = k0 := by have h1 := congrArg List.length pk02; rw [List.length_map, List.length_map, List.length_take] at h1; omega
        have hmb := (hf.at 0).lTl
        refine ap (k := 1) (news := f5 ((TC.none, Tr.none) : EE)) Tryd.underlying23 I26 rfl rfl pk00 (fun _ => (.tail .head)) (src_says Tryd.underlying23 rfl (fun _ => Says.own .head) (f5_one _)) (by omega) (by unfold maxLen; omega) rfl (fun a43 c43 N43 r43 z43 => ?_)
        refine dN (.skip (.skip (.keep (.keep (.keep .nil))))) le_11 ?_
        refine dE 17 (by kernel_rfl) rfl ?_
        refine ixk (j := 0) Tryd.runUnderlying23 Tryd.sizeOf26 rfl rfl rfl rfl (by decide) rfl ?_
        refine dN (.skip (.skip (.keep (.keep (.keep .nil))))) le_11 ?_
        refine dT 18 rfl rfl rfl (by kernel_rfl) (fun _ _ _ h => h) (y_fa F26_3 rfl) (.skip (.skip (.keep (.keep (.keep .nil))))) le_11 ?_
        refine dE 19 (by kernel_rfl) rfl ?_
        refine st Tryd.sizeOf23 rfl rfl rfl rfl (.tail (.tail (.tail .head))) ?_
        refine dNk (by kernel_rfl) ?_
        refine dD (by kernel_rfl) ?_
        refine Nt ?_
        refine rg ?_
        obtain ⟨gg43, hgg43⟩ := r43.addr (by omega)
        refine ixk (j := ml0) Tryd.runUnderlying23 Tryd.sizeOf26 rfl hgg43 rfl rfl (by omega) rfl ?_
        refine sR (ds := f5 (((⟨some ⟨b39, 0, none⟩, cp39, none, 0, none, 0⟩ : TC), (Tr.mk 0 ((lT (T.at 0))[k0]).s false [] [] : Tr)) : EE)) r43 hgg43 (fun _ => (.tail .head)) Tryd.sizeOf26 rfl rfl rfl rfl (by omega) (fun N43b r43b => ?_)
        rw [row_put (k := 5) (m := ml0) (A := es0.flatMap f5) (by rw [flatMap_len f5 5 f5_len, pk01]) rfl, flatMap_snoc'] at r43b
        refine nN ?_
        refine Nb ?_
        refine drN .head ?_
        refine fun a_ w_ hA hw => ⟨_, _, _, hA.sub ?_, (le_4.trans le_11), hw, _, rfl, a43, (ml0 + 1), c43, (es0 ++ [(((⟨some ⟨b39, 0, none⟩, cp39, none, 0, none, 0⟩ : TC), (Tr.mk 0 ((lT (T.at 0))[k0]).s false [] [] : Tr)) : EE)]), N43b, rfl, rfl, r43b, (by simp; omega), (map_take_snoc (g := (fun y : Tr => (Tr.mk 0 y.s false [] [] : Tr))) hk0 pk02), (fun p hp => (mem_snoc hp).elim (fun h => (pk03 p h).mono le_11) (fun h => h ▸ (.of hb39 (.nil _) (.nil _))))⟩
        exact (.cons rfl (.cons rfl (.cons rfl (.cons rfl (.cons rfl (.nil _))))))
      · skip
        refine bs' L23 rfl rfl rfl rfl (fun b_13 => ?_)
        refine dN (.skip (.skip (.keep (.keep (.keep .nil))))) (Fz.le.refl _) ?_
        refine dE 12 (by kernel_rfl) rfl ?_
        refine csb Tryd.underlying9 Tryd.underlying22 Tryd.underlying5 rfl (by have := (hf.at 0).lTel (List.getElem_mem hk0); have := this.s; unfold B47; omega) rfl (fun Hb39 b39 cp39 le_14 hb39 => ?_)
        refine dN (.skip (.skip (.keep (.keep (.keep .nil))))) le_14 ?_
        refine dT 13 rfl rfl rfl (by kernel_rfl) (fun _ _ _ h => h) (y_bd S26 rfl rfl) (.skip (.skip (.keep (.keep (.keep .nil))))) le_14 ?_
        refine dE 16 (by kernel_rfl) rfl ?_
        have hmk : ml0 = k0 := by have h1 := congrArg List.length pk02; rw [List.length_map, List.length_map, List.length_take] at h1; omega
        have hmb := (hf.at 0).lTl
        refine ap (k := 1) (news := f5 ((TC.none, Tr.none) : EE)) Tryd.underlying23 I26 rfl rfl pk00 (fun _ => (.tail .head)) (src_says Tryd.underlying23 rfl (fun _ => Says.own .head) (f5_one _)) (by omega) (by unfold maxLen; omega) rfl (fun a43 c43 N43 r43 z43 => ?_)
        refine dN (.skip (.skip (.keep (.keep (.keep .nil))))) le_14 ?_
        refine dE 17 (by kernel_rfl) rfl ?_
        refine ixk (j := 0) Tryd.runUnderlying23 Tryd.sizeOf26 rfl rfl rfl rfl (by decide) rfl ?_
        refine dN (.skip (.skip (.keep (.keep (.keep .nil))))) le_14 ?_
        refine dT 18 rfl rfl rfl (by kernel_rfl) (fun _ _ _ h => h) (y_fa F26_3 rfl) (.skip (.skip (.keep (.keep (.keep .nil))))) le_14 ?_
        refine dE 19 (by kernel_rfl) rfl ?_
        refine st Tryd.sizeOf23 rfl rfl rfl rfl (.tail (.tail (.tail .head))) ?_
        refine dNk (by kernel_rfl) ?_
        refine dD (by kernel_rfl) ?_
        refine Nt ?_
        refine rg ?_
        obtain ⟨gg43, hgg43⟩ := r43.addr (by omega)
        refine ixk (j := ml0) Tryd.runUnderlying23 Tryd.sizeOf26 rfl hgg43 rfl rfl (by omega) rfl ?_
        refine sR (ds := f5 (((⟨some ⟨b39, 0, none⟩, cp39, none, 0, none, 0⟩ : TC), (Tr.mk 0 ((lT (T.at 0))[k0]).s false [] [] : Tr)) : EE)) r43 hgg43 (fun _ => (.tail .head)) Tryd.sizeOf26 rfl rfl rfl rfl (by omega) (fun N43b r43b => ?_)
        rw [row_put (k := 5) (m := ml0) (A := es0.flatMap f5) (by rw [flatMap_len f5 5 f5_len, pk01]) rfl, flatMap_snoc'] at r43b
        refine nN ?_
        refine Nb ?_
        refine drN .head ?_
        refine fun a_ w_ hA hw => ⟨_, _, _, hA.sub ?_, (le_4.trans le_14), hw, _, rfl, a43, (ml0 + 1), c43, (es0 ++ [(((⟨some ⟨b39, 0, none⟩, cp39, none, 0, none, 0⟩ : TC), (Tr.mk 0 ((lT (T.at 0))[k0]).s false [] [] : Tr)) : EE)]), N43b, rfl, rfl, r43b, (by simp; omega), (map_take_snoc (g := (fun y : Tr => (Tr.mk 0 y.s false [] [] : Tr))) hk0 pk02), (fun p hp => (mem_snoc hp).elim (fun h => (pk03 p h).mono le_14) (fun h => h ▸ (.of hb39 (.nil _) (.nil _))))⟩
        exact (.cons rfl (.cons rfl (.cons rfl (.cons rfl (.cons rfl (.nil _))))))
  · skip
    obtain ⟨al0, ml0, cl0, es0, Nl0, rfl, rfl, pk00, pk01, pk02, pk03⟩ := hI
    refine toWp ?_
    have hes0 : es0.map (·.2) = (lT (T.at 0)).map (fun y : Tr => (Tr.mk 0 y.s false [] [] : Tr)) := by rw [pk02, List.take_length]
    have hm0 : ml0 = ((lT (T.at 0)).map (fun y : Tr => (Tr.mk 0 y.s false [] [] : Tr))).length := by rw [← hes0, List.length_map]; exact pk01
    refine frW pk00 .head (fun Hl0 hll0 hzl0 => ?_)
    have ht0 := TreesAt.row hzl0 pk01 pk00.le.1 (by have h1 := congrArg List.length hes0; rw [List.length_map, List.length_map] at h1; unfold B47; omega) (fun p hp => (pk03 p hp).mono hll0)
    rw [hes0] at ht0
    subst hm0
    refine sq ?_
    refine rgD 9 (.keep (.keep (.keep .nil))) mixed ?_
    refine dT 0 rfl rfl rfl (by kernel_rfl) (fun _ _ _ h => h) (y_fa0 F26_3 rfl) (.keep (.keep (.keep .nil))) (Fz.le.refl _) ?_
    refine dT 1 rfl rfl rfl (by kernel_rfl) (fun _ _ _ h => h) (y_ld (Says.own .head) Tryd.isAgg23 rfl (Nat.zero_add _).symm rfl) (.keep (.keep (.keep .nil))) (Fz.le.refl _) ?_
    refine dT 2 rfl rfl rfl (by kernel_rfl) (fun _ _ _ h => h) (y_mv rfl) (.keep (.keep (.keep .nil))) (Fz.le.refl _) ?_
    refine dT 3 rfl rfl rfl (by kernel_rfl) (fun _ _ _ h => h) (y_nc rfl) (.keep (.keep (.keep .nil))) (Fz.le.refl _) ?_
    refine dT 4 rfl rfl rfl (by kernel_rfl) (fun _ _ _ h => h) (y_fa F140_2 rfl) (.keep (.keep (.keep .nil))) (Fz.le.refl _) ?_
    refine dT 5 rfl rfl rfl (by kernel_rfl) (fun _ _ _ h => h) (y_ld (j := 2) (Says.fz (hb.mono (le_5.trans hll0))) Tryd.isAgg138 rfl rfl rfl) (.keep (.keep (.keep .nil))) (Fz.le.refl _) ?_
    refine dT 6 rfl rfl rfl (by kernel_rfl) (fun _ _ _ h => h) (y_esn Tryd.underlying138 rfl) (.keep (.keep (.keep .nil))) (Fz.le.refl _) ?_
    refine dE 7 (by kernel_rfl) rfl ?_
    refine ixk (j := 1) Tryd.runUnderlying23 Tryd.sizeOf26 rfl rfl rfl rfl (by decide) rfl ?_
    refine dN (.keep (.keep (.keep .nil))) (Fz.le.refl _) ?_
    refine dT 8 rfl rfl rfl (by kernel_rfl) (fun _ _ _ h => h) (y_fa F26_2 rfl) (.keep (.keep (.keep .nil))) (Fz.le.refl _) ?_
    refine dE 9 (by kernel_rfl) rfl ?_
    refine st Tryd.sizeOf4 rfl rfl rfl rfl (.tail .head) ?_
    refine dNk (by kernel_rfl) ?_
    refine dD (by kernel_rfl) ?_
    refine Nt ?_
    refine sq ?_
    refine sr ?_
    refine mv rfl rfl ?_
    refine nc rfl rfl ?_
    refine fa F140_2 rfl rfl ?_
    refine ld (Says.fz (hb.mono (le_5.trans hll0))) Tryd.isAgg138 rfl rfl rfl rfl ?_
    refine ls Tryd.runUnderlying138 rfl rfl ?_
    refine mv rfl rfl ?_
    refine nl ?_
    have hlm1 := (hf.at 1).lTl
    refine nulC2 ?_
    refine fr ((lT (T.at 1)).length) (fun k1 l' H' L' => ∃ (al1 : Option Addr), ∃ (ml1 : Nat), ∃ (cl1 : Nat), ∃ (es1 : List EE), ∃ (Nl1 : Chunk), [(0, .pointer (some ⟨b, o, none⟩)), (2, .pointer (some ⟨b_1, 0, none⟩)), (3, .pointer (some ⟨b_3, 0, none⟩)), (81, .int .i64 ((lT (T.at 1)).length : Int))] = l' ∧ Nl1 :: [(b_3, .cells [.int .i64 0, .slice none 0 0, .bool false, _, .slice none 0 0].toArray 26 (0, 0))] :: [(b_2, .cells [.int .i64 0, .slice none 0 0, .bool a0.isNone, .slice al0 ((lT (T.at 0)).map (fun y : Tr => (Tr.mk 0 y.s false [] [] : Tr))).length cl0, .slice none 0 0, .int .i64 0, .slice none 0 0, .bool a1.isNone, .slice al1 ml1 cl1, .slice none 0 0, .int .i64 0, .slice none 0 0, .bool false, .slice none 0 0, .slice none 0 0].toArray 26 (0, 0))] :: [(b_1, .cells [.int .i64 0, .slice none 0 0, .bool false, .slice none 0 0, .slice none 0 0].toArray 26 (0, 0))] :: L = L' ∧ Row 26 5 al1 ml1 cl1 (es1.flatMap f5) Nl1 ∧ ml1 = es1.length ∧ es1.map (·.2) = ((lT (T.at 1)).take k1).map tl_DeleteTopicsRequestTopic ∧ (∀ p : EE, p ∈ es1 → TreeAt H' p.1 p.2)) [(0, .pointer (some ⟨b, o, none⟩)), (2, .pointer (some ⟨b_1, 0, none⟩)), (3, .pointer (some ⟨b_3, 0, none⟩)), (81, .int .i64 ((lT (T.at 1)).length : Int))] (fun k1 l' H' L' h => ?_) (by omega) rfl (.cons rfl (.cons rfl (.cons rfl (.cons rfl (.nil _))))) ⟨none, 0, 0, [], [], rfl, rfl, (Row.nil _ _), rfl, (by simp), (fun p hp => by cases hp)⟩ rfl rfl rfl rfl rfl (fun k1 l' H' L' hk1 le_15 hI => ?_) (fun l' H' L' le_16 hI => ?_)
    · obtain ⟨al1, ml1, cl1, es1, Nl1, rfl, _⟩ := h; exact ⟨rfl, rfl, rfl, rfl⟩
    · skip
      obtain ⟨al1, ml1, cl1, es1, Nl1, rfl, rfl, pk10, pk11, pk12, pk13⟩ := hI
      refine sr ?_
      refine mv rfl rfl ?_
      refine asg rfl rfl ?_
      refine nl ?_
      refine sq ?_
      refine rgD 4 .nil mixed ?_
      refine dE 0 (by kernel_rfl) rfl ?_
      refine al Tryd.zeroValue4 rfl rfl (fun b_17 => ?_)
      refine dN .nil (Fz.le.refl _) ?_
      refine dE2 1 2 (by kernel_rfl) rfl rfl ?_ ?_
      · skip
        refine st Tryd.sizeOf4 rfl rfl rfl rfl .head ?_
        refine dN .nil (Fz.le.refl _) ?_
        refine dE 2 (by kernel_rfl) rfl ?_
        refine st Tryd.sizeOf4 rfl rfl rfl rfl .head ?_
        refine dN .nil (Fz.le.refl _) ?_
        refine dE 3 (by kernel_rfl) rfl ?_
        refine ld (Says.own .head) Tryd.isAgg4 rfl (Nat.zero_add _).symm rfl rfl ?_
        refine dN .nil (Fz.le.refl _) ?_
        refine dD (by kernel_rfl) ?_
        refine drN .head ?_
        refine Nt ?_
        refine cF rfl ?_
        refine rgD 18 (.skip (.keep (.keep (.keep .nil)))) mixed ?_
        refine dT 0 rfl rfl rfl (by kernel_rfl) (fun _ _ _ h => h) (y_fa0 F26_3 rfl) (.skip (.keep (.keep (.keep .nil)))) (Fz.le.refl _) ?_
        refine dT 1 rfl rfl rfl (by kernel_rfl) (fun _ _ _ h => h) (y_ld (Says.own .head) Tryd.isAgg23 rfl (Nat.zero_add _).symm rfl) (.skip (.keep (.keep (.keep .nil)))) (Fz.le.refl _) ?_
        refine dT 2 rfl rfl rfl (by kernel_rfl) (fun _ _ _ h => h) (y_fa0 F26_3 rfl) (.skip (.keep (.keep (.keep .nil)))) (Fz.le.refl _) ?_
        refine dT 3 rfl rfl rfl (by kernel_rfl) (fun _ _ _ h => h) (y_ld (Says.own .head) Tryd.isAgg23 rfl (Nat.zero_add _).symm rfl) (.skip (.keep (.keep (.keep .nil)))) (Fz.le.refl _) ?_
        refine dT 4 rfl rfl rfl (by kernel_rfl) (fun _ _ _ h => h) (y_ix2 (j := 1) Tryd.runUnderlying23 Tryd.sizeOf26 rfl rfl rfl rfl (by decide)) (.skip (.keep (.keep (.keep .nil)))) (Fz.le.refl _) ?_
        refine dT 5 rfl rfl rfl (by kernel_rfl) (fun _ _ _ h => h) (y_fa F26_3 rfl) (.skip (.keep (.keep (.keep .nil)))) (Fz.le.refl _) ?_
        refine dT 6 rfl rfl rfl (by kernel_rfl) (fun _ _ _ h => h) (y_ld (Says.own (.tail .head)) Tryd.isAgg23 rfl (Nat.zero_add _).symm rfl) (.skip (.keep (.keep (.keep .nil)))) (Fz.le.refl _) ?_
        refine dT 7 rfl rfl rfl (by kernel_rfl) (fun _ _ _ h => h) (y_mv rfl) (.skip (.keep (.keep (.keep .nil)))) (Fz.le.refl _) ?_
        refine dT 8 rfl rfl rfl (by kernel_rfl) (fun _ _ _ h => h) (y_nc rfl) (.skip (.keep (.keep (.keep .nil)))) (Fz.le.refl _) ?_
        refine dT 9 rfl rfl rfl (by kernel_rfl) (fun _ _ _ h => h) (y_fa F140_2 rfl) (.skip (.keep (.keep (.keep .nil)))) (Fz.le.refl _) ?_
        refine dT 10 rfl rfl rfl (by kernel_rfl) (fun _ _ _ h => h) (y_ld (j := 2) (Says.fz (hb.mono (le_5.trans (hll0.trans le_15)))) Tryd.isAgg138 rfl rfl rfl) (.skip (.keep (.keep (.keep .nil)))) (Fz.le.refl _) ?_
        refine dT 11 rfl rfl rfl (by kernel_rfl) (fun _ _ _ h => h) (y_mv rfl) (.skip (.keep (.keep (.keep .nil)))) (Fz.le.refl _) ?_
        obtain ⟨beq_18, oeq_18, haq_18, hlq_18⟩ := ((h2.mono At_DeleteTopicsRequestTopic.mono (le_5.trans (hll0.trans le_15)))).rows.at_ (ne_nil_of_lt hk1)
        obtain ⟨ceq_18, hAq_18, hbq_18⟩ := hlq_18 k1 hk1
        refine dT 12 rfl rfl rfl (by kernel_rfl) (fun _ _ _ h => h) (y_ixk (j := k1) Tryd.runUnderlying138 Tryd.sizeOf145 rfl haq_18 rfl rfl hk1) (.skip (.keep (.keep (.keep .nil)))) (Fz.le.refl _) ?_
        refine dE 13 (by kernel_rfl) rfl ?_
        refine cl rfl rfl rfl (te_DeleteTopicsRequestTopic hbq_18 (At_DeleteTopicsRequestTopic.mono _ _ _ _ (Fz.le.refl _) hAq_18) ((hf.at 1).lTel (List.getElem_mem hk1))) rfl (fun v_ H1 L1 le_19 hR_ => ?_)
        obtain ⟨rfl, ct118, rfl, hT118⟩ := hR_
        refine dN (.skip (.keep (.keep (.keep .nil)))) le_19 ?_
        refine dE 14 (by kernel_rfl) rfl ?_
        refine bs' L23 rfl rfl rfl rfl (fun b_20 => ?_)
        refine dN (.skip (.skip (.keep (.keep (.keep .nil))))) le_19 ?_
        refine dE 15 (by kernel_rfl) rfl ?_
        have hmk : ml1 = k1 := by have h1 := congrArg List.length pk12; rw [List.length_map, List.length_map, List.length_take] at h1; omega
        have hmb := (hf.at 1).lTl
        refine ap (k := 1) (news := f5 ((ct118, tl_DeleteTopicsRequestTopic (lT (T.at 1))[k1]) : EE)) Tryd.underlying23 I26 rfl rfl pk10 (fun _ => (.tail .head)) (src_says Tryd.underlying23 rfl (fun _ => Says.own .head) (f5_one _)) (by omega) (by unfold maxLen; omega) rfl (fun a120 c120 N120 r120 z120 => ?_)
        rw [flatMap_snoc'] at r120
        refine dN (.skip (.skip (.keep (.keep (.keep .nil))))) le_19 ?_
        refine dE 16 (by kernel_rfl) rfl ?_
        refine ixk (j := 1) Tryd.runUnderlying23 Tryd.sizeOf26 rfl rfl rfl rfl (by decide) rfl ?_
        refine dN (.skip (.skip (.keep (.keep (.keep .nil))))) le_19 ?_
        refine dT 17 rfl rfl rfl (by kernel_rfl) (fun _ _ _ h => h) (y_fa F26_3 rfl) (.skip (.skip (.keep (.keep (.keep .nil))))) le_19 ?_
        refine dE 18 (by kernel_rfl) rfl ?_
        refine st Tryd.sizeOf23 rfl rfl rfl rfl (.tail (.tail (.tail .head))) ?_
        refine dNk (by kernel_rfl) ?_
        refine dD (by kernel_rfl) ?_
        refine Nb ?_
        refine drN .head ?_
        refine fun a_ w_ hA hw => ⟨_, _, _, hA.sub ?_, (le_15.trans le_19), hw, _, rfl, a120, (ml1 + 1), c120, (es1 ++ [((ct118, tl_DeleteTopicsRequestTopic (lT (T.at 1))[k1]) : EE)]), N120, rfl, rfl, r120, (by simp; omega), (map_take_snoc (g := tl_DeleteTopicsRequestTopic) hk1 pk12), (fun p hp => (mem_snoc hp).elim (fun h => (pk13 p h).mono le_19) (fun h => h ▸ hT118))⟩
        exact (.cons rfl (.cons rfl (.cons rfl (.cons rfl (.cons rfl (.nil _))))))
      · skip
        refine st Tryd.sizeOf4 rfl rfl rfl rfl .head ?_
        refine dN .nil (Fz.le.refl _) ?_
        refine dE 1 (by kernel_rfl) rfl ?_
        refine st Tryd.sizeOf4 rfl rfl rfl rfl .head ?_
        refine dN .nil (Fz.le.refl _) ?_
        refine dE 3 (by kernel_rfl) rfl ?_
        refine ld (Says.own .head) Tryd.isAgg4 rfl (Nat.zero_add _).symm rfl rfl ?_
        refine dN .nil (Fz.le.refl _) ?_
        refine dD (by kernel_rfl) ?_
        refine drN .head ?_
        refine Nt ?_
        refine cT rfl ?_
        refine sq ?_
        refine rgD 17 (.skip (.keep (.keep (.keep .nil)))) mixed ?_
        refine dT 0 rfl rfl rfl (by kernel_rfl) (fun _ _ _ h => h) (y_fa0 F26_3 rfl) (.skip (.keep (.keep (.keep .nil)))) (Fz.le.refl _) ?_
        refine dT 1 rfl rfl rfl (by kernel_rfl) (fun _ _ _ h => h) (y_ld (Says.own .head) Tryd.isAgg23 rfl (Nat.zero_add _).symm rfl) (.skip (.keep (.keep (.keep .nil)))) (Fz.le.refl _) ?_
        refine dT 2 rfl rfl rfl (by kernel_rfl) (fun _ _ _ h => h) (y_ix2 (j := 1) Tryd.runUnderlying23 Tryd.sizeOf26 rfl rfl rfl rfl (by decide)) (.skip (.keep (.keep (.keep .nil)))) (Fz.le.refl _) ?_
        refine dT 3 rfl rfl rfl (by kernel_rfl) (fun _ _ _ h => h) (y_fa F26_3 rfl) (.skip (.keep (.keep (.keep .nil)))) (Fz.le.refl _) ?_
        refine dT 4 rfl rfl rfl (by kernel_rfl) (fun _ _ _ h => h) (y_ld (Says.own (.tail .head)) Tryd.isAgg23 rfl (Nat.zero_add _).symm rfl) (.skip (.keep (.keep (.keep .nil)))) (Fz.le.refl _) ?_
        refine dT 5 rfl rfl rfl (by kernel_rfl) (fun _ _ _ h => h) (y_mv rfl) (.skip (.keep (.keep (.keep .nil)))) (Fz.le.refl _) ?_
        refine dT 6 rfl rfl rfl (by kernel_rfl) (fun _ _ _ h => h) (y_nc rfl) (.skip (.keep (.keep (.keep .nil)))) (Fz.le.refl _) ?_
        refine dT 7 rfl rfl rfl (by kernel_rfl) (fun _ _ _ h => h) (y_fa F140_2 rfl) (.skip (.keep (.keep (.keep .nil)))) (Fz.le.refl _) ?_
        refine dT 8 rfl rfl rfl (by kernel_rfl) (fun _ _ _ h => h) (y_ld (j := 2) (Says.fz (hb.mono (le_5.trans (hll0.trans le_15)))) Tryd.isAgg138 rfl rfl rfl) (.skip (.keep (.keep (.keep .nil)))) (Fz.le.refl _) ?_
        refine dT 9 rfl rfl rfl (by kernel_rfl) (fun _ _ _ h => h) (y_mv rfl) (.skip (.keep (.keep (.keep .nil)))) (Fz.le.refl _) ?_
        obtain ⟨beq_21, oeq_21, haq_21, hlq_21⟩ := ((h2.mono At_DeleteTopicsRequestTopic.mono (le_5.trans (hll0.trans le_15)))).rows.at_ (ne_nil_of_lt hk1)
        obtain ⟨ceq_21, hAq_21, hbq_21⟩ := hlq_21 k1 hk1
        refine dT 10 rfl rfl rfl (by kernel_rfl) (fun _ _ _ h => h) (y_ixk (j := k1) Tryd.runUnderlying138 Tryd.sizeOf145 rfl haq_21 rfl rfl hk1) (.skip (.keep (.keep (.keep .nil)))) (Fz.le.refl _) ?_
        refine dT 12 rfl rfl rfl (by kernel_rfl) (fun _ _ _ h => h) (y_ls Tryd.runUnderlying23 rfl) (.skip (.keep (.keep (.keep .nil)))) (Fz.le.refl _) ?_
        refine dE2 11 13 (by kernel_rfl) rfl rfl ?_ ?_
        · skip
          refine cl rfl rfl rfl (te_DeleteTopicsRequestTopic hbq_21 (At_DeleteTopicsRequestTopic.mono _ _ _ _ (Fz.le.refl _) hAq_21) ((hf.at 1).lTel (List.getElem_mem hk1))) rfl (fun v_ H1 L1 le_22 hR_ => ?_)
          obtain ⟨rfl, ct98, rfl, hT98⟩ := hR_
          refine dN (.skip (.keep (.keep (.keep .nil)))) le_22 ?_
          refine dE 13 (by kernel_rfl) rfl ?_
          refine bs' L23 rfl rfl rfl rfl (fun b_23 => ?_)
          refine dN (.skip (.skip (.keep (.keep (.keep .nil))))) le_22 ?_
          refine dE 14 (by kernel_rfl) rfl ?_
          have hmk : ml1 = k1 := by have h1 := congrArg List.length pk12; rw [List.length_map, List.length_map, List.length_take] at h1; omega
          have hmb := (hf.at 1).lTl
          refine ap (k := 1) (news := f5 ((TC.none, Tr.none) : EE)) Tryd.underlying23 I26 rfl rfl pk10 (fun _ => (.tail .head)) (src_says Tryd.underlying23 rfl (fun _ => Says.own .head) (f5_one _)) (by omega) (by unfold maxLen; omega) rfl (fun a101 c101 N101 r101 z101 => ?_)
          refine dN (.skip (.skip (.keep (.keep (.keep .nil))))) le_22 ?_
          refine dE 15 (by kernel_rfl) rfl ?_
          refine ixk (j := 1) Tryd.runUnderlying23 Tryd.sizeOf26 rfl rfl rfl rfl (by decide) rfl ?_
          refine dN (.skip (.skip (.keep (.keep (.keep .nil))))) le_22 ?_
          refine dT 16 rfl rfl rfl (by kernel_rfl) (fun _ _ _ h => h) (y_fa F26_3 rfl) (.skip (.skip (.keep (.keep (.keep .nil))))) le_22 ?_
          refine dE 17 (by kernel_rfl) rfl ?_
          refine st Tryd.sizeOf23 rfl rfl rfl rfl (.tail (.tail (.tail .head))) ?_
          refine dNk (by kernel_rfl) ?_
          refine dD (by kernel_rfl) ?_
          refine Nt ?_
          refine rg ?_
          obtain ⟨gg101, hgg101⟩ := r101.addr (by omega)
          refine ixk (j := ml1) Tryd.runUnderlying23 Tryd.sizeOf26 rfl hgg101 rfl rfl (by omega) rfl ?_
          refine sR (ds := f5 ((ct98, tl_DeleteTopicsRequestTopic (lT (T.at 1))[k1]) : EE)) r101 hgg101 (fun _ => (.tail .head)) Tryd.sizeOf26 rfl rfl rfl rfl (by omega) (fun N101b r101b => ?_)
          rw [row_put (k := 5) (m := ml1) (A := es1.flatMap f5) (by rw [flatMap_len f5 5 f5_len, pk11]) rfl, flatMap_snoc'] at r101b
          refine nN ?_
          refine Nb ?_
          refine drN .head ?_
          refine fun a_ w_ hA hw => ⟨_, _, _, hA.sub ?_, (le_15.trans le_22), hw, _, rfl, a101, (ml1 + 1), c101, (es1 ++ [((ct98, tl_DeleteTopicsRequestTopic (lT (T.at 1))[k1]) : EE)]), N101b, rfl, rfl, r101b, (by simp; omega), (map_take_snoc (g := tl_DeleteTopicsRequestTopic) hk1 pk12), (fun p hp => (mem_snoc hp).elim (fun h => (pk13 p h).mono le_22) (fun h => h ▸ hT98))⟩
          exact (.cons rfl (.cons rfl (.cons rfl (.cons rfl (.cons rfl (.nil _))))))
        · skip
          refine bs' L23 rfl rfl rfl rfl (fun b_24 => ?_)
          refine dN (.skip (.skip (.keep (.keep (.keep .nil))))) (Fz.le.refl _) ?_
          refine dE 11 (by kernel_rfl) rfl ?_
          refine cl rfl rfl rfl (te_DeleteTopicsRequestTopic hbq_21 (At_DeleteTopicsRequestTopic.mono _ _ _ _ (Fz.le.refl _) hAq_21) ((hf.at 1).lTel (List.getElem_mem hk1))) rfl (fun v_ H1 L1 le_25 hR_ => ?_)
          obtain ⟨rfl, ct98, rfl, hT98⟩ := hR_
          refine dN (.skip (.skip (.keep (.keep (.keep .nil))))) le_25 ?_
          refine dE 14 (by kernel_rfl) rfl ?_
          have hmk : ml1 = k1 := by have h1 := congrArg List.length pk12; rw [List.length_map, List.length_map, List.length_take] at h1; omega
          have hmb := (hf.at 1).lTl
          refine ap (k := 1) (news := f5 ((TC.none, Tr.none) : EE)) Tryd.underlying23 I26 rfl rfl pk10 (fun _ => (.tail .head)) (src_says Tryd.underlying23 rfl (fun _ => Says.own .head) (f5_one _)) (by omega) (by unfold maxLen; omega) rfl (fun a101 c101 N101 r101 z101 => ?_)
          refine dN (.skip (.skip (.keep (.keep (.keep .nil))))) le_25 ?_
          refine dE 15 (by kernel_rfl) rfl ?_
          refine ixk (j := 1) Tryd.runUnderlying23 Tryd.sizeOf26 rfl rfl rfl rfl (by decide) rfl ?_
          refine dN (.skip (.skip (.keep (.keep (.keep .nil))))) le_25 ?_
          refine dT 16 rfl rfl rfl (by kernel_rfl) (fun _ _ _ h => h) (y_fa F26_3 rfl) (.skip (.skip (.keep (.keep (.keep .nil))))) le_25 ?_
          refine dE 17 (by kernel_rfl) rfl ?_
          refine st Tryd.sizeOf23 rfl rfl rfl rfl (.tail (.tail (.tail .head))) ?_
          refine dNk (by kernel_rfl) ?_
          refine dD (by kernel_rfl) ?_
          refine Nt ?_
          refine rg ?_
          obtain ⟨gg101, hgg101⟩ := r101.addr (by omega)
          refine ixk (j := ml1) Tryd.runUnderlying23 Tryd.sizeOf26 rfl hgg101 rfl rfl (by omega) rfl ?_
          refine sR (ds := f5 ((ct98, tl_DeleteTopicsRequestTopic (lT (T.at 1))[k1]) : EE)) r101 hgg101 (fun _ => (.tail .head)) Tryd.sizeOf26 rfl rfl rfl rfl (by omega) (fun N101b r101b => ?_)
          rw [row_put (k := 5) (m := ml1) (A := es1.flatMap f5) (by rw [flatMap_len f5 5 f5_len, pk11]) rfl, flatMap_snoc'] at r101b
          refine nN ?_
          refine Nb ?_
          refine drN .head ?_
          refine fun a_ w_ hA hw => ⟨_, _, _, hA.sub ?_, (le_15.trans le_25), hw, _, rfl, a101, (ml1 + 1), c101, (es1 ++ [((ct98, tl_DeleteTopicsRequestTopic (lT (T.at 1))[k1]) : EE)]), N101b, rfl, rfl, r101b, (by simp; omega), (map_take_snoc (g := tl_DeleteTopicsRequestTopic) hk1 pk12), (fun p hp => (mem_snoc hp).elim (fun h => (pk13 p h).mono le_25) (fun h => h ▸ hT98))⟩
          exact (.cons rfl (.cons rfl (.cons rfl (.cons rfl (.cons rfl (.nil _))))))
    · skip
      obtain ⟨al1, ml1, cl1, es1, Nl1, rfl, rfl, pk10, pk11, pk12, pk13⟩ := hI
      refine toWp ?_
      have hes1 : es1.map (·.2) = (lT (T.at 1)).map tl_DeleteTopicsRequestTopic := by rw [pk12, List.take_length]
      have hm1 : ml1 = ((lT (T.at 1)).map tl_DeleteTopicsRequestTopic).length := by rw [← hes1, List.length_map]; exact pk11
      refine frW pk10 .head (fun Hl1 hll1 hzl1 => ?_)
      have ht1 := TreesAt.row hzl1 pk11 pk10.le.1 (by have h1 := congrArg List.length hes1; rw [List.length_map, List.length_map] at h1; unfold B47; omega) (fun p hp => (pk13 p hp).mono hll1)
      rw [hes1] at ht1
      subst hm1
      refine sq ?_
      refine rgD 9 (.keep (.keep (.keep .nil))) mixed ?_
      refine dT 0 rfl rfl rfl (by kernel_rfl) (fun _ _ _ h => h) (y_fa0 F26_3 rfl) (.keep (.keep (.keep .nil))) (Fz.le.refl _) ?_
      refine dT 1 rfl rfl rfl (by kernel_rfl) (fun _ _ _ h => h) (y_ld (Says.own .head) Tryd.isAgg23 rfl (Nat.zero_add _).symm rfl) (.keep (.keep (.keep .nil))) (Fz.le.refl _) ?_
      refine dT 2 rfl rfl rfl (by kernel_rfl) (fun _ _ _ h => h) (y_mv rfl) (.keep (.keep (.keep .nil))) (Fz.le.refl _) ?_
      refine dT 3 rfl rfl rfl (by kernel_rfl) (fun _ _ _ h => h) (y_nc rfl) (.keep (.keep (.keep .nil))) (Fz.le.refl _) ?_
      refine dT 4 rfl rfl rfl (by kernel_rfl) (fun _ _ _ h => h) (y_fa F140_3 rfl) (.keep (.keep (.keep .nil))) (Fz.le.refl _) ?_
      refine dT 5 rfl rfl rfl (by kernel_rfl) (fun _ _ _ h => h) (y_ld (j := 3) (Says.fz (hb.mono (le_5.trans (hll0.trans (le_16.trans hll1))))) Tryd.isAgg21 rfl rfl rfl) (.keep (.keep (.keep .nil))) (Fz.le.refl _) ?_
      refine dT 6 rfl rfl rfl (by kernel_rfl) (fun _ _ _ h => h) (y_cv Tryd.runUnderlying21 Tryd.runUnderlying2 rfl (i32_64 _)) (.keep (.keep (.keep .nil))) (Fz.le.refl _) ?_
      refine dT 7 rfl rfl rfl (by kernel_rfl) (fun _ _ _ h => h) (y_bd S26 rfl rfl) (.keep (.keep (.keep .nil))) (Fz.le.refl _) ?_
      refine dT 8 rfl rfl rfl (by kernel_rfl) (fun _ _ _ h => h) (y_ix2 (j := 2) Tryd.runUnderlying23 Tryd.sizeOf26 rfl rfl rfl rfl (by decide)) (.keep (.keep (.keep .nil))) (Fz.le.refl _) ?_
      refine dE 9 (by kernel_rfl) rfl ?_
      refine sa Tryd.sizeOf26 rfl rfl rfl rfl rfl (.tail .head) ?_
      refine dNk (by kernel_rfl) ?_
      refine dD (by kernel_rfl) ?_
      refine Nt ?_
      refine sr ?_
      refine mv rfl rfl ?_
      refine nc rfl rfl ?_
      refine fa F140_4 rfl rfl ?_
      refine mkf rfl rfl ?_
      obtain ⟨kvs, hM, hlen, hel⟩ := (h3.mono (le_5.trans (hll0.trans (le_16.trans hll1))))
      have hfu := hf.u
      refine cl rfl rfl rfl (t_each (j := 4) (I := fun i H1 Y => TgI 61 b_3 26 (.int .i64 0) (.slice none 0 0) (.bool false) (_) T.u i H1 Y) (hb.mono (le_5.trans (hll0.trans (le_16.trans hll1)))) rfl hM (by omega) (fun i H1 H2 Y hle h => h.mono hle) TgI.start (fun i k v H1 Y L1 hi hle hI => ?_)) rfl (fun v_ H1 L1 le_27 hR_ => ?_)
      · obtain ⟨s, h1, ⟨va, vc, rfl, hx⟩, h2, h3⟩ := hel i k v hi
        have hik := sortKv_lt hi
        exact TgI.step (fun {_ _ _ _ _ _ _ _ _ _ _ _ _ _ _ _} => tc_146) hf.v (by omega) h1 (hx.mono hle) h2 h3 hI
      rw [hlen] at hR_
      obtain ⟨_, rfl, aU, cU, NU, esU, rfl, hrU, heU, hgU⟩ := hR_
      refine splL ?_
      rw [List.take_length] at heU
      refine frL hrU (.tail .head) (fun HU hleU hzU => ?_)
      have hU := (TagsAt.told hzU hrU heU hfu (fun p hp => (hgU p hp).mono hleU)).1
      refine nl ?_
      refine sr ?_
      refine fa0 F26_4 rfl rfl ?_
      refine ld (Says.own .head) Tryd.isAgg24 rfl (Nat.zero_add _).symm rfl rfl ?_
      refine cl rfl rfl rfl (k_sorted hU (h3.mono (le_5.trans (hll0.trans (le_16.trans (hll1.trans (le_27.trans hleU)))))).rise) rfl (fun v_ H1 L1 hle_ hR_ => ?_)
      obtain ⟨rfl, rfl⟩ := hR_
      refine nl ?_
      refine sr ?_
      refine la (Says.own .head) Tryd.isAgg26 Tryd.sizeOf26 rfl (Nat.zero_add _).symm rfl rfl ?_
      refine sa Tryd.sizeOf26 rfl rfl rfl rfl rfl (.tail (.tail .head)) ?_
      refine nl ?_
      refine drW .head ?_
      refine frW (Row.whole (e := 26) (size := 5) (m := 3) (ds := [.int .i64 0, .slice none 0 0, .bool a0.isNone, .slice al0 ((lT (T.at 0)).map (fun y : Tr => (Tr.mk 0 y.s false [] [] : Tr))).length cl0, .slice none 0 0, .int .i64 0, .slice none 0 0, .bool a1.isNone, .slice al1 ((lT (T.at 1)).map tl_DeleteTopicsRequestTopic).length cl1, .slice none 0 0, .int .i64 (IntKind.i32.wrap (T.at 2).n), .slice none 0 0, .bool false, .slice none 0 0, .slice none 0 0]) rfl (by unfold maxLen; omega)) .head (fun H9 hle9 hz9 => ?_)
      have hrb : H9.at b_2 0 [.int .i64 0, .slice none 0 0, .bool a0.isNone, .slice al0 ((lT (T.at 0)).map (fun y : Tr => (Tr.mk 0 y.s false [] [] : Tr))).length cl0, .slice none 0 0, .int .i64 0, .slice none 0 0, .bool a1.isNone, .slice al1 ((lT (T.at 1)).map tl_DeleteTopicsRequestTopic).length cl1, .slice none 0 0, .int .i64 (IntKind.i32.wrap (T.at 2).n), .slice none 0 0, .bool false, .slice none 0 0, .slice none 0 0] := by
        rcases hz9 with ⟨h, _⟩ | ⟨g, h, h2⟩
        · cases h
        · cases h; exact h2
      rw [(h1).nul, (h2).nul] at hrb
      have hrb2 : H9.at b_2 0 (([((⟨none, 0, al0, cl0, none, 0⟩ : TC), (Tr.mk 0 [] (T.at 0).nul ((lT (T.at 0)).map (fun y : Tr => (Tr.mk 0 y.s false [] [] : Tr))) [] : Tr)), ((⟨none, 0, al1, cl1, none, 0⟩ : TC), (Tr.mk 0 [] (T.at 1).nul ((lT (T.at 1)).map tl_DeleteTopicsRequestTopic) [] : Tr)), ((TC.none : TC), (Tr.mk (IntKind.i32.wrap (T.at 2).n) [] false [] [] : Tr))] : List EE).flatMap fun p => p.1.cells p.2) := by exact hrb
      have hl9 : TreesAt H9 (some ⟨b_2, 0, none⟩) 3 [(.mk 0 [] (T.at 0).nul ((lT (T.at 0)).map (fun y : Tr => (Tr.mk 0 y.s false [] [] : Tr))) []), (.mk 0 [] (T.at 1).nul ((lT (T.at 1)).map tl_DeleteTopicsRequestTopic) []), (.mk (IntKind.i32.wrap (T.at 2).n) [] false [] [])] := by
        refine TreesAt.row (es := [((⟨none, 0, al0, cl0, none, 0⟩ : TC), (Tr.mk 0 [] (T.at 0).nul ((lT (T.at 0)).map (fun y : Tr => (Tr.mk 0 y.s false [] [] : Tr))) [] : Tr)), ((⟨none, 0, al1, cl1, none, 0⟩ : TC), (Tr.mk 0 [] (T.at 1).nul ((lT (T.at 1)).map tl_DeleteTopicsRequestTopic) [] : Tr)), ((TC.none : TC), (Tr.mk (IntKind.i32.wrap (T.at 2).n) [] false [] [] : Tr))]) (.inr ⟨_, rfl, hrb2⟩) rfl (Nat.le_refl _) (Nat.le_of_ble_eq_true rfl) ?_
        intro p hp
        simp only [List.mem_cons, List.not_mem_nil, or_false] at hp
        rcases hp with rfl | rfl | rfl
        · exact (.of (.nil _) (ht0.mono (le_16.trans (hll1.trans (le_27.trans (hleU.trans hle9))))) (.nil _))
        · exact (.of (.nil _) (ht1.mono (le_27.trans (hleU.trans hle9))) (.nil _))
        · exact (.of (.nil _) (.nil _) (.nil _))
      exact rC rfl Tryd.isAgg26 Tryd.sizeOf26 rfl .head rfl (le_5.trans (hll0.trans (le_16.trans (hll1.trans (le_27.trans (hleU.trans hle9)))))) (fun _ _ h => h) ⟨rfl, ⟨none, 0, some ⟨b_2, 0, none⟩, 3, aU, cU⟩, rfl, .of (.nil _) hl9 (hU.mono hle9)⟩
end Go.Sx

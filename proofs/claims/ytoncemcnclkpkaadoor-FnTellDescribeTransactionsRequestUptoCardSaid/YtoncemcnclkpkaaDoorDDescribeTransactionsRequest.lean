import Derived.Test.YtoncemcnclkpkaaDoorBDescribeTransactionsRequest
import Derived.Test.YtoncemcnclkpkaaDoorTB
import Derived.KernelRfl
set_option linter.unusedVariables false
set_option linter.unusedSimpArgs false
set_option maxRecDepth 100000
set_option maxHeartbeats 20000000
namespace Go.Sx
open Go.Proofs
def tl_DescribeTransactionsRequest (T : Tr) : Tr := .mk 0 [] false [(.mk 0 [] (T.at 0).nul ((lT (T.at 0)).map (fun y : Tr => (Tr.mk 0 y.s false [] [] : Tr))) [])] T.u
theorem te_DescribeTransactionsRequest {H : Fz} {L : Own} {b o : Nat} {cs : List Value} {T : Tr} {ver : Int} (hb : H.at b o cs) (hA : At_DescribeTransactionsRequest ver H T cs) (hf : Fits T) :
    Fn Tryd.prog 76 [.pointer (some ⟨b, o, none⟩)] H L (fun v H' L' => L = L' ∧ ∃ c : TC, v = .agg (c.cells (tl_DescribeTransactionsRequest T)).toArray ∧ TreeAt H' c (tl_DescribeTransactionsRequest T)) := by
  obtain ⟨a0, c0, mt, rfl, h1, h2⟩ := hA
  refine Fn.mk Tryd.call76 Tryd.func76 rfl Tryd.ntmps76 rfl ?_
  refine sr ?_
  refine al Tryd.zeroValue37 rfl rfl (fun b_1 => ?_)
  refine nl ?_
  refine sr ?_
  refine mkC (m := 1) (zs := [.int .i64 0, .slice none 0 0, .bool false, .slice none 0 0, .slice none 0 0]) Tryd.underlying34 I37 rfl rfl rfl rfl rfl rfl (by decide) (by unfold maxLen; omega) rfl (fun b_2 => ?_)
  refine bd' S37 rfl rfl rfl ?_
  refine al Tryd.zeroValue37 rfl rfl (fun b_3 => ?_)
  refine sa Tryd.sizeOf37 rfl rfl rfl rfl rfl .head ?_
  refine nl ?_
  refine sq ?_
  refine rgD 9 (.keep (.keep (.keep .nil))) mixed ?_
  refine dT 0 rfl rfl rfl (by kernel_rfl) (fun _ _ _ h => h) (y_fa0 F37_3 rfl) (.keep (.keep (.keep .nil))) (Fz.le.refl _) ?_
  refine dT 1 rfl rfl rfl (by kernel_rfl) (fun _ _ _ h => h) (y_ld (Says.own .head) Tryd.isAgg34 rfl (Nat.zero_add _).symm rfl) (.keep (.keep (.keep .nil))) (Fz.le.refl _) ?_
  refine dT 2 rfl rfl rfl (by kernel_rfl) (fun _ _ _ h => h) (y_mv rfl) (.keep (.keep (.keep .nil))) (Fz.le.refl _) ?_
  refine dT 3 rfl rfl rfl (by kernel_rfl) (fun _ _ _ h => h) (y_nc rfl) (.keep (.keep (.keep .nil))) (Fz.le.refl _) ?_
  refine dT 4 rfl rfl rfl (by kernel_rfl) (fun _ _ _ h => h) (y_fa F122_1 rfl) (.keep (.keep (.keep .nil))) (Fz.le.refl _) ?_
  refine dT 5 rfl rfl rfl (by kernel_rfl) (fun _ _ _ h => h) (y_ld (j := 1) (Says.fz hb) Tryd.isAgg120 rfl rfl rfl) (.keep (.keep (.keep .nil))) (Fz.le.refl _) ?_
  refine dT 6 rfl rfl rfl (by kernel_rfl) (fun _ _ _ h => h) (y_esn Tryd.underlying120 rfl) (.keep (.keep (.keep .nil))) (Fz.le.refl _) ?_
  refine dE 7 (by kernel_rfl) rfl ?_
  refine ixk (j := 0) Tryd.runUnderlying34 Tryd.sizeOf37 rfl rfl rfl rfl (by decide) rfl ?_
  refine dN (.keep (.keep (.keep .nil))) (Fz.le.refl _) ?_
  refine dT 8 rfl rfl rfl (by kernel_rfl) (fun _ _ _ h => h) (y_fa F37_2 rfl) (.keep (.keep (.keep .nil))) (Fz.le.refl _) ?_
  refine dE 9 (by kernel_rfl) rfl ?_
  refine st Tryd.sizeOf4 rfl rfl rfl rfl (.tail .head) ?_
  refine dNk (by kernel_rfl) ?_
  refine dD (by kernel_rfl) ?_
  refine Nt ?_
  refine sq ?_
  refine sr ?_
  refine mv rfl rfl ?_
  refine nc rfl rfl ?_
  refine fa F122_1 rfl rfl ?_
  refine ld (Says.fz hb) Tryd.isAgg120 rfl rfl rfl rfl ?_
  refine ls Tryd.runUnderlying120 rfl rfl ?_
  refine mv rfl rfl ?_
  refine nl ?_
  have hlm0 := (hf.at 0).lTl
  refine nulC2 ?_
  refine fr ((lT (T.at 0)).length) (fun k0 l' H' L' => ∃ (al0 : Option Addr), ∃ (ml0 : Nat), ∃ (cl0 : Nat), ∃ (es0 : List EE), ∃ (Nl0 : Chunk), [(0, .pointer (some ⟨b, o, none⟩)), (2, .pointer (some ⟨b_1, 0, none⟩)), (3, .pointer (some ⟨b_3, 0, none⟩)), (20, .int .i64 ((lT (T.at 0)).length : Int))] = l' ∧ Nl0 :: [(b_3, .cells [.int .i64 0, .slice none 0 0, .bool false, _, .slice none 0 0].toArray 37 (0, 0))] :: [(b_2, .cells [.int .i64 0, .slice none 0 0, .bool a0.isNone, .slice al0 ml0 cl0, .slice none 0 0].toArray 37 (0, 0))] :: [(b_1, .cells [.int .i64 0, .slice none 0 0, .bool false, .slice none 0 0, .slice none 0 0].toArray 37 (0, 0))] :: L = L' ∧ Row 37 5 al0 ml0 cl0 (es0.flatMap f5) Nl0 ∧ ml0 = es0.length ∧ es0.map (·.2) = ((lT (T.at 0)).take k0).map (fun y : Tr => (Tr.mk 0 y.s false [] [] : Tr)) ∧ (∀ p : EE, p ∈ es0 → TreeAt H' p.1 p.2)) [(0, .pointer (some ⟨b, o, none⟩)), (2, .pointer (some ⟨b_1, 0, none⟩)), (3, .pointer (some ⟨b_3, 0, none⟩)), (20, .int .i64 ((lT (T.at 0)).length : Int))] (fun k0 l' H' L' h => ?_) (by omega) rfl (.cons rfl (.cons rfl (.cons rfl (.cons rfl (.nil _))))) ⟨none, 0, 0, [], [], rfl, rfl, (Row.nil _ _), rfl, (by simp), (fun p hp => by cases hp)⟩ rfl rfl rfl rfl rfl (fun k0 l' H' L' hk0 le_4 hI => ?_) (fun l' H' L' le_5 hI => ?_)
  · obtain ⟨al0, ml0, cl0, es0, Nl0, rfl, _⟩ := h; exact ⟨rfl, rfl, rfl, rfl⟩
  · skip
    obtain ⟨al0, ml0, cl0, es0, Nl0, rfl, rfl, pk00, pk01, pk02, pk03⟩ := hI
    refine sr ?_
    refine mv rfl rfl ?_
    refine asg rfl rfl ?_
    refine nl ?_
    refine sq ?_
    refine rgD 4 .nil mixed ?_
    refine dE 0 (by kernel_rfl) rfl ?_
    refine al Tryd.zeroValue4 rfl rfl (fun b_6 => ?_)
    refine dN .nil (Fz.le.refl _) ?_
    refine dE2 1 2 (by kernel_rfl) rfl rfl ?_ ?_
    · skip
      refine st Tryd.sizeOf4 rfl rfl rfl rfl .head ?_
      refine dN .nil (Fz.le.refl _) ?_
      refine dE 2 (by kernel_rfl) rfl ?_
      refine st Tryd.sizeOf4 rfl rfl rfl rfl .head ?_
      refine dN .nil (Fz.le.refl _) ?_
      refine dE 3 (by kernel_rfl) rfl ?_
      refine ld (Says.own .head) Tryd.isAgg4 rfl (Nat.zero_add _).symm rfl rfl ?_
      refine dN .nil (Fz.le.refl _) ?_
      refine dD (by kernel_rfl) ?_
      refine drN .head ?_
      refine Nt ?_
      refine cF rfl ?_
      refine rgD 20 (.skip (.keep (.keep (.keep .nil)))) mixed ?_
      refine dT 0 rfl rfl rfl (by kernel_rfl) (fun _ _ _ h => h) (y_fa0 F37_3 rfl) (.skip (.keep (.keep (.keep .nil)))) (Fz.le.refl _) ?_
      refine dT 1 rfl rfl rfl (by kernel_rfl) (fun _ _ _ h => h) (y_ld (Says.own .head) Tryd.isAgg34 rfl (Nat.zero_add _).symm rfl) (.skip (.keep (.keep (.keep .nil)))) (Fz.le.refl _) ?_
      refine dT 2 rfl rfl rfl (by kernel_rfl) (fun _ _ _ h => h) (y_fa0 F37_3 rfl) (.skip (.keep (.keep (.keep .nil)))) (Fz.le.refl _) ?_
      refine dT 3 rfl rfl rfl (by kernel_rfl) (fun _ _ _ h => h) (y_ld (Says.own .head) Tryd.isAgg34 rfl (Nat.zero_add _).symm rfl) (.skip (.keep (.keep (.keep .nil)))) (Fz.le.refl _) ?_
      refine dT 4 rfl rfl rfl (by kernel_rfl) (fun _ _ _ h => h) (y_ix2 (j := 0) Tryd.runUnderlying34 Tryd.sizeOf37 rfl rfl rfl rfl (by decide)) (.skip (.keep (.keep (.keep .nil)))) (Fz.le.refl _) ?_
      refine dT 5 rfl rfl rfl (by kernel_rfl) (fun _ _ _ h => h) (y_fa F37_3 rfl) (.skip (.keep (.keep (.keep .nil)))) (Fz.le.refl _) ?_
      refine dT 6 rfl rfl rfl (by kernel_rfl) (fun _ _ _ h => h) (y_ld (Says.own (.tail .head)) Tryd.isAgg34 rfl (Nat.zero_add _).symm rfl) (.skip (.keep (.keep (.keep .nil)))) (Fz.le.refl _) ?_
      refine dT 7 rfl rfl rfl (by kernel_rfl) (fun _ _ _ h => h) (y_mv rfl) (.skip (.keep (.keep (.keep .nil)))) (Fz.le.refl _) ?_
      refine dT 8 rfl rfl rfl (by kernel_rfl) (fun _ _ _ h => h) (y_nc rfl) (.skip (.keep (.keep (.keep .nil)))) (Fz.le.refl _) ?_
      refine dT 9 rfl rfl rfl (by kernel_rfl) (fun _ _ _ h => h) (y_fa F122_1 rfl) (.skip (.keep (.keep (.keep .nil)))) (Fz.le.refl _) ?_
      refine dT 10 rfl rfl rfl (by kernel_rfl) (fun _ _ _ h => h) (y_ld (j := 1) (Says.fz (hb.mono le_4)) Tryd.isAgg120 rfl rfl rfl) (.skip (.keep (.keep (.keep .nil)))) (Fz.le.refl _) ?_
      refine dT 11 rfl rfl rfl (by kernel_rfl) (fun _ _ _ h => h) (y_mv rfl) (.skip (.keep (.keep (.keep .nil)))) (Fz.le.refl _) ?_
      obtain ⟨beq_7, oeq_7, haq_7, hlq_7⟩ := ((h1.mono RText.mono le_4)).rows.at_ (ne_nil_of_lt hk0)
      obtain ⟨ceq_7, hAq_7, hbq_7⟩ := hlq_7 k0 hk0
      obtain rfl : ceq_7 = [.string ⟨((lT (T.at 0))[k0]).s.toArray⟩] := hAq_7
      refine dT 12 rfl rfl rfl (by kernel_rfl) (fun _ _ _ h => h) (y_ixk (j := k0) Tryd.runUnderlying120 Tryd.sizeOf9 rfl haq_7 rfl rfl hk0) (.skip (.keep (.keep (.keep .nil)))) (Fz.le.refl _) ?_
      refine dT 13 rfl rfl rfl (by kernel_rfl) (fun _ _ _ h => h) (y_ld (Says.fz hbq_7) Tryd.isAgg9 rfl (Nat.add_zero _).symm rfl) (.skip (.keep (.keep (.keep .nil)))) (Fz.le.refl _) ?_
      refine dE 14 (by kernel_rfl) rfl ?_
      refine csb Tryd.underlying9 Tryd.underlying22 Tryd.underlying5 rfl (by have := (hf.at 0).lTel (List.getElem_mem hk0); have := this.s; unfold B47; omega) rfl (fun Hb60 b60 cp60 le_8 hb60 => ?_)
      refine dN (.skip (.keep (.keep (.keep .nil)))) le_8 ?_
      refine dT 15 rfl rfl rfl (by kernel_rfl) (fun _ _ _ h => h) (y_bd S37 rfl rfl) (.skip (.keep (.keep (.keep .nil)))) le_8 ?_
      refine dE 16 (by kernel_rfl) rfl ?_
      refine bs' L34 rfl rfl rfl rfl (fun b_9 => ?_)
      refine dN (.skip (.skip (.keep (.keep (.keep .nil))))) le_8 ?_
      refine dE 17 (by kernel_rfl) rfl ?_
      have hmk : ml0 = k0 := by have h1 := congrArg List.length pk02; rw [List.length_map, List.length_map, List.length_take] at h1; omega
      have hmb := (hf.at 0).lTl
      refine ap (k := 1) (news := f5 (((⟨some ⟨b60, 0, none⟩, cp60, none, 0, none, 0⟩ : TC), (Tr.mk 0 ((lT (T.at 0))[k0]).s false [] [] : Tr)) : EE)) Tryd.underlying34 I37 rfl rfl pk00 (fun _ => (.tail .head)) (src_says Tryd.underlying34 rfl (fun _ => Says.own .head) (f5_one _)) (by omega) (by unfold maxLen; omega) rfl (fun a63 c63 N63 r63 z63 => ?_)
      rw [flatMap_snoc'] at r63
      refine dN (.skip (.skip (.keep (.keep (.keep .nil))))) le_8 ?_
      refine dE 18 (by kernel_rfl) rfl ?_
      refine ixk (j := 0) Tryd.runUnderlying34 Tryd.sizeOf37 rfl rfl rfl rfl (by decide) rfl ?_
      refine dN (.skip (.skip (.keep (.keep (.keep .nil))))) le_8 ?_
      refine dT 19 rfl rfl rfl (by kernel_rfl) (fun _ _ _ h => h) (y_fa F37_3 rfl) (.skip (.skip (.keep (.keep (.keep .nil))))) le_8 ?_
      refine dE 20 (by kernel_rfl) rfl ?_
      refine st Tryd.sizeOf34 rfl rfl rfl rfl (.tail (.tail (.tail .head))) ?_
      refine dNk (by kernel_rfl) ?_
      refine dD (by kernel_rfl) ?_
      refine Nb ?_
      refine drN .head ?_
      refine fun a_ w_ hA hw => ⟨_, _, _, hA.sub ?_, (le_4.trans le_8), hw, _, rfl, a63, (ml0 + 1), c63, (es0 ++ [(((⟨some ⟨b60, 0, none⟩, cp60, none, 0, none, 0⟩ : TC), (Tr.mk 0 ((lT (T.at 0))[k0]).s false [] [] : Tr)) : EE)]), N63, rfl, rfl, r63, (by simp; omega), (map_take_snoc (g := (fun y : Tr => (Tr.mk 0 y.s false [] [] : Tr))) hk0 pk02), (fun p hp => (mem_snoc hp).elim (fun h => (pk03 p h).mono le_8) (fun h => h ▸ (.of hb60 (.nil _) (.nil _))))⟩
      exact (.cons rfl (.cons rfl (.cons rfl (.cons rfl (.cons rfl (.nil _))))))
    · skip
      refine st Tryd.sizeOf4 rfl rfl rfl rfl .head ?_
      refine dN .nil (Fz.le.refl _) ?_
      refine dE 1 (by kernel_rfl) rfl ?_
      refine st Tryd.sizeOf4 rfl rfl rfl rfl .head ?_
      refine dN .nil (Fz.le.refl _) ?_
      refine dE 3 (by kernel_rfl) rfl ?_
      refine ld (Says.own .head) Tryd.isAgg4 rfl (Nat.zero_add _).symm rfl rfl ?_
      refine dN .nil (Fz.le.refl _) ?_
      refine dD (by kernel_rfl) ?_
      refine drN .head ?_
      refine Nt ?_
      refine cT rfl ?_
      refine sq ?_
      refine rgD 19 (.skip (.keep (.keep (.keep .nil)))) mixed ?_
      refine dT 0 rfl rfl rfl (by kernel_rfl) (fun _ _ _ h => h) (y_fa0 F37_3 rfl) (.skip (.keep (.keep (.keep .nil)))) (Fz.le.refl _) ?_
      refine dT 1 rfl rfl rfl (by kernel_rfl) (fun _ _ _ h => h) (y_ld (Says.own .head) Tryd.isAgg34 rfl (Nat.zero_add _).symm rfl) (.skip (.keep (.keep (.keep .nil)))) (Fz.le.refl _) ?_
      refine dT 2 rfl rfl rfl (by kernel_rfl) (fun _ _ _ h => h) (y_ix2 (j := 0) Tryd.runUnderlying34 Tryd.sizeOf37 rfl rfl rfl rfl (by decide)) (.skip (.keep (.keep (.keep .nil)))) (Fz.le.refl _) ?_
      refine dT 3 rfl rfl rfl (by kernel_rfl) (fun _ _ _ h => h) (y_fa F37_3 rfl) (.skip (.keep (.keep (.keep .nil)))) (Fz.le.refl _) ?_
      refine dT 4 rfl rfl rfl (by kernel_rfl) (fun _ _ _ h => h) (y_ld (Says.own (.tail .head)) Tryd.isAgg34 rfl (Nat.zero_add _).symm rfl) (.skip (.keep (.keep (.keep .nil)))) (Fz.le.refl _) ?_
      refine dT 5 rfl rfl rfl (by kernel_rfl) (fun _ _ _ h => h) (y_mv rfl) (.skip (.keep (.keep (.keep .nil)))) (Fz.le.refl _) ?_
      refine dT 6 rfl rfl rfl (by kernel_rfl) (fun _ _ _ h => h) (y_nc rfl) (.skip (.keep (.keep (.keep .nil)))) (Fz.le.refl _) ?_
      refine dT 7 rfl rfl rfl (by kernel_rfl) (fun _ _ _ h => h) (y_fa F122_1 rfl) (.skip (.keep (.keep (.keep .nil)))) (Fz.le.refl _) ?_
      refine dT 8 rfl rfl rfl (by kernel_rfl) (fun _ _ _ h => h) (y_ld (j := 1) (Says.fz (hb.mono le_4)) Tryd.isAgg120 rfl rfl rfl) (.skip (.keep (.keep (.keep .nil)))) (Fz.le.refl _) ?_
      refine dT 9 rfl rfl rfl (by kernel_rfl) (fun _ _ _ h => h) (y_mv rfl) (.skip (.keep (.keep (.keep .nil)))) (Fz.le.refl _) ?_
      obtain ⟨beq_10, oeq_10, haq_10, hlq_10⟩ := ((h1.mono RText.mono le_4)).rows.at_ (ne_nil_of_lt hk0)
      obtain ⟨ceq_10, hAq_10, hbq_10⟩ := hlq_10 k0 hk0
      obtain rfl : ceq_10 = [.string ⟨((lT (T.at 0))[k0]).s.toArray⟩] := hAq_10
      refine dT 10 rfl rfl rfl (by kernel_rfl) (fun _ _ _ h => h) (y_ixk (j := k0) Tryd.runUnderlying120 Tryd.sizeOf9 rfl haq_10 rfl rfl hk0) (.skip (.keep (.keep (.keep .nil)))) (Fz.le.refl _) ?_
      refine dT 11 rfl rfl rfl (by kernel_rfl) (fun _ _ _ h => h) (y_ld (Says.fz hbq_10) Tryd.isAgg9 rfl (Nat.add_zero _).symm rfl) (.skip (.keep (.keep (.keep .nil)))) (Fz.le.refl _) ?_
      refine dT 14 rfl rfl rfl (by kernel_rfl) (fun _ _ _ h => h) (y_ls Tryd.runUnderlying34 rfl) (.skip (.keep (.keep (.keep .nil)))) (Fz.le.refl _) ?_
      refine dE2 12 15 (by kernel_rfl) rfl rfl ?_ ?_
      · skip
        refine csb Tryd.underlying9 Tryd.underlying22 Tryd.underlying5 rfl (by have := (hf.at 0).lTel (List.getElem_mem hk0); have := this.s; unfold B47; omega) rfl (fun Hb38 b38 cp38 le_11 hb38 => ?_)
        refine dN (.skip (.keep (.keep (.keep .nil)))) le_11 ?_
        refine dT 13 rfl rfl rfl (by kernel_rfl) (fun _ _ _ h => h) (y_bd S37 rfl rfl) (.skip (.keep (.keep (.keep .nil)))) le_11 ?_
        refine dE 15 (by kernel_rfl) rfl ?_
        refine bs' L34 rfl rfl rfl rfl (fun b_12 => ?_)
        refine dN (.skip (.skip (.keep (.keep (.keep .nil))))) le_11 ?_
        refine dE 16 (by kernel_rfl) rfl ?_
        have hmk : ml0 = k0 := by have h1 := congrArg List.length pk02; rw [List.length_map, List.length_map, List.length_take] at h1; omega
        have hmb := (hf.at 0).lTl
        refine ap (k := 1) (news := f5 ((TC.none, Tr.none) : EE)) Tryd.underlying34 I37 rfl rfl pk00 (fun _ => (.tail .head)) (src_says Tryd.underlying34 rfl (fun _ => Says.own .head) (f5_one _)) (by omega) (by unfold maxLen; omega) rfl (fun a42 c42 N42 r42 z42 => ?_)
        refine dN (.skip (.skip (.keep (.keep (.keep .nil))))) le_11 ?_
        refine dE 17 (by kernel_rfl) rfl ?_
        refine ixk (j := 0) Tryd.runUnderlying34 Tryd.sizeOf37 rfl rfl rfl rfl (by decide) rfl ?_
        refine dN (.skip (.skip (.keep (.keep (.keep .nil))))) le_11 ?_
        refine dT 18 rfl rfl rfl (by kernel_rfl) (fun _ _ _ h => h) (y_fa F37_3 rfl) (.skip (.skip (.keep (.keep (.keep .nil))))) le_11 ?_
        refine dE 19 (by kernel_rfl) rfl ?_
        refine st Tryd.sizeOf34 rfl rfl rfl rfl (.tail (.tail (.tail .head))) ?_
        refine dNk (by kernel_rfl) ?_
        refine dD (by kernel_rfl) ?_
        refine Nt ?_
        refine rg ?_
        obtain ⟨gg42, hgg42⟩ := r42.addr (by omega)
        refine ixk (j := ml0) Tryd.runUnderlying34 Tryd.sizeOf37 rfl hgg42 rfl rfl (by omega) rfl ?_
        refine sR (ds := f5 (((⟨some ⟨b38, 0, none⟩, cp38, none, 0, none, 0⟩ : TC), (Tr.mk 0 ((lT (T.at 0))[k0]).s false [] [] : Tr)) : EE)) r42 hgg42 (fun _ => (.tail .head)) Tryd.sizeOf37 rfl rfl rfl rfl (by omega) (fun N42b r42b => ?_)
        rw [row_put (k := 5) (m := ml0) (A := es0.flatMap f5) (by rw [flatMap_len f5 5 f5_len, pk01]) rfl, flatMap_snoc'] at r42b
        refine nN ?_
        refine Nb ?_
        refine drN .head ?_
        refine fun a_ w_ hA hw => ⟨_, _, _, hA.sub ?_, (le_4.trans le_11), hw, _, rfl, a42, (ml0 + 1), c42, (es0 ++ [(((⟨some ⟨b38, 0, none⟩, cp38, none, 0, none, 0⟩ : TC), (Tr.mk 0 ((lT (T.at 0))[k0]).s false [] [] : Tr)) : EE)]), N42b, rfl, rfl, r42b, (by simp; omega), (map_take_snoc (g := (fun y : Tr => (Tr.mk 0 y.s false [] [] : Tr))) hk0 pk02), (fun p hp => (mem_snoc hp).elim (fun h => (pk03 p h).mono le_11) (fun h => h ▸ (.of hb38 (.nil _) (.nil _))))⟩
        exact (.cons rfl (.cons rfl (.cons rfl (.cons rfl (.cons rfl (.nil _))))))
      · skip
        refine bs' L34 rfl rfl rfl rfl (fun b_13 => ?_)
        refine dN (.skip (.skip (.keep (.keep (.keep .nil))))) (Fz.le.refl _) ?_
        refine dE 12 (by kernel_rfl) rfl ?_
        refine csb Tryd.underlying9 Tryd.underlying22 Tryd.underlying5 rfl (by have := (hf.at 0).lTel (List.getElem_mem hk0); have := this.s; unfold B47; omega) rfl (fun Hb38 b38 cp38 le_14 hb38 => ?_)
        refine dN (.skip (.skip (.keep (.keep (.keep .nil))))) le_14 ?_
        refine dT 13 rfl rfl rfl (by kernel_rfl) (fun _ _ _ h => h) (y_bd S37 rfl rfl) (.skip (.skip (.keep (.keep (.keep .nil))))) le_14 ?_
        refine dE 16 (by kernel_rfl) rfl ?_
        have hmk : ml0 = k0 := by have h1 := congrArg List.length pk02; rw [List.length_map, List.length_map, List.length_take] at h1; omega
        have hmb := (hf.at 0).lTl
        refine ap (k := 1) (news := f5 ((TC.none, Tr.none) : EE)) Tryd.underlying34 I37 rfl rfl pk00 (fun _ => (.tail .head)) (src_says Tryd.underlying34 rfl (fun _ => Says.own .head) (f5_one _)) (by omega) (by unfold maxLen; omega) rfl (fun a42 c42 N42 r42 z42 => ?_)
        refine dN (.skip (.skip (.keep (.keep (.keep .nil))))) le_14 ?_
        refine dE 17 (by kernel_rfl) rfl ?_
        refine ixk (j := 0) Tryd.runUnderlying34 Tryd.sizeOf37 rfl rfl rfl rfl (by decide) rfl ?_
        refine dN (.skip (.skip (.keep (.keep (.keep .nil))))) le_14 ?_
        refine dT 18 rfl rfl rfl (by kernel_rfl) (fun _ _ _ h => h) (y_fa F37_3 rfl) (.skip (.skip (.keep (.keep (.keep .nil))))) le_14 ?_
        refine dE 19 (by kernel_rfl) rfl ?_
        refine st Tryd.sizeOf34 rfl rfl rfl rfl (.tail (.tail (.tail .head))) ?_
        refine dNk (by kernel_rfl) ?_
        refine dD (by kernel_rfl) ?_
        refine Nt ?_
        refine rg ?_
        obtain ⟨gg42, hgg42⟩ := r42.addr (by omega)
        refine ixk (j := ml0) Tryd.runUnderlying34 Tryd.sizeOf37 rfl hgg42 rfl rfl (by omega) rfl ?_
        refine sR (ds := f5 (((⟨some ⟨b38, 0, none⟩, cp38, none, 0, none, 0⟩ : TC), (Tr.mk 0 ((lT (T.at 0))[k0]).s false [] [] : Tr)) : EE)) r42 hgg42 (fun _ => (.tail .head)) Tryd.sizeOf37 rfl rfl rfl rfl (by omega) (fun N42b r42b => ?_)
        rw [row_put (k := 5) (m := ml0) (A := es0.flatMap f5) (by rw [flatMap_len f5 5 f5_len, pk01]) rfl, flatMap_snoc'] at r42b
        refine nN ?_
        refine Nb ?_
        refine drN .head ?_
        refine fun a_ w_ hA hw => ⟨_, _, _, hA.sub ?_, (le_4.trans le_14), hw, _, rfl, a42, (ml0 + 1), c42, (es0 ++ [(((⟨some ⟨b38, 0, none⟩, cp38, none, 0, none, 0⟩ : TC), (Tr.mk 0 ((lT (T.at 0))[k0]).s false [] [] : Tr)) : EE)]), N42b, rfl, rfl, r42b, (by simp; omega), (map_take_snoc (g := (fun y : Tr => (Tr.mk 0 y.s false [] [] : Tr))) hk0 pk02), (fun p hp => (mem_snoc hp).elim (fun h => (pk03 p h).mono le_14) (fun h => h ▸ (.of hb38 (.nil _) (.nil _))))⟩
        exact (.cons rfl (.cons rfl (.cons rfl (.cons rfl (.cons rfl (.nil _))))))
  · skip
    obtain ⟨al0, ml0, cl0, es0, Nl0, rfl, rfl, pk00, pk01, pk02, pk03⟩ := hI
    refine toWp ?_
    have hes0 : es0.map (·.2) = (lT (T.at 0)).map (fun y : Tr => (Tr.mk 0 y.s false [] [] : Tr)) := by rw [pk02, List.take_length]
    have hm0 : ml0 = ((lT (T.at 0)).map (fun y : Tr => (Tr.mk 0 y.s false [] [] : Tr))).length := by rw [← hes0, List.length_map]; exact pk01
    refine frW pk00 .head (fun Hl0 hll0 hzl0 => ?_)
    have ht0 := TreesAt.row hzl0 pk01 pk00.le.1 (by have h1 := congrArg List.length hes0; rw [List.length_map, List.length_map] at h1; unfold B47; omega) (fun p hp => (pk03 p hp).mono hll0)
    rw [hes0] at ht0
    subst hm0
    refine sr ?_
    refine mv rfl rfl ?_
    refine nc rfl rfl ?_
    refine fa F122_2 rfl rfl ?_
    refine mkf rfl rfl ?_
    have hkv_ := (h2.mono (le_5.trans hll0))
    obtain ⟨kvs, hM, hlen, hel⟩ := hkv_
    have hfu := hf.u
    refine cl rfl rfl rfl (t_each (j := 2) (I := fun i H1 Y => TgI 69 b_3 37 (.int .i64 0) (.slice none 0 0) (.bool false) (_) T.u i H1 Y) (hb.mono (le_5.trans hll0)) rfl hM (by omega) (fun i H1 H2 Y hle h => h.mono hle) TgI.start (fun i k v H1 Y L1 hi hle hI => ?_)) rfl (fun v_ H1 L1 le_16 hR_ => ?_)
    · obtain ⟨s, h1, ⟨va, vc, rfl, hx⟩, h2, h3⟩ := hel i k v hi
      have hik := sortKv_lt hi
      exact TgI.step (fun {_ _ _ _ _ _ _ _ _ _ _ _ _ _ _ _} => tc_110) hf.v (by omega) h1 (hx.mono hle) h2 h3 hI
    rw [hlen] at hR_
    obtain ⟨_, rfl, aU, cU, NU, esU, rfl, hrU, heU, hgU⟩ := hR_
    refine splL ?_
    rw [List.take_length] at heU
    refine frL hrU (.tail .head) (fun HU hleU hzU => ?_)
    have hU := (TagsAt.told hzU hrU heU hfu (fun p hp => (hgU p hp).mono hleU)).1
    refine nl ?_
    refine sr ?_
    refine fa0 F37_4 rfl rfl ?_
    refine ld (Says.own .head) Tryd.isAgg35 rfl (Nat.zero_add _).symm rfl rfl ?_
    refine cl rfl rfl rfl (k_sorted hU (h2.mono (le_5.trans (hll0.trans (le_16.trans hleU)))).rise) rfl (fun v_ H1 L1 hle_ hR_ => ?_)
    obtain ⟨rfl, rfl⟩ := hR_
    refine nl ?_
    refine sr ?_
    refine la (Says.own .head) Tryd.isAgg37 Tryd.sizeOf37 rfl (Nat.zero_add _).symm rfl rfl ?_
    refine sa Tryd.sizeOf37 rfl rfl rfl rfl rfl (.tail (.tail .head)) ?_
    refine nl ?_
    refine drW .head ?_
    refine frW (Row.whole (e := 37) (size := 5) (m := 1) (ds := [.int .i64 0, .slice none 0 0, .bool a0.isNone, .slice al0 ((lT (T.at 0)).map (fun y : Tr => (Tr.mk 0 y.s false [] [] : Tr))).length cl0, .slice none 0 0]) rfl (by unfold maxLen; omega)) .head (fun H9 hle9 hz9 => ?_)
    have hrb : H9.at b_2 0 [.int .i64 0, .slice none 0 0, .bool a0.isNone, .slice al0 ((lT (T.at 0)).map (fun y : Tr => (Tr.mk 0 y.s false [] [] : Tr))).length cl0, .slice none 0 0] := by
      rcases hz9 with ⟨h, _⟩ | ⟨g, h, h2⟩
      · cases h
      · cases h; exact h2
    rw [(h1).nul] at hrb
    have hrb2 : H9.at b_2 0 (([((⟨none, 0, al0, cl0, none, 0⟩ : TC), (Tr.mk 0 [] (T.at 0).nul ((lT (T.at 0)).map (fun y : Tr => (Tr.mk 0 y.s false [] [] : Tr))) [] : Tr))] : List EE).flatMap fun p => p.1.cells p.2) := by exact hrb
    have hl9 : TreesAt H9 (some ⟨b_2, 0, none⟩) 1 [(.mk 0 [] (T.at 0).nul ((lT (T.at 0)).map (fun y : Tr => (Tr.mk 0 y.s false [] [] : Tr))) [])] := by
      refine TreesAt.row (es := [((⟨none, 0, al0, cl0, none, 0⟩ : TC), (Tr.mk 0 [] (T.at 0).nul ((lT (T.at 0)).map (fun y : Tr => (Tr.mk 0 y.s false [] [] : Tr))) [] : Tr))]) (.inr ⟨_, rfl, hrb2⟩) rfl (Nat.le_refl _) (Nat.le_of_ble_eq_true rfl) ?_
      intro p hp
      simp only [List.mem_cons, List.not_mem_nil, or_false] at hp
      rcases hp with rfl
      · exact (.of (.nil _) (ht0.mono (le_16.trans (hleU.trans hle9))) (.nil _))
    exact rC rfl Tryd.isAgg37 Tryd.sizeOf37 rfl .head rfl (le_5.trans (hll0.trans (le_16.trans (hleU.trans hle9)))) (fun _ _ h => h) ⟨rfl, ⟨none, 0, some ⟨b_2, 0, none⟩, 1, aU, cU⟩, rfl, .of (.nil _) hl9 (hU.mono hle9)⟩
end Go.Sx

import Derived.Test.YtjjkeefebiiolaaDoorBSASLHandshakeResponse
import Derived.Test.YtjjkeefebiiolaaDoorTB
import Derived.KernelRfl
set_option linter.unusedVariables false
set_option linter.unusedSimpArgs false
set_option maxRecDepth 100000
set_option maxHeartbeats 20000000
namespace Go.Sx
open Go.Proofs
def tl_SASLHandshakeResponse (T : Tr) : Tr := .mk 0 [] false [(.mk (IntKind.i16.wrap (T.at 0).n) [] false [] []), (.mk 0 [] (T.at 1).nul ((lT (T.at 1)).map (fun y : Tr => (Tr.mk 0 y.s false [] [] : Tr))) [])] []
theorem te_SASLHandshakeResponse {H : Fz} {L : Own} {b o : Nat} {cs : List Value} {T : Tr} {ver : Int} (hb : H.at b o cs) (hA : At_SASLHandshakeResponse ver H T cs) (hf : Fits T) :
    Fn Tryd.prog 22 [.pointer (some ⟨b, o, none⟩)] H L (fun v H' L' => L = L' ∧ ∃ c : TC, v = .agg (c.cells (tl_SASLHandshakeResponse T)).toArray ∧ TreeAt H' c (tl_SASLHandshakeResponse T)) := by
  obtain ⟨a1, c1, rfl, h1⟩ := hA
  refine Fn.mk Tryd.call22 Tryd.func22 rfl Tryd.ntmps22 rfl ?_
  refine sr ?_
  refine al Tryd.zeroValue37 rfl rfl (fun b_1 => ?_)
  refine nl ?_
  refine sr ?_
  refine mkC (m := 2) (zs := [.int .i64 0, .slice none 0 0, .bool false, .slice none 0 0, .slice none 0 0]) Tryd.underlying34 I37 rfl rfl rfl rfl rfl rfl (by decide) (by unfold maxLen; omega) rfl (fun b_2 => ?_)
  refine bd' S37 rfl rfl rfl ?_
  refine al Tryd.zeroValue37 rfl rfl (fun b_3 => ?_)
  refine sa Tryd.sizeOf37 rfl rfl rfl rfl rfl .head ?_
  refine nl ?_
  refine sq ?_
  refine rgD 9 (.keep (.keep (.keep .nil))) mixed ?_
  refine dT 0 rfl rfl rfl (by kernel_rfl) (fun _ _ _ h => h) (y_fa0 F37_3 rfl) (.keep (.keep (.keep .nil))) (Fz.le.refl _) ?_
  refine dT 1 rfl rfl rfl (by kernel_rfl) (fun _ _ _ h => h) (y_ld (Says.own .head) Tryd.isAgg34 rfl (Nat.zero_add _).symm rfl) (.keep (.keep (.keep .nil))) (Fz.le.refl _) ?_
  refine dT 2 rfl rfl rfl (by kernel_rfl) (fun _ _ _ h => h) (y_mv rfl) (.keep (.keep (.keep .nil))) (Fz.le.refl _) ?_
  refine dT 3 rfl rfl rfl (by kernel_rfl) (fun _ _ _ h => h) (y_nc rfl) (.keep (.keep (.keep .nil))) (Fz.le.refl _) ?_
  refine dT 4 rfl rfl rfl (by kernel_rfl) (fun _ _ _ h => h) (y_fa F75_1 rfl) (.keep (.keep (.keep .nil))) (Fz.le.refl _) ?_
  refine dT 5 rfl rfl rfl (by kernel_rfl) (fun _ _ _ h => h) (y_ld (j := 1) (Says.fz hb) Tryd.isAgg46 rfl rfl rfl) (.keep (.keep (.keep .nil))) (Fz.le.refl _) ?_
  refine dT 6 rfl rfl rfl (by kernel_rfl) (fun _ _ _ h => h) (y_cv Tryd.runUnderlying46 Tryd.runUnderlying2 rfl (i16_64 _)) (.keep (.keep (.keep .nil))) (Fz.le.refl _) ?_
  refine dT 7 rfl rfl rfl (by kernel_rfl) (fun _ _ _ h => h) (y_bd S37 rfl rfl) (.keep (.keep (.keep .nil))) (Fz.le.refl _) ?_
  refine dT 8 rfl rfl rfl (by kernel_rfl) (fun _ _ _ h => h) (y_ix2 (j := 0) Tryd.runUnderlying34 Tryd.sizeOf37 rfl rfl rfl rfl (by decide)) (.keep (.keep (.keep .nil))) (Fz.le.refl _) ?_
  refine dE 9 (by kernel_rfl) rfl ?_
  refine sa Tryd.sizeOf37 rfl rfl rfl rfl rfl (.tail .head) ?_
  refine dNk (by kernel_rfl) ?_
  refine dD (by kernel_rfl) ?_
  refine Nt ?_
  refine sq ?_
  refine rgD 9 (.keep (.keep (.keep .nil))) mixed ?_
  refine dT 0 rfl rfl rfl (by kernel_rfl) (fun _ _ _ h => h) (y_fa0 F37_3 rfl) (.keep (.keep (.keep .nil))) (Fz.le.refl _) ?_
  refine dT 1 rfl rfl rfl (by kernel_rfl) (fun _ _ _ h => h) (y_ld (Says.own .head) Tryd.isAgg34 rfl (Nat.zero_add _).symm rfl) (.keep (.keep (.keep .nil))) (Fz.le.refl _) ?_
  refine dT 2 rfl rfl rfl (by kernel_rfl) (fun _ _ _ h => h) (y_mv rfl) (.keep (.keep (.keep .nil))) (Fz.le.refl _) ?_
  refine dT 3 rfl rfl rfl (by kernel_rfl) (fun _ _ _ h => h) (y_nc rfl) (.keep (.keep (.keep .nil))) (Fz.le.refl _) ?_
  refine dT 4 rfl rfl rfl (by kernel_rfl) (fun _ _ _ h => h) (y_fa F75_2 rfl) (.keep (.keep (.keep .nil))) (Fz.le.refl _) ?_
  refine dT 5 rfl rfl rfl (by kernel_rfl) (fun _ _ _ h => h) (y_ld (j := 2) (Says.fz hb) Tryd.isAgg73 rfl rfl rfl) (.keep (.keep (.keep .nil))) (Fz.le.refl _) ?_
  refine dT 6 rfl rfl rfl (by kernel_rfl) (fun _ _ _ h => h) (y_esn Tryd.underlying73 rfl) (.keep (.keep (.keep .nil))) (Fz.le.refl _) ?_
  refine dE 7 (by kernel_rfl) rfl ?_
  refine ixk (j := 1) Tryd.runUnderlying34 Tryd.sizeOf37 rfl rfl rfl rfl (by decide) rfl ?_
  refine dN (.keep (.keep (.keep .nil))) (Fz.le.refl _) ?_
  refine dT 8 rfl rfl rfl (by kernel_rfl) (fun _ _ _ h => h) (y_fa F37_2 rfl) (.keep (.keep (.keep .nil))) (Fz.le.refl _) ?_
  refine dE 9 (by kernel_rfl) rfl ?_
  refine st Tryd.sizeOf4 rfl rfl rfl rfl (.tail .head) ?_
  refine dNk (by kernel_rfl) ?_
  refine dD (by kernel_rfl) ?_
  refine Nt ?_
  refine sq ?_
  refine sr ?_
  refine mv rfl rfl ?_
  refine nc rfl rfl ?_
  refine fa F75_2 rfl rfl ?_
  refine ld (Says.fz hb) Tryd.isAgg73 rfl rfl rfl rfl ?_
  refine ls Tryd.runUnderlying73 rfl rfl ?_
  refine mv rfl rfl ?_
  refine nl ?_
  have hlm1 := (hf.at 1).lTl
  refine nulC2 ?_
  refine fr ((lT (T.at 1)).length) (fun k1 l' H' L' => ∃ (al1 : Option Addr), ∃ (ml1 : Nat), ∃ (cl1 : Nat), ∃ (es1 : List EE), ∃ (Nl1 : Chunk), [(0, .pointer (some ⟨b, o, none⟩)), (2, .pointer (some ⟨b_1, 0, none⟩)), (3, .pointer (some ⟨b_3, 0, none⟩)), (29, .int .i64 ((lT (T.at 1)).length : Int))] = l' ∧ Nl1 :: [(b_3, .cells [.int .i64 0, .slice none 0 0, .bool false, _, .slice none 0 0].toArray 37 (0, 0))] :: [(b_2, .cells [.int .i64 (IntKind.i16.wrap (T.at 0).n), .slice none 0 0, .bool false, .slice none 0 0, .slice none 0 0, .int .i64 0, .slice none 0 0, .bool a1.isNone, .slice al1 ml1 cl1, .slice none 0 0].toArray 37 (0, 0))] :: [(b_1, .cells [.int .i64 0, .slice none 0 0, .bool false, .slice none 0 0, .slice none 0 0].toArray 37 (0, 0))] :: L = L' ∧ Row 37 5 al1 ml1 cl1 (es1.flatMap f5) Nl1 ∧ ml1 = es1.length ∧ es1.map (·.2) = ((lT (T.at 1)).take k1).map (fun y : Tr => (Tr.mk 0 y.s false [] [] : Tr)) ∧ (∀ p : EE, p ∈ es1 → TreeAt H' p.1 p.2)) [(0, .pointer (some ⟨b, o, none⟩)), (2, .pointer (some ⟨b_1, 0, none⟩)), (3, .pointer (some ⟨b_3, 0, none⟩)), (29, .int .i64 ((lT (T.at 1)).length : Int))] (fun k1 l' H' L' h => ?_) (by omega) rfl (.cons rfl (.cons rfl (.cons rfl (.cons rfl (.nil _))))) ⟨none, 0, 0, [], [], rfl, rfl, (Row.nil _ _), rfl, (by simp), (fun p hp => by cases hp)⟩ rfl rfl rfl rfl rfl (fun k1 l' H' L' hk1 le_4 hI => ?_) (fun l' H' L' le_5 hI => ?_)
  · obtain ⟨al1, ml1, cl1, es1, Nl1, rfl, _⟩ := h; exact ⟨rfl, rfl, rfl, rfl⟩
  · skip
    obtain ⟨al1, ml1, cl1, es1, Nl1, rfl, rfl, pk10, pk11, pk12, pk13⟩ := hI
    refine sr ?_
    refine mv rfl rfl ?_
    refine asg rfl rfl ?_
    refine nl ?_
    refine sq ?_
    refine rgD 4 .nil mixed ?_
    refine dE 0 (by kernel_rfl) rfl ?_
    refine al Tryd.zeroValue4 rfl rfl (fun b_6 => ?_)
    refine dN .nil (Fz.le.refl _) ?_
    refine dE2 1 2 (by kernel_rfl) rfl rfl ?_ ?_
    · skip
      refine st Tryd.sizeOf4 rfl rfl rfl rfl .head ?_
      refine dN .nil (Fz.le.refl _) ?_
      refine dE 2 (by kernel_rfl) rfl ?_
      refine st Tryd.sizeOf4 rfl rfl rfl rfl .head ?_
      refine dN .nil (Fz.le.refl _) ?_
      refine dE 3 (by kernel_rfl) rfl ?_
      refine ld (Says.own .head) Tryd.isAgg4 rfl (Nat.zero_add _).symm rfl rfl ?_
      refine dN .nil (Fz.le.refl _) ?_
      refine dD (by kernel_rfl) ?_
      refine drN .head ?_
      refine Nt ?_
      refine cF rfl ?_
      refine rgD 20 (.skip (.keep (.keep (.keep .nil)))) mixed ?_
      refine dT 0 rfl rfl rfl (by kernel_rfl) (fun _ _ _ h => h) (y_fa0 F37_3 rfl) (.skip (.keep (.keep (.keep .nil)))) (Fz.le.refl _) ?_
      refine dT 1 rfl rfl rfl (by kernel_rfl) (fun _ _ _ h => h) (y_ld (Says.own .head) Tryd.isAgg34 rfl (Nat.zero_add _).symm rfl) (.skip (.keep (.keep (.keep .nil)))) (Fz.le.refl _) ?_
      refine dT 2 rfl rfl rfl (by kernel_rfl) (fun _ _ _ h => h) (y_fa0 F37_3 rfl) (.skip (.keep (.keep (.keep .nil)))) (Fz.le.refl _) ?_
      refine dT 3 rfl rfl rfl (by kernel_rfl) (fun _ _ _ h => h) (y_ld (Says.own .head) Tryd.isAgg34 rfl (Nat.zero_add _).symm rfl) (.skip (.keep (.keep (.keep .nil)))) (Fz.le.refl _) ?_
      refine dT 4 rfl rfl rfl (by kernel_rfl) (fun _ _ _ h => h) (y_ix2 (j := 1) Tryd.runUnderlying34 Tryd.sizeOf37 rfl rfl rfl rfl (by decide)) (.skip (.keep (.keep (.keep .nil)))) (Fz.le.refl _) ?_
      refine dT 5 rfl rfl rfl (by kernel_rfl) (fun _ _ _ h => h) (y_fa F37_3 rfl) (.skip (.keep (.keep (.keep .nil)))) (Fz.le.refl _) ?_
      refine dT 6 rfl rfl rfl (by kernel_rfl) (fun _ _ _ h => h) (y_ld (Says.own (.tail .head)) Tryd.isAgg34 rfl (Nat.zero_add _).symm rfl) (.skip (.keep (.keep (.keep .nil)))) (Fz.le.refl _) ?_
      refine dT 7 rfl rfl rfl (by kernel_rfl) (fun _ _ _ h => h) (y_mv rfl) (.skip (.keep (.keep (.keep .nil)))) (Fz.le.refl _) ?_
      refine dT 8 rfl rfl rfl (by kernel_rfl) (fun _ _ _ h => h) (y_nc rfl) (.skip (.keep (.keep (.keep .nil)))) (Fz.le.refl _) ?_
      refine dT 9 rfl rfl rfl (by kernel_rfl) (fun _ _ _ h => h) (y_fa F75_2 rfl) (.skip (.keep (.keep (.keep .nil)))) (Fz.le.refl _) ?_
      refine dT 10 rfl rfl rfl (by kernel_rfl) (fun _ _ _ h => h) (y_ld (j := 2) (Says.fz (hb.mono le_4)) Tryd.isAgg73 rfl rfl rfl) (.skip (.keep (.keep (.keep .nil)))) (Fz.le.refl _) ?_
      refine dT 11 rfl rfl rfl (by kernel_rfl) (fun _ _ _ h => h) (y_mv rfl) (.skip (.keep (.keep (.keep .nil)))) (Fz.le.refl _) ?_
      obtain ⟨beq_7, oeq_7, haq_7, hlq_7⟩ := ((h1.mono RText.mono le_4)).rows.at_ (ne_nil_of_lt hk1)
      obtain ⟨ceq_7, hAq_7, hbq_7⟩ := hlq_7 k1 hk1
      obtain rfl : ceq_7 = [.string ⟨((lT (T.at 1))[k1]).s.toArray⟩] := hAq_7
      refine dT 12 rfl rfl rfl (by kernel_rfl) (fun _ _ _ h => h) (y_ixk (j := k1) Tryd.runUnderlying73 Tryd.sizeOf9 rfl haq_7 rfl rfl hk1) (.skip (.keep (.keep (.keep .nil)))) (Fz.le.refl _) ?_
      refine dT 13 rfl rfl rfl (by kernel_rfl) (fun _ _ _ h => h) (y_ld (Says.fz hbq_7) Tryd.isAgg9 rfl (Nat.add_zero _).symm rfl) (.skip (.keep (.keep (.keep .nil)))) (Fz.le.refl _) ?_
      refine dE 14 (by kernel_rfl) rfl ?_
      refine csb Tryd.underlying9 Tryd.underlying22 Tryd.underlying5 rfl (by have := (hf.at 1).lTel (List.getElem_mem hk1); have := this.s; unfold B47; omega) rfl (fun Hb69 b69 cp69 le_8 hb69 => ?_)
      refine dN (.skip (.keep (.keep (.keep .nil)))) le_8 ?_
      refine dT 15 rfl rfl rfl (by kernel_rfl) (fun _ _ _ h => h) (y_bd S37 rfl rfl) (.skip (.keep (.keep (.keep .nil)))) le_8 ?_
      refine dE 16 (by kernel_rfl) rfl ?_
      refine bs' L34 rfl rfl rfl rfl (fun b_9 => ?_)
      refine dN (.skip (.skip (.keep (.keep (.keep .nil))))) le_8 ?_
      refine dE 17 (by kernel_rfl) rfl ?_
      have hmk : ml1 = k1 := by have h1 := congrArg List.length pk12; rw [List.length_map, List.length_map, List.length_take] at h1; omega
      have hmb := (hf.at 1).lTl
      refine ap (k := 1) (news := f5 (((⟨some ⟨b69, 0, none⟩, cp69, none, 0, none, 0⟩ : TC), (Tr.mk 0 ((lT (T.at 1))[k1]).s false [] [] : Tr)) : EE)) Tryd.underlying34 I37 rfl rfl pk10 (fun _ => (.tail .head)) (src_says Tryd.underlying34 rfl (fun _ => Says.own .head) (f5_one _)) (by omega) (by unfold maxLen; omega) rfl (fun a72 c72 N72 r72 z72 => ?_)
      rw [flatMap_snoc'] at r72
      refine dN (.skip (.skip (.keep (.keep (.keep .nil))))) le_8 ?_
      refine dE 18 (by kernel_rfl) rfl ?_
      refine ixk (j := 1) Tryd.runUnderlying34 Tryd.sizeOf37 rfl rfl rfl rfl (by decide) rfl ?_
      refine dN (.skip (.skip (.keep (.keep (.keep .nil))))) le_8 ?_
      refine dT 19 rfl rfl rfl (by kernel_rfl) (fun _ _ _ h => h) (y_fa F37_3 rfl) (.skip (.skip (.keep (.keep (.keep .nil))))) le_8 ?_
      refine dE 20 (by kernel_rfl) rfl ?_
      refine st Tryd.sizeOf34 rfl rfl rfl rfl (.tail (.tail (.tail .head))) ?_
      refine dNk (by kernel_rfl) ?_
      refine dD (by kernel_rfl) ?_
      refine Nb ?_
      refine drN .head ?_
      refine fun a_ w_ hA hw => ⟨_, _, _, hA.sub ?_, (le_4.trans le_8), hw, _, rfl, a72, (ml1 + 1), c72, (es1 ++ [(((⟨some ⟨b69, 0, none⟩, cp69, none, 0, none, 0⟩ : TC), (Tr.mk 0 ((lT (T.at 1))[k1]).s false [] [] : Tr)) : EE)]), N72, rfl, rfl, r72, (by simp; omega), (map_take_snoc (g := (fun y : Tr => (Tr.mk 0 y.s false [] [] : Tr))) hk1 pk12), (fun p hp => (mem_snoc hp).elim (fun h => (pk13 p h).mono le_8) (fun h => h ▸ (.of hb69 (.nil _) (.nil _))))⟩
      exact (.cons rfl (.cons rfl (.cons rfl (.cons rfl (.cons rfl (.nil _))))))
    · skip
      refine st Tryd.sizeOf4 rfl rfl rfl rfl .head ?_
      refine dN .nil (Fz.le.refl _) ?_
      refine dE 1 (by kernel_rfl) rfl ?_
      refine st Tryd.sizeOf4 rfl rfl rfl rfl .head ?_
      refine dN .nil (Fz.le.refl _) ?_
      refine dE 3 (by kernel_rfl) rfl ?_
      refine ld (Says.own .head) Tryd.isAgg4 rfl (Nat.zero_add _).symm rfl rfl ?_
      refine dN .nil (Fz.le.refl _) ?_
      refine dD (by kernel_rfl) ?_
      refine drN .head ?_
      refine Nt ?_
      refine cT rfl ?_
      refine sq ?_
      refine rgD 19 (.skip (.keep (.keep (.keep .nil)))) mixed ?_
      refine dT 0 rfl rfl rfl (by kernel_rfl) (fun _ _ _ h => h) (y_fa0 F37_3 rfl) (.skip (.keep (.keep (.keep .nil)))) (Fz.le.refl _) ?_
      refine dT 1 rfl rfl rfl (by kernel_rfl) (fun _ _ _ h => h) (y_ld (Says.own .head) Tryd.isAgg34 rfl (Nat.zero_add _).symm rfl) (.skip (.keep (.keep (.keep .nil)))) (Fz.le.refl _) ?_
      refine dT 2 rfl rfl rfl (by kernel_rfl) (fun _ _ _ h => h) (y_ix2 (j := 1) Tryd.runUnderlying34 Tryd.sizeOf37 rfl rfl rfl rfl (by decide)) (.skip (.keep (.keep (.keep .nil)))) (Fz.le.refl _) ?_
      refine dT 3 rfl rfl rfl (by kernel_rfl) (fun _ _ _ h => h) (y_fa F37_3 rfl) (.skip (.keep (.keep (.keep .nil)))) (Fz.le.refl _) ?_
      refine dT 4 rfl rfl rfl (by kernel_rfl) (fun _ _ _ h => h) (y_ld (Says.own (.tail .head)) Tryd.isAgg34 rfl (Nat.zero_add _).symm rfl) (.skip (.keep (.keep (.keep .nil)))) (Fz.le.refl _) ?_
      refine dT 5 rfl rfl rfl (by kernel_rfl) (fun _ _ _ h => h) (y_mv rfl) (.skip (.keep (.keep (.keep .nil)))) (Fz.le.refl _) ?_
      refine dT 6 rfl rfl rfl (by kernel_rfl) (fun _ _ _ h => h) (y_nc rfl) (.skip (.keep (.keep (.keep .nil)))) (Fz.le.refl _) ?_
      refine dT 7 rfl rfl rfl (by kernel_rfl) (fun _ _ _ h => h) (y_fa F75_2 rfl) (.skip (.keep (.keep (.keep .nil)))) (Fz.le.refl _) ?_
      refine dT 8 rfl rfl rfl (by kernel_rfl) (fun _ _ _ h => h) (y_ld (j := 2) (Says.fz (hb.mono le_4)) Tryd.isAgg73 rfl rfl rfl) (.skip (.keep (.keep (.keep .nil)))) (Fz.le.refl _) ?_
      refine dT 9 rfl rfl rfl (by kernel_rfl) (fun _ _ _ h => h) (y_mv rfl) (.skip (.keep (.keep (.keep .nil)))) (Fz.le.refl _) ?_
      obtain ⟨beq_10, oeq_10, haq_10, hlq_10⟩ := ((h1.mono RText.mono le_4)).rows.at_ (ne_nil_of_lt hk1)
      obtain ⟨ceq_10, hAq_10, hbq_10⟩ := hlq_10 k1 hk1
      obtain rfl : ceq_10 = [.string ⟨((lT (T.at 1))[k1]).s.toArray⟩] := hAq_10
      refine dT 10 rfl rfl rfl (by kernel_rfl) (fun _ _ _ h => h) (y_ixk (j := k1) Tryd.runUnderlying73 Tryd.sizeOf9 rfl haq_10 rfl rfl hk1) (.skip (.keep (.keep (.keep .nil)))) (Fz.le.refl _) ?_
      refine dT 11 rfl rfl rfl (by kernel_rfl) (fun _ _ _ h => h) (y_ld (Says.fz hbq_10) Tryd.isAgg9 rfl (Nat.add_zero _).symm rfl) (.skip (.keep (.keep (.keep .nil)))) (Fz.le.refl _) ?_
      refine dT 14 rfl rfl rfl (by kernel_rfl) (fun _ _ _ h => h) (y_ls Tryd.runUnderlying34 rfl) (.skip (.keep (.keep (.keep .nil)))) (Fz.le.refl _) ?_
      refine dE2 12 15 (by kernel_rfl) rfl rfl ?_ ?_
      · skip
        refine csb Tryd.underlying9 Tryd.underlying22 Tryd.underlying5 rfl (by have := (hf.at 1).lTel (List.getElem_mem hk1); have := this.s; unfold B47; omega) rfl (fun Hb47 b47 cp47 le_11 hb47 => ?_)
        refine dN (.skip (.keep (.keep (.keep .nil)))) le_11 ?_
        refine dT 13 rfl rfl rfl (by kernel_rfl) (fun _ _ _ h => h) (y_bd S37 rfl rfl) (.skip (.keep (.keep (.keep .nil)))) le_11 ?_
        refine dE 15 (by kernel_rfl) rfl ?_
        refine bs' L34 rfl rfl rfl rfl (fun b_12 => ?_)
        refine dN (.skip (.skip (.keep (.keep (.keep .nil))))) le_11 ?_
        refine dE 16 (by kernel_rfl) rfl ?_
        have hmk : ml1 = k1 := by have h1 := congrArg List.length pk12; rw [List.length_map, List.length_map, List.length_take] at h1; omega
        have hmb := (hf.at 1).lTl
        refine ap (k := 1) (news := f5 ((TC.none, Tr.none) : EE)) Tryd.underlying34 I37 rfl rfl pk10 (fun _ => (.tail .head)) (src_says Tryd.underlying34 rfl (fun _ => Says.own .head) (f5_one _)) (by omega) (by unfold maxLen; omega) rfl (fun a51 c51 N51 r51 z51 => ?_)
        refine dN (.skip (.skip (.keep (.keep (.keep .nil))))) le_11 ?_
        refine dE 17 (by kernel_rfl) rfl ?_
        refine ixk (j := 1) Tryd.runUnderlying34 Tryd.sizeOf37 rfl rfl rfl rfl (by decide) rfl ?_
        refine dN (.skip (.skip (.keep (.keep (.keep .nil))))) le_11 ?_
        refine dT 18 rfl rfl rfl (by kernel_rfl) (fun _ _ _ h => h) (y_fa F37_3 rfl) (.skip (.skip (.keep (.keep (.keep .nil))))) le_11 ?_
        refine dE 19 (by kernel_rfl) rfl ?_
        refine st Tryd.sizeOf34 rfl rfl rfl rfl (.tail (.tail (.tail .head))) ?_
        refine dNk (by kernel_rfl) ?_
        refine dD (by kernel_rfl) ?_
        refine Nt ?_
        refine rg ?_
        obtain ⟨gg51, hgg51⟩ := r51.addr (by omega)
        refine ixk (j := ml1) Tryd.runUnderlying34 Tryd.sizeOf37 rfl hgg51 rfl rfl (by omega) rfl ?_
        refine sR (ds := f5 (((⟨some ⟨b47, 0, none⟩, cp47, none, 0, none, 0⟩ : TC), (Tr.mk 0 ((lT (T.at 1))[k1]).s false [] [] : Tr)) : EE)) r51 hgg51 (fun _ => (.tail .head)) Tryd.sizeOf37 rfl rfl rfl rfl (by omega) (fun N51b r51b => ?_)
        rw [row_put (k := 5) (m := ml1) (A := es1.flatMap f5) (by rw [flatMap_len f5 5 f5_len, pk11]) rfl, flatMap_snoc'] at r51b
        refine nN ?_
        refine Nb ?_
        refine drN .head ?_
        refine fun a_ w_ hA hw => ⟨_, _, _, hA.sub ?_, (le_4.trans le_11), hw, _, rfl, a51, (ml1 + 1), c51, (es1 ++ [(((⟨some ⟨b47, 0, none⟩, cp47, none, 0, none, 0⟩ : TC), (Tr.mk 0 ((lT (T.at 1))[k1]).s false [] [] : Tr)) : EE)]), N51b, rfl, rfl, r51b, (by simp; omega), (map_take_snoc (g := (fun y : Tr => (Tr.mk 0 y.s false [] [] : Tr))) hk1 pk12), (fun p hp => (mem_snoc hp).elim (fun h => (pk13 p h).mono le_11) (fun h => h ▸ (.of hb47 (.nil _) (.nil _))))⟩
        exact (.cons rfl (.cons rfl (.cons rfl (.cons rfl (.cons rfl (.nil _))))))
      · skip
        refine bs' L34 rfl rfl rfl rfl (fun b_13 => ?_)
        refine dN (.skip (.skip (.keep (.keep (.keep .nil))))) (Fz.le.refl _) ?_
        refine dE 12 (by kernel_rfl) rfl ?_
        refine csb Tryd.underlying9 Tryd.underlying22 Tryd.underlying5 rfl (by have := (hf.at 1).lTel (List.getElem_mem hk1); have := this.s; unfold B47; omega) rfl (fun Hb47 b47 cp47 le_14 hb47 => ?_)
        refine dN (.skip (.skip (.keep (.keep (.keep .nil))))) le_14 ?_
        refine dT 13 rfl rfl rfl (by kernel_rfl) (fun _ _ _ h => h) (y_bd S37 rfl rfl) (.skip (.skip (.keep (.keep (.keep .nil))))) le_14 ?_
        refine dE 16 (by kernel_rfl) rfl ?_
        have hmk : ml1 = k1 := by have h1 := congrArg List.length pk12; rw [List.length_map, List.length_map, List.length_take] at h1; omega
        have hmb := (hf.at 1).lTl
        refine ap (k := 1) (news := f5 ((TC.none, Tr.none) : EE)) Tryd.underlying34 I37 rfl rfl pk10 (fun _ => (.tail .head)) (src_says Tryd.underlying34 rfl (fun _ => Says.own .head) (f5_one _)) (by omega) (by unfold maxLen; omega) rfl (fun a51 c51 N51 r51 z51 => ?_)
        refine dN (.skip (.skip (.keep (.keep (.keep .nil))))) le_14 ?_
        refine dE 17 (by kernel_rfl) rfl ?_
        refine ixk (j := 1) Tryd.runUnderlying34 Tryd.sizeOf37 rfl rfl rfl rfl (by decide) rfl ?_
        refine dN (.skip (.skip (.keep (.keep (.keep .nil))))) le_14 ?_
        refine dT 18 rfl rfl rfl (by kernel_rfl) (fun _ _ _ h => h) (y_fa F37_3 rfl) (.skip (.skip (.keep (.keep (.keep .nil))))) le_14 ?_
        refine dE 19 (by kernel_rfl) rfl ?_
        refine st Tryd.sizeOf34 rfl rfl rfl rfl (.tail (.tail (.tail .head))) ?_
        refine dNk (by kernel_rfl) ?_
        refine dD (by kernel_rfl) ?_
        refine Nt ?_
        refine rg ?_
        obtain ⟨gg51, hgg51⟩ := r51.addr (by omega)
        refine ixk (j := ml1) Tryd.runUnderlying34 Tryd.sizeOf37 rfl hgg51 rfl rfl (by omega) rfl ?_
        refine sR (ds := f5 (((⟨some ⟨b47, 0, none⟩, cp47, none, 0, none, 0⟩ : TC), (Tr.mk 0 ((lT (T.at 1))[k1]).s false [] [] : Tr)) : EE)) r51 hgg51 (fun _ => (.tail .head)) Tryd.sizeOf37 rfl rfl rfl rfl (by omega) (fun N51b r51b => ?_)
        rw [row_put (k := 5) (m := ml1) (A := es1.flatMap f5) (by rw [flatMap_len f5 5 f5_len, pk11]) rfl, flatMap_snoc'] at r51b
        refine nN ?_
        refine Nb ?_
        refine drN .head ?_
        refine fun a_ w_ hA hw => ⟨_, _, _, hA.sub ?_, (le_4.trans le_14), hw, _, rfl, a51, (ml1 + 1), c51, (es1 ++ [(((⟨some ⟨b47, 0, none⟩, cp47, none, 0, none, 0⟩ : TC), (Tr.mk 0 ((lT (T.at 1))[k1]).s false [] [] : Tr)) : EE)]), N51b, rfl, rfl, r51b, (by simp; omega), (map_take_snoc (g := (fun y : Tr => (Tr.mk 0 y.s false [] [] : Tr))) hk1 pk12), (fun p hp => (mem_snoc hp).elim (fun h => (pk13 p h).mono le_14) (fun h => h ▸ (.of hb47 (.nil _) (.nil _))))⟩
        exact (.cons rfl (.cons rfl (.cons rfl (.cons rfl (.cons rfl (.nil _))))))
  · skip
    obtain ⟨al1, ml1, cl1, es1, Nl1, rfl, rfl, pk10, pk11, pk12, pk13⟩ := hI
    refine toWp ?_
    have hes1 : es1.map (·.2) = (lT (T.at 1)).map (fun y : Tr => (Tr.mk 0 y.s false [] [] : Tr)) := by rw [pk12, List.take_length]
    have hm1 : ml1 = ((lT (T.at 1)).map (fun y : Tr => (Tr.mk 0 y.s false [] [] : Tr))).length := by rw [← hes1, List.length_map]; exact pk11
    refine frW pk10 .head (fun Hl1 hll1 hzl1 => ?_)
    have ht1 := TreesAt.row hzl1 pk11 pk10.le.1 (by have h1 := congrArg List.length hes1; rw [List.length_map, List.length_map] at h1; unfold B47; omega) (fun p hp => (pk13 p hp).mono hll1)
    rw [hes1] at ht1
    subst hm1
    refine sr ?_
    refine la (Says.own .head) Tryd.isAgg37 Tryd.sizeOf37 rfl (Nat.zero_add _).symm rfl rfl ?_
    refine sa Tryd.sizeOf37 rfl rfl rfl rfl rfl (.tail (.tail .head)) ?_
    refine nl ?_
    refine drW .head ?_
    refine frW (Row.whole (e := 37) (size := 5) (m := 2) (ds := [.int .i64 (IntKind.i16.wrap (T.at 0).n), .slice none 0 0, .bool false, .slice none 0 0, .slice none 0 0, .int .i64 0, .slice none 0 0, .bool a1.isNone, .slice al1 ((lT (T.at 1)).map (fun y : Tr => (Tr.mk 0 y.s false [] [] : Tr))).length cl1, .slice none 0 0]) rfl (by unfold maxLen; omega)) .head (fun H9 hle9 hz9 => ?_)
    have hrb : H9.at b_2 0 [.int .i64 (IntKind.i16.wrap (T.at 0).n), .slice none 0 0, .bool false, .slice none 0 0, .slice none 0 0, .int .i64 0, .slice none 0 0, .bool a1.isNone, .slice al1 ((lT (T.at 1)).map (fun y : Tr => (Tr.mk 0 y.s false [] [] : Tr))).length cl1, .slice none 0 0] := by
      rcases hz9 with ⟨h, _⟩ | ⟨g, h, h2⟩
      · cases h
      · cases h; exact h2
    rw [(h1).nul] at hrb
    have hrb2 : H9.at b_2 0 (([((TC.none : TC), (Tr.mk (IntKind.i16.wrap (T.at 0).n) [] false [] [] : Tr)), ((⟨none, 0, al1, cl1, none, 0⟩ : TC), (Tr.mk 0 [] (T.at 1).nul ((lT (T.at 1)).map (fun y : Tr => (Tr.mk 0 y.s false [] [] : Tr))) [] : Tr))] : List EE).flatMap fun p => p.1.cells p.2) := by exact hrb
    have hl9 : TreesAt H9 (some ⟨b_2, 0, none⟩) 2 [(.mk (IntKind.i16.wrap (T.at 0).n) [] false [] []), (.mk 0 [] (T.at 1).nul ((lT (T.at 1)).map (fun y : Tr => (Tr.mk 0 y.s false [] [] : Tr))) [])] := by
      refine TreesAt.row (es := [((TC.none : TC), (Tr.mk (IntKind.i16.wrap (T.at 0).n) [] false [] [] : Tr)), ((⟨none, 0, al1, cl1, none, 0⟩ : TC), (Tr.mk 0 [] (T.at 1).nul ((lT (T.at 1)).map (fun y : Tr => (Tr.mk 0 y.s false [] [] : Tr))) [] : Tr))]) (.inr ⟨_, rfl, hrb2⟩) rfl (Nat.le_refl _) (Nat.le_of_ble_eq_true rfl) ?_
      intro p hp
      simp only [List.mem_cons, List.not_mem_nil, or_false] at hp
      rcases hp with rfl | rfl
      · exact (.of (.nil _) (.nil _) (.nil _))
      · exact (.of (.nil _) (ht1.mono hle9) (.nil _))
    exact rC rfl Tryd.isAgg37 Tryd.sizeOf37 rfl .head rfl (le_5.trans (hll1.trans hle9)) (fun _ _ h => h) ⟨rfl, ⟨none, 0, some ⟨b_2, 0, none⟩, 2, none, 0⟩, rfl, .of (.nil _) hl9 (.nil _)⟩
end Go.Sx

import Derived.Test.YtdnbgafbhifhoaaDoorBListOffsetsResponse
import Derived.Test.YtdnbgafbhifhoaaDoorTB
import Derived.KernelRfl
set_option linter.unusedVariables false
set_option linter.unusedSimpArgs false
set_option maxRecDepth 100000
set_option maxHeartbeats 20000000
namespace Go.Sx
open Go.Proofs
def tl_ListOffsetsResponseTopicPartition (T : Tr) : Tr := .mk 0 [] false [(.mk (IntKind.i32.wrap (T.at 0).n) [] false [] []), (.mk (IntKind.i16.wrap (T.at 1).n) [] false [] []), (.mk 0 [] (T.at 2).nul ((lT (T.at 2)).map (fun y : Tr => (Tr.mk y.n [] false [] [] : Tr))) []), (.mk (T.at 3).n [] false [] []), (.mk (T.at 4).n [] false [] []), (.mk (IntKind.i32.wrap (T.at 5).n) [] false [] [])] T.u
theorem te_ListOffsetsResponseTopicPartition {H : Fz} {L : Own} {b o : Nat} {cs : List Value} {T : Tr} (hb : H.at b o cs) (hA : At_ListOffsetsResponseTopicPartition H T cs) (hf : Fits T) :
    Fn Tryd.prog 208 [.pointer (some ⟨b, o, none⟩)] H L (fun v H' L' => L = L' ∧ ∃ c : TC, v = .agg (c.cells (tl_ListOffsetsResponseTopicPartition T)).toArray ∧ TreeAt H' c (tl_ListOffsetsResponseTopicPartition T)) := by
  obtain ⟨a2, c2, mt, rfl, h1, h2⟩ := hA
  refine Fn.mk Tryd.call208 Tryd.func208 rfl Tryd.ntmps208 rfl ?_
  refine sr ?_
  refine al Tryd.zeroValue26 rfl rfl (fun b_1 => ?_)
  refine nl ?_
  refine sr ?_
  refine mkC (m := 6) (zs := [.int .i64 0, .slice none 0 0, .bool false, .slice none 0 0, .slice none 0 0]) Tryd.underlying23 I26 rfl rfl rfl rfl rfl rfl (by decide) (by unfold maxLen; omega) rfl (fun b_2 => ?_)
  refine bd' S26 rfl rfl rfl ?_
  refine al Tryd.zeroValue26 rfl rfl (fun b_3 => ?_)
  refine sa Tryd.sizeOf26 rfl rfl rfl rfl rfl .head ?_
  refine nl ?_
  refine sq ?_
  refine rgD 9 (.keep (.keep (.keep .nil))) mixed ?_
  refine dT 0 rfl rfl rfl (by kernel_rfl) (fun _ _ _ h => h) (y_fa0 F26_3 rfl) (.keep (.keep (.keep .nil))) (Fz.le.refl _) ?_
  refine dT 1 rfl rfl rfl (by kernel_rfl) (fun _ _ _ h => h) (y_ld (Says.own .head) Tryd.isAgg23 rfl (Nat.zero_add _).symm rfl) (.keep (.keep (.keep .nil))) (Fz.le.refl _) ?_
  refine dT 2 rfl rfl rfl (by kernel_rfl) (fun _ _ _ h => h) (y_mv rfl) (.keep (.keep (.keep .nil))) (Fz.le.refl _) ?_
  refine dT 3 rfl rfl rfl (by kernel_rfl) (fun _ _ _ h => h) (y_nc rfl) (.keep (.keep (.keep .nil))) (Fz.le.refl _) ?_
  refine dT 4 rfl rfl rfl (by kernel_rfl) (fun _ _ _ h => h) (y_fa F224_0 rfl) (.keep (.keep (.keep .nil))) (Fz.le.refl _) ?_
  refine dT 5 rfl rfl rfl (by kernel_rfl) (fun _ _ _ h => h) (y_ld (j := 0) (Says.fz hb) Tryd.isAgg21 rfl (Nat.add_zero _).symm rfl) (.keep (.keep (.keep .nil))) (Fz.le.refl _) ?_
  refine dT 6 rfl rfl rfl (by kernel_rfl) (fun _ _ _ h => h) (y_cv Tryd.runUnderlying21 Tryd.runUnderlying2 rfl (i32_64 _)) (.keep (.keep (.keep .nil))) (Fz.le.refl _) ?_
  refine dT 7 rfl rfl rfl (by kernel_rfl) (fun _ _ _ h => h) (y_bd S26 rfl rfl) (.keep (.keep (.keep .nil))) (Fz.le.refl _) ?_
  refine dT 8 rfl rfl rfl (by kernel_rfl) (fun _ _ _ h => h) (y_ix2 (j := 0) Tryd.runUnderlying23 Tryd.sizeOf26 rfl rfl rfl rfl (by decide)) (.keep (.keep (.keep .nil))) (Fz.le.refl _) ?_
  refine dE 9 (by kernel_rfl) rfl ?_
  refine sa Tryd.sizeOf26 rfl rfl rfl rfl rfl (.tail .head) ?_
  refine dNk (by kernel_rfl) ?_
  refine dD (by kernel_rfl) ?_
  refine Nt ?_
  refine sq ?_
  refine rgD 9 (.keep (.keep (.keep .nil))) mixed ?_
  refine dT 0 rfl rfl rfl (by kernel_rfl) (fun _ _ _ h => h) (y_fa0 F26_3 rfl) (.keep (.keep (.keep .nil))) (Fz.le.refl _) ?_
  refine dT 1 rfl rfl rfl (by kernel_rfl) (fun _ _ _ h => h) (y_ld (Says.own .head) Tryd.isAgg23 rfl (Nat.zero_add _).symm rfl) (.keep (.keep (.keep .nil))) (Fz.le.refl _) ?_
  refine dT 2 rfl rfl rfl (by kernel_rfl) (fun _ _ _ h => h) (y_mv rfl) (.keep (.keep (.keep .nil))) (Fz.le.refl _) ?_
  refine dT 3 rfl rfl rfl (by kernel_rfl) (fun _ _ _ h => h) (y_nc rfl) (.keep (.keep (.keep .nil))) (Fz.le.refl _) ?_
  refine dT 4 rfl rfl rfl (by kernel_rfl) (fun _ _ _ h => h) (y_fa F224_1 rfl) (.keep (.keep (.keep .nil))) (Fz.le.refl _) ?_
  refine dT 5 rfl rfl rfl (by kernel_rfl) (fun _ _ _ h => h) (y_ld (j := 1) (Says.fz hb) Tryd.isAgg45 rfl rfl rfl) (.keep (.keep (.keep .nil))) (Fz.le.refl _) ?_
  refine dT 6 rfl rfl rfl (by kernel_rfl) (fun _ _ _ h => h) (y_cv Tryd.runUnderlying45 Tryd.runUnderlying2 rfl (i16_64 _)) (.keep (.keep (.keep .nil))) (Fz.le.refl _) ?_
  refine dT 7 rfl rfl rfl (by kernel_rfl) (fun _ _ _ h => h) (y_bd S26 rfl rfl) (.keep (.keep (.keep .nil))) (Fz.le.refl _) ?_
  refine dT 8 rfl rfl rfl (by kernel_rfl) (fun _ _ _ h => h) (y_ix2 (j := 1) Tryd.runUnderlying23 Tryd.sizeOf26 rfl rfl rfl rfl (by decide)) (.keep (.keep (.keep .nil))) (Fz.le.refl _) ?_
  refine dE 9 (by kernel_rfl) rfl ?_
  refine sa Tryd.sizeOf26 rfl rfl rfl rfl rfl (.tail .head) ?_
  refine dNk (by kernel_rfl) ?_
  refine dD (by kernel_rfl) ?_
  refine Nt ?_
  refine sq ?_
  refine rgD 9 (.keep (.keep (.keep .nil))) mixed ?_
  refine dT 0 rfl rfl rfl (by kernel_rfl) (fun _ _ _ h => h) (y_fa0 F26_3 rfl) (.keep (.keep (.keep .nil))) (Fz.le.refl _) ?_
  refine dT 1 rfl rfl rfl (by kernel_rfl) (fun _ _ _ h => h) (y_ld (Says.own .head) Tryd.isAgg23 rfl (Nat.zero_add _).symm rfl) (.keep (.keep (.keep .nil))) (Fz.le.refl _) ?_
  refine dT 2 rfl rfl rfl (by kernel_rfl) (fun _ _ _ h => h) (y_mv rfl) (.keep (.keep (.keep .nil))) (Fz.le.refl _) ?_
  refine dT 3 rfl rfl rfl (by kernel_rfl) (fun _ _ _ h => h) (y_nc rfl) (.keep (.keep (.keep .nil))) (Fz.le.refl _) ?_
  refine dT 4 rfl rfl rfl (by kernel_rfl) (fun _ _ _ h => h) (y_fa F224_2 rfl) (.keep (.keep (.keep .nil))) (Fz.le.refl _) ?_
  refine dT 5 rfl rfl rfl (by kernel_rfl) (fun _ _ _ h => h) (y_ld (j := 2) (Says.fz hb) Tryd.isAgg134 rfl rfl rfl) (.keep (.keep (.keep .nil))) (Fz.le.refl _) ?_
  refine dT 6 rfl rfl rfl (by kernel_rfl) (fun _ _ _ h => h) (y_esn Tryd.underlying134 rfl) (.keep (.keep (.keep .nil))) (Fz.le.refl _) ?_
  refine dE 7 (by kernel_rfl) rfl ?_
  refine ixk (j := 2) Tryd.runUnderlying23 Tryd.sizeOf26 rfl rfl rfl rfl (by decide) rfl ?_
  refine dN (.keep (.keep (.keep .nil))) (Fz.le.refl _) ?_
  refine dT 8 rfl rfl rfl (by kernel_rfl) (fun _ _ _ h => h) (y_fa F26_2 rfl) (.keep (.keep (.keep .nil))) (Fz.le.refl _) ?_
  refine dE 9 (by kernel_rfl) rfl ?_
  refine st Tryd.sizeOf4 rfl rfl rfl rfl (.tail .head) ?_
  refine dNk (by kernel_rfl) ?_
  refine dD (by kernel_rfl) ?_
  refine Nt ?_
  refine sq ?_
  refine sr ?_
  refine mv rfl rfl ?_
  refine nc rfl rfl ?_
  refine fa F224_2 rfl rfl ?_
  refine ld (Says.fz hb) Tryd.isAgg134 rfl rfl rfl rfl ?_
  refine ls Tryd.runUnderlying134 rfl rfl ?_
  refine mv rfl rfl ?_
  refine nl ?_
  have hlm2 := (hf.at 2).lTl
  refine nulC2 ?_
  refine fr ((lT (T.at 2)).length) (fun k2 l' H' L' => ∃ (al2 : Option Addr), ∃ (ml2 : Nat), ∃ (cl2 : Nat), ∃ (es2 : List EE), ∃ (Nl2 : Chunk), [(0, .pointer (some ⟨b, o, none⟩)), (2, .pointer (some ⟨b_1, 0, none⟩)), (3, .pointer (some ⟨b_3, 0, none⟩)), (38, .int .i64 ((lT (T.at 2)).length : Int))] = l' ∧ Nl2 :: [(b_3, .cells [.int .i64 0, .slice none 0 0, .bool false, _, .slice none 0 0].toArray 26 (0, 0))] :: [(b_2, .cells [.int .i64 (IntKind.i32.wrap (T.at 0).n), .slice none 0 0, .bool false, .slice none 0 0, .slice none 0 0, .int .i64 (IntKind.i16.wrap (T.at 1).n), .slice none 0 0, .bool false, .slice none 0 0, .slice none 0 0, .int .i64 0, .slice none 0 0, .bool a2.isNone, .slice al2 ml2 cl2, .slice none 0 0, .int .i64 0, .slice none 0 0, .bool false, .slice none 0 0, .slice none 0 0, .int .i64 0, .slice none 0 0, .bool false, .slice none 0 0, .slice none 0 0, .int .i64 0, .slice none 0 0, .bool false, .slice none 0 0, .slice none 0 0].toArray 26 (0, 0))] :: [(b_1, .cells [.int .i64 0, .slice none 0 0, .bool false, .slice none 0 0, .slice none 0 0].toArray 26 (0, 0))] :: L = L' ∧ Row 26 5 al2 ml2 cl2 (es2.flatMap f5) Nl2 ∧ ml2 = es2.length ∧ es2.map (·.2) = ((lT (T.at 2)).take k2).map (fun y : Tr => (Tr.mk y.n [] false [] [] : Tr)) ∧ (∀ p : EE, p ∈ es2 → TreeAt H' p.1 p.2)) [(0, .pointer (some ⟨b, o, none⟩)), (2, .pointer (some ⟨b_1, 0, none⟩)), (3, .pointer (some ⟨b_3, 0, none⟩)), (38, .int .i64 ((lT (T.at 2)).length : Int))] (fun k2 l' H' L' h => ?_) (by omega) rfl (.cons rfl (.cons rfl (.cons rfl (.cons rfl (.nil _))))) ⟨none, 0, 0, [], [], rfl, rfl, (Row.nil _ _), rfl, (by simp), (fun p hp => by cases hp)⟩ rfl rfl rfl rfl rfl (fun k2 l' H' L' hk2 le_4 hI => ?_) (fun l' H' L' le_5 hI => ?_)
  · obtain ⟨al2, ml2, cl2, es2, Nl2, rfl, _⟩ := h; exact ⟨rfl, rfl, rfl, rfl⟩
  · skip
    obtain ⟨al2, ml2, cl2, es2, Nl2, rfl, rfl, pk20, pk21, pk22, pk23⟩ := hI
    refine sr ?_
    refine mv rfl rfl ?_
    refine asg rfl rfl ?_
    refine nl ?_
    refine sq ?_
    refine rgD 4 .nil mixed ?_
    refine dE 0 (by kernel_rfl) rfl ?_
    refine al Tryd.zeroValue4 rfl rfl (fun b_6 => ?_)
    refine dN .nil (Fz.le.refl _) ?_
    refine dE2 1 2 (by kernel_rfl) rfl rfl ?_ ?_
    · skip
      refine st Tryd.sizeOf4 rfl rfl rfl rfl .head ?_
      refine dN .nil (Fz.le.refl _) ?_
      refine dE 2 (by kernel_rfl) rfl ?_
      refine st Tryd.sizeOf4 rfl rfl rfl rfl .head ?_
      refine dN .nil (Fz.le.refl _) ?_
      refine dE 3 (by kernel_rfl) rfl ?_
      refine ld (Says.own .head) Tryd.isAgg4 rfl (Nat.zero_add _).symm rfl rfl ?_
      refine dN .nil (Fz.le.refl _) ?_
      refine dD (by kernel_rfl) ?_
      refine drN .head ?_
      refine Nt ?_
      refine cF rfl ?_
      refine rgD 19 (.skip (.keep (.keep (.keep .nil)))) mixed ?_
      refine dT 0 rfl rfl rfl (by kernel_rfl) (fun _ _ _ h => h) (y_fa0 F26_3 rfl) (.skip (.keep (.keep (.keep .nil)))) (Fz.le.refl _) ?_
      refine dT 1 rfl rfl rfl (by kernel_rfl) (fun _ _ _ h => h) (y_ld (Says.own .head) Tryd.isAgg23 rfl (Nat.zero_add _).symm rfl) (.skip (.keep (.keep (.keep .nil)))) (Fz.le.refl _) ?_
      refine dT 2 rfl rfl rfl (by kernel_rfl) (fun _ _ _ h => h) (y_fa0 F26_3 rfl) (.skip (.keep (.keep (.keep .nil)))) (Fz.le.refl _) ?_
      refine dT 3 rfl rfl rfl (by kernel_rfl) (fun _ _ _ h => h) (y_ld (Says.own .head) Tryd.isAgg23 rfl (Nat.zero_add _).symm rfl) (.skip (.keep (.keep (.keep .nil)))) (Fz.le.refl _) ?_
      refine dT 4 rfl rfl rfl (by kernel_rfl) (fun _ _ _ h => h) (y_ix2 (j := 2) Tryd.runUnderlying23 Tryd.sizeOf26 rfl rfl rfl rfl (by decide)) (.skip (.keep (.keep (.keep .nil)))) (Fz.le.refl _) ?_
      refine dT 5 rfl rfl rfl (by kernel_rfl) (fun _ _ _ h => h) (y_fa F26_3 rfl) (.skip (.keep (.keep (.keep .nil)))) (Fz.le.refl _) ?_
      refine dT 6 rfl rfl rfl (by kernel_rfl) (fun _ _ _ h => h) (y_ld (Says.own (.tail .head)) Tryd.isAgg23 rfl (Nat.zero_add _).symm rfl) (.skip (.keep (.keep (.keep .nil)))) (Fz.le.refl _) ?_
      refine dT 7 rfl rfl rfl (by kernel_rfl) (fun _ _ _ h => h) (y_mv rfl) (.skip (.keep (.keep (.keep .nil)))) (Fz.le.refl _) ?_
      refine dT 8 rfl rfl rfl (by kernel_rfl) (fun _ _ _ h => h) (y_nc rfl) (.skip (.keep (.keep (.keep .nil)))) (Fz.le.refl _) ?_
      refine dT 9 rfl rfl rfl (by kernel_rfl) (fun _ _ _ h => h) (y_fa F224_2 rfl) (.skip (.keep (.keep (.keep .nil)))) (Fz.le.refl _) ?_
      refine dT 10 rfl rfl rfl (by kernel_rfl) (fun _ _ _ h => h) (y_ld (j := 2) (Says.fz (hb.mono le_4)) Tryd.isAgg134 rfl rfl rfl) (.skip (.keep (.keep (.keep .nil)))) (Fz.le.refl _) ?_
      refine dT 11 rfl rfl rfl (by kernel_rfl) (fun _ _ _ h => h) (y_mv rfl) (.skip (.keep (.keep (.keep .nil)))) (Fz.le.refl _) ?_
      obtain ⟨beq_7, oeq_7, haq_7, hlq_7⟩ := ((h1.mono RI64.mono le_4)).rows.at_ (ne_nil_of_lt hk2)
      obtain ⟨ceq_7, hAq_7, hbq_7⟩ := hlq_7 k2 hk2
      obtain rfl : ceq_7 = [.int .i64 ((lT (T.at 2))[k2]).n] := hAq_7
      refine dT 12 rfl rfl rfl (by kernel_rfl) (fun _ _ _ h => h) (y_ixk (j := k2) Tryd.runUnderlying134 Tryd.sizeOf2 rfl haq_7 rfl rfl hk2) (.skip (.keep (.keep (.keep .nil)))) (Fz.le.refl _) ?_
      refine dT 13 rfl rfl rfl (by kernel_rfl) (fun _ _ _ h => h) (y_ld (Says.fz hbq_7) Tryd.isAgg2 rfl (Nat.add_zero _).symm rfl) (.skip (.keep (.keep (.keep .nil)))) (Fz.le.refl _) ?_
      refine dT 14 rfl rfl rfl (by kernel_rfl) (fun _ _ _ h => h) (y_bd S26 rfl rfl) (.skip (.keep (.keep (.keep .nil)))) (Fz.le.refl _) ?_
      refine dE 15 (by kernel_rfl) rfl ?_
      refine bs' L23 rfl rfl rfl rfl (fun b_8 => ?_)
      refine dN (.skip (.skip (.keep (.keep (.keep .nil))))) (Fz.le.refl _) ?_
      refine dE 16 (by kernel_rfl) rfl ?_
      have hmk : ml2 = k2 := by have h1 := congrArg List.length pk22; rw [List.length_map, List.length_map, List.length_take] at h1; omega
      have hmb := (hf.at 2).lTl
      refine ap (k := 1) (news := f5 (((TC.none : TC), (Tr.mk ((lT (T.at 2))[k2]).n [] false [] [] : Tr)) : EE)) Tryd.underlying23 I26 rfl rfl pk20 (fun _ => (.tail .head)) (src_says Tryd.underlying23 rfl (fun _ => Says.own .head) (f5_one _)) (by omega) (by unfold maxLen; omega) rfl (fun a79 c79 N79 r79 z79 => ?_)
      rw [flatMap_snoc'] at r79
      refine dN (.skip (.skip (.keep (.keep (.keep .nil))))) (Fz.le.refl _) ?_
      refine dE 17 (by kernel_rfl) rfl ?_
      refine ixk (j := 2) Tryd.runUnderlying23 Tryd.sizeOf26 rfl rfl rfl rfl (by decide) rfl ?_
      refine dN (.skip (.skip (.keep (.keep (.keep .nil))))) (Fz.le.refl _) ?_
      refine dT 18 rfl rfl rfl (by kernel_rfl) (fun _ _ _ h => h) (y_fa F26_3 rfl) (.skip (.skip (.keep (.keep (.keep .nil))))) (Fz.le.refl _) ?_
      refine dE 19 (by kernel_rfl) rfl ?_
      refine st Tryd.sizeOf23 rfl rfl rfl rfl (.tail (.tail (.tail .head))) ?_
      refine dNk (by kernel_rfl) ?_
      refine dD (by kernel_rfl) ?_
      refine Nb ?_
      refine drN .head ?_
      refine fun a_ w_ hA hw => ⟨_, _, _, hA.sub ?_, le_4, hw, _, rfl, a79, (ml2 + 1), c79, (es2 ++ [(((TC.none : TC), (Tr.mk ((lT (T.at 2))[k2]).n [] false [] [] : Tr)) : EE)]), N79, rfl, rfl, r79, (by simp; omega), (map_take_snoc (g := (fun y : Tr => (Tr.mk y.n [] false [] [] : Tr))) hk2 pk22), (fun p hp => (mem_snoc hp).elim (fun h => (pk23 p h).mono (Fz.le.refl _)) (fun h => h ▸ (.of (.nil _) (.nil _) (.nil _))))⟩
      exact (.cons rfl (.cons rfl (.cons rfl (.cons rfl (.cons rfl (.nil _))))))
    · skip
      refine st Tryd.sizeOf4 rfl rfl rfl rfl .head ?_
      refine dN .nil (Fz.le.refl _) ?_
      refine dE 1 (by kernel_rfl) rfl ?_
      refine st Tryd.sizeOf4 rfl rfl rfl rfl .head ?_
      refine dN .nil (Fz.le.refl _) ?_
      refine dE 3 (by kernel_rfl) rfl ?_
      refine ld (Says.own .head) Tryd.isAgg4 rfl (Nat.zero_add _).symm rfl rfl ?_
      refine dN .nil (Fz.le.refl _) ?_
      refine dD (by kernel_rfl) ?_
      refine drN .head ?_
      refine Nt ?_
      refine cT rfl ?_
      refine sq ?_
      refine rgD 18 (.skip (.keep (.keep (.keep .nil)))) mixed ?_
      refine dT 0 rfl rfl rfl (by kernel_rfl) (fun _ _ _ h => h) (y_fa0 F26_3 rfl) (.skip (.keep (.keep (.keep .nil)))) (Fz.le.refl _) ?_
      refine dT 1 rfl rfl rfl (by kernel_rfl) (fun _ _ _ h => h) (y_ld (Says.own .head) Tryd.isAgg23 rfl (Nat.zero_add _).symm rfl) (.skip (.keep (.keep (.keep .nil)))) (Fz.le.refl _) ?_
      refine dT 2 rfl rfl rfl (by kernel_rfl) (fun _ _ _ h => h) (y_ix2 (j := 2) Tryd.runUnderlying23 Tryd.sizeOf26 rfl rfl rfl rfl (by decide)) (.skip (.keep (.keep (.keep .nil)))) (Fz.le.refl _) ?_
      refine dT 3 rfl rfl rfl (by kernel_rfl) (fun _ _ _ h => h) (y_fa F26_3 rfl) (.skip (.keep (.keep (.keep .nil)))) (Fz.le.refl _) ?_
      refine dT 4 rfl rfl rfl (by kernel_rfl) (fun _ _ _ h => h) (y_ld (Says.own (.tail .head)) Tryd.isAgg23 rfl (Nat.zero_add _).symm rfl) (.skip (.keep (.keep (.keep .nil)))) (Fz.le.refl _) ?_
      refine dT 5 rfl rfl rfl (by kernel_rfl) (fun _ _ _ h => h) (y_mv rfl) (.skip (.keep (.keep (.keep .nil)))) (Fz.le.refl _) ?_
      refine dT 6 rfl rfl rfl (by kernel_rfl) (fun _ _ _ h => h) (y_nc rfl) (.skip (.keep (.keep (.keep .nil)))) (Fz.le.refl _) ?_
      refine dT 7 rfl rfl rfl (by kernel_rfl) (fun _ _ _ h => h) (y_fa F224_2 rfl) (.skip (.keep (.keep (.keep .nil)))) (Fz.le.refl _) ?_
      refine dT 8 rfl rfl rfl (by kernel_rfl) (fun _ _ _ h => h) (y_ld (j := 2) (Says.fz (hb.mono le_4)) Tryd.isAgg134 rfl rfl rfl) (.skip (.keep (.keep (.keep .nil)))) (Fz.le.refl _) ?_
      refine dT 9 rfl rfl rfl (by kernel_rfl) (fun _ _ _ h => h) (y_mv rfl) (.skip (.keep (.keep (.keep .nil)))) (Fz.le.refl _) ?_
      obtain ⟨beq_9, oeq_9, haq_9, hlq_9⟩ := ((h1.mono RI64.mono le_4)).rows.at_ (ne_nil_of_lt hk2)
      obtain ⟨ceq_9, hAq_9, hbq_9⟩ := hlq_9 k2 hk2
      obtain rfl : ceq_9 = [.int .i64 ((lT (T.at 2))[k2]).n] := hAq_9
      refine dT 10 rfl rfl rfl (by kernel_rfl) (fun _ _ _ h => h) (y_ixk (j := k2) Tryd.runUnderlying134 Tryd.sizeOf2 rfl haq_9 rfl rfl hk2) (.skip (.keep (.keep (.keep .nil)))) (Fz.le.refl _) ?_
      refine dT 11 rfl rfl rfl (by kernel_rfl) (fun _ _ _ h => h) (y_ld (Says.fz hbq_9) Tryd.isAgg2 rfl (Nat.add_zero _).symm rfl) (.skip (.keep (.keep (.keep .nil)))) (Fz.le.refl _) ?_
      refine dT 12 rfl rfl rfl (by kernel_rfl) (fun _ _ _ h => h) (y_bd S26 rfl rfl) (.skip (.keep (.keep (.keep .nil)))) (Fz.le.refl _) ?_
      refine dT 13 rfl rfl rfl (by kernel_rfl) (fun _ _ _ h => h) (y_ls Tryd.runUnderlying23 rfl) (.skip (.keep (.keep (.keep .nil)))) (Fz.le.refl _) ?_
      refine dE 14 (by kernel_rfl) rfl ?_
      refine bs' L23 rfl rfl rfl rfl (fun b_10 => ?_)
      refine dN (.skip (.skip (.keep (.keep (.keep .nil))))) (Fz.le.refl _) ?_
      refine dE 15 (by kernel_rfl) rfl ?_
      have hmk : ml2 = k2 := by have h1 := congrArg List.length pk22; rw [List.length_map, List.length_map, List.length_take] at h1; omega
      have hmb := (hf.at 2).lTl
      refine ap (k := 1) (news := f5 ((TC.none, Tr.none) : EE)) Tryd.underlying23 I26 rfl rfl pk20 (fun _ => (.tail .head)) (src_says Tryd.underlying23 rfl (fun _ => Says.own .head) (f5_one _)) (by omega) (by unfold maxLen; omega) rfl (fun a59 c59 N59 r59 z59 => ?_)
      refine dN (.skip (.skip (.keep (.keep (.keep .nil))))) (Fz.le.refl _) ?_
      refine dE 16 (by kernel_rfl) rfl ?_
      refine ixk (j := 2) Tryd.runUnderlying23 Tryd.sizeOf26 rfl rfl rfl rfl (by decide) rfl ?_
      refine dN (.skip (.skip (.keep (.keep (.keep .nil))))) (Fz.le.refl _) ?_
      refine dT 17 rfl rfl rfl (by kernel_rfl) (fun _ _ _ h => h) (y_fa F26_3 rfl) (.skip (.skip (.keep (.keep (.keep .nil))))) (Fz.le.refl _) ?_
      refine dE 18 (by kernel_rfl) rfl ?_
      refine st Tryd.sizeOf23 rfl rfl rfl rfl (.tail (.tail (.tail .head))) ?_
      refine dNk (by kernel_rfl) ?_
      refine dD (by kernel_rfl) ?_
      refine Nt ?_
      refine rg ?_
      obtain ⟨gg59, hgg59⟩ := r59.addr (by omega)
      refine ixk (j := ml2) Tryd.runUnderlying23 Tryd.sizeOf26 rfl hgg59 rfl rfl (by omega) rfl ?_
      refine sR (ds := f5 (((TC.none : TC), (Tr.mk ((lT (T.at 2))[k2]).n [] false [] [] : Tr)) : EE)) r59 hgg59 (fun _ => (.tail .head)) Tryd.sizeOf26 rfl rfl rfl rfl (by omega) (fun N59b r59b => ?_)
      rw [row_put (k := 5) (m := ml2) (A := es2.flatMap f5) (by rw [flatMap_len f5 5 f5_len, pk21]) rfl, flatMap_snoc'] at r59b
      refine nN ?_
      refine Nb ?_
      refine drN .head ?_
      refine fun a_ w_ hA hw => ⟨_, _, _, hA.sub ?_, le_4, hw, _, rfl, a59, (ml2 + 1), c59, (es2 ++ [(((TC.none : TC), (Tr.mk ((lT (T.at 2))[k2]).n [] false [] [] : Tr)) : EE)]), N59b, rfl, rfl, r59b, (by simp; omega), (map_take_snoc (g := (fun y : Tr => (Tr.mk y.n [] false [] [] : Tr))) hk2 pk22), (fun p hp => (mem_snoc hp).elim (fun h => (pk23 p h).mono (Fz.le.refl _)) (fun h => h ▸ (.of (.nil _) (.nil _) (.nil _))))⟩
      exact (.cons rfl (.cons rfl (.cons rfl (.cons rfl (.cons rfl (.nil _))))))
  · skip
    obtain ⟨al2, ml2, cl2, es2, Nl2, rfl, rfl, pk20, pk21, pk22, pk23⟩ := hI
    refine toWp ?_
    have hes2 : es2.map (·.2) = (lT (T.at 2)).map (fun y : Tr => (Tr.mk y.n [] false [] [] : Tr)) := by rw [pk22, List.take_length]
    have hm2 : ml2 = ((lT (T.at 2)).map (fun y : Tr => (Tr.mk y.n [] false [] [] : Tr))).length := by rw [← hes2, List.length_map]; exact pk21
    refine frW pk20 .head (fun Hl2 hll2 hzl2 => ?_)
    have ht2 := TreesAt.row hzl2 pk21 pk20.le.1 (by have h1 := congrArg List.length hes2; rw [List.length_map, List.length_map] at h1; unfold B47; omega) (fun p hp => (pk23 p hp).mono hll2)
    rw [hes2] at ht2
    subst hm2
    refine sq ?_
    refine rgD 8 (.keep (.keep (.keep .nil))) mixed ?_
    refine dT 0 rfl rfl rfl (by kernel_rfl) (fun _ _ _ h => h) (y_fa0 F26_3 rfl) (.keep (.keep (.keep .nil))) (Fz.le.refl _) ?_
    refine dT 1 rfl rfl rfl (by kernel_rfl) (fun _ _ _ h => h) (y_ld (Says.own .head) Tryd.isAgg23 rfl (Nat.zero_add _).symm rfl) (.keep (.keep (.keep .nil))) (Fz.le.refl _) ?_
    refine dT 2 rfl rfl rfl (by kernel_rfl) (fun _ _ _ h => h) (y_mv rfl) (.keep (.keep (.keep .nil))) (Fz.le.refl _) ?_
    refine dT 3 rfl rfl rfl (by kernel_rfl) (fun _ _ _ h => h) (y_nc rfl) (.keep (.keep (.keep .nil))) (Fz.le.refl _) ?_
    refine dT 4 rfl rfl rfl (by kernel_rfl) (fun _ _ _ h => h) (y_fa F224_3 rfl) (.keep (.keep (.keep .nil))) (Fz.le.refl _) ?_
    refine dT 5 rfl rfl rfl (by kernel_rfl) (fun _ _ _ h => h) (y_ld (j := 3) (Says.fz (hb.mono (le_5.trans hll2))) Tryd.isAgg2 rfl rfl rfl) (.keep (.keep (.keep .nil))) (Fz.le.refl _) ?_
    refine dT 6 rfl rfl rfl (by kernel_rfl) (fun _ _ _ h => h) (y_bd S26 rfl rfl) (.keep (.keep (.keep .nil))) (Fz.le.refl _) ?_
    refine dT 7 rfl rfl rfl (by kernel_rfl) (fun _ _ _ h => h) (y_ix2 (j := 3) Tryd.runUnderlying23 Tryd.sizeOf26 rfl rfl rfl rfl (by decide)) (.keep (.keep (.keep .nil))) (Fz.le.refl _) ?_
    refine dE 8 (by kernel_rfl) rfl ?_
    refine sa Tryd.sizeOf26 rfl rfl rfl rfl rfl (.tail .head) ?_
    refine dNk (by kernel_rfl) ?_
    refine dD (by kernel_rfl) ?_
    refine Nt ?_
    refine sq ?_
    refine rgD 8 (.keep (.keep (.keep .nil))) mixed ?_
    refine dT 0 rfl rfl rfl (by kernel_rfl) (fun _ _ _ h => h) (y_fa0 F26_3 rfl) (.keep (.keep (.keep .nil))) (Fz.le.refl _) ?_
    refine dT 1 rfl rfl rfl (by kernel_rfl) (fun _ _ _ h => h) (y_ld (Says.own .head) Tryd.isAgg23 rfl (Nat.zero_add _).symm rfl) (.keep (.keep (.keep .nil))) (Fz.le.refl _) ?_
    refine dT 2 rfl rfl rfl (by kernel_rfl) (fun _ _ _ h => h) (y_mv rfl) (.keep (.keep (.keep .nil))) (Fz.le.refl _) ?_
    refine dT 3 rfl rfl rfl (by kernel_rfl) (fun _ _ _ h => h) (y_nc rfl) (.keep (.keep (.keep .nil))) (Fz.le.refl _) ?_
    refine dT 4 rfl rfl rfl (by kernel_rfl) (fun _ _ _ h => h) (y_fa F224_4 rfl) (.keep (.keep (.keep .nil))) (Fz.le.refl _) ?_
    refine dT 5 rfl rfl rfl (by kernel_rfl) (fun _ _ _ h => h) (y_ld (j := 4) (Says.fz (hb.mono (le_5.trans hll2))) Tryd.isAgg2 rfl rfl rfl) (.keep (.keep (.keep .nil))) (Fz.le.refl _) ?_
    refine dT 6 rfl rfl rfl (by kernel_rfl) (fun _ _ _ h => h) (y_bd S26 rfl rfl) (.keep (.keep (.keep .nil))) (Fz.le.refl _) ?_
    refine dT 7 rfl rfl rfl (by kernel_rfl) (fun _ _ _ h => h) (y_ix2 (j := 4) Tryd.runUnderlying23 Tryd.sizeOf26 rfl rfl rfl rfl (by decide)) (.keep (.keep (.keep .nil))) (Fz.le.refl _) ?_
    refine dE 8 (by kernel_rfl) rfl ?_
    refine sa Tryd.sizeOf26 rfl rfl rfl rfl rfl (.tail .head) ?_
    refine dNk (by kernel_rfl) ?_
    refine dD (by kernel_rfl) ?_
    refine Nt ?_
    refine sq ?_
    refine rgD 9 (.keep (.keep (.keep .nil))) mixed ?_
    refine dT 0 rfl rfl rfl (by kernel_rfl) (fun _ _ _ h => h) (y_fa0 F26_3 rfl) (.keep (.keep (.keep .nil))) (Fz.le.refl _) ?_
    refine dT 1 rfl rfl rfl (by kernel_rfl) (fun _ _ _ h => h) (y_ld (Says.own .head) Tryd.isAgg23 rfl (Nat.zero_add _).symm rfl) (.keep (.keep (.keep .nil))) (Fz.le.refl _) ?_
    refine dT 2 rfl rfl rfl (by kernel_rfl) (fun _ _ _ h => h) (y_mv rfl) (.keep (.keep (.keep .nil))) (Fz.le.refl _) ?_
    refine dT 3 rfl rfl rfl (by kernel_rfl) (fun _ _ _ h => h) (y_nc rfl) (.keep (.keep (.keep .nil))) (Fz.le.refl _) ?_
    refine dT 4 rfl rfl rfl (by kernel_rfl) (fun _ _ _ h => h) (y_fa F224_5 rfl) (.keep (.keep (.keep .nil))) (Fz.le.refl _) ?_
    refine dT 5 rfl rfl rfl (by kernel_rfl) (fun _ _ _ h => h) (y_ld (j := 5) (Says.fz (hb.mono (le_5.trans hll2))) Tryd.isAgg21 rfl rfl rfl) (.keep (.keep (.keep .nil))) (Fz.le.refl _) ?_
    refine dT 6 rfl rfl rfl (by kernel_rfl) (fun _ _ _ h => h) (y_cv Tryd.runUnderlying21 Tryd.runUnderlying2 rfl (i32_64 _)) (.keep (.keep (.keep .nil))) (Fz.le.refl _) ?_
    refine dT 7 rfl rfl rfl (by kernel_rfl) (fun _ _ _ h => h) (y_bd S26 rfl rfl) (.keep (.keep (.keep .nil))) (Fz.le.refl _) ?_
    refine dT 8 rfl rfl rfl (by kernel_rfl) (fun _ _ _ h => h) (y_ix2 (j := 5) Tryd.runUnderlying23 Tryd.sizeOf26 rfl rfl rfl rfl (by decide)) (.keep (.keep (.keep .nil))) (Fz.le.refl _) ?_
    refine dE 9 (by kernel_rfl) rfl ?_
    refine sa Tryd.sizeOf26 rfl rfl rfl rfl rfl (.tail .head) ?_
    refine dNk (by kernel_rfl) ?_
    refine dD (by kernel_rfl) ?_
    refine Nt ?_
    refine sr ?_
    refine mv rfl rfl ?_
    refine nc rfl rfl ?_
    refine fa F224_6 rfl rfl ?_
    refine mkf rfl rfl ?_
    obtain ⟨kvs, hM, hlen, hel⟩ := (h2.mono (le_5.trans hll2))
    have hfu := hf.u
    refine cl rfl rfl rfl (t_each (j := 6) (I := fun i H1 Y => TgI 61 b_3 26 (.int .i64 0) (.slice none 0 0) (.bool false) (_) T.u i H1 Y) (hb.mono (le_5.trans hll2)) rfl hM (by omega) (fun i H1 H2 Y hle h => h.mono hle) TgI.start (fun i k v H1 Y L1 hi hle hI => ?_)) rfl (fun v_ H1 L1 le_12 hR_ => ?_)
    · obtain ⟨s, h1, ⟨va, vc, rfl, hx⟩, h2, h3⟩ := hel i k v hi
      have hik := sortKv_lt hi
      exact TgI.step (fun {_ _ _ _ _ _ _ _ _ _ _ _ _ _ _ _} => tc_249) hf.v (by omega) h1 (hx.mono hle) h2 h3 hI
    rw [hlen] at hR_
    obtain ⟨_, rfl, aU, cU, NU, esU, rfl, hrU, heU, hgU⟩ := hR_
    refine splL ?_
    rw [List.take_length] at heU
    refine frL hrU (.tail .head) (fun HU hleU hzU => ?_)
    have hU := (TagsAt.told hzU hrU heU hfu (fun p hp => (hgU p hp).mono hleU)).1
    refine nl ?_
    refine sr ?_
    refine fa0 F26_4 rfl rfl ?_
    refine ld (Says.own .head) Tryd.isAgg24 rfl (Nat.zero_add _).symm rfl rfl ?_
    refine cl rfl rfl rfl (k_sorted hU (h2.mono (le_5.trans (hll2.trans (le_12.trans hleU)))).rise) rfl (fun v_ H1 L1 hle_ hR_ => ?_)
    obtain ⟨rfl, rfl⟩ := hR_
    refine nl ?_
    refine sr ?_
    refine la (Says.own .head) Tryd.isAgg26 Tryd.sizeOf26 rfl (Nat.zero_add _).symm rfl rfl ?_
    refine sa Tryd.sizeOf26 rfl rfl rfl rfl rfl (.tail (.tail .head)) ?_
    refine nl ?_
    refine drW .head ?_
    refine frW (Row.whole (e := 26) (size := 5) (m := 6) (ds := [.int .i64 (IntKind.i32.wrap (T.at 0).n), .slice none 0 0, .bool false, .slice none 0 0, .slice none 0 0, .int .i64 (IntKind.i16.wrap (T.at 1).n), .slice none 0 0, .bool false, .slice none 0 0, .slice none 0 0, .int .i64 0, .slice none 0 0, .bool a2.isNone, .slice al2 ((lT (T.at 2)).map (fun y : Tr => (Tr.mk y.n [] false [] [] : Tr))).length cl2, .slice none 0 0, .int .i64 (T.at 3).n, .slice none 0 0, .bool false, .slice none 0 0, .slice none 0 0, .int .i64 (T.at 4).n, .slice none 0 0, .bool false, .slice none 0 0, .slice none 0 0, .int .i64 (IntKind.i32.wrap (T.at 5).n), .slice none 0 0, .bool false, .slice none 0 0, .slice none 0 0]) rfl (by unfold maxLen; omega)) .head (fun H9 hle9 hz9 => ?_)
    have hrb : H9.at b_2 0 [.int .i64 (IntKind.i32.wrap (T.at 0).n), .slice none 0 0, .bool false, .slice none 0 0, .slice none 0 0, .int .i64 (IntKind.i16.wrap (T.at 1).n), .slice none 0 0, .bool false, .slice none 0 0, .slice none 0 0, .int .i64 0, .slice none 0 0, .bool a2.isNone, .slice al2 ((lT (T.at 2)).map (fun y : Tr => (Tr.mk y.n [] false [] [] : Tr))).length cl2, .slice none 0 0, .int .i64 (T.at 3).n, .slice none 0 0, .bool false, .slice none 0 0, .slice none 0 0, .int .i64 (T.at 4).n, .slice none 0 0, .bool false, .slice none 0 0, .slice none 0 0, .int .i64 (IntKind.i32.wrap (T.at 5).n), .slice none 0 0, .bool false, .slice none 0 0, .slice none 0 0] := by
      rcases hz9 with ⟨h, _⟩ | ⟨g, h, h2⟩
      · cases h
      · cases h; exact h2
    rw [(h1).nul] at hrb
    have hrb2 : H9.at b_2 0 (([((TC.none : TC), (Tr.mk (IntKind.i32.wrap (T.at 0).n) [] false [] [] : Tr)), ((TC.none : TC), (Tr.mk (IntKind.i16.wrap (T.at 1).n) [] false [] [] : Tr)), ((⟨none, 0, al2, cl2, none, 0⟩ : TC), (Tr.mk 0 [] (T.at 2).nul ((lT (T.at 2)).map (fun y : Tr => (Tr.mk y.n [] false [] [] : Tr))) [] : Tr)), ((TC.none : TC), (Tr.mk (T.at 3).n [] false [] [] : Tr)), ((TC.none : TC), (Tr.mk (T.at 4).n [] false [] [] : Tr)), ((TC.none : TC), (Tr.mk (IntKind.i32.wrap (T.at 5).n) [] false [] [] : Tr))] : List EE).flatMap fun p => p.1.cells p.2) := by exact hrb
    have hl9 : TreesAt H9 (some ⟨b_2, 0, none⟩) 6 [(.mk (IntKind.i32.wrap (T.at 0).n) [] false [] []), (.mk (IntKind.i16.wrap (T.at 1).n) [] false [] []), (.mk 0 [] (T.at 2).nul ((lT (T.at 2)).map (fun y : Tr => (Tr.mk y.n [] false [] [] : Tr))) []), (.mk (T.at 3).n [] false [] []), (.mk (T.at 4).n [] false [] []), (.mk (IntKind.i32.wrap (T.at 5).n) [] false [] [])] := by
      refine TreesAt.row (es := [((TC.none : TC), (Tr.mk (IntKind.i32.wrap (T.at 0).n) [] false [] [] : Tr)), ((TC.none : TC), (Tr.mk (IntKind.i16.wrap (T.at 1).n) [] false [] [] : Tr)), ((⟨none, 0, al2, cl2, none, 0⟩ : TC), (Tr.mk 0 [] (T.at 2).nul ((lT (T.at 2)).map (fun y : Tr => (Tr.mk y.n [] false [] [] : Tr))) [] : Tr)), ((TC.none : TC), (Tr.mk (T.at 3).n [] false [] [] : Tr)), ((TC.none : TC), (Tr.mk (T.at 4).n [] false [] [] : Tr)), ((TC.none : TC), (Tr.mk (IntKind.i32.wrap (T.at 5).n) [] false [] [] : Tr))]) (.inr ⟨_, rfl, hrb2⟩) rfl (Nat.le_refl _) (Nat.le_of_ble_eq_true rfl) ?_
      intro p hp
      simp only [List.mem_cons, List.not_mem_nil, or_false] at hp
      rcases hp with rfl | rfl | rfl | rfl | rfl | rfl
      · exact (.of (.nil _) (.nil _) (.nil _))
      · exact (.of (.nil _) (.nil _) (.nil _))
      · exact (.of (.nil _) (ht2.mono (le_12.trans (hleU.trans hle9))) (.nil _))
      · exact (.of (.nil _) (.nil _) (.nil _))
      · exact (.of (.nil _) (.nil _) (.nil _))
      · exact (.of (.nil _) (.nil _) (.nil _))
    exact rC rfl Tryd.isAgg26 Tryd.sizeOf26 rfl .head rfl (le_5.trans (hll2.trans (le_12.trans (hleU.trans hle9)))) (fun _ _ h => h) ⟨rfl, ⟨none, 0, some ⟨b_2, 0, none⟩, 6, aU, cU⟩, rfl, .of (.nil _) hl9 (hU.mono hle9)⟩
def tl_ListOffsetsResponseTopic (T : Tr) : Tr := .mk 0 [] false [(.mk 0 (T.at 0).s false [] []), (.mk 0 [] (T.at 1).nul ((lT (T.at 1)).map tl_ListOffsetsResponseTopicPartition) [])] T.u
theorem te_ListOffsetsResponseTopic {H : Fz} {L : Own} {b o : Nat} {cs : List Value} {T : Tr} (hb : H.at b o cs) (hA : At_ListOffsetsResponseTopic H T cs) (hf : Fits T) :
    Fn Tryd.prog 149 [.pointer (some ⟨b, o, none⟩)] H L (fun v H' L' => L = L' ∧ ∃ c : TC, v = .agg (c.cells (tl_ListOffsetsResponseTopic T)).toArray ∧ TreeAt H' c (tl_ListOffsetsResponseTopic T)) := by
  obtain ⟨a1, c1, mt, rfl, h1, h2⟩ := hA
  refine Fn.mk Tryd.call149 Tryd.func149 rfl Tryd.ntmps149 rfl ?_
  refine sr ?_
  refine al Tryd.zeroValue26 rfl rfl (fun b_1 => ?_)
  refine nl ?_
  refine sr ?_
  refine mkC (m := 2) (zs := [.int .i64 0, .slice none 0 0, .bool false, .slice none 0 0, .slice none 0 0]) Tryd.underlying23 I26 rfl rfl rfl rfl rfl rfl (by decide) (by unfold maxLen; omega) rfl (fun b_2 => ?_)
  refine bd' S26 rfl rfl rfl ?_
  refine al Tryd.zeroValue26 rfl rfl (fun b_3 => ?_)
  refine sa Tryd.sizeOf26 rfl rfl rfl rfl rfl .head ?_
  refine nl ?_
  refine sq ?_
  refine rgD 9 (.keep (.keep (.keep .nil))) mixed ?_
  refine dT 0 rfl rfl rfl (by kernel_rfl) (fun _ _ _ h => h) (y_fa0 F26_3 rfl) (.keep (.keep (.keep .nil))) (Fz.le.refl _) ?_
  refine dT 1 rfl rfl rfl (by kernel_rfl) (fun _ _ _ h => h) (y_ld (Says.own .head) Tryd.isAgg23 rfl (Nat.zero_add _).symm rfl) (.keep (.keep (.keep .nil))) (Fz.le.refl _) ?_
  refine dT 2 rfl rfl rfl (by kernel_rfl) (fun _ _ _ h => h) (y_mv rfl) (.keep (.keep (.keep .nil))) (Fz.le.refl _) ?_
  refine dT 3 rfl rfl rfl (by kernel_rfl) (fun _ _ _ h => h) (y_nc rfl) (.keep (.keep (.keep .nil))) (Fz.le.refl _) ?_
  refine dT 4 rfl rfl rfl (by kernel_rfl) (fun _ _ _ h => h) (y_fa F153_0 rfl) (.keep (.keep (.keep .nil))) (Fz.le.refl _) ?_
  refine dT 5 rfl rfl rfl (by kernel_rfl) (fun _ _ _ h => h) (y_ld (j := 0) (Says.fz hb) Tryd.isAgg9 rfl (Nat.add_zero _).symm rfl) (.keep (.keep (.keep .nil))) (Fz.le.refl _) ?_
  refine dE 6 (by kernel_rfl) rfl ?_
  refine csb Tryd.underlying9 Tryd.underlying22 Tryd.underlying5 rfl (by have := (hf.at 0).s; unfold B47; omega) rfl (fun Hb13 b13 cp13 le_4 hb13 => ?_)
  refine dN (.keep (.keep (.keep .nil))) le_4 ?_
  refine dT 7 rfl rfl rfl (by kernel_rfl) (fun _ _ _ h => h) (y_bd S26 rfl rfl) (.keep (.keep (.keep .nil))) le_4 ?_
  refine dT 8 rfl rfl rfl (by kernel_rfl) (fun _ _ _ h => h) (y_ix2 (j := 0) Tryd.runUnderlying23 Tryd.sizeOf26 rfl rfl rfl rfl (by decide)) (.keep (.keep (.keep .nil))) le_4 ?_
  refine dE 9 (by kernel_rfl) rfl ?_
  refine sa Tryd.sizeOf26 rfl rfl rfl rfl rfl (.tail .head) ?_
  refine dNk (by kernel_rfl) ?_
  refine dD (by kernel_rfl) ?_
  refine Nt ?_
  refine sq ?_
  refine rgD 9 (.keep (.keep (.keep .nil))) mixed ?_
  refine dT 0 rfl rfl rfl (by kernel_rfl) (fun _ _ _ h => h) (y_fa0 F26_3 rfl) (.keep (.keep (.keep .nil))) (Fz.le.refl _) ?_
  refine dT 1 rfl rfl rfl (by kernel_rfl) (fun _ _ _ h => h) (y_ld (Says.own .head) Tryd.isAgg23 rfl (Nat.zero_add _).symm rfl) (.keep (.keep (.keep .nil))) (Fz.le.refl _) ?_
  refine dT 2 rfl rfl rfl (by kernel_rfl) (fun _ _ _ h => h) (y_mv rfl) (.keep (.keep (.keep .nil))) (Fz.le.refl _) ?_
  refine dT 3 rfl rfl rfl (by kernel_rfl) (fun _ _ _ h => h) (y_nc rfl) (.keep (.keep (.keep .nil))) (Fz.le.refl _) ?_
  refine dT 4 rfl rfl rfl (by kernel_rfl) (fun _ _ _ h => h) (y_fa F153_1 rfl) (.keep (.keep (.keep .nil))) (Fz.le.refl _) ?_
  refine dT 5 rfl rfl rfl (by kernel_rfl) (fun _ _ _ h => h) (y_ld (j := 1) (Says.fz (hb.mono le_4)) Tryd.isAgg151 rfl rfl rfl) (.keep (.keep (.keep .nil))) (Fz.le.refl _) ?_
  refine dT 6 rfl rfl rfl (by kernel_rfl) (fun _ _ _ h => h) (y_esn Tryd.underlying151 rfl) (.keep (.keep (.keep .nil))) (Fz.le.refl _) ?_
  refine dE 7 (by kernel_rfl) rfl ?_
  refine ixk (j := 1) Tryd.runUnderlying23 Tryd.sizeOf26 rfl rfl rfl rfl (by decide) rfl ?_
  refine dN (.keep (.keep (.keep .nil))) (Fz.le.refl _) ?_
  refine dT 8 rfl rfl rfl (by kernel_rfl) (fun _ _ _ h => h) (y_fa F26_2 rfl) (.keep (.keep (.keep .nil))) (Fz.le.refl _) ?_
  refine dE 9 (by kernel_rfl) rfl ?_
  refine st Tryd.sizeOf4 rfl rfl rfl rfl (.tail .head) ?_
  refine dNk (by kernel_rfl) ?_
  refine dD (by kernel_rfl) ?_
  refine Nt ?_
  refine sq ?_
  refine sr ?_
  refine mv rfl rfl ?_
  refine nc rfl rfl ?_
  refine fa F153_1 rfl rfl ?_
  refine ld (Says.fz (hb.mono le_4)) Tryd.isAgg151 rfl rfl rfl rfl ?_
  refine ls Tryd.runUnderlying151 rfl rfl ?_
  refine mv rfl rfl ?_
  refine nl ?_
  have hlm1 := (hf.at 1).lTl
  refine nulC2 ?_
  refine fr ((lT (T.at 1)).length) (fun k1 l' H' L' => ∃ (al1 : Option Addr), ∃ (ml1 : Nat), ∃ (cl1 : Nat), ∃ (es1 : List EE), ∃ (Nl1 : Chunk), [(0, .pointer (some ⟨b, o, none⟩)), (2, .pointer (some ⟨b_1, 0, none⟩)), (3, .pointer (some ⟨b_3, 0, none⟩)), (29, .int .i64 ((lT (T.at 1)).length : Int))] = l' ∧ Nl1 :: [(b_3, .cells [.int .i64 0, .slice none 0 0, .bool false, _, .slice none 0 0].toArray 26 (0, 0))] :: [(b_2, .cells [.int .i64 0, .slice (some ⟨b13, 0, none⟩) (T.at 0).s.length cp13, .bool false, .slice none 0 0, .slice none 0 0, .int .i64 0, .slice none 0 0, .bool a1.isNone, .slice al1 ml1 cl1, .slice none 0 0].toArray 26 (0, 0))] :: [(b_1, .cells [.int .i64 0, .slice none 0 0, .bool false, .slice none 0 0, .slice none 0 0].toArray 26 (0, 0))] :: L = L' ∧ Row 26 5 al1 ml1 cl1 (es1.flatMap f5) Nl1 ∧ ml1 = es1.length ∧ es1.map (·.2) = ((lT (T.at 1)).take k1).map tl_ListOffsetsResponseTopicPartition ∧ (∀ p : EE, p ∈ es1 → TreeAt H' p.1 p.2)) [(0, .pointer (some ⟨b, o, none⟩)), (2, .pointer (some ⟨b_1, 0, none⟩)), (3, .pointer (some ⟨b_3, 0, none⟩)), (29, .int .i64 ((lT (T.at 1)).length : Int))] (fun k1 l' H' L' h => ?_) (by omega) rfl (.cons rfl (.cons rfl (.cons rfl (.cons rfl (.nil _))))) ⟨none, 0, 0, [], [], rfl, rfl, (Row.nil _ _), rfl, (by simp), (fun p hp => by cases hp)⟩ rfl rfl rfl rfl rfl (fun k1 l' H' L' hk1 le_5 hI => ?_) (fun l' H' L' le_6 hI => ?_)
  · obtain ⟨al1, ml1, cl1, es1, Nl1, rfl, _⟩ := h; exact ⟨rfl, rfl, rfl, rfl⟩
  · skip
    obtain ⟨al1, ml1, cl1, es1, Nl1, rfl, rfl, pk10, pk11, pk12, pk13⟩ := hI
    refine sr ?_
    refine mv rfl rfl ?_
    refine asg rfl rfl ?_
    refine nl ?_
    refine sq ?_
    refine rgD 4 .nil mixed ?_
    refine dE 0 (by kernel_rfl) rfl ?_
    refine al Tryd.zeroValue4 rfl rfl (fun b_7 => ?_)
    refine dN .nil (Fz.le.refl _) ?_
    refine dE2 1 2 (by kernel_rfl) rfl rfl ?_ ?_
    · skip
      refine st Tryd.sizeOf4 rfl rfl rfl rfl .head ?_
      refine dN .nil (Fz.le.refl _) ?_
      refine dE 2 (by kernel_rfl) rfl ?_
      refine st Tryd.sizeOf4 rfl rfl rfl rfl .head ?_
      refine dN .nil (Fz.le.refl _) ?_
      refine dE 3 (by kernel_rfl) rfl ?_
      refine ld (Says.own .head) Tryd.isAgg4 rfl (Nat.zero_add _).symm rfl rfl ?_
      refine dN .nil (Fz.le.refl _) ?_
      refine dD (by kernel_rfl) ?_
      refine drN .head ?_
      refine Nt ?_
      refine cF rfl ?_
      refine rgD 18 (.skip (.keep (.keep (.keep .nil)))) mixed ?_
      refine dT 0 rfl rfl rfl (by kernel_rfl) (fun _ _ _ h => h) (y_fa0 F26_3 rfl) (.skip (.keep (.keep (.keep .nil)))) (Fz.le.refl _) ?_
      refine dT 1 rfl rfl rfl (by kernel_rfl) (fun _ _ _ h => h) (y_ld (Says.own .head) Tryd.isAgg23 rfl (Nat.zero_add _).symm rfl) (.skip (.keep (.keep (.keep .nil)))) (Fz.le.refl _) ?_
      refine dT 2 rfl rfl rfl (by kernel_rfl) (fun _ _ _ h => h) (y_fa0 F26_3 rfl) (.skip (.keep (.keep (.keep .nil)))) (Fz.le.refl _) ?_
      refine dT 3 rfl rfl rfl (by kernel_rfl) (fun _ _ _ h => h) (y_ld (Says.own .head) Tryd.isAgg23 rfl (Nat.zero_add _).symm rfl) (.skip (.keep (.keep (.keep .nil)))) (Fz.le.refl _) ?_
      refine dT 4 rfl rfl rfl (by kernel_rfl) (fun _ _ _ h => h) (y_ix2 (j := 1) Tryd.runUnderlying23 Tryd.sizeOf26 rfl rfl rfl rfl (by decide)) (.skip (.keep (.keep (.keep .nil)))) (Fz.le.refl _) ?_
      refine dT 5 rfl rfl rfl (by kernel_rfl) (fun _ _ _ h => h) (y_fa F26_3 rfl) (.skip (.keep (.keep (.keep .nil)))) (Fz.le.refl _) ?_
      refine dT 6 rfl rfl rfl (by kernel_rfl) (fun _ _ _ h => h) (y_ld (Says.own (.tail .head)) Tryd.isAgg23 rfl (Nat.zero_add _).symm rfl) (.skip (.keep (.keep (.keep .nil)))) (Fz.le.refl _) ?_
      refine dT 7 rfl rfl rfl (by kernel_rfl) (fun _ _ _ h => h) (y_mv rfl) (.skip (.keep (.keep (.keep .nil)))) (Fz.le.refl _) ?_
      refine dT 8 rfl rfl rfl (by kernel_rfl) (fun _ _ _ h => h) (y_nc rfl) (.skip (.keep (.keep (.keep .nil)))) (Fz.le.refl _) ?_
      refine dT 9 rfl rfl rfl (by kernel_rfl) (fun _ _ _ h => h) (y_fa F153_1 rfl) (.skip (.keep (.keep (.keep .nil)))) (Fz.le.refl _) ?_
      refine dT 10 rfl rfl rfl (by kernel_rfl) (fun _ _ _ h => h) (y_ld (j := 1) (Says.fz (hb.mono (le_4.trans le_5))) Tryd.isAgg151 rfl rfl rfl) (.skip (.keep (.keep (.keep .nil)))) (Fz.le.refl _) ?_
      refine dT 11 rfl rfl rfl (by kernel_rfl) (fun _ _ _ h => h) (y_mv rfl) (.skip (.keep (.keep (.keep .nil)))) (Fz.le.refl _) ?_
      obtain ⟨beq_8, oeq_8, haq_8, hlq_8⟩ := ((h1.mono At_ListOffsetsResponseTopicPartition.mono (le_4.trans le_5))).rows.at_ (ne_nil_of_lt hk1)
      obtain ⟨ceq_8, hAq_8, hbq_8⟩ := hlq_8 k1 hk1
      refine dT 12 rfl rfl rfl (by kernel_rfl) (fun _ _ _ h => h) (y_ixk (j := k1) Tryd.runUnderlying151 Tryd.sizeOf224 rfl haq_8 rfl rfl hk1) (.skip (.keep (.keep (.keep .nil)))) (Fz.le.refl _) ?_
      refine dE 13 (by kernel_rfl) rfl ?_
      refine cl rfl rfl rfl (te_ListOffsetsResponseTopicPartition hbq_8 (At_ListOffsetsResponseTopicPartition.mono _ _ _ _ (Fz.le.refl _) hAq_8) ((hf.at 1).lTel (List.getElem_mem hk1))) rfl (fun v_ H1 L1 le_9 hR_ => ?_)
      obtain ⟨rfl, ct66, rfl, hT66⟩ := hR_
      refine dN (.skip (.keep (.keep (.keep .nil)))) le_9 ?_
      refine dE 14 (by kernel_rfl) rfl ?_
      refine bs' L23 rfl rfl rfl rfl (fun b_10 => ?_)
      refine dN (.skip (.skip (.keep (.keep (.keep .nil))))) le_9 ?_
      refine dE 15 (by kernel_rfl) rfl ?_
      have hmk : ml1 = k1 := by have h1 := congrArg List.length pk12; rw [List.length_map, List.length_map, List.length_take] at h1; omega
      have hmb := (hf.at 1).lTl
      refine ap (k := 1) (news := f5 ((ct66, tl_ListOffsetsResponseTopicPartition (lT (T.at 1))[k1]) : EE)) Tryd.underlying23 I26 rfl rfl pk10 (fun _ => (.tail .head)) (src_says Tryd.underlying23 rfl (fun _ => Says.own .head) (f5_one _)) (by omega) (by unfold maxLen; omega) rfl (fun a68 c68 N68 r68 z68 => ?_)
      rw [flatMap_snoc'] at r68
      refine dN (.skip (.skip (.keep (.keep (.keep .nil))))) le_9 ?_
      refine dE 16 (by kernel_rfl) rfl ?_
      refine ixk (j := 1) Tryd.runUnderlying23 Tryd.sizeOf26 rfl rfl rfl rfl (by decide) rfl ?_
      refine dN (.skip (.skip (.keep (.keep (.keep .nil))))) le_9 ?_
      refine dT 17 rfl rfl rfl (by kernel_rfl) (fun _ _ _ h => h) (y_fa F26_3 rfl) (.skip (.skip (.keep (.keep (.keep .nil))))) le_9 ?_
      refine dE 18 (by kernel_rfl) rfl ?_
      refine st Tryd.sizeOf23 rfl rfl rfl rfl (.tail (.tail (.tail .head))) ?_
      refine dNk (by kernel_rfl) ?_
      refine dD (by kernel_rfl) ?_
      refine Nb ?_
      refine drN .head ?_
      refine fun a_ w_ hA hw => ⟨_, _, _, hA.sub ?_, (le_5.trans le_9), hw, _, rfl, a68, (ml1 + 1), c68, (es1 ++ [((ct66, tl_ListOffsetsResponseTopicPartition (lT (T.at 1))[k1]) : EE)]), N68, rfl, rfl, r68, (by simp; omega), (map_take_snoc (g := tl_ListOffsetsResponseTopicPartition) hk1 pk12), (fun p hp => (mem_snoc hp).elim (fun h => (pk13 p h).mono le_9) (fun h => h ▸ hT66))⟩
      exact (.cons rfl (.cons rfl (.cons rfl (.cons rfl (.cons rfl (.nil _))))))
    · skip
      refine st Tryd.sizeOf4 rfl rfl rfl rfl .head ?_
      refine dN .nil (Fz.le.refl _) ?_
      refine dE 1 (by kernel_rfl) rfl ?_
      refine st Tryd.sizeOf4 rfl rfl rfl rfl .head ?_
      refine dN .nil (Fz.le.refl _) ?_
      refine dE 3 (by kernel_rfl) rfl ?_
      refine ld (Says.own .head) Tryd.isAgg4 rfl (Nat.zero_add _).symm rfl rfl ?_
      refine dN .nil (Fz.le.refl _) ?_
      refine dD (by kernel_rfl) ?_
      refine drN .head ?_
      refine Nt ?_
      refine cT rfl ?_
      refine sq ?_
      refine rgD 17 (.skip (.keep (.keep (.keep .nil)))) mixed ?_
      refine dT 0 rfl rfl rfl (by kernel_rfl) (fun _ _ _ h => h) (y_fa0 F26_3 rfl) (.skip (.keep (.keep (.keep .nil)))) (Fz.le.refl _) ?_
      refine dT 1 rfl rfl rfl (by kernel_rfl) (fun _ _ _ h => h) (y_ld (Says.own .head) Tryd.isAgg23 rfl (Nat.zero_add _).symm rfl) (.skip (.keep (.keep (.keep .nil)))) (Fz.le.refl _) ?_
      refine dT 2 rfl rfl rfl (by kernel_rfl) (fun _ _ _ h => h) (y_ix2 (j := 1) Tryd.runUnderlying23 Tryd.sizeOf26 rfl rfl rfl rfl (by decide)) (.skip (.keep (.keep (.keep .nil)))) (Fz.le.refl _) ?_
      refine dT 3 rfl rfl rfl (by kernel_rfl) (fun _ _ _ h => h) (y_fa F26_3 rfl) (.skip (.keep (.keep (.keep .nil)))) (Fz.le.refl _) ?_
      refine dT 4 rfl rfl rfl (by kernel_rfl) (fun _ _ _ h => h) (y_ld (Says.own (.tail .head)) Tryd.isAgg23 rfl (Nat.zero_add _).symm rfl) (.skip (.keep (.keep (.keep .nil)))) (Fz.le.refl _) ?_
      refine dT 5 rfl rfl rfl (by kernel_rfl) (fun _ _ _ h => h) (y_mv rfl) (.skip (.keep (.keep (.keep .nil)))) (Fz.le.refl _) ?_
      refine dT 6 rfl rfl rfl (by kernel_rfl) (fun _ _ _ h => h) (y_nc rfl) (.skip (.keep (.keep (.keep .nil)))) (Fz.le.refl _) ?_
      refine dT 7 rfl rfl rfl (by kernel_rfl) (fun _ _ _ h => h) (y_fa F153_1 rfl) (.skip (.keep (.keep (.keep .nil)))) (Fz.le.refl _) ?_
      refine dT 8 rfl rfl rfl (by kernel_rfl) (fun _ _ _ h => h) (y_ld (j := 1) (Says.fz (hb.mono (le_4.trans le_5))) Tryd.isAgg151 rfl rfl rfl) (.skip (.keep (.keep (.keep .nil)))) (Fz.le.refl _) ?_
      refine dT 9 rfl rfl rfl (by kernel_rfl) (fun _ _ _ h => h) (y_mv rfl) (.skip (.keep (.keep (.keep .nil)))) (Fz.le.refl _) ?_
      obtain ⟨beq_11, oeq_11, haq_11, hlq_11⟩ := ((h1.mono At_ListOffsetsResponseTopicPartition.mono (le_4.trans le_5))).rows.at_ (ne_nil_of_lt hk1)
      obtain ⟨ceq_11, hAq_11, hbq_11⟩ := hlq_11 k1 hk1
      refine dT 10 rfl rfl rfl (by kernel_rfl) (fun _ _ _ h => h) (y_ixk (j := k1) Tryd.runUnderlying151 Tryd.sizeOf224 rfl haq_11 rfl rfl hk1) (.skip (.keep (.keep (.keep .nil)))) (Fz.le.refl _) ?_
      refine dT 12 rfl rfl rfl (by kernel_rfl) (fun _ _ _ h => h) (y_ls Tryd.runUnderlying23 rfl) (.skip (.keep (.keep (.keep .nil)))) (Fz.le.refl _) ?_
      refine dE2 11 13 (by kernel_rfl) rfl rfl ?_ ?_
      · skip
        refine cl rfl rfl rfl (te_ListOffsetsResponseTopicPartition hbq_11 (At_ListOffsetsResponseTopicPartition.mono _ _ _ _ (Fz.le.refl _) hAq_11) ((hf.at 1).lTel (List.getElem_mem hk1))) rfl (fun v_ H1 L1 le_12 hR_ => ?_)
        obtain ⟨rfl, ct46, rfl, hT46⟩ := hR_
        refine dN (.skip (.keep (.keep (.keep .nil)))) le_12 ?_
        refine dE 13 (by kernel_rfl) rfl ?_
        refine bs' L23 rfl rfl rfl rfl (fun b_13 => ?_)
        refine dN (.skip (.skip (.keep (.keep (.keep .nil))))) le_12 ?_
        refine dE 14 (by kernel_rfl) rfl ?_
        have hmk : ml1 = k1 := by have h1 := congrArg List.length pk12; rw [List.length_map, List.length_map, List.length_take] at h1; omega
        have hmb := (hf.at 1).lTl
        refine ap (k := 1) (news := f5 ((TC.none, Tr.none) : EE)) Tryd.underlying23 I26 rfl rfl pk10 (fun _ => (.tail .head)) (src_says Tryd.underlying23 rfl (fun _ => Says.own .head) (f5_one _)) (by omega) (by unfold maxLen; omega) rfl (fun a49 c49 N49 r49 z49 => ?_)
        refine dN (.skip (.skip (.keep (.keep (.keep .nil))))) le_12 ?_
        refine dE 15 (by kernel_rfl) rfl ?_
        refine ixk (j := 1) Tryd.runUnderlying23 Tryd.sizeOf26 rfl rfl rfl rfl (by decide) rfl ?_
        refine dN (.skip (.skip (.keep (.keep (.keep .nil))))) le_12 ?_
        refine dT 16 rfl rfl rfl (by kernel_rfl) (fun _ _ _ h => h) (y_fa F26_3 rfl) (.skip (.skip (.keep (.keep (.keep .nil))))) le_12 ?_
        refine dE 17 (by kernel_rfl) rfl ?_
        refine st Tryd.sizeOf23 rfl rfl rfl rfl (.tail (.tail (.tail .head))) ?_
        refine dNk (by kernel_rfl) ?_
        refine dD (by kernel_rfl) ?_
        refine Nt ?_
        refine rg ?_
        obtain ⟨gg49, hgg49⟩ := r49.addr (by omega)
        refine ixk (j := ml1) Tryd.runUnderlying23 Tryd.sizeOf26 rfl hgg49 rfl rfl (by omega) rfl ?_
        refine sR (ds := f5 ((ct46, tl_ListOffsetsResponseTopicPartition (lT (T.at 1))[k1]) : EE)) r49 hgg49 (fun _ => (.tail .head)) Tryd.sizeOf26 rfl rfl rfl rfl (by omega) (fun N49b r49b => ?_)
        rw [row_put (k := 5) (m := ml1) (A := es1.flatMap f5) (by rw [flatMap_len f5 5 f5_len, pk11]) rfl, flatMap_snoc'] at r49b
        refine nN ?_
        refine Nb ?_
        refine drN .head ?_
        refine fun a_ w_ hA hw => ⟨_, _, _, hA.sub ?_, (le_5.trans le_12), hw, _, rfl, a49, (ml1 + 1), c49, (es1 ++ [((ct46, tl_ListOffsetsResponseTopicPartition (lT (T.at 1))[k1]) : EE)]), N49b, rfl, rfl, r49b, (by simp; omega), (map_take_snoc (g := tl_ListOffsetsResponseTopicPartition) hk1 pk12), (fun p hp => (mem_snoc hp).elim (fun h => (pk13 p h).mono le_12) (fun h => h ▸ hT46))⟩
        exact (.cons rfl (.cons rfl (.cons rfl (.cons rfl (.cons rfl (.nil _))))))
      · skip
        refine bs' L23 rfl rfl rfl rfl (fun b_14 => ?_)
        refine dN (.skip (.skip (.keep (.keep (.keep .nil))))) (Fz.le.refl _) ?_
        refine dE 11 (by kernel_rfl) rfl ?_
        refine cl rfl rfl rfl (te_ListOffsetsResponseTopicPartition hbq_11 (At_ListOffsetsResponseTopicPartition.mono _ _ _ _ (Fz.le.refl _) hAq_11) ((hf.at 1).lTel (List.getElem_mem hk1))) rfl (fun v_ H1 L1 le_15 hR_ => ?_)
        obtain ⟨rfl, ct46, rfl, hT46⟩ := hR_
        refine dN (.skip (.skip (.keep (.keep (.keep .nil))))) le_15 ?_
        refine dE 14 (by kernel_rfl) rfl ?_
        have hmk : ml1 = k1 := by have h1 := congrArg List.length pk12; rw [List.length_map, List.length_map, List.length_take] at h1; omega
        have hmb := (hf.at 1).lTl
        refine ap (k := 1) (news := f5 ((TC.none, Tr.none) : EE)) Tryd.underlying23 I26 rfl rfl pk10 (fun _ => (.tail .head)) (src_says Tryd.underlying23 rfl (fun _ => Says.own .head) (f5_one _)) (by omega) (by unfold maxLen; omega) rfl (fun a49 c49 N49 r49 z49 => ?_)
        refine dN (.skip (.skip (.keep (.keep (.keep .nil))))) le_15 ?_
        refine dE 15 (by kernel_rfl) rfl ?_
        refine ixk (j := 1) Tryd.runUnderlying23 Tryd.sizeOf26 rfl rfl rfl rfl (by decide) rfl ?_
        refine dN (.skip (.skip (.keep (.keep (.keep .nil))))) le_15 ?_
        refine dT 16 rfl rfl rfl (by kernel_rfl) (fun _ _ _ h => h) (y_fa F26_3 rfl) (.skip (.skip (.keep (.keep (.keep .nil))))) le_15 ?_
        refine dE 17 (by kernel_rfl) rfl ?_
        refine st Tryd.sizeOf23 rfl rfl rfl rfl (.tail (.tail (.tail .head))) ?_
        refine dNk (by kernel_rfl) ?_
        refine dD (by kernel_rfl) ?_
        refine Nt ?_
        refine rg ?_
        obtain ⟨gg49, hgg49⟩ := r49.addr (by omega)
        refine ixk (j := ml1) Tryd.runUnderlying23 Tryd.sizeOf26 rfl hgg49 rfl rfl (by omega) rfl ?_
        refine sR (ds := f5 ((ct46, tl_ListOffsetsResponseTopicPartition (lT (T.at 1))[k1]) : EE)) r49 hgg49 (fun _ => (.tail .head)) Tryd.sizeOf26 rfl rfl rfl rfl (by omega) (fun N49b r49b => ?_)
        rw [row_put (k := 5) (m := ml1) (A := es1.flatMap f5) (by rw [flatMap_len f5 5 f5_len, pk11]) rfl, flatMap_snoc'] at r49b
        refine nN ?_
        refine Nb ?_
        refine drN .head ?_
        refine fun a_ w_ hA hw => ⟨_, _, _, hA.sub ?_, (le_5.trans le_15), hw, _, rfl, a49, (ml1 + 1), c49, (es1 ++ [((ct46, tl_ListOffsetsResponseTopicPartition (lT (T.at 1))[k1]) : EE)]), N49b, rfl, rfl, r49b, (by simp; omega), (map_take_snoc (g := tl_ListOffsetsResponseTopicPartition) hk1 pk12), (fun p hp => (mem_snoc hp).elim (fun h => (pk13 p h).mono le_15) (fun h => h ▸ hT46))⟩
        exact (.cons rfl (.cons rfl (.cons rfl (.cons rfl (.cons rfl (.nil _))))))
  · skip
    obtain ⟨al1, ml1, cl1, es1, Nl1, rfl, rfl, pk10, pk11, pk12, pk13⟩ := hI
    refine toWp ?_
    have hes1 : es1.map (·.2) = (lT (T.at 1)).map tl_ListOffsetsResponseTopicPartition := by rw [pk12, List.take_length]
    have hm1 : ml1 = ((lT (T.at 1)).map tl_ListOffsetsResponseTopicPartition).length := by rw [← hes1, List.length_map]; exact pk11
    refine frW pk10 .head (fun Hl1 hll1 hzl1 => ?_)
    have ht1 := TreesAt.row hzl1 pk11 pk10.le.1 (by have h1 := congrArg List.length hes1; rw [List.length_map, List.length_map] at h1; unfold B47; omega) (fun p hp => (pk13 p hp).mono hll1)
    rw [hes1] at ht1
    subst hm1
    refine sr ?_
    refine mv rfl rfl ?_
    refine nc rfl rfl ?_
    refine fa F153_2 rfl rfl ?_
    refine mkf rfl rfl ?_
    obtain ⟨kvs, hM, hlen, hel⟩ := (h2.mono (le_4.trans (le_6.trans hll1)))
    have hfu := hf.u
    refine cl rfl rfl rfl (t_each (j := 2) (I := fun i H1 Y => TgI 61 b_3 26 (.int .i64 0) (.slice none 0 0) (.bool false) (_) T.u i H1 Y) (hb.mono (le_4.trans (le_6.trans hll1))) rfl hM (by omega) (fun i H1 H2 Y hle h => h.mono hle) TgI.start (fun i k v H1 Y L1 hi hle hI => ?_)) rfl (fun v_ H1 L1 le_17 hR_ => ?_)
    · obtain ⟨s, h1, ⟨va, vc, rfl, hx⟩, h2, h3⟩ := hel i k v hi
      have hik := sortKv_lt hi
      exact TgI.step (fun {_ _ _ _ _ _ _ _ _ _ _ _ _ _ _ _} => tc_209) hf.v (by omega) h1 (hx.mono hle) h2 h3 hI
    rw [hlen] at hR_
    obtain ⟨_, rfl, aU, cU, NU, esU, rfl, hrU, heU, hgU⟩ := hR_
    refine splL ?_
    rw [List.take_length] at heU
    refine frL hrU (.tail .head) (fun HU hleU hzU => ?_)
    have hU := (TagsAt.told hzU hrU heU hfu (fun p hp => (hgU p hp).mono hleU)).1
    refine nl ?_
    refine sr ?_
    refine fa0 F26_4 rfl rfl ?_
    refine ld (Says.own .head) Tryd.isAgg24 rfl (Nat.zero_add _).symm rfl rfl ?_
    refine cl rfl rfl rfl (k_sorted hU (h2.mono (le_4.trans (le_6.trans (hll1.trans (le_17.trans hleU))))).rise) rfl (fun v_ H1 L1 hle_ hR_ => ?_)
    obtain ⟨rfl, rfl⟩ := hR_
    refine nl ?_
    refine sr ?_
    refine la (Says.own .head) Tryd.isAgg26 Tryd.sizeOf26 rfl (Nat.zero_add _).symm rfl rfl ?_
    refine sa Tryd.sizeOf26 rfl rfl rfl rfl rfl (.tail (.tail .head)) ?_
    refine nl ?_
    refine drW .head ?_
    refine frW (Row.whole (e := 26) (size := 5) (m := 2) (ds := [.int .i64 0, .slice (some ⟨b13, 0, none⟩) (T.at 0).s.length cp13, .bool false, .slice none 0 0, .slice none 0 0, .int .i64 0, .slice none 0 0, .bool a1.isNone, .slice al1 ((lT (T.at 1)).map tl_ListOffsetsResponseTopicPartition).length cl1, .slice none 0 0]) rfl (by unfold maxLen; omega)) .head (fun H9 hle9 hz9 => ?_)
    have hrb : H9.at b_2 0 [.int .i64 0, .slice (some ⟨b13, 0, none⟩) (T.at 0).s.length cp13, .bool false, .slice none 0 0, .slice none 0 0, .int .i64 0, .slice none 0 0, .bool a1.isNone, .slice al1 ((lT (T.at 1)).map tl_ListOffsetsResponseTopicPartition).length cl1, .slice none 0 0] := by
      rcases hz9 with ⟨h, _⟩ | ⟨g, h, h2⟩
      · cases h
      · cases h; exact h2
    rw [(h1).nul] at hrb
    have hrb2 : H9.at b_2 0 (([((⟨some ⟨b13, 0, none⟩, cp13, none, 0, none, 0⟩ : TC), (Tr.mk 0 (T.at 0).s false [] [] : Tr)), ((⟨none, 0, al1, cl1, none, 0⟩ : TC), (Tr.mk 0 [] (T.at 1).nul ((lT (T.at 1)).map tl_ListOffsetsResponseTopicPartition) [] : Tr))] : List EE).flatMap fun p => p.1.cells p.2) := by exact hrb
    have hl9 : TreesAt H9 (some ⟨b_2, 0, none⟩) 2 [(.mk 0 (T.at 0).s false [] []), (.mk 0 [] (T.at 1).nul ((lT (T.at 1)).map tl_ListOffsetsResponseTopicPartition) [])] := by
      refine TreesAt.row (es := [((⟨some ⟨b13, 0, none⟩, cp13, none, 0, none, 0⟩ : TC), (Tr.mk 0 (T.at 0).s false [] [] : Tr)), ((⟨none, 0, al1, cl1, none, 0⟩ : TC), (Tr.mk 0 [] (T.at 1).nul ((lT (T.at 1)).map tl_ListOffsetsResponseTopicPartition) [] : Tr))]) (.inr ⟨_, rfl, hrb2⟩) rfl (Nat.le_refl _) (Nat.le_of_ble_eq_true rfl) ?_
      intro p hp
      simp only [List.mem_cons, List.not_mem_nil, or_false] at hp
      rcases hp with rfl | rfl
      · exact (.of (hb13.mono (le_6.trans (hll1.trans (le_17.trans (hleU.trans hle9))))) (.nil _) (.nil _))
      · exact (.of (.nil _) (ht1.mono (le_17.trans (hleU.trans hle9))) (.nil _))
    exact rC rfl Tryd.isAgg26 Tryd.sizeOf26 rfl .head rfl (le_4.trans (le_6.trans (hll1.trans (le_17.trans (hleU.trans hle9))))) (fun _ _ h => h) ⟨rfl, ⟨none, 0, some ⟨b_2, 0, none⟩, 2, aU, cU⟩, rfl, .of (.nil _) hl9 (hU.mono hle9)⟩
def tl_ListOffsetsResponse (T : Tr) : Tr := .mk 0 [] false [(.mk (IntKind.i32.wrap (T.at 0).n) [] false [] []), (.mk 0 [] (T.at 1).nul ((lT (T.at 1)).map tl_ListOffsetsResponseTopic) [])] T.u
theorem te_ListOffsetsResponse {H : Fz} {L : Own} {b o : Nat} {cs : List Value} {T : Tr} {ver : Int} (hb : H.at b o cs) (hA : At_ListOffsetsResponse ver H T cs) (hf : Fits T) :
    Fn Tryd.prog 98 [.pointer (some ⟨b, o, none⟩)] H L (fun v H' L' => L = L' ∧ ∃ c : TC, v = .agg (c.cells (tl_ListOffsetsResponse T)).toArray ∧ TreeAt H' c (tl_ListOffsetsResponse T)) := by
  obtain ⟨a1, c1, mt, rfl, h1, h2⟩ := hA
  refine Fn.mk Tryd.call98 Tryd.func98 rfl Tryd.ntmps98 rfl ?_
  refine sr ?_
  refine al Tryd.zeroValue26 rfl rfl (fun b_1 => ?_)
  refine nl ?_
  refine sr ?_
  refine mkC (m := 2) (zs := [.int .i64 0, .slice none 0 0, .bool false, .slice none 0 0, .slice none 0 0]) Tryd.underlying23 I26 rfl rfl rfl rfl rfl rfl (by decide) (by unfold maxLen; omega) rfl (fun b_2 => ?_)
  refine bd' S26 rfl rfl rfl ?_
  refine al Tryd.zeroValue26 rfl rfl (fun b_3 => ?_)
  refine sa Tryd.sizeOf26 rfl rfl rfl rfl rfl .head ?_
  refine nl ?_
  refine sq ?_
  refine rgD 9 (.keep (.keep (.keep .nil))) mixed ?_
  refine dT 0 rfl rfl rfl (by kernel_rfl) (fun _ _ _ h => h) (y_fa0 F26_3 rfl) (.keep (.keep (.keep .nil))) (Fz.le.refl _) ?_
  refine dT 1 rfl rfl rfl (by kernel_rfl) (fun _ _ _ h => h) (y_ld (Says.own .head) Tryd.isAgg23 rfl (Nat.zero_add _).symm rfl) (.keep (.keep (.keep .nil))) (Fz.le.refl _) ?_
  refine dT 2 rfl rfl rfl (by kernel_rfl) (fun _ _ _ h => h) (y_mv rfl) (.keep (.keep (.keep .nil))) (Fz.le.refl _) ?_
  refine dT 3 rfl rfl rfl (by kernel_rfl) (fun _ _ _ h => h) (y_nc rfl) (.keep (.keep (.keep .nil))) (Fz.le.refl _) ?_
  refine dT 4 rfl rfl rfl (by kernel_rfl) (fun _ _ _ h => h) (y_fa F148_1 rfl) (.keep (.keep (.keep .nil))) (Fz.le.refl _) ?_
  refine dT 5 rfl rfl rfl (by kernel_rfl) (fun _ _ _ h => h) (y_ld (j := 1) (Says.fz hb) Tryd.isAgg21 rfl rfl rfl) (.keep (.keep (.keep .nil))) (Fz.le.refl _) ?_
  refine dT 6 rfl rfl rfl (by kernel_rfl) (fun _ _ _ h => h) (y_cv Tryd.runUnderlying21 Tryd.runUnderlying2 rfl (i32_64 _)) (.keep (.keep (.keep .nil))) (Fz.le.refl _) ?_
  refine dT 7 rfl rfl rfl (by kernel_rfl) (fun _ _ _ h => h) (y_bd S26 rfl rfl) (.keep (.keep (.keep .nil))) (Fz.le.refl _) ?_
  refine dT 8 rfl rfl rfl (by kernel_rfl) (fun _ _ _ h => h) (y_ix2 (j := 0) Tryd.runUnderlying23 Tryd.sizeOf26 rfl rfl rfl rfl (by decide)) (.keep (.keep (.keep .nil))) (Fz.le.refl _) ?_
  refine dE 9 (by kernel_rfl) rfl ?_
  refine sa Tryd.sizeOf26 rfl rfl rfl rfl rfl (.tail .head) ?_
  refine dNk (by kernel_rfl) ?_
  refine dD (by kernel_rfl) ?_
  refine Nt ?_
  refine sq ?_
  refine rgD 9 (.keep (.keep (.keep .nil))) mixed ?_
  refine dT 0 rfl rfl rfl (by kernel_rfl) (fun _ _ _ h => h) (y_fa0 F26_3 rfl) (.keep (.keep (.keep .nil))) (Fz.le.refl _) ?_
  refine dT 1 rfl rfl rfl (by kernel_rfl) (fun _ _ _ h => h) (y_ld (Says.own .head) Tryd.isAgg23 rfl (Nat.zero_add _).symm rfl) (.keep (.keep (.keep .nil))) (Fz.le.refl _) ?_
  refine dT 2 rfl rfl rfl (by kernel_rfl) (fun _ _ _ h => h) (y_mv rfl) (.keep (.keep (.keep .nil))) (Fz.le.refl _) ?_
  refine dT 3 rfl rfl rfl (by kernel_rfl) (fun _ _ _ h => h) (y_nc rfl) (.keep (.keep (.keep .nil))) (Fz.le.refl _) ?_
  refine dT 4 rfl rfl rfl (by kernel_rfl) (fun _ _ _ h => h) (y_fa F148_2 rfl) (.keep (.keep (.keep .nil))) (Fz.le.refl _) ?_
  refine dT 5 rfl rfl rfl (by kernel_rfl) (fun _ _ _ h => h) (y_ld (j := 2) (Says.fz hb) Tryd.isAgg146 rfl rfl rfl) (.keep (.keep (.keep .nil))) (Fz.le.refl _) ?_
  refine dT 6 rfl rfl rfl (by kernel_rfl) (fun _ _ _ h => h) (y_esn Tryd.underlying146 rfl) (.keep (.keep (.keep .nil))) (Fz.le.refl _) ?_
  refine dE 7 (by kernel_rfl) rfl ?_
  refine ixk (j := 1) Tryd.runUnderlying23 Tryd.sizeOf26 rfl rfl rfl rfl (by decide) rfl ?_
  refine dN (.keep (.keep (.keep .nil))) (Fz.le.refl _) ?_
  refine dT 8 rfl rfl rfl (by kernel_rfl) (fun _ _ _ h => h) (y_fa F26_2 rfl) (.keep (.keep (.keep .nil))) (Fz.le.refl _) ?_
  refine dE 9 (by kernel_rfl) rfl ?_
  refine st Tryd.sizeOf4 rfl rfl rfl rfl (.tail .head) ?_
  refine dNk (by kernel_rfl) ?_
  refine dD (by kernel_rfl) ?_
  refine Nt ?_
  refine sq ?_
  refine sr ?_
  refine mv rfl rfl ?_
  refine nc rfl rfl ?_
  refine fa F148_2 rfl rfl ?_
  refine ld (Says.fz hb) Tryd.isAgg146 rfl rfl rfl rfl ?_
  refine ls Tryd.runUnderlying146 rfl rfl ?_
  refine mv rfl rfl ?_
  refine nl ?_
  have hlm1 := (hf.at 1).lTl
  refine nulC2 ?_
  refine fr ((lT (T.at 1)).length) (fun k1 l' H' L' => ∃ (al1 : Option Addr), ∃ (ml1 : Nat), ∃ (cl1 : Nat), ∃ (es1 : List EE), ∃ (Nl1 : Chunk), [(0, .pointer (some ⟨b, o, none⟩)), (2, .pointer (some ⟨b_1, 0, none⟩)), (3, .pointer (some ⟨b_3, 0, none⟩)), (29, .int .i64 ((lT (T.at 1)).length : Int))] = l' ∧ Nl1 :: [(b_3, .cells [.int .i64 0, .slice none 0 0, .bool false, _, .slice none 0 0].toArray 26 (0, 0))] :: [(b_2, .cells [.int .i64 (IntKind.i32.wrap (T.at 0).n), .slice none 0 0, .bool false, .slice none 0 0, .slice none 0 0, .int .i64 0, .slice none 0 0, .bool a1.isNone, .slice al1 ml1 cl1, .slice none 0 0].toArray 26 (0, 0))] :: [(b_1, .cells [.int .i64 0, .slice none 0 0, .bool false, .slice none 0 0, .slice none 0 0].toArray 26 (0, 0))] :: L = L' ∧ Row 26 5 al1 ml1 cl1 (es1.flatMap f5) Nl1 ∧ ml1 = es1.length ∧ es1.map (·.2) = ((lT (T.at 1)).take k1).map tl_ListOffsetsResponseTopic ∧ (∀ p : EE, p ∈ es1 → TreeAt H' p.1 p.2)) [(0, .pointer (some ⟨b, o, none⟩)), (2, .pointer (some ⟨b_1, 0, none⟩)), (3, .pointer (some ⟨b_3, 0, none⟩)), (29, .int .i64 ((lT (T.at 1)).length : Int))] (fun k1 l' H' L' h => ?_) (by omega) rfl (.cons rfl (.cons rfl (.cons rfl (.cons rfl (.nil _))))) ⟨none, 0, 0, [], [], rfl, rfl, (Row.nil _ _), rfl, (by simp), (fun p hp => by cases hp)⟩ rfl rfl rfl rfl rfl (fun k1 l' H' L' hk1 le_4 hI => ?_) (fun l' H' L' le_5 hI => ?_)
  · obtain ⟨al1, ml1, cl1, es1, Nl1, rfl, _⟩ := h; exact ⟨rfl, rfl, rfl, rfl⟩
  · skip
    obtain ⟨al1, ml1, cl1, es1, Nl1, rfl, rfl, pk10, pk11, pk12, pk13⟩ := hI
    refine sr ?_
    refine mv rfl rfl ?_
    refine asg rfl rfl ?_
    refine nl ?_
    refine sq ?_
    refine rgD 4 .nil mixed ?_
    refine dE 0 (by kernel_rfl) rfl ?_
    refine al Tryd.zeroValue4 rfl rfl (fun b_6 => ?_)
    refine dN .nil (Fz.le.refl _) ?_
    refine dE2 1 2 (by kernel_rfl) rfl rfl ?_ ?_
    · skip
      refine st Tryd.sizeOf4 rfl rfl rfl rfl .head ?_
      refine dN .nil (Fz.le.refl _) ?_
      refine dE 2 (by kernel_rfl) rfl ?_
      refine st Tryd.sizeOf4 rfl rfl rfl rfl .head ?_
      refine dN .nil (Fz.le.refl _) ?_
      refine dE 3 (by kernel_rfl) rfl ?_
      refine ld (Says.own .head) Tryd.isAgg4 rfl (Nat.zero_add _).symm rfl rfl ?_
      refine dN .nil (Fz.le.refl _) ?_
      refine dD (by kernel_rfl) ?_
      refine drN .head ?_
      refine Nt ?_
      refine cF rfl ?_
      refine rgD 18 (.skip (.keep (.keep (.keep .nil)))) mixed ?_
      refine dT 0 rfl rfl rfl (by kernel_rfl) (fun _ _ _ h => h) (y_fa0 F26_3 rfl) (.skip (.keep (.keep (.keep .nil)))) (Fz.le.refl _) ?_
      refine dT 1 rfl rfl rfl (by kernel_rfl) (fun _ _ _ h => h) (y_ld (Says.own .head) Tryd.isAgg23 rfl (Nat.zero_add _).symm rfl) (.skip (.keep (.keep (.keep .nil)))) (Fz.le.refl _) ?_
      refine dT 2 rfl rfl rfl (by kernel_rfl) (fun _ _ _ h => h) (y_fa0 F26_3 rfl) (.skip (.keep (.keep (.keep .nil)))) (Fz.le.refl _) ?_
      refine dT 3 rfl rfl rfl (by kernel_rfl) (fun _ _ _ h => h) (y_ld (Says.own .head) Tryd.isAgg23 rfl (Nat.zero_add _).symm rfl) (.skip (.keep (.keep (.keep .nil)))) (Fz.le.refl _) ?_
      refine dT 4 rfl rfl rfl (by kernel_rfl) (fun _ _ _ h => h) (y_ix2 (j := 1) Tryd.runUnderlying23 Tryd.sizeOf26 rfl rfl rfl rfl (by decide)) (.skip (.keep (.keep (.keep .nil)))) (Fz.le.refl _) ?_
      refine dT 5 rfl rfl rfl (by kernel_rfl) (fun _ _ _ h => h) (y_fa F26_3 rfl) (.skip (.keep (.keep (.keep .nil)))) (Fz.le.refl _) ?_
      refine dT 6 rfl rfl rfl (by kernel_rfl) (fun _ _ _ h => h) (y_ld (Says.own (.tail .head)) Tryd.isAgg23 rfl (Nat.zero_add _).symm rfl) (.skip (.keep (.keep (.keep .nil)))) (Fz.le.refl _) ?_
      refine dT 7 rfl rfl rfl (by kernel_rfl) (fun _ _ _ h => h) (y_mv rfl) (.skip (.keep (.keep (.keep .nil)))) (Fz.le.refl _) ?_
      refine dT 8 rfl rfl rfl (by kernel_rfl) (fun _ _ _ h => h) (y_nc rfl) (.skip (.keep (.keep (.keep .nil)))) (Fz.le.refl _) ?_
      refine dT 9 rfl rfl rfl (by kernel_rfl) (fun _ _ _ h => h) (y_fa F148_2 rfl) (.skip (.keep (.keep (.keep .nil)))) (Fz.le.refl _) ?_
      refine dT 10 rfl rfl rfl (by kernel_rfl) (fun _ _ _ h => h) (y_ld (j := 2) (Says.fz (hb.mono le_4)) Tryd.isAgg146 rfl rfl rfl) (.skip (.keep (.keep (.keep .nil)))) (Fz.le.refl _) ?_
      refine dT 11 rfl rfl rfl (by kernel_rfl) (fun _ _ _ h => h) (y_mv rfl) (.skip (.keep (.keep (.keep .nil)))) (Fz.le.refl _) ?_
      obtain ⟨beq_7, oeq_7, haq_7, hlq_7⟩ := ((h1.mono At_ListOffsetsResponseTopic.mono le_4)).rows.at_ (ne_nil_of_lt hk1)
      obtain ⟨ceq_7, hAq_7, hbq_7⟩ := hlq_7 k1 hk1
      refine dT 12 rfl rfl rfl (by kernel_rfl) (fun _ _ _ h => h) (y_ixk (j := k1) Tryd.runUnderlying146 Tryd.sizeOf153 rfl haq_7 rfl rfl hk1) (.skip (.keep (.keep (.keep .nil)))) (Fz.le.refl _) ?_
      refine dE 13 (by kernel_rfl) rfl ?_
      refine cl rfl rfl rfl (te_ListOffsetsResponseTopic hbq_7 (At_ListOffsetsResponseTopic.mono _ _ _ _ (Fz.le.refl _) hAq_7) ((hf.at 1).lTel (List.getElem_mem hk1))) rfl (fun v_ H1 L1 le_8 hR_ => ?_)
      obtain ⟨rfl, ct66, rfl, hT66⟩ := hR_
      refine dN (.skip (.keep (.keep (.keep .nil)))) le_8 ?_
      refine dE 14 (by kernel_rfl) rfl ?_
      refine bs' L23 rfl rfl rfl rfl (fun b_9 => ?_)
      refine dN (.skip (.skip (.keep (.keep (.keep .nil))))) le_8 ?_
      refine dE 15 (by kernel_rfl) rfl ?_
      have hmk : ml1 = k1 := by have h1 := congrArg List.length pk12; rw [List.length_map, List.length_map, List.length_take] at h1; omega
      have hmb := (hf.at 1).lTl
      refine ap (k := 1) (news := f5 ((ct66, tl_ListOffsetsResponseTopic (lT (T.at 1))[k1]) : EE)) Tryd.underlying23 I26 rfl rfl pk10 (fun _ => (.tail .head)) (src_says Tryd.underlying23 rfl (fun _ => Says.own .head) (f5_one _)) (by omega) (by unfold maxLen; omega) rfl (fun a68 c68 N68 r68 z68 => ?_)
      rw [flatMap_snoc'] at r68
      refine dN (.skip (.skip (.keep (.keep (.keep .nil))))) le_8 ?_
      refine dE 16 (by kernel_rfl) rfl ?_
      refine ixk (j := 1) Tryd.runUnderlying23 Tryd.sizeOf26 rfl rfl rfl rfl (by decide) rfl ?_
      refine dN (.skip (.skip (.keep (.keep (.keep .nil))))) le_8 ?_
      refine dT 17 rfl rfl rfl (by kernel_rfl) (fun _ _ _ h => h) (y_fa F26_3 rfl) (.skip (.skip (.keep (.keep (.keep .nil))))) le_8 ?_
      refine dE 18 (by kernel_rfl) rfl ?_
      refine st Tryd.sizeOf23 rfl rfl rfl rfl (.tail (.tail (.tail .head))) ?_
      refine dNk (by kernel_rfl) ?_
      refine dD (by kernel_rfl) ?_
      refine Nb ?_
      refine drN .head ?_
      refine fun a_ w_ hA hw => ⟨_, _, _, hA.sub ?_, (le_4.trans le_8), hw, _, rfl, a68, (ml1 + 1), c68, (es1 ++ [((ct66, tl_ListOffsetsResponseTopic (lT (T.at 1))[k1]) : EE)]), N68, rfl, rfl, r68, (by simp; omega), (map_take_snoc (g := tl_ListOffsetsResponseTopic) hk1 pk12), (fun p hp => (mem_snoc hp).elim (fun h => (pk13 p h).mono le_8) (fun h => h ▸ hT66))⟩
      exact (.cons rfl (.cons rfl (.cons rfl (.cons rfl (.cons rfl (.nil _))))))
    · skip
      refine st Tryd.sizeOf4 rfl rfl rfl rfl .head ?_
      refine dN .nil (Fz.le.refl _) ?_
      refine dE 1 (by kernel_rfl) rfl ?_
      refine st Tryd.sizeOf4 rfl rfl rfl rfl .head ?_
      refine dN .nil (Fz.le.refl _) ?_
      refine dE 3 (by kernel_rfl) rfl ?_
      refine ld (Says.own .head) Tryd.isAgg4 rfl (Nat.zero_add _).symm rfl rfl ?_
      refine dN .nil (Fz.le.refl _) ?_
      refine dD (by kernel_rfl) ?_
      refine drN .head ?_
      refine Nt ?_
      refine cT rfl ?_
      refine sq ?_
      refine rgD 17 (.skip (.keep (.keep (.keep .nil)))) mixed ?_
      refine dT 0 rfl rfl rfl (by kernel_rfl) (fun _ _ _ h => h) (y_fa0 F26_3 rfl) (.skip (.keep (.keep (.keep .nil)))) (Fz.le.refl _) ?_
      refine dT 1 rfl rfl rfl (by kernel_rfl) (fun _ _ _ h => h) (y_ld (Says.own .head) Tryd.isAgg23 rfl (Nat.zero_add _).symm rfl) (.skip (.keep (.keep (.keep .nil)))) (Fz.le.refl _) ?_
      refine dT 2 rfl rfl rfl (by kernel_rfl) (fun _ _ _ h => h) (y_ix2 (j := 1) Tryd.runUnderlying23 Tryd.sizeOf26 rfl rfl rfl rfl (by decide)) (.skip (.keep (.keep (.keep .nil)))) (Fz.le.refl _) ?_
      refine dT 3 rfl rfl rfl (by kernel_rfl) (fun _ _ _ h => h) (y_fa F26_3 rfl) (.skip (.keep (.keep (.keep .nil)))) (Fz.le.refl _) ?_
      refine dT 4 rfl rfl rfl (by kernel_rfl) (fun _ _ _ h => h) (y_ld (Says.own (.tail .head)) Tryd.isAgg23 rfl (Nat.zero_add _).symm rfl) (.skip (.keep (.keep (.keep .nil)))) (Fz.le.refl _) ?_
      refine dT 5 rfl rfl rfl (by kernel_rfl) (fun _ _ _ h => h) (y_mv rfl) (.skip (.keep (.keep (.keep .nil)))) (Fz.le.refl _) ?_
      refine dT 6 rfl rfl rfl (by kernel_rfl) (fun _ _ _ h => h) (y_nc rfl) (.skip (.keep (.keep (.keep .nil)))) (Fz.le.refl _) ?_
      refine dT 7 rfl rfl rfl (by kernel_rfl) (fun _ _ _ h => h) (y_fa F148_2 rfl) (.skip (.keep (.keep (.keep .nil)))) (Fz.le.refl _) ?_
      refine dT 8 rfl rfl rfl (by kernel_rfl) (fun _ _ _ h => h) (y_ld (j := 2) (Says.fz (hb.mono le_4)) Tryd.isAgg146 rfl rfl rfl) (.skip (.keep (.keep (.keep .nil)))) (Fz.le.refl _) ?_
      refine dT 9 rfl rfl rfl (by kernel_rfl) (fun _ _ _ h => h) (y_mv rfl) (.skip (.keep (.keep (.keep .nil)))) (Fz.le.refl _) ?_
      obtain ⟨beq_10, oeq_10, haq_10, hlq_10⟩ := ((h1.mono At_ListOffsetsResponseTopic.mono le_4)).rows.at_ (ne_nil_of_lt hk1)
      obtain ⟨ceq_10, hAq_10, hbq_10⟩ := hlq_10 k1 hk1
      refine dT 10 rfl rfl rfl (by kernel_rfl) (fun _ _ _ h => h) (y_ixk (j := k1) Tryd.runUnderlying146 Tryd.sizeOf153 rfl haq_10 rfl rfl hk1) (.skip (.keep (.keep (.keep .nil)))) (Fz.le.refl _) ?_
      refine dT 12 rfl rfl rfl (by kernel_rfl) (fun _ _ _ h => h) (y_ls Tryd.runUnderlying23 rfl) (.skip (.keep (.keep (.keep .nil)))) (Fz.le.refl _) ?_
      refine dE2 11 13 (by kernel_rfl) rfl rfl ?_ ?_
      · skip
        refine cl rfl rfl rfl (te_ListOffsetsResponseTopic hbq_10 (At_ListOffsetsResponseTopic.mono _ _ _ _ (Fz.le.refl _) hAq_10) ((hf.at 1).lTel (List.getElem_mem hk1))) rfl (fun v_ H1 L1 le_11 hR_ => ?_)
        obtain ⟨rfl, ct46, rfl, hT46⟩ := hR_
        refine dN (.skip (.keep (.keep (.keep .nil)))) le_11 ?_
        refine dE 13 (by kernel_rfl) rfl ?_
        refine bs' L23 rfl rfl rfl rfl (fun b_12 => ?_)
        refine dN (.skip (.skip (.keep (.keep (.keep .nil))))) le_11 ?_
        refine dE 14 (by kernel_rfl) rfl ?_
        have hmk : ml1 = k1 := by have h1 := congrArg List.length pk12; rw [List.length_map, List.length_map, List.length_take] at h1; omega
        have hmb := (hf.at 1).lTl
        refine ap (k := 1) (news := f5 ((TC.none, Tr.none) : EE)) Tryd.underlying23 I26 rfl rfl pk10 (fun _ => (.tail .head)) (src_says Tryd.underlying23 rfl (fun _ => Says.own .head) (f5_one _)) (by omega) (by unfold maxLen; omega) rfl (fun a49 c49 N49 r49 z49 => ?_)
        refine dN (.skip (.skip (.keep (.keep (.keep .nil))))) le_11 ?_
        refine dE 15 (by kernel_rfl) rfl ?_
        refine ixk (j := 1) Tryd.runUnderlying23 Tryd.sizeOf26 rfl rfl rfl rfl (by decide) rfl ?_
        refine dN (.skip (.skip (.keep (.keep (.keep .nil))))) le_11 ?_
        refine dT 16 rfl rfl rfl (by kernel_rfl) (fun _ _ _ h => h) (y_fa F26_3 rfl) (.skip (.skip (.keep (.keep (.keep .nil))))) le_11 ?_
        refine dE 17 (by kernel_rfl) rfl ?_
        refine st Tryd.sizeOf23 rfl rfl rfl rfl (.tail (.tail (.tail .head))) ?_
        refine dNk (by kernel_rfl) ?_
        refine dD (by kernel_rfl) ?_
        refine Nt ?_
        refine rg ?_
        obtain ⟨gg49, hgg49⟩ := r49.addr (by omega)
        refine ixk (j := ml1) Tryd.runUnderlying23 Tryd.sizeOf26 rfl hgg49 rfl rfl (by omega) rfl ?_
        refine sR (ds := f5 ((ct46, tl_ListOffsetsResponseTopic (lT (T.at 1))[k1]) : EE)) r49 hgg49 (fun _ => (.tail .head)) Tryd.sizeOf26 rfl rfl rfl rfl (by omega) (fun N49b r49b => ?_)
        rw [row_put (k := 5) (m := ml1) (A := es1.flatMap f5) (by rw [flatMap_len f5 5 f5_len, pk11]) rfl, flatMap_snoc'] at r49b
        refine nN ?_
        refine Nb ?_
        refine drN .head ?_
        refine fun a_ w_ hA hw => ⟨_, _, _, hA.sub ?_, (le_4.trans le_11), hw, _, rfl, a49, (ml1 + 1), c49, (es1 ++ [((ct46, tl_ListOffsetsResponseTopic (lT (T.at 1))[k1]) : EE)]), N49b, rfl, rfl, r49b, (by simp; omega), (map_take_snoc (g := tl_ListOffsetsResponseTopic) hk1 pk12), (fun p hp => (mem_snoc hp).elim (fun h => (pk13 p h).mono le_11) (fun h => h ▸ hT46))⟩
        exact (.cons rfl (.cons rfl (.cons rfl (.cons rfl (.cons rfl (.nil _))))))
      · skip
        refine bs' L23 rfl rfl rfl rfl (fun b_13 => ?_)
        refine dN (.skip (.skip (.keep (.keep (.keep .nil))))) (Fz.le.refl _) ?_
        refine dE 11 (by kernel_rfl) rfl ?_
        refine cl rfl rfl rfl (te_ListOffsetsResponseTopic hbq_10 (At_ListOffsetsResponseTopic.mono _ _ _ _ (Fz.le.refl _) hAq_10) ((hf.at 1).lTel (List.getElem_mem hk1))) rfl (fun v_ H1 L1 le_14 hR_ => ?_)
        obtain ⟨rfl, ct46, rfl, hT46⟩ := hR_
        refine dN (.skip (.skip (.keep (.keep (.keep .nil))))) le_14 ?_
        refine dE 14 (by kernel_rfl) rfl ?_
        have hmk : ml1 = k1 := by have h1 := congrArg List.length pk12; rw [List.length_map, List.length_map, List.length_take] at h1; omega
        have hmb := (hf.at 1).lTl
        refine ap (k := 1) (news := f5 ((TC.none, Tr.none) : EE)) Tryd.underlying23 I26 rfl rfl pk10 (fun _ => (.tail .head)) (src_says Tryd.underlying23 rfl (fun _ => Says.own .head) (f5_one _)) (by omega) (by unfold maxLen; omega) rfl (fun a49 c49 N49 r49 z49 => ?_)
        refine dN (.skip (.skip (.keep (.keep (.keep .nil))))) le_14 ?_
        refine dE 15 (by kernel_rfl) rfl ?_
        refine ixk (j := 1) Tryd.runUnderlying23 Tryd.sizeOf26 rfl rfl rfl rfl (by decide) rfl ?_
        refine dN (.skip (.skip (.keep (.keep (.keep .nil))))) le_14 ?_
        refine dT 16 rfl rfl rfl (by kernel_rfl) (fun _ _ _ h => h) (y_fa F26_3 rfl) (.skip (.skip (.keep (.keep (.keep .nil))))) le_14 ?_
        refine dE 17 (by kernel_rfl) rfl ?_
        refine st Tryd.sizeOf23 rfl rfl rfl rfl (.tail (.tail (.tail .head))) ?_
        refine dNk (by kernel_rfl) ?_
        refine dD (by kernel_rfl) ?_
        refine Nt ?_
        refine rg ?_
        obtain ⟨gg49, hgg49⟩ := r49.addr (by omega)
        refine ixk (j := ml1) Tryd.runUnderlying23 Tryd.sizeOf26 rfl hgg49 rfl rfl (by omega) rfl ?_
        refine sR (ds := f5 ((ct46, tl_ListOffsetsResponseTopic (lT (T.at 1))[k1]) : EE)) r49 hgg49 (fun _ => (.tail .head)) Tryd.sizeOf26 rfl rfl rfl rfl (by omega) (fun N49b r49b => ?_)
        rw [row_put (k := 5) (m := ml1) (A := es1.flatMap f5) (by rw [flatMap_len f5 5 f5_len, pk11]) rfl, flatMap_snoc'] at r49b
        refine nN ?_
        refine Nb ?_
        refine drN .head ?_
        refine fun a_ w_ hA hw => ⟨_, _, _, hA.sub ?_, (le_4.trans le_14), hw, _, rfl, a49, (ml1 + 1), c49, (es1 ++ [((ct46, tl_ListOffsetsResponseTopic (lT (T.at 1))[k1]) : EE)]), N49b, rfl, rfl, r49b, (by simp; omega), (map_take_snoc (g := tl_ListOffsetsResponseTopic) hk1 pk12), (fun p hp => (mem_snoc hp).elim (fun h => (pk13 p h).mono le_14) (fun h => h ▸ hT46))⟩
        exact (.cons rfl (.cons rfl (.cons rfl (.cons rfl (.cons rfl (.nil _))))))
  · skip
    obtain ⟨al1, ml1, cl1, es1, Nl1, rfl, rfl, pk10, pk11, pk12, pk13⟩ := hI
    refine toWp ?_
    have hes1 : es1.map (·.2) = (lT (T.at 1)).map tl_ListOffsetsResponseTopic := by rw [pk12, List.take_length]
    have hm1 : ml1 = ((lT (T.at 1)).map tl_ListOffsetsResponseTopic).length := by rw [← hes1, List.length_map]; exact pk11
    refine frW pk10 .head (fun Hl1 hll1 hzl1 => ?_)
    have ht1 := TreesAt.row hzl1 pk11 pk10.le.1 (by have h1 := congrArg List.length hes1; rw [List.length_map, List.length_map] at h1; unfold B47; omega) (fun p hp => (pk13 p hp).mono hll1)
    rw [hes1] at ht1
    subst hm1
    refine sr ?_
    refine mv rfl rfl ?_
    refine nc rfl rfl ?_
    refine fa F148_3 rfl rfl ?_
    refine mkf rfl rfl ?_
    obtain ⟨kvs, hM, hlen, hel⟩ := (h2.mono (le_5.trans hll1))
    have hfu := hf.u
    refine cl rfl rfl rfl (t_each (j := 3) (I := fun i H1 Y => TgI 61 b_3 26 (.int .i64 0) (.slice none 0 0) (.bool false) (_) T.u i H1 Y) (hb.mono (le_5.trans hll1)) rfl hM (by omega) (fun i H1 H2 Y hle h => h.mono hle) TgI.start (fun i k v H1 Y L1 hi hle hI => ?_)) rfl (fun v_ H1 L1 le_16 hR_ => ?_)
    · obtain ⟨s, h1, ⟨va, vc, rfl, hx⟩, h2, h3⟩ := hel i k v hi
      have hik := sortKv_lt hi
      exact TgI.step (fun {_ _ _ _ _ _ _ _ _ _ _ _ _ _ _ _} => tc_150) hf.v (by omega) h1 (hx.mono hle) h2 h3 hI
    rw [hlen] at hR_
    obtain ⟨_, rfl, aU, cU, NU, esU, rfl, hrU, heU, hgU⟩ := hR_
    refine splL ?_
    rw [List.take_length] at heU
    refine frL hrU (.tail .head) (fun HU hleU hzU => ?_)
    have hU := (TagsAt.told hzU hrU heU hfu (fun p hp => (hgU p hp).mono hleU)).1
    refine nl ?_
    refine sr ?_
    refine fa0 F26_4 rfl rfl ?_
    refine ld (Says.own .head) Tryd.isAgg24 rfl (Nat.zero_add _).symm rfl rfl ?_
    refine cl rfl rfl rfl (k_sorted hU (h2.mono (le_5.trans (hll1.trans (le_16.trans hleU)))).rise) rfl (fun v_ H1 L1 hle_ hR_ => ?_)
    obtain ⟨rfl, rfl⟩ := hR_
    refine nl ?_
    refine sr ?_
    refine la (Says.own .head) Tryd.isAgg26 Tryd.sizeOf26 rfl (Nat.zero_add _).symm rfl rfl ?_
    refine sa Tryd.sizeOf26 rfl rfl rfl rfl rfl (.tail (.tail .head)) ?_
    refine nl ?_
    refine drW .head ?_
    refine frW (Row.whole (e := 26) (size := 5) (m := 2) (ds := [.int .i64 (IntKind.i32.wrap (T.at 0).n), .slice none 0 0, .bool false, .slice none 0 0, .slice none 0 0, .int .i64 0, .slice none 0 0, .bool a1.isNone, .slice al1 ((lT (T.at 1)).map tl_ListOffsetsResponseTopic).length cl1, .slice none 0 0]) rfl (by unfold maxLen; omega)) .head (fun H9 hle9 hz9 => ?_)
    have hrb : H9.at b_2 0 [.int .i64 (IntKind.i32.wrap (T.at 0).n), .slice none 0 0, .bool false, .slice none 0 0, .slice none 0 0, .int .i64 0, .slice none 0 0, .bool a1.isNone, .slice al1 ((lT (T.at 1)).map tl_ListOffsetsResponseTopic).length cl1, .slice none 0 0] := by
      rcases hz9 with ⟨h, _⟩ | ⟨g, h, h2⟩
      · cases h
      · cases h; exact h2
    rw [(h1).nul] at hrb
    have hrb2 : H9.at b_2 0 (([((TC.none : TC), (Tr.mk (IntKind.i32.wrap (T.at 0).n) [] false [] [] : Tr)), ((⟨none, 0, al1, cl1, none, 0⟩ : TC), (Tr.mk 0 [] (T.at 1).nul ((lT (T.at 1)).map tl_ListOffsetsResponseTopic) [] : Tr))] : List EE).flatMap fun p => p.1.cells p.2) := by exact hrb
    have hl9 : TreesAt H9 (some ⟨b_2, 0, none⟩) 2 [(.mk (IntKind.i32.wrap (T.at 0).n) [] false [] []), (.mk 0 [] (T.at 1).nul ((lT (T.at 1)).map tl_ListOffsetsResponseTopic) [])] := by
      refine TreesAt.row (es := [((TC.none : TC), (Tr.mk (IntKind.i32.wrap (T.at 0).n) [] false [] [] : Tr)), ((⟨none, 0, al1, cl1, none, 0⟩ : TC), (Tr.mk 0 [] (T.at 1).nul ((lT (T.at 1)).map tl_ListOffsetsResponseTopic) [] : Tr))]) (.inr ⟨_, rfl, hrb2⟩) rfl (Nat.le_refl _) (Nat.le_of_ble_eq_true rfl) ?_
      intro p hp
      simp only [List.mem_cons, List.not_mem_nil, or_false] at hp
      rcases hp with rfl | rfl
      · exact (.of (.nil _) (.nil _) (.nil _))
      · exact (.of (.nil _) (ht1.mono (le_16.trans (hleU.trans hle9))) (.nil _))
    exact rC rfl Tryd.isAgg26 Tryd.sizeOf26 rfl .head rfl (le_5.trans (hll1.trans (le_16.trans (hleU.trans hle9)))) (fun _ _ h => h) ⟨rfl, ⟨none, 0, some ⟨b_2, 0, none⟩, 2, aU, cU⟩, rfl, .of (.nil _) hl9 (hU.mono hle9)⟩
end Go.Sx
